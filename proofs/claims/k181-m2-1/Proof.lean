import JvmDerived
import JvmDerived.Pilot.@@N@@Statement
import JvmDerived.Pilot.@@N@@Code
set_option linter.unusedVariables false
set_option linter.unusedSimpArgs false
@@BLOCK:NumsL.lean.txt@@
/- laws to paste: Road.backV (cut by pick.py; bodies as the Statement names them) -/
namespace Jvm.Pilot.@@N@@
namespace StrChars
open Jvm Sem ClassFile Op Lib Jvm.Stand Jvm.Free.XT Jvm.Free.ALB Jvm.Free.JM Jvm.Free
open Jvm.Lib.Cold (StaticIs)
/-- a char array whose places are chars -/
def Ch (a : Addr) (A : Cell) (U : State) : Prop := Arr .char a A U ∧ Typed .char A
theorem Ch.mv {a : Addr} {A : Cell} {U U' : State} (h : Ch a A U) (hal : U.vm.Alike U'.vm) (hh : U'.heap = U.heap) : Ch a A U' := ⟨h.1.mv hal hh, h.2⟩
theorem Ch.keep {a : Addr} {A : Cell} {U U' : State} (h : Ch a A U) (hal : U.vm.Alike U'.vm) (hk : U'.heap[a]? = some A) : Ch a A U' := ⟨h.1.keep hal hk, h.2⟩
/-- what place i of a char[]'s cell holds -/
def cv (A : Cell) (i : Nat) : Int32 := match A.slots[i]? with | some (.int x) => x | _ => 0
theorem Ch.get {a : Addr} {A : Cell} {U : State} (h : Ch a A U) {i : Nat} (hi : i < A.slots.size) : A.slots[i]? = some (.int (cv A i)) := by
  have e := Array.getElem?_eq_getElem hi
  have f := h.2 i _ e
  unfold cv; rw [e]
  generalize A.slots[i] = v at f
  cases v <;> simp [fits] at f ⊢
/-- the byte that i2b leaves of a char -/
def lo8 (x : Int32) : Int32 := x.toInt8.toInt32
theorem fits_lo8 (y : Int32) : fits .byte (.int (lo8 y)) = true := by
  have h1 := y.toInt8.le_toInt
  have h2 := y.toInt8.toInt_lt
  simp only [lo8, fits, Bool.and_eq_true, decide_eq_true_eq, Int32.le_iff_toInt_le, Int8.toInt_toInt32, show (-128 : Int32).toInt = -128 from by decide, show (127 : Int32).toInt = 127 from by decide]
  omega
/-- A' is A but that each place j of lo .. hi - 1 holds f j -/
def Laid (A A' : Cell) (lo hi : Nat) (f : Nat → Value) : Prop := A'.cls = A.cls ∧ A'.vm = A.vm ∧ A'.slots.size = A.slots.size ∧ ∀ i, A'.slots[i]? = if lo ≤ i ∧ i < hi then some (f i) else A.slots[i]?
theorem Laid.zero (A : Cell) (lo : Nat) (f : Nat → Value) : Laid A A lo (lo + 0) f := ⟨rfl, rfl, rfl, fun i => by rw [if_neg (by omega)]⟩
theorem Laid.step {A Ak : Cell} {lo k : Nat} {f : Nat → Value} {v : Value} (h : Laid A Ak lo k f) (hlo : lo ≤ k) (hk : k < Ak.slots.size) (hv : v = f k) : Laid A (Ak.setSlot k v) lo (k + 1) f := by
  refine ⟨h.1, h.2.1, by simpa [Cell.setSlot] using h.2.2.1, fun i => ?_⟩
  by_cases e : k = i
  · subst e; rw [Cell.slots_setSlot_self v hk, if_pos (by omega), hv]
  · rw [Cell.slots_setSlot_ne v e, h.2.2.2 i]
    by_cases q : lo ≤ i ∧ i < k
    · rw [if_pos q, if_pos (by omega)]
    · rw [if_neg q, if_neg (by omega)]
def U16 : String := "java/lang/StringUTF16"
namespace Cmp5
def yN : MethodName := ⟨"java/lang/StringUTF16", "compress", "([CI[BII)I"⟩
abbrev yB : ByteArray := jdk_52_method_21_code
theorem d0 : decode yB 0 = .ok (.iconst 0, 1) := by decide +kernel
theorem d1 : decode yB 1 = .ok (.istore 5, 2) := by decide +kernel
theorem d3 : decode yB 3 = .ok (.iload 5, 2) := by decide +kernel
theorem d5 : decode yB 5 = .ok (.iload 4, 2) := by decide +kernel
theorem d7 : decode yB 7 = .ok (.if_icmp (.ge) 37, 3) := by decide +kernel
theorem d10 : decode yB 10 = .ok (.aload_n 0, 1) := by decide +kernel
theorem d11 : decode yB 11 = .ok (.iload_n 1, 1) := by decide +kernel
theorem d12 : decode yB 12 = .ok (.caload, 1) := by decide +kernel
theorem d13 : decode yB 13 = .ok (.istore 6, 2) := by decide +kernel
theorem d15 : decode yB 15 = .ok (.iload 6, 2) := by decide +kernel
theorem d17 : decode yB 17 = .ok (.sipush 255, 3) := by decide +kernel
theorem d20 : decode yB 20 = .ok (.if_icmp (.le) 6, 3) := by decide +kernel
theorem d26 : decode yB 26 = .ok (.aload_n 2, 1) := by decide +kernel
theorem d27 : decode yB 27 = .ok (.iload_n 3, 1) := by decide +kernel
theorem d28 : decode yB 28 = .ok (.iload 6, 2) := by decide +kernel
theorem d30 : decode yB 30 = .ok (.i2b, 1) := by decide +kernel
theorem d31 : decode yB 31 = .ok (.bastore, 1) := by decide +kernel
theorem d32 : decode yB 32 = .ok (.iinc 1 1, 3) := by decide +kernel
theorem d35 : decode yB 35 = .ok (.iinc 3 1, 3) := by decide +kernel
theorem d38 : decode yB 38 = .ok (.iinc 5 1, 3) := by decide +kernel
theorem d41 : decode yB 41 = .ok (.goto (-38), 3) := by decide +kernel
theorem d44 : decode yB 44 = .ok (.iload 4, 2) := by decide +kernel
theorem d46 : decode yB 46 = .ok (.ireturn, 1) := by decide +kernel
def site : List Cond := []
def tab : Cond := tabOf yN yB 7 (some .int) site
def P (b : Addr) (A : Cell) (d : Addr) (B : Cell) (o q len : Nat) (args : Array Value) (s : State) : Prop := args = #[.ref b, .int (Int32.ofNat o), .ref d, .int (Int32.ofNat q), .int (Int32.ofNat len)] ∧ Ch b A s ∧ Arr .byte d B s ∧ b ≠ d ∧ o + len ≤ A.slots.size ∧ q + len ≤ B.slots.size ∧ ∀ i, i < len → ¬ 255 < cv A (o + i)
def E (b : Addr) (A : Cell) (d : Addr) (B : Cell) (o q len : Nat) (r : Option Value) (s u : State) : Prop := r = some (.int (Int32.ofNat len)) ∧ ∃ B', Put d B' s u ∧ Laid B B' q (q + len) (fun j => Value.int (lo8 (cv A (o + (j - q)))))
/-- no char of the range above 255: len; the places written hold each char's low byte -/
theorem law (l : Launch) (b : Addr) (A : Cell) (d : Addr) (B : Cell) (o q len : Nat) : Law l yN 5 5 0 0 yB 7 (some .int) site (P b A d B o q len) (E b A d B o q len) (copyLocs d q len) 0 0 := by
  refine Law.of_walk (plainFor_of_name (by decide +kernel)) (by decide +kernel) (by decide +kernel) (by decide) (fun _ _ h => by rw [h.1]; rfl) (fun _ U U' hal hh h => ⟨h.1, h.2.1.mv hal hh, h.2.2.1.mv hal hh, h.2.2.2⟩) (fun r U U' V V' h1 hal h2 h => ⟨h.1, h.2.elim fun B' q => ⟨B', q.1.mv h1 h2, q.2⟩⟩) ?_
  intro p e s m args below meth c s₁ X0 hexec hbytes hml hret hlk hnm hown hh0 W hP
  obtain ⟨rfl, hA, hB, hne, l1, l2, hp⟩ := hP
  have c1 : Steps p.tables e below (s₁.setTop (entryFrame m #[.ref b, .int (Int32.ofNat o), .ref d, .int (Int32.ofNat q), .int (Int32.ofNat len)] 7)) (s₁.setTop (mkF m 0 #[.val (.ref b), .val (.int (Int32.ofNat o)), .val (.ref d), .val (.int (Int32.ofNat q)), .val (.int (Int32.ofNat len)), .unset, .unset] [])) := entry rfl
  have hA0 := hA.1.mv X0.warmed.alike hh0
  have hB0 := hB.mv X0.warmed.alike hh0
  have a31 := hA.1.2.2.2
  have c2 : Steps p.tables e below (s₁.setTop (entryFrame m #[.ref b, .int (Int32.ofNat o), .ref d, .int (Int32.ofNat q), .int (Int32.ofNat len)] 7)) (s₁.setTop (mkF m 3 #[.val (.ref b), .val (.int (Int32.ofNat o)), .val (.ref d), .val (.int (Int32.ofNat q)), .val (.int (Int32.ofNat len)), .val (.int 0), .unset] [])) := c1.trans (by
    refine iconstV X0.here hexec rfl 0 (hb hbytes d0) (by decide) ?_
    refine XS.istore X0.here hexec rfl (hb hbytes d1) rfl rfl ?_
    exact Steps.refl _)
  have loop : ∀ (r i : Nat), i + r = len → ∀ (z : Slot), (z = .unset ∨ ∃ w, z = .val w ∧ w.category = 1) → ∀ (Tl : State) (Bk : Cell), Stand p l e { frames := 0, locals := 0, cells := 0, slots := 0 } s m #[.ref b, .int (Int32.ofNat o), .ref d, .int (Int32.ofNat q), .int (Int32.ofNat len)] below meth c Tl ([] ++ copyLocs d q i) 0 0 → Put d Bk s₁ Tl → Laid B Bk q (q + i) (fun j => Value.int (lo8 (cv A (o + (j - q))))) →
      Steps p.tables e below (s₁.setTop (entryFrame m #[.ref b, .int (Int32.ofNat o), .ref d, .int (Int32.ofNat q), .int (Int32.ofNat len)] 7)) (Tl.setTop (mkF m 3 #[.val (.ref b), .val (.int (Int32.ofNat (o + i))), .val (.ref d), .val (.int (Int32.ofNat (q + i))), .val (.int (Int32.ofNat len)), .val (.int (Int32.ofNat i)), z] [])) → ∃ (T' : State) (B' : Cell) (z' : Slot), Stand p l e { frames := 0, locals := 0, cells := 0, slots := 0 } s m #[.ref b, .int (Int32.ofNat o), .ref d, .int (Int32.ofNat q), .int (Int32.ofNat len)] below meth c T' ([] ++ copyLocs d q len) 0 0 ∧ Put d B' s₁ T' ∧ Laid B B' q (q + len) (fun j => Value.int (lo8 (cv A (o + (j - q))))) ∧
      Steps p.tables e below (s₁.setTop (entryFrame m #[.ref b, .int (Int32.ofNat o), .ref d, .int (Int32.ofNat q), .int (Int32.ofNat len)] 7)) (T'.setTop (mkF m 3 #[.val (.ref b), .val (.int (Int32.ofNat (o + len))), .val (.ref d), .val (.int (Int32.ofNat (q + len))), .val (.int (Int32.ofNat len)), .val (.int (Int32.ofNat len)), z'] [])) := by
    intro r
    induction r with
    | zero =>
      intro i hi z hz Tl Bk Xl pl fl cl
      have hil : i = len := by omega
      rw [hil] at Xl fl cl
      exact ⟨Tl, Bk, z, Xl, pl, fl, cl⟩
    | succ r ih =>
      intro i hi z hz Tl Bk Xl pl fl cl
      have all := X0.warmed.alike.symm.trans Xl.warmed.alike
      have hAl := hA0.keep all (pl.other hne hA0.1)
      have hBk := hB0.like all pl.1 fl.1 fl.2.1 fl.2.2.1
      have hlt : q + i < Bk.slots.size := by rw [fl.2.2.1]; omega
      have c3 : Steps p.tables e below (s₁.setTop (entryFrame m #[.ref b, .int (Int32.ofNat o), .ref d, .int (Int32.ofNat q), .int (Int32.ofNat len)] 7)) (Tl.setTop (mkF m 12 #[.val (.ref b), .val (.int (Int32.ofNat (o + i))), .val (.ref d), .val (.int (Int32.ofNat (q + i))), .val (.int (Int32.ofNat len)), .val (.int (Int32.ofNat i)), z] [.int (Int32.ofNat (o + i)), .ref b])) := cl.trans (by
        refine XS.iload Xl.here hexec rfl (hb hbytes d3) rfl ?_
        refine XS.iload Xl.here hexec rfl (hb hbytes d5) rfl ?_
        refine XS.icmpNo Xl.here hexec rfl (hb hbytes d7) rfl (ii_ge_f (lt32 (by omega) (by omega))) ?_
        refine XS.aloadN Xl.here hexec rfl (hb hbytes d10) rfl rfl ?_
        refine XS.iloadN Xl.here hexec rfl (hb hbytes d11) rfl ?_
        exact Steps.refl _)
      have c4 : Steps p.tables e below (s₁.setTop (entryFrame m #[.ref b, .int (Int32.ofNat o), .ref d, .int (Int32.ofNat q), .int (Int32.ofNat len)] 7)) (Tl.setTop (mkF m 13 #[.val (.ref b), .val (.int (Int32.ofNat (o + i))), .val (.ref d), .val (.int (Int32.ofNat (q + i))), .val (.int (Int32.ofNat len)), .val (.int (Int32.ofNat i)), z] [.int (cv A (o + i))])) := c3.trans (by
        refine Xl.aget hexec hAl rfl (hA.get (i := o + i) (by omega)) rfl rfl (hb hbytes d12) ?_
        exact Steps.refl _)
      have c5 : Steps p.tables e below (s₁.setTop (entryFrame m #[.ref b, .int (Int32.ofNat o), .ref d, .int (Int32.ofNat q), .int (Int32.ofNat len)] 7)) (Tl.setTop (mkF m 15 #[.val (.ref b), .val (.int (Int32.ofNat (o + i))), .val (.ref d), .val (.int (Int32.ofNat (q + i))), .val (.int (Int32.ofNat len)), .val (.int (Int32.ofNat i)), .val (.int (cv A (o + i)))] [])) := c4.trans (by
        refine XS.istoreS Xl.here hexec rfl (hb hbytes d13) rfl rfl hz ?_
        exact Steps.refl _)
      have c6 : Steps p.tables e below (s₁.setTop (entryFrame m #[.ref b, .int (Int32.ofNat o), .ref d, .int (Int32.ofNat q), .int (Int32.ofNat len)] 7)) (Tl.setTop (mkF m 31 #[.val (.ref b), .val (.int (Int32.ofNat (o + i))), .val (.ref d), .val (.int (Int32.ofNat (q + i))), .val (.int (Int32.ofNat len)), .val (.int (Int32.ofNat i)), .val (.int (cv A (o + i)))] [.int (lo8 (cv A (o + i))), .int (Int32.ofNat (q + i)), .ref d])) := c5.trans (by
        refine XS.iload Xl.here hexec rfl (hb hbytes d15) rfl ?_
        refine sipushV Xl.here hexec rfl 255 (hb hbytes d17) (by decide) ?_
        refine XS.icmpYes Xl.here hexec rfl (pc0 := 20) rfl (hb hbytes d20) rfl (ii_le_t (hp i (by omega))) (by decide) rfl ?_
        refine XS.aloadN Xl.here hexec rfl (hb hbytes d26) rfl rfl ?_
        refine XS.iloadN Xl.here hexec rfl (hb hbytes d27) rfl ?_
        refine XS.iload Xl.here hexec rfl (hb hbytes d28) rfl ?_
        refine i2b Xl.here hexec rfl (hb hbytes d30) rfl ?_
        exact Steps.refl _)
      obtain ⟨T7, X7, p7, st7⟩ := Xl.aput hexec hBk rfl hlt rfl (fits_lo8 (cv A (o + i))) (g := (mkF m 31 #[.val (.ref b), .val (.int (Int32.ofNat (o + i))), .val (.ref d), .val (.int (Int32.ofNat (q + i))), .val (.int (Int32.ofNat len)), .val (.int (Int32.ofNat i)), .val (.int (cv A (o + i)))] [.int (lo8 (cv A (o + i))), .int (Int32.ofNat (q + i)), .ref d])) rfl (rest := []) rfl (hb hbytes d31)
      have c8 : Steps p.tables e below (s₁.setTop (entryFrame m #[.ref b, .int (Int32.ofNat o), .ref d, .int (Int32.ofNat q), .int (Int32.ofNat len)] 7)) (T7.setTop (mkF m 32 #[.val (.ref b), .val (.int (Int32.ofNat (o + i))), .val (.ref d), .val (.int (Int32.ofNat (q + i))), .val (.int (Int32.ofNat len)), .val (.int (Int32.ofNat i)), .val (.int (cv A (o + i)))] [])) := c6.trans (st7 _ (Steps.refl _))
      have c9 : Steps p.tables e below (s₁.setTop (entryFrame m #[.ref b, .int (Int32.ofNat o), .ref d, .int (Int32.ofNat q), .int (Int32.ofNat len)] 7)) (T7.setTop (mkF m 3 #[.val (.ref b), .val (.int (Int32.ofNat (o + i) + 1)), .val (.ref d), .val (.int (Int32.ofNat (q + i) + 1)), .val (.int (Int32.ofNat len)), .val (.int (Int32.ofNat i + 1)), .val (.int (cv A (o + i)))] [])) := c8.trans (by
        refine iincV X7.here hexec rfl 1 (hb hbytes d32) (by decide) rfl rfl ?_
        refine iincV X7.here hexec rfl 1 (hb hbytes d35) (by decide) rfl rfl ?_
        refine iincV X7.here hexec rfl 1 (hb hbytes d38) (by decide) rfl rfl ?_
        refine XS.goto X7.here hexec rfl (pc0 := 41) rfl (hb hbytes d41) (by decide) rfl ?_
        exact Steps.refl _)
      have c10 : Steps p.tables e below (s₁.setTop (entryFrame m #[.ref b, .int (Int32.ofNat o), .ref d, .int (Int32.ofNat q), .int (Int32.ofNat len)] 7)) (T7.setTop (mkF m 3 #[.val (.ref b), .val (.int (Int32.ofNat (o + (i + 1)))), .val (.ref d), .val (.int (Int32.ofNat (q + (i + 1)))), .val (.int (Int32.ofNat len)), .val (.int (Int32.ofNat (i + 1))), .val (.int (cv A (o + i)))] [])) := by
        have := c9
        rw [succ32, succ32, succ32] at this
        exact this
      exact ih (i + 1) (by omega) _ (Or.inr ⟨_, rfl, rfl⟩) T7 _ (by rw [copyLocs_step, ← List.append_assoc]; exact X7) (pl.trans p7) (fl.step (by omega) hlt (by simp)) c10
  obtain ⟨T9, B9, z9, X9, p9, f9, g9⟩ := loop len 0 (by omega) .unset (Or.inl rfl) s₁ B (by simpa [copyLocs] using X0) ⟨hB0.1, fun _ _ => rfl, rfl⟩ (Laid.zero _ _ _) c2
  have c11 : Steps p.tables e below (s₁.setTop (entryFrame m #[.ref b, .int (Int32.ofNat o), .ref d, .int (Int32.ofNat q), .int (Int32.ofNat len)] 7)) (T9.setTop (mkF m 46 #[.val (.ref b), .val (.int (Int32.ofNat (o + len))), .val (.ref d), .val (.int (Int32.ofNat (q + len))), .val (.int (Int32.ofNat len)), .val (.int (Int32.ofNat len)), z9] [.int (Int32.ofNat len)])) := g9.trans (by
    refine XS.iload X9.here hexec rfl (hb hbytes d3) rfl ?_
    refine XS.iload X9.here hexec rfl (hb hbytes d5) rfl ?_
    refine XS.icmpYes X9.here hexec rfl (pc0 := 7) rfl (hb hbytes d7) rfl (ii_ge_t (nlt32 (by omega) (Nat.le_refl _))) (by decide) rfl ?_
    refine XS.iload X9.here hexec rfl (hb hbytes d44) rfl ?_
    exact Steps.refl _)
  exact ⟨T9, some (.int (Int32.ofNat len)), _, _, _, X9, by simp, rfl, rfl, (fun h => by cases h), ⟨rfl, B9, p9.from hh0, f9⟩, fun fs hl => c11.trans (X9.ireturnOut hexec hret rfl (Or.inl rfl) (hb hbytes d46) hl)⟩
end Cmp5
namespace Cmp3
def yN : MethodName := ⟨"java/lang/StringUTF16", "compress", "([CII)[B"⟩
abbrev yB : ByteArray := jdk_52_method_16_code
theorem d0 : decode yB 0 = .ok (.iload_n 2, 1) := by decide +kernel
theorem d1 : decode yB 1 = .ok (.newarray .byte, 2) := by decide +kernel
theorem d3 : decode yB 3 = .ok (.astore_n 3, 1) := by decide +kernel
theorem d4 : decode yB 4 = .ok (.aload_n 0, 1) := by decide +kernel
theorem d5 : decode yB 5 = .ok (.iload_n 1, 1) := by decide +kernel
theorem d6 : decode yB 6 = .ok (.aload_n 3, 1) := by decide +kernel
theorem d7 : decode yB 7 = .ok (.iconst 0, 1) := by decide +kernel
theorem d8 : decode yB 8 = .ok (.iload_n 2, 1) := by decide +kernel
theorem d9 : decode yB 9 = .ok (.invokestatic 115, 3) := by decide +kernel
theorem d12 : decode yB 12 = .ok (.istore 4, 2) := by decide +kernel
theorem d14 : decode yB 14 = .ok (.iload 4, 2) := by decide +kernel
theorem d16 : decode yB 16 = .ok (.iload_n 2, 1) := by decide +kernel
theorem d17 : decode yB 17 = .ok (.if_icmp (.eq) 40, 3) := by decide +kernel
theorem d57 : decode yB 57 = .ok (.aload_n 3, 1) := by decide +kernel
theorem d58 : decode yB 58 = .ok (.areturn, 1) := by decide +kernel
def site : List Cond := [.arrayClass .byte, Cmp5.tab] ++ staticW U16 115 Cmp5.yN
def tab : Cond := tabOf yN yB 6 (some (.array .byte)) site
def P (b : Addr) (A : Cell) (o len : Nat) (args : Array Value) (s : State) : Prop := args = #[.ref b, .int (Int32.ofNat o), .int (Int32.ofNat len)] ∧ Ch b A s ∧ o + len ≤ A.slots.size ∧ len ≤ 536870912 ∧ ∀ i, i < len → ¬ 255 < cv A (o + i)
def E (b : Addr) (A : Cell) (o len : Nat) (r : Option Value) (s u : State) : Prop := NewArr .byte "[B" len (fun j => .int (lo8 (cv A (o + j)))) r s u ∧ u.heap.size = s.heap.size + 1
/-- no char of the range above 255: a new byte[] of their low bytes -/
theorem law (l : Launch) (b : Addr) (A : Cell) (o len : Nat) : Law l yN 3 3 1 18 yB 6 (some (.array .byte)) site (P b A o len) (E b A o len) [] 1 len := by
  refine Law.of_walk (plainFor_of_name (by decide +kernel)) (by decide +kernel) (by decide +kernel) (by decide) (fun _ _ h => by rw [h.1]; rfl) (fun _ U U' hal hh h => ⟨h.1, h.2.1.mv hal hh, h.2.2⟩) (fun r U U' V V' h1 hal h2 h => ⟨NewArr.mv r U U' V V' h1 hal h2 h.1, by rw [h1, h2]; exact h.2⟩) ?_
  intro p e s m args below meth c s₁ X0 hexec hbytes hml hret hlk hnm hown hh0 W hP
  obtain ⟨rfl, hA, l1, l2, hp⟩ := hP
  have a31 := hA.1.2.2.2
  have c1 : Steps p.tables e below (s₁.setTop (entryFrame m #[.ref b, .int (Int32.ofNat o), .int (Int32.ofNat len)] 6)) (s₁.setTop (mkF m 0 #[.val (.ref b), .val (.int (Int32.ofNat o)), .val (.int (Int32.ofNat len)), .unset, .unset, .unset] [])) := entry rfl
  have c2 : Steps p.tables e below (s₁.setTop (entryFrame m #[.ref b, .int (Int32.ofNat o), .int (Int32.ofNat len)] 6)) (s₁.setTop (mkF m 1 #[.val (.ref b), .val (.int (Int32.ofNat o)), .val (.int (Int32.ofNat len)), .unset, .unset, .unset] [.int (Int32.ofNat len)])) := c1.trans (by
    refine XS.iloadN X0.here hexec rfl (hb hbytes d0) rfl ?_
    exact Steps.refl _)
  obtain ⟨T3, B3, X3, ba3, bs3, bv3, bh3, bf3, st3⟩ := X0.anew hexec (atype := .byte) (wk W (.arrayClass .byte)) rfl (by show len * 1 ≤ _; omega) (by omega) (g := (mkF m 1 #[.val (.ref b), .val (.int (Int32.ofNat o)), .val (.int (Int32.ofNat len)), .unset, .unset, .unset] [.int (Int32.ofNat len)])) rfl (hb hbytes d1) (rest := []) rfl (Nat.le_refl _) (by show 0 + len ≤ len; omega)
  rw [hh0] at ba3 st3
  have kp3 : XT.Kept s T3 := (XT.Kept.of_eq hh0).push bh3
  have hA3 := hA.keep X3.warmed.alike (kp3 _ _ hA.1.1)
  have hne : b ≠ s.heap.size := hA.1.ne
  have c4 : Steps p.tables e below (s₁.setTop (entryFrame m #[.ref b, .int (Int32.ofNat o), .int (Int32.ofNat len)] 6)) (T3.setTop (mkF m 3 #[.val (.ref b), .val (.int (Int32.ofNat o)), .val (.int (Int32.ofNat len)), .unset, .unset, .unset] [.ref s.heap.size])) := c2.trans (st3 _ (Steps.refl _))
  have c5 : Steps p.tables e below (s₁.setTop (entryFrame m #[.ref b, .int (Int32.ofNat o), .int (Int32.ofNat len)] 6)) (T3.setTop (mkF m 9 #[.val (.ref b), .val (.int (Int32.ofNat o)), .val (.int (Int32.ofNat len)), .val (.ref s.heap.size), .unset, .unset] [.int (Int32.ofNat len), .int 0, .ref s.heap.size, .int (Int32.ofNat o), .ref b])) := c4.trans (by
    refine XS.astoreN X3.here hexec rfl (hb hbytes d3) rfl rfl rfl ?_
    refine XS.aloadN X3.here hexec rfl (hb hbytes d4) rfl rfl ?_
    refine XS.iloadN X3.here hexec rfl (hb hbytes d5) rfl ?_
    refine XS.aloadN X3.here hexec rfl (hb hbytes d6) rfl rfl ?_
    refine iconstV X3.here hexec rfl 0 (hb hbytes d7) (by decide) ?_
    refine XS.iloadN X3.here hexec rfl (hb hbytes d8) rfl ?_
    exact Steps.refl _)
  obtain ⟨v6, T6, X6, E6, g6⟩ := X3.callS hexec (Cmp5.law l b A s.heap.size B3 o 0 len) hown (wks W (staticW U16 115 Cmp5.yN)) (wk W Cmp5.tab) (W := 0) (Nat.le_of_ble_eq_true rfl) (Nat.le_of_ble_eq_true rfl) (Nat.le_refl _) (by show 0 + len + 0 ≤ len; omega) (g := (mkF m 9 #[.val (.ref b), .val (.int (Int32.ofNat o)), .val (.int (Int32.ofNat len)), .val (.ref s.heap.size), .unset, .unset] [.int (Int32.ofNat len), .int (Int32.ofNat 0), .ref s.heap.size, .int (Int32.ofNat o), .ref b])) rfl (by rw [hml]; rfl) c5 (argsL := [.ref b, .int (Int32.ofNat o), .ref s.heap.size, .int (Int32.ofNat 0), .int (Int32.ofNat len)]) (rest := []) rfl rfl (by show 2 * 0 + 0 ≤ _; decide) (hb hbytes d9) (⟨rfl, hA3, ba3, hne, l1, by rw [bs3]; simp, hp⟩)
  obtain ⟨rfl, B6, p6, f6⟩ := E6
  have c7 : Steps p.tables e below (s₁.setTop (entryFrame m #[.ref b, .int (Int32.ofNat o), .int (Int32.ofNat len)] 6)) (T6.setTop (mkF m 12 #[.val (.ref b), .val (.int (Int32.ofNat o)), .val (.int (Int32.ofNat len)), .val (.ref s.heap.size), .unset, .unset] [.int (Int32.ofNat len)])) := g6
  have c8 : Steps p.tables e below (s₁.setTop (entryFrame m #[.ref b, .int (Int32.ofNat o), .int (Int32.ofNat len)] 6)) (T6.setTop (mkF m 58 #[.val (.ref b), .val (.int (Int32.ofNat o)), .val (.int (Int32.ofNat len)), .val (.ref s.heap.size), .val (.int (Int32.ofNat len)), .unset] [.ref s.heap.size])) := c7.trans (by
    refine XS.istore X6.here hexec rfl (hb hbytes d12) rfl rfl ?_
    refine XS.iload X6.here hexec rfl (hb hbytes d14) rfl ?_
    refine XS.iloadN X6.here hexec rfl (hb hbytes d16) rfl ?_
    refine XS.icmpYes X6.here hexec rfl (pc0 := 17) rfl (hb hbytes d17) rfl (ii_eq_t rfl) (by decide) rfl ?_
    refine XS.aloadN X6.here hexec rfl (hb hbytes d57) rfl rfl ?_
    exact Steps.refl _)
  have X8 := X6.wide (L' := []) (cells' := 1) (slots' := len) (fun x hx hlt => by
    simp only [List.nil_append, copyLocs, List.mem_map, List.mem_range] at hx
    obtain ⟨i, -, rfl⟩ := hx
    exact absurd hlt (Nat.lt_irrefl _)) (Nat.le_refl _) (by omega)
  exact ⟨T6, some (.ref s.heap.size), _, _, _, X8, rfl, rfl, rfl, (fun h => by cases h), ⟨⟨rfl, B6, ba3.like (X3.warmed.alike.symm.trans X6.warmed.alike) p6.1 f6.1 f6.2.1 f6.2.2.1, f6.2.1.trans bv3, by rw [X6.warmed.alike.findClass, f6.1]; exact bf3, by rw [f6.2.2.1, bs3]; simp, fun j hj => by rw [f6.2.2.2 j, if_pos (by omega)]; rfl, kp3.put p6 (Nat.le_refl _)⟩, by rw [p6.2.2, bh3, hh0]; simp⟩, fun fs hl => c8.trans (X8.areturnOut hexec rfl hret rfl (hb hbytes d58) hl)⟩
end Cmp3
namespace CodL
def yN : MethodName := ⟨"java/lang/StringUTF16", "coderFromArrayLen", "([BI)B"⟩
abbrev yB : ByteArray := jdk_52_method_15_code
theorem d0 : decode yB 0 = .ok (.iload_n 1, 1) := by decide +kernel
theorem d1 : decode yB 1 = .ok (.aload_n 0, 1) := by decide +kernel
theorem d2 : decode yB 2 = .ok (.arraylength, 1) := by decide +kernel
theorem d3 : decode yB 3 = .ok (.isub, 1) := by decide +kernel
theorem d4 : decode yB 4 = .ok (.bipush 31, 2) := by decide +kernel
theorem d6 : decode yB 6 = .ok (.iushr, 1) := by decide +kernel
theorem d7 : decode yB 7 = .ok (.i2b, 1) := by decide +kernel
theorem d8 : decode yB 8 = .ok (.ireturn, 1) := by decide +kernel
def site : List Cond := []
def tab : Cond := tabOf yN yB 2 (some .byte) site
def P (d : Addr) (B : Cell) (args : Array Value) (s : State) : Prop := args = #[.ref d, .int (Int32.ofNat B.slots.size)] ∧ Arr .byte d B s
def E (r : Option Value) (s u : State) : Prop := XT.PureE (some (.int 0)) r s u
/-- an array as long as the number of chars: LATIN1 -/
theorem law (l : Launch) (d : Addr) (B : Cell) : Law l yN 2 2 0 0 yB 2 (some .byte) site (P d B) E [] 0 0 := by
  refine Law.of_walk (plainFor_of_name (by decide +kernel)) (by decide +kernel) (by decide +kernel) (by decide) (fun _ _ h => by rw [h.1]; rfl) (fun _ U U' hal hh h => ⟨h.1, h.2.mv hal hh⟩) (fun r U U' V V' h1 hal h2 h => XT.PureE.mv r U U' V V' h1 hal h2 h) ?_
  intro p e s m args below meth c s₁ X0 hexec hbytes hml hret hlk hnm hown hh0 W hP
  obtain ⟨rfl, hB⟩ := hP
  have hB0 := hB.mv X0.warmed.alike hh0
  have c1 : Steps p.tables e below (s₁.setTop (entryFrame m #[.ref d, .int (Int32.ofNat B.slots.size)] 2)) (s₁.setTop (mkF m 0 #[.val (.ref d), .val (.int (Int32.ofNat B.slots.size))] [])) := entry rfl
  have c2 : Steps p.tables e below (s₁.setTop (entryFrame m #[.ref d, .int (Int32.ofNat B.slots.size)] 2)) (s₁.setTop (mkF m 2 #[.val (.ref d), .val (.int (Int32.ofNat B.slots.size))] [.ref d, .int (Int32.ofNat B.slots.size)])) := c1.trans (by
    refine XS.iloadN X0.here hexec rfl (hb hbytes d0) rfl ?_
    refine XS.aloadN X0.here hexec rfl (hb hbytes d1) rfl rfl ?_
    exact Steps.refl _)
  have c3 : Steps p.tables e below (s₁.setTop (entryFrame m #[.ref d, .int (Int32.ofNat B.slots.size)] 2)) (s₁.setTop (mkF m 8 #[.val (.ref d), .val (.int (Int32.ofNat B.slots.size))] [.int (lo8 (ushr (Int32.ofNat B.slots.size - Int32.ofNat B.slots.size) 31))])) := c2.trans (by
    refine X0.alen hexec hB0 rfl rfl (hb hbytes d2) ?_
    refine XS.isub X0.here hexec rfl (hb hbytes d3) rfl ?_
    refine bipushV X0.here hexec rfl 31 (hb hbytes d4) (by decide) ?_
    refine iushr X0.here hexec rfl (hb hbytes d6) rfl ?_
    refine i2b X0.here hexec rfl (hb hbytes d7) rfl ?_
    exact Steps.refl _)
  have e0 : lo8 (ushr (Int32.ofNat B.slots.size - Int32.ofNat B.slots.size) 31) = 0 := by rw [Int32.sub_self]; decide
  rw [e0] at c3
  exact ⟨s₁, some (.int 0), _, _, _, X0, rfl, rfl, rfl, (fun h => by cases h), ⟨rfl, hh0⟩, fun fs hl => c3.trans (X0.ireturnOut hexec hret rfl (Or.inr (Or.inr (Or.inl rfl))) (hb hbytes d8) hl)⟩
end CodL
/-- the String at a is Latin-1 over a new byte[] (the heap's one new cell): the low bytes of the len chars of A from o on; every cell but a is kept -/
def Got (a : Addr) (D : Cell) (fV fC : Field) (A : Cell) (o len : Nat) (r : Option Value) (s u : State) : Prop := r = none ∧ ∃ D' V : Cell, Blank "java/lang/String" a D' u ∧ Same D D' [fV.slot, fC.slot] ∧ D'.slots[fV.slot]? = some (.ref s.heap.size) ∧ D'.slots[fC.slot]? = some (.int 0) ∧ Arr .byte s.heap.size V u ∧ V.vm = .none ∧ u.vm.findClass "[B" = some V.cls ∧ V.slots.size = len ∧ (∀ j, j < len → V.slots[j]? = some (.int (lo8 (cv A (o + j))))) ∧ (∀ (y : Addr) (c : Cell), y ≠ a → s.heap[y]? = some c → u.heap[y]? = some c) ∧ u.heap.size = s.heap.size + 1
theorem Got.mv {a : Addr} {D A : Cell} {fV fC : Field} {o len : Nat} : ∀ r (U U' V V' : State), U'.heap = U.heap → V.vm.Alike V'.vm → V'.heap = V.heap → Got a D fV fC A o len r U V → Got a D fV fC A o len r U' V' :=
  fun r U U' V V' h1 hal h2 ⟨e0, D', X, a1, a2, a3, a4, a5, a6, a7, a8, a9, a10, a11⟩ => ⟨e0, D', X, a1.mv hal h2, a2, by rw [h1]; exact a3, a4, by rw [h1]; exact a5.mv hal h2, a6, by rw [hal.findClass]; exact a7, a8, a9, by rw [h1, h2]; exact a10, by rw [h1, h2]; exact a11⟩
namespace New4
def yN : MethodName := ⟨"java/lang/String", "<init>", "([CIILjava/lang/Void;)V"⟩
abbrev yB : ByteArray := jdk_42_method_149_code
theorem d0 : decode yB 0 = .ok (.aload_n 0, 1) := by decide +kernel
theorem d1 : decode yB 1 = .ok (.invokespecial 1, 3) := by decide +kernel
theorem d4 : decode yB 4 = .ok (.iload_n 3, 1) := by decide +kernel
theorem d5 : decode yB 5 = .ok (.ifCond (.ne) 22, 3) := by decide +kernel
theorem d27 : decode yB 27 = .ok (.getstatic 38, 3) := by decide +kernel
theorem d30 : decode yB 30 = .ok (.ifCond (.eq) 28, 3) := by decide +kernel
theorem d33 : decode yB 33 = .ok (.aload_n 1, 1) := by decide +kernel
theorem d34 : decode yB 34 = .ok (.iload_n 2, 1) := by decide +kernel
theorem d35 : decode yB 35 = .ok (.iload_n 3, 1) := by decide +kernel
theorem d36 : decode yB 36 = .ok (.invokestatic 177, 3) := by decide +kernel
theorem d39 : decode yB 39 = .ok (.astore 5, 2) := by decide +kernel
theorem d41 : decode yB 41 = .ok (.aload_n 0, 1) := by decide +kernel
theorem d42 : decode yB 42 = .ok (.aload 5, 2) := by decide +kernel
theorem d44 : decode yB 44 = .ok (.iload_n 3, 1) := by decide +kernel
theorem d45 : decode yB 45 = .ok (.invokestatic 47, 3) := by decide +kernel
theorem d48 : decode yB 48 = .ok (.putfield 15, 3) := by decide +kernel
theorem d51 : decode yB 51 = .ok (.aload_n 0, 1) := by decide +kernel
theorem d52 : decode yB 52 = .ok (.aload 5, 2) := by decide +kernel
theorem d54 : decode yB 54 = .ok (.putfield 9, 3) := by decide +kernel
theorem d57 : decode yB 57 = .ok (.return_, 1) := by decide +kernel
def site : List Cond := [.fieldLink "java/lang/String" 38 "java/lang/String" "COMPACT_STRINGS" "Z", Cmp3.tab, CodL.tab, .laysFinal "java/lang/String" "java/lang/String" "value" "[B", .fieldLink "java/lang/String" 9 "java/lang/String" "value" "[B", .laysFinal "java/lang/String" "java/lang/String" "coder" "B", .fieldLink "java/lang/String" 15 "java/lang/String" "coder" "B"] ++ objW "java/lang/String" 1 ++ staticW "java/lang/String" 177 Cmp3.yN ++ staticW "java/lang/String" 47 CodL.yN
def tab : Cond := tabOf yN yB 6 none site
def P (a : Addr) (D : Cell) (fV fC : Field) (b : Addr) (A : Cell) (z : Int32) (o len : Nat) (args : Array Value) (s : State) : Prop := args = #[.ref a, .ref b, .int (Int32.ofNat o), .int (Int32.ofNat len), .null] ∧ Blank "java/lang/String" a D s ∧ Found "java/lang/String" "value" "[B" fV s ∧ Found "java/lang/String" "coder" "B" fC s ∧ Ch b A s ∧ StaticIs s "java/lang/String" "COMPACT_STRINGS" "Z" (.int z) ∧ ¬ z = 0 ∧ 0 < len ∧ o + len ≤ A.slots.size ∧ len ≤ 536870912 ∧ ∀ i, i < len → ¬ 255 < cv A (o + i)
def E (a : Addr) (D : Cell) (fV fC : Field) (A : Cell) (o len : Nat) (r : Option Value) (s u : State) : Prop := Got a D fV fC A o len r s u
/-- len > 0, no char of the range above 255: a Latin-1 String of their low bytes -/
theorem law (l : Launch) (a : Addr) (D : Cell) (fV fC : Field) (b : Addr) (A : Cell) (z : Int32) (o len : Nat) : Law l yN 5 4 2 35 yB 6 none site (P a D fV fC b A z o len) (E a D fV fC A o len) [⟨a, fC.slot⟩, ⟨a, fV.slot⟩] 1 len := by
  refine Law.of_walk (plainFor_of_name (by decide +kernel)) (by decide +kernel) (by decide +kernel) (by decide) (fun _ _ h => by rw [h.1]; rfl) (fun _ U U' hal hh h => ⟨h.1, h.2.1.mv hal hh, h.2.2.1.al hal, h.2.2.2.1.al hal, h.2.2.2.2.1.mv hal hh, h.2.2.2.2.2.1.there hal hh, h.2.2.2.2.2.2⟩) (fun r U U' V V' h1 hal h2 h => Got.mv r U U' V V' h1 hal h2 h) ?_
  intro p e s m args below meth c s₁ X0 hexec hbytes hml hret hlk hnm hown hh0 W hP
  obtain ⟨rfl, hB, f1, f2, hA, s1, hz, l0, l1, l2, hp⟩ := hP
  have a31 := hA.1.2.2.2
  have c1 : Steps p.tables e below (s₁.setTop (entryFrame m #[.ref a, .ref b, .int (Int32.ofNat o), .int (Int32.ofNat len), .null] 6)) (s₁.setTop (mkF m 0 #[.val (.ref a), .val (.ref b), .val (.int (Int32.ofNat o)), .val (.int (Int32.ofNat len)), .val .null, .unset] [])) := entry rfl
  have c2 : Steps p.tables e below (s₁.setTop (entryFrame m #[.ref a, .ref b, .int (Int32.ofNat o), .int (Int32.ofNat len), .null] 6)) (s₁.setTop (mkF m 1 #[.val (.ref a), .val (.ref b), .val (.int (Int32.ofNat o)), .val (.int (Int32.ofNat len)), .val .null, .unset] [.ref a])) := c1.trans (by
    refine XS.aloadN X0.here hexec rfl (hb hbytes d0) rfl rfl ?_
    exact Steps.refl _)
  obtain ⟨T3, X3, q3, st3⟩ := X0.oinit hexec hown (wks W (objW "java/lang/String" 1)) (g := (mkF m 1 #[.val (.ref a), .val (.ref b), .val (.int (Int32.ofNat o)), .val (.int (Int32.ofNat len)), .val .null, .unset] [.ref a])) rfl (by rw [hml]; rfl) (rest := []) rfl (hb hbytes d1) (W := 0) (by show 2 * 0 + 0 ≤ _; decide) (Nat.le_of_ble_eq_true rfl) (Nat.le_of_ble_eq_true rfl)
  have hh3 := q3.trans hh0
  have c4 : Steps p.tables e below (s₁.setTop (entryFrame m #[.ref a, .ref b, .int (Int32.ofNat o), .int (Int32.ofNat len), .null] 6)) (T3.setTop (mkF m 27 #[.val (.ref a), .val (.ref b), .val (.int (Int32.ofNat o)), .val (.int (Int32.ofNat len)), .val .null, .unset] [])) := (c2.trans (st3 _ (Steps.refl _))).trans (by
    refine XS.iloadN X3.here hexec rfl (hb hbytes d4) rfl ?_
    refine XS.ifYes X3.here hexec rfl (pc0 := 5) rfl (hb hbytes d5) rfl (i0_ne_t (nz32 (by omega) l0)) (by decide) rfl ?_
    exact Steps.refl _)
  obtain ⟨T5, X5, q5, st5⟩ := X3.sget hexec hown (wk W (.fieldLink "java/lang/String" 38 "java/lang/String" "COMPACT_STRINGS" "Z")) s1 (fun _ _ h => by rw [hh3]; exact h) (g := (mkF m 27 #[.val (.ref a), .val (.ref b), .val (.int (Int32.ofNat o)), .val (.int (Int32.ofNat len)), .val .null, .unset] [])) rfl (hb hbytes d27)
  have hh5 := q5.trans hh3
  have c6 : Steps p.tables e below (s₁.setTop (entryFrame m #[.ref a, .ref b, .int (Int32.ofNat o), .int (Int32.ofNat len), .null] 6)) (T5.setTop (mkF m 30 #[.val (.ref a), .val (.ref b), .val (.int (Int32.ofNat o)), .val (.int (Int32.ofNat len)), .val .null, .unset] [.int z])) := c4.trans (st5 _ (Steps.refl _))
  have c7 : Steps p.tables e below (s₁.setTop (entryFrame m #[.ref a, .ref b, .int (Int32.ofNat o), .int (Int32.ofNat len), .null] 6)) (T5.setTop (mkF m 36 #[.val (.ref a), .val (.ref b), .val (.int (Int32.ofNat o)), .val (.int (Int32.ofNat len)), .val .null, .unset] [.int (Int32.ofNat len), .int (Int32.ofNat o), .ref b])) := c6.trans (by
    refine XS.ifNo X5.here hexec rfl (hb hbytes d30) rfl (i0_eq_f hz) ?_
    refine XS.aloadN X5.here hexec rfl (hb hbytes d33) rfl rfl ?_
    refine XS.iloadN X5.here hexec rfl (hb hbytes d34) rfl ?_
    refine XS.iloadN X5.here hexec rfl (hb hbytes d35) rfl ?_
    exact Steps.refl _)
  obtain ⟨v8, T8, X8, E8, g8⟩ := X5.callS hexec (Cmp3.law l b A o len) hown (wks W (staticW "java/lang/String" 177 Cmp3.yN)) (wk W Cmp3.tab) (W := 0) (Nat.le_of_ble_eq_true rfl) (Nat.le_of_ble_eq_true rfl) (Nat.le_refl _) (by show 0 + len ≤ len; omega) (g := (mkF m 36 #[.val (.ref a), .val (.ref b), .val (.int (Int32.ofNat o)), .val (.int (Int32.ofNat len)), .val .null, .unset] [.int (Int32.ofNat len), .int (Int32.ofNat o), .ref b])) rfl (by rw [hml]; rfl) c7 (argsL := [.ref b, .int (Int32.ofNat o), .int (Int32.ofNat len)]) (rest := []) rfl rfl (by show 2 * 0 + 0 ≤ _; decide) (hb hbytes d36) (⟨rfl, hA.mv X5.warmed.alike hh5, l1, l2, hp⟩)
  obtain ⟨e8, z8⟩ := E8
  obtain ⟨rfl, N, n1, n2, n3, n4, n5, n6⟩ := NewArr.mv _ T5 s _ _ hh5.symm (Vm.Alike.refl _) rfl e8
  rw [hh5] at z8
  have hB1 := hB.keep X8.warmed.alike (n6 _ _ hB.1)
  have hne : s.heap.size ≠ a := (Nat.ne_of_lt (Array.getElem?_eq_some_iff.mp hB.1).1).symm
  have c9 : Steps p.tables e below (s₁.setTop (entryFrame m #[.ref a, .ref b, .int (Int32.ofNat o), .int (Int32.ofNat len), .null] 6)) (T8.setTop (mkF m 39 #[.val (.ref a), .val (.ref b), .val (.int (Int32.ofNat o)), .val (.int (Int32.ofNat len)), .val .null, .unset] [.ref s.heap.size])) := g8
  have c10 : Steps p.tables e below (s₁.setTop (entryFrame m #[.ref a, .ref b, .int (Int32.ofNat o), .int (Int32.ofNat len), .null] 6)) (T8.setTop (mkF m 45 #[.val (.ref a), .val (.ref b), .val (.int (Int32.ofNat o)), .val (.int (Int32.ofNat len)), .val .null, .val (.ref s.heap.size)] [.int (Int32.ofNat N.slots.size), .ref s.heap.size, .ref a])) := by
    have hc : Steps p.tables e below (s₁.setTop (entryFrame m #[.ref a, .ref b, .int (Int32.ofNat o), .int (Int32.ofNat len), .null] 6)) (T8.setTop (mkF m 45 #[.val (.ref a), .val (.ref b), .val (.int (Int32.ofNat o)), .val (.int (Int32.ofNat len)), .val .null, .val (.ref s.heap.size)] [.int (Int32.ofNat len), .ref s.heap.size, .ref a])) := c9.trans (by
      refine XS.astore X8.here hexec rfl (hb hbytes d39) rfl rfl rfl ?_
      refine XS.aloadN X8.here hexec rfl (hb hbytes d41) rfl rfl ?_
      refine XS.aload X8.here hexec rfl (hb hbytes d42) rfl rfl ?_
      refine XS.iloadN X8.here hexec rfl (hb hbytes d44) rfl ?_
      exact Steps.refl _)
    rw [n4]; exact hc
  obtain ⟨v11, T11, X11, E11, g11⟩ := X8.callS hexec (CodL.law l s.heap.size N) hown (wks W (staticW "java/lang/String" 47 CodL.yN)) (wk W CodL.tab) (W := 1) (Nat.le_of_ble_eq_true rfl) (Nat.le_of_ble_eq_true rfl) (Nat.le_refl _) (by show 0 + len + 0 ≤ len; omega) (g := (mkF m 45 #[.val (.ref a), .val (.ref b), .val (.int (Int32.ofNat o)), .val (.int (Int32.ofNat len)), .val .null, .val (.ref s.heap.size)] [.int (Int32.ofNat N.slots.size), .ref s.heap.size, .ref a])) rfl (by rw [hml]; rfl) c10 (argsL := [.ref s.heap.size, .int (Int32.ofNat N.slots.size)]) (rest := [.ref a]) rfl rfl (by show 2 * 0 + (1 + 0) ≤ _; decide) (hb hbytes d45) (⟨rfl, n1⟩)
  obtain ⟨rfl, q11⟩ := E11
  have hB11 := hB1.mv (X8.warmed.alike.symm.trans X11.warmed.alike) q11
  have c12 : Steps p.tables e below (s₁.setTop (entryFrame m #[.ref a, .ref b, .int (Int32.ofNat o), .int (Int32.ofNat len), .null] 6)) (T11.setTop (mkF m 48 #[.val (.ref a), .val (.ref b), .val (.int (Int32.ofNat o)), .val (.int (Int32.ofNat len)), .val .null, .val (.ref s.heap.size)] [.int 0, .ref a])) := g11
  obtain ⟨T13, X13, p13, bl13, sl13, st13⟩ := X11.finit hexec hown (wk W (.fieldLink "java/lang/String" 15 "java/lang/String" "coder" "B")) (Or.inr ⟨_, (wk W (.laysFinal "java/lang/String" "java/lang/String" "coder" "B"))⟩) (Or.inl ⟨rfl, hnm⟩) f2 (Or.inl rfl) hB11 (t := .byte) (by decide +kernel) rfl (g := (mkF m 48 #[.val (.ref a), .val (.ref b), .val (.int (Int32.ofNat o)), .val (.int (Int32.ofNat len)), .val .null, .val (.ref s.heap.size)] [.int 0, .ref a])) rfl (rest := []) rfl (hb hbytes d48)
  have c14 : Steps p.tables e below (s₁.setTop (entryFrame m #[.ref a, .ref b, .int (Int32.ofNat o), .int (Int32.ofNat len), .null] 6)) (T13.setTop (mkF m 54 #[.val (.ref a), .val (.ref b), .val (.int (Int32.ofNat o)), .val (.int (Int32.ofNat len)), .val .null, .val (.ref s.heap.size)] [.ref s.heap.size, .ref a])) := (c12.trans (st13 _ (Steps.refl _))).trans (by
    refine XS.aloadN X13.here hexec rfl (hb hbytes d51) rfl rfl ?_
    refine XS.aload X13.here hexec rfl (hb hbytes d52) rfl rfl ?_
    exact Steps.refl _)
  obtain ⟨T15, X15, p15, bl15, sl15, st15⟩ := X13.finit hexec hown (wk W (.fieldLink "java/lang/String" 9 "java/lang/String" "value" "[B")) (Or.inr ⟨_, (wk W (.laysFinal "java/lang/String" "java/lang/String" "value" "[B"))⟩) (Or.inl ⟨rfl, hnm⟩) f1 (Or.inl rfl) bl13 (t := (.array .byte)) (by decide +kernel) rfl (g := (mkF m 54 #[.val (.ref a), .val (.ref b), .val (.int (Int32.ofNat o)), .val (.int (Int32.ofNat len)), .val .null, .val (.ref s.heap.size)] [.ref s.heap.size, .ref a])) rfl (rest := []) rfl (hb hbytes d54)
  have c16 : Steps p.tables e below (s₁.setTop (entryFrame m #[.ref a, .ref b, .int (Int32.ofNat o), .int (Int32.ofNat len), .null] 6)) (T15.setTop (mkF m 57 #[.val (.ref a), .val (.ref b), .val (.int (Int32.ofNat o)), .val (.int (Int32.ofNat len)), .val .null, .val (.ref s.heap.size)] [])) := c14.trans (st15 _ (Steps.refl _))
  have ap := apart (Or.inr ⟨_, (wk W (.laysFinal "java/lang/String" "java/lang/String" "value" "[B"))⟩) (Or.inr ⟨_, (wk W (.laysFinal "java/lang/String" "java/lang/String" "coder" "B"))⟩) f1 f2 (t₁ := .array .byte) (t₂ := .byte) (by decide +kernel) (by decide +kernel) (by decide)
  have al := X8.warmed.alike.symm.trans X15.warmed.alike
  have n7 : T11.heap[s.heap.size]? = some N := by rw [q11]; exact n1.1
  exact ⟨T15, none, _, _, _, X15, by simp, rfl, by omega, (fun _ => rfl), ⟨rfl, _, N, bl15, ((Same.refl D _).set _ (by simp)).set _ (by simp), sl15, (Cell.slots_setSlot_ne _ ap).trans sl13, n1.keep al (p15.other hne (p13.other hne n7)), n2, by rw [al.findClass]; exact n3, n4, n5, fun y c h1 h2 => p15.other h1 (p13.other h1 (by rw [q11]; exact n6 y c h2)), by rw [p15.2.2, p13.2.2, q11]; exact z8⟩, fun fs hl => c16.trans (X15.returnOut hexec hret (hb hbytes d57) hl)⟩
end New4
namespace New1
def yN : MethodName := ⟨"java/lang/String", "<init>", "([C)V"⟩
abbrev yB : ByteArray := jdk_42_method_3_code
theorem d0 : decode yB 0 = .ok (.aload_n 0, 1) := by decide +kernel
theorem d1 : decode yB 1 = .ok (.aload_n 1, 1) := by decide +kernel
theorem d2 : decode yB 2 = .ok (.iconst 0, 1) := by decide +kernel
theorem d3 : decode yB 3 = .ok (.aload_n 1, 1) := by decide +kernel
theorem d4 : decode yB 4 = .ok (.arraylength, 1) := by decide +kernel
theorem d5 : decode yB 5 = .ok (.aconst_null, 1) := by decide +kernel
theorem d6 : decode yB 6 = .ok (.invokespecial 27, 3) := by decide +kernel
theorem d9 : decode yB 9 = .ok (.return_, 1) := by decide +kernel
def site : List Cond := [New4.tab] ++ initW "java/lang/String" 27 New4.yN
def tab : Cond := tabOf yN yB 2 none site
def P (a : Addr) (D : Cell) (fV fC : Field) (b : Addr) (A : Cell) (z : Int32) (args : Array Value) (s : State) : Prop := args = #[.ref a, .ref b] ∧ Blank "java/lang/String" a D s ∧ Found "java/lang/String" "value" "[B" fV s ∧ Found "java/lang/String" "coder" "B" fC s ∧ Ch b A s ∧ StaticIs s "java/lang/String" "COMPACT_STRINGS" "Z" (.int z) ∧ ¬ z = 0 ∧ 0 < A.slots.size ∧ A.slots.size ≤ 536870912 ∧ ∀ i, i < A.slots.size → ¬ 255 < cv A i
def E (a : Addr) (D : Cell) (fV fC : Field) (A : Cell) (r : Option Value) (s u : State) : Prop := Got a D fV fC A 0 A.slots.size r s u
/-- new String(chars), not empty, no char above 255: a Latin-1 String of their low bytes -/
theorem law (l : Launch) (a : Addr) (D : Cell) (fV fC : Field) (b : Addr) (A : Cell) (z : Int32) : Law l yN 2 1 3 52 yB 2 none site (P a D fV fC b A z) (E a D fV fC A) [⟨a, fC.slot⟩, ⟨a, fV.slot⟩] 1 A.slots.size := by
  refine Law.of_walk (plainFor_of_name (by decide +kernel)) (by decide +kernel) (by decide +kernel) (by decide) (fun _ _ h => by rw [h.1]; rfl) (fun _ U U' hal hh h => ⟨h.1, h.2.1.mv hal hh, h.2.2.1.al hal, h.2.2.2.1.al hal, h.2.2.2.2.1.mv hal hh, h.2.2.2.2.2.1.there hal hh, h.2.2.2.2.2.2⟩) (fun r U U' V V' h1 hal h2 h => Got.mv r U U' V V' h1 hal h2 h) ?_
  intro p e s m args below meth c s₁ X0 hexec hbytes hml hret hlk hnm hown hh0 W hP
  obtain ⟨rfl, hB, f1, f2, hA, s1, hz, l0, l2, hp⟩ := hP
  have c1 : Steps p.tables e below (s₁.setTop (entryFrame m #[.ref a, .ref b] 2)) (s₁.setTop (mkF m 0 #[.val (.ref a), .val (.ref b)] [])) := entry rfl
  have c2 : Steps p.tables e below (s₁.setTop (entryFrame m #[.ref a, .ref b] 2)) (s₁.setTop (mkF m 6 #[.val (.ref a), .val (.ref b)] [.null, .int (Int32.ofNat A.slots.size), .int 0, .ref b, .ref a])) := c1.trans (by
    refine XS.aloadN X0.here hexec rfl (hb hbytes d0) rfl rfl ?_
    refine XS.aloadN X0.here hexec rfl (hb hbytes d1) rfl rfl ?_
    refine iconstV X0.here hexec rfl 0 (hb hbytes d2) (by decide) ?_
    refine XS.aloadN X0.here hexec rfl (hb hbytes d3) rfl rfl ?_
    refine X0.alen hexec (hA.1.mv X0.warmed.alike hh0) rfl rfl (hb hbytes d4) ?_
    refine XS.aconstNull X0.here hexec rfl (hb hbytes d5) ?_
    exact Steps.refl _)
  obtain ⟨v3, T3, X3, E3, g3⟩ := X0.callN hexec (New4.law l a D fV fC b A z 0 A.slots.size) rfl hown (wks W (initW "java/lang/String" 27 New4.yN)) (W New4.tab (by simp only [site, List.mem_cons, List.mem_append, true_or, or_true])) (W := 0) (Nat.le_of_ble_eq_true rfl) (Nat.le_of_ble_eq_true rfl) (Nat.le_refl _) (by show 0 + A.slots.size ≤ A.slots.size; omega) (g := (mkF m 6 #[.val (.ref a), .val (.ref b)] [.null, .int (Int32.ofNat A.slots.size), .int (Int32.ofNat 0), .ref b, .ref a])) rfl (by rw [hml]; rfl) c2 (argsL := [.ref b, .int (Int32.ofNat 0), .int (Int32.ofNat A.slots.size), .null]) (rest := []) rfl rfl (by show 2 * 0 + 0 ≤ _; decide) (hb hbytes d6) (⟨rfl, hB.mv X0.warmed.alike hh0, f1.al X0.warmed.alike, f2.al X0.warmed.alike, hA.mv X0.warmed.alike hh0, s1.there X0.warmed.alike hh0, hz, l0, by omega, l2, fun i hi => by rw [Nat.zero_add]; exact hp i hi⟩)
  have e0 := Got.mv _ s₁ s _ _ hh0.symm (Vm.Alike.refl _) rfl E3
  obtain rfl := e0.1
  have c4 : Steps p.tables e below (s₁.setTop (entryFrame m #[.ref a, .ref b] 2)) (T3.setTop (mkF m 9 #[.val (.ref a), .val (.ref b)] [])) := g3
  exact ⟨T3, none, _, _, _, X3, by simp, rfl, by omega, (fun _ => rfl), e0, fun fs hl => c4.trans (X3.returnOut hexec hret (hb hbytes d9) hl)⟩
theorem pays {l : Launch} {R : Room} {p : Program} {e : Env} {below : List Frame} {s : State} {sargs : Array Value} {len W : Nat} (a : Addr) (D : Cell) (fV fC : Field) (b : Addr) (A : Cell) (z : Int32) (htab : tab.before sargs s = true) (hfr : 4 ≤ R.frames) (hlo : W + 65 ≤ R.locals) :
    Back l R p e below s sargs yN len W (fun A₁ a₁ => A₁.cells + 1 ≤ R.cells ∧ A₁.slots + A.slots.size ≤ R.slots ∧ P a D fV fC b A z a₁ A₁.U) (fun A₁ _ v₁ B₁ => E a D fV fC A v₁ A₁.U B₁.U ∧ B₁.locs = A₁.locs ++ [⟨a, fC.slot⟩, ⟨a, fV.slot⟩] ∧ B₁.cells = A₁.cells + 1 ∧ B₁.slots = A₁.slots + A.slots.size) :=
  (law l a D fV fC b A z).pays htab hfr (by omega)
end New1
end StrChars
namespace StrChars.Road
open Jvm Sem ClassFile Op Lib Jvm.Stand Jvm.Free Jvm.Free.XT
open Jvm.Lib.Cold (StaticIs)
abbrev ST : String := "java/lang/String"
/-- every table word that New1's law asks, flat -/
abbrev words : List Jvm.Cond := [.code New1.yN New1.yB 2 none, .initialized ST, .methodLink ST 27 New4.yN, .instanceMethod New4.yN,
  .code New4.yN New4.yB 6 none, .fieldLink ST 38 ST "COMPACT_STRINGS" "Z", .laysFinal ST ST "value" "[B", .fieldLink ST 9 ST "value" "[B", .laysFinal ST ST "coder" "B", .fieldLink ST 15 ST "coder" "B",
  .methodLink ST 1 Lib.objectInit, .instanceMethod Lib.objectInit, .code Lib.objectInit ⟨#[0xb1]⟩ 1 none, .methodLink ST 177 Cmp3.yN, .static Cmp3.yN, .methodLink ST 47 CodL.yN, .static CodL.yN,
  .code Cmp3.yN Cmp3.yB 6 (some (.array .byte)), .initialized U16, .arrayClass .byte, .methodLink U16 115 Cmp5.yN, .static Cmp5.yN, .code Cmp5.yN Cmp5.yB 7 (some .int), .code CodL.yN CodL.yB 2 (some .byte)]
theorem tab_of {a : Array Value} {s : State} (h : ∀ w ∈ words, w.before a s = true) : New1.tab.before a s = true := by
  have h5 : Cmp5.tab.before a s = true := unparts (wk h (.code Cmp5.yN Cmp5.yB 7 (some .int))) (wks h (.initialized Cmp5.yN.cls :: Cmp5.site))
  have hc : CodL.tab.before a s = true := unparts (wk h (.code CodL.yN CodL.yB 2 (some .byte))) (wks h (.initialized CodL.yN.cls :: CodL.site))
  have q5 : ∀ w ∈ Cmp5.tab :: words, w.before a s = true := fun w hw => (List.mem_cons.mp hw).elim (fun e => e ▸ h5) (h w)
  have h3 : Cmp3.tab.before a s = true := unparts (wk q5 (.code Cmp3.yN Cmp3.yB 6 (some (.array .byte)))) (wks q5 (.initialized Cmp3.yN.cls :: Cmp3.site))
  have q3 : ∀ w ∈ Cmp3.tab :: CodL.tab :: words, w.before a s = true := fun w hw => (List.mem_cons.mp hw).elim (fun e => e ▸ h3) fun hw => (List.mem_cons.mp hw).elim (fun e => e ▸ hc) (h w)
  have h4 : New4.tab.before a s = true := unparts (wk q3 (.code New4.yN New4.yB 6 none)) (wks q3 (.initialized New4.yN.cls :: New4.site))
  have q4 : ∀ w ∈ New4.tab :: words, w.before a s = true := fun w hw => (List.mem_cons.mp hw).elim (fun e => e ▸ h4) (h w)
  exact unparts (wk q4 (.code New1.yN New1.yB 2 none)) (wks q4 (.initialized New1.yN.cls :: New1.site))
/-- the words ride from the start Z to the walk's own state -/
theorem moved {Z s : State} {a0 args : Array Value} (hZ : Z.Warmed39 s.vm) (hw : ∀ d ∈ words, d.before a0 Z = true) : ∀ d ∈ words, d.before args s = true := fun d hd => by
  have q := hw d hd
  have t : ∀ d ∈ words, d = .arrayClass .byte ∨ (d.onTables && d.keepsFace) = true := by decide +kernel
  rcases t d hd with rfl | t
  · exact RoadKit.mvA hZ q
  · exact RoadKit.mv hZ q t
/-- WHAT COMES BACK, over the tables of the start Z: h the heap at the call, h' behind it -/
def Q (Z : State) (x : Addr) (A : Cell) (h : Heap) (v : Option Value) (h' : Heap) (L : List Loc) : Prop := v = none ∧ (∀ y ∈ L, y.base = x) ∧ RoadKit.Keep h h' [x] ∧ h'.size = h.size + 1 ∧ RoadKit.Exa Z h' x ST ∧ RoadKit.Fld Z h' x ST "value" "[B" (.ref h.size) ∧ RoadKit.Fld Z h' x ST "coder" "B" (.int 0) ∧
  (∃ V : Cell, RoadKit.Arr Z h' h.size V .byte ∧ V.vm = .none ∧ Z.vm.findClass "[B" = some V.cls ∧ V.slots.size = A.slots.size ∧ ∀ j, j < A.slots.size → V.slots[j]? = some (.int (lo8 (cv A j)))) ∧
  ∀ (O n d : String) (w : Value), RoadKit.Fld Z h x O n d w → RoadKit.slotOf Z O n d ≠ RoadKit.slotOf Z ST "value" "[B" → RoadKit.slotOf Z O n d ≠ RoadKit.slotOf Z ST "coder" "B" → RoadKit.Fld Z h' x O n d w
/-- **new String(chars) AT A CALL, IN THE ROAD'S FORM**: for specialBack behind newO: x the fresh String, b the char[] with the cell A -/
theorem back {p : Program} {l : Launch} {e : Env} {R : Room} {s : State} {args : Array Value} {below : List Frame} {len W : Nat} {Z : State} {a0 : Array Value} {h : Heap} (hZ : Z.Warmed39 s.vm) (hw : ∀ d ∈ words, d.before a0 Z = true) {kI : Nat} (wi : (Jvm.Cond.instantiable ST kI).before a0 Z = true)
    {x b : Addr} {A : Cell} {z : Int32} {v0 c0 : Value} (E : RoadKit.Exa Z h x ST) (V : RoadKit.Fld Z h x ST "value" "[B" v0) (C : RoadKit.Fld Z h x ST "coder" "B" c0) (K : RoadKit.Arr Z h b A .char) (hty : Typed .char A) (S : RoadKit.Sta Z h ST "COMPACT_STRINGS" "Z" (.int z)) (hz : ¬ z = 0)
    (l0 : 0 < A.slots.size) (l2 : A.slots.size ≤ 536870912) (hp : ∀ i, i < A.slots.size → ¬ 255 < cv A i) (hfr : 4 ≤ R.frames) (hlo : W + 65 ≤ R.locals) :
    Back l R p e below s args New1.yN len W (fun P a => a = #[.ref x, .ref b] ∧ P.U.heap = h ∧ P.cells + 1 ≤ R.cells ∧ P.slots + A.slots.size ≤ R.slots)
      (fun P _ v B => ∃ L, Q Z x A h v B.U.heap L ∧ B.locs = P.locs ++ L ∧ B.cells = P.cells + 1 ∧ B.slots = P.slots + A.slots.size) := by
  intro m meth c P g ig mk a X hg hsize hdg hW hn hp'
  obtain ⟨rfl, rfl, r1, r2⟩ := hp'
  have al : Z.vm.Alike P.U.vm := hZ.alike.trans X.warmed.alike
  obtain ⟨D, cfV, kV, iV, fV, hD, gV, stV, knV, obV, asV, slV⟩ := id V
  obtain ⟨D', cfC, kC, iC, fC, hD', gC, stC, -, -, asC, slC⟩ := id C
  cases hD.symm.trans hD'
  obtain ⟨D2, kD, e1, e2, e3, e4, e5⟩ := id E
  cases hD.symm.trans e1
  obtain ⟨c2, k2, i1, i2, i3, -⟩ := Cond.instantiable_spec wi
  cases e2.symm.trans i1
  cases e3.symm.trans i2
  obtain ⟨kU, u1, u2⟩ := al.2.2 _ _ e3
  have hB : Blank ST x D P.U := ⟨hD, ⟨knV, fun q hq => by rw [hq] at obV; cases obV⟩, by rw [al.findClass]; exact e2, kU, u1, by rw [u2]; exact i3, by rw [u2]; exact e5 i3⟩
  have F1 : Found ST "value" "[B" fV P.U := ⟨SBG.found_only al ⟨cfV, kV, iV, gV⟩, stV⟩
  have F2 : Found ST "coder" "B" fC P.U := ⟨SBG.found_only al ⟨cfC, kC, iC, gC⟩, stC⟩
  have hA : Ch b A P.U := ⟨⟨K.1, State.isArrayOf_alike al K.2.1, K.2.2, by omega⟩, hty⟩
  have hS : StaticIs P.U ST "COMPACT_STRINGS" "Z" (.int z) := by
    obtain ⟨cfS, iS, kS, fS, st, cS, t1, t2, t3, t4, t5, t6, t7⟩ := S
    exact StaticIs.there (s := { Z with heap := P.U.heap }) ⟨cfS, iS, kS, fS, st, cS, t1, t2, t3, t4, t5, (fun q => by rw [q] at t6; cases t6), t7⟩ al rfl
  obtain ⟨v, B, X', ⟨⟨hv, E', V', q1, q2, q3, q4, q5, q6, q7, q8, q9, q10, q11⟩, hl, hc, hs⟩, st⟩ := New1.pays x D fV fC b A z (tab_of (moved hZ hw)) hfr hlo m meth c P g ig mk _ X hg hsize hdg hW hn ⟨r1, r2, rfl, hB, F1, F2, hA, hS, hz, l0, l2, hp⟩
  have al' : Z.vm.Alike B.U.vm := hZ.alike.trans X'.warmed.alike
  have hsz : E'.slots.size = D.slots.size := by
    obtain ⟨-, -, -, kB, w1, w2, w3⟩ := q1
    obtain ⟨kB', y1, y2⟩ := al'.2.2 _ _ e3
    rw [q2.2.1] at w1
    cases w1.symm.trans y1
    rw [w3, e5 i3, y2]
  refine ⟨v, B, X', ⟨_, ⟨hv, ?_, ⟨by omega, fun y cy hy hn' => q10 y cy (by simpa using hn') hy, fun y cy hy => ?_⟩, q11, ⟨E', _, q1.1, by rw [q2.2.1]; exact e2, by rw [q2.2.1]; exact e3, by rw [q2.1]; exact obV, fun _ => by rw [hsz]; exact e5 i3⟩,
    ⟨E', cfV, kV, iV, fV, q1.1, gV, stV, by rw [q2.1]; exact knV, by rw [q2.1]; exact obV, by rw [q2.2.1]; exact asV, q3⟩, ⟨E', cfC, kC, iC, fC, q1.1, gC, stC, by rw [q2.1]; exact knV, by rw [q2.1]; exact obV, by rw [q2.2.1]; exact asC, q4⟩,
    ⟨V', ⟨q5.1, State.isArrayOf_alike al'.symm q5.2.1, q5.2.2.1⟩, q6, by rw [← al'.findClass]; exact q7, q8, fun j hj => by have := q9 j hj; rwa [Nat.zero_add] at this⟩, fun O n d w F n1 n2 => ?_⟩, hl, hc, hs⟩, st⟩
  · intro y hy
    simp only [List.mem_cons, List.not_mem_nil, or_false] at hy
    rcases hy with rfl | rfl <;> rfl
  · by_cases q : y = x
    · subst q
      cases hD.symm.trans hy
      exact ⟨E', q1.1, q2.2.1, q2.1, hsz⟩
    · exact ⟨cy, q10 y cy q hy, rfl, rfl, rfl⟩
  · obtain ⟨D3, cf, k, i, f, g1, g2, g3, g4, g5, g6, g7⟩ := F
    cases hD.symm.trans g1
    simp only [RoadKit.slotOf, g2, gV, gC, Option.map_some, Option.getD_some] at n1 n2
    exact ⟨E', cf, k, i, f, q1.1, g2, g3, by rw [q2.1]; exact g4, by rw [q2.1]; exact g5, by rw [q2.2.1]; exact g6, by rw [q2.2.2 f.slot (by simp [n1, n2])]; exact g7⟩
end StrChars.Road
namespace StrChars.Road
open Jvm Sem ClassFile Op Lib Jvm.Stand Jvm.Free Jvm.Free.XT
/-- WHAT COMES BACK, the byte[] as a list of values -/
def QA (Z : State) (x : Addr) (zn : Int32) (cs : List Int32) (h : Heap) (v : Option Value) (h' : Heap) (L : List Loc) : Prop := v = none ∧ (∀ y ∈ L, y.base = x) ∧ RoadKit.Keep h h' [x] ∧ h'.size = h.size + 1 ∧ RoadKit.Exa Z h' x ST ∧ RoadKit.Fld Z h' x ST "value" "[B" (.ref h.size) ∧ RoadKit.Fld Z h' x ST "coder" "B" (.int 0) ∧
  (∃ kb, Z.vm.findClass "[B" = some kb ∧ RoadKit.Arv Z h' h.size kb .byte zn (cs.map fun c => .int (lo8 c)) (.int 0)) ∧
  ∀ (O n d : String) (w : Value), RoadKit.Fld Z h x O n d w → RoadKit.slotOf Z O n d ≠ RoadKit.slotOf Z ST "value" "[B" → RoadKit.slotOf Z O n d ≠ RoadKit.slotOf Z ST "coder" "B" → RoadKit.Fld Z h' x O n d w
/-- **new String(chars) AT A CALL, THE ARRAYS AS LISTS**: the char[] at b holds cs, not empty, no char above 255 -/
theorem backArv {p : Program} {l : Launch} {e : Env} {R : Room} {s : State} {args : Array Value} {below : List Frame} {len W : Nat} {Z : State} {a0 : Array Value} {h : Heap} (hZ : Z.Warmed39 s.vm) (hw : ∀ d ∈ words, d.before a0 Z = true) {kI : Nat} (wi : (Jvm.Cond.instantiable ST kI).before a0 Z = true)
    {x b : Addr} {k : ClassId} {zn z : Int32} {cs : List Int32} {dv v0 c0 : Value} (E : RoadKit.Exa Z h x ST) (V : RoadKit.Fld Z h x ST "value" "[B" v0) (C : RoadKit.Fld Z h x ST "coder" "B" c0) (K : RoadKit.Arv Z h b k .char zn (cs.map Value.int) dv) (S : RoadKit.Sta Z h ST "COMPACT_STRINGS" "Z" (.int z)) (hz : ¬ z = 0)
    (hlen : zn.toNatClampNeg = cs.length) (h0 : 0 < cs.length) (hbig : cs.length ≤ 536870912) (hall : ∀ c ∈ cs, ¬ 255 < c) (hfr : 4 ≤ R.frames) (hlo : W + 65 ≤ R.locals) :
    Back l R p e below s args New1.yN len W (fun P a => a = #[.ref x, .ref b] ∧ P.U.heap = h ∧ P.cells + 1 ≤ R.cells ∧ P.slots + cs.length ≤ R.slots)
      (fun P _ v B => ∃ L, QA Z x zn cs h v B.U.heap L ∧ B.locs = P.locs ++ L ∧ B.cells = P.cells + 1 ∧ B.slots = P.slots + cs.length) := by
  obtain ⟨A, K1, K2, K3, K4, K5, K6⟩ := K
  have e : A.slots.size = cs.length := K3.trans hlen
  have hat : ∀ (i : Nat) (hi : i < cs.length), A.slots[i]? = some (.int cs[i]) := fun i hi => by rw [K5 i (by omega)]; simp [List.getD_eq_getElem?_getD, hi]
  have hcv : ∀ (i : Nat) (hi : i < cs.length), cv A i = cs[i] := fun i hi => by unfold cv; rw [hat i hi]
  have hty : Typed .char A := fun i v hv => by
    have hi : i < A.slots.size := (Array.getElem?_eq_some_iff.mp hv).1
    have q := K5 i hi
    rw [hv] at q
    rw [Option.some.inj q]
    exact K6 i hi
  refine Back.mono (back hZ hw wi E V C K1 hty S hz (by omega) (by omega) (fun i hi => by rw [hcv i (by omega)]; exact hall _ (List.getElem_mem _)) hfr hlo) (fun P a hp => ⟨hp.1, hp.2.1, hp.2.2.1, by rw [e]; exact hp.2.2.2⟩) (fun P a v B hp hq => ?_)
  obtain ⟨L, ⟨q1, q2, q3, q4, q5, q6, q7, ⟨V', v1, v2, v3, v4, v5⟩, q9⟩, hl, hc, hs⟩ := hq
  refine ⟨L, ⟨q1, q2, q3, q4, q5, q6, q7, ⟨V'.cls, v3, V', v1, rfl, by rw [v4, e, hlen], K4, fun i hi => ?_, fun i hi => ?_⟩, q9⟩, hl, hc, by rw [hs, e]⟩
  · have hi' : i < cs.length := by omega
    rw [v5 i (by omega), hcv i hi']; simp [List.getD_eq_getElem?_getD, hi']
  · have hi' : i < cs.length := by omega
    simp only [List.getD_eq_getElem?_getD, List.getElem?_map, List.getElem?_eq_getElem hi', Option.map_some, Option.getD_some]
    exact fits_lo8 _
end StrChars.Road
namespace StrChars.Road
open Jvm Sem ClassFile Op Lib Jvm.Stand Jvm.Free Jvm.Free.XT
/-- WHAT COMES BACK, in the writer's own shape -/
def QV (Z : State) (x : Addr) (N : Int32) (bs : List Int32) (h : Heap) (n0 : Nat) (v : Option Value) (h' : Heap) (L : List Loc) : Prop := v = none ∧ RoadKit.Fr n0 L ∧ RoadKit.Keep h h' [x] ∧ RoadKit.Exa Z h' x ST ∧ RoadKit.Fld Z h' x ST "coder" "B" (.int 0) ∧
  ∃ (t : Addr) (kb : ClassId), n0 ≤ t ∧ h.size ≤ t ∧ ¬ t = x ∧ RoadKit.Fld Z h' x ST "value" "[B" (.ref t) ∧ RoadKit.Arv Z h' t kb .byte N (bs.map Value.int) (.int 0)
/-- **new String(chars) AT A CALL, FOR THE WRITER**: a char[] of n known ints, each 0 to 255 -/
theorem backV {p : Program} {l : Launch} {e : Env} {R : Room} {s : State} {args : Array Value} {below : List Frame} {len W : Nat} {Z : State} {a0 : Array Value} {h : Heap} (hZ : Z.Warmed39 s.vm) (hw : ∀ d ∈ words, d.before a0 Z = true) {kI : Nat} (wi : (Jvm.Cond.instantiable ST kI).before a0 Z = true)
    {x b : Addr} {kC : ClassId} {cs bs : List Int32} {d v0 c0 : Value} {z N : Int32} {n n0 : Nat} (hx0 : n0 ≤ x) (hh0 : n0 ≤ h.size) (E : RoadKit.Exa Z h x ST) (V : RoadKit.Fld Z h x ST "value" "[B" v0) (C : RoadKit.Fld Z h x ST "coder" "B" c0) (K : RoadKit.Arv Z h b kC .char N (cs.map Value.int) d) (S : RoadKit.Sta Z h ST "COMPACT_STRINGS" "Z" (.int z)) (hz : ¬ z = 0)
    (hn : cs.length = n) (hN : N = Int32.ofNat n) (l0 : 0 < n) (l2 : n ≤ 4000) (hp : ∀ c ∈ cs, ¬ c < 0 ∧ ¬ (255 : Int32) < c) (hb : bs = cs.map (fun c => c.toInt8.toInt32)) (hfr : 4 ≤ R.frames) (hlo : W + 65 ≤ R.locals) :
    Back l R p e below s args (⟨"java/lang/String", "<init>", "([C)V"⟩ : MethodName) len W (fun P a => a = #[.ref x, .ref b] ∧ P.U.heap = h ∧ P.cells + 1 ≤ R.cells ∧ P.slots + n ≤ R.slots)
      (fun P _ v B => ∃ L, QV Z x N bs h n0 v B.U.heap L ∧ B.locs = P.locs ++ L ∧ B.cells = P.cells + 1 ∧ B.slots = P.slots + n) := by
  subst hn hN hb
  refine Back.mono (backArv hZ hw wi E V C K S hz (n32 (by omega)) l0 (by omega) (fun c hc => (hp c hc).2) hfr hlo) (fun P a hp => hp) (fun P a v B hp hq => ?_)
  obtain ⟨L, ⟨q1, q2, q3, q4, q5, q6, q7, ⟨kb, v1, v2⟩, q9⟩, hl, hc, hs⟩ := hq
  exact ⟨L, ⟨q1, fun y hy => by rw [q2 y hy]; exact hx0, q3, q5, q7, h.size, kb, hh0, Nat.le_refl _, Nat.ne_of_gt E.lt, q6, by rw [List.map_map]; exact v2⟩, hl, hc, hs⟩
end StrChars.Road
end Jvm.Pilot.@@N@@

namespace Jvm.RoadKit
open Sem ClassFile Op Lib Jvm.Stand Jvm.Free Jvm.LawKit
section Own
variable {p : Program} {l : Launch} {e : Env} {R : Room} {s : State} {m : MethodId} {args : Array Value} {below : List Frame} {meth : Method} {c : Code} {T : State} {locs : List Loc} {cells slots : Nat} {Z : State} {h h' : Heap} {a b : Addr} {ty : FieldType} {vs : List Value} {cl : Cell} {sl : Nat} {v : Value} {ws : List Addr}
theorem mw {α : Type} {x : α} {L : List α} (i : Nat) (q : L[i]? = some x) : x ∈ L := List.mem_of_getElem? q
/-- from A the body comes to its end, and Q holds there -/
def Goal (p : Program) (e : Env) (below : List Frame) (s : State) (Q : Option Value → Heap → List Loc → Prop) (k n : Nat) (A : State) : Prop :=
  ∃ s₂ o, Steps p.tables e below A s₂ ∧ s₂.status = .running ∧ Ended s₂ below o ∧ ∃ v L, o = .returned v ∧ Q v s₂.heap L ∧ FrameEnd s o s₂ L k n
variable {Q : Option Value → Heap → List Loc → Prop} {k n : Nat} {A B : State}
theorem Goal.to (f : ∀ t, Steps p.tables e below B t → Steps p.tables e below A t) (g : Goal p e below s Q k n B) : Goal p e below s Q k n A := by
  obtain ⟨s₂, o, h1, r⟩ := g
  exact ⟨s₂, o, f _ h1, r⟩
theorem Goal.tr (f : Steps p.tables e below A B) (g : Goal p e below s Q k n B) : Goal p e below s Q k n A := Goal.to (fun t q => f.trans q) g
theorem Goal.retV (X : Stand p l e R s m args below meth c T locs cells slots) (hx : p.tables.exec = Jvm.exec) {pc : Nat} {Ls : Array Slot} {w : Value} {t : FieldType} {i : Instr} {rest : List Value} (hret : meth.sig.returnType = some t) (hn : narrow t w = w)
    (hi : (i = .ireturn ∧ (t = .int ∨ t = .boolean ∨ t = .byte ∨ t = .char ∨ t = .short) ∧ ∃ z, w = .int z) ∨ (i = .lreturn ∧ t = .long ∧ ∃ z, w = .long z) ∨ (i = .dreturn ∧ t = .double ∧ ∃ z, w = .double z) ∨ (i = .freturn ∧ t = .float ∧ ∃ z, w = .float z) ∨ (i = .areturn ∧ t.isReference = true ∧ w.isRef = true))
    (hd : decode c.code pc = .ok (i, 1)) (hlk : meth.locks = false) (eT : T.heap = h) (hq : Q (some w) h locs) (hc : cells ≤ k) (hs : slots ≤ n) : Goal p e below s Q k n (T.setTop (mkF m pc Ls (w :: rest))) := by
  obtain ⟨fs, hr, hrun, hended, hW, hsame⟩ := X.leave (v := some w) (fun h => by rw [hret] at h; cases h) hlk
  refine ⟨_, _, retOut X hx hret hn hi hd hr, hrun, hended, _, _, rfl, ?_, ⟨_, rfl⟩, hW, hsame.mono hc hs⟩
  show Q (some w) T.heap locs
  rw [eT]; exact hq
theorem Goal.retN (X : Stand p l e R s m args below meth c T locs cells slots) (hx : p.tables.exec = Jvm.exec) {pc : Nat} {Ls : Array Slot} (hret : meth.sig.returnType = none)
    (hd : decode c.code pc = .ok (.return_, 1)) (hlk : meth.locks = false) (eT : T.heap = h) (hq : Q none h locs) (hc : cells ≤ k) (hs : slots ≤ n) : Goal p e below s Q k n (T.setTop (mkF m pc Ls [])) := by
  obtain ⟨fs, hr, hrun, hended, hW, hsame⟩ := X.leave (v := none) (fun _ => rfl) hlk
  refine ⟨_, _, X.returnOut hx hret hd hr, hrun, hended, _, _, rfl, ?_, ⟨_, rfl⟩, hW, hsame.mono hc hs⟩
  show Q none T.heap locs
  rw [eT]; exact hq
/-- the same, with the wide end: texts may have been interned -/
def GoalW (p : Program) (e : Env) (below : List Frame) (s : State) (Q : Option Value → Heap → List Loc → Prop) (k n : Nat) (A : State) : Prop :=
  ∃ s₂ o, Steps p.tables e below A s₂ ∧ s₂.status = .running ∧ Ended s₂ below o ∧ ∃ v L, o = .returned v ∧ Q v s₂.heap L ∧ ReturnedEndW s o s₂ L k n
theorem GoalW.to (f : ∀ t, Steps p.tables e below B t → Steps p.tables e below A t) (g : GoalW p e below s Q k n B) : GoalW p e below s Q k n A := by
  obtain ⟨s₂, o, h1, r⟩ := g
  exact ⟨s₂, o, f _ h1, r⟩
theorem GoalW.tr (f : Steps p.tables e below A B) (g : GoalW p e below s Q k n B) : GoalW p e below s Q k n A := GoalW.to (fun t q => f.trans q) g
theorem GoalW.retV {vm0 : Vm} (X : Stand p l e R (s.setVm vm0) m args below meth c T locs cells slots) {k0 : Nat} (hS : s.Since vm0 k0) (hx : p.tables.exec = Jvm.exec) {pc : Nat} {Ls : Array Slot} {w : Value} {t : FieldType} {i : Instr} {rest : List Value} (hret : meth.sig.returnType = some t) (hn : narrow t w = w)
    (hi : (i = .ireturn ∧ (t = .int ∨ t = .boolean ∨ t = .byte ∨ t = .char ∨ t = .short) ∧ ∃ z, w = .int z) ∨ (i = .lreturn ∧ t = .long ∧ ∃ z, w = .long z) ∨ (i = .dreturn ∧ t = .double ∧ ∃ z, w = .double z) ∨ (i = .freturn ∧ t = .float ∧ ∃ z, w = .float z) ∨ (i = .areturn ∧ t.isReference = true ∧ w.isRef = true))
    (hd : decode c.code pc = .ok (i, 1)) (hlk : meth.locks = false) (eT : T.heap = h) (hk : k0 ≤ h.size) (hq : Q (some w) h locs) (hc : cells ≤ k) (hs : slots ≤ n) : GoalW p e below s Q k n (T.setTop (mkF m pc Ls (w :: rest))) := by
  obtain ⟨fs, hr, hrun, hended, e1, e2, e3, e4⟩ := X.leaveW hS (by rw [eT]; exact hk) (v := some w) (fun h => by rw [hret] at h; cases h) hlk
  refine ⟨_, _, retOut X hx hret hn hi hd hr, hrun, hended, _, _, rfl, ?_, e1, e2, e3, e4.mono hc hs⟩
  show Q (some w) T.heap locs
  rw [eT]; exact hq
theorem nar01 {z : Int32} (q : z = 0 ∨ z = 1) : narrow .boolean (.int z) = .int z := by rcases q with rfl | rfl <;> rfl
theorem catV {r : Value} (q : r.isRef = true) : r.category = 1 := by rcases ref_cases q with rfl | ⟨o, rfl⟩ <;> rfl
theorem catR {o : Addr} : (Value.ref o).category = 1 := rfl
theorem catI {z : Int32} : (Value.int z).category = 1 := rfl
theorem catJ {z : Int64} : (Value.long z).category = 2 := rfl
theorem catN : Value.null.category = 1 := rfl
theorem narV {r : Value} {C : String} (q : r.isRef = true) : narrow (.object C) r = r := by rcases ref_cases q with rfl | ⟨o, rfl⟩ <;> rfl
theorem fitV {r : Value} {C : String} (q : r.isRef = true) : fits (.object C) r = true := by rcases ref_cases q with rfl | ⟨o, rfl⟩ <;> rfl
theorem selP {a0 : Array Value} {y : MethodName} {n : Nat} (hZ : Z.Warmed39 s.vm) (hins : (Cond.instantiable y.cls n).before a0 Z = true) (hp : (Cond.privateMethod y).before a0 Z = true) (hi : (Cond.instanceMethod y).before a0 Z = true) (hy : y.cls ≠ "java/lang/invoke/MethodHandle" ∧ y.cls ≠ "java/lang/invoke/VarHandle") : (Cond.selects y.cls y y).before args s = true := by
  obtain ⟨c, k, hc, hk, -, hniab, -, -⟩ := Cond.instantiable_spec (mv (args := args) hZ hins)
  exact selects_self_of_private hc hk (Bool.or_eq_false_iff.mp hniab).1 (Cond.privateMethod_at (mvP (args := args) hZ hp)) (mv hZ hi) hy
theorem Fr.eqv {k : Nat} {L L' : List Loc} (q : L = L') (N : Fr k L') : Fr k L := fun y hy => N y (q ▸ hy)
theorem Fld.cast {C n d : String} {w : Value} (F : Fld Z h a C n d v) (q : v = w) : Fld Z h a C n d w := q ▸ F
/-- an array of the heap by the whole list of what it holds -/
def Ary (Z : State) (h : Heap) (a : Addr) (ty : FieldType) (vs : List Value) : Prop := ∃ cl : Cell, Arr Z h a cl ty ∧ cl.slots.toList = vs
theorem Ary.cast {ws : List Value} (F : Ary Z h a ty vs) (q : vs = ws) : Ary Z h a ty ws := q ▸ F
theorem Ary.lt (F : Ary Z h a ty vs) : a < h.size := by obtain ⟨cl, A, -⟩ := F; exact A.lt
theorem Ary.ext (F : Ary Z h a ty vs) (E : Ext h h') : Ary Z h' a ty vs := by obtain ⟨cl, A, r⟩ := F; exact ⟨cl, A.ext E, r⟩
theorem Ary.other (F : Ary Z h a ty vs) (W : Wr h h' b sl v) (q : a ≠ b) : Ary Z h' a ty vs := by obtain ⟨cl, A, r⟩ := F; exact ⟨cl, A.other W q, r⟩
theorem Ary.keep (F : Ary Z h a ty vs) (K : Keep h h' ws) (q : a ∉ ws) : Ary Z h' a ty vs := by obtain ⟨cl, A, r⟩ := F; exact ⟨cl, ⟨K.2.1 a cl A.1 q, A.2⟩, r⟩
theorem Ary.new {k : ClassId} {z : Int32} {N : Nat} (A : Arr Z h a (newA k ty z) ty) (hz : z.toNatClampNeg = N) : Ary Z h a ty (List.replicate N (defaultValue ty)) := ⟨_, A, by simp [newA, hz]⟩
theorem Ary.put {j : Nat} {N : Nat} (A : Arr Z h a cl ty) (S : cl.slots.toList = vs) (W : Wr h h' a j v) (q : j = N) : Ary Z h' a ty (vs.set N v) := ⟨_, A.same W, by subst q; simp [Cell.setSlot, S]⟩
theorem sizeA (S : cl.slots.toList = vs) : cl.slots.size = vs.length := by rw [← S]; simp
theorem inA {j : Int32} (S : cl.slots.toList = vs) (q : ¬ j < 0) (r : j.toNatClampNeg < vs.length) : ¬ (j < 0 ∨ cl.slots.size ≤ j.toNatClampNeg) := by rw [sizeA S]; intro u; rcases u with u | u; exact q u; exact absurd r (Nat.not_lt.mpr u)
theorem atA {j : Nat} (S : cl.slots.toList = vs) (q : vs[j]? = some v) : cl.slots[j]? = some v := by rw [← q, ← S]; simp
theorem lenA {z : Int32} (S : cl.slots.toList = vs) (q : vs.length.toInt32 = z) : cl.slots.size.toInt32 = z := by rw [sizeA S]; exact q
/-- a static that stood when the law began, and what it holds -/
def StaN (Z : State) (n0 : Nat) (h : Heap) (C n d : String) (v : Value) : Prop := ∃ (cf i : Nat) (k : Class) (f : Field) (st : Addr) (cell : Cell), Z.fieldFound? C n d = some (cf, k, i, f) ∧ f.isStatic = true ∧ k.init = .initialized ∧ k.statics = some st ∧ h[st]? = some cell ∧ cell.vm.isStatics = true ∧ cell.slots[f.slot]? = some v ∧ st < n0
section StaN
variable {C nm d : String} {n0 : Nat}
theorem StaN.sta (F : StaN Z n0 h C nm d v) : Sta Z h C nm d v := by obtain ⟨cf, i, k, f, st, cell, h1, h2, h3, h4, h5, h6, h7, -⟩ := F; exact ⟨cf, i, k, f, st, cell, h1, h2, h3, h4, h5, h6, h7⟩
theorem Sta.toN (F : Sta Z h C nm d v) : StaN Z h.size h C nm d v := by obtain ⟨cf, i, k, f, st, cell, h1, h2, h3, h4, h5, h6, h7⟩ := F; exact ⟨cf, i, k, f, st, cell, h1, h2, h3, h4, h5, h6, h7, (Array.getElem?_eq_some_iff.mp h5).1⟩
theorem StaN.ext (F : StaN Z n0 h C nm d v) (E : Ext h h') : StaN Z n0 h' C nm d v := by obtain ⟨cf, i, k, f, st, cell, h1, h2, h3, h4, h5, r⟩ := F; exact ⟨cf, i, k, f, st, cell, h1, h2, h3, h4, E.2 _ _ h5, r⟩
theorem StaN.keep (F : StaN Z n0 h C nm d v) (K : Keep h h' ws) (q : ∀ x ∈ ws, n0 ≤ x) : StaN Z n0 h' C nm d v := by
  obtain ⟨cf, i, k, f, st, cell, h1, h2, h3, h4, h5, h6, h7, h8⟩ := F
  exact ⟨cf, i, k, f, st, cell, h1, h2, h3, h4, K.2.1 _ _ h5 (fun z => absurd h8 (Nat.not_lt.mpr (q _ z))), h6, h7, h8⟩
theorem StaN.wr {w : Value} (F : StaN Z n0 h C nm d v) (W : Wr h h' a sl w) : StaN Z n0 h' C nm d v := by
  obtain ⟨cf, i, k, f, st, cell, h1, h2, h3, h4, h5, h6, h7, h8⟩ := F
  obtain ⟨c', e1, -, -, -, e5, -, e7⟩ := wr_at W h5
  have ne : st ≠ a := fun e => by rw [(e7 e).2.2] at h6; cases h6
  exact ⟨cf, i, k, f, st, cell, h1, h2, h3, h4, by rw [← e5 ne]; exact e1, h6, h7, h8⟩
end StaN
/-- what may lie in an array of objects of class C (of arrays of class C) -/
def OvrO (Z : State) (h : Heap) (a : Addr) (C : String) : Prop := ∃ cl : Cell, h[a]? = some cl ∧ Ovr Z cl.cls C
theorem OvrO.ext {C : String} (F : OvrO Z h a C) (E : Ext h h') : OvrO Z h' a C := by obtain ⟨cl, h1, r⟩ := F; exact ⟨cl, E.2 _ _ h1, r⟩
theorem OvrO.wr {C : String} (F : OvrO Z h a C) (W : Wr h h' b sl v) : OvrO Z h' a C := by obtain ⟨cl, h1, r⟩ := F; obtain ⟨c', e1, e2, -⟩ := wr_at W h1; exact ⟨c', e1, by rw [e2]; exact r⟩
theorem OvrO.keep {C : String} (F : OvrO Z h a C) (K : Keep h h' ws) : OvrO Z h' a C := by obtain ⟨cl, h1, r⟩ := F; obtain ⟨c', e1, e2, -⟩ := K.2.2 _ _ h1; exact ⟨c', e1, by rw [e2]; exact r⟩
theorem stoO {C : String} {y : Addr} (A : Arr Z h a cl ty) (O : OvrO Z h a C) (I : Ins Z h y C true) : Sto Z h a (.ref y) := by
  obtain ⟨c', h1, r⟩ := O
  cases A.1.symm.trans h1
  exact Sto.of A r I
def OvrB (Z : State) (h : Heap) (a : Addr) (C : String) : Prop := ∃ (cl : Cell) (t : FieldType), h[a]? = some cl ∧ OvrA Z cl.cls t C
theorem OvrB.ext {C : String} (F : OvrB Z h a C) (E : Ext h h') : OvrB Z h' a C := by obtain ⟨cl, t, h1, r⟩ := F; exact ⟨cl, t, E.2 _ _ h1, r⟩
theorem OvrB.wr {C : String} (F : OvrB Z h a C) (W : Wr h h' b sl v) : OvrB Z h' a C := by obtain ⟨cl, t, h1, r⟩ := F; obtain ⟨c', e1, e2, -⟩ := wr_at W h1; exact ⟨c', t, e1, by rw [e2]; exact r⟩
theorem OvrB.keep {C : String} (F : OvrB Z h a C) (K : Keep h h' ws) : OvrB Z h' a C := by obtain ⟨cl, t, h1, r⟩ := F; obtain ⟨c', e1, e2, -⟩ := K.2.2 _ _ h1; exact ⟨c', t, e1, by rw [e2]; exact r⟩
theorem stoB {C : String} {y : Addr} (A : Arr Z h a cl ty) (O : OvrB Z h a C) (I : Ins Z h y C true) : Sto Z h a (.ref y) := by
  obtain ⟨c', t, h1, r⟩ := O
  cases A.1.symm.trans h1
  exact Sto.ofVA A rfl r I
theorem fits_nil : ∀ w ∈ ([] : List Value), fits ty w = true := fun _ q => nomatch q
theorem fits_cons (q : fits ty v = true) (r : ∀ w ∈ vs, fits ty w = true) : ∀ w ∈ v :: vs, fits ty w = true := fun w z => (List.mem_cons.mp z).elim (fun u => u ▸ q) (r w)
theorem Ary.arv {dv : Value} {z : Int32} (F : Ary Z h a ty vs) (hz : z.toNatClampNeg = vs.length) (h0 : ¬ z < 0) (hf : ∀ w ∈ vs, fits ty w = true) : ∃ k, Arv Z h a k ty z vs dv := by
  obtain ⟨cl, A, S⟩ := F
  have sz : cl.slots.size = vs.length := sizeA S
  refine ⟨_, cl, A, rfl, sz.trans hz.symm, h0, fun i hi => ?_, fun i hi => ?_⟩
  · rw [sz] at hi
    refine atA S ?_
    rw [List.getD_eq_getElem?_getD, List.getElem?_eq_getElem hi]; rfl
  · rw [sz] at hi
    rw [List.getD_eq_getElem?_getD, List.getElem?_eq_getElem hi]
    exact hf _ (List.getElem_mem hi)
theorem Arv.ary {k : ClassId} {z : Int32} {dv : Value} (F : Arv Z h a k ty z vs dv) (hz : z.toNatClampNeg = vs.length) : Ary Z h a ty vs := by
  obtain ⟨cl, A, -, S, -, H, -⟩ := F
  refine ⟨cl, A, List.ext_getElem? fun i => ?_⟩
  by_cases hi : i < cl.slots.size
  · have q := H i hi
    have hv : i < vs.length := by omega
    rw [List.getD_eq_getElem?_getD, List.getElem?_eq_getElem hv] at q
    rw [List.getElem?_eq_getElem hv, Array.getElem?_toList]; exact q
  · rw [List.getElem?_eq_none (by simp; omega), List.getElem?_eq_none (by omega)]
theorem storeV {Ls : Array Slot} {i : Nat} {r : Value} {o : Slot} {l' : Array Slot} (q : r.isRef = true) (ho : o = .unset ∨ ∃ w, o = .val w ∧ w.category = 1) (hold : Ls[i]? = some o := by rfl) (hl : Ls.setIfInBounds i (.val r) = l' := by rfl) : storeLocals Ls i r = some l' := by
  rw [← hl]; exact XS.store1 hold ho (catV q)
end Own
end Jvm.RoadKit
namespace Jvm.Pilot.@@N@@
open Jvm Jvm.ClassFile Sem Op Lib Jvm.Free Jvm.Stand Jvm.LawKit Jvm.RoadKit Bundle Jvm.Pilot.@@N@@.Jvm.D
theorem own_if (P : Prop) [Decidable P] : (if P then (1 : Int32) else (0 : Int32)) = 0 ∨ (if P then (1 : Int32) else (0 : Int32)) = 1 := by
  by_cases h : P
  · exact Or.inr (if_pos h)
  · exact Or.inl (if_neg h)
theorem own_inc {x : Int32} {b : Int} (h : x.toInt = b) (hb : -1000 < b ∧ b < 1000) : (x + (1 : Int32)).toInt = b + 1 := by
  have e1 : (1 : Int32).toInt = 1 := rfl
  rw [Jvm.Kit.i32_add (by rw [h, e1]; omega) (by rw [h, e1]; omega), h, e1]
theorem own_ix {x : Int32} {n : Nat} (h0 : 0 ≤ x.toInt) (h1 : x.toInt < (n : Int)) : ¬ x < 0 ∧ x.toNatClampNeg < n := by
  have e0 : (0 : Int32).toInt = 0 := rfl
  refine ⟨by rw [Int32.lt_iff_toInt_lt, e0]; omega, ?_⟩
  show x.toInt.toNat < n
  omega
theorem own_nlt {x y : Int32} (h : y.toInt ≤ x.toInt) : ¬ x < y := by rw [Int32.lt_iff_toInt_lt]; omega
theorem own_nlt0 {x : Int32} (h : 0 ≤ x.toInt) : ¬ x < (0 : Int32) := own_nlt (show (0 : Int32).toInt ≤ x.toInt from h)
theorem own_lt0 {x : Int32} (h : ¬ x < (0 : Int32)) : 0 ≤ x.toInt := by rw [Int32.lt_iff_toInt_lt, show (0 : Int32).toInt = 0 from rfl] at h; omega
theorem own_msb (x : Int32) : x.toBitVec.msb = decide (x.toInt < 0) := BitVec.msb_eq_toInt
theorem own_or {x y : Int32} (h : 0 ≤ x.toInt) (g : 0 ≤ y.toInt) : 0 ≤ (x ||| y).toInt := by
  have q := own_msb (x ||| y)
  rw [Int32.toBitVec_or, BitVec.msb_or, own_msb, own_msb] at q
  have a : decide (x.toInt < 0) = false := decide_eq_false (by omega)
  have b : decide (y.toInt < 0) = false := decide_eq_false (by omega)
  rw [a, b] at q
  have r := of_decide_eq_false q.symm
  omega
theorem own_len {n : Nat} (h : n ≤ 8) : (n.toInt32).toInt = (n : Int) := Int32.toInt_ofNat_small (by omega)
theorem own_b5 (y0 y1 y2 y3 y4 : Int32) {i : Nat} (h : i < 5) : ∃ z, ([.int y0, .int y1, .int y2, .int y3, .int y4] : List Value)[i]? = some (.int z) := by
  rcases (show i = 0 ∨ i = 1 ∨ i = 2 ∨ i = 3 ∨ i = 4 by omega) with rfl | rfl | rfl | rfl | rfl
  · exact ⟨y0, rfl⟩
  · exact ⟨y1, rfl⟩
  · exact ⟨y2, rfl⟩
  · exact ⟨y3, rfl⟩
  · exact ⟨y4, rfl⟩
theorem own_lit {k : Int32} {ln : Int32} {n : Int} (h : k < ln) (e : k.toInt = n) : n < ln.toInt := by have q := Int32.lt_iff_toInt_lt.mp h; omega
theorem own_and (u : Int32) : ¬ (u &&& (255 : Int32)) < 0 ∧ ¬ (255 : Int32) < (u &&& (255 : Int32)) := by
  have q := Jvm.Kit.i32_mask u 255 (k := 8) (by decide) (by decide)
  have e0 : (0 : Int32).toInt = 0 := rfl
  have e1 : (255 : Int32).toInt = 255 := rfl
  rw [Int32.lt_iff_toInt_lt, Int32.lt_iff_toInt_lt, e0, e1, q]
  omega
theorem own_lat (u : Int32) : ¬ (nar .char ((u &&& (255 : Int32)).toUInt32.toUInt16.toUInt32.toInt32)) < 0 ∧ ¬ (255 : Int32) < (nar .char ((u &&& (255 : Int32)).toUInt32.toUInt16.toUInt32.toInt32)) := by
  rw [show nar .char ((u &&& (255 : Int32)).toUInt32.toUInt16.toUInt32.toInt32) = u &&& 255 from by simp only [nar, i2c_mask]]
  exact own_and u
theorem own_min {x y : Int32} : (if y < x then y else x).toInt = min x.toInt y.toInt := by
  by_cases h : y < x
  · rw [if_pos h]; have := Int32.lt_iff_toInt_lt.mp h; omega
  · rw [if_neg h]; have : ¬ y.toInt < x.toInt := fun q => h (Int32.lt_iff_toInt_lt.mpr q); omega
/-- every one a char -/
def own_C (xs : List Value) : Prop := ∀ w ∈ xs, fits .char w = true
theorem own_Cset {xs : List Value} (h : own_C xs) {k : Nat} {x : Int32} : own_C (xs.set k (.int (nar .char x))) := fun w hw => by
  rcases List.mem_or_eq_of_mem_set hw with q | q
  · exact h w q
  · rw [q]; exact fits_nar_char x
theorem own_C0 {n : Nat} : own_C (List.replicate n (.int (0 : Int32))) := fun w hw => by rw [List.eq_of_mem_replicate hw]; rfl
theorem own_copy {p : Program} {l : Launch} {e : Env} {R : Room} {s : State} {m : MethodId} {args : Array Value} {below : List Frame} {meth : Method} {c : Code} {T : State} {locs : List Loc} {cells slots : Nat} {Z : State} {h : Heap} {b : Addr} {xs : List Value}
    (X : Stand p l e R s m args below meth c T locs cells slots) (hx : p.tables.exec = Jvm.exec) (hZ : Z.Warmed39 s.vm) {a0 : Array Value} {own : String} {index : Nat} (hown : s.vm.findClass own = some m.cls)
    (w1 : (Cond.methodLink own index Jvm.Stand.acN).before a0 Z = true) (w2 : (Cond.native Jvm.Stand.acN).before a0 Z = true) (w3 : (Cond.static Jvm.Stand.acN).before a0 Z = true) (w4 : (Cond.initialized "java/lang/System").before a0 Z = true) (eT : T.heap = h)
    (A : Ary Z h b .char xs) (h8 : xs.length ≤ 8) (hC : own_C xs) {sp nn : Int32} (h1 : 0 ≤ sp.toInt) (h3 : 0 ≤ nn.toInt) (h4 : sp.toInt + nn.toInt ≤ (xs.length : Int)) {n0 : Nat} (N : Fr n0 locs) (ge : n0 ≤ b)
    {g : JFrame} (hg : g.method = m) (hsize : g.locals.size = c.maxLocals) {rest : List Value} (hs : g.stack = .int nn :: .int (0 : Int32) :: .ref b :: .int sp :: .ref b :: rest) (hd : decode c.code g.pc = .ok (.invokestatic index, 3))
    (hf : 1 ≤ R.frames) {W : Nat} (hW : 2 * g.monitorRoom + (rest.map fun v => v.category).sum ≤ W) (hlo : W + (nativeFrameWords "java/lang/System" "arraycopy" 5 + 11) ≤ R.locals) :
    ∃ (_ : True) (T' : State) (h' : Heap) (L : List Loc), Stand p l e R s m args below meth c T' L cells slots ∧ T'.heap = h' ∧ Fr n0 L ∧ Keep h h' [b] ∧ ∃ ys : List Value, Ary Z h' b .char ys ∧ ys.length = xs.length ∧ own_C ys ∧
      ∀ target, Steps p.tables e below (T'.setTop { g with pc := g.pc + 3, stack := rest }) target → Steps p.tables e below (T.setTop g) target := by
  have e0 : (0 : Int32).toInt = 0 := rfl
  have en := own_len h8
  have hz : (xs.length.toInt32).toNatClampNeg = xs.length := by show (xs.length.toInt32).toInt.toNat = _; rw [en]; rfl
  have hz0 : ¬ xs.length.toInt32 < 0 := by rw [Int32.lt_iff_toInt_lt, en, e0]; omega
  obtain ⟨k, V⟩ := Ary.arv (dv := .int (0 : Int32)) A hz hz0 hC
  have c1 : sp.toNatClampNeg = sp.toInt.toNat := rfl
  have c2 : nn.toNatClampNeg = nn.toInt.toNat := rfl
  have c3 : (0 : Int32).toNatClampNeg = 0 := rfl
  obtain ⟨T', h', L, X', e', N', K', V', st⟩ := cpA X hx hZ hown w1 w2 w3 w4 eT V V (Or.inl ⟨rfl, rfl⟩) (sp := sp) (dp := (0 : Int32)) (nn := nn) (by rw [Int32.lt_iff_toInt_lt, e0]; omega) (by decide) (by rw [Int32.lt_iff_toInt_lt, e0]; omega) (by rw [hz]; omega) (by rw [hz, c3]; omega) rfl (by rw [c3]; omega) N ge hg hsize hs hd hf hW hlo
  refine ⟨trivial, T', h', L, X', e', N', K', _, Arv.ary V' ?_, ?_, ?_, st⟩
  · rw [hz]; simp [c3]; omega
  · simp [c3]; omega
  · intro w hw
    simp only [List.mem_append] at hw
    rcases hw with (hw | hw) | hw
    · exact hC w (List.mem_of_mem_take hw)
    · obtain ⟨i, hi, rfl⟩ := List.mem_map.mp hw
      have hi' := List.mem_range.mp hi
      have hl : sp.toNatClampNeg + i < xs.length := by omega
      rw [List.getD_eq_getElem?_getD, List.getElem?_eq_getElem hl]
      exact hC _ (List.getElem_mem hl)
    · exact hC w (List.mem_of_mem_drop hw)
theorem own_a7 {u n : Int32} (h : n = ((1 : Int32) + (u &&& (7 : Int32)))) : 1 ≤ n.toInt ∧ n.toInt ≤ 8 := by
  have q := Jvm.Kit.i32_mask u 7 (k := 3) (by decide) (by decide)
  have e1 : (1 : Int32).toInt = 1 := rfl
  rw [h, Jvm.Kit.i32_add (by rw [e1, q]; omega) (by rw [e1, q]; omega), e1, q]; omega
theorem own_m1 {u : Int32} : 0 ≤ (u &&& (2147483647 : Int32)).toInt := by
  have q := Jvm.Kit.i32_mask u 2147483647 (k := 31) (by decide) (by decide)
  rw [q]; omega
theorem own_rem1 {u f g : Int32} (hf : 0 ≤ f.toInt ∧ f.toInt ≤ 8) (h : g = ((u &&& (2147483647 : Int32)) % (f + (1 : Int32)))) : 0 ≤ g.toInt ∧ g.toInt ≤ f.toInt := by
  have e := own_inc (x := f) rfl (by omega)
  have q := Jvm.Kit.i32_rem_nonneg (x := u &&& 2147483647) (y := f + 1) own_m1
  rw [← h, e] at q
  have a := Int.emod_nonneg (u &&& 2147483647).toInt (show f.toInt + 1 ≠ 0 by omega)
  have b := Int.emod_lt_of_pos (u &&& 2147483647).toInt (show 0 < f.toInt + 1 by omega)
  omega
theorem own_nz {f : Int32} (hf : 0 ≤ f.toInt ∧ f.toInt ≤ 8) : (f + (1 : Int32)) ≠ (0 : Int32) := fun q => by
  have e := own_inc (x := f) rfl (by omega)
  rw [q, show (0 : Int32).toInt = 0 from rfl] at e
  omega
theorem own_end {P : Prop} [Decidable P] {sj ej uj : Int64} (hs : 0 ≤ sj.toInt ∧ sj.toInt ≤ 1000) (h : ej = if P then (sj + ((uj.toUInt64 >>> ((2 : Int32) &&& 0x3f).toInt64.toUInt64).toInt64)) else (sj + (uj &&& (7 : Int64)))) : sj.toInt ≤ ej.toInt := by
  by_cases q : P
  · rw [if_pos q] at h
    have b : ∃ k : Int, ((uj.toUInt64 >>> ((2 : Int32) &&& 0x3f).toInt64.toUInt64).toInt64).toInt = k ∧ 0 ≤ k ∧ k < 2 ^ 62 := by
      refine ⟨_, rfl, ?_⟩
      have n1 : ((uj.toUInt64 >>> ((2 : Int32) &&& 0x3f).toInt64.toUInt64).toInt64).toBitVec.toNat = uj.toBitVec.toNat / 4 := by
        simp only [UInt64.toBitVec_toInt64, UInt64.toBitVec_shiftRight, Int64.toBitVec_toUInt64]
        rw [show (((2 : Int32) &&& 0x3f).toInt64).toBitVec % 64 = 2#64 from by decide]
        simp [BitVec.toNat_ushiftRight, Nat.shiftRight_eq_div_pow]
      have lt := uj.toBitVec.isLt
      have e : ((uj.toUInt64 >>> ((2 : Int32) &&& 0x3f).toInt64.toUInt64).toInt64).toInt = ((uj.toUInt64 >>> ((2 : Int32) &&& 0x3f).toInt64.toUInt64).toInt64).toBitVec.toInt := rfl
      rw [e, BitVec.toInt_eq_toNat_cond, n1, if_pos (by omega)]
      omega
    obtain ⟨k, e, k0, k1⟩ := b
    rw [h, Jvm.Kit.i64_add (by rw [e]; omega) (by rw [e]; omega), e]; omega
  · rw [if_neg q] at h
    have m := Jvm.Kit.i64_mask uj 7 (k := 3) (by decide) (by decide)
    rw [h, Jvm.Kit.i64_add (by rw [m]; omega) (by rw [m]; omega), m]; omega
theorem own_held {sj : Int64} {fl : Int32} (hs : 0 ≤ sj.toInt ∧ sj.toInt ≤ 1000) (hf : 0 ≤ fl.toInt ∧ fl.toInt ≤ 8) : (sj + (fl.toInt64)).toInt = sj.toInt + fl.toInt := by
  rw [Jvm.Kit.i64_add (by rw [Jvm.Kit.i64_of_i32]; omega) (by rw [Jvm.Kit.i64_of_i32]; omega), Jvm.Kit.i64_of_i32]
theorem own_cut {sj ej : Int64} {fl : Int32} (hs : 0 ≤ sj.toInt ∧ sj.toInt ≤ 1000) (hf : 0 ≤ fl.toInt ∧ fl.toInt ≤ 8) (he : sj.toInt ≤ ej.toInt) (hc : ej < (sj + (fl.toInt64))) : (sj + (((ej - sj).toInt32).toInt64)) = ej := by
  have h := own_held hs hf
  have q := Int64.lt_iff_toInt_lt.mp hc
  rw [h] at q
  have a : (ej - sj).toInt = ej.toInt - sj.toInt := Jvm.Kit.i64_sub (by omega) (by omega)
  have b : ((ej - sj).toInt32).toInt = ej.toInt - sj.toInt := by rw [Jvm.Kit.i32_of_i64 (by rw [a]; omega) (by rw [a]; omega), a]
  apply Int64.toInt_inj.mp
  rw [Jvm.Kit.i64_add (by rw [Jvm.Kit.i64_of_i32, b]; omega) (by rw [Jvm.Kit.i64_of_i32, b]; omega), Jvm.Kit.i64_of_i32, b]; omega
theorem own_ws : ∀ d ∈ StrChars.Road.words, d ∈ tables_1 :=
  List.forall_mem_cons.mpr ⟨List.mem_of_getElem? (i := 6) rfl,
  List.forall_mem_cons.mpr ⟨List.mem_of_getElem? (i := 3) rfl,
  List.forall_mem_cons.mpr ⟨List.mem_of_getElem? (i := 7) rfl,
  List.forall_mem_cons.mpr ⟨List.mem_of_getElem? (i := 8) rfl,
  List.forall_mem_cons.mpr ⟨List.mem_of_getElem? (i := 10) rfl,
  List.forall_mem_cons.mpr ⟨List.mem_of_getElem? (i := 14) rfl,
  List.forall_mem_cons.mpr ⟨List.mem_of_getElem? (i := 29) rfl,
  List.forall_mem_cons.mpr ⟨List.mem_of_getElem? (i := 28) rfl,
  List.forall_mem_cons.mpr ⟨List.mem_of_getElem? (i := 27) rfl,
  List.forall_mem_cons.mpr ⟨List.mem_of_getElem? (i := 26) rfl,
  List.forall_mem_cons.mpr ⟨List.mem_of_getElem? (i := 11) rfl,
  List.forall_mem_cons.mpr ⟨List.mem_of_getElem? (i := 12) rfl,
  List.forall_mem_cons.mpr ⟨List.mem_of_getElem? (i := 13) rfl,
  List.forall_mem_cons.mpr ⟨List.mem_of_getElem? (i := 15) rfl,
  List.forall_mem_cons.mpr ⟨List.mem_of_getElem? (i := 16) rfl,
  List.forall_mem_cons.mpr ⟨List.mem_of_getElem? (i := 23) rfl,
  List.forall_mem_cons.mpr ⟨List.mem_of_getElem? (i := 24) rfl,
  List.forall_mem_cons.mpr ⟨List.mem_of_getElem? (i := 18) rfl,
  List.forall_mem_cons.mpr ⟨List.mem_of_getElem? (i := 17) rfl,
  List.forall_mem_cons.mpr ⟨List.mem_of_getElem? (i := 19) rfl,
  List.forall_mem_cons.mpr ⟨List.mem_of_getElem? (i := 20) rfl,
  List.forall_mem_cons.mpr ⟨List.mem_of_getElem? (i := 21) rfl,
  List.forall_mem_cons.mpr ⟨List.mem_of_getElem? (i := 22) rfl,
  List.forall_mem_cons.mpr ⟨List.mem_of_getElem? (i := 25) rfl,
  fun _ h => nomatch h⟩⟩⟩⟩⟩⟩⟩⟩⟩⟩⟩⟩⟩⟩⟩⟩⟩⟩⟩⟩⟩⟩⟩⟩
theorem ef_9 (m : MethodId) (x0 : Addr)  : entryFrame m #[(.ref x0)] 1 = mkF m 0 #[.val (.ref x0)] [] := by first | (simp [entryFrame, mkF, argsToLocals, Value.category]; done) | rfl
theorem pn_9 : plainName "java/lang/String" = true := by first | (simp [plainName, overriddenIn]; done) | decide +kernel
theorem d9_0 : decode jdk_42_method_152_code 0 = .ok (.getstatic 38, 3) := by decide +kernel
theorem d9_3 : decode jdk_42_method_152_code 3 = .ok (.ifCond .eq 10, 3) := by decide +kernel
theorem d9_6 : decode jdk_42_method_152_code 6 = .ok (.aload_n 0, 1) := by decide +kernel
theorem d9_7 : decode jdk_42_method_152_code 7 = .ok (.getfield 15, 3) := by decide +kernel
theorem d9_10 : decode jdk_42_method_152_code 10 = .ok (.goto 4, 3) := by decide +kernel
theorem d9_14 : decode jdk_42_method_152_code 14 = .ok (.ireturn, 1) := by decide +kernel
def Qco (Z : State) (vt : Addr) (zc : Int32) (h0 : Heap) (n0 : Nat) (v : Option Value) (h : Heap) (L : List Loc) : Prop := v = some (.int (0 : Int32)) ∧ Fr n0 L ∧ h = h0
set_option maxRecDepth 65536 in
set_option maxHeartbeats 40000000 in
theorem rmco (l : Launch) (Z : State) (a0 : Array Value) (hw : ∀ d ∈ tables_1, d.before a0 Z = true) (ws : List Jvm.Cond) (vt : Addr) (zc : Int32) (h0 : Heap) (n0 : Nat) (Z0 : n0 ≤ h0.size) (F_coder_vt : Fld Z h0 vt "java/lang/String" "coder" "B" (.int (0 : Int32))) (S_COMPACT_STRINGS : StaN Z n0 h0 "java/lang/String" "COMPACT_STRINGS" "Z" (.int zc)) (hCS : ¬ (zc = (0 : Int32))) :
    MetFree l (⟨"java/lang/String", "coder", "()B"⟩ : MethodName) (head1 (Jvm.Cond.code (⟨"java/lang/String", "coder", "()B"⟩ : MethodName) jdk_42_method_152_code 1 (some .byte) :: ws) ({ frames := 0, cells := 0, slots := 0, locals := 0 } : Room)) (fun a U => a = #[(.ref vt)] ∧ Z.Warmed39 U.vm ∧ U.heap = h0) (fun _ _ _ _ _ => True) (fun _ U o U' => ∃ v L, o = .returned v ∧ Qco Z vt zc h0 n0 v U'.heap L ∧ FrameEnd U o U' L 0 0) := by
  refine MetFree.of_bodySF (plainFor_of_name pn_9) hisR ?_
  intro p e s m args below meth c s₁ Bd hml0 hP hK
  obtain ⟨rfl, hZ, hh⟩ := hP
  have hx := Bd.exec
  have hby := Bd.bytes
  have hml : c.maxLocals = 1 := hml0
  have hown : s.vm.findClass "java/lang/String" = some m.cls := findClass_of_methodNamed Bd.named
  have hnm := (name_of_methodNamed Bd.named Bd.method).1
  have X0 : Stand p l e ({ frames := 0, cells := 0, slots := 0, locals := 0 } : Room) s m #[(.ref vt)] below meth c s₁ [] 0 0 := Stand.of_body Bd
  have e0 : s₁.heap = h0 := by rw [← hh, Bd.state]; rfl
  have N0 := Fr.nil n0
  have hlk : meth.locks = false := BodyLoose.notSynchronized Bd
  show Goal p e below s (Qco Z vt zc h0 n0) 0 0 (s₁.setTop (entryFrame m #[(.ref vt)] 1))
  refine Goal.to (B := s₁.setTop (mkF m 0 #[.val (.ref vt)] [])) (fun tt kk => castTop (ef_9 m vt ) kk) ?_
  obtain ⟨T1, X1, e1, st1⟩ := getS2 X0 hx hZ hown (host := "") (Or.inl (hw _ (mw 14 rfl))) Via.refl e0 S_COMPACT_STRINGS.sta (g := (mkF m 0 #[.val (.ref vt)] [])) rfl (hb hby d9_0)
  refine Goal.to (B := T1.setTop (mkF m 3 #[.val (.ref vt)] [(.int zc)])) st1 ?_
  refine Goal.to (B := T1.setTop (mkF m 7 #[.val (.ref vt)] [(.ref vt)])) (fun tt kk => ?_) ?_
  · show Steps p.tables e below (T1.setTop (mkF m 3 #[.val (.ref vt)] [(.int zc)])) tt
    refine XS.ifNo X1.here hx rfl (hb hby d9_3) rfl ((if0 _ _).trans (feq hCS).1) ?_
    show Steps p.tables e below (T1.setTop (mkF m 6 #[.val (.ref vt)] [])) tt
    refine XS.aloadN X1.here hx rfl (hb hby d9_6) rfl rfl ?_
    exact kk
  obtain ⟨T2, X2, e2, st2⟩ := getF X1 hx hZ hown (host := "") (Or.inl (hw _ (mw 26 rfl))) Via.refl e1 F_coder_vt (g := (mkF m 7 #[.val (.ref vt)] [(.ref vt)])) rfl rfl (hb hby d9_7)
  refine Goal.to (B := T2.setTop (mkF m 10 #[.val (.ref vt)] [(.int (0 : Int32))])) st2 ?_
  refine Goal.to (B := T2.setTop (mkF m 14 #[.val (.ref vt)] [(.int (0 : Int32))])) (fun tt kk => ?_) ?_
  · show Steps p.tables e below (T2.setTop (mkF m 10 #[.val (.ref vt)] [(.int (0 : Int32))])) tt
    refine XS.goto X2.here hx rfl (pc0 := 10) (pc' := 14) rfl (hb hby d9_10) (by decide) (by decide) ?_
    exact kk
  exact Goal.retV X2 hx Bd.returns rfl (Or.inl ⟨rfl, Or.inr (Or.inr (Or.inl rfl)), _, rfl⟩) (hb hby d9_14) hlk e2 ⟨rfl, N0, rfl⟩ (by decide) (by decide)
theorem ef_8 (m : MethodId) (x0 : Addr)  : entryFrame m #[(.ref x0)] 1 = mkF m 0 #[.val (.ref x0)] [] := by first | (simp [entryFrame, mkF, argsToLocals, Value.category]; done) | rfl
theorem pn_8 : plainName "java/lang/String" = true := by first | (simp [plainName, overriddenIn]; done) | decide +kernel
theorem d8_0 : decode jdk_42_method_54_code 0 = .ok (.aload_n 0, 1) := by decide +kernel
theorem d8_1 : decode jdk_42_method_54_code 1 = .ok (.getfield 9, 3) := by decide +kernel
theorem d8_4 : decode jdk_42_method_54_code 4 = .ok (.arraylength, 1) := by decide +kernel
theorem d8_5 : decode jdk_42_method_54_code 5 = .ok (.aload_n 0, 1) := by decide +kernel
theorem pd_8 : parseMethodDescriptor "()B" = some ⟨[], some .byte⟩ := by decide +kernel
theorem d8_6 : decode jdk_42_method_54_code 6 = .ok (.invokevirtual 335, 3) := by decide +kernel
theorem d8_9 : decode jdk_42_method_54_code 9 = .ok (.ishr, 1) := by decide +kernel
theorem d8_10 : decode jdk_42_method_54_code 10 = .ok (.ireturn, 1) := by decide +kernel
def Qle (Z : State) (vt : Addr) (tb : Addr) (zc : Int32) (y0 : Int32) (y1 : Int32) (y2 : Int32) (y3 : Int32) (y4 : Int32) (h0 : Heap) (n0 : Nat) (v : Option Value) (h : Heap) (L : List Loc) : Prop := v = some (.int (5 : Int32)) ∧ Fr n0 L ∧ h = h0
set_option maxRecDepth 65536 in
set_option maxHeartbeats 40000000 in
theorem rmle (l : Launch) (Z : State) (a0 : Array Value) (hw : ∀ d ∈ tables_1, d.before a0 Z = true) (ws : List Jvm.Cond) (vt : Addr) (tb : Addr) (zc : Int32) (y0 : Int32) (y1 : Int32) (y2 : Int32) (y3 : Int32) (y4 : Int32) (h0 : Heap) (n0 : Nat) (Z0 : n0 ≤ h0.size) (E_vt : Exa Z h0 vt "java/lang/String") (F_value_vt : Fld Z h0 vt "java/lang/String" "value" "[B" (.ref tb)) (F_coder_vt : Fld Z h0 vt "java/lang/String" "coder" "B" (.int (0 : Int32))) (V_tb : Ary Z h0 tb .byte [(.int y0), (.int y1), (.int y2), (.int y3), (.int y4)]) (S_COMPACT_STRINGS : StaN Z n0 h0 "java/lang/String" "COMPACT_STRINGS" "Z" (.int zc)) (hCS : ¬ (zc = (0 : Int32))) :
    MetFree l (⟨"java/lang/String", "length", "()I"⟩ : MethodName) (head1 (Jvm.Cond.code (⟨"java/lang/String", "length", "()I"⟩ : MethodName) jdk_42_method_54_code 1 (some .int) :: ws) ({ frames := 1, cells := 0, slots := 0, locals := 13 } : Room)) (fun a U => a = #[(.ref vt)] ∧ Z.Warmed39 U.vm ∧ U.heap = h0) (fun _ _ _ _ _ => True) (fun _ U o U' => ∃ v L, o = .returned v ∧ Qle Z vt tb zc y0 y1 y2 y3 y4 h0 n0 v U'.heap L ∧ FrameEnd U o U' L 0 0) := by
  refine MetFree.of_bodySF (plainFor_of_name pn_8) hisR ?_
  intro p e s m args below meth c s₁ Bd hml0 hP hK
  obtain ⟨rfl, hZ, hh⟩ := hP
  have hx := Bd.exec
  have hby := Bd.bytes
  have hml : c.maxLocals = 1 := hml0
  have hown : s.vm.findClass "java/lang/String" = some m.cls := findClass_of_methodNamed Bd.named
  have hnm := (name_of_methodNamed Bd.named Bd.method).1
  have X0 : Stand p l e ({ frames := 1, cells := 0, slots := 0, locals := 13 } : Room) s m #[(.ref vt)] below meth c s₁ [] 0 0 := Stand.of_body Bd
  have e0 : s₁.heap = h0 := by rw [← hh, Bd.state]; rfl
  have N0 := Fr.nil n0
  have hlk : meth.locks = false := BodyLoose.notSynchronized Bd
  show Goal p e below s (Qle Z vt tb zc y0 y1 y2 y3 y4 h0 n0) 0 0 (s₁.setTop (entryFrame m #[(.ref vt)] 1))
  refine Goal.to (B := s₁.setTop (mkF m 0 #[.val (.ref vt)] [])) (fun tt kk => castTop (ef_8 m vt ) kk) ?_
  refine Goal.to (B := s₁.setTop (mkF m 1 #[.val (.ref vt)] [(.ref vt)])) (fun tt kk => ?_) ?_
  · show Steps p.tables e below (s₁.setTop (mkF m 0 #[.val (.ref vt)] [])) tt
    refine XS.aloadN X0.here hx rfl (hb hby d8_0) rfl rfl ?_
    exact kk
  obtain ⟨T1, X1, e1, st1⟩ := getF X0 hx hZ hown (host := "") (Or.inl (hw _ (mw 28 rfl))) Via.refl e0 F_value_vt (g := (mkF m 1 #[.val (.ref vt)] [(.ref vt)])) rfl rfl (hb hby d8_1)
  refine Goal.to (B := T1.setTop (mkF m 4 #[.val (.ref vt)] [(.ref tb)])) st1 ?_
  obtain ⟨cl2, Ar2, Sl2⟩ := id V_tb
  have ln2 : cl2.slots.size.toInt32 = (5 : Int32) := lenA Sl2 rfl
  refine Goal.to (B := T1.setTop (mkF m 6 #[.val (.ref vt)] [(.ref vt), (.int (5 : Int32))])) (fun tt kk => ?_) ?_
  · show Steps p.tables e below (T1.setTop (mkF m 4 #[.val (.ref vt)] [(.ref tb)])) tt
    refine X1.arraylength hx (by rw [e1]; exact Ar2.1) (State.isArrayOf_alike hZ.alike Ar2.2.1) (g := (mkF m 4 #[.val (.ref vt)] [(.ref tb)])) rfl rfl (hb hby d8_4) _ ?_
    rw [ln2]
    show Steps p.tables e below (T1.setTop (mkF m 5 #[.val (.ref vt)] [(.int (5 : Int32))])) tt
    refine XS.aloadN X1.here hx rfl (hb hby d8_5) rfl rfl ?_
    exact kk
  obtain ⟨cq3, kq3, q3a, q3b, q3c⟩ := isOf hZ e1 E_vt
  obtain ⟨_, _, ⟨T3, L3, k3, n3⟩, -, X3, ⟨Lc3, hQ3, l3, y3, z3⟩, st3⟩ := X1.virtualBack hx (y := (⟨"java/lang/String", "coder", "()B"⟩ : MethodName)) (z := (⟨"java/lang/String", "coder", "()B"⟩ : MethodName)) hown (mvT hZ (hw _ (mw 48 rfl))) (mvT hZ (hw _ (mw 49 rfl))) (notFace_of_selects (args := #[]) (mvT hZ (hw _ (mw 51 rfl)))) (mvT hZ (hw _ (mw 51 rfl))) (mvT hZ (hw _ (mw 50 rfl))) (by decide) (backOf (W := 1) (rmco l Z a0 hw [] vt zc h0 n0 Z0 F_coder_vt S_COMPACT_STRINGS (by assumption)) hZ (hw _ (mw 52 rfl)) (hw _ (mw 3 rfl)) (by decide) (by decide)) q3a q3c (g := (mkF m 6 #[.val (.ref vt)] [(.ref vt), (.int (5 : Int32))])) rfl (by rw [hml]; rfl) (Steps.refl _) (argsL := []) (rest := [(.int (5 : Int32))]) (lenOf pd_8 rfl) rfl (by show 2 * 0 + _ ≤ _; exact Nat.le_of_eq rfl) (hb hby d8_6) (fun _ _ => ⟨rfl, e1, (by decide : 0 + 0 ≤ _), (by decide : 0 + 0 ≤ _)⟩)
  dsimp only [Pt.U, Pt.locs, Pt.cells, Pt.slots] at X3 l3 y3 z3 st3 hQ3
  subst y3 z3
  obtain ⟨rfl, N3q, e3⟩ := hQ3
  have N3 := Fr.eqv l3 (Fr.app N0 N3q)
  refine Goal.tr (B := T3.setTop (mkF m 9 #[.val (.ref vt)] [(.int (0 : Int32)), (.int (5 : Int32))])) st3 ?_
  refine Goal.to (B := T3.setTop (mkF m 10 #[.val (.ref vt)] [(.int (5 : Int32))])) (fun tt kk => ?_) ?_
  · show Steps p.tables e below (T3.setTop (mkF m 9 #[.val (.ref vt)] [(.int (0 : Int32)), (.int (5 : Int32))])) tt
    refine XS.ishr X3.here hx rfl (hb hby d8_9) rfl ?_
    exact kk
  exact Goal.retV X3 hx Bd.returns rfl (Or.inl ⟨rfl, Or.inl rfl, _, rfl⟩) (hb hby d8_10) hlk e3 ⟨rfl, N3, rfl⟩ (by decide) (by decide)
theorem ef_20 (m : MethodId) (x0 : Addr)  : entryFrame m #[(.ref x0)] 1 = mkF m 0 #[.val (.ref x0)] [] := by first | (simp [entryFrame, mkF, argsToLocals, Value.category]; done) | rfl
theorem pn_20 : plainName "java/lang/String" = true := by first | (simp [plainName, overriddenIn]; done) | decide +kernel
theorem d20_0 : decode jdk_42_method_154_code 0 = .ok (.getstatic 38, 3) := by decide +kernel
theorem d20_3 : decode jdk_42_method_154_code 3 = .ok (.ifCond .eq 14, 3) := by decide +kernel
theorem d20_6 : decode jdk_42_method_154_code 6 = .ok (.aload_n 0, 1) := by decide +kernel
theorem d20_7 : decode jdk_42_method_154_code 7 = .ok (.getfield 15, 3) := by decide +kernel
theorem d20_10 : decode jdk_42_method_154_code 10 = .ok (.ifCond .ne 7, 3) := by decide +kernel
theorem d20_13 : decode jdk_42_method_154_code 13 = .ok (.iconst 1, 1) := by decide +kernel
theorem d20_14 : decode jdk_42_method_154_code 14 = .ok (.goto 4, 3) := by decide +kernel
theorem d20_18 : decode jdk_42_method_154_code 18 = .ok (.ireturn, 1) := by decide +kernel
def Ql1 (Z : State) (vt : Addr) (zc : Int32) (h0 : Heap) (n0 : Nat) (v : Option Value) (h : Heap) (L : List Loc) : Prop := v = some (.int (1 : Int32)) ∧ Fr n0 L ∧ h = h0
set_option maxRecDepth 65536 in
set_option maxHeartbeats 40000000 in
theorem rml1 (l : Launch) (Z : State) (a0 : Array Value) (hw : ∀ d ∈ tables_1, d.before a0 Z = true) (ws : List Jvm.Cond) (vt : Addr) (zc : Int32) (h0 : Heap) (n0 : Nat) (Z0 : n0 ≤ h0.size) (F_coder_vt : Fld Z h0 vt "java/lang/String" "coder" "B" (.int (0 : Int32))) (S_COMPACT_STRINGS : StaN Z n0 h0 "java/lang/String" "COMPACT_STRINGS" "Z" (.int zc)) (hCS : ¬ (zc = (0 : Int32))) :
    MetFree l (⟨"java/lang/String", "isLatin1", "()Z"⟩ : MethodName) (head1 (Jvm.Cond.code (⟨"java/lang/String", "isLatin1", "()Z"⟩ : MethodName) jdk_42_method_154_code 1 (some .boolean) :: ws) ({ frames := 0, cells := 0, slots := 0, locals := 0 } : Room)) (fun a U => a = #[(.ref vt)] ∧ Z.Warmed39 U.vm ∧ U.heap = h0) (fun _ _ _ _ _ => True) (fun _ U o U' => ∃ v L, o = .returned v ∧ Ql1 Z vt zc h0 n0 v U'.heap L ∧ FrameEnd U o U' L 0 0) := by
  refine MetFree.of_bodySF (plainFor_of_name pn_20) hisR ?_
  intro p e s m args below meth c s₁ Bd hml0 hP hK
  obtain ⟨rfl, hZ, hh⟩ := hP
  have hx := Bd.exec
  have hby := Bd.bytes
  have hml : c.maxLocals = 1 := hml0
  have hown : s.vm.findClass "java/lang/String" = some m.cls := findClass_of_methodNamed Bd.named
  have hnm := (name_of_methodNamed Bd.named Bd.method).1
  have X0 : Stand p l e ({ frames := 0, cells := 0, slots := 0, locals := 0 } : Room) s m #[(.ref vt)] below meth c s₁ [] 0 0 := Stand.of_body Bd
  have e0 : s₁.heap = h0 := by rw [← hh, Bd.state]; rfl
  have N0 := Fr.nil n0
  have hlk : meth.locks = false := BodyLoose.notSynchronized Bd
  show Goal p e below s (Ql1 Z vt zc h0 n0) 0 0 (s₁.setTop (entryFrame m #[(.ref vt)] 1))
  refine Goal.to (B := s₁.setTop (mkF m 0 #[.val (.ref vt)] [])) (fun tt kk => castTop (ef_20 m vt ) kk) ?_
  obtain ⟨T1, X1, e1, st1⟩ := getS2 X0 hx hZ hown (host := "") (Or.inl (hw _ (mw 14 rfl))) Via.refl e0 S_COMPACT_STRINGS.sta (g := (mkF m 0 #[.val (.ref vt)] [])) rfl (hb hby d20_0)
  refine Goal.to (B := T1.setTop (mkF m 3 #[.val (.ref vt)] [(.int zc)])) st1 ?_
  refine Goal.to (B := T1.setTop (mkF m 7 #[.val (.ref vt)] [(.ref vt)])) (fun tt kk => ?_) ?_
  · show Steps p.tables e below (T1.setTop (mkF m 3 #[.val (.ref vt)] [(.int zc)])) tt
    refine XS.ifNo X1.here hx rfl (hb hby d20_3) rfl ((if0 _ _).trans (feq hCS).1) ?_
    show Steps p.tables e below (T1.setTop (mkF m 6 #[.val (.ref vt)] [])) tt
    refine XS.aloadN X1.here hx rfl (hb hby d20_6) rfl rfl ?_
    exact kk
  obtain ⟨T2, X2, e2, st2⟩ := getF X1 hx hZ hown (host := "") (Or.inl (hw _ (mw 26 rfl))) Via.refl e1 F_coder_vt (g := (mkF m 7 #[.val (.ref vt)] [(.ref vt)])) rfl rfl (hb hby d20_7)
  refine Goal.to (B := T2.setTop (mkF m 10 #[.val (.ref vt)] [(.int (0 : Int32))])) st2 ?_
  refine Goal.to (B := T2.setTop (mkF m 18 #[.val (.ref vt)] [(.int (1 : Int32))])) (fun tt kk => ?_) ?_
  · show Steps p.tables e below (T2.setTop (mkF m 10 #[.val (.ref vt)] [(.int (0 : Int32))])) tt
    refine XS.ifNo X2.here hx rfl (hb hby d20_10) rfl ((if0 _ _).trans (teq (rfl : (0 : Int32) = (0 : Int32))).2) ?_
    show Steps p.tables e below (T2.setTop (mkF m 13 #[.val (.ref vt)] [])) tt
    refine XS.iconst X2.here hx rfl (hb hby d20_13) ?_
    show Steps p.tables e below (T2.setTop (mkF m 14 #[.val (.ref vt)] [(.int (1 : Int32))])) tt
    refine XS.goto X2.here hx rfl (pc0 := 14) (pc' := 18) rfl (hb hby d20_14) (by decide) (by decide) ?_
    exact kk
  exact Goal.retV X2 hx Bd.returns rfl (Or.inl ⟨rfl, Or.inr (Or.inl rfl), _, rfl⟩) (hb hby d20_18) hlk e2 ⟨rfl, N0, rfl⟩ (by decide) (by decide)
theorem ef_17v (m : MethodId) (x0 : Int32) (x1 : Int32) (x2 : Int32) (x3 : Value) (hx3 : x3.isRef = true) : entryFrame m #[(.int x0), (.int x1), (.int x2), x3] 4 = mkF m 0 #[.val (.int x0), .val (.int x1), .val (.int x2), .val x3] [] := by
  rcases ref_cases hx3 with rfl | ⟨o3, rfl⟩ <;> first | (simp [entryFrame, mkF, argsToLocals, Value.category]; done) | rfl
theorem pn_17 : plainName "jdk/internal/util/Preconditions" = true := by first | (simp [plainName, overriddenIn]; done) | decide +kernel
theorem d17_0 : decode jdk_41_method_12_code 0 = .ok (.iload_n 0, 1) := by decide +kernel
theorem d17_1 : decode jdk_41_method_12_code 1 = .ok (.ifCond .lt 13, 3) := by decide +kernel
theorem d17_4 : decode jdk_41_method_12_code 4 = .ok (.iload_n 0, 1) := by decide +kernel
theorem d17_5 : decode jdk_41_method_12_code 5 = .ok (.iload_n 1, 1) := by decide +kernel
theorem d17_6 : decode jdk_41_method_12_code 6 = .ok (.if_icmp .gt 8, 3) := by decide +kernel
theorem d17_9 : decode jdk_41_method_12_code 9 = .ok (.iload_n 1, 1) := by decide +kernel
theorem d17_10 : decode jdk_41_method_12_code 10 = .ok (.iload_n 2, 1) := by decide +kernel
theorem d17_11 : decode jdk_41_method_12_code 11 = .ok (.if_icmp .le 11, 3) := by decide +kernel
theorem d17_22 : decode jdk_41_method_12_code 22 = .ok (.iload_n 0, 1) := by decide +kernel
theorem d17_23 : decode jdk_41_method_12_code 23 = .ok (.ireturn, 1) := by decide +kernel
def Qft (Z : State) (u0 : Int32) (u1 : Int32) (u2 : Int32) (fm : Value) (h0 : Heap) (n0 : Nat) (v : Option Value) (h : Heap) (L : List Loc) : Prop := v = some (.int u0) ∧ Fr n0 L ∧ h = h0
set_option maxRecDepth 65536 in
set_option maxHeartbeats 40000000 in
theorem rmft (l : Launch) (Z : State) (a0 : Array Value) (hw : ∀ d ∈ tables_1, d.before a0 Z = true) (ws : List Jvm.Cond) (u0 : Int32) (u1 : Int32) (u2 : Int32) (fm : Value) (h0 : Heap) (n0 : Nat) (Z0 : n0 ≤ h0.size) (h1 : ¬ (u0 < (0 : Int32))) (h2 : ¬ (u1 < u0)) (h3 : ¬ (u2 < u1)) (pfm : fm.isRef = true) :
    MetFree l (⟨"jdk/internal/util/Preconditions", "checkFromToIndex", "(IIILjava/util/function/BiFunction;)I"⟩ : MethodName) (head1 (Jvm.Cond.code (⟨"jdk/internal/util/Preconditions", "checkFromToIndex", "(IIILjava/util/function/BiFunction;)I"⟩ : MethodName) jdk_41_method_12_code 4 (some .int) :: ws) ({ frames := 0, cells := 0, slots := 0, locals := 0 } : Room)) (fun a U => a = #[(.int u0), (.int u1), (.int u2), fm] ∧ Z.Warmed39 U.vm ∧ U.heap = h0) (fun _ _ _ _ _ => True) (fun _ U o U' => ∃ v L, o = .returned v ∧ Qft Z u0 u1 u2 fm h0 n0 v U'.heap L ∧ FrameEnd U o U' L 0 0) := by
  refine MetFree.of_bodySF (plainFor_of_name pn_17) hisR ?_
  intro p e s m args below meth c s₁ Bd hml0 hP hK
  obtain ⟨rfl, hZ, hh⟩ := hP
  have hx := Bd.exec
  have hby := Bd.bytes
  have hml : c.maxLocals = 4 := hml0
  have hown : s.vm.findClass "jdk/internal/util/Preconditions" = some m.cls := findClass_of_methodNamed Bd.named
  have hnm := (name_of_methodNamed Bd.named Bd.method).1
  have X0 : Stand p l e ({ frames := 0, cells := 0, slots := 0, locals := 0 } : Room) s m #[(.int u0), (.int u1), (.int u2), fm] below meth c s₁ [] 0 0 := Stand.of_body Bd
  have e0 : s₁.heap = h0 := by rw [← hh, Bd.state]; rfl
  have N0 := Fr.nil n0
  have hlk : meth.locks = false := BodyLoose.notSynchronized Bd
  show Goal p e below s (Qft Z u0 u1 u2 fm h0 n0) 0 0 (s₁.setTop (entryFrame m #[(.int u0), (.int u1), (.int u2), fm] 4))
  refine Goal.to (B := s₁.setTop (mkF m 0 #[.val (.int u0), .val (.int u1), .val (.int u2), .val fm] [])) (fun tt kk => castTop (ef_17v m u0 u1 u2 fm pfm) kk) ?_
  refine Goal.to (B := s₁.setTop (mkF m 23 #[.val (.int u0), .val (.int u1), .val (.int u2), .val fm] [(.int u0)])) (fun tt kk => ?_) ?_
  · show Steps p.tables e below (s₁.setTop (mkF m 0 #[.val (.int u0), .val (.int u1), .val (.int u2), .val fm] [])) tt
    refine XS.iloadN X0.here hx rfl (hb hby d17_0) rfl ?_
    show Steps p.tables e below (s₁.setTop (mkF m 1 #[.val (.int u0), .val (.int u1), .val (.int u2), .val fm] [(.int u0)])) tt
    refine XS.ifNo X0.here hx rfl (hb hby d17_1) rfl ((if0 _ _).trans (flt h1).1) ?_
    show Steps p.tables e below (s₁.setTop (mkF m 4 #[.val (.int u0), .val (.int u1), .val (.int u2), .val fm] [])) tt
    refine XS.iloadN X0.here hx rfl (hb hby d17_4) rfl ?_
    show Steps p.tables e below (s₁.setTop (mkF m 5 #[.val (.int u0), .val (.int u1), .val (.int u2), .val fm] [(.int u0)])) tt
    refine XS.iloadN X0.here hx rfl (hb hby d17_5) rfl ?_
    show Steps p.tables e below (s₁.setTop (mkF m 6 #[.val (.int u0), .val (.int u1), .val (.int u2), .val fm] [(.int u1), (.int u0)])) tt
    refine XS.icmpNo X0.here hx rfl (hb hby d17_6) rfl (flt h2).2.2.1 ?_
    show Steps p.tables e below (s₁.setTop (mkF m 9 #[.val (.int u0), .val (.int u1), .val (.int u2), .val fm] [])) tt
    refine XS.iloadN X0.here hx rfl (hb hby d17_9) rfl ?_
    show Steps p.tables e below (s₁.setTop (mkF m 10 #[.val (.int u0), .val (.int u1), .val (.int u2), .val fm] [(.int u1)])) tt
    refine XS.iloadN X0.here hx rfl (hb hby d17_10) rfl ?_
    show Steps p.tables e below (s₁.setTop (mkF m 11 #[.val (.int u0), .val (.int u1), .val (.int u2), .val fm] [(.int u2), (.int u1)])) tt
    refine XS.icmpYes X0.here hx rfl (pc0 := 11) (pc' := 22) rfl (hb hby d17_11) rfl (flt h3).2.2.2 (by decide) (by decide) ?_
    show Steps p.tables e below (s₁.setTop (mkF m 22 #[.val (.int u0), .val (.int u1), .val (.int u2), .val fm] [])) tt
    refine XS.iloadN X0.here hx rfl (hb hby d17_22) rfl ?_
    exact kk
  exact Goal.retV X0 hx Bd.returns rfl (Or.inl ⟨rfl, Or.inl rfl, _, rfl⟩) (hb hby d17_23) hlk e0 ⟨rfl, N0, rfl⟩ (by decide) (by decide)
theorem ef_16 (m : MethodId) (x0 : Int32) (x1 : Int32) (x2 : Int32)  : entryFrame m #[(.int x0), (.int x1), (.int x2)] 3 = mkF m 0 #[.val (.int x0), .val (.int x1), .val (.int x2)] [] := by first | (simp [entryFrame, mkF, argsToLocals, Value.category]; done) | rfl
theorem pn_16 : plainName "java/lang/String" = true := by first | (simp [plainName, overriddenIn]; done) | decide +kernel
theorem d16_0 : decode jdk_42_method_158_code 0 = .ok (.iload_n 0, 1) := by decide +kernel
theorem d16_1 : decode jdk_42_method_158_code 1 = .ok (.iload_n 1, 1) := by decide +kernel
theorem d16_2 : decode jdk_42_method_158_code 2 = .ok (.iload_n 2, 1) := by decide +kernel
theorem d16_3 : decode jdk_42_method_158_code 3 = .ok (.getstatic 1053, 3) := by decide +kernel
theorem pd_16 : parseMethodDescriptor "(IIILjava/util/function/BiFunction;)I" = some ⟨[.int, .int, .int, (.object "java/util/function/BiFunction")], some .int⟩ := by decide +kernel
theorem d16_6 : decode jdk_42_method_158_code 6 = .ok (.invokestatic 1062, 3) := by decide +kernel
theorem d16_9 : decode jdk_42_method_158_code 9 = .ok (.pop, 1) := by decide +kernel
theorem d16_10 : decode jdk_42_method_158_code 10 = .ok (.return_, 1) := by decide +kernel
def Qbe (Z : State) (u0 : Int32) (u1 : Int32) (u2 : Int32) (fm : Value) (h0 : Heap) (n0 : Nat) (v : Option Value) (h : Heap) (L : List Loc) : Prop := v = none ∧ Fr n0 L ∧ h = h0
set_option maxRecDepth 65536 in
set_option maxHeartbeats 40000000 in
theorem rmbe (l : Launch) (Z : State) (a0 : Array Value) (hw : ∀ d ∈ tables_1, d.before a0 Z = true) (ws : List Jvm.Cond) (u0 : Int32) (u1 : Int32) (u2 : Int32) (fm : Value) (h0 : Heap) (n0 : Nat) (Z0 : n0 ≤ h0.size) (S_SIOOBE_FORMATTER : StaN Z n0 h0 "jdk/internal/util/Preconditions" "SIOOBE_FORMATTER" "Ljava/util/function/BiFunction;" fm) (pfm : fm.isRef = true) (h1 : ¬ (u0 < (0 : Int32))) (h2 : ¬ (u1 < u0)) (h3 : ¬ (u2 < u1)) :
    MetFree l (⟨"java/lang/String", "checkBoundsBeginEnd", "(III)V"⟩ : MethodName) (head1 (Jvm.Cond.code (⟨"java/lang/String", "checkBoundsBeginEnd", "(III)V"⟩ : MethodName) jdk_42_method_158_code 3 none :: ws) ({ frames := 1, cells := 0, slots := 0, locals := 15 } : Room)) (fun a U => a = #[(.int u0), (.int u1), (.int u2)] ∧ Z.Warmed39 U.vm ∧ U.heap = h0) (fun _ _ _ _ _ => True) (fun _ U o U' => ∃ v L, o = .returned v ∧ Qbe Z u0 u1 u2 fm h0 n0 v U'.heap L ∧ FrameEnd U o U' L 0 0) := by
  refine MetFree.of_bodySF (plainFor_of_name pn_16) hisR ?_
  intro p e s m args below meth c s₁ Bd hml0 hP hK
  obtain ⟨rfl, hZ, hh⟩ := hP
  have hx := Bd.exec
  have hby := Bd.bytes
  have hml : c.maxLocals = 3 := hml0
  have hown : s.vm.findClass "java/lang/String" = some m.cls := findClass_of_methodNamed Bd.named
  have hnm := (name_of_methodNamed Bd.named Bd.method).1
  have X0 : Stand p l e ({ frames := 1, cells := 0, slots := 0, locals := 15 } : Room) s m #[(.int u0), (.int u1), (.int u2)] below meth c s₁ [] 0 0 := Stand.of_body Bd
  have e0 : s₁.heap = h0 := by rw [← hh, Bd.state]; rfl
  have N0 := Fr.nil n0
  have hlk : meth.locks = false := BodyLoose.notSynchronized Bd
  show Goal p e below s (Qbe Z u0 u1 u2 fm h0 n0) 0 0 (s₁.setTop (entryFrame m #[(.int u0), (.int u1), (.int u2)] 3))
  refine Goal.to (B := s₁.setTop (mkF m 0 #[.val (.int u0), .val (.int u1), .val (.int u2)] [])) (fun tt kk => castTop (ef_16 m u0 u1 u2 ) kk) ?_
  refine Goal.to (B := s₁.setTop (mkF m 3 #[.val (.int u0), .val (.int u1), .val (.int u2)] [(.int u2), (.int u1), (.int u0)])) (fun tt kk => ?_) ?_
  · show Steps p.tables e below (s₁.setTop (mkF m 0 #[.val (.int u0), .val (.int u1), .val (.int u2)] [])) tt
    refine XS.iloadN X0.here hx rfl (hb hby d16_0) rfl ?_
    show Steps p.tables e below (s₁.setTop (mkF m 1 #[.val (.int u0), .val (.int u1), .val (.int u2)] [(.int u0)])) tt
    refine XS.iloadN X0.here hx rfl (hb hby d16_1) rfl ?_
    show Steps p.tables e below (s₁.setTop (mkF m 2 #[.val (.int u0), .val (.int u1), .val (.int u2)] [(.int u1), (.int u0)])) tt
    refine XS.iloadN X0.here hx rfl (hb hby d16_2) rfl ?_
    exact kk
  obtain ⟨T1, X1, e1, st1⟩ := getS2 X0 hx hZ hown (host := "") (Or.inl (hw _ (mw 101 rfl))) Via.refl e0 S_SIOOBE_FORMATTER.sta (g := (mkF m 3 #[.val (.int u0), .val (.int u1), .val (.int u2)] [(.int u2), (.int u1), (.int u0)])) rfl (hb hby d16_3)
  refine Goal.to (B := T1.setTop (mkF m 6 #[.val (.int u0), .val (.int u1), .val (.int u2)] [fm, (.int u2), (.int u1), (.int u0)])) st1 ?_
  obtain ⟨_, _, ⟨T2, L2, k2, n2⟩, -, X2, ⟨Lc2, hQ2, l2, y2, z2⟩, st2⟩ := Jvm.LawKit.callS X1 hx (y := (⟨"jdk/internal/util/Preconditions", "checkFromToIndex", "(IIILjava/util/function/BiFunction;)I"⟩ : MethodName)) hown (mvT hZ (hw _ (mw 103 rfl))) (mvT hZ (hw _ (mw 104 rfl))) (mvT hZ (hw _ (mw 102 rfl))) (mvT hZ (hw _ (mw 105 rfl))) (by decide) (backOf (W := 0) (rmft l Z a0 hw [] u0 u1 u2 fm h0 n0 Z0 (by assumption) (by assumption) (by assumption) pfm) hZ (hw _ (mw 105 rfl)) (hw _ (mw 102 rfl)) (by decide) (by decide)) (g := (mkF m 6 #[.val (.int u0), .val (.int u1), .val (.int u2)] [fm, (.int u2), (.int u1), (.int u0)])) rfl (by rw [hml]; rfl) (argsL := [(.int u0), (.int u1), (.int u2), fm]) (rest := []) (lenOf pd_16 rfl) rfl (by show 2 * 0 + _ ≤ _; exact Nat.le_of_eq rfl) (hb hby d16_6) (fun _ _ => ⟨rfl, e1, (by decide : 0 + 0 ≤ _), (by decide : 0 + 0 ≤ _)⟩)
  dsimp only [Pt.U, Pt.locs, Pt.cells, Pt.slots] at X2 l2 y2 z2 st2 hQ2
  subst y2 z2
  obtain ⟨rfl, N2q, e2⟩ := hQ2
  have N2 := Fr.eqv l2 (Fr.app N0 N2q)
  refine Goal.to (B := T2.setTop (mkF m 9 #[.val (.int u0), .val (.int u1), .val (.int u2)] [(.int u0)])) st2 ?_
  refine Goal.to (B := T2.setTop (mkF m 10 #[.val (.int u0), .val (.int u1), .val (.int u2)] [])) (fun tt kk => ?_) ?_
  · show Steps p.tables e below (T2.setTop (mkF m 9 #[.val (.int u0), .val (.int u1), .val (.int u2)] [(.int u0)])) tt
    refine XS.pop X2.here hx rfl (hb hby d16_9) rfl rfl ?_
    exact kk
  exact Goal.retN X2 hx Bd.returns (hb hby d16_10) hlk e2 ⟨rfl, N2, rfl⟩ (by decide) (by decide)
theorem ef_19v (m : MethodId) (x0 : Int32) (x1 : Int32) (x2 : Int32) (x3 : Value) (hx3 : x3.isRef = true) : entryFrame m #[(.int x0), (.int x1), (.int x2), x3] 4 = mkF m 0 #[.val (.int x0), .val (.int x1), .val (.int x2), .val x3] [] := by
  rcases ref_cases hx3 with rfl | ⟨o3, rfl⟩ <;> first | (simp [entryFrame, mkF, argsToLocals, Value.category]; done) | rfl
theorem pn_19 : plainName "jdk/internal/util/Preconditions" = true := by first | (simp [plainName, overriddenIn]; done) | decide +kernel
theorem d19_0 : decode jdk_41_method_13_code 0 = .ok (.iload_n 2, 1) := by decide +kernel
theorem d19_1 : decode jdk_41_method_13_code 1 = .ok (.iload_n 0, 1) := by decide +kernel
theorem d19_2 : decode jdk_41_method_13_code 2 = .ok (.ior, 1) := by decide +kernel
theorem d19_3 : decode jdk_41_method_13_code 3 = .ok (.iload_n 1, 1) := by decide +kernel
theorem d19_4 : decode jdk_41_method_13_code 4 = .ok (.ior, 1) := by decide +kernel
theorem d19_5 : decode jdk_41_method_13_code 5 = .ok (.ifCond .lt 10, 3) := by decide +kernel
theorem d19_8 : decode jdk_41_method_13_code 8 = .ok (.iload_n 1, 1) := by decide +kernel
theorem d19_9 : decode jdk_41_method_13_code 9 = .ok (.iload_n 2, 1) := by decide +kernel
theorem d19_10 : decode jdk_41_method_13_code 10 = .ok (.iload_n 0, 1) := by decide +kernel
theorem d19_11 : decode jdk_41_method_13_code 11 = .ok (.isub, 1) := by decide +kernel
theorem d19_12 : decode jdk_41_method_13_code 12 = .ok (.if_icmp .le 11, 3) := by decide +kernel
theorem d19_23 : decode jdk_41_method_13_code 23 = .ok (.iload_n 0, 1) := by decide +kernel
theorem d19_24 : decode jdk_41_method_13_code 24 = .ok (.ireturn, 1) := by decide +kernel
def Qfs (Z : State) (u0 : Int32) (u1 : Int32) (u2 : Int32) (fm : Value) (h0 : Heap) (n0 : Nat) (v : Option Value) (h : Heap) (L : List Loc) : Prop := v = some (.int u0) ∧ Fr n0 L ∧ h = h0
set_option maxRecDepth 65536 in
set_option maxHeartbeats 40000000 in
theorem rmfs (l : Launch) (Z : State) (a0 : Array Value) (hw : ∀ d ∈ tables_1, d.before a0 Z = true) (ws : List Jvm.Cond) (u0 : Int32) (u1 : Int32) (u2 : Int32) (fm : Value) (h0 : Heap) (n0 : Nat) (Z0 : n0 ≤ h0.size) (h1 : ¬ (((u2 ||| u0) ||| u1) < (0 : Int32))) (h2 : ¬ ((u2 - u0) < u1)) (pfm : fm.isRef = true) :
    MetFree l (⟨"jdk/internal/util/Preconditions", "checkFromIndexSize", "(IIILjava/util/function/BiFunction;)I"⟩ : MethodName) (head1 (Jvm.Cond.code (⟨"jdk/internal/util/Preconditions", "checkFromIndexSize", "(IIILjava/util/function/BiFunction;)I"⟩ : MethodName) jdk_41_method_13_code 4 (some .int) :: ws) ({ frames := 0, cells := 0, slots := 0, locals := 0 } : Room)) (fun a U => a = #[(.int u0), (.int u1), (.int u2), fm] ∧ Z.Warmed39 U.vm ∧ U.heap = h0) (fun _ _ _ _ _ => True) (fun _ U o U' => ∃ v L, o = .returned v ∧ Qfs Z u0 u1 u2 fm h0 n0 v U'.heap L ∧ FrameEnd U o U' L 0 0) := by
  refine MetFree.of_bodySF (plainFor_of_name pn_19) hisR ?_
  intro p e s m args below meth c s₁ Bd hml0 hP hK
  obtain ⟨rfl, hZ, hh⟩ := hP
  have hx := Bd.exec
  have hby := Bd.bytes
  have hml : c.maxLocals = 4 := hml0
  have hown : s.vm.findClass "jdk/internal/util/Preconditions" = some m.cls := findClass_of_methodNamed Bd.named
  have hnm := (name_of_methodNamed Bd.named Bd.method).1
  have X0 : Stand p l e ({ frames := 0, cells := 0, slots := 0, locals := 0 } : Room) s m #[(.int u0), (.int u1), (.int u2), fm] below meth c s₁ [] 0 0 := Stand.of_body Bd
  have e0 : s₁.heap = h0 := by rw [← hh, Bd.state]; rfl
  have N0 := Fr.nil n0
  have hlk : meth.locks = false := BodyLoose.notSynchronized Bd
  show Goal p e below s (Qfs Z u0 u1 u2 fm h0 n0) 0 0 (s₁.setTop (entryFrame m #[(.int u0), (.int u1), (.int u2), fm] 4))
  refine Goal.to (B := s₁.setTop (mkF m 0 #[.val (.int u0), .val (.int u1), .val (.int u2), .val fm] [])) (fun tt kk => castTop (ef_19v m u0 u1 u2 fm pfm) kk) ?_
  refine Goal.to (B := s₁.setTop (mkF m 24 #[.val (.int u0), .val (.int u1), .val (.int u2), .val fm] [(.int u0)])) (fun tt kk => ?_) ?_
  · show Steps p.tables e below (s₁.setTop (mkF m 0 #[.val (.int u0), .val (.int u1), .val (.int u2), .val fm] [])) tt
    refine XS.iloadN X0.here hx rfl (hb hby d19_0) rfl ?_
    show Steps p.tables e below (s₁.setTop (mkF m 1 #[.val (.int u0), .val (.int u1), .val (.int u2), .val fm] [(.int u2)])) tt
    refine XS.iloadN X0.here hx rfl (hb hby d19_1) rfl ?_
    show Steps p.tables e below (s₁.setTop (mkF m 2 #[.val (.int u0), .val (.int u1), .val (.int u2), .val fm] [(.int u0), (.int u2)])) tt
    refine XS.ior X0.here hx rfl (hb hby d19_2) rfl ?_
    show Steps p.tables e below (s₁.setTop (mkF m 3 #[.val (.int u0), .val (.int u1), .val (.int u2), .val fm] [(.int (u2 ||| u0))])) tt
    refine XS.iloadN X0.here hx rfl (hb hby d19_3) rfl ?_
    show Steps p.tables e below (s₁.setTop (mkF m 4 #[.val (.int u0), .val (.int u1), .val (.int u2), .val fm] [(.int u1), (.int (u2 ||| u0))])) tt
    refine XS.ior X0.here hx rfl (hb hby d19_4) rfl ?_
    show Steps p.tables e below (s₁.setTop (mkF m 5 #[.val (.int u0), .val (.int u1), .val (.int u2), .val fm] [(.int ((u2 ||| u0) ||| u1))])) tt
    refine XS.ifNo X0.here hx rfl (hb hby d19_5) rfl ((if0 _ _).trans (flt h1).1) ?_
    show Steps p.tables e below (s₁.setTop (mkF m 8 #[.val (.int u0), .val (.int u1), .val (.int u2), .val fm] [])) tt
    refine XS.iloadN X0.here hx rfl (hb hby d19_8) rfl ?_
    show Steps p.tables e below (s₁.setTop (mkF m 9 #[.val (.int u0), .val (.int u1), .val (.int u2), .val fm] [(.int u1)])) tt
    refine XS.iloadN X0.here hx rfl (hb hby d19_9) rfl ?_
    show Steps p.tables e below (s₁.setTop (mkF m 10 #[.val (.int u0), .val (.int u1), .val (.int u2), .val fm] [(.int u2), (.int u1)])) tt
    refine XS.iloadN X0.here hx rfl (hb hby d19_10) rfl ?_
    show Steps p.tables e below (s₁.setTop (mkF m 11 #[.val (.int u0), .val (.int u1), .val (.int u2), .val fm] [(.int u0), (.int u2), (.int u1)])) tt
    refine XS.isub X0.here hx rfl (hb hby d19_11) rfl ?_
    show Steps p.tables e below (s₁.setTop (mkF m 12 #[.val (.int u0), .val (.int u1), .val (.int u2), .val fm] [(.int (u2 - u0)), (.int u1)])) tt
    refine XS.icmpYes X0.here hx rfl (pc0 := 12) (pc' := 23) rfl (hb hby d19_12) rfl (flt h2).2.2.2 (by decide) (by decide) ?_
    show Steps p.tables e below (s₁.setTop (mkF m 23 #[.val (.int u0), .val (.int u1), .val (.int u2), .val fm] [])) tt
    refine XS.iloadN X0.here hx rfl (hb hby d19_23) rfl ?_
    exact kk
  exact Goal.retV X0 hx Bd.returns rfl (Or.inl ⟨rfl, Or.inl rfl, _, rfl⟩) (hb hby d19_24) hlk e0 ⟨rfl, N0, rfl⟩ (by decide) (by decide)
theorem ef_18 (m : MethodId) (x0 : Int32) (x1 : Int32) (x2 : Int32)  : entryFrame m #[(.int x0), (.int x1), (.int x2)] 3 = mkF m 0 #[.val (.int x0), .val (.int x1), .val (.int x2)] [] := by first | (simp [entryFrame, mkF, argsToLocals, Value.category]; done) | rfl
theorem pn_18 : plainName "java/lang/String" = true := by first | (simp [plainName, overriddenIn]; done) | decide +kernel
theorem d18_0 : decode jdk_42_method_157_code 0 = .ok (.iload_n 0, 1) := by decide +kernel
theorem d18_1 : decode jdk_42_method_157_code 1 = .ok (.iload_n 1, 1) := by decide +kernel
theorem d18_2 : decode jdk_42_method_157_code 2 = .ok (.iload_n 2, 1) := by decide +kernel
theorem d18_3 : decode jdk_42_method_157_code 3 = .ok (.getstatic 1053, 3) := by decide +kernel
theorem d18_6 : decode jdk_42_method_157_code 6 = .ok (.invokestatic 1065, 3) := by decide +kernel
theorem d18_9 : decode jdk_42_method_157_code 9 = .ok (.ireturn, 1) := by decide +kernel
def Qbo (Z : State) (u0 : Int32) (u1 : Int32) (u2 : Int32) (fm : Value) (h0 : Heap) (n0 : Nat) (v : Option Value) (h : Heap) (L : List Loc) : Prop := v = some (.int u0) ∧ Fr n0 L ∧ h = h0
set_option maxRecDepth 65536 in
set_option maxHeartbeats 40000000 in
theorem rmbo (l : Launch) (Z : State) (a0 : Array Value) (hw : ∀ d ∈ tables_1, d.before a0 Z = true) (ws : List Jvm.Cond) (u0 : Int32) (u1 : Int32) (u2 : Int32) (fm : Value) (h0 : Heap) (n0 : Nat) (Z0 : n0 ≤ h0.size) (S_SIOOBE_FORMATTER : StaN Z n0 h0 "jdk/internal/util/Preconditions" "SIOOBE_FORMATTER" "Ljava/util/function/BiFunction;" fm) (pfm : fm.isRef = true) (h1 : ¬ (((u2 ||| u0) ||| u1) < (0 : Int32))) (h2 : ¬ ((u2 - u0) < u1)) :
    MetFree l (⟨"java/lang/String", "checkBoundsOffCount", "(III)I"⟩ : MethodName) (head1 (Jvm.Cond.code (⟨"java/lang/String", "checkBoundsOffCount", "(III)I"⟩ : MethodName) jdk_42_method_157_code 3 (some .int) :: ws) ({ frames := 1, cells := 0, slots := 0, locals := 15 } : Room)) (fun a U => a = #[(.int u0), (.int u1), (.int u2)] ∧ Z.Warmed39 U.vm ∧ U.heap = h0) (fun _ _ _ _ _ => True) (fun _ U o U' => ∃ v L, o = .returned v ∧ Qbo Z u0 u1 u2 fm h0 n0 v U'.heap L ∧ FrameEnd U o U' L 0 0) := by
  refine MetFree.of_bodySF (plainFor_of_name pn_18) hisR ?_
  intro p e s m args below meth c s₁ Bd hml0 hP hK
  obtain ⟨rfl, hZ, hh⟩ := hP
  have hx := Bd.exec
  have hby := Bd.bytes
  have hml : c.maxLocals = 3 := hml0
  have hown : s.vm.findClass "java/lang/String" = some m.cls := findClass_of_methodNamed Bd.named
  have hnm := (name_of_methodNamed Bd.named Bd.method).1
  have X0 : Stand p l e ({ frames := 1, cells := 0, slots := 0, locals := 15 } : Room) s m #[(.int u0), (.int u1), (.int u2)] below meth c s₁ [] 0 0 := Stand.of_body Bd
  have e0 : s₁.heap = h0 := by rw [← hh, Bd.state]; rfl
  have N0 := Fr.nil n0
  have hlk : meth.locks = false := BodyLoose.notSynchronized Bd
  show Goal p e below s (Qbo Z u0 u1 u2 fm h0 n0) 0 0 (s₁.setTop (entryFrame m #[(.int u0), (.int u1), (.int u2)] 3))
  refine Goal.to (B := s₁.setTop (mkF m 0 #[.val (.int u0), .val (.int u1), .val (.int u2)] [])) (fun tt kk => castTop (ef_18 m u0 u1 u2 ) kk) ?_
  refine Goal.to (B := s₁.setTop (mkF m 3 #[.val (.int u0), .val (.int u1), .val (.int u2)] [(.int u2), (.int u1), (.int u0)])) (fun tt kk => ?_) ?_
  · show Steps p.tables e below (s₁.setTop (mkF m 0 #[.val (.int u0), .val (.int u1), .val (.int u2)] [])) tt
    refine XS.iloadN X0.here hx rfl (hb hby d18_0) rfl ?_
    show Steps p.tables e below (s₁.setTop (mkF m 1 #[.val (.int u0), .val (.int u1), .val (.int u2)] [(.int u0)])) tt
    refine XS.iloadN X0.here hx rfl (hb hby d18_1) rfl ?_
    show Steps p.tables e below (s₁.setTop (mkF m 2 #[.val (.int u0), .val (.int u1), .val (.int u2)] [(.int u1), (.int u0)])) tt
    refine XS.iloadN X0.here hx rfl (hb hby d18_2) rfl ?_
    exact kk
  obtain ⟨T1, X1, e1, st1⟩ := getS2 X0 hx hZ hown (host := "") (Or.inl (hw _ (mw 101 rfl))) Via.refl e0 S_SIOOBE_FORMATTER.sta (g := (mkF m 3 #[.val (.int u0), .val (.int u1), .val (.int u2)] [(.int u2), (.int u1), (.int u0)])) rfl (hb hby d18_3)
  refine Goal.to (B := T1.setTop (mkF m 6 #[.val (.int u0), .val (.int u1), .val (.int u2)] [fm, (.int u2), (.int u1), (.int u0)])) st1 ?_
  obtain ⟨_, _, ⟨T2, L2, k2, n2⟩, -, X2, ⟨Lc2, hQ2, l2, y2, z2⟩, st2⟩ := Jvm.LawKit.callS X1 hx (y := (⟨"jdk/internal/util/Preconditions", "checkFromIndexSize", "(IIILjava/util/function/BiFunction;)I"⟩ : MethodName)) hown (mvT hZ (hw _ (mw 109 rfl))) (mvT hZ (hw _ (mw 110 rfl))) (mvT hZ (hw _ (mw 102 rfl))) (mvT hZ (hw _ (mw 111 rfl))) (by decide) (backOf (W := 0) (rmfs l Z a0 hw [] u0 u1 u2 fm h0 n0 Z0 (by assumption) (by assumption) pfm) hZ (hw _ (mw 111 rfl)) (hw _ (mw 102 rfl)) (by decide) (by decide)) (g := (mkF m 6 #[.val (.int u0), .val (.int u1), .val (.int u2)] [fm, (.int u2), (.int u1), (.int u0)])) rfl (by rw [hml]; rfl) (argsL := [(.int u0), (.int u1), (.int u2), fm]) (rest := []) (lenOf pd_16 rfl) rfl (by show 2 * 0 + _ ≤ _; exact Nat.le_of_eq rfl) (hb hby d18_6) (fun _ _ => ⟨rfl, e1, (by decide : 0 + 0 ≤ _), (by decide : 0 + 0 ≤ _)⟩)
  dsimp only [Pt.U, Pt.locs, Pt.cells, Pt.slots] at X2 l2 y2 z2 st2 hQ2
  subst y2 z2
  obtain ⟨rfl, N2q, e2⟩ := hQ2
  have N2 := Fr.eqv l2 (Fr.app N0 N2q)
  refine Goal.to (B := T2.setTop (mkF m 9 #[.val (.int u0), .val (.int u1), .val (.int u2)] [(.int u0)])) st2 ?_
  exact Goal.retV X2 hx Bd.returns rfl (Or.inl ⟨rfl, Or.inl rfl, _, rfl⟩) (hb hby d18_9) hlk e2 ⟨rfl, N2, rfl⟩ (by decide) (by decide)
theorem ef_22 (m : MethodId) (x0 : Addr) (x1 : Int32) (x2 : Addr) (x3 : Int32) (x4 : Int32)  : entryFrame m #[(.ref x0), (.int x1), (.ref x2), (.int x3), (.int x4)] 6 = mkF m 0 #[.val (.ref x0), .val (.int x1), .val (.ref x2), .val (.int x3), .val (.int x4), .unset] [] := by first | (simp [entryFrame, mkF, argsToLocals, Value.category]; done) | rfl
theorem pn_22 : plainName "java/lang/StringLatin1" = true := by first | (simp [plainName, overriddenIn]; done) | decide +kernel
theorem d22_0 : decode jdk_43_method_49_code 0 = .ok (.iconst 0, 1) := by decide +kernel
theorem d22_1 : decode jdk_43_method_49_code 1 = .ok (.istore 5, 2) := by decide +kernel
theorem d22_3 : decode jdk_43_method_49_code 3 = .ok (.iload 5, 2) := by decide +kernel
theorem d22_5 : decode jdk_43_method_49_code 5 = .ok (.iload 4, 2) := by decide +kernel
theorem d22_7 : decode jdk_43_method_49_code 7 = .ok (.if_icmp .ge 26, 3) := by decide +kernel
theorem d22_10 : decode jdk_43_method_49_code 10 = .ok (.aload_n 2, 1) := by decide +kernel
theorem d22_11 : decode jdk_43_method_49_code 11 = .ok (.iload_n 3, 1) := by decide +kernel
theorem d22_12 : decode jdk_43_method_49_code 12 = .ok (.iinc 3 1, 3) := by decide +kernel
theorem d22_15 : decode jdk_43_method_49_code 15 = .ok (.aload_n 0, 1) := by decide +kernel
theorem d22_16 : decode jdk_43_method_49_code 16 = .ok (.iload_n 1, 1) := by decide +kernel
theorem d22_17 : decode jdk_43_method_49_code 17 = .ok (.iinc 1 1, 3) := by decide +kernel
theorem d22_20 : decode jdk_43_method_49_code 20 = .ok (.baload, 1) := by decide +kernel
theorem d22_21 : decode jdk_43_method_49_code 21 = .ok (.sipush 255, 3) := by decide +kernel
theorem d22_24 : decode jdk_43_method_49_code 24 = .ok (.iand, 1) := by decide +kernel
theorem d22_25 : decode jdk_43_method_49_code 25 = .ok (.i2c, 1) := by decide +kernel
theorem d22_26 : decode jdk_43_method_49_code 26 = .ok (.castore, 1) := by decide +kernel
theorem d22_27 : decode jdk_43_method_49_code 27 = .ok (.iinc 5 1, 3) := by decide +kernel
theorem d22_30 : decode jdk_43_method_49_code 30 = .ok (.goto (-27), 3) := by decide +kernel
theorem d22_33 : decode jdk_43_method_49_code 33 = .ok (.return_, 1) := by decide +kernel
def Qin (Z : State) (tb : Addr) (vc : Addr) (y0 : Int32) (y1 : Int32) (y2 : Int32) (y3 : Int32) (y4 : Int32) (xs : List Value) (so : Int32) (dd : Int32) (ln : Int32) (h0 : Heap) (n0 : Nat) (v : Option Value) (h : Heap) (L : List Loc) : Prop := ∃ ys : List Value, v = none ∧ Fr n0 L ∧ Keep h0 h [vc] ∧ Ary Z h vc .char ys ∧ ys.length = xs.length ∧ own_C ys
set_option maxRecDepth 65536 in
set_option maxHeartbeats 40000000 in
theorem rmin (l : Launch) (Z : State) (a0 : Array Value) (hw : ∀ d ∈ tables_1, d.before a0 Z = true) (ws : List Jvm.Cond) (tb : Addr) (vc : Addr) (y0 : Int32) (y1 : Int32) (y2 : Int32) (y3 : Int32) (y4 : Int32) (xs : List Value) (so : Int32) (dd : Int32) (ln : Int32) (h0 : Heap) (n0 : Nat) (Z0 : n0 ≤ h0.size) (V_tb : Ary Z h0 tb .byte [(.int y0), (.int y1), (.int y2), (.int y3), (.int y4)]) (V_vc : Ary Z h0 vc .char xs) (g_vc : n0 ≤ vc) (ne_tb_vc : tb ≠ vc) (hso : 0 ≤ so.toInt) (hs5 : so.toInt + ln.toInt ≤ 5) (hdd : 0 ≤ dd.toInt) (hdl : dd.toInt + ln.toInt ≤ (xs.length : Int)) (hln : 0 ≤ ln.toInt) (hx8 : xs.length ≤ 8) (hcx : own_C xs) :
    MetFree l (⟨"java/lang/StringLatin1", "inflate", "([BI[CII)V"⟩ : MethodName) (head1 (Jvm.Cond.code (⟨"java/lang/StringLatin1", "inflate", "([BI[CII)V"⟩ : MethodName) jdk_43_method_49_code 6 none :: ws) ({ frames := 0, cells := 0, slots := 0, locals := 0 } : Room)) (fun a U => a = #[(.ref tb), (.int so), (.ref vc), (.int dd), (.int ln)] ∧ Z.Warmed39 U.vm ∧ U.heap = h0) (fun _ _ _ _ _ => True) (fun _ U o U' => ∃ v L, o = .returned v ∧ Qin Z tb vc y0 y1 y2 y3 y4 xs so dd ln h0 n0 v U'.heap L ∧ FrameEnd U o U' L 0 0) := by
  refine MetFree.of_bodySF (plainFor_of_name pn_22) hisR ?_
  intro p e s m args below meth c s₁ Bd hml0 hP hK
  obtain ⟨rfl, hZ, hh⟩ := hP
  have hx := Bd.exec
  have hby := Bd.bytes
  have hml : c.maxLocals = 6 := hml0
  have hown : s.vm.findClass "java/lang/StringLatin1" = some m.cls := findClass_of_methodNamed Bd.named
  have hnm := (name_of_methodNamed Bd.named Bd.method).1
  have X0 : Stand p l e ({ frames := 0, cells := 0, slots := 0, locals := 0 } : Room) s m #[(.ref tb), (.int so), (.ref vc), (.int dd), (.int ln)] below meth c s₁ [] 0 0 := Stand.of_body Bd
  have e0 : s₁.heap = h0 := by rw [← hh, Bd.state]; rfl
  have N0 := Fr.nil n0
  have hlk : meth.locks = false := BodyLoose.notSynchronized Bd
  show Goal p e below s (Qin Z tb vc y0 y1 y2 y3 y4 xs so dd ln h0 n0) 0 0 (s₁.setTop (entryFrame m #[(.ref tb), (.int so), (.ref vc), (.int dd), (.int ln)] 6))
  refine Goal.to (B := s₁.setTop (mkF m 0 #[.val (.ref tb), .val (.int so), .val (.ref vc), .val (.int dd), .val (.int ln), .unset] [])) (fun tt kk => castTop (ef_22 m tb so vc dd ln ) kk) ?_
  have hs0' : so.toInt = so.toInt + 0 := by omega
  have hd0' : dd.toInt = dd.toInt + 0 := by omega
  refine Goal.to (B := s₁.setTop (mkF m 7 #[.val (.ref tb), .val (.int so), .val (.ref vc), .val (.int dd), .val (.int ln), .val (.int (0 : Int32))] [(.int ln), (.int (0 : Int32))])) (fun tt kk => ?_) ?_
  · show Steps p.tables e below (s₁.setTop (mkF m 0 #[.val (.ref tb), .val (.int so), .val (.ref vc), .val (.int dd), .val (.int ln), .unset] [])) tt
    refine XS.iconst X0.here hx rfl (hb hby d22_0) ?_
    show Steps p.tables e below (s₁.setTop (mkF m 1 #[.val (.ref tb), .val (.int so), .val (.ref vc), .val (.int dd), .val (.int ln), .unset] [(.int (0 : Int32))])) tt
    refine XS.istore X0.here hx rfl (hb hby d22_1) rfl (l' := #[.val (.ref tb), .val (.int so), .val (.ref vc), .val (.int dd), .val (.int ln), .val (.int (0 : Int32))]) rfl ?_
    show Steps p.tables e below (s₁.setTop (mkF m 3 #[.val (.ref tb), .val (.int so), .val (.ref vc), .val (.int dd), .val (.int ln), .val (.int (0 : Int32))] [])) tt
    refine XS.iload X0.here hx rfl (hb hby d22_3) rfl ?_
    show Steps p.tables e below (s₁.setTop (mkF m 5 #[.val (.ref tb), .val (.int so), .val (.ref vc), .val (.int dd), .val (.int ln), .val (.int (0 : Int32))] [(.int (0 : Int32))])) tt
    refine XS.iload X0.here hx rfl (hb hby d22_5) rfl ?_
    exact kk
  by_cases hk0 : (0 : Int32) < ln
  · have hk0' := own_lit (n := 0) hk0 rfl
    refine Goal.to (B := s₁.setTop (mkF m 20 #[.val (.ref tb), .val (.int (so + (1 : Int32))), .val (.ref vc), .val (.int (dd + (1 : Int32))), .val (.int ln), .val (.int (0 : Int32))] [(.int so), (.ref tb), (.int dd), (.ref vc)])) (fun tt kk => ?_) ?_
    · show Steps p.tables e below (s₁.setTop (mkF m 7 #[.val (.ref tb), .val (.int so), .val (.ref vc), .val (.int dd), .val (.int ln), .val (.int (0 : Int32))] [(.int ln), (.int (0 : Int32))])) tt
      refine XS.icmpNo X0.here hx rfl (hb hby d22_7) rfl (tlt hk0).2.1 ?_
      show Steps p.tables e below (s₁.setTop (mkF m 10 #[.val (.ref tb), .val (.int so), .val (.ref vc), .val (.int dd), .val (.int ln), .val (.int (0 : Int32))] [])) tt
      refine XS.aloadN X0.here hx rfl (hb hby d22_10) rfl rfl ?_
      show Steps p.tables e below (s₁.setTop (mkF m 11 #[.val (.ref tb), .val (.int so), .val (.ref vc), .val (.int dd), .val (.int ln), .val (.int (0 : Int32))] [(.ref vc)])) tt
      refine XS.iloadN X0.here hx rfl (hb hby d22_11) rfl ?_
      show Steps p.tables e below (s₁.setTop (mkF m 12 #[.val (.ref tb), .val (.int so), .val (.ref vc), .val (.int dd), .val (.int ln), .val (.int (0 : Int32))] [(.int dd), (.ref vc)])) tt
      refine XS.iinc X0.here hx rfl (hb hby d22_12) rfl (l' := #[.val (.ref tb), .val (.int so), .val (.ref vc), .val (.int (dd + (1 : Int32))), .val (.int ln), .val (.int (0 : Int32))]) rfl ?_
      show Steps p.tables e below (s₁.setTop (mkF m 15 #[.val (.ref tb), .val (.int so), .val (.ref vc), .val (.int (dd + (1 : Int32))), .val (.int ln), .val (.int (0 : Int32))] [(.int dd), (.ref vc)])) tt
      refine XS.aloadN X0.here hx rfl (hb hby d22_15) rfl rfl ?_
      show Steps p.tables e below (s₁.setTop (mkF m 16 #[.val (.ref tb), .val (.int so), .val (.ref vc), .val (.int (dd + (1 : Int32))), .val (.int ln), .val (.int (0 : Int32))] [(.ref tb), (.int dd), (.ref vc)])) tt
      refine XS.iloadN X0.here hx rfl (hb hby d22_16) rfl ?_
      show Steps p.tables e below (s₁.setTop (mkF m 17 #[.val (.ref tb), .val (.int so), .val (.ref vc), .val (.int (dd + (1 : Int32))), .val (.int ln), .val (.int (0 : Int32))] [(.int so), (.ref tb), (.int dd), (.ref vc)])) tt
      refine XS.iinc X0.here hx rfl (hb hby d22_17) rfl (l' := #[.val (.ref tb), .val (.int (so + (1 : Int32))), .val (.ref vc), .val (.int (dd + (1 : Int32))), .val (.int ln), .val (.int (0 : Int32))]) rfl ?_
      exact kk
    obtain ⟨z2, hz2⟩ := own_b5 y0 y1 y2 y3 y4 (own_ix (x := so) (n := 5) (by omega) (by omega)).2
    obtain ⟨cl1, Ar1, Sl1⟩ := id V_tb
    have hin1 := inA (cl := cl1) Sl1 (j := so) (own_ix (x := so) (n := 5) (by omega) (by omega)).1 (own_ix (x := so) (n := 5) (by omega) (by omega)).2
    have hat1 : cl1.slots[(so).toNatClampNeg]? = some (.int z2) := atA Sl1 hz2
    refine Goal.to (B := s₁.setTop (mkF m 26 #[.val (.ref tb), .val (.int (so + (1 : Int32))), .val (.ref vc), .val (.int (dd + (1 : Int32))), .val (.int ln), .val (.int (0 : Int32))] [(.int ((z2 &&& (255 : Int32)).toUInt32.toUInt16.toUInt32.toInt32)), (.int dd), (.ref vc)])) (fun tt kk => ?_) ?_
    · show Steps p.tables e below (s₁.setTop (mkF m 20 #[.val (.ref tb), .val (.int (so + (1 : Int32))), .val (.ref vc), .val (.int (dd + (1 : Int32))), .val (.int ln), .val (.int (0 : Int32))] [(.int so), (.ref tb), (.int dd), (.ref vc)])) tt
      refine X0.baloadBytes hx (j := so) (v := (.int z2)) (by rw [e0]; exact Ar1.1) (State.isArrayOf_alike hZ.alike Ar1.2.1) Ar1.2.2 hin1 hat1 (g := (mkF m 20 #[.val (.ref tb), .val (.int (so + (1 : Int32))), .val (.ref vc), .val (.int (dd + (1 : Int32))), .val (.int ln), .val (.int (0 : Int32))] [(.int so), (.ref tb), (.int dd), (.ref vc)])) rfl rfl (hb hby d22_20) _ ?_
      show Steps p.tables e below (s₁.setTop (mkF m 21 #[.val (.ref tb), .val (.int (so + (1 : Int32))), .val (.ref vc), .val (.int (dd + (1 : Int32))), .val (.int ln), .val (.int (0 : Int32))] [(.int z2), (.int dd), (.ref vc)])) tt
      refine XS.sipush X0.here hx rfl (hb hby d22_21) ?_
      show Steps p.tables e below (s₁.setTop (mkF m 24 #[.val (.ref tb), .val (.int (so + (1 : Int32))), .val (.ref vc), .val (.int (dd + (1 : Int32))), .val (.int ln), .val (.int (0 : Int32))] [(.int (255 : Int32)), (.int z2), (.int dd), (.ref vc)])) tt
      refine XS.iand X0.here hx rfl (hb hby d22_24) rfl ?_
      show Steps p.tables e below (s₁.setTop (mkF m 25 #[.val (.ref tb), .val (.int (so + (1 : Int32))), .val (.ref vc), .val (.int (dd + (1 : Int32))), .val (.int ln), .val (.int (0 : Int32))] [(.int (z2 &&& (255 : Int32))), (.int dd), (.ref vc)])) tt
      refine XS.i2c X0.here hx rfl (hb hby d22_25) rfl ?_
      exact kk
    obtain ⟨cl3, Ar3, Sl3⟩ := id V_vc
    have hin3 := inA (cl := cl3) Sl3 (j := dd) (own_ix (x := dd) (n := xs.length) (by omega) (by omega)).1 (by first | exact (own_ix (by omega) (by omega)).2 | (simp only [List.length_set]; exact (own_ix (by omega) (by omega)).2))
    obtain ⟨T3, h3, X3, e3, W3, st3⟩ := stC X0 hx hZ e0 Ar3 (j := dd) hin3 (g := (mkF m 26 #[.val (.ref tb), .val (.int (so + (1 : Int32))), .val (.ref vc), .val (.int (dd + (1 : Int32))), .val (.int ln), .val (.int (0 : Int32))] [(.int ((z2 &&& (255 : Int32)).toUInt32.toUInt16.toUInt32.toInt32)), (.int dd), (.ref vc)])) rfl rfl (hb hby d22_26)
    have V3 : Ary Z h3 vc .char ((xs).set ((dd).toNatClampNeg) (.int (nar .char ((z2 &&& (255 : Int32)).toUInt32.toUInt16.toUInt32.toInt32)))) := Ary.put Ar3 Sl3 W3 rfl
    have N3 := Fr.snoc X3 N0 g_vc
    refine Goal.to (B := T3.setTop (mkF m 27 #[.val (.ref tb), .val (.int (so + (1 : Int32))), .val (.ref vc), .val (.int (dd + (1 : Int32))), .val (.int ln), .val (.int (0 : Int32))] [])) st3 ?_
    obtain ⟨s1, hs1⟩ : ∃ z : Int32, z = (so + (1 : Int32)) := ⟨_, rfl⟩
    obtain ⟨d1, hd1⟩ : ∃ z : Int32, z = (dd + (1 : Int32)) := ⟨_, rfl⟩
    refine Goal.to (B := T3.setTop (mkF m 3 #[.val (.ref tb), .val (.int s1), .val (.ref vc), .val (.int d1), .val (.int ln), .val (.int (1 : Int32))] [])) (fun tt kk => ?_) ?_
    · subst hs1
      subst hd1
      show Steps p.tables e below (T3.setTop (mkF m 27 #[.val (.ref tb), .val (.int (so + (1 : Int32))), .val (.ref vc), .val (.int (dd + (1 : Int32))), .val (.int ln), .val (.int (0 : Int32))] [])) tt
      refine XS.iinc X3.here hx rfl (hb hby d22_27) rfl (l' := #[.val (.ref tb), .val (.int (so + (1 : Int32))), .val (.ref vc), .val (.int (dd + (1 : Int32))), .val (.int ln), .val (.int (1 : Int32))]) rfl ?_
      show Steps p.tables e below (T3.setTop (mkF m 30 #[.val (.ref tb), .val (.int (so + (1 : Int32))), .val (.ref vc), .val (.int (dd + (1 : Int32))), .val (.int ln), .val (.int (1 : Int32))] [])) tt
      refine XS.goto X3.here hx rfl (pc0 := 30) (pc' := 3) rfl (hb hby d22_30) (by decide) (by decide) ?_
      exact kk
    have hs1' : s1.toInt = so.toInt + 1 := by rw [hs1, own_inc hs0' (by omega)]; omega
    have hd1' : d1.toInt = dd.toInt + 1 := by rw [hd1, own_inc hd0' (by omega)]; omega
    refine Goal.to (B := T3.setTop (mkF m 7 #[.val (.ref tb), .val (.int s1), .val (.ref vc), .val (.int d1), .val (.int ln), .val (.int (1 : Int32))] [(.int ln), (.int (1 : Int32))])) (fun tt kk => ?_) ?_
    · show Steps p.tables e below (T3.setTop (mkF m 3 #[.val (.ref tb), .val (.int s1), .val (.ref vc), .val (.int d1), .val (.int ln), .val (.int (1 : Int32))] [])) tt
      refine XS.iload X3.here hx rfl (hb hby d22_3) rfl ?_
      show Steps p.tables e below (T3.setTop (mkF m 5 #[.val (.ref tb), .val (.int s1), .val (.ref vc), .val (.int d1), .val (.int ln), .val (.int (1 : Int32))] [(.int (1 : Int32))])) tt
      refine XS.iload X3.here hx rfl (hb hby d22_5) rfl ?_
      exact kk
    by_cases hk1 : (1 : Int32) < ln
    · have hk1' := own_lit (n := 1) hk1 rfl
      refine Goal.to (B := T3.setTop (mkF m 20 #[.val (.ref tb), .val (.int (s1 + (1 : Int32))), .val (.ref vc), .val (.int (d1 + (1 : Int32))), .val (.int ln), .val (.int (1 : Int32))] [(.int s1), (.ref tb), (.int d1), (.ref vc)])) (fun tt kk => ?_) ?_
      · show Steps p.tables e below (T3.setTop (mkF m 7 #[.val (.ref tb), .val (.int s1), .val (.ref vc), .val (.int d1), .val (.int ln), .val (.int (1 : Int32))] [(.int ln), (.int (1 : Int32))])) tt
        refine XS.icmpNo X3.here hx rfl (hb hby d22_7) rfl (tlt hk1).2.1 ?_
        show Steps p.tables e below (T3.setTop (mkF m 10 #[.val (.ref tb), .val (.int s1), .val (.ref vc), .val (.int d1), .val (.int ln), .val (.int (1 : Int32))] [])) tt
        refine XS.aloadN X3.here hx rfl (hb hby d22_10) rfl rfl ?_
        show Steps p.tables e below (T3.setTop (mkF m 11 #[.val (.ref tb), .val (.int s1), .val (.ref vc), .val (.int d1), .val (.int ln), .val (.int (1 : Int32))] [(.ref vc)])) tt
        refine XS.iloadN X3.here hx rfl (hb hby d22_11) rfl ?_
        show Steps p.tables e below (T3.setTop (mkF m 12 #[.val (.ref tb), .val (.int s1), .val (.ref vc), .val (.int d1), .val (.int ln), .val (.int (1 : Int32))] [(.int d1), (.ref vc)])) tt
        refine XS.iinc X3.here hx rfl (hb hby d22_12) rfl (l' := #[.val (.ref tb), .val (.int s1), .val (.ref vc), .val (.int (d1 + (1 : Int32))), .val (.int ln), .val (.int (1 : Int32))]) rfl ?_
        show Steps p.tables e below (T3.setTop (mkF m 15 #[.val (.ref tb), .val (.int s1), .val (.ref vc), .val (.int (d1 + (1 : Int32))), .val (.int ln), .val (.int (1 : Int32))] [(.int d1), (.ref vc)])) tt
        refine XS.aloadN X3.here hx rfl (hb hby d22_15) rfl rfl ?_
        show Steps p.tables e below (T3.setTop (mkF m 16 #[.val (.ref tb), .val (.int s1), .val (.ref vc), .val (.int (d1 + (1 : Int32))), .val (.int ln), .val (.int (1 : Int32))] [(.ref tb), (.int d1), (.ref vc)])) tt
        refine XS.iloadN X3.here hx rfl (hb hby d22_16) rfl ?_
        show Steps p.tables e below (T3.setTop (mkF m 17 #[.val (.ref tb), .val (.int s1), .val (.ref vc), .val (.int (d1 + (1 : Int32))), .val (.int ln), .val (.int (1 : Int32))] [(.int s1), (.ref tb), (.int d1), (.ref vc)])) tt
        refine XS.iinc X3.here hx rfl (hb hby d22_17) rfl (l' := #[.val (.ref tb), .val (.int (s1 + (1 : Int32))), .val (.ref vc), .val (.int (d1 + (1 : Int32))), .val (.int ln), .val (.int (1 : Int32))]) rfl ?_
        exact kk
      have f4 : Ary Z h3 tb .byte [(.int y0), (.int y1), (.int y2), (.int y3), (.int y4)] := (V_tb.other W3 ne_tb_vc)
      obtain ⟨z6, hz6⟩ := own_b5 y0 y1 y2 y3 y4 (own_ix (x := s1) (n := 5) (by omega) (by omega)).2
      obtain ⟨cl5, Ar5, Sl5⟩ := id f4
      have hin5 := inA (cl := cl5) Sl5 (j := s1) (own_ix (x := s1) (n := 5) (by omega) (by omega)).1 (own_ix (x := s1) (n := 5) (by omega) (by omega)).2
      have hat5 : cl5.slots[(s1).toNatClampNeg]? = some (.int z6) := atA Sl5 hz6
      refine Goal.to (B := T3.setTop (mkF m 26 #[.val (.ref tb), .val (.int (s1 + (1 : Int32))), .val (.ref vc), .val (.int (d1 + (1 : Int32))), .val (.int ln), .val (.int (1 : Int32))] [(.int ((z6 &&& (255 : Int32)).toUInt32.toUInt16.toUInt32.toInt32)), (.int d1), (.ref vc)])) (fun tt kk => ?_) ?_
      · show Steps p.tables e below (T3.setTop (mkF m 20 #[.val (.ref tb), .val (.int (s1 + (1 : Int32))), .val (.ref vc), .val (.int (d1 + (1 : Int32))), .val (.int ln), .val (.int (1 : Int32))] [(.int s1), (.ref tb), (.int d1), (.ref vc)])) tt
        refine X3.baloadBytes hx (j := s1) (v := (.int z6)) (by rw [e3]; exact Ar5.1) (State.isArrayOf_alike hZ.alike Ar5.2.1) Ar5.2.2 hin5 hat5 (g := (mkF m 20 #[.val (.ref tb), .val (.int (s1 + (1 : Int32))), .val (.ref vc), .val (.int (d1 + (1 : Int32))), .val (.int ln), .val (.int (1 : Int32))] [(.int s1), (.ref tb), (.int d1), (.ref vc)])) rfl rfl (hb hby d22_20) _ ?_
        show Steps p.tables e below (T3.setTop (mkF m 21 #[.val (.ref tb), .val (.int (s1 + (1 : Int32))), .val (.ref vc), .val (.int (d1 + (1 : Int32))), .val (.int ln), .val (.int (1 : Int32))] [(.int z6), (.int d1), (.ref vc)])) tt
        refine XS.sipush X3.here hx rfl (hb hby d22_21) ?_
        show Steps p.tables e below (T3.setTop (mkF m 24 #[.val (.ref tb), .val (.int (s1 + (1 : Int32))), .val (.ref vc), .val (.int (d1 + (1 : Int32))), .val (.int ln), .val (.int (1 : Int32))] [(.int (255 : Int32)), (.int z6), (.int d1), (.ref vc)])) tt
        refine XS.iand X3.here hx rfl (hb hby d22_24) rfl ?_
        show Steps p.tables e below (T3.setTop (mkF m 25 #[.val (.ref tb), .val (.int (s1 + (1 : Int32))), .val (.ref vc), .val (.int (d1 + (1 : Int32))), .val (.int ln), .val (.int (1 : Int32))] [(.int (z6 &&& (255 : Int32))), (.int d1), (.ref vc)])) tt
        refine XS.i2c X3.here hx rfl (hb hby d22_25) rfl ?_
        exact kk
      obtain ⟨cl7, Ar7, Sl7⟩ := id V3
      have hin7 := inA (cl := cl7) Sl7 (j := d1) (own_ix (x := d1) (n := xs.length) (by omega) (by omega)).1 (by first | exact (own_ix (by omega) (by omega)).2 | (simp only [List.length_set]; exact (own_ix (by omega) (by omega)).2))
      obtain ⟨T7, h7, X7, e7, W7, st7⟩ := stC X3 hx hZ e3 Ar7 (j := d1) hin7 (g := (mkF m 26 #[.val (.ref tb), .val (.int (s1 + (1 : Int32))), .val (.ref vc), .val (.int (d1 + (1 : Int32))), .val (.int ln), .val (.int (1 : Int32))] [(.int ((z6 &&& (255 : Int32)).toUInt32.toUInt16.toUInt32.toInt32)), (.int d1), (.ref vc)])) rfl rfl (hb hby d22_26)
      have V7 : Ary Z h7 vc .char ((((xs).set ((dd).toNatClampNeg) (.int (nar .char ((z2 &&& (255 : Int32)).toUInt32.toUInt16.toUInt32.toInt32))))).set ((d1).toNatClampNeg) (.int (nar .char ((z6 &&& (255 : Int32)).toUInt32.toUInt16.toUInt32.toInt32)))) := Ary.put Ar7 Sl7 W7 rfl
      have N7 := Fr.snoc X7 N3 g_vc
      refine Goal.to (B := T7.setTop (mkF m 27 #[.val (.ref tb), .val (.int (s1 + (1 : Int32))), .val (.ref vc), .val (.int (d1 + (1 : Int32))), .val (.int ln), .val (.int (1 : Int32))] [])) st7 ?_
      obtain ⟨s2, hs2⟩ : ∃ z : Int32, z = (s1 + (1 : Int32)) := ⟨_, rfl⟩
      obtain ⟨d2, hd2⟩ : ∃ z : Int32, z = (d1 + (1 : Int32)) := ⟨_, rfl⟩
      refine Goal.to (B := T7.setTop (mkF m 3 #[.val (.ref tb), .val (.int s2), .val (.ref vc), .val (.int d2), .val (.int ln), .val (.int (2 : Int32))] [])) (fun tt kk => ?_) ?_
      · subst hs2
        subst hd2
        show Steps p.tables e below (T7.setTop (mkF m 27 #[.val (.ref tb), .val (.int (s1 + (1 : Int32))), .val (.ref vc), .val (.int (d1 + (1 : Int32))), .val (.int ln), .val (.int (1 : Int32))] [])) tt
        refine XS.iinc X7.here hx rfl (hb hby d22_27) rfl (l' := #[.val (.ref tb), .val (.int (s1 + (1 : Int32))), .val (.ref vc), .val (.int (d1 + (1 : Int32))), .val (.int ln), .val (.int (2 : Int32))]) rfl ?_
        show Steps p.tables e below (T7.setTop (mkF m 30 #[.val (.ref tb), .val (.int (s1 + (1 : Int32))), .val (.ref vc), .val (.int (d1 + (1 : Int32))), .val (.int ln), .val (.int (2 : Int32))] [])) tt
        refine XS.goto X7.here hx rfl (pc0 := 30) (pc' := 3) rfl (hb hby d22_30) (by decide) (by decide) ?_
        exact kk
      have hs2' : s2.toInt = so.toInt + 2 := by rw [hs2, own_inc hs1' (by omega)]; omega
      have hd2' : d2.toInt = dd.toInt + 2 := by rw [hd2, own_inc hd1' (by omega)]; omega
      refine Goal.to (B := T7.setTop (mkF m 7 #[.val (.ref tb), .val (.int s2), .val (.ref vc), .val (.int d2), .val (.int ln), .val (.int (2 : Int32))] [(.int ln), (.int (2 : Int32))])) (fun tt kk => ?_) ?_
      · show Steps p.tables e below (T7.setTop (mkF m 3 #[.val (.ref tb), .val (.int s2), .val (.ref vc), .val (.int d2), .val (.int ln), .val (.int (2 : Int32))] [])) tt
        refine XS.iload X7.here hx rfl (hb hby d22_3) rfl ?_
        show Steps p.tables e below (T7.setTop (mkF m 5 #[.val (.ref tb), .val (.int s2), .val (.ref vc), .val (.int d2), .val (.int ln), .val (.int (2 : Int32))] [(.int (2 : Int32))])) tt
        refine XS.iload X7.here hx rfl (hb hby d22_5) rfl ?_
        exact kk
      by_cases hk2 : (2 : Int32) < ln
      · have hk2' := own_lit (n := 2) hk2 rfl
        refine Goal.to (B := T7.setTop (mkF m 20 #[.val (.ref tb), .val (.int (s2 + (1 : Int32))), .val (.ref vc), .val (.int (d2 + (1 : Int32))), .val (.int ln), .val (.int (2 : Int32))] [(.int s2), (.ref tb), (.int d2), (.ref vc)])) (fun tt kk => ?_) ?_
        · show Steps p.tables e below (T7.setTop (mkF m 7 #[.val (.ref tb), .val (.int s2), .val (.ref vc), .val (.int d2), .val (.int ln), .val (.int (2 : Int32))] [(.int ln), (.int (2 : Int32))])) tt
          refine XS.icmpNo X7.here hx rfl (hb hby d22_7) rfl (tlt hk2).2.1 ?_
          show Steps p.tables e below (T7.setTop (mkF m 10 #[.val (.ref tb), .val (.int s2), .val (.ref vc), .val (.int d2), .val (.int ln), .val (.int (2 : Int32))] [])) tt
          refine XS.aloadN X7.here hx rfl (hb hby d22_10) rfl rfl ?_
          show Steps p.tables e below (T7.setTop (mkF m 11 #[.val (.ref tb), .val (.int s2), .val (.ref vc), .val (.int d2), .val (.int ln), .val (.int (2 : Int32))] [(.ref vc)])) tt
          refine XS.iloadN X7.here hx rfl (hb hby d22_11) rfl ?_
          show Steps p.tables e below (T7.setTop (mkF m 12 #[.val (.ref tb), .val (.int s2), .val (.ref vc), .val (.int d2), .val (.int ln), .val (.int (2 : Int32))] [(.int d2), (.ref vc)])) tt
          refine XS.iinc X7.here hx rfl (hb hby d22_12) rfl (l' := #[.val (.ref tb), .val (.int s2), .val (.ref vc), .val (.int (d2 + (1 : Int32))), .val (.int ln), .val (.int (2 : Int32))]) rfl ?_
          show Steps p.tables e below (T7.setTop (mkF m 15 #[.val (.ref tb), .val (.int s2), .val (.ref vc), .val (.int (d2 + (1 : Int32))), .val (.int ln), .val (.int (2 : Int32))] [(.int d2), (.ref vc)])) tt
          refine XS.aloadN X7.here hx rfl (hb hby d22_15) rfl rfl ?_
          show Steps p.tables e below (T7.setTop (mkF m 16 #[.val (.ref tb), .val (.int s2), .val (.ref vc), .val (.int (d2 + (1 : Int32))), .val (.int ln), .val (.int (2 : Int32))] [(.ref tb), (.int d2), (.ref vc)])) tt
          refine XS.iloadN X7.here hx rfl (hb hby d22_16) rfl ?_
          show Steps p.tables e below (T7.setTop (mkF m 17 #[.val (.ref tb), .val (.int s2), .val (.ref vc), .val (.int (d2 + (1 : Int32))), .val (.int ln), .val (.int (2 : Int32))] [(.int s2), (.ref tb), (.int d2), (.ref vc)])) tt
          refine XS.iinc X7.here hx rfl (hb hby d22_17) rfl (l' := #[.val (.ref tb), .val (.int (s2 + (1 : Int32))), .val (.ref vc), .val (.int (d2 + (1 : Int32))), .val (.int ln), .val (.int (2 : Int32))]) rfl ?_
          exact kk
        have f8 : Ary Z h7 tb .byte [(.int y0), (.int y1), (.int y2), (.int y3), (.int y4)] := (f4.other W7 ne_tb_vc)
        obtain ⟨z10, hz10⟩ := own_b5 y0 y1 y2 y3 y4 (own_ix (x := s2) (n := 5) (by omega) (by omega)).2
        obtain ⟨cl9, Ar9, Sl9⟩ := id f8
        have hin9 := inA (cl := cl9) Sl9 (j := s2) (own_ix (x := s2) (n := 5) (by omega) (by omega)).1 (own_ix (x := s2) (n := 5) (by omega) (by omega)).2
        have hat9 : cl9.slots[(s2).toNatClampNeg]? = some (.int z10) := atA Sl9 hz10
        refine Goal.to (B := T7.setTop (mkF m 26 #[.val (.ref tb), .val (.int (s2 + (1 : Int32))), .val (.ref vc), .val (.int (d2 + (1 : Int32))), .val (.int ln), .val (.int (2 : Int32))] [(.int ((z10 &&& (255 : Int32)).toUInt32.toUInt16.toUInt32.toInt32)), (.int d2), (.ref vc)])) (fun tt kk => ?_) ?_
        · show Steps p.tables e below (T7.setTop (mkF m 20 #[.val (.ref tb), .val (.int (s2 + (1 : Int32))), .val (.ref vc), .val (.int (d2 + (1 : Int32))), .val (.int ln), .val (.int (2 : Int32))] [(.int s2), (.ref tb), (.int d2), (.ref vc)])) tt
          refine X7.baloadBytes hx (j := s2) (v := (.int z10)) (by rw [e7]; exact Ar9.1) (State.isArrayOf_alike hZ.alike Ar9.2.1) Ar9.2.2 hin9 hat9 (g := (mkF m 20 #[.val (.ref tb), .val (.int (s2 + (1 : Int32))), .val (.ref vc), .val (.int (d2 + (1 : Int32))), .val (.int ln), .val (.int (2 : Int32))] [(.int s2), (.ref tb), (.int d2), (.ref vc)])) rfl rfl (hb hby d22_20) _ ?_
          show Steps p.tables e below (T7.setTop (mkF m 21 #[.val (.ref tb), .val (.int (s2 + (1 : Int32))), .val (.ref vc), .val (.int (d2 + (1 : Int32))), .val (.int ln), .val (.int (2 : Int32))] [(.int z10), (.int d2), (.ref vc)])) tt
          refine XS.sipush X7.here hx rfl (hb hby d22_21) ?_
          show Steps p.tables e below (T7.setTop (mkF m 24 #[.val (.ref tb), .val (.int (s2 + (1 : Int32))), .val (.ref vc), .val (.int (d2 + (1 : Int32))), .val (.int ln), .val (.int (2 : Int32))] [(.int (255 : Int32)), (.int z10), (.int d2), (.ref vc)])) tt
          refine XS.iand X7.here hx rfl (hb hby d22_24) rfl ?_
          show Steps p.tables e below (T7.setTop (mkF m 25 #[.val (.ref tb), .val (.int (s2 + (1 : Int32))), .val (.ref vc), .val (.int (d2 + (1 : Int32))), .val (.int ln), .val (.int (2 : Int32))] [(.int (z10 &&& (255 : Int32))), (.int d2), (.ref vc)])) tt
          refine XS.i2c X7.here hx rfl (hb hby d22_25) rfl ?_
          exact kk
        obtain ⟨cl11, Ar11, Sl11⟩ := id V7
        have hin11 := inA (cl := cl11) Sl11 (j := d2) (own_ix (x := d2) (n := xs.length) (by omega) (by omega)).1 (by first | exact (own_ix (by omega) (by omega)).2 | (simp only [List.length_set]; exact (own_ix (by omega) (by omega)).2))
        obtain ⟨T11, h11, X11, e11, W11, st11⟩ := stC X7 hx hZ e7 Ar11 (j := d2) hin11 (g := (mkF m 26 #[.val (.ref tb), .val (.int (s2 + (1 : Int32))), .val (.ref vc), .val (.int (d2 + (1 : Int32))), .val (.int ln), .val (.int (2 : Int32))] [(.int ((z10 &&& (255 : Int32)).toUInt32.toUInt16.toUInt32.toInt32)), (.int d2), (.ref vc)])) rfl rfl (hb hby d22_26)
        have V11 : Ary Z h11 vc .char ((((((xs).set ((dd).toNatClampNeg) (.int (nar .char ((z2 &&& (255 : Int32)).toUInt32.toUInt16.toUInt32.toInt32))))).set ((d1).toNatClampNeg) (.int (nar .char ((z6 &&& (255 : Int32)).toUInt32.toUInt16.toUInt32.toInt32))))).set ((d2).toNatClampNeg) (.int (nar .char ((z10 &&& (255 : Int32)).toUInt32.toUInt16.toUInt32.toInt32)))) := Ary.put Ar11 Sl11 W11 rfl
        have N11 := Fr.snoc X11 N7 g_vc
        refine Goal.to (B := T11.setTop (mkF m 27 #[.val (.ref tb), .val (.int (s2 + (1 : Int32))), .val (.ref vc), .val (.int (d2 + (1 : Int32))), .val (.int ln), .val (.int (2 : Int32))] [])) st11 ?_
        obtain ⟨s3, hs3⟩ : ∃ z : Int32, z = (s2 + (1 : Int32)) := ⟨_, rfl⟩
        obtain ⟨d3, hd3⟩ : ∃ z : Int32, z = (d2 + (1 : Int32)) := ⟨_, rfl⟩
        refine Goal.to (B := T11.setTop (mkF m 3 #[.val (.ref tb), .val (.int s3), .val (.ref vc), .val (.int d3), .val (.int ln), .val (.int (3 : Int32))] [])) (fun tt kk => ?_) ?_
        · subst hs3
          subst hd3
          show Steps p.tables e below (T11.setTop (mkF m 27 #[.val (.ref tb), .val (.int (s2 + (1 : Int32))), .val (.ref vc), .val (.int (d2 + (1 : Int32))), .val (.int ln), .val (.int (2 : Int32))] [])) tt
          refine XS.iinc X11.here hx rfl (hb hby d22_27) rfl (l' := #[.val (.ref tb), .val (.int (s2 + (1 : Int32))), .val (.ref vc), .val (.int (d2 + (1 : Int32))), .val (.int ln), .val (.int (3 : Int32))]) rfl ?_
          show Steps p.tables e below (T11.setTop (mkF m 30 #[.val (.ref tb), .val (.int (s2 + (1 : Int32))), .val (.ref vc), .val (.int (d2 + (1 : Int32))), .val (.int ln), .val (.int (3 : Int32))] [])) tt
          refine XS.goto X11.here hx rfl (pc0 := 30) (pc' := 3) rfl (hb hby d22_30) (by decide) (by decide) ?_
          exact kk
        have hs3' : s3.toInt = so.toInt + 3 := by rw [hs3, own_inc hs2' (by omega)]; omega
        have hd3' : d3.toInt = dd.toInt + 3 := by rw [hd3, own_inc hd2' (by omega)]; omega
        refine Goal.to (B := T11.setTop (mkF m 7 #[.val (.ref tb), .val (.int s3), .val (.ref vc), .val (.int d3), .val (.int ln), .val (.int (3 : Int32))] [(.int ln), (.int (3 : Int32))])) (fun tt kk => ?_) ?_
        · show Steps p.tables e below (T11.setTop (mkF m 3 #[.val (.ref tb), .val (.int s3), .val (.ref vc), .val (.int d3), .val (.int ln), .val (.int (3 : Int32))] [])) tt
          refine XS.iload X11.here hx rfl (hb hby d22_3) rfl ?_
          show Steps p.tables e below (T11.setTop (mkF m 5 #[.val (.ref tb), .val (.int s3), .val (.ref vc), .val (.int d3), .val (.int ln), .val (.int (3 : Int32))] [(.int (3 : Int32))])) tt
          refine XS.iload X11.here hx rfl (hb hby d22_5) rfl ?_
          exact kk
        by_cases hk3 : (3 : Int32) < ln
        · have hk3' := own_lit (n := 3) hk3 rfl
          refine Goal.to (B := T11.setTop (mkF m 20 #[.val (.ref tb), .val (.int (s3 + (1 : Int32))), .val (.ref vc), .val (.int (d3 + (1 : Int32))), .val (.int ln), .val (.int (3 : Int32))] [(.int s3), (.ref tb), (.int d3), (.ref vc)])) (fun tt kk => ?_) ?_
          · show Steps p.tables e below (T11.setTop (mkF m 7 #[.val (.ref tb), .val (.int s3), .val (.ref vc), .val (.int d3), .val (.int ln), .val (.int (3 : Int32))] [(.int ln), (.int (3 : Int32))])) tt
            refine XS.icmpNo X11.here hx rfl (hb hby d22_7) rfl (tlt hk3).2.1 ?_
            show Steps p.tables e below (T11.setTop (mkF m 10 #[.val (.ref tb), .val (.int s3), .val (.ref vc), .val (.int d3), .val (.int ln), .val (.int (3 : Int32))] [])) tt
            refine XS.aloadN X11.here hx rfl (hb hby d22_10) rfl rfl ?_
            show Steps p.tables e below (T11.setTop (mkF m 11 #[.val (.ref tb), .val (.int s3), .val (.ref vc), .val (.int d3), .val (.int ln), .val (.int (3 : Int32))] [(.ref vc)])) tt
            refine XS.iloadN X11.here hx rfl (hb hby d22_11) rfl ?_
            show Steps p.tables e below (T11.setTop (mkF m 12 #[.val (.ref tb), .val (.int s3), .val (.ref vc), .val (.int d3), .val (.int ln), .val (.int (3 : Int32))] [(.int d3), (.ref vc)])) tt
            refine XS.iinc X11.here hx rfl (hb hby d22_12) rfl (l' := #[.val (.ref tb), .val (.int s3), .val (.ref vc), .val (.int (d3 + (1 : Int32))), .val (.int ln), .val (.int (3 : Int32))]) rfl ?_
            show Steps p.tables e below (T11.setTop (mkF m 15 #[.val (.ref tb), .val (.int s3), .val (.ref vc), .val (.int (d3 + (1 : Int32))), .val (.int ln), .val (.int (3 : Int32))] [(.int d3), (.ref vc)])) tt
            refine XS.aloadN X11.here hx rfl (hb hby d22_15) rfl rfl ?_
            show Steps p.tables e below (T11.setTop (mkF m 16 #[.val (.ref tb), .val (.int s3), .val (.ref vc), .val (.int (d3 + (1 : Int32))), .val (.int ln), .val (.int (3 : Int32))] [(.ref tb), (.int d3), (.ref vc)])) tt
            refine XS.iloadN X11.here hx rfl (hb hby d22_16) rfl ?_
            show Steps p.tables e below (T11.setTop (mkF m 17 #[.val (.ref tb), .val (.int s3), .val (.ref vc), .val (.int (d3 + (1 : Int32))), .val (.int ln), .val (.int (3 : Int32))] [(.int s3), (.ref tb), (.int d3), (.ref vc)])) tt
            refine XS.iinc X11.here hx rfl (hb hby d22_17) rfl (l' := #[.val (.ref tb), .val (.int (s3 + (1 : Int32))), .val (.ref vc), .val (.int (d3 + (1 : Int32))), .val (.int ln), .val (.int (3 : Int32))]) rfl ?_
            exact kk
          have f12 : Ary Z h11 tb .byte [(.int y0), (.int y1), (.int y2), (.int y3), (.int y4)] := (f8.other W11 ne_tb_vc)
          obtain ⟨z14, hz14⟩ := own_b5 y0 y1 y2 y3 y4 (own_ix (x := s3) (n := 5) (by omega) (by omega)).2
          obtain ⟨cl13, Ar13, Sl13⟩ := id f12
          have hin13 := inA (cl := cl13) Sl13 (j := s3) (own_ix (x := s3) (n := 5) (by omega) (by omega)).1 (own_ix (x := s3) (n := 5) (by omega) (by omega)).2
          have hat13 : cl13.slots[(s3).toNatClampNeg]? = some (.int z14) := atA Sl13 hz14
          refine Goal.to (B := T11.setTop (mkF m 26 #[.val (.ref tb), .val (.int (s3 + (1 : Int32))), .val (.ref vc), .val (.int (d3 + (1 : Int32))), .val (.int ln), .val (.int (3 : Int32))] [(.int ((z14 &&& (255 : Int32)).toUInt32.toUInt16.toUInt32.toInt32)), (.int d3), (.ref vc)])) (fun tt kk => ?_) ?_
          · show Steps p.tables e below (T11.setTop (mkF m 20 #[.val (.ref tb), .val (.int (s3 + (1 : Int32))), .val (.ref vc), .val (.int (d3 + (1 : Int32))), .val (.int ln), .val (.int (3 : Int32))] [(.int s3), (.ref tb), (.int d3), (.ref vc)])) tt
            refine X11.baloadBytes hx (j := s3) (v := (.int z14)) (by rw [e11]; exact Ar13.1) (State.isArrayOf_alike hZ.alike Ar13.2.1) Ar13.2.2 hin13 hat13 (g := (mkF m 20 #[.val (.ref tb), .val (.int (s3 + (1 : Int32))), .val (.ref vc), .val (.int (d3 + (1 : Int32))), .val (.int ln), .val (.int (3 : Int32))] [(.int s3), (.ref tb), (.int d3), (.ref vc)])) rfl rfl (hb hby d22_20) _ ?_
            show Steps p.tables e below (T11.setTop (mkF m 21 #[.val (.ref tb), .val (.int (s3 + (1 : Int32))), .val (.ref vc), .val (.int (d3 + (1 : Int32))), .val (.int ln), .val (.int (3 : Int32))] [(.int z14), (.int d3), (.ref vc)])) tt
            refine XS.sipush X11.here hx rfl (hb hby d22_21) ?_
            show Steps p.tables e below (T11.setTop (mkF m 24 #[.val (.ref tb), .val (.int (s3 + (1 : Int32))), .val (.ref vc), .val (.int (d3 + (1 : Int32))), .val (.int ln), .val (.int (3 : Int32))] [(.int (255 : Int32)), (.int z14), (.int d3), (.ref vc)])) tt
            refine XS.iand X11.here hx rfl (hb hby d22_24) rfl ?_
            show Steps p.tables e below (T11.setTop (mkF m 25 #[.val (.ref tb), .val (.int (s3 + (1 : Int32))), .val (.ref vc), .val (.int (d3 + (1 : Int32))), .val (.int ln), .val (.int (3 : Int32))] [(.int (z14 &&& (255 : Int32))), (.int d3), (.ref vc)])) tt
            refine XS.i2c X11.here hx rfl (hb hby d22_25) rfl ?_
            exact kk
          obtain ⟨cl15, Ar15, Sl15⟩ := id V11
          have hin15 := inA (cl := cl15) Sl15 (j := d3) (own_ix (x := d3) (n := xs.length) (by omega) (by omega)).1 (by first | exact (own_ix (by omega) (by omega)).2 | (simp only [List.length_set]; exact (own_ix (by omega) (by omega)).2))
          obtain ⟨T15, h15, X15, e15, W15, st15⟩ := stC X11 hx hZ e11 Ar15 (j := d3) hin15 (g := (mkF m 26 #[.val (.ref tb), .val (.int (s3 + (1 : Int32))), .val (.ref vc), .val (.int (d3 + (1 : Int32))), .val (.int ln), .val (.int (3 : Int32))] [(.int ((z14 &&& (255 : Int32)).toUInt32.toUInt16.toUInt32.toInt32)), (.int d3), (.ref vc)])) rfl rfl (hb hby d22_26)
          have V15 : Ary Z h15 vc .char ((((((((xs).set ((dd).toNatClampNeg) (.int (nar .char ((z2 &&& (255 : Int32)).toUInt32.toUInt16.toUInt32.toInt32))))).set ((d1).toNatClampNeg) (.int (nar .char ((z6 &&& (255 : Int32)).toUInt32.toUInt16.toUInt32.toInt32))))).set ((d2).toNatClampNeg) (.int (nar .char ((z10 &&& (255 : Int32)).toUInt32.toUInt16.toUInt32.toInt32))))).set ((d3).toNatClampNeg) (.int (nar .char ((z14 &&& (255 : Int32)).toUInt32.toUInt16.toUInt32.toInt32)))) := Ary.put Ar15 Sl15 W15 rfl
          have N15 := Fr.snoc X15 N11 g_vc
          refine Goal.to (B := T15.setTop (mkF m 27 #[.val (.ref tb), .val (.int (s3 + (1 : Int32))), .val (.ref vc), .val (.int (d3 + (1 : Int32))), .val (.int ln), .val (.int (3 : Int32))] [])) st15 ?_
          obtain ⟨s4, hs4⟩ : ∃ z : Int32, z = (s3 + (1 : Int32)) := ⟨_, rfl⟩
          obtain ⟨d4, hd4⟩ : ∃ z : Int32, z = (d3 + (1 : Int32)) := ⟨_, rfl⟩
          refine Goal.to (B := T15.setTop (mkF m 3 #[.val (.ref tb), .val (.int s4), .val (.ref vc), .val (.int d4), .val (.int ln), .val (.int (4 : Int32))] [])) (fun tt kk => ?_) ?_
          · subst hs4
            subst hd4
            show Steps p.tables e below (T15.setTop (mkF m 27 #[.val (.ref tb), .val (.int (s3 + (1 : Int32))), .val (.ref vc), .val (.int (d3 + (1 : Int32))), .val (.int ln), .val (.int (3 : Int32))] [])) tt
            refine XS.iinc X15.here hx rfl (hb hby d22_27) rfl (l' := #[.val (.ref tb), .val (.int (s3 + (1 : Int32))), .val (.ref vc), .val (.int (d3 + (1 : Int32))), .val (.int ln), .val (.int (4 : Int32))]) rfl ?_
            show Steps p.tables e below (T15.setTop (mkF m 30 #[.val (.ref tb), .val (.int (s3 + (1 : Int32))), .val (.ref vc), .val (.int (d3 + (1 : Int32))), .val (.int ln), .val (.int (4 : Int32))] [])) tt
            refine XS.goto X15.here hx rfl (pc0 := 30) (pc' := 3) rfl (hb hby d22_30) (by decide) (by decide) ?_
            exact kk
          have hs4' : s4.toInt = so.toInt + 4 := by rw [hs4, own_inc hs3' (by omega)]; omega
          have hd4' : d4.toInt = dd.toInt + 4 := by rw [hd4, own_inc hd3' (by omega)]; omega
          refine Goal.to (B := T15.setTop (mkF m 7 #[.val (.ref tb), .val (.int s4), .val (.ref vc), .val (.int d4), .val (.int ln), .val (.int (4 : Int32))] [(.int ln), (.int (4 : Int32))])) (fun tt kk => ?_) ?_
          · show Steps p.tables e below (T15.setTop (mkF m 3 #[.val (.ref tb), .val (.int s4), .val (.ref vc), .val (.int d4), .val (.int ln), .val (.int (4 : Int32))] [])) tt
            refine XS.iload X15.here hx rfl (hb hby d22_3) rfl ?_
            show Steps p.tables e below (T15.setTop (mkF m 5 #[.val (.ref tb), .val (.int s4), .val (.ref vc), .val (.int d4), .val (.int ln), .val (.int (4 : Int32))] [(.int (4 : Int32))])) tt
            refine XS.iload X15.here hx rfl (hb hby d22_5) rfl ?_
            exact kk
          by_cases hk4 : (4 : Int32) < ln
          · have hk4' := own_lit (n := 4) hk4 rfl
            refine Goal.to (B := T15.setTop (mkF m 20 #[.val (.ref tb), .val (.int (s4 + (1 : Int32))), .val (.ref vc), .val (.int (d4 + (1 : Int32))), .val (.int ln), .val (.int (4 : Int32))] [(.int s4), (.ref tb), (.int d4), (.ref vc)])) (fun tt kk => ?_) ?_
            · show Steps p.tables e below (T15.setTop (mkF m 7 #[.val (.ref tb), .val (.int s4), .val (.ref vc), .val (.int d4), .val (.int ln), .val (.int (4 : Int32))] [(.int ln), (.int (4 : Int32))])) tt
              refine XS.icmpNo X15.here hx rfl (hb hby d22_7) rfl (tlt hk4).2.1 ?_
              show Steps p.tables e below (T15.setTop (mkF m 10 #[.val (.ref tb), .val (.int s4), .val (.ref vc), .val (.int d4), .val (.int ln), .val (.int (4 : Int32))] [])) tt
              refine XS.aloadN X15.here hx rfl (hb hby d22_10) rfl rfl ?_
              show Steps p.tables e below (T15.setTop (mkF m 11 #[.val (.ref tb), .val (.int s4), .val (.ref vc), .val (.int d4), .val (.int ln), .val (.int (4 : Int32))] [(.ref vc)])) tt
              refine XS.iloadN X15.here hx rfl (hb hby d22_11) rfl ?_
              show Steps p.tables e below (T15.setTop (mkF m 12 #[.val (.ref tb), .val (.int s4), .val (.ref vc), .val (.int d4), .val (.int ln), .val (.int (4 : Int32))] [(.int d4), (.ref vc)])) tt
              refine XS.iinc X15.here hx rfl (hb hby d22_12) rfl (l' := #[.val (.ref tb), .val (.int s4), .val (.ref vc), .val (.int (d4 + (1 : Int32))), .val (.int ln), .val (.int (4 : Int32))]) rfl ?_
              show Steps p.tables e below (T15.setTop (mkF m 15 #[.val (.ref tb), .val (.int s4), .val (.ref vc), .val (.int (d4 + (1 : Int32))), .val (.int ln), .val (.int (4 : Int32))] [(.int d4), (.ref vc)])) tt
              refine XS.aloadN X15.here hx rfl (hb hby d22_15) rfl rfl ?_
              show Steps p.tables e below (T15.setTop (mkF m 16 #[.val (.ref tb), .val (.int s4), .val (.ref vc), .val (.int (d4 + (1 : Int32))), .val (.int ln), .val (.int (4 : Int32))] [(.ref tb), (.int d4), (.ref vc)])) tt
              refine XS.iloadN X15.here hx rfl (hb hby d22_16) rfl ?_
              show Steps p.tables e below (T15.setTop (mkF m 17 #[.val (.ref tb), .val (.int s4), .val (.ref vc), .val (.int (d4 + (1 : Int32))), .val (.int ln), .val (.int (4 : Int32))] [(.int s4), (.ref tb), (.int d4), (.ref vc)])) tt
              refine XS.iinc X15.here hx rfl (hb hby d22_17) rfl (l' := #[.val (.ref tb), .val (.int (s4 + (1 : Int32))), .val (.ref vc), .val (.int (d4 + (1 : Int32))), .val (.int ln), .val (.int (4 : Int32))]) rfl ?_
              exact kk
            have f16 : Ary Z h15 tb .byte [(.int y0), (.int y1), (.int y2), (.int y3), (.int y4)] := (f12.other W15 ne_tb_vc)
            obtain ⟨z18, hz18⟩ := own_b5 y0 y1 y2 y3 y4 (own_ix (x := s4) (n := 5) (by omega) (by omega)).2
            obtain ⟨cl17, Ar17, Sl17⟩ := id f16
            have hin17 := inA (cl := cl17) Sl17 (j := s4) (own_ix (x := s4) (n := 5) (by omega) (by omega)).1 (own_ix (x := s4) (n := 5) (by omega) (by omega)).2
            have hat17 : cl17.slots[(s4).toNatClampNeg]? = some (.int z18) := atA Sl17 hz18
            refine Goal.to (B := T15.setTop (mkF m 26 #[.val (.ref tb), .val (.int (s4 + (1 : Int32))), .val (.ref vc), .val (.int (d4 + (1 : Int32))), .val (.int ln), .val (.int (4 : Int32))] [(.int ((z18 &&& (255 : Int32)).toUInt32.toUInt16.toUInt32.toInt32)), (.int d4), (.ref vc)])) (fun tt kk => ?_) ?_
            · show Steps p.tables e below (T15.setTop (mkF m 20 #[.val (.ref tb), .val (.int (s4 + (1 : Int32))), .val (.ref vc), .val (.int (d4 + (1 : Int32))), .val (.int ln), .val (.int (4 : Int32))] [(.int s4), (.ref tb), (.int d4), (.ref vc)])) tt
              refine X15.baloadBytes hx (j := s4) (v := (.int z18)) (by rw [e15]; exact Ar17.1) (State.isArrayOf_alike hZ.alike Ar17.2.1) Ar17.2.2 hin17 hat17 (g := (mkF m 20 #[.val (.ref tb), .val (.int (s4 + (1 : Int32))), .val (.ref vc), .val (.int (d4 + (1 : Int32))), .val (.int ln), .val (.int (4 : Int32))] [(.int s4), (.ref tb), (.int d4), (.ref vc)])) rfl rfl (hb hby d22_20) _ ?_
              show Steps p.tables e below (T15.setTop (mkF m 21 #[.val (.ref tb), .val (.int (s4 + (1 : Int32))), .val (.ref vc), .val (.int (d4 + (1 : Int32))), .val (.int ln), .val (.int (4 : Int32))] [(.int z18), (.int d4), (.ref vc)])) tt
              refine XS.sipush X15.here hx rfl (hb hby d22_21) ?_
              show Steps p.tables e below (T15.setTop (mkF m 24 #[.val (.ref tb), .val (.int (s4 + (1 : Int32))), .val (.ref vc), .val (.int (d4 + (1 : Int32))), .val (.int ln), .val (.int (4 : Int32))] [(.int (255 : Int32)), (.int z18), (.int d4), (.ref vc)])) tt
              refine XS.iand X15.here hx rfl (hb hby d22_24) rfl ?_
              show Steps p.tables e below (T15.setTop (mkF m 25 #[.val (.ref tb), .val (.int (s4 + (1 : Int32))), .val (.ref vc), .val (.int (d4 + (1 : Int32))), .val (.int ln), .val (.int (4 : Int32))] [(.int (z18 &&& (255 : Int32))), (.int d4), (.ref vc)])) tt
              refine XS.i2c X15.here hx rfl (hb hby d22_25) rfl ?_
              exact kk
            obtain ⟨cl19, Ar19, Sl19⟩ := id V15
            have hin19 := inA (cl := cl19) Sl19 (j := d4) (own_ix (x := d4) (n := xs.length) (by omega) (by omega)).1 (by first | exact (own_ix (by omega) (by omega)).2 | (simp only [List.length_set]; exact (own_ix (by omega) (by omega)).2))
            obtain ⟨T19, h19, X19, e19, W19, st19⟩ := stC X15 hx hZ e15 Ar19 (j := d4) hin19 (g := (mkF m 26 #[.val (.ref tb), .val (.int (s4 + (1 : Int32))), .val (.ref vc), .val (.int (d4 + (1 : Int32))), .val (.int ln), .val (.int (4 : Int32))] [(.int ((z18 &&& (255 : Int32)).toUInt32.toUInt16.toUInt32.toInt32)), (.int d4), (.ref vc)])) rfl rfl (hb hby d22_26)
            have V19 : Ary Z h19 vc .char ((((((((((xs).set ((dd).toNatClampNeg) (.int (nar .char ((z2 &&& (255 : Int32)).toUInt32.toUInt16.toUInt32.toInt32))))).set ((d1).toNatClampNeg) (.int (nar .char ((z6 &&& (255 : Int32)).toUInt32.toUInt16.toUInt32.toInt32))))).set ((d2).toNatClampNeg) (.int (nar .char ((z10 &&& (255 : Int32)).toUInt32.toUInt16.toUInt32.toInt32))))).set ((d3).toNatClampNeg) (.int (nar .char ((z14 &&& (255 : Int32)).toUInt32.toUInt16.toUInt32.toInt32))))).set ((d4).toNatClampNeg) (.int (nar .char ((z18 &&& (255 : Int32)).toUInt32.toUInt16.toUInt32.toInt32)))) := Ary.put Ar19 Sl19 W19 rfl
            have N19 := Fr.snoc X19 N15 g_vc
            refine Goal.to (B := T19.setTop (mkF m 27 #[.val (.ref tb), .val (.int (s4 + (1 : Int32))), .val (.ref vc), .val (.int (d4 + (1 : Int32))), .val (.int ln), .val (.int (4 : Int32))] [])) st19 ?_
            obtain ⟨s5, hs5⟩ : ∃ z : Int32, z = (s4 + (1 : Int32)) := ⟨_, rfl⟩
            obtain ⟨d5, hd5⟩ : ∃ z : Int32, z = (d4 + (1 : Int32)) := ⟨_, rfl⟩
            refine Goal.to (B := T19.setTop (mkF m 3 #[.val (.ref tb), .val (.int s5), .val (.ref vc), .val (.int d5), .val (.int ln), .val (.int (5 : Int32))] [])) (fun tt kk => ?_) ?_
            · subst hs5
              subst hd5
              show Steps p.tables e below (T19.setTop (mkF m 27 #[.val (.ref tb), .val (.int (s4 + (1 : Int32))), .val (.ref vc), .val (.int (d4 + (1 : Int32))), .val (.int ln), .val (.int (4 : Int32))] [])) tt
              refine XS.iinc X19.here hx rfl (hb hby d22_27) rfl (l' := #[.val (.ref tb), .val (.int (s4 + (1 : Int32))), .val (.ref vc), .val (.int (d4 + (1 : Int32))), .val (.int ln), .val (.int (5 : Int32))]) rfl ?_
              show Steps p.tables e below (T19.setTop (mkF m 30 #[.val (.ref tb), .val (.int (s4 + (1 : Int32))), .val (.ref vc), .val (.int (d4 + (1 : Int32))), .val (.int ln), .val (.int (5 : Int32))] [])) tt
              refine XS.goto X19.here hx rfl (pc0 := 30) (pc' := 3) rfl (hb hby d22_30) (by decide) (by decide) ?_
              exact kk
            have hs5' : s5.toInt = so.toInt + 5 := by rw [hs5, own_inc hs4' (by omega)]; omega
            have hd5' : d5.toInt = dd.toInt + 5 := by rw [hd5, own_inc hd4' (by omega)]; omega
            refine Goal.to (B := T19.setTop (mkF m 33 #[.val (.ref tb), .val (.int s5), .val (.ref vc), .val (.int d5), .val (.int ln), .val (.int (5 : Int32))] [])) (fun tt kk => ?_) ?_
            · show Steps p.tables e below (T19.setTop (mkF m 3 #[.val (.ref tb), .val (.int s5), .val (.ref vc), .val (.int d5), .val (.int ln), .val (.int (5 : Int32))] [])) tt
              refine XS.iload X19.here hx rfl (hb hby d22_3) rfl ?_
              show Steps p.tables e below (T19.setTop (mkF m 5 #[.val (.ref tb), .val (.int s5), .val (.ref vc), .val (.int d5), .val (.int ln), .val (.int (5 : Int32))] [(.int (5 : Int32))])) tt
              refine XS.iload X19.here hx rfl (hb hby d22_5) rfl ?_
              show Steps p.tables e below (T19.setTop (mkF m 7 #[.val (.ref tb), .val (.int s5), .val (.ref vc), .val (.int d5), .val (.int ln), .val (.int (5 : Int32))] [(.int ln), (.int (5 : Int32))])) tt
              refine XS.icmpYes X19.here hx rfl (pc0 := 7) (pc' := 33) rfl (hb hby d22_7) rfl (flt (own_nlt (show ln.toInt ≤ 5 by omega) : ¬ ((5 : Int32) < ln))).2.1 (by decide) (by decide) ?_
              exact kk
            have f20 : Keep h0 h19 [vc] := ((((((Keep.refl h0 [vc]).wr W3 (Or.inl (List.mem_of_getElem? (i := 0) rfl))).wr W7 (Or.inl (List.mem_of_getElem? (i := 0) rfl))).wr W11 (Or.inl (List.mem_of_getElem? (i := 0) rfl))).wr W15 (Or.inl (List.mem_of_getElem? (i := 0) rfl))).wr W19 (Or.inl (List.mem_of_getElem? (i := 0) rfl)))
            exact Goal.retN X19 hx Bd.returns (hb hby d22_33) hlk e19 ⟨((((((((((xs).set ((dd).toNatClampNeg) (.int (nar .char ((z2 &&& (255 : Int32)).toUInt32.toUInt16.toUInt32.toInt32))))).set ((d1).toNatClampNeg) (.int (nar .char ((z6 &&& (255 : Int32)).toUInt32.toUInt16.toUInt32.toInt32))))).set ((d2).toNatClampNeg) (.int (nar .char ((z10 &&& (255 : Int32)).toUInt32.toUInt16.toUInt32.toInt32))))).set ((d3).toNatClampNeg) (.int (nar .char ((z14 &&& (255 : Int32)).toUInt32.toUInt16.toUInt32.toInt32))))).set ((d4).toNatClampNeg) (.int (nar .char ((z18 &&& (255 : Int32)).toUInt32.toUInt16.toUInt32.toInt32)))), rfl, N19, f20, V19, (by simp only [List.length_set]), (own_Cset (own_Cset (own_Cset (own_Cset (own_Cset hcx)))))⟩ (by decide) (by decide)
          · refine Goal.to (B := T15.setTop (mkF m 33 #[.val (.ref tb), .val (.int s4), .val (.ref vc), .val (.int d4), .val (.int ln), .val (.int (4 : Int32))] [])) (fun tt kk => ?_) ?_
            · show Steps p.tables e below (T15.setTop (mkF m 7 #[.val (.ref tb), .val (.int s4), .val (.ref vc), .val (.int d4), .val (.int ln), .val (.int (4 : Int32))] [(.int ln), (.int (4 : Int32))])) tt
              refine XS.icmpYes X15.here hx rfl (pc0 := 7) (pc' := 33) rfl (hb hby d22_7) rfl (flt hk4).2.1 (by decide) (by decide) ?_
              exact kk
            have f21 : Keep h0 h15 [vc] := (((((Keep.refl h0 [vc]).wr W3 (Or.inl (List.mem_of_getElem? (i := 0) rfl))).wr W7 (Or.inl (List.mem_of_getElem? (i := 0) rfl))).wr W11 (Or.inl (List.mem_of_getElem? (i := 0) rfl))).wr W15 (Or.inl (List.mem_of_getElem? (i := 0) rfl)))
            exact Goal.retN X15 hx Bd.returns (hb hby d22_33) hlk e15 ⟨((((((((xs).set ((dd).toNatClampNeg) (.int (nar .char ((z2 &&& (255 : Int32)).toUInt32.toUInt16.toUInt32.toInt32))))).set ((d1).toNatClampNeg) (.int (nar .char ((z6 &&& (255 : Int32)).toUInt32.toUInt16.toUInt32.toInt32))))).set ((d2).toNatClampNeg) (.int (nar .char ((z10 &&& (255 : Int32)).toUInt32.toUInt16.toUInt32.toInt32))))).set ((d3).toNatClampNeg) (.int (nar .char ((z14 &&& (255 : Int32)).toUInt32.toUInt16.toUInt32.toInt32)))), rfl, N15, f21, V15, (by simp only [List.length_set]), (own_Cset (own_Cset (own_Cset (own_Cset hcx))))⟩ (by decide) (by decide)
        · refine Goal.to (B := T11.setTop (mkF m 33 #[.val (.ref tb), .val (.int s3), .val (.ref vc), .val (.int d3), .val (.int ln), .val (.int (3 : Int32))] [])) (fun tt kk => ?_) ?_
          · show Steps p.tables e below (T11.setTop (mkF m 7 #[.val (.ref tb), .val (.int s3), .val (.ref vc), .val (.int d3), .val (.int ln), .val (.int (3 : Int32))] [(.int ln), (.int (3 : Int32))])) tt
            refine XS.icmpYes X11.here hx rfl (pc0 := 7) (pc' := 33) rfl (hb hby d22_7) rfl (flt hk3).2.1 (by decide) (by decide) ?_
            exact kk
          have f22 : Keep h0 h11 [vc] := ((((Keep.refl h0 [vc]).wr W3 (Or.inl (List.mem_of_getElem? (i := 0) rfl))).wr W7 (Or.inl (List.mem_of_getElem? (i := 0) rfl))).wr W11 (Or.inl (List.mem_of_getElem? (i := 0) rfl)))
          exact Goal.retN X11 hx Bd.returns (hb hby d22_33) hlk e11 ⟨((((((xs).set ((dd).toNatClampNeg) (.int (nar .char ((z2 &&& (255 : Int32)).toUInt32.toUInt16.toUInt32.toInt32))))).set ((d1).toNatClampNeg) (.int (nar .char ((z6 &&& (255 : Int32)).toUInt32.toUInt16.toUInt32.toInt32))))).set ((d2).toNatClampNeg) (.int (nar .char ((z10 &&& (255 : Int32)).toUInt32.toUInt16.toUInt32.toInt32)))), rfl, N11, f22, V11, (by simp only [List.length_set]), (own_Cset (own_Cset (own_Cset hcx)))⟩ (by decide) (by decide)
      · refine Goal.to (B := T7.setTop (mkF m 33 #[.val (.ref tb), .val (.int s2), .val (.ref vc), .val (.int d2), .val (.int ln), .val (.int (2 : Int32))] [])) (fun tt kk => ?_) ?_
        · show Steps p.tables e below (T7.setTop (mkF m 7 #[.val (.ref tb), .val (.int s2), .val (.ref vc), .val (.int d2), .val (.int ln), .val (.int (2 : Int32))] [(.int ln), (.int (2 : Int32))])) tt
          refine XS.icmpYes X7.here hx rfl (pc0 := 7) (pc' := 33) rfl (hb hby d22_7) rfl (flt hk2).2.1 (by decide) (by decide) ?_
          exact kk
        have f23 : Keep h0 h7 [vc] := (((Keep.refl h0 [vc]).wr W3 (Or.inl (List.mem_of_getElem? (i := 0) rfl))).wr W7 (Or.inl (List.mem_of_getElem? (i := 0) rfl)))
        exact Goal.retN X7 hx Bd.returns (hb hby d22_33) hlk e7 ⟨((((xs).set ((dd).toNatClampNeg) (.int (nar .char ((z2 &&& (255 : Int32)).toUInt32.toUInt16.toUInt32.toInt32))))).set ((d1).toNatClampNeg) (.int (nar .char ((z6 &&& (255 : Int32)).toUInt32.toUInt16.toUInt32.toInt32)))), rfl, N7, f23, V7, (by simp only [List.length_set]), (own_Cset (own_Cset hcx))⟩ (by decide) (by decide)
    · refine Goal.to (B := T3.setTop (mkF m 33 #[.val (.ref tb), .val (.int s1), .val (.ref vc), .val (.int d1), .val (.int ln), .val (.int (1 : Int32))] [])) (fun tt kk => ?_) ?_
      · show Steps p.tables e below (T3.setTop (mkF m 7 #[.val (.ref tb), .val (.int s1), .val (.ref vc), .val (.int d1), .val (.int ln), .val (.int (1 : Int32))] [(.int ln), (.int (1 : Int32))])) tt
        refine XS.icmpYes X3.here hx rfl (pc0 := 7) (pc' := 33) rfl (hb hby d22_7) rfl (flt hk1).2.1 (by decide) (by decide) ?_
        exact kk
      have f24 : Keep h0 h3 [vc] := ((Keep.refl h0 [vc]).wr W3 (Or.inl (List.mem_of_getElem? (i := 0) rfl)))
      exact Goal.retN X3 hx Bd.returns (hb hby d22_33) hlk e3 ⟨((xs).set ((dd).toNatClampNeg) (.int (nar .char ((z2 &&& (255 : Int32)).toUInt32.toUInt16.toUInt32.toInt32)))), rfl, N3, f24, V3, (by simp only [List.length_set]), (own_Cset hcx)⟩ (by decide) (by decide)
  · refine Goal.to (B := s₁.setTop (mkF m 33 #[.val (.ref tb), .val (.int so), .val (.ref vc), .val (.int dd), .val (.int ln), .val (.int (0 : Int32))] [])) (fun tt kk => ?_) ?_
    · show Steps p.tables e below (s₁.setTop (mkF m 7 #[.val (.ref tb), .val (.int so), .val (.ref vc), .val (.int dd), .val (.int ln), .val (.int (0 : Int32))] [(.int ln), (.int (0 : Int32))])) tt
      refine XS.icmpYes X0.here hx rfl (pc0 := 7) (pc' := 33) rfl (hb hby d22_7) rfl (flt hk0).2.1 (by decide) (by decide) ?_
      exact kk
    exact Goal.retN X0 hx Bd.returns (hb hby d22_33) hlk e0 ⟨xs, rfl, N0, (Keep.refl h0 [vc]), V_vc, rfl, hcx⟩ (by decide) (by decide)
theorem ef_21 (m : MethodId) (x0 : Addr) (x1 : Int32) (x2 : Int32) (x3 : Addr) (x4 : Int32)  : entryFrame m #[(.ref x0), (.int x1), (.int x2), (.ref x3), (.int x4)] 5 = mkF m 0 #[.val (.ref x0), .val (.int x1), .val (.int x2), .val (.ref x3), .val (.int x4)] [] := by first | (simp [entryFrame, mkF, argsToLocals, Value.category]; done) | rfl
theorem pn_21 : plainName "java/lang/StringLatin1" = true := by first | (simp [plainName, overriddenIn]; done) | decide +kernel
theorem d21_0 : decode jdk_43_method_11_code 0 = .ok (.aload_n 0, 1) := by decide +kernel
theorem d21_1 : decode jdk_43_method_11_code 1 = .ok (.iload_n 1, 1) := by decide +kernel
theorem d21_2 : decode jdk_43_method_11_code 2 = .ok (.aload_n 3, 1) := by decide +kernel
theorem d21_3 : decode jdk_43_method_11_code 3 = .ok (.iload 4, 2) := by decide +kernel
theorem d21_5 : decode jdk_43_method_11_code 5 = .ok (.iload_n 2, 1) := by decide +kernel
theorem d21_6 : decode jdk_43_method_11_code 6 = .ok (.iload_n 1, 1) := by decide +kernel
theorem d21_7 : decode jdk_43_method_11_code 7 = .ok (.isub, 1) := by decide +kernel
theorem pd_20 : parseMethodDescriptor "([BI[CII)V" = some ⟨[(.array .byte), .int, (.array .char), .int, .int], none⟩ := by decide +kernel
theorem d21_8 : decode jdk_43_method_11_code 8 = .ok (.invokestatic 13, 3) := by decide +kernel
theorem d21_11 : decode jdk_43_method_11_code 11 = .ok (.return_, 1) := by decide +kernel
def Qgl (Z : State) (tb : Addr) (vc : Addr) (y0 : Int32) (y1 : Int32) (y2 : Int32) (y3 : Int32) (y4 : Int32) (xs : List Value) (u0 : Int32) (u1 : Int32) (u2 : Int32) (h0 : Heap) (n0 : Nat) (v : Option Value) (h : Heap) (L : List Loc) : Prop := ∃ ys : List Value, v = none ∧ Fr n0 L ∧ Keep h0 h [vc] ∧ Ary Z h vc .char ys ∧ ys.length = xs.length ∧ own_C ys
set_option maxRecDepth 65536 in
set_option maxHeartbeats 40000000 in
theorem rmgl (l : Launch) (Z : State) (a0 : Array Value) (hw : ∀ d ∈ tables_1, d.before a0 Z = true) (ws : List Jvm.Cond) (tb : Addr) (vc : Addr) (y0 : Int32) (y1 : Int32) (y2 : Int32) (y3 : Int32) (y4 : Int32) (xs : List Value) (u0 : Int32) (u1 : Int32) (u2 : Int32) (h0 : Heap) (n0 : Nat) (Z0 : n0 ≤ h0.size) (V_tb : Ary Z h0 tb .byte [(.int y0), (.int y1), (.int y2), (.int y3), (.int y4)]) (V_vc : Ary Z h0 vc .char xs) (g_vc : n0 ≤ vc) (ne_tb_vc : tb ≠ vc) (rh0 : 0 ≤ u0.toInt) (rh1 : u0.toInt ≤ u1.toInt) (rh5 : u1.toInt ≤ 5) (rh2 : 0 ≤ u2.toInt) (rh3 : u2.toInt + (u1.toInt - u0.toInt) ≤ (xs.length : Int)) (rhx8 : xs.length ≤ 8) (rhcx : own_C xs) :
    MetFree l (⟨"java/lang/StringLatin1", "getChars", "([BII[CI)V"⟩ : MethodName) (head1 (Jvm.Cond.code (⟨"java/lang/StringLatin1", "getChars", "([BII[CI)V"⟩ : MethodName) jdk_43_method_11_code 5 none :: ws) ({ frames := 1, cells := 0, slots := 0, locals := 17 } : Room)) (fun a U => a = #[(.ref tb), (.int u0), (.int u1), (.ref vc), (.int u2)] ∧ Z.Warmed39 U.vm ∧ U.heap = h0) (fun _ _ _ _ _ => True) (fun _ U o U' => ∃ v L, o = .returned v ∧ Qgl Z tb vc y0 y1 y2 y3 y4 xs u0 u1 u2 h0 n0 v U'.heap L ∧ FrameEnd U o U' L 0 0) := by
  refine MetFree.of_bodySF (plainFor_of_name pn_21) hisR ?_
  intro p e s m args below meth c s₁ Bd hml0 hP hK
  obtain ⟨rfl, hZ, hh⟩ := hP
  have hx := Bd.exec
  have hby := Bd.bytes
  have hml : c.maxLocals = 5 := hml0
  have hown : s.vm.findClass "java/lang/StringLatin1" = some m.cls := findClass_of_methodNamed Bd.named
  have hnm := (name_of_methodNamed Bd.named Bd.method).1
  have X0 : Stand p l e ({ frames := 1, cells := 0, slots := 0, locals := 17 } : Room) s m #[(.ref tb), (.int u0), (.int u1), (.ref vc), (.int u2)] below meth c s₁ [] 0 0 := Stand.of_body Bd
  have e0 : s₁.heap = h0 := by rw [← hh, Bd.state]; rfl
  have N0 := Fr.nil n0
  have hlk : meth.locks = false := BodyLoose.notSynchronized Bd
  show Goal p e below s (Qgl Z tb vc y0 y1 y2 y3 y4 xs u0 u1 u2 h0 n0) 0 0 (s₁.setTop (entryFrame m #[(.ref tb), (.int u0), (.int u1), (.ref vc), (.int u2)] 5))
  refine Goal.to (B := s₁.setTop (mkF m 0 #[.val (.ref tb), .val (.int u0), .val (.int u1), .val (.ref vc), .val (.int u2)] [])) (fun tt kk => castTop (ef_21 m tb u0 u1 vc u2 ) kk) ?_
  have hL : (u1 - u0).toInt = u1.toInt - u0.toInt := Jvm.Kit.i32_sub (by omega) (by omega)
  refine Goal.to (B := s₁.setTop (mkF m 8 #[.val (.ref tb), .val (.int u0), .val (.int u1), .val (.ref vc), .val (.int u2)] [(.int (u1 - u0)), (.int u2), (.ref vc), (.int u0), (.ref tb)])) (fun tt kk => ?_) ?_
  · show Steps p.tables e below (s₁.setTop (mkF m 0 #[.val (.ref tb), .val (.int u0), .val (.int u1), .val (.ref vc), .val (.int u2)] [])) tt
    refine XS.aloadN X0.here hx rfl (hb hby d21_0) rfl rfl ?_
    show Steps p.tables e below (s₁.setTop (mkF m 1 #[.val (.ref tb), .val (.int u0), .val (.int u1), .val (.ref vc), .val (.int u2)] [(.ref tb)])) tt
    refine XS.iloadN X0.here hx rfl (hb hby d21_1) rfl ?_
    show Steps p.tables e below (s₁.setTop (mkF m 2 #[.val (.ref tb), .val (.int u0), .val (.int u1), .val (.ref vc), .val (.int u2)] [(.int u0), (.ref tb)])) tt
    refine XS.aloadN X0.here hx rfl (hb hby d21_2) rfl rfl ?_
    show Steps p.tables e below (s₁.setTop (mkF m 3 #[.val (.ref tb), .val (.int u0), .val (.int u1), .val (.ref vc), .val (.int u2)] [(.ref vc), (.int u0), (.ref tb)])) tt
    refine XS.iload X0.here hx rfl (hb hby d21_3) rfl ?_
    show Steps p.tables e below (s₁.setTop (mkF m 5 #[.val (.ref tb), .val (.int u0), .val (.int u1), .val (.ref vc), .val (.int u2)] [(.int u2), (.ref vc), (.int u0), (.ref tb)])) tt
    refine XS.iloadN X0.here hx rfl (hb hby d21_5) rfl ?_
    show Steps p.tables e below (s₁.setTop (mkF m 6 #[.val (.ref tb), .val (.int u0), .val (.int u1), .val (.ref vc), .val (.int u2)] [(.int u1), (.int u2), (.ref vc), (.int u0), (.ref tb)])) tt
    refine XS.iloadN X0.here hx rfl (hb hby d21_6) rfl ?_
    show Steps p.tables e below (s₁.setTop (mkF m 7 #[.val (.ref tb), .val (.int u0), .val (.int u1), .val (.ref vc), .val (.int u2)] [(.int u0), (.int u1), (.int u2), (.ref vc), (.int u0), (.ref tb)])) tt
    refine XS.isub X0.here hx rfl (hb hby d21_7) rfl ?_
    exact kk
  obtain ⟨_, _, ⟨T1, L1, k1, n1⟩, -, X1, ⟨Lc1, hQ1, l1, y1, z1⟩, st1⟩ := Jvm.LawKit.callS X0 hx (y := (⟨"java/lang/StringLatin1", "inflate", "([BI[CII)V"⟩ : MethodName)) hown (mvT hZ (hw _ (mw 121 rfl))) (mvT hZ (hw _ (mw 122 rfl))) (mvT hZ (hw _ (mw 119 rfl))) (mvT hZ (hw _ (mw 123 rfl))) (by decide) (backOf (W := 0) (rmin l Z a0 hw [] tb vc y0 y1 y2 y3 y4 xs u0 u2 (u1 - u0) h0 n0 Z0 V_tb V_vc g_vc ne_tb_vc (by omega) (by omega) (by omega) (by omega) (by omega) rhx8 rhcx) hZ (hw _ (mw 123 rfl)) (hw _ (mw 119 rfl)) (by decide) (by decide)) (g := (mkF m 8 #[.val (.ref tb), .val (.int u0), .val (.int u1), .val (.ref vc), .val (.int u2)] [(.int (u1 - u0)), (.int u2), (.ref vc), (.int u0), (.ref tb)])) rfl (by rw [hml]; rfl) (argsL := [(.ref tb), (.int u0), (.ref vc), (.int u2), (.int (u1 - u0))]) (rest := []) (lenOf pd_20 rfl) rfl (by show 2 * 0 + _ ≤ _; exact Nat.le_of_eq rfl) (hb hby d21_8) (fun _ _ => ⟨rfl, e0, (by decide : 0 + 0 ≤ _), (by decide : 0 + 0 ≤ _)⟩)
  dsimp only [Pt.U, Pt.locs, Pt.cells, Pt.slots] at X1 l1 y1 z1 st1 hQ1
  subst y1 z1
  obtain ⟨ys_1, rfl, N1q, K1, P1_0, hys_1, hcy_1⟩ := hQ1
  have N1 := Fr.eqv l1 (Fr.app N0 N1q)
  refine Goal.to (B := T1.setTop (mkF m 11 #[.val (.ref tb), .val (.int u0), .val (.int u1), .val (.ref vc), .val (.int u2)] [])) st1 ?_
  have f2 : Keep h0 T1.heap [vc] := ((Keep.refl h0 [vc]).trans K1 (allS (Or.inl (List.mem_of_getElem? (i := 0) rfl)) all0))
  exact Goal.retN X1 hx Bd.returns (hb hby d21_11) hlk rfl ⟨ys_1, rfl, N1, f2, P1_0, hys_1, hcy_1⟩ (by decide) (by decide)
theorem ef_15 (m : MethodId) (x0 : Addr) (x1 : Int32) (x2 : Int32) (x3 : Addr) (x4 : Int32)  : entryFrame m #[(.ref x0), (.int x1), (.int x2), (.ref x3), (.int x4)] 5 = mkF m 0 #[.val (.ref x0), .val (.int x1), .val (.int x2), .val (.ref x3), .val (.int x4)] [] := by first | (simp [entryFrame, mkF, argsToLocals, Value.category]; done) | rfl
theorem pn_15 : plainName "java/lang/String" = true := by first | (simp [plainName, overriddenIn]; done) | decide +kernel
theorem d15_0 : decode jdk_42_method_61_code 0 = .ok (.iload_n 1, 1) := by decide +kernel
theorem d15_1 : decode jdk_42_method_61_code 1 = .ok (.iload_n 2, 1) := by decide +kernel
theorem d15_2 : decode jdk_42_method_61_code 2 = .ok (.aload_n 0, 1) := by decide +kernel
theorem pd_7 : parseMethodDescriptor "()I" = some ⟨[], some .int⟩ := by decide +kernel
theorem d15_3 : decode jdk_42_method_61_code 3 = .ok (.invokevirtual 505, 3) := by decide +kernel
theorem pd_15 : parseMethodDescriptor "(III)V" = some ⟨[.int, .int, .int], none⟩ := by decide +kernel
theorem d15_6 : decode jdk_42_method_61_code 6 = .ok (.invokestatic 521, 3) := by decide +kernel
theorem d15_9 : decode jdk_42_method_61_code 9 = .ok (.iload 4, 2) := by decide +kernel
theorem d15_11 : decode jdk_42_method_61_code 11 = .ok (.iload_n 2, 1) := by decide +kernel
theorem d15_12 : decode jdk_42_method_61_code 12 = .ok (.iload_n 1, 1) := by decide +kernel
theorem d15_13 : decode jdk_42_method_61_code 13 = .ok (.isub, 1) := by decide +kernel
theorem d15_14 : decode jdk_42_method_61_code 14 = .ok (.aload_n 3, 1) := by decide +kernel
theorem d15_15 : decode jdk_42_method_61_code 15 = .ok (.arraylength, 1) := by decide +kernel
theorem pd_17 : parseMethodDescriptor "(III)I" = some ⟨[.int, .int, .int], some .int⟩ := by decide +kernel
theorem d15_16 : decode jdk_42_method_61_code 16 = .ok (.invokestatic 34, 3) := by decide +kernel
theorem d15_19 : decode jdk_42_method_61_code 19 = .ok (.pop, 1) := by decide +kernel
theorem d15_20 : decode jdk_42_method_61_code 20 = .ok (.aload_n 0, 1) := by decide +kernel
theorem pd_18 : parseMethodDescriptor "()Z" = some ⟨[], some .boolean⟩ := by decide +kernel
theorem d15_21 : decode jdk_42_method_61_code 21 = .ok (.invokevirtual 492, 3) := by decide +kernel
theorem d15_24 : decode jdk_42_method_61_code 24 = .ok (.ifCond .eq 18, 3) := by decide +kernel
theorem d15_27 : decode jdk_42_method_61_code 27 = .ok (.aload_n 0, 1) := by decide +kernel
theorem d15_28 : decode jdk_42_method_61_code 28 = .ok (.getfield 9, 3) := by decide +kernel
theorem d15_31 : decode jdk_42_method_61_code 31 = .ok (.iload_n 1, 1) := by decide +kernel
theorem d15_32 : decode jdk_42_method_61_code 32 = .ok (.iload_n 2, 1) := by decide +kernel
theorem d15_33 : decode jdk_42_method_61_code 33 = .ok (.aload_n 3, 1) := by decide +kernel
theorem d15_34 : decode jdk_42_method_61_code 34 = .ok (.iload 4, 2) := by decide +kernel
theorem pd_19 : parseMethodDescriptor "([BII[CI)V" = some ⟨[(.array .byte), .int, .int, (.array .char), .int], none⟩ := by decide +kernel
theorem d15_36 : decode jdk_42_method_61_code 36 = .ok (.invokestatic 525, 3) := by decide +kernel
theorem d15_39 : decode jdk_42_method_61_code 39 = .ok (.goto 15, 3) := by decide +kernel
theorem d15_54 : decode jdk_42_method_61_code 54 = .ok (.return_, 1) := by decide +kernel
def Qgc (Z : State) (vt : Addr) (tb : Addr) (vc : Addr) (zc : Int32) (fm : Value) (y0 : Int32) (y1 : Int32) (y2 : Int32) (y3 : Int32) (y4 : Int32) (xs : List Value) (u0 : Int32) (u1 : Int32) (u2 : Int32) (h0 : Heap) (n0 : Nat) (v : Option Value) (h : Heap) (L : List Loc) : Prop := ∃ ys : List Value, v = none ∧ Fr n0 L ∧ Keep h0 h [vc] ∧ Ary Z h vc .char ys ∧ ys.length = xs.length ∧ own_C ys
set_option maxRecDepth 65536 in
set_option maxHeartbeats 40000000 in
theorem rmgc (l : Launch) (Z : State) (a0 : Array Value) (hw : ∀ d ∈ tables_1, d.before a0 Z = true) (ws : List Jvm.Cond) (vt : Addr) (tb : Addr) (vc : Addr) (zc : Int32) (fm : Value) (y0 : Int32) (y1 : Int32) (y2 : Int32) (y3 : Int32) (y4 : Int32) (xs : List Value) (u0 : Int32) (u1 : Int32) (u2 : Int32) (h0 : Heap) (n0 : Nat) (Z0 : n0 ≤ h0.size) (E_vt : Exa Z h0 vt "java/lang/String") (F_value_vt : Fld Z h0 vt "java/lang/String" "value" "[B" (.ref tb)) (F_coder_vt : Fld Z h0 vt "java/lang/String" "coder" "B" (.int (0 : Int32))) (V_tb : Ary Z h0 tb .byte [(.int y0), (.int y1), (.int y2), (.int y3), (.int y4)]) (S_COMPACT_STRINGS : StaN Z n0 h0 "java/lang/String" "COMPACT_STRINGS" "Z" (.int zc)) (S_SIOOBE_FORMATTER : StaN Z n0 h0 "jdk/internal/util/Preconditions" "SIOOBE_FORMATTER" "Ljava/util/function/BiFunction;" fm) (V_vc : Ary Z h0 vc .char xs) (g_vc : n0 ≤ vc) (ne_tb_vc : tb ≠ vc) (ne_vt_vc : vt ≠ vc) (hCS : ¬ (zc = (0 : Int32))) (pfm : fm.isRef = true) (rh0 : 0 ≤ u0.toInt) (rh1 : u0.toInt ≤ u1.toInt) (rh5 : u1.toInt ≤ 5) (rh2 : 0 ≤ u2.toInt) (rh3 : u2.toInt + (u1.toInt - u0.toInt) ≤ (xs.length : Int)) (rhx8 : xs.length ≤ 8) (rhcx : own_C xs) :
    MetFree l (⟨"java/lang/String", "getChars", "(II[CI)V"⟩ : MethodName) (head1 (Jvm.Cond.code (⟨"java/lang/String", "getChars", "(II[CI)V"⟩ : MethodName) jdk_42_method_61_code 5 none :: ws) ({ frames := 2, cells := 0, slots := 0, locals := 33 } : Room)) (fun a U => a = #[(.ref vt), (.int u0), (.int u1), (.ref vc), (.int u2)] ∧ Z.Warmed39 U.vm ∧ U.heap = h0) (fun _ _ _ _ _ => True) (fun _ U o U' => ∃ v L, o = .returned v ∧ Qgc Z vt tb vc zc fm y0 y1 y2 y3 y4 xs u0 u1 u2 h0 n0 v U'.heap L ∧ FrameEnd U o U' L 0 0) := by
  refine MetFree.of_bodySF (plainFor_of_name pn_15) hisR ?_
  intro p e s m args below meth c s₁ Bd hml0 hP hK
  obtain ⟨rfl, hZ, hh⟩ := hP
  have hx := Bd.exec
  have hby := Bd.bytes
  have hml : c.maxLocals = 5 := hml0
  have hown : s.vm.findClass "java/lang/String" = some m.cls := findClass_of_methodNamed Bd.named
  have hnm := (name_of_methodNamed Bd.named Bd.method).1
  have X0 : Stand p l e ({ frames := 2, cells := 0, slots := 0, locals := 33 } : Room) s m #[(.ref vt), (.int u0), (.int u1), (.ref vc), (.int u2)] below meth c s₁ [] 0 0 := Stand.of_body Bd
  have e0 : s₁.heap = h0 := by rw [← hh, Bd.state]; rfl
  have N0 := Fr.nil n0
  have hlk : meth.locks = false := BodyLoose.notSynchronized Bd
  show Goal p e below s (Qgc Z vt tb vc zc fm y0 y1 y2 y3 y4 xs u0 u1 u2 h0 n0) 0 0 (s₁.setTop (entryFrame m #[(.ref vt), (.int u0), (.int u1), (.ref vc), (.int u2)] 5))
  refine Goal.to (B := s₁.setTop (mkF m 0 #[.val (.ref vt), .val (.int u0), .val (.int u1), .val (.ref vc), .val (.int u2)] [])) (fun tt kk => castTop (ef_15 m vt u0 u1 vc u2 ) kk) ?_
  refine Goal.to (B := s₁.setTop (mkF m 3 #[.val (.ref vt), .val (.int u0), .val (.int u1), .val (.ref vc), .val (.int u2)] [(.ref vt), (.int u1), (.int u0)])) (fun tt kk => ?_) ?_
  · show Steps p.tables e below (s₁.setTop (mkF m 0 #[.val (.ref vt), .val (.int u0), .val (.int u1), .val (.ref vc), .val (.int u2)] [])) tt
    refine XS.iloadN X0.here hx rfl (hb hby d15_0) rfl ?_
    show Steps p.tables e below (s₁.setTop (mkF m 1 #[.val (.ref vt), .val (.int u0), .val (.int u1), .val (.ref vc), .val (.int u2)] [(.int u0)])) tt
    refine XS.iloadN X0.here hx rfl (hb hby d15_1) rfl ?_
    show Steps p.tables e below (s₁.setTop (mkF m 2 #[.val (.ref vt), .val (.int u0), .val (.int u1), .val (.ref vc), .val (.int u2)] [(.int u1), (.int u0)])) tt
    refine XS.aloadN X0.here hx rfl (hb hby d15_2) rfl rfl ?_
    exact kk
  obtain ⟨cq1, kq1, q1a, q1b, q1c⟩ := isOf hZ e0 E_vt
  obtain ⟨_, _, ⟨T1, L1, k1, n1⟩, -, X1, ⟨Lc1, hQ1, l1, y1, z1⟩, st1⟩ := X0.virtualBack hx (y := (⟨"java/lang/String", "length", "()I"⟩ : MethodName)) (z := (⟨"java/lang/String", "length", "()I"⟩ : MethodName)) hown (mvT hZ (hw _ (mw 95 rfl))) (mvT hZ (hw _ (mw 96 rfl))) (notFace_of_selects (args := #[]) (mvT hZ (hw _ (mw 97 rfl)))) (mvT hZ (hw _ (mw 97 rfl))) (mvT hZ (hw _ (mw 43 rfl))) (by decide) (backOf (W := 2) (rmle l Z a0 hw [] vt tb zc y0 y1 y2 y3 y4 h0 n0 Z0 E_vt F_value_vt F_coder_vt V_tb S_COMPACT_STRINGS (by assumption)) hZ (hw _ (mw 47 rfl)) (hw _ (mw 3 rfl)) (by decide) (by decide)) q1a q1c (g := (mkF m 3 #[.val (.ref vt), .val (.int u0), .val (.int u1), .val (.ref vc), .val (.int u2)] [(.ref vt), (.int u1), (.int u0)])) rfl (by rw [hml]; rfl) (Steps.refl _) (argsL := []) (rest := [(.int u1), (.int u0)]) (lenOf pd_7 rfl) rfl (by show 2 * 0 + _ ≤ _; exact Nat.le_of_eq rfl) (hb hby d15_3) (fun _ _ => ⟨rfl, e0, (by decide : 0 + 0 ≤ _), (by decide : 0 + 0 ≤ _)⟩)
  dsimp only [Pt.U, Pt.locs, Pt.cells, Pt.slots] at X1 l1 y1 z1 st1 hQ1
  subst y1 z1
  obtain ⟨rfl, N1q, e1⟩ := hQ1
  have N1 := Fr.eqv l1 (Fr.app N0 N1q)
  refine Goal.tr (B := T1.setTop (mkF m 6 #[.val (.ref vt), .val (.int u0), .val (.int u1), .val (.ref vc), .val (.int u2)] [(.int (5 : Int32)), (.int u1), (.int u0)])) st1 ?_
  obtain ⟨_, _, ⟨T2, L2, k2, n2⟩, -, X2, ⟨Lc2, hQ2, l2, y2, z2⟩, st2⟩ := Jvm.LawKit.callS X1 hx (y := (⟨"java/lang/String", "checkBoundsBeginEnd", "(III)V"⟩ : MethodName)) hown (mvT hZ (hw _ (mw 98 rfl))) (mvT hZ (hw _ (mw 99 rfl))) (mvT hZ (hw _ (mw 3 rfl))) (mvT hZ (hw _ (mw 100 rfl))) (by decide) (backOf (W := 0) (rmbe l Z a0 hw [] u0 u1 (5 : Int32) fm h0 n0 Z0 S_SIOOBE_FORMATTER pfm (own_nlt0 rh0) (own_nlt rh1) (own_nlt (show u1.toInt ≤ 5 from rh5))) hZ (hw _ (mw 100 rfl)) (hw _ (mw 3 rfl)) (by decide) (by decide)) (g := (mkF m 6 #[.val (.ref vt), .val (.int u0), .val (.int u1), .val (.ref vc), .val (.int u2)] [(.int (5 : Int32)), (.int u1), (.int u0)])) rfl (by rw [hml]; rfl) (argsL := [(.int u0), (.int u1), (.int (5 : Int32))]) (rest := []) (lenOf pd_15 rfl) rfl (by show 2 * 0 + _ ≤ _; exact Nat.le_of_eq rfl) (hb hby d15_6) (fun _ _ => ⟨rfl, e1, (by decide : 0 + 0 ≤ _), (by decide : 0 + 0 ≤ _)⟩)
  dsimp only [Pt.U, Pt.locs, Pt.cells, Pt.slots] at X2 l2 y2 z2 st2 hQ2
  subst y2 z2
  obtain ⟨rfl, N2q, e2⟩ := hQ2
  have N2 := Fr.eqv l2 (Fr.app N1 N2q)
  refine Goal.to (B := T2.setTop (mkF m 9 #[.val (.ref vt), .val (.int u0), .val (.int u1), .val (.ref vc), .val (.int u2)] [])) st2 ?_
  refine Goal.to (B := T2.setTop (mkF m 15 #[.val (.ref vt), .val (.int u0), .val (.int u1), .val (.ref vc), .val (.int u2)] [(.ref vc), (.int (u1 - u0)), (.int u2)])) (fun tt kk => ?_) ?_
  · show Steps p.tables e below (T2.setTop (mkF m 9 #[.val (.ref vt), .val (.int u0), .val (.int u1), .val (.ref vc), .val (.int u2)] [])) tt
    refine XS.iload X2.here hx rfl (hb hby d15_9) rfl ?_
    show Steps p.tables e below (T2.setTop (mkF m 11 #[.val (.ref vt), .val (.int u0), .val (.int u1), .val (.ref vc), .val (.int u2)] [(.int u2)])) tt
    refine XS.iloadN X2.here hx rfl (hb hby d15_11) rfl ?_
    show Steps p.tables e below (T2.setTop (mkF m 12 #[.val (.ref vt), .val (.int u0), .val (.int u1), .val (.ref vc), .val (.int u2)] [(.int u1), (.int u2)])) tt
    refine XS.iloadN X2.here hx rfl (hb hby d15_12) rfl ?_
    show Steps p.tables e below (T2.setTop (mkF m 13 #[.val (.ref vt), .val (.int u0), .val (.int u1), .val (.ref vc), .val (.int u2)] [(.int u0), (.int u1), (.int u2)])) tt
    refine XS.isub X2.here hx rfl (hb hby d15_13) rfl ?_
    show Steps p.tables e below (T2.setTop (mkF m 14 #[.val (.ref vt), .val (.int u0), .val (.int u1), .val (.ref vc), .val (.int u2)] [(.int (u1 - u0)), (.int u2)])) tt
    refine XS.aloadN X2.here hx rfl (hb hby d15_14) rfl rfl ?_
    exact kk
  obtain ⟨cl3, Ar3, Sl3⟩ := id V_vc
  have ln3 : cl3.slots.size.toInt32 = xs.length.toInt32 := lenA Sl3 rfl
  have hL : (u1 - u0).toInt = u1.toInt - u0.toInt := Jvm.Kit.i32_sub (by omega) (by omega)
  have hN := own_len rhx8
  have hM : (xs.length.toInt32 - u2).toInt = (xs.length : Int) - u2.toInt := by rw [Jvm.Kit.i32_sub (by omega) (by omega), hN]
  refine Goal.to (B := T2.setTop (mkF m 16 #[.val (.ref vt), .val (.int u0), .val (.int u1), .val (.ref vc), .val (.int u2)] [(.int xs.length.toInt32), (.int (u1 - u0)), (.int u2)])) (fun tt kk => ?_) ?_
  · show Steps p.tables e below (T2.setTop (mkF m 15 #[.val (.ref vt), .val (.int u0), .val (.int u1), .val (.ref vc), .val (.int u2)] [(.ref vc), (.int (u1 - u0)), (.int u2)])) tt
    refine X2.arraylength hx (by rw [e2]; exact Ar3.1) (State.isArrayOf_alike hZ.alike Ar3.2.1) (g := (mkF m 15 #[.val (.ref vt), .val (.int u0), .val (.int u1), .val (.ref vc), .val (.int u2)] [(.ref vc), (.int (u1 - u0)), (.int u2)])) rfl rfl (hb hby d15_15) _ ?_
    rw [ln3]
    exact kk
  obtain ⟨_, _, ⟨T4, L4, k4, n4⟩, -, X4, ⟨Lc4, hQ4, l4, y4, z4⟩, st4⟩ := Jvm.LawKit.callS X2 hx (y := (⟨"java/lang/String", "checkBoundsOffCount", "(III)I"⟩ : MethodName)) hown (mvT hZ (hw _ (mw 106 rfl))) (mvT hZ (hw _ (mw 107 rfl))) (mvT hZ (hw _ (mw 3 rfl))) (mvT hZ (hw _ (mw 108 rfl))) (by decide) (backOf (W := 0) (rmbo l Z a0 hw [] u2 (u1 - u0) xs.length.toInt32 fm h0 n0 Z0 S_SIOOBE_FORMATTER pfm (own_nlt0 (own_or (own_or (by omega) rh2) (by omega))) (own_nlt (by omega))) hZ (hw _ (mw 108 rfl)) (hw _ (mw 3 rfl)) (by decide) (by decide)) (g := (mkF m 16 #[.val (.ref vt), .val (.int u0), .val (.int u1), .val (.ref vc), .val (.int u2)] [(.int xs.length.toInt32), (.int (u1 - u0)), (.int u2)])) rfl (by rw [hml]; rfl) (argsL := [(.int u2), (.int (u1 - u0)), (.int xs.length.toInt32)]) (rest := []) (lenOf pd_17 rfl) rfl (by show 2 * 0 + _ ≤ _; exact Nat.le_of_eq rfl) (hb hby d15_16) (fun _ _ => ⟨rfl, e2, (by decide : 0 + 0 ≤ _), (by decide : 0 + 0 ≤ _)⟩)
  dsimp only [Pt.U, Pt.locs, Pt.cells, Pt.slots] at X4 l4 y4 z4 st4 hQ4
  subst y4 z4
  obtain ⟨rfl, N4q, e4⟩ := hQ4
  have N4 := Fr.eqv l4 (Fr.app N2 N4q)
  refine Goal.to (B := T4.setTop (mkF m 19 #[.val (.ref vt), .val (.int u0), .val (.int u1), .val (.ref vc), .val (.int u2)] [(.int u2)])) st4 ?_
  refine Goal.to (B := T4.setTop (mkF m 21 #[.val (.ref vt), .val (.int u0), .val (.int u1), .val (.ref vc), .val (.int u2)] [(.ref vt)])) (fun tt kk => ?_) ?_
  · show Steps p.tables e below (T4.setTop (mkF m 19 #[.val (.ref vt), .val (.int u0), .val (.int u1), .val (.ref vc), .val (.int u2)] [(.int u2)])) tt
    refine XS.pop X4.here hx rfl (hb hby d15_19) rfl rfl ?_
    show Steps p.tables e below (T4.setTop (mkF m 20 #[.val (.ref vt), .val (.int u0), .val (.int u1), .val (.ref vc), .val (.int u2)] [])) tt
    refine XS.aloadN X4.here hx rfl (hb hby d15_20) rfl rfl ?_
    exact kk
  obtain ⟨cq5, kq5, q5a, q5b, q5c⟩ := isOf hZ e4 E_vt
  obtain ⟨_, _, ⟨T5, L5, k5, n5⟩, -, X5, ⟨Lc5, hQ5, l5, y5, z5⟩, st5⟩ := X4.virtualBack hx (y := (⟨"java/lang/String", "isLatin1", "()Z"⟩ : MethodName)) (z := (⟨"java/lang/String", "isLatin1", "()Z"⟩ : MethodName)) hown (mvT hZ (hw _ (mw 112 rfl))) (mvT hZ (hw _ (mw 113 rfl))) (notFace_of_selects (args := #[]) (mvT hZ (hw _ (mw 115 rfl)))) (mvT hZ (hw _ (mw 115 rfl))) (mvT hZ (hw _ (mw 114 rfl))) (by decide) (backOf (W := 0) (rml1 l Z a0 hw [] vt zc h0 n0 Z0 F_coder_vt S_COMPACT_STRINGS (by assumption)) hZ (hw _ (mw 116 rfl)) (hw _ (mw 3 rfl)) (by decide) (by decide)) q5a q5c (g := (mkF m 21 #[.val (.ref vt), .val (.int u0), .val (.int u1), .val (.ref vc), .val (.int u2)] [(.ref vt)])) rfl (by rw [hml]; rfl) (Steps.refl _) (argsL := []) (rest := []) (lenOf pd_18 rfl) rfl (by show 2 * 0 + _ ≤ _; exact Nat.le_of_eq rfl) (hb hby d15_21) (fun _ _ => ⟨rfl, e4, (by decide : 0 + 0 ≤ _), (by decide : 0 + 0 ≤ _)⟩)
  dsimp only [Pt.U, Pt.locs, Pt.cells, Pt.slots] at X5 l5 y5 z5 st5 hQ5
  subst y5 z5
  obtain ⟨rfl, N5q, e5⟩ := hQ5
  have N5 := Fr.eqv l5 (Fr.app N4 N5q)
  refine Goal.tr (B := T5.setTop (mkF m 24 #[.val (.ref vt), .val (.int u0), .val (.int u1), .val (.ref vc), .val (.int u2)] [(.int (1 : Int32))])) st5 ?_
  refine Goal.to (B := T5.setTop (mkF m 28 #[.val (.ref vt), .val (.int u0), .val (.int u1), .val (.ref vc), .val (.int u2)] [(.ref vt)])) (fun tt kk => ?_) ?_
  · show Steps p.tables e below (T5.setTop (mkF m 24 #[.val (.ref vt), .val (.int u0), .val (.int u1), .val (.ref vc), .val (.int u2)] [(.int (1 : Int32))])) tt
    refine XS.ifNo X5.here hx rfl (hb hby d15_24) rfl ((if0 _ _).trans (feq ((by decide) : ¬ ((1 : Int32) = (0 : Int32)))).1) ?_
    show Steps p.tables e below (T5.setTop (mkF m 27 #[.val (.ref vt), .val (.int u0), .val (.int u1), .val (.ref vc), .val (.int u2)] [])) tt
    refine XS.aloadN X5.here hx rfl (hb hby d15_27) rfl rfl ?_
    exact kk
  obtain ⟨T6, X6, e6, st6⟩ := getF X5 hx hZ hown (host := "") (Or.inl (hw _ (mw 28 rfl))) Via.refl e5 F_value_vt (g := (mkF m 28 #[.val (.ref vt), .val (.int u0), .val (.int u1), .val (.ref vc), .val (.int u2)] [(.ref vt)])) rfl rfl (hb hby d15_28)
  refine Goal.to (B := T6.setTop (mkF m 31 #[.val (.ref vt), .val (.int u0), .val (.int u1), .val (.ref vc), .val (.int u2)] [(.ref tb)])) st6 ?_
  refine Goal.to (B := T6.setTop (mkF m 36 #[.val (.ref vt), .val (.int u0), .val (.int u1), .val (.ref vc), .val (.int u2)] [(.int u2), (.ref vc), (.int u1), (.int u0), (.ref tb)])) (fun tt kk => ?_) ?_
  · show Steps p.tables e below (T6.setTop (mkF m 31 #[.val (.ref vt), .val (.int u0), .val (.int u1), .val (.ref vc), .val (.int u2)] [(.ref tb)])) tt
    refine XS.iloadN X6.here hx rfl (hb hby d15_31) rfl ?_
    show Steps p.tables e below (T6.setTop (mkF m 32 #[.val (.ref vt), .val (.int u0), .val (.int u1), .val (.ref vc), .val (.int u2)] [(.int u0), (.ref tb)])) tt
    refine XS.iloadN X6.here hx rfl (hb hby d15_32) rfl ?_
    show Steps p.tables e below (T6.setTop (mkF m 33 #[.val (.ref vt), .val (.int u0), .val (.int u1), .val (.ref vc), .val (.int u2)] [(.int u1), (.int u0), (.ref tb)])) tt
    refine XS.aloadN X6.here hx rfl (hb hby d15_33) rfl rfl ?_
    show Steps p.tables e below (T6.setTop (mkF m 34 #[.val (.ref vt), .val (.int u0), .val (.int u1), .val (.ref vc), .val (.int u2)] [(.ref vc), (.int u1), (.int u0), (.ref tb)])) tt
    refine XS.iload X6.here hx rfl (hb hby d15_34) rfl ?_
    exact kk
  obtain ⟨_, _, ⟨T7, L7, k7, n7⟩, -, X7, ⟨Lc7, hQ7, l7, y7, z7⟩, st7⟩ := Jvm.LawKit.callS X6 hx (y := (⟨"java/lang/StringLatin1", "getChars", "([BII[CI)V"⟩ : MethodName)) hown (mvT hZ (hw _ (mw 117 rfl))) (mvT hZ (hw _ (mw 118 rfl))) (mvT hZ (hw _ (mw 119 rfl))) (mvT hZ (hw _ (mw 120 rfl))) (by decide) (backOf (W := 0) (rmgl l Z a0 hw [] tb vc y0 y1 y2 y3 y4 xs u0 u1 u2 h0 n0 Z0 V_tb V_vc g_vc ne_tb_vc rh0 rh1 rh5 rh2 rh3 rhx8 rhcx) hZ (hw _ (mw 120 rfl)) (hw _ (mw 119 rfl)) (by decide) (by decide)) (g := (mkF m 36 #[.val (.ref vt), .val (.int u0), .val (.int u1), .val (.ref vc), .val (.int u2)] [(.int u2), (.ref vc), (.int u1), (.int u0), (.ref tb)])) rfl (by rw [hml]; rfl) (argsL := [(.ref tb), (.int u0), (.int u1), (.ref vc), (.int u2)]) (rest := []) (lenOf pd_19 rfl) rfl (by show 2 * 0 + _ ≤ _; exact Nat.le_of_eq rfl) (hb hby d15_36) (fun _ _ => ⟨rfl, e6, (by decide : 0 + 0 ≤ _), (by decide : 0 + 0 ≤ _)⟩)
  dsimp only [Pt.U, Pt.locs, Pt.cells, Pt.slots] at X7 l7 y7 z7 st7 hQ7
  subst y7 z7
  obtain ⟨ys_7, rfl, N7q, K7, P7_0, hys_7, hcy_7⟩ := hQ7
  have N7 := Fr.eqv l7 (Fr.app N5 N7q)
  refine Goal.to (B := T7.setTop (mkF m 39 #[.val (.ref vt), .val (.int u0), .val (.int u1), .val (.ref vc), .val (.int u2)] [])) st7 ?_
  refine Goal.to (B := T7.setTop (mkF m 54 #[.val (.ref vt), .val (.int u0), .val (.int u1), .val (.ref vc), .val (.int u2)] [])) (fun tt kk => ?_) ?_
  · show Steps p.tables e below (T7.setTop (mkF m 39 #[.val (.ref vt), .val (.int u0), .val (.int u1), .val (.ref vc), .val (.int u2)] [])) tt
    refine XS.goto X7.here hx rfl (pc0 := 39) (pc' := 54) rfl (hb hby d15_39) (by decide) (by decide) ?_
    exact kk
  have f8 : Keep h0 T7.heap [vc] := ((Keep.refl h0 [vc]).trans K7 (allS (Or.inl (List.mem_of_getElem? (i := 0) rfl)) all0))
  exact Goal.retN X7 hx Bd.returns (hb hby d15_54) hlk rfl ⟨ys_7, rfl, N7, f8, P7_0, hys_7, hcy_7⟩ (by decide) (by decide)
theorem ef_14 (m : MethodId) (x0 : Addr) (x1 : Int32) (x2 : Int32) (x3 : Addr) (x4 : Int32)  : entryFrame m #[(.ref x0), (.int x1), (.int x2), (.ref x3), (.int x4)] 9 = mkF m 0 #[.val (.ref x0), .val (.int x1), .val (.int x2), .val (.ref x3), .val (.int x4), .unset, .unset, .unset, .unset] [] := by first | (simp [entryFrame, mkF, argsToLocals, Value.category]; done) | rfl
theorem pn_14 : plainName "com/example/pattern_automaton/patternautomaton/CharBlock$TextSource" = true := by first | (simp [plainName, overriddenIn]; done) | decide +kernel
theorem d14_0 : decode prog_12_method_4_code 0 = .ok (.aload_n 0, 1) := by decide +kernel
theorem d14_1 : decode prog_12_method_4_code 1 = .ok (.instanceof 35, 3) := by decide +kernel
theorem d14_4 : decode prog_12_method_4_code 4 = .ok (.ifCond .eq 24, 3) := by decide +kernel
theorem d14_7 : decode prog_12_method_4_code 7 = .ok (.aload_n 0, 1) := by decide +kernel
theorem d14_8 : decode prog_12_method_4_code 8 = .ok (.checkcast 35, 3) := by decide +kernel
theorem d14_11 : decode prog_12_method_4_code 11 = .ok (.astore 5, 2) := by decide +kernel
theorem d14_13 : decode prog_12_method_4_code 13 = .ok (.aload 5, 2) := by decide +kernel
theorem d14_15 : decode prog_12_method_4_code 15 = .ok (.iload_n 1, 1) := by decide +kernel
theorem d14_16 : decode prog_12_method_4_code 16 = .ok (.iload_n 1, 1) := by decide +kernel
theorem d14_17 : decode prog_12_method_4_code 17 = .ok (.iload_n 2, 1) := by decide +kernel
theorem d14_18 : decode prog_12_method_4_code 18 = .ok (.iadd, 1) := by decide +kernel
theorem d14_19 : decode prog_12_method_4_code 19 = .ok (.aload_n 3, 1) := by decide +kernel
theorem d14_20 : decode prog_12_method_4_code 20 = .ok (.iload 4, 2) := by decide +kernel
theorem pd_14 : parseMethodDescriptor "(II[CI)V" = some ⟨[.int, .int, (.array .char), .int], none⟩ := by decide +kernel
theorem d14_22 : decode prog_12_method_4_code 22 = .ok (.invokevirtual 37, 3) := by decide +kernel
theorem d14_25 : decode prog_12_method_4_code 25 = .ok (.goto 96, 3) := by decide +kernel
theorem d14_121 : decode prog_12_method_4_code 121 = .ok (.return_, 1) := by decide +kernel
def Qcp (Z : State) (vt : Addr) (tb : Addr) (vc : Addr) (zc : Int32) (fm : Value) (y0 : Int32) (y1 : Int32) (y2 : Int32) (y3 : Int32) (y4 : Int32) (xs : List Value) (u0 : Int32) (u1 : Int32) (u2 : Int32) (h0 : Heap) (n0 : Nat) (v : Option Value) (h : Heap) (L : List Loc) : Prop := ∃ ys : List Value, v = none ∧ Fr n0 L ∧ Keep h0 h [vc] ∧ Ary Z h vc .char ys ∧ ys.length = xs.length ∧ own_C ys
set_option maxRecDepth 65536 in
set_option maxHeartbeats 40000000 in
theorem rmcp (l : Launch) (Z : State) (a0 : Array Value) (hw : ∀ d ∈ tables_1, d.before a0 Z = true) (ws : List Jvm.Cond) (vt : Addr) (tb : Addr) (vc : Addr) (zc : Int32) (fm : Value) (y0 : Int32) (y1 : Int32) (y2 : Int32) (y3 : Int32) (y4 : Int32) (xs : List Value) (u0 : Int32) (u1 : Int32) (u2 : Int32) (h0 : Heap) (n0 : Nat) (Z0 : n0 ≤ h0.size) (E_vt : Exa Z h0 vt "java/lang/String") (F_value_vt : Fld Z h0 vt "java/lang/String" "value" "[B" (.ref tb)) (F_coder_vt : Fld Z h0 vt "java/lang/String" "coder" "B" (.int (0 : Int32))) (V_tb : Ary Z h0 tb .byte [(.int y0), (.int y1), (.int y2), (.int y3), (.int y4)]) (S_COMPACT_STRINGS : StaN Z n0 h0 "java/lang/String" "COMPACT_STRINGS" "Z" (.int zc)) (S_SIOOBE_FORMATTER : StaN Z n0 h0 "jdk/internal/util/Preconditions" "SIOOBE_FORMATTER" "Ljava/util/function/BiFunction;" fm) (V_vc : Ary Z h0 vc .char xs) (g_vc : n0 ≤ vc) (ne_tb_vc : tb ≠ vc) (ne_vt_vc : vt ≠ vc) (hCS : ¬ (zc = (0 : Int32))) (pfm : fm.isRef = true) (rh0 : 0 ≤ u0.toInt) (rh1 : 0 ≤ u1.toInt) (rh5 : u0.toInt + u1.toInt ≤ 5) (rh2 : 0 ≤ u2.toInt) (rh3 : u2.toInt + u1.toInt ≤ (xs.length : Int)) (rhx8 : xs.length ≤ 8) (rhcx : own_C xs) :
    MetFree l (⟨"com/example/pattern_automaton/patternautomaton/CharBlock$TextSource", "copy", "(Ljava/lang/CharSequence;II[CI)V"⟩ : MethodName) (head1 (Jvm.Cond.code (⟨"com/example/pattern_automaton/patternautomaton/CharBlock$TextSource", "copy", "(Ljava/lang/CharSequence;II[CI)V"⟩ : MethodName) prog_12_method_4_code 9 none :: ws) ({ frames := 3, cells := 0, slots := 0, locals := 49 } : Room)) (fun a U => a = #[(.ref vt), (.int u0), (.int u1), (.ref vc), (.int u2)] ∧ Z.Warmed39 U.vm ∧ U.heap = h0) (fun _ _ _ _ _ => True) (fun _ U o U' => ∃ v L, o = .returned v ∧ Qcp Z vt tb vc zc fm y0 y1 y2 y3 y4 xs u0 u1 u2 h0 n0 v U'.heap L ∧ FrameEnd U o U' L 0 0) := by
  refine MetFree.of_bodySF (plainFor_of_name pn_14) hisR ?_
  intro p e s m args below meth c s₁ Bd hml0 hP hK
  obtain ⟨rfl, hZ, hh⟩ := hP
  have hx := Bd.exec
  have hby := Bd.bytes
  have hml : c.maxLocals = 9 := hml0
  have hown : s.vm.findClass "com/example/pattern_automaton/patternautomaton/CharBlock$TextSource" = some m.cls := findClass_of_methodNamed Bd.named
  have hnm := (name_of_methodNamed Bd.named Bd.method).1
  have X0 : Stand p l e ({ frames := 3, cells := 0, slots := 0, locals := 49 } : Room) s m #[(.ref vt), (.int u0), (.int u1), (.ref vc), (.int u2)] below meth c s₁ [] 0 0 := Stand.of_body Bd
  have e0 : s₁.heap = h0 := by rw [← hh, Bd.state]; rfl
  have N0 := Fr.nil n0
  have hlk : meth.locks = false := BodyLoose.notSynchronized Bd
  show Goal p e below s (Qcp Z vt tb vc zc fm y0 y1 y2 y3 y4 xs u0 u1 u2 h0 n0) 0 0 (s₁.setTop (entryFrame m #[(.ref vt), (.int u0), (.int u1), (.ref vc), (.int u2)] 9))
  refine Goal.to (B := s₁.setTop (mkF m 0 #[.val (.ref vt), .val (.int u0), .val (.int u1), .val (.ref vc), .val (.int u2), .unset, .unset, .unset, .unset] [])) (fun tt kk => castTop (ef_14 m vt u0 u1 vc u2 ) kk) ?_
  refine Goal.to (B := s₁.setTop (mkF m 1 #[.val (.ref vt), .val (.int u0), .val (.int u1), .val (.ref vc), .val (.int u2), .unset, .unset, .unset, .unset] [(.ref vt)])) (fun tt kk => ?_) ?_
  · show Steps p.tables e below (s₁.setTop (mkF m 0 #[.val (.ref vt), .val (.int u0), .val (.int u1), .val (.ref vc), .val (.int u2), .unset, .unset, .unset, .unset] [])) tt
    refine XS.aloadN X0.here hx rfl (hb hby d14_0) rfl rfl ?_
    exact kk
  obtain ⟨T1, X1, e1, st1⟩ := instY X0 hx hZ hown (hw _ (mw 89 rfl)) e0 (Ins.self E_vt) (g := (mkF m 1 #[.val (.ref vt), .val (.int u0), .val (.int u1), .val (.ref vc), .val (.int u2), .unset, .unset, .unset, .unset] [(.ref vt)])) rfl rfl (hb hby d14_1)
  refine Goal.to (B := T1.setTop (mkF m 4 #[.val (.ref vt), .val (.int u0), .val (.int u1), .val (.ref vc), .val (.int u2), .unset, .unset, .unset, .unset] [(.int (1 : Int32))])) st1 ?_
  refine Goal.to (B := T1.setTop (mkF m 8 #[.val (.ref vt), .val (.int u0), .val (.int u1), .val (.ref vc), .val (.int u2), .unset, .unset, .unset, .unset] [(.ref vt)])) (fun tt kk => ?_) ?_
  · show Steps p.tables e below (T1.setTop (mkF m 4 #[.val (.ref vt), .val (.int u0), .val (.int u1), .val (.ref vc), .val (.int u2), .unset, .unset, .unset, .unset] [(.int (1 : Int32))])) tt
    refine XS.ifNo X1.here hx rfl (hb hby d14_4) rfl ((if0 _ _).trans (feq ((by decide) : ¬ ((1 : Int32) = (0 : Int32)))).1) ?_
    show Steps p.tables e below (T1.setTop (mkF m 7 #[.val (.ref vt), .val (.int u0), .val (.int u1), .val (.ref vc), .val (.int u2), .unset, .unset, .unset, .unset] [])) tt
    refine XS.aloadN X1.here hx rfl (hb hby d14_7) rfl rfl ?_
    exact kk
  obtain ⟨T2, X2, e2, st2⟩ := castY X1 hx hZ hown (hw _ (mw 89 rfl)) e1 (Ins.self E_vt) (g := (mkF m 8 #[.val (.ref vt), .val (.int u0), .val (.int u1), .val (.ref vc), .val (.int u2), .unset, .unset, .unset, .unset] [(.ref vt)])) rfl rfl (hb hby d14_8)
  refine Goal.to (B := T2.setTop (mkF m 11 #[.val (.ref vt), .val (.int u0), .val (.int u1), .val (.ref vc), .val (.int u2), .unset, .unset, .unset, .unset] [(.ref vt)])) st2 ?_
  have hA : (u0 + u1).toInt = u0.toInt + u1.toInt := Jvm.Kit.i32_add (by omega) (by omega)
  refine Goal.to (B := T2.setTop (mkF m 22 #[.val (.ref vt), .val (.int u0), .val (.int u1), .val (.ref vc), .val (.int u2), .val (.ref vt), .unset, .unset, .unset] [(.int u2), (.ref vc), (.int (u0 + u1)), (.int u0), (.ref vt)])) (fun tt kk => ?_) ?_
  · show Steps p.tables e below (T2.setTop (mkF m 11 #[.val (.ref vt), .val (.int u0), .val (.int u1), .val (.ref vc), .val (.int u2), .unset, .unset, .unset, .unset] [(.ref vt)])) tt
    refine XS.astore X2.here hx rfl (hb hby d14_11) rfl rfl (l' := #[.val (.ref vt), .val (.int u0), .val (.int u1), .val (.ref vc), .val (.int u2), .val (.ref vt), .unset, .unset, .unset]) rfl ?_
    show Steps p.tables e below (T2.setTop (mkF m 13 #[.val (.ref vt), .val (.int u0), .val (.int u1), .val (.ref vc), .val (.int u2), .val (.ref vt), .unset, .unset, .unset] [])) tt
    refine XS.aload X2.here hx rfl (hb hby d14_13) rfl rfl ?_
    show Steps p.tables e below (T2.setTop (mkF m 15 #[.val (.ref vt), .val (.int u0), .val (.int u1), .val (.ref vc), .val (.int u2), .val (.ref vt), .unset, .unset, .unset] [(.ref vt)])) tt
    refine XS.iloadN X2.here hx rfl (hb hby d14_15) rfl ?_
    show Steps p.tables e below (T2.setTop (mkF m 16 #[.val (.ref vt), .val (.int u0), .val (.int u1), .val (.ref vc), .val (.int u2), .val (.ref vt), .unset, .unset, .unset] [(.int u0), (.ref vt)])) tt
    refine XS.iloadN X2.here hx rfl (hb hby d14_16) rfl ?_
    show Steps p.tables e below (T2.setTop (mkF m 17 #[.val (.ref vt), .val (.int u0), .val (.int u1), .val (.ref vc), .val (.int u2), .val (.ref vt), .unset, .unset, .unset] [(.int u0), (.int u0), (.ref vt)])) tt
    refine XS.iloadN X2.here hx rfl (hb hby d14_17) rfl ?_
    show Steps p.tables e below (T2.setTop (mkF m 18 #[.val (.ref vt), .val (.int u0), .val (.int u1), .val (.ref vc), .val (.int u2), .val (.ref vt), .unset, .unset, .unset] [(.int u1), (.int u0), (.int u0), (.ref vt)])) tt
    refine XS.iadd X2.here hx rfl (hb hby d14_18) rfl ?_
    show Steps p.tables e below (T2.setTop (mkF m 19 #[.val (.ref vt), .val (.int u0), .val (.int u1), .val (.ref vc), .val (.int u2), .val (.ref vt), .unset, .unset, .unset] [(.int (u0 + u1)), (.int u0), (.ref vt)])) tt
    refine XS.aloadN X2.here hx rfl (hb hby d14_19) rfl rfl ?_
    show Steps p.tables e below (T2.setTop (mkF m 20 #[.val (.ref vt), .val (.int u0), .val (.int u1), .val (.ref vc), .val (.int u2), .val (.ref vt), .unset, .unset, .unset] [(.ref vc), (.int (u0 + u1)), (.int u0), (.ref vt)])) tt
    refine XS.iload X2.here hx rfl (hb hby d14_20) rfl ?_
    exact kk
  obtain ⟨cq3, kq3, q3a, q3b, q3c⟩ := isOf hZ e2 E_vt
  obtain ⟨_, _, ⟨T3, L3, k3, n3⟩, -, X3, ⟨Lc3, hQ3, l3, y3, z3⟩, st3⟩ := X2.virtualBack hx (y := (⟨"java/lang/String", "getChars", "(II[CI)V"⟩ : MethodName)) (z := (⟨"java/lang/String", "getChars", "(II[CI)V"⟩ : MethodName)) hown (mvT hZ (hw _ (mw 90 rfl))) (mvT hZ (hw _ (mw 91 rfl))) (notFace_of_selects (args := #[]) (mvT hZ (hw _ (mw 93 rfl)))) (mvT hZ (hw _ (mw 93 rfl))) (mvT hZ (hw _ (mw 92 rfl))) (by decide) (backOf (W := 0) (rmgc l Z a0 hw [] vt tb vc zc fm y0 y1 y2 y3 y4 xs u0 (u0 + u1) u2 h0 n0 Z0 E_vt F_value_vt F_coder_vt V_tb S_COMPACT_STRINGS S_SIOOBE_FORMATTER V_vc g_vc ne_tb_vc ne_vt_vc (by assumption) pfm (by omega) (by omega) (by omega) (by omega) (by omega) (by assumption) (by assumption)) hZ (hw _ (mw 94 rfl)) (hw _ (mw 3 rfl)) (by decide) (by decide)) q3a q3c (g := (mkF m 22 #[.val (.ref vt), .val (.int u0), .val (.int u1), .val (.ref vc), .val (.int u2), .val (.ref vt), .unset, .unset, .unset] [(.int u2), (.ref vc), (.int (u0 + u1)), (.int u0), (.ref vt)])) rfl (by rw [hml]; rfl) (Steps.refl _) (argsL := [(.int u0), (.int (u0 + u1)), (.ref vc), (.int u2)]) (rest := []) (lenOf pd_14 rfl) rfl (by show 2 * 0 + _ ≤ _; exact Nat.le_of_eq rfl) (hb hby d14_22) (fun _ _ => ⟨rfl, e2, (by decide : 0 + 0 ≤ _), (by decide : 0 + 0 ≤ _)⟩)
  dsimp only [Pt.U, Pt.locs, Pt.cells, Pt.slots] at X3 l3 y3 z3 st3 hQ3
  subst y3 z3
  obtain ⟨ys_3, rfl, N3q, K3, P3_0, hys_3, hcy_3⟩ := hQ3
  have N3 := Fr.eqv l3 (Fr.app N0 N3q)
  refine Goal.tr (B := T3.setTop (mkF m 25 #[.val (.ref vt), .val (.int u0), .val (.int u1), .val (.ref vc), .val (.int u2), .val (.ref vt), .unset, .unset, .unset] [])) st3 ?_
  refine Goal.to (B := T3.setTop (mkF m 121 #[.val (.ref vt), .val (.int u0), .val (.int u1), .val (.ref vc), .val (.int u2), .val (.ref vt), .unset, .unset, .unset] [])) (fun tt kk => ?_) ?_
  · show Steps p.tables e below (T3.setTop (mkF m 25 #[.val (.ref vt), .val (.int u0), .val (.int u1), .val (.ref vc), .val (.int u2), .val (.ref vt), .unset, .unset, .unset] [])) tt
    refine XS.goto X3.here hx rfl (pc0 := 25) (pc' := 121) rfl (hb hby d14_25) (by decide) (by decide) ?_
    exact kk
  have f4 : Keep h0 T3.heap [vc] := ((Keep.refl h0 [vc]).trans K3 (allS (Or.inl (List.mem_of_getElem? (i := 0) rfl)) all0))
  exact Goal.retN X3 hx Bd.returns (hb hby d14_121) hlk rfl ⟨ys_3, rfl, N3, f4, P3_0, hys_3, hcy_3⟩ (by decide) (by decide)
theorem ef_13 (m : MethodId) (x0 : Int32) (x1 : Int32)  : entryFrame m #[(.int x0), (.int x1)] 2 = mkF m 0 #[.val (.int x0), .val (.int x1)] [] := by first | (simp [entryFrame, mkF, argsToLocals, Value.category]; done) | rfl
theorem d13_0 : decode jdk_29_method_69_code 0 = .ok (.iload_n 0, 1) := by decide +kernel
theorem d13_1 : decode jdk_29_method_69_code 1 = .ok (.iload_n 1, 1) := by decide +kernel
theorem d13_2 : decode jdk_29_method_69_code 2 = .ok (.if_icmp .gt 7, 3) := by decide +kernel
theorem d13_9 : decode jdk_29_method_69_code 9 = .ok (.iload_n 1, 1) := by decide +kernel
theorem d13_5 : decode jdk_29_method_69_code 5 = .ok (.iload_n 0, 1) := by decide +kernel
theorem d13_6 : decode jdk_29_method_69_code 6 = .ok (.goto 4, 3) := by decide +kernel
theorem d13_10 : decode jdk_29_method_69_code 10 = .ok (.ireturn, 1) := by decide +kernel
def Qmi (Z : State) (u0 : Int32) (u1 : Int32) (h0 : Heap) (n0 : Nat) (v : Option Value) (h : Heap) (L : List Loc) : Prop := v = some (.int (if u1 < u0 then u1 else u0)) ∧ Fr n0 L ∧ h = h0
set_option maxRecDepth 65536 in
set_option maxHeartbeats 40000000 in
theorem rmmi (l : Launch) (Z : State) (a0 : Array Value) (hw : ∀ d ∈ tables_1, d.before a0 Z = true) (ws : List Jvm.Cond) (u0 : Int32) (u1 : Int32) (h0 : Heap) (n0 : Nat) (Z0 : n0 ≤ h0.size) :
    MetFree l (⟨"java/lang/Math", "min", "(II)I"⟩ : MethodName) (head1 (Jvm.Cond.code (⟨"java/lang/Math", "min", "(II)I"⟩ : MethodName) jdk_29_method_69_code 2 (some .int) :: ws) ({ frames := 0, cells := 0, slots := 0, locals := 0 } : Room)) (fun a U => a = #[(.int u0), (.int u1)] ∧ Z.Warmed39 U.vm ∧ U.heap = h0) (fun _ _ _ _ _ => True) (fun _ U o U' => ∃ v L, o = .returned v ∧ Qmi Z u0 u1 h0 n0 v U'.heap L ∧ FrameEnd U o U' L 0 0) := by
  refine MetFree.of_bodySF (Jvm.Free.JP.mathPlain rfl (by decide +kernel)) hisR ?_
  intro p e s m args below meth c s₁ Bd hml0 hP hK
  obtain ⟨rfl, hZ, hh⟩ := hP
  have hx := Bd.exec
  have hby := Bd.bytes
  have hml : c.maxLocals = 2 := hml0
  have hown : s.vm.findClass "java/lang/Math" = some m.cls := findClass_of_methodNamed Bd.named
  have hnm := (name_of_methodNamed Bd.named Bd.method).1
  have X0 : Stand p l e ({ frames := 0, cells := 0, slots := 0, locals := 0 } : Room) s m #[(.int u0), (.int u1)] below meth c s₁ [] 0 0 := Stand.of_body Bd
  have e0 : s₁.heap = h0 := by rw [← hh, Bd.state]; rfl
  have N0 := Fr.nil n0
  have hlk : meth.locks = false := BodyLoose.notSynchronized Bd
  show Goal p e below s (Qmi Z u0 u1 h0 n0) 0 0 (s₁.setTop (entryFrame m #[(.int u0), (.int u1)] 2))
  refine Goal.to (B := s₁.setTop (mkF m 0 #[.val (.int u0), .val (.int u1)] [])) (fun tt kk => castTop (ef_13 m u0 u1 ) kk) ?_
  refine Goal.to (B := s₁.setTop (mkF m 2 #[.val (.int u0), .val (.int u1)] [(.int u1), (.int u0)])) (fun tt kk => ?_) ?_
  · show Steps p.tables e below (s₁.setTop (mkF m 0 #[.val (.int u0), .val (.int u1)] [])) tt
    refine XS.iloadN X0.here hx rfl (hb hby d13_0) rfl ?_
    show Steps p.tables e below (s₁.setTop (mkF m 1 #[.val (.int u0), .val (.int u1)] [(.int u0)])) tt
    refine XS.iloadN X0.here hx rfl (hb hby d13_1) rfl ?_
    exact kk
  obtain ⟨w2, hw2⟩ : ∃ z : Int32, z = if u1 < u0 then u1 else u0 := ⟨_, rfl⟩
  refine Goal.to (B := s₁.setTop (mkF m 10 #[.val (.int u0), .val (.int u1)] [(.int w2)])) (fun tt kk => ?_) ?_
  · by_cases hc1 : u1 < u0
    · have qw2 : w2 = u1 := by rw [hw2, if_pos hc1]
      rw [qw2] at kk
      show Steps p.tables e below (s₁.setTop (mkF m 2 #[.val (.int u0), .val (.int u1)] [(.int u1), (.int u0)])) tt
      refine XS.icmpYes X0.here hx rfl (pc0 := 2) (pc' := 9) rfl (hb hby d13_2) rfl (tlt hc1).2.2.1 (by decide) (by decide) ?_
      show Steps p.tables e below (s₁.setTop (mkF m 9 #[.val (.int u0), .val (.int u1)] [])) tt
      refine XS.iloadN X0.here hx rfl (hb hby d13_9) rfl ?_
      exact kk
    · have qw2 : w2 = u0 := by rw [hw2, if_neg hc1]
      rw [qw2] at kk
      show Steps p.tables e below (s₁.setTop (mkF m 2 #[.val (.int u0), .val (.int u1)] [(.int u1), (.int u0)])) tt
      refine XS.icmpNo X0.here hx rfl (hb hby d13_2) rfl (flt hc1).2.2.1 ?_
      show Steps p.tables e below (s₁.setTop (mkF m 5 #[.val (.int u0), .val (.int u1)] [])) tt
      refine XS.iloadN X0.here hx rfl (hb hby d13_5) rfl ?_
      show Steps p.tables e below (s₁.setTop (mkF m 6 #[.val (.int u0), .val (.int u1)] [(.int u0)])) tt
      refine XS.goto X0.here hx rfl (pc0 := 6) (pc' := 10) rfl (hb hby d13_6) (by decide) (by decide) ?_
      exact kk
  exact Goal.retV X0 hx Bd.returns rfl (Or.inl ⟨rfl, Or.inl rfl, _, rfl⟩) (hb hby d13_10) hlk e0 ⟨(congrArg some (by rw [hw2] : ((.int w2) : Value) = (.int (if u1 < u0 then u1 else u0)))), N0, rfl⟩ (by decide) (by decide)
theorem ef_12 (m : MethodId) (x0 : Addr) (x1 : Addr) (x2 : Int32) (x3 : Int32)  : entryFrame m #[(.ref x0), (.ref x1), (.int x2), (.int x3)] 5 = mkF m 0 #[.val (.ref x0), .val (.ref x1), .val (.int x2), .val (.int x3), .unset] [] := by first | (simp [entryFrame, mkF, argsToLocals, Value.category]; done) | rfl
theorem pn_12 : plainName "com/example/pattern_automaton/patternautomaton/CharBlock$TextSource" = true := by first | (simp [plainName, overriddenIn]; done) | decide +kernel
theorem d12_0 : decode prog_12_method_3_code 0 = .ok (.aload_n 0, 1) := by decide +kernel
theorem d12_1 : decode prog_12_method_3_code 1 = .ok (.getfield 22, 3) := by decide +kernel
theorem d12_4 : decode prog_12_method_3_code 4 = .ok (.aload_n 0, 1) := by decide +kernel
theorem d12_5 : decode prog_12_method_3_code 5 = .ok (.getfield 19, 3) := by decide +kernel
theorem d12_8 : decode prog_12_method_3_code 8 = .ok (.if_icmp .ne 5, 3) := by decide +kernel
theorem d12_11 : decode prog_12_method_3_code 11 = .ok (.iconst (-1), 1) := by decide +kernel
theorem d12_12 : decode prog_12_method_3_code 12 = .ok (.ireturn, 1) := by decide +kernel
theorem d12_13 : decode prog_12_method_3_code 13 = .ok (.iload_n 3, 1) := by decide +kernel
theorem d12_14 : decode prog_12_method_3_code 14 = .ok (.aload_n 0, 1) := by decide +kernel
theorem d12_15 : decode prog_12_method_3_code 15 = .ok (.getfield 19, 3) := by decide +kernel
theorem d12_18 : decode prog_12_method_3_code 18 = .ok (.aload_n 0, 1) := by decide +kernel
theorem d12_19 : decode prog_12_method_3_code 19 = .ok (.getfield 22, 3) := by decide +kernel
theorem d12_22 : decode prog_12_method_3_code 22 = .ok (.isub, 1) := by decide +kernel
theorem pd_12 : parseMethodDescriptor "(II)I" = some ⟨[.int, .int], some .int⟩ := by decide +kernel
theorem d12_23 : decode prog_12_method_3_code 23 = .ok (.invokestatic 25, 3) := by decide +kernel
theorem d12_26 : decode prog_12_method_3_code 26 = .ok (.istore 4, 2) := by decide +kernel
theorem d12_28 : decode prog_12_method_3_code 28 = .ok (.aload_n 0, 1) := by decide +kernel
theorem d12_29 : decode prog_12_method_3_code 29 = .ok (.getfield 7, 3) := by decide +kernel
theorem d12_32 : decode prog_12_method_3_code 32 = .ok (.aload_n 0, 1) := by decide +kernel
theorem d12_33 : decode prog_12_method_3_code 33 = .ok (.getfield 22, 3) := by decide +kernel
theorem d12_36 : decode prog_12_method_3_code 36 = .ok (.iload 4, 2) := by decide +kernel
theorem d12_38 : decode prog_12_method_3_code 38 = .ok (.aload_n 1, 1) := by decide +kernel
theorem d12_39 : decode prog_12_method_3_code 39 = .ok (.iload_n 2, 1) := by decide +kernel
theorem pd_13 : parseMethodDescriptor "(Ljava/lang/CharSequence;II[CI)V" = some ⟨[(.object "java/lang/CharSequence"), .int, .int, (.array .char), .int], none⟩ := by decide +kernel
theorem d12_40 : decode prog_12_method_3_code 40 = .ok (.invokestatic 31, 3) := by decide +kernel
theorem d12_43 : decode prog_12_method_3_code 43 = .ok (.aload_n 0, 1) := by decide +kernel
theorem d12_44 : decode prog_12_method_3_code 44 = .ok (.dup, 1) := by decide +kernel
theorem d12_45 : decode prog_12_method_3_code 45 = .ok (.getfield 22, 3) := by decide +kernel
theorem d12_48 : decode prog_12_method_3_code 48 = .ok (.iload 4, 2) := by decide +kernel
theorem d12_50 : decode prog_12_method_3_code 50 = .ok (.iadd, 1) := by decide +kernel
theorem d12_51 : decode prog_12_method_3_code 51 = .ok (.putfield 22, 3) := by decide +kernel
theorem d12_54 : decode prog_12_method_3_code 54 = .ok (.iload 4, 2) := by decide +kernel
theorem d12_56 : decode prog_12_method_3_code 56 = .ok (.ireturn, 1) := by decide +kernel
def Qrd (Z : State) (vt : Addr) (tb : Addr) (vc : Addr) (zc : Int32) (fm : Value) (y0 : Int32) (y1 : Int32) (y2 : Int32) (y3 : Int32) (y4 : Int32) (xs : List Value) (va : Addr) (un : Int32) (u2 : Int32) (u3 : Int32) (h0 : Heap) (n0 : Nat) (v : Option Value) (h : Heap) (L : List Loc) : Prop := ∃ ys : List Value, ∃ nn : Int32, ∃ rr : Int32, v = some (.int rr) ∧ Fr n0 L ∧ Keep h0 h [vc, va] ∧ Fld Z h va "com/example/pattern_automaton/patternautomaton/CharBlock$TextSource" "text" "Ljava/lang/CharSequence;" (.ref vt) ∧ Fld Z h va "com/example/pattern_automaton/patternautomaton/CharBlock$TextSource" "length" "I" (.int (5 : Int32)) ∧ Fld Z h va "com/example/pattern_automaton/patternautomaton/CharBlock$TextSource" "next" "I" (.int nn) ∧ Ary Z h vc .char ys ∧ ys.length = xs.length ∧ own_C ys ∧ 0 ≤ nn.toInt ∧ nn.toInt ≤ 5 ∧ -1 ≤ rr.toInt ∧ rr.toInt ≤ u3.toInt
set_option maxRecDepth 65536 in
set_option maxHeartbeats 40000000 in
theorem rmrd (l : Launch) (Z : State) (a0 : Array Value) (hw : ∀ d ∈ tables_1, d.before a0 Z = true) (ws : List Jvm.Cond) (vt : Addr) (tb : Addr) (vc : Addr) (zc : Int32) (fm : Value) (y0 : Int32) (y1 : Int32) (y2 : Int32) (y3 : Int32) (y4 : Int32) (xs : List Value) (va : Addr) (un : Int32) (u2 : Int32) (u3 : Int32) (h0 : Heap) (n0 : Nat) (Z0 : n0 ≤ h0.size) (E_va : Exa Z h0 va "com/example/pattern_automaton/patternautomaton/CharBlock$TextSource") (F_text_va : Fld Z h0 va "com/example/pattern_automaton/patternautomaton/CharBlock$TextSource" "text" "Ljava/lang/CharSequence;" (.ref vt)) (F_length_va : Fld Z h0 va "com/example/pattern_automaton/patternautomaton/CharBlock$TextSource" "length" "I" (.int (5 : Int32))) (F_next_va : Fld Z h0 va "com/example/pattern_automaton/patternautomaton/CharBlock$TextSource" "next" "I" (.int un)) (E_vt : Exa Z h0 vt "java/lang/String") (F_value_vt : Fld Z h0 vt "java/lang/String" "value" "[B" (.ref tb)) (F_coder_vt : Fld Z h0 vt "java/lang/String" "coder" "B" (.int (0 : Int32))) (V_tb : Ary Z h0 tb .byte [(.int y0), (.int y1), (.int y2), (.int y3), (.int y4)]) (S_COMPACT_STRINGS : StaN Z n0 h0 "java/lang/String" "COMPACT_STRINGS" "Z" (.int zc)) (S_SIOOBE_FORMATTER : StaN Z n0 h0 "jdk/internal/util/Preconditions" "SIOOBE_FORMATTER" "Ljava/util/function/BiFunction;" fm) (V_vc : Ary Z h0 vc .char xs) (g_vc : n0 ≤ vc) (g_va : n0 ≤ va) (ne_tb_vc : tb ≠ vc) (ne_vt_vc : vt ≠ vc) (ne_va_vc : va ≠ vc) (ne_va_tb : va ≠ tb) (ne_va_vt : va ≠ vt) (hCS : ¬ (zc = (0 : Int32))) (pfm : fm.isRef = true) (rn0 : 0 ≤ un.toInt) (rn5 : un.toInt ≤ 5) (rh2 : 0 ≤ u2.toInt) (rh3 : 0 ≤ u3.toInt) (rh4 : u2.toInt + u3.toInt ≤ (xs.length : Int)) (rhx8 : xs.length ≤ 8) (rhcx : own_C xs) :
    MetFree l (⟨"com/example/pattern_automaton/patternautomaton/CharBlock$TextSource", "read", "([CII)I"⟩ : MethodName) (head1 (Jvm.Cond.code (⟨"com/example/pattern_automaton/patternautomaton/CharBlock$TextSource", "read", "([CII)I"⟩ : MethodName) prog_12_method_3_code 5 (some .int) :: ws) ({ frames := 4, cells := 0, slots := 0, locals := 69 } : Room)) (fun a U => a = #[(.ref va), (.ref vc), (.int u2), (.int u3)] ∧ Z.Warmed39 U.vm ∧ U.heap = h0) (fun _ _ _ _ _ => True) (fun _ U o U' => ∃ v L, o = .returned v ∧ Qrd Z vt tb vc zc fm y0 y1 y2 y3 y4 xs va un u2 u3 h0 n0 v U'.heap L ∧ FrameEnd U o U' L 0 0) := by
  refine MetFree.of_bodySF (plainFor_of_name pn_12) hisR ?_
  intro p e s m args below meth c s₁ Bd hml0 hP hK
  obtain ⟨rfl, hZ, hh⟩ := hP
  have hx := Bd.exec
  have hby := Bd.bytes
  have hml : c.maxLocals = 5 := hml0
  have hown : s.vm.findClass "com/example/pattern_automaton/patternautomaton/CharBlock$TextSource" = some m.cls := findClass_of_methodNamed Bd.named
  have hnm := (name_of_methodNamed Bd.named Bd.method).1
  have X0 : Stand p l e ({ frames := 4, cells := 0, slots := 0, locals := 69 } : Room) s m #[(.ref va), (.ref vc), (.int u2), (.int u3)] below meth c s₁ [] 0 0 := Stand.of_body Bd
  have e0 : s₁.heap = h0 := by rw [← hh, Bd.state]; rfl
  have N0 := Fr.nil n0
  have hlk : meth.locks = false := BodyLoose.notSynchronized Bd
  show Goal p e below s (Qrd Z vt tb vc zc fm y0 y1 y2 y3 y4 xs va un u2 u3 h0 n0) 0 0 (s₁.setTop (entryFrame m #[(.ref va), (.ref vc), (.int u2), (.int u3)] 5))
  refine Goal.to (B := s₁.setTop (mkF m 0 #[.val (.ref va), .val (.ref vc), .val (.int u2), .val (.int u3), .unset] [])) (fun tt kk => castTop (ef_12 m va vc u2 u3 ) kk) ?_
  refine Goal.to (B := s₁.setTop (mkF m 1 #[.val (.ref va), .val (.ref vc), .val (.int u2), .val (.int u3), .unset] [(.ref va)])) (fun tt kk => ?_) ?_
  · show Steps p.tables e below (s₁.setTop (mkF m 0 #[.val (.ref va), .val (.ref vc), .val (.int u2), .val (.int u3), .unset] [])) tt
    refine XS.aloadN X0.here hx rfl (hb hby d12_0) rfl rfl ?_
    exact kk
  obtain ⟨T1, X1, e1, st1⟩ := getF X0 hx hZ hown (host := "") (Or.inl (hw _ (mw 80 rfl))) Via.refl e0 F_next_va (g := (mkF m 1 #[.val (.ref va), .val (.ref vc), .val (.int u2), .val (.int u3), .unset] [(.ref va)])) rfl rfl (hb hby d12_1)
  refine Goal.to (B := T1.setTop (mkF m 4 #[.val (.ref va), .val (.ref vc), .val (.int u2), .val (.int u3), .unset] [(.int un)])) st1 ?_
  refine Goal.to (B := T1.setTop (mkF m 5 #[.val (.ref va), .val (.ref vc), .val (.int u2), .val (.int u3), .unset] [(.ref va), (.int un)])) (fun tt kk => ?_) ?_
  · show Steps p.tables e below (T1.setTop (mkF m 4 #[.val (.ref va), .val (.ref vc), .val (.int u2), .val (.int u3), .unset] [(.int un)])) tt
    refine XS.aloadN X1.here hx rfl (hb hby d12_4) rfl rfl ?_
    exact kk
  obtain ⟨T2, X2, e2, st2⟩ := getF X1 hx hZ hown (host := "") (Or.inl (hw _ (mw 53 rfl))) Via.refl e1 F_length_va (g := (mkF m 5 #[.val (.ref va), .val (.ref vc), .val (.int u2), .val (.int u3), .unset] [(.ref va), (.int un)])) rfl rfl (hb hby d12_5)
  refine Goal.to (B := T2.setTop (mkF m 8 #[.val (.ref va), .val (.ref vc), .val (.int u2), .val (.int u3), .unset] [(.int (5 : Int32)), (.int un)])) st2 ?_
  by_cases hen : un = (5 : Int32)
  · refine Goal.to (B := T2.setTop (mkF m 12 #[.val (.ref va), .val (.ref vc), .val (.int u2), .val (.int u3), .unset] [(.int (-1 : Int32))])) (fun tt kk => ?_) ?_
    · show Steps p.tables e below (T2.setTop (mkF m 8 #[.val (.ref va), .val (.ref vc), .val (.int u2), .val (.int u3), .unset] [(.int (5 : Int32)), (.int un)])) tt
      refine XS.icmpNo X2.here hx rfl (hb hby d12_8) rfl (teq hen).2 ?_
      show Steps p.tables e below (T2.setTop (mkF m 11 #[.val (.ref va), .val (.ref vc), .val (.int u2), .val (.int u3), .unset] [])) tt
      refine XS.iconst X2.here hx rfl (hb hby d12_11) ?_
      exact kk
    exact Goal.retV X2 hx Bd.returns rfl (Or.inl ⟨rfl, Or.inl rfl, _, rfl⟩) (hb hby d12_12) hlk e2 ⟨xs, un, (-1 : Int32), rfl, N0, (Keep.refl h0 [vc, va]), F_text_va, F_length_va, F_next_va, V_vc, rfl, rhcx, rn0, rn5, (by decide), (show (-1 : Int) ≤ u3.toInt by omega)⟩ (by decide) (by decide)
  · have h5n : ((5 : Int32) - un).toInt = 5 - un.toInt := by rw [Jvm.Kit.i32_sub (by show -2 ^ 31 ≤ 5 - un.toInt; omega) (by show 5 - un.toInt < 2 ^ 31; omega)]; rfl
    refine Goal.to (B := T2.setTop (mkF m 15 #[.val (.ref va), .val (.ref vc), .val (.int u2), .val (.int u3), .unset] [(.ref va), (.int u3)])) (fun tt kk => ?_) ?_
    · show Steps p.tables e below (T2.setTop (mkF m 8 #[.val (.ref va), .val (.ref vc), .val (.int u2), .val (.int u3), .unset] [(.int (5 : Int32)), (.int un)])) tt
      refine XS.icmpYes X2.here hx rfl (pc0 := 8) (pc' := 13) rfl (hb hby d12_8) rfl (feq hen).2 (by decide) (by decide) ?_
      show Steps p.tables e below (T2.setTop (mkF m 13 #[.val (.ref va), .val (.ref vc), .val (.int u2), .val (.int u3), .unset] [])) tt
      refine XS.iloadN X2.here hx rfl (hb hby d12_13) rfl ?_
      show Steps p.tables e below (T2.setTop (mkF m 14 #[.val (.ref va), .val (.ref vc), .val (.int u2), .val (.int u3), .unset] [(.int u3)])) tt
      refine XS.aloadN X2.here hx rfl (hb hby d12_14) rfl rfl ?_
      exact kk
    obtain ⟨T3, X3, e3, st3⟩ := getF X2 hx hZ hown (host := "") (Or.inl (hw _ (mw 53 rfl))) Via.refl e2 F_length_va (g := (mkF m 15 #[.val (.ref va), .val (.ref vc), .val (.int u2), .val (.int u3), .unset] [(.ref va), (.int u3)])) rfl rfl (hb hby d12_15)
    refine Goal.to (B := T3.setTop (mkF m 18 #[.val (.ref va), .val (.ref vc), .val (.int u2), .val (.int u3), .unset] [(.int (5 : Int32)), (.int u3)])) st3 ?_
    refine Goal.to (B := T3.setTop (mkF m 19 #[.val (.ref va), .val (.ref vc), .val (.int u2), .val (.int u3), .unset] [(.ref va), (.int (5 : Int32)), (.int u3)])) (fun tt kk => ?_) ?_
    · show Steps p.tables e below (T3.setTop (mkF m 18 #[.val (.ref va), .val (.ref vc), .val (.int u2), .val (.int u3), .unset] [(.int (5 : Int32)), (.int u3)])) tt
      refine XS.aloadN X3.here hx rfl (hb hby d12_18) rfl rfl ?_
      exact kk
    obtain ⟨T4, X4, e4, st4⟩ := getF X3 hx hZ hown (host := "") (Or.inl (hw _ (mw 80 rfl))) Via.refl e3 F_next_va (g := (mkF m 19 #[.val (.ref va), .val (.ref vc), .val (.int u2), .val (.int u3), .unset] [(.ref va), (.int (5 : Int32)), (.int u3)])) rfl rfl (hb hby d12_19)
    refine Goal.to (B := T4.setTop (mkF m 22 #[.val (.ref va), .val (.ref vc), .val (.int u2), .val (.int u3), .unset] [(.int un), (.int (5 : Int32)), (.int u3)])) st4 ?_
    refine Goal.to (B := T4.setTop (mkF m 23 #[.val (.ref va), .val (.ref vc), .val (.int u2), .val (.int u3), .unset] [(.int ((5 : Int32) - un)), (.int u3)])) (fun tt kk => ?_) ?_
    · show Steps p.tables e below (T4.setTop (mkF m 22 #[.val (.ref va), .val (.ref vc), .val (.int u2), .val (.int u3), .unset] [(.int un), (.int (5 : Int32)), (.int u3)])) tt
      refine XS.isub X4.here hx rfl (hb hby d12_22) rfl ?_
      exact kk
    obtain ⟨_, _, ⟨T5, L5, k5, n5⟩, -, X5, ⟨Lc5, hQ5, l5, y5, z5⟩, st5⟩ := Jvm.LawKit.callS X4 hx (y := (⟨"java/lang/Math", "min", "(II)I"⟩ : MethodName)) hown (mvT hZ (hw _ (mw 82 rfl))) (mvT hZ (hw _ (mw 83 rfl))) (mvT hZ (hw _ (mw 84 rfl))) (mvT hZ (hw _ (mw 85 rfl))) (by decide) (backOf (W := 0) (rmmi l Z a0 hw [] u3 ((5 : Int32) - un) h0 n0 Z0 ) hZ (hw _ (mw 85 rfl)) (hw _ (mw 84 rfl)) (by decide) (by decide)) (g := (mkF m 23 #[.val (.ref va), .val (.ref vc), .val (.int u2), .val (.int u3), .unset] [(.int ((5 : Int32) - un)), (.int u3)])) rfl (by rw [hml]; rfl) (argsL := [(.int u3), (.int ((5 : Int32) - un))]) (rest := []) (lenOf pd_12 rfl) rfl (by show 2 * 0 + _ ≤ _; exact Nat.le_of_eq rfl) (hb hby d12_23) (fun _ _ => ⟨rfl, e4, (by decide : 0 + 0 ≤ _), (by decide : 0 + 0 ≤ _)⟩)
    dsimp only [Pt.U, Pt.locs, Pt.cells, Pt.slots] at X5 l5 y5 z5 st5 hQ5
    subst y5 z5
    obtain ⟨rfl, N5q, e5⟩ := hQ5
    have N5 := Fr.eqv l5 (Fr.app N0 N5q)
    refine Goal.to (B := T5.setTop (mkF m 26 #[.val (.ref va), .val (.ref vc), .val (.int u2), .val (.int u3), .unset] [(.int (if ((5 : Int32) - un) < u3 then ((5 : Int32) - un) else u3))])) st5 ?_
    obtain ⟨mn, hmn⟩ : ∃ z : Int32, z = (if ((5 : Int32) - un) < u3 then ((5 : Int32) - un) else u3) := ⟨_, rfl⟩
    refine Goal.to (B := T5.setTop (mkF m 28 #[.val (.ref va), .val (.ref vc), .val (.int u2), .val (.int u3), .val (.int mn)] [])) (fun tt kk => ?_) ?_
    · subst hmn
      show Steps p.tables e below (T5.setTop (mkF m 26 #[.val (.ref va), .val (.ref vc), .val (.int u2), .val (.int u3), .unset] [(.int (if ((5 : Int32) - un) < u3 then ((5 : Int32) - un) else u3))])) tt
      refine XS.istore X5.here hx rfl (hb hby d12_26) rfl (l' := #[.val (.ref va), .val (.ref vc), .val (.int u2), .val (.int u3), .val (.int (if ((5 : Int32) - un) < u3 then ((5 : Int32) - un) else u3))]) rfl ?_
      exact kk
    have hmn' : mn.toInt = min u3.toInt (5 - un.toInt) := by rw [hmn, own_min, h5n]
    refine Goal.to (B := T5.setTop (mkF m 29 #[.val (.ref va), .val (.ref vc), .val (.int u2), .val (.int u3), .val (.int mn)] [(.ref va)])) (fun tt kk => ?_) ?_
    · show Steps p.tables e below (T5.setTop (mkF m 28 #[.val (.ref va), .val (.ref vc), .val (.int u2), .val (.int u3), .val (.int mn)] [])) tt
      refine XS.aloadN X5.here hx rfl (hb hby d12_28) rfl rfl ?_
      exact kk
    obtain ⟨T6, X6, e6, st6⟩ := getF X5 hx hZ hown (host := "") (Or.inl (hw _ (mw 37 rfl))) Via.refl e5 F_text_va (g := (mkF m 29 #[.val (.ref va), .val (.ref vc), .val (.int u2), .val (.int u3), .val (.int mn)] [(.ref va)])) rfl rfl (hb hby d12_29)
    refine Goal.to (B := T6.setTop (mkF m 32 #[.val (.ref va), .val (.ref vc), .val (.int u2), .val (.int u3), .val (.int mn)] [(.ref vt)])) st6 ?_
    refine Goal.to (B := T6.setTop (mkF m 33 #[.val (.ref va), .val (.ref vc), .val (.int u2), .val (.int u3), .val (.int mn)] [(.ref va), (.ref vt)])) (fun tt kk => ?_) ?_
    · show Steps p.tables e below (T6.setTop (mkF m 32 #[.val (.ref va), .val (.ref vc), .val (.int u2), .val (.int u3), .val (.int mn)] [(.ref vt)])) tt
      refine XS.aloadN X6.here hx rfl (hb hby d12_32) rfl rfl ?_
      exact kk
    obtain ⟨T7, X7, e7, st7⟩ := getF X6 hx hZ hown (host := "") (Or.inl (hw _ (mw 80 rfl))) Via.refl e6 F_next_va (g := (mkF m 33 #[.val (.ref va), .val (.ref vc), .val (.int u2), .val (.int u3), .val (.int mn)] [(.ref va), (.ref vt)])) rfl rfl (hb hby d12_33)
    refine Goal.to (B := T7.setTop (mkF m 36 #[.val (.ref va), .val (.ref vc), .val (.int u2), .val (.int u3), .val (.int mn)] [(.int un), (.ref vt)])) st7 ?_
    refine Goal.to (B := T7.setTop (mkF m 40 #[.val (.ref va), .val (.ref vc), .val (.int u2), .val (.int u3), .val (.int mn)] [(.int u2), (.ref vc), (.int mn), (.int un), (.ref vt)])) (fun tt kk => ?_) ?_
    · show Steps p.tables e below (T7.setTop (mkF m 36 #[.val (.ref va), .val (.ref vc), .val (.int u2), .val (.int u3), .val (.int mn)] [(.int un), (.ref vt)])) tt
      refine XS.iload X7.here hx rfl (hb hby d12_36) rfl ?_
      show Steps p.tables e below (T7.setTop (mkF m 38 #[.val (.ref va), .val (.ref vc), .val (.int u2), .val (.int u3), .val (.int mn)] [(.int mn), (.int un), (.ref vt)])) tt
      refine XS.aloadN X7.here hx rfl (hb hby d12_38) rfl rfl ?_
      show Steps p.tables e below (T7.setTop (mkF m 39 #[.val (.ref va), .val (.ref vc), .val (.int u2), .val (.int u3), .val (.int mn)] [(.ref vc), (.int mn), (.int un), (.ref vt)])) tt
      refine XS.iloadN X7.here hx rfl (hb hby d12_39) rfl ?_
      exact kk
    obtain ⟨_, _, ⟨T8, L8, k8, n8⟩, -, X8, ⟨Lc8, hQ8, l8, y8, z8⟩, st8⟩ := Jvm.LawKit.callS X7 hx (y := (⟨"com/example/pattern_automaton/patternautomaton/CharBlock$TextSource", "copy", "(Ljava/lang/CharSequence;II[CI)V"⟩ : MethodName)) hown (mvT hZ (hw _ (mw 86 rfl))) (mvT hZ (hw _ (mw 87 rfl))) (mvT hZ (hw _ (mw 32 rfl))) (mvT hZ (hw _ (mw 88 rfl))) (by decide) (backOf (W := 0) (rmcp l Z a0 hw [] vt tb vc zc fm y0 y1 y2 y3 y4 xs un mn u2 h0 n0 Z0 E_vt F_value_vt F_coder_vt V_tb S_COMPACT_STRINGS S_SIOOBE_FORMATTER V_vc g_vc ne_tb_vc ne_vt_vc (by assumption) pfm (by omega) (by omega) (by omega) (by omega) (by omega) (by assumption) (by assumption)) hZ (hw _ (mw 88 rfl)) (hw _ (mw 32 rfl)) (by decide) (by decide)) (g := (mkF m 40 #[.val (.ref va), .val (.ref vc), .val (.int u2), .val (.int u3), .val (.int mn)] [(.int u2), (.ref vc), (.int mn), (.int un), (.ref vt)])) rfl (by rw [hml]; rfl) (argsL := [(.ref vt), (.int un), (.int mn), (.ref vc), (.int u2)]) (rest := []) (lenOf pd_13 rfl) rfl (by show 2 * 0 + _ ≤ _; exact Nat.le_of_eq rfl) (hb hby d12_40) (fun _ _ => ⟨rfl, e7, (by decide : 0 + 0 ≤ _), (by decide : 0 + 0 ≤ _)⟩)
    dsimp only [Pt.U, Pt.locs, Pt.cells, Pt.slots] at X8 l8 y8 z8 st8 hQ8
    subst y8 z8
    obtain ⟨ys_8, rfl, N8q, K8, P8_0, hys_8, hcy_8⟩ := hQ8
    have N8 := Fr.eqv l8 (Fr.app N5 N8q)
    refine Goal.to (B := T8.setTop (mkF m 43 #[.val (.ref va), .val (.ref vc), .val (.int u2), .val (.int u3), .val (.int mn)] [])) st8 ?_
    refine Goal.to (B := T8.setTop (mkF m 45 #[.val (.ref va), .val (.ref vc), .val (.int u2), .val (.int u3), .val (.int mn)] [(.ref va), (.ref va)])) (fun tt kk => ?_) ?_
    · show Steps p.tables e below (T8.setTop (mkF m 43 #[.val (.ref va), .val (.ref vc), .val (.int u2), .val (.int u3), .val (.int mn)] [])) tt
      refine XS.aloadN X8.here hx rfl (hb hby d12_43) rfl rfl ?_
      show Steps p.tables e below (T8.setTop (mkF m 44 #[.val (.ref va), .val (.ref vc), .val (.int u2), .val (.int u3), .val (.int mn)] [(.ref va)])) tt
      refine XS.dup X8.here hx rfl (hb hby d12_44) rfl rfl ?_
      exact kk
    have f9 : Fld Z T8.heap va "com/example/pattern_automaton/patternautomaton/CharBlock$TextSource" "next" "I" (.int un) := (F_next_va.keep K8 (ninS ne_va_vc nin0))
    obtain ⟨T10, X10, e10, st10⟩ := getF X8 hx hZ hown (host := "") (Or.inl (hw _ (mw 80 rfl))) Via.refl rfl f9 (g := (mkF m 45 #[.val (.ref va), .val (.ref vc), .val (.int u2), .val (.int u3), .val (.int mn)] [(.ref va), (.ref va)])) rfl rfl (hb hby d12_45)
    refine Goal.to (B := T10.setTop (mkF m 48 #[.val (.ref va), .val (.ref vc), .val (.int u2), .val (.int u3), .val (.int mn)] [(.int un), (.ref va)])) st10 ?_
    refine Goal.to (B := T10.setTop (mkF m 51 #[.val (.ref va), .val (.ref vc), .val (.int u2), .val (.int u3), .val (.int mn)] [(.int (un + mn)), (.ref va)])) (fun tt kk => ?_) ?_
    · show Steps p.tables e below (T10.setTop (mkF m 48 #[.val (.ref va), .val (.ref vc), .val (.int u2), .val (.int u3), .val (.int mn)] [(.int un), (.ref va)])) tt
      refine XS.iload X10.here hx rfl (hb hby d12_48) rfl ?_
      show Steps p.tables e below (T10.setTop (mkF m 50 #[.val (.ref va), .val (.ref vc), .val (.int u2), .val (.int u3), .val (.int mn)] [(.int mn), (.int un), (.ref va)])) tt
      refine XS.iadd X10.here hx rfl (hb hby d12_50) rfl ?_
      exact kk
    have f11 : Exa Z T8.heap va "com/example/pattern_automaton/patternautomaton/CharBlock$TextSource" := (E_va.keep K8)
    obtain ⟨T12, h12, X12, e12, W12, st12⟩ := putF X10 hx hZ hown (host := "") (Or.inl (hw _ (mw 80 rfl))) Via.refl e10 f9 f11 (Or.inl (hw _ (mw 81 rfl))) (hw _ (mw 31 rfl)) (ty := .int) (by decide) rfl rfl (g := (mkF m 51 #[.val (.ref va), .val (.ref vc), .val (.int u2), .val (.int u3), .val (.int mn)] [(.int (un + mn)), (.ref va)])) rfl rfl (hb hby d12_51)
    have Fw12 : Fld Z h12 va "com/example/pattern_automaton/patternautomaton/CharBlock$TextSource" "next" "I" (.int (un + mn)) := f9.same W12
    have N12 := Fr.snoc X12 N8 g_va
    refine Goal.to (B := T12.setTop (mkF m 54 #[.val (.ref va), .val (.ref vc), .val (.int u2), .val (.int u3), .val (.int mn)] [])) st12 ?_
    have hNN : (un + mn).toInt = un.toInt + mn.toInt := Jvm.Kit.i32_add (by omega) (by omega)
    refine Goal.to (B := T12.setTop (mkF m 56 #[.val (.ref va), .val (.ref vc), .val (.int u2), .val (.int u3), .val (.int mn)] [(.int mn)])) (fun tt kk => ?_) ?_
    · show Steps p.tables e below (T12.setTop (mkF m 54 #[.val (.ref va), .val (.ref vc), .val (.int u2), .val (.int u3), .val (.int mn)] [])) tt
      refine XS.iload X12.here hx rfl (hb hby d12_54) rfl ?_
      exact kk
    have f13 : Keep h0 h12 [vc, va] := (((Keep.refl h0 [vc, va]).trans K8 (allS (Or.inl (List.mem_of_getElem? (i := 0) rfl)) all0)).wr W12 (Or.inl (List.mem_of_getElem? (i := 1) rfl)))
    have f14 : Fld Z h12 va "com/example/pattern_automaton/patternautomaton/CharBlock$TextSource" "text" "Ljava/lang/CharSequence;" (.ref vt) := ((F_text_va.keep K8 (ninS ne_va_vc nin0)).other W12 (Or.inr (slot_ne (Or.inr (hw _ (mw 38 rfl))) (Or.inl (hw _ (mw 81 rfl))) (by decide) (t := (.object "java/lang/CharSequence")) (t' := .int) (by decide) (by decide))))
    have f15 : Fld Z h12 va "com/example/pattern_automaton/patternautomaton/CharBlock$TextSource" "length" "I" (.int (5 : Int32)) := ((F_length_va.keep K8 (ninS ne_va_vc nin0)).other W12 (Or.inr (slot_ne (Or.inr (hw _ (mw 54 rfl))) (Or.inl (hw _ (mw 81 rfl))) (by decide) (t := .int) (t' := .int) (by decide) (by decide))))
    have f16 : Ary Z h12 vc .char ys_8 := (P8_0.other W12 (Ne.symm ne_va_vc))
    exact Goal.retV X12 hx Bd.returns rfl (Or.inl ⟨rfl, Or.inl rfl, _, rfl⟩) (hb hby d12_56) hlk e12 ⟨ys_8, (un + mn), mn, rfl, N12, f13, f14, f15, Fw12, f16, hys_8, hcy_8, (by rw [hNN]; omega), (by rw [hNN]; omega), (by omega), (by omega)⟩ (by decide) (by decide)
theorem ef_11 (m : MethodId) (x0 : Addr) (x1 : Addr)  : entryFrame m #[(.ref x0), (.ref x1)] 3 = mkF m 0 #[.val (.ref x0), .val (.ref x1), .unset] [] := by first | (simp [entryFrame, mkF, argsToLocals, Value.category]; done) | rfl
theorem pn_11 : plainName "com/example/pattern_automaton/patternautomaton/CharBlock" = true := by first | (simp [plainName, overriddenIn]; done) | decide +kernel
theorem d11_0 : decode prog_10_method_6_code 0 = .ok (.aload_n 0, 1) := by decide +kernel
theorem d11_1 : decode prog_10_method_6_code 1 = .ok (.getfield 21, 3) := by decide +kernel
theorem d11_4 : decode prog_10_method_6_code 4 = .ok (.aload_n 0, 1) := by decide +kernel
theorem d11_5 : decode prog_10_method_6_code 5 = .ok (.getfield 7, 3) := by decide +kernel
theorem d11_8 : decode prog_10_method_6_code 8 = .ok (.arraylength, 1) := by decide +kernel
theorem d11_9 : decode prog_10_method_6_code 9 = .ok (.if_icmp .ne 60, 3) := by decide +kernel
theorem d11_12 : decode prog_10_method_6_code 12 = .ok (.aload_n 0, 1) := by decide +kernel
theorem d11_13 : decode prog_10_method_6_code 13 = .ok (.dup, 1) := by decide +kernel
theorem d11_14 : decode prog_10_method_6_code 14 = .ok (.getfield 13, 3) := by decide +kernel
theorem d11_17 : decode prog_10_method_6_code 17 = .ok (.aload_n 0, 1) := by decide +kernel
theorem d11_18 : decode prog_10_method_6_code 18 = .ok (.getfield 17, 3) := by decide +kernel
theorem d11_21 : decode prog_10_method_6_code 21 = .ok (.i2l, 1) := by decide +kernel
theorem d11_22 : decode prog_10_method_6_code 22 = .ok (.ladd, 1) := by decide +kernel
theorem d11_23 : decode prog_10_method_6_code 23 = .ok (.putfield 13, 3) := by decide +kernel
theorem d11_26 : decode prog_10_method_6_code 26 = .ok (.aload_n 0, 1) := by decide +kernel
theorem d11_27 : decode prog_10_method_6_code 27 = .ok (.getfield 7, 3) := by decide +kernel
theorem d11_30 : decode prog_10_method_6_code 30 = .ok (.aload_n 0, 1) := by decide +kernel
theorem d11_31 : decode prog_10_method_6_code 31 = .ok (.getfield 17, 3) := by decide +kernel
theorem d11_34 : decode prog_10_method_6_code 34 = .ok (.aload_n 0, 1) := by decide +kernel
theorem d11_35 : decode prog_10_method_6_code 35 = .ok (.getfield 7, 3) := by decide +kernel
theorem d11_38 : decode prog_10_method_6_code 38 = .ok (.iconst 0, 1) := by decide +kernel
theorem d11_39 : decode prog_10_method_6_code 39 = .ok (.aload_n 0, 1) := by decide +kernel
theorem d11_40 : decode prog_10_method_6_code 40 = .ok (.getfield 21, 3) := by decide +kernel
theorem d11_43 : decode prog_10_method_6_code 43 = .ok (.aload_n 0, 1) := by decide +kernel
theorem d11_44 : decode prog_10_method_6_code 44 = .ok (.getfield 17, 3) := by decide +kernel
theorem d11_47 : decode prog_10_method_6_code 47 = .ok (.isub, 1) := by decide +kernel
theorem d11_48 : decode prog_10_method_6_code 48 = .ok (.invokestatic 24, 3) := by decide +kernel
theorem d11_51 : decode prog_10_method_6_code 51 = .ok (.aload_n 0, 1) := by decide +kernel
theorem d11_52 : decode prog_10_method_6_code 52 = .ok (.dup, 1) := by decide +kernel
theorem d11_53 : decode prog_10_method_6_code 53 = .ok (.getfield 21, 3) := by decide +kernel
theorem d11_56 : decode prog_10_method_6_code 56 = .ok (.aload_n 0, 1) := by decide +kernel
theorem d11_57 : decode prog_10_method_6_code 57 = .ok (.getfield 17, 3) := by decide +kernel
theorem d11_60 : decode prog_10_method_6_code 60 = .ok (.isub, 1) := by decide +kernel
theorem d11_61 : decode prog_10_method_6_code 61 = .ok (.putfield 21, 3) := by decide +kernel
theorem d11_64 : decode prog_10_method_6_code 64 = .ok (.aload_n 0, 1) := by decide +kernel
theorem d11_65 : decode prog_10_method_6_code 65 = .ok (.iconst 0, 1) := by decide +kernel
theorem d11_66 : decode prog_10_method_6_code 66 = .ok (.putfield 17, 3) := by decide +kernel
theorem d11_69 : decode prog_10_method_6_code 69 = .ok (.aload_n 1, 1) := by decide +kernel
theorem d11_70 : decode prog_10_method_6_code 70 = .ok (.aload_n 0, 1) := by decide +kernel
theorem d11_71 : decode prog_10_method_6_code 71 = .ok (.getfield 7, 3) := by decide +kernel
theorem d11_74 : decode prog_10_method_6_code 74 = .ok (.aload_n 0, 1) := by decide +kernel
theorem d11_75 : decode prog_10_method_6_code 75 = .ok (.getfield 21, 3) := by decide +kernel
theorem d11_78 : decode prog_10_method_6_code 78 = .ok (.aload_n 0, 1) := by decide +kernel
theorem d11_79 : decode prog_10_method_6_code 79 = .ok (.getfield 7, 3) := by decide +kernel
theorem d11_82 : decode prog_10_method_6_code 82 = .ok (.arraylength, 1) := by decide +kernel
theorem d11_83 : decode prog_10_method_6_code 83 = .ok (.aload_n 0, 1) := by decide +kernel
theorem d11_84 : decode prog_10_method_6_code 84 = .ok (.getfield 21, 3) := by decide +kernel
theorem d11_87 : decode prog_10_method_6_code 87 = .ok (.isub, 1) := by decide +kernel
theorem pd_11 : parseMethodDescriptor "([CII)I" = some ⟨[(.array .char), .int, .int], some .int⟩ := by decide +kernel
theorem d11_88 : decode prog_10_method_6_code 88 = .ok (.invokeinterface 30 4, 5) := by decide +kernel
theorem d11_93 : decode prog_10_method_6_code 93 = .ok (.istore_n 2, 1) := by decide +kernel
theorem d11_94 : decode prog_10_method_6_code 94 = .ok (.iload_n 2, 1) := by decide +kernel
theorem d11_95 : decode prog_10_method_6_code 95 = .ok (.ifCond .le 13, 3) := by decide +kernel
theorem d11_98 : decode prog_10_method_6_code 98 = .ok (.aload_n 0, 1) := by decide +kernel
theorem d11_99 : decode prog_10_method_6_code 99 = .ok (.dup, 1) := by decide +kernel
theorem d11_100 : decode prog_10_method_6_code 100 = .ok (.getfield 21, 3) := by decide +kernel
theorem d11_103 : decode prog_10_method_6_code 103 = .ok (.iload_n 2, 1) := by decide +kernel
theorem d11_104 : decode prog_10_method_6_code 104 = .ok (.iadd, 1) := by decide +kernel
theorem d11_105 : decode prog_10_method_6_code 105 = .ok (.putfield 21, 3) := by decide +kernel
theorem d11_108 : decode prog_10_method_6_code 108 = .ok (.iload_n 2, 1) := by decide +kernel
theorem d11_109 : decode prog_10_method_6_code 109 = .ok (.ireturn, 1) := by decide +kernel
def Qfi (Z : State) (vt : Addr) (tb : Addr) (vc : Addr) (zc : Int32) (fm : Value) (y0 : Int32) (y1 : Int32) (y2 : Int32) (y3 : Int32) (y4 : Int32) (xs : List Value) (va : Addr) (vb : Addr) (un : Int32) (fl : Int32) (fr : Int32) (sj : Int64) (h0 : Heap) (n0 : Nat) (v : Option Value) (h : Heap) (L : List Loc) : Prop := ∃ ys : List Value, ∃ nn : Int32, ∃ gl : Int32, ∃ gr : Int32, ∃ gj : Int64, ∃ rr : Int32, v = some (.int rr) ∧ Fr n0 L ∧ Keep h0 h [vc, va, vb] ∧ Fld Z h va "com/example/pattern_automaton/patternautomaton/CharBlock$TextSource" "text" "Ljava/lang/CharSequence;" (.ref vt) ∧ Fld Z h va "com/example/pattern_automaton/patternautomaton/CharBlock$TextSource" "length" "I" (.int (5 : Int32)) ∧ Fld Z h va "com/example/pattern_automaton/patternautomaton/CharBlock$TextSource" "next" "I" (.int nn) ∧ Fld Z h vb "com/example/pattern_automaton/patternautomaton/CharBlock" "chars" "[C" (.ref vc) ∧ Fld Z h vb "com/example/pattern_automaton/patternautomaton/CharBlock" "filled" "I" (.int gl) ∧ Fld Z h vb "com/example/pattern_automaton/patternautomaton/CharBlock" "from" "I" (.int gr) ∧ Fld Z h vb "com/example/pattern_automaton/patternautomaton/CharBlock" "start" "J" (.long gj) ∧ Ary Z h vc .char ys ∧ 0 ≤ nn.toInt ∧ nn.toInt ≤ 5 ∧ 0 ≤ gl.toInt ∧ gl.toInt ≤ (ys.length : Int) ∧ 0 ≤ gr.toInt ∧ gr.toInt ≤ gl.toInt ∧ 0 ≤ gj.toInt ∧ ys.length ≤ 8 ∧ own_C ys ∧ gj.toInt ≤ sj.toInt + 8 ∧ ys.length = xs.length
set_option maxRecDepth 65536 in
set_option maxHeartbeats 40000000 in
theorem rmfi (l : Launch) (Z : State) (a0 : Array Value) (hw : ∀ d ∈ tables_1, d.before a0 Z = true) (ws : List Jvm.Cond) (vt : Addr) (tb : Addr) (vc : Addr) (zc : Int32) (fm : Value) (y0 : Int32) (y1 : Int32) (y2 : Int32) (y3 : Int32) (y4 : Int32) (xs : List Value) (va : Addr) (vb : Addr) (un : Int32) (fl : Int32) (fr : Int32) (sj : Int64) (h0 : Heap) (n0 : Nat) (Z0 : n0 ≤ h0.size) (E_va : Exa Z h0 va "com/example/pattern_automaton/patternautomaton/CharBlock$TextSource") (E_vb : Exa Z h0 vb "com/example/pattern_automaton/patternautomaton/CharBlock") (F_chars_vb : Fld Z h0 vb "com/example/pattern_automaton/patternautomaton/CharBlock" "chars" "[C" (.ref vc)) (F_filled_vb : Fld Z h0 vb "com/example/pattern_automaton/patternautomaton/CharBlock" "filled" "I" (.int fl)) (F_from_vb : Fld Z h0 vb "com/example/pattern_automaton/patternautomaton/CharBlock" "from" "I" (.int fr)) (F_start_vb : Fld Z h0 vb "com/example/pattern_automaton/patternautomaton/CharBlock" "start" "J" (.long sj)) (F_text_va : Fld Z h0 va "com/example/pattern_automaton/patternautomaton/CharBlock$TextSource" "text" "Ljava/lang/CharSequence;" (.ref vt)) (F_length_va : Fld Z h0 va "com/example/pattern_automaton/patternautomaton/CharBlock$TextSource" "length" "I" (.int (5 : Int32))) (F_next_va : Fld Z h0 va "com/example/pattern_automaton/patternautomaton/CharBlock$TextSource" "next" "I" (.int un)) (E_vt : Exa Z h0 vt "java/lang/String") (F_value_vt : Fld Z h0 vt "java/lang/String" "value" "[B" (.ref tb)) (F_coder_vt : Fld Z h0 vt "java/lang/String" "coder" "B" (.int (0 : Int32))) (V_tb : Ary Z h0 tb .byte [(.int y0), (.int y1), (.int y2), (.int y3), (.int y4)]) (S_COMPACT_STRINGS : StaN Z n0 h0 "java/lang/String" "COMPACT_STRINGS" "Z" (.int zc)) (S_SIOOBE_FORMATTER : StaN Z n0 h0 "jdk/internal/util/Preconditions" "SIOOBE_FORMATTER" "Ljava/util/function/BiFunction;" fm) (V_vc : Ary Z h0 vc .char xs) (g_vc : n0 ≤ vc) (g_va : n0 ≤ va) (g_vb : n0 ≤ vb) (ne_tb_vc : tb ≠ vc) (ne_vt_vc : vt ≠ vc) (ne_va_vc : va ≠ vc) (ne_va_tb : va ≠ tb) (ne_va_vt : va ≠ vt) (ne_vb_vc : vb ≠ vc) (ne_vb_tb : vb ≠ tb) (ne_vb_vt : vb ≠ vt) (ne_vb_va : vb ≠ va) (hCS : ¬ (zc = (0 : Int32))) (pfm : fm.isRef = true) (p0 : 0 ≤ un.toInt) (p1 : un.toInt ≤ 5) (p2 : 0 ≤ fl.toInt) (p3 : fl.toInt ≤ (xs.length : Int)) (p4 : 0 ≤ fr.toInt) (p5 : fr.toInt ≤ fl.toInt) (p6 : 0 ≤ sj.toInt) (p7 : xs.length ≤ 8) (p8 : own_C xs) (p9 : sj.toInt ≤ 1000) :
    MetFree l (⟨"com/example/pattern_automaton/patternautomaton/CharBlock", "fill", "(Lcom/example/pattern_automaton/patternautomaton/CharBlock$Source;)I"⟩ : MethodName) (head1 (Jvm.Cond.code (⟨"com/example/pattern_automaton/patternautomaton/CharBlock", "fill", "(Lcom/example/pattern_automaton/patternautomaton/CharBlock$Source;)I"⟩ : MethodName) prog_10_method_6_code 3 (some .int) :: ws) ({ frames := 5, cells := 0, slots := 0, locals := 85 } : Room)) (fun a U => a = #[(.ref vb), (.ref va)] ∧ Z.Warmed39 U.vm ∧ U.heap = h0) (fun _ _ _ _ _ => True) (fun _ U o U' => ∃ v L, o = .returned v ∧ Qfi Z vt tb vc zc fm y0 y1 y2 y3 y4 xs va vb un fl fr sj h0 n0 v U'.heap L ∧ FrameEnd U o U' L 0 0) := by
  refine MetFree.of_bodySF (plainFor_of_name pn_11) hisR ?_
  intro p e s m args below meth c s₁ Bd hml0 hP hK
  obtain ⟨rfl, hZ, hh⟩ := hP
  have hx := Bd.exec
  have hby := Bd.bytes
  have hml : c.maxLocals = 3 := hml0
  have hown : s.vm.findClass "com/example/pattern_automaton/patternautomaton/CharBlock" = some m.cls := findClass_of_methodNamed Bd.named
  have hnm := (name_of_methodNamed Bd.named Bd.method).1
  have X0 : Stand p l e ({ frames := 5, cells := 0, slots := 0, locals := 85 } : Room) s m #[(.ref vb), (.ref va)] below meth c s₁ [] 0 0 := Stand.of_body Bd
  have e0 : s₁.heap = h0 := by rw [← hh, Bd.state]; rfl
  have N0 := Fr.nil n0
  have hlk : meth.locks = false := BodyLoose.notSynchronized Bd
  show Goal p e below s (Qfi Z vt tb vc zc fm y0 y1 y2 y3 y4 xs va vb un fl fr sj h0 n0) 0 0 (s₁.setTop (entryFrame m #[(.ref vb), (.ref va)] 3))
  refine Goal.to (B := s₁.setTop (mkF m 0 #[.val (.ref vb), .val (.ref va), .unset] [])) (fun tt kk => castTop (ef_11 m vb va ) kk) ?_
  refine Goal.to (B := s₁.setTop (mkF m 1 #[.val (.ref vb), .val (.ref va), .unset] [(.ref vb)])) (fun tt kk => ?_) ?_
  · show Steps p.tables e below (s₁.setTop (mkF m 0 #[.val (.ref vb), .val (.ref va), .unset] [])) tt
    refine XS.aloadN X0.here hx rfl (hb hby d11_0) rfl rfl ?_
    exact kk
  obtain ⟨T1, X1, e1, st1⟩ := getF X0 hx hZ hown (host := "") (Or.inl (hw _ (mw 69 rfl))) Via.refl e0 F_filled_vb (g := (mkF m 1 #[.val (.ref vb), .val (.ref va), .unset] [(.ref vb)])) rfl rfl (hb hby d11_1)
  refine Goal.to (B := T1.setTop (mkF m 4 #[.val (.ref vb), .val (.ref va), .unset] [(.int fl)])) st1 ?_
  refine Goal.to (B := T1.setTop (mkF m 5 #[.val (.ref vb), .val (.ref va), .unset] [(.ref vb), (.int fl)])) (fun tt kk => ?_) ?_
  · show Steps p.tables e below (T1.setTop (mkF m 4 #[.val (.ref vb), .val (.ref va), .unset] [(.int fl)])) tt
    refine XS.aloadN X1.here hx rfl (hb hby d11_4) rfl rfl ?_
    exact kk
  obtain ⟨T2, X2, e2, st2⟩ := getF X1 hx hZ hown (host := "") (Or.inl (hw _ (mw 62 rfl))) Via.refl e1 F_chars_vb (g := (mkF m 5 #[.val (.ref vb), .val (.ref va), .unset] [(.ref vb), (.int fl)])) rfl rfl (hb hby d11_5)
  refine Goal.to (B := T2.setTop (mkF m 8 #[.val (.ref vb), .val (.ref va), .unset] [(.ref vc), (.int fl)])) st2 ?_
  obtain ⟨cl3, Ar3, Sl3⟩ := id V_vc
  have ln3 : cl3.slots.size.toInt32 = xs.length.toInt32 := lenA Sl3 rfl
  refine Goal.to (B := T2.setTop (mkF m 9 #[.val (.ref vb), .val (.ref va), .unset] [(.int xs.length.toInt32), (.int fl)])) (fun tt kk => ?_) ?_
  · show Steps p.tables e below (T2.setTop (mkF m 8 #[.val (.ref vb), .val (.ref va), .unset] [(.ref vc), (.int fl)])) tt
    refine X2.arraylength hx (by rw [e2]; exact Ar3.1) (State.isArrayOf_alike hZ.alike Ar3.2.1) (g := (mkF m 8 #[.val (.ref vb), .val (.ref va), .unset] [(.ref vc), (.int fl)])) rfl rfl (hb hby d11_8) _ ?_
    rw [ln3]
    exact kk
  by_cases hfu : fl = xs.length.toInt32
  · have hN := own_len p7
    refine Goal.to (B := T2.setTop (mkF m 14 #[.val (.ref vb), .val (.ref va), .unset] [(.ref vb), (.ref vb)])) (fun tt kk => ?_) ?_
    · show Steps p.tables e below (T2.setTop (mkF m 9 #[.val (.ref vb), .val (.ref va), .unset] [(.int xs.length.toInt32), (.int fl)])) tt
      refine XS.icmpNo X2.here hx rfl (hb hby d11_9) rfl (teq hfu).2 ?_
      show Steps p.tables e below (T2.setTop (mkF m 12 #[.val (.ref vb), .val (.ref va), .unset] [])) tt
      refine XS.aloadN X2.here hx rfl (hb hby d11_12) rfl rfl ?_
      show Steps p.tables e below (T2.setTop (mkF m 13 #[.val (.ref vb), .val (.ref va), .unset] [(.ref vb)])) tt
      refine XS.dup X2.here hx rfl (hb hby d11_13) rfl rfl ?_
      exact kk
    obtain ⟨T4, X4, e4, st4⟩ := getF X2 hx hZ hown (host := "") (Or.inl (hw _ (mw 142 rfl))) Via.refl e2 F_start_vb (g := (mkF m 14 #[.val (.ref vb), .val (.ref va), .unset] [(.ref vb), (.ref vb)])) rfl rfl (hb hby d11_14)
    refine Goal.to (B := T4.setTop (mkF m 17 #[.val (.ref vb), .val (.ref va), .unset] [(.long sj), (.ref vb)])) st4 ?_
    refine Goal.to (B := T4.setTop (mkF m 18 #[.val (.ref vb), .val (.ref va), .unset] [(.ref vb), (.long sj), (.ref vb)])) (fun tt kk => ?_) ?_
    · show Steps p.tables e below (T4.setTop (mkF m 17 #[.val (.ref vb), .val (.ref va), .unset] [(.long sj), (.ref vb)])) tt
      refine XS.aloadN X4.here hx rfl (hb hby d11_17) rfl rfl ?_
      exact kk
    obtain ⟨T5, X5, e5, st5⟩ := getF X4 hx hZ hown (host := "") (Or.inl (hw _ (mw 135 rfl))) Via.refl e4 F_from_vb (g := (mkF m 18 #[.val (.ref vb), .val (.ref va), .unset] [(.ref vb), (.long sj), (.ref vb)])) rfl rfl (hb hby d11_18)
    refine Goal.to (B := T5.setTop (mkF m 21 #[.val (.ref vb), .val (.ref va), .unset] [(.int fr), (.long sj), (.ref vb)])) st5 ?_
    refine Goal.to (B := T5.setTop (mkF m 23 #[.val (.ref vb), .val (.ref va), .unset] [(.long (sj + (fr.toInt64))), (.ref vb)])) (fun tt kk => ?_) ?_
    · show Steps p.tables e below (T5.setTop (mkF m 21 #[.val (.ref vb), .val (.ref va), .unset] [(.int fr), (.long sj), (.ref vb)])) tt
      refine XS.i2l X5.here hx rfl (hb hby d11_21) rfl ?_
      show Steps p.tables e below (T5.setTop (mkF m 22 #[.val (.ref vb), .val (.ref va), .unset] [(.long (fr.toInt64)), (.long sj), (.ref vb)])) tt
      refine XS.ladd X5.here hx rfl (hb hby d11_22) rfl ?_
      exact kk
    obtain ⟨T6, h6, X6, e6, W6, st6⟩ := putF X5 hx hZ hown (host := "") (Or.inl (hw _ (mw 142 rfl))) Via.refl e5 F_start_vb E_vb (Or.inl (hw _ (mw 143 rfl))) (hw _ (mw 56 rfl)) (ty := .long) (by decide) rfl rfl (g := (mkF m 23 #[.val (.ref vb), .val (.ref va), .unset] [(.long (sj + (fr.toInt64))), (.ref vb)])) rfl rfl (hb hby d11_23)
    have Fw6 : Fld Z h6 vb "com/example/pattern_automaton/patternautomaton/CharBlock" "start" "J" (.long (sj + (fr.toInt64))) := F_start_vb.same W6
    have N6 := Fr.snoc X6 N0 g_vb
    refine Goal.to (B := T6.setTop (mkF m 26 #[.val (.ref vb), .val (.ref va), .unset] [])) st6 ?_
    refine Goal.to (B := T6.setTop (mkF m 27 #[.val (.ref vb), .val (.ref va), .unset] [(.ref vb)])) (fun tt kk => ?_) ?_
    · show Steps p.tables e below (T6.setTop (mkF m 26 #[.val (.ref vb), .val (.ref va), .unset] [])) tt
      refine XS.aloadN X6.here hx rfl (hb hby d11_26) rfl rfl ?_
      exact kk
    have f7 : Fld Z h6 vb "com/example/pattern_automaton/patternautomaton/CharBlock" "chars" "[C" (.ref vc) := (F_chars_vb.other W6 (Or.inr (slot_ne (Or.inr (hw _ (mw 63 rfl))) (Or.inl (hw _ (mw 143 rfl))) (by decide) (t := (.array .char)) (t' := .long) (by decide) (by decide))))
    obtain ⟨T8, X8, e8, st8⟩ := getF X6 hx hZ hown (host := "") (Or.inl (hw _ (mw 62 rfl))) Via.refl e6 f7 (g := (mkF m 27 #[.val (.ref vb), .val (.ref va), .unset] [(.ref vb)])) rfl rfl (hb hby d11_27)
    refine Goal.to (B := T8.setTop (mkF m 30 #[.val (.ref vb), .val (.ref va), .unset] [(.ref vc)])) st8 ?_
    refine Goal.to (B := T8.setTop (mkF m 31 #[.val (.ref vb), .val (.ref va), .unset] [(.ref vb), (.ref vc)])) (fun tt kk => ?_) ?_
    · show Steps p.tables e below (T8.setTop (mkF m 30 #[.val (.ref vb), .val (.ref va), .unset] [(.ref vc)])) tt
      refine XS.aloadN X8.here hx rfl (hb hby d11_30) rfl rfl ?_
      exact kk
    have f9 : Fld Z h6 vb "com/example/pattern_automaton/patternautomaton/CharBlock" "from" "I" (.int fr) := (F_from_vb.other W6 (Or.inr (slot_ne (Or.inl (hw _ (mw 136 rfl))) (Or.inl (hw _ (mw 143 rfl))) (by decide) (t := .int) (t' := .long) (by decide) (by decide))))
    obtain ⟨T10, X10, e10, st10⟩ := getF X8 hx hZ hown (host := "") (Or.inl (hw _ (mw 135 rfl))) Via.refl e8 f9 (g := (mkF m 31 #[.val (.ref vb), .val (.ref va), .unset] [(.ref vb), (.ref vc)])) rfl rfl (hb hby d11_31)
    refine Goal.to (B := T10.setTop (mkF m 34 #[.val (.ref vb), .val (.ref va), .unset] [(.int fr), (.ref vc)])) st10 ?_
    refine Goal.to (B := T10.setTop (mkF m 35 #[.val (.ref vb), .val (.ref va), .unset] [(.ref vb), (.int fr), (.ref vc)])) (fun tt kk => ?_) ?_
    · show Steps p.tables e below (T10.setTop (mkF m 34 #[.val (.ref vb), .val (.ref va), .unset] [(.int fr), (.ref vc)])) tt
      refine XS.aloadN X10.here hx rfl (hb hby d11_34) rfl rfl ?_
      exact kk
    obtain ⟨T11, X11, e11, st11⟩ := getF X10 hx hZ hown (host := "") (Or.inl (hw _ (mw 62 rfl))) Via.refl e10 f7 (g := (mkF m 35 #[.val (.ref vb), .val (.ref va), .unset] [(.ref vb), (.int fr), (.ref vc)])) rfl rfl (hb hby d11_35)
    refine Goal.to (B := T11.setTop (mkF m 38 #[.val (.ref vb), .val (.ref va), .unset] [(.ref vc), (.int fr), (.ref vc)])) st11 ?_
    refine Goal.to (B := T11.setTop (mkF m 40 #[.val (.ref vb), .val (.ref va), .unset] [(.ref vb), (.int (0 : Int32)), (.ref vc), (.int fr), (.ref vc)])) (fun tt kk => ?_) ?_
    · show Steps p.tables e below (T11.setTop (mkF m 38 #[.val (.ref vb), .val (.ref va), .unset] [(.ref vc), (.int fr), (.ref vc)])) tt
      refine XS.iconst X11.here hx rfl (hb hby d11_38) ?_
      show Steps p.tables e below (T11.setTop (mkF m 39 #[.val (.ref vb), .val (.ref va), .unset] [(.int (0 : Int32)), (.ref vc), (.int fr), (.ref vc)])) tt
      refine XS.aloadN X11.here hx rfl (hb hby d11_39) rfl rfl ?_
      exact kk
    have f12 : Fld Z h6 vb "com/example/pattern_automaton/patternautomaton/CharBlock" "filled" "I" (.int fl) := (F_filled_vb.other W6 (Or.inr (slot_ne (Or.inl (hw _ (mw 70 rfl))) (Or.inl (hw _ (mw 143 rfl))) (by decide) (t := .int) (t' := .long) (by decide) (by decide))))
    obtain ⟨T13, X13, e13, st13⟩ := getF X11 hx hZ hown (host := "") (Or.inl (hw _ (mw 69 rfl))) Via.refl e11 f12 (g := (mkF m 40 #[.val (.ref vb), .val (.ref va), .unset] [(.ref vb), (.int (0 : Int32)), (.ref vc), (.int fr), (.ref vc)])) rfl rfl (hb hby d11_40)
    refine Goal.to (B := T13.setTop (mkF m 43 #[.val (.ref vb), .val (.ref va), .unset] [(.int fl), (.int (0 : Int32)), (.ref vc), (.int fr), (.ref vc)])) st13 ?_
    refine Goal.to (B := T13.setTop (mkF m 44 #[.val (.ref vb), .val (.ref va), .unset] [(.ref vb), (.int fl), (.int (0 : Int32)), (.ref vc), (.int fr), (.ref vc)])) (fun tt kk => ?_) ?_
    · show Steps p.tables e below (T13.setTop (mkF m 43 #[.val (.ref vb), .val (.ref va), .unset] [(.int fl), (.int (0 : Int32)), (.ref vc), (.int fr), (.ref vc)])) tt
      refine XS.aloadN X13.here hx rfl (hb hby d11_43) rfl rfl ?_
      exact kk
    obtain ⟨T14, X14, e14, st14⟩ := getF X13 hx hZ hown (host := "") (Or.inl (hw _ (mw 135 rfl))) Via.refl e13 f9 (g := (mkF m 44 #[.val (.ref vb), .val (.ref va), .unset] [(.ref vb), (.int fl), (.int (0 : Int32)), (.ref vc), (.int fr), (.ref vc)])) rfl rfl (hb hby d11_44)
    refine Goal.to (B := T14.setTop (mkF m 47 #[.val (.ref vb), .val (.ref va), .unset] [(.int fr), (.int fl), (.int (0 : Int32)), (.ref vc), (.int fr), (.ref vc)])) st14 ?_
    refine Goal.to (B := T14.setTop (mkF m 48 #[.val (.ref vb), .val (.ref va), .unset] [(.int (fl - fr)), (.int (0 : Int32)), (.ref vc), (.int fr), (.ref vc)])) (fun tt kk => ?_) ?_
    · show Steps p.tables e below (T14.setTop (mkF m 47 #[.val (.ref vb), .val (.ref va), .unset] [(.int fr), (.int fl), (.int (0 : Int32)), (.ref vc), (.int fr), (.ref vc)])) tt
      refine XS.isub X14.here hx rfl (hb hby d11_47) rfl ?_
      exact kk
    have f16 : Ary Z h6 vc .char xs := (V_vc.other W6 (Ne.symm ne_vb_vc))
    have hnn : (fl - fr).toInt = fl.toInt - fr.toInt := Jvm.Kit.i32_sub (by omega) (by omega)
    obtain ⟨K15, T15, h15, L15, X15, e15, N15, Kk15, ys15, Vc15, hy15, hc15, st15⟩ := own_copy X14 hx hZ hown (hw _ (mw 157 rfl)) (hw _ (mw 160 rfl)) (hw _ (mw 158 rfl)) (hw _ (mw 159 rfl)) e14 f16 p7 p8 (sp := fr) (nn := (fl - fr)) p4 (by omega) (by omega) N6 g_vc (g := (mkF m 48 #[.val (.ref vb), .val (.ref va), .unset] [(.int (fl - fr)), (.int (0 : Int32)), (.ref vc), (.int fr), (.ref vc)])) rfl (by rw [hml]; rfl) rfl (hb hby d11_48) (by decide) (W := 0) (by show 2 * 0 + _ ≤ _; exact Nat.le_of_eq rfl) (by decide)
    refine Goal.to (B := T15.setTop (mkF m 51 #[.val (.ref vb), .val (.ref va), .unset] [])) st15 ?_
    refine Goal.to (B := T15.setTop (mkF m 53 #[.val (.ref vb), .val (.ref va), .unset] [(.ref vb), (.ref vb)])) (fun tt kk => ?_) ?_
    · show Steps p.tables e below (T15.setTop (mkF m 51 #[.val (.ref vb), .val (.ref va), .unset] [])) tt
      refine XS.aloadN X15.here hx rfl (hb hby d11_51) rfl rfl ?_
      show Steps p.tables e below (T15.setTop (mkF m 52 #[.val (.ref vb), .val (.ref va), .unset] [(.ref vb)])) tt
      refine XS.dup X15.here hx rfl (hb hby d11_52) rfl rfl ?_
      exact kk
    have f17 : Fld Z h15 vb "com/example/pattern_automaton/patternautomaton/CharBlock" "filled" "I" (.int fl) := (f12.keep Kk15 (ninS ne_vb_vc nin0))
    obtain ⟨T18, X18, e18, st18⟩ := getF X15 hx hZ hown (host := "") (Or.inl (hw _ (mw 69 rfl))) Via.refl e15 f17 (g := (mkF m 53 #[.val (.ref vb), .val (.ref va), .unset] [(.ref vb), (.ref vb)])) rfl rfl (hb hby d11_53)
    refine Goal.to (B := T18.setTop (mkF m 56 #[.val (.ref vb), .val (.ref va), .unset] [(.int fl), (.ref vb)])) st18 ?_
    refine Goal.to (B := T18.setTop (mkF m 57 #[.val (.ref vb), .val (.ref va), .unset] [(.ref vb), (.int fl), (.ref vb)])) (fun tt kk => ?_) ?_
    · show Steps p.tables e below (T18.setTop (mkF m 56 #[.val (.ref vb), .val (.ref va), .unset] [(.int fl), (.ref vb)])) tt
      refine XS.aloadN X18.here hx rfl (hb hby d11_56) rfl rfl ?_
      exact kk
    have f19 : Fld Z h15 vb "com/example/pattern_automaton/patternautomaton/CharBlock" "from" "I" (.int fr) := (f9.keep Kk15 (ninS ne_vb_vc nin0))
    obtain ⟨T20, X20, e20, st20⟩ := getF X18 hx hZ hown (host := "") (Or.inl (hw _ (mw 135 rfl))) Via.refl e18 f19 (g := (mkF m 57 #[.val (.ref vb), .val (.ref va), .unset] [(.ref vb), (.int fl), (.ref vb)])) rfl rfl (hb hby d11_57)
    refine Goal.to (B := T20.setTop (mkF m 60 #[.val (.ref vb), .val (.ref va), .unset] [(.int fr), (.int fl), (.ref vb)])) st20 ?_
    refine Goal.to (B := T20.setTop (mkF m 61 #[.val (.ref vb), .val (.ref va), .unset] [(.int (fl - fr)), (.ref vb)])) (fun tt kk => ?_) ?_
    · show Steps p.tables e below (T20.setTop (mkF m 60 #[.val (.ref vb), .val (.ref va), .unset] [(.int fr), (.int fl), (.ref vb)])) tt
      refine XS.isub X20.here hx rfl (hb hby d11_60) rfl ?_
      exact kk
    have f21 : Exa Z h15 vb "com/example/pattern_automaton/patternautomaton/CharBlock" := ((E_vb.wr W6).keep Kk15)
    obtain ⟨T22, h22, X22, e22, W22, st22⟩ := putF X20 hx hZ hown (host := "") (Or.inl (hw _ (mw 69 rfl))) Via.refl e20 f17 f21 (Or.inl (hw _ (mw 70 rfl))) (hw _ (mw 56 rfl)) (ty := .int) (by decide) rfl rfl (g := (mkF m 61 #[.val (.ref vb), .val (.ref va), .unset] [(.int (fl - fr)), (.ref vb)])) rfl rfl (hb hby d11_61)
    have Fw22 : Fld Z h22 vb "com/example/pattern_automaton/patternautomaton/CharBlock" "filled" "I" (.int (fl - fr)) := f17.same W22
    have N22 := Fr.snoc X22 N15 g_vb
    refine Goal.to (B := T22.setTop (mkF m 64 #[.val (.ref vb), .val (.ref va), .unset] [])) st22 ?_
    refine Goal.to (B := T22.setTop (mkF m 66 #[.val (.ref vb), .val (.ref va), .unset] [(.int (0 : Int32)), (.ref vb)])) (fun tt kk => ?_) ?_
    · show Steps p.tables e below (T22.setTop (mkF m 64 #[.val (.ref vb), .val (.ref va), .unset] [])) tt
      refine XS.aloadN X22.here hx rfl (hb hby d11_64) rfl rfl ?_
      show Steps p.tables e below (T22.setTop (mkF m 65 #[.val (.ref vb), .val (.ref va), .unset] [(.ref vb)])) tt
      refine XS.iconst X22.here hx rfl (hb hby d11_65) ?_
      exact kk
    have f23 : Fld Z h22 vb "com/example/pattern_automaton/patternautomaton/CharBlock" "from" "I" (.int fr) := (f19.other W22 (Or.inr (slot_ne (Or.inl (hw _ (mw 136 rfl))) (Or.inl (hw _ (mw 70 rfl))) (by decide) (t := .int) (t' := .int) (by decide) (by decide))))
    have f24 : Exa Z h22 vb "com/example/pattern_automaton/patternautomaton/CharBlock" := (f21.wr W22)
    obtain ⟨T25, h25, X25, e25, W25, st25⟩ := putF X22 hx hZ hown (host := "") (Or.inl (hw _ (mw 135 rfl))) Via.refl e22 f23 f24 (Or.inl (hw _ (mw 136 rfl))) (hw _ (mw 56 rfl)) (ty := .int) (by decide) rfl rfl (g := (mkF m 66 #[.val (.ref vb), .val (.ref va), .unset] [(.int (0 : Int32)), (.ref vb)])) rfl rfl (hb hby d11_66)
    have Fw25 : Fld Z h25 vb "com/example/pattern_automaton/patternautomaton/CharBlock" "from" "I" (.int (0 : Int32)) := f23.same W25
    have N25 := Fr.snoc X25 N22 g_vb
    refine Goal.to (B := T25.setTop (mkF m 69 #[.val (.ref vb), .val (.ref va), .unset] [])) st25 ?_
    have hq1 : (fl - fr).toInt = fl.toInt - fr.toInt := Jvm.Kit.i32_sub (by omega) (by omega)
    have hq2 : (sj + fr.toInt64).toInt = sj.toInt + fr.toInt := by rw [Jvm.Kit.i64_add (by rw [Jvm.Kit.i64_of_i32]; omega) (by rw [Jvm.Kit.i64_of_i32]; omega), Jvm.Kit.i64_of_i32]
    have hN2 := own_len (n := ys15.length) (by omega)
    refine Goal.to (B := T25.setTop (mkF m 71 #[.val (.ref vb), .val (.ref va), .unset] [(.ref vb), (.ref va)])) (fun tt kk => ?_) ?_
    · show Steps p.tables e below (T25.setTop (mkF m 69 #[.val (.ref vb), .val (.ref va), .unset] [])) tt
      refine XS.aloadN X25.here hx rfl (hb hby d11_69) rfl rfl ?_
      show Steps p.tables e below (T25.setTop (mkF m 70 #[.val (.ref vb), .val (.ref va), .unset] [(.ref va)])) tt
      refine XS.aloadN X25.here hx rfl (hb hby d11_70) rfl rfl ?_
      exact kk
    have f26 : Fld Z h25 vb "com/example/pattern_automaton/patternautomaton/CharBlock" "chars" "[C" (.ref vc) := (((f7.keep Kk15 (ninS ne_vb_vc nin0)).other W22 (Or.inr (slot_ne (Or.inr (hw _ (mw 63 rfl))) (Or.inl (hw _ (mw 70 rfl))) (by decide) (t := (.array .char)) (t' := .int) (by decide) (by decide)))).other W25 (Or.inr (slot_ne (Or.inr (hw _ (mw 63 rfl))) (Or.inl (hw _ (mw 136 rfl))) (by decide) (t := (.array .char)) (t' := .int) (by decide) (by decide))))
    obtain ⟨T27, X27, e27, st27⟩ := getF X25 hx hZ hown (host := "") (Or.inl (hw _ (mw 62 rfl))) Via.refl e25 f26 (g := (mkF m 71 #[.val (.ref vb), .val (.ref va), .unset] [(.ref vb), (.ref va)])) rfl rfl (hb hby d11_71)
    refine Goal.to (B := T27.setTop (mkF m 74 #[.val (.ref vb), .val (.ref va), .unset] [(.ref vc), (.ref va)])) st27 ?_
    refine Goal.to (B := T27.setTop (mkF m 75 #[.val (.ref vb), .val (.ref va), .unset] [(.ref vb), (.ref vc), (.ref va)])) (fun tt kk => ?_) ?_
    · show Steps p.tables e below (T27.setTop (mkF m 74 #[.val (.ref vb), .val (.ref va), .unset] [(.ref vc), (.ref va)])) tt
      refine XS.aloadN X27.here hx rfl (hb hby d11_74) rfl rfl ?_
      exact kk
    have f28 : Fld Z h25 vb "com/example/pattern_automaton/patternautomaton/CharBlock" "filled" "I" (.int (fl - fr)) := (Fw22.other W25 (Or.inr (slot_ne (Or.inl (hw _ (mw 70 rfl))) (Or.inl (hw _ (mw 136 rfl))) (by decide) (t := .int) (t' := .int) (by decide) (by decide))))
    obtain ⟨T29, X29, e29, st29⟩ := getF X27 hx hZ hown (host := "") (Or.inl (hw _ (mw 69 rfl))) Via.refl e27 f28 (g := (mkF m 75 #[.val (.ref vb), .val (.ref va), .unset] [(.ref vb), (.ref vc), (.ref va)])) rfl rfl (hb hby d11_75)
    refine Goal.to (B := T29.setTop (mkF m 78 #[.val (.ref vb), .val (.ref va), .unset] [(.int (fl - fr)), (.ref vc), (.ref va)])) st29 ?_
    refine Goal.to (B := T29.setTop (mkF m 79 #[.val (.ref vb), .val (.ref va), .unset] [(.ref vb), (.int (fl - fr)), (.ref vc), (.ref va)])) (fun tt kk => ?_) ?_
    · show Steps p.tables e below (T29.setTop (mkF m 78 #[.val (.ref vb), .val (.ref va), .unset] [(.int (fl - fr)), (.ref vc), (.ref va)])) tt
      refine XS.aloadN X29.here hx rfl (hb hby d11_78) rfl rfl ?_
      exact kk
    obtain ⟨T30, X30, e30, st30⟩ := getF X29 hx hZ hown (host := "") (Or.inl (hw _ (mw 62 rfl))) Via.refl e29 f26 (g := (mkF m 79 #[.val (.ref vb), .val (.ref va), .unset] [(.ref vb), (.int (fl - fr)), (.ref vc), (.ref va)])) rfl rfl (hb hby d11_79)
    refine Goal.to (B := T30.setTop (mkF m 82 #[.val (.ref vb), .val (.ref va), .unset] [(.ref vc), (.int (fl - fr)), (.ref vc), (.ref va)])) st30 ?_
    have f31 : Ary Z h25 vc .char ys15 := ((Vc15.other W22 (Ne.symm ne_vb_vc)).other W25 (Ne.symm ne_vb_vc))
    obtain ⟨cl32, Ar32, Sl32⟩ := id f31
    have ln32 : cl32.slots.size.toInt32 = ys15.length.toInt32 := lenA Sl32 rfl
    refine Goal.to (B := T30.setTop (mkF m 84 #[.val (.ref vb), .val (.ref va), .unset] [(.ref vb), (.int ys15.length.toInt32), (.int (fl - fr)), (.ref vc), (.ref va)])) (fun tt kk => ?_) ?_
    · show Steps p.tables e below (T30.setTop (mkF m 82 #[.val (.ref vb), .val (.ref va), .unset] [(.ref vc), (.int (fl - fr)), (.ref vc), (.ref va)])) tt
      refine X30.arraylength hx (by rw [e30]; exact Ar32.1) (State.isArrayOf_alike hZ.alike Ar32.2.1) (g := (mkF m 82 #[.val (.ref vb), .val (.ref va), .unset] [(.ref vc), (.int (fl - fr)), (.ref vc), (.ref va)])) rfl rfl (hb hby d11_82) _ ?_
      rw [ln32]
      show Steps p.tables e below (T30.setTop (mkF m 83 #[.val (.ref vb), .val (.ref va), .unset] [(.int ys15.length.toInt32), (.int (fl - fr)), (.ref vc), (.ref va)])) tt
      refine XS.aloadN X30.here hx rfl (hb hby d11_83) rfl rfl ?_
      exact kk
    obtain ⟨T33, X33, e33, st33⟩ := getF X30 hx hZ hown (host := "") (Or.inl (hw _ (mw 69 rfl))) Via.refl e30 f28 (g := (mkF m 84 #[.val (.ref vb), .val (.ref va), .unset] [(.ref vb), (.int ys15.length.toInt32), (.int (fl - fr)), (.ref vc), (.ref va)])) rfl rfl (hb hby d11_84)
    refine Goal.to (B := T33.setTop (mkF m 87 #[.val (.ref vb), .val (.ref va), .unset] [(.int (fl - fr)), (.int ys15.length.toInt32), (.int (fl - fr)), (.ref vc), (.ref va)])) st33 ?_
    have hrm : (ys15.length.toInt32 - (fl - fr)).toInt = (ys15.length : Int) - (fl - fr).toInt := by rw [Jvm.Kit.i32_sub (by omega) (by omega), hN2]
    refine Goal.to (B := T33.setTop (mkF m 88 #[.val (.ref vb), .val (.ref va), .unset] [(.int (ys15.length.toInt32 - (fl - fr))), (.int (fl - fr)), (.ref vc), (.ref va)])) (fun tt kk => ?_) ?_
    · show Steps p.tables e below (T33.setTop (mkF m 87 #[.val (.ref vb), .val (.ref va), .unset] [(.int (fl - fr)), (.int ys15.length.toInt32), (.int (fl - fr)), (.ref vc), (.ref va)])) tt
      refine XS.isub X33.here hx rfl (hb hby d11_87) rfl ?_
      exact kk
    have f34 : Exa Z h25 va "com/example/pattern_automaton/patternautomaton/CharBlock$TextSource" := ((((E_va.wr W6).keep Kk15).wr W22).wr W25)
    have f35 : Fld Z h25 va "com/example/pattern_automaton/patternautomaton/CharBlock$TextSource" "text" "Ljava/lang/CharSequence;" (.ref vt) := ((((F_text_va.other W6 (Or.inl (Ne.symm ne_vb_va))).keep Kk15 (ninS ne_va_vc nin0)).other W22 (Or.inl (Ne.symm ne_vb_va))).other W25 (Or.inl (Ne.symm ne_vb_va)))
    have f36 : Fld Z h25 va "com/example/pattern_automaton/patternautomaton/CharBlock$TextSource" "length" "I" (.int (5 : Int32)) := ((((F_length_va.other W6 (Or.inl (Ne.symm ne_vb_va))).keep Kk15 (ninS ne_va_vc nin0)).other W22 (Or.inl (Ne.symm ne_vb_va))).other W25 (Or.inl (Ne.symm ne_vb_va)))
    have f37 : Fld Z h25 va "com/example/pattern_automaton/patternautomaton/CharBlock$TextSource" "next" "I" (.int un) := ((((F_next_va.other W6 (Or.inl (Ne.symm ne_vb_va))).keep Kk15 (ninS ne_va_vc nin0)).other W22 (Or.inl (Ne.symm ne_vb_va))).other W25 (Or.inl (Ne.symm ne_vb_va)))
    have f38 : Exa Z h25 vt "java/lang/String" := ((((E_vt.wr W6).keep Kk15).wr W22).wr W25)
    have f39 : Fld Z h25 vt "java/lang/String" "value" "[B" (.ref tb) := ((((F_value_vt.other W6 (Or.inl (Ne.symm ne_vb_vt))).keep Kk15 (ninS ne_vt_vc nin0)).other W22 (Or.inl (Ne.symm ne_vb_vt))).other W25 (Or.inl (Ne.symm ne_vb_vt)))
    have f40 : Fld Z h25 vt "java/lang/String" "coder" "B" (.int (0 : Int32)) := ((((F_coder_vt.other W6 (Or.inl (Ne.symm ne_vb_vt))).keep Kk15 (ninS ne_vt_vc nin0)).other W22 (Or.inl (Ne.symm ne_vb_vt))).other W25 (Or.inl (Ne.symm ne_vb_vt)))
    have f41 : Ary Z h25 tb .byte [(.int y0), (.int y1), (.int y2), (.int y3), (.int y4)] := ((((V_tb.other W6 (Ne.symm ne_vb_tb)).keep Kk15 (ninS ne_tb_vc nin0)).other W22 (Ne.symm ne_vb_tb)).other W25 (Ne.symm ne_vb_tb))
    have f42 : StaN Z n0 h25 "java/lang/String" "COMPACT_STRINGS" "Z" (.int zc) := ((((S_COMPACT_STRINGS.wr W6).keep Kk15 (allS g_vc all0)).wr W22).wr W25)
    have f43 : StaN Z n0 h25 "jdk/internal/util/Preconditions" "SIOOBE_FORMATTER" "Ljava/util/function/BiFunction;" fm := ((((S_SIOOBE_FORMATTER.wr W6).keep Kk15 (allS g_vc all0)).wr W22).wr W25)
    have f44 : n0 ≤ h25.size := (Nat.le_trans (Nat.le_trans (Nat.le_trans (Nat.le_trans Z0 (Keep.of_wr W6).1) Kk15.1) (Keep.of_wr W22).1) (Keep.of_wr W25).1)
    obtain ⟨cq45, kq45, q45a, q45b, q45c⟩ := isOf hZ e33 f34
    obtain ⟨_, _, ⟨T45, L45, k45, n45⟩, -, X45, ⟨Lc45, hQ45, l45, y45, z45⟩, st45⟩ := X33.interfaceBack hx (xi := (⟨"com/example/pattern_automaton/patternautomaton/CharBlock$Source", "read", "([CII)I"⟩ : MethodName)) (y := (⟨"com/example/pattern_automaton/patternautomaton/CharBlock$TextSource", "read", "([CII)I"⟩ : MethodName)) hown (mvT hZ (hw _ (mw 71 rfl))) (mvT hZ (hw _ (mw 72 rfl))) (mvT hZ (hw _ (mw 73 rfl))) (mvT hZ (hw _ (mw 74 rfl))) (mvT hZ (hw _ (mw 75 rfl))) (mvT hZ (hw _ (mw 76 rfl))) (mvT hZ (hw _ (mw 77 rfl))) (mvT hZ (hw _ (mw 78 rfl))) (by decide) (backOf (W := 0) (rmrd l Z a0 hw [] vt tb vc zc fm y0 y1 y2 y3 y4 ys15 va un (fl - fr) (ys15.length.toInt32 - (fl - fr)) h25 n0 f44 f34 f35 f36 f37 f38 f39 f40 f41 f42 f43 f31 g_vc g_va ne_tb_vc ne_vt_vc ne_va_vc ne_va_tb ne_va_vt hCS pfm p0 p1 (by omega) (by rw [hrm]; omega) (by rw [hrm]; omega) (by omega) hc15) hZ (hw _ (mw 79 rfl)) (hw _ (mw 32 rfl)) (by decide) (by decide)) q45a q45b q45c (g := (mkF m 88 #[.val (.ref vb), .val (.ref va), .unset] [(.int (ys15.length.toInt32 - (fl - fr))), (.int (fl - fr)), (.ref vc), (.ref va)])) rfl (by rw [hml]; rfl) (Steps.refl _) (argsL := [(.ref vc), (.int (fl - fr)), (.int (ys15.length.toInt32 - (fl - fr)))]) (rest := []) (lenOf pd_11 rfl) rfl (by show 2 * 0 + _ ≤ _; exact Nat.le_of_eq rfl) (hb hby d11_88) (fun _ _ => ⟨rfl, e33, (by decide : 0 + 0 ≤ _), (by decide : 0 + 0 ≤ _)⟩)
    dsimp only [Pt.U, Pt.locs, Pt.cells, Pt.slots] at X45 l45 y45 z45 st45 hQ45
    subst y45 z45
    obtain ⟨ys_45, nn_45, rr_45, rfl, N45q, K45, P45_0, P45_1, P45_2, P45_3, hys_45, hcy_45, hn0_45, hn5_45, hr0_45, hr1_45⟩ := hQ45
    have N45 := Fr.eqv l45 (Fr.app N25 N45q)
    refine Goal.tr (B := T45.setTop (mkF m 93 #[.val (.ref vb), .val (.ref va), .unset] [(.int rr_45)])) st45 ?_
    refine Goal.to (B := T45.setTop (mkF m 95 #[.val (.ref vb), .val (.ref va), .val (.int rr_45)] [(.int rr_45)])) (fun tt kk => ?_) ?_
    · show Steps p.tables e below (T45.setTop (mkF m 93 #[.val (.ref vb), .val (.ref va), .unset] [(.int rr_45)])) tt
      refine XS.istoreN X45.here hx rfl (hb hby d11_93) rfl (l' := #[.val (.ref vb), .val (.ref va), .val (.int rr_45)]) rfl ?_
      show Steps p.tables e below (T45.setTop (mkF m 94 #[.val (.ref vb), .val (.ref va), .val (.int rr_45)] [])) tt
      refine XS.iloadN X45.here hx rfl (hb hby d11_94) rfl ?_
      exact kk
    by_cases hrr : (0 : Int32) < rr_45
    · have hrr' : 0 < rr_45.toInt := own_lit hrr rfl
      refine Goal.to (B := T45.setTop (mkF m 100 #[.val (.ref vb), .val (.ref va), .val (.int rr_45)] [(.ref vb), (.ref vb)])) (fun tt kk => ?_) ?_
      · show Steps p.tables e below (T45.setTop (mkF m 95 #[.val (.ref vb), .val (.ref va), .val (.int rr_45)] [(.int rr_45)])) tt
        refine XS.ifNo X45.here hx rfl (hb hby d11_95) rfl ((if0 _ _).trans (tlt hrr).2.2.2) ?_
        show Steps p.tables e below (T45.setTop (mkF m 98 #[.val (.ref vb), .val (.ref va), .val (.int rr_45)] [])) tt
        refine XS.aloadN X45.here hx rfl (hb hby d11_98) rfl rfl ?_
        show Steps p.tables e below (T45.setTop (mkF m 99 #[.val (.ref vb), .val (.ref va), .val (.int rr_45)] [(.ref vb)])) tt
        refine XS.dup X45.here hx rfl (hb hby d11_99) rfl rfl ?_
        exact kk
      have f46 : Fld Z T45.heap vb "com/example/pattern_automaton/patternautomaton/CharBlock" "filled" "I" (.int (fl - fr)) := (f28.keep K45 (ninS ne_vb_vc (ninS ne_vb_va nin0)))
      obtain ⟨T47, X47, e47, st47⟩ := getF X45 hx hZ hown (host := "") (Or.inl (hw _ (mw 69 rfl))) Via.refl rfl f46 (g := (mkF m 100 #[.val (.ref vb), .val (.ref va), .val (.int rr_45)] [(.ref vb), (.ref vb)])) rfl rfl (hb hby d11_100)
      refine Goal.to (B := T47.setTop (mkF m 103 #[.val (.ref vb), .val (.ref va), .val (.int rr_45)] [(.int (fl - fr)), (.ref vb)])) st47 ?_
      refine Goal.to (B := T47.setTop (mkF m 105 #[.val (.ref vb), .val (.ref va), .val (.int rr_45)] [(.int ((fl - fr) + rr_45)), (.ref vb)])) (fun tt kk => ?_) ?_
      · show Steps p.tables e below (T47.setTop (mkF m 103 #[.val (.ref vb), .val (.ref va), .val (.int rr_45)] [(.int (fl - fr)), (.ref vb)])) tt
        refine XS.iloadN X47.here hx rfl (hb hby d11_103) rfl ?_
        show Steps p.tables e below (T47.setTop (mkF m 104 #[.val (.ref vb), .val (.ref va), .val (.int rr_45)] [(.int rr_45), (.int (fl - fr)), (.ref vb)])) tt
        refine XS.iadd X47.here hx rfl (hb hby d11_104) rfl ?_
        exact kk
      have f48 : Exa Z T45.heap vb "com/example/pattern_automaton/patternautomaton/CharBlock" := ((f24.wr W25).keep K45)
      obtain ⟨T49, h49, X49, e49, W49, st49⟩ := putF X47 hx hZ hown (host := "") (Or.inl (hw _ (mw 69 rfl))) Via.refl e47 f46 f48 (Or.inl (hw _ (mw 70 rfl))) (hw _ (mw 56 rfl)) (ty := .int) (by decide) rfl rfl (g := (mkF m 105 #[.val (.ref vb), .val (.ref va), .val (.int rr_45)] [(.int ((fl - fr) + rr_45)), (.ref vb)])) rfl rfl (hb hby d11_105)
      have Fw49 : Fld Z h49 vb "com/example/pattern_automaton/patternautomaton/CharBlock" "filled" "I" (.int ((fl - fr) + rr_45)) := f46.same W49
      have N49 := Fr.snoc X49 N45 g_vb
      refine Goal.to (B := T49.setTop (mkF m 108 #[.val (.ref vb), .val (.ref va), .val (.int rr_45)] [])) st49 ?_
      have hpos : ((fl - fr) + rr_45).toInt = ((fl - fr)).toInt + rr_45.toInt := by have e9 := hys_45; exact Jvm.Kit.i32_add (by omega) (by omega)
      refine Goal.to (B := T49.setTop (mkF m 109 #[.val (.ref vb), .val (.ref va), .val (.int rr_45)] [(.int rr_45)])) (fun tt kk => ?_) ?_
      · show Steps p.tables e below (T49.setTop (mkF m 108 #[.val (.ref vb), .val (.ref va), .val (.int rr_45)] [])) tt
        refine XS.iloadN X49.here hx rfl (hb hby d11_108) rfl ?_
        exact kk
      have f50 : Keep h0 h49 [vc, va, vb] := (((((((Keep.refl h0 [vc, va, vb]).wr W6 (Or.inl (List.mem_of_getElem? (i := 2) rfl))).trans Kk15 (allS (Or.inl (List.mem_of_getElem? (i := 0) rfl)) all0)).wr W22 (Or.inl (List.mem_of_getElem? (i := 2) rfl))).wr W25 (Or.inl (List.mem_of_getElem? (i := 2) rfl))).trans K45 (allS (Or.inl (List.mem_of_getElem? (i := 0) rfl)) (allS (Or.inl (List.mem_of_getElem? (i := 1) rfl)) all0))).wr W49 (Or.inl (List.mem_of_getElem? (i := 2) rfl)))
      have f51 : Fld Z h49 va "com/example/pattern_automaton/patternautomaton/CharBlock$TextSource" "text" "Ljava/lang/CharSequence;" (.ref vt) := (P45_0.other W49 (Or.inl (Ne.symm ne_vb_va)))
      have f52 : Fld Z h49 va "com/example/pattern_automaton/patternautomaton/CharBlock$TextSource" "length" "I" (.int (5 : Int32)) := (P45_1.other W49 (Or.inl (Ne.symm ne_vb_va)))
      have f53 : Fld Z h49 va "com/example/pattern_automaton/patternautomaton/CharBlock$TextSource" "next" "I" (.int nn_45) := (P45_2.other W49 (Or.inl (Ne.symm ne_vb_va)))
      have f54 : Fld Z h49 vb "com/example/pattern_automaton/patternautomaton/CharBlock" "chars" "[C" (.ref vc) := ((f26.keep K45 (ninS ne_vb_vc (ninS ne_vb_va nin0))).other W49 (Or.inr (slot_ne (Or.inr (hw _ (mw 63 rfl))) (Or.inl (hw _ (mw 70 rfl))) (by decide) (t := (.array .char)) (t' := .int) (by decide) (by decide))))
      have f55 : Fld Z h49 vb "com/example/pattern_automaton/patternautomaton/CharBlock" "from" "I" (.int (0 : Int32)) := ((Fw25.keep K45 (ninS ne_vb_vc (ninS ne_vb_va nin0))).other W49 (Or.inr (slot_ne (Or.inl (hw _ (mw 136 rfl))) (Or.inl (hw _ (mw 70 rfl))) (by decide) (t := .int) (t' := .int) (by decide) (by decide))))
      have f56 : Fld Z h49 vb "com/example/pattern_automaton/patternautomaton/CharBlock" "start" "J" (.long (sj + (fr.toInt64))) := (((((Fw6.keep Kk15 (ninS ne_vb_vc nin0)).other W22 (Or.inr (slot_ne (Or.inl (hw _ (mw 143 rfl))) (Or.inl (hw _ (mw 70 rfl))) (by decide) (t := .long) (t' := .int) (by decide) (by decide)))).other W25 (Or.inr (slot_ne (Or.inl (hw _ (mw 143 rfl))) (Or.inl (hw _ (mw 136 rfl))) (by decide) (t := .long) (t' := .int) (by decide) (by decide)))).keep K45 (ninS ne_vb_vc (ninS ne_vb_va nin0))).other W49 (Or.inr (slot_ne (Or.inl (hw _ (mw 143 rfl))) (Or.inl (hw _ (mw 70 rfl))) (by decide) (t := .long) (t' := .int) (by decide) (by decide))))
      have f57 : Ary Z h49 vc .char ys_45 := (P45_3.other W49 (Ne.symm ne_vb_vc))
      exact Goal.retV X49 hx Bd.returns rfl (Or.inl ⟨rfl, Or.inl rfl, _, rfl⟩) (hb hby d11_109) hlk e49 ⟨ys_45, nn_45, ((fl - fr) + rr_45), (0 : Int32), (sj + (fr.toInt64)), rr_45, rfl, N49, f50, f51, f52, f53, f54, Fw49, f55, f56, f57, hn0_45, hn5_45, (by have e9 := hys_45; have e8 := hy15; first | omega | (rw [hpos]; omega) | (rw [hq2]; omega) | (show (0 : Int) ≤ 0; omega) | (show (0 : Int) ≤ _; rw [hpos]; omega) | (rw [hpos]; show (0 : Int) ≤ _; omega) | (show (0 : Int) ≤ (((fl - fr) + rr_45)).toInt; omega)), (by have e9 := hys_45; have e8 := hy15; first | omega | (rw [hpos]; omega) | (rw [hq2]; omega) | (show (0 : Int) ≤ 0; omega) | (show (0 : Int) ≤ _; rw [hpos]; omega) | (rw [hpos]; show (0 : Int) ≤ _; omega) | (show (0 : Int) ≤ (((fl - fr) + rr_45)).toInt; omega)), (by have e9 := hys_45; have e8 := hy15; first | omega | (rw [hpos]; omega) | (rw [hq2]; omega) | (show (0 : Int) ≤ 0; omega) | (show (0 : Int) ≤ _; rw [hpos]; omega) | (rw [hpos]; show (0 : Int) ≤ _; omega) | (show (0 : Int) ≤ (((fl - fr) + rr_45)).toInt; omega)), (by have e9 := hys_45; have e8 := hy15; first | omega | (rw [hpos]; omega) | (rw [hq2]; omega) | (show (0 : Int) ≤ 0; omega) | (show (0 : Int) ≤ _; rw [hpos]; omega) | (rw [hpos]; show (0 : Int) ≤ _; omega) | (show (0 : Int) ≤ (((fl - fr) + rr_45)).toInt; omega)), (by have e9 := hys_45; have e8 := hy15; first | omega | (rw [hpos]; omega) | (rw [hq2]; omega) | (show (0 : Int) ≤ 0; omega) | (show (0 : Int) ≤ _; rw [hpos]; omega) | (rw [hpos]; show (0 : Int) ≤ _; omega) | (show (0 : Int) ≤ (((fl - fr) + rr_45)).toInt; omega)), (by rw [hys_45]; omega), hcy_45, (by have e9 := hys_45; have e8 := hy15; first | omega | (rw [hpos]; omega) | (rw [hq2]; omega) | (show (0 : Int) ≤ 0; omega) | (show (0 : Int) ≤ _; rw [hpos]; omega) | (rw [hpos]; show (0 : Int) ≤ _; omega) | (show (0 : Int) ≤ (((fl - fr) + rr_45)).toInt; omega)), (hys_45.trans hy15)⟩ (by decide) (by decide)
    · refine Goal.to (B := T45.setTop (mkF m 109 #[.val (.ref vb), .val (.ref va), .val (.int rr_45)] [(.int rr_45)])) (fun tt kk => ?_) ?_
      · show Steps p.tables e below (T45.setTop (mkF m 95 #[.val (.ref vb), .val (.ref va), .val (.int rr_45)] [(.int rr_45)])) tt
        refine XS.ifYes X45.here hx rfl (pc0 := 95) (pc' := 108) rfl (hb hby d11_95) rfl ((if0 _ _).trans (flt hrr).2.2.2) (by decide) (by decide) ?_
        show Steps p.tables e below (T45.setTop (mkF m 108 #[.val (.ref vb), .val (.ref va), .val (.int rr_45)] [])) tt
        refine XS.iloadN X45.here hx rfl (hb hby d11_108) rfl ?_
        exact kk
      have f58 : Keep h0 T45.heap [vc, va, vb] := ((((((Keep.refl h0 [vc, va, vb]).wr W6 (Or.inl (List.mem_of_getElem? (i := 2) rfl))).trans Kk15 (allS (Or.inl (List.mem_of_getElem? (i := 0) rfl)) all0)).wr W22 (Or.inl (List.mem_of_getElem? (i := 2) rfl))).wr W25 (Or.inl (List.mem_of_getElem? (i := 2) rfl))).trans K45 (allS (Or.inl (List.mem_of_getElem? (i := 0) rfl)) (allS (Or.inl (List.mem_of_getElem? (i := 1) rfl)) all0)))
      have f59 : Fld Z T45.heap vb "com/example/pattern_automaton/patternautomaton/CharBlock" "chars" "[C" (.ref vc) := (f26.keep K45 (ninS ne_vb_vc (ninS ne_vb_va nin0)))
      have f60 : Fld Z T45.heap vb "com/example/pattern_automaton/patternautomaton/CharBlock" "filled" "I" (.int (fl - fr)) := (f28.keep K45 (ninS ne_vb_vc (ninS ne_vb_va nin0)))
      have f61 : Fld Z T45.heap vb "com/example/pattern_automaton/patternautomaton/CharBlock" "from" "I" (.int (0 : Int32)) := (Fw25.keep K45 (ninS ne_vb_vc (ninS ne_vb_va nin0)))
      have f62 : Fld Z T45.heap vb "com/example/pattern_automaton/patternautomaton/CharBlock" "start" "J" (.long (sj + (fr.toInt64))) := ((((Fw6.keep Kk15 (ninS ne_vb_vc nin0)).other W22 (Or.inr (slot_ne (Or.inl (hw _ (mw 143 rfl))) (Or.inl (hw _ (mw 70 rfl))) (by decide) (t := .long) (t' := .int) (by decide) (by decide)))).other W25 (Or.inr (slot_ne (Or.inl (hw _ (mw 143 rfl))) (Or.inl (hw _ (mw 136 rfl))) (by decide) (t := .long) (t' := .int) (by decide) (by decide)))).keep K45 (ninS ne_vb_vc (ninS ne_vb_va nin0)))
      exact Goal.retV X45 hx Bd.returns rfl (Or.inl ⟨rfl, Or.inl rfl, _, rfl⟩) (hb hby d11_109) hlk rfl ⟨ys_45, nn_45, (fl - fr), (0 : Int32), (sj + (fr.toInt64)), rr_45, rfl, N45, f58, P45_0, P45_1, P45_2, f59, f60, f61, f62, P45_3, hn0_45, hn5_45, (by have e9 := hys_45; have e8 := hy15; first | omega | (rw [hpos]; omega) | (rw [hq2]; omega) | (show (0 : Int) ≤ 0; omega) | (show (0 : Int) ≤ _; rw [hpos]; omega) | (rw [hpos]; show (0 : Int) ≤ _; omega) | (show (0 : Int) ≤ ((fl - fr)).toInt; omega)), (by have e9 := hys_45; have e8 := hy15; first | omega | (rw [hpos]; omega) | (rw [hq2]; omega) | (show (0 : Int) ≤ 0; omega) | (show (0 : Int) ≤ _; rw [hpos]; omega) | (rw [hpos]; show (0 : Int) ≤ _; omega) | (show (0 : Int) ≤ ((fl - fr)).toInt; omega)), (by have e9 := hys_45; have e8 := hy15; first | omega | (rw [hpos]; omega) | (rw [hq2]; omega) | (show (0 : Int) ≤ 0; omega) | (show (0 : Int) ≤ _; rw [hpos]; omega) | (rw [hpos]; show (0 : Int) ≤ _; omega) | (show (0 : Int) ≤ ((fl - fr)).toInt; omega)), (by have e9 := hys_45; have e8 := hy15; first | omega | (rw [hpos]; omega) | (rw [hq2]; omega) | (show (0 : Int) ≤ 0; omega) | (show (0 : Int) ≤ _; rw [hpos]; omega) | (rw [hpos]; show (0 : Int) ≤ _; omega) | (show (0 : Int) ≤ ((fl - fr)).toInt; omega)), (by have e9 := hys_45; have e8 := hy15; first | omega | (rw [hpos]; omega) | (rw [hq2]; omega) | (show (0 : Int) ≤ 0; omega) | (show (0 : Int) ≤ _; rw [hpos]; omega) | (rw [hpos]; show (0 : Int) ≤ _; omega) | (show (0 : Int) ≤ ((fl - fr)).toInt; omega)), (by rw [hys_45]; omega), hcy_45, (by have e9 := hys_45; have e8 := hy15; first | omega | (rw [hpos]; omega) | (rw [hq2]; omega) | (show (0 : Int) ≤ 0; omega) | (show (0 : Int) ≤ _; rw [hpos]; omega) | (rw [hpos]; show (0 : Int) ≤ _; omega) | (show (0 : Int) ≤ ((fl - fr)).toInt; omega)), (hys_45.trans hy15)⟩ (by decide) (by decide)
  · obtain ⟨gl0, hgl0⟩ : ∃ z, z = fl := ⟨_, rfl⟩
    have k0 : 0 ≤ fl.toInt ∧ fl.toInt ≤ (xs.length : Int) ∧ xs.length ≤ 8 := ⟨p2, p3, p7⟩
    have hN2 := own_len (n := xs.length) (by omega)
    refine Goal.to (B := T2.setTop (mkF m 71 #[.val (.ref vb), .val (.ref va), .unset] [(.ref vb), (.ref va)])) (fun tt kk => ?_) ?_
    · show Steps p.tables e below (T2.setTop (mkF m 9 #[.val (.ref vb), .val (.ref va), .unset] [(.int xs.length.toInt32), (.int fl)])) tt
      refine XS.icmpYes X2.here hx rfl (pc0 := 9) (pc' := 69) rfl (hb hby d11_9) rfl (feq hfu).2 (by decide) (by decide) ?_
      show Steps p.tables e below (T2.setTop (mkF m 69 #[.val (.ref vb), .val (.ref va), .unset] [])) tt
      refine XS.aloadN X2.here hx rfl (hb hby d11_69) rfl rfl ?_
      show Steps p.tables e below (T2.setTop (mkF m 70 #[.val (.ref vb), .val (.ref va), .unset] [(.ref va)])) tt
      refine XS.aloadN X2.here hx rfl (hb hby d11_70) rfl rfl ?_
      exact kk
    obtain ⟨T63, X63, e63, st63⟩ := getF X2 hx hZ hown (host := "") (Or.inl (hw _ (mw 62 rfl))) Via.refl e2 F_chars_vb (g := (mkF m 71 #[.val (.ref vb), .val (.ref va), .unset] [(.ref vb), (.ref va)])) rfl rfl (hb hby d11_71)
    refine Goal.to (B := T63.setTop (mkF m 74 #[.val (.ref vb), .val (.ref va), .unset] [(.ref vc), (.ref va)])) st63 ?_
    refine Goal.to (B := T63.setTop (mkF m 75 #[.val (.ref vb), .val (.ref va), .unset] [(.ref vb), (.ref vc), (.ref va)])) (fun tt kk => ?_) ?_
    · show Steps p.tables e below (T63.setTop (mkF m 74 #[.val (.ref vb), .val (.ref va), .unset] [(.ref vc), (.ref va)])) tt
      refine XS.aloadN X63.here hx rfl (hb hby d11_74) rfl rfl ?_
      exact kk
    obtain ⟨T64, X64, e64, st64⟩ := getF X63 hx hZ hown (host := "") (Or.inl (hw _ (mw 69 rfl))) Via.refl e63 F_filled_vb (g := (mkF m 75 #[.val (.ref vb), .val (.ref va), .unset] [(.ref vb), (.ref vc), (.ref va)])) rfl rfl (hb hby d11_75)
    refine Goal.to (B := T64.setTop (mkF m 78 #[.val (.ref vb), .val (.ref va), .unset] [(.int fl), (.ref vc), (.ref va)])) st64 ?_
    refine Goal.to (B := T64.setTop (mkF m 79 #[.val (.ref vb), .val (.ref va), .unset] [(.ref vb), (.int fl), (.ref vc), (.ref va)])) (fun tt kk => ?_) ?_
    · show Steps p.tables e below (T64.setTop (mkF m 78 #[.val (.ref vb), .val (.ref va), .unset] [(.int fl), (.ref vc), (.ref va)])) tt
      refine XS.aloadN X64.here hx rfl (hb hby d11_78) rfl rfl ?_
      exact kk
    obtain ⟨T65, X65, e65, st65⟩ := getF X64 hx hZ hown (host := "") (Or.inl (hw _ (mw 62 rfl))) Via.refl e64 F_chars_vb (g := (mkF m 79 #[.val (.ref vb), .val (.ref va), .unset] [(.ref vb), (.int fl), (.ref vc), (.ref va)])) rfl rfl (hb hby d11_79)
    refine Goal.to (B := T65.setTop (mkF m 82 #[.val (.ref vb), .val (.ref va), .unset] [(.ref vc), (.int fl), (.ref vc), (.ref va)])) st65 ?_
    obtain ⟨cl66, Ar66, Sl66⟩ := id V_vc
    have ln66 : cl66.slots.size.toInt32 = xs.length.toInt32 := lenA Sl66 rfl
    refine Goal.to (B := T65.setTop (mkF m 84 #[.val (.ref vb), .val (.ref va), .unset] [(.ref vb), (.int xs.length.toInt32), (.int fl), (.ref vc), (.ref va)])) (fun tt kk => ?_) ?_
    · show Steps p.tables e below (T65.setTop (mkF m 82 #[.val (.ref vb), .val (.ref va), .unset] [(.ref vc), (.int fl), (.ref vc), (.ref va)])) tt
      refine X65.arraylength hx (by rw [e65]; exact Ar66.1) (State.isArrayOf_alike hZ.alike Ar66.2.1) (g := (mkF m 82 #[.val (.ref vb), .val (.ref va), .unset] [(.ref vc), (.int fl), (.ref vc), (.ref va)])) rfl rfl (hb hby d11_82) _ ?_
      rw [ln66]
      show Steps p.tables e below (T65.setTop (mkF m 83 #[.val (.ref vb), .val (.ref va), .unset] [(.int xs.length.toInt32), (.int fl), (.ref vc), (.ref va)])) tt
      refine XS.aloadN X65.here hx rfl (hb hby d11_83) rfl rfl ?_
      exact kk
    obtain ⟨T67, X67, e67, st67⟩ := getF X65 hx hZ hown (host := "") (Or.inl (hw _ (mw 69 rfl))) Via.refl e65 F_filled_vb (g := (mkF m 84 #[.val (.ref vb), .val (.ref va), .unset] [(.ref vb), (.int xs.length.toInt32), (.int fl), (.ref vc), (.ref va)])) rfl rfl (hb hby d11_84)
    refine Goal.to (B := T67.setTop (mkF m 87 #[.val (.ref vb), .val (.ref va), .unset] [(.int fl), (.int xs.length.toInt32), (.int fl), (.ref vc), (.ref va)])) st67 ?_
    have hrm : (xs.length.toInt32 - fl).toInt = (xs.length : Int) - fl.toInt := by rw [Jvm.Kit.i32_sub (by omega) (by omega), hN2]
    refine Goal.to (B := T67.setTop (mkF m 88 #[.val (.ref vb), .val (.ref va), .unset] [(.int (xs.length.toInt32 - fl)), (.int fl), (.ref vc), (.ref va)])) (fun tt kk => ?_) ?_
    · show Steps p.tables e below (T67.setTop (mkF m 87 #[.val (.ref vb), .val (.ref va), .unset] [(.int fl), (.int xs.length.toInt32), (.int fl), (.ref vc), (.ref va)])) tt
      refine XS.isub X67.here hx rfl (hb hby d11_87) rfl ?_
      exact kk
    obtain ⟨cq68, kq68, q68a, q68b, q68c⟩ := isOf hZ e67 E_va
    obtain ⟨_, _, ⟨T68, L68, k68, n68⟩, -, X68, ⟨Lc68, hQ68, l68, y68, z68⟩, st68⟩ := X67.interfaceBack hx (xi := (⟨"com/example/pattern_automaton/patternautomaton/CharBlock$Source", "read", "([CII)I"⟩ : MethodName)) (y := (⟨"com/example/pattern_automaton/patternautomaton/CharBlock$TextSource", "read", "([CII)I"⟩ : MethodName)) hown (mvT hZ (hw _ (mw 71 rfl))) (mvT hZ (hw _ (mw 72 rfl))) (mvT hZ (hw _ (mw 73 rfl))) (mvT hZ (hw _ (mw 74 rfl))) (mvT hZ (hw _ (mw 75 rfl))) (mvT hZ (hw _ (mw 76 rfl))) (mvT hZ (hw _ (mw 77 rfl))) (mvT hZ (hw _ (mw 78 rfl))) (by decide) (backOf (W := 0) (rmrd l Z a0 hw [] vt tb vc zc fm y0 y1 y2 y3 y4 xs va un fl (xs.length.toInt32 - fl) h0 n0 Z0 E_va F_text_va F_length_va F_next_va E_vt F_value_vt F_coder_vt V_tb S_COMPACT_STRINGS S_SIOOBE_FORMATTER V_vc g_vc g_va ne_tb_vc ne_vt_vc ne_va_vc ne_va_tb ne_va_vt hCS pfm p0 p1 (by omega) (by rw [hrm]; omega) (by rw [hrm]; omega) (by omega) p8) hZ (hw _ (mw 79 rfl)) (hw _ (mw 32 rfl)) (by decide) (by decide)) q68a q68b q68c (g := (mkF m 88 #[.val (.ref vb), .val (.ref va), .unset] [(.int (xs.length.toInt32 - fl)), (.int fl), (.ref vc), (.ref va)])) rfl (by rw [hml]; rfl) (Steps.refl _) (argsL := [(.ref vc), (.int fl), (.int (xs.length.toInt32 - fl))]) (rest := []) (lenOf pd_11 rfl) rfl (by show 2 * 0 + _ ≤ _; exact Nat.le_of_eq rfl) (hb hby d11_88) (fun _ _ => ⟨rfl, e67, (by decide : 0 + 0 ≤ _), (by decide : 0 + 0 ≤ _)⟩)
    dsimp only [Pt.U, Pt.locs, Pt.cells, Pt.slots] at X68 l68 y68 z68 st68 hQ68
    subst y68 z68
    obtain ⟨ys_68, nn_68, rr_68, rfl, N68q, K68, P68_0, P68_1, P68_2, P68_3, hys_68, hcy_68, hn0_68, hn5_68, hr0_68, hr1_68⟩ := hQ68
    have N68 := Fr.eqv l68 (Fr.app N0 N68q)
    refine Goal.tr (B := T68.setTop (mkF m 93 #[.val (.ref vb), .val (.ref va), .unset] [(.int rr_68)])) st68 ?_
    refine Goal.to (B := T68.setTop (mkF m 95 #[.val (.ref vb), .val (.ref va), .val (.int rr_68)] [(.int rr_68)])) (fun tt kk => ?_) ?_
    · show Steps p.tables e below (T68.setTop (mkF m 93 #[.val (.ref vb), .val (.ref va), .unset] [(.int rr_68)])) tt
      refine XS.istoreN X68.here hx rfl (hb hby d11_93) rfl (l' := #[.val (.ref vb), .val (.ref va), .val (.int rr_68)]) rfl ?_
      show Steps p.tables e below (T68.setTop (mkF m 94 #[.val (.ref vb), .val (.ref va), .val (.int rr_68)] [])) tt
      refine XS.iloadN X68.here hx rfl (hb hby d11_94) rfl ?_
      exact kk
    by_cases hrr : (0 : Int32) < rr_68
    · have hrr' : 0 < rr_68.toInt := own_lit hrr rfl
      refine Goal.to (B := T68.setTop (mkF m 100 #[.val (.ref vb), .val (.ref va), .val (.int rr_68)] [(.ref vb), (.ref vb)])) (fun tt kk => ?_) ?_
      · show Steps p.tables e below (T68.setTop (mkF m 95 #[.val (.ref vb), .val (.ref va), .val (.int rr_68)] [(.int rr_68)])) tt
        refine XS.ifNo X68.here hx rfl (hb hby d11_95) rfl ((if0 _ _).trans (tlt hrr).2.2.2) ?_
        show Steps p.tables e below (T68.setTop (mkF m 98 #[.val (.ref vb), .val (.ref va), .val (.int rr_68)] [])) tt
        refine XS.aloadN X68.here hx rfl (hb hby d11_98) rfl rfl ?_
        show Steps p.tables e below (T68.setTop (mkF m 99 #[.val (.ref vb), .val (.ref va), .val (.int rr_68)] [(.ref vb)])) tt
        refine XS.dup X68.here hx rfl (hb hby d11_99) rfl rfl ?_
        exact kk
      have f69 : Fld Z T68.heap vb "com/example/pattern_automaton/patternautomaton/CharBlock" "filled" "I" (.int fl) := (F_filled_vb.keep K68 (ninS ne_vb_vc (ninS ne_vb_va nin0)))
      obtain ⟨T70, X70, e70, st70⟩ := getF X68 hx hZ hown (host := "") (Or.inl (hw _ (mw 69 rfl))) Via.refl rfl f69 (g := (mkF m 100 #[.val (.ref vb), .val (.ref va), .val (.int rr_68)] [(.ref vb), (.ref vb)])) rfl rfl (hb hby d11_100)
      refine Goal.to (B := T70.setTop (mkF m 103 #[.val (.ref vb), .val (.ref va), .val (.int rr_68)] [(.int fl), (.ref vb)])) st70 ?_
      refine Goal.to (B := T70.setTop (mkF m 105 #[.val (.ref vb), .val (.ref va), .val (.int rr_68)] [(.int (fl + rr_68)), (.ref vb)])) (fun tt kk => ?_) ?_
      · show Steps p.tables e below (T70.setTop (mkF m 103 #[.val (.ref vb), .val (.ref va), .val (.int rr_68)] [(.int fl), (.ref vb)])) tt
        refine XS.iloadN X70.here hx rfl (hb hby d11_103) rfl ?_
        show Steps p.tables e below (T70.setTop (mkF m 104 #[.val (.ref vb), .val (.ref va), .val (.int rr_68)] [(.int rr_68), (.int fl), (.ref vb)])) tt
        refine XS.iadd X70.here hx rfl (hb hby d11_104) rfl ?_
        exact kk
      have f71 : Exa Z T68.heap vb "com/example/pattern_automaton/patternautomaton/CharBlock" := (E_vb.keep K68)
      obtain ⟨T72, h72, X72, e72, W72, st72⟩ := putF X70 hx hZ hown (host := "") (Or.inl (hw _ (mw 69 rfl))) Via.refl e70 f69 f71 (Or.inl (hw _ (mw 70 rfl))) (hw _ (mw 56 rfl)) (ty := .int) (by decide) rfl rfl (g := (mkF m 105 #[.val (.ref vb), .val (.ref va), .val (.int rr_68)] [(.int (fl + rr_68)), (.ref vb)])) rfl rfl (hb hby d11_105)
      have Fw72 : Fld Z h72 vb "com/example/pattern_automaton/patternautomaton/CharBlock" "filled" "I" (.int (fl + rr_68)) := f69.same W72
      have N72 := Fr.snoc X72 N68 g_vb
      refine Goal.to (B := T72.setTop (mkF m 108 #[.val (.ref vb), .val (.ref va), .val (.int rr_68)] [])) st72 ?_
      have hpos : (fl + rr_68).toInt = (fl).toInt + rr_68.toInt := by have e9 := hys_68; exact Jvm.Kit.i32_add (by omega) (by omega)
      refine Goal.to (B := T72.setTop (mkF m 109 #[.val (.ref vb), .val (.ref va), .val (.int rr_68)] [(.int rr_68)])) (fun tt kk => ?_) ?_
      · show Steps p.tables e below (T72.setTop (mkF m 108 #[.val (.ref vb), .val (.ref va), .val (.int rr_68)] [])) tt
        refine XS.iloadN X72.here hx rfl (hb hby d11_108) rfl ?_
        exact kk
      have f73 : Keep h0 h72 [vc, va, vb] := (((Keep.refl h0 [vc, va, vb]).trans K68 (allS (Or.inl (List.mem_of_getElem? (i := 0) rfl)) (allS (Or.inl (List.mem_of_getElem? (i := 1) rfl)) all0))).wr W72 (Or.inl (List.mem_of_getElem? (i := 2) rfl)))
      have f74 : Fld Z h72 va "com/example/pattern_automaton/patternautomaton/CharBlock$TextSource" "text" "Ljava/lang/CharSequence;" (.ref vt) := (P68_0.other W72 (Or.inl (Ne.symm ne_vb_va)))
      have f75 : Fld Z h72 va "com/example/pattern_automaton/patternautomaton/CharBlock$TextSource" "length" "I" (.int (5 : Int32)) := (P68_1.other W72 (Or.inl (Ne.symm ne_vb_va)))
      have f76 : Fld Z h72 va "com/example/pattern_automaton/patternautomaton/CharBlock$TextSource" "next" "I" (.int nn_68) := (P68_2.other W72 (Or.inl (Ne.symm ne_vb_va)))
      have f77 : Fld Z h72 vb "com/example/pattern_automaton/patternautomaton/CharBlock" "chars" "[C" (.ref vc) := ((F_chars_vb.keep K68 (ninS ne_vb_vc (ninS ne_vb_va nin0))).other W72 (Or.inr (slot_ne (Or.inr (hw _ (mw 63 rfl))) (Or.inl (hw _ (mw 70 rfl))) (by decide) (t := (.array .char)) (t' := .int) (by decide) (by decide))))
      have f78 : Fld Z h72 vb "com/example/pattern_automaton/patternautomaton/CharBlock" "from" "I" (.int fr) := ((F_from_vb.keep K68 (ninS ne_vb_vc (ninS ne_vb_va nin0))).other W72 (Or.inr (slot_ne (Or.inl (hw _ (mw 136 rfl))) (Or.inl (hw _ (mw 70 rfl))) (by decide) (t := .int) (t' := .int) (by decide) (by decide))))
      have f79 : Fld Z h72 vb "com/example/pattern_automaton/patternautomaton/CharBlock" "start" "J" (.long sj) := ((F_start_vb.keep K68 (ninS ne_vb_vc (ninS ne_vb_va nin0))).other W72 (Or.inr (slot_ne (Or.inl (hw _ (mw 143 rfl))) (Or.inl (hw _ (mw 70 rfl))) (by decide) (t := .long) (t' := .int) (by decide) (by decide))))
      have f80 : Ary Z h72 vc .char ys_68 := (P68_3.other W72 (Ne.symm ne_vb_vc))
      exact Goal.retV X72 hx Bd.returns rfl (Or.inl ⟨rfl, Or.inl rfl, _, rfl⟩) (hb hby d11_109) hlk e72 ⟨ys_68, nn_68, (fl + rr_68), fr, sj, rr_68, rfl, N72, f73, f74, f75, f76, f77, Fw72, f78, f79, f80, hn0_68, hn5_68, (by have e9 := hys_68; first | omega | (rw [hpos]; omega) | (rw [hq2]; omega) | (show (0 : Int) ≤ 0; omega) | (show (0 : Int) ≤ _; rw [hpos]; omega) | (rw [hpos]; show (0 : Int) ≤ _; omega) | (show (0 : Int) ≤ ((fl + rr_68)).toInt; omega)), (by have e9 := hys_68; first | omega | (rw [hpos]; omega) | (rw [hq2]; omega) | (show (0 : Int) ≤ 0; omega) | (show (0 : Int) ≤ _; rw [hpos]; omega) | (rw [hpos]; show (0 : Int) ≤ _; omega) | (show (0 : Int) ≤ ((fl + rr_68)).toInt; omega)), (by have e9 := hys_68; first | omega | (rw [hpos]; omega) | (rw [hq2]; omega) | (show (0 : Int) ≤ 0; omega) | (show (0 : Int) ≤ _; rw [hpos]; omega) | (rw [hpos]; show (0 : Int) ≤ _; omega) | (show (0 : Int) ≤ ((fl + rr_68)).toInt; omega)), (by have e9 := hys_68; first | omega | (rw [hpos]; omega) | (rw [hq2]; omega) | (show (0 : Int) ≤ 0; omega) | (show (0 : Int) ≤ _; rw [hpos]; omega) | (rw [hpos]; show (0 : Int) ≤ _; omega) | (show (0 : Int) ≤ ((fl + rr_68)).toInt; omega)), (by have e9 := hys_68; first | omega | (rw [hpos]; omega) | (rw [hq2]; omega) | (show (0 : Int) ≤ 0; omega) | (show (0 : Int) ≤ _; rw [hpos]; omega) | (rw [hpos]; show (0 : Int) ≤ _; omega) | (show (0 : Int) ≤ ((fl + rr_68)).toInt; omega)), (by rw [hys_68]; omega), hcy_68, (by have e9 := hys_68; first | omega | (rw [hpos]; omega) | (rw [hq2]; omega) | (show (0 : Int) ≤ 0; omega) | (show (0 : Int) ≤ _; rw [hpos]; omega) | (rw [hpos]; show (0 : Int) ≤ _; omega) | (show (0 : Int) ≤ ((fl + rr_68)).toInt; omega)), (hys_68.trans rfl)⟩ (by decide) (by decide)
    · refine Goal.to (B := T68.setTop (mkF m 109 #[.val (.ref vb), .val (.ref va), .val (.int rr_68)] [(.int rr_68)])) (fun tt kk => ?_) ?_
      · show Steps p.tables e below (T68.setTop (mkF m 95 #[.val (.ref vb), .val (.ref va), .val (.int rr_68)] [(.int rr_68)])) tt
        refine XS.ifYes X68.here hx rfl (pc0 := 95) (pc' := 108) rfl (hb hby d11_95) rfl ((if0 _ _).trans (flt hrr).2.2.2) (by decide) (by decide) ?_
        show Steps p.tables e below (T68.setTop (mkF m 108 #[.val (.ref vb), .val (.ref va), .val (.int rr_68)] [])) tt
        refine XS.iloadN X68.here hx rfl (hb hby d11_108) rfl ?_
        exact kk
      have f81 : Keep h0 T68.heap [vc, va, vb] := ((Keep.refl h0 [vc, va, vb]).trans K68 (allS (Or.inl (List.mem_of_getElem? (i := 0) rfl)) (allS (Or.inl (List.mem_of_getElem? (i := 1) rfl)) all0)))
      have f82 : Fld Z T68.heap vb "com/example/pattern_automaton/patternautomaton/CharBlock" "chars" "[C" (.ref vc) := (F_chars_vb.keep K68 (ninS ne_vb_vc (ninS ne_vb_va nin0)))
      have f83 : Fld Z T68.heap vb "com/example/pattern_automaton/patternautomaton/CharBlock" "filled" "I" (.int fl) := (F_filled_vb.keep K68 (ninS ne_vb_vc (ninS ne_vb_va nin0)))
      have f84 : Fld Z T68.heap vb "com/example/pattern_automaton/patternautomaton/CharBlock" "from" "I" (.int fr) := (F_from_vb.keep K68 (ninS ne_vb_vc (ninS ne_vb_va nin0)))
      have f85 : Fld Z T68.heap vb "com/example/pattern_automaton/patternautomaton/CharBlock" "start" "J" (.long sj) := (F_start_vb.keep K68 (ninS ne_vb_vc (ninS ne_vb_va nin0)))
      exact Goal.retV X68 hx Bd.returns rfl (Or.inl ⟨rfl, Or.inl rfl, _, rfl⟩) (hb hby d11_109) hlk rfl ⟨ys_68, nn_68, fl, fr, sj, rr_68, rfl, N68, f81, P68_0, P68_1, P68_2, f82, f83, f84, f85, P68_3, hn0_68, hn5_68, (by have e9 := hys_68; first | omega | (rw [hpos]; omega) | (rw [hq2]; omega) | (show (0 : Int) ≤ 0; omega) | (show (0 : Int) ≤ _; rw [hpos]; omega) | (rw [hpos]; show (0 : Int) ≤ _; omega) | (show (0 : Int) ≤ (fl).toInt; omega)), (by have e9 := hys_68; first | omega | (rw [hpos]; omega) | (rw [hq2]; omega) | (show (0 : Int) ≤ 0; omega) | (show (0 : Int) ≤ _; rw [hpos]; omega) | (rw [hpos]; show (0 : Int) ≤ _; omega) | (show (0 : Int) ≤ (fl).toInt; omega)), (by have e9 := hys_68; first | omega | (rw [hpos]; omega) | (rw [hq2]; omega) | (show (0 : Int) ≤ 0; omega) | (show (0 : Int) ≤ _; rw [hpos]; omega) | (rw [hpos]; show (0 : Int) ≤ _; omega) | (show (0 : Int) ≤ (fl).toInt; omega)), (by have e9 := hys_68; first | omega | (rw [hpos]; omega) | (rw [hq2]; omega) | (show (0 : Int) ≤ 0; omega) | (show (0 : Int) ≤ _; rw [hpos]; omega) | (rw [hpos]; show (0 : Int) ≤ _; omega) | (show (0 : Int) ≤ (fl).toInt; omega)), (by have e9 := hys_68; first | omega | (rw [hpos]; omega) | (rw [hq2]; omega) | (show (0 : Int) ≤ 0; omega) | (show (0 : Int) ≤ _; rw [hpos]; omega) | (rw [hpos]; show (0 : Int) ≤ _; omega) | (show (0 : Int) ≤ (fl).toInt; omega)), (by rw [hys_68]; omega), hcy_68, (by have e9 := hys_68; first | omega | (rw [hpos]; omega) | (rw [hq2]; omega) | (show (0 : Int) ≤ 0; omega) | (show (0 : Int) ≤ _; rw [hpos]; omega) | (rw [hpos]; show (0 : Int) ≤ _; omega) | (show (0 : Int) ≤ (fl).toInt; omega)), (hys_68.trans rfl)⟩ (by decide) (by decide)
theorem ef_7 (m : MethodId) (x0 : Addr) (x1 : Addr)  : entryFrame m #[(.ref x0), (.ref x1)] 2 = mkF m 0 #[.val (.ref x0), .val (.ref x1)] [] := by first | (simp [entryFrame, mkF, argsToLocals, Value.category]; done) | rfl
theorem pn_7 : plainName "com/example/pattern_automaton/patternautomaton/CharBlock$TextSource" = true := by first | (simp [plainName, overriddenIn]; done) | decide +kernel
theorem d7_0 : decode prog_12_method_1_code 0 = .ok (.aload_n 0, 1) := by decide +kernel
theorem d7_1 : decode prog_12_method_1_code 1 = .ok (.invokespecial 1, 3) := by decide +kernel
theorem d7_4 : decode prog_12_method_1_code 4 = .ok (.aload_n 0, 1) := by decide +kernel
theorem d7_5 : decode prog_12_method_1_code 5 = .ok (.aload_n 1, 1) := by decide +kernel
theorem d7_6 : decode prog_12_method_1_code 6 = .ok (.putfield 7, 3) := by decide +kernel
theorem d7_9 : decode prog_12_method_1_code 9 = .ok (.aload_n 0, 1) := by decide +kernel
theorem d7_10 : decode prog_12_method_1_code 10 = .ok (.aload_n 1, 1) := by decide +kernel
theorem d7_11 : decode prog_12_method_1_code 11 = .ok (.invokeinterface 13 1, 5) := by decide +kernel
theorem d7_16 : decode prog_12_method_1_code 16 = .ok (.putfield 19, 3) := by decide +kernel
theorem d7_19 : decode prog_12_method_1_code 19 = .ok (.return_, 1) := by decide +kernel
def Qtn (Z : State) (va : Addr) (vt : Addr) (tb : Addr) (zc : Int32) (y0 : Int32) (y1 : Int32) (y2 : Int32) (y3 : Int32) (y4 : Int32) (h0 : Heap) (n0 : Nat) (v : Option Value) (h : Heap) (L : List Loc) : Prop := v = none ∧ Fr n0 L ∧ Keep h0 h [va] ∧ Fld Z h va "com/example/pattern_automaton/patternautomaton/CharBlock$TextSource" "text" "Ljava/lang/CharSequence;" (.ref vt) ∧ Fld Z h va "com/example/pattern_automaton/patternautomaton/CharBlock$TextSource" "length" "I" (.int (5 : Int32)) ∧ Fld Z h va "com/example/pattern_automaton/patternautomaton/CharBlock$TextSource" "next" "I" (.int (0 : Int32))
set_option maxRecDepth 65536 in
set_option maxHeartbeats 40000000 in
theorem rmtn (l : Launch) (Z : State) (a0 : Array Value) (hw : ∀ d ∈ tables_1, d.before a0 Z = true) (ws : List Jvm.Cond) (va : Addr) (vt : Addr) (tb : Addr) (zc : Int32) (y0 : Int32) (y1 : Int32) (y2 : Int32) (y3 : Int32) (y4 : Int32) (h0 : Heap) (n0 : Nat) (Z0 : n0 ≤ h0.size) (E_va : Exa Z h0 va "com/example/pattern_automaton/patternautomaton/CharBlock$TextSource") (F_text_va : Fld Z h0 va "com/example/pattern_automaton/patternautomaton/CharBlock$TextSource" "text" "Ljava/lang/CharSequence;" .null) (F_length_va : Fld Z h0 va "com/example/pattern_automaton/patternautomaton/CharBlock$TextSource" "length" "I" (.int (0 : Int32))) (F_next_va : Fld Z h0 va "com/example/pattern_automaton/patternautomaton/CharBlock$TextSource" "next" "I" (.int (0 : Int32))) (E_vt : Exa Z h0 vt "java/lang/String") (F_value_vt : Fld Z h0 vt "java/lang/String" "value" "[B" (.ref tb)) (F_coder_vt : Fld Z h0 vt "java/lang/String" "coder" "B" (.int (0 : Int32))) (V_tb : Ary Z h0 tb .byte [(.int y0), (.int y1), (.int y2), (.int y3), (.int y4)]) (S_COMPACT_STRINGS : StaN Z n0 h0 "java/lang/String" "COMPACT_STRINGS" "Z" (.int zc)) (g_va : n0 ≤ va) (ne_va_vt : va ≠ vt) (ne_va_tb : va ≠ tb) (hCS : ¬ (zc = (0 : Int32))) :
    MetFree l (⟨"com/example/pattern_automaton/patternautomaton/CharBlock$TextSource", "<init>", "(Ljava/lang/CharSequence;)V"⟩ : MethodName) (head1 (Jvm.Cond.code (⟨"com/example/pattern_automaton/patternautomaton/CharBlock$TextSource", "<init>", "(Ljava/lang/CharSequence;)V"⟩ : MethodName) prog_12_method_1_code 2 none :: ws) ({ frames := 2, cells := 0, slots := 0, locals := 26 } : Room)) (fun a U => a = #[(.ref va), (.ref vt)] ∧ Z.Warmed39 U.vm ∧ U.heap = h0) (fun _ _ _ _ _ => True) (fun _ U o U' => ∃ v L, o = .returned v ∧ Qtn Z va vt tb zc y0 y1 y2 y3 y4 h0 n0 v U'.heap L ∧ FrameEnd U o U' L 0 0) := by
  refine MetFree.of_bodySF (plainFor_of_name pn_7) hisR ?_
  intro p e s m args below meth c s₁ Bd hml0 hP hK
  obtain ⟨rfl, hZ, hh⟩ := hP
  have hx := Bd.exec
  have hby := Bd.bytes
  have hml : c.maxLocals = 2 := hml0
  have hown : s.vm.findClass "com/example/pattern_automaton/patternautomaton/CharBlock$TextSource" = some m.cls := findClass_of_methodNamed Bd.named
  have hnm := (name_of_methodNamed Bd.named Bd.method).1
  have X0 : Stand p l e ({ frames := 2, cells := 0, slots := 0, locals := 26 } : Room) s m #[(.ref va), (.ref vt)] below meth c s₁ [] 0 0 := Stand.of_body Bd
  have e0 : s₁.heap = h0 := by rw [← hh, Bd.state]; rfl
  have N0 := Fr.nil n0
  have hlk : meth.locks = false := BodyLoose.notSynchronized Bd
  show Goal p e below s (Qtn Z va vt tb zc y0 y1 y2 y3 y4 h0 n0) 0 0 (s₁.setTop (entryFrame m #[(.ref va), (.ref vt)] 2))
  refine Goal.to (B := s₁.setTop (mkF m 0 #[.val (.ref va), .val (.ref vt)] [])) (fun tt kk => castTop (ef_7 m va vt ) kk) ?_
  refine Goal.to (B := s₁.setTop (mkF m 1 #[.val (.ref va), .val (.ref vt)] [(.ref va)])) (fun tt kk => ?_) ?_
  · show Steps p.tables e below (s₁.setTop (mkF m 0 #[.val (.ref va), .val (.ref vt)] [])) tt
    refine XS.aloadN X0.here hx rfl (hb hby d7_0) rfl rfl ?_
    exact kk
  obtain ⟨T1, X1, e1, st1⟩ := initO X0 hx hZ hown (hw _ (mw 36 rfl)) (hw _ (mw 12 rfl)) (hw _ (mw 13 rfl)) e0 (g := (mkF m 1 #[.val (.ref va), .val (.ref vt)] [(.ref va)])) rfl (by rw [hml]; rfl) rfl (hb hby d7_1) (by decide) (W := 0) (by show 2 * 0 + _ ≤ _; exact Nat.le_of_eq rfl) (by decide)
  refine Goal.to (B := T1.setTop (mkF m 4 #[.val (.ref va), .val (.ref vt)] [])) st1 ?_
  refine Goal.to (B := T1.setTop (mkF m 6 #[.val (.ref va), .val (.ref vt)] [(.ref vt), (.ref va)])) (fun tt kk => ?_) ?_
  · show Steps p.tables e below (T1.setTop (mkF m 4 #[.val (.ref va), .val (.ref vt)] [])) tt
    refine XS.aloadN X1.here hx rfl (hb hby d7_4) rfl rfl ?_
    show Steps p.tables e below (T1.setTop (mkF m 5 #[.val (.ref va), .val (.ref vt)] [(.ref va)])) tt
    refine XS.aloadN X1.here hx rfl (hb hby d7_5) rfl rfl ?_
    exact kk
  obtain ⟨T2, h2, X2, e2, W2, st2⟩ := putF X1 hx hZ hown (host := "") (Or.inl (hw _ (mw 37 rfl))) Via.refl e1 F_text_va E_va (Or.inr ⟨(hw _ (mw 38 rfl)), rfl, hnm⟩) (hw _ (mw 31 rfl)) (ty := (.object "java/lang/CharSequence")) (by decide) rfl rfl (g := (mkF m 6 #[.val (.ref va), .val (.ref vt)] [(.ref vt), (.ref va)])) rfl rfl (hb hby d7_6)
  have Fw2 : Fld Z h2 va "com/example/pattern_automaton/patternautomaton/CharBlock$TextSource" "text" "Ljava/lang/CharSequence;" (.ref vt) := F_text_va.same W2
  have N2 := Fr.snoc X2 N0 g_va
  refine Goal.to (B := T2.setTop (mkF m 9 #[.val (.ref va), .val (.ref vt)] [])) st2 ?_
  refine Goal.to (B := T2.setTop (mkF m 11 #[.val (.ref va), .val (.ref vt)] [(.ref vt), (.ref va)])) (fun tt kk => ?_) ?_
  · show Steps p.tables e below (T2.setTop (mkF m 9 #[.val (.ref va), .val (.ref vt)] [])) tt
    refine XS.aloadN X2.here hx rfl (hb hby d7_9) rfl rfl ?_
    show Steps p.tables e below (T2.setTop (mkF m 10 #[.val (.ref va), .val (.ref vt)] [(.ref va)])) tt
    refine XS.aloadN X2.here hx rfl (hb hby d7_10) rfl rfl ?_
    exact kk
  have f3 : Exa Z h2 vt "java/lang/String" := (E_vt.wr W2)
  have f4 : Fld Z h2 vt "java/lang/String" "value" "[B" (.ref tb) := (F_value_vt.other W2 (Or.inl (Ne.symm ne_va_vt)))
  have f5 : Fld Z h2 vt "java/lang/String" "coder" "B" (.int (0 : Int32)) := (F_coder_vt.other W2 (Or.inl (Ne.symm ne_va_vt)))
  have f6 : Ary Z h2 tb .byte [(.int y0), (.int y1), (.int y2), (.int y3), (.int y4)] := (V_tb.other W2 (Ne.symm ne_va_tb))
  have f7 : StaN Z n0 h2 "java/lang/String" "COMPACT_STRINGS" "Z" (.int zc) := (S_COMPACT_STRINGS.wr W2)
  have f8 : n0 ≤ h2.size := (Nat.le_trans Z0 (Keep.of_wr W2).1)
  obtain ⟨cq9, kq9, q9a, q9b, q9c⟩ := isOf hZ e2 f3
  obtain ⟨_, _, ⟨T9, L9, k9, n9⟩, -, X9, ⟨Lc9, hQ9, l9, y9, z9⟩, st9⟩ := X2.interfaceBack hx (xi := (⟨"java/lang/CharSequence", "length", "()I"⟩ : MethodName)) (y := (⟨"java/lang/String", "length", "()I"⟩ : MethodName)) hown (mvT hZ (hw _ (mw 39 rfl))) (mvT hZ (hw _ (mw 40 rfl))) (mvT hZ (hw _ (mw 41 rfl))) (mvT hZ (hw _ (mw 42 rfl))) (mvT hZ (hw _ (mw 43 rfl))) (mvT hZ (hw _ (mw 44 rfl))) (mvT hZ (hw _ (mw 45 rfl))) (mvT hZ (hw _ (mw 46 rfl))) (by decide) (backOf (W := 1) (rmle l Z a0 hw [] vt tb zc y0 y1 y2 y3 y4 h2 n0 f8 f3 f4 f5 f6 f7 (by assumption)) hZ (hw _ (mw 47 rfl)) (hw _ (mw 3 rfl)) (by decide) (by decide)) q9a q9b q9c (g := (mkF m 11 #[.val (.ref va), .val (.ref vt)] [(.ref vt), (.ref va)])) rfl (by rw [hml]; rfl) (Steps.refl _) (argsL := []) (rest := [(.ref va)]) (lenOf pd_7 rfl) rfl (by show 2 * 0 + _ ≤ _; exact Nat.le_of_eq rfl) (hb hby d7_11) (fun _ _ => ⟨rfl, e2, (by decide : 0 + 0 ≤ _), (by decide : 0 + 0 ≤ _)⟩)
  dsimp only [Pt.U, Pt.locs, Pt.cells, Pt.slots] at X9 l9 y9 z9 st9 hQ9
  subst y9 z9
  obtain ⟨rfl, N9q, e9⟩ := hQ9
  have N9 := Fr.eqv l9 (Fr.app N2 N9q)
  refine Goal.tr (B := T9.setTop (mkF m 16 #[.val (.ref va), .val (.ref vt)] [(.int (5 : Int32)), (.ref va)])) st9 ?_
  have f10 : Fld Z h2 va "com/example/pattern_automaton/patternautomaton/CharBlock$TextSource" "length" "I" (.int (0 : Int32)) := (F_length_va.other W2 (Or.inr (slot_ne (Or.inr (hw _ (mw 54 rfl))) (Or.inr (hw _ (mw 38 rfl))) (by decide) (t := .int) (t' := (.object "java/lang/CharSequence")) (by decide) (by decide))))
  have f11 : Exa Z h2 va "com/example/pattern_automaton/patternautomaton/CharBlock$TextSource" := (E_va.wr W2)
  obtain ⟨T12, h12, X12, e12, W12, st12⟩ := putF X9 hx hZ hown (host := "") (Or.inl (hw _ (mw 53 rfl))) Via.refl e9 f10 f11 (Or.inr ⟨(hw _ (mw 54 rfl)), rfl, hnm⟩) (hw _ (mw 31 rfl)) (ty := .int) (by decide) rfl rfl (g := (mkF m 16 #[.val (.ref va), .val (.ref vt)] [(.int (5 : Int32)), (.ref va)])) rfl rfl (hb hby d7_16)
  have Fw12 : Fld Z h12 va "com/example/pattern_automaton/patternautomaton/CharBlock$TextSource" "length" "I" (.int (5 : Int32)) := f10.same W12
  have N12 := Fr.snoc X12 N9 g_va
  refine Goal.to (B := T12.setTop (mkF m 19 #[.val (.ref va), .val (.ref vt)] [])) st12 ?_
  have f13 : Keep h0 h12 [va] := (((Keep.refl h0 [va]).wr W2 (Or.inl (List.mem_of_getElem? (i := 0) rfl))).wr W12 (Or.inl (List.mem_of_getElem? (i := 0) rfl)))
  have f14 : Fld Z h12 va "com/example/pattern_automaton/patternautomaton/CharBlock$TextSource" "text" "Ljava/lang/CharSequence;" (.ref vt) := (Fw2.other W12 (Or.inr (slot_ne (Or.inr (hw _ (mw 38 rfl))) (Or.inr (hw _ (mw 54 rfl))) (by decide) (t := (.object "java/lang/CharSequence")) (t' := .int) (by decide) (by decide))))
  have f15 : Fld Z h12 va "com/example/pattern_automaton/patternautomaton/CharBlock$TextSource" "next" "I" (.int (0 : Int32)) := ((F_next_va.other W2 (Or.inr (slot_ne (Or.inl (hw _ (mw 81 rfl))) (Or.inr (hw _ (mw 38 rfl))) (by decide) (t := .int) (t' := (.object "java/lang/CharSequence")) (by decide) (by decide)))).other W12 (Or.inr (slot_ne (Or.inl (hw _ (mw 81 rfl))) (Or.inr (hw _ (mw 54 rfl))) (by decide) (t := .int) (t' := .int) (by decide) (by decide))))
  exact Goal.retN X12 hx Bd.returns (hb hby d7_19) hlk e12 ⟨rfl, N12, f13, f14, Fw12, f15⟩ (by decide) (by decide)
theorem ef_10 (m : MethodId) (x0 : Addr) (x1 : Int32)  : entryFrame m #[(.ref x0), (.int x1)] 2 = mkF m 0 #[.val (.ref x0), .val (.int x1)] [] := by first | (simp [entryFrame, mkF, argsToLocals, Value.category]; done) | rfl
theorem pn_10 : plainName "com/example/pattern_automaton/patternautomaton/CharBlock" = true := by first | (simp [plainName, overriddenIn]; done) | decide +kernel
theorem d10_0 : decode prog_10_method_1_code 0 = .ok (.aload_n 0, 1) := by decide +kernel
theorem d10_1 : decode prog_10_method_1_code 1 = .ok (.invokespecial 1, 3) := by decide +kernel
theorem d10_4 : decode prog_10_method_1_code 4 = .ok (.aload_n 0, 1) := by decide +kernel
theorem d10_5 : decode prog_10_method_1_code 5 = .ok (.iload_n 1, 1) := by decide +kernel
theorem d10_6 : decode prog_10_method_1_code 6 = .ok (.newarray .char, 2) := by decide +kernel
theorem d10_8 : decode prog_10_method_1_code 8 = .ok (.putfield 7, 3) := by decide +kernel
theorem d10_11 : decode prog_10_method_1_code 11 = .ok (.return_, 1) := by decide +kernel
def Qbn (Z : State) (vb : Addr) (u0 : Int32) (hn : Nat) (h0 : Heap) (n0 : Nat) (v : Option Value) (h : Heap) (L : List Loc) : Prop := ∃ vc : Addr, v = none ∧ Fr n0 L ∧ Keep h0 h [vb] ∧ h0.size ≤ vc ∧ Fld Z h vb "com/example/pattern_automaton/patternautomaton/CharBlock" "chars" "[C" (.ref vc) ∧ Fld Z h vb "com/example/pattern_automaton/patternautomaton/CharBlock" "filled" "I" (.int (0 : Int32)) ∧ Fld Z h vb "com/example/pattern_automaton/patternautomaton/CharBlock" "from" "I" (.int (0 : Int32)) ∧ Fld Z h vb "com/example/pattern_automaton/patternautomaton/CharBlock" "start" "J" (.long (0 : Int64)) ∧ Ary Z h vc .char (List.replicate hn (.int (0 : Int32)))
set_option maxRecDepth 65536 in
set_option maxHeartbeats 40000000 in
theorem rmbn (l : Launch) (Z : State) (a0 : Array Value) (hw : ∀ d ∈ tables_1, d.before a0 Z = true) (ws : List Jvm.Cond) (vb : Addr) (u0 : Int32) (hn : Nat) (h0 : Heap) (n0 : Nat) (Z0 : n0 ≤ h0.size) (E_vb : Exa Z h0 vb "com/example/pattern_automaton/patternautomaton/CharBlock") (F_chars_vb : Fld Z h0 vb "com/example/pattern_automaton/patternautomaton/CharBlock" "chars" "[C" .null) (F_filled_vb : Fld Z h0 vb "com/example/pattern_automaton/patternautomaton/CharBlock" "filled" "I" (.int (0 : Int32))) (F_from_vb : Fld Z h0 vb "com/example/pattern_automaton/patternautomaton/CharBlock" "from" "I" (.int (0 : Int32))) (F_start_vb : Fld Z h0 vb "com/example/pattern_automaton/patternautomaton/CharBlock" "start" "J" (.long (0 : Int64))) (g_vb : n0 ≤ vb) (hu : u0.toInt = (hn : Int)) (h8 : hn ≤ 8) :
    MetFree l (⟨"com/example/pattern_automaton/patternautomaton/CharBlock", "<init>", "(I)V"⟩ : MethodName) (head1 (Jvm.Cond.code (⟨"com/example/pattern_automaton/patternautomaton/CharBlock", "<init>", "(I)V"⟩ : MethodName) prog_10_method_1_code 2 none :: ws) ({ frames := 1, cells := 1, slots := 8, locals := 12 } : Room)) (fun a U => a = #[(.ref vb), (.int u0)] ∧ Z.Warmed39 U.vm ∧ U.heap = h0) (fun _ _ _ _ _ => True) (fun _ U o U' => ∃ v L, o = .returned v ∧ Qbn Z vb u0 hn h0 n0 v U'.heap L ∧ FrameEnd U o U' L 1 8) := by
  refine MetFree.of_bodySF (plainFor_of_name pn_10) hisR ?_
  intro p e s m args below meth c s₁ Bd hml0 hP hK
  obtain ⟨rfl, hZ, hh⟩ := hP
  have hx := Bd.exec
  have hby := Bd.bytes
  have hml : c.maxLocals = 2 := hml0
  have hown : s.vm.findClass "com/example/pattern_automaton/patternautomaton/CharBlock" = some m.cls := findClass_of_methodNamed Bd.named
  have hnm := (name_of_methodNamed Bd.named Bd.method).1
  have X0 : Stand p l e ({ frames := 1, cells := 1, slots := 8, locals := 12 } : Room) s m #[(.ref vb), (.int u0)] below meth c s₁ [] 0 0 := Stand.of_body Bd
  have e0 : s₁.heap = h0 := by rw [← hh, Bd.state]; rfl
  have N0 := Fr.nil n0
  have hlk : meth.locks = false := BodyLoose.notSynchronized Bd
  show Goal p e below s (Qbn Z vb u0 hn h0 n0) 1 8 (s₁.setTop (entryFrame m #[(.ref vb), (.int u0)] 2))
  refine Goal.to (B := s₁.setTop (mkF m 0 #[.val (.ref vb), .val (.int u0)] [])) (fun tt kk => castTop (ef_10 m vb u0 ) kk) ?_
  refine Goal.to (B := s₁.setTop (mkF m 1 #[.val (.ref vb), .val (.int u0)] [(.ref vb)])) (fun tt kk => ?_) ?_
  · show Steps p.tables e below (s₁.setTop (mkF m 0 #[.val (.ref vb), .val (.int u0)] [])) tt
    refine XS.aloadN X0.here hx rfl (hb hby d10_0) rfl rfl ?_
    exact kk
  obtain ⟨T1, X1, e1, st1⟩ := initO X0 hx hZ hown (hw _ (mw 61 rfl)) (hw _ (mw 12 rfl)) (hw _ (mw 13 rfl)) e0 (g := (mkF m 1 #[.val (.ref vb), .val (.int u0)] [(.ref vb)])) rfl (by rw [hml]; rfl) rfl (hb hby d10_1) (by decide) (W := 0) (by show 2 * 0 + _ ≤ _; exact Nat.le_of_eq rfl) (by decide)
  refine Goal.to (B := T1.setTop (mkF m 4 #[.val (.ref vb), .val (.int u0)] [])) st1 ?_
  refine Goal.to (B := T1.setTop (mkF m 6 #[.val (.ref vb), .val (.int u0)] [(.int u0), (.ref vb)])) (fun tt kk => ?_) ?_
  · show Steps p.tables e below (T1.setTop (mkF m 4 #[.val (.ref vb), .val (.int u0)] [])) tt
    refine XS.aloadN X1.here hx rfl (hb hby d10_4) rfl rfl ?_
    show Steps p.tables e below (T1.setTop (mkF m 5 #[.val (.ref vb), .val (.int u0)] [(.ref vb)])) tt
    refine XS.iloadN X1.here hx rfl (hb hby d10_5) rfl ?_
    exact kk
  obtain ⟨T2, h2, k2, X2, e2, E2, A2, st2⟩ := newP X1 hx hZ (hw _ (mw 0 rfl)) e1 (g := (mkF m 6 #[.val (.ref vb), .val (.int u0)] [(.int u0), (.ref vb)])) rfl (hb hby d10_6) rfl (own_nlt0 (by omega)) (cap := 8) (by show u0.toInt.toNat ≤ 8; omega) (by decide) (by decide) (by decide)
  obtain ⟨b2, g2⟩ : ∃ z, z = h0.size := ⟨_, rfl⟩
  rw [← g2] at A2 st2
  have ne_vb_b2 : vb ≠ b2 := Nat.ne_of_lt (Nat.lt_of_lt_of_le E_vb.lt (Nat.le_of_eq g2.symm))
  have g_b2 : n0 ≤ b2 := Nat.le_trans Z0 (Nat.le_of_eq g2.symm)
  have sz_b2 : h0.size ≤ b2 := Nat.le_trans (Keep.refl h0 [vb]).1 (Nat.le_of_eq g2.symm)
  have V2 : Ary Z h2 b2 .char (List.replicate hn (.int (0 : Int32))) := Ary.new A2 (by show u0.toInt.toNat = hn; omega)
  refine Goal.to (B := T2.setTop (mkF m 8 #[.val (.ref vb), .val (.int u0)] [(.ref b2), (.ref vb)])) st2 ?_
  have f3 : Fld Z h2 vb "com/example/pattern_automaton/patternautomaton/CharBlock" "chars" "[C" .null := (F_chars_vb.ext E2)
  have f4 : Exa Z h2 vb "com/example/pattern_automaton/patternautomaton/CharBlock" := (E_vb.ext E2)
  obtain ⟨T5, h5, X5, e5, W5, st5⟩ := putF X2 hx hZ hown (host := "") (Or.inl (hw _ (mw 62 rfl))) Via.refl e2 f3 f4 (Or.inr ⟨(hw _ (mw 63 rfl)), rfl, hnm⟩) (hw _ (mw 56 rfl)) (ty := (.array .char)) (by decide) rfl rfl (g := (mkF m 8 #[.val (.ref vb), .val (.int u0)] [(.ref b2), (.ref vb)])) rfl rfl (hb hby d10_8)
  have Fw5 : Fld Z h5 vb "com/example/pattern_automaton/patternautomaton/CharBlock" "chars" "[C" (.ref b2) := f3.same W5
  have N5 := Fr.snoc X5 N0 g_vb
  refine Goal.to (B := T5.setTop (mkF m 11 #[.val (.ref vb), .val (.int u0)] [])) st5 ?_
  have f6 : Keep h0 h5 [vb] := (((Keep.refl h0 [vb]).ext E2).wr W5 (Or.inl (List.mem_of_getElem? (i := 0) rfl)))
  have f7 : Fld Z h5 vb "com/example/pattern_automaton/patternautomaton/CharBlock" "filled" "I" (.int (0 : Int32)) := ((F_filled_vb.ext E2).other W5 (Or.inr (slot_ne (Or.inl (hw _ (mw 70 rfl))) (Or.inr (hw _ (mw 63 rfl))) (by decide) (t := .int) (t' := (.array .char)) (by decide) (by decide))))
  have f8 : Fld Z h5 vb "com/example/pattern_automaton/patternautomaton/CharBlock" "from" "I" (.int (0 : Int32)) := ((F_from_vb.ext E2).other W5 (Or.inr (slot_ne (Or.inl (hw _ (mw 136 rfl))) (Or.inr (hw _ (mw 63 rfl))) (by decide) (t := .int) (t' := (.array .char)) (by decide) (by decide))))
  have f9 : Fld Z h5 vb "com/example/pattern_automaton/patternautomaton/CharBlock" "start" "J" (.long (0 : Int64)) := ((F_start_vb.ext E2).other W5 (Or.inr (slot_ne (Or.inl (hw _ (mw 143 rfl))) (Or.inr (hw _ (mw 63 rfl))) (by decide) (t := .long) (t' := (.array .char)) (by decide) (by decide))))
  have f10 : Ary Z h5 b2 .char (List.replicate hn (.int (0 : Int32))) := (V2.other W5 (Ne.symm ne_vb_b2))
  exact Goal.retN X5 hx Bd.returns (hb hby d10_11) hlk e5 ⟨b2, rfl, N5, f6, sz_b2, Fw5, f7, f8, f9, f10⟩ (by decide) (by decide)
theorem ef_23 (m : MethodId) (x0 : Addr)  : entryFrame m #[(.ref x0)] 1 = mkF m 0 #[.val (.ref x0)] [] := by first | (simp [entryFrame, mkF, argsToLocals, Value.category]; done) | rfl
theorem pn_23 : plainName "com/example/pattern_automaton/patternautomaton/CharBlock" = true := by first | (simp [plainName, overriddenIn]; done) | decide +kernel
theorem d23_0 : decode prog_10_method_5_code 0 = .ok (.aload_n 0, 1) := by decide +kernel
theorem d23_1 : decode prog_10_method_5_code 1 = .ok (.getfield 21, 3) := by decide +kernel
theorem d23_4 : decode prog_10_method_5_code 4 = .ok (.ireturn, 1) := by decide +kernel
def Qfd (Z : State) (vb : Addr) (u0 : Int32) (h0 : Heap) (n0 : Nat) (v : Option Value) (h : Heap) (L : List Loc) : Prop := v = some (.int u0) ∧ Fr n0 L ∧ h = h0
set_option maxRecDepth 65536 in
set_option maxHeartbeats 40000000 in
theorem rmfd (l : Launch) (Z : State) (a0 : Array Value) (hw : ∀ d ∈ tables_1, d.before a0 Z = true) (ws : List Jvm.Cond) (vb : Addr) (u0 : Int32) (h0 : Heap) (n0 : Nat) (Z0 : n0 ≤ h0.size) (F_filled_vb : Fld Z h0 vb "com/example/pattern_automaton/patternautomaton/CharBlock" "filled" "I" (.int u0)) :
    MetFree l (⟨"com/example/pattern_automaton/patternautomaton/CharBlock", "filled", "()I"⟩ : MethodName) (head1 (Jvm.Cond.code (⟨"com/example/pattern_automaton/patternautomaton/CharBlock", "filled", "()I"⟩ : MethodName) prog_10_method_5_code 1 (some .int) :: ws) ({ frames := 0, cells := 0, slots := 0, locals := 0 } : Room)) (fun a U => a = #[(.ref vb)] ∧ Z.Warmed39 U.vm ∧ U.heap = h0) (fun _ _ _ _ _ => True) (fun _ U o U' => ∃ v L, o = .returned v ∧ Qfd Z vb u0 h0 n0 v U'.heap L ∧ FrameEnd U o U' L 0 0) := by
  refine MetFree.of_bodySF (plainFor_of_name pn_23) hisR ?_
  intro p e s m args below meth c s₁ Bd hml0 hP hK
  obtain ⟨rfl, hZ, hh⟩ := hP
  have hx := Bd.exec
  have hby := Bd.bytes
  have hml : c.maxLocals = 1 := hml0
  have hown : s.vm.findClass "com/example/pattern_automaton/patternautomaton/CharBlock" = some m.cls := findClass_of_methodNamed Bd.named
  have hnm := (name_of_methodNamed Bd.named Bd.method).1
  have X0 : Stand p l e ({ frames := 0, cells := 0, slots := 0, locals := 0 } : Room) s m #[(.ref vb)] below meth c s₁ [] 0 0 := Stand.of_body Bd
  have e0 : s₁.heap = h0 := by rw [← hh, Bd.state]; rfl
  have N0 := Fr.nil n0
  have hlk : meth.locks = false := BodyLoose.notSynchronized Bd
  show Goal p e below s (Qfd Z vb u0 h0 n0) 0 0 (s₁.setTop (entryFrame m #[(.ref vb)] 1))
  refine Goal.to (B := s₁.setTop (mkF m 0 #[.val (.ref vb)] [])) (fun tt kk => castTop (ef_23 m vb ) kk) ?_
  refine Goal.to (B := s₁.setTop (mkF m 1 #[.val (.ref vb)] [(.ref vb)])) (fun tt kk => ?_) ?_
  · show Steps p.tables e below (s₁.setTop (mkF m 0 #[.val (.ref vb)] [])) tt
    refine XS.aloadN X0.here hx rfl (hb hby d23_0) rfl rfl ?_
    exact kk
  obtain ⟨T1, X1, e1, st1⟩ := getF X0 hx hZ hown (host := "") (Or.inl (hw _ (mw 69 rfl))) Via.refl e0 F_filled_vb (g := (mkF m 1 #[.val (.ref vb)] [(.ref vb)])) rfl rfl (hb hby d23_1)
  refine Goal.to (B := T1.setTop (mkF m 4 #[.val (.ref vb)] [(.int u0)])) st1 ?_
  exact Goal.retV X1 hx Bd.returns rfl (Or.inl ⟨rfl, Or.inl rfl, _, rfl⟩) (hb hby d23_4) hlk e1 ⟨rfl, N0, rfl⟩ (by decide) (by decide)
theorem ef_28 (m : MethodId) (x0 : Addr)  : entryFrame m #[(.ref x0)] 1 = mkF m 0 #[.val (.ref x0)] [] := by first | (simp [entryFrame, mkF, argsToLocals, Value.category]; done) | rfl
theorem pn_28 : plainName "com/example/pattern_automaton/patternautomaton/CharBlock" = true := by first | (simp [plainName, overriddenIn]; done) | decide +kernel
theorem d28_0 : decode prog_10_method_4_code 0 = .ok (.aload_n 0, 1) := by decide +kernel
theorem d28_1 : decode prog_10_method_4_code 1 = .ok (.getfield 17, 3) := by decide +kernel
theorem d28_4 : decode prog_10_method_4_code 4 = .ok (.ireturn, 1) := by decide +kernel
def Qfr (Z : State) (vb : Addr) (u0 : Int32) (h0 : Heap) (n0 : Nat) (v : Option Value) (h : Heap) (L : List Loc) : Prop := v = some (.int u0) ∧ Fr n0 L ∧ h = h0
set_option maxRecDepth 65536 in
set_option maxHeartbeats 40000000 in
theorem rmfr (l : Launch) (Z : State) (a0 : Array Value) (hw : ∀ d ∈ tables_1, d.before a0 Z = true) (ws : List Jvm.Cond) (vb : Addr) (u0 : Int32) (h0 : Heap) (n0 : Nat) (Z0 : n0 ≤ h0.size) (F_from_vb : Fld Z h0 vb "com/example/pattern_automaton/patternautomaton/CharBlock" "from" "I" (.int u0)) :
    MetFree l (⟨"com/example/pattern_automaton/patternautomaton/CharBlock", "from", "()I"⟩ : MethodName) (head1 (Jvm.Cond.code (⟨"com/example/pattern_automaton/patternautomaton/CharBlock", "from", "()I"⟩ : MethodName) prog_10_method_4_code 1 (some .int) :: ws) ({ frames := 0, cells := 0, slots := 0, locals := 0 } : Room)) (fun a U => a = #[(.ref vb)] ∧ Z.Warmed39 U.vm ∧ U.heap = h0) (fun _ _ _ _ _ => True) (fun _ U o U' => ∃ v L, o = .returned v ∧ Qfr Z vb u0 h0 n0 v U'.heap L ∧ FrameEnd U o U' L 0 0) := by
  refine MetFree.of_bodySF (plainFor_of_name pn_28) hisR ?_
  intro p e s m args below meth c s₁ Bd hml0 hP hK
  obtain ⟨rfl, hZ, hh⟩ := hP
  have hx := Bd.exec
  have hby := Bd.bytes
  have hml : c.maxLocals = 1 := hml0
  have hown : s.vm.findClass "com/example/pattern_automaton/patternautomaton/CharBlock" = some m.cls := findClass_of_methodNamed Bd.named
  have hnm := (name_of_methodNamed Bd.named Bd.method).1
  have X0 : Stand p l e ({ frames := 0, cells := 0, slots := 0, locals := 0 } : Room) s m #[(.ref vb)] below meth c s₁ [] 0 0 := Stand.of_body Bd
  have e0 : s₁.heap = h0 := by rw [← hh, Bd.state]; rfl
  have N0 := Fr.nil n0
  have hlk : meth.locks = false := BodyLoose.notSynchronized Bd
  show Goal p e below s (Qfr Z vb u0 h0 n0) 0 0 (s₁.setTop (entryFrame m #[(.ref vb)] 1))
  refine Goal.to (B := s₁.setTop (mkF m 0 #[.val (.ref vb)] [])) (fun tt kk => castTop (ef_28 m vb ) kk) ?_
  refine Goal.to (B := s₁.setTop (mkF m 1 #[.val (.ref vb)] [(.ref vb)])) (fun tt kk => ?_) ?_
  · show Steps p.tables e below (s₁.setTop (mkF m 0 #[.val (.ref vb)] [])) tt
    refine XS.aloadN X0.here hx rfl (hb hby d28_0) rfl rfl ?_
    exact kk
  obtain ⟨T1, X1, e1, st1⟩ := getF X0 hx hZ hown (host := "") (Or.inl (hw _ (mw 135 rfl))) Via.refl e0 F_from_vb (g := (mkF m 1 #[.val (.ref vb)] [(.ref vb)])) rfl rfl (hb hby d28_1)
  refine Goal.to (B := T1.setTop (mkF m 4 #[.val (.ref vb)] [(.int u0)])) st1 ?_
  exact Goal.retV X1 hx Bd.returns rfl (Or.inl ⟨rfl, Or.inl rfl, _, rfl⟩) (hb hby d28_4) hlk e1 ⟨rfl, N0, rfl⟩ (by decide) (by decide)
theorem ef_25 (m : MethodId) (x0 : Addr)  : entryFrame m #[(.ref x0)] 1 = mkF m 0 #[.val (.ref x0)] [] := by first | (simp [entryFrame, mkF, argsToLocals, Value.category]; done) | rfl
theorem pn_25 : plainName "com/example/pattern_automaton/patternautomaton/CharBlock" = true := by first | (simp [plainName, overriddenIn]; done) | decide +kernel
theorem d25_0 : decode prog_10_method_3_code 0 = .ok (.aload_n 0, 1) := by decide +kernel
theorem d25_1 : decode prog_10_method_3_code 1 = .ok (.getfield 13, 3) := by decide +kernel
theorem d25_4 : decode prog_10_method_3_code 4 = .ok (.lreturn, 1) := by decide +kernel
def Qsj (Z : State) (vb : Addr) (u0 : Int64) (h0 : Heap) (n0 : Nat) (v : Option Value) (h : Heap) (L : List Loc) : Prop := v = some (.long u0) ∧ Fr n0 L ∧ h = h0
set_option maxRecDepth 65536 in
set_option maxHeartbeats 40000000 in
theorem rmsj (l : Launch) (Z : State) (a0 : Array Value) (hw : ∀ d ∈ tables_1, d.before a0 Z = true) (ws : List Jvm.Cond) (vb : Addr) (u0 : Int64) (h0 : Heap) (n0 : Nat) (Z0 : n0 ≤ h0.size) (F_start_vb : Fld Z h0 vb "com/example/pattern_automaton/patternautomaton/CharBlock" "start" "J" (.long u0)) :
    MetFree l (⟨"com/example/pattern_automaton/patternautomaton/CharBlock", "start", "()J"⟩ : MethodName) (head1 (Jvm.Cond.code (⟨"com/example/pattern_automaton/patternautomaton/CharBlock", "start", "()J"⟩ : MethodName) prog_10_method_3_code 1 (some .long) :: ws) ({ frames := 0, cells := 0, slots := 0, locals := 0 } : Room)) (fun a U => a = #[(.ref vb)] ∧ Z.Warmed39 U.vm ∧ U.heap = h0) (fun _ _ _ _ _ => True) (fun _ U o U' => ∃ v L, o = .returned v ∧ Qsj Z vb u0 h0 n0 v U'.heap L ∧ FrameEnd U o U' L 0 0) := by
  refine MetFree.of_bodySF (plainFor_of_name pn_25) hisR ?_
  intro p e s m args below meth c s₁ Bd hml0 hP hK
  obtain ⟨rfl, hZ, hh⟩ := hP
  have hx := Bd.exec
  have hby := Bd.bytes
  have hml : c.maxLocals = 1 := hml0
  have hown : s.vm.findClass "com/example/pattern_automaton/patternautomaton/CharBlock" = some m.cls := findClass_of_methodNamed Bd.named
  have hnm := (name_of_methodNamed Bd.named Bd.method).1
  have X0 : Stand p l e ({ frames := 0, cells := 0, slots := 0, locals := 0 } : Room) s m #[(.ref vb)] below meth c s₁ [] 0 0 := Stand.of_body Bd
  have e0 : s₁.heap = h0 := by rw [← hh, Bd.state]; rfl
  have N0 := Fr.nil n0
  have hlk : meth.locks = false := BodyLoose.notSynchronized Bd
  show Goal p e below s (Qsj Z vb u0 h0 n0) 0 0 (s₁.setTop (entryFrame m #[(.ref vb)] 1))
  refine Goal.to (B := s₁.setTop (mkF m 0 #[.val (.ref vb)] [])) (fun tt kk => castTop (ef_25 m vb ) kk) ?_
  refine Goal.to (B := s₁.setTop (mkF m 1 #[.val (.ref vb)] [(.ref vb)])) (fun tt kk => ?_) ?_
  · show Steps p.tables e below (s₁.setTop (mkF m 0 #[.val (.ref vb)] [])) tt
    refine XS.aloadN X0.here hx rfl (hb hby d25_0) rfl rfl ?_
    exact kk
  obtain ⟨T1, X1, e1, st1⟩ := getF X0 hx hZ hown (host := "") (Or.inl (hw _ (mw 142 rfl))) Via.refl e0 F_start_vb (g := (mkF m 1 #[.val (.ref vb)] [(.ref vb)])) rfl rfl (hb hby d25_1)
  refine Goal.to (B := T1.setTop (mkF m 4 #[.val (.ref vb)] [(.long u0)])) st1 ?_
  exact Goal.retV X1 hx Bd.returns rfl (Or.inr (Or.inl ⟨rfl, rfl, _, rfl⟩)) (hb hby d25_4) hlk e1 ⟨rfl, N0, rfl⟩ (by decide) (by decide)
theorem ef_24 (m : MethodId) (x0 : Addr) (x1 : Int32)  : entryFrame m #[(.ref x0), (.int x1)] 2 = mkF m 0 #[.val (.ref x0), .val (.int x1)] [] := by first | (simp [entryFrame, mkF, argsToLocals, Value.category]; done) | rfl
theorem pn_24 : plainName "com/example/pattern_automaton/patternautomaton/CharBlock" = true := by first | (simp [plainName, overriddenIn]; done) | decide +kernel
theorem d24_0 : decode prog_10_method_7_code 0 = .ok (.aload_n 0, 1) := by decide +kernel
theorem d24_1 : decode prog_10_method_7_code 1 = .ok (.iload_n 1, 1) := by decide +kernel
theorem d24_2 : decode prog_10_method_7_code 2 = .ok (.putfield 17, 3) := by decide +kernel
theorem d24_5 : decode prog_10_method_7_code 5 = .ok (.return_, 1) := by decide +kernel
def Qnw (Z : State) (vb : Addr) (vc : Addr) (fl : Int32) (fr : Int32) (sj : Int64) (u0 : Int32) (h0 : Heap) (n0 : Nat) (v : Option Value) (h : Heap) (L : List Loc) : Prop := v = none ∧ Fr n0 L ∧ Keep h0 h [vb] ∧ Fld Z h vb "com/example/pattern_automaton/patternautomaton/CharBlock" "chars" "[C" (.ref vc) ∧ Fld Z h vb "com/example/pattern_automaton/patternautomaton/CharBlock" "filled" "I" (.int fl) ∧ Fld Z h vb "com/example/pattern_automaton/patternautomaton/CharBlock" "from" "I" (.int u0) ∧ Fld Z h vb "com/example/pattern_automaton/patternautomaton/CharBlock" "start" "J" (.long sj)
set_option maxRecDepth 65536 in
set_option maxHeartbeats 40000000 in
theorem rmnw (l : Launch) (Z : State) (a0 : Array Value) (hw : ∀ d ∈ tables_1, d.before a0 Z = true) (ws : List Jvm.Cond) (vb : Addr) (vc : Addr) (fl : Int32) (fr : Int32) (sj : Int64) (u0 : Int32) (h0 : Heap) (n0 : Nat) (Z0 : n0 ≤ h0.size) (E_vb : Exa Z h0 vb "com/example/pattern_automaton/patternautomaton/CharBlock") (F_chars_vb : Fld Z h0 vb "com/example/pattern_automaton/patternautomaton/CharBlock" "chars" "[C" (.ref vc)) (F_filled_vb : Fld Z h0 vb "com/example/pattern_automaton/patternautomaton/CharBlock" "filled" "I" (.int fl)) (F_from_vb : Fld Z h0 vb "com/example/pattern_automaton/patternautomaton/CharBlock" "from" "I" (.int fr)) (F_start_vb : Fld Z h0 vb "com/example/pattern_automaton/patternautomaton/CharBlock" "start" "J" (.long sj)) (g_vb : n0 ≤ vb) :
    MetFree l (⟨"com/example/pattern_automaton/patternautomaton/CharBlock", "nextWalkFrom", "(I)V"⟩ : MethodName) (head1 (Jvm.Cond.code (⟨"com/example/pattern_automaton/patternautomaton/CharBlock", "nextWalkFrom", "(I)V"⟩ : MethodName) prog_10_method_7_code 2 none :: ws) ({ frames := 0, cells := 0, slots := 0, locals := 0 } : Room)) (fun a U => a = #[(.ref vb), (.int u0)] ∧ Z.Warmed39 U.vm ∧ U.heap = h0) (fun _ _ _ _ _ => True) (fun _ U o U' => ∃ v L, o = .returned v ∧ Qnw Z vb vc fl fr sj u0 h0 n0 v U'.heap L ∧ FrameEnd U o U' L 0 0) := by
  refine MetFree.of_bodySF (plainFor_of_name pn_24) hisR ?_
  intro p e s m args below meth c s₁ Bd hml0 hP hK
  obtain ⟨rfl, hZ, hh⟩ := hP
  have hx := Bd.exec
  have hby := Bd.bytes
  have hml : c.maxLocals = 2 := hml0
  have hown : s.vm.findClass "com/example/pattern_automaton/patternautomaton/CharBlock" = some m.cls := findClass_of_methodNamed Bd.named
  have hnm := (name_of_methodNamed Bd.named Bd.method).1
  have X0 : Stand p l e ({ frames := 0, cells := 0, slots := 0, locals := 0 } : Room) s m #[(.ref vb), (.int u0)] below meth c s₁ [] 0 0 := Stand.of_body Bd
  have e0 : s₁.heap = h0 := by rw [← hh, Bd.state]; rfl
  have N0 := Fr.nil n0
  have hlk : meth.locks = false := BodyLoose.notSynchronized Bd
  show Goal p e below s (Qnw Z vb vc fl fr sj u0 h0 n0) 0 0 (s₁.setTop (entryFrame m #[(.ref vb), (.int u0)] 2))
  refine Goal.to (B := s₁.setTop (mkF m 0 #[.val (.ref vb), .val (.int u0)] [])) (fun tt kk => castTop (ef_24 m vb u0 ) kk) ?_
  refine Goal.to (B := s₁.setTop (mkF m 2 #[.val (.ref vb), .val (.int u0)] [(.int u0), (.ref vb)])) (fun tt kk => ?_) ?_
  · show Steps p.tables e below (s₁.setTop (mkF m 0 #[.val (.ref vb), .val (.int u0)] [])) tt
    refine XS.aloadN X0.here hx rfl (hb hby d24_0) rfl rfl ?_
    show Steps p.tables e below (s₁.setTop (mkF m 1 #[.val (.ref vb), .val (.int u0)] [(.ref vb)])) tt
    refine XS.iloadN X0.here hx rfl (hb hby d24_1) rfl ?_
    exact kk
  obtain ⟨T1, h1, X1, e1, W1, st1⟩ := putF X0 hx hZ hown (host := "") (Or.inl (hw _ (mw 135 rfl))) Via.refl e0 F_from_vb E_vb (Or.inl (hw _ (mw 136 rfl))) (hw _ (mw 56 rfl)) (ty := .int) (by decide) rfl rfl (g := (mkF m 2 #[.val (.ref vb), .val (.int u0)] [(.int u0), (.ref vb)])) rfl rfl (hb hby d24_2)
  have Fw1 : Fld Z h1 vb "com/example/pattern_automaton/patternautomaton/CharBlock" "from" "I" (.int u0) := F_from_vb.same W1
  have N1 := Fr.snoc X1 N0 g_vb
  refine Goal.to (B := T1.setTop (mkF m 5 #[.val (.ref vb), .val (.int u0)] [])) st1 ?_
  have f2 : Keep h0 h1 [vb] := ((Keep.refl h0 [vb]).wr W1 (Or.inl (List.mem_of_getElem? (i := 0) rfl)))
  have f3 : Fld Z h1 vb "com/example/pattern_automaton/patternautomaton/CharBlock" "chars" "[C" (.ref vc) := (F_chars_vb.other W1 (Or.inr (slot_ne (Or.inr (hw _ (mw 63 rfl))) (Or.inl (hw _ (mw 136 rfl))) (by decide) (t := (.array .char)) (t' := .int) (by decide) (by decide))))
  have f4 : Fld Z h1 vb "com/example/pattern_automaton/patternautomaton/CharBlock" "filled" "I" (.int fl) := (F_filled_vb.other W1 (Or.inr (slot_ne (Or.inl (hw _ (mw 70 rfl))) (Or.inl (hw _ (mw 136 rfl))) (by decide) (t := .int) (t' := .int) (by decide) (by decide))))
  have f5 : Fld Z h1 vb "com/example/pattern_automaton/patternautomaton/CharBlock" "start" "J" (.long sj) := (F_start_vb.other W1 (Or.inr (slot_ne (Or.inl (hw _ (mw 143 rfl))) (Or.inl (hw _ (mw 136 rfl))) (by decide) (t := .long) (t' := .int) (by decide) (by decide))))
  exact Goal.retN X1 hx Bd.returns (hb hby d24_5) hlk e1 ⟨rfl, N1, f2, f3, f4, Fw1, f5⟩ (by decide) (by decide)
theorem ef_27 (m : MethodId) (x0 : Addr) (x1 : Int64)  : entryFrame m #[(.ref x0), (.long x1)] 3 = mkF m 0 #[.val (.ref x0), .val (.long x1), .second] [] := by first | (simp [entryFrame, mkF, argsToLocals, Value.category]; done) | rfl
theorem pn_27 : plainName "com/example/pattern_automaton/patternautomaton/CharBlock" = true := by first | (simp [plainName, overriddenIn]; done) | decide +kernel
theorem d27_0 : decode prog_10_method_8_code 0 = .ok (.aload_n 0, 1) := by decide +kernel
theorem d27_1 : decode prog_10_method_8_code 1 = .ok (.getfield 13, 3) := by decide +kernel
theorem d27_4 : decode prog_10_method_8_code 4 = .ok (.aload_n 0, 1) := by decide +kernel
theorem d27_5 : decode prog_10_method_8_code 5 = .ok (.getfield 21, 3) := by decide +kernel
theorem d27_8 : decode prog_10_method_8_code 8 = .ok (.i2l, 1) := by decide +kernel
theorem d27_9 : decode prog_10_method_8_code 9 = .ok (.ladd, 1) := by decide +kernel
theorem d27_10 : decode prog_10_method_8_code 10 = .ok (.lload_n 1, 1) := by decide +kernel
theorem d27_11 : decode prog_10_method_8_code 11 = .ok (.lcmp, 1) := by decide +kernel
theorem d27_12 : decode prog_10_method_8_code 12 = .ok (.ifCond .le 22, 3) := by decide +kernel
theorem d27_15 : decode prog_10_method_8_code 15 = .ok (.aload_n 0, 1) := by decide +kernel
theorem d27_16 : decode prog_10_method_8_code 16 = .ok (.lload_n 1, 1) := by decide +kernel
theorem d27_17 : decode prog_10_method_8_code 17 = .ok (.aload_n 0, 1) := by decide +kernel
theorem d27_18 : decode prog_10_method_8_code 18 = .ok (.getfield 13, 3) := by decide +kernel
theorem d27_21 : decode prog_10_method_8_code 21 = .ok (.lsub, 1) := by decide +kernel
theorem d27_22 : decode prog_10_method_8_code 22 = .ok (.l2i, 1) := by decide +kernel
theorem d27_23 : decode prog_10_method_8_code 23 = .ok (.putfield 21, 3) := by decide +kernel
theorem d27_26 : decode prog_10_method_8_code 26 = .ok (.aload_n 0, 1) := by decide +kernel
theorem d27_27 : decode prog_10_method_8_code 27 = .ok (.aload_n 0, 1) := by decide +kernel
theorem d27_28 : decode prog_10_method_8_code 28 = .ok (.getfield 21, 3) := by decide +kernel
theorem d27_31 : decode prog_10_method_8_code 31 = .ok (.putfield 17, 3) := by decide +kernel
theorem d27_34 : decode prog_10_method_8_code 34 = .ok (.return_, 1) := by decide +kernel
def Qct1 (Z : State) (vb : Addr) (vc : Addr) (fl : Int32) (fr : Int32) (sj : Int64) (u0 : Int64) (h0 : Heap) (n0 : Nat) (v : Option Value) (h : Heap) (L : List Loc) : Prop := v = none ∧ Fr n0 L ∧ Keep h0 h [vb] ∧ Fld Z h vb "com/example/pattern_automaton/patternautomaton/CharBlock" "chars" "[C" (.ref vc) ∧ Fld Z h vb "com/example/pattern_automaton/patternautomaton/CharBlock" "filled" "I" (.int ((u0 - sj).toInt32)) ∧ Fld Z h vb "com/example/pattern_automaton/patternautomaton/CharBlock" "from" "I" (.int ((u0 - sj).toInt32)) ∧ Fld Z h vb "com/example/pattern_automaton/patternautomaton/CharBlock" "start" "J" (.long sj)
set_option maxRecDepth 65536 in
set_option maxHeartbeats 40000000 in
theorem rmct1 (l : Launch) (Z : State) (a0 : Array Value) (hw : ∀ d ∈ tables_1, d.before a0 Z = true) (ws : List Jvm.Cond) (vb : Addr) (vc : Addr) (fl : Int32) (fr : Int32) (sj : Int64) (u0 : Int64) (h0 : Heap) (n0 : Nat) (Z0 : n0 ≤ h0.size) (E_vb : Exa Z h0 vb "com/example/pattern_automaton/patternautomaton/CharBlock") (F_chars_vb : Fld Z h0 vb "com/example/pattern_automaton/patternautomaton/CharBlock" "chars" "[C" (.ref vc)) (F_filled_vb : Fld Z h0 vb "com/example/pattern_automaton/patternautomaton/CharBlock" "filled" "I" (.int fl)) (F_from_vb : Fld Z h0 vb "com/example/pattern_automaton/patternautomaton/CharBlock" "from" "I" (.int fr)) (F_start_vb : Fld Z h0 vb "com/example/pattern_automaton/patternautomaton/CharBlock" "start" "J" (.long sj)) (g_vb : n0 ≤ vb) (hc : (0 : Int32) < (lcmpW (sj + (fl.toInt64)) u0)) :
    MetFree l (⟨"com/example/pattern_automaton/patternautomaton/CharBlock", "cutTo", "(J)V"⟩ : MethodName) (head1 (Jvm.Cond.code (⟨"com/example/pattern_automaton/patternautomaton/CharBlock", "cutTo", "(J)V"⟩ : MethodName) prog_10_method_8_code 3 none :: ws) ({ frames := 0, cells := 0, slots := 0, locals := 0 } : Room)) (fun a U => a = #[(.ref vb), (.long u0)] ∧ Z.Warmed39 U.vm ∧ U.heap = h0) (fun _ _ _ _ _ => True) (fun _ U o U' => ∃ v L, o = .returned v ∧ Qct1 Z vb vc fl fr sj u0 h0 n0 v U'.heap L ∧ FrameEnd U o U' L 0 0) := by
  refine MetFree.of_bodySF (plainFor_of_name pn_27) hisR ?_
  intro p e s m args below meth c s₁ Bd hml0 hP hK
  obtain ⟨rfl, hZ, hh⟩ := hP
  have hx := Bd.exec
  have hby := Bd.bytes
  have hml : c.maxLocals = 3 := hml0
  have hown : s.vm.findClass "com/example/pattern_automaton/patternautomaton/CharBlock" = some m.cls := findClass_of_methodNamed Bd.named
  have hnm := (name_of_methodNamed Bd.named Bd.method).1
  have X0 : Stand p l e ({ frames := 0, cells := 0, slots := 0, locals := 0 } : Room) s m #[(.ref vb), (.long u0)] below meth c s₁ [] 0 0 := Stand.of_body Bd
  have e0 : s₁.heap = h0 := by rw [← hh, Bd.state]; rfl
  have N0 := Fr.nil n0
  have hlk : meth.locks = false := BodyLoose.notSynchronized Bd
  show Goal p e below s (Qct1 Z vb vc fl fr sj u0 h0 n0) 0 0 (s₁.setTop (entryFrame m #[(.ref vb), (.long u0)] 3))
  refine Goal.to (B := s₁.setTop (mkF m 0 #[.val (.ref vb), .val (.long u0), .second] [])) (fun tt kk => castTop (ef_27 m vb u0 ) kk) ?_
  refine Goal.to (B := s₁.setTop (mkF m 1 #[.val (.ref vb), .val (.long u0), .second] [(.ref vb)])) (fun tt kk => ?_) ?_
  · show Steps p.tables e below (s₁.setTop (mkF m 0 #[.val (.ref vb), .val (.long u0), .second] [])) tt
    refine XS.aloadN X0.here hx rfl (hb hby d27_0) rfl rfl ?_
    exact kk
  obtain ⟨T1, X1, e1, st1⟩ := getF X0 hx hZ hown (host := "") (Or.inl (hw _ (mw 142 rfl))) Via.refl e0 F_start_vb (g := (mkF m 1 #[.val (.ref vb), .val (.long u0), .second] [(.ref vb)])) rfl rfl (hb hby d27_1)
  refine Goal.to (B := T1.setTop (mkF m 4 #[.val (.ref vb), .val (.long u0), .second] [(.long sj)])) st1 ?_
  refine Goal.to (B := T1.setTop (mkF m 5 #[.val (.ref vb), .val (.long u0), .second] [(.ref vb), (.long sj)])) (fun tt kk => ?_) ?_
  · show Steps p.tables e below (T1.setTop (mkF m 4 #[.val (.ref vb), .val (.long u0), .second] [(.long sj)])) tt
    refine XS.aloadN X1.here hx rfl (hb hby d27_4) rfl rfl ?_
    exact kk
  obtain ⟨T2, X2, e2, st2⟩ := getF X1 hx hZ hown (host := "") (Or.inl (hw _ (mw 69 rfl))) Via.refl e1 F_filled_vb (g := (mkF m 5 #[.val (.ref vb), .val (.long u0), .second] [(.ref vb), (.long sj)])) rfl rfl (hb hby d27_5)
  refine Goal.to (B := T2.setTop (mkF m 8 #[.val (.ref vb), .val (.long u0), .second] [(.int fl), (.long sj)])) st2 ?_
  refine Goal.to (B := T2.setTop (mkF m 18 #[.val (.ref vb), .val (.long u0), .second] [(.ref vb), (.long u0), (.ref vb)])) (fun tt kk => ?_) ?_
  · show Steps p.tables e below (T2.setTop (mkF m 8 #[.val (.ref vb), .val (.long u0), .second] [(.int fl), (.long sj)])) tt
    refine XS.i2l X2.here hx rfl (hb hby d27_8) rfl ?_
    show Steps p.tables e below (T2.setTop (mkF m 9 #[.val (.ref vb), .val (.long u0), .second] [(.long (fl.toInt64)), (.long sj)])) tt
    refine XS.ladd X2.here hx rfl (hb hby d27_9) rfl ?_
    show Steps p.tables e below (T2.setTop (mkF m 10 #[.val (.ref vb), .val (.long u0), .second] [(.long (sj + (fl.toInt64)))])) tt
    refine XS.lloadN X2.here hx rfl (hb hby d27_10) rfl ?_
    show Steps p.tables e below (T2.setTop (mkF m 11 #[.val (.ref vb), .val (.long u0), .second] [(.long u0), (.long (sj + (fl.toInt64)))])) tt
    refine XS.lcmp X2.here hx rfl (hb hby d27_11) rfl ?_
    show Steps p.tables e below (T2.setTop (mkF m 12 #[.val (.ref vb), .val (.long u0), .second] [(.int (lcmpW (sj + (fl.toInt64)) u0))])) tt
    refine XS.ifNo X2.here hx rfl (hb hby d27_12) rfl ((if0 _ _).trans (tlt hc).2.2.2) ?_
    show Steps p.tables e below (T2.setTop (mkF m 15 #[.val (.ref vb), .val (.long u0), .second] [])) tt
    refine XS.aloadN X2.here hx rfl (hb hby d27_15) rfl rfl ?_
    show Steps p.tables e below (T2.setTop (mkF m 16 #[.val (.ref vb), .val (.long u0), .second] [(.ref vb)])) tt
    refine XS.lloadN X2.here hx rfl (hb hby d27_16) rfl ?_
    show Steps p.tables e below (T2.setTop (mkF m 17 #[.val (.ref vb), .val (.long u0), .second] [(.long u0), (.ref vb)])) tt
    refine XS.aloadN X2.here hx rfl (hb hby d27_17) rfl rfl ?_
    exact kk
  obtain ⟨T3, X3, e3, st3⟩ := getF X2 hx hZ hown (host := "") (Or.inl (hw _ (mw 142 rfl))) Via.refl e2 F_start_vb (g := (mkF m 18 #[.val (.ref vb), .val (.long u0), .second] [(.ref vb), (.long u0), (.ref vb)])) rfl rfl (hb hby d27_18)
  refine Goal.to (B := T3.setTop (mkF m 21 #[.val (.ref vb), .val (.long u0), .second] [(.long sj), (.long u0), (.ref vb)])) st3 ?_
  refine Goal.to (B := T3.setTop (mkF m 23 #[.val (.ref vb), .val (.long u0), .second] [(.int ((u0 - sj).toInt32)), (.ref vb)])) (fun tt kk => ?_) ?_
  · show Steps p.tables e below (T3.setTop (mkF m 21 #[.val (.ref vb), .val (.long u0), .second] [(.long sj), (.long u0), (.ref vb)])) tt
    refine XS.lsub X3.here hx rfl (hb hby d27_21) rfl ?_
    show Steps p.tables e below (T3.setTop (mkF m 22 #[.val (.ref vb), .val (.long u0), .second] [(.long (u0 - sj)), (.ref vb)])) tt
    refine XS.l2i X3.here hx rfl (hb hby d27_22) rfl ?_
    exact kk
  obtain ⟨T4, h4, X4, e4, W4, st4⟩ := putF X3 hx hZ hown (host := "") (Or.inl (hw _ (mw 69 rfl))) Via.refl e3 F_filled_vb E_vb (Or.inl (hw _ (mw 70 rfl))) (hw _ (mw 56 rfl)) (ty := .int) (by decide) rfl rfl (g := (mkF m 23 #[.val (.ref vb), .val (.long u0), .second] [(.int ((u0 - sj).toInt32)), (.ref vb)])) rfl rfl (hb hby d27_23)
  have Fw4 : Fld Z h4 vb "com/example/pattern_automaton/patternautomaton/CharBlock" "filled" "I" (.int ((u0 - sj).toInt32)) := F_filled_vb.same W4
  have N4 := Fr.snoc X4 N0 g_vb
  refine Goal.to (B := T4.setTop (mkF m 26 #[.val (.ref vb), .val (.long u0), .second] [])) st4 ?_
  refine Goal.to (B := T4.setTop (mkF m 28 #[.val (.ref vb), .val (.long u0), .second] [(.ref vb), (.ref vb)])) (fun tt kk => ?_) ?_
  · show Steps p.tables e below (T4.setTop (mkF m 26 #[.val (.ref vb), .val (.long u0), .second] [])) tt
    refine XS.aloadN X4.here hx rfl (hb hby d27_26) rfl rfl ?_
    show Steps p.tables e below (T4.setTop (mkF m 27 #[.val (.ref vb), .val (.long u0), .second] [(.ref vb)])) tt
    refine XS.aloadN X4.here hx rfl (hb hby d27_27) rfl rfl ?_
    exact kk
  obtain ⟨T5, X5, e5, st5⟩ := getF X4 hx hZ hown (host := "") (Or.inl (hw _ (mw 69 rfl))) Via.refl e4 Fw4 (g := (mkF m 28 #[.val (.ref vb), .val (.long u0), .second] [(.ref vb), (.ref vb)])) rfl rfl (hb hby d27_28)
  refine Goal.to (B := T5.setTop (mkF m 31 #[.val (.ref vb), .val (.long u0), .second] [(.int ((u0 - sj).toInt32)), (.ref vb)])) st5 ?_
  have f6 : Fld Z h4 vb "com/example/pattern_automaton/patternautomaton/CharBlock" "from" "I" (.int fr) := (F_from_vb.other W4 (Or.inr (slot_ne (Or.inl (hw _ (mw 136 rfl))) (Or.inl (hw _ (mw 70 rfl))) (by decide) (t := .int) (t' := .int) (by decide) (by decide))))
  have f7 : Exa Z h4 vb "com/example/pattern_automaton/patternautomaton/CharBlock" := (E_vb.wr W4)
  obtain ⟨T8, h8, X8, e8, W8, st8⟩ := putF X5 hx hZ hown (host := "") (Or.inl (hw _ (mw 135 rfl))) Via.refl e5 f6 f7 (Or.inl (hw _ (mw 136 rfl))) (hw _ (mw 56 rfl)) (ty := .int) (by decide) rfl rfl (g := (mkF m 31 #[.val (.ref vb), .val (.long u0), .second] [(.int ((u0 - sj).toInt32)), (.ref vb)])) rfl rfl (hb hby d27_31)
  have Fw8 : Fld Z h8 vb "com/example/pattern_automaton/patternautomaton/CharBlock" "from" "I" (.int ((u0 - sj).toInt32)) := f6.same W8
  have N8 := Fr.snoc X8 N4 g_vb
  refine Goal.to (B := T8.setTop (mkF m 34 #[.val (.ref vb), .val (.long u0), .second] [])) st8 ?_
  have f9 : Keep h0 h8 [vb] := (((Keep.refl h0 [vb]).wr W4 (Or.inl (List.mem_of_getElem? (i := 0) rfl))).wr W8 (Or.inl (List.mem_of_getElem? (i := 0) rfl)))
  have f10 : Fld Z h8 vb "com/example/pattern_automaton/patternautomaton/CharBlock" "chars" "[C" (.ref vc) := ((F_chars_vb.other W4 (Or.inr (slot_ne (Or.inr (hw _ (mw 63 rfl))) (Or.inl (hw _ (mw 70 rfl))) (by decide) (t := (.array .char)) (t' := .int) (by decide) (by decide)))).other W8 (Or.inr (slot_ne (Or.inr (hw _ (mw 63 rfl))) (Or.inl (hw _ (mw 136 rfl))) (by decide) (t := (.array .char)) (t' := .int) (by decide) (by decide))))
  have f11 : Fld Z h8 vb "com/example/pattern_automaton/patternautomaton/CharBlock" "filled" "I" (.int ((u0 - sj).toInt32)) := (Fw4.other W8 (Or.inr (slot_ne (Or.inl (hw _ (mw 70 rfl))) (Or.inl (hw _ (mw 136 rfl))) (by decide) (t := .int) (t' := .int) (by decide) (by decide))))
  have f12 : Fld Z h8 vb "com/example/pattern_automaton/patternautomaton/CharBlock" "start" "J" (.long sj) := ((F_start_vb.other W4 (Or.inr (slot_ne (Or.inl (hw _ (mw 143 rfl))) (Or.inl (hw _ (mw 70 rfl))) (by decide) (t := .long) (t' := .int) (by decide) (by decide)))).other W8 (Or.inr (slot_ne (Or.inl (hw _ (mw 143 rfl))) (Or.inl (hw _ (mw 136 rfl))) (by decide) (t := .long) (t' := .int) (by decide) (by decide))))
  exact Goal.retN X8 hx Bd.returns (hb hby d27_34) hlk e8 ⟨rfl, N8, f9, f10, f11, Fw8, f12⟩ (by decide) (by decide)
def Qct0 (Z : State) (vb : Addr) (vc : Addr) (fl : Int32) (fr : Int32) (sj : Int64) (u0 : Int64) (h0 : Heap) (n0 : Nat) (v : Option Value) (h : Heap) (L : List Loc) : Prop := v = none ∧ Fr n0 L ∧ Keep h0 h [vb] ∧ Fld Z h vb "com/example/pattern_automaton/patternautomaton/CharBlock" "chars" "[C" (.ref vc) ∧ Fld Z h vb "com/example/pattern_automaton/patternautomaton/CharBlock" "filled" "I" (.int fl) ∧ Fld Z h vb "com/example/pattern_automaton/patternautomaton/CharBlock" "from" "I" (.int fr) ∧ Fld Z h vb "com/example/pattern_automaton/patternautomaton/CharBlock" "start" "J" (.long sj)
set_option maxRecDepth 65536 in
set_option maxHeartbeats 40000000 in
theorem rmct0 (l : Launch) (Z : State) (a0 : Array Value) (hw : ∀ d ∈ tables_1, d.before a0 Z = true) (ws : List Jvm.Cond) (vb : Addr) (vc : Addr) (fl : Int32) (fr : Int32) (sj : Int64) (u0 : Int64) (h0 : Heap) (n0 : Nat) (Z0 : n0 ≤ h0.size) (E_vb : Exa Z h0 vb "com/example/pattern_automaton/patternautomaton/CharBlock") (F_chars_vb : Fld Z h0 vb "com/example/pattern_automaton/patternautomaton/CharBlock" "chars" "[C" (.ref vc)) (F_filled_vb : Fld Z h0 vb "com/example/pattern_automaton/patternautomaton/CharBlock" "filled" "I" (.int fl)) (F_from_vb : Fld Z h0 vb "com/example/pattern_automaton/patternautomaton/CharBlock" "from" "I" (.int fr)) (F_start_vb : Fld Z h0 vb "com/example/pattern_automaton/patternautomaton/CharBlock" "start" "J" (.long sj)) (g_vb : n0 ≤ vb) (hc : ¬ ((0 : Int32) < (lcmpW (sj + (fl.toInt64)) u0))) :
    MetFree l (⟨"com/example/pattern_automaton/patternautomaton/CharBlock", "cutTo", "(J)V"⟩ : MethodName) (head1 (Jvm.Cond.code (⟨"com/example/pattern_automaton/patternautomaton/CharBlock", "cutTo", "(J)V"⟩ : MethodName) prog_10_method_8_code 3 none :: ws) ({ frames := 0, cells := 0, slots := 0, locals := 0 } : Room)) (fun a U => a = #[(.ref vb), (.long u0)] ∧ Z.Warmed39 U.vm ∧ U.heap = h0) (fun _ _ _ _ _ => True) (fun _ U o U' => ∃ v L, o = .returned v ∧ Qct0 Z vb vc fl fr sj u0 h0 n0 v U'.heap L ∧ FrameEnd U o U' L 0 0) := by
  refine MetFree.of_bodySF (plainFor_of_name pn_27) hisR ?_
  intro p e s m args below meth c s₁ Bd hml0 hP hK
  obtain ⟨rfl, hZ, hh⟩ := hP
  have hx := Bd.exec
  have hby := Bd.bytes
  have hml : c.maxLocals = 3 := hml0
  have hown : s.vm.findClass "com/example/pattern_automaton/patternautomaton/CharBlock" = some m.cls := findClass_of_methodNamed Bd.named
  have hnm := (name_of_methodNamed Bd.named Bd.method).1
  have X0 : Stand p l e ({ frames := 0, cells := 0, slots := 0, locals := 0 } : Room) s m #[(.ref vb), (.long u0)] below meth c s₁ [] 0 0 := Stand.of_body Bd
  have e0 : s₁.heap = h0 := by rw [← hh, Bd.state]; rfl
  have N0 := Fr.nil n0
  have hlk : meth.locks = false := BodyLoose.notSynchronized Bd
  show Goal p e below s (Qct0 Z vb vc fl fr sj u0 h0 n0) 0 0 (s₁.setTop (entryFrame m #[(.ref vb), (.long u0)] 3))
  refine Goal.to (B := s₁.setTop (mkF m 0 #[.val (.ref vb), .val (.long u0), .second] [])) (fun tt kk => castTop (ef_27 m vb u0 ) kk) ?_
  refine Goal.to (B := s₁.setTop (mkF m 1 #[.val (.ref vb), .val (.long u0), .second] [(.ref vb)])) (fun tt kk => ?_) ?_
  · show Steps p.tables e below (s₁.setTop (mkF m 0 #[.val (.ref vb), .val (.long u0), .second] [])) tt
    refine XS.aloadN X0.here hx rfl (hb hby d27_0) rfl rfl ?_
    exact kk
  obtain ⟨T1, X1, e1, st1⟩ := getF X0 hx hZ hown (host := "") (Or.inl (hw _ (mw 142 rfl))) Via.refl e0 F_start_vb (g := (mkF m 1 #[.val (.ref vb), .val (.long u0), .second] [(.ref vb)])) rfl rfl (hb hby d27_1)
  refine Goal.to (B := T1.setTop (mkF m 4 #[.val (.ref vb), .val (.long u0), .second] [(.long sj)])) st1 ?_
  refine Goal.to (B := T1.setTop (mkF m 5 #[.val (.ref vb), .val (.long u0), .second] [(.ref vb), (.long sj)])) (fun tt kk => ?_) ?_
  · show Steps p.tables e below (T1.setTop (mkF m 4 #[.val (.ref vb), .val (.long u0), .second] [(.long sj)])) tt
    refine XS.aloadN X1.here hx rfl (hb hby d27_4) rfl rfl ?_
    exact kk
  obtain ⟨T2, X2, e2, st2⟩ := getF X1 hx hZ hown (host := "") (Or.inl (hw _ (mw 69 rfl))) Via.refl e1 F_filled_vb (g := (mkF m 5 #[.val (.ref vb), .val (.long u0), .second] [(.ref vb), (.long sj)])) rfl rfl (hb hby d27_5)
  refine Goal.to (B := T2.setTop (mkF m 8 #[.val (.ref vb), .val (.long u0), .second] [(.int fl), (.long sj)])) st2 ?_
  refine Goal.to (B := T2.setTop (mkF m 34 #[.val (.ref vb), .val (.long u0), .second] [])) (fun tt kk => ?_) ?_
  · show Steps p.tables e below (T2.setTop (mkF m 8 #[.val (.ref vb), .val (.long u0), .second] [(.int fl), (.long sj)])) tt
    refine XS.i2l X2.here hx rfl (hb hby d27_8) rfl ?_
    show Steps p.tables e below (T2.setTop (mkF m 9 #[.val (.ref vb), .val (.long u0), .second] [(.long (fl.toInt64)), (.long sj)])) tt
    refine XS.ladd X2.here hx rfl (hb hby d27_9) rfl ?_
    show Steps p.tables e below (T2.setTop (mkF m 10 #[.val (.ref vb), .val (.long u0), .second] [(.long (sj + (fl.toInt64)))])) tt
    refine XS.lloadN X2.here hx rfl (hb hby d27_10) rfl ?_
    show Steps p.tables e below (T2.setTop (mkF m 11 #[.val (.ref vb), .val (.long u0), .second] [(.long u0), (.long (sj + (fl.toInt64)))])) tt
    refine XS.lcmp X2.here hx rfl (hb hby d27_11) rfl ?_
    show Steps p.tables e below (T2.setTop (mkF m 12 #[.val (.ref vb), .val (.long u0), .second] [(.int (lcmpW (sj + (fl.toInt64)) u0))])) tt
    refine XS.ifYes X2.here hx rfl (pc0 := 12) (pc' := 34) rfl (hb hby d27_12) rfl ((if0 _ _).trans (flt hc).2.2.2) (by decide) (by decide) ?_
    exact kk
  exact Goal.retN X2 hx Bd.returns (hb hby d27_34) hlk e2 ⟨rfl, N0, (Keep.refl h0 [vb]), F_chars_vb, F_filled_vb, F_from_vb, F_start_vb⟩ (by decide) (by decide)
theorem ef_26 (m : MethodId) (x0 : Int64) (x1 : Int64)  : entryFrame m #[(.long x0), (.long x1)] 4 = mkF m 0 #[.val (.long x0), .second, .val (.long x1), .second] [] := by first | (simp [entryFrame, mkF, argsToLocals, Value.category]; done) | rfl
theorem d26_0 : decode jdk_29_method_70_code 0 = .ok (.lload_n 0, 1) := by decide +kernel
theorem d26_1 : decode jdk_29_method_70_code 1 = .ok (.lload_n 2, 1) := by decide +kernel
theorem d26_2 : decode jdk_29_method_70_code 2 = .ok (.lcmp, 1) := by decide +kernel
theorem d26_3 : decode jdk_29_method_70_code 3 = .ok (.ifCond .gt 7, 3) := by decide +kernel
theorem d26_10 : decode jdk_29_method_70_code 10 = .ok (.lload_n 2, 1) := by decide +kernel
theorem d26_6 : decode jdk_29_method_70_code 6 = .ok (.lload_n 0, 1) := by decide +kernel
theorem d26_7 : decode jdk_29_method_70_code 7 = .ok (.goto 4, 3) := by decide +kernel
theorem d26_11 : decode jdk_29_method_70_code 11 = .ok (.lreturn, 1) := by decide +kernel
def Qmj (Z : State) (u0 : Int64) (u1 : Int64) (h0 : Heap) (n0 : Nat) (v : Option Value) (h : Heap) (L : List Loc) : Prop := v = some (.long (if (0 : Int32) < (lcmpW u0 u1) then u1 else u0)) ∧ Fr n0 L ∧ h = h0
set_option maxRecDepth 65536 in
set_option maxHeartbeats 40000000 in
theorem rmmj (l : Launch) (Z : State) (a0 : Array Value) (hw : ∀ d ∈ tables_1, d.before a0 Z = true) (ws : List Jvm.Cond) (u0 : Int64) (u1 : Int64) (h0 : Heap) (n0 : Nat) (Z0 : n0 ≤ h0.size) :
    MetFree l (⟨"java/lang/Math", "min", "(JJ)J"⟩ : MethodName) (head1 (Jvm.Cond.code (⟨"java/lang/Math", "min", "(JJ)J"⟩ : MethodName) jdk_29_method_70_code 4 (some .long) :: ws) ({ frames := 0, cells := 0, slots := 0, locals := 0 } : Room)) (fun a U => a = #[(.long u0), (.long u1)] ∧ Z.Warmed39 U.vm ∧ U.heap = h0) (fun _ _ _ _ _ => True) (fun _ U o U' => ∃ v L, o = .returned v ∧ Qmj Z u0 u1 h0 n0 v U'.heap L ∧ FrameEnd U o U' L 0 0) := by
  refine MetFree.of_bodySF (Jvm.Free.JP.mathPlain rfl (by decide +kernel)) hisR ?_
  intro p e s m args below meth c s₁ Bd hml0 hP hK
  obtain ⟨rfl, hZ, hh⟩ := hP
  have hx := Bd.exec
  have hby := Bd.bytes
  have hml : c.maxLocals = 4 := hml0
  have hown : s.vm.findClass "java/lang/Math" = some m.cls := findClass_of_methodNamed Bd.named
  have hnm := (name_of_methodNamed Bd.named Bd.method).1
  have X0 : Stand p l e ({ frames := 0, cells := 0, slots := 0, locals := 0 } : Room) s m #[(.long u0), (.long u1)] below meth c s₁ [] 0 0 := Stand.of_body Bd
  have e0 : s₁.heap = h0 := by rw [← hh, Bd.state]; rfl
  have N0 := Fr.nil n0
  have hlk : meth.locks = false := BodyLoose.notSynchronized Bd
  show Goal p e below s (Qmj Z u0 u1 h0 n0) 0 0 (s₁.setTop (entryFrame m #[(.long u0), (.long u1)] 4))
  refine Goal.to (B := s₁.setTop (mkF m 0 #[.val (.long u0), .second, .val (.long u1), .second] [])) (fun tt kk => castTop (ef_26 m u0 u1 ) kk) ?_
  refine Goal.to (B := s₁.setTop (mkF m 3 #[.val (.long u0), .second, .val (.long u1), .second] [(.int (lcmpW u0 u1))])) (fun tt kk => ?_) ?_
  · show Steps p.tables e below (s₁.setTop (mkF m 0 #[.val (.long u0), .second, .val (.long u1), .second] [])) tt
    refine XS.lloadN X0.here hx rfl (hb hby d26_0) rfl ?_
    show Steps p.tables e below (s₁.setTop (mkF m 1 #[.val (.long u0), .second, .val (.long u1), .second] [(.long u0)])) tt
    refine XS.lloadN X0.here hx rfl (hb hby d26_1) rfl ?_
    show Steps p.tables e below (s₁.setTop (mkF m 2 #[.val (.long u0), .second, .val (.long u1), .second] [(.long u1), (.long u0)])) tt
    refine XS.lcmp X0.here hx rfl (hb hby d26_2) rfl ?_
    exact kk
  obtain ⟨w2, hw2⟩ : ∃ z : Int64, z = if (0 : Int32) < (lcmpW u0 u1) then u1 else u0 := ⟨_, rfl⟩
  refine Goal.to (B := s₁.setTop (mkF m 11 #[.val (.long u0), .second, .val (.long u1), .second] [(.long w2)])) (fun tt kk => ?_) ?_
  · by_cases hc1 : (0 : Int32) < (lcmpW u0 u1)
    · have qw2 : w2 = u1 := by rw [hw2, if_pos hc1]
      rw [qw2] at kk
      show Steps p.tables e below (s₁.setTop (mkF m 3 #[.val (.long u0), .second, .val (.long u1), .second] [(.int (lcmpW u0 u1))])) tt
      refine XS.ifYes X0.here hx rfl (pc0 := 3) (pc' := 10) rfl (hb hby d26_3) rfl ((if0 _ _).trans (tlt hc1).2.2.1) (by decide) (by decide) ?_
      show Steps p.tables e below (s₁.setTop (mkF m 10 #[.val (.long u0), .second, .val (.long u1), .second] [])) tt
      refine XS.lloadN X0.here hx rfl (hb hby d26_10) rfl ?_
      exact kk
    · have qw2 : w2 = u0 := by rw [hw2, if_neg hc1]
      rw [qw2] at kk
      show Steps p.tables e below (s₁.setTop (mkF m 3 #[.val (.long u0), .second, .val (.long u1), .second] [(.int (lcmpW u0 u1))])) tt
      refine XS.ifNo X0.here hx rfl (hb hby d26_3) rfl ((if0 _ _).trans (flt hc1).2.2.1) ?_
      show Steps p.tables e below (s₁.setTop (mkF m 6 #[.val (.long u0), .second, .val (.long u1), .second] [])) tt
      refine XS.lloadN X0.here hx rfl (hb hby d26_6) rfl ?_
      show Steps p.tables e below (s₁.setTop (mkF m 7 #[.val (.long u0), .second, .val (.long u1), .second] [(.long u0)])) tt
      refine XS.goto X0.here hx rfl (pc0 := 7) (pc' := 11) rfl (hb hby d26_7) (by decide) (by decide) ?_
      exact kk
  exact Goal.retV X0 hx Bd.returns rfl (Or.inr (Or.inl ⟨rfl, rfl, _, rfl⟩)) (hb hby d26_11) hlk e0 ⟨(congrArg some (by rw [hw2] : ((.long w2) : Value) = (.long (if (0 : Int32) < (lcmpW u0 u1) then u1 else u0)))), N0, rfl⟩ (by decide) (by decide)
theorem ef_0 (m : MethodId) (x0 : Int32) (x1 : Int32) (x2 : Int32) (x3 : Int64)  : entryFrame m #[(.int x0), (.int x1), (.int x2), (.long x3)] maxLocals = mkF m 0 #[.val (.int x0), .val (.int x1), .val (.int x2), .val (.long x3), .second, .unset, .unset, .unset, .unset, .unset, .unset, .unset, .unset, .unset, .unset, .unset, .unset, .unset, .unset, .unset, .unset, .unset, .unset, .unset, .unset, .unset, .unset, .unset, .unset, .unset, .unset, .unset, .unset] [] := by first | (simp [entryFrame, mkF, argsToLocals, Value.category, maxLocals]; done) | rfl
theorem pn_0 : plainName "com/example/pattern_automaton/patternautomaton/CharBlockCutToPinLaw" = true := by first | (simp [plainName, overriddenIn]; done) | decide +kernel
theorem pd_0 : parseMethodDescriptor "([C)V" = some ⟨[(.array .char)], none⟩ := by decide +kernel
theorem pd_6 : parseMethodDescriptor "(Ljava/lang/CharSequence;)V" = some ⟨[(.object "java/lang/CharSequence")], none⟩ := by decide +kernel
theorem pd_9 : parseMethodDescriptor "(I)V" = some ⟨[.int], none⟩ := by decide +kernel
theorem pd_10 : parseMethodDescriptor "(Lcom/example/pattern_automaton/patternautomaton/CharBlock$Source;)I" = some ⟨[(.object "com/example/pattern_automaton/patternautomaton/CharBlock$Source")], some .int⟩ := by decide +kernel
theorem pd_21 : parseMethodDescriptor "()J" = some ⟨[], some .long⟩ := by decide +kernel
theorem pd_22 : parseMethodDescriptor "(JJ)J" = some ⟨[.long, .long], some .long⟩ := by decide +kernel
theorem pd_23 : parseMethodDescriptor "(J)V" = some ⟨[.long], none⟩ := by decide +kernel
def Q0 (Z : State) (u0 : Int32) (u1 : Int32) (u2 : Int32) (u3 : Int64) (zc : Int32) (fm : Value) (h0 : Heap) (n0 : Nat) (v : Option Value) (h : Heap) (L : List Loc) : Prop := v = some (.int (1 : Int32)) ∧ Fr n0 L
set_option maxRecDepth 65536 in
set_option maxHeartbeats 40000000 in
theorem rm0 (l : Launch) (Z : State) (a0 : Array Value) (hw : ∀ d ∈ tables_1, d.before a0 Z = true) (ws : List Jvm.Cond) (u0 : Int32) (u1 : Int32) (u2 : Int32) (u3 : Int64) (zc : Int32) (fm : Value) (h0 : Heap) (n0 : Nat) (Z0 : n0 ≤ h0.size) (S_COMPACT_STRINGS : StaN Z n0 h0 "java/lang/String" "COMPACT_STRINGS" "Z" (.int zc)) (S_SIOOBE_FORMATTER : StaN Z n0 h0 "jdk/internal/util/Preconditions" "SIOOBE_FORMATTER" "Ljava/util/function/BiFunction;" fm) (hCS : ¬ (zc = (0 : Int32))) (pfm : fm.isRef = true) :
    MetFree l x (head1 (Jvm.Cond.code x code maxLocals ret :: ws) room_1) (fun a U => a = #[(.int u0), (.int u1), (.int u2), (.long u3)] ∧ Z.Warmed39 U.vm ∧ U.heap = h0) (fun _ _ _ _ _ => True) (fun _ U o U' => ∃ v L, o = .returned v ∧ Q0 Z u0 u1 u2 u3 zc fm h0 n0 v U'.heap L ∧ FrameEnd U o U' L 24 128) := by
  refine MetFree.of_bodySF (plainFor_of_name pn_0) hisR ?_
  intro p e s m args below meth c s₁ Bd hml0 hP hK
  obtain ⟨rfl, hZ, hh⟩ := hP
  have hx := Bd.exec
  have hby := Bd.bytes
  have hml : c.maxLocals = 33 := hml0
  have hown : s.vm.findClass "com/example/pattern_automaton/patternautomaton/CharBlockCutToPinLaw" = some m.cls := findClass_of_methodNamed Bd.named
  have hnm := (name_of_methodNamed Bd.named Bd.method).1
  have X0 : Stand p l e room_1 s m #[(.int u0), (.int u1), (.int u2), (.long u3)] below meth c s₁ [] 0 0 := Stand.of_body Bd
  have e0 : s₁.heap = h0 := by rw [← hh, Bd.state]; rfl
  have N0 := Fr.nil n0
  have hlk : meth.locks = false := BodyLoose.notSynchronized Bd
  show Goal p e below s (Q0 Z u0 u1 u2 u3 zc fm h0 n0) 24 128 (s₁.setTop (entryFrame m #[(.int u0), (.int u1), (.int u2), (.long u3)] maxLocals))
  refine Goal.to (B := s₁.setTop (mkF m 0 #[.val (.int u0), .val (.int u1), .val (.int u2), .val (.long u3), .second, .unset, .unset, .unset, .unset, .unset, .unset, .unset, .unset, .unset, .unset, .unset, .unset, .unset, .unset, .unset, .unset, .unset, .unset, .unset, .unset, .unset, .unset, .unset, .unset, .unset, .unset, .unset, .unset] [])) (fun tt kk => castTop (ef_0 m u0 u1 u2 u3 ) kk) ?_
  have hws : ∀ d ∈ StrChars.Road.words, d.before a0 Z = true := fun d hd => hw d (own_ws d hd)
  obtain ⟨ln0, hln0⟩ : ∃ z : Int32, z = ((1 : Int32) + (u0 &&& (7 : Int32))) := ⟨_, rfl⟩
  refine Goal.to (B := s₁.setTop (mkF m 8 #[.val (.int u0), .val (.int u1), .val (.int u2), .val (.long u3), .second, .val (.int ln0), .unset, .unset, .unset, .unset, .unset, .unset, .unset, .unset, .unset, .unset, .unset, .unset, .unset, .unset, .unset, .unset, .unset, .unset, .unset, .unset, .unset, .unset, .unset, .unset, .unset, .unset, .unset] [])) (fun tt kk => ?_) ?_
  · subst hln0
    show Steps p.tables e below (s₁.setTop (mkF m 0 #[.val (.int u0), .val (.int u1), .val (.int u2), .val (.long u3), .second, .unset, .unset, .unset, .unset, .unset, .unset, .unset, .unset, .unset, .unset, .unset, .unset, .unset, .unset, .unset, .unset, .unset, .unset, .unset, .unset, .unset, .unset, .unset, .unset, .unset, .unset, .unset, .unset] [])) tt
    refine XS.iconst X0.here hx rfl (hb hby at_0) ?_
    show Steps p.tables e below (s₁.setTop (mkF m 1 #[.val (.int u0), .val (.int u1), .val (.int u2), .val (.long u3), .second, .unset, .unset, .unset, .unset, .unset, .unset, .unset, .unset, .unset, .unset, .unset, .unset, .unset, .unset, .unset, .unset, .unset, .unset, .unset, .unset, .unset, .unset, .unset, .unset, .unset, .unset, .unset, .unset] [(.int (1 : Int32))])) tt
    refine XS.iloadN X0.here hx rfl (hb hby at_1) rfl ?_
    show Steps p.tables e below (s₁.setTop (mkF m 2 #[.val (.int u0), .val (.int u1), .val (.int u2), .val (.long u3), .second, .unset, .unset, .unset, .unset, .unset, .unset, .unset, .unset, .unset, .unset, .unset, .unset, .unset, .unset, .unset, .unset, .unset, .unset, .unset, .unset, .unset, .unset, .unset, .unset, .unset, .unset, .unset, .unset] [(.int u0), (.int (1 : Int32))])) tt
    refine XS.bipush X0.here hx rfl (hb hby at_2) ?_
    show Steps p.tables e below (s₁.setTop (mkF m 4 #[.val (.int u0), .val (.int u1), .val (.int u2), .val (.long u3), .second, .unset, .unset, .unset, .unset, .unset, .unset, .unset, .unset, .unset, .unset, .unset, .unset, .unset, .unset, .unset, .unset, .unset, .unset, .unset, .unset, .unset, .unset, .unset, .unset, .unset, .unset, .unset, .unset] [(.int (7 : Int32)), (.int u0), (.int (1 : Int32))])) tt
    refine XS.iand X0.here hx rfl (hb hby at_4) rfl ?_
    show Steps p.tables e below (s₁.setTop (mkF m 5 #[.val (.int u0), .val (.int u1), .val (.int u2), .val (.long u3), .second, .unset, .unset, .unset, .unset, .unset, .unset, .unset, .unset, .unset, .unset, .unset, .unset, .unset, .unset, .unset, .unset, .unset, .unset, .unset, .unset, .unset, .unset, .unset, .unset, .unset, .unset, .unset, .unset] [(.int (u0 &&& (7 : Int32))), (.int (1 : Int32))])) tt
    refine XS.iadd X0.here hx rfl (hb hby at_5) rfl ?_
    show Steps p.tables e below (s₁.setTop (mkF m 6 #[.val (.int u0), .val (.int u1), .val (.int u2), .val (.long u3), .second, .unset, .unset, .unset, .unset, .unset, .unset, .unset, .unset, .unset, .unset, .unset, .unset, .unset, .unset, .unset, .unset, .unset, .unset, .unset, .unset, .unset, .unset, .unset, .unset, .unset, .unset, .unset, .unset] [(.int ((1 : Int32) + (u0 &&& (7 : Int32))))])) tt
    refine XS.istore X0.here hx rfl (hb hby at_6) rfl (l' := #[.val (.int u0), .val (.int u1), .val (.int u2), .val (.long u3), .second, .val (.int ((1 : Int32) + (u0 &&& (7 : Int32)))), .unset, .unset, .unset, .unset, .unset, .unset, .unset, .unset, .unset, .unset, .unset, .unset, .unset, .unset, .unset, .unset, .unset, .unset, .unset, .unset, .unset, .unset, .unset, .unset, .unset, .unset, .unset]) rfl ?_
    exact kk
  have hL0 := own_a7 hln0
  obtain ⟨hn, hH⟩ : ∃ hn : Nat, ln0.toInt = (hn : Int) ∧ hn ≤ 8 := ⟨ln0.toInt.toNat, by omega, by omega⟩
  refine Goal.to (B := s₁.setTop (mkF m 13 #[.val (.int u0), .val (.int u1), .val (.int u2), .val (.long u3), .second, .val (.int ln0), .unset, .unset, .unset, .unset, .unset, .unset, .unset, .unset, .unset, .unset, .unset, .unset, .unset, .unset, .unset, .unset, .unset, .unset, .unset, .unset, .unset, .unset, .unset, .unset, .unset, .unset, .unset] [(.int (((u0.toUInt32 >>> ((3 : Int32) &&& 31).toUInt32).toInt32) &&& (1 : Int32)))])) (fun tt kk => ?_) ?_
  · show Steps p.tables e below (s₁.setTop (mkF m 8 #[.val (.int u0), .val (.int u1), .val (.int u2), .val (.long u3), .second, .val (.int ln0), .unset, .unset, .unset, .unset, .unset, .unset, .unset, .unset, .unset, .unset, .unset, .unset, .unset, .unset, .unset, .unset, .unset, .unset, .unset, .unset, .unset, .unset, .unset, .unset, .unset, .unset, .unset] [])) tt
    refine XS.iloadN X0.here hx rfl (hb hby at_8) rfl ?_
    show Steps p.tables e below (s₁.setTop (mkF m 9 #[.val (.int u0), .val (.int u1), .val (.int u2), .val (.long u3), .second, .val (.int ln0), .unset, .unset, .unset, .unset, .unset, .unset, .unset, .unset, .unset, .unset, .unset, .unset, .unset, .unset, .unset, .unset, .unset, .unset, .unset, .unset, .unset, .unset, .unset, .unset, .unset, .unset, .unset] [(.int u0)])) tt
    refine XS.iconst X0.here hx rfl (hb hby at_9) ?_
    show Steps p.tables e below (s₁.setTop (mkF m 10 #[.val (.int u0), .val (.int u1), .val (.int u2), .val (.long u3), .second, .val (.int ln0), .unset, .unset, .unset, .unset, .unset, .unset, .unset, .unset, .unset, .unset, .unset, .unset, .unset, .unset, .unset, .unset, .unset, .unset, .unset, .unset, .unset, .unset, .unset, .unset, .unset, .unset, .unset] [(.int (3 : Int32)), (.int u0)])) tt
    refine XS.iushr X0.here hx rfl (hb hby at_10) rfl ?_
    show Steps p.tables e below (s₁.setTop (mkF m 11 #[.val (.int u0), .val (.int u1), .val (.int u2), .val (.long u3), .second, .val (.int ln0), .unset, .unset, .unset, .unset, .unset, .unset, .unset, .unset, .unset, .unset, .unset, .unset, .unset, .unset, .unset, .unset, .unset, .unset, .unset, .unset, .unset, .unset, .unset, .unset, .unset, .unset, .unset] [(.int ((u0.toUInt32 >>> ((3 : Int32) &&& 31).toUInt32).toInt32))])) tt
    refine XS.iconst X0.here hx rfl (hb hby at_11) ?_
    show Steps p.tables e below (s₁.setTop (mkF m 12 #[.val (.int u0), .val (.int u1), .val (.int u2), .val (.long u3), .second, .val (.int ln0), .unset, .unset, .unset, .unset, .unset, .unset, .unset, .unset, .unset, .unset, .unset, .unset, .unset, .unset, .unset, .unset, .unset, .unset, .unset, .unset, .unset, .unset, .unset, .unset, .unset, .unset, .unset] [(.int (1 : Int32)), (.int ((u0.toUInt32 >>> ((3 : Int32) &&& 31).toUInt32).toInt32))])) tt
    refine XS.iand X0.here hx rfl (hb hby at_12) rfl ?_
    exact kk
  obtain ⟨w2, hw2⟩ : ∃ z : Int32, z = if (((u0.toUInt32 >>> ((3 : Int32) &&& 31).toUInt32).toInt32) &&& (1 : Int32)) = (0 : Int32) then (0 : Int32) else (1 : Int32) := ⟨_, rfl⟩
  refine Goal.to (B := s₁.setTop (mkF m 21 #[.val (.int u0), .val (.int u1), .val (.int u2), .val (.long u3), .second, .val (.int ln0), .unset, .unset, .unset, .unset, .unset, .unset, .unset, .unset, .unset, .unset, .unset, .unset, .unset, .unset, .unset, .unset, .unset, .unset, .unset, .unset, .unset, .unset, .unset, .unset, .unset, .unset, .unset] [(.int w2)])) (fun tt kk => ?_) ?_
  · by_cases hc1 : (((u0.toUInt32 >>> ((3 : Int32) &&& 31).toUInt32).toInt32) &&& (1 : Int32)) = (0 : Int32)
    · have qw2 : w2 = (0 : Int32) := by rw [hw2, if_pos hc1]
      rw [qw2] at kk
      show Steps p.tables e below (s₁.setTop (mkF m 13 #[.val (.int u0), .val (.int u1), .val (.int u2), .val (.long u3), .second, .val (.int ln0), .unset, .unset, .unset, .unset, .unset, .unset, .unset, .unset, .unset, .unset, .unset, .unset, .unset, .unset, .unset, .unset, .unset, .unset, .unset, .unset, .unset, .unset, .unset, .unset, .unset, .unset, .unset] [(.int (((u0.toUInt32 >>> ((3 : Int32) &&& 31).toUInt32).toInt32) &&& (1 : Int32)))])) tt
      refine XS.ifYes X0.here hx rfl (pc0 := 13) (pc' := 20) rfl (hb hby at_13) rfl ((if0 _ _).trans (teq hc1).1) (by decide) (by decide) ?_
      show Steps p.tables e below (s₁.setTop (mkF m 20 #[.val (.int u0), .val (.int u1), .val (.int u2), .val (.long u3), .second, .val (.int ln0), .unset, .unset, .unset, .unset, .unset, .unset, .unset, .unset, .unset, .unset, .unset, .unset, .unset, .unset, .unset, .unset, .unset, .unset, .unset, .unset, .unset, .unset, .unset, .unset, .unset, .unset, .unset] [])) tt
      refine XS.iconst X0.here hx rfl (hb hby at_20) ?_
      exact kk
    · have qw2 : w2 = (1 : Int32) := by rw [hw2, if_neg hc1]
      rw [qw2] at kk
      show Steps p.tables e below (s₁.setTop (mkF m 13 #[.val (.int u0), .val (.int u1), .val (.int u2), .val (.long u3), .second, .val (.int ln0), .unset, .unset, .unset, .unset, .unset, .unset, .unset, .unset, .unset, .unset, .unset, .unset, .unset, .unset, .unset, .unset, .unset, .unset, .unset, .unset, .unset, .unset, .unset, .unset, .unset, .unset, .unset] [(.int (((u0.toUInt32 >>> ((3 : Int32) &&& 31).toUInt32).toInt32) &&& (1 : Int32)))])) tt
      refine XS.ifNo X0.here hx rfl (hb hby at_13) rfl ((if0 _ _).trans (feq hc1).1) ?_
      show Steps p.tables e below (s₁.setTop (mkF m 16 #[.val (.int u0), .val (.int u1), .val (.int u2), .val (.long u3), .second, .val (.int ln0), .unset, .unset, .unset, .unset, .unset, .unset, .unset, .unset, .unset, .unset, .unset, .unset, .unset, .unset, .unset, .unset, .unset, .unset, .unset, .unset, .unset, .unset, .unset, .unset, .unset, .unset, .unset] [])) tt
      refine XS.iconst X0.here hx rfl (hb hby at_16) ?_
      show Steps p.tables e below (s₁.setTop (mkF m 17 #[.val (.int u0), .val (.int u1), .val (.int u2), .val (.long u3), .second, .val (.int ln0), .unset, .unset, .unset, .unset, .unset, .unset, .unset, .unset, .unset, .unset, .unset, .unset, .unset, .unset, .unset, .unset, .unset, .unset, .unset, .unset, .unset, .unset, .unset, .unset, .unset, .unset, .unset] [(.int (1 : Int32))])) tt
      refine XS.goto X0.here hx rfl (pc0 := 17) (pc' := 21) rfl (hb hby at_17) (by decide) (by decide) ?_
      exact kk
  refine Goal.to (B := s₁.setTop (mkF m 28 #[.val (.int u0), .val (.int u1), .val (.int u2), .val (.long u3), .second, .val (.int ln0), .val (.int w2), .unset, .unset, .unset, .unset, .unset, .unset, .unset, .unset, .unset, .unset, .unset, .unset, .unset, .unset, .unset, .unset, .unset, .unset, .unset, .unset, .unset, .unset, .unset, .unset, .unset, .unset] [(.int (((u0.toUInt32 >>> ((4 : Int32) &&& 31).toUInt32).toInt32) &&& (1 : Int32)))])) (fun tt kk => ?_) ?_
  · show Steps p.tables e below (s₁.setTop (mkF m 21 #[.val (.int u0), .val (.int u1), .val (.int u2), .val (.long u3), .second, .val (.int ln0), .unset, .unset, .unset, .unset, .unset, .unset, .unset, .unset, .unset, .unset, .unset, .unset, .unset, .unset, .unset, .unset, .unset, .unset, .unset, .unset, .unset, .unset, .unset, .unset, .unset, .unset, .unset] [(.int w2)])) tt
    refine XS.istore X0.here hx rfl (hb hby at_21) rfl (l' := #[.val (.int u0), .val (.int u1), .val (.int u2), .val (.long u3), .second, .val (.int ln0), .val (.int w2), .unset, .unset, .unset, .unset, .unset, .unset, .unset, .unset, .unset, .unset, .unset, .unset, .unset, .unset, .unset, .unset, .unset, .unset, .unset, .unset, .unset, .unset, .unset, .unset, .unset, .unset]) rfl ?_
    show Steps p.tables e below (s₁.setTop (mkF m 23 #[.val (.int u0), .val (.int u1), .val (.int u2), .val (.long u3), .second, .val (.int ln0), .val (.int w2), .unset, .unset, .unset, .unset, .unset, .unset, .unset, .unset, .unset, .unset, .unset, .unset, .unset, .unset, .unset, .unset, .unset, .unset, .unset, .unset, .unset, .unset, .unset, .unset, .unset, .unset] [])) tt
    refine XS.iloadN X0.here hx rfl (hb hby at_23) rfl ?_
    show Steps p.tables e below (s₁.setTop (mkF m 24 #[.val (.int u0), .val (.int u1), .val (.int u2), .val (.long u3), .second, .val (.int ln0), .val (.int w2), .unset, .unset, .unset, .unset, .unset, .unset, .unset, .unset, .unset, .unset, .unset, .unset, .unset, .unset, .unset, .unset, .unset, .unset, .unset, .unset, .unset, .unset, .unset, .unset, .unset, .unset] [(.int u0)])) tt
    refine XS.iconst X0.here hx rfl (hb hby at_24) ?_
    show Steps p.tables e below (s₁.setTop (mkF m 25 #[.val (.int u0), .val (.int u1), .val (.int u2), .val (.long u3), .second, .val (.int ln0), .val (.int w2), .unset, .unset, .unset, .unset, .unset, .unset, .unset, .unset, .unset, .unset, .unset, .unset, .unset, .unset, .unset, .unset, .unset, .unset, .unset, .unset, .unset, .unset, .unset, .unset, .unset, .unset] [(.int (4 : Int32)), (.int u0)])) tt
    refine XS.iushr X0.here hx rfl (hb hby at_25) rfl ?_
    show Steps p.tables e below (s₁.setTop (mkF m 26 #[.val (.int u0), .val (.int u1), .val (.int u2), .val (.long u3), .second, .val (.int ln0), .val (.int w2), .unset, .unset, .unset, .unset, .unset, .unset, .unset, .unset, .unset, .unset, .unset, .unset, .unset, .unset, .unset, .unset, .unset, .unset, .unset, .unset, .unset, .unset, .unset, .unset, .unset, .unset] [(.int ((u0.toUInt32 >>> ((4 : Int32) &&& 31).toUInt32).toInt32))])) tt
    refine XS.iconst X0.here hx rfl (hb hby at_26) ?_
    show Steps p.tables e below (s₁.setTop (mkF m 27 #[.val (.int u0), .val (.int u1), .val (.int u2), .val (.long u3), .second, .val (.int ln0), .val (.int w2), .unset, .unset, .unset, .unset, .unset, .unset, .unset, .unset, .unset, .unset, .unset, .unset, .unset, .unset, .unset, .unset, .unset, .unset, .unset, .unset, .unset, .unset, .unset, .unset, .unset, .unset] [(.int (1 : Int32)), (.int ((u0.toUInt32 >>> ((4 : Int32) &&& 31).toUInt32).toInt32))])) tt
    refine XS.iand X0.here hx rfl (hb hby at_27) rfl ?_
    exact kk
  obtain ⟨w4, hw4⟩ : ∃ z : Int32, z = if (((u0.toUInt32 >>> ((4 : Int32) &&& 31).toUInt32).toInt32) &&& (1 : Int32)) = (0 : Int32) then (0 : Int32) else (1 : Int32) := ⟨_, rfl⟩
  refine Goal.to (B := s₁.setTop (mkF m 36 #[.val (.int u0), .val (.int u1), .val (.int u2), .val (.long u3), .second, .val (.int ln0), .val (.int w2), .unset, .unset, .unset, .unset, .unset, .unset, .unset, .unset, .unset, .unset, .unset, .unset, .unset, .unset, .unset, .unset, .unset, .unset, .unset, .unset, .unset, .unset, .unset, .unset, .unset, .unset] [(.int w4)])) (fun tt kk => ?_) ?_
  · by_cases hc3 : (((u0.toUInt32 >>> ((4 : Int32) &&& 31).toUInt32).toInt32) &&& (1 : Int32)) = (0 : Int32)
    · have qw4 : w4 = (0 : Int32) := by rw [hw4, if_pos hc3]
      rw [qw4] at kk
      show Steps p.tables e below (s₁.setTop (mkF m 28 #[.val (.int u0), .val (.int u1), .val (.int u2), .val (.long u3), .second, .val (.int ln0), .val (.int w2), .unset, .unset, .unset, .unset, .unset, .unset, .unset, .unset, .unset, .unset, .unset, .unset, .unset, .unset, .unset, .unset, .unset, .unset, .unset, .unset, .unset, .unset, .unset, .unset, .unset, .unset] [(.int (((u0.toUInt32 >>> ((4 : Int32) &&& 31).toUInt32).toInt32) &&& (1 : Int32)))])) tt
      refine XS.ifYes X0.here hx rfl (pc0 := 28) (pc' := 35) rfl (hb hby at_28) rfl ((if0 _ _).trans (teq hc3).1) (by decide) (by decide) ?_
      show Steps p.tables e below (s₁.setTop (mkF m 35 #[.val (.int u0), .val (.int u1), .val (.int u2), .val (.long u3), .second, .val (.int ln0), .val (.int w2), .unset, .unset, .unset, .unset, .unset, .unset, .unset, .unset, .unset, .unset, .unset, .unset, .unset, .unset, .unset, .unset, .unset, .unset, .unset, .unset, .unset, .unset, .unset, .unset, .unset, .unset] [])) tt
      refine XS.iconst X0.here hx rfl (hb hby at_35) ?_
      exact kk
    · have qw4 : w4 = (1 : Int32) := by rw [hw4, if_neg hc3]
      rw [qw4] at kk
      show Steps p.tables e below (s₁.setTop (mkF m 28 #[.val (.int u0), .val (.int u1), .val (.int u2), .val (.long u3), .second, .val (.int ln0), .val (.int w2), .unset, .unset, .unset, .unset, .unset, .unset, .unset, .unset, .unset, .unset, .unset, .unset, .unset, .unset, .unset, .unset, .unset, .unset, .unset, .unset, .unset, .unset, .unset, .unset, .unset, .unset] [(.int (((u0.toUInt32 >>> ((4 : Int32) &&& 31).toUInt32).toInt32) &&& (1 : Int32)))])) tt
      refine XS.ifNo X0.here hx rfl (hb hby at_28) rfl ((if0 _ _).trans (feq hc3).1) ?_
      show Steps p.tables e below (s₁.setTop (mkF m 31 #[.val (.int u0), .val (.int u1), .val (.int u2), .val (.long u3), .second, .val (.int ln0), .val (.int w2), .unset, .unset, .unset, .unset, .unset, .unset, .unset, .unset, .unset, .unset, .unset, .unset, .unset, .unset, .unset, .unset, .unset, .unset, .unset, .unset, .unset, .unset, .unset, .unset, .unset, .unset] [])) tt
      refine XS.iconst X0.here hx rfl (hb hby at_31) ?_
      show Steps p.tables e below (s₁.setTop (mkF m 32 #[.val (.int u0), .val (.int u1), .val (.int u2), .val (.long u3), .second, .val (.int ln0), .val (.int w2), .unset, .unset, .unset, .unset, .unset, .unset, .unset, .unset, .unset, .unset, .unset, .unset, .unset, .unset, .unset, .unset, .unset, .unset, .unset, .unset, .unset, .unset, .unset, .unset, .unset, .unset] [(.int (1 : Int32))])) tt
      refine XS.goto X0.here hx rfl (pc0 := 32) (pc' := 36) rfl (hb hby at_32) (by decide) (by decide) ?_
      exact kk
  refine Goal.to (B := s₁.setTop (mkF m 39 #[.val (.int u0), .val (.int u1), .val (.int u2), .val (.long u3), .second, .val (.int ln0), .val (.int w2), .val (.int w4), .unset, .unset, .unset, .unset, .unset, .unset, .unset, .unset, .unset, .unset, .unset, .unset, .unset, .unset, .unset, .unset, .unset, .unset, .unset, .unset, .unset, .unset, .unset, .unset, .unset] [(.int (5 : Int32))])) (fun tt kk => ?_) ?_
  · show Steps p.tables e below (s₁.setTop (mkF m 36 #[.val (.int u0), .val (.int u1), .val (.int u2), .val (.long u3), .second, .val (.int ln0), .val (.int w2), .unset, .unset, .unset, .unset, .unset, .unset, .unset, .unset, .unset, .unset, .unset, .unset, .unset, .unset, .unset, .unset, .unset, .unset, .unset, .unset, .unset, .unset, .unset, .unset, .unset, .unset] [(.int w4)])) tt
    refine XS.istore X0.here hx rfl (hb hby at_36) rfl (l' := #[.val (.int u0), .val (.int u1), .val (.int u2), .val (.long u3), .second, .val (.int ln0), .val (.int w2), .val (.int w4), .unset, .unset, .unset, .unset, .unset, .unset, .unset, .unset, .unset, .unset, .unset, .unset, .unset, .unset, .unset, .unset, .unset, .unset, .unset, .unset, .unset, .unset, .unset, .unset, .unset]) rfl ?_
    show Steps p.tables e below (s₁.setTop (mkF m 38 #[.val (.int u0), .val (.int u1), .val (.int u2), .val (.long u3), .second, .val (.int ln0), .val (.int w2), .val (.int w4), .unset, .unset, .unset, .unset, .unset, .unset, .unset, .unset, .unset, .unset, .unset, .unset, .unset, .unset, .unset, .unset, .unset, .unset, .unset, .unset, .unset, .unset, .unset, .unset, .unset] [])) tt
    refine XS.iconst X0.here hx rfl (hb hby at_38) ?_
    exact kk
  obtain ⟨T5, h5, k5, X5, e5, E5, A5, st5⟩ := newP X0 hx hZ (hw _ (mw 0 rfl)) e0 (g := (mkF m 39 #[.val (.int u0), .val (.int u1), .val (.int u2), .val (.long u3), .second, .val (.int ln0), .val (.int w2), .val (.int w4), .unset, .unset, .unset, .unset, .unset, .unset, .unset, .unset, .unset, .unset, .unset, .unset, .unset, .unset, .unset, .unset, .unset, .unset, .unset, .unset, .unset, .unset, .unset, .unset, .unset] [(.int (5 : Int32))])) rfl (hb hby at_39) rfl (by decide) (cap := 5) (by decide) (by decide) (by decide) (by decide)
  obtain ⟨b5, g5⟩ : ∃ z, z = h0.size := ⟨_, rfl⟩
  rw [← g5] at A5 st5
  have g_b5 : n0 ≤ b5 := Nat.le_trans Z0 (Nat.le_of_eq g5.symm)
  have V5 : Ary Z h5 b5 .char [(.int (0 : Int32)), (.int (0 : Int32)), (.int (0 : Int32)), (.int (0 : Int32)), (.int (0 : Int32))] := Ary.new A5 rfl
  refine Goal.to (B := T5.setTop (mkF m 41 #[.val (.int u0), .val (.int u1), .val (.int u2), .val (.long u3), .second, .val (.int ln0), .val (.int w2), .val (.int w4), .unset, .unset, .unset, .unset, .unset, .unset, .unset, .unset, .unset, .unset, .unset, .unset, .unset, .unset, .unset, .unset, .unset, .unset, .unset, .unset, .unset, .unset, .unset, .unset, .unset] [(.ref b5)])) st5 ?_
  refine Goal.to (B := T5.setTop (mkF m 52 #[.val (.int u0), .val (.int u1), .val (.int u2), .val (.long u3), .second, .val (.int ln0), .val (.int w2), .val (.int w4), .val (.ref b5), .unset, .unset, .unset, .unset, .unset, .unset, .unset, .unset, .unset, .unset, .unset, .unset, .unset, .unset, .unset, .unset, .unset, .unset, .unset, .unset, .unset, .unset, .unset, .unset] [(.int ((u2 &&& (255 : Int32)).toUInt32.toUInt16.toUInt32.toInt32)), (.int (0 : Int32)), (.ref b5)])) (fun tt kk => ?_) ?_
  · show Steps p.tables e below (T5.setTop (mkF m 41 #[.val (.int u0), .val (.int u1), .val (.int u2), .val (.long u3), .second, .val (.int ln0), .val (.int w2), .val (.int w4), .unset, .unset, .unset, .unset, .unset, .unset, .unset, .unset, .unset, .unset, .unset, .unset, .unset, .unset, .unset, .unset, .unset, .unset, .unset, .unset, .unset, .unset, .unset, .unset, .unset] [(.ref b5)])) tt
    refine XS.astore X5.here hx rfl (hb hby at_41) rfl rfl (l' := #[.val (.int u0), .val (.int u1), .val (.int u2), .val (.long u3), .second, .val (.int ln0), .val (.int w2), .val (.int w4), .val (.ref b5), .unset, .unset, .unset, .unset, .unset, .unset, .unset, .unset, .unset, .unset, .unset, .unset, .unset, .unset, .unset, .unset, .unset, .unset, .unset, .unset, .unset, .unset, .unset, .unset]) rfl ?_
    show Steps p.tables e below (T5.setTop (mkF m 43 #[.val (.int u0), .val (.int u1), .val (.int u2), .val (.long u3), .second, .val (.int ln0), .val (.int w2), .val (.int w4), .val (.ref b5), .unset, .unset, .unset, .unset, .unset, .unset, .unset, .unset, .unset, .unset, .unset, .unset, .unset, .unset, .unset, .unset, .unset, .unset, .unset, .unset, .unset, .unset, .unset, .unset] [])) tt
    refine XS.aload X5.here hx rfl (hb hby at_43) rfl rfl ?_
    show Steps p.tables e below (T5.setTop (mkF m 45 #[.val (.int u0), .val (.int u1), .val (.int u2), .val (.long u3), .second, .val (.int ln0), .val (.int w2), .val (.int w4), .val (.ref b5), .unset, .unset, .unset, .unset, .unset, .unset, .unset, .unset, .unset, .unset, .unset, .unset, .unset, .unset, .unset, .unset, .unset, .unset, .unset, .unset, .unset, .unset, .unset, .unset] [(.ref b5)])) tt
    refine XS.iconst X5.here hx rfl (hb hby at_45) ?_
    show Steps p.tables e below (T5.setTop (mkF m 46 #[.val (.int u0), .val (.int u1), .val (.int u2), .val (.long u3), .second, .val (.int ln0), .val (.int w2), .val (.int w4), .val (.ref b5), .unset, .unset, .unset, .unset, .unset, .unset, .unset, .unset, .unset, .unset, .unset, .unset, .unset, .unset, .unset, .unset, .unset, .unset, .unset, .unset, .unset, .unset, .unset, .unset] [(.int (0 : Int32)), (.ref b5)])) tt
    refine XS.iloadN X5.here hx rfl (hb hby at_46) rfl ?_
    show Steps p.tables e below (T5.setTop (mkF m 47 #[.val (.int u0), .val (.int u1), .val (.int u2), .val (.long u3), .second, .val (.int ln0), .val (.int w2), .val (.int w4), .val (.ref b5), .unset, .unset, .unset, .unset, .unset, .unset, .unset, .unset, .unset, .unset, .unset, .unset, .unset, .unset, .unset, .unset, .unset, .unset, .unset, .unset, .unset, .unset, .unset, .unset] [(.int u2), (.int (0 : Int32)), (.ref b5)])) tt
    refine XS.sipush X5.here hx rfl (hb hby at_47) ?_
    show Steps p.tables e below (T5.setTop (mkF m 50 #[.val (.int u0), .val (.int u1), .val (.int u2), .val (.long u3), .second, .val (.int ln0), .val (.int w2), .val (.int w4), .val (.ref b5), .unset, .unset, .unset, .unset, .unset, .unset, .unset, .unset, .unset, .unset, .unset, .unset, .unset, .unset, .unset, .unset, .unset, .unset, .unset, .unset, .unset, .unset, .unset, .unset] [(.int (255 : Int32)), (.int u2), (.int (0 : Int32)), (.ref b5)])) tt
    refine XS.iand X5.here hx rfl (hb hby at_50) rfl ?_
    show Steps p.tables e below (T5.setTop (mkF m 51 #[.val (.int u0), .val (.int u1), .val (.int u2), .val (.long u3), .second, .val (.int ln0), .val (.int w2), .val (.int w4), .val (.ref b5), .unset, .unset, .unset, .unset, .unset, .unset, .unset, .unset, .unset, .unset, .unset, .unset, .unset, .unset, .unset, .unset, .unset, .unset, .unset, .unset, .unset, .unset, .unset, .unset] [(.int (u2 &&& (255 : Int32))), (.int (0 : Int32)), (.ref b5)])) tt
    refine XS.i2c X5.here hx rfl (hb hby at_51) rfl ?_
    exact kk
  obtain ⟨cl6, Ar6, Sl6⟩ := id V5
  have hin6 := inA (cl := cl6) Sl6 (j := (0 : Int32)) (by decide) (Nat.le_of_ble_eq_true rfl)
  obtain ⟨T6, h6, X6, e6, W6, st6⟩ := stC X5 hx hZ e5 Ar6 (j := (0 : Int32)) hin6 (g := (mkF m 52 #[.val (.int u0), .val (.int u1), .val (.int u2), .val (.long u3), .second, .val (.int ln0), .val (.int w2), .val (.int w4), .val (.ref b5), .unset, .unset, .unset, .unset, .unset, .unset, .unset, .unset, .unset, .unset, .unset, .unset, .unset, .unset, .unset, .unset, .unset, .unset, .unset, .unset, .unset, .unset, .unset, .unset] [(.int ((u2 &&& (255 : Int32)).toUInt32.toUInt16.toUInt32.toInt32)), (.int (0 : Int32)), (.ref b5)])) rfl rfl (hb hby at_52)
  have V6 : Ary Z h6 b5 .char [(.int (nar .char ((u2 &&& (255 : Int32)).toUInt32.toUInt16.toUInt32.toInt32))), (.int (0 : Int32)), (.int (0 : Int32)), (.int (0 : Int32)), (.int (0 : Int32))] := Ary.put Ar6 Sl6 W6 rfl
  have N6 := Fr.snoc X6 N0 g_b5
  refine Goal.to (B := T6.setTop (mkF m 53 #[.val (.int u0), .val (.int u1), .val (.int u2), .val (.long u3), .second, .val (.int ln0), .val (.int w2), .val (.int w4), .val (.ref b5), .unset, .unset, .unset, .unset, .unset, .unset, .unset, .unset, .unset, .unset, .unset, .unset, .unset, .unset, .unset, .unset, .unset, .unset, .unset, .unset, .unset, .unset, .unset, .unset] [])) st6 ?_
  refine Goal.to (B := T6.setTop (mkF m 65 #[.val (.int u0), .val (.int u1), .val (.int u2), .val (.long u3), .second, .val (.int ln0), .val (.int w2), .val (.int w4), .val (.ref b5), .unset, .unset, .unset, .unset, .unset, .unset, .unset, .unset, .unset, .unset, .unset, .unset, .unset, .unset, .unset, .unset, .unset, .unset, .unset, .unset, .unset, .unset, .unset, .unset] [(.int ((((u2.toUInt32 >>> ((8 : Int32) &&& 31).toUInt32).toInt32) &&& (255 : Int32)).toUInt32.toUInt16.toUInt32.toInt32)), (.int (1 : Int32)), (.ref b5)])) (fun tt kk => ?_) ?_
  · show Steps p.tables e below (T6.setTop (mkF m 53 #[.val (.int u0), .val (.int u1), .val (.int u2), .val (.long u3), .second, .val (.int ln0), .val (.int w2), .val (.int w4), .val (.ref b5), .unset, .unset, .unset, .unset, .unset, .unset, .unset, .unset, .unset, .unset, .unset, .unset, .unset, .unset, .unset, .unset, .unset, .unset, .unset, .unset, .unset, .unset, .unset, .unset] [])) tt
    refine XS.aload X6.here hx rfl (hb hby at_53) rfl rfl ?_
    show Steps p.tables e below (T6.setTop (mkF m 55 #[.val (.int u0), .val (.int u1), .val (.int u2), .val (.long u3), .second, .val (.int ln0), .val (.int w2), .val (.int w4), .val (.ref b5), .unset, .unset, .unset, .unset, .unset, .unset, .unset, .unset, .unset, .unset, .unset, .unset, .unset, .unset, .unset, .unset, .unset, .unset, .unset, .unset, .unset, .unset, .unset, .unset] [(.ref b5)])) tt
    refine XS.iconst X6.here hx rfl (hb hby at_55) ?_
    show Steps p.tables e below (T6.setTop (mkF m 56 #[.val (.int u0), .val (.int u1), .val (.int u2), .val (.long u3), .second, .val (.int ln0), .val (.int w2), .val (.int w4), .val (.ref b5), .unset, .unset, .unset, .unset, .unset, .unset, .unset, .unset, .unset, .unset, .unset, .unset, .unset, .unset, .unset, .unset, .unset, .unset, .unset, .unset, .unset, .unset, .unset, .unset] [(.int (1 : Int32)), (.ref b5)])) tt
    refine XS.iloadN X6.here hx rfl (hb hby at_56) rfl ?_
    show Steps p.tables e below (T6.setTop (mkF m 57 #[.val (.int u0), .val (.int u1), .val (.int u2), .val (.long u3), .second, .val (.int ln0), .val (.int w2), .val (.int w4), .val (.ref b5), .unset, .unset, .unset, .unset, .unset, .unset, .unset, .unset, .unset, .unset, .unset, .unset, .unset, .unset, .unset, .unset, .unset, .unset, .unset, .unset, .unset, .unset, .unset, .unset] [(.int u2), (.int (1 : Int32)), (.ref b5)])) tt
    refine XS.bipush X6.here hx rfl (hb hby at_57) ?_
    show Steps p.tables e below (T6.setTop (mkF m 59 #[.val (.int u0), .val (.int u1), .val (.int u2), .val (.long u3), .second, .val (.int ln0), .val (.int w2), .val (.int w4), .val (.ref b5), .unset, .unset, .unset, .unset, .unset, .unset, .unset, .unset, .unset, .unset, .unset, .unset, .unset, .unset, .unset, .unset, .unset, .unset, .unset, .unset, .unset, .unset, .unset, .unset] [(.int (8 : Int32)), (.int u2), (.int (1 : Int32)), (.ref b5)])) tt
    refine XS.iushr X6.here hx rfl (hb hby at_59) rfl ?_
    show Steps p.tables e below (T6.setTop (mkF m 60 #[.val (.int u0), .val (.int u1), .val (.int u2), .val (.long u3), .second, .val (.int ln0), .val (.int w2), .val (.int w4), .val (.ref b5), .unset, .unset, .unset, .unset, .unset, .unset, .unset, .unset, .unset, .unset, .unset, .unset, .unset, .unset, .unset, .unset, .unset, .unset, .unset, .unset, .unset, .unset, .unset, .unset] [(.int ((u2.toUInt32 >>> ((8 : Int32) &&& 31).toUInt32).toInt32)), (.int (1 : Int32)), (.ref b5)])) tt
    refine XS.sipush X6.here hx rfl (hb hby at_60) ?_
    show Steps p.tables e below (T6.setTop (mkF m 63 #[.val (.int u0), .val (.int u1), .val (.int u2), .val (.long u3), .second, .val (.int ln0), .val (.int w2), .val (.int w4), .val (.ref b5), .unset, .unset, .unset, .unset, .unset, .unset, .unset, .unset, .unset, .unset, .unset, .unset, .unset, .unset, .unset, .unset, .unset, .unset, .unset, .unset, .unset, .unset, .unset, .unset] [(.int (255 : Int32)), (.int ((u2.toUInt32 >>> ((8 : Int32) &&& 31).toUInt32).toInt32)), (.int (1 : Int32)), (.ref b5)])) tt
    refine XS.iand X6.here hx rfl (hb hby at_63) rfl ?_
    show Steps p.tables e below (T6.setTop (mkF m 64 #[.val (.int u0), .val (.int u1), .val (.int u2), .val (.long u3), .second, .val (.int ln0), .val (.int w2), .val (.int w4), .val (.ref b5), .unset, .unset, .unset, .unset, .unset, .unset, .unset, .unset, .unset, .unset, .unset, .unset, .unset, .unset, .unset, .unset, .unset, .unset, .unset, .unset, .unset, .unset, .unset, .unset] [(.int (((u2.toUInt32 >>> ((8 : Int32) &&& 31).toUInt32).toInt32) &&& (255 : Int32))), (.int (1 : Int32)), (.ref b5)])) tt
    refine XS.i2c X6.here hx rfl (hb hby at_64) rfl ?_
    exact kk
  obtain ⟨cl7, Ar7, Sl7⟩ := id V6
  have hin7 := inA (cl := cl7) Sl7 (j := (1 : Int32)) (by decide) (Nat.le_of_ble_eq_true rfl)
  obtain ⟨T7, h7, X7, e7, W7, st7⟩ := stC X6 hx hZ e6 Ar7 (j := (1 : Int32)) hin7 (g := (mkF m 65 #[.val (.int u0), .val (.int u1), .val (.int u2), .val (.long u3), .second, .val (.int ln0), .val (.int w2), .val (.int w4), .val (.ref b5), .unset, .unset, .unset, .unset, .unset, .unset, .unset, .unset, .unset, .unset, .unset, .unset, .unset, .unset, .unset, .unset, .unset, .unset, .unset, .unset, .unset, .unset, .unset, .unset] [(.int ((((u2.toUInt32 >>> ((8 : Int32) &&& 31).toUInt32).toInt32) &&& (255 : Int32)).toUInt32.toUInt16.toUInt32.toInt32)), (.int (1 : Int32)), (.ref b5)])) rfl rfl (hb hby at_65)
  have V7 : Ary Z h7 b5 .char [(.int (nar .char ((u2 &&& (255 : Int32)).toUInt32.toUInt16.toUInt32.toInt32))), (.int (nar .char ((((u2.toUInt32 >>> ((8 : Int32) &&& 31).toUInt32).toInt32) &&& (255 : Int32)).toUInt32.toUInt16.toUInt32.toInt32))), (.int (0 : Int32)), (.int (0 : Int32)), (.int (0 : Int32))] := Ary.put Ar7 Sl7 W7 rfl
  have N7 := Fr.snoc X7 N6 g_b5
  refine Goal.to (B := T7.setTop (mkF m 66 #[.val (.int u0), .val (.int u1), .val (.int u2), .val (.long u3), .second, .val (.int ln0), .val (.int w2), .val (.int w4), .val (.ref b5), .unset, .unset, .unset, .unset, .unset, .unset, .unset, .unset, .unset, .unset, .unset, .unset, .unset, .unset, .unset, .unset, .unset, .unset, .unset, .unset, .unset, .unset, .unset, .unset] [])) st7 ?_
  refine Goal.to (B := T7.setTop (mkF m 78 #[.val (.int u0), .val (.int u1), .val (.int u2), .val (.long u3), .second, .val (.int ln0), .val (.int w2), .val (.int w4), .val (.ref b5), .unset, .unset, .unset, .unset, .unset, .unset, .unset, .unset, .unset, .unset, .unset, .unset, .unset, .unset, .unset, .unset, .unset, .unset, .unset, .unset, .unset, .unset, .unset, .unset] [(.int ((((u2.toUInt32 >>> ((16 : Int32) &&& 31).toUInt32).toInt32) &&& (255 : Int32)).toUInt32.toUInt16.toUInt32.toInt32)), (.int (2 : Int32)), (.ref b5)])) (fun tt kk => ?_) ?_
  · show Steps p.tables e below (T7.setTop (mkF m 66 #[.val (.int u0), .val (.int u1), .val (.int u2), .val (.long u3), .second, .val (.int ln0), .val (.int w2), .val (.int w4), .val (.ref b5), .unset, .unset, .unset, .unset, .unset, .unset, .unset, .unset, .unset, .unset, .unset, .unset, .unset, .unset, .unset, .unset, .unset, .unset, .unset, .unset, .unset, .unset, .unset, .unset] [])) tt
    refine XS.aload X7.here hx rfl (hb hby at_66) rfl rfl ?_
    show Steps p.tables e below (T7.setTop (mkF m 68 #[.val (.int u0), .val (.int u1), .val (.int u2), .val (.long u3), .second, .val (.int ln0), .val (.int w2), .val (.int w4), .val (.ref b5), .unset, .unset, .unset, .unset, .unset, .unset, .unset, .unset, .unset, .unset, .unset, .unset, .unset, .unset, .unset, .unset, .unset, .unset, .unset, .unset, .unset, .unset, .unset, .unset] [(.ref b5)])) tt
    refine XS.iconst X7.here hx rfl (hb hby at_68) ?_
    show Steps p.tables e below (T7.setTop (mkF m 69 #[.val (.int u0), .val (.int u1), .val (.int u2), .val (.long u3), .second, .val (.int ln0), .val (.int w2), .val (.int w4), .val (.ref b5), .unset, .unset, .unset, .unset, .unset, .unset, .unset, .unset, .unset, .unset, .unset, .unset, .unset, .unset, .unset, .unset, .unset, .unset, .unset, .unset, .unset, .unset, .unset, .unset] [(.int (2 : Int32)), (.ref b5)])) tt
    refine XS.iloadN X7.here hx rfl (hb hby at_69) rfl ?_
    show Steps p.tables e below (T7.setTop (mkF m 70 #[.val (.int u0), .val (.int u1), .val (.int u2), .val (.long u3), .second, .val (.int ln0), .val (.int w2), .val (.int w4), .val (.ref b5), .unset, .unset, .unset, .unset, .unset, .unset, .unset, .unset, .unset, .unset, .unset, .unset, .unset, .unset, .unset, .unset, .unset, .unset, .unset, .unset, .unset, .unset, .unset, .unset] [(.int u2), (.int (2 : Int32)), (.ref b5)])) tt
    refine XS.bipush X7.here hx rfl (hb hby at_70) ?_
    show Steps p.tables e below (T7.setTop (mkF m 72 #[.val (.int u0), .val (.int u1), .val (.int u2), .val (.long u3), .second, .val (.int ln0), .val (.int w2), .val (.int w4), .val (.ref b5), .unset, .unset, .unset, .unset, .unset, .unset, .unset, .unset, .unset, .unset, .unset, .unset, .unset, .unset, .unset, .unset, .unset, .unset, .unset, .unset, .unset, .unset, .unset, .unset] [(.int (16 : Int32)), (.int u2), (.int (2 : Int32)), (.ref b5)])) tt
    refine XS.iushr X7.here hx rfl (hb hby at_72) rfl ?_
    show Steps p.tables e below (T7.setTop (mkF m 73 #[.val (.int u0), .val (.int u1), .val (.int u2), .val (.long u3), .second, .val (.int ln0), .val (.int w2), .val (.int w4), .val (.ref b5), .unset, .unset, .unset, .unset, .unset, .unset, .unset, .unset, .unset, .unset, .unset, .unset, .unset, .unset, .unset, .unset, .unset, .unset, .unset, .unset, .unset, .unset, .unset, .unset] [(.int ((u2.toUInt32 >>> ((16 : Int32) &&& 31).toUInt32).toInt32)), (.int (2 : Int32)), (.ref b5)])) tt
    refine XS.sipush X7.here hx rfl (hb hby at_73) ?_
    show Steps p.tables e below (T7.setTop (mkF m 76 #[.val (.int u0), .val (.int u1), .val (.int u2), .val (.long u3), .second, .val (.int ln0), .val (.int w2), .val (.int w4), .val (.ref b5), .unset, .unset, .unset, .unset, .unset, .unset, .unset, .unset, .unset, .unset, .unset, .unset, .unset, .unset, .unset, .unset, .unset, .unset, .unset, .unset, .unset, .unset, .unset, .unset] [(.int (255 : Int32)), (.int ((u2.toUInt32 >>> ((16 : Int32) &&& 31).toUInt32).toInt32)), (.int (2 : Int32)), (.ref b5)])) tt
    refine XS.iand X7.here hx rfl (hb hby at_76) rfl ?_
    show Steps p.tables e below (T7.setTop (mkF m 77 #[.val (.int u0), .val (.int u1), .val (.int u2), .val (.long u3), .second, .val (.int ln0), .val (.int w2), .val (.int w4), .val (.ref b5), .unset, .unset, .unset, .unset, .unset, .unset, .unset, .unset, .unset, .unset, .unset, .unset, .unset, .unset, .unset, .unset, .unset, .unset, .unset, .unset, .unset, .unset, .unset, .unset] [(.int (((u2.toUInt32 >>> ((16 : Int32) &&& 31).toUInt32).toInt32) &&& (255 : Int32))), (.int (2 : Int32)), (.ref b5)])) tt
    refine XS.i2c X7.here hx rfl (hb hby at_77) rfl ?_
    exact kk
  obtain ⟨cl8, Ar8, Sl8⟩ := id V7
  have hin8 := inA (cl := cl8) Sl8 (j := (2 : Int32)) (by decide) (Nat.le_of_ble_eq_true rfl)
  obtain ⟨T8, h8, X8, e8, W8, st8⟩ := stC X7 hx hZ e7 Ar8 (j := (2 : Int32)) hin8 (g := (mkF m 78 #[.val (.int u0), .val (.int u1), .val (.int u2), .val (.long u3), .second, .val (.int ln0), .val (.int w2), .val (.int w4), .val (.ref b5), .unset, .unset, .unset, .unset, .unset, .unset, .unset, .unset, .unset, .unset, .unset, .unset, .unset, .unset, .unset, .unset, .unset, .unset, .unset, .unset, .unset, .unset, .unset, .unset] [(.int ((((u2.toUInt32 >>> ((16 : Int32) &&& 31).toUInt32).toInt32) &&& (255 : Int32)).toUInt32.toUInt16.toUInt32.toInt32)), (.int (2 : Int32)), (.ref b5)])) rfl rfl (hb hby at_78)
  have V8 : Ary Z h8 b5 .char [(.int (nar .char ((u2 &&& (255 : Int32)).toUInt32.toUInt16.toUInt32.toInt32))), (.int (nar .char ((((u2.toUInt32 >>> ((8 : Int32) &&& 31).toUInt32).toInt32) &&& (255 : Int32)).toUInt32.toUInt16.toUInt32.toInt32))), (.int (nar .char ((((u2.toUInt32 >>> ((16 : Int32) &&& 31).toUInt32).toInt32) &&& (255 : Int32)).toUInt32.toUInt16.toUInt32.toInt32))), (.int (0 : Int32)), (.int (0 : Int32))] := Ary.put Ar8 Sl8 W8 rfl
  have N8 := Fr.snoc X8 N7 g_b5
  refine Goal.to (B := T8.setTop (mkF m 79 #[.val (.int u0), .val (.int u1), .val (.int u2), .val (.long u3), .second, .val (.int ln0), .val (.int w2), .val (.int w4), .val (.ref b5), .unset, .unset, .unset, .unset, .unset, .unset, .unset, .unset, .unset, .unset, .unset, .unset, .unset, .unset, .unset, .unset, .unset, .unset, .unset, .unset, .unset, .unset, .unset, .unset] [])) st8 ?_
  refine Goal.to (B := T8.setTop (mkF m 91 #[.val (.int u0), .val (.int u1), .val (.int u2), .val (.long u3), .second, .val (.int ln0), .val (.int w2), .val (.int w4), .val (.ref b5), .unset, .unset, .unset, .unset, .unset, .unset, .unset, .unset, .unset, .unset, .unset, .unset, .unset, .unset, .unset, .unset, .unset, .unset, .unset, .unset, .unset, .unset, .unset, .unset] [(.int ((((u2.toUInt32 >>> ((24 : Int32) &&& 31).toUInt32).toInt32) &&& (255 : Int32)).toUInt32.toUInt16.toUInt32.toInt32)), (.int (3 : Int32)), (.ref b5)])) (fun tt kk => ?_) ?_
  · show Steps p.tables e below (T8.setTop (mkF m 79 #[.val (.int u0), .val (.int u1), .val (.int u2), .val (.long u3), .second, .val (.int ln0), .val (.int w2), .val (.int w4), .val (.ref b5), .unset, .unset, .unset, .unset, .unset, .unset, .unset, .unset, .unset, .unset, .unset, .unset, .unset, .unset, .unset, .unset, .unset, .unset, .unset, .unset, .unset, .unset, .unset, .unset] [])) tt
    refine XS.aload X8.here hx rfl (hb hby at_79) rfl rfl ?_
    show Steps p.tables e below (T8.setTop (mkF m 81 #[.val (.int u0), .val (.int u1), .val (.int u2), .val (.long u3), .second, .val (.int ln0), .val (.int w2), .val (.int w4), .val (.ref b5), .unset, .unset, .unset, .unset, .unset, .unset, .unset, .unset, .unset, .unset, .unset, .unset, .unset, .unset, .unset, .unset, .unset, .unset, .unset, .unset, .unset, .unset, .unset, .unset] [(.ref b5)])) tt
    refine XS.iconst X8.here hx rfl (hb hby at_81) ?_
    show Steps p.tables e below (T8.setTop (mkF m 82 #[.val (.int u0), .val (.int u1), .val (.int u2), .val (.long u3), .second, .val (.int ln0), .val (.int w2), .val (.int w4), .val (.ref b5), .unset, .unset, .unset, .unset, .unset, .unset, .unset, .unset, .unset, .unset, .unset, .unset, .unset, .unset, .unset, .unset, .unset, .unset, .unset, .unset, .unset, .unset, .unset, .unset] [(.int (3 : Int32)), (.ref b5)])) tt
    refine XS.iloadN X8.here hx rfl (hb hby at_82) rfl ?_
    show Steps p.tables e below (T8.setTop (mkF m 83 #[.val (.int u0), .val (.int u1), .val (.int u2), .val (.long u3), .second, .val (.int ln0), .val (.int w2), .val (.int w4), .val (.ref b5), .unset, .unset, .unset, .unset, .unset, .unset, .unset, .unset, .unset, .unset, .unset, .unset, .unset, .unset, .unset, .unset, .unset, .unset, .unset, .unset, .unset, .unset, .unset, .unset] [(.int u2), (.int (3 : Int32)), (.ref b5)])) tt
    refine XS.bipush X8.here hx rfl (hb hby at_83) ?_
    show Steps p.tables e below (T8.setTop (mkF m 85 #[.val (.int u0), .val (.int u1), .val (.int u2), .val (.long u3), .second, .val (.int ln0), .val (.int w2), .val (.int w4), .val (.ref b5), .unset, .unset, .unset, .unset, .unset, .unset, .unset, .unset, .unset, .unset, .unset, .unset, .unset, .unset, .unset, .unset, .unset, .unset, .unset, .unset, .unset, .unset, .unset, .unset] [(.int (24 : Int32)), (.int u2), (.int (3 : Int32)), (.ref b5)])) tt
    refine XS.iushr X8.here hx rfl (hb hby at_85) rfl ?_
    show Steps p.tables e below (T8.setTop (mkF m 86 #[.val (.int u0), .val (.int u1), .val (.int u2), .val (.long u3), .second, .val (.int ln0), .val (.int w2), .val (.int w4), .val (.ref b5), .unset, .unset, .unset, .unset, .unset, .unset, .unset, .unset, .unset, .unset, .unset, .unset, .unset, .unset, .unset, .unset, .unset, .unset, .unset, .unset, .unset, .unset, .unset, .unset] [(.int ((u2.toUInt32 >>> ((24 : Int32) &&& 31).toUInt32).toInt32)), (.int (3 : Int32)), (.ref b5)])) tt
    refine XS.sipush X8.here hx rfl (hb hby at_86) ?_
    show Steps p.tables e below (T8.setTop (mkF m 89 #[.val (.int u0), .val (.int u1), .val (.int u2), .val (.long u3), .second, .val (.int ln0), .val (.int w2), .val (.int w4), .val (.ref b5), .unset, .unset, .unset, .unset, .unset, .unset, .unset, .unset, .unset, .unset, .unset, .unset, .unset, .unset, .unset, .unset, .unset, .unset, .unset, .unset, .unset, .unset, .unset, .unset] [(.int (255 : Int32)), (.int ((u2.toUInt32 >>> ((24 : Int32) &&& 31).toUInt32).toInt32)), (.int (3 : Int32)), (.ref b5)])) tt
    refine XS.iand X8.here hx rfl (hb hby at_89) rfl ?_
    show Steps p.tables e below (T8.setTop (mkF m 90 #[.val (.int u0), .val (.int u1), .val (.int u2), .val (.long u3), .second, .val (.int ln0), .val (.int w2), .val (.int w4), .val (.ref b5), .unset, .unset, .unset, .unset, .unset, .unset, .unset, .unset, .unset, .unset, .unset, .unset, .unset, .unset, .unset, .unset, .unset, .unset, .unset, .unset, .unset, .unset, .unset, .unset] [(.int (((u2.toUInt32 >>> ((24 : Int32) &&& 31).toUInt32).toInt32) &&& (255 : Int32))), (.int (3 : Int32)), (.ref b5)])) tt
    refine XS.i2c X8.here hx rfl (hb hby at_90) rfl ?_
    exact kk
  obtain ⟨cl9, Ar9, Sl9⟩ := id V8
  have hin9 := inA (cl := cl9) Sl9 (j := (3 : Int32)) (by decide) (Nat.le_of_ble_eq_true rfl)
  obtain ⟨T9, h9, X9, e9, W9, st9⟩ := stC X8 hx hZ e8 Ar9 (j := (3 : Int32)) hin9 (g := (mkF m 91 #[.val (.int u0), .val (.int u1), .val (.int u2), .val (.long u3), .second, .val (.int ln0), .val (.int w2), .val (.int w4), .val (.ref b5), .unset, .unset, .unset, .unset, .unset, .unset, .unset, .unset, .unset, .unset, .unset, .unset, .unset, .unset, .unset, .unset, .unset, .unset, .unset, .unset, .unset, .unset, .unset, .unset] [(.int ((((u2.toUInt32 >>> ((24 : Int32) &&& 31).toUInt32).toInt32) &&& (255 : Int32)).toUInt32.toUInt16.toUInt32.toInt32)), (.int (3 : Int32)), (.ref b5)])) rfl rfl (hb hby at_91)
  have V9 : Ary Z h9 b5 .char [(.int (nar .char ((u2 &&& (255 : Int32)).toUInt32.toUInt16.toUInt32.toInt32))), (.int (nar .char ((((u2.toUInt32 >>> ((8 : Int32) &&& 31).toUInt32).toInt32) &&& (255 : Int32)).toUInt32.toUInt16.toUInt32.toInt32))), (.int (nar .char ((((u2.toUInt32 >>> ((16 : Int32) &&& 31).toUInt32).toInt32) &&& (255 : Int32)).toUInt32.toUInt16.toUInt32.toInt32))), (.int (nar .char ((((u2.toUInt32 >>> ((24 : Int32) &&& 31).toUInt32).toInt32) &&& (255 : Int32)).toUInt32.toUInt16.toUInt32.toInt32))), (.int (0 : Int32))] := Ary.put Ar9 Sl9 W9 rfl
  have N9 := Fr.snoc X9 N8 g_b5
  refine Goal.to (B := T9.setTop (mkF m 92 #[.val (.int u0), .val (.int u1), .val (.int u2), .val (.long u3), .second, .val (.int ln0), .val (.int w2), .val (.int w4), .val (.ref b5), .unset, .unset, .unset, .unset, .unset, .unset, .unset, .unset, .unset, .unset, .unset, .unset, .unset, .unset, .unset, .unset, .unset, .unset, .unset, .unset, .unset, .unset, .unset, .unset] [])) st9 ?_
  refine Goal.to (B := T9.setTop (mkF m 103 #[.val (.int u0), .val (.int u1), .val (.int u2), .val (.long u3), .second, .val (.int ln0), .val (.int w2), .val (.int w4), .val (.ref b5), .unset, .unset, .unset, .unset, .unset, .unset, .unset, .unset, .unset, .unset, .unset, .unset, .unset, .unset, .unset, .unset, .unset, .unset, .unset, .unset, .unset, .unset, .unset, .unset] [(.int ((((u2.toUInt32 >>> ((4 : Int32) &&& 31).toUInt32).toInt32) &&& (255 : Int32)).toUInt32.toUInt16.toUInt32.toInt32)), (.int (4 : Int32)), (.ref b5)])) (fun tt kk => ?_) ?_
  · show Steps p.tables e below (T9.setTop (mkF m 92 #[.val (.int u0), .val (.int u1), .val (.int u2), .val (.long u3), .second, .val (.int ln0), .val (.int w2), .val (.int w4), .val (.ref b5), .unset, .unset, .unset, .unset, .unset, .unset, .unset, .unset, .unset, .unset, .unset, .unset, .unset, .unset, .unset, .unset, .unset, .unset, .unset, .unset, .unset, .unset, .unset, .unset] [])) tt
    refine XS.aload X9.here hx rfl (hb hby at_92) rfl rfl ?_
    show Steps p.tables e below (T9.setTop (mkF m 94 #[.val (.int u0), .val (.int u1), .val (.int u2), .val (.long u3), .second, .val (.int ln0), .val (.int w2), .val (.int w4), .val (.ref b5), .unset, .unset, .unset, .unset, .unset, .unset, .unset, .unset, .unset, .unset, .unset, .unset, .unset, .unset, .unset, .unset, .unset, .unset, .unset, .unset, .unset, .unset, .unset, .unset] [(.ref b5)])) tt
    refine XS.iconst X9.here hx rfl (hb hby at_94) ?_
    show Steps p.tables e below (T9.setTop (mkF m 95 #[.val (.int u0), .val (.int u1), .val (.int u2), .val (.long u3), .second, .val (.int ln0), .val (.int w2), .val (.int w4), .val (.ref b5), .unset, .unset, .unset, .unset, .unset, .unset, .unset, .unset, .unset, .unset, .unset, .unset, .unset, .unset, .unset, .unset, .unset, .unset, .unset, .unset, .unset, .unset, .unset, .unset] [(.int (4 : Int32)), (.ref b5)])) tt
    refine XS.iloadN X9.here hx rfl (hb hby at_95) rfl ?_
    show Steps p.tables e below (T9.setTop (mkF m 96 #[.val (.int u0), .val (.int u1), .val (.int u2), .val (.long u3), .second, .val (.int ln0), .val (.int w2), .val (.int w4), .val (.ref b5), .unset, .unset, .unset, .unset, .unset, .unset, .unset, .unset, .unset, .unset, .unset, .unset, .unset, .unset, .unset, .unset, .unset, .unset, .unset, .unset, .unset, .unset, .unset, .unset] [(.int u2), (.int (4 : Int32)), (.ref b5)])) tt
    refine XS.iconst X9.here hx rfl (hb hby at_96) ?_
    show Steps p.tables e below (T9.setTop (mkF m 97 #[.val (.int u0), .val (.int u1), .val (.int u2), .val (.long u3), .second, .val (.int ln0), .val (.int w2), .val (.int w4), .val (.ref b5), .unset, .unset, .unset, .unset, .unset, .unset, .unset, .unset, .unset, .unset, .unset, .unset, .unset, .unset, .unset, .unset, .unset, .unset, .unset, .unset, .unset, .unset, .unset, .unset] [(.int (4 : Int32)), (.int u2), (.int (4 : Int32)), (.ref b5)])) tt
    refine XS.iushr X9.here hx rfl (hb hby at_97) rfl ?_
    show Steps p.tables e below (T9.setTop (mkF m 98 #[.val (.int u0), .val (.int u1), .val (.int u2), .val (.long u3), .second, .val (.int ln0), .val (.int w2), .val (.int w4), .val (.ref b5), .unset, .unset, .unset, .unset, .unset, .unset, .unset, .unset, .unset, .unset, .unset, .unset, .unset, .unset, .unset, .unset, .unset, .unset, .unset, .unset, .unset, .unset, .unset, .unset] [(.int ((u2.toUInt32 >>> ((4 : Int32) &&& 31).toUInt32).toInt32)), (.int (4 : Int32)), (.ref b5)])) tt
    refine XS.sipush X9.here hx rfl (hb hby at_98) ?_
    show Steps p.tables e below (T9.setTop (mkF m 101 #[.val (.int u0), .val (.int u1), .val (.int u2), .val (.long u3), .second, .val (.int ln0), .val (.int w2), .val (.int w4), .val (.ref b5), .unset, .unset, .unset, .unset, .unset, .unset, .unset, .unset, .unset, .unset, .unset, .unset, .unset, .unset, .unset, .unset, .unset, .unset, .unset, .unset, .unset, .unset, .unset, .unset] [(.int (255 : Int32)), (.int ((u2.toUInt32 >>> ((4 : Int32) &&& 31).toUInt32).toInt32)), (.int (4 : Int32)), (.ref b5)])) tt
    refine XS.iand X9.here hx rfl (hb hby at_101) rfl ?_
    show Steps p.tables e below (T9.setTop (mkF m 102 #[.val (.int u0), .val (.int u1), .val (.int u2), .val (.long u3), .second, .val (.int ln0), .val (.int w2), .val (.int w4), .val (.ref b5), .unset, .unset, .unset, .unset, .unset, .unset, .unset, .unset, .unset, .unset, .unset, .unset, .unset, .unset, .unset, .unset, .unset, .unset, .unset, .unset, .unset, .unset, .unset, .unset] [(.int (((u2.toUInt32 >>> ((4 : Int32) &&& 31).toUInt32).toInt32) &&& (255 : Int32))), (.int (4 : Int32)), (.ref b5)])) tt
    refine XS.i2c X9.here hx rfl (hb hby at_102) rfl ?_
    exact kk
  obtain ⟨cl10, Ar10, Sl10⟩ := id V9
  have hin10 := inA (cl := cl10) Sl10 (j := (4 : Int32)) (by decide) (Nat.le_of_ble_eq_true rfl)
  obtain ⟨T10, h10, X10, e10, W10, st10⟩ := stC X9 hx hZ e9 Ar10 (j := (4 : Int32)) hin10 (g := (mkF m 103 #[.val (.int u0), .val (.int u1), .val (.int u2), .val (.long u3), .second, .val (.int ln0), .val (.int w2), .val (.int w4), .val (.ref b5), .unset, .unset, .unset, .unset, .unset, .unset, .unset, .unset, .unset, .unset, .unset, .unset, .unset, .unset, .unset, .unset, .unset, .unset, .unset, .unset, .unset, .unset, .unset, .unset] [(.int ((((u2.toUInt32 >>> ((4 : Int32) &&& 31).toUInt32).toInt32) &&& (255 : Int32)).toUInt32.toUInt16.toUInt32.toInt32)), (.int (4 : Int32)), (.ref b5)])) rfl rfl (hb hby at_103)
  have V10 : Ary Z h10 b5 .char [(.int (nar .char ((u2 &&& (255 : Int32)).toUInt32.toUInt16.toUInt32.toInt32))), (.int (nar .char ((((u2.toUInt32 >>> ((8 : Int32) &&& 31).toUInt32).toInt32) &&& (255 : Int32)).toUInt32.toUInt16.toUInt32.toInt32))), (.int (nar .char ((((u2.toUInt32 >>> ((16 : Int32) &&& 31).toUInt32).toInt32) &&& (255 : Int32)).toUInt32.toUInt16.toUInt32.toInt32))), (.int (nar .char ((((u2.toUInt32 >>> ((24 : Int32) &&& 31).toUInt32).toInt32) &&& (255 : Int32)).toUInt32.toUInt16.toUInt32.toInt32))), (.int (nar .char ((((u2.toUInt32 >>> ((4 : Int32) &&& 31).toUInt32).toInt32) &&& (255 : Int32)).toUInt32.toUInt16.toUInt32.toInt32)))] := Ary.put Ar10 Sl10 W10 rfl
  have N10 := Fr.snoc X10 N9 g_b5
  refine Goal.to (B := T10.setTop (mkF m 104 #[.val (.int u0), .val (.int u1), .val (.int u2), .val (.long u3), .second, .val (.int ln0), .val (.int w2), .val (.int w4), .val (.ref b5), .unset, .unset, .unset, .unset, .unset, .unset, .unset, .unset, .unset, .unset, .unset, .unset, .unset, .unset, .unset, .unset, .unset, .unset, .unset, .unset, .unset, .unset, .unset, .unset] [])) st10 ?_
  have f12 : n0 ≤ h10.size := (Nat.le_trans (Nat.le_trans (Nat.le_trans (Nat.le_trans (Nat.le_trans (Nat.le_trans Z0 E5.1) (Keep.of_wr W6).1) (Keep.of_wr W7).1) (Keep.of_wr W8).1) (Keep.of_wr W9).1) (Keep.of_wr W10).1)
  obtain ⟨T11, h11, X11, e11, E11, A11, D11, -, st11⟩ := newO X10 hx hZ hown (hw _ (mw 1 rfl)) (hw _ (mw 2 rfl)) (hw _ (mw 3 rfl)) e10 (g := (mkF m 104 #[.val (.int u0), .val (.int u1), .val (.int u2), .val (.long u3), .second, .val (.int ln0), .val (.int w2), .val (.int w4), .val (.ref b5), .unset, .unset, .unset, .unset, .unset, .unset, .unset, .unset, .unset, .unset, .unset, .unset, .unset, .unset, .unset, .unset, .unset, .unset, .unset, .unset, .unset, .unset, .unset, .unset] [])) rfl (hb hby at_104) (by decide) (by decide)
  obtain ⟨b11, g11⟩ : ∃ z, z = h10.size := ⟨_, rfl⟩
  rw [← g11] at A11 D11 st11
  have ne_b5_b11 : b5 ≠ b11 := Nat.ne_of_lt (Nat.lt_of_lt_of_le V10.lt (Nat.le_of_eq g11.symm))
  have g_b11 : n0 ≤ b11 := Nat.le_trans f12 (Nat.le_of_eq g11.symm)
  have F_coder_b11 : Fld Z h11 b11 "java/lang/String" "coder" "B" (.int (0 : Int32)) := D11 (Or.inr (hw _ (mw 27 rfl))) (ty := .byte) (by decide)
  have F_value_b11 : Fld Z h11 b11 "java/lang/String" "value" "[B" .null := D11 (Or.inr (hw _ (mw 29 rfl))) (ty := (.array .byte)) (by decide)
  refine Goal.to (B := T11.setTop (mkF m 107 #[.val (.int u0), .val (.int u1), .val (.int u2), .val (.long u3), .second, .val (.int ln0), .val (.int w2), .val (.int w4), .val (.ref b5), .unset, .unset, .unset, .unset, .unset, .unset, .unset, .unset, .unset, .unset, .unset, .unset, .unset, .unset, .unset, .unset, .unset, .unset, .unset, .unset, .unset, .unset, .unset, .unset] [(.ref b11)])) st11 ?_
  refine Goal.to (B := T11.setTop (mkF m 110 #[.val (.int u0), .val (.int u1), .val (.int u2), .val (.long u3), .second, .val (.int ln0), .val (.int w2), .val (.int w4), .val (.ref b5), .unset, .unset, .unset, .unset, .unset, .unset, .unset, .unset, .unset, .unset, .unset, .unset, .unset, .unset, .unset, .unset, .unset, .unset, .unset, .unset, .unset, .unset, .unset, .unset] [(.ref b5), (.ref b11), (.ref b11)])) (fun tt kk => ?_) ?_
  · show Steps p.tables e below (T11.setTop (mkF m 107 #[.val (.int u0), .val (.int u1), .val (.int u2), .val (.long u3), .second, .val (.int ln0), .val (.int w2), .val (.int w4), .val (.ref b5), .unset, .unset, .unset, .unset, .unset, .unset, .unset, .unset, .unset, .unset, .unset, .unset, .unset, .unset, .unset, .unset, .unset, .unset, .unset, .unset, .unset, .unset, .unset, .unset] [(.ref b11)])) tt
    refine XS.dup X11.here hx rfl (hb hby at_107) rfl rfl ?_
    show Steps p.tables e below (T11.setTop (mkF m 108 #[.val (.int u0), .val (.int u1), .val (.int u2), .val (.long u3), .second, .val (.int ln0), .val (.int w2), .val (.int w4), .val (.ref b5), .unset, .unset, .unset, .unset, .unset, .unset, .unset, .unset, .unset, .unset, .unset, .unset, .unset, .unset, .unset, .unset, .unset, .unset, .unset, .unset, .unset, .unset, .unset, .unset] [(.ref b11), (.ref b11)])) tt
    refine XS.aload X11.here hx rfl (hb hby at_108) rfl rfl ?_
    exact kk
  have f13 : Ary Z h11 b5 .char [(.int (nar .char ((u2 &&& (255 : Int32)).toUInt32.toUInt16.toUInt32.toInt32))), (.int (nar .char ((((u2.toUInt32 >>> ((8 : Int32) &&& 31).toUInt32).toInt32) &&& (255 : Int32)).toUInt32.toUInt16.toUInt32.toInt32))), (.int (nar .char ((((u2.toUInt32 >>> ((16 : Int32) &&& 31).toUInt32).toInt32) &&& (255 : Int32)).toUInt32.toUInt16.toUInt32.toInt32))), (.int (nar .char ((((u2.toUInt32 >>> ((24 : Int32) &&& 31).toUInt32).toInt32) &&& (255 : Int32)).toUInt32.toUInt16.toUInt32.toInt32))), (.int (nar .char ((((u2.toUInt32 >>> ((4 : Int32) &&& 31).toUInt32).toInt32) &&& (255 : Int32)).toUInt32.toUInt16.toUInt32.toInt32)))] := (V10.ext E11)
  have f15 : n0 ≤ h11.size := (Nat.le_trans f12 E11.1)
  have f16 : StaN Z n0 h11 "java/lang/String" "COMPACT_STRINGS" "Z" (.int zc) := (((((((S_COMPACT_STRINGS.ext E5).wr W6).wr W7).wr W8).wr W9).wr W10).ext E11)
  obtain ⟨kc14, Vc14⟩ := Ary.arv (dv := (.int (0 : Int32))) (z := (5 : Int32)) f13 rfl (by decide) (fits_cons (fits_nar_char _) (fits_cons (fits_nar_char _) (fits_cons (fits_nar_char _) (fits_cons (fits_nar_char _) (fits_cons (fits_nar_char _) fits_nil)))))
  have hp14 : ∀ c ∈ [(nar .char ((u2 &&& (255 : Int32)).toUInt32.toUInt16.toUInt32.toInt32)), (nar .char ((((u2.toUInt32 >>> ((8 : Int32) &&& 31).toUInt32).toInt32) &&& (255 : Int32)).toUInt32.toUInt16.toUInt32.toInt32)), (nar .char ((((u2.toUInt32 >>> ((16 : Int32) &&& 31).toUInt32).toInt32) &&& (255 : Int32)).toUInt32.toUInt16.toUInt32.toInt32)), (nar .char ((((u2.toUInt32 >>> ((24 : Int32) &&& 31).toUInt32).toInt32) &&& (255 : Int32)).toUInt32.toUInt16.toUInt32.toInt32)), (nar .char ((((u2.toUInt32 >>> ((4 : Int32) &&& 31).toUInt32).toInt32) &&& (255 : Int32)).toUInt32.toUInt16.toUInt32.toInt32))], ¬ c < 0 ∧ ¬ (255 : Int32) < c := by
    intro c hc
    simp only [List.mem_cons, List.not_mem_nil, or_false] at hc
    rcases hc with rfl | rfl | rfl | rfl | rfl
    · exact own_lat _
    · exact own_lat _
    · exact own_lat _
    · exact own_lat _
    · exact own_lat _
  obtain ⟨_, _, ⟨T14, L14, k14, n14⟩, -, X14, ⟨Lc14, hQ14, l14, y14, z14⟩, st14⟩ := X11.specialBack hx (y := (⟨"java/lang/String", "<init>", "([C)V"⟩ : MethodName)) rfl hown (mvT hZ (hw _ (mw 4 rfl))) (mvT hZ (hw _ (mw 5 rfl))) (mvT hZ (hw _ (mw 6 rfl))) (by decide) (StrChars.Road.backV (W := 1) hZ hws (kI := 4) (hw _ (mw 2 rfl)) (cs := [(nar .char ((u2 &&& (255 : Int32)).toUInt32.toUInt16.toUInt32.toInt32)), (nar .char ((((u2.toUInt32 >>> ((8 : Int32) &&& 31).toUInt32).toInt32) &&& (255 : Int32)).toUInt32.toUInt16.toUInt32.toInt32)), (nar .char ((((u2.toUInt32 >>> ((16 : Int32) &&& 31).toUInt32).toInt32) &&& (255 : Int32)).toUInt32.toUInt16.toUInt32.toInt32)), (nar .char ((((u2.toUInt32 >>> ((24 : Int32) &&& 31).toUInt32).toInt32) &&& (255 : Int32)).toUInt32.toUInt16.toUInt32.toInt32)), (nar .char ((((u2.toUInt32 >>> ((4 : Int32) &&& 31).toUInt32).toInt32) &&& (255 : Int32)).toUInt32.toUInt16.toUInt32.toInt32))]) (bs := [((nar .char ((u2 &&& (255 : Int32)).toUInt32.toUInt16.toUInt32.toInt32))).toInt8.toInt32, ((nar .char ((((u2.toUInt32 >>> ((8 : Int32) &&& 31).toUInt32).toInt32) &&& (255 : Int32)).toUInt32.toUInt16.toUInt32.toInt32))).toInt8.toInt32, ((nar .char ((((u2.toUInt32 >>> ((16 : Int32) &&& 31).toUInt32).toInt32) &&& (255 : Int32)).toUInt32.toUInt16.toUInt32.toInt32))).toInt8.toInt32, ((nar .char ((((u2.toUInt32 >>> ((24 : Int32) &&& 31).toUInt32).toInt32) &&& (255 : Int32)).toUInt32.toUInt16.toUInt32.toInt32))).toInt8.toInt32, ((nar .char ((((u2.toUInt32 >>> ((4 : Int32) &&& 31).toUInt32).toInt32) &&& (255 : Int32)).toUInt32.toUInt16.toUInt32.toInt32))).toInt8.toInt32]) (n := 5) g_b11 f15 A11 F_value_b11 F_coder_b11 Vc14 f16.sta hCS rfl rfl (by decide) (by decide) hp14 rfl (by decide) (by decide)) (g := (mkF m 110 #[.val (.int u0), .val (.int u1), .val (.int u2), .val (.long u3), .second, .val (.int ln0), .val (.int w2), .val (.int w4), .val (.ref b5), .unset, .unset, .unset, .unset, .unset, .unset, .unset, .unset, .unset, .unset, .unset, .unset, .unset, .unset, .unset, .unset, .unset, .unset, .unset, .unset, .unset, .unset, .unset, .unset] [(.ref b5), (.ref b11), (.ref b11)])) rfl (by rw [hml]; rfl) (Steps.refl _) (a := b11) (argsL := [(.ref b5)]) (rest := [(.ref b11)]) (lenOf pd_0 rfl) rfl (by show 2 * 0 + _ ≤ _; exact Nat.le_of_eq rfl) (hb hby at_110) (fun _ _ => ⟨rfl, e11, (by decide : 2 + 1 ≤ _), (by decide : 9 + 5 ≤ _)⟩)
  dsimp only [Pt.U, Pt.locs, Pt.cells, Pt.slots] at X14 l14 y14 z14 st14 hQ14
  subst y14 z14
  obtain ⟨rfl, N14q, K14, P14_0, P14_1, t14, kb14, gt14, sz14, nt14, P14_2, P14_3⟩ := hQ14
  have N14 := Fr.eqv l14 (Fr.app N10 N14q)
  have ne_b5_t14 : b5 ≠ t14 := Nat.ne_of_lt (Nat.lt_of_lt_of_le f13.lt sz14)
  have ne_b11_t14 : b11 ≠ t14 := Nat.ne_of_lt (Nat.lt_of_lt_of_le A11.lt sz14)
  refine Goal.tr (B := T14.setTop (mkF m 113 #[.val (.int u0), .val (.int u1), .val (.int u2), .val (.long u3), .second, .val (.int ln0), .val (.int w2), .val (.int w4), .val (.ref b5), .unset, .unset, .unset, .unset, .unset, .unset, .unset, .unset, .unset, .unset, .unset, .unset, .unset, .unset, .unset, .unset, .unset, .unset, .unset, .unset, .unset, .unset, .unset, .unset] [(.ref b11)])) st14 ?_
  have V17 : Ary Z T14.heap t14 .byte [(.int (((nar .char ((u2 &&& (255 : Int32)).toUInt32.toUInt16.toUInt32.toInt32))).toInt8.toInt32)), (.int (((nar .char ((((u2.toUInt32 >>> ((8 : Int32) &&& 31).toUInt32).toInt32) &&& (255 : Int32)).toUInt32.toUInt16.toUInt32.toInt32))).toInt8.toInt32)), (.int (((nar .char ((((u2.toUInt32 >>> ((16 : Int32) &&& 31).toUInt32).toInt32) &&& (255 : Int32)).toUInt32.toUInt16.toUInt32.toInt32))).toInt8.toInt32)), (.int (((nar .char ((((u2.toUInt32 >>> ((24 : Int32) &&& 31).toUInt32).toInt32) &&& (255 : Int32)).toUInt32.toUInt16.toUInt32.toInt32))).toInt8.toInt32)), (.int (((nar .char ((((u2.toUInt32 >>> ((4 : Int32) &&& 31).toUInt32).toInt32) &&& (255 : Int32)).toUInt32.toUInt16.toUInt32.toInt32))).toInt8.toInt32))] := Arv.ary P14_3 rfl
  refine Goal.to (B := T14.setTop (mkF m 115 #[.val (.int u0), .val (.int u1), .val (.int u2), .val (.long u3), .second, .val (.int ln0), .val (.int w2), .val (.int w4), .val (.ref b5), .val (.ref b11), .unset, .unset, .unset, .unset, .unset, .unset, .unset, .unset, .unset, .unset, .unset, .unset, .unset, .unset, .unset, .unset, .unset, .unset, .unset, .unset, .unset, .unset, .unset] [])) (fun tt kk => ?_) ?_
  · show Steps p.tables e below (T14.setTop (mkF m 113 #[.val (.int u0), .val (.int u1), .val (.int u2), .val (.long u3), .second, .val (.int ln0), .val (.int w2), .val (.int w4), .val (.ref b5), .unset, .unset, .unset, .unset, .unset, .unset, .unset, .unset, .unset, .unset, .unset, .unset, .unset, .unset, .unset, .unset, .unset, .unset, .unset, .unset, .unset, .unset, .unset, .unset] [(.ref b11)])) tt
    refine XS.astore X14.here hx rfl (hb hby at_113) rfl rfl (l' := #[.val (.int u0), .val (.int u1), .val (.int u2), .val (.long u3), .second, .val (.int ln0), .val (.int w2), .val (.int w4), .val (.ref b5), .val (.ref b11), .unset, .unset, .unset, .unset, .unset, .unset, .unset, .unset, .unset, .unset, .unset, .unset, .unset, .unset, .unset, .unset, .unset, .unset, .unset, .unset, .unset, .unset, .unset]) rfl ?_
    exact kk
  have f19 : Ary Z T14.heap b5 .char [(.int (nar .char ((u2 &&& (255 : Int32)).toUInt32.toUInt16.toUInt32.toInt32))), (.int (nar .char ((((u2.toUInt32 >>> ((8 : Int32) &&& 31).toUInt32).toInt32) &&& (255 : Int32)).toUInt32.toUInt16.toUInt32.toInt32))), (.int (nar .char ((((u2.toUInt32 >>> ((16 : Int32) &&& 31).toUInt32).toInt32) &&& (255 : Int32)).toUInt32.toUInt16.toUInt32.toInt32))), (.int (nar .char ((((u2.toUInt32 >>> ((24 : Int32) &&& 31).toUInt32).toInt32) &&& (255 : Int32)).toUInt32.toUInt16.toUInt32.toInt32))), (.int (nar .char ((((u2.toUInt32 >>> ((4 : Int32) &&& 31).toUInt32).toInt32) &&& (255 : Int32)).toUInt32.toUInt16.toUInt32.toInt32)))] := (f13.keep K14 (ninS ne_b5_b11 nin0))
  have f20 : n0 ≤ T14.heap.size := (Nat.le_trans f15 K14.1)
  obtain ⟨T18, h18, X18, e18, E18, A18, D18, -, st18⟩ := newO X14 hx hZ hown (hw _ (mw 30 rfl)) (hw _ (mw 31 rfl)) (hw _ (mw 32 rfl)) rfl (g := (mkF m 115 #[.val (.int u0), .val (.int u1), .val (.int u2), .val (.long u3), .second, .val (.int ln0), .val (.int w2), .val (.int w4), .val (.ref b5), .val (.ref b11), .unset, .unset, .unset, .unset, .unset, .unset, .unset, .unset, .unset, .unset, .unset, .unset, .unset, .unset, .unset, .unset, .unset, .unset, .unset, .unset, .unset, .unset, .unset] [])) rfl (hb hby at_115) (by decide) (by decide)
  obtain ⟨b18, g18⟩ : ∃ z, z = T14.heap.size := ⟨_, rfl⟩
  rw [← g18] at A18 D18 st18
  have ne_b5_b18 : b5 ≠ b18 := Nat.ne_of_lt (Nat.lt_of_lt_of_le f19.lt (Nat.le_of_eq g18.symm))
  have ne_b11_b18 : b11 ≠ b18 := Nat.ne_of_lt (Nat.lt_of_lt_of_le P14_0.lt (Nat.le_of_eq g18.symm))
  have ne_t14_b18 : t14 ≠ b18 := Nat.ne_of_lt (Nat.lt_of_lt_of_le V17.lt (Nat.le_of_eq g18.symm))
  have g_b18 : n0 ≤ b18 := Nat.le_trans f20 (Nat.le_of_eq g18.symm)
  have F_text_b18 : Fld Z h18 b18 "com/example/pattern_automaton/patternautomaton/CharBlock$TextSource" "text" "Ljava/lang/CharSequence;" .null := D18 (Or.inr (hw _ (mw 38 rfl))) (ty := (.object "java/lang/CharSequence")) (by decide)
  have F_length_b18 : Fld Z h18 b18 "com/example/pattern_automaton/patternautomaton/CharBlock$TextSource" "length" "I" (.int (0 : Int32)) := D18 (Or.inr (hw _ (mw 54 rfl))) (ty := .int) (by decide)
  have F_next_b18 : Fld Z h18 b18 "com/example/pattern_automaton/patternautomaton/CharBlock$TextSource" "next" "I" (.int (0 : Int32)) := D18 (Or.inl (hw _ (mw 81 rfl))) (ty := .int) (by decide)
  refine Goal.to (B := T18.setTop (mkF m 118 #[.val (.int u0), .val (.int u1), .val (.int u2), .val (.long u3), .second, .val (.int ln0), .val (.int w2), .val (.int w4), .val (.ref b5), .val (.ref b11), .unset, .unset, .unset, .unset, .unset, .unset, .unset, .unset, .unset, .unset, .unset, .unset, .unset, .unset, .unset, .unset, .unset, .unset, .unset, .unset, .unset, .unset, .unset] [(.ref b18)])) st18 ?_
  refine Goal.to (B := T18.setTop (mkF m 121 #[.val (.int u0), .val (.int u1), .val (.int u2), .val (.long u3), .second, .val (.int ln0), .val (.int w2), .val (.int w4), .val (.ref b5), .val (.ref b11), .unset, .unset, .unset, .unset, .unset, .unset, .unset, .unset, .unset, .unset, .unset, .unset, .unset, .unset, .unset, .unset, .unset, .unset, .unset, .unset, .unset, .unset, .unset] [(.ref b11), (.ref b18), (.ref b18)])) (fun tt kk => ?_) ?_
  · show Steps p.tables e below (T18.setTop (mkF m 118 #[.val (.int u0), .val (.int u1), .val (.int u2), .val (.long u3), .second, .val (.int ln0), .val (.int w2), .val (.int w4), .val (.ref b5), .val (.ref b11), .unset, .unset, .unset, .unset, .unset, .unset, .unset, .unset, .unset, .unset, .unset, .unset, .unset, .unset, .unset, .unset, .unset, .unset, .unset, .unset, .unset, .unset, .unset] [(.ref b18)])) tt
    refine XS.dup X18.here hx rfl (hb hby at_118) rfl rfl ?_
    show Steps p.tables e below (T18.setTop (mkF m 119 #[.val (.int u0), .val (.int u1), .val (.int u2), .val (.long u3), .second, .val (.int ln0), .val (.int w2), .val (.int w4), .val (.ref b5), .val (.ref b11), .unset, .unset, .unset, .unset, .unset, .unset, .unset, .unset, .unset, .unset, .unset, .unset, .unset, .unset, .unset, .unset, .unset, .unset, .unset, .unset, .unset, .unset, .unset] [(.ref b18), (.ref b18)])) tt
    refine XS.aload X18.here hx rfl (hb hby at_119) rfl rfl ?_
    exact kk
  have f21 : Exa Z h18 b11 "java/lang/String" := (P14_0.ext E18)
  have f22 : Fld Z h18 b11 "java/lang/String" "value" "[B" (.ref t14) := (P14_2.ext E18)
  have f23 : Fld Z h18 b11 "java/lang/String" "coder" "B" (.int (0 : Int32)) := (P14_1.ext E18)
  have f24 : Ary Z h18 t14 .byte [(.int (((nar .char ((u2 &&& (255 : Int32)).toUInt32.toUInt16.toUInt32.toInt32))).toInt8.toInt32)), (.int (((nar .char ((((u2.toUInt32 >>> ((8 : Int32) &&& 31).toUInt32).toInt32) &&& (255 : Int32)).toUInt32.toUInt16.toUInt32.toInt32))).toInt8.toInt32)), (.int (((nar .char ((((u2.toUInt32 >>> ((16 : Int32) &&& 31).toUInt32).toInt32) &&& (255 : Int32)).toUInt32.toUInt16.toUInt32.toInt32))).toInt8.toInt32)), (.int (((nar .char ((((u2.toUInt32 >>> ((24 : Int32) &&& 31).toUInt32).toInt32) &&& (255 : Int32)).toUInt32.toUInt16.toUInt32.toInt32))).toInt8.toInt32)), (.int (((nar .char ((((u2.toUInt32 >>> ((4 : Int32) &&& 31).toUInt32).toInt32) &&& (255 : Int32)).toUInt32.toUInt16.toUInt32.toInt32))).toInt8.toInt32))] := (V17.ext E18)
  have f25 : StaN Z n0 h18 "java/lang/String" "COMPACT_STRINGS" "Z" (.int zc) := ((f16.keep K14 (allS g_b11 all0)).ext E18)
  have f26 : n0 ≤ h18.size := (Nat.le_trans f20 E18.1)
  obtain ⟨_, _, ⟨T27, L27, k27, n27⟩, -, X27, ⟨Lc27, hQ27, l27, y27, z27⟩, st27⟩ := X18.specialBack hx (y := (⟨"com/example/pattern_automaton/patternautomaton/CharBlock$TextSource", "<init>", "(Ljava/lang/CharSequence;)V"⟩ : MethodName)) rfl hown (mvT hZ (hw _ (mw 33 rfl))) (mvT hZ (hw _ (mw 34 rfl))) (mvT hZ (hw _ (mw 35 rfl))) (by decide) (backOf (W := 1) (rmtn l Z a0 hw [] b18 b11 t14 zc (((nar .char ((u2 &&& (255 : Int32)).toUInt32.toUInt16.toUInt32.toInt32))).toInt8.toInt32) (((nar .char ((((u2.toUInt32 >>> ((8 : Int32) &&& 31).toUInt32).toInt32) &&& (255 : Int32)).toUInt32.toUInt16.toUInt32.toInt32))).toInt8.toInt32) (((nar .char ((((u2.toUInt32 >>> ((16 : Int32) &&& 31).toUInt32).toInt32) &&& (255 : Int32)).toUInt32.toUInt16.toUInt32.toInt32))).toInt8.toInt32) (((nar .char ((((u2.toUInt32 >>> ((24 : Int32) &&& 31).toUInt32).toInt32) &&& (255 : Int32)).toUInt32.toUInt16.toUInt32.toInt32))).toInt8.toInt32) (((nar .char ((((u2.toUInt32 >>> ((4 : Int32) &&& 31).toUInt32).toInt32) &&& (255 : Int32)).toUInt32.toUInt16.toUInt32.toInt32))).toInt8.toInt32) h18 n0 f26 A18 F_text_b18 F_length_b18 F_next_b18 f21 f22 f23 f24 f25 g_b18 (Ne.symm ne_b11_b18) (Ne.symm ne_t14_b18) (by assumption)) hZ (hw _ (mw 35 rfl)) (hw _ (mw 32 rfl)) (by decide) (by decide)) (g := (mkF m 121 #[.val (.int u0), .val (.int u1), .val (.int u2), .val (.long u3), .second, .val (.int ln0), .val (.int w2), .val (.int w4), .val (.ref b5), .val (.ref b11), .unset, .unset, .unset, .unset, .unset, .unset, .unset, .unset, .unset, .unset, .unset, .unset, .unset, .unset, .unset, .unset, .unset, .unset, .unset, .unset, .unset, .unset, .unset] [(.ref b11), (.ref b18), (.ref b18)])) rfl (by rw [hml]; rfl) (Steps.refl _) (a := b18) (argsL := [(.ref b11)]) (rest := [(.ref b18)]) (lenOf pd_6 rfl) rfl (by show 2 * 0 + _ ≤ _; exact Nat.le_of_eq rfl) (hb hby at_121) (fun _ _ => ⟨rfl, e18, (by decide : 4 + 0 ≤ _), (by decide : 17 + 0 ≤ _)⟩)
  dsimp only [Pt.U, Pt.locs, Pt.cells, Pt.slots] at X27 l27 y27 z27 st27 hQ27
  subst y27 z27
  obtain ⟨rfl, N27q, K27, P27_0, P27_1, P27_2⟩ := hQ27
  have N27 := Fr.eqv l27 (Fr.app N14 N27q)
  refine Goal.tr (B := T27.setTop (mkF m 124 #[.val (.int u0), .val (.int u1), .val (.int u2), .val (.long u3), .second, .val (.int ln0), .val (.int w2), .val (.int w4), .val (.ref b5), .val (.ref b11), .unset, .unset, .unset, .unset, .unset, .unset, .unset, .unset, .unset, .unset, .unset, .unset, .unset, .unset, .unset, .unset, .unset, .unset, .unset, .unset, .unset, .unset, .unset] [(.ref b18)])) st27 ?_
  refine Goal.to (B := T27.setTop (mkF m 126 #[.val (.int u0), .val (.int u1), .val (.int u2), .val (.long u3), .second, .val (.int ln0), .val (.int w2), .val (.int w4), .val (.ref b5), .val (.ref b11), .val (.ref b18), .unset, .unset, .unset, .unset, .unset, .unset, .unset, .unset, .unset, .unset, .unset, .unset, .unset, .unset, .unset, .unset, .unset, .unset, .unset, .unset, .unset, .unset] [])) (fun tt kk => ?_) ?_
  · show Steps p.tables e below (T27.setTop (mkF m 124 #[.val (.int u0), .val (.int u1), .val (.int u2), .val (.long u3), .second, .val (.int ln0), .val (.int w2), .val (.int w4), .val (.ref b5), .val (.ref b11), .unset, .unset, .unset, .unset, .unset, .unset, .unset, .unset, .unset, .unset, .unset, .unset, .unset, .unset, .unset, .unset, .unset, .unset, .unset, .unset, .unset, .unset, .unset] [(.ref b18)])) tt
    refine XS.astore X27.here hx rfl (hb hby at_124) rfl rfl (l' := #[.val (.int u0), .val (.int u1), .val (.int u2), .val (.long u3), .second, .val (.int ln0), .val (.int w2), .val (.int w4), .val (.ref b5), .val (.ref b11), .val (.ref b18), .unset, .unset, .unset, .unset, .unset, .unset, .unset, .unset, .unset, .unset, .unset, .unset, .unset, .unset, .unset, .unset, .unset, .unset, .unset, .unset, .unset, .unset]) rfl ?_
    exact kk
  have f29 : Ary Z T27.heap b5 .char [(.int (nar .char ((u2 &&& (255 : Int32)).toUInt32.toUInt16.toUInt32.toInt32))), (.int (nar .char ((((u2.toUInt32 >>> ((8 : Int32) &&& 31).toUInt32).toInt32) &&& (255 : Int32)).toUInt32.toUInt16.toUInt32.toInt32))), (.int (nar .char ((((u2.toUInt32 >>> ((16 : Int32) &&& 31).toUInt32).toInt32) &&& (255 : Int32)).toUInt32.toUInt16.toUInt32.toInt32))), (.int (nar .char ((((u2.toUInt32 >>> ((24 : Int32) &&& 31).toUInt32).toInt32) &&& (255 : Int32)).toUInt32.toUInt16.toUInt32.toInt32))), (.int (nar .char ((((u2.toUInt32 >>> ((4 : Int32) &&& 31).toUInt32).toInt32) &&& (255 : Int32)).toUInt32.toUInt16.toUInt32.toInt32)))] := ((f19.ext E18).keep K27 (ninS ne_b5_b18 nin0))
  have f30 : Exa Z T27.heap b11 "java/lang/String" := (f21.keep K27)
  have f31 : Ary Z T27.heap t14 .byte [(.int (((nar .char ((u2 &&& (255 : Int32)).toUInt32.toUInt16.toUInt32.toInt32))).toInt8.toInt32)), (.int (((nar .char ((((u2.toUInt32 >>> ((8 : Int32) &&& 31).toUInt32).toInt32) &&& (255 : Int32)).toUInt32.toUInt16.toUInt32.toInt32))).toInt8.toInt32)), (.int (((nar .char ((((u2.toUInt32 >>> ((16 : Int32) &&& 31).toUInt32).toInt32) &&& (255 : Int32)).toUInt32.toUInt16.toUInt32.toInt32))).toInt8.toInt32)), (.int (((nar .char ((((u2.toUInt32 >>> ((24 : Int32) &&& 31).toUInt32).toInt32) &&& (255 : Int32)).toUInt32.toUInt16.toUInt32.toInt32))).toInt8.toInt32)), (.int (((nar .char ((((u2.toUInt32 >>> ((4 : Int32) &&& 31).toUInt32).toInt32) &&& (255 : Int32)).toUInt32.toUInt16.toUInt32.toInt32))).toInt8.toInt32))] := (f24.keep K27 (ninS ne_t14_b18 nin0))
  have f32 : Exa Z T27.heap b18 "com/example/pattern_automaton/patternautomaton/CharBlock$TextSource" := (A18.keep K27)
  have f33 : n0 ≤ T27.heap.size := (Nat.le_trans f26 K27.1)
  obtain ⟨T28, h28, X28, e28, E28, A28, D28, -, st28⟩ := newO X27 hx hZ hown (hw _ (mw 55 rfl)) (hw _ (mw 56 rfl)) (hw _ (mw 57 rfl)) rfl (g := (mkF m 126 #[.val (.int u0), .val (.int u1), .val (.int u2), .val (.long u3), .second, .val (.int ln0), .val (.int w2), .val (.int w4), .val (.ref b5), .val (.ref b11), .val (.ref b18), .unset, .unset, .unset, .unset, .unset, .unset, .unset, .unset, .unset, .unset, .unset, .unset, .unset, .unset, .unset, .unset, .unset, .unset, .unset, .unset, .unset, .unset] [])) rfl (hb hby at_126) (by decide) (by decide)
  obtain ⟨b28, g28⟩ : ∃ z, z = T27.heap.size := ⟨_, rfl⟩
  rw [← g28] at A28 D28 st28
  have ne_b5_b28 : b5 ≠ b28 := Nat.ne_of_lt (Nat.lt_of_lt_of_le f29.lt (Nat.le_of_eq g28.symm))
  have ne_b11_b28 : b11 ≠ b28 := Nat.ne_of_lt (Nat.lt_of_lt_of_le f30.lt (Nat.le_of_eq g28.symm))
  have ne_t14_b28 : t14 ≠ b28 := Nat.ne_of_lt (Nat.lt_of_lt_of_le f31.lt (Nat.le_of_eq g28.symm))
  have ne_b18_b28 : b18 ≠ b28 := Nat.ne_of_lt (Nat.lt_of_lt_of_le f32.lt (Nat.le_of_eq g28.symm))
  have g_b28 : n0 ≤ b28 := Nat.le_trans f33 (Nat.le_of_eq g28.symm)
  have F_chars_b28 : Fld Z h28 b28 "com/example/pattern_automaton/patternautomaton/CharBlock" "chars" "[C" .null := D28 (Or.inr (hw _ (mw 63 rfl))) (ty := (.array .char)) (by decide)
  have F_filled_b28 : Fld Z h28 b28 "com/example/pattern_automaton/patternautomaton/CharBlock" "filled" "I" (.int (0 : Int32)) := D28 (Or.inl (hw _ (mw 70 rfl))) (ty := .int) (by decide)
  have F_from_b28 : Fld Z h28 b28 "com/example/pattern_automaton/patternautomaton/CharBlock" "from" "I" (.int (0 : Int32)) := D28 (Or.inl (hw _ (mw 136 rfl))) (ty := .int) (by decide)
  have F_start_b28 : Fld Z h28 b28 "com/example/pattern_automaton/patternautomaton/CharBlock" "start" "J" (.long (0 : Int64)) := D28 (Or.inl (hw _ (mw 143 rfl))) (ty := .long) (by decide)
  refine Goal.to (B := T28.setTop (mkF m 129 #[.val (.int u0), .val (.int u1), .val (.int u2), .val (.long u3), .second, .val (.int ln0), .val (.int w2), .val (.int w4), .val (.ref b5), .val (.ref b11), .val (.ref b18), .unset, .unset, .unset, .unset, .unset, .unset, .unset, .unset, .unset, .unset, .unset, .unset, .unset, .unset, .unset, .unset, .unset, .unset, .unset, .unset, .unset, .unset] [(.ref b28)])) st28 ?_
  refine Goal.to (B := T28.setTop (mkF m 132 #[.val (.int u0), .val (.int u1), .val (.int u2), .val (.long u3), .second, .val (.int ln0), .val (.int w2), .val (.int w4), .val (.ref b5), .val (.ref b11), .val (.ref b18), .unset, .unset, .unset, .unset, .unset, .unset, .unset, .unset, .unset, .unset, .unset, .unset, .unset, .unset, .unset, .unset, .unset, .unset, .unset, .unset, .unset, .unset] [(.int ln0), (.ref b28), (.ref b28)])) (fun tt kk => ?_) ?_
  · show Steps p.tables e below (T28.setTop (mkF m 129 #[.val (.int u0), .val (.int u1), .val (.int u2), .val (.long u3), .second, .val (.int ln0), .val (.int w2), .val (.int w4), .val (.ref b5), .val (.ref b11), .val (.ref b18), .unset, .unset, .unset, .unset, .unset, .unset, .unset, .unset, .unset, .unset, .unset, .unset, .unset, .unset, .unset, .unset, .unset, .unset, .unset, .unset, .unset, .unset] [(.ref b28)])) tt
    refine XS.dup X28.here hx rfl (hb hby at_129) rfl rfl ?_
    show Steps p.tables e below (T28.setTop (mkF m 130 #[.val (.int u0), .val (.int u1), .val (.int u2), .val (.long u3), .second, .val (.int ln0), .val (.int w2), .val (.int w4), .val (.ref b5), .val (.ref b11), .val (.ref b18), .unset, .unset, .unset, .unset, .unset, .unset, .unset, .unset, .unset, .unset, .unset, .unset, .unset, .unset, .unset, .unset, .unset, .unset, .unset, .unset, .unset, .unset] [(.ref b28), (.ref b28)])) tt
    refine XS.iload X28.here hx rfl (hb hby at_130) rfl ?_
    exact kk
  have f34 : n0 ≤ h28.size := (Nat.le_trans f33 E28.1)
  have f36 : Ary Z h28 b5 .char [(.int (nar .char ((u2 &&& (255 : Int32)).toUInt32.toUInt16.toUInt32.toInt32))), (.int (nar .char ((((u2.toUInt32 >>> ((8 : Int32) &&& 31).toUInt32).toInt32) &&& (255 : Int32)).toUInt32.toUInt16.toUInt32.toInt32))), (.int (nar .char ((((u2.toUInt32 >>> ((16 : Int32) &&& 31).toUInt32).toInt32) &&& (255 : Int32)).toUInt32.toUInt16.toUInt32.toInt32))), (.int (nar .char ((((u2.toUInt32 >>> ((24 : Int32) &&& 31).toUInt32).toInt32) &&& (255 : Int32)).toUInt32.toUInt16.toUInt32.toInt32))), (.int (nar .char ((((u2.toUInt32 >>> ((4 : Int32) &&& 31).toUInt32).toInt32) &&& (255 : Int32)).toUInt32.toUInt16.toUInt32.toInt32)))] := (f29.ext E28)
  have f37 : Exa Z h28 b11 "java/lang/String" := (f30.ext E28)
  have f38 : Ary Z h28 t14 .byte [(.int (((nar .char ((u2 &&& (255 : Int32)).toUInt32.toUInt16.toUInt32.toInt32))).toInt8.toInt32)), (.int (((nar .char ((((u2.toUInt32 >>> ((8 : Int32) &&& 31).toUInt32).toInt32) &&& (255 : Int32)).toUInt32.toUInt16.toUInt32.toInt32))).toInt8.toInt32)), (.int (((nar .char ((((u2.toUInt32 >>> ((16 : Int32) &&& 31).toUInt32).toInt32) &&& (255 : Int32)).toUInt32.toUInt16.toUInt32.toInt32))).toInt8.toInt32)), (.int (((nar .char ((((u2.toUInt32 >>> ((24 : Int32) &&& 31).toUInt32).toInt32) &&& (255 : Int32)).toUInt32.toUInt16.toUInt32.toInt32))).toInt8.toInt32)), (.int (((nar .char ((((u2.toUInt32 >>> ((4 : Int32) &&& 31).toUInt32).toInt32) &&& (255 : Int32)).toUInt32.toUInt16.toUInt32.toInt32))).toInt8.toInt32))] := (f31.ext E28)
  have f39 : Exa Z h28 b18 "com/example/pattern_automaton/patternautomaton/CharBlock$TextSource" := (f32.ext E28)
  obtain ⟨_, _, ⟨T35, L35, k35, n35⟩, -, X35, ⟨Lc35, hQ35, l35, y35, z35⟩, st35⟩ := X28.specialBack hx (y := (⟨"com/example/pattern_automaton/patternautomaton/CharBlock", "<init>", "(I)V"⟩ : MethodName)) rfl hown (mvT hZ (hw _ (mw 58 rfl))) (mvT hZ (hw _ (mw 59 rfl))) (mvT hZ (hw _ (mw 60 rfl))) (by decide) (backOf (W := 1) (rmbn l Z a0 hw [] b28 ln0 hn h28 n0 f34 A28 F_chars_b28 F_filled_b28 F_from_b28 F_start_b28 g_b28 hH.1 hH.2) hZ (hw _ (mw 60 rfl)) (hw _ (mw 57 rfl)) (by decide) (by decide)) (g := (mkF m 132 #[.val (.int u0), .val (.int u1), .val (.int u2), .val (.long u3), .second, .val (.int ln0), .val (.int w2), .val (.int w4), .val (.ref b5), .val (.ref b11), .val (.ref b18), .unset, .unset, .unset, .unset, .unset, .unset, .unset, .unset, .unset, .unset, .unset, .unset, .unset, .unset, .unset, .unset, .unset, .unset, .unset, .unset, .unset, .unset] [(.int ln0), (.ref b28), (.ref b28)])) rfl (by rw [hml]; rfl) (Steps.refl _) (a := b28) (argsL := [(.int ln0)]) (rest := [(.ref b28)]) (lenOf pd_9 rfl) rfl (by show 2 * 0 + _ ≤ _; exact Nat.le_of_eq rfl) (hb hby at_132) (fun _ _ => ⟨rfl, e28, (by decide : 5 + 1 ≤ _), (by decide : 21 + 8 ≤ _)⟩)
  dsimp only [Pt.U, Pt.locs, Pt.cells, Pt.slots] at X35 l35 y35 z35 st35 hQ35
  subst y35 z35
  obtain ⟨vc_35, rfl, N35q, K35, sz35_vc, P35_0, P35_1, P35_2, P35_3, P35_4⟩ := hQ35
  have N35 := Fr.eqv l35 (Fr.app N27 N35q)
  have ne_b5_vc_35 : b5 ≠ vc_35 := Nat.ne_of_lt (Nat.lt_of_lt_of_le f36.lt sz35_vc)
  have ne_b11_vc_35 : b11 ≠ vc_35 := Nat.ne_of_lt (Nat.lt_of_lt_of_le f37.lt sz35_vc)
  have ne_t14_vc_35 : t14 ≠ vc_35 := Nat.ne_of_lt (Nat.lt_of_lt_of_le f38.lt sz35_vc)
  have ne_b18_vc_35 : b18 ≠ vc_35 := Nat.ne_of_lt (Nat.lt_of_lt_of_le f39.lt sz35_vc)
  have ne_b28_vc_35 : b28 ≠ vc_35 := Nat.ne_of_lt (Nat.lt_of_lt_of_le A28.lt sz35_vc)
  have g_vc_35 : n0 ≤ vc_35 := Nat.le_trans f34 sz35_vc
  refine Goal.tr (B := T35.setTop (mkF m 135 #[.val (.int u0), .val (.int u1), .val (.int u2), .val (.long u3), .second, .val (.int ln0), .val (.int w2), .val (.int w4), .val (.ref b5), .val (.ref b11), .val (.ref b18), .unset, .unset, .unset, .unset, .unset, .unset, .unset, .unset, .unset, .unset, .unset, .unset, .unset, .unset, .unset, .unset, .unset, .unset, .unset, .unset, .unset, .unset] [(.ref b28)])) st35 ?_
  refine Goal.to (B := T35.setTop (mkF m 141 #[.val (.int u0), .val (.int u1), .val (.int u2), .val (.long u3), .second, .val (.int ln0), .val (.int w2), .val (.int w4), .val (.ref b5), .val (.ref b11), .val (.ref b18), .val (.ref b28), .unset, .unset, .unset, .unset, .unset, .unset, .unset, .unset, .unset, .unset, .unset, .unset, .unset, .unset, .unset, .unset, .unset, .unset, .unset, .unset, .unset] [(.ref b18), (.ref b28)])) (fun tt kk => ?_) ?_
  · show Steps p.tables e below (T35.setTop (mkF m 135 #[.val (.int u0), .val (.int u1), .val (.int u2), .val (.long u3), .second, .val (.int ln0), .val (.int w2), .val (.int w4), .val (.ref b5), .val (.ref b11), .val (.ref b18), .unset, .unset, .unset, .unset, .unset, .unset, .unset, .unset, .unset, .unset, .unset, .unset, .unset, .unset, .unset, .unset, .unset, .unset, .unset, .unset, .unset, .unset] [(.ref b28)])) tt
    refine XS.astore X35.here hx rfl (hb hby at_135) rfl rfl (l' := #[.val (.int u0), .val (.int u1), .val (.int u2), .val (.long u3), .second, .val (.int ln0), .val (.int w2), .val (.int w4), .val (.ref b5), .val (.ref b11), .val (.ref b18), .val (.ref b28), .unset, .unset, .unset, .unset, .unset, .unset, .unset, .unset, .unset, .unset, .unset, .unset, .unset, .unset, .unset, .unset, .unset, .unset, .unset, .unset, .unset]) rfl ?_
    show Steps p.tables e below (T35.setTop (mkF m 137 #[.val (.int u0), .val (.int u1), .val (.int u2), .val (.long u3), .second, .val (.int ln0), .val (.int w2), .val (.int w4), .val (.ref b5), .val (.ref b11), .val (.ref b18), .val (.ref b28), .unset, .unset, .unset, .unset, .unset, .unset, .unset, .unset, .unset, .unset, .unset, .unset, .unset, .unset, .unset, .unset, .unset, .unset, .unset, .unset, .unset] [])) tt
    refine XS.aload X35.here hx rfl (hb hby at_137) rfl rfl ?_
    show Steps p.tables e below (T35.setTop (mkF m 139 #[.val (.int u0), .val (.int u1), .val (.int u2), .val (.long u3), .second, .val (.int ln0), .val (.int w2), .val (.int w4), .val (.ref b5), .val (.ref b11), .val (.ref b18), .val (.ref b28), .unset, .unset, .unset, .unset, .unset, .unset, .unset, .unset, .unset, .unset, .unset, .unset, .unset, .unset, .unset, .unset, .unset, .unset, .unset, .unset, .unset] [(.ref b28)])) tt
    refine XS.aload X35.here hx rfl (hb hby at_139) rfl rfl ?_
    exact kk
  have f40 : Exa Z T35.heap b18 "com/example/pattern_automaton/patternautomaton/CharBlock$TextSource" := (f39.keep K35)
  have f41 : Exa Z T35.heap b28 "com/example/pattern_automaton/patternautomaton/CharBlock" := (A28.keep K35)
  have f42 : Fld Z T35.heap b18 "com/example/pattern_automaton/patternautomaton/CharBlock$TextSource" "text" "Ljava/lang/CharSequence;" (.ref b11) := ((P27_0.ext E28).keep K35 (ninS ne_b18_b28 nin0))
  have f43 : Fld Z T35.heap b18 "com/example/pattern_automaton/patternautomaton/CharBlock$TextSource" "length" "I" (.int (5 : Int32)) := ((P27_1.ext E28).keep K35 (ninS ne_b18_b28 nin0))
  have f44 : Fld Z T35.heap b18 "com/example/pattern_automaton/patternautomaton/CharBlock$TextSource" "next" "I" (.int (0 : Int32)) := ((P27_2.ext E28).keep K35 (ninS ne_b18_b28 nin0))
  have f45 : Exa Z T35.heap b11 "java/lang/String" := (f37.keep K35)
  have f46 : Fld Z T35.heap b11 "java/lang/String" "value" "[B" (.ref t14) := (((f22.keep K27 (ninS ne_b11_b18 nin0)).ext E28).keep K35 (ninS ne_b11_b28 nin0))
  have f47 : Fld Z T35.heap b11 "java/lang/String" "coder" "B" (.int (0 : Int32)) := (((f23.keep K27 (ninS ne_b11_b18 nin0)).ext E28).keep K35 (ninS ne_b11_b28 nin0))
  have f48 : Ary Z T35.heap t14 .byte [(.int (((nar .char ((u2 &&& (255 : Int32)).toUInt32.toUInt16.toUInt32.toInt32))).toInt8.toInt32)), (.int (((nar .char ((((u2.toUInt32 >>> ((8 : Int32) &&& 31).toUInt32).toInt32) &&& (255 : Int32)).toUInt32.toUInt16.toUInt32.toInt32))).toInt8.toInt32)), (.int (((nar .char ((((u2.toUInt32 >>> ((16 : Int32) &&& 31).toUInt32).toInt32) &&& (255 : Int32)).toUInt32.toUInt16.toUInt32.toInt32))).toInt8.toInt32)), (.int (((nar .char ((((u2.toUInt32 >>> ((24 : Int32) &&& 31).toUInt32).toInt32) &&& (255 : Int32)).toUInt32.toUInt16.toUInt32.toInt32))).toInt8.toInt32)), (.int (((nar .char ((((u2.toUInt32 >>> ((4 : Int32) &&& 31).toUInt32).toInt32) &&& (255 : Int32)).toUInt32.toUInt16.toUInt32.toInt32))).toInt8.toInt32))] := (f38.keep K35 (ninS ne_t14_b28 nin0))
  have f49 : StaN Z n0 T35.heap "java/lang/String" "COMPACT_STRINGS" "Z" (.int zc) := (((f25.keep K27 (allS g_b18 all0)).ext E28).keep K35 (allS g_b28 all0))
  have f50 : StaN Z n0 T35.heap "jdk/internal/util/Preconditions" "SIOOBE_FORMATTER" "Ljava/util/function/BiFunction;" fm := ((((((((((((S_SIOOBE_FORMATTER.ext E5).wr W6).wr W7).wr W8).wr W9).wr W10).ext E11).keep K14 (allS g_b11 all0)).ext E18).keep K27 (allS g_b18 all0)).ext E28).keep K35 (allS g_b28 all0))
  have f51 : n0 ≤ T35.heap.size := (Nat.le_trans f34 K35.1)
  obtain ⟨cq52, kq52, q52a, q52b, q52c⟩ := isOf hZ rfl f41
  obtain ⟨_, _, ⟨T52, L52, k52, n52⟩, -, X52, ⟨Lc52, hQ52, l52, y52, z52⟩, st52⟩ := X35.virtualBack hx (y := (⟨"com/example/pattern_automaton/patternautomaton/CharBlock", "fill", "(Lcom/example/pattern_automaton/patternautomaton/CharBlock$Source;)I"⟩ : MethodName)) (z := (⟨"com/example/pattern_automaton/patternautomaton/CharBlock", "fill", "(Lcom/example/pattern_automaton/patternautomaton/CharBlock$Source;)I"⟩ : MethodName)) hown (mvT hZ (hw _ (mw 64 rfl))) (mvT hZ (hw _ (mw 65 rfl))) (notFace_of_selects (args := #[]) (mvT hZ (hw _ (mw 67 rfl)))) (mvT hZ (hw _ (mw 67 rfl))) (mvT hZ (hw _ (mw 66 rfl))) (by decide) (backOf (W := 0) (rmfi l Z a0 hw [] b11 t14 vc_35 zc fm (((nar .char ((u2 &&& (255 : Int32)).toUInt32.toUInt16.toUInt32.toInt32))).toInt8.toInt32) (((nar .char ((((u2.toUInt32 >>> ((8 : Int32) &&& 31).toUInt32).toInt32) &&& (255 : Int32)).toUInt32.toUInt16.toUInt32.toInt32))).toInt8.toInt32) (((nar .char ((((u2.toUInt32 >>> ((16 : Int32) &&& 31).toUInt32).toInt32) &&& (255 : Int32)).toUInt32.toUInt16.toUInt32.toInt32))).toInt8.toInt32) (((nar .char ((((u2.toUInt32 >>> ((24 : Int32) &&& 31).toUInt32).toInt32) &&& (255 : Int32)).toUInt32.toUInt16.toUInt32.toInt32))).toInt8.toInt32) (((nar .char ((((u2.toUInt32 >>> ((4 : Int32) &&& 31).toUInt32).toInt32) &&& (255 : Int32)).toUInt32.toUInt16.toUInt32.toInt32))).toInt8.toInt32) (List.replicate hn (.int (0 : Int32))) b18 b28 (0 : Int32) (0 : Int32) (0 : Int32) (0 : Int64) T35.heap n0 f51 f40 f41 P35_0 P35_1 P35_2 P35_3 f42 f43 f44 f45 f46 f47 f48 f49 f50 P35_4 g_vc_35 g_b18 g_b28 ne_t14_vc_35 ne_b11_vc_35 ne_b18_vc_35 (Ne.symm ne_t14_b18) (Ne.symm ne_b11_b18) ne_b28_vc_35 (Ne.symm ne_t14_b28) (Ne.symm ne_b11_b28) (Ne.symm ne_b18_b28) hCS pfm (by decide) (by decide) (by decide) (by rw [List.length_replicate]; show (0 : Int) ≤ _; omega) (by decide) (by decide) (by decide) (by rw [List.length_replicate]; exact hH.2) own_C0 (by decide)) hZ (hw _ (mw 68 rfl)) (hw _ (mw 57 rfl)) (by decide) (by decide)) q52a q52c (g := (mkF m 141 #[.val (.int u0), .val (.int u1), .val (.int u2), .val (.long u3), .second, .val (.int ln0), .val (.int w2), .val (.int w4), .val (.ref b5), .val (.ref b11), .val (.ref b18), .val (.ref b28), .unset, .unset, .unset, .unset, .unset, .unset, .unset, .unset, .unset, .unset, .unset, .unset, .unset, .unset, .unset, .unset, .unset, .unset, .unset, .unset, .unset] [(.ref b18), (.ref b28)])) rfl (by rw [hml]; rfl) (Steps.refl _) (argsL := [(.ref b18)]) (rest := []) (lenOf pd_10 rfl) rfl (by show 2 * 0 + _ ≤ _; exact Nat.le_of_eq rfl) (hb hby at_141) (fun _ _ => ⟨rfl, rfl, (by decide : 6 + 0 ≤ _), (by decide : 29 + 0 ≤ _)⟩)
  dsimp only [Pt.U, Pt.locs, Pt.cells, Pt.slots] at X52 l52 y52 z52 st52 hQ52
  subst y52 z52
  obtain ⟨ys_52, nn_52, gl_52, gr_52, gj_52, rr_52, rfl, N52q, K52, P52_0, P52_1, P52_2, P52_3, P52_4, P52_5, P52_6, P52_7, q0_52, q1_52, q2_52, q3_52, q4_52, q5_52, q6_52, q7_52, q8_52, q9_52, qa_52⟩ := hQ52
  have N52 := Fr.eqv l52 (Fr.app N35 N52q)
  refine Goal.tr (B := T52.setTop (mkF m 144 #[.val (.int u0), .val (.int u1), .val (.int u2), .val (.long u3), .second, .val (.int ln0), .val (.int w2), .val (.int w4), .val (.ref b5), .val (.ref b11), .val (.ref b18), .val (.ref b28), .unset, .unset, .unset, .unset, .unset, .unset, .unset, .unset, .unset, .unset, .unset, .unset, .unset, .unset, .unset, .unset, .unset, .unset, .unset, .unset, .unset] [(.int rr_52)])) st52 ?_
  refine Goal.to (B := T52.setTop (mkF m 147 #[.val (.int u0), .val (.int u1), .val (.int u2), .val (.long u3), .second, .val (.int ln0), .val (.int w2), .val (.int w4), .val (.ref b5), .val (.ref b11), .val (.ref b18), .val (.ref b28), .unset, .unset, .unset, .unset, .unset, .unset, .unset, .unset, .unset, .unset, .unset, .unset, .unset, .unset, .unset, .unset, .unset, .unset, .unset, .unset, .unset] [(.ref b28)])) (fun tt kk => ?_) ?_
  · show Steps p.tables e below (T52.setTop (mkF m 144 #[.val (.int u0), .val (.int u1), .val (.int u2), .val (.long u3), .second, .val (.int ln0), .val (.int w2), .val (.int w4), .val (.ref b5), .val (.ref b11), .val (.ref b18), .val (.ref b28), .unset, .unset, .unset, .unset, .unset, .unset, .unset, .unset, .unset, .unset, .unset, .unset, .unset, .unset, .unset, .unset, .unset, .unset, .unset, .unset, .unset] [(.int rr_52)])) tt
    refine XS.pop X52.here hx rfl (hb hby at_144) rfl rfl ?_
    show Steps p.tables e below (T52.setTop (mkF m 145 #[.val (.int u0), .val (.int u1), .val (.int u2), .val (.long u3), .second, .val (.int ln0), .val (.int w2), .val (.int w4), .val (.ref b5), .val (.ref b11), .val (.ref b18), .val (.ref b28), .unset, .unset, .unset, .unset, .unset, .unset, .unset, .unset, .unset, .unset, .unset, .unset, .unset, .unset, .unset, .unset, .unset, .unset, .unset, .unset, .unset] [])) tt
    refine XS.aload X52.here hx rfl (hb hby at_145) rfl rfl ?_
    exact kk
  have f53 : n0 ≤ T52.heap.size := (Nat.le_trans f51 K52.1)
  have f55 : Exa Z T52.heap b28 "com/example/pattern_automaton/patternautomaton/CharBlock" := (f41.keep K52)
  obtain ⟨cq54, kq54, q54a, q54b, q54c⟩ := isOf hZ rfl f55
  obtain ⟨_, _, ⟨T54, L54, k54, n54⟩, -, X54, ⟨Lc54, hQ54, l54, y54, z54⟩, st54⟩ := X52.virtualBack hx (y := (⟨"com/example/pattern_automaton/patternautomaton/CharBlock", "filled", "()I"⟩ : MethodName)) (z := (⟨"com/example/pattern_automaton/patternautomaton/CharBlock", "filled", "()I"⟩ : MethodName)) hown (mvT hZ (hw _ (mw 124 rfl))) (mvT hZ (hw _ (mw 125 rfl))) (notFace_of_selects (args := #[]) (mvT hZ (hw _ (mw 127 rfl)))) (mvT hZ (hw _ (mw 127 rfl))) (mvT hZ (hw _ (mw 126 rfl))) (by decide) (backOf (W := 0) (rmfd l Z a0 hw [] b28 gl_52 T52.heap n0 f53 P52_4) hZ (hw _ (mw 128 rfl)) (hw _ (mw 57 rfl)) (by decide) (by decide)) q54a q54c (g := (mkF m 147 #[.val (.int u0), .val (.int u1), .val (.int u2), .val (.long u3), .second, .val (.int ln0), .val (.int w2), .val (.int w4), .val (.ref b5), .val (.ref b11), .val (.ref b18), .val (.ref b28), .unset, .unset, .unset, .unset, .unset, .unset, .unset, .unset, .unset, .unset, .unset, .unset, .unset, .unset, .unset, .unset, .unset, .unset, .unset, .unset, .unset] [(.ref b28)])) rfl (by rw [hml]; rfl) (Steps.refl _) (argsL := []) (rest := []) (lenOf pd_7 rfl) rfl (by show 2 * 0 + _ ≤ _; exact Nat.le_of_eq rfl) (hb hby at_147) (fun _ _ => ⟨rfl, rfl, (by decide : 6 + 0 ≤ _), (by decide : 29 + 0 ≤ _)⟩)
  dsimp only [Pt.U, Pt.locs, Pt.cells, Pt.slots] at X54 l54 y54 z54 st54 hQ54
  subst y54 z54
  obtain ⟨rfl, N54q, e54⟩ := hQ54
  have N54 := Fr.eqv l54 (Fr.app N52 N54q)
  refine Goal.tr (B := T54.setTop (mkF m 150 #[.val (.int u0), .val (.int u1), .val (.int u2), .val (.long u3), .second, .val (.int ln0), .val (.int w2), .val (.int w4), .val (.ref b5), .val (.ref b11), .val (.ref b18), .val (.ref b28), .unset, .unset, .unset, .unset, .unset, .unset, .unset, .unset, .unset, .unset, .unset, .unset, .unset, .unset, .unset, .unset, .unset, .unset, .unset, .unset, .unset] [(.int gl_52)])) st54 ?_
  obtain ⟨ff, hff⟩ : ∃ z : Int32, z = ((u1 &&& (2147483647 : Int32)) % (gl_52 + (1 : Int32))) := ⟨_, rfl⟩
  refine Goal.to (B := T54.setTop (mkF m 163 #[.val (.int u0), .val (.int u1), .val (.int u2), .val (.long u3), .second, .val (.int ln0), .val (.int w2), .val (.int w4), .val (.ref b5), .val (.ref b11), .val (.ref b18), .val (.ref b28), .val (.int gl_52), .val (.int ff), .unset, .unset, .unset, .unset, .unset, .unset, .unset, .unset, .unset, .unset, .unset, .unset, .unset, .unset, .unset, .unset, .unset, .unset, .unset] [])) (fun tt kk => ?_) ?_
  · subst hff
    show Steps p.tables e below (T54.setTop (mkF m 150 #[.val (.int u0), .val (.int u1), .val (.int u2), .val (.long u3), .second, .val (.int ln0), .val (.int w2), .val (.int w4), .val (.ref b5), .val (.ref b11), .val (.ref b18), .val (.ref b28), .unset, .unset, .unset, .unset, .unset, .unset, .unset, .unset, .unset, .unset, .unset, .unset, .unset, .unset, .unset, .unset, .unset, .unset, .unset, .unset, .unset] [(.int gl_52)])) tt
    refine XS.istore X54.here hx rfl (hb hby at_150) rfl (l' := #[.val (.int u0), .val (.int u1), .val (.int u2), .val (.long u3), .second, .val (.int ln0), .val (.int w2), .val (.int w4), .val (.ref b5), .val (.ref b11), .val (.ref b18), .val (.ref b28), .val (.int gl_52), .unset, .unset, .unset, .unset, .unset, .unset, .unset, .unset, .unset, .unset, .unset, .unset, .unset, .unset, .unset, .unset, .unset, .unset, .unset, .unset]) rfl ?_
    show Steps p.tables e below (T54.setTop (mkF m 152 #[.val (.int u0), .val (.int u1), .val (.int u2), .val (.long u3), .second, .val (.int ln0), .val (.int w2), .val (.int w4), .val (.ref b5), .val (.ref b11), .val (.ref b18), .val (.ref b28), .val (.int gl_52), .unset, .unset, .unset, .unset, .unset, .unset, .unset, .unset, .unset, .unset, .unset, .unset, .unset, .unset, .unset, .unset, .unset, .unset, .unset, .unset] [])) tt
    refine XS.iloadN X54.here hx rfl (hb hby at_152) rfl ?_
    show Steps p.tables e below (T54.setTop (mkF m 153 #[.val (.int u0), .val (.int u1), .val (.int u2), .val (.long u3), .second, .val (.int ln0), .val (.int w2), .val (.int w4), .val (.ref b5), .val (.ref b11), .val (.ref b18), .val (.ref b28), .val (.int gl_52), .unset, .unset, .unset, .unset, .unset, .unset, .unset, .unset, .unset, .unset, .unset, .unset, .unset, .unset, .unset, .unset, .unset, .unset, .unset, .unset] [(.int u1)])) tt
    refine X54.ldcInt hx hown (mvT hZ (hw _ (mw 129 rfl))) (g := (mkF m 153 #[.val (.int u0), .val (.int u1), .val (.int u2), .val (.long u3), .second, .val (.int ln0), .val (.int w2), .val (.int w4), .val (.ref b5), .val (.ref b11), .val (.ref b18), .val (.ref b28), .val (.int gl_52), .unset, .unset, .unset, .unset, .unset, .unset, .unset, .unset, .unset, .unset, .unset, .unset, .unset, .unset, .unset, .unset, .unset, .unset, .unset, .unset] [(.int u1)])) rfl (hb hby at_153) _ ?_
    show Steps p.tables e below (T54.setTop (mkF m 155 #[.val (.int u0), .val (.int u1), .val (.int u2), .val (.long u3), .second, .val (.int ln0), .val (.int w2), .val (.int w4), .val (.ref b5), .val (.ref b11), .val (.ref b18), .val (.ref b28), .val (.int gl_52), .unset, .unset, .unset, .unset, .unset, .unset, .unset, .unset, .unset, .unset, .unset, .unset, .unset, .unset, .unset, .unset, .unset, .unset, .unset, .unset] [(.int (2147483647 : Int32)), (.int u1)])) tt
    refine XS.iand X54.here hx rfl (hb hby at_155) rfl ?_
    show Steps p.tables e below (T54.setTop (mkF m 156 #[.val (.int u0), .val (.int u1), .val (.int u2), .val (.long u3), .second, .val (.int ln0), .val (.int w2), .val (.int w4), .val (.ref b5), .val (.ref b11), .val (.ref b18), .val (.ref b28), .val (.int gl_52), .unset, .unset, .unset, .unset, .unset, .unset, .unset, .unset, .unset, .unset, .unset, .unset, .unset, .unset, .unset, .unset, .unset, .unset, .unset, .unset] [(.int (u1 &&& (2147483647 : Int32)))])) tt
    refine XS.iload X54.here hx rfl (hb hby at_156) rfl ?_
    show Steps p.tables e below (T54.setTop (mkF m 158 #[.val (.int u0), .val (.int u1), .val (.int u2), .val (.long u3), .second, .val (.int ln0), .val (.int w2), .val (.int w4), .val (.ref b5), .val (.ref b11), .val (.ref b18), .val (.ref b28), .val (.int gl_52), .unset, .unset, .unset, .unset, .unset, .unset, .unset, .unset, .unset, .unset, .unset, .unset, .unset, .unset, .unset, .unset, .unset, .unset, .unset, .unset] [(.int gl_52), (.int (u1 &&& (2147483647 : Int32)))])) tt
    refine XS.iconst X54.here hx rfl (hb hby at_158) ?_
    show Steps p.tables e below (T54.setTop (mkF m 159 #[.val (.int u0), .val (.int u1), .val (.int u2), .val (.long u3), .second, .val (.int ln0), .val (.int w2), .val (.int w4), .val (.ref b5), .val (.ref b11), .val (.ref b18), .val (.ref b28), .val (.int gl_52), .unset, .unset, .unset, .unset, .unset, .unset, .unset, .unset, .unset, .unset, .unset, .unset, .unset, .unset, .unset, .unset, .unset, .unset, .unset, .unset] [(.int (1 : Int32)), (.int gl_52), (.int (u1 &&& (2147483647 : Int32)))])) tt
    refine XS.iadd X54.here hx rfl (hb hby at_159) rfl ?_
    show Steps p.tables e below (T54.setTop (mkF m 160 #[.val (.int u0), .val (.int u1), .val (.int u2), .val (.long u3), .second, .val (.int ln0), .val (.int w2), .val (.int w4), .val (.ref b5), .val (.ref b11), .val (.ref b18), .val (.ref b28), .val (.int gl_52), .unset, .unset, .unset, .unset, .unset, .unset, .unset, .unset, .unset, .unset, .unset, .unset, .unset, .unset, .unset, .unset, .unset, .unset, .unset, .unset] [(.int (gl_52 + (1 : Int32))), (.int (u1 &&& (2147483647 : Int32)))])) tt
    refine iremM X54 hx rfl (hb hby at_160) rfl (own_nz ⟨q2_52, by have a := q3_52; have b := q7_52; omega⟩) ?_
    show Steps p.tables e below (T54.setTop (mkF m 161 #[.val (.int u0), .val (.int u1), .val (.int u2), .val (.long u3), .second, .val (.int ln0), .val (.int w2), .val (.int w4), .val (.ref b5), .val (.ref b11), .val (.ref b18), .val (.ref b28), .val (.int gl_52), .unset, .unset, .unset, .unset, .unset, .unset, .unset, .unset, .unset, .unset, .unset, .unset, .unset, .unset, .unset, .unset, .unset, .unset, .unset, .unset] [(.int ((u1 &&& (2147483647 : Int32)) % (gl_52 + (1 : Int32))))])) tt
    refine XS.istore X54.here hx rfl (hb hby at_161) rfl (l' := #[.val (.int u0), .val (.int u1), .val (.int u2), .val (.long u3), .second, .val (.int ln0), .val (.int w2), .val (.int w4), .val (.ref b5), .val (.ref b11), .val (.ref b18), .val (.ref b28), .val (.int gl_52), .val (.int ((u1 &&& (2147483647 : Int32)) % (gl_52 + (1 : Int32)))), .unset, .unset, .unset, .unset, .unset, .unset, .unset, .unset, .unset, .unset, .unset, .unset, .unset, .unset, .unset, .unset, .unset, .unset, .unset]) rfl ?_
    exact kk
  have hff0 := own_rem1 ⟨q2_52, by have a := q3_52; have b := q7_52; omega⟩ hff
  clear hff
  have hff := hff0
  refine Goal.to (B := T54.setTop (mkF m 167 #[.val (.int u0), .val (.int u1), .val (.int u2), .val (.long u3), .second, .val (.int ln0), .val (.int w2), .val (.int w4), .val (.ref b5), .val (.ref b11), .val (.ref b18), .val (.ref b28), .val (.int gl_52), .val (.int ff), .unset, .unset, .unset, .unset, .unset, .unset, .unset, .unset, .unset, .unset, .unset, .unset, .unset, .unset, .unset, .unset, .unset, .unset, .unset] [(.int ff), (.ref b28)])) (fun tt kk => ?_) ?_
  · show Steps p.tables e below (T54.setTop (mkF m 163 #[.val (.int u0), .val (.int u1), .val (.int u2), .val (.long u3), .second, .val (.int ln0), .val (.int w2), .val (.int w4), .val (.ref b5), .val (.ref b11), .val (.ref b18), .val (.ref b28), .val (.int gl_52), .val (.int ff), .unset, .unset, .unset, .unset, .unset, .unset, .unset, .unset, .unset, .unset, .unset, .unset, .unset, .unset, .unset, .unset, .unset, .unset, .unset] [])) tt
    refine XS.aload X54.here hx rfl (hb hby at_163) rfl rfl ?_
    show Steps p.tables e below (T54.setTop (mkF m 165 #[.val (.int u0), .val (.int u1), .val (.int u2), .val (.long u3), .second, .val (.int ln0), .val (.int w2), .val (.int w4), .val (.ref b5), .val (.ref b11), .val (.ref b18), .val (.ref b28), .val (.int gl_52), .val (.int ff), .unset, .unset, .unset, .unset, .unset, .unset, .unset, .unset, .unset, .unset, .unset, .unset, .unset, .unset, .unset, .unset, .unset, .unset, .unset] [(.ref b28)])) tt
    refine XS.iload X54.here hx rfl (hb hby at_165) rfl ?_
    exact kk
  obtain ⟨cq56, kq56, q56a, q56b, q56c⟩ := isOf hZ e54 f55
  obtain ⟨_, _, ⟨T56, L56, k56, n56⟩, -, X56, ⟨Lc56, hQ56, l56, y56, z56⟩, st56⟩ := X54.virtualBack hx (y := (⟨"com/example/pattern_automaton/patternautomaton/CharBlock", "nextWalkFrom", "(I)V"⟩ : MethodName)) (z := (⟨"com/example/pattern_automaton/patternautomaton/CharBlock", "nextWalkFrom", "(I)V"⟩ : MethodName)) hown (mvT hZ (hw _ (mw 130 rfl))) (mvT hZ (hw _ (mw 131 rfl))) (notFace_of_selects (args := #[]) (mvT hZ (hw _ (mw 133 rfl)))) (mvT hZ (hw _ (mw 133 rfl))) (mvT hZ (hw _ (mw 132 rfl))) (by decide) (backOf (W := 0) (rmnw l Z a0 hw [] b28 vc_35 gl_52 gr_52 gj_52 ff T52.heap n0 f53 f55 P52_3 P52_4 P52_5 P52_6 g_b28) hZ (hw _ (mw 134 rfl)) (hw _ (mw 57 rfl)) (by decide) (by decide)) q56a q56c (g := (mkF m 167 #[.val (.int u0), .val (.int u1), .val (.int u2), .val (.long u3), .second, .val (.int ln0), .val (.int w2), .val (.int w4), .val (.ref b5), .val (.ref b11), .val (.ref b18), .val (.ref b28), .val (.int gl_52), .val (.int ff), .unset, .unset, .unset, .unset, .unset, .unset, .unset, .unset, .unset, .unset, .unset, .unset, .unset, .unset, .unset, .unset, .unset, .unset, .unset] [(.int ff), (.ref b28)])) rfl (by rw [hml]; rfl) (Steps.refl _) (argsL := [(.int ff)]) (rest := []) (lenOf pd_9 rfl) rfl (by show 2 * 0 + _ ≤ _; exact Nat.le_of_eq rfl) (hb hby at_167) (fun _ _ => ⟨rfl, e54, (by decide : 6 + 0 ≤ _), (by decide : 29 + 0 ≤ _)⟩)
  dsimp only [Pt.U, Pt.locs, Pt.cells, Pt.slots] at X56 l56 y56 z56 st56 hQ56
  subst y56 z56
  obtain ⟨rfl, N56q, K56, P56_0, P56_1, P56_2, P56_3⟩ := hQ56
  have N56 := Fr.eqv l56 (Fr.app N54 N56q)
  refine Goal.tr (B := T56.setTop (mkF m 170 #[.val (.int u0), .val (.int u1), .val (.int u2), .val (.long u3), .second, .val (.int ln0), .val (.int w2), .val (.int w4), .val (.ref b5), .val (.ref b11), .val (.ref b18), .val (.ref b28), .val (.int gl_52), .val (.int ff), .unset, .unset, .unset, .unset, .unset, .unset, .unset, .unset, .unset, .unset, .unset, .unset, .unset, .unset, .unset, .unset, .unset, .unset, .unset] [])) st56 ?_
  refine Goal.to (B := T56.setTop (mkF m 172 #[.val (.int u0), .val (.int u1), .val (.int u2), .val (.long u3), .second, .val (.int ln0), .val (.int w2), .val (.int w4), .val (.ref b5), .val (.ref b11), .val (.ref b18), .val (.ref b28), .val (.int gl_52), .val (.int ff), .unset, .unset, .unset, .unset, .unset, .unset, .unset, .unset, .unset, .unset, .unset, .unset, .unset, .unset, .unset, .unset, .unset, .unset, .unset] [(.int w2)])) (fun tt kk => ?_) ?_
  · show Steps p.tables e below (T56.setTop (mkF m 170 #[.val (.int u0), .val (.int u1), .val (.int u2), .val (.long u3), .second, .val (.int ln0), .val (.int w2), .val (.int w4), .val (.ref b5), .val (.ref b11), .val (.ref b18), .val (.ref b28), .val (.int gl_52), .val (.int ff), .unset, .unset, .unset, .unset, .unset, .unset, .unset, .unset, .unset, .unset, .unset, .unset, .unset, .unset, .unset, .unset, .unset, .unset, .unset] [])) tt
    refine XS.iload X56.here hx rfl (hb hby at_170) rfl ?_
    exact kk
  by_cases hsec : w2 = (0 : Int32)
  · refine Goal.to (B := T56.setTop (mkF m 185 #[.val (.int u0), .val (.int u1), .val (.int u2), .val (.long u3), .second, .val (.int ln0), .val (.int w2), .val (.int w4), .val (.ref b5), .val (.ref b11), .val (.ref b18), .val (.ref b28), .val (.int gl_52), .val (.int ff), .unset, .unset, .unset, .unset, .unset, .unset, .unset, .unset, .unset, .unset, .unset, .unset, .unset, .unset, .unset, .unset, .unset, .unset, .unset] [(.ref b28)])) (fun tt kk => ?_) ?_
    · show Steps p.tables e below (T56.setTop (mkF m 172 #[.val (.int u0), .val (.int u1), .val (.int u2), .val (.long u3), .second, .val (.int ln0), .val (.int w2), .val (.int w4), .val (.ref b5), .val (.ref b11), .val (.ref b18), .val (.ref b28), .val (.int gl_52), .val (.int ff), .unset, .unset, .unset, .unset, .unset, .unset, .unset, .unset, .unset, .unset, .unset, .unset, .unset, .unset, .unset, .unset, .unset, .unset, .unset] [(.int w2)])) tt
      refine XS.ifYes X56.here hx rfl (pc0 := 172) (pc' := 183) rfl (hb hby at_172) rfl ((if0 _ _).trans (teq hsec).1) (by decide) (by decide) ?_
      show Steps p.tables e below (T56.setTop (mkF m 183 #[.val (.int u0), .val (.int u1), .val (.int u2), .val (.long u3), .second, .val (.int ln0), .val (.int w2), .val (.int w4), .val (.ref b5), .val (.ref b11), .val (.ref b18), .val (.ref b28), .val (.int gl_52), .val (.int ff), .unset, .unset, .unset, .unset, .unset, .unset, .unset, .unset, .unset, .unset, .unset, .unset, .unset, .unset, .unset, .unset, .unset, .unset, .unset] [])) tt
      refine XS.aload X56.here hx rfl (hb hby at_183) rfl rfl ?_
      exact kk
    have f57 : n0 ≤ T56.heap.size := (Nat.le_trans f53 K56.1)
    have f59 : Exa Z T56.heap b28 "com/example/pattern_automaton/patternautomaton/CharBlock" := (f55.keep K56)
    obtain ⟨cq58, kq58, q58a, q58b, q58c⟩ := isOf hZ rfl f59
    obtain ⟨_, _, ⟨T58, L58, k58, n58⟩, -, X58, ⟨Lc58, hQ58, l58, y58, z58⟩, st58⟩ := X56.virtualBack hx (y := (⟨"com/example/pattern_automaton/patternautomaton/CharBlock", "filled", "()I"⟩ : MethodName)) (z := (⟨"com/example/pattern_automaton/patternautomaton/CharBlock", "filled", "()I"⟩ : MethodName)) hown (mvT hZ (hw _ (mw 124 rfl))) (mvT hZ (hw _ (mw 125 rfl))) (notFace_of_selects (args := #[]) (mvT hZ (hw _ (mw 127 rfl)))) (mvT hZ (hw _ (mw 127 rfl))) (mvT hZ (hw _ (mw 126 rfl))) (by decide) (backOf (W := 0) (rmfd l Z a0 hw [] b28 gl_52 T56.heap n0 f57 P56_1) hZ (hw _ (mw 128 rfl)) (hw _ (mw 57 rfl)) (by decide) (by decide)) q58a q58c (g := (mkF m 185 #[.val (.int u0), .val (.int u1), .val (.int u2), .val (.long u3), .second, .val (.int ln0), .val (.int w2), .val (.int w4), .val (.ref b5), .val (.ref b11), .val (.ref b18), .val (.ref b28), .val (.int gl_52), .val (.int ff), .unset, .unset, .unset, .unset, .unset, .unset, .unset, .unset, .unset, .unset, .unset, .unset, .unset, .unset, .unset, .unset, .unset, .unset, .unset] [(.ref b28)])) rfl (by rw [hml]; rfl) (Steps.refl _) (argsL := []) (rest := []) (lenOf pd_7 rfl) rfl (by show 2 * 0 + _ ≤ _; exact Nat.le_of_eq rfl) (hb hby at_185) (fun _ _ => ⟨rfl, rfl, (by decide : 6 + 0 ≤ _), (by decide : 29 + 0 ≤ _)⟩)
    dsimp only [Pt.U, Pt.locs, Pt.cells, Pt.slots] at X58 l58 y58 z58 st58 hQ58
    subst y58 z58
    obtain ⟨rfl, N58q, e58⟩ := hQ58
    have N58 := Fr.eqv l58 (Fr.app N56 N58q)
    refine Goal.tr (B := T58.setTop (mkF m 188 #[.val (.int u0), .val (.int u1), .val (.int u2), .val (.long u3), .second, .val (.int ln0), .val (.int w2), .val (.int w4), .val (.ref b5), .val (.ref b11), .val (.ref b18), .val (.ref b28), .val (.int gl_52), .val (.int ff), .unset, .unset, .unset, .unset, .unset, .unset, .unset, .unset, .unset, .unset, .unset, .unset, .unset, .unset, .unset, .unset, .unset, .unset, .unset] [(.int gl_52)])) st58 ?_
    obtain ⟨gg, hgg⟩ : ∃ z : Int32, z = ((u2 &&& (2147483647 : Int32)) % (gl_52 + (1 : Int32))) := ⟨_, rfl⟩
    refine Goal.to (B := T58.setTop (mkF m 201 #[.val (.int u0), .val (.int u1), .val (.int u2), .val (.long u3), .second, .val (.int ln0), .val (.int w2), .val (.int w4), .val (.ref b5), .val (.ref b11), .val (.ref b18), .val (.ref b28), .val (.int gl_52), .val (.int ff), .val (.int gl_52), .val (.int gg), .unset, .unset, .unset, .unset, .unset, .unset, .unset, .unset, .unset, .unset, .unset, .unset, .unset, .unset, .unset, .unset, .unset] [])) (fun tt kk => ?_) ?_
    · subst hgg
      show Steps p.tables e below (T58.setTop (mkF m 188 #[.val (.int u0), .val (.int u1), .val (.int u2), .val (.long u3), .second, .val (.int ln0), .val (.int w2), .val (.int w4), .val (.ref b5), .val (.ref b11), .val (.ref b18), .val (.ref b28), .val (.int gl_52), .val (.int ff), .unset, .unset, .unset, .unset, .unset, .unset, .unset, .unset, .unset, .unset, .unset, .unset, .unset, .unset, .unset, .unset, .unset, .unset, .unset] [(.int gl_52)])) tt
      refine XS.istore X58.here hx rfl (hb hby at_188) rfl (l' := #[.val (.int u0), .val (.int u1), .val (.int u2), .val (.long u3), .second, .val (.int ln0), .val (.int w2), .val (.int w4), .val (.ref b5), .val (.ref b11), .val (.ref b18), .val (.ref b28), .val (.int gl_52), .val (.int ff), .val (.int gl_52), .unset, .unset, .unset, .unset, .unset, .unset, .unset, .unset, .unset, .unset, .unset, .unset, .unset, .unset, .unset, .unset, .unset, .unset]) rfl ?_
      show Steps p.tables e below (T58.setTop (mkF m 190 #[.val (.int u0), .val (.int u1), .val (.int u2), .val (.long u3), .second, .val (.int ln0), .val (.int w2), .val (.int w4), .val (.ref b5), .val (.ref b11), .val (.ref b18), .val (.ref b28), .val (.int gl_52), .val (.int ff), .val (.int gl_52), .unset, .unset, .unset, .unset, .unset, .unset, .unset, .unset, .unset, .unset, .unset, .unset, .unset, .unset, .unset, .unset, .unset, .unset] [])) tt
      refine XS.iloadN X58.here hx rfl (hb hby at_190) rfl ?_
      show Steps p.tables e below (T58.setTop (mkF m 191 #[.val (.int u0), .val (.int u1), .val (.int u2), .val (.long u3), .second, .val (.int ln0), .val (.int w2), .val (.int w4), .val (.ref b5), .val (.ref b11), .val (.ref b18), .val (.ref b28), .val (.int gl_52), .val (.int ff), .val (.int gl_52), .unset, .unset, .unset, .unset, .unset, .unset, .unset, .unset, .unset, .unset, .unset, .unset, .unset, .unset, .unset, .unset, .unset, .unset] [(.int u2)])) tt
      refine X58.ldcInt hx hown (mvT hZ (hw _ (mw 129 rfl))) (g := (mkF m 191 #[.val (.int u0), .val (.int u1), .val (.int u2), .val (.long u3), .second, .val (.int ln0), .val (.int w2), .val (.int w4), .val (.ref b5), .val (.ref b11), .val (.ref b18), .val (.ref b28), .val (.int gl_52), .val (.int ff), .val (.int gl_52), .unset, .unset, .unset, .unset, .unset, .unset, .unset, .unset, .unset, .unset, .unset, .unset, .unset, .unset, .unset, .unset, .unset, .unset] [(.int u2)])) rfl (hb hby at_191) _ ?_
      show Steps p.tables e below (T58.setTop (mkF m 193 #[.val (.int u0), .val (.int u1), .val (.int u2), .val (.long u3), .second, .val (.int ln0), .val (.int w2), .val (.int w4), .val (.ref b5), .val (.ref b11), .val (.ref b18), .val (.ref b28), .val (.int gl_52), .val (.int ff), .val (.int gl_52), .unset, .unset, .unset, .unset, .unset, .unset, .unset, .unset, .unset, .unset, .unset, .unset, .unset, .unset, .unset, .unset, .unset, .unset] [(.int (2147483647 : Int32)), (.int u2)])) tt
      refine XS.iand X58.here hx rfl (hb hby at_193) rfl ?_
      show Steps p.tables e below (T58.setTop (mkF m 194 #[.val (.int u0), .val (.int u1), .val (.int u2), .val (.long u3), .second, .val (.int ln0), .val (.int w2), .val (.int w4), .val (.ref b5), .val (.ref b11), .val (.ref b18), .val (.ref b28), .val (.int gl_52), .val (.int ff), .val (.int gl_52), .unset, .unset, .unset, .unset, .unset, .unset, .unset, .unset, .unset, .unset, .unset, .unset, .unset, .unset, .unset, .unset, .unset, .unset] [(.int (u2 &&& (2147483647 : Int32)))])) tt
      refine XS.iload X58.here hx rfl (hb hby at_194) rfl ?_
      show Steps p.tables e below (T58.setTop (mkF m 196 #[.val (.int u0), .val (.int u1), .val (.int u2), .val (.long u3), .second, .val (.int ln0), .val (.int w2), .val (.int w4), .val (.ref b5), .val (.ref b11), .val (.ref b18), .val (.ref b28), .val (.int gl_52), .val (.int ff), .val (.int gl_52), .unset, .unset, .unset, .unset, .unset, .unset, .unset, .unset, .unset, .unset, .unset, .unset, .unset, .unset, .unset, .unset, .unset, .unset] [(.int gl_52), (.int (u2 &&& (2147483647 : Int32)))])) tt
      refine XS.iconst X58.here hx rfl (hb hby at_196) ?_
      show Steps p.tables e below (T58.setTop (mkF m 197 #[.val (.int u0), .val (.int u1), .val (.int u2), .val (.long u3), .second, .val (.int ln0), .val (.int w2), .val (.int w4), .val (.ref b5), .val (.ref b11), .val (.ref b18), .val (.ref b28), .val (.int gl_52), .val (.int ff), .val (.int gl_52), .unset, .unset, .unset, .unset, .unset, .unset, .unset, .unset, .unset, .unset, .unset, .unset, .unset, .unset, .unset, .unset, .unset, .unset] [(.int (1 : Int32)), (.int gl_52), (.int (u2 &&& (2147483647 : Int32)))])) tt
      refine XS.iadd X58.here hx rfl (hb hby at_197) rfl ?_
      show Steps p.tables e below (T58.setTop (mkF m 198 #[.val (.int u0), .val (.int u1), .val (.int u2), .val (.long u3), .second, .val (.int ln0), .val (.int w2), .val (.int w4), .val (.ref b5), .val (.ref b11), .val (.ref b18), .val (.ref b28), .val (.int gl_52), .val (.int ff), .val (.int gl_52), .unset, .unset, .unset, .unset, .unset, .unset, .unset, .unset, .unset, .unset, .unset, .unset, .unset, .unset, .unset, .unset, .unset, .unset] [(.int (gl_52 + (1 : Int32))), (.int (u2 &&& (2147483647 : Int32)))])) tt
      refine iremM X58 hx rfl (hb hby at_198) rfl (own_nz ⟨q2_52, by have a := q3_52; have b := q7_52; omega⟩) ?_
      show Steps p.tables e below (T58.setTop (mkF m 199 #[.val (.int u0), .val (.int u1), .val (.int u2), .val (.long u3), .second, .val (.int ln0), .val (.int w2), .val (.int w4), .val (.ref b5), .val (.ref b11), .val (.ref b18), .val (.ref b28), .val (.int gl_52), .val (.int ff), .val (.int gl_52), .unset, .unset, .unset, .unset, .unset, .unset, .unset, .unset, .unset, .unset, .unset, .unset, .unset, .unset, .unset, .unset, .unset, .unset] [(.int ((u2 &&& (2147483647 : Int32)) % (gl_52 + (1 : Int32))))])) tt
      refine XS.istore X58.here hx rfl (hb hby at_199) rfl (l' := #[.val (.int u0), .val (.int u1), .val (.int u2), .val (.long u3), .second, .val (.int ln0), .val (.int w2), .val (.int w4), .val (.ref b5), .val (.ref b11), .val (.ref b18), .val (.ref b28), .val (.int gl_52), .val (.int ff), .val (.int gl_52), .val (.int ((u2 &&& (2147483647 : Int32)) % (gl_52 + (1 : Int32)))), .unset, .unset, .unset, .unset, .unset, .unset, .unset, .unset, .unset, .unset, .unset, .unset, .unset, .unset, .unset, .unset, .unset]) rfl ?_
      exact kk
    refine Goal.to (B := T58.setTop (mkF m 205 #[.val (.int u0), .val (.int u1), .val (.int u2), .val (.long u3), .second, .val (.int ln0), .val (.int w2), .val (.int w4), .val (.ref b5), .val (.ref b11), .val (.ref b18), .val (.ref b28), .val (.int gl_52), .val (.int ff), .val (.int gl_52), .val (.int gg), .unset, .unset, .unset, .unset, .unset, .unset, .unset, .unset, .unset, .unset, .unset, .unset, .unset, .unset, .unset, .unset, .unset] [(.int gg), (.ref b28)])) (fun tt kk => ?_) ?_
    · show Steps p.tables e below (T58.setTop (mkF m 201 #[.val (.int u0), .val (.int u1), .val (.int u2), .val (.long u3), .second, .val (.int ln0), .val (.int w2), .val (.int w4), .val (.ref b5), .val (.ref b11), .val (.ref b18), .val (.ref b28), .val (.int gl_52), .val (.int ff), .val (.int gl_52), .val (.int gg), .unset, .unset, .unset, .unset, .unset, .unset, .unset, .unset, .unset, .unset, .unset, .unset, .unset, .unset, .unset, .unset, .unset] [])) tt
      refine XS.aload X58.here hx rfl (hb hby at_201) rfl rfl ?_
      show Steps p.tables e below (T58.setTop (mkF m 203 #[.val (.int u0), .val (.int u1), .val (.int u2), .val (.long u3), .second, .val (.int ln0), .val (.int w2), .val (.int w4), .val (.ref b5), .val (.ref b11), .val (.ref b18), .val (.ref b28), .val (.int gl_52), .val (.int ff), .val (.int gl_52), .val (.int gg), .unset, .unset, .unset, .unset, .unset, .unset, .unset, .unset, .unset, .unset, .unset, .unset, .unset, .unset, .unset, .unset, .unset] [(.ref b28)])) tt
      refine XS.iload X58.here hx rfl (hb hby at_203) rfl ?_
      exact kk
    obtain ⟨cq60, kq60, q60a, q60b, q60c⟩ := isOf hZ e58 f59
    obtain ⟨_, _, ⟨T60, L60, k60, n60⟩, -, X60, ⟨Lc60, hQ60, l60, y60, z60⟩, st60⟩ := X58.virtualBack hx (y := (⟨"com/example/pattern_automaton/patternautomaton/CharBlock", "nextWalkFrom", "(I)V"⟩ : MethodName)) (z := (⟨"com/example/pattern_automaton/patternautomaton/CharBlock", "nextWalkFrom", "(I)V"⟩ : MethodName)) hown (mvT hZ (hw _ (mw 130 rfl))) (mvT hZ (hw _ (mw 131 rfl))) (notFace_of_selects (args := #[]) (mvT hZ (hw _ (mw 133 rfl)))) (mvT hZ (hw _ (mw 133 rfl))) (mvT hZ (hw _ (mw 132 rfl))) (by decide) (backOf (W := 0) (rmnw l Z a0 hw [] b28 vc_35 gl_52 ff gj_52 gg T56.heap n0 f57 f59 P56_0 P56_1 P56_2 P56_3 g_b28) hZ (hw _ (mw 134 rfl)) (hw _ (mw 57 rfl)) (by decide) (by decide)) q60a q60c (g := (mkF m 205 #[.val (.int u0), .val (.int u1), .val (.int u2), .val (.long u3), .second, .val (.int ln0), .val (.int w2), .val (.int w4), .val (.ref b5), .val (.ref b11), .val (.ref b18), .val (.ref b28), .val (.int gl_52), .val (.int ff), .val (.int gl_52), .val (.int gg), .unset, .unset, .unset, .unset, .unset, .unset, .unset, .unset, .unset, .unset, .unset, .unset, .unset, .unset, .unset, .unset, .unset] [(.int gg), (.ref b28)])) rfl (by rw [hml]; rfl) (Steps.refl _) (argsL := [(.int gg)]) (rest := []) (lenOf pd_9 rfl) rfl (by show 2 * 0 + _ ≤ _; exact Nat.le_of_eq rfl) (hb hby at_205) (fun _ _ => ⟨rfl, e58, (by decide : 6 + 0 ≤ _), (by decide : 29 + 0 ≤ _)⟩)
    dsimp only [Pt.U, Pt.locs, Pt.cells, Pt.slots] at X60 l60 y60 z60 st60 hQ60
    subst y60 z60
    obtain ⟨rfl, N60q, K60, P60_0, P60_1, P60_2, P60_3⟩ := hQ60
    have N60 := Fr.eqv l60 (Fr.app N58 N60q)
    refine Goal.tr (B := T60.setTop (mkF m 208 #[.val (.int u0), .val (.int u1), .val (.int u2), .val (.long u3), .second, .val (.int ln0), .val (.int w2), .val (.int w4), .val (.ref b5), .val (.ref b11), .val (.ref b18), .val (.ref b28), .val (.int gl_52), .val (.int ff), .val (.int gl_52), .val (.int gg), .unset, .unset, .unset, .unset, .unset, .unset, .unset, .unset, .unset, .unset, .unset, .unset, .unset, .unset, .unset, .unset, .unset] [])) st60 ?_
    refine Goal.to (B := T60.setTop (mkF m 210 #[.val (.int u0), .val (.int u1), .val (.int u2), .val (.long u3), .second, .val (.int ln0), .val (.int w2), .val (.int w4), .val (.ref b5), .val (.ref b11), .val (.ref b18), .val (.ref b28), .val (.int gl_52), .val (.int ff), .val (.int gl_52), .val (.int gg), .unset, .unset, .unset, .unset, .unset, .unset, .unset, .unset, .unset, .unset, .unset, .unset, .unset, .unset, .unset, .unset, .unset] [(.ref b28)])) (fun tt kk => ?_) ?_
    · show Steps p.tables e below (T60.setTop (mkF m 208 #[.val (.int u0), .val (.int u1), .val (.int u2), .val (.long u3), .second, .val (.int ln0), .val (.int w2), .val (.int w4), .val (.ref b5), .val (.ref b11), .val (.ref b18), .val (.ref b28), .val (.int gl_52), .val (.int ff), .val (.int gl_52), .val (.int gg), .unset, .unset, .unset, .unset, .unset, .unset, .unset, .unset, .unset, .unset, .unset, .unset, .unset, .unset, .unset, .unset, .unset] [])) tt
      refine XS.aload X60.here hx rfl (hb hby at_208) rfl rfl ?_
      exact kk
    have f61 : n0 ≤ T60.heap.size := (Nat.le_trans f57 K60.1)
    have f63 : Exa Z T60.heap b28 "com/example/pattern_automaton/patternautomaton/CharBlock" := (f59.keep K60)
    obtain ⟨cq62, kq62, q62a, q62b, q62c⟩ := isOf hZ rfl f63
    obtain ⟨_, _, ⟨T62, L62, k62, n62⟩, -, X62, ⟨Lc62, hQ62, l62, y62, z62⟩, st62⟩ := X60.virtualBack hx (y := (⟨"com/example/pattern_automaton/patternautomaton/CharBlock", "start", "()J"⟩ : MethodName)) (z := (⟨"com/example/pattern_automaton/patternautomaton/CharBlock", "start", "()J"⟩ : MethodName)) hown (mvT hZ (hw _ (mw 137 rfl))) (mvT hZ (hw _ (mw 138 rfl))) (notFace_of_selects (args := #[]) (mvT hZ (hw _ (mw 140 rfl)))) (mvT hZ (hw _ (mw 140 rfl))) (mvT hZ (hw _ (mw 139 rfl))) (by decide) (backOf (W := 0) (rmsj l Z a0 hw [] b28 gj_52 T60.heap n0 f61 P60_3) hZ (hw _ (mw 141 rfl)) (hw _ (mw 57 rfl)) (by decide) (by decide)) q62a q62c (g := (mkF m 210 #[.val (.int u0), .val (.int u1), .val (.int u2), .val (.long u3), .second, .val (.int ln0), .val (.int w2), .val (.int w4), .val (.ref b5), .val (.ref b11), .val (.ref b18), .val (.ref b28), .val (.int gl_52), .val (.int ff), .val (.int gl_52), .val (.int gg), .unset, .unset, .unset, .unset, .unset, .unset, .unset, .unset, .unset, .unset, .unset, .unset, .unset, .unset, .unset, .unset, .unset] [(.ref b28)])) rfl (by rw [hml]; rfl) (Steps.refl _) (argsL := []) (rest := []) (lenOf pd_21 rfl) rfl (by show 2 * 0 + _ ≤ _; exact Nat.le_of_eq rfl) (hb hby at_210) (fun _ _ => ⟨rfl, rfl, (by decide : 6 + 0 ≤ _), (by decide : 29 + 0 ≤ _)⟩)
    dsimp only [Pt.U, Pt.locs, Pt.cells, Pt.slots] at X62 l62 y62 z62 st62 hQ62
    subst y62 z62
    obtain ⟨rfl, N62q, e62⟩ := hQ62
    have N62 := Fr.eqv l62 (Fr.app N60 N62q)
    refine Goal.tr (B := T62.setTop (mkF m 213 #[.val (.int u0), .val (.int u1), .val (.int u2), .val (.long u3), .second, .val (.int ln0), .val (.int w2), .val (.int w4), .val (.ref b5), .val (.ref b11), .val (.ref b18), .val (.ref b28), .val (.int gl_52), .val (.int ff), .val (.int gl_52), .val (.int gg), .unset, .unset, .unset, .unset, .unset, .unset, .unset, .unset, .unset, .unset, .unset, .unset, .unset, .unset, .unset, .unset, .unset] [(.long gj_52)])) st62 ?_
    refine Goal.to (B := T62.setTop (mkF m 217 #[.val (.int u0), .val (.int u1), .val (.int u2), .val (.long u3), .second, .val (.int ln0), .val (.int w2), .val (.int w4), .val (.ref b5), .val (.ref b11), .val (.ref b18), .val (.ref b28), .val (.int gl_52), .val (.int ff), .val (.int gl_52), .val (.int gg), .val (.long gj_52), .second, .unset, .unset, .unset, .unset, .unset, .unset, .unset, .unset, .unset, .unset, .unset, .unset, .unset, .unset, .unset] [(.ref b28)])) (fun tt kk => ?_) ?_
    · show Steps p.tables e below (T62.setTop (mkF m 213 #[.val (.int u0), .val (.int u1), .val (.int u2), .val (.long u3), .second, .val (.int ln0), .val (.int w2), .val (.int w4), .val (.ref b5), .val (.ref b11), .val (.ref b18), .val (.ref b28), .val (.int gl_52), .val (.int ff), .val (.int gl_52), .val (.int gg), .unset, .unset, .unset, .unset, .unset, .unset, .unset, .unset, .unset, .unset, .unset, .unset, .unset, .unset, .unset, .unset, .unset] [(.long gj_52)])) tt
      refine XS.lstore X62.here hx rfl (hb hby at_213) rfl (l' := #[.val (.int u0), .val (.int u1), .val (.int u2), .val (.long u3), .second, .val (.int ln0), .val (.int w2), .val (.int w4), .val (.ref b5), .val (.ref b11), .val (.ref b18), .val (.ref b28), .val (.int gl_52), .val (.int ff), .val (.int gl_52), .val (.int gg), .val (.long gj_52), .second, .unset, .unset, .unset, .unset, .unset, .unset, .unset, .unset, .unset, .unset, .unset, .unset, .unset, .unset, .unset]) rfl ?_
      show Steps p.tables e below (T62.setTop (mkF m 215 #[.val (.int u0), .val (.int u1), .val (.int u2), .val (.long u3), .second, .val (.int ln0), .val (.int w2), .val (.int w4), .val (.ref b5), .val (.ref b11), .val (.ref b18), .val (.ref b28), .val (.int gl_52), .val (.int ff), .val (.int gl_52), .val (.int gg), .val (.long gj_52), .second, .unset, .unset, .unset, .unset, .unset, .unset, .unset, .unset, .unset, .unset, .unset, .unset, .unset, .unset, .unset] [])) tt
      refine XS.aload X62.here hx rfl (hb hby at_215) rfl rfl ?_
      exact kk
    obtain ⟨cq64, kq64, q64a, q64b, q64c⟩ := isOf hZ e62 f63
    obtain ⟨_, _, ⟨T64, L64, k64, n64⟩, -, X64, ⟨Lc64, hQ64, l64, y64, z64⟩, st64⟩ := X62.virtualBack hx (y := (⟨"com/example/pattern_automaton/patternautomaton/CharBlock", "filled", "()I"⟩ : MethodName)) (z := (⟨"com/example/pattern_automaton/patternautomaton/CharBlock", "filled", "()I"⟩ : MethodName)) hown (mvT hZ (hw _ (mw 124 rfl))) (mvT hZ (hw _ (mw 125 rfl))) (notFace_of_selects (args := #[]) (mvT hZ (hw _ (mw 127 rfl)))) (mvT hZ (hw _ (mw 127 rfl))) (mvT hZ (hw _ (mw 126 rfl))) (by decide) (backOf (W := 0) (rmfd l Z a0 hw [] b28 gl_52 T60.heap n0 f61 P60_1) hZ (hw _ (mw 128 rfl)) (hw _ (mw 57 rfl)) (by decide) (by decide)) q64a q64c (g := (mkF m 217 #[.val (.int u0), .val (.int u1), .val (.int u2), .val (.long u3), .second, .val (.int ln0), .val (.int w2), .val (.int w4), .val (.ref b5), .val (.ref b11), .val (.ref b18), .val (.ref b28), .val (.int gl_52), .val (.int ff), .val (.int gl_52), .val (.int gg), .val (.long gj_52), .second, .unset, .unset, .unset, .unset, .unset, .unset, .unset, .unset, .unset, .unset, .unset, .unset, .unset, .unset, .unset] [(.ref b28)])) rfl (by rw [hml]; rfl) (Steps.refl _) (argsL := []) (rest := []) (lenOf pd_7 rfl) rfl (by show 2 * 0 + _ ≤ _; exact Nat.le_of_eq rfl) (hb hby at_217) (fun _ _ => ⟨rfl, e62, (by decide : 6 + 0 ≤ _), (by decide : 29 + 0 ≤ _)⟩)
    dsimp only [Pt.U, Pt.locs, Pt.cells, Pt.slots] at X64 l64 y64 z64 st64 hQ64
    subst y64 z64
    obtain ⟨rfl, N64q, e64⟩ := hQ64
    have N64 := Fr.eqv l64 (Fr.app N62 N64q)
    refine Goal.tr (B := T64.setTop (mkF m 220 #[.val (.int u0), .val (.int u1), .val (.int u2), .val (.long u3), .second, .val (.int ln0), .val (.int w2), .val (.int w4), .val (.ref b5), .val (.ref b11), .val (.ref b18), .val (.ref b28), .val (.int gl_52), .val (.int ff), .val (.int gl_52), .val (.int gg), .val (.long gj_52), .second, .unset, .unset, .unset, .unset, .unset, .unset, .unset, .unset, .unset, .unset, .unset, .unset, .unset, .unset, .unset] [(.int gl_52)])) st64 ?_
    refine Goal.to (B := T64.setTop (mkF m 224 #[.val (.int u0), .val (.int u1), .val (.int u2), .val (.long u3), .second, .val (.int ln0), .val (.int w2), .val (.int w4), .val (.ref b5), .val (.ref b11), .val (.ref b18), .val (.ref b28), .val (.int gl_52), .val (.int ff), .val (.int gl_52), .val (.int gg), .val (.long gj_52), .second, .val (.int gl_52), .unset, .unset, .unset, .unset, .unset, .unset, .unset, .unset, .unset, .unset, .unset, .unset, .unset, .unset] [(.int w4)])) (fun tt kk => ?_) ?_
    · show Steps p.tables e below (T64.setTop (mkF m 220 #[.val (.int u0), .val (.int u1), .val (.int u2), .val (.long u3), .second, .val (.int ln0), .val (.int w2), .val (.int w4), .val (.ref b5), .val (.ref b11), .val (.ref b18), .val (.ref b28), .val (.int gl_52), .val (.int ff), .val (.int gl_52), .val (.int gg), .val (.long gj_52), .second, .unset, .unset, .unset, .unset, .unset, .unset, .unset, .unset, .unset, .unset, .unset, .unset, .unset, .unset, .unset] [(.int gl_52)])) tt
      refine XS.istore X64.here hx rfl (hb hby at_220) rfl (l' := #[.val (.int u0), .val (.int u1), .val (.int u2), .val (.long u3), .second, .val (.int ln0), .val (.int w2), .val (.int w4), .val (.ref b5), .val (.ref b11), .val (.ref b18), .val (.ref b28), .val (.int gl_52), .val (.int ff), .val (.int gl_52), .val (.int gg), .val (.long gj_52), .second, .val (.int gl_52), .unset, .unset, .unset, .unset, .unset, .unset, .unset, .unset, .unset, .unset, .unset, .unset, .unset, .unset]) rfl ?_
      show Steps p.tables e below (T64.setTop (mkF m 222 #[.val (.int u0), .val (.int u1), .val (.int u2), .val (.long u3), .second, .val (.int ln0), .val (.int w2), .val (.int w4), .val (.ref b5), .val (.ref b11), .val (.ref b18), .val (.ref b28), .val (.int gl_52), .val (.int ff), .val (.int gl_52), .val (.int gg), .val (.long gj_52), .second, .val (.int gl_52), .unset, .unset, .unset, .unset, .unset, .unset, .unset, .unset, .unset, .unset, .unset, .unset, .unset, .unset] [])) tt
      refine XS.iload X64.here hx rfl (hb hby at_222) rfl ?_
      exact kk
    obtain ⟨w66, hw66⟩ : ∃ z : Int64, z = if w4 = (0 : Int32) then (gj_52 + ((u3.toUInt64 >>> ((2 : Int32) &&& 0x3f).toInt64.toUInt64).toInt64)) else (gj_52 + (u3 &&& (7 : Int64))) := ⟨_, rfl⟩
    refine Goal.to (B := T64.setTop (mkF m 244 #[.val (.int u0), .val (.int u1), .val (.int u2), .val (.long u3), .second, .val (.int ln0), .val (.int w2), .val (.int w4), .val (.ref b5), .val (.ref b11), .val (.ref b18), .val (.ref b28), .val (.int gl_52), .val (.int ff), .val (.int gl_52), .val (.int gg), .val (.long gj_52), .second, .val (.int gl_52), .unset, .unset, .unset, .unset, .unset, .unset, .unset, .unset, .unset, .unset, .unset, .unset, .unset, .unset] [(.long w66)])) (fun tt kk => ?_) ?_
    · by_cases hc65 : w4 = (0 : Int32)
      · have qw66 : w66 = (gj_52 + ((u3.toUInt64 >>> ((2 : Int32) &&& 0x3f).toInt64.toUInt64).toInt64)) := by rw [hw66, if_pos hc65]
        rw [qw66] at kk
        show Steps p.tables e below (T64.setTop (mkF m 224 #[.val (.int u0), .val (.int u1), .val (.int u2), .val (.long u3), .second, .val (.int ln0), .val (.int w2), .val (.int w4), .val (.ref b5), .val (.ref b11), .val (.ref b18), .val (.ref b28), .val (.int gl_52), .val (.int ff), .val (.int gl_52), .val (.int gg), .val (.long gj_52), .second, .val (.int gl_52), .unset, .unset, .unset, .unset, .unset, .unset, .unset, .unset, .unset, .unset, .unset, .unset, .unset, .unset] [(.int w4)])) tt
        refine XS.ifYes X64.here hx rfl (pc0 := 224) (pc' := 238) rfl (hb hby at_224) rfl ((if0 _ _).trans (teq hc65).1) (by decide) (by decide) ?_
        show Steps p.tables e below (T64.setTop (mkF m 238 #[.val (.int u0), .val (.int u1), .val (.int u2), .val (.long u3), .second, .val (.int ln0), .val (.int w2), .val (.int w4), .val (.ref b5), .val (.ref b11), .val (.ref b18), .val (.ref b28), .val (.int gl_52), .val (.int ff), .val (.int gl_52), .val (.int gg), .val (.long gj_52), .second, .val (.int gl_52), .unset, .unset, .unset, .unset, .unset, .unset, .unset, .unset, .unset, .unset, .unset, .unset, .unset, .unset] [])) tt
        refine XS.lload X64.here hx rfl (hb hby at_238) rfl ?_
        show Steps p.tables e below (T64.setTop (mkF m 240 #[.val (.int u0), .val (.int u1), .val (.int u2), .val (.long u3), .second, .val (.int ln0), .val (.int w2), .val (.int w4), .val (.ref b5), .val (.ref b11), .val (.ref b18), .val (.ref b28), .val (.int gl_52), .val (.int ff), .val (.int gl_52), .val (.int gg), .val (.long gj_52), .second, .val (.int gl_52), .unset, .unset, .unset, .unset, .unset, .unset, .unset, .unset, .unset, .unset, .unset, .unset, .unset, .unset] [(.long gj_52)])) tt
        refine XS.lloadN X64.here hx rfl (hb hby at_240) rfl ?_
        show Steps p.tables e below (T64.setTop (mkF m 241 #[.val (.int u0), .val (.int u1), .val (.int u2), .val (.long u3), .second, .val (.int ln0), .val (.int w2), .val (.int w4), .val (.ref b5), .val (.ref b11), .val (.ref b18), .val (.ref b28), .val (.int gl_52), .val (.int ff), .val (.int gl_52), .val (.int gg), .val (.long gj_52), .second, .val (.int gl_52), .unset, .unset, .unset, .unset, .unset, .unset, .unset, .unset, .unset, .unset, .unset, .unset, .unset, .unset] [(.long u3), (.long gj_52)])) tt
        refine XS.iconst X64.here hx rfl (hb hby at_241) ?_
        show Steps p.tables e below (T64.setTop (mkF m 242 #[.val (.int u0), .val (.int u1), .val (.int u2), .val (.long u3), .second, .val (.int ln0), .val (.int w2), .val (.int w4), .val (.ref b5), .val (.ref b11), .val (.ref b18), .val (.ref b28), .val (.int gl_52), .val (.int ff), .val (.int gl_52), .val (.int gg), .val (.long gj_52), .second, .val (.int gl_52), .unset, .unset, .unset, .unset, .unset, .unset, .unset, .unset, .unset, .unset, .unset, .unset, .unset, .unset] [(.int (2 : Int32)), (.long u3), (.long gj_52)])) tt
        refine XS.lushr X64.here hx rfl (hb hby at_242) rfl ?_
        show Steps p.tables e below (T64.setTop (mkF m 243 #[.val (.int u0), .val (.int u1), .val (.int u2), .val (.long u3), .second, .val (.int ln0), .val (.int w2), .val (.int w4), .val (.ref b5), .val (.ref b11), .val (.ref b18), .val (.ref b28), .val (.int gl_52), .val (.int ff), .val (.int gl_52), .val (.int gg), .val (.long gj_52), .second, .val (.int gl_52), .unset, .unset, .unset, .unset, .unset, .unset, .unset, .unset, .unset, .unset, .unset, .unset, .unset, .unset] [(.long ((u3.toUInt64 >>> ((2 : Int32) &&& 0x3f).toInt64.toUInt64).toInt64)), (.long gj_52)])) tt
        refine XS.ladd X64.here hx rfl (hb hby at_243) rfl ?_
        exact kk
      · have qw66 : w66 = (gj_52 + (u3 &&& (7 : Int64))) := by rw [hw66, if_neg hc65]
        rw [qw66] at kk
        show Steps p.tables e below (T64.setTop (mkF m 224 #[.val (.int u0), .val (.int u1), .val (.int u2), .val (.long u3), .second, .val (.int ln0), .val (.int w2), .val (.int w4), .val (.ref b5), .val (.ref b11), .val (.ref b18), .val (.ref b28), .val (.int gl_52), .val (.int ff), .val (.int gl_52), .val (.int gg), .val (.long gj_52), .second, .val (.int gl_52), .unset, .unset, .unset, .unset, .unset, .unset, .unset, .unset, .unset, .unset, .unset, .unset, .unset, .unset] [(.int w4)])) tt
        refine XS.ifNo X64.here hx rfl (hb hby at_224) rfl ((if0 _ _).trans (feq hc65).1) ?_
        show Steps p.tables e below (T64.setTop (mkF m 227 #[.val (.int u0), .val (.int u1), .val (.int u2), .val (.long u3), .second, .val (.int ln0), .val (.int w2), .val (.int w4), .val (.ref b5), .val (.ref b11), .val (.ref b18), .val (.ref b28), .val (.int gl_52), .val (.int ff), .val (.int gl_52), .val (.int gg), .val (.long gj_52), .second, .val (.int gl_52), .unset, .unset, .unset, .unset, .unset, .unset, .unset, .unset, .unset, .unset, .unset, .unset, .unset, .unset] [])) tt
        refine XS.lload X64.here hx rfl (hb hby at_227) rfl ?_
        show Steps p.tables e below (T64.setTop (mkF m 229 #[.val (.int u0), .val (.int u1), .val (.int u2), .val (.long u3), .second, .val (.int ln0), .val (.int w2), .val (.int w4), .val (.ref b5), .val (.ref b11), .val (.ref b18), .val (.ref b28), .val (.int gl_52), .val (.int ff), .val (.int gl_52), .val (.int gg), .val (.long gj_52), .second, .val (.int gl_52), .unset, .unset, .unset, .unset, .unset, .unset, .unset, .unset, .unset, .unset, .unset, .unset, .unset, .unset] [(.long gj_52)])) tt
        refine XS.lloadN X64.here hx rfl (hb hby at_229) rfl ?_
        show Steps p.tables e below (T64.setTop (mkF m 230 #[.val (.int u0), .val (.int u1), .val (.int u2), .val (.long u3), .second, .val (.int ln0), .val (.int w2), .val (.int w4), .val (.ref b5), .val (.ref b11), .val (.ref b18), .val (.ref b28), .val (.int gl_52), .val (.int ff), .val (.int gl_52), .val (.int gg), .val (.long gj_52), .second, .val (.int gl_52), .unset, .unset, .unset, .unset, .unset, .unset, .unset, .unset, .unset, .unset, .unset, .unset, .unset, .unset] [(.long u3), (.long gj_52)])) tt
        refine X64.ldc2Long hx hown (mvT hZ (hw _ (mw 161 rfl))) (g := (mkF m 230 #[.val (.int u0), .val (.int u1), .val (.int u2), .val (.long u3), .second, .val (.int ln0), .val (.int w2), .val (.int w4), .val (.ref b5), .val (.ref b11), .val (.ref b18), .val (.ref b28), .val (.int gl_52), .val (.int ff), .val (.int gl_52), .val (.int gg), .val (.long gj_52), .second, .val (.int gl_52), .unset, .unset, .unset, .unset, .unset, .unset, .unset, .unset, .unset, .unset, .unset, .unset, .unset, .unset] [(.long u3), (.long gj_52)])) rfl (hb hby at_230) _ ?_
        show Steps p.tables e below (T64.setTop (mkF m 233 #[.val (.int u0), .val (.int u1), .val (.int u2), .val (.long u3), .second, .val (.int ln0), .val (.int w2), .val (.int w4), .val (.ref b5), .val (.ref b11), .val (.ref b18), .val (.ref b28), .val (.int gl_52), .val (.int ff), .val (.int gl_52), .val (.int gg), .val (.long gj_52), .second, .val (.int gl_52), .unset, .unset, .unset, .unset, .unset, .unset, .unset, .unset, .unset, .unset, .unset, .unset, .unset, .unset] [(.long (7 : Int64)), (.long u3), (.long gj_52)])) tt
        refine XS.land X64.here hx rfl (hb hby at_233) rfl ?_
        show Steps p.tables e below (T64.setTop (mkF m 234 #[.val (.int u0), .val (.int u1), .val (.int u2), .val (.long u3), .second, .val (.int ln0), .val (.int w2), .val (.int w4), .val (.ref b5), .val (.ref b11), .val (.ref b18), .val (.ref b28), .val (.int gl_52), .val (.int ff), .val (.int gl_52), .val (.int gg), .val (.long gj_52), .second, .val (.int gl_52), .unset, .unset, .unset, .unset, .unset, .unset, .unset, .unset, .unset, .unset, .unset, .unset, .unset, .unset] [(.long (u3 &&& (7 : Int64))), (.long gj_52)])) tt
        refine XS.ladd X64.here hx rfl (hb hby at_234) rfl ?_
        show Steps p.tables e below (T64.setTop (mkF m 235 #[.val (.int u0), .val (.int u1), .val (.int u2), .val (.long u3), .second, .val (.int ln0), .val (.int w2), .val (.int w4), .val (.ref b5), .val (.ref b11), .val (.ref b18), .val (.ref b28), .val (.int gl_52), .val (.int ff), .val (.int gl_52), .val (.int gg), .val (.long gj_52), .second, .val (.int gl_52), .unset, .unset, .unset, .unset, .unset, .unset, .unset, .unset, .unset, .unset, .unset, .unset, .unset, .unset] [(.long (gj_52 + (u3 &&& (7 : Int64))))])) tt
        refine XS.goto X64.here hx rfl (pc0 := 235) (pc' := 244) rfl (hb hby at_235) (by decide) (by decide) ?_
        exact kk
    refine Goal.to (B := T64.setTop (mkF m 246 #[.val (.int u0), .val (.int u1), .val (.int u2), .val (.long u3), .second, .val (.int ln0), .val (.int w2), .val (.int w4), .val (.ref b5), .val (.ref b11), .val (.ref b18), .val (.ref b28), .val (.int gl_52), .val (.int ff), .val (.int gl_52), .val (.int gg), .val (.long gj_52), .second, .val (.int gl_52), .val (.long w66), .second, .unset, .unset, .unset, .unset, .unset, .unset, .unset, .unset, .unset, .unset, .unset, .unset] [])) (fun tt kk => ?_) ?_
    · show Steps p.tables e below (T64.setTop (mkF m 244 #[.val (.int u0), .val (.int u1), .val (.int u2), .val (.long u3), .second, .val (.int ln0), .val (.int w2), .val (.int w4), .val (.ref b5), .val (.ref b11), .val (.ref b18), .val (.ref b28), .val (.int gl_52), .val (.int ff), .val (.int gl_52), .val (.int gg), .val (.long gj_52), .second, .val (.int gl_52), .unset, .unset, .unset, .unset, .unset, .unset, .unset, .unset, .unset, .unset, .unset, .unset, .unset, .unset] [(.long w66)])) tt
      refine XS.lstore X64.here hx rfl (hb hby at_244) rfl (l' := #[.val (.int u0), .val (.int u1), .val (.int u2), .val (.long u3), .second, .val (.int ln0), .val (.int w2), .val (.int w4), .val (.ref b5), .val (.ref b11), .val (.ref b18), .val (.ref b28), .val (.int gl_52), .val (.int ff), .val (.int gl_52), .val (.int gg), .val (.long gj_52), .second, .val (.int gl_52), .val (.long w66), .second, .unset, .unset, .unset, .unset, .unset, .unset, .unset, .unset, .unset, .unset, .unset, .unset]) rfl ?_
      exact kk
    have hS := (⟨q6_52, by have a0 := q9_52; simp at a0; omega⟩ : 0 ≤ gj_52.toInt ∧ gj_52.toInt ≤ 1000)
    have hF := (⟨q2_52, by have a := q3_52; have b := q7_52; omega⟩ : 0 ≤ gl_52.toInt ∧ gl_52.toInt ≤ 8)
    have hE := own_end hS hw66
    obtain ⟨he, hhe⟩ : ∃ z : Int64, z = (gj_52 + (gl_52.toInt64)) := ⟨_, rfl⟩
    refine Goal.to (B := T64.setTop (mkF m 254 #[.val (.int u0), .val (.int u1), .val (.int u2), .val (.long u3), .second, .val (.int ln0), .val (.int w2), .val (.int w4), .val (.ref b5), .val (.ref b11), .val (.ref b18), .val (.ref b28), .val (.int gl_52), .val (.int ff), .val (.int gl_52), .val (.int gg), .val (.long gj_52), .second, .val (.int gl_52), .val (.long w66), .second, .val (.long he), .second, .unset, .unset, .unset, .unset, .unset, .unset, .unset, .unset, .unset, .unset] [])) (fun tt kk => ?_) ?_
    · subst hhe
      show Steps p.tables e below (T64.setTop (mkF m 246 #[.val (.int u0), .val (.int u1), .val (.int u2), .val (.long u3), .second, .val (.int ln0), .val (.int w2), .val (.int w4), .val (.ref b5), .val (.ref b11), .val (.ref b18), .val (.ref b28), .val (.int gl_52), .val (.int ff), .val (.int gl_52), .val (.int gg), .val (.long gj_52), .second, .val (.int gl_52), .val (.long w66), .second, .unset, .unset, .unset, .unset, .unset, .unset, .unset, .unset, .unset, .unset, .unset, .unset] [])) tt
      refine XS.lload X64.here hx rfl (hb hby at_246) rfl ?_
      show Steps p.tables e below (T64.setTop (mkF m 248 #[.val (.int u0), .val (.int u1), .val (.int u2), .val (.long u3), .second, .val (.int ln0), .val (.int w2), .val (.int w4), .val (.ref b5), .val (.ref b11), .val (.ref b18), .val (.ref b28), .val (.int gl_52), .val (.int ff), .val (.int gl_52), .val (.int gg), .val (.long gj_52), .second, .val (.int gl_52), .val (.long w66), .second, .unset, .unset, .unset, .unset, .unset, .unset, .unset, .unset, .unset, .unset, .unset, .unset] [(.long gj_52)])) tt
      refine XS.iload X64.here hx rfl (hb hby at_248) rfl ?_
      show Steps p.tables e below (T64.setTop (mkF m 250 #[.val (.int u0), .val (.int u1), .val (.int u2), .val (.long u3), .second, .val (.int ln0), .val (.int w2), .val (.int w4), .val (.ref b5), .val (.ref b11), .val (.ref b18), .val (.ref b28), .val (.int gl_52), .val (.int ff), .val (.int gl_52), .val (.int gg), .val (.long gj_52), .second, .val (.int gl_52), .val (.long w66), .second, .unset, .unset, .unset, .unset, .unset, .unset, .unset, .unset, .unset, .unset, .unset, .unset] [(.int gl_52), (.long gj_52)])) tt
      refine XS.i2l X64.here hx rfl (hb hby at_250) rfl ?_
      show Steps p.tables e below (T64.setTop (mkF m 251 #[.val (.int u0), .val (.int u1), .val (.int u2), .val (.long u3), .second, .val (.int ln0), .val (.int w2), .val (.int w4), .val (.ref b5), .val (.ref b11), .val (.ref b18), .val (.ref b28), .val (.int gl_52), .val (.int ff), .val (.int gl_52), .val (.int gg), .val (.long gj_52), .second, .val (.int gl_52), .val (.long w66), .second, .unset, .unset, .unset, .unset, .unset, .unset, .unset, .unset, .unset, .unset, .unset, .unset] [(.long (gl_52.toInt64)), (.long gj_52)])) tt
      refine XS.ladd X64.here hx rfl (hb hby at_251) rfl ?_
      show Steps p.tables e below (T64.setTop (mkF m 252 #[.val (.int u0), .val (.int u1), .val (.int u2), .val (.long u3), .second, .val (.int ln0), .val (.int w2), .val (.int w4), .val (.ref b5), .val (.ref b11), .val (.ref b18), .val (.ref b28), .val (.int gl_52), .val (.int ff), .val (.int gl_52), .val (.int gg), .val (.long gj_52), .second, .val (.int gl_52), .val (.long w66), .second, .unset, .unset, .unset, .unset, .unset, .unset, .unset, .unset, .unset, .unset, .unset, .unset] [(.long (gj_52 + (gl_52.toInt64)))])) tt
      refine XS.lstore X64.here hx rfl (hb hby at_252) rfl (l' := #[.val (.int u0), .val (.int u1), .val (.int u2), .val (.long u3), .second, .val (.int ln0), .val (.int w2), .val (.int w4), .val (.ref b5), .val (.ref b11), .val (.ref b18), .val (.ref b28), .val (.int gl_52), .val (.int ff), .val (.int gl_52), .val (.int gg), .val (.long gj_52), .second, .val (.int gl_52), .val (.long w66), .second, .val (.long (gj_52 + (gl_52.toInt64))), .second, .unset, .unset, .unset, .unset, .unset, .unset, .unset, .unset, .unset, .unset]) rfl ?_
      exact kk
    refine Goal.to (B := T64.setTop (mkF m 259 #[.val (.int u0), .val (.int u1), .val (.int u2), .val (.long u3), .second, .val (.int ln0), .val (.int w2), .val (.int w4), .val (.ref b5), .val (.ref b11), .val (.ref b18), .val (.ref b28), .val (.int gl_52), .val (.int ff), .val (.int gl_52), .val (.int gg), .val (.long gj_52), .second, .val (.int gl_52), .val (.long w66), .second, .val (.long he), .second, .unset, .unset, .unset, .unset, .unset, .unset, .unset, .unset, .unset, .unset] [(.int (lcmpW w66 he))])) (fun tt kk => ?_) ?_
    · show Steps p.tables e below (T64.setTop (mkF m 254 #[.val (.int u0), .val (.int u1), .val (.int u2), .val (.long u3), .second, .val (.int ln0), .val (.int w2), .val (.int w4), .val (.ref b5), .val (.ref b11), .val (.ref b18), .val (.ref b28), .val (.int gl_52), .val (.int ff), .val (.int gl_52), .val (.int gg), .val (.long gj_52), .second, .val (.int gl_52), .val (.long w66), .second, .val (.long he), .second, .unset, .unset, .unset, .unset, .unset, .unset, .unset, .unset, .unset, .unset] [])) tt
      refine XS.lload X64.here hx rfl (hb hby at_254) rfl ?_
      show Steps p.tables e below (T64.setTop (mkF m 256 #[.val (.int u0), .val (.int u1), .val (.int u2), .val (.long u3), .second, .val (.int ln0), .val (.int w2), .val (.int w4), .val (.ref b5), .val (.ref b11), .val (.ref b18), .val (.ref b28), .val (.int gl_52), .val (.int ff), .val (.int gl_52), .val (.int gg), .val (.long gj_52), .second, .val (.int gl_52), .val (.long w66), .second, .val (.long he), .second, .unset, .unset, .unset, .unset, .unset, .unset, .unset, .unset, .unset, .unset] [(.long w66)])) tt
      refine XS.lload X64.here hx rfl (hb hby at_256) rfl ?_
      show Steps p.tables e below (T64.setTop (mkF m 258 #[.val (.int u0), .val (.int u1), .val (.int u2), .val (.long u3), .second, .val (.int ln0), .val (.int w2), .val (.int w4), .val (.ref b5), .val (.ref b11), .val (.ref b18), .val (.ref b28), .val (.int gl_52), .val (.int ff), .val (.int gl_52), .val (.int gg), .val (.long gj_52), .second, .val (.int gl_52), .val (.long w66), .second, .val (.long he), .second, .unset, .unset, .unset, .unset, .unset, .unset, .unset, .unset, .unset, .unset] [(.long he), (.long w66)])) tt
      refine XS.lcmp X64.here hx rfl (hb hby at_258) rfl ?_
      exact kk
    by_cases hcut : (lcmpW w66 he) < (0 : Int32)
    · have hcut' : w66 < (gj_52 + (gl_52.toInt64)) := by rw [← hhe]; exact (lw_lt _ _).mp hcut
      refine Goal.to (B := T64.setTop (mkF m 273 #[.val (.int u0), .val (.int u1), .val (.int u2), .val (.long u3), .second, .val (.int ln0), .val (.int w2), .val (.int w4), .val (.ref b5), .val (.ref b11), .val (.ref b18), .val (.ref b28), .val (.int gl_52), .val (.int ff), .val (.int gl_52), .val (.int gg), .val (.long gj_52), .second, .val (.int gl_52), .val (.long w66), .second, .val (.long he), .second, .val (.int (1 : Int32)), .unset, .unset, .unset, .unset, .unset, .unset, .unset, .unset, .unset] [(.long w66), (.long he)])) (fun tt kk => ?_) ?_
      · show Steps p.tables e below (T64.setTop (mkF m 259 #[.val (.int u0), .val (.int u1), .val (.int u2), .val (.long u3), .second, .val (.int ln0), .val (.int w2), .val (.int w4), .val (.ref b5), .val (.ref b11), .val (.ref b18), .val (.ref b28), .val (.int gl_52), .val (.int ff), .val (.int gl_52), .val (.int gg), .val (.long gj_52), .second, .val (.int gl_52), .val (.long w66), .second, .val (.long he), .second, .unset, .unset, .unset, .unset, .unset, .unset, .unset, .unset, .unset, .unset] [(.int (lcmpW w66 he))])) tt
        refine XS.ifNo X64.here hx rfl (hb hby at_259) rfl ((if0 _ _).trans (tlt hcut).2.1) ?_
        show Steps p.tables e below (T64.setTop (mkF m 262 #[.val (.int u0), .val (.int u1), .val (.int u2), .val (.long u3), .second, .val (.int ln0), .val (.int w2), .val (.int w4), .val (.ref b5), .val (.ref b11), .val (.ref b18), .val (.ref b28), .val (.int gl_52), .val (.int ff), .val (.int gl_52), .val (.int gg), .val (.long gj_52), .second, .val (.int gl_52), .val (.long w66), .second, .val (.long he), .second, .unset, .unset, .unset, .unset, .unset, .unset, .unset, .unset, .unset, .unset] [])) tt
        refine XS.iconst X64.here hx rfl (hb hby at_262) ?_
        show Steps p.tables e below (T64.setTop (mkF m 263 #[.val (.int u0), .val (.int u1), .val (.int u2), .val (.long u3), .second, .val (.int ln0), .val (.int w2), .val (.int w4), .val (.ref b5), .val (.ref b11), .val (.ref b18), .val (.ref b28), .val (.int gl_52), .val (.int ff), .val (.int gl_52), .val (.int gg), .val (.long gj_52), .second, .val (.int gl_52), .val (.long w66), .second, .val (.long he), .second, .unset, .unset, .unset, .unset, .unset, .unset, .unset, .unset, .unset, .unset] [(.int (1 : Int32))])) tt
        refine XS.goto X64.here hx rfl (pc0 := 263) (pc' := 267) rfl (hb hby at_263) (by decide) (by decide) ?_
        show Steps p.tables e below (T64.setTop (mkF m 267 #[.val (.int u0), .val (.int u1), .val (.int u2), .val (.long u3), .second, .val (.int ln0), .val (.int w2), .val (.int w4), .val (.ref b5), .val (.ref b11), .val (.ref b18), .val (.ref b28), .val (.int gl_52), .val (.int ff), .val (.int gl_52), .val (.int gg), .val (.long gj_52), .second, .val (.int gl_52), .val (.long w66), .second, .val (.long he), .second, .unset, .unset, .unset, .unset, .unset, .unset, .unset, .unset, .unset, .unset] [(.int (1 : Int32))])) tt
        refine XS.istore X64.here hx rfl (hb hby at_267) rfl (l' := #[.val (.int u0), .val (.int u1), .val (.int u2), .val (.long u3), .second, .val (.int ln0), .val (.int w2), .val (.int w4), .val (.ref b5), .val (.ref b11), .val (.ref b18), .val (.ref b28), .val (.int gl_52), .val (.int ff), .val (.int gl_52), .val (.int gg), .val (.long gj_52), .second, .val (.int gl_52), .val (.long w66), .second, .val (.long he), .second, .val (.int (1 : Int32)), .unset, .unset, .unset, .unset, .unset, .unset, .unset, .unset, .unset]) rfl ?_
        show Steps p.tables e below (T64.setTop (mkF m 269 #[.val (.int u0), .val (.int u1), .val (.int u2), .val (.long u3), .second, .val (.int ln0), .val (.int w2), .val (.int w4), .val (.ref b5), .val (.ref b11), .val (.ref b18), .val (.ref b28), .val (.int gl_52), .val (.int ff), .val (.int gl_52), .val (.int gg), .val (.long gj_52), .second, .val (.int gl_52), .val (.long w66), .second, .val (.long he), .second, .val (.int (1 : Int32)), .unset, .unset, .unset, .unset, .unset, .unset, .unset, .unset, .unset] [])) tt
        refine XS.lload X64.here hx rfl (hb hby at_269) rfl ?_
        show Steps p.tables e below (T64.setTop (mkF m 271 #[.val (.int u0), .val (.int u1), .val (.int u2), .val (.long u3), .second, .val (.int ln0), .val (.int w2), .val (.int w4), .val (.ref b5), .val (.ref b11), .val (.ref b18), .val (.ref b28), .val (.int gl_52), .val (.int ff), .val (.int gl_52), .val (.int gg), .val (.long gj_52), .second, .val (.int gl_52), .val (.long w66), .second, .val (.long he), .second, .val (.int (1 : Int32)), .unset, .unset, .unset, .unset, .unset, .unset, .unset, .unset, .unset] [(.long he)])) tt
        refine XS.lload X64.here hx rfl (hb hby at_271) rfl ?_
        exact kk
      obtain ⟨_, _, ⟨T67, L67, k67, n67⟩, -, X67, ⟨Lc67, hQ67, l67, y67, z67⟩, st67⟩ := Jvm.LawKit.callS X64 hx (y := (⟨"java/lang/Math", "min", "(JJ)J"⟩ : MethodName)) hown (mvT hZ (hw _ (mw 144 rfl))) (mvT hZ (hw _ (mw 145 rfl))) (mvT hZ (hw _ (mw 84 rfl))) (mvT hZ (hw _ (mw 146 rfl))) (by decide) (backOf (W := 0) (rmmj l Z a0 hw [] he w66 T60.heap n0 f61 ) hZ (hw _ (mw 146 rfl)) (hw _ (mw 84 rfl)) (by decide) (by decide)) (g := (mkF m 273 #[.val (.int u0), .val (.int u1), .val (.int u2), .val (.long u3), .second, .val (.int ln0), .val (.int w2), .val (.int w4), .val (.ref b5), .val (.ref b11), .val (.ref b18), .val (.ref b28), .val (.int gl_52), .val (.int ff), .val (.int gl_52), .val (.int gg), .val (.long gj_52), .second, .val (.int gl_52), .val (.long w66), .second, .val (.long he), .second, .val (.int (1 : Int32)), .unset, .unset, .unset, .unset, .unset, .unset, .unset, .unset, .unset] [(.long w66), (.long he)])) rfl (by rw [hml]; rfl) (argsL := [(.long he), (.long w66)]) (rest := []) (lenOf pd_22 rfl) rfl (by show 2 * 0 + _ ≤ _; exact Nat.le_of_eq rfl) (hb hby at_273) (fun _ _ => ⟨rfl, e64, (by decide : 6 + 0 ≤ _), (by decide : 29 + 0 ≤ _)⟩)
      dsimp only [Pt.U, Pt.locs, Pt.cells, Pt.slots] at X67 l67 y67 z67 st67 hQ67
      subst y67 z67
      obtain ⟨rfl, N67q, e67⟩ := hQ67
      have N67 := Fr.eqv l67 (Fr.app N64 N67q)
      refine Goal.to (B := T67.setTop (mkF m 276 #[.val (.int u0), .val (.int u1), .val (.int u2), .val (.long u3), .second, .val (.int ln0), .val (.int w2), .val (.int w4), .val (.ref b5), .val (.ref b11), .val (.ref b18), .val (.ref b28), .val (.int gl_52), .val (.int ff), .val (.int gl_52), .val (.int gg), .val (.long gj_52), .second, .val (.int gl_52), .val (.long w66), .second, .val (.long he), .second, .val (.int (1 : Int32)), .unset, .unset, .unset, .unset, .unset, .unset, .unset, .unset, .unset] [(.long (if (0 : Int32) < (lcmpW he w66) then w66 else he))])) st67 ?_
      refine Goal.to (B := T67.setTop (mkF m 282 #[.val (.int u0), .val (.int u1), .val (.int u2), .val (.long u3), .second, .val (.int ln0), .val (.int w2), .val (.int w4), .val (.ref b5), .val (.ref b11), .val (.ref b18), .val (.ref b28), .val (.int gl_52), .val (.int ff), .val (.int gl_52), .val (.int gg), .val (.long gj_52), .second, .val (.int gl_52), .val (.long w66), .second, .val (.long he), .second, .val (.int (1 : Int32)), .val (.long (if (0 : Int32) < (lcmpW he w66) then w66 else he)), .second, .unset, .unset, .unset, .unset, .unset, .unset, .unset] [(.long w66), (.ref b28)])) (fun tt kk => ?_) ?_
      · show Steps p.tables e below (T67.setTop (mkF m 276 #[.val (.int u0), .val (.int u1), .val (.int u2), .val (.long u3), .second, .val (.int ln0), .val (.int w2), .val (.int w4), .val (.ref b5), .val (.ref b11), .val (.ref b18), .val (.ref b28), .val (.int gl_52), .val (.int ff), .val (.int gl_52), .val (.int gg), .val (.long gj_52), .second, .val (.int gl_52), .val (.long w66), .second, .val (.long he), .second, .val (.int (1 : Int32)), .unset, .unset, .unset, .unset, .unset, .unset, .unset, .unset, .unset] [(.long (if (0 : Int32) < (lcmpW he w66) then w66 else he))])) tt
        refine XS.lstore X67.here hx rfl (hb hby at_276) rfl (l' := #[.val (.int u0), .val (.int u1), .val (.int u2), .val (.long u3), .second, .val (.int ln0), .val (.int w2), .val (.int w4), .val (.ref b5), .val (.ref b11), .val (.ref b18), .val (.ref b28), .val (.int gl_52), .val (.int ff), .val (.int gl_52), .val (.int gg), .val (.long gj_52), .second, .val (.int gl_52), .val (.long w66), .second, .val (.long he), .second, .val (.int (1 : Int32)), .val (.long (if (0 : Int32) < (lcmpW he w66) then w66 else he)), .second, .unset, .unset, .unset, .unset, .unset, .unset, .unset]) rfl ?_
        show Steps p.tables e below (T67.setTop (mkF m 278 #[.val (.int u0), .val (.int u1), .val (.int u2), .val (.long u3), .second, .val (.int ln0), .val (.int w2), .val (.int w4), .val (.ref b5), .val (.ref b11), .val (.ref b18), .val (.ref b28), .val (.int gl_52), .val (.int ff), .val (.int gl_52), .val (.int gg), .val (.long gj_52), .second, .val (.int gl_52), .val (.long w66), .second, .val (.long he), .second, .val (.int (1 : Int32)), .val (.long (if (0 : Int32) < (lcmpW he w66) then w66 else he)), .second, .unset, .unset, .unset, .unset, .unset, .unset, .unset] [])) tt
        refine XS.aload X67.here hx rfl (hb hby at_278) rfl rfl ?_
        show Steps p.tables e below (T67.setTop (mkF m 280 #[.val (.int u0), .val (.int u1), .val (.int u2), .val (.long u3), .second, .val (.int ln0), .val (.int w2), .val (.int w4), .val (.ref b5), .val (.ref b11), .val (.ref b18), .val (.ref b28), .val (.int gl_52), .val (.int ff), .val (.int gl_52), .val (.int gg), .val (.long gj_52), .second, .val (.int gl_52), .val (.long w66), .second, .val (.long he), .second, .val (.int (1 : Int32)), .val (.long (if (0 : Int32) < (lcmpW he w66) then w66 else he)), .second, .unset, .unset, .unset, .unset, .unset, .unset, .unset] [(.ref b28)])) tt
        refine XS.lload X67.here hx rfl (hb hby at_280) rfl ?_
        exact kk
      obtain ⟨cq68, kq68, q68a, q68b, q68c⟩ := isOf hZ e67 f63
      obtain ⟨_, _, ⟨T68, L68, k68, n68⟩, -, X68, ⟨Lc68, hQ68, l68, y68, z68⟩, st68⟩ := X67.virtualBack hx (y := (⟨"com/example/pattern_automaton/patternautomaton/CharBlock", "cutTo", "(J)V"⟩ : MethodName)) (z := (⟨"com/example/pattern_automaton/patternautomaton/CharBlock", "cutTo", "(J)V"⟩ : MethodName)) hown (mvT hZ (hw _ (mw 147 rfl))) (mvT hZ (hw _ (mw 148 rfl))) (notFace_of_selects (args := #[]) (mvT hZ (hw _ (mw 150 rfl)))) (mvT hZ (hw _ (mw 150 rfl))) (mvT hZ (hw _ (mw 149 rfl))) (by decide) (backOf (W := 0) (rmct1 l Z a0 hw [] b28 vc_35 gl_52 gg gj_52 w66 T60.heap n0 f61 f63 P60_0 P60_1 P60_2 P60_3 g_b28 ((lw_gt _ _).mpr hcut')) hZ (hw _ (mw 151 rfl)) (hw _ (mw 57 rfl)) (by decide) (by decide)) q68a q68c (g := (mkF m 282 #[.val (.int u0), .val (.int u1), .val (.int u2), .val (.long u3), .second, .val (.int ln0), .val (.int w2), .val (.int w4), .val (.ref b5), .val (.ref b11), .val (.ref b18), .val (.ref b28), .val (.int gl_52), .val (.int ff), .val (.int gl_52), .val (.int gg), .val (.long gj_52), .second, .val (.int gl_52), .val (.long w66), .second, .val (.long he), .second, .val (.int (1 : Int32)), .val (.long (if (0 : Int32) < (lcmpW he w66) then w66 else he)), .second, .unset, .unset, .unset, .unset, .unset, .unset, .unset] [(.long w66), (.ref b28)])) rfl (by rw [hml]; rfl) (Steps.refl _) (argsL := [(.long w66)]) (rest := []) (lenOf pd_23 rfl) rfl (by show 2 * 0 + _ ≤ _; exact Nat.le_of_eq rfl) (hb hby at_282) (fun _ _ => ⟨rfl, e67, (by decide : 6 + 0 ≤ _), (by decide : 29 + 0 ≤ _)⟩)
      dsimp only [Pt.U, Pt.locs, Pt.cells, Pt.slots] at X68 l68 y68 z68 st68 hQ68
      subst y68 z68
      obtain ⟨rfl, N68q, K68, P68_0, P68_1, P68_2, P68_3⟩ := hQ68
      have N68 := Fr.eqv l68 (Fr.app N67 N68q)
      refine Goal.tr (B := T68.setTop (mkF m 285 #[.val (.int u0), .val (.int u1), .val (.int u2), .val (.long u3), .second, .val (.int ln0), .val (.int w2), .val (.int w4), .val (.ref b5), .val (.ref b11), .val (.ref b18), .val (.ref b28), .val (.int gl_52), .val (.int ff), .val (.int gl_52), .val (.int gg), .val (.long gj_52), .second, .val (.int gl_52), .val (.long w66), .second, .val (.long he), .second, .val (.int (1 : Int32)), .val (.long (if (0 : Int32) < (lcmpW he w66) then w66 else he)), .second, .unset, .unset, .unset, .unset, .unset, .unset, .unset] [])) st68 ?_
      refine Goal.to (B := T68.setTop (mkF m 287 #[.val (.int u0), .val (.int u1), .val (.int u2), .val (.long u3), .second, .val (.int ln0), .val (.int w2), .val (.int w4), .val (.ref b5), .val (.ref b11), .val (.ref b18), .val (.ref b28), .val (.int gl_52), .val (.int ff), .val (.int gl_52), .val (.int gg), .val (.long gj_52), .second, .val (.int gl_52), .val (.long w66), .second, .val (.long he), .second, .val (.int (1 : Int32)), .val (.long (if (0 : Int32) < (lcmpW he w66) then w66 else he)), .second, .unset, .unset, .unset, .unset, .unset, .unset, .unset] [(.ref b28)])) (fun tt kk => ?_) ?_
      · show Steps p.tables e below (T68.setTop (mkF m 285 #[.val (.int u0), .val (.int u1), .val (.int u2), .val (.long u3), .second, .val (.int ln0), .val (.int w2), .val (.int w4), .val (.ref b5), .val (.ref b11), .val (.ref b18), .val (.ref b28), .val (.int gl_52), .val (.int ff), .val (.int gl_52), .val (.int gg), .val (.long gj_52), .second, .val (.int gl_52), .val (.long w66), .second, .val (.long he), .second, .val (.int (1 : Int32)), .val (.long (if (0 : Int32) < (lcmpW he w66) then w66 else he)), .second, .unset, .unset, .unset, .unset, .unset, .unset, .unset] [])) tt
        refine XS.aload X68.here hx rfl (hb hby at_285) rfl rfl ?_
        exact kk
      have f69 : n0 ≤ T68.heap.size := (Nat.le_trans f61 K68.1)
      have f71 : Exa Z T68.heap b28 "com/example/pattern_automaton/patternautomaton/CharBlock" := (f63.keep K68)
      obtain ⟨cq70, kq70, q70a, q70b, q70c⟩ := isOf hZ rfl f71
      obtain ⟨_, _, ⟨T70, L70, k70, n70⟩, -, X70, ⟨Lc70, hQ70, l70, y70, z70⟩, st70⟩ := X68.virtualBack hx (y := (⟨"com/example/pattern_automaton/patternautomaton/CharBlock", "start", "()J"⟩ : MethodName)) (z := (⟨"com/example/pattern_automaton/patternautomaton/CharBlock", "start", "()J"⟩ : MethodName)) hown (mvT hZ (hw _ (mw 137 rfl))) (mvT hZ (hw _ (mw 138 rfl))) (notFace_of_selects (args := #[]) (mvT hZ (hw _ (mw 140 rfl)))) (mvT hZ (hw _ (mw 140 rfl))) (mvT hZ (hw _ (mw 139 rfl))) (by decide) (backOf (W := 0) (rmsj l Z a0 hw [] b28 gj_52 T68.heap n0 f69 P68_3) hZ (hw _ (mw 141 rfl)) (hw _ (mw 57 rfl)) (by decide) (by decide)) q70a q70c (g := (mkF m 287 #[.val (.int u0), .val (.int u1), .val (.int u2), .val (.long u3), .second, .val (.int ln0), .val (.int w2), .val (.int w4), .val (.ref b5), .val (.ref b11), .val (.ref b18), .val (.ref b28), .val (.int gl_52), .val (.int ff), .val (.int gl_52), .val (.int gg), .val (.long gj_52), .second, .val (.int gl_52), .val (.long w66), .second, .val (.long he), .second, .val (.int (1 : Int32)), .val (.long (if (0 : Int32) < (lcmpW he w66) then w66 else he)), .second, .unset, .unset, .unset, .unset, .unset, .unset, .unset] [(.ref b28)])) rfl (by rw [hml]; rfl) (Steps.refl _) (argsL := []) (rest := []) (lenOf pd_21 rfl) rfl (by show 2 * 0 + _ ≤ _; exact Nat.le_of_eq rfl) (hb hby at_287) (fun _ _ => ⟨rfl, rfl, (by decide : 6 + 0 ≤ _), (by decide : 29 + 0 ≤ _)⟩)
      dsimp only [Pt.U, Pt.locs, Pt.cells, Pt.slots] at X70 l70 y70 z70 st70 hQ70
      subst y70 z70
      obtain ⟨rfl, N70q, e70⟩ := hQ70
      have N70 := Fr.eqv l70 (Fr.app N68 N70q)
      refine Goal.tr (B := T70.setTop (mkF m 290 #[.val (.int u0), .val (.int u1), .val (.int u2), .val (.long u3), .second, .val (.int ln0), .val (.int w2), .val (.int w4), .val (.ref b5), .val (.ref b11), .val (.ref b18), .val (.ref b28), .val (.int gl_52), .val (.int ff), .val (.int gl_52), .val (.int gg), .val (.long gj_52), .second, .val (.int gl_52), .val (.long w66), .second, .val (.long he), .second, .val (.int (1 : Int32)), .val (.long (if (0 : Int32) < (lcmpW he w66) then w66 else he)), .second, .unset, .unset, .unset, .unset, .unset, .unset, .unset] [(.long gj_52)])) st70 ?_
      refine Goal.to (B := T70.setTop (mkF m 294 #[.val (.int u0), .val (.int u1), .val (.int u2), .val (.long u3), .second, .val (.int ln0), .val (.int w2), .val (.int w4), .val (.ref b5), .val (.ref b11), .val (.ref b18), .val (.ref b28), .val (.int gl_52), .val (.int ff), .val (.int gl_52), .val (.int gg), .val (.long gj_52), .second, .val (.int gl_52), .val (.long w66), .second, .val (.long he), .second, .val (.int (1 : Int32)), .val (.long (if (0 : Int32) < (lcmpW he w66) then w66 else he)), .second, .val (.long gj_52), .second, .unset, .unset, .unset, .unset, .unset] [(.ref b28)])) (fun tt kk => ?_) ?_
      · show Steps p.tables e below (T70.setTop (mkF m 290 #[.val (.int u0), .val (.int u1), .val (.int u2), .val (.long u3), .second, .val (.int ln0), .val (.int w2), .val (.int w4), .val (.ref b5), .val (.ref b11), .val (.ref b18), .val (.ref b28), .val (.int gl_52), .val (.int ff), .val (.int gl_52), .val (.int gg), .val (.long gj_52), .second, .val (.int gl_52), .val (.long w66), .second, .val (.long he), .second, .val (.int (1 : Int32)), .val (.long (if (0 : Int32) < (lcmpW he w66) then w66 else he)), .second, .unset, .unset, .unset, .unset, .unset, .unset, .unset] [(.long gj_52)])) tt
        refine XS.lstore X70.here hx rfl (hb hby at_290) rfl (l' := #[.val (.int u0), .val (.int u1), .val (.int u2), .val (.long u3), .second, .val (.int ln0), .val (.int w2), .val (.int w4), .val (.ref b5), .val (.ref b11), .val (.ref b18), .val (.ref b28), .val (.int gl_52), .val (.int ff), .val (.int gl_52), .val (.int gg), .val (.long gj_52), .second, .val (.int gl_52), .val (.long w66), .second, .val (.long he), .second, .val (.int (1 : Int32)), .val (.long (if (0 : Int32) < (lcmpW he w66) then w66 else he)), .second, .val (.long gj_52), .second, .unset, .unset, .unset, .unset, .unset]) rfl ?_
        show Steps p.tables e below (T70.setTop (mkF m 292 #[.val (.int u0), .val (.int u1), .val (.int u2), .val (.long u3), .second, .val (.int ln0), .val (.int w2), .val (.int w4), .val (.ref b5), .val (.ref b11), .val (.ref b18), .val (.ref b28), .val (.int gl_52), .val (.int ff), .val (.int gl_52), .val (.int gg), .val (.long gj_52), .second, .val (.int gl_52), .val (.long w66), .second, .val (.long he), .second, .val (.int (1 : Int32)), .val (.long (if (0 : Int32) < (lcmpW he w66) then w66 else he)), .second, .val (.long gj_52), .second, .unset, .unset, .unset, .unset, .unset] [])) tt
        refine XS.aload X70.here hx rfl (hb hby at_292) rfl rfl ?_
        exact kk
      obtain ⟨cq72, kq72, q72a, q72b, q72c⟩ := isOf hZ e70 f71
      obtain ⟨_, _, ⟨T72, L72, k72, n72⟩, -, X72, ⟨Lc72, hQ72, l72, y72, z72⟩, st72⟩ := X70.virtualBack hx (y := (⟨"com/example/pattern_automaton/patternautomaton/CharBlock", "filled", "()I"⟩ : MethodName)) (z := (⟨"com/example/pattern_automaton/patternautomaton/CharBlock", "filled", "()I"⟩ : MethodName)) hown (mvT hZ (hw _ (mw 124 rfl))) (mvT hZ (hw _ (mw 125 rfl))) (notFace_of_selects (args := #[]) (mvT hZ (hw _ (mw 127 rfl)))) (mvT hZ (hw _ (mw 127 rfl))) (mvT hZ (hw _ (mw 126 rfl))) (by decide) (backOf (W := 0) (rmfd l Z a0 hw [] b28 ((w66 - gj_52).toInt32) T68.heap n0 f69 P68_1) hZ (hw _ (mw 128 rfl)) (hw _ (mw 57 rfl)) (by decide) (by decide)) q72a q72c (g := (mkF m 294 #[.val (.int u0), .val (.int u1), .val (.int u2), .val (.long u3), .second, .val (.int ln0), .val (.int w2), .val (.int w4), .val (.ref b5), .val (.ref b11), .val (.ref b18), .val (.ref b28), .val (.int gl_52), .val (.int ff), .val (.int gl_52), .val (.int gg), .val (.long gj_52), .second, .val (.int gl_52), .val (.long w66), .second, .val (.long he), .second, .val (.int (1 : Int32)), .val (.long (if (0 : Int32) < (lcmpW he w66) then w66 else he)), .second, .val (.long gj_52), .second, .unset, .unset, .unset, .unset, .unset] [(.ref b28)])) rfl (by rw [hml]; rfl) (Steps.refl _) (argsL := []) (rest := []) (lenOf pd_7 rfl) rfl (by show 2 * 0 + _ ≤ _; exact Nat.le_of_eq rfl) (hb hby at_294) (fun _ _ => ⟨rfl, e70, (by decide : 6 + 0 ≤ _), (by decide : 29 + 0 ≤ _)⟩)
      dsimp only [Pt.U, Pt.locs, Pt.cells, Pt.slots] at X72 l72 y72 z72 st72 hQ72
      subst y72 z72
      obtain ⟨rfl, N72q, e72⟩ := hQ72
      have N72 := Fr.eqv l72 (Fr.app N70 N72q)
      refine Goal.tr (B := T72.setTop (mkF m 297 #[.val (.int u0), .val (.int u1), .val (.int u2), .val (.long u3), .second, .val (.int ln0), .val (.int w2), .val (.int w4), .val (.ref b5), .val (.ref b11), .val (.ref b18), .val (.ref b28), .val (.int gl_52), .val (.int ff), .val (.int gl_52), .val (.int gg), .val (.long gj_52), .second, .val (.int gl_52), .val (.long w66), .second, .val (.long he), .second, .val (.int (1 : Int32)), .val (.long (if (0 : Int32) < (lcmpW he w66) then w66 else he)), .second, .val (.long gj_52), .second, .unset, .unset, .unset, .unset, .unset] [(.int ((w66 - gj_52).toInt32))])) st72 ?_
      refine Goal.to (B := T72.setTop (mkF m 301 #[.val (.int u0), .val (.int u1), .val (.int u2), .val (.long u3), .second, .val (.int ln0), .val (.int w2), .val (.int w4), .val (.ref b5), .val (.ref b11), .val (.ref b18), .val (.ref b28), .val (.int gl_52), .val (.int ff), .val (.int gl_52), .val (.int gg), .val (.long gj_52), .second, .val (.int gl_52), .val (.long w66), .second, .val (.long he), .second, .val (.int (1 : Int32)), .val (.long (if (0 : Int32) < (lcmpW he w66) then w66 else he)), .second, .val (.long gj_52), .second, .val (.int ((w66 - gj_52).toInt32)), .unset, .unset, .unset, .unset] [(.ref b28)])) (fun tt kk => ?_) ?_
      · show Steps p.tables e below (T72.setTop (mkF m 297 #[.val (.int u0), .val (.int u1), .val (.int u2), .val (.long u3), .second, .val (.int ln0), .val (.int w2), .val (.int w4), .val (.ref b5), .val (.ref b11), .val (.ref b18), .val (.ref b28), .val (.int gl_52), .val (.int ff), .val (.int gl_52), .val (.int gg), .val (.long gj_52), .second, .val (.int gl_52), .val (.long w66), .second, .val (.long he), .second, .val (.int (1 : Int32)), .val (.long (if (0 : Int32) < (lcmpW he w66) then w66 else he)), .second, .val (.long gj_52), .second, .unset, .unset, .unset, .unset, .unset] [(.int ((w66 - gj_52).toInt32))])) tt
        refine XS.istore X72.here hx rfl (hb hby at_297) rfl (l' := #[.val (.int u0), .val (.int u1), .val (.int u2), .val (.long u3), .second, .val (.int ln0), .val (.int w2), .val (.int w4), .val (.ref b5), .val (.ref b11), .val (.ref b18), .val (.ref b28), .val (.int gl_52), .val (.int ff), .val (.int gl_52), .val (.int gg), .val (.long gj_52), .second, .val (.int gl_52), .val (.long w66), .second, .val (.long he), .second, .val (.int (1 : Int32)), .val (.long (if (0 : Int32) < (lcmpW he w66) then w66 else he)), .second, .val (.long gj_52), .second, .val (.int ((w66 - gj_52).toInt32)), .unset, .unset, .unset, .unset]) rfl ?_
        show Steps p.tables e below (T72.setTop (mkF m 299 #[.val (.int u0), .val (.int u1), .val (.int u2), .val (.long u3), .second, .val (.int ln0), .val (.int w2), .val (.int w4), .val (.ref b5), .val (.ref b11), .val (.ref b18), .val (.ref b28), .val (.int gl_52), .val (.int ff), .val (.int gl_52), .val (.int gg), .val (.long gj_52), .second, .val (.int gl_52), .val (.long w66), .second, .val (.long he), .second, .val (.int (1 : Int32)), .val (.long (if (0 : Int32) < (lcmpW he w66) then w66 else he)), .second, .val (.long gj_52), .second, .val (.int ((w66 - gj_52).toInt32)), .unset, .unset, .unset, .unset] [])) tt
        refine XS.aload X72.here hx rfl (hb hby at_299) rfl rfl ?_
        exact kk
      obtain ⟨cq73, kq73, q73a, q73b, q73c⟩ := isOf hZ e72 f71
      obtain ⟨_, _, ⟨T73, L73, k73, n73⟩, -, X73, ⟨Lc73, hQ73, l73, y73, z73⟩, st73⟩ := X72.virtualBack hx (y := (⟨"com/example/pattern_automaton/patternautomaton/CharBlock", "from", "()I"⟩ : MethodName)) (z := (⟨"com/example/pattern_automaton/patternautomaton/CharBlock", "from", "()I"⟩ : MethodName)) hown (mvT hZ (hw _ (mw 152 rfl))) (mvT hZ (hw _ (mw 153 rfl))) (notFace_of_selects (args := #[]) (mvT hZ (hw _ (mw 155 rfl)))) (mvT hZ (hw _ (mw 155 rfl))) (mvT hZ (hw _ (mw 154 rfl))) (by decide) (backOf (W := 0) (rmfr l Z a0 hw [] b28 ((w66 - gj_52).toInt32) T68.heap n0 f69 P68_2) hZ (hw _ (mw 156 rfl)) (hw _ (mw 57 rfl)) (by decide) (by decide)) q73a q73c (g := (mkF m 301 #[.val (.int u0), .val (.int u1), .val (.int u2), .val (.long u3), .second, .val (.int ln0), .val (.int w2), .val (.int w4), .val (.ref b5), .val (.ref b11), .val (.ref b18), .val (.ref b28), .val (.int gl_52), .val (.int ff), .val (.int gl_52), .val (.int gg), .val (.long gj_52), .second, .val (.int gl_52), .val (.long w66), .second, .val (.long he), .second, .val (.int (1 : Int32)), .val (.long (if (0 : Int32) < (lcmpW he w66) then w66 else he)), .second, .val (.long gj_52), .second, .val (.int ((w66 - gj_52).toInt32)), .unset, .unset, .unset, .unset] [(.ref b28)])) rfl (by rw [hml]; rfl) (Steps.refl _) (argsL := []) (rest := []) (lenOf pd_7 rfl) rfl (by show 2 * 0 + _ ≤ _; exact Nat.le_of_eq rfl) (hb hby at_301) (fun _ _ => ⟨rfl, e72, (by decide : 6 + 0 ≤ _), (by decide : 29 + 0 ≤ _)⟩)
      dsimp only [Pt.U, Pt.locs, Pt.cells, Pt.slots] at X73 l73 y73 z73 st73 hQ73
      subst y73 z73
      obtain ⟨rfl, N73q, e73⟩ := hQ73
      have N73 := Fr.eqv l73 (Fr.app N72 N73q)
      refine Goal.tr (B := T73.setTop (mkF m 304 #[.val (.int u0), .val (.int u1), .val (.int u2), .val (.long u3), .second, .val (.int ln0), .val (.int w2), .val (.int w4), .val (.ref b5), .val (.ref b11), .val (.ref b18), .val (.ref b28), .val (.int gl_52), .val (.int ff), .val (.int gl_52), .val (.int gg), .val (.long gj_52), .second, .val (.int gl_52), .val (.long w66), .second, .val (.long he), .second, .val (.int (1 : Int32)), .val (.long (if (0 : Int32) < (lcmpW he w66) then w66 else he)), .second, .val (.long gj_52), .second, .val (.int ((w66 - gj_52).toInt32)), .unset, .unset, .unset, .unset] [(.int ((w66 - gj_52).toInt32))])) st73 ?_
      refine Goal.to (B := T73.setTop (mkF m 384 #[.val (.int u0), .val (.int u1), .val (.int u2), .val (.long u3), .second, .val (.int ln0), .val (.int w2), .val (.int w4), .val (.ref b5), .val (.ref b11), .val (.ref b18), .val (.ref b28), .val (.int gl_52), .val (.int ff), .val (.int gl_52), .val (.int gg), .val (.long gj_52), .second, .val (.int gl_52), .val (.long w66), .second, .val (.long he), .second, .val (.int (1 : Int32)), .val (.long (if (0 : Int32) < (lcmpW he w66) then w66 else he)), .second, .val (.long gj_52), .second, .val (.int ((w66 - gj_52).toInt32)), .val (.int ((w66 - gj_52).toInt32)), .val (.int (1 : Int32)), .val (.int (1 : Int32)), .val (.int (1 : Int32))] [(.int (1 : Int32))])) (fun tt kk => ?_) ?_
      · show Steps p.tables e below (T73.setTop (mkF m 304 #[.val (.int u0), .val (.int u1), .val (.int u2), .val (.long u3), .second, .val (.int ln0), .val (.int w2), .val (.int w4), .val (.ref b5), .val (.ref b11), .val (.ref b18), .val (.ref b28), .val (.int gl_52), .val (.int ff), .val (.int gl_52), .val (.int gg), .val (.long gj_52), .second, .val (.int gl_52), .val (.long w66), .second, .val (.long he), .second, .val (.int (1 : Int32)), .val (.long (if (0 : Int32) < (lcmpW he w66) then w66 else he)), .second, .val (.long gj_52), .second, .val (.int ((w66 - gj_52).toInt32)), .unset, .unset, .unset, .unset] [(.int ((w66 - gj_52).toInt32))])) tt
        refine XS.istore X73.here hx rfl (hb hby at_304) rfl (l' := #[.val (.int u0), .val (.int u1), .val (.int u2), .val (.long u3), .second, .val (.int ln0), .val (.int w2), .val (.int w4), .val (.ref b5), .val (.ref b11), .val (.ref b18), .val (.ref b28), .val (.int gl_52), .val (.int ff), .val (.int gl_52), .val (.int gg), .val (.long gj_52), .second, .val (.int gl_52), .val (.long w66), .second, .val (.long he), .second, .val (.int (1 : Int32)), .val (.long (if (0 : Int32) < (lcmpW he w66) then w66 else he)), .second, .val (.long gj_52), .second, .val (.int ((w66 - gj_52).toInt32)), .val (.int ((w66 - gj_52).toInt32)), .unset, .unset, .unset]) rfl ?_
        show Steps p.tables e below (T73.setTop (mkF m 306 #[.val (.int u0), .val (.int u1), .val (.int u2), .val (.long u3), .second, .val (.int ln0), .val (.int w2), .val (.int w4), .val (.ref b5), .val (.ref b11), .val (.ref b18), .val (.ref b28), .val (.int gl_52), .val (.int ff), .val (.int gl_52), .val (.int gg), .val (.long gj_52), .second, .val (.int gl_52), .val (.long w66), .second, .val (.long he), .second, .val (.int (1 : Int32)), .val (.long (if (0 : Int32) < (lcmpW he w66) then w66 else he)), .second, .val (.long gj_52), .second, .val (.int ((w66 - gj_52).toInt32)), .val (.int ((w66 - gj_52).toInt32)), .unset, .unset, .unset] [])) tt
        refine XS.lload X73.here hx rfl (hb hby at_306) rfl ?_
        show Steps p.tables e below (T73.setTop (mkF m 308 #[.val (.int u0), .val (.int u1), .val (.int u2), .val (.long u3), .second, .val (.int ln0), .val (.int w2), .val (.int w4), .val (.ref b5), .val (.ref b11), .val (.ref b18), .val (.ref b28), .val (.int gl_52), .val (.int ff), .val (.int gl_52), .val (.int gg), .val (.long gj_52), .second, .val (.int gl_52), .val (.long w66), .second, .val (.long he), .second, .val (.int (1 : Int32)), .val (.long (if (0 : Int32) < (lcmpW he w66) then w66 else he)), .second, .val (.long gj_52), .second, .val (.int ((w66 - gj_52).toInt32)), .val (.int ((w66 - gj_52).toInt32)), .unset, .unset, .unset] [(.long gj_52)])) tt
        refine XS.lload X73.here hx rfl (hb hby at_308) rfl ?_
        show Steps p.tables e below (T73.setTop (mkF m 310 #[.val (.int u0), .val (.int u1), .val (.int u2), .val (.long u3), .second, .val (.int ln0), .val (.int w2), .val (.int w4), .val (.ref b5), .val (.ref b11), .val (.ref b18), .val (.ref b28), .val (.int gl_52), .val (.int ff), .val (.int gl_52), .val (.int gg), .val (.long gj_52), .second, .val (.int gl_52), .val (.long w66), .second, .val (.long he), .second, .val (.int (1 : Int32)), .val (.long (if (0 : Int32) < (lcmpW he w66) then w66 else he)), .second, .val (.long gj_52), .second, .val (.int ((w66 - gj_52).toInt32)), .val (.int ((w66 - gj_52).toInt32)), .unset, .unset, .unset] [(.long gj_52), (.long gj_52)])) tt
        refine XS.lcmp X73.here hx rfl (hb hby at_310) rfl ?_
        show Steps p.tables e below (T73.setTop (mkF m 311 #[.val (.int u0), .val (.int u1), .val (.int u2), .val (.long u3), .second, .val (.int ln0), .val (.int w2), .val (.int w4), .val (.ref b5), .val (.ref b11), .val (.ref b18), .val (.ref b28), .val (.int gl_52), .val (.int ff), .val (.int gl_52), .val (.int gg), .val (.long gj_52), .second, .val (.int gl_52), .val (.long w66), .second, .val (.long he), .second, .val (.int (1 : Int32)), .val (.long (if (0 : Int32) < (lcmpW he w66) then w66 else he)), .second, .val (.long gj_52), .second, .val (.int ((w66 - gj_52).toInt32)), .val (.int ((w66 - gj_52).toInt32)), .unset, .unset, .unset] [(.int (lcmpW gj_52 gj_52))])) tt
        refine XS.ifNo X73.here hx rfl (hb hby at_311) rfl ((if0 _ _).trans (teq ((lw_eq _ _).mpr rfl : (lcmpW gj_52 gj_52) = (0 : Int32))).2) ?_
        show Steps p.tables e below (T73.setTop (mkF m 314 #[.val (.int u0), .val (.int u1), .val (.int u2), .val (.long u3), .second, .val (.int ln0), .val (.int w2), .val (.int w4), .val (.ref b5), .val (.ref b11), .val (.ref b18), .val (.ref b28), .val (.int gl_52), .val (.int ff), .val (.int gl_52), .val (.int gg), .val (.long gj_52), .second, .val (.int gl_52), .val (.long w66), .second, .val (.long he), .second, .val (.int (1 : Int32)), .val (.long (if (0 : Int32) < (lcmpW he w66) then w66 else he)), .second, .val (.long gj_52), .second, .val (.int ((w66 - gj_52).toInt32)), .val (.int ((w66 - gj_52).toInt32)), .unset, .unset, .unset] [])) tt
        refine XS.iconst X73.here hx rfl (hb hby at_314) ?_
        show Steps p.tables e below (T73.setTop (mkF m 315 #[.val (.int u0), .val (.int u1), .val (.int u2), .val (.long u3), .second, .val (.int ln0), .val (.int w2), .val (.int w4), .val (.ref b5), .val (.ref b11), .val (.ref b18), .val (.ref b28), .val (.int gl_52), .val (.int ff), .val (.int gl_52), .val (.int gg), .val (.long gj_52), .second, .val (.int gl_52), .val (.long w66), .second, .val (.long he), .second, .val (.int (1 : Int32)), .val (.long (if (0 : Int32) < (lcmpW he w66) then w66 else he)), .second, .val (.long gj_52), .second, .val (.int ((w66 - gj_52).toInt32)), .val (.int ((w66 - gj_52).toInt32)), .unset, .unset, .unset] [(.int (1 : Int32))])) tt
        refine XS.goto X73.here hx rfl (pc0 := 315) (pc' := 319) rfl (hb hby at_315) (by decide) (by decide) ?_
        show Steps p.tables e below (T73.setTop (mkF m 319 #[.val (.int u0), .val (.int u1), .val (.int u2), .val (.long u3), .second, .val (.int ln0), .val (.int w2), .val (.int w4), .val (.ref b5), .val (.ref b11), .val (.ref b18), .val (.ref b28), .val (.int gl_52), .val (.int ff), .val (.int gl_52), .val (.int gg), .val (.long gj_52), .second, .val (.int gl_52), .val (.long w66), .second, .val (.long he), .second, .val (.int (1 : Int32)), .val (.long (if (0 : Int32) < (lcmpW he w66) then w66 else he)), .second, .val (.long gj_52), .second, .val (.int ((w66 - gj_52).toInt32)), .val (.int ((w66 - gj_52).toInt32)), .unset, .unset, .unset] [(.int (1 : Int32))])) tt
        refine XS.istore X73.here hx rfl (hb hby at_319) rfl (l' := #[.val (.int u0), .val (.int u1), .val (.int u2), .val (.long u3), .second, .val (.int ln0), .val (.int w2), .val (.int w4), .val (.ref b5), .val (.ref b11), .val (.ref b18), .val (.ref b28), .val (.int gl_52), .val (.int ff), .val (.int gl_52), .val (.int gg), .val (.long gj_52), .second, .val (.int gl_52), .val (.long w66), .second, .val (.long he), .second, .val (.int (1 : Int32)), .val (.long (if (0 : Int32) < (lcmpW he w66) then w66 else he)), .second, .val (.long gj_52), .second, .val (.int ((w66 - gj_52).toInt32)), .val (.int ((w66 - gj_52).toInt32)), .val (.int (1 : Int32)), .unset, .unset]) rfl ?_
        show Steps p.tables e below (T73.setTop (mkF m 321 #[.val (.int u0), .val (.int u1), .val (.int u2), .val (.long u3), .second, .val (.int ln0), .val (.int w2), .val (.int w4), .val (.ref b5), .val (.ref b11), .val (.ref b18), .val (.ref b28), .val (.int gl_52), .val (.int ff), .val (.int gl_52), .val (.int gg), .val (.long gj_52), .second, .val (.int gl_52), .val (.long w66), .second, .val (.long he), .second, .val (.int (1 : Int32)), .val (.long (if (0 : Int32) < (lcmpW he w66) then w66 else he)), .second, .val (.long gj_52), .second, .val (.int ((w66 - gj_52).toInt32)), .val (.int ((w66 - gj_52).toInt32)), .val (.int (1 : Int32)), .unset, .unset] [])) tt
        refine XS.lload X73.here hx rfl (hb hby at_321) rfl ?_
        show Steps p.tables e below (T73.setTop (mkF m 323 #[.val (.int u0), .val (.int u1), .val (.int u2), .val (.long u3), .second, .val (.int ln0), .val (.int w2), .val (.int w4), .val (.ref b5), .val (.ref b11), .val (.ref b18), .val (.ref b28), .val (.int gl_52), .val (.int ff), .val (.int gl_52), .val (.int gg), .val (.long gj_52), .second, .val (.int gl_52), .val (.long w66), .second, .val (.long he), .second, .val (.int (1 : Int32)), .val (.long (if (0 : Int32) < (lcmpW he w66) then w66 else he)), .second, .val (.long gj_52), .second, .val (.int ((w66 - gj_52).toInt32)), .val (.int ((w66 - gj_52).toInt32)), .val (.int (1 : Int32)), .unset, .unset] [(.long gj_52)])) tt
        refine XS.iload X73.here hx rfl (hb hby at_323) rfl ?_
        show Steps p.tables e below (T73.setTop (mkF m 325 #[.val (.int u0), .val (.int u1), .val (.int u2), .val (.long u3), .second, .val (.int ln0), .val (.int w2), .val (.int w4), .val (.ref b5), .val (.ref b11), .val (.ref b18), .val (.ref b28), .val (.int gl_52), .val (.int ff), .val (.int gl_52), .val (.int gg), .val (.long gj_52), .second, .val (.int gl_52), .val (.long w66), .second, .val (.long he), .second, .val (.int (1 : Int32)), .val (.long (if (0 : Int32) < (lcmpW he w66) then w66 else he)), .second, .val (.long gj_52), .second, .val (.int ((w66 - gj_52).toInt32)), .val (.int ((w66 - gj_52).toInt32)), .val (.int (1 : Int32)), .unset, .unset] [(.int ((w66 - gj_52).toInt32)), (.long gj_52)])) tt
        refine XS.i2l X73.here hx rfl (hb hby at_325) rfl ?_
        show Steps p.tables e below (T73.setTop (mkF m 326 #[.val (.int u0), .val (.int u1), .val (.int u2), .val (.long u3), .second, .val (.int ln0), .val (.int w2), .val (.int w4), .val (.ref b5), .val (.ref b11), .val (.ref b18), .val (.ref b28), .val (.int gl_52), .val (.int ff), .val (.int gl_52), .val (.int gg), .val (.long gj_52), .second, .val (.int gl_52), .val (.long w66), .second, .val (.long he), .second, .val (.int (1 : Int32)), .val (.long (if (0 : Int32) < (lcmpW he w66) then w66 else he)), .second, .val (.long gj_52), .second, .val (.int ((w66 - gj_52).toInt32)), .val (.int ((w66 - gj_52).toInt32)), .val (.int (1 : Int32)), .unset, .unset] [(.long (((w66 - gj_52).toInt32).toInt64)), (.long gj_52)])) tt
        refine XS.ladd X73.here hx rfl (hb hby at_326) rfl ?_
        show Steps p.tables e below (T73.setTop (mkF m 327 #[.val (.int u0), .val (.int u1), .val (.int u2), .val (.long u3), .second, .val (.int ln0), .val (.int w2), .val (.int w4), .val (.ref b5), .val (.ref b11), .val (.ref b18), .val (.ref b28), .val (.int gl_52), .val (.int ff), .val (.int gl_52), .val (.int gg), .val (.long gj_52), .second, .val (.int gl_52), .val (.long w66), .second, .val (.long he), .second, .val (.int (1 : Int32)), .val (.long (if (0 : Int32) < (lcmpW he w66) then w66 else he)), .second, .val (.long gj_52), .second, .val (.int ((w66 - gj_52).toInt32)), .val (.int ((w66 - gj_52).toInt32)), .val (.int (1 : Int32)), .unset, .unset] [(.long (gj_52 + (((w66 - gj_52).toInt32).toInt64)))])) tt
        refine XS.lload X73.here hx rfl (hb hby at_327) rfl ?_
        show Steps p.tables e below (T73.setTop (mkF m 329 #[.val (.int u0), .val (.int u1), .val (.int u2), .val (.long u3), .second, .val (.int ln0), .val (.int w2), .val (.int w4), .val (.ref b5), .val (.ref b11), .val (.ref b18), .val (.ref b28), .val (.int gl_52), .val (.int ff), .val (.int gl_52), .val (.int gg), .val (.long gj_52), .second, .val (.int gl_52), .val (.long w66), .second, .val (.long he), .second, .val (.int (1 : Int32)), .val (.long (if (0 : Int32) < (lcmpW he w66) then w66 else he)), .second, .val (.long gj_52), .second, .val (.int ((w66 - gj_52).toInt32)), .val (.int ((w66 - gj_52).toInt32)), .val (.int (1 : Int32)), .unset, .unset] [(.long (if (0 : Int32) < (lcmpW he w66) then w66 else he)), (.long (gj_52 + (((w66 - gj_52).toInt32).toInt64)))])) tt
        refine XS.lcmp X73.here hx rfl (hb hby at_329) rfl ?_
        show Steps p.tables e below (T73.setTop (mkF m 330 #[.val (.int u0), .val (.int u1), .val (.int u2), .val (.long u3), .second, .val (.int ln0), .val (.int w2), .val (.int w4), .val (.ref b5), .val (.ref b11), .val (.ref b18), .val (.ref b28), .val (.int gl_52), .val (.int ff), .val (.int gl_52), .val (.int gg), .val (.long gj_52), .second, .val (.int gl_52), .val (.long w66), .second, .val (.long he), .second, .val (.int (1 : Int32)), .val (.long (if (0 : Int32) < (lcmpW he w66) then w66 else he)), .second, .val (.long gj_52), .second, .val (.int ((w66 - gj_52).toInt32)), .val (.int ((w66 - gj_52).toInt32)), .val (.int (1 : Int32)), .unset, .unset] [(.int (lcmpW (gj_52 + (((w66 - gj_52).toInt32).toInt64)) (if (0 : Int32) < (lcmpW he w66) then w66 else he)))])) tt
        refine XS.ifNo X73.here hx rfl (hb hby at_330) rfl ((if0 _ _).trans (teq ((lw_eq _ _).mpr (by rw [if_pos ((lw_gt _ _).mpr (by rw [hhe]; exact hcut'))]; exact own_cut hS hF hE hcut') : (lcmpW (gj_52 + (((w66 - gj_52).toInt32).toInt64)) (if (0 : Int32) < (lcmpW he w66) then w66 else he)) = (0 : Int32))).2) ?_
        show Steps p.tables e below (T73.setTop (mkF m 333 #[.val (.int u0), .val (.int u1), .val (.int u2), .val (.long u3), .second, .val (.int ln0), .val (.int w2), .val (.int w4), .val (.ref b5), .val (.ref b11), .val (.ref b18), .val (.ref b28), .val (.int gl_52), .val (.int ff), .val (.int gl_52), .val (.int gg), .val (.long gj_52), .second, .val (.int gl_52), .val (.long w66), .second, .val (.long he), .second, .val (.int (1 : Int32)), .val (.long (if (0 : Int32) < (lcmpW he w66) then w66 else he)), .second, .val (.long gj_52), .second, .val (.int ((w66 - gj_52).toInt32)), .val (.int ((w66 - gj_52).toInt32)), .val (.int (1 : Int32)), .unset, .unset] [])) tt
        refine XS.iconst X73.here hx rfl (hb hby at_333) ?_
        show Steps p.tables e below (T73.setTop (mkF m 334 #[.val (.int u0), .val (.int u1), .val (.int u2), .val (.long u3), .second, .val (.int ln0), .val (.int w2), .val (.int w4), .val (.ref b5), .val (.ref b11), .val (.ref b18), .val (.ref b28), .val (.int gl_52), .val (.int ff), .val (.int gl_52), .val (.int gg), .val (.long gj_52), .second, .val (.int gl_52), .val (.long w66), .second, .val (.long he), .second, .val (.int (1 : Int32)), .val (.long (if (0 : Int32) < (lcmpW he w66) then w66 else he)), .second, .val (.long gj_52), .second, .val (.int ((w66 - gj_52).toInt32)), .val (.int ((w66 - gj_52).toInt32)), .val (.int (1 : Int32)), .unset, .unset] [(.int (1 : Int32))])) tt
        refine XS.goto X73.here hx rfl (pc0 := 334) (pc' := 338) rfl (hb hby at_334) (by decide) (by decide) ?_
        show Steps p.tables e below (T73.setTop (mkF m 338 #[.val (.int u0), .val (.int u1), .val (.int u2), .val (.long u3), .second, .val (.int ln0), .val (.int w2), .val (.int w4), .val (.ref b5), .val (.ref b11), .val (.ref b18), .val (.ref b28), .val (.int gl_52), .val (.int ff), .val (.int gl_52), .val (.int gg), .val (.long gj_52), .second, .val (.int gl_52), .val (.long w66), .second, .val (.long he), .second, .val (.int (1 : Int32)), .val (.long (if (0 : Int32) < (lcmpW he w66) then w66 else he)), .second, .val (.long gj_52), .second, .val (.int ((w66 - gj_52).toInt32)), .val (.int ((w66 - gj_52).toInt32)), .val (.int (1 : Int32)), .unset, .unset] [(.int (1 : Int32))])) tt
        refine XS.istore X73.here hx rfl (hb hby at_338) rfl (l' := #[.val (.int u0), .val (.int u1), .val (.int u2), .val (.long u3), .second, .val (.int ln0), .val (.int w2), .val (.int w4), .val (.ref b5), .val (.ref b11), .val (.ref b18), .val (.ref b28), .val (.int gl_52), .val (.int ff), .val (.int gl_52), .val (.int gg), .val (.long gj_52), .second, .val (.int gl_52), .val (.long w66), .second, .val (.long he), .second, .val (.int (1 : Int32)), .val (.long (if (0 : Int32) < (lcmpW he w66) then w66 else he)), .second, .val (.long gj_52), .second, .val (.int ((w66 - gj_52).toInt32)), .val (.int ((w66 - gj_52).toInt32)), .val (.int (1 : Int32)), .val (.int (1 : Int32)), .unset]) rfl ?_
        show Steps p.tables e below (T73.setTop (mkF m 340 #[.val (.int u0), .val (.int u1), .val (.int u2), .val (.long u3), .second, .val (.int ln0), .val (.int w2), .val (.int w4), .val (.ref b5), .val (.ref b11), .val (.ref b18), .val (.ref b28), .val (.int gl_52), .val (.int ff), .val (.int gl_52), .val (.int gg), .val (.long gj_52), .second, .val (.int gl_52), .val (.long w66), .second, .val (.long he), .second, .val (.int (1 : Int32)), .val (.long (if (0 : Int32) < (lcmpW he w66) then w66 else he)), .second, .val (.long gj_52), .second, .val (.int ((w66 - gj_52).toInt32)), .val (.int ((w66 - gj_52).toInt32)), .val (.int (1 : Int32)), .val (.int (1 : Int32)), .unset] [])) tt
        refine XS.iload X73.here hx rfl (hb hby at_340) rfl ?_
        show Steps p.tables e below (T73.setTop (mkF m 342 #[.val (.int u0), .val (.int u1), .val (.int u2), .val (.long u3), .second, .val (.int ln0), .val (.int w2), .val (.int w4), .val (.ref b5), .val (.ref b11), .val (.ref b18), .val (.ref b28), .val (.int gl_52), .val (.int ff), .val (.int gl_52), .val (.int gg), .val (.long gj_52), .second, .val (.int gl_52), .val (.long w66), .second, .val (.long he), .second, .val (.int (1 : Int32)), .val (.long (if (0 : Int32) < (lcmpW he w66) then w66 else he)), .second, .val (.long gj_52), .second, .val (.int ((w66 - gj_52).toInt32)), .val (.int ((w66 - gj_52).toInt32)), .val (.int (1 : Int32)), .val (.int (1 : Int32)), .unset] [(.int ((w66 - gj_52).toInt32))])) tt
        refine XS.iload X73.here hx rfl (hb hby at_342) rfl ?_
        show Steps p.tables e below (T73.setTop (mkF m 344 #[.val (.int u0), .val (.int u1), .val (.int u2), .val (.long u3), .second, .val (.int ln0), .val (.int w2), .val (.int w4), .val (.ref b5), .val (.ref b11), .val (.ref b18), .val (.ref b28), .val (.int gl_52), .val (.int ff), .val (.int gl_52), .val (.int gg), .val (.long gj_52), .second, .val (.int gl_52), .val (.long w66), .second, .val (.long he), .second, .val (.int (1 : Int32)), .val (.long (if (0 : Int32) < (lcmpW he w66) then w66 else he)), .second, .val (.long gj_52), .second, .val (.int ((w66 - gj_52).toInt32)), .val (.int ((w66 - gj_52).toInt32)), .val (.int (1 : Int32)), .val (.int (1 : Int32)), .unset] [(.int (1 : Int32)), (.int ((w66 - gj_52).toInt32))])) tt
        refine XS.ifNo X73.here hx rfl (hb hby at_344) rfl ((if0 _ _).trans (feq ((by decide) : ¬ ((1 : Int32) = (0 : Int32)))).1) ?_
        show Steps p.tables e below (T73.setTop (mkF m 347 #[.val (.int u0), .val (.int u1), .val (.int u2), .val (.long u3), .second, .val (.int ln0), .val (.int w2), .val (.int w4), .val (.ref b5), .val (.ref b11), .val (.ref b18), .val (.ref b28), .val (.int gl_52), .val (.int ff), .val (.int gl_52), .val (.int gg), .val (.long gj_52), .second, .val (.int gl_52), .val (.long w66), .second, .val (.long he), .second, .val (.int (1 : Int32)), .val (.long (if (0 : Int32) < (lcmpW he w66) then w66 else he)), .second, .val (.long gj_52), .second, .val (.int ((w66 - gj_52).toInt32)), .val (.int ((w66 - gj_52).toInt32)), .val (.int (1 : Int32)), .val (.int (1 : Int32)), .unset] [(.int ((w66 - gj_52).toInt32))])) tt
        refine XS.iload X73.here hx rfl (hb hby at_347) rfl ?_
        show Steps p.tables e below (T73.setTop (mkF m 349 #[.val (.int u0), .val (.int u1), .val (.int u2), .val (.long u3), .second, .val (.int ln0), .val (.int w2), .val (.int w4), .val (.ref b5), .val (.ref b11), .val (.ref b18), .val (.ref b28), .val (.int gl_52), .val (.int ff), .val (.int gl_52), .val (.int gg), .val (.long gj_52), .second, .val (.int gl_52), .val (.long w66), .second, .val (.long he), .second, .val (.int (1 : Int32)), .val (.long (if (0 : Int32) < (lcmpW he w66) then w66 else he)), .second, .val (.long gj_52), .second, .val (.int ((w66 - gj_52).toInt32)), .val (.int ((w66 - gj_52).toInt32)), .val (.int (1 : Int32)), .val (.int (1 : Int32)), .unset] [(.int ((w66 - gj_52).toInt32)), (.int ((w66 - gj_52).toInt32))])) tt
        refine XS.goto X73.here hx rfl (pc0 := 349) (pc' := 354) rfl (hb hby at_349) (by decide) (by decide) ?_
        show Steps p.tables e below (T73.setTop (mkF m 354 #[.val (.int u0), .val (.int u1), .val (.int u2), .val (.long u3), .second, .val (.int ln0), .val (.int w2), .val (.int w4), .val (.ref b5), .val (.ref b11), .val (.ref b18), .val (.ref b28), .val (.int gl_52), .val (.int ff), .val (.int gl_52), .val (.int gg), .val (.long gj_52), .second, .val (.int gl_52), .val (.long w66), .second, .val (.long he), .second, .val (.int (1 : Int32)), .val (.long (if (0 : Int32) < (lcmpW he w66) then w66 else he)), .second, .val (.long gj_52), .second, .val (.int ((w66 - gj_52).toInt32)), .val (.int ((w66 - gj_52).toInt32)), .val (.int (1 : Int32)), .val (.int (1 : Int32)), .unset] [(.int ((w66 - gj_52).toInt32)), (.int ((w66 - gj_52).toInt32))])) tt
        refine XS.icmpNo X73.here hx rfl (hb hby at_354) rfl (teq (rfl : ((w66 - gj_52).toInt32) = ((w66 - gj_52).toInt32))).2 ?_
        show Steps p.tables e below (T73.setTop (mkF m 357 #[.val (.int u0), .val (.int u1), .val (.int u2), .val (.long u3), .second, .val (.int ln0), .val (.int w2), .val (.int w4), .val (.ref b5), .val (.ref b11), .val (.ref b18), .val (.ref b28), .val (.int gl_52), .val (.int ff), .val (.int gl_52), .val (.int gg), .val (.long gj_52), .second, .val (.int gl_52), .val (.long w66), .second, .val (.long he), .second, .val (.int (1 : Int32)), .val (.long (if (0 : Int32) < (lcmpW he w66) then w66 else he)), .second, .val (.long gj_52), .second, .val (.int ((w66 - gj_52).toInt32)), .val (.int ((w66 - gj_52).toInt32)), .val (.int (1 : Int32)), .val (.int (1 : Int32)), .unset] [])) tt
        refine XS.iconst X73.here hx rfl (hb hby at_357) ?_
        show Steps p.tables e below (T73.setTop (mkF m 358 #[.val (.int u0), .val (.int u1), .val (.int u2), .val (.long u3), .second, .val (.int ln0), .val (.int w2), .val (.int w4), .val (.ref b5), .val (.ref b11), .val (.ref b18), .val (.ref b28), .val (.int gl_52), .val (.int ff), .val (.int gl_52), .val (.int gg), .val (.long gj_52), .second, .val (.int gl_52), .val (.long w66), .second, .val (.long he), .second, .val (.int (1 : Int32)), .val (.long (if (0 : Int32) < (lcmpW he w66) then w66 else he)), .second, .val (.long gj_52), .second, .val (.int ((w66 - gj_52).toInt32)), .val (.int ((w66 - gj_52).toInt32)), .val (.int (1 : Int32)), .val (.int (1 : Int32)), .unset] [(.int (1 : Int32))])) tt
        refine XS.goto X73.here hx rfl (pc0 := 358) (pc' := 362) rfl (hb hby at_358) (by decide) (by decide) ?_
        show Steps p.tables e below (T73.setTop (mkF m 362 #[.val (.int u0), .val (.int u1), .val (.int u2), .val (.long u3), .second, .val (.int ln0), .val (.int w2), .val (.int w4), .val (.ref b5), .val (.ref b11), .val (.ref b18), .val (.ref b28), .val (.int gl_52), .val (.int ff), .val (.int gl_52), .val (.int gg), .val (.long gj_52), .second, .val (.int gl_52), .val (.long w66), .second, .val (.long he), .second, .val (.int (1 : Int32)), .val (.long (if (0 : Int32) < (lcmpW he w66) then w66 else he)), .second, .val (.long gj_52), .second, .val (.int ((w66 - gj_52).toInt32)), .val (.int ((w66 - gj_52).toInt32)), .val (.int (1 : Int32)), .val (.int (1 : Int32)), .unset] [(.int (1 : Int32))])) tt
        refine XS.istore X73.here hx rfl (hb hby at_362) rfl (l' := #[.val (.int u0), .val (.int u1), .val (.int u2), .val (.long u3), .second, .val (.int ln0), .val (.int w2), .val (.int w4), .val (.ref b5), .val (.ref b11), .val (.ref b18), .val (.ref b28), .val (.int gl_52), .val (.int ff), .val (.int gl_52), .val (.int gg), .val (.long gj_52), .second, .val (.int gl_52), .val (.long w66), .second, .val (.long he), .second, .val (.int (1 : Int32)), .val (.long (if (0 : Int32) < (lcmpW he w66) then w66 else he)), .second, .val (.long gj_52), .second, .val (.int ((w66 - gj_52).toInt32)), .val (.int ((w66 - gj_52).toInt32)), .val (.int (1 : Int32)), .val (.int (1 : Int32)), .val (.int (1 : Int32))]) rfl ?_
        show Steps p.tables e below (T73.setTop (mkF m 364 #[.val (.int u0), .val (.int u1), .val (.int u2), .val (.long u3), .second, .val (.int ln0), .val (.int w2), .val (.int w4), .val (.ref b5), .val (.ref b11), .val (.ref b18), .val (.ref b28), .val (.int gl_52), .val (.int ff), .val (.int gl_52), .val (.int gg), .val (.long gj_52), .second, .val (.int gl_52), .val (.long w66), .second, .val (.long he), .second, .val (.int (1 : Int32)), .val (.long (if (0 : Int32) < (lcmpW he w66) then w66 else he)), .second, .val (.long gj_52), .second, .val (.int ((w66 - gj_52).toInt32)), .val (.int ((w66 - gj_52).toInt32)), .val (.int (1 : Int32)), .val (.int (1 : Int32)), .val (.int (1 : Int32))] [])) tt
        refine XS.iload X73.here hx rfl (hb hby at_364) rfl ?_
        show Steps p.tables e below (T73.setTop (mkF m 366 #[.val (.int u0), .val (.int u1), .val (.int u2), .val (.long u3), .second, .val (.int ln0), .val (.int w2), .val (.int w4), .val (.ref b5), .val (.ref b11), .val (.ref b18), .val (.ref b28), .val (.int gl_52), .val (.int ff), .val (.int gl_52), .val (.int gg), .val (.long gj_52), .second, .val (.int gl_52), .val (.long w66), .second, .val (.long he), .second, .val (.int (1 : Int32)), .val (.long (if (0 : Int32) < (lcmpW he w66) then w66 else he)), .second, .val (.long gj_52), .second, .val (.int ((w66 - gj_52).toInt32)), .val (.int ((w66 - gj_52).toInt32)), .val (.int (1 : Int32)), .val (.int (1 : Int32)), .val (.int (1 : Int32))] [(.int (1 : Int32))])) tt
        refine XS.ifNo X73.here hx rfl (hb hby at_366) rfl ((if0 _ _).trans (feq ((by decide) : ¬ ((1 : Int32) = (0 : Int32)))).1) ?_
        show Steps p.tables e below (T73.setTop (mkF m 369 #[.val (.int u0), .val (.int u1), .val (.int u2), .val (.long u3), .second, .val (.int ln0), .val (.int w2), .val (.int w4), .val (.ref b5), .val (.ref b11), .val (.ref b18), .val (.ref b28), .val (.int gl_52), .val (.int ff), .val (.int gl_52), .val (.int gg), .val (.long gj_52), .second, .val (.int gl_52), .val (.long w66), .second, .val (.long he), .second, .val (.int (1 : Int32)), .val (.long (if (0 : Int32) < (lcmpW he w66) then w66 else he)), .second, .val (.long gj_52), .second, .val (.int ((w66 - gj_52).toInt32)), .val (.int ((w66 - gj_52).toInt32)), .val (.int (1 : Int32)), .val (.int (1 : Int32)), .val (.int (1 : Int32))] [])) tt
        refine XS.iload X73.here hx rfl (hb hby at_369) rfl ?_
        show Steps p.tables e below (T73.setTop (mkF m 371 #[.val (.int u0), .val (.int u1), .val (.int u2), .val (.long u3), .second, .val (.int ln0), .val (.int w2), .val (.int w4), .val (.ref b5), .val (.ref b11), .val (.ref b18), .val (.ref b28), .val (.int gl_52), .val (.int ff), .val (.int gl_52), .val (.int gg), .val (.long gj_52), .second, .val (.int gl_52), .val (.long w66), .second, .val (.long he), .second, .val (.int (1 : Int32)), .val (.long (if (0 : Int32) < (lcmpW he w66) then w66 else he)), .second, .val (.long gj_52), .second, .val (.int ((w66 - gj_52).toInt32)), .val (.int ((w66 - gj_52).toInt32)), .val (.int (1 : Int32)), .val (.int (1 : Int32)), .val (.int (1 : Int32))] [(.int (1 : Int32))])) tt
        refine XS.ifNo X73.here hx rfl (hb hby at_371) rfl ((if0 _ _).trans (feq ((by decide) : ¬ ((1 : Int32) = (0 : Int32)))).1) ?_
        show Steps p.tables e below (T73.setTop (mkF m 374 #[.val (.int u0), .val (.int u1), .val (.int u2), .val (.long u3), .second, .val (.int ln0), .val (.int w2), .val (.int w4), .val (.ref b5), .val (.ref b11), .val (.ref b18), .val (.ref b28), .val (.int gl_52), .val (.int ff), .val (.int gl_52), .val (.int gg), .val (.long gj_52), .second, .val (.int gl_52), .val (.long w66), .second, .val (.long he), .second, .val (.int (1 : Int32)), .val (.long (if (0 : Int32) < (lcmpW he w66) then w66 else he)), .second, .val (.long gj_52), .second, .val (.int ((w66 - gj_52).toInt32)), .val (.int ((w66 - gj_52).toInt32)), .val (.int (1 : Int32)), .val (.int (1 : Int32)), .val (.int (1 : Int32))] [])) tt
        refine XS.iload X73.here hx rfl (hb hby at_374) rfl ?_
        show Steps p.tables e below (T73.setTop (mkF m 376 #[.val (.int u0), .val (.int u1), .val (.int u2), .val (.long u3), .second, .val (.int ln0), .val (.int w2), .val (.int w4), .val (.ref b5), .val (.ref b11), .val (.ref b18), .val (.ref b28), .val (.int gl_52), .val (.int ff), .val (.int gl_52), .val (.int gg), .val (.long gj_52), .second, .val (.int gl_52), .val (.long w66), .second, .val (.long he), .second, .val (.int (1 : Int32)), .val (.long (if (0 : Int32) < (lcmpW he w66) then w66 else he)), .second, .val (.long gj_52), .second, .val (.int ((w66 - gj_52).toInt32)), .val (.int ((w66 - gj_52).toInt32)), .val (.int (1 : Int32)), .val (.int (1 : Int32)), .val (.int (1 : Int32))] [(.int (1 : Int32))])) tt
        refine XS.ifNo X73.here hx rfl (hb hby at_376) rfl ((if0 _ _).trans (feq ((by decide) : ¬ ((1 : Int32) = (0 : Int32)))).1) ?_
        show Steps p.tables e below (T73.setTop (mkF m 379 #[.val (.int u0), .val (.int u1), .val (.int u2), .val (.long u3), .second, .val (.int ln0), .val (.int w2), .val (.int w4), .val (.ref b5), .val (.ref b11), .val (.ref b18), .val (.ref b28), .val (.int gl_52), .val (.int ff), .val (.int gl_52), .val (.int gg), .val (.long gj_52), .second, .val (.int gl_52), .val (.long w66), .second, .val (.long he), .second, .val (.int (1 : Int32)), .val (.long (if (0 : Int32) < (lcmpW he w66) then w66 else he)), .second, .val (.long gj_52), .second, .val (.int ((w66 - gj_52).toInt32)), .val (.int ((w66 - gj_52).toInt32)), .val (.int (1 : Int32)), .val (.int (1 : Int32)), .val (.int (1 : Int32))] [])) tt
        refine XS.iconst X73.here hx rfl (hb hby at_379) ?_
        show Steps p.tables e below (T73.setTop (mkF m 380 #[.val (.int u0), .val (.int u1), .val (.int u2), .val (.long u3), .second, .val (.int ln0), .val (.int w2), .val (.int w4), .val (.ref b5), .val (.ref b11), .val (.ref b18), .val (.ref b28), .val (.int gl_52), .val (.int ff), .val (.int gl_52), .val (.int gg), .val (.long gj_52), .second, .val (.int gl_52), .val (.long w66), .second, .val (.long he), .second, .val (.int (1 : Int32)), .val (.long (if (0 : Int32) < (lcmpW he w66) then w66 else he)), .second, .val (.long gj_52), .second, .val (.int ((w66 - gj_52).toInt32)), .val (.int ((w66 - gj_52).toInt32)), .val (.int (1 : Int32)), .val (.int (1 : Int32)), .val (.int (1 : Int32))] [(.int (1 : Int32))])) tt
        refine XS.goto X73.here hx rfl (pc0 := 380) (pc' := 384) rfl (hb hby at_380) (by decide) (by decide) ?_
        exact kk
      exact Goal.retV X73 hx Bd.returns rfl (Or.inl ⟨rfl, Or.inr (Or.inl rfl), _, rfl⟩) (hb hby at_384) hlk e73 ⟨rfl, N73⟩ (by decide) (by decide)
    · have hcut' : ¬ (w66 < (gj_52 + (gl_52.toInt64))) := by intro q; rw [← hhe] at q; exact hcut ((lw_lt _ _).mpr q)
      refine Goal.to (B := T64.setTop (mkF m 273 #[.val (.int u0), .val (.int u1), .val (.int u2), .val (.long u3), .second, .val (.int ln0), .val (.int w2), .val (.int w4), .val (.ref b5), .val (.ref b11), .val (.ref b18), .val (.ref b28), .val (.int gl_52), .val (.int ff), .val (.int gl_52), .val (.int gg), .val (.long gj_52), .second, .val (.int gl_52), .val (.long w66), .second, .val (.long he), .second, .val (.int (0 : Int32)), .unset, .unset, .unset, .unset, .unset, .unset, .unset, .unset, .unset] [(.long w66), (.long he)])) (fun tt kk => ?_) ?_
      · show Steps p.tables e below (T64.setTop (mkF m 259 #[.val (.int u0), .val (.int u1), .val (.int u2), .val (.long u3), .second, .val (.int ln0), .val (.int w2), .val (.int w4), .val (.ref b5), .val (.ref b11), .val (.ref b18), .val (.ref b28), .val (.int gl_52), .val (.int ff), .val (.int gl_52), .val (.int gg), .val (.long gj_52), .second, .val (.int gl_52), .val (.long w66), .second, .val (.long he), .second, .unset, .unset, .unset, .unset, .unset, .unset, .unset, .unset, .unset, .unset] [(.int (lcmpW w66 he))])) tt
        refine XS.ifYes X64.here hx rfl (pc0 := 259) (pc' := 266) rfl (hb hby at_259) rfl ((if0 _ _).trans (flt hcut).2.1) (by decide) (by decide) ?_
        show Steps p.tables e below (T64.setTop (mkF m 266 #[.val (.int u0), .val (.int u1), .val (.int u2), .val (.long u3), .second, .val (.int ln0), .val (.int w2), .val (.int w4), .val (.ref b5), .val (.ref b11), .val (.ref b18), .val (.ref b28), .val (.int gl_52), .val (.int ff), .val (.int gl_52), .val (.int gg), .val (.long gj_52), .second, .val (.int gl_52), .val (.long w66), .second, .val (.long he), .second, .unset, .unset, .unset, .unset, .unset, .unset, .unset, .unset, .unset, .unset] [])) tt
        refine XS.iconst X64.here hx rfl (hb hby at_266) ?_
        show Steps p.tables e below (T64.setTop (mkF m 267 #[.val (.int u0), .val (.int u1), .val (.int u2), .val (.long u3), .second, .val (.int ln0), .val (.int w2), .val (.int w4), .val (.ref b5), .val (.ref b11), .val (.ref b18), .val (.ref b28), .val (.int gl_52), .val (.int ff), .val (.int gl_52), .val (.int gg), .val (.long gj_52), .second, .val (.int gl_52), .val (.long w66), .second, .val (.long he), .second, .unset, .unset, .unset, .unset, .unset, .unset, .unset, .unset, .unset, .unset] [(.int (0 : Int32))])) tt
        refine XS.istore X64.here hx rfl (hb hby at_267) rfl (l' := #[.val (.int u0), .val (.int u1), .val (.int u2), .val (.long u3), .second, .val (.int ln0), .val (.int w2), .val (.int w4), .val (.ref b5), .val (.ref b11), .val (.ref b18), .val (.ref b28), .val (.int gl_52), .val (.int ff), .val (.int gl_52), .val (.int gg), .val (.long gj_52), .second, .val (.int gl_52), .val (.long w66), .second, .val (.long he), .second, .val (.int (0 : Int32)), .unset, .unset, .unset, .unset, .unset, .unset, .unset, .unset, .unset]) rfl ?_
        show Steps p.tables e below (T64.setTop (mkF m 269 #[.val (.int u0), .val (.int u1), .val (.int u2), .val (.long u3), .second, .val (.int ln0), .val (.int w2), .val (.int w4), .val (.ref b5), .val (.ref b11), .val (.ref b18), .val (.ref b28), .val (.int gl_52), .val (.int ff), .val (.int gl_52), .val (.int gg), .val (.long gj_52), .second, .val (.int gl_52), .val (.long w66), .second, .val (.long he), .second, .val (.int (0 : Int32)), .unset, .unset, .unset, .unset, .unset, .unset, .unset, .unset, .unset] [])) tt
        refine XS.lload X64.here hx rfl (hb hby at_269) rfl ?_
        show Steps p.tables e below (T64.setTop (mkF m 271 #[.val (.int u0), .val (.int u1), .val (.int u2), .val (.long u3), .second, .val (.int ln0), .val (.int w2), .val (.int w4), .val (.ref b5), .val (.ref b11), .val (.ref b18), .val (.ref b28), .val (.int gl_52), .val (.int ff), .val (.int gl_52), .val (.int gg), .val (.long gj_52), .second, .val (.int gl_52), .val (.long w66), .second, .val (.long he), .second, .val (.int (0 : Int32)), .unset, .unset, .unset, .unset, .unset, .unset, .unset, .unset, .unset] [(.long he)])) tt
        refine XS.lload X64.here hx rfl (hb hby at_271) rfl ?_
        exact kk
      obtain ⟨_, _, ⟨T74, L74, k74, n74⟩, -, X74, ⟨Lc74, hQ74, l74, y74, z74⟩, st74⟩ := Jvm.LawKit.callS X64 hx (y := (⟨"java/lang/Math", "min", "(JJ)J"⟩ : MethodName)) hown (mvT hZ (hw _ (mw 144 rfl))) (mvT hZ (hw _ (mw 145 rfl))) (mvT hZ (hw _ (mw 84 rfl))) (mvT hZ (hw _ (mw 146 rfl))) (by decide) (backOf (W := 0) (rmmj l Z a0 hw [] he w66 T60.heap n0 f61 ) hZ (hw _ (mw 146 rfl)) (hw _ (mw 84 rfl)) (by decide) (by decide)) (g := (mkF m 273 #[.val (.int u0), .val (.int u1), .val (.int u2), .val (.long u3), .second, .val (.int ln0), .val (.int w2), .val (.int w4), .val (.ref b5), .val (.ref b11), .val (.ref b18), .val (.ref b28), .val (.int gl_52), .val (.int ff), .val (.int gl_52), .val (.int gg), .val (.long gj_52), .second, .val (.int gl_52), .val (.long w66), .second, .val (.long he), .second, .val (.int (0 : Int32)), .unset, .unset, .unset, .unset, .unset, .unset, .unset, .unset, .unset] [(.long w66), (.long he)])) rfl (by rw [hml]; rfl) (argsL := [(.long he), (.long w66)]) (rest := []) (lenOf pd_22 rfl) rfl (by show 2 * 0 + _ ≤ _; exact Nat.le_of_eq rfl) (hb hby at_273) (fun _ _ => ⟨rfl, e64, (by decide : 6 + 0 ≤ _), (by decide : 29 + 0 ≤ _)⟩)
      dsimp only [Pt.U, Pt.locs, Pt.cells, Pt.slots] at X74 l74 y74 z74 st74 hQ74
      subst y74 z74
      obtain ⟨rfl, N74q, e74⟩ := hQ74
      have N74 := Fr.eqv l74 (Fr.app N64 N74q)
      refine Goal.to (B := T74.setTop (mkF m 276 #[.val (.int u0), .val (.int u1), .val (.int u2), .val (.long u3), .second, .val (.int ln0), .val (.int w2), .val (.int w4), .val (.ref b5), .val (.ref b11), .val (.ref b18), .val (.ref b28), .val (.int gl_52), .val (.int ff), .val (.int gl_52), .val (.int gg), .val (.long gj_52), .second, .val (.int gl_52), .val (.long w66), .second, .val (.long he), .second, .val (.int (0 : Int32)), .unset, .unset, .unset, .unset, .unset, .unset, .unset, .unset, .unset] [(.long (if (0 : Int32) < (lcmpW he w66) then w66 else he))])) st74 ?_
      refine Goal.to (B := T74.setTop (mkF m 282 #[.val (.int u0), .val (.int u1), .val (.int u2), .val (.long u3), .second, .val (.int ln0), .val (.int w2), .val (.int w4), .val (.ref b5), .val (.ref b11), .val (.ref b18), .val (.ref b28), .val (.int gl_52), .val (.int ff), .val (.int gl_52), .val (.int gg), .val (.long gj_52), .second, .val (.int gl_52), .val (.long w66), .second, .val (.long he), .second, .val (.int (0 : Int32)), .val (.long (if (0 : Int32) < (lcmpW he w66) then w66 else he)), .second, .unset, .unset, .unset, .unset, .unset, .unset, .unset] [(.long w66), (.ref b28)])) (fun tt kk => ?_) ?_
      · show Steps p.tables e below (T74.setTop (mkF m 276 #[.val (.int u0), .val (.int u1), .val (.int u2), .val (.long u3), .second, .val (.int ln0), .val (.int w2), .val (.int w4), .val (.ref b5), .val (.ref b11), .val (.ref b18), .val (.ref b28), .val (.int gl_52), .val (.int ff), .val (.int gl_52), .val (.int gg), .val (.long gj_52), .second, .val (.int gl_52), .val (.long w66), .second, .val (.long he), .second, .val (.int (0 : Int32)), .unset, .unset, .unset, .unset, .unset, .unset, .unset, .unset, .unset] [(.long (if (0 : Int32) < (lcmpW he w66) then w66 else he))])) tt
        refine XS.lstore X74.here hx rfl (hb hby at_276) rfl (l' := #[.val (.int u0), .val (.int u1), .val (.int u2), .val (.long u3), .second, .val (.int ln0), .val (.int w2), .val (.int w4), .val (.ref b5), .val (.ref b11), .val (.ref b18), .val (.ref b28), .val (.int gl_52), .val (.int ff), .val (.int gl_52), .val (.int gg), .val (.long gj_52), .second, .val (.int gl_52), .val (.long w66), .second, .val (.long he), .second, .val (.int (0 : Int32)), .val (.long (if (0 : Int32) < (lcmpW he w66) then w66 else he)), .second, .unset, .unset, .unset, .unset, .unset, .unset, .unset]) rfl ?_
        show Steps p.tables e below (T74.setTop (mkF m 278 #[.val (.int u0), .val (.int u1), .val (.int u2), .val (.long u3), .second, .val (.int ln0), .val (.int w2), .val (.int w4), .val (.ref b5), .val (.ref b11), .val (.ref b18), .val (.ref b28), .val (.int gl_52), .val (.int ff), .val (.int gl_52), .val (.int gg), .val (.long gj_52), .second, .val (.int gl_52), .val (.long w66), .second, .val (.long he), .second, .val (.int (0 : Int32)), .val (.long (if (0 : Int32) < (lcmpW he w66) then w66 else he)), .second, .unset, .unset, .unset, .unset, .unset, .unset, .unset] [])) tt
        refine XS.aload X74.here hx rfl (hb hby at_278) rfl rfl ?_
        show Steps p.tables e below (T74.setTop (mkF m 280 #[.val (.int u0), .val (.int u1), .val (.int u2), .val (.long u3), .second, .val (.int ln0), .val (.int w2), .val (.int w4), .val (.ref b5), .val (.ref b11), .val (.ref b18), .val (.ref b28), .val (.int gl_52), .val (.int ff), .val (.int gl_52), .val (.int gg), .val (.long gj_52), .second, .val (.int gl_52), .val (.long w66), .second, .val (.long he), .second, .val (.int (0 : Int32)), .val (.long (if (0 : Int32) < (lcmpW he w66) then w66 else he)), .second, .unset, .unset, .unset, .unset, .unset, .unset, .unset] [(.ref b28)])) tt
        refine XS.lload X74.here hx rfl (hb hby at_280) rfl ?_
        exact kk
      obtain ⟨cq75, kq75, q75a, q75b, q75c⟩ := isOf hZ e74 f63
      obtain ⟨_, _, ⟨T75, L75, k75, n75⟩, -, X75, ⟨Lc75, hQ75, l75, y75, z75⟩, st75⟩ := X74.virtualBack hx (y := (⟨"com/example/pattern_automaton/patternautomaton/CharBlock", "cutTo", "(J)V"⟩ : MethodName)) (z := (⟨"com/example/pattern_automaton/patternautomaton/CharBlock", "cutTo", "(J)V"⟩ : MethodName)) hown (mvT hZ (hw _ (mw 147 rfl))) (mvT hZ (hw _ (mw 148 rfl))) (notFace_of_selects (args := #[]) (mvT hZ (hw _ (mw 150 rfl)))) (mvT hZ (hw _ (mw 150 rfl))) (mvT hZ (hw _ (mw 149 rfl))) (by decide) (backOf (W := 0) (rmct0 l Z a0 hw [] b28 vc_35 gl_52 gg gj_52 w66 T60.heap n0 f61 f63 P60_0 P60_1 P60_2 P60_3 g_b28 (fun q => hcut' ((lw_gt _ _).mp q))) hZ (hw _ (mw 151 rfl)) (hw _ (mw 57 rfl)) (by decide) (by decide)) q75a q75c (g := (mkF m 282 #[.val (.int u0), .val (.int u1), .val (.int u2), .val (.long u3), .second, .val (.int ln0), .val (.int w2), .val (.int w4), .val (.ref b5), .val (.ref b11), .val (.ref b18), .val (.ref b28), .val (.int gl_52), .val (.int ff), .val (.int gl_52), .val (.int gg), .val (.long gj_52), .second, .val (.int gl_52), .val (.long w66), .second, .val (.long he), .second, .val (.int (0 : Int32)), .val (.long (if (0 : Int32) < (lcmpW he w66) then w66 else he)), .second, .unset, .unset, .unset, .unset, .unset, .unset, .unset] [(.long w66), (.ref b28)])) rfl (by rw [hml]; rfl) (Steps.refl _) (argsL := [(.long w66)]) (rest := []) (lenOf pd_23 rfl) rfl (by show 2 * 0 + _ ≤ _; exact Nat.le_of_eq rfl) (hb hby at_282) (fun _ _ => ⟨rfl, e74, (by decide : 6 + 0 ≤ _), (by decide : 29 + 0 ≤ _)⟩)
      dsimp only [Pt.U, Pt.locs, Pt.cells, Pt.slots] at X75 l75 y75 z75 st75 hQ75
      subst y75 z75
      obtain ⟨rfl, N75q, K75, P75_0, P75_1, P75_2, P75_3⟩ := hQ75
      have N75 := Fr.eqv l75 (Fr.app N74 N75q)
      refine Goal.tr (B := T75.setTop (mkF m 285 #[.val (.int u0), .val (.int u1), .val (.int u2), .val (.long u3), .second, .val (.int ln0), .val (.int w2), .val (.int w4), .val (.ref b5), .val (.ref b11), .val (.ref b18), .val (.ref b28), .val (.int gl_52), .val (.int ff), .val (.int gl_52), .val (.int gg), .val (.long gj_52), .second, .val (.int gl_52), .val (.long w66), .second, .val (.long he), .second, .val (.int (0 : Int32)), .val (.long (if (0 : Int32) < (lcmpW he w66) then w66 else he)), .second, .unset, .unset, .unset, .unset, .unset, .unset, .unset] [])) st75 ?_
      refine Goal.to (B := T75.setTop (mkF m 287 #[.val (.int u0), .val (.int u1), .val (.int u2), .val (.long u3), .second, .val (.int ln0), .val (.int w2), .val (.int w4), .val (.ref b5), .val (.ref b11), .val (.ref b18), .val (.ref b28), .val (.int gl_52), .val (.int ff), .val (.int gl_52), .val (.int gg), .val (.long gj_52), .second, .val (.int gl_52), .val (.long w66), .second, .val (.long he), .second, .val (.int (0 : Int32)), .val (.long (if (0 : Int32) < (lcmpW he w66) then w66 else he)), .second, .unset, .unset, .unset, .unset, .unset, .unset, .unset] [(.ref b28)])) (fun tt kk => ?_) ?_
      · show Steps p.tables e below (T75.setTop (mkF m 285 #[.val (.int u0), .val (.int u1), .val (.int u2), .val (.long u3), .second, .val (.int ln0), .val (.int w2), .val (.int w4), .val (.ref b5), .val (.ref b11), .val (.ref b18), .val (.ref b28), .val (.int gl_52), .val (.int ff), .val (.int gl_52), .val (.int gg), .val (.long gj_52), .second, .val (.int gl_52), .val (.long w66), .second, .val (.long he), .second, .val (.int (0 : Int32)), .val (.long (if (0 : Int32) < (lcmpW he w66) then w66 else he)), .second, .unset, .unset, .unset, .unset, .unset, .unset, .unset] [])) tt
        refine XS.aload X75.here hx rfl (hb hby at_285) rfl rfl ?_
        exact kk
      have f76 : n0 ≤ T75.heap.size := (Nat.le_trans f61 K75.1)
      have f78 : Exa Z T75.heap b28 "com/example/pattern_automaton/patternautomaton/CharBlock" := (f63.keep K75)
      obtain ⟨cq77, kq77, q77a, q77b, q77c⟩ := isOf hZ rfl f78
      obtain ⟨_, _, ⟨T77, L77, k77, n77⟩, -, X77, ⟨Lc77, hQ77, l77, y77, z77⟩, st77⟩ := X75.virtualBack hx (y := (⟨"com/example/pattern_automaton/patternautomaton/CharBlock", "start", "()J"⟩ : MethodName)) (z := (⟨"com/example/pattern_automaton/patternautomaton/CharBlock", "start", "()J"⟩ : MethodName)) hown (mvT hZ (hw _ (mw 137 rfl))) (mvT hZ (hw _ (mw 138 rfl))) (notFace_of_selects (args := #[]) (mvT hZ (hw _ (mw 140 rfl)))) (mvT hZ (hw _ (mw 140 rfl))) (mvT hZ (hw _ (mw 139 rfl))) (by decide) (backOf (W := 0) (rmsj l Z a0 hw [] b28 gj_52 T75.heap n0 f76 P75_3) hZ (hw _ (mw 141 rfl)) (hw _ (mw 57 rfl)) (by decide) (by decide)) q77a q77c (g := (mkF m 287 #[.val (.int u0), .val (.int u1), .val (.int u2), .val (.long u3), .second, .val (.int ln0), .val (.int w2), .val (.int w4), .val (.ref b5), .val (.ref b11), .val (.ref b18), .val (.ref b28), .val (.int gl_52), .val (.int ff), .val (.int gl_52), .val (.int gg), .val (.long gj_52), .second, .val (.int gl_52), .val (.long w66), .second, .val (.long he), .second, .val (.int (0 : Int32)), .val (.long (if (0 : Int32) < (lcmpW he w66) then w66 else he)), .second, .unset, .unset, .unset, .unset, .unset, .unset, .unset] [(.ref b28)])) rfl (by rw [hml]; rfl) (Steps.refl _) (argsL := []) (rest := []) (lenOf pd_21 rfl) rfl (by show 2 * 0 + _ ≤ _; exact Nat.le_of_eq rfl) (hb hby at_287) (fun _ _ => ⟨rfl, rfl, (by decide : 6 + 0 ≤ _), (by decide : 29 + 0 ≤ _)⟩)
      dsimp only [Pt.U, Pt.locs, Pt.cells, Pt.slots] at X77 l77 y77 z77 st77 hQ77
      subst y77 z77
      obtain ⟨rfl, N77q, e77⟩ := hQ77
      have N77 := Fr.eqv l77 (Fr.app N75 N77q)
      refine Goal.tr (B := T77.setTop (mkF m 290 #[.val (.int u0), .val (.int u1), .val (.int u2), .val (.long u3), .second, .val (.int ln0), .val (.int w2), .val (.int w4), .val (.ref b5), .val (.ref b11), .val (.ref b18), .val (.ref b28), .val (.int gl_52), .val (.int ff), .val (.int gl_52), .val (.int gg), .val (.long gj_52), .second, .val (.int gl_52), .val (.long w66), .second, .val (.long he), .second, .val (.int (0 : Int32)), .val (.long (if (0 : Int32) < (lcmpW he w66) then w66 else he)), .second, .unset, .unset, .unset, .unset, .unset, .unset, .unset] [(.long gj_52)])) st77 ?_
      refine Goal.to (B := T77.setTop (mkF m 294 #[.val (.int u0), .val (.int u1), .val (.int u2), .val (.long u3), .second, .val (.int ln0), .val (.int w2), .val (.int w4), .val (.ref b5), .val (.ref b11), .val (.ref b18), .val (.ref b28), .val (.int gl_52), .val (.int ff), .val (.int gl_52), .val (.int gg), .val (.long gj_52), .second, .val (.int gl_52), .val (.long w66), .second, .val (.long he), .second, .val (.int (0 : Int32)), .val (.long (if (0 : Int32) < (lcmpW he w66) then w66 else he)), .second, .val (.long gj_52), .second, .unset, .unset, .unset, .unset, .unset] [(.ref b28)])) (fun tt kk => ?_) ?_
      · show Steps p.tables e below (T77.setTop (mkF m 290 #[.val (.int u0), .val (.int u1), .val (.int u2), .val (.long u3), .second, .val (.int ln0), .val (.int w2), .val (.int w4), .val (.ref b5), .val (.ref b11), .val (.ref b18), .val (.ref b28), .val (.int gl_52), .val (.int ff), .val (.int gl_52), .val (.int gg), .val (.long gj_52), .second, .val (.int gl_52), .val (.long w66), .second, .val (.long he), .second, .val (.int (0 : Int32)), .val (.long (if (0 : Int32) < (lcmpW he w66) then w66 else he)), .second, .unset, .unset, .unset, .unset, .unset, .unset, .unset] [(.long gj_52)])) tt
        refine XS.lstore X77.here hx rfl (hb hby at_290) rfl (l' := #[.val (.int u0), .val (.int u1), .val (.int u2), .val (.long u3), .second, .val (.int ln0), .val (.int w2), .val (.int w4), .val (.ref b5), .val (.ref b11), .val (.ref b18), .val (.ref b28), .val (.int gl_52), .val (.int ff), .val (.int gl_52), .val (.int gg), .val (.long gj_52), .second, .val (.int gl_52), .val (.long w66), .second, .val (.long he), .second, .val (.int (0 : Int32)), .val (.long (if (0 : Int32) < (lcmpW he w66) then w66 else he)), .second, .val (.long gj_52), .second, .unset, .unset, .unset, .unset, .unset]) rfl ?_
        show Steps p.tables e below (T77.setTop (mkF m 292 #[.val (.int u0), .val (.int u1), .val (.int u2), .val (.long u3), .second, .val (.int ln0), .val (.int w2), .val (.int w4), .val (.ref b5), .val (.ref b11), .val (.ref b18), .val (.ref b28), .val (.int gl_52), .val (.int ff), .val (.int gl_52), .val (.int gg), .val (.long gj_52), .second, .val (.int gl_52), .val (.long w66), .second, .val (.long he), .second, .val (.int (0 : Int32)), .val (.long (if (0 : Int32) < (lcmpW he w66) then w66 else he)), .second, .val (.long gj_52), .second, .unset, .unset, .unset, .unset, .unset] [])) tt
        refine XS.aload X77.here hx rfl (hb hby at_292) rfl rfl ?_
        exact kk
      obtain ⟨cq79, kq79, q79a, q79b, q79c⟩ := isOf hZ e77 f78
      obtain ⟨_, _, ⟨T79, L79, k79, n79⟩, -, X79, ⟨Lc79, hQ79, l79, y79, z79⟩, st79⟩ := X77.virtualBack hx (y := (⟨"com/example/pattern_automaton/patternautomaton/CharBlock", "filled", "()I"⟩ : MethodName)) (z := (⟨"com/example/pattern_automaton/patternautomaton/CharBlock", "filled", "()I"⟩ : MethodName)) hown (mvT hZ (hw _ (mw 124 rfl))) (mvT hZ (hw _ (mw 125 rfl))) (notFace_of_selects (args := #[]) (mvT hZ (hw _ (mw 127 rfl)))) (mvT hZ (hw _ (mw 127 rfl))) (mvT hZ (hw _ (mw 126 rfl))) (by decide) (backOf (W := 0) (rmfd l Z a0 hw [] b28 gl_52 T75.heap n0 f76 P75_1) hZ (hw _ (mw 128 rfl)) (hw _ (mw 57 rfl)) (by decide) (by decide)) q79a q79c (g := (mkF m 294 #[.val (.int u0), .val (.int u1), .val (.int u2), .val (.long u3), .second, .val (.int ln0), .val (.int w2), .val (.int w4), .val (.ref b5), .val (.ref b11), .val (.ref b18), .val (.ref b28), .val (.int gl_52), .val (.int ff), .val (.int gl_52), .val (.int gg), .val (.long gj_52), .second, .val (.int gl_52), .val (.long w66), .second, .val (.long he), .second, .val (.int (0 : Int32)), .val (.long (if (0 : Int32) < (lcmpW he w66) then w66 else he)), .second, .val (.long gj_52), .second, .unset, .unset, .unset, .unset, .unset] [(.ref b28)])) rfl (by rw [hml]; rfl) (Steps.refl _) (argsL := []) (rest := []) (lenOf pd_7 rfl) rfl (by show 2 * 0 + _ ≤ _; exact Nat.le_of_eq rfl) (hb hby at_294) (fun _ _ => ⟨rfl, e77, (by decide : 6 + 0 ≤ _), (by decide : 29 + 0 ≤ _)⟩)
      dsimp only [Pt.U, Pt.locs, Pt.cells, Pt.slots] at X79 l79 y79 z79 st79 hQ79
      subst y79 z79
      obtain ⟨rfl, N79q, e79⟩ := hQ79
      have N79 := Fr.eqv l79 (Fr.app N77 N79q)
      refine Goal.tr (B := T79.setTop (mkF m 297 #[.val (.int u0), .val (.int u1), .val (.int u2), .val (.long u3), .second, .val (.int ln0), .val (.int w2), .val (.int w4), .val (.ref b5), .val (.ref b11), .val (.ref b18), .val (.ref b28), .val (.int gl_52), .val (.int ff), .val (.int gl_52), .val (.int gg), .val (.long gj_52), .second, .val (.int gl_52), .val (.long w66), .second, .val (.long he), .second, .val (.int (0 : Int32)), .val (.long (if (0 : Int32) < (lcmpW he w66) then w66 else he)), .second, .val (.long gj_52), .second, .unset, .unset, .unset, .unset, .unset] [(.int gl_52)])) st79 ?_
      refine Goal.to (B := T79.setTop (mkF m 301 #[.val (.int u0), .val (.int u1), .val (.int u2), .val (.long u3), .second, .val (.int ln0), .val (.int w2), .val (.int w4), .val (.ref b5), .val (.ref b11), .val (.ref b18), .val (.ref b28), .val (.int gl_52), .val (.int ff), .val (.int gl_52), .val (.int gg), .val (.long gj_52), .second, .val (.int gl_52), .val (.long w66), .second, .val (.long he), .second, .val (.int (0 : Int32)), .val (.long (if (0 : Int32) < (lcmpW he w66) then w66 else he)), .second, .val (.long gj_52), .second, .val (.int gl_52), .unset, .unset, .unset, .unset] [(.ref b28)])) (fun tt kk => ?_) ?_
      · show Steps p.tables e below (T79.setTop (mkF m 297 #[.val (.int u0), .val (.int u1), .val (.int u2), .val (.long u3), .second, .val (.int ln0), .val (.int w2), .val (.int w4), .val (.ref b5), .val (.ref b11), .val (.ref b18), .val (.ref b28), .val (.int gl_52), .val (.int ff), .val (.int gl_52), .val (.int gg), .val (.long gj_52), .second, .val (.int gl_52), .val (.long w66), .second, .val (.long he), .second, .val (.int (0 : Int32)), .val (.long (if (0 : Int32) < (lcmpW he w66) then w66 else he)), .second, .val (.long gj_52), .second, .unset, .unset, .unset, .unset, .unset] [(.int gl_52)])) tt
        refine XS.istore X79.here hx rfl (hb hby at_297) rfl (l' := #[.val (.int u0), .val (.int u1), .val (.int u2), .val (.long u3), .second, .val (.int ln0), .val (.int w2), .val (.int w4), .val (.ref b5), .val (.ref b11), .val (.ref b18), .val (.ref b28), .val (.int gl_52), .val (.int ff), .val (.int gl_52), .val (.int gg), .val (.long gj_52), .second, .val (.int gl_52), .val (.long w66), .second, .val (.long he), .second, .val (.int (0 : Int32)), .val (.long (if (0 : Int32) < (lcmpW he w66) then w66 else he)), .second, .val (.long gj_52), .second, .val (.int gl_52), .unset, .unset, .unset, .unset]) rfl ?_
        show Steps p.tables e below (T79.setTop (mkF m 299 #[.val (.int u0), .val (.int u1), .val (.int u2), .val (.long u3), .second, .val (.int ln0), .val (.int w2), .val (.int w4), .val (.ref b5), .val (.ref b11), .val (.ref b18), .val (.ref b28), .val (.int gl_52), .val (.int ff), .val (.int gl_52), .val (.int gg), .val (.long gj_52), .second, .val (.int gl_52), .val (.long w66), .second, .val (.long he), .second, .val (.int (0 : Int32)), .val (.long (if (0 : Int32) < (lcmpW he w66) then w66 else he)), .second, .val (.long gj_52), .second, .val (.int gl_52), .unset, .unset, .unset, .unset] [])) tt
        refine XS.aload X79.here hx rfl (hb hby at_299) rfl rfl ?_
        exact kk
      obtain ⟨cq80, kq80, q80a, q80b, q80c⟩ := isOf hZ e79 f78
      obtain ⟨_, _, ⟨T80, L80, k80, n80⟩, -, X80, ⟨Lc80, hQ80, l80, y80, z80⟩, st80⟩ := X79.virtualBack hx (y := (⟨"com/example/pattern_automaton/patternautomaton/CharBlock", "from", "()I"⟩ : MethodName)) (z := (⟨"com/example/pattern_automaton/patternautomaton/CharBlock", "from", "()I"⟩ : MethodName)) hown (mvT hZ (hw _ (mw 152 rfl))) (mvT hZ (hw _ (mw 153 rfl))) (notFace_of_selects (args := #[]) (mvT hZ (hw _ (mw 155 rfl)))) (mvT hZ (hw _ (mw 155 rfl))) (mvT hZ (hw _ (mw 154 rfl))) (by decide) (backOf (W := 0) (rmfr l Z a0 hw [] b28 gg T75.heap n0 f76 P75_2) hZ (hw _ (mw 156 rfl)) (hw _ (mw 57 rfl)) (by decide) (by decide)) q80a q80c (g := (mkF m 301 #[.val (.int u0), .val (.int u1), .val (.int u2), .val (.long u3), .second, .val (.int ln0), .val (.int w2), .val (.int w4), .val (.ref b5), .val (.ref b11), .val (.ref b18), .val (.ref b28), .val (.int gl_52), .val (.int ff), .val (.int gl_52), .val (.int gg), .val (.long gj_52), .second, .val (.int gl_52), .val (.long w66), .second, .val (.long he), .second, .val (.int (0 : Int32)), .val (.long (if (0 : Int32) < (lcmpW he w66) then w66 else he)), .second, .val (.long gj_52), .second, .val (.int gl_52), .unset, .unset, .unset, .unset] [(.ref b28)])) rfl (by rw [hml]; rfl) (Steps.refl _) (argsL := []) (rest := []) (lenOf pd_7 rfl) rfl (by show 2 * 0 + _ ≤ _; exact Nat.le_of_eq rfl) (hb hby at_301) (fun _ _ => ⟨rfl, e79, (by decide : 6 + 0 ≤ _), (by decide : 29 + 0 ≤ _)⟩)
      dsimp only [Pt.U, Pt.locs, Pt.cells, Pt.slots] at X80 l80 y80 z80 st80 hQ80
      subst y80 z80
      obtain ⟨rfl, N80q, e80⟩ := hQ80
      have N80 := Fr.eqv l80 (Fr.app N79 N80q)
      refine Goal.tr (B := T80.setTop (mkF m 304 #[.val (.int u0), .val (.int u1), .val (.int u2), .val (.long u3), .second, .val (.int ln0), .val (.int w2), .val (.int w4), .val (.ref b5), .val (.ref b11), .val (.ref b18), .val (.ref b28), .val (.int gl_52), .val (.int ff), .val (.int gl_52), .val (.int gg), .val (.long gj_52), .second, .val (.int gl_52), .val (.long w66), .second, .val (.long he), .second, .val (.int (0 : Int32)), .val (.long (if (0 : Int32) < (lcmpW he w66) then w66 else he)), .second, .val (.long gj_52), .second, .val (.int gl_52), .unset, .unset, .unset, .unset] [(.int gg)])) st80 ?_
      refine Goal.to (B := T80.setTop (mkF m 384 #[.val (.int u0), .val (.int u1), .val (.int u2), .val (.long u3), .second, .val (.int ln0), .val (.int w2), .val (.int w4), .val (.ref b5), .val (.ref b11), .val (.ref b18), .val (.ref b28), .val (.int gl_52), .val (.int ff), .val (.int gl_52), .val (.int gg), .val (.long gj_52), .second, .val (.int gl_52), .val (.long w66), .second, .val (.long he), .second, .val (.int (0 : Int32)), .val (.long (if (0 : Int32) < (lcmpW he w66) then w66 else he)), .second, .val (.long gj_52), .second, .val (.int gl_52), .val (.int gg), .val (.int (1 : Int32)), .val (.int (1 : Int32)), .val (.int (1 : Int32))] [(.int (1 : Int32))])) (fun tt kk => ?_) ?_
      · show Steps p.tables e below (T80.setTop (mkF m 304 #[.val (.int u0), .val (.int u1), .val (.int u2), .val (.long u3), .second, .val (.int ln0), .val (.int w2), .val (.int w4), .val (.ref b5), .val (.ref b11), .val (.ref b18), .val (.ref b28), .val (.int gl_52), .val (.int ff), .val (.int gl_52), .val (.int gg), .val (.long gj_52), .second, .val (.int gl_52), .val (.long w66), .second, .val (.long he), .second, .val (.int (0 : Int32)), .val (.long (if (0 : Int32) < (lcmpW he w66) then w66 else he)), .second, .val (.long gj_52), .second, .val (.int gl_52), .unset, .unset, .unset, .unset] [(.int gg)])) tt
        refine XS.istore X80.here hx rfl (hb hby at_304) rfl (l' := #[.val (.int u0), .val (.int u1), .val (.int u2), .val (.long u3), .second, .val (.int ln0), .val (.int w2), .val (.int w4), .val (.ref b5), .val (.ref b11), .val (.ref b18), .val (.ref b28), .val (.int gl_52), .val (.int ff), .val (.int gl_52), .val (.int gg), .val (.long gj_52), .second, .val (.int gl_52), .val (.long w66), .second, .val (.long he), .second, .val (.int (0 : Int32)), .val (.long (if (0 : Int32) < (lcmpW he w66) then w66 else he)), .second, .val (.long gj_52), .second, .val (.int gl_52), .val (.int gg), .unset, .unset, .unset]) rfl ?_
        show Steps p.tables e below (T80.setTop (mkF m 306 #[.val (.int u0), .val (.int u1), .val (.int u2), .val (.long u3), .second, .val (.int ln0), .val (.int w2), .val (.int w4), .val (.ref b5), .val (.ref b11), .val (.ref b18), .val (.ref b28), .val (.int gl_52), .val (.int ff), .val (.int gl_52), .val (.int gg), .val (.long gj_52), .second, .val (.int gl_52), .val (.long w66), .second, .val (.long he), .second, .val (.int (0 : Int32)), .val (.long (if (0 : Int32) < (lcmpW he w66) then w66 else he)), .second, .val (.long gj_52), .second, .val (.int gl_52), .val (.int gg), .unset, .unset, .unset] [])) tt
        refine XS.lload X80.here hx rfl (hb hby at_306) rfl ?_
        show Steps p.tables e below (T80.setTop (mkF m 308 #[.val (.int u0), .val (.int u1), .val (.int u2), .val (.long u3), .second, .val (.int ln0), .val (.int w2), .val (.int w4), .val (.ref b5), .val (.ref b11), .val (.ref b18), .val (.ref b28), .val (.int gl_52), .val (.int ff), .val (.int gl_52), .val (.int gg), .val (.long gj_52), .second, .val (.int gl_52), .val (.long w66), .second, .val (.long he), .second, .val (.int (0 : Int32)), .val (.long (if (0 : Int32) < (lcmpW he w66) then w66 else he)), .second, .val (.long gj_52), .second, .val (.int gl_52), .val (.int gg), .unset, .unset, .unset] [(.long gj_52)])) tt
        refine XS.lload X80.here hx rfl (hb hby at_308) rfl ?_
        show Steps p.tables e below (T80.setTop (mkF m 310 #[.val (.int u0), .val (.int u1), .val (.int u2), .val (.long u3), .second, .val (.int ln0), .val (.int w2), .val (.int w4), .val (.ref b5), .val (.ref b11), .val (.ref b18), .val (.ref b28), .val (.int gl_52), .val (.int ff), .val (.int gl_52), .val (.int gg), .val (.long gj_52), .second, .val (.int gl_52), .val (.long w66), .second, .val (.long he), .second, .val (.int (0 : Int32)), .val (.long (if (0 : Int32) < (lcmpW he w66) then w66 else he)), .second, .val (.long gj_52), .second, .val (.int gl_52), .val (.int gg), .unset, .unset, .unset] [(.long gj_52), (.long gj_52)])) tt
        refine XS.lcmp X80.here hx rfl (hb hby at_310) rfl ?_
        show Steps p.tables e below (T80.setTop (mkF m 311 #[.val (.int u0), .val (.int u1), .val (.int u2), .val (.long u3), .second, .val (.int ln0), .val (.int w2), .val (.int w4), .val (.ref b5), .val (.ref b11), .val (.ref b18), .val (.ref b28), .val (.int gl_52), .val (.int ff), .val (.int gl_52), .val (.int gg), .val (.long gj_52), .second, .val (.int gl_52), .val (.long w66), .second, .val (.long he), .second, .val (.int (0 : Int32)), .val (.long (if (0 : Int32) < (lcmpW he w66) then w66 else he)), .second, .val (.long gj_52), .second, .val (.int gl_52), .val (.int gg), .unset, .unset, .unset] [(.int (lcmpW gj_52 gj_52))])) tt
        refine XS.ifNo X80.here hx rfl (hb hby at_311) rfl ((if0 _ _).trans (teq ((lw_eq _ _).mpr rfl : (lcmpW gj_52 gj_52) = (0 : Int32))).2) ?_
        show Steps p.tables e below (T80.setTop (mkF m 314 #[.val (.int u0), .val (.int u1), .val (.int u2), .val (.long u3), .second, .val (.int ln0), .val (.int w2), .val (.int w4), .val (.ref b5), .val (.ref b11), .val (.ref b18), .val (.ref b28), .val (.int gl_52), .val (.int ff), .val (.int gl_52), .val (.int gg), .val (.long gj_52), .second, .val (.int gl_52), .val (.long w66), .second, .val (.long he), .second, .val (.int (0 : Int32)), .val (.long (if (0 : Int32) < (lcmpW he w66) then w66 else he)), .second, .val (.long gj_52), .second, .val (.int gl_52), .val (.int gg), .unset, .unset, .unset] [])) tt
        refine XS.iconst X80.here hx rfl (hb hby at_314) ?_
        show Steps p.tables e below (T80.setTop (mkF m 315 #[.val (.int u0), .val (.int u1), .val (.int u2), .val (.long u3), .second, .val (.int ln0), .val (.int w2), .val (.int w4), .val (.ref b5), .val (.ref b11), .val (.ref b18), .val (.ref b28), .val (.int gl_52), .val (.int ff), .val (.int gl_52), .val (.int gg), .val (.long gj_52), .second, .val (.int gl_52), .val (.long w66), .second, .val (.long he), .second, .val (.int (0 : Int32)), .val (.long (if (0 : Int32) < (lcmpW he w66) then w66 else he)), .second, .val (.long gj_52), .second, .val (.int gl_52), .val (.int gg), .unset, .unset, .unset] [(.int (1 : Int32))])) tt
        refine XS.goto X80.here hx rfl (pc0 := 315) (pc' := 319) rfl (hb hby at_315) (by decide) (by decide) ?_
        show Steps p.tables e below (T80.setTop (mkF m 319 #[.val (.int u0), .val (.int u1), .val (.int u2), .val (.long u3), .second, .val (.int ln0), .val (.int w2), .val (.int w4), .val (.ref b5), .val (.ref b11), .val (.ref b18), .val (.ref b28), .val (.int gl_52), .val (.int ff), .val (.int gl_52), .val (.int gg), .val (.long gj_52), .second, .val (.int gl_52), .val (.long w66), .second, .val (.long he), .second, .val (.int (0 : Int32)), .val (.long (if (0 : Int32) < (lcmpW he w66) then w66 else he)), .second, .val (.long gj_52), .second, .val (.int gl_52), .val (.int gg), .unset, .unset, .unset] [(.int (1 : Int32))])) tt
        refine XS.istore X80.here hx rfl (hb hby at_319) rfl (l' := #[.val (.int u0), .val (.int u1), .val (.int u2), .val (.long u3), .second, .val (.int ln0), .val (.int w2), .val (.int w4), .val (.ref b5), .val (.ref b11), .val (.ref b18), .val (.ref b28), .val (.int gl_52), .val (.int ff), .val (.int gl_52), .val (.int gg), .val (.long gj_52), .second, .val (.int gl_52), .val (.long w66), .second, .val (.long he), .second, .val (.int (0 : Int32)), .val (.long (if (0 : Int32) < (lcmpW he w66) then w66 else he)), .second, .val (.long gj_52), .second, .val (.int gl_52), .val (.int gg), .val (.int (1 : Int32)), .unset, .unset]) rfl ?_
        show Steps p.tables e below (T80.setTop (mkF m 321 #[.val (.int u0), .val (.int u1), .val (.int u2), .val (.long u3), .second, .val (.int ln0), .val (.int w2), .val (.int w4), .val (.ref b5), .val (.ref b11), .val (.ref b18), .val (.ref b28), .val (.int gl_52), .val (.int ff), .val (.int gl_52), .val (.int gg), .val (.long gj_52), .second, .val (.int gl_52), .val (.long w66), .second, .val (.long he), .second, .val (.int (0 : Int32)), .val (.long (if (0 : Int32) < (lcmpW he w66) then w66 else he)), .second, .val (.long gj_52), .second, .val (.int gl_52), .val (.int gg), .val (.int (1 : Int32)), .unset, .unset] [])) tt
        refine XS.lload X80.here hx rfl (hb hby at_321) rfl ?_
        show Steps p.tables e below (T80.setTop (mkF m 323 #[.val (.int u0), .val (.int u1), .val (.int u2), .val (.long u3), .second, .val (.int ln0), .val (.int w2), .val (.int w4), .val (.ref b5), .val (.ref b11), .val (.ref b18), .val (.ref b28), .val (.int gl_52), .val (.int ff), .val (.int gl_52), .val (.int gg), .val (.long gj_52), .second, .val (.int gl_52), .val (.long w66), .second, .val (.long he), .second, .val (.int (0 : Int32)), .val (.long (if (0 : Int32) < (lcmpW he w66) then w66 else he)), .second, .val (.long gj_52), .second, .val (.int gl_52), .val (.int gg), .val (.int (1 : Int32)), .unset, .unset] [(.long gj_52)])) tt
        refine XS.iload X80.here hx rfl (hb hby at_323) rfl ?_
        show Steps p.tables e below (T80.setTop (mkF m 325 #[.val (.int u0), .val (.int u1), .val (.int u2), .val (.long u3), .second, .val (.int ln0), .val (.int w2), .val (.int w4), .val (.ref b5), .val (.ref b11), .val (.ref b18), .val (.ref b28), .val (.int gl_52), .val (.int ff), .val (.int gl_52), .val (.int gg), .val (.long gj_52), .second, .val (.int gl_52), .val (.long w66), .second, .val (.long he), .second, .val (.int (0 : Int32)), .val (.long (if (0 : Int32) < (lcmpW he w66) then w66 else he)), .second, .val (.long gj_52), .second, .val (.int gl_52), .val (.int gg), .val (.int (1 : Int32)), .unset, .unset] [(.int gl_52), (.long gj_52)])) tt
        refine XS.i2l X80.here hx rfl (hb hby at_325) rfl ?_
        show Steps p.tables e below (T80.setTop (mkF m 326 #[.val (.int u0), .val (.int u1), .val (.int u2), .val (.long u3), .second, .val (.int ln0), .val (.int w2), .val (.int w4), .val (.ref b5), .val (.ref b11), .val (.ref b18), .val (.ref b28), .val (.int gl_52), .val (.int ff), .val (.int gl_52), .val (.int gg), .val (.long gj_52), .second, .val (.int gl_52), .val (.long w66), .second, .val (.long he), .second, .val (.int (0 : Int32)), .val (.long (if (0 : Int32) < (lcmpW he w66) then w66 else he)), .second, .val (.long gj_52), .second, .val (.int gl_52), .val (.int gg), .val (.int (1 : Int32)), .unset, .unset] [(.long (gl_52.toInt64)), (.long gj_52)])) tt
        refine XS.ladd X80.here hx rfl (hb hby at_326) rfl ?_
        show Steps p.tables e below (T80.setTop (mkF m 327 #[.val (.int u0), .val (.int u1), .val (.int u2), .val (.long u3), .second, .val (.int ln0), .val (.int w2), .val (.int w4), .val (.ref b5), .val (.ref b11), .val (.ref b18), .val (.ref b28), .val (.int gl_52), .val (.int ff), .val (.int gl_52), .val (.int gg), .val (.long gj_52), .second, .val (.int gl_52), .val (.long w66), .second, .val (.long he), .second, .val (.int (0 : Int32)), .val (.long (if (0 : Int32) < (lcmpW he w66) then w66 else he)), .second, .val (.long gj_52), .second, .val (.int gl_52), .val (.int gg), .val (.int (1 : Int32)), .unset, .unset] [(.long (gj_52 + (gl_52.toInt64)))])) tt
        refine XS.lload X80.here hx rfl (hb hby at_327) rfl ?_
        show Steps p.tables e below (T80.setTop (mkF m 329 #[.val (.int u0), .val (.int u1), .val (.int u2), .val (.long u3), .second, .val (.int ln0), .val (.int w2), .val (.int w4), .val (.ref b5), .val (.ref b11), .val (.ref b18), .val (.ref b28), .val (.int gl_52), .val (.int ff), .val (.int gl_52), .val (.int gg), .val (.long gj_52), .second, .val (.int gl_52), .val (.long w66), .second, .val (.long he), .second, .val (.int (0 : Int32)), .val (.long (if (0 : Int32) < (lcmpW he w66) then w66 else he)), .second, .val (.long gj_52), .second, .val (.int gl_52), .val (.int gg), .val (.int (1 : Int32)), .unset, .unset] [(.long (if (0 : Int32) < (lcmpW he w66) then w66 else he)), (.long (gj_52 + (gl_52.toInt64)))])) tt
        refine XS.lcmp X80.here hx rfl (hb hby at_329) rfl ?_
        show Steps p.tables e below (T80.setTop (mkF m 330 #[.val (.int u0), .val (.int u1), .val (.int u2), .val (.long u3), .second, .val (.int ln0), .val (.int w2), .val (.int w4), .val (.ref b5), .val (.ref b11), .val (.ref b18), .val (.ref b28), .val (.int gl_52), .val (.int ff), .val (.int gl_52), .val (.int gg), .val (.long gj_52), .second, .val (.int gl_52), .val (.long w66), .second, .val (.long he), .second, .val (.int (0 : Int32)), .val (.long (if (0 : Int32) < (lcmpW he w66) then w66 else he)), .second, .val (.long gj_52), .second, .val (.int gl_52), .val (.int gg), .val (.int (1 : Int32)), .unset, .unset] [(.int (lcmpW (gj_52 + (gl_52.toInt64)) (if (0 : Int32) < (lcmpW he w66) then w66 else he)))])) tt
        refine XS.ifNo X80.here hx rfl (hb hby at_330) rfl ((if0 _ _).trans (teq ((lw_eq _ _).mpr (by rw [if_neg (fun q => by have r := (lw_gt _ _).mp q; rw [hhe] at r; exact hcut' r)]; exact hhe.symm) : (lcmpW (gj_52 + (gl_52.toInt64)) (if (0 : Int32) < (lcmpW he w66) then w66 else he)) = (0 : Int32))).2) ?_
        show Steps p.tables e below (T80.setTop (mkF m 333 #[.val (.int u0), .val (.int u1), .val (.int u2), .val (.long u3), .second, .val (.int ln0), .val (.int w2), .val (.int w4), .val (.ref b5), .val (.ref b11), .val (.ref b18), .val (.ref b28), .val (.int gl_52), .val (.int ff), .val (.int gl_52), .val (.int gg), .val (.long gj_52), .second, .val (.int gl_52), .val (.long w66), .second, .val (.long he), .second, .val (.int (0 : Int32)), .val (.long (if (0 : Int32) < (lcmpW he w66) then w66 else he)), .second, .val (.long gj_52), .second, .val (.int gl_52), .val (.int gg), .val (.int (1 : Int32)), .unset, .unset] [])) tt
        refine XS.iconst X80.here hx rfl (hb hby at_333) ?_
        show Steps p.tables e below (T80.setTop (mkF m 334 #[.val (.int u0), .val (.int u1), .val (.int u2), .val (.long u3), .second, .val (.int ln0), .val (.int w2), .val (.int w4), .val (.ref b5), .val (.ref b11), .val (.ref b18), .val (.ref b28), .val (.int gl_52), .val (.int ff), .val (.int gl_52), .val (.int gg), .val (.long gj_52), .second, .val (.int gl_52), .val (.long w66), .second, .val (.long he), .second, .val (.int (0 : Int32)), .val (.long (if (0 : Int32) < (lcmpW he w66) then w66 else he)), .second, .val (.long gj_52), .second, .val (.int gl_52), .val (.int gg), .val (.int (1 : Int32)), .unset, .unset] [(.int (1 : Int32))])) tt
        refine XS.goto X80.here hx rfl (pc0 := 334) (pc' := 338) rfl (hb hby at_334) (by decide) (by decide) ?_
        show Steps p.tables e below (T80.setTop (mkF m 338 #[.val (.int u0), .val (.int u1), .val (.int u2), .val (.long u3), .second, .val (.int ln0), .val (.int w2), .val (.int w4), .val (.ref b5), .val (.ref b11), .val (.ref b18), .val (.ref b28), .val (.int gl_52), .val (.int ff), .val (.int gl_52), .val (.int gg), .val (.long gj_52), .second, .val (.int gl_52), .val (.long w66), .second, .val (.long he), .second, .val (.int (0 : Int32)), .val (.long (if (0 : Int32) < (lcmpW he w66) then w66 else he)), .second, .val (.long gj_52), .second, .val (.int gl_52), .val (.int gg), .val (.int (1 : Int32)), .unset, .unset] [(.int (1 : Int32))])) tt
        refine XS.istore X80.here hx rfl (hb hby at_338) rfl (l' := #[.val (.int u0), .val (.int u1), .val (.int u2), .val (.long u3), .second, .val (.int ln0), .val (.int w2), .val (.int w4), .val (.ref b5), .val (.ref b11), .val (.ref b18), .val (.ref b28), .val (.int gl_52), .val (.int ff), .val (.int gl_52), .val (.int gg), .val (.long gj_52), .second, .val (.int gl_52), .val (.long w66), .second, .val (.long he), .second, .val (.int (0 : Int32)), .val (.long (if (0 : Int32) < (lcmpW he w66) then w66 else he)), .second, .val (.long gj_52), .second, .val (.int gl_52), .val (.int gg), .val (.int (1 : Int32)), .val (.int (1 : Int32)), .unset]) rfl ?_
        show Steps p.tables e below (T80.setTop (mkF m 340 #[.val (.int u0), .val (.int u1), .val (.int u2), .val (.long u3), .second, .val (.int ln0), .val (.int w2), .val (.int w4), .val (.ref b5), .val (.ref b11), .val (.ref b18), .val (.ref b28), .val (.int gl_52), .val (.int ff), .val (.int gl_52), .val (.int gg), .val (.long gj_52), .second, .val (.int gl_52), .val (.long w66), .second, .val (.long he), .second, .val (.int (0 : Int32)), .val (.long (if (0 : Int32) < (lcmpW he w66) then w66 else he)), .second, .val (.long gj_52), .second, .val (.int gl_52), .val (.int gg), .val (.int (1 : Int32)), .val (.int (1 : Int32)), .unset] [])) tt
        refine XS.iload X80.here hx rfl (hb hby at_340) rfl ?_
        show Steps p.tables e below (T80.setTop (mkF m 342 #[.val (.int u0), .val (.int u1), .val (.int u2), .val (.long u3), .second, .val (.int ln0), .val (.int w2), .val (.int w4), .val (.ref b5), .val (.ref b11), .val (.ref b18), .val (.ref b28), .val (.int gl_52), .val (.int ff), .val (.int gl_52), .val (.int gg), .val (.long gj_52), .second, .val (.int gl_52), .val (.long w66), .second, .val (.long he), .second, .val (.int (0 : Int32)), .val (.long (if (0 : Int32) < (lcmpW he w66) then w66 else he)), .second, .val (.long gj_52), .second, .val (.int gl_52), .val (.int gg), .val (.int (1 : Int32)), .val (.int (1 : Int32)), .unset] [(.int gg)])) tt
        refine XS.iload X80.here hx rfl (hb hby at_342) rfl ?_
        show Steps p.tables e below (T80.setTop (mkF m 344 #[.val (.int u0), .val (.int u1), .val (.int u2), .val (.long u3), .second, .val (.int ln0), .val (.int w2), .val (.int w4), .val (.ref b5), .val (.ref b11), .val (.ref b18), .val (.ref b28), .val (.int gl_52), .val (.int ff), .val (.int gl_52), .val (.int gg), .val (.long gj_52), .second, .val (.int gl_52), .val (.long w66), .second, .val (.long he), .second, .val (.int (0 : Int32)), .val (.long (if (0 : Int32) < (lcmpW he w66) then w66 else he)), .second, .val (.long gj_52), .second, .val (.int gl_52), .val (.int gg), .val (.int (1 : Int32)), .val (.int (1 : Int32)), .unset] [(.int (0 : Int32)), (.int gg)])) tt
        refine XS.ifYes X80.here hx rfl (pc0 := 344) (pc' := 352) rfl (hb hby at_344) rfl ((if0 _ _).trans (teq (rfl : (0 : Int32) = (0 : Int32))).1) (by decide) (by decide) ?_
        show Steps p.tables e below (T80.setTop (mkF m 352 #[.val (.int u0), .val (.int u1), .val (.int u2), .val (.long u3), .second, .val (.int ln0), .val (.int w2), .val (.int w4), .val (.ref b5), .val (.ref b11), .val (.ref b18), .val (.ref b28), .val (.int gl_52), .val (.int ff), .val (.int gl_52), .val (.int gg), .val (.long gj_52), .second, .val (.int gl_52), .val (.long w66), .second, .val (.long he), .second, .val (.int (0 : Int32)), .val (.long (if (0 : Int32) < (lcmpW he w66) then w66 else he)), .second, .val (.long gj_52), .second, .val (.int gl_52), .val (.int gg), .val (.int (1 : Int32)), .val (.int (1 : Int32)), .unset] [(.int gg)])) tt
        refine XS.iload X80.here hx rfl (hb hby at_352) rfl ?_
        show Steps p.tables e below (T80.setTop (mkF m 354 #[.val (.int u0), .val (.int u1), .val (.int u2), .val (.long u3), .second, .val (.int ln0), .val (.int w2), .val (.int w4), .val (.ref b5), .val (.ref b11), .val (.ref b18), .val (.ref b28), .val (.int gl_52), .val (.int ff), .val (.int gl_52), .val (.int gg), .val (.long gj_52), .second, .val (.int gl_52), .val (.long w66), .second, .val (.long he), .second, .val (.int (0 : Int32)), .val (.long (if (0 : Int32) < (lcmpW he w66) then w66 else he)), .second, .val (.long gj_52), .second, .val (.int gl_52), .val (.int gg), .val (.int (1 : Int32)), .val (.int (1 : Int32)), .unset] [(.int gg), (.int gg)])) tt
        refine XS.icmpNo X80.here hx rfl (hb hby at_354) rfl (teq (rfl : gg = gg)).2 ?_
        show Steps p.tables e below (T80.setTop (mkF m 357 #[.val (.int u0), .val (.int u1), .val (.int u2), .val (.long u3), .second, .val (.int ln0), .val (.int w2), .val (.int w4), .val (.ref b5), .val (.ref b11), .val (.ref b18), .val (.ref b28), .val (.int gl_52), .val (.int ff), .val (.int gl_52), .val (.int gg), .val (.long gj_52), .second, .val (.int gl_52), .val (.long w66), .second, .val (.long he), .second, .val (.int (0 : Int32)), .val (.long (if (0 : Int32) < (lcmpW he w66) then w66 else he)), .second, .val (.long gj_52), .second, .val (.int gl_52), .val (.int gg), .val (.int (1 : Int32)), .val (.int (1 : Int32)), .unset] [])) tt
        refine XS.iconst X80.here hx rfl (hb hby at_357) ?_
        show Steps p.tables e below (T80.setTop (mkF m 358 #[.val (.int u0), .val (.int u1), .val (.int u2), .val (.long u3), .second, .val (.int ln0), .val (.int w2), .val (.int w4), .val (.ref b5), .val (.ref b11), .val (.ref b18), .val (.ref b28), .val (.int gl_52), .val (.int ff), .val (.int gl_52), .val (.int gg), .val (.long gj_52), .second, .val (.int gl_52), .val (.long w66), .second, .val (.long he), .second, .val (.int (0 : Int32)), .val (.long (if (0 : Int32) < (lcmpW he w66) then w66 else he)), .second, .val (.long gj_52), .second, .val (.int gl_52), .val (.int gg), .val (.int (1 : Int32)), .val (.int (1 : Int32)), .unset] [(.int (1 : Int32))])) tt
        refine XS.goto X80.here hx rfl (pc0 := 358) (pc' := 362) rfl (hb hby at_358) (by decide) (by decide) ?_
        show Steps p.tables e below (T80.setTop (mkF m 362 #[.val (.int u0), .val (.int u1), .val (.int u2), .val (.long u3), .second, .val (.int ln0), .val (.int w2), .val (.int w4), .val (.ref b5), .val (.ref b11), .val (.ref b18), .val (.ref b28), .val (.int gl_52), .val (.int ff), .val (.int gl_52), .val (.int gg), .val (.long gj_52), .second, .val (.int gl_52), .val (.long w66), .second, .val (.long he), .second, .val (.int (0 : Int32)), .val (.long (if (0 : Int32) < (lcmpW he w66) then w66 else he)), .second, .val (.long gj_52), .second, .val (.int gl_52), .val (.int gg), .val (.int (1 : Int32)), .val (.int (1 : Int32)), .unset] [(.int (1 : Int32))])) tt
        refine XS.istore X80.here hx rfl (hb hby at_362) rfl (l' := #[.val (.int u0), .val (.int u1), .val (.int u2), .val (.long u3), .second, .val (.int ln0), .val (.int w2), .val (.int w4), .val (.ref b5), .val (.ref b11), .val (.ref b18), .val (.ref b28), .val (.int gl_52), .val (.int ff), .val (.int gl_52), .val (.int gg), .val (.long gj_52), .second, .val (.int gl_52), .val (.long w66), .second, .val (.long he), .second, .val (.int (0 : Int32)), .val (.long (if (0 : Int32) < (lcmpW he w66) then w66 else he)), .second, .val (.long gj_52), .second, .val (.int gl_52), .val (.int gg), .val (.int (1 : Int32)), .val (.int (1 : Int32)), .val (.int (1 : Int32))]) rfl ?_
        show Steps p.tables e below (T80.setTop (mkF m 364 #[.val (.int u0), .val (.int u1), .val (.int u2), .val (.long u3), .second, .val (.int ln0), .val (.int w2), .val (.int w4), .val (.ref b5), .val (.ref b11), .val (.ref b18), .val (.ref b28), .val (.int gl_52), .val (.int ff), .val (.int gl_52), .val (.int gg), .val (.long gj_52), .second, .val (.int gl_52), .val (.long w66), .second, .val (.long he), .second, .val (.int (0 : Int32)), .val (.long (if (0 : Int32) < (lcmpW he w66) then w66 else he)), .second, .val (.long gj_52), .second, .val (.int gl_52), .val (.int gg), .val (.int (1 : Int32)), .val (.int (1 : Int32)), .val (.int (1 : Int32))] [])) tt
        refine XS.iload X80.here hx rfl (hb hby at_364) rfl ?_
        show Steps p.tables e below (T80.setTop (mkF m 366 #[.val (.int u0), .val (.int u1), .val (.int u2), .val (.long u3), .second, .val (.int ln0), .val (.int w2), .val (.int w4), .val (.ref b5), .val (.ref b11), .val (.ref b18), .val (.ref b28), .val (.int gl_52), .val (.int ff), .val (.int gl_52), .val (.int gg), .val (.long gj_52), .second, .val (.int gl_52), .val (.long w66), .second, .val (.long he), .second, .val (.int (0 : Int32)), .val (.long (if (0 : Int32) < (lcmpW he w66) then w66 else he)), .second, .val (.long gj_52), .second, .val (.int gl_52), .val (.int gg), .val (.int (1 : Int32)), .val (.int (1 : Int32)), .val (.int (1 : Int32))] [(.int (1 : Int32))])) tt
        refine XS.ifNo X80.here hx rfl (hb hby at_366) rfl ((if0 _ _).trans (feq ((by decide) : ¬ ((1 : Int32) = (0 : Int32)))).1) ?_
        show Steps p.tables e below (T80.setTop (mkF m 369 #[.val (.int u0), .val (.int u1), .val (.int u2), .val (.long u3), .second, .val (.int ln0), .val (.int w2), .val (.int w4), .val (.ref b5), .val (.ref b11), .val (.ref b18), .val (.ref b28), .val (.int gl_52), .val (.int ff), .val (.int gl_52), .val (.int gg), .val (.long gj_52), .second, .val (.int gl_52), .val (.long w66), .second, .val (.long he), .second, .val (.int (0 : Int32)), .val (.long (if (0 : Int32) < (lcmpW he w66) then w66 else he)), .second, .val (.long gj_52), .second, .val (.int gl_52), .val (.int gg), .val (.int (1 : Int32)), .val (.int (1 : Int32)), .val (.int (1 : Int32))] [])) tt
        refine XS.iload X80.here hx rfl (hb hby at_369) rfl ?_
        show Steps p.tables e below (T80.setTop (mkF m 371 #[.val (.int u0), .val (.int u1), .val (.int u2), .val (.long u3), .second, .val (.int ln0), .val (.int w2), .val (.int w4), .val (.ref b5), .val (.ref b11), .val (.ref b18), .val (.ref b28), .val (.int gl_52), .val (.int ff), .val (.int gl_52), .val (.int gg), .val (.long gj_52), .second, .val (.int gl_52), .val (.long w66), .second, .val (.long he), .second, .val (.int (0 : Int32)), .val (.long (if (0 : Int32) < (lcmpW he w66) then w66 else he)), .second, .val (.long gj_52), .second, .val (.int gl_52), .val (.int gg), .val (.int (1 : Int32)), .val (.int (1 : Int32)), .val (.int (1 : Int32))] [(.int (1 : Int32))])) tt
        refine XS.ifNo X80.here hx rfl (hb hby at_371) rfl ((if0 _ _).trans (feq ((by decide) : ¬ ((1 : Int32) = (0 : Int32)))).1) ?_
        show Steps p.tables e below (T80.setTop (mkF m 374 #[.val (.int u0), .val (.int u1), .val (.int u2), .val (.long u3), .second, .val (.int ln0), .val (.int w2), .val (.int w4), .val (.ref b5), .val (.ref b11), .val (.ref b18), .val (.ref b28), .val (.int gl_52), .val (.int ff), .val (.int gl_52), .val (.int gg), .val (.long gj_52), .second, .val (.int gl_52), .val (.long w66), .second, .val (.long he), .second, .val (.int (0 : Int32)), .val (.long (if (0 : Int32) < (lcmpW he w66) then w66 else he)), .second, .val (.long gj_52), .second, .val (.int gl_52), .val (.int gg), .val (.int (1 : Int32)), .val (.int (1 : Int32)), .val (.int (1 : Int32))] [])) tt
        refine XS.iload X80.here hx rfl (hb hby at_374) rfl ?_
        show Steps p.tables e below (T80.setTop (mkF m 376 #[.val (.int u0), .val (.int u1), .val (.int u2), .val (.long u3), .second, .val (.int ln0), .val (.int w2), .val (.int w4), .val (.ref b5), .val (.ref b11), .val (.ref b18), .val (.ref b28), .val (.int gl_52), .val (.int ff), .val (.int gl_52), .val (.int gg), .val (.long gj_52), .second, .val (.int gl_52), .val (.long w66), .second, .val (.long he), .second, .val (.int (0 : Int32)), .val (.long (if (0 : Int32) < (lcmpW he w66) then w66 else he)), .second, .val (.long gj_52), .second, .val (.int gl_52), .val (.int gg), .val (.int (1 : Int32)), .val (.int (1 : Int32)), .val (.int (1 : Int32))] [(.int (1 : Int32))])) tt
        refine XS.ifNo X80.here hx rfl (hb hby at_376) rfl ((if0 _ _).trans (feq ((by decide) : ¬ ((1 : Int32) = (0 : Int32)))).1) ?_
        show Steps p.tables e below (T80.setTop (mkF m 379 #[.val (.int u0), .val (.int u1), .val (.int u2), .val (.long u3), .second, .val (.int ln0), .val (.int w2), .val (.int w4), .val (.ref b5), .val (.ref b11), .val (.ref b18), .val (.ref b28), .val (.int gl_52), .val (.int ff), .val (.int gl_52), .val (.int gg), .val (.long gj_52), .second, .val (.int gl_52), .val (.long w66), .second, .val (.long he), .second, .val (.int (0 : Int32)), .val (.long (if (0 : Int32) < (lcmpW he w66) then w66 else he)), .second, .val (.long gj_52), .second, .val (.int gl_52), .val (.int gg), .val (.int (1 : Int32)), .val (.int (1 : Int32)), .val (.int (1 : Int32))] [])) tt
        refine XS.iconst X80.here hx rfl (hb hby at_379) ?_
        show Steps p.tables e below (T80.setTop (mkF m 380 #[.val (.int u0), .val (.int u1), .val (.int u2), .val (.long u3), .second, .val (.int ln0), .val (.int w2), .val (.int w4), .val (.ref b5), .val (.ref b11), .val (.ref b18), .val (.ref b28), .val (.int gl_52), .val (.int ff), .val (.int gl_52), .val (.int gg), .val (.long gj_52), .second, .val (.int gl_52), .val (.long w66), .second, .val (.long he), .second, .val (.int (0 : Int32)), .val (.long (if (0 : Int32) < (lcmpW he w66) then w66 else he)), .second, .val (.long gj_52), .second, .val (.int gl_52), .val (.int gg), .val (.int (1 : Int32)), .val (.int (1 : Int32)), .val (.int (1 : Int32))] [(.int (1 : Int32))])) tt
        refine XS.goto X80.here hx rfl (pc0 := 380) (pc' := 384) rfl (hb hby at_380) (by decide) (by decide) ?_
        exact kk
      exact Goal.retV X80 hx Bd.returns rfl (Or.inl ⟨rfl, Or.inr (Or.inl rfl), _, rfl⟩) (hb hby at_384) hlk e80 ⟨rfl, N80⟩ (by decide) (by decide)
  · refine Goal.to (B := T56.setTop (mkF m 179 #[.val (.int u0), .val (.int u1), .val (.int u2), .val (.long u3), .second, .val (.int ln0), .val (.int w2), .val (.int w4), .val (.ref b5), .val (.ref b11), .val (.ref b18), .val (.ref b28), .val (.int gl_52), .val (.int ff), .unset, .unset, .unset, .unset, .unset, .unset, .unset, .unset, .unset, .unset, .unset, .unset, .unset, .unset, .unset, .unset, .unset, .unset, .unset] [(.ref b18), (.ref b28)])) (fun tt kk => ?_) ?_
    · show Steps p.tables e below (T56.setTop (mkF m 172 #[.val (.int u0), .val (.int u1), .val (.int u2), .val (.long u3), .second, .val (.int ln0), .val (.int w2), .val (.int w4), .val (.ref b5), .val (.ref b11), .val (.ref b18), .val (.ref b28), .val (.int gl_52), .val (.int ff), .unset, .unset, .unset, .unset, .unset, .unset, .unset, .unset, .unset, .unset, .unset, .unset, .unset, .unset, .unset, .unset, .unset, .unset, .unset] [(.int w2)])) tt
      refine XS.ifNo X56.here hx rfl (hb hby at_172) rfl ((if0 _ _).trans (feq hsec).1) ?_
      show Steps p.tables e below (T56.setTop (mkF m 175 #[.val (.int u0), .val (.int u1), .val (.int u2), .val (.long u3), .second, .val (.int ln0), .val (.int w2), .val (.int w4), .val (.ref b5), .val (.ref b11), .val (.ref b18), .val (.ref b28), .val (.int gl_52), .val (.int ff), .unset, .unset, .unset, .unset, .unset, .unset, .unset, .unset, .unset, .unset, .unset, .unset, .unset, .unset, .unset, .unset, .unset, .unset, .unset] [])) tt
      refine XS.aload X56.here hx rfl (hb hby at_175) rfl rfl ?_
      show Steps p.tables e below (T56.setTop (mkF m 177 #[.val (.int u0), .val (.int u1), .val (.int u2), .val (.long u3), .second, .val (.int ln0), .val (.int w2), .val (.int w4), .val (.ref b5), .val (.ref b11), .val (.ref b18), .val (.ref b28), .val (.int gl_52), .val (.int ff), .unset, .unset, .unset, .unset, .unset, .unset, .unset, .unset, .unset, .unset, .unset, .unset, .unset, .unset, .unset, .unset, .unset, .unset, .unset] [(.ref b28)])) tt
      refine XS.aload X56.here hx rfl (hb hby at_177) rfl rfl ?_
      exact kk
    have f81 : Exa Z T56.heap b18 "com/example/pattern_automaton/patternautomaton/CharBlock$TextSource" := ((f40.keep K52).keep K56)
    have f82 : Exa Z T56.heap b28 "com/example/pattern_automaton/patternautomaton/CharBlock" := (f55.keep K56)
    have f83 : Fld Z T56.heap b18 "com/example/pattern_automaton/patternautomaton/CharBlock$TextSource" "text" "Ljava/lang/CharSequence;" (.ref b11) := (P52_0.keep K56 (ninS ne_b18_b28 nin0))
    have f84 : Fld Z T56.heap b18 "com/example/pattern_automaton/patternautomaton/CharBlock$TextSource" "length" "I" (.int (5 : Int32)) := (P52_1.keep K56 (ninS ne_b18_b28 nin0))
    have f85 : Fld Z T56.heap b18 "com/example/pattern_automaton/patternautomaton/CharBlock$TextSource" "next" "I" (.int nn_52) := (P52_2.keep K56 (ninS ne_b18_b28 nin0))
    have f86 : Exa Z T56.heap b11 "java/lang/String" := ((f45.keep K52).keep K56)
    have f87 : Fld Z T56.heap b11 "java/lang/String" "value" "[B" (.ref t14) := ((f46.keep K52 (ninS ne_b11_vc_35 (ninS ne_b11_b18 (ninS ne_b11_b28 nin0)))).keep K56 (ninS ne_b11_b28 nin0))
    have f88 : Fld Z T56.heap b11 "java/lang/String" "coder" "B" (.int (0 : Int32)) := ((f47.keep K52 (ninS ne_b11_vc_35 (ninS ne_b11_b18 (ninS ne_b11_b28 nin0)))).keep K56 (ninS ne_b11_b28 nin0))
    have f89 : Ary Z T56.heap t14 .byte [(.int (((nar .char ((u2 &&& (255 : Int32)).toUInt32.toUInt16.toUInt32.toInt32))).toInt8.toInt32)), (.int (((nar .char ((((u2.toUInt32 >>> ((8 : Int32) &&& 31).toUInt32).toInt32) &&& (255 : Int32)).toUInt32.toUInt16.toUInt32.toInt32))).toInt8.toInt32)), (.int (((nar .char ((((u2.toUInt32 >>> ((16 : Int32) &&& 31).toUInt32).toInt32) &&& (255 : Int32)).toUInt32.toUInt16.toUInt32.toInt32))).toInt8.toInt32)), (.int (((nar .char ((((u2.toUInt32 >>> ((24 : Int32) &&& 31).toUInt32).toInt32) &&& (255 : Int32)).toUInt32.toUInt16.toUInt32.toInt32))).toInt8.toInt32)), (.int (((nar .char ((((u2.toUInt32 >>> ((4 : Int32) &&& 31).toUInt32).toInt32) &&& (255 : Int32)).toUInt32.toUInt16.toUInt32.toInt32))).toInt8.toInt32))] := ((f48.keep K52 (ninS ne_t14_vc_35 (ninS ne_t14_b18 (ninS ne_t14_b28 nin0)))).keep K56 (ninS ne_t14_b28 nin0))
    have f90 : StaN Z n0 T56.heap "java/lang/String" "COMPACT_STRINGS" "Z" (.int zc) := ((f49.keep K52 (allS g_vc_35 (allS g_b18 (allS g_b28 all0)))).keep K56 (allS g_b28 all0))
    have f91 : StaN Z n0 T56.heap "jdk/internal/util/Preconditions" "SIOOBE_FORMATTER" "Ljava/util/function/BiFunction;" fm := ((f50.keep K52 (allS g_vc_35 (allS g_b18 (allS g_b28 all0)))).keep K56 (allS g_b28 all0))
    have f92 : Ary Z T56.heap vc_35 .char ys_52 := (P52_7.keep K56 (ninS (Ne.symm ne_b28_vc_35) nin0))
    have f93 : n0 ≤ T56.heap.size := (Nat.le_trans f53 K56.1)
    obtain ⟨cq94, kq94, q94a, q94b, q94c⟩ := isOf hZ rfl f82
    obtain ⟨_, _, ⟨T94, L94, k94, n94⟩, -, X94, ⟨Lc94, hQ94, l94, y94, z94⟩, st94⟩ := X56.virtualBack hx (y := (⟨"com/example/pattern_automaton/patternautomaton/CharBlock", "fill", "(Lcom/example/pattern_automaton/patternautomaton/CharBlock$Source;)I"⟩ : MethodName)) (z := (⟨"com/example/pattern_automaton/patternautomaton/CharBlock", "fill", "(Lcom/example/pattern_automaton/patternautomaton/CharBlock$Source;)I"⟩ : MethodName)) hown (mvT hZ (hw _ (mw 64 rfl))) (mvT hZ (hw _ (mw 65 rfl))) (notFace_of_selects (args := #[]) (mvT hZ (hw _ (mw 67 rfl)))) (mvT hZ (hw _ (mw 67 rfl))) (mvT hZ (hw _ (mw 66 rfl))) (by decide) (backOf (W := 0) (rmfi l Z a0 hw [] b11 t14 vc_35 zc fm (((nar .char ((u2 &&& (255 : Int32)).toUInt32.toUInt16.toUInt32.toInt32))).toInt8.toInt32) (((nar .char ((((u2.toUInt32 >>> ((8 : Int32) &&& 31).toUInt32).toInt32) &&& (255 : Int32)).toUInt32.toUInt16.toUInt32.toInt32))).toInt8.toInt32) (((nar .char ((((u2.toUInt32 >>> ((16 : Int32) &&& 31).toUInt32).toInt32) &&& (255 : Int32)).toUInt32.toUInt16.toUInt32.toInt32))).toInt8.toInt32) (((nar .char ((((u2.toUInt32 >>> ((24 : Int32) &&& 31).toUInt32).toInt32) &&& (255 : Int32)).toUInt32.toUInt16.toUInt32.toInt32))).toInt8.toInt32) (((nar .char ((((u2.toUInt32 >>> ((4 : Int32) &&& 31).toUInt32).toInt32) &&& (255 : Int32)).toUInt32.toUInt16.toUInt32.toInt32))).toInt8.toInt32) ys_52 b18 b28 nn_52 gl_52 ff gj_52 T56.heap n0 f93 f81 f82 P56_0 P56_1 P56_2 P56_3 f83 f84 f85 f86 f87 f88 f89 f90 f91 f92 g_vc_35 g_b18 g_b28 ne_t14_vc_35 ne_b11_vc_35 ne_b18_vc_35 (Ne.symm ne_t14_b18) (Ne.symm ne_b11_b18) ne_b28_vc_35 (Ne.symm ne_t14_b28) (Ne.symm ne_b11_b28) (Ne.symm ne_b18_b28) hCS pfm q0_52 q1_52 q2_52 q3_52 hff.1 hff.2 q6_52 q7_52 q8_52 (by have := q9_52; simp at this; omega)) hZ (hw _ (mw 68 rfl)) (hw _ (mw 57 rfl)) (by decide) (by decide)) q94a q94c (g := (mkF m 179 #[.val (.int u0), .val (.int u1), .val (.int u2), .val (.long u3), .second, .val (.int ln0), .val (.int w2), .val (.int w4), .val (.ref b5), .val (.ref b11), .val (.ref b18), .val (.ref b28), .val (.int gl_52), .val (.int ff), .unset, .unset, .unset, .unset, .unset, .unset, .unset, .unset, .unset, .unset, .unset, .unset, .unset, .unset, .unset, .unset, .unset, .unset, .unset] [(.ref b18), (.ref b28)])) rfl (by rw [hml]; rfl) (Steps.refl _) (argsL := [(.ref b18)]) (rest := []) (lenOf pd_10 rfl) rfl (by show 2 * 0 + _ ≤ _; exact Nat.le_of_eq rfl) (hb hby at_179) (fun _ _ => ⟨rfl, rfl, (by decide : 6 + 0 ≤ _), (by decide : 29 + 0 ≤ _)⟩)
    dsimp only [Pt.U, Pt.locs, Pt.cells, Pt.slots] at X94 l94 y94 z94 st94 hQ94
    subst y94 z94
    obtain ⟨ys_94, nn_94, gl_94, gr_94, gj_94, rr_94, rfl, N94q, K94, P94_0, P94_1, P94_2, P94_3, P94_4, P94_5, P94_6, P94_7, q0_94, q1_94, q2_94, q3_94, q4_94, q5_94, q6_94, q7_94, q8_94, q9_94, qa_94⟩ := hQ94
    have N94 := Fr.eqv l94 (Fr.app N56 N94q)
    refine Goal.tr (B := T94.setTop (mkF m 182 #[.val (.int u0), .val (.int u1), .val (.int u2), .val (.long u3), .second, .val (.int ln0), .val (.int w2), .val (.int w4), .val (.ref b5), .val (.ref b11), .val (.ref b18), .val (.ref b28), .val (.int gl_52), .val (.int ff), .unset, .unset, .unset, .unset, .unset, .unset, .unset, .unset, .unset, .unset, .unset, .unset, .unset, .unset, .unset, .unset, .unset, .unset, .unset] [(.int rr_94)])) st94 ?_
    refine Goal.to (B := T94.setTop (mkF m 185 #[.val (.int u0), .val (.int u1), .val (.int u2), .val (.long u3), .second, .val (.int ln0), .val (.int w2), .val (.int w4), .val (.ref b5), .val (.ref b11), .val (.ref b18), .val (.ref b28), .val (.int gl_52), .val (.int ff), .unset, .unset, .unset, .unset, .unset, .unset, .unset, .unset, .unset, .unset, .unset, .unset, .unset, .unset, .unset, .unset, .unset, .unset, .unset] [(.ref b28)])) (fun tt kk => ?_) ?_
    · show Steps p.tables e below (T94.setTop (mkF m 182 #[.val (.int u0), .val (.int u1), .val (.int u2), .val (.long u3), .second, .val (.int ln0), .val (.int w2), .val (.int w4), .val (.ref b5), .val (.ref b11), .val (.ref b18), .val (.ref b28), .val (.int gl_52), .val (.int ff), .unset, .unset, .unset, .unset, .unset, .unset, .unset, .unset, .unset, .unset, .unset, .unset, .unset, .unset, .unset, .unset, .unset, .unset, .unset] [(.int rr_94)])) tt
      refine XS.pop X94.here hx rfl (hb hby at_182) rfl rfl ?_
      show Steps p.tables e below (T94.setTop (mkF m 183 #[.val (.int u0), .val (.int u1), .val (.int u2), .val (.long u3), .second, .val (.int ln0), .val (.int w2), .val (.int w4), .val (.ref b5), .val (.ref b11), .val (.ref b18), .val (.ref b28), .val (.int gl_52), .val (.int ff), .unset, .unset, .unset, .unset, .unset, .unset, .unset, .unset, .unset, .unset, .unset, .unset, .unset, .unset, .unset, .unset, .unset, .unset, .unset] [])) tt
      refine XS.aload X94.here hx rfl (hb hby at_183) rfl rfl ?_
      exact kk
    have f95 : n0 ≤ T94.heap.size := (Nat.le_trans f93 K94.1)
    have f97 : Exa Z T94.heap b28 "com/example/pattern_automaton/patternautomaton/CharBlock" := (f82.keep K94)
    obtain ⟨cq96, kq96, q96a, q96b, q96c⟩ := isOf hZ rfl f97
    obtain ⟨_, _, ⟨T96, L96, k96, n96⟩, -, X96, ⟨Lc96, hQ96, l96, y96, z96⟩, st96⟩ := X94.virtualBack hx (y := (⟨"com/example/pattern_automaton/patternautomaton/CharBlock", "filled", "()I"⟩ : MethodName)) (z := (⟨"com/example/pattern_automaton/patternautomaton/CharBlock", "filled", "()I"⟩ : MethodName)) hown (mvT hZ (hw _ (mw 124 rfl))) (mvT hZ (hw _ (mw 125 rfl))) (notFace_of_selects (args := #[]) (mvT hZ (hw _ (mw 127 rfl)))) (mvT hZ (hw _ (mw 127 rfl))) (mvT hZ (hw _ (mw 126 rfl))) (by decide) (backOf (W := 0) (rmfd l Z a0 hw [] b28 gl_94 T94.heap n0 f95 P94_4) hZ (hw _ (mw 128 rfl)) (hw _ (mw 57 rfl)) (by decide) (by decide)) q96a q96c (g := (mkF m 185 #[.val (.int u0), .val (.int u1), .val (.int u2), .val (.long u3), .second, .val (.int ln0), .val (.int w2), .val (.int w4), .val (.ref b5), .val (.ref b11), .val (.ref b18), .val (.ref b28), .val (.int gl_52), .val (.int ff), .unset, .unset, .unset, .unset, .unset, .unset, .unset, .unset, .unset, .unset, .unset, .unset, .unset, .unset, .unset, .unset, .unset, .unset, .unset] [(.ref b28)])) rfl (by rw [hml]; rfl) (Steps.refl _) (argsL := []) (rest := []) (lenOf pd_7 rfl) rfl (by show 2 * 0 + _ ≤ _; exact Nat.le_of_eq rfl) (hb hby at_185) (fun _ _ => ⟨rfl, rfl, (by decide : 6 + 0 ≤ _), (by decide : 29 + 0 ≤ _)⟩)
    dsimp only [Pt.U, Pt.locs, Pt.cells, Pt.slots] at X96 l96 y96 z96 st96 hQ96
    subst y96 z96
    obtain ⟨rfl, N96q, e96⟩ := hQ96
    have N96 := Fr.eqv l96 (Fr.app N94 N96q)
    refine Goal.tr (B := T96.setTop (mkF m 188 #[.val (.int u0), .val (.int u1), .val (.int u2), .val (.long u3), .second, .val (.int ln0), .val (.int w2), .val (.int w4), .val (.ref b5), .val (.ref b11), .val (.ref b18), .val (.ref b28), .val (.int gl_52), .val (.int ff), .unset, .unset, .unset, .unset, .unset, .unset, .unset, .unset, .unset, .unset, .unset, .unset, .unset, .unset, .unset, .unset, .unset, .unset, .unset] [(.int gl_94)])) st96 ?_
    obtain ⟨gg, hgg⟩ : ∃ z : Int32, z = ((u2 &&& (2147483647 : Int32)) % (gl_94 + (1 : Int32))) := ⟨_, rfl⟩
    refine Goal.to (B := T96.setTop (mkF m 201 #[.val (.int u0), .val (.int u1), .val (.int u2), .val (.long u3), .second, .val (.int ln0), .val (.int w2), .val (.int w4), .val (.ref b5), .val (.ref b11), .val (.ref b18), .val (.ref b28), .val (.int gl_52), .val (.int ff), .val (.int gl_94), .val (.int gg), .unset, .unset, .unset, .unset, .unset, .unset, .unset, .unset, .unset, .unset, .unset, .unset, .unset, .unset, .unset, .unset, .unset] [])) (fun tt kk => ?_) ?_
    · subst hgg
      show Steps p.tables e below (T96.setTop (mkF m 188 #[.val (.int u0), .val (.int u1), .val (.int u2), .val (.long u3), .second, .val (.int ln0), .val (.int w2), .val (.int w4), .val (.ref b5), .val (.ref b11), .val (.ref b18), .val (.ref b28), .val (.int gl_52), .val (.int ff), .unset, .unset, .unset, .unset, .unset, .unset, .unset, .unset, .unset, .unset, .unset, .unset, .unset, .unset, .unset, .unset, .unset, .unset, .unset] [(.int gl_94)])) tt
      refine XS.istore X96.here hx rfl (hb hby at_188) rfl (l' := #[.val (.int u0), .val (.int u1), .val (.int u2), .val (.long u3), .second, .val (.int ln0), .val (.int w2), .val (.int w4), .val (.ref b5), .val (.ref b11), .val (.ref b18), .val (.ref b28), .val (.int gl_52), .val (.int ff), .val (.int gl_94), .unset, .unset, .unset, .unset, .unset, .unset, .unset, .unset, .unset, .unset, .unset, .unset, .unset, .unset, .unset, .unset, .unset, .unset]) rfl ?_
      show Steps p.tables e below (T96.setTop (mkF m 190 #[.val (.int u0), .val (.int u1), .val (.int u2), .val (.long u3), .second, .val (.int ln0), .val (.int w2), .val (.int w4), .val (.ref b5), .val (.ref b11), .val (.ref b18), .val (.ref b28), .val (.int gl_52), .val (.int ff), .val (.int gl_94), .unset, .unset, .unset, .unset, .unset, .unset, .unset, .unset, .unset, .unset, .unset, .unset, .unset, .unset, .unset, .unset, .unset, .unset] [])) tt
      refine XS.iloadN X96.here hx rfl (hb hby at_190) rfl ?_
      show Steps p.tables e below (T96.setTop (mkF m 191 #[.val (.int u0), .val (.int u1), .val (.int u2), .val (.long u3), .second, .val (.int ln0), .val (.int w2), .val (.int w4), .val (.ref b5), .val (.ref b11), .val (.ref b18), .val (.ref b28), .val (.int gl_52), .val (.int ff), .val (.int gl_94), .unset, .unset, .unset, .unset, .unset, .unset, .unset, .unset, .unset, .unset, .unset, .unset, .unset, .unset, .unset, .unset, .unset, .unset] [(.int u2)])) tt
      refine X96.ldcInt hx hown (mvT hZ (hw _ (mw 129 rfl))) (g := (mkF m 191 #[.val (.int u0), .val (.int u1), .val (.int u2), .val (.long u3), .second, .val (.int ln0), .val (.int w2), .val (.int w4), .val (.ref b5), .val (.ref b11), .val (.ref b18), .val (.ref b28), .val (.int gl_52), .val (.int ff), .val (.int gl_94), .unset, .unset, .unset, .unset, .unset, .unset, .unset, .unset, .unset, .unset, .unset, .unset, .unset, .unset, .unset, .unset, .unset, .unset] [(.int u2)])) rfl (hb hby at_191) _ ?_
      show Steps p.tables e below (T96.setTop (mkF m 193 #[.val (.int u0), .val (.int u1), .val (.int u2), .val (.long u3), .second, .val (.int ln0), .val (.int w2), .val (.int w4), .val (.ref b5), .val (.ref b11), .val (.ref b18), .val (.ref b28), .val (.int gl_52), .val (.int ff), .val (.int gl_94), .unset, .unset, .unset, .unset, .unset, .unset, .unset, .unset, .unset, .unset, .unset, .unset, .unset, .unset, .unset, .unset, .unset, .unset] [(.int (2147483647 : Int32)), (.int u2)])) tt
      refine XS.iand X96.here hx rfl (hb hby at_193) rfl ?_
      show Steps p.tables e below (T96.setTop (mkF m 194 #[.val (.int u0), .val (.int u1), .val (.int u2), .val (.long u3), .second, .val (.int ln0), .val (.int w2), .val (.int w4), .val (.ref b5), .val (.ref b11), .val (.ref b18), .val (.ref b28), .val (.int gl_52), .val (.int ff), .val (.int gl_94), .unset, .unset, .unset, .unset, .unset, .unset, .unset, .unset, .unset, .unset, .unset, .unset, .unset, .unset, .unset, .unset, .unset, .unset] [(.int (u2 &&& (2147483647 : Int32)))])) tt
      refine XS.iload X96.here hx rfl (hb hby at_194) rfl ?_
      show Steps p.tables e below (T96.setTop (mkF m 196 #[.val (.int u0), .val (.int u1), .val (.int u2), .val (.long u3), .second, .val (.int ln0), .val (.int w2), .val (.int w4), .val (.ref b5), .val (.ref b11), .val (.ref b18), .val (.ref b28), .val (.int gl_52), .val (.int ff), .val (.int gl_94), .unset, .unset, .unset, .unset, .unset, .unset, .unset, .unset, .unset, .unset, .unset, .unset, .unset, .unset, .unset, .unset, .unset, .unset] [(.int gl_94), (.int (u2 &&& (2147483647 : Int32)))])) tt
      refine XS.iconst X96.here hx rfl (hb hby at_196) ?_
      show Steps p.tables e below (T96.setTop (mkF m 197 #[.val (.int u0), .val (.int u1), .val (.int u2), .val (.long u3), .second, .val (.int ln0), .val (.int w2), .val (.int w4), .val (.ref b5), .val (.ref b11), .val (.ref b18), .val (.ref b28), .val (.int gl_52), .val (.int ff), .val (.int gl_94), .unset, .unset, .unset, .unset, .unset, .unset, .unset, .unset, .unset, .unset, .unset, .unset, .unset, .unset, .unset, .unset, .unset, .unset] [(.int (1 : Int32)), (.int gl_94), (.int (u2 &&& (2147483647 : Int32)))])) tt
      refine XS.iadd X96.here hx rfl (hb hby at_197) rfl ?_
      show Steps p.tables e below (T96.setTop (mkF m 198 #[.val (.int u0), .val (.int u1), .val (.int u2), .val (.long u3), .second, .val (.int ln0), .val (.int w2), .val (.int w4), .val (.ref b5), .val (.ref b11), .val (.ref b18), .val (.ref b28), .val (.int gl_52), .val (.int ff), .val (.int gl_94), .unset, .unset, .unset, .unset, .unset, .unset, .unset, .unset, .unset, .unset, .unset, .unset, .unset, .unset, .unset, .unset, .unset, .unset] [(.int (gl_94 + (1 : Int32))), (.int (u2 &&& (2147483647 : Int32)))])) tt
      refine iremM X96 hx rfl (hb hby at_198) rfl (own_nz ⟨q2_94, by have a := q3_94; have b := q7_94; omega⟩) ?_
      show Steps p.tables e below (T96.setTop (mkF m 199 #[.val (.int u0), .val (.int u1), .val (.int u2), .val (.long u3), .second, .val (.int ln0), .val (.int w2), .val (.int w4), .val (.ref b5), .val (.ref b11), .val (.ref b18), .val (.ref b28), .val (.int gl_52), .val (.int ff), .val (.int gl_94), .unset, .unset, .unset, .unset, .unset, .unset, .unset, .unset, .unset, .unset, .unset, .unset, .unset, .unset, .unset, .unset, .unset, .unset] [(.int ((u2 &&& (2147483647 : Int32)) % (gl_94 + (1 : Int32))))])) tt
      refine XS.istore X96.here hx rfl (hb hby at_199) rfl (l' := #[.val (.int u0), .val (.int u1), .val (.int u2), .val (.long u3), .second, .val (.int ln0), .val (.int w2), .val (.int w4), .val (.ref b5), .val (.ref b11), .val (.ref b18), .val (.ref b28), .val (.int gl_52), .val (.int ff), .val (.int gl_94), .val (.int ((u2 &&& (2147483647 : Int32)) % (gl_94 + (1 : Int32)))), .unset, .unset, .unset, .unset, .unset, .unset, .unset, .unset, .unset, .unset, .unset, .unset, .unset, .unset, .unset, .unset, .unset]) rfl ?_
      exact kk
    refine Goal.to (B := T96.setTop (mkF m 205 #[.val (.int u0), .val (.int u1), .val (.int u2), .val (.long u3), .second, .val (.int ln0), .val (.int w2), .val (.int w4), .val (.ref b5), .val (.ref b11), .val (.ref b18), .val (.ref b28), .val (.int gl_52), .val (.int ff), .val (.int gl_94), .val (.int gg), .unset, .unset, .unset, .unset, .unset, .unset, .unset, .unset, .unset, .unset, .unset, .unset, .unset, .unset, .unset, .unset, .unset] [(.int gg), (.ref b28)])) (fun tt kk => ?_) ?_
    · show Steps p.tables e below (T96.setTop (mkF m 201 #[.val (.int u0), .val (.int u1), .val (.int u2), .val (.long u3), .second, .val (.int ln0), .val (.int w2), .val (.int w4), .val (.ref b5), .val (.ref b11), .val (.ref b18), .val (.ref b28), .val (.int gl_52), .val (.int ff), .val (.int gl_94), .val (.int gg), .unset, .unset, .unset, .unset, .unset, .unset, .unset, .unset, .unset, .unset, .unset, .unset, .unset, .unset, .unset, .unset, .unset] [])) tt
      refine XS.aload X96.here hx rfl (hb hby at_201) rfl rfl ?_
      show Steps p.tables e below (T96.setTop (mkF m 203 #[.val (.int u0), .val (.int u1), .val (.int u2), .val (.long u3), .second, .val (.int ln0), .val (.int w2), .val (.int w4), .val (.ref b5), .val (.ref b11), .val (.ref b18), .val (.ref b28), .val (.int gl_52), .val (.int ff), .val (.int gl_94), .val (.int gg), .unset, .unset, .unset, .unset, .unset, .unset, .unset, .unset, .unset, .unset, .unset, .unset, .unset, .unset, .unset, .unset, .unset] [(.ref b28)])) tt
      refine XS.iload X96.here hx rfl (hb hby at_203) rfl ?_
      exact kk
    obtain ⟨cq98, kq98, q98a, q98b, q98c⟩ := isOf hZ e96 f97
    obtain ⟨_, _, ⟨T98, L98, k98, n98⟩, -, X98, ⟨Lc98, hQ98, l98, y98, z98⟩, st98⟩ := X96.virtualBack hx (y := (⟨"com/example/pattern_automaton/patternautomaton/CharBlock", "nextWalkFrom", "(I)V"⟩ : MethodName)) (z := (⟨"com/example/pattern_automaton/patternautomaton/CharBlock", "nextWalkFrom", "(I)V"⟩ : MethodName)) hown (mvT hZ (hw _ (mw 130 rfl))) (mvT hZ (hw _ (mw 131 rfl))) (notFace_of_selects (args := #[]) (mvT hZ (hw _ (mw 133 rfl)))) (mvT hZ (hw _ (mw 133 rfl))) (mvT hZ (hw _ (mw 132 rfl))) (by decide) (backOf (W := 0) (rmnw l Z a0 hw [] b28 vc_35 gl_94 gr_94 gj_94 gg T94.heap n0 f95 f97 P94_3 P94_4 P94_5 P94_6 g_b28) hZ (hw _ (mw 134 rfl)) (hw _ (mw 57 rfl)) (by decide) (by decide)) q98a q98c (g := (mkF m 205 #[.val (.int u0), .val (.int u1), .val (.int u2), .val (.long u3), .second, .val (.int ln0), .val (.int w2), .val (.int w4), .val (.ref b5), .val (.ref b11), .val (.ref b18), .val (.ref b28), .val (.int gl_52), .val (.int ff), .val (.int gl_94), .val (.int gg), .unset, .unset, .unset, .unset, .unset, .unset, .unset, .unset, .unset, .unset, .unset, .unset, .unset, .unset, .unset, .unset, .unset] [(.int gg), (.ref b28)])) rfl (by rw [hml]; rfl) (Steps.refl _) (argsL := [(.int gg)]) (rest := []) (lenOf pd_9 rfl) rfl (by show 2 * 0 + _ ≤ _; exact Nat.le_of_eq rfl) (hb hby at_205) (fun _ _ => ⟨rfl, e96, (by decide : 6 + 0 ≤ _), (by decide : 29 + 0 ≤ _)⟩)
    dsimp only [Pt.U, Pt.locs, Pt.cells, Pt.slots] at X98 l98 y98 z98 st98 hQ98
    subst y98 z98
    obtain ⟨rfl, N98q, K98, P98_0, P98_1, P98_2, P98_3⟩ := hQ98
    have N98 := Fr.eqv l98 (Fr.app N96 N98q)
    refine Goal.tr (B := T98.setTop (mkF m 208 #[.val (.int u0), .val (.int u1), .val (.int u2), .val (.long u3), .second, .val (.int ln0), .val (.int w2), .val (.int w4), .val (.ref b5), .val (.ref b11), .val (.ref b18), .val (.ref b28), .val (.int gl_52), .val (.int ff), .val (.int gl_94), .val (.int gg), .unset, .unset, .unset, .unset, .unset, .unset, .unset, .unset, .unset, .unset, .unset, .unset, .unset, .unset, .unset, .unset, .unset] [])) st98 ?_
    refine Goal.to (B := T98.setTop (mkF m 210 #[.val (.int u0), .val (.int u1), .val (.int u2), .val (.long u3), .second, .val (.int ln0), .val (.int w2), .val (.int w4), .val (.ref b5), .val (.ref b11), .val (.ref b18), .val (.ref b28), .val (.int gl_52), .val (.int ff), .val (.int gl_94), .val (.int gg), .unset, .unset, .unset, .unset, .unset, .unset, .unset, .unset, .unset, .unset, .unset, .unset, .unset, .unset, .unset, .unset, .unset] [(.ref b28)])) (fun tt kk => ?_) ?_
    · show Steps p.tables e below (T98.setTop (mkF m 208 #[.val (.int u0), .val (.int u1), .val (.int u2), .val (.long u3), .second, .val (.int ln0), .val (.int w2), .val (.int w4), .val (.ref b5), .val (.ref b11), .val (.ref b18), .val (.ref b28), .val (.int gl_52), .val (.int ff), .val (.int gl_94), .val (.int gg), .unset, .unset, .unset, .unset, .unset, .unset, .unset, .unset, .unset, .unset, .unset, .unset, .unset, .unset, .unset, .unset, .unset] [])) tt
      refine XS.aload X98.here hx rfl (hb hby at_208) rfl rfl ?_
      exact kk
    have f99 : n0 ≤ T98.heap.size := (Nat.le_trans f95 K98.1)
    have f101 : Exa Z T98.heap b28 "com/example/pattern_automaton/patternautomaton/CharBlock" := (f97.keep K98)
    obtain ⟨cq100, kq100, q100a, q100b, q100c⟩ := isOf hZ rfl f101
    obtain ⟨_, _, ⟨T100, L100, k100, n100⟩, -, X100, ⟨Lc100, hQ100, l100, y100, z100⟩, st100⟩ := X98.virtualBack hx (y := (⟨"com/example/pattern_automaton/patternautomaton/CharBlock", "start", "()J"⟩ : MethodName)) (z := (⟨"com/example/pattern_automaton/patternautomaton/CharBlock", "start", "()J"⟩ : MethodName)) hown (mvT hZ (hw _ (mw 137 rfl))) (mvT hZ (hw _ (mw 138 rfl))) (notFace_of_selects (args := #[]) (mvT hZ (hw _ (mw 140 rfl)))) (mvT hZ (hw _ (mw 140 rfl))) (mvT hZ (hw _ (mw 139 rfl))) (by decide) (backOf (W := 0) (rmsj l Z a0 hw [] b28 gj_94 T98.heap n0 f99 P98_3) hZ (hw _ (mw 141 rfl)) (hw _ (mw 57 rfl)) (by decide) (by decide)) q100a q100c (g := (mkF m 210 #[.val (.int u0), .val (.int u1), .val (.int u2), .val (.long u3), .second, .val (.int ln0), .val (.int w2), .val (.int w4), .val (.ref b5), .val (.ref b11), .val (.ref b18), .val (.ref b28), .val (.int gl_52), .val (.int ff), .val (.int gl_94), .val (.int gg), .unset, .unset, .unset, .unset, .unset, .unset, .unset, .unset, .unset, .unset, .unset, .unset, .unset, .unset, .unset, .unset, .unset] [(.ref b28)])) rfl (by rw [hml]; rfl) (Steps.refl _) (argsL := []) (rest := []) (lenOf pd_21 rfl) rfl (by show 2 * 0 + _ ≤ _; exact Nat.le_of_eq rfl) (hb hby at_210) (fun _ _ => ⟨rfl, rfl, (by decide : 6 + 0 ≤ _), (by decide : 29 + 0 ≤ _)⟩)
    dsimp only [Pt.U, Pt.locs, Pt.cells, Pt.slots] at X100 l100 y100 z100 st100 hQ100
    subst y100 z100
    obtain ⟨rfl, N100q, e100⟩ := hQ100
    have N100 := Fr.eqv l100 (Fr.app N98 N100q)
    refine Goal.tr (B := T100.setTop (mkF m 213 #[.val (.int u0), .val (.int u1), .val (.int u2), .val (.long u3), .second, .val (.int ln0), .val (.int w2), .val (.int w4), .val (.ref b5), .val (.ref b11), .val (.ref b18), .val (.ref b28), .val (.int gl_52), .val (.int ff), .val (.int gl_94), .val (.int gg), .unset, .unset, .unset, .unset, .unset, .unset, .unset, .unset, .unset, .unset, .unset, .unset, .unset, .unset, .unset, .unset, .unset] [(.long gj_94)])) st100 ?_
    refine Goal.to (B := T100.setTop (mkF m 217 #[.val (.int u0), .val (.int u1), .val (.int u2), .val (.long u3), .second, .val (.int ln0), .val (.int w2), .val (.int w4), .val (.ref b5), .val (.ref b11), .val (.ref b18), .val (.ref b28), .val (.int gl_52), .val (.int ff), .val (.int gl_94), .val (.int gg), .val (.long gj_94), .second, .unset, .unset, .unset, .unset, .unset, .unset, .unset, .unset, .unset, .unset, .unset, .unset, .unset, .unset, .unset] [(.ref b28)])) (fun tt kk => ?_) ?_
    · show Steps p.tables e below (T100.setTop (mkF m 213 #[.val (.int u0), .val (.int u1), .val (.int u2), .val (.long u3), .second, .val (.int ln0), .val (.int w2), .val (.int w4), .val (.ref b5), .val (.ref b11), .val (.ref b18), .val (.ref b28), .val (.int gl_52), .val (.int ff), .val (.int gl_94), .val (.int gg), .unset, .unset, .unset, .unset, .unset, .unset, .unset, .unset, .unset, .unset, .unset, .unset, .unset, .unset, .unset, .unset, .unset] [(.long gj_94)])) tt
      refine XS.lstore X100.here hx rfl (hb hby at_213) rfl (l' := #[.val (.int u0), .val (.int u1), .val (.int u2), .val (.long u3), .second, .val (.int ln0), .val (.int w2), .val (.int w4), .val (.ref b5), .val (.ref b11), .val (.ref b18), .val (.ref b28), .val (.int gl_52), .val (.int ff), .val (.int gl_94), .val (.int gg), .val (.long gj_94), .second, .unset, .unset, .unset, .unset, .unset, .unset, .unset, .unset, .unset, .unset, .unset, .unset, .unset, .unset, .unset]) rfl ?_
      show Steps p.tables e below (T100.setTop (mkF m 215 #[.val (.int u0), .val (.int u1), .val (.int u2), .val (.long u3), .second, .val (.int ln0), .val (.int w2), .val (.int w4), .val (.ref b5), .val (.ref b11), .val (.ref b18), .val (.ref b28), .val (.int gl_52), .val (.int ff), .val (.int gl_94), .val (.int gg), .val (.long gj_94), .second, .unset, .unset, .unset, .unset, .unset, .unset, .unset, .unset, .unset, .unset, .unset, .unset, .unset, .unset, .unset] [])) tt
      refine XS.aload X100.here hx rfl (hb hby at_215) rfl rfl ?_
      exact kk
    obtain ⟨cq102, kq102, q102a, q102b, q102c⟩ := isOf hZ e100 f101
    obtain ⟨_, _, ⟨T102, L102, k102, n102⟩, -, X102, ⟨Lc102, hQ102, l102, y102, z102⟩, st102⟩ := X100.virtualBack hx (y := (⟨"com/example/pattern_automaton/patternautomaton/CharBlock", "filled", "()I"⟩ : MethodName)) (z := (⟨"com/example/pattern_automaton/patternautomaton/CharBlock", "filled", "()I"⟩ : MethodName)) hown (mvT hZ (hw _ (mw 124 rfl))) (mvT hZ (hw _ (mw 125 rfl))) (notFace_of_selects (args := #[]) (mvT hZ (hw _ (mw 127 rfl)))) (mvT hZ (hw _ (mw 127 rfl))) (mvT hZ (hw _ (mw 126 rfl))) (by decide) (backOf (W := 0) (rmfd l Z a0 hw [] b28 gl_94 T98.heap n0 f99 P98_1) hZ (hw _ (mw 128 rfl)) (hw _ (mw 57 rfl)) (by decide) (by decide)) q102a q102c (g := (mkF m 217 #[.val (.int u0), .val (.int u1), .val (.int u2), .val (.long u3), .second, .val (.int ln0), .val (.int w2), .val (.int w4), .val (.ref b5), .val (.ref b11), .val (.ref b18), .val (.ref b28), .val (.int gl_52), .val (.int ff), .val (.int gl_94), .val (.int gg), .val (.long gj_94), .second, .unset, .unset, .unset, .unset, .unset, .unset, .unset, .unset, .unset, .unset, .unset, .unset, .unset, .unset, .unset] [(.ref b28)])) rfl (by rw [hml]; rfl) (Steps.refl _) (argsL := []) (rest := []) (lenOf pd_7 rfl) rfl (by show 2 * 0 + _ ≤ _; exact Nat.le_of_eq rfl) (hb hby at_217) (fun _ _ => ⟨rfl, e100, (by decide : 6 + 0 ≤ _), (by decide : 29 + 0 ≤ _)⟩)
    dsimp only [Pt.U, Pt.locs, Pt.cells, Pt.slots] at X102 l102 y102 z102 st102 hQ102
    subst y102 z102
    obtain ⟨rfl, N102q, e102⟩ := hQ102
    have N102 := Fr.eqv l102 (Fr.app N100 N102q)
    refine Goal.tr (B := T102.setTop (mkF m 220 #[.val (.int u0), .val (.int u1), .val (.int u2), .val (.long u3), .second, .val (.int ln0), .val (.int w2), .val (.int w4), .val (.ref b5), .val (.ref b11), .val (.ref b18), .val (.ref b28), .val (.int gl_52), .val (.int ff), .val (.int gl_94), .val (.int gg), .val (.long gj_94), .second, .unset, .unset, .unset, .unset, .unset, .unset, .unset, .unset, .unset, .unset, .unset, .unset, .unset, .unset, .unset] [(.int gl_94)])) st102 ?_
    refine Goal.to (B := T102.setTop (mkF m 224 #[.val (.int u0), .val (.int u1), .val (.int u2), .val (.long u3), .second, .val (.int ln0), .val (.int w2), .val (.int w4), .val (.ref b5), .val (.ref b11), .val (.ref b18), .val (.ref b28), .val (.int gl_52), .val (.int ff), .val (.int gl_94), .val (.int gg), .val (.long gj_94), .second, .val (.int gl_94), .unset, .unset, .unset, .unset, .unset, .unset, .unset, .unset, .unset, .unset, .unset, .unset, .unset, .unset] [(.int w4)])) (fun tt kk => ?_) ?_
    · show Steps p.tables e below (T102.setTop (mkF m 220 #[.val (.int u0), .val (.int u1), .val (.int u2), .val (.long u3), .second, .val (.int ln0), .val (.int w2), .val (.int w4), .val (.ref b5), .val (.ref b11), .val (.ref b18), .val (.ref b28), .val (.int gl_52), .val (.int ff), .val (.int gl_94), .val (.int gg), .val (.long gj_94), .second, .unset, .unset, .unset, .unset, .unset, .unset, .unset, .unset, .unset, .unset, .unset, .unset, .unset, .unset, .unset] [(.int gl_94)])) tt
      refine XS.istore X102.here hx rfl (hb hby at_220) rfl (l' := #[.val (.int u0), .val (.int u1), .val (.int u2), .val (.long u3), .second, .val (.int ln0), .val (.int w2), .val (.int w4), .val (.ref b5), .val (.ref b11), .val (.ref b18), .val (.ref b28), .val (.int gl_52), .val (.int ff), .val (.int gl_94), .val (.int gg), .val (.long gj_94), .second, .val (.int gl_94), .unset, .unset, .unset, .unset, .unset, .unset, .unset, .unset, .unset, .unset, .unset, .unset, .unset, .unset]) rfl ?_
      show Steps p.tables e below (T102.setTop (mkF m 222 #[.val (.int u0), .val (.int u1), .val (.int u2), .val (.long u3), .second, .val (.int ln0), .val (.int w2), .val (.int w4), .val (.ref b5), .val (.ref b11), .val (.ref b18), .val (.ref b28), .val (.int gl_52), .val (.int ff), .val (.int gl_94), .val (.int gg), .val (.long gj_94), .second, .val (.int gl_94), .unset, .unset, .unset, .unset, .unset, .unset, .unset, .unset, .unset, .unset, .unset, .unset, .unset, .unset] [])) tt
      refine XS.iload X102.here hx rfl (hb hby at_222) rfl ?_
      exact kk
    obtain ⟨w104, hw104⟩ : ∃ z : Int64, z = if w4 = (0 : Int32) then (gj_94 + ((u3.toUInt64 >>> ((2 : Int32) &&& 0x3f).toInt64.toUInt64).toInt64)) else (gj_94 + (u3 &&& (7 : Int64))) := ⟨_, rfl⟩
    refine Goal.to (B := T102.setTop (mkF m 244 #[.val (.int u0), .val (.int u1), .val (.int u2), .val (.long u3), .second, .val (.int ln0), .val (.int w2), .val (.int w4), .val (.ref b5), .val (.ref b11), .val (.ref b18), .val (.ref b28), .val (.int gl_52), .val (.int ff), .val (.int gl_94), .val (.int gg), .val (.long gj_94), .second, .val (.int gl_94), .unset, .unset, .unset, .unset, .unset, .unset, .unset, .unset, .unset, .unset, .unset, .unset, .unset, .unset] [(.long w104)])) (fun tt kk => ?_) ?_
    · by_cases hc103 : w4 = (0 : Int32)
      · have qw104 : w104 = (gj_94 + ((u3.toUInt64 >>> ((2 : Int32) &&& 0x3f).toInt64.toUInt64).toInt64)) := by rw [hw104, if_pos hc103]
        rw [qw104] at kk
        show Steps p.tables e below (T102.setTop (mkF m 224 #[.val (.int u0), .val (.int u1), .val (.int u2), .val (.long u3), .second, .val (.int ln0), .val (.int w2), .val (.int w4), .val (.ref b5), .val (.ref b11), .val (.ref b18), .val (.ref b28), .val (.int gl_52), .val (.int ff), .val (.int gl_94), .val (.int gg), .val (.long gj_94), .second, .val (.int gl_94), .unset, .unset, .unset, .unset, .unset, .unset, .unset, .unset, .unset, .unset, .unset, .unset, .unset, .unset] [(.int w4)])) tt
        refine XS.ifYes X102.here hx rfl (pc0 := 224) (pc' := 238) rfl (hb hby at_224) rfl ((if0 _ _).trans (teq hc103).1) (by decide) (by decide) ?_
        show Steps p.tables e below (T102.setTop (mkF m 238 #[.val (.int u0), .val (.int u1), .val (.int u2), .val (.long u3), .second, .val (.int ln0), .val (.int w2), .val (.int w4), .val (.ref b5), .val (.ref b11), .val (.ref b18), .val (.ref b28), .val (.int gl_52), .val (.int ff), .val (.int gl_94), .val (.int gg), .val (.long gj_94), .second, .val (.int gl_94), .unset, .unset, .unset, .unset, .unset, .unset, .unset, .unset, .unset, .unset, .unset, .unset, .unset, .unset] [])) tt
        refine XS.lload X102.here hx rfl (hb hby at_238) rfl ?_
        show Steps p.tables e below (T102.setTop (mkF m 240 #[.val (.int u0), .val (.int u1), .val (.int u2), .val (.long u3), .second, .val (.int ln0), .val (.int w2), .val (.int w4), .val (.ref b5), .val (.ref b11), .val (.ref b18), .val (.ref b28), .val (.int gl_52), .val (.int ff), .val (.int gl_94), .val (.int gg), .val (.long gj_94), .second, .val (.int gl_94), .unset, .unset, .unset, .unset, .unset, .unset, .unset, .unset, .unset, .unset, .unset, .unset, .unset, .unset] [(.long gj_94)])) tt
        refine XS.lloadN X102.here hx rfl (hb hby at_240) rfl ?_
        show Steps p.tables e below (T102.setTop (mkF m 241 #[.val (.int u0), .val (.int u1), .val (.int u2), .val (.long u3), .second, .val (.int ln0), .val (.int w2), .val (.int w4), .val (.ref b5), .val (.ref b11), .val (.ref b18), .val (.ref b28), .val (.int gl_52), .val (.int ff), .val (.int gl_94), .val (.int gg), .val (.long gj_94), .second, .val (.int gl_94), .unset, .unset, .unset, .unset, .unset, .unset, .unset, .unset, .unset, .unset, .unset, .unset, .unset, .unset] [(.long u3), (.long gj_94)])) tt
        refine XS.iconst X102.here hx rfl (hb hby at_241) ?_
        show Steps p.tables e below (T102.setTop (mkF m 242 #[.val (.int u0), .val (.int u1), .val (.int u2), .val (.long u3), .second, .val (.int ln0), .val (.int w2), .val (.int w4), .val (.ref b5), .val (.ref b11), .val (.ref b18), .val (.ref b28), .val (.int gl_52), .val (.int ff), .val (.int gl_94), .val (.int gg), .val (.long gj_94), .second, .val (.int gl_94), .unset, .unset, .unset, .unset, .unset, .unset, .unset, .unset, .unset, .unset, .unset, .unset, .unset, .unset] [(.int (2 : Int32)), (.long u3), (.long gj_94)])) tt
        refine XS.lushr X102.here hx rfl (hb hby at_242) rfl ?_
        show Steps p.tables e below (T102.setTop (mkF m 243 #[.val (.int u0), .val (.int u1), .val (.int u2), .val (.long u3), .second, .val (.int ln0), .val (.int w2), .val (.int w4), .val (.ref b5), .val (.ref b11), .val (.ref b18), .val (.ref b28), .val (.int gl_52), .val (.int ff), .val (.int gl_94), .val (.int gg), .val (.long gj_94), .second, .val (.int gl_94), .unset, .unset, .unset, .unset, .unset, .unset, .unset, .unset, .unset, .unset, .unset, .unset, .unset, .unset] [(.long ((u3.toUInt64 >>> ((2 : Int32) &&& 0x3f).toInt64.toUInt64).toInt64)), (.long gj_94)])) tt
        refine XS.ladd X102.here hx rfl (hb hby at_243) rfl ?_
        exact kk
      · have qw104 : w104 = (gj_94 + (u3 &&& (7 : Int64))) := by rw [hw104, if_neg hc103]
        rw [qw104] at kk
        show Steps p.tables e below (T102.setTop (mkF m 224 #[.val (.int u0), .val (.int u1), .val (.int u2), .val (.long u3), .second, .val (.int ln0), .val (.int w2), .val (.int w4), .val (.ref b5), .val (.ref b11), .val (.ref b18), .val (.ref b28), .val (.int gl_52), .val (.int ff), .val (.int gl_94), .val (.int gg), .val (.long gj_94), .second, .val (.int gl_94), .unset, .unset, .unset, .unset, .unset, .unset, .unset, .unset, .unset, .unset, .unset, .unset, .unset, .unset] [(.int w4)])) tt
        refine XS.ifNo X102.here hx rfl (hb hby at_224) rfl ((if0 _ _).trans (feq hc103).1) ?_
        show Steps p.tables e below (T102.setTop (mkF m 227 #[.val (.int u0), .val (.int u1), .val (.int u2), .val (.long u3), .second, .val (.int ln0), .val (.int w2), .val (.int w4), .val (.ref b5), .val (.ref b11), .val (.ref b18), .val (.ref b28), .val (.int gl_52), .val (.int ff), .val (.int gl_94), .val (.int gg), .val (.long gj_94), .second, .val (.int gl_94), .unset, .unset, .unset, .unset, .unset, .unset, .unset, .unset, .unset, .unset, .unset, .unset, .unset, .unset] [])) tt
        refine XS.lload X102.here hx rfl (hb hby at_227) rfl ?_
        show Steps p.tables e below (T102.setTop (mkF m 229 #[.val (.int u0), .val (.int u1), .val (.int u2), .val (.long u3), .second, .val (.int ln0), .val (.int w2), .val (.int w4), .val (.ref b5), .val (.ref b11), .val (.ref b18), .val (.ref b28), .val (.int gl_52), .val (.int ff), .val (.int gl_94), .val (.int gg), .val (.long gj_94), .second, .val (.int gl_94), .unset, .unset, .unset, .unset, .unset, .unset, .unset, .unset, .unset, .unset, .unset, .unset, .unset, .unset] [(.long gj_94)])) tt
        refine XS.lloadN X102.here hx rfl (hb hby at_229) rfl ?_
        show Steps p.tables e below (T102.setTop (mkF m 230 #[.val (.int u0), .val (.int u1), .val (.int u2), .val (.long u3), .second, .val (.int ln0), .val (.int w2), .val (.int w4), .val (.ref b5), .val (.ref b11), .val (.ref b18), .val (.ref b28), .val (.int gl_52), .val (.int ff), .val (.int gl_94), .val (.int gg), .val (.long gj_94), .second, .val (.int gl_94), .unset, .unset, .unset, .unset, .unset, .unset, .unset, .unset, .unset, .unset, .unset, .unset, .unset, .unset] [(.long u3), (.long gj_94)])) tt
        refine X102.ldc2Long hx hown (mvT hZ (hw _ (mw 161 rfl))) (g := (mkF m 230 #[.val (.int u0), .val (.int u1), .val (.int u2), .val (.long u3), .second, .val (.int ln0), .val (.int w2), .val (.int w4), .val (.ref b5), .val (.ref b11), .val (.ref b18), .val (.ref b28), .val (.int gl_52), .val (.int ff), .val (.int gl_94), .val (.int gg), .val (.long gj_94), .second, .val (.int gl_94), .unset, .unset, .unset, .unset, .unset, .unset, .unset, .unset, .unset, .unset, .unset, .unset, .unset, .unset] [(.long u3), (.long gj_94)])) rfl (hb hby at_230) _ ?_
        show Steps p.tables e below (T102.setTop (mkF m 233 #[.val (.int u0), .val (.int u1), .val (.int u2), .val (.long u3), .second, .val (.int ln0), .val (.int w2), .val (.int w4), .val (.ref b5), .val (.ref b11), .val (.ref b18), .val (.ref b28), .val (.int gl_52), .val (.int ff), .val (.int gl_94), .val (.int gg), .val (.long gj_94), .second, .val (.int gl_94), .unset, .unset, .unset, .unset, .unset, .unset, .unset, .unset, .unset, .unset, .unset, .unset, .unset, .unset] [(.long (7 : Int64)), (.long u3), (.long gj_94)])) tt
        refine XS.land X102.here hx rfl (hb hby at_233) rfl ?_
        show Steps p.tables e below (T102.setTop (mkF m 234 #[.val (.int u0), .val (.int u1), .val (.int u2), .val (.long u3), .second, .val (.int ln0), .val (.int w2), .val (.int w4), .val (.ref b5), .val (.ref b11), .val (.ref b18), .val (.ref b28), .val (.int gl_52), .val (.int ff), .val (.int gl_94), .val (.int gg), .val (.long gj_94), .second, .val (.int gl_94), .unset, .unset, .unset, .unset, .unset, .unset, .unset, .unset, .unset, .unset, .unset, .unset, .unset, .unset] [(.long (u3 &&& (7 : Int64))), (.long gj_94)])) tt
        refine XS.ladd X102.here hx rfl (hb hby at_234) rfl ?_
        show Steps p.tables e below (T102.setTop (mkF m 235 #[.val (.int u0), .val (.int u1), .val (.int u2), .val (.long u3), .second, .val (.int ln0), .val (.int w2), .val (.int w4), .val (.ref b5), .val (.ref b11), .val (.ref b18), .val (.ref b28), .val (.int gl_52), .val (.int ff), .val (.int gl_94), .val (.int gg), .val (.long gj_94), .second, .val (.int gl_94), .unset, .unset, .unset, .unset, .unset, .unset, .unset, .unset, .unset, .unset, .unset, .unset, .unset, .unset] [(.long (gj_94 + (u3 &&& (7 : Int64))))])) tt
        refine XS.goto X102.here hx rfl (pc0 := 235) (pc' := 244) rfl (hb hby at_235) (by decide) (by decide) ?_
        exact kk
    refine Goal.to (B := T102.setTop (mkF m 246 #[.val (.int u0), .val (.int u1), .val (.int u2), .val (.long u3), .second, .val (.int ln0), .val (.int w2), .val (.int w4), .val (.ref b5), .val (.ref b11), .val (.ref b18), .val (.ref b28), .val (.int gl_52), .val (.int ff), .val (.int gl_94), .val (.int gg), .val (.long gj_94), .second, .val (.int gl_94), .val (.long w104), .second, .unset, .unset, .unset, .unset, .unset, .unset, .unset, .unset, .unset, .unset, .unset, .unset] [])) (fun tt kk => ?_) ?_
    · show Steps p.tables e below (T102.setTop (mkF m 244 #[.val (.int u0), .val (.int u1), .val (.int u2), .val (.long u3), .second, .val (.int ln0), .val (.int w2), .val (.int w4), .val (.ref b5), .val (.ref b11), .val (.ref b18), .val (.ref b28), .val (.int gl_52), .val (.int ff), .val (.int gl_94), .val (.int gg), .val (.long gj_94), .second, .val (.int gl_94), .unset, .unset, .unset, .unset, .unset, .unset, .unset, .unset, .unset, .unset, .unset, .unset, .unset, .unset] [(.long w104)])) tt
      refine XS.lstore X102.here hx rfl (hb hby at_244) rfl (l' := #[.val (.int u0), .val (.int u1), .val (.int u2), .val (.long u3), .second, .val (.int ln0), .val (.int w2), .val (.int w4), .val (.ref b5), .val (.ref b11), .val (.ref b18), .val (.ref b28), .val (.int gl_52), .val (.int ff), .val (.int gl_94), .val (.int gg), .val (.long gj_94), .second, .val (.int gl_94), .val (.long w104), .second, .unset, .unset, .unset, .unset, .unset, .unset, .unset, .unset, .unset, .unset, .unset, .unset]) rfl ?_
      exact kk
    have hS := (⟨q6_94, by have a0 := q9_52; have a1 := q9_94; simp at a0; omega⟩ : 0 ≤ gj_94.toInt ∧ gj_94.toInt ≤ 1000)
    have hF := (⟨q2_94, by have a := q3_94; have b := q7_94; omega⟩ : 0 ≤ gl_94.toInt ∧ gl_94.toInt ≤ 8)
    have hE := own_end hS hw104
    obtain ⟨he, hhe⟩ : ∃ z : Int64, z = (gj_94 + (gl_94.toInt64)) := ⟨_, rfl⟩
    refine Goal.to (B := T102.setTop (mkF m 254 #[.val (.int u0), .val (.int u1), .val (.int u2), .val (.long u3), .second, .val (.int ln0), .val (.int w2), .val (.int w4), .val (.ref b5), .val (.ref b11), .val (.ref b18), .val (.ref b28), .val (.int gl_52), .val (.int ff), .val (.int gl_94), .val (.int gg), .val (.long gj_94), .second, .val (.int gl_94), .val (.long w104), .second, .val (.long he), .second, .unset, .unset, .unset, .unset, .unset, .unset, .unset, .unset, .unset, .unset] [])) (fun tt kk => ?_) ?_
    · subst hhe
      show Steps p.tables e below (T102.setTop (mkF m 246 #[.val (.int u0), .val (.int u1), .val (.int u2), .val (.long u3), .second, .val (.int ln0), .val (.int w2), .val (.int w4), .val (.ref b5), .val (.ref b11), .val (.ref b18), .val (.ref b28), .val (.int gl_52), .val (.int ff), .val (.int gl_94), .val (.int gg), .val (.long gj_94), .second, .val (.int gl_94), .val (.long w104), .second, .unset, .unset, .unset, .unset, .unset, .unset, .unset, .unset, .unset, .unset, .unset, .unset] [])) tt
      refine XS.lload X102.here hx rfl (hb hby at_246) rfl ?_
      show Steps p.tables e below (T102.setTop (mkF m 248 #[.val (.int u0), .val (.int u1), .val (.int u2), .val (.long u3), .second, .val (.int ln0), .val (.int w2), .val (.int w4), .val (.ref b5), .val (.ref b11), .val (.ref b18), .val (.ref b28), .val (.int gl_52), .val (.int ff), .val (.int gl_94), .val (.int gg), .val (.long gj_94), .second, .val (.int gl_94), .val (.long w104), .second, .unset, .unset, .unset, .unset, .unset, .unset, .unset, .unset, .unset, .unset, .unset, .unset] [(.long gj_94)])) tt
      refine XS.iload X102.here hx rfl (hb hby at_248) rfl ?_
      show Steps p.tables e below (T102.setTop (mkF m 250 #[.val (.int u0), .val (.int u1), .val (.int u2), .val (.long u3), .second, .val (.int ln0), .val (.int w2), .val (.int w4), .val (.ref b5), .val (.ref b11), .val (.ref b18), .val (.ref b28), .val (.int gl_52), .val (.int ff), .val (.int gl_94), .val (.int gg), .val (.long gj_94), .second, .val (.int gl_94), .val (.long w104), .second, .unset, .unset, .unset, .unset, .unset, .unset, .unset, .unset, .unset, .unset, .unset, .unset] [(.int gl_94), (.long gj_94)])) tt
      refine XS.i2l X102.here hx rfl (hb hby at_250) rfl ?_
      show Steps p.tables e below (T102.setTop (mkF m 251 #[.val (.int u0), .val (.int u1), .val (.int u2), .val (.long u3), .second, .val (.int ln0), .val (.int w2), .val (.int w4), .val (.ref b5), .val (.ref b11), .val (.ref b18), .val (.ref b28), .val (.int gl_52), .val (.int ff), .val (.int gl_94), .val (.int gg), .val (.long gj_94), .second, .val (.int gl_94), .val (.long w104), .second, .unset, .unset, .unset, .unset, .unset, .unset, .unset, .unset, .unset, .unset, .unset, .unset] [(.long (gl_94.toInt64)), (.long gj_94)])) tt
      refine XS.ladd X102.here hx rfl (hb hby at_251) rfl ?_
      show Steps p.tables e below (T102.setTop (mkF m 252 #[.val (.int u0), .val (.int u1), .val (.int u2), .val (.long u3), .second, .val (.int ln0), .val (.int w2), .val (.int w4), .val (.ref b5), .val (.ref b11), .val (.ref b18), .val (.ref b28), .val (.int gl_52), .val (.int ff), .val (.int gl_94), .val (.int gg), .val (.long gj_94), .second, .val (.int gl_94), .val (.long w104), .second, .unset, .unset, .unset, .unset, .unset, .unset, .unset, .unset, .unset, .unset, .unset, .unset] [(.long (gj_94 + (gl_94.toInt64)))])) tt
      refine XS.lstore X102.here hx rfl (hb hby at_252) rfl (l' := #[.val (.int u0), .val (.int u1), .val (.int u2), .val (.long u3), .second, .val (.int ln0), .val (.int w2), .val (.int w4), .val (.ref b5), .val (.ref b11), .val (.ref b18), .val (.ref b28), .val (.int gl_52), .val (.int ff), .val (.int gl_94), .val (.int gg), .val (.long gj_94), .second, .val (.int gl_94), .val (.long w104), .second, .val (.long (gj_94 + (gl_94.toInt64))), .second, .unset, .unset, .unset, .unset, .unset, .unset, .unset, .unset, .unset, .unset]) rfl ?_
      exact kk
    refine Goal.to (B := T102.setTop (mkF m 259 #[.val (.int u0), .val (.int u1), .val (.int u2), .val (.long u3), .second, .val (.int ln0), .val (.int w2), .val (.int w4), .val (.ref b5), .val (.ref b11), .val (.ref b18), .val (.ref b28), .val (.int gl_52), .val (.int ff), .val (.int gl_94), .val (.int gg), .val (.long gj_94), .second, .val (.int gl_94), .val (.long w104), .second, .val (.long he), .second, .unset, .unset, .unset, .unset, .unset, .unset, .unset, .unset, .unset, .unset] [(.int (lcmpW w104 he))])) (fun tt kk => ?_) ?_
    · show Steps p.tables e below (T102.setTop (mkF m 254 #[.val (.int u0), .val (.int u1), .val (.int u2), .val (.long u3), .second, .val (.int ln0), .val (.int w2), .val (.int w4), .val (.ref b5), .val (.ref b11), .val (.ref b18), .val (.ref b28), .val (.int gl_52), .val (.int ff), .val (.int gl_94), .val (.int gg), .val (.long gj_94), .second, .val (.int gl_94), .val (.long w104), .second, .val (.long he), .second, .unset, .unset, .unset, .unset, .unset, .unset, .unset, .unset, .unset, .unset] [])) tt
      refine XS.lload X102.here hx rfl (hb hby at_254) rfl ?_
      show Steps p.tables e below (T102.setTop (mkF m 256 #[.val (.int u0), .val (.int u1), .val (.int u2), .val (.long u3), .second, .val (.int ln0), .val (.int w2), .val (.int w4), .val (.ref b5), .val (.ref b11), .val (.ref b18), .val (.ref b28), .val (.int gl_52), .val (.int ff), .val (.int gl_94), .val (.int gg), .val (.long gj_94), .second, .val (.int gl_94), .val (.long w104), .second, .val (.long he), .second, .unset, .unset, .unset, .unset, .unset, .unset, .unset, .unset, .unset, .unset] [(.long w104)])) tt
      refine XS.lload X102.here hx rfl (hb hby at_256) rfl ?_
      show Steps p.tables e below (T102.setTop (mkF m 258 #[.val (.int u0), .val (.int u1), .val (.int u2), .val (.long u3), .second, .val (.int ln0), .val (.int w2), .val (.int w4), .val (.ref b5), .val (.ref b11), .val (.ref b18), .val (.ref b28), .val (.int gl_52), .val (.int ff), .val (.int gl_94), .val (.int gg), .val (.long gj_94), .second, .val (.int gl_94), .val (.long w104), .second, .val (.long he), .second, .unset, .unset, .unset, .unset, .unset, .unset, .unset, .unset, .unset, .unset] [(.long he), (.long w104)])) tt
      refine XS.lcmp X102.here hx rfl (hb hby at_258) rfl ?_
      exact kk
    by_cases hcut : (lcmpW w104 he) < (0 : Int32)
    · have hcut' : w104 < (gj_94 + (gl_94.toInt64)) := by rw [← hhe]; exact (lw_lt _ _).mp hcut
      refine Goal.to (B := T102.setTop (mkF m 273 #[.val (.int u0), .val (.int u1), .val (.int u2), .val (.long u3), .second, .val (.int ln0), .val (.int w2), .val (.int w4), .val (.ref b5), .val (.ref b11), .val (.ref b18), .val (.ref b28), .val (.int gl_52), .val (.int ff), .val (.int gl_94), .val (.int gg), .val (.long gj_94), .second, .val (.int gl_94), .val (.long w104), .second, .val (.long he), .second, .val (.int (1 : Int32)), .unset, .unset, .unset, .unset, .unset, .unset, .unset, .unset, .unset] [(.long w104), (.long he)])) (fun tt kk => ?_) ?_
      · show Steps p.tables e below (T102.setTop (mkF m 259 #[.val (.int u0), .val (.int u1), .val (.int u2), .val (.long u3), .second, .val (.int ln0), .val (.int w2), .val (.int w4), .val (.ref b5), .val (.ref b11), .val (.ref b18), .val (.ref b28), .val (.int gl_52), .val (.int ff), .val (.int gl_94), .val (.int gg), .val (.long gj_94), .second, .val (.int gl_94), .val (.long w104), .second, .val (.long he), .second, .unset, .unset, .unset, .unset, .unset, .unset, .unset, .unset, .unset, .unset] [(.int (lcmpW w104 he))])) tt
        refine XS.ifNo X102.here hx rfl (hb hby at_259) rfl ((if0 _ _).trans (tlt hcut).2.1) ?_
        show Steps p.tables e below (T102.setTop (mkF m 262 #[.val (.int u0), .val (.int u1), .val (.int u2), .val (.long u3), .second, .val (.int ln0), .val (.int w2), .val (.int w4), .val (.ref b5), .val (.ref b11), .val (.ref b18), .val (.ref b28), .val (.int gl_52), .val (.int ff), .val (.int gl_94), .val (.int gg), .val (.long gj_94), .second, .val (.int gl_94), .val (.long w104), .second, .val (.long he), .second, .unset, .unset, .unset, .unset, .unset, .unset, .unset, .unset, .unset, .unset] [])) tt
        refine XS.iconst X102.here hx rfl (hb hby at_262) ?_
        show Steps p.tables e below (T102.setTop (mkF m 263 #[.val (.int u0), .val (.int u1), .val (.int u2), .val (.long u3), .second, .val (.int ln0), .val (.int w2), .val (.int w4), .val (.ref b5), .val (.ref b11), .val (.ref b18), .val (.ref b28), .val (.int gl_52), .val (.int ff), .val (.int gl_94), .val (.int gg), .val (.long gj_94), .second, .val (.int gl_94), .val (.long w104), .second, .val (.long he), .second, .unset, .unset, .unset, .unset, .unset, .unset, .unset, .unset, .unset, .unset] [(.int (1 : Int32))])) tt
        refine XS.goto X102.here hx rfl (pc0 := 263) (pc' := 267) rfl (hb hby at_263) (by decide) (by decide) ?_
        show Steps p.tables e below (T102.setTop (mkF m 267 #[.val (.int u0), .val (.int u1), .val (.int u2), .val (.long u3), .second, .val (.int ln0), .val (.int w2), .val (.int w4), .val (.ref b5), .val (.ref b11), .val (.ref b18), .val (.ref b28), .val (.int gl_52), .val (.int ff), .val (.int gl_94), .val (.int gg), .val (.long gj_94), .second, .val (.int gl_94), .val (.long w104), .second, .val (.long he), .second, .unset, .unset, .unset, .unset, .unset, .unset, .unset, .unset, .unset, .unset] [(.int (1 : Int32))])) tt
        refine XS.istore X102.here hx rfl (hb hby at_267) rfl (l' := #[.val (.int u0), .val (.int u1), .val (.int u2), .val (.long u3), .second, .val (.int ln0), .val (.int w2), .val (.int w4), .val (.ref b5), .val (.ref b11), .val (.ref b18), .val (.ref b28), .val (.int gl_52), .val (.int ff), .val (.int gl_94), .val (.int gg), .val (.long gj_94), .second, .val (.int gl_94), .val (.long w104), .second, .val (.long he), .second, .val (.int (1 : Int32)), .unset, .unset, .unset, .unset, .unset, .unset, .unset, .unset, .unset]) rfl ?_
        show Steps p.tables e below (T102.setTop (mkF m 269 #[.val (.int u0), .val (.int u1), .val (.int u2), .val (.long u3), .second, .val (.int ln0), .val (.int w2), .val (.int w4), .val (.ref b5), .val (.ref b11), .val (.ref b18), .val (.ref b28), .val (.int gl_52), .val (.int ff), .val (.int gl_94), .val (.int gg), .val (.long gj_94), .second, .val (.int gl_94), .val (.long w104), .second, .val (.long he), .second, .val (.int (1 : Int32)), .unset, .unset, .unset, .unset, .unset, .unset, .unset, .unset, .unset] [])) tt
        refine XS.lload X102.here hx rfl (hb hby at_269) rfl ?_
        show Steps p.tables e below (T102.setTop (mkF m 271 #[.val (.int u0), .val (.int u1), .val (.int u2), .val (.long u3), .second, .val (.int ln0), .val (.int w2), .val (.int w4), .val (.ref b5), .val (.ref b11), .val (.ref b18), .val (.ref b28), .val (.int gl_52), .val (.int ff), .val (.int gl_94), .val (.int gg), .val (.long gj_94), .second, .val (.int gl_94), .val (.long w104), .second, .val (.long he), .second, .val (.int (1 : Int32)), .unset, .unset, .unset, .unset, .unset, .unset, .unset, .unset, .unset] [(.long he)])) tt
        refine XS.lload X102.here hx rfl (hb hby at_271) rfl ?_
        exact kk
      obtain ⟨_, _, ⟨T105, L105, k105, n105⟩, -, X105, ⟨Lc105, hQ105, l105, y105, z105⟩, st105⟩ := Jvm.LawKit.callS X102 hx (y := (⟨"java/lang/Math", "min", "(JJ)J"⟩ : MethodName)) hown (mvT hZ (hw _ (mw 144 rfl))) (mvT hZ (hw _ (mw 145 rfl))) (mvT hZ (hw _ (mw 84 rfl))) (mvT hZ (hw _ (mw 146 rfl))) (by decide) (backOf (W := 0) (rmmj l Z a0 hw [] he w104 T98.heap n0 f99 ) hZ (hw _ (mw 146 rfl)) (hw _ (mw 84 rfl)) (by decide) (by decide)) (g := (mkF m 273 #[.val (.int u0), .val (.int u1), .val (.int u2), .val (.long u3), .second, .val (.int ln0), .val (.int w2), .val (.int w4), .val (.ref b5), .val (.ref b11), .val (.ref b18), .val (.ref b28), .val (.int gl_52), .val (.int ff), .val (.int gl_94), .val (.int gg), .val (.long gj_94), .second, .val (.int gl_94), .val (.long w104), .second, .val (.long he), .second, .val (.int (1 : Int32)), .unset, .unset, .unset, .unset, .unset, .unset, .unset, .unset, .unset] [(.long w104), (.long he)])) rfl (by rw [hml]; rfl) (argsL := [(.long he), (.long w104)]) (rest := []) (lenOf pd_22 rfl) rfl (by show 2 * 0 + _ ≤ _; exact Nat.le_of_eq rfl) (hb hby at_273) (fun _ _ => ⟨rfl, e102, (by decide : 6 + 0 ≤ _), (by decide : 29 + 0 ≤ _)⟩)
      dsimp only [Pt.U, Pt.locs, Pt.cells, Pt.slots] at X105 l105 y105 z105 st105 hQ105
      subst y105 z105
      obtain ⟨rfl, N105q, e105⟩ := hQ105
      have N105 := Fr.eqv l105 (Fr.app N102 N105q)
      refine Goal.to (B := T105.setTop (mkF m 276 #[.val (.int u0), .val (.int u1), .val (.int u2), .val (.long u3), .second, .val (.int ln0), .val (.int w2), .val (.int w4), .val (.ref b5), .val (.ref b11), .val (.ref b18), .val (.ref b28), .val (.int gl_52), .val (.int ff), .val (.int gl_94), .val (.int gg), .val (.long gj_94), .second, .val (.int gl_94), .val (.long w104), .second, .val (.long he), .second, .val (.int (1 : Int32)), .unset, .unset, .unset, .unset, .unset, .unset, .unset, .unset, .unset] [(.long (if (0 : Int32) < (lcmpW he w104) then w104 else he))])) st105 ?_
      refine Goal.to (B := T105.setTop (mkF m 282 #[.val (.int u0), .val (.int u1), .val (.int u2), .val (.long u3), .second, .val (.int ln0), .val (.int w2), .val (.int w4), .val (.ref b5), .val (.ref b11), .val (.ref b18), .val (.ref b28), .val (.int gl_52), .val (.int ff), .val (.int gl_94), .val (.int gg), .val (.long gj_94), .second, .val (.int gl_94), .val (.long w104), .second, .val (.long he), .second, .val (.int (1 : Int32)), .val (.long (if (0 : Int32) < (lcmpW he w104) then w104 else he)), .second, .unset, .unset, .unset, .unset, .unset, .unset, .unset] [(.long w104), (.ref b28)])) (fun tt kk => ?_) ?_
      · show Steps p.tables e below (T105.setTop (mkF m 276 #[.val (.int u0), .val (.int u1), .val (.int u2), .val (.long u3), .second, .val (.int ln0), .val (.int w2), .val (.int w4), .val (.ref b5), .val (.ref b11), .val (.ref b18), .val (.ref b28), .val (.int gl_52), .val (.int ff), .val (.int gl_94), .val (.int gg), .val (.long gj_94), .second, .val (.int gl_94), .val (.long w104), .second, .val (.long he), .second, .val (.int (1 : Int32)), .unset, .unset, .unset, .unset, .unset, .unset, .unset, .unset, .unset] [(.long (if (0 : Int32) < (lcmpW he w104) then w104 else he))])) tt
        refine XS.lstore X105.here hx rfl (hb hby at_276) rfl (l' := #[.val (.int u0), .val (.int u1), .val (.int u2), .val (.long u3), .second, .val (.int ln0), .val (.int w2), .val (.int w4), .val (.ref b5), .val (.ref b11), .val (.ref b18), .val (.ref b28), .val (.int gl_52), .val (.int ff), .val (.int gl_94), .val (.int gg), .val (.long gj_94), .second, .val (.int gl_94), .val (.long w104), .second, .val (.long he), .second, .val (.int (1 : Int32)), .val (.long (if (0 : Int32) < (lcmpW he w104) then w104 else he)), .second, .unset, .unset, .unset, .unset, .unset, .unset, .unset]) rfl ?_
        show Steps p.tables e below (T105.setTop (mkF m 278 #[.val (.int u0), .val (.int u1), .val (.int u2), .val (.long u3), .second, .val (.int ln0), .val (.int w2), .val (.int w4), .val (.ref b5), .val (.ref b11), .val (.ref b18), .val (.ref b28), .val (.int gl_52), .val (.int ff), .val (.int gl_94), .val (.int gg), .val (.long gj_94), .second, .val (.int gl_94), .val (.long w104), .second, .val (.long he), .second, .val (.int (1 : Int32)), .val (.long (if (0 : Int32) < (lcmpW he w104) then w104 else he)), .second, .unset, .unset, .unset, .unset, .unset, .unset, .unset] [])) tt
        refine XS.aload X105.here hx rfl (hb hby at_278) rfl rfl ?_
        show Steps p.tables e below (T105.setTop (mkF m 280 #[.val (.int u0), .val (.int u1), .val (.int u2), .val (.long u3), .second, .val (.int ln0), .val (.int w2), .val (.int w4), .val (.ref b5), .val (.ref b11), .val (.ref b18), .val (.ref b28), .val (.int gl_52), .val (.int ff), .val (.int gl_94), .val (.int gg), .val (.long gj_94), .second, .val (.int gl_94), .val (.long w104), .second, .val (.long he), .second, .val (.int (1 : Int32)), .val (.long (if (0 : Int32) < (lcmpW he w104) then w104 else he)), .second, .unset, .unset, .unset, .unset, .unset, .unset, .unset] [(.ref b28)])) tt
        refine XS.lload X105.here hx rfl (hb hby at_280) rfl ?_
        exact kk
      obtain ⟨cq106, kq106, q106a, q106b, q106c⟩ := isOf hZ e105 f101
      obtain ⟨_, _, ⟨T106, L106, k106, n106⟩, -, X106, ⟨Lc106, hQ106, l106, y106, z106⟩, st106⟩ := X105.virtualBack hx (y := (⟨"com/example/pattern_automaton/patternautomaton/CharBlock", "cutTo", "(J)V"⟩ : MethodName)) (z := (⟨"com/example/pattern_automaton/patternautomaton/CharBlock", "cutTo", "(J)V"⟩ : MethodName)) hown (mvT hZ (hw _ (mw 147 rfl))) (mvT hZ (hw _ (mw 148 rfl))) (notFace_of_selects (args := #[]) (mvT hZ (hw _ (mw 150 rfl)))) (mvT hZ (hw _ (mw 150 rfl))) (mvT hZ (hw _ (mw 149 rfl))) (by decide) (backOf (W := 0) (rmct1 l Z a0 hw [] b28 vc_35 gl_94 gg gj_94 w104 T98.heap n0 f99 f101 P98_0 P98_1 P98_2 P98_3 g_b28 ((lw_gt _ _).mpr hcut')) hZ (hw _ (mw 151 rfl)) (hw _ (mw 57 rfl)) (by decide) (by decide)) q106a q106c (g := (mkF m 282 #[.val (.int u0), .val (.int u1), .val (.int u2), .val (.long u3), .second, .val (.int ln0), .val (.int w2), .val (.int w4), .val (.ref b5), .val (.ref b11), .val (.ref b18), .val (.ref b28), .val (.int gl_52), .val (.int ff), .val (.int gl_94), .val (.int gg), .val (.long gj_94), .second, .val (.int gl_94), .val (.long w104), .second, .val (.long he), .second, .val (.int (1 : Int32)), .val (.long (if (0 : Int32) < (lcmpW he w104) then w104 else he)), .second, .unset, .unset, .unset, .unset, .unset, .unset, .unset] [(.long w104), (.ref b28)])) rfl (by rw [hml]; rfl) (Steps.refl _) (argsL := [(.long w104)]) (rest := []) (lenOf pd_23 rfl) rfl (by show 2 * 0 + _ ≤ _; exact Nat.le_of_eq rfl) (hb hby at_282) (fun _ _ => ⟨rfl, e105, (by decide : 6 + 0 ≤ _), (by decide : 29 + 0 ≤ _)⟩)
      dsimp only [Pt.U, Pt.locs, Pt.cells, Pt.slots] at X106 l106 y106 z106 st106 hQ106
      subst y106 z106
      obtain ⟨rfl, N106q, K106, P106_0, P106_1, P106_2, P106_3⟩ := hQ106
      have N106 := Fr.eqv l106 (Fr.app N105 N106q)
      refine Goal.tr (B := T106.setTop (mkF m 285 #[.val (.int u0), .val (.int u1), .val (.int u2), .val (.long u3), .second, .val (.int ln0), .val (.int w2), .val (.int w4), .val (.ref b5), .val (.ref b11), .val (.ref b18), .val (.ref b28), .val (.int gl_52), .val (.int ff), .val (.int gl_94), .val (.int gg), .val (.long gj_94), .second, .val (.int gl_94), .val (.long w104), .second, .val (.long he), .second, .val (.int (1 : Int32)), .val (.long (if (0 : Int32) < (lcmpW he w104) then w104 else he)), .second, .unset, .unset, .unset, .unset, .unset, .unset, .unset] [])) st106 ?_
      refine Goal.to (B := T106.setTop (mkF m 287 #[.val (.int u0), .val (.int u1), .val (.int u2), .val (.long u3), .second, .val (.int ln0), .val (.int w2), .val (.int w4), .val (.ref b5), .val (.ref b11), .val (.ref b18), .val (.ref b28), .val (.int gl_52), .val (.int ff), .val (.int gl_94), .val (.int gg), .val (.long gj_94), .second, .val (.int gl_94), .val (.long w104), .second, .val (.long he), .second, .val (.int (1 : Int32)), .val (.long (if (0 : Int32) < (lcmpW he w104) then w104 else he)), .second, .unset, .unset, .unset, .unset, .unset, .unset, .unset] [(.ref b28)])) (fun tt kk => ?_) ?_
      · show Steps p.tables e below (T106.setTop (mkF m 285 #[.val (.int u0), .val (.int u1), .val (.int u2), .val (.long u3), .second, .val (.int ln0), .val (.int w2), .val (.int w4), .val (.ref b5), .val (.ref b11), .val (.ref b18), .val (.ref b28), .val (.int gl_52), .val (.int ff), .val (.int gl_94), .val (.int gg), .val (.long gj_94), .second, .val (.int gl_94), .val (.long w104), .second, .val (.long he), .second, .val (.int (1 : Int32)), .val (.long (if (0 : Int32) < (lcmpW he w104) then w104 else he)), .second, .unset, .unset, .unset, .unset, .unset, .unset, .unset] [])) tt
        refine XS.aload X106.here hx rfl (hb hby at_285) rfl rfl ?_
        exact kk
      have f107 : n0 ≤ T106.heap.size := (Nat.le_trans f99 K106.1)
      have f109 : Exa Z T106.heap b28 "com/example/pattern_automaton/patternautomaton/CharBlock" := (f101.keep K106)
      obtain ⟨cq108, kq108, q108a, q108b, q108c⟩ := isOf hZ rfl f109
      obtain ⟨_, _, ⟨T108, L108, k108, n108⟩, -, X108, ⟨Lc108, hQ108, l108, y108, z108⟩, st108⟩ := X106.virtualBack hx (y := (⟨"com/example/pattern_automaton/patternautomaton/CharBlock", "start", "()J"⟩ : MethodName)) (z := (⟨"com/example/pattern_automaton/patternautomaton/CharBlock", "start", "()J"⟩ : MethodName)) hown (mvT hZ (hw _ (mw 137 rfl))) (mvT hZ (hw _ (mw 138 rfl))) (notFace_of_selects (args := #[]) (mvT hZ (hw _ (mw 140 rfl)))) (mvT hZ (hw _ (mw 140 rfl))) (mvT hZ (hw _ (mw 139 rfl))) (by decide) (backOf (W := 0) (rmsj l Z a0 hw [] b28 gj_94 T106.heap n0 f107 P106_3) hZ (hw _ (mw 141 rfl)) (hw _ (mw 57 rfl)) (by decide) (by decide)) q108a q108c (g := (mkF m 287 #[.val (.int u0), .val (.int u1), .val (.int u2), .val (.long u3), .second, .val (.int ln0), .val (.int w2), .val (.int w4), .val (.ref b5), .val (.ref b11), .val (.ref b18), .val (.ref b28), .val (.int gl_52), .val (.int ff), .val (.int gl_94), .val (.int gg), .val (.long gj_94), .second, .val (.int gl_94), .val (.long w104), .second, .val (.long he), .second, .val (.int (1 : Int32)), .val (.long (if (0 : Int32) < (lcmpW he w104) then w104 else he)), .second, .unset, .unset, .unset, .unset, .unset, .unset, .unset] [(.ref b28)])) rfl (by rw [hml]; rfl) (Steps.refl _) (argsL := []) (rest := []) (lenOf pd_21 rfl) rfl (by show 2 * 0 + _ ≤ _; exact Nat.le_of_eq rfl) (hb hby at_287) (fun _ _ => ⟨rfl, rfl, (by decide : 6 + 0 ≤ _), (by decide : 29 + 0 ≤ _)⟩)
      dsimp only [Pt.U, Pt.locs, Pt.cells, Pt.slots] at X108 l108 y108 z108 st108 hQ108
      subst y108 z108
      obtain ⟨rfl, N108q, e108⟩ := hQ108
      have N108 := Fr.eqv l108 (Fr.app N106 N108q)
      refine Goal.tr (B := T108.setTop (mkF m 290 #[.val (.int u0), .val (.int u1), .val (.int u2), .val (.long u3), .second, .val (.int ln0), .val (.int w2), .val (.int w4), .val (.ref b5), .val (.ref b11), .val (.ref b18), .val (.ref b28), .val (.int gl_52), .val (.int ff), .val (.int gl_94), .val (.int gg), .val (.long gj_94), .second, .val (.int gl_94), .val (.long w104), .second, .val (.long he), .second, .val (.int (1 : Int32)), .val (.long (if (0 : Int32) < (lcmpW he w104) then w104 else he)), .second, .unset, .unset, .unset, .unset, .unset, .unset, .unset] [(.long gj_94)])) st108 ?_
      refine Goal.to (B := T108.setTop (mkF m 294 #[.val (.int u0), .val (.int u1), .val (.int u2), .val (.long u3), .second, .val (.int ln0), .val (.int w2), .val (.int w4), .val (.ref b5), .val (.ref b11), .val (.ref b18), .val (.ref b28), .val (.int gl_52), .val (.int ff), .val (.int gl_94), .val (.int gg), .val (.long gj_94), .second, .val (.int gl_94), .val (.long w104), .second, .val (.long he), .second, .val (.int (1 : Int32)), .val (.long (if (0 : Int32) < (lcmpW he w104) then w104 else he)), .second, .val (.long gj_94), .second, .unset, .unset, .unset, .unset, .unset] [(.ref b28)])) (fun tt kk => ?_) ?_
      · show Steps p.tables e below (T108.setTop (mkF m 290 #[.val (.int u0), .val (.int u1), .val (.int u2), .val (.long u3), .second, .val (.int ln0), .val (.int w2), .val (.int w4), .val (.ref b5), .val (.ref b11), .val (.ref b18), .val (.ref b28), .val (.int gl_52), .val (.int ff), .val (.int gl_94), .val (.int gg), .val (.long gj_94), .second, .val (.int gl_94), .val (.long w104), .second, .val (.long he), .second, .val (.int (1 : Int32)), .val (.long (if (0 : Int32) < (lcmpW he w104) then w104 else he)), .second, .unset, .unset, .unset, .unset, .unset, .unset, .unset] [(.long gj_94)])) tt
        refine XS.lstore X108.here hx rfl (hb hby at_290) rfl (l' := #[.val (.int u0), .val (.int u1), .val (.int u2), .val (.long u3), .second, .val (.int ln0), .val (.int w2), .val (.int w4), .val (.ref b5), .val (.ref b11), .val (.ref b18), .val (.ref b28), .val (.int gl_52), .val (.int ff), .val (.int gl_94), .val (.int gg), .val (.long gj_94), .second, .val (.int gl_94), .val (.long w104), .second, .val (.long he), .second, .val (.int (1 : Int32)), .val (.long (if (0 : Int32) < (lcmpW he w104) then w104 else he)), .second, .val (.long gj_94), .second, .unset, .unset, .unset, .unset, .unset]) rfl ?_
        show Steps p.tables e below (T108.setTop (mkF m 292 #[.val (.int u0), .val (.int u1), .val (.int u2), .val (.long u3), .second, .val (.int ln0), .val (.int w2), .val (.int w4), .val (.ref b5), .val (.ref b11), .val (.ref b18), .val (.ref b28), .val (.int gl_52), .val (.int ff), .val (.int gl_94), .val (.int gg), .val (.long gj_94), .second, .val (.int gl_94), .val (.long w104), .second, .val (.long he), .second, .val (.int (1 : Int32)), .val (.long (if (0 : Int32) < (lcmpW he w104) then w104 else he)), .second, .val (.long gj_94), .second, .unset, .unset, .unset, .unset, .unset] [])) tt
        refine XS.aload X108.here hx rfl (hb hby at_292) rfl rfl ?_
        exact kk
      obtain ⟨cq110, kq110, q110a, q110b, q110c⟩ := isOf hZ e108 f109
      obtain ⟨_, _, ⟨T110, L110, k110, n110⟩, -, X110, ⟨Lc110, hQ110, l110, y110, z110⟩, st110⟩ := X108.virtualBack hx (y := (⟨"com/example/pattern_automaton/patternautomaton/CharBlock", "filled", "()I"⟩ : MethodName)) (z := (⟨"com/example/pattern_automaton/patternautomaton/CharBlock", "filled", "()I"⟩ : MethodName)) hown (mvT hZ (hw _ (mw 124 rfl))) (mvT hZ (hw _ (mw 125 rfl))) (notFace_of_selects (args := #[]) (mvT hZ (hw _ (mw 127 rfl)))) (mvT hZ (hw _ (mw 127 rfl))) (mvT hZ (hw _ (mw 126 rfl))) (by decide) (backOf (W := 0) (rmfd l Z a0 hw [] b28 ((w104 - gj_94).toInt32) T106.heap n0 f107 P106_1) hZ (hw _ (mw 128 rfl)) (hw _ (mw 57 rfl)) (by decide) (by decide)) q110a q110c (g := (mkF m 294 #[.val (.int u0), .val (.int u1), .val (.int u2), .val (.long u3), .second, .val (.int ln0), .val (.int w2), .val (.int w4), .val (.ref b5), .val (.ref b11), .val (.ref b18), .val (.ref b28), .val (.int gl_52), .val (.int ff), .val (.int gl_94), .val (.int gg), .val (.long gj_94), .second, .val (.int gl_94), .val (.long w104), .second, .val (.long he), .second, .val (.int (1 : Int32)), .val (.long (if (0 : Int32) < (lcmpW he w104) then w104 else he)), .second, .val (.long gj_94), .second, .unset, .unset, .unset, .unset, .unset] [(.ref b28)])) rfl (by rw [hml]; rfl) (Steps.refl _) (argsL := []) (rest := []) (lenOf pd_7 rfl) rfl (by show 2 * 0 + _ ≤ _; exact Nat.le_of_eq rfl) (hb hby at_294) (fun _ _ => ⟨rfl, e108, (by decide : 6 + 0 ≤ _), (by decide : 29 + 0 ≤ _)⟩)
      dsimp only [Pt.U, Pt.locs, Pt.cells, Pt.slots] at X110 l110 y110 z110 st110 hQ110
      subst y110 z110
      obtain ⟨rfl, N110q, e110⟩ := hQ110
      have N110 := Fr.eqv l110 (Fr.app N108 N110q)
      refine Goal.tr (B := T110.setTop (mkF m 297 #[.val (.int u0), .val (.int u1), .val (.int u2), .val (.long u3), .second, .val (.int ln0), .val (.int w2), .val (.int w4), .val (.ref b5), .val (.ref b11), .val (.ref b18), .val (.ref b28), .val (.int gl_52), .val (.int ff), .val (.int gl_94), .val (.int gg), .val (.long gj_94), .second, .val (.int gl_94), .val (.long w104), .second, .val (.long he), .second, .val (.int (1 : Int32)), .val (.long (if (0 : Int32) < (lcmpW he w104) then w104 else he)), .second, .val (.long gj_94), .second, .unset, .unset, .unset, .unset, .unset] [(.int ((w104 - gj_94).toInt32))])) st110 ?_
      refine Goal.to (B := T110.setTop (mkF m 301 #[.val (.int u0), .val (.int u1), .val (.int u2), .val (.long u3), .second, .val (.int ln0), .val (.int w2), .val (.int w4), .val (.ref b5), .val (.ref b11), .val (.ref b18), .val (.ref b28), .val (.int gl_52), .val (.int ff), .val (.int gl_94), .val (.int gg), .val (.long gj_94), .second, .val (.int gl_94), .val (.long w104), .second, .val (.long he), .second, .val (.int (1 : Int32)), .val (.long (if (0 : Int32) < (lcmpW he w104) then w104 else he)), .second, .val (.long gj_94), .second, .val (.int ((w104 - gj_94).toInt32)), .unset, .unset, .unset, .unset] [(.ref b28)])) (fun tt kk => ?_) ?_
      · show Steps p.tables e below (T110.setTop (mkF m 297 #[.val (.int u0), .val (.int u1), .val (.int u2), .val (.long u3), .second, .val (.int ln0), .val (.int w2), .val (.int w4), .val (.ref b5), .val (.ref b11), .val (.ref b18), .val (.ref b28), .val (.int gl_52), .val (.int ff), .val (.int gl_94), .val (.int gg), .val (.long gj_94), .second, .val (.int gl_94), .val (.long w104), .second, .val (.long he), .second, .val (.int (1 : Int32)), .val (.long (if (0 : Int32) < (lcmpW he w104) then w104 else he)), .second, .val (.long gj_94), .second, .unset, .unset, .unset, .unset, .unset] [(.int ((w104 - gj_94).toInt32))])) tt
        refine XS.istore X110.here hx rfl (hb hby at_297) rfl (l' := #[.val (.int u0), .val (.int u1), .val (.int u2), .val (.long u3), .second, .val (.int ln0), .val (.int w2), .val (.int w4), .val (.ref b5), .val (.ref b11), .val (.ref b18), .val (.ref b28), .val (.int gl_52), .val (.int ff), .val (.int gl_94), .val (.int gg), .val (.long gj_94), .second, .val (.int gl_94), .val (.long w104), .second, .val (.long he), .second, .val (.int (1 : Int32)), .val (.long (if (0 : Int32) < (lcmpW he w104) then w104 else he)), .second, .val (.long gj_94), .second, .val (.int ((w104 - gj_94).toInt32)), .unset, .unset, .unset, .unset]) rfl ?_
        show Steps p.tables e below (T110.setTop (mkF m 299 #[.val (.int u0), .val (.int u1), .val (.int u2), .val (.long u3), .second, .val (.int ln0), .val (.int w2), .val (.int w4), .val (.ref b5), .val (.ref b11), .val (.ref b18), .val (.ref b28), .val (.int gl_52), .val (.int ff), .val (.int gl_94), .val (.int gg), .val (.long gj_94), .second, .val (.int gl_94), .val (.long w104), .second, .val (.long he), .second, .val (.int (1 : Int32)), .val (.long (if (0 : Int32) < (lcmpW he w104) then w104 else he)), .second, .val (.long gj_94), .second, .val (.int ((w104 - gj_94).toInt32)), .unset, .unset, .unset, .unset] [])) tt
        refine XS.aload X110.here hx rfl (hb hby at_299) rfl rfl ?_
        exact kk
      obtain ⟨cq111, kq111, q111a, q111b, q111c⟩ := isOf hZ e110 f109
      obtain ⟨_, _, ⟨T111, L111, k111, n111⟩, -, X111, ⟨Lc111, hQ111, l111, y111, z111⟩, st111⟩ := X110.virtualBack hx (y := (⟨"com/example/pattern_automaton/patternautomaton/CharBlock", "from", "()I"⟩ : MethodName)) (z := (⟨"com/example/pattern_automaton/patternautomaton/CharBlock", "from", "()I"⟩ : MethodName)) hown (mvT hZ (hw _ (mw 152 rfl))) (mvT hZ (hw _ (mw 153 rfl))) (notFace_of_selects (args := #[]) (mvT hZ (hw _ (mw 155 rfl)))) (mvT hZ (hw _ (mw 155 rfl))) (mvT hZ (hw _ (mw 154 rfl))) (by decide) (backOf (W := 0) (rmfr l Z a0 hw [] b28 ((w104 - gj_94).toInt32) T106.heap n0 f107 P106_2) hZ (hw _ (mw 156 rfl)) (hw _ (mw 57 rfl)) (by decide) (by decide)) q111a q111c (g := (mkF m 301 #[.val (.int u0), .val (.int u1), .val (.int u2), .val (.long u3), .second, .val (.int ln0), .val (.int w2), .val (.int w4), .val (.ref b5), .val (.ref b11), .val (.ref b18), .val (.ref b28), .val (.int gl_52), .val (.int ff), .val (.int gl_94), .val (.int gg), .val (.long gj_94), .second, .val (.int gl_94), .val (.long w104), .second, .val (.long he), .second, .val (.int (1 : Int32)), .val (.long (if (0 : Int32) < (lcmpW he w104) then w104 else he)), .second, .val (.long gj_94), .second, .val (.int ((w104 - gj_94).toInt32)), .unset, .unset, .unset, .unset] [(.ref b28)])) rfl (by rw [hml]; rfl) (Steps.refl _) (argsL := []) (rest := []) (lenOf pd_7 rfl) rfl (by show 2 * 0 + _ ≤ _; exact Nat.le_of_eq rfl) (hb hby at_301) (fun _ _ => ⟨rfl, e110, (by decide : 6 + 0 ≤ _), (by decide : 29 + 0 ≤ _)⟩)
      dsimp only [Pt.U, Pt.locs, Pt.cells, Pt.slots] at X111 l111 y111 z111 st111 hQ111
      subst y111 z111
      obtain ⟨rfl, N111q, e111⟩ := hQ111
      have N111 := Fr.eqv l111 (Fr.app N110 N111q)
      refine Goal.tr (B := T111.setTop (mkF m 304 #[.val (.int u0), .val (.int u1), .val (.int u2), .val (.long u3), .second, .val (.int ln0), .val (.int w2), .val (.int w4), .val (.ref b5), .val (.ref b11), .val (.ref b18), .val (.ref b28), .val (.int gl_52), .val (.int ff), .val (.int gl_94), .val (.int gg), .val (.long gj_94), .second, .val (.int gl_94), .val (.long w104), .second, .val (.long he), .second, .val (.int (1 : Int32)), .val (.long (if (0 : Int32) < (lcmpW he w104) then w104 else he)), .second, .val (.long gj_94), .second, .val (.int ((w104 - gj_94).toInt32)), .unset, .unset, .unset, .unset] [(.int ((w104 - gj_94).toInt32))])) st111 ?_
      refine Goal.to (B := T111.setTop (mkF m 384 #[.val (.int u0), .val (.int u1), .val (.int u2), .val (.long u3), .second, .val (.int ln0), .val (.int w2), .val (.int w4), .val (.ref b5), .val (.ref b11), .val (.ref b18), .val (.ref b28), .val (.int gl_52), .val (.int ff), .val (.int gl_94), .val (.int gg), .val (.long gj_94), .second, .val (.int gl_94), .val (.long w104), .second, .val (.long he), .second, .val (.int (1 : Int32)), .val (.long (if (0 : Int32) < (lcmpW he w104) then w104 else he)), .second, .val (.long gj_94), .second, .val (.int ((w104 - gj_94).toInt32)), .val (.int ((w104 - gj_94).toInt32)), .val (.int (1 : Int32)), .val (.int (1 : Int32)), .val (.int (1 : Int32))] [(.int (1 : Int32))])) (fun tt kk => ?_) ?_
      · show Steps p.tables e below (T111.setTop (mkF m 304 #[.val (.int u0), .val (.int u1), .val (.int u2), .val (.long u3), .second, .val (.int ln0), .val (.int w2), .val (.int w4), .val (.ref b5), .val (.ref b11), .val (.ref b18), .val (.ref b28), .val (.int gl_52), .val (.int ff), .val (.int gl_94), .val (.int gg), .val (.long gj_94), .second, .val (.int gl_94), .val (.long w104), .second, .val (.long he), .second, .val (.int (1 : Int32)), .val (.long (if (0 : Int32) < (lcmpW he w104) then w104 else he)), .second, .val (.long gj_94), .second, .val (.int ((w104 - gj_94).toInt32)), .unset, .unset, .unset, .unset] [(.int ((w104 - gj_94).toInt32))])) tt
        refine XS.istore X111.here hx rfl (hb hby at_304) rfl (l' := #[.val (.int u0), .val (.int u1), .val (.int u2), .val (.long u3), .second, .val (.int ln0), .val (.int w2), .val (.int w4), .val (.ref b5), .val (.ref b11), .val (.ref b18), .val (.ref b28), .val (.int gl_52), .val (.int ff), .val (.int gl_94), .val (.int gg), .val (.long gj_94), .second, .val (.int gl_94), .val (.long w104), .second, .val (.long he), .second, .val (.int (1 : Int32)), .val (.long (if (0 : Int32) < (lcmpW he w104) then w104 else he)), .second, .val (.long gj_94), .second, .val (.int ((w104 - gj_94).toInt32)), .val (.int ((w104 - gj_94).toInt32)), .unset, .unset, .unset]) rfl ?_
        show Steps p.tables e below (T111.setTop (mkF m 306 #[.val (.int u0), .val (.int u1), .val (.int u2), .val (.long u3), .second, .val (.int ln0), .val (.int w2), .val (.int w4), .val (.ref b5), .val (.ref b11), .val (.ref b18), .val (.ref b28), .val (.int gl_52), .val (.int ff), .val (.int gl_94), .val (.int gg), .val (.long gj_94), .second, .val (.int gl_94), .val (.long w104), .second, .val (.long he), .second, .val (.int (1 : Int32)), .val (.long (if (0 : Int32) < (lcmpW he w104) then w104 else he)), .second, .val (.long gj_94), .second, .val (.int ((w104 - gj_94).toInt32)), .val (.int ((w104 - gj_94).toInt32)), .unset, .unset, .unset] [])) tt
        refine XS.lload X111.here hx rfl (hb hby at_306) rfl ?_
        show Steps p.tables e below (T111.setTop (mkF m 308 #[.val (.int u0), .val (.int u1), .val (.int u2), .val (.long u3), .second, .val (.int ln0), .val (.int w2), .val (.int w4), .val (.ref b5), .val (.ref b11), .val (.ref b18), .val (.ref b28), .val (.int gl_52), .val (.int ff), .val (.int gl_94), .val (.int gg), .val (.long gj_94), .second, .val (.int gl_94), .val (.long w104), .second, .val (.long he), .second, .val (.int (1 : Int32)), .val (.long (if (0 : Int32) < (lcmpW he w104) then w104 else he)), .second, .val (.long gj_94), .second, .val (.int ((w104 - gj_94).toInt32)), .val (.int ((w104 - gj_94).toInt32)), .unset, .unset, .unset] [(.long gj_94)])) tt
        refine XS.lload X111.here hx rfl (hb hby at_308) rfl ?_
        show Steps p.tables e below (T111.setTop (mkF m 310 #[.val (.int u0), .val (.int u1), .val (.int u2), .val (.long u3), .second, .val (.int ln0), .val (.int w2), .val (.int w4), .val (.ref b5), .val (.ref b11), .val (.ref b18), .val (.ref b28), .val (.int gl_52), .val (.int ff), .val (.int gl_94), .val (.int gg), .val (.long gj_94), .second, .val (.int gl_94), .val (.long w104), .second, .val (.long he), .second, .val (.int (1 : Int32)), .val (.long (if (0 : Int32) < (lcmpW he w104) then w104 else he)), .second, .val (.long gj_94), .second, .val (.int ((w104 - gj_94).toInt32)), .val (.int ((w104 - gj_94).toInt32)), .unset, .unset, .unset] [(.long gj_94), (.long gj_94)])) tt
        refine XS.lcmp X111.here hx rfl (hb hby at_310) rfl ?_
        show Steps p.tables e below (T111.setTop (mkF m 311 #[.val (.int u0), .val (.int u1), .val (.int u2), .val (.long u3), .second, .val (.int ln0), .val (.int w2), .val (.int w4), .val (.ref b5), .val (.ref b11), .val (.ref b18), .val (.ref b28), .val (.int gl_52), .val (.int ff), .val (.int gl_94), .val (.int gg), .val (.long gj_94), .second, .val (.int gl_94), .val (.long w104), .second, .val (.long he), .second, .val (.int (1 : Int32)), .val (.long (if (0 : Int32) < (lcmpW he w104) then w104 else he)), .second, .val (.long gj_94), .second, .val (.int ((w104 - gj_94).toInt32)), .val (.int ((w104 - gj_94).toInt32)), .unset, .unset, .unset] [(.int (lcmpW gj_94 gj_94))])) tt
        refine XS.ifNo X111.here hx rfl (hb hby at_311) rfl ((if0 _ _).trans (teq ((lw_eq _ _).mpr rfl : (lcmpW gj_94 gj_94) = (0 : Int32))).2) ?_
        show Steps p.tables e below (T111.setTop (mkF m 314 #[.val (.int u0), .val (.int u1), .val (.int u2), .val (.long u3), .second, .val (.int ln0), .val (.int w2), .val (.int w4), .val (.ref b5), .val (.ref b11), .val (.ref b18), .val (.ref b28), .val (.int gl_52), .val (.int ff), .val (.int gl_94), .val (.int gg), .val (.long gj_94), .second, .val (.int gl_94), .val (.long w104), .second, .val (.long he), .second, .val (.int (1 : Int32)), .val (.long (if (0 : Int32) < (lcmpW he w104) then w104 else he)), .second, .val (.long gj_94), .second, .val (.int ((w104 - gj_94).toInt32)), .val (.int ((w104 - gj_94).toInt32)), .unset, .unset, .unset] [])) tt
        refine XS.iconst X111.here hx rfl (hb hby at_314) ?_
        show Steps p.tables e below (T111.setTop (mkF m 315 #[.val (.int u0), .val (.int u1), .val (.int u2), .val (.long u3), .second, .val (.int ln0), .val (.int w2), .val (.int w4), .val (.ref b5), .val (.ref b11), .val (.ref b18), .val (.ref b28), .val (.int gl_52), .val (.int ff), .val (.int gl_94), .val (.int gg), .val (.long gj_94), .second, .val (.int gl_94), .val (.long w104), .second, .val (.long he), .second, .val (.int (1 : Int32)), .val (.long (if (0 : Int32) < (lcmpW he w104) then w104 else he)), .second, .val (.long gj_94), .second, .val (.int ((w104 - gj_94).toInt32)), .val (.int ((w104 - gj_94).toInt32)), .unset, .unset, .unset] [(.int (1 : Int32))])) tt
        refine XS.goto X111.here hx rfl (pc0 := 315) (pc' := 319) rfl (hb hby at_315) (by decide) (by decide) ?_
        show Steps p.tables e below (T111.setTop (mkF m 319 #[.val (.int u0), .val (.int u1), .val (.int u2), .val (.long u3), .second, .val (.int ln0), .val (.int w2), .val (.int w4), .val (.ref b5), .val (.ref b11), .val (.ref b18), .val (.ref b28), .val (.int gl_52), .val (.int ff), .val (.int gl_94), .val (.int gg), .val (.long gj_94), .second, .val (.int gl_94), .val (.long w104), .second, .val (.long he), .second, .val (.int (1 : Int32)), .val (.long (if (0 : Int32) < (lcmpW he w104) then w104 else he)), .second, .val (.long gj_94), .second, .val (.int ((w104 - gj_94).toInt32)), .val (.int ((w104 - gj_94).toInt32)), .unset, .unset, .unset] [(.int (1 : Int32))])) tt
        refine XS.istore X111.here hx rfl (hb hby at_319) rfl (l' := #[.val (.int u0), .val (.int u1), .val (.int u2), .val (.long u3), .second, .val (.int ln0), .val (.int w2), .val (.int w4), .val (.ref b5), .val (.ref b11), .val (.ref b18), .val (.ref b28), .val (.int gl_52), .val (.int ff), .val (.int gl_94), .val (.int gg), .val (.long gj_94), .second, .val (.int gl_94), .val (.long w104), .second, .val (.long he), .second, .val (.int (1 : Int32)), .val (.long (if (0 : Int32) < (lcmpW he w104) then w104 else he)), .second, .val (.long gj_94), .second, .val (.int ((w104 - gj_94).toInt32)), .val (.int ((w104 - gj_94).toInt32)), .val (.int (1 : Int32)), .unset, .unset]) rfl ?_
        show Steps p.tables e below (T111.setTop (mkF m 321 #[.val (.int u0), .val (.int u1), .val (.int u2), .val (.long u3), .second, .val (.int ln0), .val (.int w2), .val (.int w4), .val (.ref b5), .val (.ref b11), .val (.ref b18), .val (.ref b28), .val (.int gl_52), .val (.int ff), .val (.int gl_94), .val (.int gg), .val (.long gj_94), .second, .val (.int gl_94), .val (.long w104), .second, .val (.long he), .second, .val (.int (1 : Int32)), .val (.long (if (0 : Int32) < (lcmpW he w104) then w104 else he)), .second, .val (.long gj_94), .second, .val (.int ((w104 - gj_94).toInt32)), .val (.int ((w104 - gj_94).toInt32)), .val (.int (1 : Int32)), .unset, .unset] [])) tt
        refine XS.lload X111.here hx rfl (hb hby at_321) rfl ?_
        show Steps p.tables e below (T111.setTop (mkF m 323 #[.val (.int u0), .val (.int u1), .val (.int u2), .val (.long u3), .second, .val (.int ln0), .val (.int w2), .val (.int w4), .val (.ref b5), .val (.ref b11), .val (.ref b18), .val (.ref b28), .val (.int gl_52), .val (.int ff), .val (.int gl_94), .val (.int gg), .val (.long gj_94), .second, .val (.int gl_94), .val (.long w104), .second, .val (.long he), .second, .val (.int (1 : Int32)), .val (.long (if (0 : Int32) < (lcmpW he w104) then w104 else he)), .second, .val (.long gj_94), .second, .val (.int ((w104 - gj_94).toInt32)), .val (.int ((w104 - gj_94).toInt32)), .val (.int (1 : Int32)), .unset, .unset] [(.long gj_94)])) tt
        refine XS.iload X111.here hx rfl (hb hby at_323) rfl ?_
        show Steps p.tables e below (T111.setTop (mkF m 325 #[.val (.int u0), .val (.int u1), .val (.int u2), .val (.long u3), .second, .val (.int ln0), .val (.int w2), .val (.int w4), .val (.ref b5), .val (.ref b11), .val (.ref b18), .val (.ref b28), .val (.int gl_52), .val (.int ff), .val (.int gl_94), .val (.int gg), .val (.long gj_94), .second, .val (.int gl_94), .val (.long w104), .second, .val (.long he), .second, .val (.int (1 : Int32)), .val (.long (if (0 : Int32) < (lcmpW he w104) then w104 else he)), .second, .val (.long gj_94), .second, .val (.int ((w104 - gj_94).toInt32)), .val (.int ((w104 - gj_94).toInt32)), .val (.int (1 : Int32)), .unset, .unset] [(.int ((w104 - gj_94).toInt32)), (.long gj_94)])) tt
        refine XS.i2l X111.here hx rfl (hb hby at_325) rfl ?_
        show Steps p.tables e below (T111.setTop (mkF m 326 #[.val (.int u0), .val (.int u1), .val (.int u2), .val (.long u3), .second, .val (.int ln0), .val (.int w2), .val (.int w4), .val (.ref b5), .val (.ref b11), .val (.ref b18), .val (.ref b28), .val (.int gl_52), .val (.int ff), .val (.int gl_94), .val (.int gg), .val (.long gj_94), .second, .val (.int gl_94), .val (.long w104), .second, .val (.long he), .second, .val (.int (1 : Int32)), .val (.long (if (0 : Int32) < (lcmpW he w104) then w104 else he)), .second, .val (.long gj_94), .second, .val (.int ((w104 - gj_94).toInt32)), .val (.int ((w104 - gj_94).toInt32)), .val (.int (1 : Int32)), .unset, .unset] [(.long (((w104 - gj_94).toInt32).toInt64)), (.long gj_94)])) tt
        refine XS.ladd X111.here hx rfl (hb hby at_326) rfl ?_
        show Steps p.tables e below (T111.setTop (mkF m 327 #[.val (.int u0), .val (.int u1), .val (.int u2), .val (.long u3), .second, .val (.int ln0), .val (.int w2), .val (.int w4), .val (.ref b5), .val (.ref b11), .val (.ref b18), .val (.ref b28), .val (.int gl_52), .val (.int ff), .val (.int gl_94), .val (.int gg), .val (.long gj_94), .second, .val (.int gl_94), .val (.long w104), .second, .val (.long he), .second, .val (.int (1 : Int32)), .val (.long (if (0 : Int32) < (lcmpW he w104) then w104 else he)), .second, .val (.long gj_94), .second, .val (.int ((w104 - gj_94).toInt32)), .val (.int ((w104 - gj_94).toInt32)), .val (.int (1 : Int32)), .unset, .unset] [(.long (gj_94 + (((w104 - gj_94).toInt32).toInt64)))])) tt
        refine XS.lload X111.here hx rfl (hb hby at_327) rfl ?_
        show Steps p.tables e below (T111.setTop (mkF m 329 #[.val (.int u0), .val (.int u1), .val (.int u2), .val (.long u3), .second, .val (.int ln0), .val (.int w2), .val (.int w4), .val (.ref b5), .val (.ref b11), .val (.ref b18), .val (.ref b28), .val (.int gl_52), .val (.int ff), .val (.int gl_94), .val (.int gg), .val (.long gj_94), .second, .val (.int gl_94), .val (.long w104), .second, .val (.long he), .second, .val (.int (1 : Int32)), .val (.long (if (0 : Int32) < (lcmpW he w104) then w104 else he)), .second, .val (.long gj_94), .second, .val (.int ((w104 - gj_94).toInt32)), .val (.int ((w104 - gj_94).toInt32)), .val (.int (1 : Int32)), .unset, .unset] [(.long (if (0 : Int32) < (lcmpW he w104) then w104 else he)), (.long (gj_94 + (((w104 - gj_94).toInt32).toInt64)))])) tt
        refine XS.lcmp X111.here hx rfl (hb hby at_329) rfl ?_
        show Steps p.tables e below (T111.setTop (mkF m 330 #[.val (.int u0), .val (.int u1), .val (.int u2), .val (.long u3), .second, .val (.int ln0), .val (.int w2), .val (.int w4), .val (.ref b5), .val (.ref b11), .val (.ref b18), .val (.ref b28), .val (.int gl_52), .val (.int ff), .val (.int gl_94), .val (.int gg), .val (.long gj_94), .second, .val (.int gl_94), .val (.long w104), .second, .val (.long he), .second, .val (.int (1 : Int32)), .val (.long (if (0 : Int32) < (lcmpW he w104) then w104 else he)), .second, .val (.long gj_94), .second, .val (.int ((w104 - gj_94).toInt32)), .val (.int ((w104 - gj_94).toInt32)), .val (.int (1 : Int32)), .unset, .unset] [(.int (lcmpW (gj_94 + (((w104 - gj_94).toInt32).toInt64)) (if (0 : Int32) < (lcmpW he w104) then w104 else he)))])) tt
        refine XS.ifNo X111.here hx rfl (hb hby at_330) rfl ((if0 _ _).trans (teq ((lw_eq _ _).mpr (by rw [if_pos ((lw_gt _ _).mpr (by rw [hhe]; exact hcut'))]; exact own_cut hS hF hE hcut') : (lcmpW (gj_94 + (((w104 - gj_94).toInt32).toInt64)) (if (0 : Int32) < (lcmpW he w104) then w104 else he)) = (0 : Int32))).2) ?_
        show Steps p.tables e below (T111.setTop (mkF m 333 #[.val (.int u0), .val (.int u1), .val (.int u2), .val (.long u3), .second, .val (.int ln0), .val (.int w2), .val (.int w4), .val (.ref b5), .val (.ref b11), .val (.ref b18), .val (.ref b28), .val (.int gl_52), .val (.int ff), .val (.int gl_94), .val (.int gg), .val (.long gj_94), .second, .val (.int gl_94), .val (.long w104), .second, .val (.long he), .second, .val (.int (1 : Int32)), .val (.long (if (0 : Int32) < (lcmpW he w104) then w104 else he)), .second, .val (.long gj_94), .second, .val (.int ((w104 - gj_94).toInt32)), .val (.int ((w104 - gj_94).toInt32)), .val (.int (1 : Int32)), .unset, .unset] [])) tt
        refine XS.iconst X111.here hx rfl (hb hby at_333) ?_
        show Steps p.tables e below (T111.setTop (mkF m 334 #[.val (.int u0), .val (.int u1), .val (.int u2), .val (.long u3), .second, .val (.int ln0), .val (.int w2), .val (.int w4), .val (.ref b5), .val (.ref b11), .val (.ref b18), .val (.ref b28), .val (.int gl_52), .val (.int ff), .val (.int gl_94), .val (.int gg), .val (.long gj_94), .second, .val (.int gl_94), .val (.long w104), .second, .val (.long he), .second, .val (.int (1 : Int32)), .val (.long (if (0 : Int32) < (lcmpW he w104) then w104 else he)), .second, .val (.long gj_94), .second, .val (.int ((w104 - gj_94).toInt32)), .val (.int ((w104 - gj_94).toInt32)), .val (.int (1 : Int32)), .unset, .unset] [(.int (1 : Int32))])) tt
        refine XS.goto X111.here hx rfl (pc0 := 334) (pc' := 338) rfl (hb hby at_334) (by decide) (by decide) ?_
        show Steps p.tables e below (T111.setTop (mkF m 338 #[.val (.int u0), .val (.int u1), .val (.int u2), .val (.long u3), .second, .val (.int ln0), .val (.int w2), .val (.int w4), .val (.ref b5), .val (.ref b11), .val (.ref b18), .val (.ref b28), .val (.int gl_52), .val (.int ff), .val (.int gl_94), .val (.int gg), .val (.long gj_94), .second, .val (.int gl_94), .val (.long w104), .second, .val (.long he), .second, .val (.int (1 : Int32)), .val (.long (if (0 : Int32) < (lcmpW he w104) then w104 else he)), .second, .val (.long gj_94), .second, .val (.int ((w104 - gj_94).toInt32)), .val (.int ((w104 - gj_94).toInt32)), .val (.int (1 : Int32)), .unset, .unset] [(.int (1 : Int32))])) tt
        refine XS.istore X111.here hx rfl (hb hby at_338) rfl (l' := #[.val (.int u0), .val (.int u1), .val (.int u2), .val (.long u3), .second, .val (.int ln0), .val (.int w2), .val (.int w4), .val (.ref b5), .val (.ref b11), .val (.ref b18), .val (.ref b28), .val (.int gl_52), .val (.int ff), .val (.int gl_94), .val (.int gg), .val (.long gj_94), .second, .val (.int gl_94), .val (.long w104), .second, .val (.long he), .second, .val (.int (1 : Int32)), .val (.long (if (0 : Int32) < (lcmpW he w104) then w104 else he)), .second, .val (.long gj_94), .second, .val (.int ((w104 - gj_94).toInt32)), .val (.int ((w104 - gj_94).toInt32)), .val (.int (1 : Int32)), .val (.int (1 : Int32)), .unset]) rfl ?_
        show Steps p.tables e below (T111.setTop (mkF m 340 #[.val (.int u0), .val (.int u1), .val (.int u2), .val (.long u3), .second, .val (.int ln0), .val (.int w2), .val (.int w4), .val (.ref b5), .val (.ref b11), .val (.ref b18), .val (.ref b28), .val (.int gl_52), .val (.int ff), .val (.int gl_94), .val (.int gg), .val (.long gj_94), .second, .val (.int gl_94), .val (.long w104), .second, .val (.long he), .second, .val (.int (1 : Int32)), .val (.long (if (0 : Int32) < (lcmpW he w104) then w104 else he)), .second, .val (.long gj_94), .second, .val (.int ((w104 - gj_94).toInt32)), .val (.int ((w104 - gj_94).toInt32)), .val (.int (1 : Int32)), .val (.int (1 : Int32)), .unset] [])) tt
        refine XS.iload X111.here hx rfl (hb hby at_340) rfl ?_
        show Steps p.tables e below (T111.setTop (mkF m 342 #[.val (.int u0), .val (.int u1), .val (.int u2), .val (.long u3), .second, .val (.int ln0), .val (.int w2), .val (.int w4), .val (.ref b5), .val (.ref b11), .val (.ref b18), .val (.ref b28), .val (.int gl_52), .val (.int ff), .val (.int gl_94), .val (.int gg), .val (.long gj_94), .second, .val (.int gl_94), .val (.long w104), .second, .val (.long he), .second, .val (.int (1 : Int32)), .val (.long (if (0 : Int32) < (lcmpW he w104) then w104 else he)), .second, .val (.long gj_94), .second, .val (.int ((w104 - gj_94).toInt32)), .val (.int ((w104 - gj_94).toInt32)), .val (.int (1 : Int32)), .val (.int (1 : Int32)), .unset] [(.int ((w104 - gj_94).toInt32))])) tt
        refine XS.iload X111.here hx rfl (hb hby at_342) rfl ?_
        show Steps p.tables e below (T111.setTop (mkF m 344 #[.val (.int u0), .val (.int u1), .val (.int u2), .val (.long u3), .second, .val (.int ln0), .val (.int w2), .val (.int w4), .val (.ref b5), .val (.ref b11), .val (.ref b18), .val (.ref b28), .val (.int gl_52), .val (.int ff), .val (.int gl_94), .val (.int gg), .val (.long gj_94), .second, .val (.int gl_94), .val (.long w104), .second, .val (.long he), .second, .val (.int (1 : Int32)), .val (.long (if (0 : Int32) < (lcmpW he w104) then w104 else he)), .second, .val (.long gj_94), .second, .val (.int ((w104 - gj_94).toInt32)), .val (.int ((w104 - gj_94).toInt32)), .val (.int (1 : Int32)), .val (.int (1 : Int32)), .unset] [(.int (1 : Int32)), (.int ((w104 - gj_94).toInt32))])) tt
        refine XS.ifNo X111.here hx rfl (hb hby at_344) rfl ((if0 _ _).trans (feq ((by decide) : ¬ ((1 : Int32) = (0 : Int32)))).1) ?_
        show Steps p.tables e below (T111.setTop (mkF m 347 #[.val (.int u0), .val (.int u1), .val (.int u2), .val (.long u3), .second, .val (.int ln0), .val (.int w2), .val (.int w4), .val (.ref b5), .val (.ref b11), .val (.ref b18), .val (.ref b28), .val (.int gl_52), .val (.int ff), .val (.int gl_94), .val (.int gg), .val (.long gj_94), .second, .val (.int gl_94), .val (.long w104), .second, .val (.long he), .second, .val (.int (1 : Int32)), .val (.long (if (0 : Int32) < (lcmpW he w104) then w104 else he)), .second, .val (.long gj_94), .second, .val (.int ((w104 - gj_94).toInt32)), .val (.int ((w104 - gj_94).toInt32)), .val (.int (1 : Int32)), .val (.int (1 : Int32)), .unset] [(.int ((w104 - gj_94).toInt32))])) tt
        refine XS.iload X111.here hx rfl (hb hby at_347) rfl ?_
        show Steps p.tables e below (T111.setTop (mkF m 349 #[.val (.int u0), .val (.int u1), .val (.int u2), .val (.long u3), .second, .val (.int ln0), .val (.int w2), .val (.int w4), .val (.ref b5), .val (.ref b11), .val (.ref b18), .val (.ref b28), .val (.int gl_52), .val (.int ff), .val (.int gl_94), .val (.int gg), .val (.long gj_94), .second, .val (.int gl_94), .val (.long w104), .second, .val (.long he), .second, .val (.int (1 : Int32)), .val (.long (if (0 : Int32) < (lcmpW he w104) then w104 else he)), .second, .val (.long gj_94), .second, .val (.int ((w104 - gj_94).toInt32)), .val (.int ((w104 - gj_94).toInt32)), .val (.int (1 : Int32)), .val (.int (1 : Int32)), .unset] [(.int ((w104 - gj_94).toInt32)), (.int ((w104 - gj_94).toInt32))])) tt
        refine XS.goto X111.here hx rfl (pc0 := 349) (pc' := 354) rfl (hb hby at_349) (by decide) (by decide) ?_
        show Steps p.tables e below (T111.setTop (mkF m 354 #[.val (.int u0), .val (.int u1), .val (.int u2), .val (.long u3), .second, .val (.int ln0), .val (.int w2), .val (.int w4), .val (.ref b5), .val (.ref b11), .val (.ref b18), .val (.ref b28), .val (.int gl_52), .val (.int ff), .val (.int gl_94), .val (.int gg), .val (.long gj_94), .second, .val (.int gl_94), .val (.long w104), .second, .val (.long he), .second, .val (.int (1 : Int32)), .val (.long (if (0 : Int32) < (lcmpW he w104) then w104 else he)), .second, .val (.long gj_94), .second, .val (.int ((w104 - gj_94).toInt32)), .val (.int ((w104 - gj_94).toInt32)), .val (.int (1 : Int32)), .val (.int (1 : Int32)), .unset] [(.int ((w104 - gj_94).toInt32)), (.int ((w104 - gj_94).toInt32))])) tt
        refine XS.icmpNo X111.here hx rfl (hb hby at_354) rfl (teq (rfl : ((w104 - gj_94).toInt32) = ((w104 - gj_94).toInt32))).2 ?_
        show Steps p.tables e below (T111.setTop (mkF m 357 #[.val (.int u0), .val (.int u1), .val (.int u2), .val (.long u3), .second, .val (.int ln0), .val (.int w2), .val (.int w4), .val (.ref b5), .val (.ref b11), .val (.ref b18), .val (.ref b28), .val (.int gl_52), .val (.int ff), .val (.int gl_94), .val (.int gg), .val (.long gj_94), .second, .val (.int gl_94), .val (.long w104), .second, .val (.long he), .second, .val (.int (1 : Int32)), .val (.long (if (0 : Int32) < (lcmpW he w104) then w104 else he)), .second, .val (.long gj_94), .second, .val (.int ((w104 - gj_94).toInt32)), .val (.int ((w104 - gj_94).toInt32)), .val (.int (1 : Int32)), .val (.int (1 : Int32)), .unset] [])) tt
        refine XS.iconst X111.here hx rfl (hb hby at_357) ?_
        show Steps p.tables e below (T111.setTop (mkF m 358 #[.val (.int u0), .val (.int u1), .val (.int u2), .val (.long u3), .second, .val (.int ln0), .val (.int w2), .val (.int w4), .val (.ref b5), .val (.ref b11), .val (.ref b18), .val (.ref b28), .val (.int gl_52), .val (.int ff), .val (.int gl_94), .val (.int gg), .val (.long gj_94), .second, .val (.int gl_94), .val (.long w104), .second, .val (.long he), .second, .val (.int (1 : Int32)), .val (.long (if (0 : Int32) < (lcmpW he w104) then w104 else he)), .second, .val (.long gj_94), .second, .val (.int ((w104 - gj_94).toInt32)), .val (.int ((w104 - gj_94).toInt32)), .val (.int (1 : Int32)), .val (.int (1 : Int32)), .unset] [(.int (1 : Int32))])) tt
        refine XS.goto X111.here hx rfl (pc0 := 358) (pc' := 362) rfl (hb hby at_358) (by decide) (by decide) ?_
        show Steps p.tables e below (T111.setTop (mkF m 362 #[.val (.int u0), .val (.int u1), .val (.int u2), .val (.long u3), .second, .val (.int ln0), .val (.int w2), .val (.int w4), .val (.ref b5), .val (.ref b11), .val (.ref b18), .val (.ref b28), .val (.int gl_52), .val (.int ff), .val (.int gl_94), .val (.int gg), .val (.long gj_94), .second, .val (.int gl_94), .val (.long w104), .second, .val (.long he), .second, .val (.int (1 : Int32)), .val (.long (if (0 : Int32) < (lcmpW he w104) then w104 else he)), .second, .val (.long gj_94), .second, .val (.int ((w104 - gj_94).toInt32)), .val (.int ((w104 - gj_94).toInt32)), .val (.int (1 : Int32)), .val (.int (1 : Int32)), .unset] [(.int (1 : Int32))])) tt
        refine XS.istore X111.here hx rfl (hb hby at_362) rfl (l' := #[.val (.int u0), .val (.int u1), .val (.int u2), .val (.long u3), .second, .val (.int ln0), .val (.int w2), .val (.int w4), .val (.ref b5), .val (.ref b11), .val (.ref b18), .val (.ref b28), .val (.int gl_52), .val (.int ff), .val (.int gl_94), .val (.int gg), .val (.long gj_94), .second, .val (.int gl_94), .val (.long w104), .second, .val (.long he), .second, .val (.int (1 : Int32)), .val (.long (if (0 : Int32) < (lcmpW he w104) then w104 else he)), .second, .val (.long gj_94), .second, .val (.int ((w104 - gj_94).toInt32)), .val (.int ((w104 - gj_94).toInt32)), .val (.int (1 : Int32)), .val (.int (1 : Int32)), .val (.int (1 : Int32))]) rfl ?_
        show Steps p.tables e below (T111.setTop (mkF m 364 #[.val (.int u0), .val (.int u1), .val (.int u2), .val (.long u3), .second, .val (.int ln0), .val (.int w2), .val (.int w4), .val (.ref b5), .val (.ref b11), .val (.ref b18), .val (.ref b28), .val (.int gl_52), .val (.int ff), .val (.int gl_94), .val (.int gg), .val (.long gj_94), .second, .val (.int gl_94), .val (.long w104), .second, .val (.long he), .second, .val (.int (1 : Int32)), .val (.long (if (0 : Int32) < (lcmpW he w104) then w104 else he)), .second, .val (.long gj_94), .second, .val (.int ((w104 - gj_94).toInt32)), .val (.int ((w104 - gj_94).toInt32)), .val (.int (1 : Int32)), .val (.int (1 : Int32)), .val (.int (1 : Int32))] [])) tt
        refine XS.iload X111.here hx rfl (hb hby at_364) rfl ?_
        show Steps p.tables e below (T111.setTop (mkF m 366 #[.val (.int u0), .val (.int u1), .val (.int u2), .val (.long u3), .second, .val (.int ln0), .val (.int w2), .val (.int w4), .val (.ref b5), .val (.ref b11), .val (.ref b18), .val (.ref b28), .val (.int gl_52), .val (.int ff), .val (.int gl_94), .val (.int gg), .val (.long gj_94), .second, .val (.int gl_94), .val (.long w104), .second, .val (.long he), .second, .val (.int (1 : Int32)), .val (.long (if (0 : Int32) < (lcmpW he w104) then w104 else he)), .second, .val (.long gj_94), .second, .val (.int ((w104 - gj_94).toInt32)), .val (.int ((w104 - gj_94).toInt32)), .val (.int (1 : Int32)), .val (.int (1 : Int32)), .val (.int (1 : Int32))] [(.int (1 : Int32))])) tt
        refine XS.ifNo X111.here hx rfl (hb hby at_366) rfl ((if0 _ _).trans (feq ((by decide) : ¬ ((1 : Int32) = (0 : Int32)))).1) ?_
        show Steps p.tables e below (T111.setTop (mkF m 369 #[.val (.int u0), .val (.int u1), .val (.int u2), .val (.long u3), .second, .val (.int ln0), .val (.int w2), .val (.int w4), .val (.ref b5), .val (.ref b11), .val (.ref b18), .val (.ref b28), .val (.int gl_52), .val (.int ff), .val (.int gl_94), .val (.int gg), .val (.long gj_94), .second, .val (.int gl_94), .val (.long w104), .second, .val (.long he), .second, .val (.int (1 : Int32)), .val (.long (if (0 : Int32) < (lcmpW he w104) then w104 else he)), .second, .val (.long gj_94), .second, .val (.int ((w104 - gj_94).toInt32)), .val (.int ((w104 - gj_94).toInt32)), .val (.int (1 : Int32)), .val (.int (1 : Int32)), .val (.int (1 : Int32))] [])) tt
        refine XS.iload X111.here hx rfl (hb hby at_369) rfl ?_
        show Steps p.tables e below (T111.setTop (mkF m 371 #[.val (.int u0), .val (.int u1), .val (.int u2), .val (.long u3), .second, .val (.int ln0), .val (.int w2), .val (.int w4), .val (.ref b5), .val (.ref b11), .val (.ref b18), .val (.ref b28), .val (.int gl_52), .val (.int ff), .val (.int gl_94), .val (.int gg), .val (.long gj_94), .second, .val (.int gl_94), .val (.long w104), .second, .val (.long he), .second, .val (.int (1 : Int32)), .val (.long (if (0 : Int32) < (lcmpW he w104) then w104 else he)), .second, .val (.long gj_94), .second, .val (.int ((w104 - gj_94).toInt32)), .val (.int ((w104 - gj_94).toInt32)), .val (.int (1 : Int32)), .val (.int (1 : Int32)), .val (.int (1 : Int32))] [(.int (1 : Int32))])) tt
        refine XS.ifNo X111.here hx rfl (hb hby at_371) rfl ((if0 _ _).trans (feq ((by decide) : ¬ ((1 : Int32) = (0 : Int32)))).1) ?_
        show Steps p.tables e below (T111.setTop (mkF m 374 #[.val (.int u0), .val (.int u1), .val (.int u2), .val (.long u3), .second, .val (.int ln0), .val (.int w2), .val (.int w4), .val (.ref b5), .val (.ref b11), .val (.ref b18), .val (.ref b28), .val (.int gl_52), .val (.int ff), .val (.int gl_94), .val (.int gg), .val (.long gj_94), .second, .val (.int gl_94), .val (.long w104), .second, .val (.long he), .second, .val (.int (1 : Int32)), .val (.long (if (0 : Int32) < (lcmpW he w104) then w104 else he)), .second, .val (.long gj_94), .second, .val (.int ((w104 - gj_94).toInt32)), .val (.int ((w104 - gj_94).toInt32)), .val (.int (1 : Int32)), .val (.int (1 : Int32)), .val (.int (1 : Int32))] [])) tt
        refine XS.iload X111.here hx rfl (hb hby at_374) rfl ?_
        show Steps p.tables e below (T111.setTop (mkF m 376 #[.val (.int u0), .val (.int u1), .val (.int u2), .val (.long u3), .second, .val (.int ln0), .val (.int w2), .val (.int w4), .val (.ref b5), .val (.ref b11), .val (.ref b18), .val (.ref b28), .val (.int gl_52), .val (.int ff), .val (.int gl_94), .val (.int gg), .val (.long gj_94), .second, .val (.int gl_94), .val (.long w104), .second, .val (.long he), .second, .val (.int (1 : Int32)), .val (.long (if (0 : Int32) < (lcmpW he w104) then w104 else he)), .second, .val (.long gj_94), .second, .val (.int ((w104 - gj_94).toInt32)), .val (.int ((w104 - gj_94).toInt32)), .val (.int (1 : Int32)), .val (.int (1 : Int32)), .val (.int (1 : Int32))] [(.int (1 : Int32))])) tt
        refine XS.ifNo X111.here hx rfl (hb hby at_376) rfl ((if0 _ _).trans (feq ((by decide) : ¬ ((1 : Int32) = (0 : Int32)))).1) ?_
        show Steps p.tables e below (T111.setTop (mkF m 379 #[.val (.int u0), .val (.int u1), .val (.int u2), .val (.long u3), .second, .val (.int ln0), .val (.int w2), .val (.int w4), .val (.ref b5), .val (.ref b11), .val (.ref b18), .val (.ref b28), .val (.int gl_52), .val (.int ff), .val (.int gl_94), .val (.int gg), .val (.long gj_94), .second, .val (.int gl_94), .val (.long w104), .second, .val (.long he), .second, .val (.int (1 : Int32)), .val (.long (if (0 : Int32) < (lcmpW he w104) then w104 else he)), .second, .val (.long gj_94), .second, .val (.int ((w104 - gj_94).toInt32)), .val (.int ((w104 - gj_94).toInt32)), .val (.int (1 : Int32)), .val (.int (1 : Int32)), .val (.int (1 : Int32))] [])) tt
        refine XS.iconst X111.here hx rfl (hb hby at_379) ?_
        show Steps p.tables e below (T111.setTop (mkF m 380 #[.val (.int u0), .val (.int u1), .val (.int u2), .val (.long u3), .second, .val (.int ln0), .val (.int w2), .val (.int w4), .val (.ref b5), .val (.ref b11), .val (.ref b18), .val (.ref b28), .val (.int gl_52), .val (.int ff), .val (.int gl_94), .val (.int gg), .val (.long gj_94), .second, .val (.int gl_94), .val (.long w104), .second, .val (.long he), .second, .val (.int (1 : Int32)), .val (.long (if (0 : Int32) < (lcmpW he w104) then w104 else he)), .second, .val (.long gj_94), .second, .val (.int ((w104 - gj_94).toInt32)), .val (.int ((w104 - gj_94).toInt32)), .val (.int (1 : Int32)), .val (.int (1 : Int32)), .val (.int (1 : Int32))] [(.int (1 : Int32))])) tt
        refine XS.goto X111.here hx rfl (pc0 := 380) (pc' := 384) rfl (hb hby at_380) (by decide) (by decide) ?_
        exact kk
      exact Goal.retV X111 hx Bd.returns rfl (Or.inl ⟨rfl, Or.inr (Or.inl rfl), _, rfl⟩) (hb hby at_384) hlk e111 ⟨rfl, N111⟩ (by decide) (by decide)
    · have hcut' : ¬ (w104 < (gj_94 + (gl_94.toInt64))) := by intro q; rw [← hhe] at q; exact hcut ((lw_lt _ _).mpr q)
      refine Goal.to (B := T102.setTop (mkF m 273 #[.val (.int u0), .val (.int u1), .val (.int u2), .val (.long u3), .second, .val (.int ln0), .val (.int w2), .val (.int w4), .val (.ref b5), .val (.ref b11), .val (.ref b18), .val (.ref b28), .val (.int gl_52), .val (.int ff), .val (.int gl_94), .val (.int gg), .val (.long gj_94), .second, .val (.int gl_94), .val (.long w104), .second, .val (.long he), .second, .val (.int (0 : Int32)), .unset, .unset, .unset, .unset, .unset, .unset, .unset, .unset, .unset] [(.long w104), (.long he)])) (fun tt kk => ?_) ?_
      · show Steps p.tables e below (T102.setTop (mkF m 259 #[.val (.int u0), .val (.int u1), .val (.int u2), .val (.long u3), .second, .val (.int ln0), .val (.int w2), .val (.int w4), .val (.ref b5), .val (.ref b11), .val (.ref b18), .val (.ref b28), .val (.int gl_52), .val (.int ff), .val (.int gl_94), .val (.int gg), .val (.long gj_94), .second, .val (.int gl_94), .val (.long w104), .second, .val (.long he), .second, .unset, .unset, .unset, .unset, .unset, .unset, .unset, .unset, .unset, .unset] [(.int (lcmpW w104 he))])) tt
        refine XS.ifYes X102.here hx rfl (pc0 := 259) (pc' := 266) rfl (hb hby at_259) rfl ((if0 _ _).trans (flt hcut).2.1) (by decide) (by decide) ?_
        show Steps p.tables e below (T102.setTop (mkF m 266 #[.val (.int u0), .val (.int u1), .val (.int u2), .val (.long u3), .second, .val (.int ln0), .val (.int w2), .val (.int w4), .val (.ref b5), .val (.ref b11), .val (.ref b18), .val (.ref b28), .val (.int gl_52), .val (.int ff), .val (.int gl_94), .val (.int gg), .val (.long gj_94), .second, .val (.int gl_94), .val (.long w104), .second, .val (.long he), .second, .unset, .unset, .unset, .unset, .unset, .unset, .unset, .unset, .unset, .unset] [])) tt
        refine XS.iconst X102.here hx rfl (hb hby at_266) ?_
        show Steps p.tables e below (T102.setTop (mkF m 267 #[.val (.int u0), .val (.int u1), .val (.int u2), .val (.long u3), .second, .val (.int ln0), .val (.int w2), .val (.int w4), .val (.ref b5), .val (.ref b11), .val (.ref b18), .val (.ref b28), .val (.int gl_52), .val (.int ff), .val (.int gl_94), .val (.int gg), .val (.long gj_94), .second, .val (.int gl_94), .val (.long w104), .second, .val (.long he), .second, .unset, .unset, .unset, .unset, .unset, .unset, .unset, .unset, .unset, .unset] [(.int (0 : Int32))])) tt
        refine XS.istore X102.here hx rfl (hb hby at_267) rfl (l' := #[.val (.int u0), .val (.int u1), .val (.int u2), .val (.long u3), .second, .val (.int ln0), .val (.int w2), .val (.int w4), .val (.ref b5), .val (.ref b11), .val (.ref b18), .val (.ref b28), .val (.int gl_52), .val (.int ff), .val (.int gl_94), .val (.int gg), .val (.long gj_94), .second, .val (.int gl_94), .val (.long w104), .second, .val (.long he), .second, .val (.int (0 : Int32)), .unset, .unset, .unset, .unset, .unset, .unset, .unset, .unset, .unset]) rfl ?_
        show Steps p.tables e below (T102.setTop (mkF m 269 #[.val (.int u0), .val (.int u1), .val (.int u2), .val (.long u3), .second, .val (.int ln0), .val (.int w2), .val (.int w4), .val (.ref b5), .val (.ref b11), .val (.ref b18), .val (.ref b28), .val (.int gl_52), .val (.int ff), .val (.int gl_94), .val (.int gg), .val (.long gj_94), .second, .val (.int gl_94), .val (.long w104), .second, .val (.long he), .second, .val (.int (0 : Int32)), .unset, .unset, .unset, .unset, .unset, .unset, .unset, .unset, .unset] [])) tt
        refine XS.lload X102.here hx rfl (hb hby at_269) rfl ?_
        show Steps p.tables e below (T102.setTop (mkF m 271 #[.val (.int u0), .val (.int u1), .val (.int u2), .val (.long u3), .second, .val (.int ln0), .val (.int w2), .val (.int w4), .val (.ref b5), .val (.ref b11), .val (.ref b18), .val (.ref b28), .val (.int gl_52), .val (.int ff), .val (.int gl_94), .val (.int gg), .val (.long gj_94), .second, .val (.int gl_94), .val (.long w104), .second, .val (.long he), .second, .val (.int (0 : Int32)), .unset, .unset, .unset, .unset, .unset, .unset, .unset, .unset, .unset] [(.long he)])) tt
        refine XS.lload X102.here hx rfl (hb hby at_271) rfl ?_
        exact kk
      obtain ⟨_, _, ⟨T112, L112, k112, n112⟩, -, X112, ⟨Lc112, hQ112, l112, y112, z112⟩, st112⟩ := Jvm.LawKit.callS X102 hx (y := (⟨"java/lang/Math", "min", "(JJ)J"⟩ : MethodName)) hown (mvT hZ (hw _ (mw 144 rfl))) (mvT hZ (hw _ (mw 145 rfl))) (mvT hZ (hw _ (mw 84 rfl))) (mvT hZ (hw _ (mw 146 rfl))) (by decide) (backOf (W := 0) (rmmj l Z a0 hw [] he w104 T98.heap n0 f99 ) hZ (hw _ (mw 146 rfl)) (hw _ (mw 84 rfl)) (by decide) (by decide)) (g := (mkF m 273 #[.val (.int u0), .val (.int u1), .val (.int u2), .val (.long u3), .second, .val (.int ln0), .val (.int w2), .val (.int w4), .val (.ref b5), .val (.ref b11), .val (.ref b18), .val (.ref b28), .val (.int gl_52), .val (.int ff), .val (.int gl_94), .val (.int gg), .val (.long gj_94), .second, .val (.int gl_94), .val (.long w104), .second, .val (.long he), .second, .val (.int (0 : Int32)), .unset, .unset, .unset, .unset, .unset, .unset, .unset, .unset, .unset] [(.long w104), (.long he)])) rfl (by rw [hml]; rfl) (argsL := [(.long he), (.long w104)]) (rest := []) (lenOf pd_22 rfl) rfl (by show 2 * 0 + _ ≤ _; exact Nat.le_of_eq rfl) (hb hby at_273) (fun _ _ => ⟨rfl, e102, (by decide : 6 + 0 ≤ _), (by decide : 29 + 0 ≤ _)⟩)
      dsimp only [Pt.U, Pt.locs, Pt.cells, Pt.slots] at X112 l112 y112 z112 st112 hQ112
      subst y112 z112
      obtain ⟨rfl, N112q, e112⟩ := hQ112
      have N112 := Fr.eqv l112 (Fr.app N102 N112q)
      refine Goal.to (B := T112.setTop (mkF m 276 #[.val (.int u0), .val (.int u1), .val (.int u2), .val (.long u3), .second, .val (.int ln0), .val (.int w2), .val (.int w4), .val (.ref b5), .val (.ref b11), .val (.ref b18), .val (.ref b28), .val (.int gl_52), .val (.int ff), .val (.int gl_94), .val (.int gg), .val (.long gj_94), .second, .val (.int gl_94), .val (.long w104), .second, .val (.long he), .second, .val (.int (0 : Int32)), .unset, .unset, .unset, .unset, .unset, .unset, .unset, .unset, .unset] [(.long (if (0 : Int32) < (lcmpW he w104) then w104 else he))])) st112 ?_
      refine Goal.to (B := T112.setTop (mkF m 282 #[.val (.int u0), .val (.int u1), .val (.int u2), .val (.long u3), .second, .val (.int ln0), .val (.int w2), .val (.int w4), .val (.ref b5), .val (.ref b11), .val (.ref b18), .val (.ref b28), .val (.int gl_52), .val (.int ff), .val (.int gl_94), .val (.int gg), .val (.long gj_94), .second, .val (.int gl_94), .val (.long w104), .second, .val (.long he), .second, .val (.int (0 : Int32)), .val (.long (if (0 : Int32) < (lcmpW he w104) then w104 else he)), .second, .unset, .unset, .unset, .unset, .unset, .unset, .unset] [(.long w104), (.ref b28)])) (fun tt kk => ?_) ?_
      · show Steps p.tables e below (T112.setTop (mkF m 276 #[.val (.int u0), .val (.int u1), .val (.int u2), .val (.long u3), .second, .val (.int ln0), .val (.int w2), .val (.int w4), .val (.ref b5), .val (.ref b11), .val (.ref b18), .val (.ref b28), .val (.int gl_52), .val (.int ff), .val (.int gl_94), .val (.int gg), .val (.long gj_94), .second, .val (.int gl_94), .val (.long w104), .second, .val (.long he), .second, .val (.int (0 : Int32)), .unset, .unset, .unset, .unset, .unset, .unset, .unset, .unset, .unset] [(.long (if (0 : Int32) < (lcmpW he w104) then w104 else he))])) tt
        refine XS.lstore X112.here hx rfl (hb hby at_276) rfl (l' := #[.val (.int u0), .val (.int u1), .val (.int u2), .val (.long u3), .second, .val (.int ln0), .val (.int w2), .val (.int w4), .val (.ref b5), .val (.ref b11), .val (.ref b18), .val (.ref b28), .val (.int gl_52), .val (.int ff), .val (.int gl_94), .val (.int gg), .val (.long gj_94), .second, .val (.int gl_94), .val (.long w104), .second, .val (.long he), .second, .val (.int (0 : Int32)), .val (.long (if (0 : Int32) < (lcmpW he w104) then w104 else he)), .second, .unset, .unset, .unset, .unset, .unset, .unset, .unset]) rfl ?_
        show Steps p.tables e below (T112.setTop (mkF m 278 #[.val (.int u0), .val (.int u1), .val (.int u2), .val (.long u3), .second, .val (.int ln0), .val (.int w2), .val (.int w4), .val (.ref b5), .val (.ref b11), .val (.ref b18), .val (.ref b28), .val (.int gl_52), .val (.int ff), .val (.int gl_94), .val (.int gg), .val (.long gj_94), .second, .val (.int gl_94), .val (.long w104), .second, .val (.long he), .second, .val (.int (0 : Int32)), .val (.long (if (0 : Int32) < (lcmpW he w104) then w104 else he)), .second, .unset, .unset, .unset, .unset, .unset, .unset, .unset] [])) tt
        refine XS.aload X112.here hx rfl (hb hby at_278) rfl rfl ?_
        show Steps p.tables e below (T112.setTop (mkF m 280 #[.val (.int u0), .val (.int u1), .val (.int u2), .val (.long u3), .second, .val (.int ln0), .val (.int w2), .val (.int w4), .val (.ref b5), .val (.ref b11), .val (.ref b18), .val (.ref b28), .val (.int gl_52), .val (.int ff), .val (.int gl_94), .val (.int gg), .val (.long gj_94), .second, .val (.int gl_94), .val (.long w104), .second, .val (.long he), .second, .val (.int (0 : Int32)), .val (.long (if (0 : Int32) < (lcmpW he w104) then w104 else he)), .second, .unset, .unset, .unset, .unset, .unset, .unset, .unset] [(.ref b28)])) tt
        refine XS.lload X112.here hx rfl (hb hby at_280) rfl ?_
        exact kk
      obtain ⟨cq113, kq113, q113a, q113b, q113c⟩ := isOf hZ e112 f101
      obtain ⟨_, _, ⟨T113, L113, k113, n113⟩, -, X113, ⟨Lc113, hQ113, l113, y113, z113⟩, st113⟩ := X112.virtualBack hx (y := (⟨"com/example/pattern_automaton/patternautomaton/CharBlock", "cutTo", "(J)V"⟩ : MethodName)) (z := (⟨"com/example/pattern_automaton/patternautomaton/CharBlock", "cutTo", "(J)V"⟩ : MethodName)) hown (mvT hZ (hw _ (mw 147 rfl))) (mvT hZ (hw _ (mw 148 rfl))) (notFace_of_selects (args := #[]) (mvT hZ (hw _ (mw 150 rfl)))) (mvT hZ (hw _ (mw 150 rfl))) (mvT hZ (hw _ (mw 149 rfl))) (by decide) (backOf (W := 0) (rmct0 l Z a0 hw [] b28 vc_35 gl_94 gg gj_94 w104 T98.heap n0 f99 f101 P98_0 P98_1 P98_2 P98_3 g_b28 (fun q => hcut' ((lw_gt _ _).mp q))) hZ (hw _ (mw 151 rfl)) (hw _ (mw 57 rfl)) (by decide) (by decide)) q113a q113c (g := (mkF m 282 #[.val (.int u0), .val (.int u1), .val (.int u2), .val (.long u3), .second, .val (.int ln0), .val (.int w2), .val (.int w4), .val (.ref b5), .val (.ref b11), .val (.ref b18), .val (.ref b28), .val (.int gl_52), .val (.int ff), .val (.int gl_94), .val (.int gg), .val (.long gj_94), .second, .val (.int gl_94), .val (.long w104), .second, .val (.long he), .second, .val (.int (0 : Int32)), .val (.long (if (0 : Int32) < (lcmpW he w104) then w104 else he)), .second, .unset, .unset, .unset, .unset, .unset, .unset, .unset] [(.long w104), (.ref b28)])) rfl (by rw [hml]; rfl) (Steps.refl _) (argsL := [(.long w104)]) (rest := []) (lenOf pd_23 rfl) rfl (by show 2 * 0 + _ ≤ _; exact Nat.le_of_eq rfl) (hb hby at_282) (fun _ _ => ⟨rfl, e112, (by decide : 6 + 0 ≤ _), (by decide : 29 + 0 ≤ _)⟩)
      dsimp only [Pt.U, Pt.locs, Pt.cells, Pt.slots] at X113 l113 y113 z113 st113 hQ113
      subst y113 z113
      obtain ⟨rfl, N113q, K113, P113_0, P113_1, P113_2, P113_3⟩ := hQ113
      have N113 := Fr.eqv l113 (Fr.app N112 N113q)
      refine Goal.tr (B := T113.setTop (mkF m 285 #[.val (.int u0), .val (.int u1), .val (.int u2), .val (.long u3), .second, .val (.int ln0), .val (.int w2), .val (.int w4), .val (.ref b5), .val (.ref b11), .val (.ref b18), .val (.ref b28), .val (.int gl_52), .val (.int ff), .val (.int gl_94), .val (.int gg), .val (.long gj_94), .second, .val (.int gl_94), .val (.long w104), .second, .val (.long he), .second, .val (.int (0 : Int32)), .val (.long (if (0 : Int32) < (lcmpW he w104) then w104 else he)), .second, .unset, .unset, .unset, .unset, .unset, .unset, .unset] [])) st113 ?_
      refine Goal.to (B := T113.setTop (mkF m 287 #[.val (.int u0), .val (.int u1), .val (.int u2), .val (.long u3), .second, .val (.int ln0), .val (.int w2), .val (.int w4), .val (.ref b5), .val (.ref b11), .val (.ref b18), .val (.ref b28), .val (.int gl_52), .val (.int ff), .val (.int gl_94), .val (.int gg), .val (.long gj_94), .second, .val (.int gl_94), .val (.long w104), .second, .val (.long he), .second, .val (.int (0 : Int32)), .val (.long (if (0 : Int32) < (lcmpW he w104) then w104 else he)), .second, .unset, .unset, .unset, .unset, .unset, .unset, .unset] [(.ref b28)])) (fun tt kk => ?_) ?_
      · show Steps p.tables e below (T113.setTop (mkF m 285 #[.val (.int u0), .val (.int u1), .val (.int u2), .val (.long u3), .second, .val (.int ln0), .val (.int w2), .val (.int w4), .val (.ref b5), .val (.ref b11), .val (.ref b18), .val (.ref b28), .val (.int gl_52), .val (.int ff), .val (.int gl_94), .val (.int gg), .val (.long gj_94), .second, .val (.int gl_94), .val (.long w104), .second, .val (.long he), .second, .val (.int (0 : Int32)), .val (.long (if (0 : Int32) < (lcmpW he w104) then w104 else he)), .second, .unset, .unset, .unset, .unset, .unset, .unset, .unset] [])) tt
        refine XS.aload X113.here hx rfl (hb hby at_285) rfl rfl ?_
        exact kk
      have f114 : n0 ≤ T113.heap.size := (Nat.le_trans f99 K113.1)
      have f116 : Exa Z T113.heap b28 "com/example/pattern_automaton/patternautomaton/CharBlock" := (f101.keep K113)
      obtain ⟨cq115, kq115, q115a, q115b, q115c⟩ := isOf hZ rfl f116
      obtain ⟨_, _, ⟨T115, L115, k115, n115⟩, -, X115, ⟨Lc115, hQ115, l115, y115, z115⟩, st115⟩ := X113.virtualBack hx (y := (⟨"com/example/pattern_automaton/patternautomaton/CharBlock", "start", "()J"⟩ : MethodName)) (z := (⟨"com/example/pattern_automaton/patternautomaton/CharBlock", "start", "()J"⟩ : MethodName)) hown (mvT hZ (hw _ (mw 137 rfl))) (mvT hZ (hw _ (mw 138 rfl))) (notFace_of_selects (args := #[]) (mvT hZ (hw _ (mw 140 rfl)))) (mvT hZ (hw _ (mw 140 rfl))) (mvT hZ (hw _ (mw 139 rfl))) (by decide) (backOf (W := 0) (rmsj l Z a0 hw [] b28 gj_94 T113.heap n0 f114 P113_3) hZ (hw _ (mw 141 rfl)) (hw _ (mw 57 rfl)) (by decide) (by decide)) q115a q115c (g := (mkF m 287 #[.val (.int u0), .val (.int u1), .val (.int u2), .val (.long u3), .second, .val (.int ln0), .val (.int w2), .val (.int w4), .val (.ref b5), .val (.ref b11), .val (.ref b18), .val (.ref b28), .val (.int gl_52), .val (.int ff), .val (.int gl_94), .val (.int gg), .val (.long gj_94), .second, .val (.int gl_94), .val (.long w104), .second, .val (.long he), .second, .val (.int (0 : Int32)), .val (.long (if (0 : Int32) < (lcmpW he w104) then w104 else he)), .second, .unset, .unset, .unset, .unset, .unset, .unset, .unset] [(.ref b28)])) rfl (by rw [hml]; rfl) (Steps.refl _) (argsL := []) (rest := []) (lenOf pd_21 rfl) rfl (by show 2 * 0 + _ ≤ _; exact Nat.le_of_eq rfl) (hb hby at_287) (fun _ _ => ⟨rfl, rfl, (by decide : 6 + 0 ≤ _), (by decide : 29 + 0 ≤ _)⟩)
      dsimp only [Pt.U, Pt.locs, Pt.cells, Pt.slots] at X115 l115 y115 z115 st115 hQ115
      subst y115 z115
      obtain ⟨rfl, N115q, e115⟩ := hQ115
      have N115 := Fr.eqv l115 (Fr.app N113 N115q)
      refine Goal.tr (B := T115.setTop (mkF m 290 #[.val (.int u0), .val (.int u1), .val (.int u2), .val (.long u3), .second, .val (.int ln0), .val (.int w2), .val (.int w4), .val (.ref b5), .val (.ref b11), .val (.ref b18), .val (.ref b28), .val (.int gl_52), .val (.int ff), .val (.int gl_94), .val (.int gg), .val (.long gj_94), .second, .val (.int gl_94), .val (.long w104), .second, .val (.long he), .second, .val (.int (0 : Int32)), .val (.long (if (0 : Int32) < (lcmpW he w104) then w104 else he)), .second, .unset, .unset, .unset, .unset, .unset, .unset, .unset] [(.long gj_94)])) st115 ?_
      refine Goal.to (B := T115.setTop (mkF m 294 #[.val (.int u0), .val (.int u1), .val (.int u2), .val (.long u3), .second, .val (.int ln0), .val (.int w2), .val (.int w4), .val (.ref b5), .val (.ref b11), .val (.ref b18), .val (.ref b28), .val (.int gl_52), .val (.int ff), .val (.int gl_94), .val (.int gg), .val (.long gj_94), .second, .val (.int gl_94), .val (.long w104), .second, .val (.long he), .second, .val (.int (0 : Int32)), .val (.long (if (0 : Int32) < (lcmpW he w104) then w104 else he)), .second, .val (.long gj_94), .second, .unset, .unset, .unset, .unset, .unset] [(.ref b28)])) (fun tt kk => ?_) ?_
      · show Steps p.tables e below (T115.setTop (mkF m 290 #[.val (.int u0), .val (.int u1), .val (.int u2), .val (.long u3), .second, .val (.int ln0), .val (.int w2), .val (.int w4), .val (.ref b5), .val (.ref b11), .val (.ref b18), .val (.ref b28), .val (.int gl_52), .val (.int ff), .val (.int gl_94), .val (.int gg), .val (.long gj_94), .second, .val (.int gl_94), .val (.long w104), .second, .val (.long he), .second, .val (.int (0 : Int32)), .val (.long (if (0 : Int32) < (lcmpW he w104) then w104 else he)), .second, .unset, .unset, .unset, .unset, .unset, .unset, .unset] [(.long gj_94)])) tt
        refine XS.lstore X115.here hx rfl (hb hby at_290) rfl (l' := #[.val (.int u0), .val (.int u1), .val (.int u2), .val (.long u3), .second, .val (.int ln0), .val (.int w2), .val (.int w4), .val (.ref b5), .val (.ref b11), .val (.ref b18), .val (.ref b28), .val (.int gl_52), .val (.int ff), .val (.int gl_94), .val (.int gg), .val (.long gj_94), .second, .val (.int gl_94), .val (.long w104), .second, .val (.long he), .second, .val (.int (0 : Int32)), .val (.long (if (0 : Int32) < (lcmpW he w104) then w104 else he)), .second, .val (.long gj_94), .second, .unset, .unset, .unset, .unset, .unset]) rfl ?_
        show Steps p.tables e below (T115.setTop (mkF m 292 #[.val (.int u0), .val (.int u1), .val (.int u2), .val (.long u3), .second, .val (.int ln0), .val (.int w2), .val (.int w4), .val (.ref b5), .val (.ref b11), .val (.ref b18), .val (.ref b28), .val (.int gl_52), .val (.int ff), .val (.int gl_94), .val (.int gg), .val (.long gj_94), .second, .val (.int gl_94), .val (.long w104), .second, .val (.long he), .second, .val (.int (0 : Int32)), .val (.long (if (0 : Int32) < (lcmpW he w104) then w104 else he)), .second, .val (.long gj_94), .second, .unset, .unset, .unset, .unset, .unset] [])) tt
        refine XS.aload X115.here hx rfl (hb hby at_292) rfl rfl ?_
        exact kk
      obtain ⟨cq117, kq117, q117a, q117b, q117c⟩ := isOf hZ e115 f116
      obtain ⟨_, _, ⟨T117, L117, k117, n117⟩, -, X117, ⟨Lc117, hQ117, l117, y117, z117⟩, st117⟩ := X115.virtualBack hx (y := (⟨"com/example/pattern_automaton/patternautomaton/CharBlock", "filled", "()I"⟩ : MethodName)) (z := (⟨"com/example/pattern_automaton/patternautomaton/CharBlock", "filled", "()I"⟩ : MethodName)) hown (mvT hZ (hw _ (mw 124 rfl))) (mvT hZ (hw _ (mw 125 rfl))) (notFace_of_selects (args := #[]) (mvT hZ (hw _ (mw 127 rfl)))) (mvT hZ (hw _ (mw 127 rfl))) (mvT hZ (hw _ (mw 126 rfl))) (by decide) (backOf (W := 0) (rmfd l Z a0 hw [] b28 gl_94 T113.heap n0 f114 P113_1) hZ (hw _ (mw 128 rfl)) (hw _ (mw 57 rfl)) (by decide) (by decide)) q117a q117c (g := (mkF m 294 #[.val (.int u0), .val (.int u1), .val (.int u2), .val (.long u3), .second, .val (.int ln0), .val (.int w2), .val (.int w4), .val (.ref b5), .val (.ref b11), .val (.ref b18), .val (.ref b28), .val (.int gl_52), .val (.int ff), .val (.int gl_94), .val (.int gg), .val (.long gj_94), .second, .val (.int gl_94), .val (.long w104), .second, .val (.long he), .second, .val (.int (0 : Int32)), .val (.long (if (0 : Int32) < (lcmpW he w104) then w104 else he)), .second, .val (.long gj_94), .second, .unset, .unset, .unset, .unset, .unset] [(.ref b28)])) rfl (by rw [hml]; rfl) (Steps.refl _) (argsL := []) (rest := []) (lenOf pd_7 rfl) rfl (by show 2 * 0 + _ ≤ _; exact Nat.le_of_eq rfl) (hb hby at_294) (fun _ _ => ⟨rfl, e115, (by decide : 6 + 0 ≤ _), (by decide : 29 + 0 ≤ _)⟩)
      dsimp only [Pt.U, Pt.locs, Pt.cells, Pt.slots] at X117 l117 y117 z117 st117 hQ117
      subst y117 z117
      obtain ⟨rfl, N117q, e117⟩ := hQ117
      have N117 := Fr.eqv l117 (Fr.app N115 N117q)
      refine Goal.tr (B := T117.setTop (mkF m 297 #[.val (.int u0), .val (.int u1), .val (.int u2), .val (.long u3), .second, .val (.int ln0), .val (.int w2), .val (.int w4), .val (.ref b5), .val (.ref b11), .val (.ref b18), .val (.ref b28), .val (.int gl_52), .val (.int ff), .val (.int gl_94), .val (.int gg), .val (.long gj_94), .second, .val (.int gl_94), .val (.long w104), .second, .val (.long he), .second, .val (.int (0 : Int32)), .val (.long (if (0 : Int32) < (lcmpW he w104) then w104 else he)), .second, .val (.long gj_94), .second, .unset, .unset, .unset, .unset, .unset] [(.int gl_94)])) st117 ?_
      refine Goal.to (B := T117.setTop (mkF m 301 #[.val (.int u0), .val (.int u1), .val (.int u2), .val (.long u3), .second, .val (.int ln0), .val (.int w2), .val (.int w4), .val (.ref b5), .val (.ref b11), .val (.ref b18), .val (.ref b28), .val (.int gl_52), .val (.int ff), .val (.int gl_94), .val (.int gg), .val (.long gj_94), .second, .val (.int gl_94), .val (.long w104), .second, .val (.long he), .second, .val (.int (0 : Int32)), .val (.long (if (0 : Int32) < (lcmpW he w104) then w104 else he)), .second, .val (.long gj_94), .second, .val (.int gl_94), .unset, .unset, .unset, .unset] [(.ref b28)])) (fun tt kk => ?_) ?_
      · show Steps p.tables e below (T117.setTop (mkF m 297 #[.val (.int u0), .val (.int u1), .val (.int u2), .val (.long u3), .second, .val (.int ln0), .val (.int w2), .val (.int w4), .val (.ref b5), .val (.ref b11), .val (.ref b18), .val (.ref b28), .val (.int gl_52), .val (.int ff), .val (.int gl_94), .val (.int gg), .val (.long gj_94), .second, .val (.int gl_94), .val (.long w104), .second, .val (.long he), .second, .val (.int (0 : Int32)), .val (.long (if (0 : Int32) < (lcmpW he w104) then w104 else he)), .second, .val (.long gj_94), .second, .unset, .unset, .unset, .unset, .unset] [(.int gl_94)])) tt
        refine XS.istore X117.here hx rfl (hb hby at_297) rfl (l' := #[.val (.int u0), .val (.int u1), .val (.int u2), .val (.long u3), .second, .val (.int ln0), .val (.int w2), .val (.int w4), .val (.ref b5), .val (.ref b11), .val (.ref b18), .val (.ref b28), .val (.int gl_52), .val (.int ff), .val (.int gl_94), .val (.int gg), .val (.long gj_94), .second, .val (.int gl_94), .val (.long w104), .second, .val (.long he), .second, .val (.int (0 : Int32)), .val (.long (if (0 : Int32) < (lcmpW he w104) then w104 else he)), .second, .val (.long gj_94), .second, .val (.int gl_94), .unset, .unset, .unset, .unset]) rfl ?_
        show Steps p.tables e below (T117.setTop (mkF m 299 #[.val (.int u0), .val (.int u1), .val (.int u2), .val (.long u3), .second, .val (.int ln0), .val (.int w2), .val (.int w4), .val (.ref b5), .val (.ref b11), .val (.ref b18), .val (.ref b28), .val (.int gl_52), .val (.int ff), .val (.int gl_94), .val (.int gg), .val (.long gj_94), .second, .val (.int gl_94), .val (.long w104), .second, .val (.long he), .second, .val (.int (0 : Int32)), .val (.long (if (0 : Int32) < (lcmpW he w104) then w104 else he)), .second, .val (.long gj_94), .second, .val (.int gl_94), .unset, .unset, .unset, .unset] [])) tt
        refine XS.aload X117.here hx rfl (hb hby at_299) rfl rfl ?_
        exact kk
      obtain ⟨cq118, kq118, q118a, q118b, q118c⟩ := isOf hZ e117 f116
      obtain ⟨_, _, ⟨T118, L118, k118, n118⟩, -, X118, ⟨Lc118, hQ118, l118, y118, z118⟩, st118⟩ := X117.virtualBack hx (y := (⟨"com/example/pattern_automaton/patternautomaton/CharBlock", "from", "()I"⟩ : MethodName)) (z := (⟨"com/example/pattern_automaton/patternautomaton/CharBlock", "from", "()I"⟩ : MethodName)) hown (mvT hZ (hw _ (mw 152 rfl))) (mvT hZ (hw _ (mw 153 rfl))) (notFace_of_selects (args := #[]) (mvT hZ (hw _ (mw 155 rfl)))) (mvT hZ (hw _ (mw 155 rfl))) (mvT hZ (hw _ (mw 154 rfl))) (by decide) (backOf (W := 0) (rmfr l Z a0 hw [] b28 gg T113.heap n0 f114 P113_2) hZ (hw _ (mw 156 rfl)) (hw _ (mw 57 rfl)) (by decide) (by decide)) q118a q118c (g := (mkF m 301 #[.val (.int u0), .val (.int u1), .val (.int u2), .val (.long u3), .second, .val (.int ln0), .val (.int w2), .val (.int w4), .val (.ref b5), .val (.ref b11), .val (.ref b18), .val (.ref b28), .val (.int gl_52), .val (.int ff), .val (.int gl_94), .val (.int gg), .val (.long gj_94), .second, .val (.int gl_94), .val (.long w104), .second, .val (.long he), .second, .val (.int (0 : Int32)), .val (.long (if (0 : Int32) < (lcmpW he w104) then w104 else he)), .second, .val (.long gj_94), .second, .val (.int gl_94), .unset, .unset, .unset, .unset] [(.ref b28)])) rfl (by rw [hml]; rfl) (Steps.refl _) (argsL := []) (rest := []) (lenOf pd_7 rfl) rfl (by show 2 * 0 + _ ≤ _; exact Nat.le_of_eq rfl) (hb hby at_301) (fun _ _ => ⟨rfl, e117, (by decide : 6 + 0 ≤ _), (by decide : 29 + 0 ≤ _)⟩)
      dsimp only [Pt.U, Pt.locs, Pt.cells, Pt.slots] at X118 l118 y118 z118 st118 hQ118
      subst y118 z118
      obtain ⟨rfl, N118q, e118⟩ := hQ118
      have N118 := Fr.eqv l118 (Fr.app N117 N118q)
      refine Goal.tr (B := T118.setTop (mkF m 304 #[.val (.int u0), .val (.int u1), .val (.int u2), .val (.long u3), .second, .val (.int ln0), .val (.int w2), .val (.int w4), .val (.ref b5), .val (.ref b11), .val (.ref b18), .val (.ref b28), .val (.int gl_52), .val (.int ff), .val (.int gl_94), .val (.int gg), .val (.long gj_94), .second, .val (.int gl_94), .val (.long w104), .second, .val (.long he), .second, .val (.int (0 : Int32)), .val (.long (if (0 : Int32) < (lcmpW he w104) then w104 else he)), .second, .val (.long gj_94), .second, .val (.int gl_94), .unset, .unset, .unset, .unset] [(.int gg)])) st118 ?_
      refine Goal.to (B := T118.setTop (mkF m 384 #[.val (.int u0), .val (.int u1), .val (.int u2), .val (.long u3), .second, .val (.int ln0), .val (.int w2), .val (.int w4), .val (.ref b5), .val (.ref b11), .val (.ref b18), .val (.ref b28), .val (.int gl_52), .val (.int ff), .val (.int gl_94), .val (.int gg), .val (.long gj_94), .second, .val (.int gl_94), .val (.long w104), .second, .val (.long he), .second, .val (.int (0 : Int32)), .val (.long (if (0 : Int32) < (lcmpW he w104) then w104 else he)), .second, .val (.long gj_94), .second, .val (.int gl_94), .val (.int gg), .val (.int (1 : Int32)), .val (.int (1 : Int32)), .val (.int (1 : Int32))] [(.int (1 : Int32))])) (fun tt kk => ?_) ?_
      · show Steps p.tables e below (T118.setTop (mkF m 304 #[.val (.int u0), .val (.int u1), .val (.int u2), .val (.long u3), .second, .val (.int ln0), .val (.int w2), .val (.int w4), .val (.ref b5), .val (.ref b11), .val (.ref b18), .val (.ref b28), .val (.int gl_52), .val (.int ff), .val (.int gl_94), .val (.int gg), .val (.long gj_94), .second, .val (.int gl_94), .val (.long w104), .second, .val (.long he), .second, .val (.int (0 : Int32)), .val (.long (if (0 : Int32) < (lcmpW he w104) then w104 else he)), .second, .val (.long gj_94), .second, .val (.int gl_94), .unset, .unset, .unset, .unset] [(.int gg)])) tt
        refine XS.istore X118.here hx rfl (hb hby at_304) rfl (l' := #[.val (.int u0), .val (.int u1), .val (.int u2), .val (.long u3), .second, .val (.int ln0), .val (.int w2), .val (.int w4), .val (.ref b5), .val (.ref b11), .val (.ref b18), .val (.ref b28), .val (.int gl_52), .val (.int ff), .val (.int gl_94), .val (.int gg), .val (.long gj_94), .second, .val (.int gl_94), .val (.long w104), .second, .val (.long he), .second, .val (.int (0 : Int32)), .val (.long (if (0 : Int32) < (lcmpW he w104) then w104 else he)), .second, .val (.long gj_94), .second, .val (.int gl_94), .val (.int gg), .unset, .unset, .unset]) rfl ?_
        show Steps p.tables e below (T118.setTop (mkF m 306 #[.val (.int u0), .val (.int u1), .val (.int u2), .val (.long u3), .second, .val (.int ln0), .val (.int w2), .val (.int w4), .val (.ref b5), .val (.ref b11), .val (.ref b18), .val (.ref b28), .val (.int gl_52), .val (.int ff), .val (.int gl_94), .val (.int gg), .val (.long gj_94), .second, .val (.int gl_94), .val (.long w104), .second, .val (.long he), .second, .val (.int (0 : Int32)), .val (.long (if (0 : Int32) < (lcmpW he w104) then w104 else he)), .second, .val (.long gj_94), .second, .val (.int gl_94), .val (.int gg), .unset, .unset, .unset] [])) tt
        refine XS.lload X118.here hx rfl (hb hby at_306) rfl ?_
        show Steps p.tables e below (T118.setTop (mkF m 308 #[.val (.int u0), .val (.int u1), .val (.int u2), .val (.long u3), .second, .val (.int ln0), .val (.int w2), .val (.int w4), .val (.ref b5), .val (.ref b11), .val (.ref b18), .val (.ref b28), .val (.int gl_52), .val (.int ff), .val (.int gl_94), .val (.int gg), .val (.long gj_94), .second, .val (.int gl_94), .val (.long w104), .second, .val (.long he), .second, .val (.int (0 : Int32)), .val (.long (if (0 : Int32) < (lcmpW he w104) then w104 else he)), .second, .val (.long gj_94), .second, .val (.int gl_94), .val (.int gg), .unset, .unset, .unset] [(.long gj_94)])) tt
        refine XS.lload X118.here hx rfl (hb hby at_308) rfl ?_
        show Steps p.tables e below (T118.setTop (mkF m 310 #[.val (.int u0), .val (.int u1), .val (.int u2), .val (.long u3), .second, .val (.int ln0), .val (.int w2), .val (.int w4), .val (.ref b5), .val (.ref b11), .val (.ref b18), .val (.ref b28), .val (.int gl_52), .val (.int ff), .val (.int gl_94), .val (.int gg), .val (.long gj_94), .second, .val (.int gl_94), .val (.long w104), .second, .val (.long he), .second, .val (.int (0 : Int32)), .val (.long (if (0 : Int32) < (lcmpW he w104) then w104 else he)), .second, .val (.long gj_94), .second, .val (.int gl_94), .val (.int gg), .unset, .unset, .unset] [(.long gj_94), (.long gj_94)])) tt
        refine XS.lcmp X118.here hx rfl (hb hby at_310) rfl ?_
        show Steps p.tables e below (T118.setTop (mkF m 311 #[.val (.int u0), .val (.int u1), .val (.int u2), .val (.long u3), .second, .val (.int ln0), .val (.int w2), .val (.int w4), .val (.ref b5), .val (.ref b11), .val (.ref b18), .val (.ref b28), .val (.int gl_52), .val (.int ff), .val (.int gl_94), .val (.int gg), .val (.long gj_94), .second, .val (.int gl_94), .val (.long w104), .second, .val (.long he), .second, .val (.int (0 : Int32)), .val (.long (if (0 : Int32) < (lcmpW he w104) then w104 else he)), .second, .val (.long gj_94), .second, .val (.int gl_94), .val (.int gg), .unset, .unset, .unset] [(.int (lcmpW gj_94 gj_94))])) tt
        refine XS.ifNo X118.here hx rfl (hb hby at_311) rfl ((if0 _ _).trans (teq ((lw_eq _ _).mpr rfl : (lcmpW gj_94 gj_94) = (0 : Int32))).2) ?_
        show Steps p.tables e below (T118.setTop (mkF m 314 #[.val (.int u0), .val (.int u1), .val (.int u2), .val (.long u3), .second, .val (.int ln0), .val (.int w2), .val (.int w4), .val (.ref b5), .val (.ref b11), .val (.ref b18), .val (.ref b28), .val (.int gl_52), .val (.int ff), .val (.int gl_94), .val (.int gg), .val (.long gj_94), .second, .val (.int gl_94), .val (.long w104), .second, .val (.long he), .second, .val (.int (0 : Int32)), .val (.long (if (0 : Int32) < (lcmpW he w104) then w104 else he)), .second, .val (.long gj_94), .second, .val (.int gl_94), .val (.int gg), .unset, .unset, .unset] [])) tt
        refine XS.iconst X118.here hx rfl (hb hby at_314) ?_
        show Steps p.tables e below (T118.setTop (mkF m 315 #[.val (.int u0), .val (.int u1), .val (.int u2), .val (.long u3), .second, .val (.int ln0), .val (.int w2), .val (.int w4), .val (.ref b5), .val (.ref b11), .val (.ref b18), .val (.ref b28), .val (.int gl_52), .val (.int ff), .val (.int gl_94), .val (.int gg), .val (.long gj_94), .second, .val (.int gl_94), .val (.long w104), .second, .val (.long he), .second, .val (.int (0 : Int32)), .val (.long (if (0 : Int32) < (lcmpW he w104) then w104 else he)), .second, .val (.long gj_94), .second, .val (.int gl_94), .val (.int gg), .unset, .unset, .unset] [(.int (1 : Int32))])) tt
        refine XS.goto X118.here hx rfl (pc0 := 315) (pc' := 319) rfl (hb hby at_315) (by decide) (by decide) ?_
        show Steps p.tables e below (T118.setTop (mkF m 319 #[.val (.int u0), .val (.int u1), .val (.int u2), .val (.long u3), .second, .val (.int ln0), .val (.int w2), .val (.int w4), .val (.ref b5), .val (.ref b11), .val (.ref b18), .val (.ref b28), .val (.int gl_52), .val (.int ff), .val (.int gl_94), .val (.int gg), .val (.long gj_94), .second, .val (.int gl_94), .val (.long w104), .second, .val (.long he), .second, .val (.int (0 : Int32)), .val (.long (if (0 : Int32) < (lcmpW he w104) then w104 else he)), .second, .val (.long gj_94), .second, .val (.int gl_94), .val (.int gg), .unset, .unset, .unset] [(.int (1 : Int32))])) tt
        refine XS.istore X118.here hx rfl (hb hby at_319) rfl (l' := #[.val (.int u0), .val (.int u1), .val (.int u2), .val (.long u3), .second, .val (.int ln0), .val (.int w2), .val (.int w4), .val (.ref b5), .val (.ref b11), .val (.ref b18), .val (.ref b28), .val (.int gl_52), .val (.int ff), .val (.int gl_94), .val (.int gg), .val (.long gj_94), .second, .val (.int gl_94), .val (.long w104), .second, .val (.long he), .second, .val (.int (0 : Int32)), .val (.long (if (0 : Int32) < (lcmpW he w104) then w104 else he)), .second, .val (.long gj_94), .second, .val (.int gl_94), .val (.int gg), .val (.int (1 : Int32)), .unset, .unset]) rfl ?_
        show Steps p.tables e below (T118.setTop (mkF m 321 #[.val (.int u0), .val (.int u1), .val (.int u2), .val (.long u3), .second, .val (.int ln0), .val (.int w2), .val (.int w4), .val (.ref b5), .val (.ref b11), .val (.ref b18), .val (.ref b28), .val (.int gl_52), .val (.int ff), .val (.int gl_94), .val (.int gg), .val (.long gj_94), .second, .val (.int gl_94), .val (.long w104), .second, .val (.long he), .second, .val (.int (0 : Int32)), .val (.long (if (0 : Int32) < (lcmpW he w104) then w104 else he)), .second, .val (.long gj_94), .second, .val (.int gl_94), .val (.int gg), .val (.int (1 : Int32)), .unset, .unset] [])) tt
        refine XS.lload X118.here hx rfl (hb hby at_321) rfl ?_
        show Steps p.tables e below (T118.setTop (mkF m 323 #[.val (.int u0), .val (.int u1), .val (.int u2), .val (.long u3), .second, .val (.int ln0), .val (.int w2), .val (.int w4), .val (.ref b5), .val (.ref b11), .val (.ref b18), .val (.ref b28), .val (.int gl_52), .val (.int ff), .val (.int gl_94), .val (.int gg), .val (.long gj_94), .second, .val (.int gl_94), .val (.long w104), .second, .val (.long he), .second, .val (.int (0 : Int32)), .val (.long (if (0 : Int32) < (lcmpW he w104) then w104 else he)), .second, .val (.long gj_94), .second, .val (.int gl_94), .val (.int gg), .val (.int (1 : Int32)), .unset, .unset] [(.long gj_94)])) tt
        refine XS.iload X118.here hx rfl (hb hby at_323) rfl ?_
        show Steps p.tables e below (T118.setTop (mkF m 325 #[.val (.int u0), .val (.int u1), .val (.int u2), .val (.long u3), .second, .val (.int ln0), .val (.int w2), .val (.int w4), .val (.ref b5), .val (.ref b11), .val (.ref b18), .val (.ref b28), .val (.int gl_52), .val (.int ff), .val (.int gl_94), .val (.int gg), .val (.long gj_94), .second, .val (.int gl_94), .val (.long w104), .second, .val (.long he), .second, .val (.int (0 : Int32)), .val (.long (if (0 : Int32) < (lcmpW he w104) then w104 else he)), .second, .val (.long gj_94), .second, .val (.int gl_94), .val (.int gg), .val (.int (1 : Int32)), .unset, .unset] [(.int gl_94), (.long gj_94)])) tt
        refine XS.i2l X118.here hx rfl (hb hby at_325) rfl ?_
        show Steps p.tables e below (T118.setTop (mkF m 326 #[.val (.int u0), .val (.int u1), .val (.int u2), .val (.long u3), .second, .val (.int ln0), .val (.int w2), .val (.int w4), .val (.ref b5), .val (.ref b11), .val (.ref b18), .val (.ref b28), .val (.int gl_52), .val (.int ff), .val (.int gl_94), .val (.int gg), .val (.long gj_94), .second, .val (.int gl_94), .val (.long w104), .second, .val (.long he), .second, .val (.int (0 : Int32)), .val (.long (if (0 : Int32) < (lcmpW he w104) then w104 else he)), .second, .val (.long gj_94), .second, .val (.int gl_94), .val (.int gg), .val (.int (1 : Int32)), .unset, .unset] [(.long (gl_94.toInt64)), (.long gj_94)])) tt
        refine XS.ladd X118.here hx rfl (hb hby at_326) rfl ?_
        show Steps p.tables e below (T118.setTop (mkF m 327 #[.val (.int u0), .val (.int u1), .val (.int u2), .val (.long u3), .second, .val (.int ln0), .val (.int w2), .val (.int w4), .val (.ref b5), .val (.ref b11), .val (.ref b18), .val (.ref b28), .val (.int gl_52), .val (.int ff), .val (.int gl_94), .val (.int gg), .val (.long gj_94), .second, .val (.int gl_94), .val (.long w104), .second, .val (.long he), .second, .val (.int (0 : Int32)), .val (.long (if (0 : Int32) < (lcmpW he w104) then w104 else he)), .second, .val (.long gj_94), .second, .val (.int gl_94), .val (.int gg), .val (.int (1 : Int32)), .unset, .unset] [(.long (gj_94 + (gl_94.toInt64)))])) tt
        refine XS.lload X118.here hx rfl (hb hby at_327) rfl ?_
        show Steps p.tables e below (T118.setTop (mkF m 329 #[.val (.int u0), .val (.int u1), .val (.int u2), .val (.long u3), .second, .val (.int ln0), .val (.int w2), .val (.int w4), .val (.ref b5), .val (.ref b11), .val (.ref b18), .val (.ref b28), .val (.int gl_52), .val (.int ff), .val (.int gl_94), .val (.int gg), .val (.long gj_94), .second, .val (.int gl_94), .val (.long w104), .second, .val (.long he), .second, .val (.int (0 : Int32)), .val (.long (if (0 : Int32) < (lcmpW he w104) then w104 else he)), .second, .val (.long gj_94), .second, .val (.int gl_94), .val (.int gg), .val (.int (1 : Int32)), .unset, .unset] [(.long (if (0 : Int32) < (lcmpW he w104) then w104 else he)), (.long (gj_94 + (gl_94.toInt64)))])) tt
        refine XS.lcmp X118.here hx rfl (hb hby at_329) rfl ?_
        show Steps p.tables e below (T118.setTop (mkF m 330 #[.val (.int u0), .val (.int u1), .val (.int u2), .val (.long u3), .second, .val (.int ln0), .val (.int w2), .val (.int w4), .val (.ref b5), .val (.ref b11), .val (.ref b18), .val (.ref b28), .val (.int gl_52), .val (.int ff), .val (.int gl_94), .val (.int gg), .val (.long gj_94), .second, .val (.int gl_94), .val (.long w104), .second, .val (.long he), .second, .val (.int (0 : Int32)), .val (.long (if (0 : Int32) < (lcmpW he w104) then w104 else he)), .second, .val (.long gj_94), .second, .val (.int gl_94), .val (.int gg), .val (.int (1 : Int32)), .unset, .unset] [(.int (lcmpW (gj_94 + (gl_94.toInt64)) (if (0 : Int32) < (lcmpW he w104) then w104 else he)))])) tt
        refine XS.ifNo X118.here hx rfl (hb hby at_330) rfl ((if0 _ _).trans (teq ((lw_eq _ _).mpr (by rw [if_neg (fun q => by have r := (lw_gt _ _).mp q; rw [hhe] at r; exact hcut' r)]; exact hhe.symm) : (lcmpW (gj_94 + (gl_94.toInt64)) (if (0 : Int32) < (lcmpW he w104) then w104 else he)) = (0 : Int32))).2) ?_
        show Steps p.tables e below (T118.setTop (mkF m 333 #[.val (.int u0), .val (.int u1), .val (.int u2), .val (.long u3), .second, .val (.int ln0), .val (.int w2), .val (.int w4), .val (.ref b5), .val (.ref b11), .val (.ref b18), .val (.ref b28), .val (.int gl_52), .val (.int ff), .val (.int gl_94), .val (.int gg), .val (.long gj_94), .second, .val (.int gl_94), .val (.long w104), .second, .val (.long he), .second, .val (.int (0 : Int32)), .val (.long (if (0 : Int32) < (lcmpW he w104) then w104 else he)), .second, .val (.long gj_94), .second, .val (.int gl_94), .val (.int gg), .val (.int (1 : Int32)), .unset, .unset] [])) tt
        refine XS.iconst X118.here hx rfl (hb hby at_333) ?_
        show Steps p.tables e below (T118.setTop (mkF m 334 #[.val (.int u0), .val (.int u1), .val (.int u2), .val (.long u3), .second, .val (.int ln0), .val (.int w2), .val (.int w4), .val (.ref b5), .val (.ref b11), .val (.ref b18), .val (.ref b28), .val (.int gl_52), .val (.int ff), .val (.int gl_94), .val (.int gg), .val (.long gj_94), .second, .val (.int gl_94), .val (.long w104), .second, .val (.long he), .second, .val (.int (0 : Int32)), .val (.long (if (0 : Int32) < (lcmpW he w104) then w104 else he)), .second, .val (.long gj_94), .second, .val (.int gl_94), .val (.int gg), .val (.int (1 : Int32)), .unset, .unset] [(.int (1 : Int32))])) tt
        refine XS.goto X118.here hx rfl (pc0 := 334) (pc' := 338) rfl (hb hby at_334) (by decide) (by decide) ?_
        show Steps p.tables e below (T118.setTop (mkF m 338 #[.val (.int u0), .val (.int u1), .val (.int u2), .val (.long u3), .second, .val (.int ln0), .val (.int w2), .val (.int w4), .val (.ref b5), .val (.ref b11), .val (.ref b18), .val (.ref b28), .val (.int gl_52), .val (.int ff), .val (.int gl_94), .val (.int gg), .val (.long gj_94), .second, .val (.int gl_94), .val (.long w104), .second, .val (.long he), .second, .val (.int (0 : Int32)), .val (.long (if (0 : Int32) < (lcmpW he w104) then w104 else he)), .second, .val (.long gj_94), .second, .val (.int gl_94), .val (.int gg), .val (.int (1 : Int32)), .unset, .unset] [(.int (1 : Int32))])) tt
        refine XS.istore X118.here hx rfl (hb hby at_338) rfl (l' := #[.val (.int u0), .val (.int u1), .val (.int u2), .val (.long u3), .second, .val (.int ln0), .val (.int w2), .val (.int w4), .val (.ref b5), .val (.ref b11), .val (.ref b18), .val (.ref b28), .val (.int gl_52), .val (.int ff), .val (.int gl_94), .val (.int gg), .val (.long gj_94), .second, .val (.int gl_94), .val (.long w104), .second, .val (.long he), .second, .val (.int (0 : Int32)), .val (.long (if (0 : Int32) < (lcmpW he w104) then w104 else he)), .second, .val (.long gj_94), .second, .val (.int gl_94), .val (.int gg), .val (.int (1 : Int32)), .val (.int (1 : Int32)), .unset]) rfl ?_
        show Steps p.tables e below (T118.setTop (mkF m 340 #[.val (.int u0), .val (.int u1), .val (.int u2), .val (.long u3), .second, .val (.int ln0), .val (.int w2), .val (.int w4), .val (.ref b5), .val (.ref b11), .val (.ref b18), .val (.ref b28), .val (.int gl_52), .val (.int ff), .val (.int gl_94), .val (.int gg), .val (.long gj_94), .second, .val (.int gl_94), .val (.long w104), .second, .val (.long he), .second, .val (.int (0 : Int32)), .val (.long (if (0 : Int32) < (lcmpW he w104) then w104 else he)), .second, .val (.long gj_94), .second, .val (.int gl_94), .val (.int gg), .val (.int (1 : Int32)), .val (.int (1 : Int32)), .unset] [])) tt
        refine XS.iload X118.here hx rfl (hb hby at_340) rfl ?_
        show Steps p.tables e below (T118.setTop (mkF m 342 #[.val (.int u0), .val (.int u1), .val (.int u2), .val (.long u3), .second, .val (.int ln0), .val (.int w2), .val (.int w4), .val (.ref b5), .val (.ref b11), .val (.ref b18), .val (.ref b28), .val (.int gl_52), .val (.int ff), .val (.int gl_94), .val (.int gg), .val (.long gj_94), .second, .val (.int gl_94), .val (.long w104), .second, .val (.long he), .second, .val (.int (0 : Int32)), .val (.long (if (0 : Int32) < (lcmpW he w104) then w104 else he)), .second, .val (.long gj_94), .second, .val (.int gl_94), .val (.int gg), .val (.int (1 : Int32)), .val (.int (1 : Int32)), .unset] [(.int gg)])) tt
        refine XS.iload X118.here hx rfl (hb hby at_342) rfl ?_
        show Steps p.tables e below (T118.setTop (mkF m 344 #[.val (.int u0), .val (.int u1), .val (.int u2), .val (.long u3), .second, .val (.int ln0), .val (.int w2), .val (.int w4), .val (.ref b5), .val (.ref b11), .val (.ref b18), .val (.ref b28), .val (.int gl_52), .val (.int ff), .val (.int gl_94), .val (.int gg), .val (.long gj_94), .second, .val (.int gl_94), .val (.long w104), .second, .val (.long he), .second, .val (.int (0 : Int32)), .val (.long (if (0 : Int32) < (lcmpW he w104) then w104 else he)), .second, .val (.long gj_94), .second, .val (.int gl_94), .val (.int gg), .val (.int (1 : Int32)), .val (.int (1 : Int32)), .unset] [(.int (0 : Int32)), (.int gg)])) tt
        refine XS.ifYes X118.here hx rfl (pc0 := 344) (pc' := 352) rfl (hb hby at_344) rfl ((if0 _ _).trans (teq (rfl : (0 : Int32) = (0 : Int32))).1) (by decide) (by decide) ?_
        show Steps p.tables e below (T118.setTop (mkF m 352 #[.val (.int u0), .val (.int u1), .val (.int u2), .val (.long u3), .second, .val (.int ln0), .val (.int w2), .val (.int w4), .val (.ref b5), .val (.ref b11), .val (.ref b18), .val (.ref b28), .val (.int gl_52), .val (.int ff), .val (.int gl_94), .val (.int gg), .val (.long gj_94), .second, .val (.int gl_94), .val (.long w104), .second, .val (.long he), .second, .val (.int (0 : Int32)), .val (.long (if (0 : Int32) < (lcmpW he w104) then w104 else he)), .second, .val (.long gj_94), .second, .val (.int gl_94), .val (.int gg), .val (.int (1 : Int32)), .val (.int (1 : Int32)), .unset] [(.int gg)])) tt
        refine XS.iload X118.here hx rfl (hb hby at_352) rfl ?_
        show Steps p.tables e below (T118.setTop (mkF m 354 #[.val (.int u0), .val (.int u1), .val (.int u2), .val (.long u3), .second, .val (.int ln0), .val (.int w2), .val (.int w4), .val (.ref b5), .val (.ref b11), .val (.ref b18), .val (.ref b28), .val (.int gl_52), .val (.int ff), .val (.int gl_94), .val (.int gg), .val (.long gj_94), .second, .val (.int gl_94), .val (.long w104), .second, .val (.long he), .second, .val (.int (0 : Int32)), .val (.long (if (0 : Int32) < (lcmpW he w104) then w104 else he)), .second, .val (.long gj_94), .second, .val (.int gl_94), .val (.int gg), .val (.int (1 : Int32)), .val (.int (1 : Int32)), .unset] [(.int gg), (.int gg)])) tt
        refine XS.icmpNo X118.here hx rfl (hb hby at_354) rfl (teq (rfl : gg = gg)).2 ?_
        show Steps p.tables e below (T118.setTop (mkF m 357 #[.val (.int u0), .val (.int u1), .val (.int u2), .val (.long u3), .second, .val (.int ln0), .val (.int w2), .val (.int w4), .val (.ref b5), .val (.ref b11), .val (.ref b18), .val (.ref b28), .val (.int gl_52), .val (.int ff), .val (.int gl_94), .val (.int gg), .val (.long gj_94), .second, .val (.int gl_94), .val (.long w104), .second, .val (.long he), .second, .val (.int (0 : Int32)), .val (.long (if (0 : Int32) < (lcmpW he w104) then w104 else he)), .second, .val (.long gj_94), .second, .val (.int gl_94), .val (.int gg), .val (.int (1 : Int32)), .val (.int (1 : Int32)), .unset] [])) tt
        refine XS.iconst X118.here hx rfl (hb hby at_357) ?_
        show Steps p.tables e below (T118.setTop (mkF m 358 #[.val (.int u0), .val (.int u1), .val (.int u2), .val (.long u3), .second, .val (.int ln0), .val (.int w2), .val (.int w4), .val (.ref b5), .val (.ref b11), .val (.ref b18), .val (.ref b28), .val (.int gl_52), .val (.int ff), .val (.int gl_94), .val (.int gg), .val (.long gj_94), .second, .val (.int gl_94), .val (.long w104), .second, .val (.long he), .second, .val (.int (0 : Int32)), .val (.long (if (0 : Int32) < (lcmpW he w104) then w104 else he)), .second, .val (.long gj_94), .second, .val (.int gl_94), .val (.int gg), .val (.int (1 : Int32)), .val (.int (1 : Int32)), .unset] [(.int (1 : Int32))])) tt
        refine XS.goto X118.here hx rfl (pc0 := 358) (pc' := 362) rfl (hb hby at_358) (by decide) (by decide) ?_
        show Steps p.tables e below (T118.setTop (mkF m 362 #[.val (.int u0), .val (.int u1), .val (.int u2), .val (.long u3), .second, .val (.int ln0), .val (.int w2), .val (.int w4), .val (.ref b5), .val (.ref b11), .val (.ref b18), .val (.ref b28), .val (.int gl_52), .val (.int ff), .val (.int gl_94), .val (.int gg), .val (.long gj_94), .second, .val (.int gl_94), .val (.long w104), .second, .val (.long he), .second, .val (.int (0 : Int32)), .val (.long (if (0 : Int32) < (lcmpW he w104) then w104 else he)), .second, .val (.long gj_94), .second, .val (.int gl_94), .val (.int gg), .val (.int (1 : Int32)), .val (.int (1 : Int32)), .unset] [(.int (1 : Int32))])) tt
        refine XS.istore X118.here hx rfl (hb hby at_362) rfl (l' := #[.val (.int u0), .val (.int u1), .val (.int u2), .val (.long u3), .second, .val (.int ln0), .val (.int w2), .val (.int w4), .val (.ref b5), .val (.ref b11), .val (.ref b18), .val (.ref b28), .val (.int gl_52), .val (.int ff), .val (.int gl_94), .val (.int gg), .val (.long gj_94), .second, .val (.int gl_94), .val (.long w104), .second, .val (.long he), .second, .val (.int (0 : Int32)), .val (.long (if (0 : Int32) < (lcmpW he w104) then w104 else he)), .second, .val (.long gj_94), .second, .val (.int gl_94), .val (.int gg), .val (.int (1 : Int32)), .val (.int (1 : Int32)), .val (.int (1 : Int32))]) rfl ?_
        show Steps p.tables e below (T118.setTop (mkF m 364 #[.val (.int u0), .val (.int u1), .val (.int u2), .val (.long u3), .second, .val (.int ln0), .val (.int w2), .val (.int w4), .val (.ref b5), .val (.ref b11), .val (.ref b18), .val (.ref b28), .val (.int gl_52), .val (.int ff), .val (.int gl_94), .val (.int gg), .val (.long gj_94), .second, .val (.int gl_94), .val (.long w104), .second, .val (.long he), .second, .val (.int (0 : Int32)), .val (.long (if (0 : Int32) < (lcmpW he w104) then w104 else he)), .second, .val (.long gj_94), .second, .val (.int gl_94), .val (.int gg), .val (.int (1 : Int32)), .val (.int (1 : Int32)), .val (.int (1 : Int32))] [])) tt
        refine XS.iload X118.here hx rfl (hb hby at_364) rfl ?_
        show Steps p.tables e below (T118.setTop (mkF m 366 #[.val (.int u0), .val (.int u1), .val (.int u2), .val (.long u3), .second, .val (.int ln0), .val (.int w2), .val (.int w4), .val (.ref b5), .val (.ref b11), .val (.ref b18), .val (.ref b28), .val (.int gl_52), .val (.int ff), .val (.int gl_94), .val (.int gg), .val (.long gj_94), .second, .val (.int gl_94), .val (.long w104), .second, .val (.long he), .second, .val (.int (0 : Int32)), .val (.long (if (0 : Int32) < (lcmpW he w104) then w104 else he)), .second, .val (.long gj_94), .second, .val (.int gl_94), .val (.int gg), .val (.int (1 : Int32)), .val (.int (1 : Int32)), .val (.int (1 : Int32))] [(.int (1 : Int32))])) tt
        refine XS.ifNo X118.here hx rfl (hb hby at_366) rfl ((if0 _ _).trans (feq ((by decide) : ¬ ((1 : Int32) = (0 : Int32)))).1) ?_
        show Steps p.tables e below (T118.setTop (mkF m 369 #[.val (.int u0), .val (.int u1), .val (.int u2), .val (.long u3), .second, .val (.int ln0), .val (.int w2), .val (.int w4), .val (.ref b5), .val (.ref b11), .val (.ref b18), .val (.ref b28), .val (.int gl_52), .val (.int ff), .val (.int gl_94), .val (.int gg), .val (.long gj_94), .second, .val (.int gl_94), .val (.long w104), .second, .val (.long he), .second, .val (.int (0 : Int32)), .val (.long (if (0 : Int32) < (lcmpW he w104) then w104 else he)), .second, .val (.long gj_94), .second, .val (.int gl_94), .val (.int gg), .val (.int (1 : Int32)), .val (.int (1 : Int32)), .val (.int (1 : Int32))] [])) tt
        refine XS.iload X118.here hx rfl (hb hby at_369) rfl ?_
        show Steps p.tables e below (T118.setTop (mkF m 371 #[.val (.int u0), .val (.int u1), .val (.int u2), .val (.long u3), .second, .val (.int ln0), .val (.int w2), .val (.int w4), .val (.ref b5), .val (.ref b11), .val (.ref b18), .val (.ref b28), .val (.int gl_52), .val (.int ff), .val (.int gl_94), .val (.int gg), .val (.long gj_94), .second, .val (.int gl_94), .val (.long w104), .second, .val (.long he), .second, .val (.int (0 : Int32)), .val (.long (if (0 : Int32) < (lcmpW he w104) then w104 else he)), .second, .val (.long gj_94), .second, .val (.int gl_94), .val (.int gg), .val (.int (1 : Int32)), .val (.int (1 : Int32)), .val (.int (1 : Int32))] [(.int (1 : Int32))])) tt
        refine XS.ifNo X118.here hx rfl (hb hby at_371) rfl ((if0 _ _).trans (feq ((by decide) : ¬ ((1 : Int32) = (0 : Int32)))).1) ?_
        show Steps p.tables e below (T118.setTop (mkF m 374 #[.val (.int u0), .val (.int u1), .val (.int u2), .val (.long u3), .second, .val (.int ln0), .val (.int w2), .val (.int w4), .val (.ref b5), .val (.ref b11), .val (.ref b18), .val (.ref b28), .val (.int gl_52), .val (.int ff), .val (.int gl_94), .val (.int gg), .val (.long gj_94), .second, .val (.int gl_94), .val (.long w104), .second, .val (.long he), .second, .val (.int (0 : Int32)), .val (.long (if (0 : Int32) < (lcmpW he w104) then w104 else he)), .second, .val (.long gj_94), .second, .val (.int gl_94), .val (.int gg), .val (.int (1 : Int32)), .val (.int (1 : Int32)), .val (.int (1 : Int32))] [])) tt
        refine XS.iload X118.here hx rfl (hb hby at_374) rfl ?_
        show Steps p.tables e below (T118.setTop (mkF m 376 #[.val (.int u0), .val (.int u1), .val (.int u2), .val (.long u3), .second, .val (.int ln0), .val (.int w2), .val (.int w4), .val (.ref b5), .val (.ref b11), .val (.ref b18), .val (.ref b28), .val (.int gl_52), .val (.int ff), .val (.int gl_94), .val (.int gg), .val (.long gj_94), .second, .val (.int gl_94), .val (.long w104), .second, .val (.long he), .second, .val (.int (0 : Int32)), .val (.long (if (0 : Int32) < (lcmpW he w104) then w104 else he)), .second, .val (.long gj_94), .second, .val (.int gl_94), .val (.int gg), .val (.int (1 : Int32)), .val (.int (1 : Int32)), .val (.int (1 : Int32))] [(.int (1 : Int32))])) tt
        refine XS.ifNo X118.here hx rfl (hb hby at_376) rfl ((if0 _ _).trans (feq ((by decide) : ¬ ((1 : Int32) = (0 : Int32)))).1) ?_
        show Steps p.tables e below (T118.setTop (mkF m 379 #[.val (.int u0), .val (.int u1), .val (.int u2), .val (.long u3), .second, .val (.int ln0), .val (.int w2), .val (.int w4), .val (.ref b5), .val (.ref b11), .val (.ref b18), .val (.ref b28), .val (.int gl_52), .val (.int ff), .val (.int gl_94), .val (.int gg), .val (.long gj_94), .second, .val (.int gl_94), .val (.long w104), .second, .val (.long he), .second, .val (.int (0 : Int32)), .val (.long (if (0 : Int32) < (lcmpW he w104) then w104 else he)), .second, .val (.long gj_94), .second, .val (.int gl_94), .val (.int gg), .val (.int (1 : Int32)), .val (.int (1 : Int32)), .val (.int (1 : Int32))] [])) tt
        refine XS.iconst X118.here hx rfl (hb hby at_379) ?_
        show Steps p.tables e below (T118.setTop (mkF m 380 #[.val (.int u0), .val (.int u1), .val (.int u2), .val (.long u3), .second, .val (.int ln0), .val (.int w2), .val (.int w4), .val (.ref b5), .val (.ref b11), .val (.ref b18), .val (.ref b28), .val (.int gl_52), .val (.int ff), .val (.int gl_94), .val (.int gg), .val (.long gj_94), .second, .val (.int gl_94), .val (.long w104), .second, .val (.long he), .second, .val (.int (0 : Int32)), .val (.long (if (0 : Int32) < (lcmpW he w104) then w104 else he)), .second, .val (.long gj_94), .second, .val (.int gl_94), .val (.int gg), .val (.int (1 : Int32)), .val (.int (1 : Int32)), .val (.int (1 : Int32))] [(.int (1 : Int32))])) tt
        refine XS.goto X118.here hx rfl (pc0 := 380) (pc' := 384) rfl (hb hby at_380) (by decide) (by decide) ?_
        exact kk
      exact Goal.retV X118 hx Bd.returns rfl (Or.inl ⟨rfl, Or.inr (Or.inl rfl), _, rfl⟩) (hb hby at_384) hlk e118 ⟨rfl, N118⟩ (by decide) (by decide)
set_option maxRecDepth 65536 in
set_option maxHeartbeats 40000000 in
theorem comes_1 {Post : Tables → Env → Array Value → State → Outcome → State → Prop} (hpost : ∀ tb e args s v u, (limb_1_1.after args s (.returned v) u = true ∧ limb_1_2.after args s (.returned v) u = true ∧ True) → FrameEnd s (.returned v) u (Jvm.fieldLocs frame_1_writes args s ++ Jvm.arrayLocs frame_1_arrays args s ++ Jvm.staticLocs frame_1_statics s) 24 128 → Post tb e args s (.returned v) u) :
    ArmFor flags0 classFile x code maxLocals ret World_1 tables_1 room_1 Calls_1 rest_1 Pre_1 Post := by
  intro l hfl _ _ p e ha hc hk s m args below hf hA hF happ hP
  obtain ⟨hcalls, hrest, hpre⟩ := hP
  obtain ⟨-, -, -, hnamed, -, -, -, hat⟩ := (Spec.applies_iff hf).mp happ
  obtain ⟨hg, hn⟩ := and_e (Cond.before_iff.mp (show (Jvm.Cond.and given_1 narrow_1).before args s = true from hpre))
  obtain ⟨u1, u2⟩ := and_e hg
  obtain ⟨u3, u4⟩ := and_e u2
  obtain ⟨u5, u6⟩ := and_e u4
  obtain ⟨u7, u8⟩ := and_e u6
  obtain ⟨w0, w1, w2, w3, rfl⟩ : ∃ w0 w1 w2 w3 : Value, args = #[w0, w1, w2, w3] := by
    have hs : args.size = 4 := by simpa [Cond.value, given_1] using u1
    obtain ⟨L⟩ := args
    match L, hs with
    | [w0, w1, w2, w3], _ => exact ⟨w0, w1, w2, w3, rfl⟩
  have hw := fun d (hd : d ∈ tables_1) => atoms_spec (ws := Jvm.Cond.code x code maxLocals ret :: tables_1) hat d (List.mem_cons_of_mem _ hd)
  obtain ⟨hsets, hown0⟩ := atoms_of _ (rest_1_c_eq ▸ (show rest_1_c.before _ s = true from hrest))
  have hr0 := Cond.before_iff.mp hown0
  obtain ⟨i0, ei0⟩ := is_v u3
  obtain rfl : w0 = (.int i0) := Option.some.inj ei0
  obtain ⟨i1, ei1⟩ := is_v u5
  obtain rfl : w1 = (.int i1) := Option.some.inj ei1
  obtain ⟨i2, ei2⟩ := is_v u7
  obtain rfl : w2 = (.int i2) := Option.some.inj ei2
  obtain ⟨i3, ei3⟩ := isL_v u8
  obtain rfl : w3 = (.long i3) := Option.some.inj ei3
  have n3 := not_v (Cond.before_iff.mp (hsets _ (List.mem_of_getElem? (i := 2) rfl)))
  obtain ⟨zc, e6⟩ := is_v (Cond.before_iff.mp (hsets _ (List.mem_of_getElem? (i := 1) rfl)))
  have S_zc := Sta.toN (Sta.start e6 (Or.inl (hsets _ (List.mem_of_getElem? (i := 0) rfl))))
  have hCS : ¬ (zc = (0 : Int32)) := gotF (Cond.eq_ints e6 (Term.int_eval (0))) n3
  obtain ⟨fm, e7, pfm⟩ := isR_v (Cond.before_iff.mp (hsets _ (List.mem_of_getElem? (i := 8) rfl)))
  have S_fm := Sta.toN (Sta.start e7 (Or.inl (hsets _ (List.mem_of_getElem? (i := 7) rfl))))
  obtain ⟨n, o, h1, h2, h3, _, L, rfl, ⟨rfl, N⟩, hq⟩ := rm0 l s _ hw tables_1 i0 i1 i2 i3 zc fm s.heap s.heap.size (Nat.le_refl _) S_zc S_fm hCS pfm p e ha hc hk s m _ below hf ((Spec.applies_iff_loose hf).mp happ).1 ⟨rfl, State.Warmed39.refl s, rfl⟩ trivial
  refine ⟨n, _, h1, h2, h3, hpost _ _ _ _ _ _ ⟨Cond.after_iff.mpr rfl, Cond.after_iff.mpr (eq_i res_at (Term.int_eval (1)) rfl), trivial⟩ ⟨hq.1, hq.2.1, (hq.2.2.sift fun y hy => Or.inr (N y hy)).mono (by decide) (by decide)⟩⟩
theorem main_1_1 : Claimed_1_1 := comes_1 fun _ _ _ _ _ _ h hF => ⟨h.1, hF⟩
theorem main_1_2 : Claimed_1_2 := comes_1 fun _ _ _ _ _ _ h hF => ⟨h.2.1, hF⟩
end Jvm.Pilot.@@N@@
namespace Jvm.Pilot.@@N@@
open Jvm Jvm.ClassFile Sem Op Lib Jvm.Free Jvm.Stand Jvm.Pilot.@@N@@.Jvm.D
/-! MADE BY PROGRAM (witnessworld.py) out of the Statement's table words and the real class files: 24 classes; the members and pool entries that the words name. The judged class is class 1, her method 1. -/
namespace start1
open Jvm.ClassFile
def u (s : String) : CpInfo := .utf8 (stringToUtf16 s)
/-- a pool by its gaps: so many unusable entries, then the entry; so many at the end -/
def gap : Nat → List CpInfo → List CpInfo
  | 0, r => r
  | n + 1, r => .unusable :: gap n r
def poolList (es : List (Nat × CpInfo)) (last : Nat) : List CpInfo := es.foldr (fun e r => gap e.1 (e.2 :: r)) (gap last [])
def pool (es : List (Nat × CpInfo)) (last : Nat) : Array CpInfo := ⟨poolList es last⟩
def fileOf (pool : Array CpInfo) (this : Nat) (attrs : Array Attribute := #[]) (ms : Array MethodInfo := #[]) (fl : Nat := 33) (sup : Nat := 0) (ifs : Array Nat := #[]) (fds : Array FieldInfo := #[]) : ClassFile where
  minorVersion := 0
  majorVersion := 65
  constantPool := pool
  accessFlags := fl
  thisClass := this
  superClass := sup
  interfaces := ifs
  fields := fds
  methods := ms
  attributes := attrs
def plain (name : String) (sup : Option ClassId) : Class where
  name := name
  kind := .ordinary
  loader := none
  accessFlags := 33
  super := sup
  interfaces := #[]
  cf := none
  fields := #[]
  methods := #[]
  instanceTypes := #[]
  staticTypes := #[]
  resolved := #[]
  callSites := []
  init := .initialized
  statics := none
  mirror := none

def pool0 : Array CpInfo := pool [(5, u "<init>"), (0, u "()V"), (1, .class_ 10), (1, u "java/lang/Object")] 113

def k0c0 : Code := { maxStack := 0, maxLocals := 1, code := object_method_1_code, exceptionTable := #[], attributes := #[] }
def k0m0 : Method := { name := "<init>", desc := "()V", sig := { parameters := [], returnType := none }, accessFlags := 1, code := some k0c0 }
/-- java/lang/Object -/
def k0 : Class := { plain "java/lang/Object" none with
  accessFlags := 33
  interfaces := #[]
  cf := some (fileOf pool0 8 #[] #[{ accessFlags := 1, nameIndex := 5, descriptorIndex := 6, attributes := #[] }] 33 0 #[] #[])
  fields := #[]
  methods := #[k0m0]
  instanceTypes := #[]
  staticTypes := #[]
  resolved := Array.replicate 124 none
  statics := none }

def pool1 : Array CpInfo := pool [(2, .class_ 4), (1, u "java/lang/Object"), (0, u "<init>"), (0, u "()V"), (0, .class_ 8), (0, u "java/lang/String"), (0, .methodref 7 10), (0, .nameAndType 5 11), (0, u "([C)V"), (0, .class_ 13), (0, u "com/example/pattern_automaton/patternautomaton/CharBlock$TextSource"), (0, .methodref 12 15), (0, .nameAndType 5 16), (0, u "(Ljava/lang/CharSequence;)V"), (0, .class_ 18), (0, u "com/example/pattern_automaton/patternautomaton/CharBlock"), (0, .methodref 17 20), (0, .nameAndType 5 21), (0, u "(I)V"), (0, .methodref 17 23), (0, .nameAndType 24 25), (0, u "fill"), (0, u "(Lcom/example/pattern_automaton/patternautomaton/CharBlock$Source;)I"), (0, .methodref 17 27), (0, .nameAndType 28 29), (0, u "filled"), (0, u "()I"), (0, .integer 2147483647), (0, .methodref 17 32), (0, .nameAndType 33 21), (0, u "nextWalkFrom"), (0, .methodref 17 35), (0, .nameAndType 36 37), (0, u "start"), (0, u "()J"), (0, .long 7), (1, .methodref 41 42), (0, .class_ 43), (0, .nameAndType 44 45), (0, u "java/lang/Math"), (0, u "min"), (0, u "(JJ)J"), (0, .methodref 17 47), (0, .nameAndType 48 49), (0, u "cutTo"), (0, u "(J)V"), (0, .methodref 17 51), (0, .nameAndType 52 29), (0, u "from"), (0, .class_ 54), (0, u "com/example/pattern_automaton/patternautomaton/CharBlockCutToPinLaw"), (2, u "law"), (0, u "(IIIJ)Z")] 10

def k1m0 : Method := { name := "<init>", desc := "()V", sig := { parameters := [], returnType := none }, accessFlags := 1, code := none }
def k1c1 : Code := { maxStack := 6, maxLocals := 33, code := code, exceptionTable := #[], attributes := #[] }
def k1m1 : Method := { name := "law", desc := "(IIIJ)Z", sig := { parameters := [.int, .int, .int, .long], returnType := some .boolean }, accessFlags := 9, code := some k1c1 }
/-- com/example/pattern_automaton/patternautomaton/CharBlockCutToPinLaw -/
def k1 : Class := { plain "com/example/pattern_automaton/patternautomaton/CharBlockCutToPinLaw" (some 0) with
  accessFlags := 49
  interfaces := #[]
  cf := some (fileOf pool1 53 #[] #[{ accessFlags := 1, nameIndex := 5, descriptorIndex := 6, attributes := #[] }, { accessFlags := 9, nameIndex := 57, descriptorIndex := 58, attributes := #[] }] 49 2 #[] #[])
  fields := #[]
  methods := #[k1m0, k1m1]
  instanceTypes := #[]
  staticTypes := #[]
  resolved := Array.replicate 69 none
  statics := none }

def pool2 : Array CpInfo := pool [(1, .class_ 2), (0, u "java/io/Serializable"), (0, .class_ 4), (0, u "java/lang/Object")] 2

/-- java/io/Serializable -/
def k2 : Class := { plain "java/io/Serializable" (some 0) with
  accessFlags := 1537
  interfaces := #[]
  cf := some (fileOf pool2 1 #[] #[] 1537 3 #[] #[])
  fields := #[]
  methods := #[]
  instanceTypes := #[]
  staticTypes := #[]
  resolved := Array.replicate 7 none
  statics := none }

def pool3 : Array CpInfo := pool [(1, .class_ 2), (0, u "java/lang/Comparable"), (0, .class_ 4), (0, u "java/lang/Object")] 7

/-- java/lang/Comparable -/
def k3 : Class := { plain "java/lang/Comparable" (some 0) with
  accessFlags := 1537
  interfaces := #[]
  cf := some (fileOf pool3 1 #[] #[] 1537 3 #[] #[])
  fields := #[]
  methods := #[]
  instanceTypes := #[]
  staticTypes := #[]
  resolved := Array.replicate 12 none
  statics := none }

def pool4 : Array CpInfo := pool [(2, .class_ 4), (1, u "java/lang/CharSequence"), (0, u "length"), (0, u "()I"), (40, .class_ 48), (0, u "java/lang/CharSequence$1CodePointIterator"), (10, .class_ 60), (0, u "java/lang/CharSequence$1CharIterator"), (5, .class_ 67), (0, u "java/lang/Object")] 63

def k4m0 : Method := { name := "length", desc := "()I", sig := { parameters := [], returnType := some .int }, accessFlags := 1025, code := none }
/-- java/lang/CharSequence -/
def k4 : Class := { plain "java/lang/CharSequence" (some 0) with
  accessFlags := 1537
  interfaces := #[]
  cf := some (fileOf pool4 2 #[.nestMembers #[47, 59]] #[{ accessFlags := 1025, nameIndex := 5, descriptorIndex := 6, attributes := #[] }] 1537 66 #[] #[])
  fields := #[]
  methods := #[k4m0]
  instanceTypes := #[]
  staticTypes := #[]
  resolved := Array.replicate 131 none
  statics := none }

def pool5 : Array CpInfo := pool [(1, .class_ 2), (0, u "java/lang/constant/Constable"), (0, .class_ 4), (0, u "java/lang/Object")] 6

/-- java/lang/constant/Constable -/
def k5 : Class := { plain "java/lang/constant/Constable" (some 0) with
  accessFlags := 1537
  interfaces := #[]
  cf := some (fileOf pool5 1 #[] #[] 1537 3 #[] #[])
  fields := #[]
  methods := #[]
  instanceTypes := #[]
  staticTypes := #[]
  resolved := Array.replicate 11 none
  statics := none }

def pool6 : Array CpInfo := pool [(1, .class_ 2), (0, u "java/lang/constant/ConstantDesc"), (0, .class_ 4), (0, u "java/lang/Object")] 32

/-- java/lang/constant/ConstantDesc -/
def k6 : Class := { plain "java/lang/constant/ConstantDesc" (some 0) with
  accessFlags := 1537
  interfaces := #[]
  cf := some (fileOf pool6 1 #[] #[] 1537 3 #[] #[])
  fields := #[]
  methods := #[]
  instanceTypes := #[]
  staticTypes := #[]
  resolved := Array.replicate 37 none
  statics := none }

def pool7 : Array CpInfo := pool [(1, .methodref 2 3), (0, .class_ 4), (0, .nameAndType 5 6), (0, u "java/lang/Object"), (0, u "<init>"), (0, u "()V"), (2, .fieldref 10 11), (0, .class_ 12), (0, .nameAndType 13 14), (0, u "java/lang/String"), (0, u "value"), (0, u "[B"), (0, .fieldref 10 16), (0, .nameAndType 17 18), (0, u "coder"), (0, u "B"), (2, u "hash"), (0, u "I"), (2, u "hashIsZero"), (0, u "Z"), (0, .methodref 10 28), (0, .nameAndType 5 29), (0, u "([CIILjava/lang/Void;)V"), (4, .methodref 10 35), (0, .nameAndType 36 37), (0, u "checkBoundsOffCount"), (0, u "(III)I"), (0, .fieldref 10 39), (0, .nameAndType 40 26), (0, u "COMPACT_STRINGS"), (1, .class_ 44), (1, u "java/lang/StringUTF16"), (0, u "compress"), (1, .methodref 42 48), (0, .nameAndType 49 50), (0, u "coderFromArrayLen"), (0, u "([BI)B"), (56, .class_ 109), (1, u "java/lang/StringLatin1"), (32, u "()Z"), (34, .methodref 42 178), (0, .nameAndType 45 179), (0, u "([CII)[B"), (154, u "()I"), (0, .methodref 10 336), (0, .nameAndType 17 337), (0, u "()B"), (154, .methodref 10 493), (0, .nameAndType 494 142), (0, u "isLatin1"), (10, .methodref 10 506), (0, .nameAndType 507 334), (0, u "length"), (5, u "checkFromToIndex"), (7, .methodref 10 522), (0, .nameAndType 523 524), (0, u "checkBoundsBeginEnd"), (0, u "(III)V"), (0, .methodref 107 526), (0, .nameAndType 527 528), (0, u "getChars"), (0, u "([BII[CI)V"), (46, .class_ 576), (0, u "java/lang/CharSequence"), (22, u "CASE_INSENSITIVE_ORDER"), (0, u "Ljava/util/Comparator;"), (409, u "([C)V"), (42, .fieldref 1054 1055), (0, .class_ 1056), (0, .nameAndType 1057 1058), (0, u "jdk/internal/util/Preconditions"), (0, u "SIOOBE_FORMATTER"), (0, u "Ljava/util/function/BiFunction;"), (3, .methodref 1054 1063), (0, .nameAndType 513 1064), (0, u "(IIILjava/util/function/BiFunction;)I"), (0, .methodref 1054 1066), (0, .nameAndType 1067 1064), (0, u "checkFromIndexSize"), (33, u "serialPersistentFields"), (0, u "[Ljava/io/ObjectStreamField;"), (0, .class_ 1104), (0, u "java/lang/String$CaseInsensitiveComparator"), (1, .class_ 1107), (0, u "java/io/Serializable"), (0, .class_ 1109), (0, u "java/lang/Comparable"), (0, .class_ 1111), (0, u "java/lang/constant/Constable"), (0, .class_ 1113), (0, u "java/lang/constant/ConstantDesc"), (2, u "serialVersionUID"), (0, u "J"), (3, u "REPL"), (0, u "C"), (2, u "LATIN1"), (1, u "UTF16"), (112, u "(II[CI)V")] 210

def k7m0 : Method := { name := "<init>", desc := "()V", sig := { parameters := [], returnType := none }, accessFlags := 1, code := none }
def k7c1 : Code := { maxStack := 5, maxLocals := 2, code := jdk_42_method_3_code, exceptionTable := #[], attributes := #[] }
def k7m1 : Method := { name := "<init>", desc := "([C)V", sig := { parameters := [(.array .char)], returnType := none }, accessFlags := 1, code := some k7c1 }
def k7c2 : Code := { maxStack := 2, maxLocals := 1, code := jdk_42_method_54_code, exceptionTable := #[], attributes := #[] }
def k7m2 : Method := { name := "length", desc := "()I", sig := { parameters := [], returnType := some .int }, accessFlags := 1, code := some k7c2 }
def k7c3 : Code := { maxStack := 5, maxLocals := 5, code := jdk_42_method_61_code, exceptionTable := #[], attributes := #[] }
def k7m3 : Method := { name := "getChars", desc := "(II[CI)V", sig := { parameters := [.int, .int, (.array .char), .int], returnType := none }, accessFlags := 1, code := some k7c3 }
def k7c4 : Code := { maxStack := 4, maxLocals := 6, code := jdk_42_method_149_code, exceptionTable := #[], attributes := #[] }
def k7m4 : Method := { name := "<init>", desc := "([CIILjava/lang/Void;)V", sig := { parameters := [(.array .char), .int, .int, (.object "java/lang/Void")], returnType := none }, accessFlags := 2, code := some k7c4 }
def k7c5 : Code := { maxStack := 1, maxLocals := 1, code := jdk_42_method_152_code, exceptionTable := #[], attributes := #[] }
def k7m5 : Method := { name := "coder", desc := "()B", sig := { parameters := [], returnType := some .byte }, accessFlags := 0, code := some k7c5 }
def k7c6 : Code := { maxStack := 1, maxLocals := 1, code := jdk_42_method_154_code, exceptionTable := #[], attributes := #[] }
def k7m6 : Method := { name := "isLatin1", desc := "()Z", sig := { parameters := [], returnType := some .boolean }, accessFlags := 0, code := some k7c6 }
def k7c7 : Code := { maxStack := 4, maxLocals := 3, code := jdk_42_method_157_code, exceptionTable := #[], attributes := #[] }
def k7m7 : Method := { name := "checkBoundsOffCount", desc := "(III)I", sig := { parameters := [.int, .int, .int], returnType := some .int }, accessFlags := 8, code := some k7c7 }
def k7c8 : Code := { maxStack := 4, maxLocals := 3, code := jdk_42_method_158_code, exceptionTable := #[], attributes := #[] }
def k7m8 : Method := { name := "checkBoundsBeginEnd", desc := "(III)V", sig := { parameters := [.int, .int, .int], returnType := none }, accessFlags := 8, code := some k7c8 }
/-- java/lang/String -/
def k7 : Class := { plain "java/lang/String" (some 0) with
  accessFlags := 49
  interfaces := #[2, 3, 4, 5, 6]
  cf := some (fileOf pool7 10 #[.nestMembers #[1103]] #[{ accessFlags := 1, nameIndex := 5, descriptorIndex := 6, attributes := #[] }, { accessFlags := 1, nameIndex := 5, descriptorIndex := 1010, attributes := #[] }, { accessFlags := 1, nameIndex := 507, descriptorIndex := 334, attributes := #[] }, { accessFlags := 1, nameIndex := 527, descriptorIndex := 1240, attributes := #[] }, { accessFlags := 2, nameIndex := 5, descriptorIndex := 29, attributes := #[] }, { accessFlags := 0, nameIndex := 17, descriptorIndex := 337, attributes := #[] }, { accessFlags := 0, nameIndex := 494, descriptorIndex := 142, attributes := #[] }, { accessFlags := 8, nameIndex := 36, descriptorIndex := 37, attributes := #[] }, { accessFlags := 8, nameIndex := 523, descriptorIndex := 524, attributes := #[] }] 49 2 #[1106, 1108, 575, 1110, 1112] #[{ accessFlags := 18, nameIndex := 13, descriptorIndex := 14, attributes := #[] }, { accessFlags := 18, nameIndex := 17, descriptorIndex := 18, attributes := #[] }, { accessFlags := 2, nameIndex := 21, descriptorIndex := 22, attributes := #[] }, { accessFlags := 2, nameIndex := 25, descriptorIndex := 26, attributes := #[] }, { accessFlags := 26, nameIndex := 1116, descriptorIndex := 1117, attributes := #[] }, { accessFlags := 24, nameIndex := 40, descriptorIndex := 26, attributes := #[] }, { accessFlags := 26, nameIndex := 1101, descriptorIndex := 1102, attributes := #[] }, { accessFlags := 26, nameIndex := 1121, descriptorIndex := 1122, attributes := #[] }, { accessFlags := 25, nameIndex := 599, descriptorIndex := 600, attributes := #[] }, { accessFlags := 24, nameIndex := 1125, descriptorIndex := 18, attributes := #[] }, { accessFlags := 24, nameIndex := 1127, descriptorIndex := 18, attributes := #[] }])
  fields := #[{ name := "value", type := (.array .byte), accessFlags := 18, slot := 0, constantValue := 0 }, { name := "coder", type := .byte, accessFlags := 18, slot := 1, constantValue := 0 }, { name := "hash", type := .int, accessFlags := 2, slot := 2, constantValue := 0 }, { name := "hashIsZero", type := .boolean, accessFlags := 2, slot := 3, constantValue := 0 }, { name := "serialVersionUID", type := .long, accessFlags := 26, slot := 0, constantValue := 0 }, { name := "COMPACT_STRINGS", type := .boolean, accessFlags := 24, slot := 1, constantValue := 0 }, { name := "serialPersistentFields", type := (.array (.object "java/io/ObjectStreamField")), accessFlags := 26, slot := 2, constantValue := 0 }, { name := "REPL", type := .char, accessFlags := 26, slot := 3, constantValue := 0 }, { name := "CASE_INSENSITIVE_ORDER", type := (.object "java/util/Comparator"), accessFlags := 25, slot := 4, constantValue := 0 }, { name := "LATIN1", type := .byte, accessFlags := 24, slot := 5, constantValue := 0 }, { name := "UTF16", type := .byte, accessFlags := 24, slot := 6, constantValue := 0 }]
  methods := #[k7m0, k7m1, k7m2, k7m3, k7m4, k7m5, k7m6, k7m7, k7m8]
  instanceTypes := #[(.array .byte), .byte, .int, .boolean]
  staticTypes := #[.long, .boolean, (.array (.object "java/io/ObjectStreamField")), .char, (.object "java/util/Comparator"), .byte, .byte]
  resolved := Array.replicate 1451 none
  statics := some 0 }

def pool8 : Array CpInfo := pool [(6, .class_ 8), (1, u "java/lang/Object"), (0, u "<init>"), (0, u "()V"), (1, .class_ 14), (1, u "java/lang/StringUTF16"), (31, u "$assertionsDisabled"), (0, u "Z"), (13, u "HI_BYTE_SHIFT"), (0, u "I"), (2, u "LO_BYTE_SHIFT"), (49, .methodref 12 116), (0, .nameAndType 117 118), (0, u "compress"), (0, u "([CI[BII)I"), (3, u "([CII)[B"), (138, u "coderFromArrayLen"), (0, u "([BI)B"), (106, .class_ 371), (1, u "java/lang/StringUTF16$LinesSpliterator"), (58, u "MAX_LENGTH"), (196, .class_ 628), (0, u "java/lang/StringUTF16$CodePointsSpliterator"), (0, .class_ 630), (0, u "java/lang/StringUTF16$CharsSpliterator")] 4

def k8m0 : Method := { name := "<init>", desc := "()V", sig := { parameters := [], returnType := none }, accessFlags := 0, code := none }
def k8c1 : Code := { maxStack := 2, maxLocals := 2, code := jdk_52_method_15_code, exceptionTable := #[], attributes := #[] }
def k8m1 : Method := { name := "coderFromArrayLen", desc := "([BI)B", sig := { parameters := [(.array .byte), .int], returnType := some .byte }, accessFlags := 8, code := some k8c1 }
def k8c2 : Code := { maxStack := 5, maxLocals := 6, code := jdk_52_method_16_code, exceptionTable := #[], attributes := #[] }
def k8m2 : Method := { name := "compress", desc := "([CII)[B", sig := { parameters := [(.array .char), .int, .int], returnType := some (.array .byte) }, accessFlags := 9, code := some k8c2 }
def k8c3 : Code := { maxStack := 3, maxLocals := 7, code := jdk_52_method_21_code, exceptionTable := #[], attributes := #[] }
def k8m3 : Method := { name := "compress", desc := "([CI[BII)I", sig := { parameters := [(.array .char), .int, (.array .byte), .int, .int], returnType := some .int }, accessFlags := 9, code := some k8c3 }
/-- java/lang/StringUTF16 -/
def k8 : Class := { plain "java/lang/StringUTF16" (some 0) with
  accessFlags := 48
  interfaces := #[]
  cf := some (fileOf pool8 12 #[.nestMembers #[627, 629, 369]] #[{ accessFlags := 0, nameIndex := 9, descriptorIndex := 10, attributes := #[] }, { accessFlags := 8, nameIndex := 261, descriptorIndex := 262, attributes := #[] }, { accessFlags := 9, nameIndex := 117, descriptorIndex := 122, attributes := #[] }, { accessFlags := 9, nameIndex := 117, descriptorIndex := 118, attributes := #[] }] 48 6 #[] #[{ accessFlags := 26, nameIndex := 61, descriptorIndex := 62, attributes := #[] }, { accessFlags := 26, nameIndex := 65, descriptorIndex := 62, attributes := #[] }, { accessFlags := 24, nameIndex := 430, descriptorIndex := 62, attributes := #[] }, { accessFlags := 4120, nameIndex := 46, descriptorIndex := 47, attributes := #[] }])
  fields := #[{ name := "HI_BYTE_SHIFT", type := .int, accessFlags := 26, slot := 0, constantValue := 0 }, { name := "LO_BYTE_SHIFT", type := .int, accessFlags := 26, slot := 1, constantValue := 0 }, { name := "MAX_LENGTH", type := .int, accessFlags := 24, slot := 2, constantValue := 0 }, { name := "$assertionsDisabled", type := .boolean, accessFlags := 4120, slot := 3, constantValue := 0 }]
  methods := #[k8m0, k8m1, k8m2, k8m3]
  instanceTypes := #[]
  staticTypes := #[.int, .int, .int, .boolean]
  resolved := Array.replicate 635 none
  statics := none }

def pool9 : Array CpInfo := pool [(1, .class_ 2), (0, u "com/example/pattern_automaton/patternautomaton/CharBlock$Source"), (0, .class_ 4), (0, u "java/lang/Object"), (0, u "read"), (0, u "([CII)I"), (11, .class_ 19), (0, u "com/example/pattern_automaton/patternautomaton/CharBlock")] 2

def k9m0 : Method := { name := "read", desc := "([CII)I", sig := { parameters := [(.array .char), .int, .int], returnType := some .int }, accessFlags := 1025, code := none }
/-- com/example/pattern_automaton/patternautomaton/CharBlock$Source -/
def k9 : Class := { plain "com/example/pattern_automaton/patternautomaton/CharBlock$Source" (some 0) with
  accessFlags := 1536
  interfaces := #[]
  cf := some (fileOf pool9 1 #[.nestHost 18] #[{ accessFlags := 1025, nameIndex := 5, descriptorIndex := 6, attributes := #[] }] 1536 3 #[] #[])
  fields := #[]
  methods := #[k9m0]
  instanceTypes := #[]
  staticTypes := #[]
  resolved := Array.replicate 22 none
  statics := none }

def pool10 : Array CpInfo := pool [(1, .methodref 2 3), (0, .class_ 4), (0, .nameAndType 5 6), (0, u "java/lang/Object"), (0, u "<init>"), (0, u "()V"), (0, .fieldref 8 9), (0, .class_ 10), (0, .nameAndType 11 12), (0, u "com/example/pattern_automaton/patternautomaton/CharBlock$TextSource"), (0, u "text"), (0, u "Ljava/lang/CharSequence;"), (0, .interfaceMethodref 14 15), (0, .class_ 16), (0, .nameAndType 17 18), (0, u "java/lang/CharSequence"), (0, u "length"), (0, u "()I"), (0, .fieldref 8 20), (0, .nameAndType 17 21), (0, u "I"), (0, .fieldref 8 23), (0, .nameAndType 24 21), (0, u "next"), (0, .methodref 26 27), (0, .class_ 28), (0, .nameAndType 29 30), (0, u "java/lang/Math"), (0, u "min"), (0, u "(II)I"), (0, .methodref 8 32), (0, .nameAndType 33 34), (0, u "copy"), (0, u "(Ljava/lang/CharSequence;II[CI)V"), (0, .class_ 36), (0, u "java/lang/String"), (0, .methodref 35 38), (0, .nameAndType 39 40), (0, u "getChars"), (0, u "(II[CI)V"), (16, .class_ 58), (0, u "com/example/pattern_automaton/patternautomaton/CharBlock$Source"), (0, u "(Ljava/lang/CharSequence;)V"), (2, u "read"), (0, u "([CII)I"), (8, .class_ 73), (0, u "com/example/pattern_automaton/patternautomaton/CharBlock")] 3

def k10c0 : Code := { maxStack := 2, maxLocals := 2, code := prog_12_method_1_code, exceptionTable := #[], attributes := #[] }
def k10m0 : Method := { name := "<init>", desc := "(Ljava/lang/CharSequence;)V", sig := { parameters := [(.object "java/lang/CharSequence")], returnType := none }, accessFlags := 0, code := some k10c0 }
def k10c1 : Code := { maxStack := 5, maxLocals := 5, code := prog_12_method_3_code, exceptionTable := #[], attributes := #[] }
def k10m1 : Method := { name := "read", desc := "([CII)I", sig := { parameters := [(.array .char), .int, .int], returnType := some .int }, accessFlags := 1, code := some k10c1 }
def k10c2 : Code := { maxStack := 5, maxLocals := 9, code := prog_12_method_4_code, exceptionTable := #[], attributes := #[] }
def k10m2 : Method := { name := "copy", desc := "(Ljava/lang/CharSequence;II[CI)V", sig := { parameters := [(.object "java/lang/CharSequence"), .int, .int, (.array .char), .int], returnType := none }, accessFlags := 10, code := some k10c2 }
/-- com/example/pattern_automaton/patternautomaton/CharBlock$TextSource -/
def k10 : Class := { plain "com/example/pattern_automaton/patternautomaton/CharBlock$TextSource" (some 0) with
  accessFlags := 32
  interfaces := #[9]
  cf := some (fileOf pool10 8 #[.nestHost 72] #[{ accessFlags := 0, nameIndex := 5, descriptorIndex := 59, attributes := #[] }, { accessFlags := 1, nameIndex := 62, descriptorIndex := 63, attributes := #[] }, { accessFlags := 10, nameIndex := 33, descriptorIndex := 34, attributes := #[] }] 32 2 #[57] #[{ accessFlags := 18, nameIndex := 11, descriptorIndex := 12, attributes := #[] }, { accessFlags := 18, nameIndex := 17, descriptorIndex := 21, attributes := #[] }, { accessFlags := 2, nameIndex := 24, descriptorIndex := 21, attributes := #[] }])
  fields := #[{ name := "text", type := (.object "java/lang/CharSequence"), accessFlags := 18, slot := 0, constantValue := 0 }, { name := "length", type := .int, accessFlags := 18, slot := 1, constantValue := 0 }, { name := "next", type := .int, accessFlags := 2, slot := 2, constantValue := 0 }]
  methods := #[k10m0, k10m1, k10m2]
  instanceTypes := #[(.object "java/lang/CharSequence"), .int, .int]
  staticTypes := #[]
  resolved := Array.replicate 77 none
  statics := none }

def pool11 : Array CpInfo := pool [(1, .methodref 2 3), (0, .class_ 4), (0, .nameAndType 5 6), (0, u "java/lang/Object"), (0, u "<init>"), (0, u "()V"), (0, .fieldref 8 9), (0, .class_ 10), (0, .nameAndType 11 12), (0, u "com/example/pattern_automaton/patternautomaton/CharBlock"), (0, u "chars"), (0, u "[C"), (0, .fieldref 8 14), (0, .nameAndType 15 16), (0, u "start"), (0, u "J"), (0, .fieldref 8 18), (0, .nameAndType 19 20), (0, u "from"), (0, u "I"), (0, .fieldref 8 22), (0, .nameAndType 23 20), (0, u "filled"), (0, .methodref 25 26), (0, .class_ 27), (0, .nameAndType 28 29), (0, u "java/lang/System"), (0, u "arraycopy"), (0, u "(Ljava/lang/Object;ILjava/lang/Object;II)V"), (0, .interfaceMethodref 31 32), (0, .class_ 33), (0, .nameAndType 34 35), (0, u "com/example/pattern_automaton/patternautomaton/CharBlock$Source"), (0, u "read"), (0, u "([CII)I"), (0, u "(I)V"), (3, u "()J"), (0, u "()I"), (0, u "fill"), (0, u "(Lcom/example/pattern_automaton/patternautomaton/CharBlock$Source;)I"), (6, u "nextWalkFrom"), (0, u "cutTo"), (0, u "(J)V"), (3, .class_ 57), (0, u "com/example/pattern_automaton/patternautomaton/CharBlock$TextSource")] 3

def k11c0 : Code := { maxStack := 2, maxLocals := 2, code := prog_10_method_1_code, exceptionTable := #[], attributes := #[] }
def k11m0 : Method := { name := "<init>", desc := "(I)V", sig := { parameters := [.int], returnType := none }, accessFlags := 0, code := some k11c0 }
def k11c1 : Code := { maxStack := 2, maxLocals := 1, code := prog_10_method_3_code, exceptionTable := #[], attributes := #[] }
def k11m1 : Method := { name := "start", desc := "()J", sig := { parameters := [], returnType := some .long }, accessFlags := 0, code := some k11c1 }
def k11c2 : Code := { maxStack := 1, maxLocals := 1, code := prog_10_method_4_code, exceptionTable := #[], attributes := #[] }
def k11m2 : Method := { name := "from", desc := "()I", sig := { parameters := [], returnType := some .int }, accessFlags := 0, code := some k11c2 }
def k11c3 : Code := { maxStack := 1, maxLocals := 1, code := prog_10_method_5_code, exceptionTable := #[], attributes := #[] }
def k11m3 : Method := { name := "filled", desc := "()I", sig := { parameters := [], returnType := some .int }, accessFlags := 0, code := some k11c3 }
def k11c4 : Code := { maxStack := 6, maxLocals := 3, code := prog_10_method_6_code, exceptionTable := #[], attributes := #[] }
def k11m4 : Method := { name := "fill", desc := "(Lcom/example/pattern_automaton/patternautomaton/CharBlock$Source;)I", sig := { parameters := [(.object "com/example/pattern_automaton/patternautomaton/CharBlock$Source")], returnType := some .int }, accessFlags := 0, code := some k11c4 }
def k11c5 : Code := { maxStack := 2, maxLocals := 2, code := prog_10_method_7_code, exceptionTable := #[], attributes := #[] }
def k11m5 : Method := { name := "nextWalkFrom", desc := "(I)V", sig := { parameters := [.int], returnType := none }, accessFlags := 0, code := some k11c5 }
def k11c6 : Code := { maxStack := 5, maxLocals := 3, code := prog_10_method_8_code, exceptionTable := #[], attributes := #[] }
def k11m6 : Method := { name := "cutTo", desc := "(J)V", sig := { parameters := [.long], returnType := none }, accessFlags := 0, code := some k11c6 }
/-- com/example/pattern_automaton/patternautomaton/CharBlock -/
def k11 : Class := { plain "com/example/pattern_automaton/patternautomaton/CharBlock" (some 0) with
  accessFlags := 32
  interfaces := #[]
  cf := some (fileOf pool11 8 #[.nestMembers #[56, 31]] #[{ accessFlags := 0, nameIndex := 5, descriptorIndex := 36, attributes := #[] }, { accessFlags := 0, nameIndex := 15, descriptorIndex := 40, attributes := #[] }, { accessFlags := 0, nameIndex := 19, descriptorIndex := 41, attributes := #[] }, { accessFlags := 0, nameIndex := 23, descriptorIndex := 41, attributes := #[] }, { accessFlags := 0, nameIndex := 42, descriptorIndex := 43, attributes := #[] }, { accessFlags := 0, nameIndex := 50, descriptorIndex := 36, attributes := #[] }, { accessFlags := 0, nameIndex := 51, descriptorIndex := 52, attributes := #[] }] 32 2 #[] #[{ accessFlags := 18, nameIndex := 11, descriptorIndex := 12, attributes := #[] }, { accessFlags := 2, nameIndex := 15, descriptorIndex := 16, attributes := #[] }, { accessFlags := 2, nameIndex := 19, descriptorIndex := 20, attributes := #[] }, { accessFlags := 2, nameIndex := 23, descriptorIndex := 20, attributes := #[] }])
  fields := #[{ name := "chars", type := (.array .char), accessFlags := 18, slot := 0, constantValue := 0 }, { name := "start", type := .long, accessFlags := 2, slot := 1, constantValue := 0 }, { name := "from", type := .int, accessFlags := 2, slot := 2, constantValue := 0 }, { name := "filled", type := .int, accessFlags := 2, slot := 3, constantValue := 0 }]
  methods := #[k11m0, k11m1, k11m2, k11m3, k11m4, k11m5, k11m6]
  instanceTypes := #[(.array .char), .long, .int, .int]
  staticTypes := #[]
  resolved := Array.replicate 61 none
  statics := none }

def pool12 : Array CpInfo := pool [(1, .class_ 2), (0, u "java/lang/Math"), (1, .class_ 6), (1, u "java/lang/Object"), (0, u "<init>"), (0, u "()V"), (89, .class_ 100), (1, u "java/lang/Math$RandomNumberGeneratorHolder"), (20, u "(JJ)J"), (50, u "negativeZeroFloatBits"), (0, u "J"), (2, u "negativeZeroDoubleBits"), (24, u "min"), (43, u "$assertionsDisabled"), (0, u "Z"), (88, u "(II)I"), (2, u "twoToTheDoubleScaleDown"), (0, u "D"), (4, u "twoToTheDoubleScaleUp"), (9, u "E"), (3, u "PI"), (2, u "TAU"), (2, u "DEGREES_TO_RADIANS"), (0, u "RADIANS_TO_DEGREES")] 94

def k12m0 : Method := { name := "<init>", desc := "()V", sig := { parameters := [], returnType := none }, accessFlags := 2, code := none }
def k12c1 : Code := { maxStack := 2, maxLocals := 2, code := jdk_29_method_69_code, exceptionTable := #[], attributes := #[] }
def k12m1 : Method := { name := "min", desc := "(II)I", sig := { parameters := [.int, .int], returnType := some .int }, accessFlags := 9, code := some k12c1 }
def k12c2 : Code := { maxStack := 4, maxLocals := 4, code := jdk_29_method_70_code, exceptionTable := #[], attributes := #[] }
def k12m2 : Method := { name := "min", desc := "(JJ)J", sig := { parameters := [.long, .long], returnType := some .long }, accessFlags := 9, code := some k12c2 }
/-- java/lang/Math -/
def k12 : Class := { plain "java/lang/Math" (some 0) with
  accessFlags := 49
  interfaces := #[]
  cf := some (fileOf pool12 1 #[.nestMembers #[98]] #[{ accessFlags := 2, nameIndex := 7, descriptorIndex := 8, attributes := #[] }, { accessFlags := 9, nameIndex := 201, descriptorIndex := 335, attributes := #[] }, { accessFlags := 9, nameIndex := 201, descriptorIndex := 121, attributes := #[] }] 49 4 #[] #[{ accessFlags := 25, nameIndex := 354, descriptorIndex := 339, attributes := #[] }, { accessFlags := 25, nameIndex := 358, descriptorIndex := 339, attributes := #[] }, { accessFlags := 25, nameIndex := 361, descriptorIndex := 339, attributes := #[] }, { accessFlags := 26, nameIndex := 364, descriptorIndex := 339, attributes := #[] }, { accessFlags := 26, nameIndex := 365, descriptorIndex := 339, attributes := #[] }, { accessFlags := 26, nameIndex := 172, descriptorIndex := 173, attributes := #[] }, { accessFlags := 26, nameIndex := 176, descriptorIndex := 173, attributes := #[] }, { accessFlags := 8, nameIndex := 344, descriptorIndex := 339, attributes := #[] }, { accessFlags := 8, nameIndex := 338, descriptorIndex := 339, attributes := #[] }, { accessFlags := 4120, nameIndex := 245, descriptorIndex := 246, attributes := #[] }])
  fields := #[{ name := "E", type := .double, accessFlags := 25, slot := 0, constantValue := 0 }, { name := "PI", type := .double, accessFlags := 25, slot := 1, constantValue := 0 }, { name := "TAU", type := .double, accessFlags := 25, slot := 2, constantValue := 0 }, { name := "DEGREES_TO_RADIANS", type := .double, accessFlags := 26, slot := 3, constantValue := 0 }, { name := "RADIANS_TO_DEGREES", type := .double, accessFlags := 26, slot := 4, constantValue := 0 }, { name := "negativeZeroFloatBits", type := .long, accessFlags := 26, slot := 5, constantValue := 0 }, { name := "negativeZeroDoubleBits", type := .long, accessFlags := 26, slot := 6, constantValue := 0 }, { name := "twoToTheDoubleScaleUp", type := .double, accessFlags := 8, slot := 7, constantValue := 0 }, { name := "twoToTheDoubleScaleDown", type := .double, accessFlags := 8, slot := 8, constantValue := 0 }, { name := "$assertionsDisabled", type := .boolean, accessFlags := 4120, slot := 9, constantValue := 0 }]
  methods := #[k12m0, k12m1, k12m2]
  instanceTypes := #[]
  staticTypes := #[.double, .double, .double, .double, .double, .long, .long, .double, .double, .boolean]
  resolved := Array.replicate 460 none
  statics := none }

def pool13 : Array CpInfo := pool [(2, .class_ 4), (1, u "java/lang/Object"), (0, u "<init>"), (0, u "()V"), (17, .class_ 26), (1, u "jdk/internal/util/Preconditions"), (20, u "checkFromToIndex"), (1, u "checkFromIndexSize"), (5, .class_ 56), (0, u "jdk/internal/util/Preconditions$4"), (57, .class_ 115), (0, u "jdk/internal/util/Preconditions$1"), (7, u "SIOOBE_FORMATTER"), (0, u "Ljava/util/function/BiFunction;"), (0, .class_ 126), (0, u "jdk/internal/util/Preconditions$2"), (3, u "AIOOBE_FORMATTER"), (0, .class_ 132), (0, u "jdk/internal/util/Preconditions$3"), (3, u "IOOBE_FORMATTER"), (46, u "(IIILjava/util/function/BiFunction;)I")] 10

def k13m0 : Method := { name := "<init>", desc := "()V", sig := { parameters := [], returnType := none }, accessFlags := 1, code := none }
def k13c1 : Code := { maxStack := 4, maxLocals := 4, code := jdk_41_method_12_code, exceptionTable := #[], attributes := #[] }
def k13m1 : Method := { name := "checkFromToIndex", desc := "(IIILjava/util/function/BiFunction;)I", sig := { parameters := [.int, .int, .int, (.object "java/util/function/BiFunction")], returnType := some .int }, accessFlags := 9, code := some k13c1 }
def k13c2 : Code := { maxStack := 4, maxLocals := 4, code := jdk_41_method_13_code, exceptionTable := #[], attributes := #[] }
def k13m2 : Method := { name := "checkFromIndexSize", desc := "(IIILjava/util/function/BiFunction;)I", sig := { parameters := [.int, .int, .int, (.object "java/util/function/BiFunction")], returnType := some .int }, accessFlags := 9, code := some k13c2 }
/-- jdk/internal/util/Preconditions -/
def k13 : Class := { plain "jdk/internal/util/Preconditions" (some 0) with
  accessFlags := 33
  interfaces := #[]
  cf := some (fileOf pool13 24 #[.nestMembers #[55, 131, 125, 114]] #[{ accessFlags := 1, nameIndex := 5, descriptorIndex := 6, attributes := #[] }, { accessFlags := 9, nameIndex := 47, descriptorIndex := 183, attributes := #[] }, { accessFlags := 9, nameIndex := 49, descriptorIndex := 183, attributes := #[] }] 33 2 #[] #[{ accessFlags := 25, nameIndex := 123, descriptorIndex := 124, attributes := #[] }, { accessFlags := 25, nameIndex := 130, descriptorIndex := 124, attributes := #[] }, { accessFlags := 25, nameIndex := 136, descriptorIndex := 124, attributes := #[] }])
  fields := #[{ name := "SIOOBE_FORMATTER", type := (.object "java/util/function/BiFunction"), accessFlags := 25, slot := 0, constantValue := 0 }, { name := "AIOOBE_FORMATTER", type := (.object "java/util/function/BiFunction"), accessFlags := 25, slot := 1, constantValue := 0 }, { name := "IOOBE_FORMATTER", type := (.object "java/util/function/BiFunction"), accessFlags := 25, slot := 2, constantValue := 0 }]
  methods := #[k13m0, k13m1, k13m2]
  instanceTypes := #[]
  staticTypes := #[(.object "java/util/function/BiFunction"), (.object "java/util/function/BiFunction"), (.object "java/util/function/BiFunction")]
  resolved := Array.replicate 194 none
  statics := some 1 }

def pool14 : Array CpInfo := pool [(4, .class_ 6), (1, u "java/lang/Object"), (0, u "<init>"), (0, u "()V"), (4, .methodref 14 15), (0, .class_ 16), (0, .nameAndType 17 18), (0, u "java/lang/StringLatin1"), (0, u "inflate"), (0, u "([BI[CII)V"), (102, u "$assertionsDisabled"), (0, u "Z"), (98, .class_ 223), (1, u "java/lang/StringLatin1$LinesSpliterator"), (50, u "getChars"), (0, u "([BII[CI)V"), (114, .class_ 391), (0, u "java/lang/StringLatin1$CharsSpliterator")] 3

def k14m0 : Method := { name := "<init>", desc := "()V", sig := { parameters := [], returnType := none }, accessFlags := 0, code := none }
def k14c1 : Code := { maxStack := 6, maxLocals := 5, code := jdk_43_method_11_code, exceptionTable := #[], attributes := #[] }
def k14m1 : Method := { name := "getChars", desc := "([BII[CI)V", sig := { parameters := [(.array .byte), .int, .int, (.array .char), .int], returnType := none }, accessFlags := 9, code := some k14c1 }
def k14c2 : Code := { maxStack := 4, maxLocals := 6, code := jdk_43_method_49_code, exceptionTable := #[], attributes := #[] }
def k14m2 : Method := { name := "inflate", desc := "([BI[CII)V", sig := { parameters := [(.array .byte), .int, (.array .char), .int, .int], returnType := none }, accessFlags := 9, code := some k14c2 }
/-- java/lang/StringLatin1 -/
def k14 : Class := { plain "java/lang/StringLatin1" (some 0) with
  accessFlags := 48
  interfaces := #[]
  cf := some (fileOf pool14 14 #[.nestMembers #[390, 221]] #[{ accessFlags := 0, nameIndex := 7, descriptorIndex := 8, attributes := #[] }, { accessFlags := 9, nameIndex := 274, descriptorIndex := 275, attributes := #[] }, { accessFlags := 9, nameIndex := 17, descriptorIndex := 18, attributes := #[] }] 48 4 #[] #[{ accessFlags := 4120, nameIndex := 121, descriptorIndex := 122, attributes := #[] }])
  fields := #[{ name := "$assertionsDisabled", type := .boolean, accessFlags := 4120, slot := 0, constantValue := 0 }]
  methods := #[k14m0, k14m1, k14m2]
  instanceTypes := #[]
  staticTypes := #[.boolean]
  resolved := Array.replicate 395 none
  statics := none }

def pool15 : Array CpInfo := pool [(2, .class_ 4), (1, u "java/lang/Object"), (0, u "<init>"), (0, u "()V"), (1, .class_ 10), (1, u "java/lang/System"), (0, u "allowSecurityManager"), (0, u "I"), (16, u "cons"), (0, u "Ljava/io/Console;"), (77, .class_ 110), (1, u "java/lang/System$CallersHolder"), (43, u "initialErrStream"), (0, u "Ljava/io/PrintStream;"), (19, u "security"), (0, u "Ljava/lang/SecurityManager;"), (31, .class_ 209), (0, u "java/lang/System$1"), (7, u "props"), (0, u "Ljava/util/Properties;"), (2, u "lineSeparator"), (0, u "Ljava/lang/String;"), (96, .class_ 321), (1, u "java/lang/System$LoggerFinder"), (5, .class_ 328), (0, u "java/lang/System$Logger"), (67, u "err"), (2, u "out"), (91, u "notSupportedJnuEncoding"), (15, u "in"), (17, u "initialIn"), (0, u "Ljava/io/InputStream;"), (35, u "bootLayer"), (0, u "Ljava/lang/ModuleLayer;"), (99, .class_ 664), (0, u "java/lang/System$2"), (9, u "NEVER"), (2, u "MAYBE"), (49, u "arraycopy"), (0, u "(Ljava/lang/Object;ILjava/lang/Object;II)V"), (72, .class_ 802), (0, u "java/lang/System$Logger$Level")] 31

def k15m0 : Method := { name := "<init>", desc := "()V", sig := { parameters := [], returnType := none }, accessFlags := 2, code := none }
def k15m1 : Method := { name := "arraycopy", desc := "(Ljava/lang/Object;ILjava/lang/Object;II)V", sig := { parameters := [(.object "java/lang/Object"), .int, (.object "java/lang/Object"), .int, .int], returnType := none }, accessFlags := 265, code := none }
/-- java/lang/System -/
def k15 : Class := { plain "java/lang/System" (some 0) with
  accessFlags := 49
  interfaces := #[]
  cf := some (fileOf pool15 8 #[.nestMembers #[319, 327, 801, 108, 663, 208]] #[{ accessFlags := 2, nameIndex := 5, descriptorIndex := 6, attributes := #[] }, { accessFlags := 265, nameIndex := 727, descriptorIndex := 728, attributes := #[] }] 49 2 #[] #[{ accessFlags := 25, nameIndex := 507, descriptorIndex := 526, attributes := #[] }, { accessFlags := 25, nameIndex := 399, descriptorIndex := 155, attributes := #[] }, { accessFlags := 25, nameIndex := 396, descriptorIndex := 155, attributes := #[] }, { accessFlags := 10, nameIndex := 525, descriptorIndex := 526, attributes := #[] }, { accessFlags := 26, nameIndex := 674, descriptorIndex := 12, attributes := #[] }, { accessFlags := 26, nameIndex := 677, descriptorIndex := 12, attributes := #[] }, { accessFlags := 10, nameIndex := 11, descriptorIndex := 12, attributes := #[] }, { accessFlags := 74, nameIndex := 175, descriptorIndex := 176, attributes := #[] }, { accessFlags := 10, nameIndex := 491, descriptorIndex := 222, attributes := #[] }, { accessFlags := 74, nameIndex := 29, descriptorIndex := 30, attributes := #[] }, { accessFlags := 74, nameIndex := 154, descriptorIndex := 155, attributes := #[] }, { accessFlags := 10, nameIndex := 217, descriptorIndex := 218, attributes := #[] }, { accessFlags := 10, nameIndex := 221, descriptorIndex := 222, attributes := #[] }, { accessFlags := 8, nameIndex := 562, descriptorIndex := 563, attributes := #[] }])
  fields := #[{ name := "in", type := (.object "java/io/InputStream"), accessFlags := 25, slot := 0, constantValue := 0 }, { name := "out", type := (.object "java/io/PrintStream"), accessFlags := 25, slot := 1, constantValue := 0 }, { name := "err", type := (.object "java/io/PrintStream"), accessFlags := 25, slot := 2, constantValue := 0 }, { name := "initialIn", type := (.object "java/io/InputStream"), accessFlags := 10, slot := 3, constantValue := 0 }, { name := "NEVER", type := .int, accessFlags := 26, slot := 4, constantValue := 0 }, { name := "MAYBE", type := .int, accessFlags := 26, slot := 5, constantValue := 0 }, { name := "allowSecurityManager", type := .int, accessFlags := 10, slot := 6, constantValue := 0 }, { name := "security", type := (.object "java/lang/SecurityManager"), accessFlags := 74, slot := 7, constantValue := 0 }, { name := "notSupportedJnuEncoding", type := (.object "java/lang/String"), accessFlags := 10, slot := 8, constantValue := 0 }, { name := "cons", type := (.object "java/io/Console"), accessFlags := 74, slot := 9, constantValue := 0 }, { name := "initialErrStream", type := (.object "java/io/PrintStream"), accessFlags := 74, slot := 10, constantValue := 0 }, { name := "props", type := (.object "java/util/Properties"), accessFlags := 10, slot := 11, constantValue := 0 }, { name := "lineSeparator", type := (.object "java/lang/String"), accessFlags := 10, slot := 12, constantValue := 0 }, { name := "bootLayer", type := (.object "java/lang/ModuleLayer"), accessFlags := 8, slot := 13, constantValue := 0 }]
  methods := #[k15m0, k15m1]
  instanceTypes := #[]
  staticTypes := #[(.object "java/io/InputStream"), (.object "java/io/PrintStream"), (.object "java/io/PrintStream"), (.object "java/io/InputStream"), .int, .int, .int, (.object "java/lang/SecurityManager"), (.object "java/lang/String"), (.object "java/io/Console"), (.object "java/io/PrintStream"), (.object "java/util/Properties"), (.object "java/lang/String"), (.object "java/lang/ModuleLayer")]
  resolved := Array.replicate 834 none
  statics := none }

def pool16 : Array CpInfo := pool [(9, u "<init>"), (6, .class_ 18), (1, u "java/lang/Object"), (0, u "()V"), (1, .class_ 23), (1, u "jdk/internal/util/ArraysSupport"), (0, u "LOG2_ARRAY_LONG_INDEX_SCALE"), (0, u "I"), (2, u "U"), (0, u "Ljdk/internal/misc/Unsafe;"), (8, u "BIG_ENDIAN"), (0, u "Z"), (8, u "LOG2_BYTE_BIT_SIZE"), (4, u "LOG2_ARRAY_INT_INDEX_SCALE"), (54, u "JLA"), (0, u "Ljdk/internal/access/JavaLangAccess;"), (11, u "LOG2_ARRAY_BOOLEAN_INDEX_SCALE"), (9, u "LOG2_ARRAY_BYTE_INDEX_SCALE"), (5, u "LOG2_ARRAY_CHAR_INDEX_SCALE"), (5, u "LOG2_ARRAY_SHORT_INDEX_SCALE"), (18, u "LOG2_ARRAY_FLOAT_INDEX_SCALE"), (24, u "LOG2_ARRAY_DOUBLE_INDEX_SCALE"), (89, u "T_BOOLEAN"), (2, u "T_CHAR"), (1, u "T_FLOAT"), (1, u "T_DOUBLE"), (1, u "T_BYTE"), (1, u "T_SHORT"), (1, u "T_INT"), (1, u "T_LONG"), (1, u "SOFT_MAX_ARRAY_LENGTH")] 83

def k16m0 : Method := { name := "<init>", desc := "()V", sig := { parameters := [], returnType := none }, accessFlags := 2, code := none }
/-- jdk/internal/util/ArraysSupport -/
def k16 : Class := { plain "jdk/internal/util/ArraysSupport" (some 0) with
  accessFlags := 33
  interfaces := #[]
  cf := some (fileOf pool16 21 #[] #[{ accessFlags := 2, nameIndex := 9, descriptorIndex := 19, attributes := #[] }] 33 16 #[] #[{ accessFlags := 24, nameIndex := 28, descriptorIndex := 29, attributes := #[] }, { accessFlags := 26, nameIndex := 38, descriptorIndex := 39, attributes := #[] }, { accessFlags := 25, nameIndex := 121, descriptorIndex := 25, attributes := #[] }, { accessFlags := 25, nameIndex := 131, descriptorIndex := 25, attributes := #[] }, { accessFlags := 25, nameIndex := 137, descriptorIndex := 25, attributes := #[] }, { accessFlags := 25, nameIndex := 143, descriptorIndex := 25, attributes := #[] }, { accessFlags := 25, nameIndex := 53, descriptorIndex := 25, attributes := #[] }, { accessFlags := 25, nameIndex := 24, descriptorIndex := 25, attributes := #[] }, { accessFlags := 25, nameIndex := 162, descriptorIndex := 25, attributes := #[] }, { accessFlags := 25, nameIndex := 187, descriptorIndex := 25, attributes := #[] }, { accessFlags := 26, nameIndex := 48, descriptorIndex := 25, attributes := #[] }, { accessFlags := 25, nameIndex := 277, descriptorIndex := 25, attributes := #[] }, { accessFlags := 25, nameIndex := 280, descriptorIndex := 25, attributes := #[] }, { accessFlags := 25, nameIndex := 282, descriptorIndex := 25, attributes := #[] }, { accessFlags := 25, nameIndex := 284, descriptorIndex := 25, attributes := #[] }, { accessFlags := 25, nameIndex := 286, descriptorIndex := 25, attributes := #[] }, { accessFlags := 25, nameIndex := 288, descriptorIndex := 25, attributes := #[] }, { accessFlags := 25, nameIndex := 290, descriptorIndex := 25, attributes := #[] }, { accessFlags := 25, nameIndex := 292, descriptorIndex := 25, attributes := #[] }, { accessFlags := 26, nameIndex := 108, descriptorIndex := 109, attributes := #[] }, { accessFlags := 25, nameIndex := 294, descriptorIndex := 25, attributes := #[] }])
  fields := #[{ name := "U", type := (.object "jdk/internal/misc/Unsafe"), accessFlags := 24, slot := 0, constantValue := 0 }, { name := "BIG_ENDIAN", type := .boolean, accessFlags := 26, slot := 1, constantValue := 0 }, { name := "LOG2_ARRAY_BOOLEAN_INDEX_SCALE", type := .int, accessFlags := 25, slot := 2, constantValue := 0 }, { name := "LOG2_ARRAY_BYTE_INDEX_SCALE", type := .int, accessFlags := 25, slot := 3, constantValue := 0 }, { name := "LOG2_ARRAY_CHAR_INDEX_SCALE", type := .int, accessFlags := 25, slot := 4, constantValue := 0 }, { name := "LOG2_ARRAY_SHORT_INDEX_SCALE", type := .int, accessFlags := 25, slot := 5, constantValue := 0 }, { name := "LOG2_ARRAY_INT_INDEX_SCALE", type := .int, accessFlags := 25, slot := 6, constantValue := 0 }, { name := "LOG2_ARRAY_LONG_INDEX_SCALE", type := .int, accessFlags := 25, slot := 7, constantValue := 0 }, { name := "LOG2_ARRAY_FLOAT_INDEX_SCALE", type := .int, accessFlags := 25, slot := 8, constantValue := 0 }, { name := "LOG2_ARRAY_DOUBLE_INDEX_SCALE", type := .int, accessFlags := 25, slot := 9, constantValue := 0 }, { name := "LOG2_BYTE_BIT_SIZE", type := .int, accessFlags := 26, slot := 10, constantValue := 0 }, { name := "T_BOOLEAN", type := .int, accessFlags := 25, slot := 11, constantValue := 0 }, { name := "T_CHAR", type := .int, accessFlags := 25, slot := 12, constantValue := 0 }, { name := "T_FLOAT", type := .int, accessFlags := 25, slot := 13, constantValue := 0 }, { name := "T_DOUBLE", type := .int, accessFlags := 25, slot := 14, constantValue := 0 }, { name := "T_BYTE", type := .int, accessFlags := 25, slot := 15, constantValue := 0 }, { name := "T_SHORT", type := .int, accessFlags := 25, slot := 16, constantValue := 0 }, { name := "T_INT", type := .int, accessFlags := 25, slot := 17, constantValue := 0 }, { name := "T_LONG", type := .int, accessFlags := 25, slot := 18, constantValue := 0 }, { name := "JLA", type := (.object "jdk/internal/access/JavaLangAccess"), accessFlags := 26, slot := 19, constantValue := 0 }, { name := "SOFT_MAX_ARRAY_LENGTH", type := .int, accessFlags := 25, slot := 20, constantValue := 0 }]
  methods := #[k16m0]
  instanceTypes := #[]
  staticTypes := #[(.object "jdk/internal/misc/Unsafe"), .boolean, .int, .int, .int, .int, .int, .int, .int, .int, .int, .int, .int, .int, .int, .int, .int, .int, .int, (.object "jdk/internal/access/JavaLangAccess"), .int]
  resolved := Array.replicate 378 none
  statics := none }

def pool17 : Array CpInfo := pool [(1, u "java/lang/Cloneable"), (0, .class_ 1), (0, u "java/lang/Object"), (0, .class_ 3)] 3

/-- java/lang/Cloneable -/
def k17 : Class := { plain "java/lang/Cloneable" (some 0) with
  accessFlags := 1537
  interfaces := #[]
  cf := some (fileOf pool17 2 #[] #[] 1537 4 #[] #[])
  fields := #[]
  methods := #[]
  instanceTypes := #[]
  staticTypes := #[]
  resolved := Array.replicate 8 none
  statics := none }

/-- the primitive byte -/
def k18 : Class := { plain "byte" none with kind := .primitive 'B', accessFlags := 0x411 }
/-- [B -/
def k19 : Class := { plain "[B" (some 0) with kind := .array 18 .byte, interfaces := #[17, 2], accessFlags := 1041 }

/-- the primitive char -/
def k20 : Class := { plain "char" none with kind := .primitive 'C', accessFlags := 0x411 }
/-- [C -/
def k21 : Class := { plain "[C" (some 0) with kind := .array 20 .char, interfaces := #[17, 2], accessFlags := 1041 }

/-- the primitive int -/
def k22 : Class := { plain "int" none with kind := .primitive 'I', accessFlags := 0x411 }
/-- [I -/
def k23 : Class := { plain "[I" (some 0) with kind := .array 22 .int, interfaces := #[17, 2], accessFlags := 1041 }

def heap : Heap := #[{ cls := 7, slots := #[.long 0, .int 1, .null, .int 0, .null, .int 0, .int 0], vm := .statics 7 },
  { cls := 13, slots := #[.null, .null, .null], vm := .statics 13 }]
def classes : Array Class := #[k0, k1, k2, k3, k4, k5, k6, k7, k8, k9, k10, k11, k12, k13, k14, k15, k16, k17, k18, k19, k20, k21, k22, k23]
def interned : List (Array UInt16 × Addr) := []
def slotsUsed : Nat := 10
def theMethod : MethodId := ⟨1, 1⟩
def args0 : Array Value := #[.int 3, .int 2, .int 5, .long 9]
def aboutOver (below : List Frame) : State where
  vm := { classes := classes, interned := interned.toArray }
  heap := heap
  slotsUsed := slotsUsed
  threads := #[{ frames := .invoking theMethod args0 :: below }]
def below0 : List Frame := [.native { method := ⟨0, 0⟩, args := #[] }]
def about1 : State := aboutOver below0
def p0 : Program := .bare "" "" ""
def e0 : Env := launch0.env 0 0 0
theorem w_frames : about1.frames = Frame.invoking theMethod args0 :: below0 := rfl
set_option maxRecDepth 65536 in
theorem w_args : argsFit about1.vm theMethod args0 = true := by decide +kernel
set_option maxRecDepth 65536 in
theorem w_heap : heapFits about1 = true := by decide +kernel
set_option maxRecDepth 65536 in
theorem w_runnable : about1.curStatus? = some .runnable := by decide +kernel
set_option maxRecDepth 65536 in
theorem w_alone : about1.alone = true := by decide +kernel
set_option maxRecDepth 65536 in
theorem w_named : about1.methodNamed? x = some theMethod := by decide +kernel
set_option maxRecDepth 65536 in
theorem w_hears : about1.hears theMethod below0 = true := by decide +kernel
set_option maxRecDepth 65536 in
theorem w_ripe : about1.ripe theMethod args0 below0 = true := by decide +kernel
theorem w_running : about1.status = .running := rfl
set_option maxRecDepth 65536 in
theorem w_room : about1.hasRoom e0.platform room_1 = true :=
  launch0.hasRoom_least _ room_1 (by decide +kernel) (by decide +kernel) (by decide +kernel) (by decide +kernel) (by decide +kernel) (by decide +kernel)
theorem allAtoms_all (ts : List Jvm.Cond) (a : Array Jvm.Value) (st : Jvm.State) : (allAtoms ts).before a st = ts.all (fun c => c.before a st) := by
  induction ts with
  | nil => rfl
  | cons c t ih =>
    show (Jvm.Cond.and c (allAtoms t)).before a st = _
    rw [Jvm.Cond.before_and, ih, List.all_cons]
def words1 : List Jvm.Cond := Jvm.Cond.code x code maxLocals ret :: tables_1
/-- a 'code' word, met by the world's own term for the bytes: nothing is compared byte by byte -/
theorem code_word {y : MethodName} {bytes : ByteArray} {mx : Nat} {rt : Option FieldType} {a : Array Value} {s : State} {m : MethodId} {meth : Method} {c : Code} (h1 : s.methodNamed? y = some m) (h2 : s.vm.method? m = some meth) (h3 : meth.code = some c) (h4 : c.code = bytes)
    (h5 : (c.maxLocals == mx && c.exceptionTable.isEmpty && decide (c.maxStack ≤ mostOperands) && decide (meth.sig.returnType = rt) && !meth.locks && decide (parseMethodDescriptor y.desc = some meth.sig)) = true) : (Jvm.Cond.code y bytes mx rt).before a s = true := by
  simp only [Bool.and_eq_true, beq_iff_eq, Bool.not_eq_true', decide_eq_true_eq] at h5
  obtain ⟨⟨⟨⟨⟨g1, g2⟩, g3⟩, g4⟩, g5⟩, g6⟩ := h5
  simp [Cond.before, Cond.holds, Cond.value, h1, h2, h3, h4, g1, g2, g3, g4, g5, g6]
def isCode : Jvm.Cond → Bool
  | .code _ _ _ _ => true
  | _ => false
theorem all_split {L : List Jvm.Cond} {P : Jvm.Cond → Bool} (h1 : L.all (fun c => isCode c || P c) = true) (h2 : ∀ c ∈ L.filter isCode, P c = true) : L.all P = true := by
  refine List.all_eq_true.mpr fun c hc => ?_
  have h := List.all_eq_true.mp h1 c hc
  rcases Bool.eq_false_or_eq_true (isCode c) with hi | hi
  · exact h2 c (List.mem_filter.mpr ⟨hc, hi⟩)
  · simpa [hi] using h
set_option maxRecDepth 65536 in
theorem w_c0 : (Jvm.Cond.code x code maxLocals ret).before args0 about1 = true := code_word (m := ⟨1, 1⟩) (meth := k1m1) (c := k1c1) (by decide +kernel) rfl rfl rfl (by decide +kernel)
set_option maxRecDepth 65536 in
theorem w_c1 : (Jvm.Cond.code ({ cls := "java/lang/String", name := "<init>", desc := "([C)V" } : Jvm.MethodName) jdk_42_method_3_code (2 : Nat) (Option.none : Option Jvm.ClassFile.FieldType)).before args0 about1 = true := code_word (m := ⟨7, 1⟩) (meth := k7m1) (c := k7c1) (by decide +kernel) rfl rfl rfl (by decide +kernel)
set_option maxRecDepth 65536 in
theorem w_c2 : (Jvm.Cond.code ({ cls := "java/lang/String", name := "<init>", desc := "([CIILjava/lang/Void;)V" } : Jvm.MethodName) jdk_42_method_149_code (6 : Nat) (Option.none : Option Jvm.ClassFile.FieldType)).before args0 about1 = true := code_word (m := ⟨7, 4⟩) (meth := k7m4) (c := k7c4) (by decide +kernel) rfl rfl rfl (by decide +kernel)
set_option maxRecDepth 65536 in
theorem w_c3 : (Jvm.Cond.code ({ cls := "java/lang/Object", name := "<init>", desc := "()V" } : Jvm.MethodName) object_method_1_code (1 : Nat) (Option.none : Option Jvm.ClassFile.FieldType)).before args0 about1 = true := code_word (m := ⟨0, 0⟩) (meth := k0m0) (c := k0c0) (by decide +kernel) rfl rfl rfl (by decide +kernel)
set_option maxRecDepth 65536 in
theorem w_c4 : (Jvm.Cond.code ({ cls := "java/lang/StringUTF16", name := "compress", desc := "([CII)[B" } : Jvm.MethodName) jdk_52_method_16_code (6 : Nat) (Option.some (Jvm.ClassFile.FieldType.array Jvm.ClassFile.FieldType.byte))).before args0 about1 = true := code_word (m := ⟨8, 2⟩) (meth := k8m2) (c := k8c2) (by decide +kernel) rfl rfl rfl (by decide +kernel)
set_option maxRecDepth 65536 in
theorem w_c5 : (Jvm.Cond.code ({ cls := "java/lang/StringUTF16", name := "compress", desc := "([CI[BII)I" } : Jvm.MethodName) jdk_52_method_21_code (7 : Nat) (Option.some Jvm.ClassFile.FieldType.int)).before args0 about1 = true := code_word (m := ⟨8, 3⟩) (meth := k8m3) (c := k8c3) (by decide +kernel) rfl rfl rfl (by decide +kernel)
set_option maxRecDepth 65536 in
theorem w_c6 : (Jvm.Cond.code ({ cls := "java/lang/StringUTF16", name := "coderFromArrayLen", desc := "([BI)B" } : Jvm.MethodName) jdk_52_method_15_code (2 : Nat) (Option.some Jvm.ClassFile.FieldType.byte)).before args0 about1 = true := code_word (m := ⟨8, 1⟩) (meth := k8m1) (c := k8c1) (by decide +kernel) rfl rfl rfl (by decide +kernel)
set_option maxRecDepth 65536 in
theorem w_c7 : (Jvm.Cond.code ({ cls := "com/example/pattern_automaton/patternautomaton/CharBlock$TextSource", name := "<init>", desc := "(Ljava/lang/CharSequence;)V" } : Jvm.MethodName) prog_12_method_1_code (2 : Nat) (Option.none : Option Jvm.ClassFile.FieldType)).before args0 about1 = true := code_word (m := ⟨10, 0⟩) (meth := k10m0) (c := k10c0) (by decide +kernel) rfl rfl rfl (by decide +kernel)
set_option maxRecDepth 65536 in
theorem w_c8 : (Jvm.Cond.code ({ cls := "java/lang/String", name := "length", desc := "()I" } : Jvm.MethodName) jdk_42_method_54_code (1 : Nat) (Option.some Jvm.ClassFile.FieldType.int)).before args0 about1 = true := code_word (m := ⟨7, 2⟩) (meth := k7m2) (c := k7c2) (by decide +kernel) rfl rfl rfl (by decide +kernel)
set_option maxRecDepth 65536 in
theorem w_c9 : (Jvm.Cond.code ({ cls := "java/lang/String", name := "coder", desc := "()B" } : Jvm.MethodName) jdk_42_method_152_code (1 : Nat) (Option.some Jvm.ClassFile.FieldType.byte)).before args0 about1 = true := code_word (m := ⟨7, 5⟩) (meth := k7m5) (c := k7c5) (by decide +kernel) rfl rfl rfl (by decide +kernel)
set_option maxRecDepth 65536 in
theorem w_c10 : (Jvm.Cond.code ({ cls := "com/example/pattern_automaton/patternautomaton/CharBlock", name := "<init>", desc := "(I)V" } : Jvm.MethodName) prog_10_method_1_code (2 : Nat) (Option.none : Option Jvm.ClassFile.FieldType)).before args0 about1 = true := code_word (m := ⟨11, 0⟩) (meth := k11m0) (c := k11c0) (by decide +kernel) rfl rfl rfl (by decide +kernel)
set_option maxRecDepth 65536 in
theorem w_c11 : (Jvm.Cond.code ({ cls := "com/example/pattern_automaton/patternautomaton/CharBlock", name := "fill", desc := "(Lcom/example/pattern_automaton/patternautomaton/CharBlock$Source;)I" } : Jvm.MethodName) prog_10_method_6_code (3 : Nat) (Option.some Jvm.ClassFile.FieldType.int)).before args0 about1 = true := code_word (m := ⟨11, 4⟩) (meth := k11m4) (c := k11c4) (by decide +kernel) rfl rfl rfl (by decide +kernel)
set_option maxRecDepth 65536 in
theorem w_c12 : (Jvm.Cond.code ({ cls := "com/example/pattern_automaton/patternautomaton/CharBlock$TextSource", name := "read", desc := "([CII)I" } : Jvm.MethodName) prog_12_method_3_code (5 : Nat) (Option.some Jvm.ClassFile.FieldType.int)).before args0 about1 = true := code_word (m := ⟨10, 1⟩) (meth := k10m1) (c := k10c1) (by decide +kernel) rfl rfl rfl (by decide +kernel)
set_option maxRecDepth 65536 in
theorem w_c13 : (Jvm.Cond.code ({ cls := "java/lang/Math", name := "min", desc := "(II)I" } : Jvm.MethodName) jdk_29_method_69_code (2 : Nat) (Option.some Jvm.ClassFile.FieldType.int)).before args0 about1 = true := code_word (m := ⟨12, 1⟩) (meth := k12m1) (c := k12c1) (by decide +kernel) rfl rfl rfl (by decide +kernel)
set_option maxRecDepth 65536 in
theorem w_c14 : (Jvm.Cond.code ({ cls := "com/example/pattern_automaton/patternautomaton/CharBlock$TextSource", name := "copy", desc := "(Ljava/lang/CharSequence;II[CI)V" } : Jvm.MethodName) prog_12_method_4_code (9 : Nat) (Option.none : Option Jvm.ClassFile.FieldType)).before args0 about1 = true := code_word (m := ⟨10, 2⟩) (meth := k10m2) (c := k10c2) (by decide +kernel) rfl rfl rfl (by decide +kernel)
set_option maxRecDepth 65536 in
theorem w_c15 : (Jvm.Cond.code ({ cls := "java/lang/String", name := "getChars", desc := "(II[CI)V" } : Jvm.MethodName) jdk_42_method_61_code (5 : Nat) (Option.none : Option Jvm.ClassFile.FieldType)).before args0 about1 = true := code_word (m := ⟨7, 3⟩) (meth := k7m3) (c := k7c3) (by decide +kernel) rfl rfl rfl (by decide +kernel)
set_option maxRecDepth 65536 in
theorem w_c16 : (Jvm.Cond.code ({ cls := "java/lang/String", name := "checkBoundsBeginEnd", desc := "(III)V" } : Jvm.MethodName) jdk_42_method_158_code (3 : Nat) (Option.none : Option Jvm.ClassFile.FieldType)).before args0 about1 = true := code_word (m := ⟨7, 8⟩) (meth := k7m8) (c := k7c8) (by decide +kernel) rfl rfl rfl (by decide +kernel)
set_option maxRecDepth 65536 in
theorem w_c17 : (Jvm.Cond.code ({ cls := "jdk/internal/util/Preconditions", name := "checkFromToIndex", desc := "(IIILjava/util/function/BiFunction;)I" } : Jvm.MethodName) jdk_41_method_12_code (4 : Nat) (Option.some Jvm.ClassFile.FieldType.int)).before args0 about1 = true := code_word (m := ⟨13, 1⟩) (meth := k13m1) (c := k13c1) (by decide +kernel) rfl rfl rfl (by decide +kernel)
set_option maxRecDepth 65536 in
theorem w_c18 : (Jvm.Cond.code ({ cls := "java/lang/String", name := "checkBoundsOffCount", desc := "(III)I" } : Jvm.MethodName) jdk_42_method_157_code (3 : Nat) (Option.some Jvm.ClassFile.FieldType.int)).before args0 about1 = true := code_word (m := ⟨7, 7⟩) (meth := k7m7) (c := k7c7) (by decide +kernel) rfl rfl rfl (by decide +kernel)
set_option maxRecDepth 65536 in
theorem w_c19 : (Jvm.Cond.code ({ cls := "jdk/internal/util/Preconditions", name := "checkFromIndexSize", desc := "(IIILjava/util/function/BiFunction;)I" } : Jvm.MethodName) jdk_41_method_13_code (4 : Nat) (Option.some Jvm.ClassFile.FieldType.int)).before args0 about1 = true := code_word (m := ⟨13, 2⟩) (meth := k13m2) (c := k13c2) (by decide +kernel) rfl rfl rfl (by decide +kernel)
set_option maxRecDepth 65536 in
theorem w_c20 : (Jvm.Cond.code ({ cls := "java/lang/String", name := "isLatin1", desc := "()Z" } : Jvm.MethodName) jdk_42_method_154_code (1 : Nat) (Option.some Jvm.ClassFile.FieldType.boolean)).before args0 about1 = true := code_word (m := ⟨7, 6⟩) (meth := k7m6) (c := k7c6) (by decide +kernel) rfl rfl rfl (by decide +kernel)
set_option maxRecDepth 65536 in
theorem w_c21 : (Jvm.Cond.code ({ cls := "java/lang/StringLatin1", name := "getChars", desc := "([BII[CI)V" } : Jvm.MethodName) jdk_43_method_11_code (5 : Nat) (Option.none : Option Jvm.ClassFile.FieldType)).before args0 about1 = true := code_word (m := ⟨14, 1⟩) (meth := k14m1) (c := k14c1) (by decide +kernel) rfl rfl rfl (by decide +kernel)
set_option maxRecDepth 65536 in
theorem w_c22 : (Jvm.Cond.code ({ cls := "java/lang/StringLatin1", name := "inflate", desc := "([BI[CII)V" } : Jvm.MethodName) jdk_43_method_49_code (6 : Nat) (Option.none : Option Jvm.ClassFile.FieldType)).before args0 about1 = true := code_word (m := ⟨14, 2⟩) (meth := k14m2) (c := k14c2) (by decide +kernel) rfl rfl rfl (by decide +kernel)
set_option maxRecDepth 65536 in
theorem w_c23 : (Jvm.Cond.code ({ cls := "com/example/pattern_automaton/patternautomaton/CharBlock", name := "filled", desc := "()I" } : Jvm.MethodName) prog_10_method_5_code (1 : Nat) (Option.some Jvm.ClassFile.FieldType.int)).before args0 about1 = true := code_word (m := ⟨11, 3⟩) (meth := k11m3) (c := k11c3) (by decide +kernel) rfl rfl rfl (by decide +kernel)
set_option maxRecDepth 65536 in
theorem w_c24 : (Jvm.Cond.code ({ cls := "com/example/pattern_automaton/patternautomaton/CharBlock", name := "nextWalkFrom", desc := "(I)V" } : Jvm.MethodName) prog_10_method_7_code (2 : Nat) (Option.none : Option Jvm.ClassFile.FieldType)).before args0 about1 = true := code_word (m := ⟨11, 5⟩) (meth := k11m5) (c := k11c5) (by decide +kernel) rfl rfl rfl (by decide +kernel)
set_option maxRecDepth 65536 in
theorem w_c25 : (Jvm.Cond.code ({ cls := "com/example/pattern_automaton/patternautomaton/CharBlock", name := "start", desc := "()J" } : Jvm.MethodName) prog_10_method_3_code (1 : Nat) (Option.some Jvm.ClassFile.FieldType.long)).before args0 about1 = true := code_word (m := ⟨11, 1⟩) (meth := k11m1) (c := k11c1) (by decide +kernel) rfl rfl rfl (by decide +kernel)
set_option maxRecDepth 65536 in
theorem w_c26 : (Jvm.Cond.code ({ cls := "java/lang/Math", name := "min", desc := "(JJ)J" } : Jvm.MethodName) jdk_29_method_70_code (4 : Nat) (Option.some Jvm.ClassFile.FieldType.long)).before args0 about1 = true := code_word (m := ⟨12, 2⟩) (meth := k12m2) (c := k12c2) (by decide +kernel) rfl rfl rfl (by decide +kernel)
set_option maxRecDepth 65536 in
theorem w_c27 : (Jvm.Cond.code ({ cls := "com/example/pattern_automaton/patternautomaton/CharBlock", name := "cutTo", desc := "(J)V" } : Jvm.MethodName) prog_10_method_8_code (3 : Nat) (Option.none : Option Jvm.ClassFile.FieldType)).before args0 about1 = true := code_word (m := ⟨11, 6⟩) (meth := k11m6) (c := k11c6) (by decide +kernel) rfl rfl rfl (by decide +kernel)
set_option maxRecDepth 65536 in
theorem w_c28 : (Jvm.Cond.code ({ cls := "com/example/pattern_automaton/patternautomaton/CharBlock", name := "from", desc := "()I" } : Jvm.MethodName) prog_10_method_4_code (1 : Nat) (Option.some Jvm.ClassFile.FieldType.int)).before args0 about1 = true := code_word (m := ⟨11, 2⟩) (meth := k11m2) (c := k11c2) (by decide +kernel) rfl rfl rfl (by decide +kernel)
def codes1 : List Jvm.Cond := [Jvm.Cond.code x code maxLocals ret, Jvm.Cond.code ({ cls := "java/lang/String", name := "<init>", desc := "([C)V" } : Jvm.MethodName) jdk_42_method_3_code (2 : Nat) (Option.none : Option Jvm.ClassFile.FieldType), Jvm.Cond.code ({ cls := "java/lang/String", name := "<init>", desc := "([CIILjava/lang/Void;)V" } : Jvm.MethodName) jdk_42_method_149_code (6 : Nat) (Option.none : Option Jvm.ClassFile.FieldType), Jvm.Cond.code ({ cls := "java/lang/Object", name := "<init>", desc := "()V" } : Jvm.MethodName) object_method_1_code (1 : Nat) (Option.none : Option Jvm.ClassFile.FieldType), Jvm.Cond.code ({ cls := "java/lang/StringUTF16", name := "compress", desc := "([CII)[B" } : Jvm.MethodName) jdk_52_method_16_code (6 : Nat) (Option.some (Jvm.ClassFile.FieldType.array Jvm.ClassFile.FieldType.byte)), Jvm.Cond.code ({ cls := "java/lang/StringUTF16", name := "compress", desc := "([CI[BII)I" } : Jvm.MethodName) jdk_52_method_21_code (7 : Nat) (Option.some Jvm.ClassFile.FieldType.int), Jvm.Cond.code ({ cls := "java/lang/StringUTF16", name := "coderFromArrayLen", desc := "([BI)B" } : Jvm.MethodName) jdk_52_method_15_code (2 : Nat) (Option.some Jvm.ClassFile.FieldType.byte), Jvm.Cond.code ({ cls := "com/example/pattern_automaton/patternautomaton/CharBlock$TextSource", name := "<init>", desc := "(Ljava/lang/CharSequence;)V" } : Jvm.MethodName) prog_12_method_1_code (2 : Nat) (Option.none : Option Jvm.ClassFile.FieldType), Jvm.Cond.code ({ cls := "java/lang/String", name := "length", desc := "()I" } : Jvm.MethodName) jdk_42_method_54_code (1 : Nat) (Option.some Jvm.ClassFile.FieldType.int), Jvm.Cond.code ({ cls := "java/lang/String", name := "coder", desc := "()B" } : Jvm.MethodName) jdk_42_method_152_code (1 : Nat) (Option.some Jvm.ClassFile.FieldType.byte), Jvm.Cond.code ({ cls := "com/example/pattern_automaton/patternautomaton/CharBlock", name := "<init>", desc := "(I)V" } : Jvm.MethodName) prog_10_method_1_code (2 : Nat) (Option.none : Option Jvm.ClassFile.FieldType), Jvm.Cond.code ({ cls := "com/example/pattern_automaton/patternautomaton/CharBlock", name := "fill", desc := "(Lcom/example/pattern_automaton/patternautomaton/CharBlock$Source;)I" } : Jvm.MethodName) prog_10_method_6_code (3 : Nat) (Option.some Jvm.ClassFile.FieldType.int), Jvm.Cond.code ({ cls := "com/example/pattern_automaton/patternautomaton/CharBlock$TextSource", name := "read", desc := "([CII)I" } : Jvm.MethodName) prog_12_method_3_code (5 : Nat) (Option.some Jvm.ClassFile.FieldType.int), Jvm.Cond.code ({ cls := "java/lang/Math", name := "min", desc := "(II)I" } : Jvm.MethodName) jdk_29_method_69_code (2 : Nat) (Option.some Jvm.ClassFile.FieldType.int), Jvm.Cond.code ({ cls := "com/example/pattern_automaton/patternautomaton/CharBlock$TextSource", name := "copy", desc := "(Ljava/lang/CharSequence;II[CI)V" } : Jvm.MethodName) prog_12_method_4_code (9 : Nat) (Option.none : Option Jvm.ClassFile.FieldType), Jvm.Cond.code ({ cls := "java/lang/String", name := "getChars", desc := "(II[CI)V" } : Jvm.MethodName) jdk_42_method_61_code (5 : Nat) (Option.none : Option Jvm.ClassFile.FieldType), Jvm.Cond.code ({ cls := "java/lang/String", name := "checkBoundsBeginEnd", desc := "(III)V" } : Jvm.MethodName) jdk_42_method_158_code (3 : Nat) (Option.none : Option Jvm.ClassFile.FieldType), Jvm.Cond.code ({ cls := "jdk/internal/util/Preconditions", name := "checkFromToIndex", desc := "(IIILjava/util/function/BiFunction;)I" } : Jvm.MethodName) jdk_41_method_12_code (4 : Nat) (Option.some Jvm.ClassFile.FieldType.int), Jvm.Cond.code ({ cls := "java/lang/String", name := "checkBoundsOffCount", desc := "(III)I" } : Jvm.MethodName) jdk_42_method_157_code (3 : Nat) (Option.some Jvm.ClassFile.FieldType.int), Jvm.Cond.code ({ cls := "jdk/internal/util/Preconditions", name := "checkFromIndexSize", desc := "(IIILjava/util/function/BiFunction;)I" } : Jvm.MethodName) jdk_41_method_13_code (4 : Nat) (Option.some Jvm.ClassFile.FieldType.int), Jvm.Cond.code ({ cls := "java/lang/String", name := "isLatin1", desc := "()Z" } : Jvm.MethodName) jdk_42_method_154_code (1 : Nat) (Option.some Jvm.ClassFile.FieldType.boolean), Jvm.Cond.code ({ cls := "java/lang/StringLatin1", name := "getChars", desc := "([BII[CI)V" } : Jvm.MethodName) jdk_43_method_11_code (5 : Nat) (Option.none : Option Jvm.ClassFile.FieldType), Jvm.Cond.code ({ cls := "java/lang/StringLatin1", name := "inflate", desc := "([BI[CII)V" } : Jvm.MethodName) jdk_43_method_49_code (6 : Nat) (Option.none : Option Jvm.ClassFile.FieldType), Jvm.Cond.code ({ cls := "com/example/pattern_automaton/patternautomaton/CharBlock", name := "filled", desc := "()I" } : Jvm.MethodName) prog_10_method_5_code (1 : Nat) (Option.some Jvm.ClassFile.FieldType.int), Jvm.Cond.code ({ cls := "com/example/pattern_automaton/patternautomaton/CharBlock", name := "nextWalkFrom", desc := "(I)V" } : Jvm.MethodName) prog_10_method_7_code (2 : Nat) (Option.none : Option Jvm.ClassFile.FieldType), Jvm.Cond.code ({ cls := "com/example/pattern_automaton/patternautomaton/CharBlock", name := "start", desc := "()J" } : Jvm.MethodName) prog_10_method_3_code (1 : Nat) (Option.some Jvm.ClassFile.FieldType.long), Jvm.Cond.code ({ cls := "java/lang/Math", name := "min", desc := "(JJ)J" } : Jvm.MethodName) jdk_29_method_70_code (4 : Nat) (Option.some Jvm.ClassFile.FieldType.long), Jvm.Cond.code ({ cls := "com/example/pattern_automaton/patternautomaton/CharBlock", name := "cutTo", desc := "(J)V" } : Jvm.MethodName) prog_10_method_8_code (3 : Nat) (Option.none : Option Jvm.ClassFile.FieldType), Jvm.Cond.code ({ cls := "com/example/pattern_automaton/patternautomaton/CharBlock", name := "from", desc := "()I" } : Jvm.MethodName) prog_10_method_4_code (1 : Nat) (Option.some Jvm.ClassFile.FieldType.int)]
set_option maxRecDepth 65536 in
theorem codes_eq : words1.filter isCode = codes1 := rfl
theorem w_codes : ∀ c ∈ words1.filter isCode, c.before args0 about1 = true := by
  rw [codes_eq]
  intro c hc
  simp only [codes1, List.mem_cons, List.not_mem_nil, or_false] at hc
  rcases hc with rfl | rfl | rfl | rfl | rfl | rfl | rfl | rfl | rfl | rfl | rfl | rfl | rfl | rfl | rfl | rfl | rfl | rfl | rfl | rfl | rfl | rfl | rfl | rfl | rfl | rfl | rfl | rfl | rfl
  · exact w_c0
  · exact w_c1
  · exact w_c2
  · exact w_c3
  · exact w_c4
  · exact w_c5
  · exact w_c6
  · exact w_c7
  · exact w_c8
  · exact w_c9
  · exact w_c10
  · exact w_c11
  · exact w_c12
  · exact w_c13
  · exact w_c14
  · exact w_c15
  · exact w_c16
  · exact w_c17
  · exact w_c18
  · exact w_c19
  · exact w_c20
  · exact w_c21
  · exact w_c22
  · exact w_c23
  · exact w_c24
  · exact w_c25
  · exact w_c26
  · exact w_c27
  · exact w_c28
set_option maxRecDepth 65536 in
theorem w_t1 : (words1.take 24).all (fun c => isCode c || c.before args0 about1) = true := by decide +kernel
set_option maxRecDepth 65536 in
theorem w_t2 : ((words1.drop 24).take 24).all (fun c => isCode c || c.before args0 about1) = true := by decide +kernel
set_option maxRecDepth 65536 in
theorem w_t3 : (((words1.drop 24).drop 24).take 24).all (fun c => isCode c || c.before args0 about1) = true := by decide +kernel
set_option maxRecDepth 65536 in
theorem w_t4 : ((((words1.drop 24).drop 24).drop 24).take 24).all (fun c => isCode c || c.before args0 about1) = true := by decide +kernel
set_option maxRecDepth 65536 in
theorem w_t5 : (((((words1.drop 24).drop 24).drop 24).drop 24).take 24).all (fun c => isCode c || c.before args0 about1) = true := by decide +kernel
set_option maxRecDepth 65536 in
theorem w_t6 : ((((((words1.drop 24).drop 24).drop 24).drop 24).drop 24).take 24).all (fun c => isCode c || c.before args0 about1) = true := by decide +kernel
set_option maxRecDepth 65536 in
theorem w_t7 : ((((((words1.drop 24).drop 24).drop 24).drop 24).drop 24).drop 24).all (fun c => isCode c || c.before args0 about1) = true := by decide +kernel
theorem w_tables : (allAtoms (Jvm.Cond.code x code maxLocals ret :: tables_1)).before args0 about1 = true := by
  rw [allAtoms_all]
  show words1.all (fun c => c.before args0 about1) = true
  refine all_split ?_ w_codes
  rw [← List.take_append_drop 24 words1, List.all_append, w_t1, ← List.take_append_drop 24 (words1.drop 24), List.all_append, w_t2, ← List.take_append_drop 24 ((words1.drop 24).drop 24), List.all_append, w_t3, ← List.take_append_drop 24 (((words1.drop 24).drop 24).drop 24), List.all_append, w_t4, ← List.take_append_drop 24 ((((words1.drop 24).drop 24).drop 24).drop 24), List.all_append, w_t5, ← List.take_append_drop 24 (((((words1.drop 24).drop 24).drop 24).drop 24).drop 24), List.all_append, w_t6, w_t7]
  rfl
set_option maxRecDepth 65536 in
theorem w_rest : rest_1_c.before args0 about1 = true := by decide +kernel
set_option maxRecDepth 65536 in
theorem w_case : (Jvm.Cond.and given_1 narrow_1).before args0 about1 = true := by decide +kernel
theorem w_applies : (headSpec (Jvm.Cond.code x code maxLocals ret :: tables_1) room_1).applies x e0.platform about1 = true :=
  (Spec.applies_iff w_frames).mpr ⟨w_running, w_runnable, w_alone, w_named, w_hears, w_ripe, w_room, w_tables⟩
theorem atStart : AtStart classFile x code maxLocals ret World_1 tables_1 room_1 Calls_1 rest_1 Pre_1 launch0 p0 e0 about1 theMethod args0 below0 :=
  ⟨lists_1, trivial, launch0.admits_env _ _ _, launch0.least_env, fairChoices_fair.cas, fairChoices_fair.clock, w_frames, w_args, w_heap, w_applies, trivial, w_rest, w_case⟩
end start1
theorem witness_1 : WitnessClaimed_1 := ⟨start1.p0, start1.e0, start1.about1, start1.theMethod, start1.args0, start1.below0, start1.atStart⟩
end Jvm.Pilot.@@N@@
