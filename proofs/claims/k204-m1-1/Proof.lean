import JvmDerived
import JvmDerived.Pilot.@@N@@Statement
import JvmDerived.Pilot.@@N@@Code
set_option linter.unusedVariables false
set_option linter.unusedSimpArgs false
@@BLOCK:NumsL.lean.txt@@
namespace Jvm.RoadKit
open Sem ClassFile Op Lib Jvm.Stand Jvm.Free Jvm.LawKit
section Own
variable {p : Program} {l : Launch} {e : Env} {R : Room} {s : State} {m : MethodId} {args : Array Value} {below : List Frame} {meth : Method} {c : Code} {T : State} {locs : List Loc} {cells slots : Nat} {Z : State} {h h' : Heap} {a b : Addr} {ty : FieldType} {vs : List Value} {cl : Cell} {sl : Nat} {v : Value} {ws : List Addr}
theorem mw {α : Type} {x : α} {L : List α} (i : Nat) (q : L[i]? = some x) : x ∈ L := List.mem_of_getElem? q
/-- from A the body comes to its end, and Q holds there -/
def Goal (p : Program) (e : Env) (below : List Frame) (s : State) (Q : Option Value → Heap → List Loc → Prop) (k n : Nat) (A : State) : Prop :=
  ∃ s₂ o, Steps p.tables e below A s₂ ∧ s₂.status = .running ∧ Ended s₂ below o ∧ ∃ v L, o = .returned v ∧ Q v s₂.heap L ∧ FrameEnd s o s₂ L k n
variable {Q : Option Value → Heap → List Loc → Prop} {k n : Nat} {A B : State}
theorem Goal.to (f : ∀ t, Steps p.tables e below B t → Steps p.tables e below A t) (g : Goal p e below s Q k n B) : Goal p e below s Q k n A := by
  obtain ⟨s₂, o, h1, r⟩ := g
  exact ⟨s₂, o, f _ h1, r⟩
theorem Goal.tr (f : Steps p.tables e below A B) (g : Goal p e below s Q k n B) : Goal p e below s Q k n A := Goal.to (fun t q => f.trans q) g
theorem Goal.retV (X : Stand p l e R s m args below meth c T locs cells slots) (hx : p.tables.exec = Jvm.exec) {pc : Nat} {Ls : Array Slot} {w : Value} {t : FieldType} {i : Instr} {rest : List Value} (hret : meth.sig.returnType = some t) (hn : narrow t w = w)
    (hi : (i = .ireturn ∧ (t = .int ∨ t = .boolean ∨ t = .byte ∨ t = .char ∨ t = .short) ∧ ∃ z, w = .int z) ∨ (i = .lreturn ∧ t = .long ∧ ∃ z, w = .long z) ∨ (i = .dreturn ∧ t = .double ∧ ∃ z, w = .double z) ∨ (i = .freturn ∧ t = .float ∧ ∃ z, w = .float z) ∨ (i = .areturn ∧ t.isReference = true ∧ w.isRef = true))
    (hd : decode c.code pc = .ok (i, 1)) (hlk : meth.locks = false) (eT : T.heap = h) (hq : Q (some w) h locs) (hc : cells ≤ k) (hs : slots ≤ n) : Goal p e below s Q k n (T.setTop (mkF m pc Ls (w :: rest))) := by
  obtain ⟨fs, hr, hrun, hended, hW, hsame⟩ := X.leave (v := some w) (fun h => by rw [hret] at h; cases h) hlk
  refine ⟨_, _, retOut X hx hret hn hi hd hr, hrun, hended, _, _, rfl, ?_, ⟨_, rfl⟩, hW, hsame.mono hc hs⟩
  show Q (some w) T.heap locs
  rw [eT]; exact hq
theorem Goal.retN (X : Stand p l e R s m args below meth c T locs cells slots) (hx : p.tables.exec = Jvm.exec) {pc : Nat} {Ls : Array Slot} (hret : meth.sig.returnType = none)
    (hd : decode c.code pc = .ok (.return_, 1)) (hlk : meth.locks = false) (eT : T.heap = h) (hq : Q none h locs) (hc : cells ≤ k) (hs : slots ≤ n) : Goal p e below s Q k n (T.setTop (mkF m pc Ls [])) := by
  obtain ⟨fs, hr, hrun, hended, hW, hsame⟩ := X.leave (v := none) (fun _ => rfl) hlk
  refine ⟨_, _, X.returnOut hx hret hd hr, hrun, hended, _, _, rfl, ?_, ⟨_, rfl⟩, hW, hsame.mono hc hs⟩
  show Q none T.heap locs
  rw [eT]; exact hq
/-- the same, with the wide end: texts may have been interned -/
def GoalW (p : Program) (e : Env) (below : List Frame) (s : State) (Q : Option Value → Heap → List Loc → Prop) (k n : Nat) (A : State) : Prop :=
  ∃ s₂ o, Steps p.tables e below A s₂ ∧ s₂.status = .running ∧ Ended s₂ below o ∧ ∃ v L, o = .returned v ∧ Q v s₂.heap L ∧ ReturnedEndW s o s₂ L k n
theorem GoalW.to (f : ∀ t, Steps p.tables e below B t → Steps p.tables e below A t) (g : GoalW p e below s Q k n B) : GoalW p e below s Q k n A := by
  obtain ⟨s₂, o, h1, r⟩ := g
  exact ⟨s₂, o, f _ h1, r⟩
theorem GoalW.tr (f : Steps p.tables e below A B) (g : GoalW p e below s Q k n B) : GoalW p e below s Q k n A := GoalW.to (fun t q => f.trans q) g
theorem GoalW.retV {vm0 : Vm} (X : Stand p l e R (s.setVm vm0) m args below meth c T locs cells slots) {k0 : Nat} (hS : s.Since vm0 k0) (hx : p.tables.exec = Jvm.exec) {pc : Nat} {Ls : Array Slot} {w : Value} {t : FieldType} {i : Instr} {rest : List Value} (hret : meth.sig.returnType = some t) (hn : narrow t w = w)
    (hi : (i = .ireturn ∧ (t = .int ∨ t = .boolean ∨ t = .byte ∨ t = .char ∨ t = .short) ∧ ∃ z, w = .int z) ∨ (i = .lreturn ∧ t = .long ∧ ∃ z, w = .long z) ∨ (i = .dreturn ∧ t = .double ∧ ∃ z, w = .double z) ∨ (i = .freturn ∧ t = .float ∧ ∃ z, w = .float z) ∨ (i = .areturn ∧ t.isReference = true ∧ w.isRef = true))
    (hd : decode c.code pc = .ok (i, 1)) (hlk : meth.locks = false) (eT : T.heap = h) (hk : k0 ≤ h.size) (hq : Q (some w) h locs) (hc : cells ≤ k) (hs : slots ≤ n) : GoalW p e below s Q k n (T.setTop (mkF m pc Ls (w :: rest))) := by
  obtain ⟨fs, hr, hrun, hended, e1, e2, e3, e4⟩ := X.leaveW hS (by rw [eT]; exact hk) (v := some w) (fun h => by rw [hret] at h; cases h) hlk
  refine ⟨_, _, retOut X hx hret hn hi hd hr, hrun, hended, _, _, rfl, ?_, e1, e2, e3, e4.mono hc hs⟩
  show Q (some w) T.heap locs
  rw [eT]; exact hq
theorem nar01 {z : Int32} (q : z = 0 ∨ z = 1) : narrow .boolean (.int z) = .int z := by rcases q with rfl | rfl <;> rfl
theorem catV {r : Value} (q : r.isRef = true) : r.category = 1 := by rcases ref_cases q with rfl | ⟨o, rfl⟩ <;> rfl
theorem narV {r : Value} {C : String} (q : r.isRef = true) : narrow (.object C) r = r := by rcases ref_cases q with rfl | ⟨o, rfl⟩ <;> rfl
theorem fitV {r : Value} {C : String} (q : r.isRef = true) : fits (.object C) r = true := by rcases ref_cases q with rfl | ⟨o, rfl⟩ <;> rfl
theorem selP {a0 : Array Value} {y : MethodName} {n : Nat} (hZ : Z.Warmed39 s.vm) (hins : (Cond.instantiable y.cls n).before a0 Z = true) (hp : (Cond.privateMethod y).before a0 Z = true) (hi : (Cond.instanceMethod y).before a0 Z = true) (hy : y.cls ≠ "java/lang/invoke/MethodHandle" ∧ y.cls ≠ "java/lang/invoke/VarHandle") : (Cond.selects y.cls y y).before args s = true := by
  obtain ⟨c, k, hc, hk, -, hniab, -, -⟩ := Cond.instantiable_spec (mv (args := args) hZ hins)
  exact selects_self_of_private hc hk (Bool.or_eq_false_iff.mp hniab).1 (Cond.privateMethod_at (mvP (args := args) hZ hp)) (mv hZ hi) hy
theorem Fld.cast {C n d : String} {w : Value} (F : Fld Z h a C n d v) (q : v = w) : Fld Z h a C n d w := q ▸ F
/-- an array of the heap by the whole list of what it holds -/
def Ary (Z : State) (h : Heap) (a : Addr) (ty : FieldType) (vs : List Value) : Prop := ∃ cl : Cell, Arr Z h a cl ty ∧ cl.slots.toList = vs
theorem Ary.cast {ws : List Value} (F : Ary Z h a ty vs) (q : vs = ws) : Ary Z h a ty ws := q ▸ F
theorem Ary.lt (F : Ary Z h a ty vs) : a < h.size := by obtain ⟨cl, A, -⟩ := F; exact A.lt
theorem Ary.ext (F : Ary Z h a ty vs) (E : Ext h h') : Ary Z h' a ty vs := by obtain ⟨cl, A, r⟩ := F; exact ⟨cl, A.ext E, r⟩
theorem Ary.other (F : Ary Z h a ty vs) (W : Wr h h' b sl v) (q : a ≠ b) : Ary Z h' a ty vs := by obtain ⟨cl, A, r⟩ := F; exact ⟨cl, A.other W q, r⟩
theorem Ary.keep (F : Ary Z h a ty vs) (K : Keep h h' ws) (q : a ∉ ws) : Ary Z h' a ty vs := by obtain ⟨cl, A, r⟩ := F; exact ⟨cl, ⟨K.2.1 a cl A.1 q, A.2⟩, r⟩
theorem Ary.new {k : ClassId} {z : Int32} {N : Nat} (A : Arr Z h a (newA k ty z) ty) (hz : z.toNatClampNeg = N) : Ary Z h a ty (List.replicate N (defaultValue ty)) := ⟨_, A, by simp [newA, hz]⟩
theorem Ary.put {j : Nat} {N : Nat} (A : Arr Z h a cl ty) (S : cl.slots.toList = vs) (W : Wr h h' a j v) (q : j = N) : Ary Z h' a ty (vs.set N v) := ⟨_, A.same W, by subst q; simp [Cell.setSlot, S]⟩
theorem sizeA (S : cl.slots.toList = vs) : cl.slots.size = vs.length := by rw [← S]; simp
theorem inA {j : Int32} (S : cl.slots.toList = vs) (q : ¬ j < 0) (r : j.toNatClampNeg < vs.length) : ¬ (j < 0 ∨ cl.slots.size ≤ j.toNatClampNeg) := by rw [sizeA S]; intro u; rcases u with u | u; exact q u; exact absurd r (Nat.not_lt.mpr u)
theorem atA {j : Nat} (S : cl.slots.toList = vs) (q : vs[j]? = some v) : cl.slots[j]? = some v := by rw [← q, ← S]; simp
theorem lenA {z : Int32} (S : cl.slots.toList = vs) (q : vs.length.toInt32 = z) : cl.slots.size.toInt32 = z := by rw [sizeA S]; exact q
/-- a static that stood when the law began, and what it holds -/
def StaN (Z : State) (n0 : Nat) (h : Heap) (C n d : String) (v : Value) : Prop := ∃ (cf i : Nat) (k : Class) (f : Field) (st : Addr) (cell : Cell), Z.fieldFound? C n d = some (cf, k, i, f) ∧ f.isStatic = true ∧ k.init = .initialized ∧ k.statics = some st ∧ h[st]? = some cell ∧ cell.vm.isStatics = true ∧ cell.slots[f.slot]? = some v ∧ st < n0
section StaN
variable {C nm d : String} {n0 : Nat}
theorem StaN.sta (F : StaN Z n0 h C nm d v) : Sta Z h C nm d v := by obtain ⟨cf, i, k, f, st, cell, h1, h2, h3, h4, h5, h6, h7, -⟩ := F; exact ⟨cf, i, k, f, st, cell, h1, h2, h3, h4, h5, h6, h7⟩
theorem Sta.toN (F : Sta Z h C nm d v) : StaN Z h.size h C nm d v := by obtain ⟨cf, i, k, f, st, cell, h1, h2, h3, h4, h5, h6, h7⟩ := F; exact ⟨cf, i, k, f, st, cell, h1, h2, h3, h4, h5, h6, h7, (Array.getElem?_eq_some_iff.mp h5).1⟩
theorem StaN.ext (F : StaN Z n0 h C nm d v) (E : Ext h h') : StaN Z n0 h' C nm d v := by obtain ⟨cf, i, k, f, st, cell, h1, h2, h3, h4, h5, r⟩ := F; exact ⟨cf, i, k, f, st, cell, h1, h2, h3, h4, E.2 _ _ h5, r⟩
theorem StaN.keep (F : StaN Z n0 h C nm d v) (K : Keep h h' ws) (q : ∀ x ∈ ws, n0 ≤ x) : StaN Z n0 h' C nm d v := by
  obtain ⟨cf, i, k, f, st, cell, h1, h2, h3, h4, h5, h6, h7, h8⟩ := F
  exact ⟨cf, i, k, f, st, cell, h1, h2, h3, h4, K.2.1 _ _ h5 (fun z => absurd h8 (Nat.not_lt.mpr (q _ z))), h6, h7, h8⟩
theorem StaN.wr {w : Value} (F : StaN Z n0 h C nm d v) (W : Wr h h' a sl w) : StaN Z n0 h' C nm d v := by
  obtain ⟨cf, i, k, f, st, cell, h1, h2, h3, h4, h5, h6, h7, h8⟩ := F
  obtain ⟨c', e1, -, -, -, e5, -, e7⟩ := wr_at W h5
  have ne : st ≠ a := fun e => by rw [(e7 e).2.2] at h6; cases h6
  exact ⟨cf, i, k, f, st, cell, h1, h2, h3, h4, by rw [← e5 ne]; exact e1, h6, h7, h8⟩
end StaN
/-- what may lie in an array of objects of class C (of arrays of class C) -/
def OvrO (Z : State) (h : Heap) (a : Addr) (C : String) : Prop := ∃ cl : Cell, h[a]? = some cl ∧ Ovr Z cl.cls C
theorem OvrO.ext {C : String} (F : OvrO Z h a C) (E : Ext h h') : OvrO Z h' a C := by obtain ⟨cl, h1, r⟩ := F; exact ⟨cl, E.2 _ _ h1, r⟩
theorem OvrO.wr {C : String} (F : OvrO Z h a C) (W : Wr h h' b sl v) : OvrO Z h' a C := by obtain ⟨cl, h1, r⟩ := F; obtain ⟨c', e1, e2, -⟩ := wr_at W h1; exact ⟨c', e1, by rw [e2]; exact r⟩
theorem OvrO.keep {C : String} (F : OvrO Z h a C) (K : Keep h h' ws) : OvrO Z h' a C := by obtain ⟨cl, h1, r⟩ := F; obtain ⟨c', e1, e2, -⟩ := K.2.2 _ _ h1; exact ⟨c', e1, by rw [e2]; exact r⟩
theorem stoO {C : String} {y : Addr} (A : Arr Z h a cl ty) (O : OvrO Z h a C) (I : Ins Z h y C true) : Sto Z h a (.ref y) := by
  obtain ⟨c', h1, r⟩ := O
  cases A.1.symm.trans h1
  exact Sto.of A r I
def OvrB (Z : State) (h : Heap) (a : Addr) (C : String) : Prop := ∃ (cl : Cell) (t : FieldType), h[a]? = some cl ∧ OvrA Z cl.cls t C
theorem OvrB.ext {C : String} (F : OvrB Z h a C) (E : Ext h h') : OvrB Z h' a C := by obtain ⟨cl, t, h1, r⟩ := F; exact ⟨cl, t, E.2 _ _ h1, r⟩
theorem OvrB.wr {C : String} (F : OvrB Z h a C) (W : Wr h h' b sl v) : OvrB Z h' a C := by obtain ⟨cl, t, h1, r⟩ := F; obtain ⟨c', e1, e2, -⟩ := wr_at W h1; exact ⟨c', t, e1, by rw [e2]; exact r⟩
theorem OvrB.keep {C : String} (F : OvrB Z h a C) (K : Keep h h' ws) : OvrB Z h' a C := by obtain ⟨cl, t, h1, r⟩ := F; obtain ⟨c', e1, e2, -⟩ := K.2.2 _ _ h1; exact ⟨c', t, e1, by rw [e2]; exact r⟩
theorem stoB {C : String} {y : Addr} (A : Arr Z h a cl ty) (O : OvrB Z h a C) (I : Ins Z h y C true) : Sto Z h a (.ref y) := by
  obtain ⟨c', t, h1, r⟩ := O
  cases A.1.symm.trans h1
  exact Sto.ofVA A rfl r I
theorem fits_nil : ∀ w ∈ ([] : List Value), fits ty w = true := fun _ q => nomatch q
theorem fits_cons (q : fits ty v = true) (r : ∀ w ∈ vs, fits ty w = true) : ∀ w ∈ v :: vs, fits ty w = true := fun w z => (List.mem_cons.mp z).elim (fun u => u ▸ q) (r w)
theorem Ary.arv {dv : Value} {z : Int32} (F : Ary Z h a ty vs) (hz : z.toNatClampNeg = vs.length) (h0 : ¬ z < 0) (hf : ∀ w ∈ vs, fits ty w = true) : ∃ k, Arv Z h a k ty z vs dv := by
  obtain ⟨cl, A, S⟩ := F
  have sz : cl.slots.size = vs.length := sizeA S
  refine ⟨_, cl, A, rfl, sz.trans hz.symm, h0, fun i hi => ?_, fun i hi => ?_⟩
  · rw [sz] at hi
    refine atA S ?_
    rw [List.getD_eq_getElem?_getD, List.getElem?_eq_getElem hi]; rfl
  · rw [sz] at hi
    rw [List.getD_eq_getElem?_getD, List.getElem?_eq_getElem hi]
    exact hf _ (List.getElem_mem hi)
theorem Arv.ary {k : ClassId} {z : Int32} {dv : Value} (F : Arv Z h a k ty z vs dv) (hz : z.toNatClampNeg = vs.length) : Ary Z h a ty vs := by
  obtain ⟨cl, A, -, S, -, H, -⟩ := F
  refine ⟨cl, A, List.ext_getElem? fun i => ?_⟩
  by_cases hi : i < cl.slots.size
  · have q := H i hi
    have hv : i < vs.length := by omega
    rw [List.getD_eq_getElem?_getD, List.getElem?_eq_getElem hv] at q
    rw [List.getElem?_eq_getElem hv, Array.getElem?_toList]; exact q
  · rw [List.getElem?_eq_none (by simp; omega), List.getElem?_eq_none (by omega)]
theorem storeV {Ls : Array Slot} {i : Nat} {r : Value} {o : Slot} {l' : Array Slot} (q : r.isRef = true) (ho : o = .unset ∨ ∃ w, o = .val w ∧ w.category = 1) (hold : Ls[i]? = some o := by rfl) (hl : Ls.setIfInBounds i (.val r) = l' := by rfl) : storeLocals Ls i r = some l' := by
  rw [← hl]; exact XS.store1 hold ho (catV q)
end Own
end Jvm.RoadKit
namespace Jvm.Pilot.@@N@@
open Jvm Jvm.ClassFile Sem Op Lib Jvm.Free Jvm.Stand Jvm.LawKit Jvm.RoadKit Bundle Jvm.Pilot.@@N@@.Jvm.D
theorem own_cc {u v : Int64} (h : v = u &&& 72057594037927935) : 0 ≤ v.toInt ∧ v.toInt < 2 ^ 56 := by
  have q := Jvm.Kit.i64_mask u 72057594037927935 (k := 56) (by decide) (by decide)
  rw [← h] at q; omega
theorem own_cb {u v : Int32} (h : v = (u &&& 63) + 1) : 1 ≤ v.toInt ∧ v.toInt ≤ 64 := by
  have q := Jvm.Kit.i32_mask u 63 (k := 6) (by decide) (by decide)
  have e1 : (1 : Int32).toInt = 1 := rfl
  have r := Jvm.Kit.i32_add (p := u &&& 63) (q := 1) (by omega) (by omega)
  rw [h, r]; omega
theorem own_bt {v : Int64} {w : Int32} (h : 0 ≤ v.toInt ∧ v.toInt < 2 ^ 56) (g : 1 ≤ w.toInt ∧ w.toInt ≤ 64) : (v * w.toInt64).toInt = v.toInt * w.toInt ∧ 0 ≤ v.toInt * w.toInt ∧ v.toInt * w.toInt ≤ (2 ^ 56 - 1) * 64 := by
  have a : 0 ≤ v.toInt * w.toInt := Int.mul_nonneg h.1 (by omega)
  have b : v.toInt * w.toInt ≤ (2 ^ 56 - 1) * 64 := Int.mul_le_mul (by omega) g.2 (by omega) (by omega)
  refine ⟨?_, a, b⟩
  have e := Jvm.Kit.i64_of_i32 w
  rw [Jvm.Kit.i64_mul (by rw [e]; omega) (by rw [e]; omega), e]
theorem own_ww {b : Int64} (h0 : 0 ≤ b.toInt) (h1 : b.toInt ≤ (2 ^ 56 - 1) * 64) : (((b + (64 : Int64)) - (1 : Int64)) / (64 : Int64)).toInt = (b.toInt + 63) / 64 := by
  have e64 : (64 : Int64).toInt = 64 := rfl
  have e1 : (1 : Int64).toInt = 1 := rfl
  have q1 : (b + (64 : Int64)).toInt = b.toInt + 64 := by rw [Jvm.Kit.i64_add (by rw [e64]; omega) (by rw [e64]; omega), e64]
  have q2 : ((b + (64 : Int64)) - (1 : Int64)).toInt = b.toInt + 63 := by rw [Jvm.Kit.i64_sub (by rw [q1, e1]; omega) (by rw [q1, e1]; omega), q1, e1]; omega
  rw [Jvm.Kit.i64_div (by rw [e64]; omega), q2, e64, Int.tdiv_eq_ediv_of_nonneg (by omega)]
theorem own_rm {w : Int64} {B : Int} (h0 : 0 ≤ B) (h1 : B ≤ (2 ^ 56 - 1) * 64) (e : w.toInt = (B + 63) / 64) : (w * (64 : Int64)).toInt = (B + 63) / 64 * 64 := by
  have e64 : (64 : Int64).toInt = 64 := rfl
  rw [Jvm.Kit.i64_mul (by rw [e64, e]; omega) (by rw [e64, e]; omega), e64, e]
theorem own_top {b : Int64} (h0 : 0 ≤ b.toInt) (h1 : b.toInt ≤ (2 ^ 56 - 1) * 64) : (b + (64 : Int64)).toInt = b.toInt + 64 := by
  have e64 : (64 : Int64).toInt = 64 := rfl
  rw [Jvm.Kit.i64_add (by rw [e64]; omega) (by rw [e64]; omega), e64]
theorem ef_1 (m : MethodId) (x0 : Int64) (x1 : Int32)  : entryFrame m #[(.long x0), (.int x1)] 3 = mkF m 0 #[.val (.long x0), .second, .val (.int x1)] [] := by first | (simp [entryFrame, mkF, argsToLocals, Value.category]; done) | rfl
theorem pn_1 : plainName "com/example/hedger/hedger/WordArray" = true := by first | (simp [plainName, overriddenIn]; done) | decide +kernel
theorem d1_0 : decode prog_26_method_7_code 0 = .ok (.lload_n 0, 1) := by decide +kernel
theorem d1_1 : decode prog_26_method_7_code 1 = .ok (.iload_n 2, 1) := by decide +kernel
theorem d1_2 : decode prog_26_method_7_code 2 = .ok (.i2l, 1) := by decide +kernel
theorem d1_3 : decode prog_26_method_7_code 3 = .ok (.lmul, 1) := by decide +kernel
theorem d1_4 : decode prog_26_method_7_code 4 = .ok (.ldc2_w 101, 3) := by decide +kernel
theorem d1_7 : decode prog_26_method_7_code 7 = .ok (.ladd, 1) := by decide +kernel
theorem d1_8 : decode prog_26_method_7_code 8 = .ok (.lconst 1, 1) := by decide +kernel
theorem d1_9 : decode prog_26_method_7_code 9 = .ok (.lsub, 1) := by decide +kernel
theorem d1_10 : decode prog_26_method_7_code 10 = .ok (.ldc2_w 101, 3) := by decide +kernel
theorem d1_13 : decode prog_26_method_7_code 13 = .ok (.ldiv, 1) := by decide +kernel
theorem d1_14 : decode prog_26_method_7_code 14 = .ok (.lreturn, 1) := by decide +kernel
def Q1 (Z : State) (u0 : Int64) (u1 : Int32) (h0 : Heap) (n0 : Nat) (v : Option Value) (h : Heap) (L : List Loc) : Prop := v = some (.long ((((u0 * (u1.toInt64)) + (64 : Int64)) - (1 : Int64)) / (64 : Int64))) ∧ Fr n0 L ∧ h = h0
set_option maxRecDepth 65536 in
set_option maxHeartbeats 40000000 in
theorem rm1 (l : Launch) (Z : State) (a0 : Array Value) (hw : ∀ d ∈ tables_1, d.before a0 Z = true) (ws : List Jvm.Cond) (u0 : Int64) (u1 : Int32) (h0 : Heap) (n0 : Nat) (Z0 : n0 ≤ h0.size) :
    MetFree l (⟨"com/example/hedger/hedger/WordArray", "wordCount", "(JI)J"⟩ : MethodName) (head1 (Jvm.Cond.code (⟨"com/example/hedger/hedger/WordArray", "wordCount", "(JI)J"⟩ : MethodName) prog_26_method_7_code 3 (some .long) :: ws) ({ frames := 0, cells := 0, slots := 0, locals := 0 } : Room)) (fun a U => a = #[(.long u0), (.int u1)] ∧ Z.Warmed39 U.vm ∧ U.heap = h0) (fun _ _ _ _ _ => True) (fun _ U o U' => ∃ v L, o = .returned v ∧ Q1 Z u0 u1 h0 n0 v U'.heap L ∧ FrameEnd U o U' L 0 0) := by
  refine MetFree.of_bodySF (plainFor_of_name pn_1) hisR ?_
  intro p e s m args below meth c s₁ Bd hml0 hP hK
  obtain ⟨rfl, hZ, hh⟩ := hP
  have hx := Bd.exec
  have hby := Bd.bytes
  have hml : c.maxLocals = 3 := hml0
  have hown : s.vm.findClass "com/example/hedger/hedger/WordArray" = some m.cls := findClass_of_methodNamed Bd.named
  have hnm := (name_of_methodNamed Bd.named Bd.method).1
  have X0 : Stand p l e ({ frames := 0, cells := 0, slots := 0, locals := 0 } : Room) s m #[(.long u0), (.int u1)] below meth c s₁ [] 0 0 := Stand.of_body Bd
  have e0 : s₁.heap = h0 := by rw [← hh, Bd.state]; rfl
  have N0 := Fr.nil n0
  have hlk : meth.locks = false := BodyLoose.notSynchronized Bd
  show Goal p e below s (Q1 Z u0 u1 h0 n0) 0 0 (s₁.setTop (entryFrame m #[(.long u0), (.int u1)] 3))
  refine Goal.to (B := s₁.setTop (mkF m 0 #[.val (.long u0), .second, .val (.int u1)] [])) (fun tt kk => castTop (ef_1 m u0 u1 ) kk) ?_
  refine Goal.to (B := s₁.setTop (mkF m 14 #[.val (.long u0), .second, .val (.int u1)] [(.long ((((u0 * (u1.toInt64)) + (64 : Int64)) - (1 : Int64)) / (64 : Int64)))])) (fun tt kk => ?_) ?_
  · show Steps p.tables e below (s₁.setTop (mkF m 0 #[.val (.long u0), .second, .val (.int u1)] [])) tt
    refine XS.lloadN X0.here hx rfl (hb hby d1_0) rfl ?_
    show Steps p.tables e below (s₁.setTop (mkF m 1 #[.val (.long u0), .second, .val (.int u1)] [(.long u0)])) tt
    refine XS.iloadN X0.here hx rfl (hb hby d1_1) rfl ?_
    show Steps p.tables e below (s₁.setTop (mkF m 2 #[.val (.long u0), .second, .val (.int u1)] [(.int u1), (.long u0)])) tt
    refine XS.i2l X0.here hx rfl (hb hby d1_2) rfl ?_
    show Steps p.tables e below (s₁.setTop (mkF m 3 #[.val (.long u0), .second, .val (.int u1)] [(.long (u1.toInt64)), (.long u0)])) tt
    refine XS.lmul X0.here hx rfl (hb hby d1_3) rfl ?_
    show Steps p.tables e below (s₁.setTop (mkF m 4 #[.val (.long u0), .second, .val (.int u1)] [(.long (u0 * (u1.toInt64)))])) tt
    refine X0.ldc2Long hx hown (mvT hZ (hw _ (mw 5 rfl))) (g := (mkF m 4 #[.val (.long u0), .second, .val (.int u1)] [(.long (u0 * (u1.toInt64)))])) rfl (hb hby d1_4) _ ?_
    show Steps p.tables e below (s₁.setTop (mkF m 7 #[.val (.long u0), .second, .val (.int u1)] [(.long (64 : Int64)), (.long (u0 * (u1.toInt64)))])) tt
    refine XS.ladd X0.here hx rfl (hb hby d1_7) rfl ?_
    show Steps p.tables e below (s₁.setTop (mkF m 8 #[.val (.long u0), .second, .val (.int u1)] [(.long ((u0 * (u1.toInt64)) + (64 : Int64)))])) tt
    refine XS.lconst X0.here hx rfl (hb hby d1_8) ?_
    show Steps p.tables e below (s₁.setTop (mkF m 9 #[.val (.long u0), .second, .val (.int u1)] [(.long (1 : Int64)), (.long ((u0 * (u1.toInt64)) + (64 : Int64)))])) tt
    refine XS.lsub X0.here hx rfl (hb hby d1_9) rfl ?_
    show Steps p.tables e below (s₁.setTop (mkF m 10 #[.val (.long u0), .second, .val (.int u1)] [(.long (((u0 * (u1.toInt64)) + (64 : Int64)) - (1 : Int64)))])) tt
    refine X0.ldc2Long hx hown (mvT hZ (hw _ (mw 5 rfl))) (g := (mkF m 10 #[.val (.long u0), .second, .val (.int u1)] [(.long (((u0 * (u1.toInt64)) + (64 : Int64)) - (1 : Int64)))])) rfl (hb hby d1_10) _ ?_
    show Steps p.tables e below (s₁.setTop (mkF m 13 #[.val (.long u0), .second, .val (.int u1)] [(.long (64 : Int64)), (.long (((u0 * (u1.toInt64)) + (64 : Int64)) - (1 : Int64)))])) tt
    refine XS.ldiv X0.here hx rfl (hb hby d1_13) rfl (by decide) ?_
    exact kk
  exact Goal.retV X0 hx Bd.returns rfl (Or.inr (Or.inl ⟨rfl, rfl, _, rfl⟩)) (hb hby d1_14) hlk e0 ⟨rfl, N0, rfl⟩ (by decide) (by decide)
theorem ef_0 (m : MethodId) (x0 : Int64) (x1 : Int32)  : entryFrame m #[(.long x0), (.int x1)] maxLocals = mkF m 0 #[.val (.long x0), .second, .val (.int x1), .unset, .unset, .unset, .unset, .unset, .unset, .unset, .unset, .unset] [] := by first | (simp [entryFrame, mkF, argsToLocals, Value.category, maxLocals]; done) | rfl
theorem pn_0 : plainName "com/example/hedger/hedger/WordArrayWordCountPinLaw" = true := by first | (simp [plainName, overriddenIn]; done) | decide +kernel
theorem pd_0 : parseMethodDescriptor "(JI)J" = some ⟨[.long, .int], some .long⟩ := by decide +kernel
def Q0 (Z : State) (u0 : Int64) (u1 : Int32) (h0 : Heap) (n0 : Nat) (v : Option Value) (h : Heap) (L : List Loc) : Prop := v = some (.int (1 : Int32)) ∧ Fr n0 L
set_option maxRecDepth 65536 in
set_option maxHeartbeats 40000000 in
theorem rm0 (l : Launch) (Z : State) (a0 : Array Value) (hw : ∀ d ∈ tables_1, d.before a0 Z = true) (ws : List Jvm.Cond) (u0 : Int64) (u1 : Int32) (h0 : Heap) (n0 : Nat) (Z0 : n0 ≤ h0.size) :
    MetFree l x (head1 (Jvm.Cond.code x code maxLocals ret :: ws) room_1) (fun a U => a = #[(.long u0), (.int u1)] ∧ Z.Warmed39 U.vm ∧ U.heap = h0) (fun _ _ _ _ _ => True) (fun _ U o U' => ∃ v L, o = .returned v ∧ Q0 Z u0 u1 h0 n0 v U'.heap L ∧ FrameEnd U o U' L 0 0) := by
  refine MetFree.of_bodySF (plainFor_of_name pn_0) hisR ?_
  intro p e s m args below meth c s₁ Bd hml0 hP hK
  obtain ⟨rfl, hZ, hh⟩ := hP
  have hx := Bd.exec
  have hby := Bd.bytes
  have hml : c.maxLocals = 12 := hml0
  have hown : s.vm.findClass "com/example/hedger/hedger/WordArrayWordCountPinLaw" = some m.cls := findClass_of_methodNamed Bd.named
  have hnm := (name_of_methodNamed Bd.named Bd.method).1
  have X0 : Stand p l e room_1 s m #[(.long u0), (.int u1)] below meth c s₁ [] 0 0 := Stand.of_body Bd
  have e0 : s₁.heap = h0 := by rw [← hh, Bd.state]; rfl
  have N0 := Fr.nil n0
  have hlk : meth.locks = false := BodyLoose.notSynchronized Bd
  show Goal p e below s (Q0 Z u0 u1 h0 n0) 0 0 (s₁.setTop (entryFrame m #[(.long u0), (.int u1)] maxLocals))
  refine Goal.to (B := s₁.setTop (mkF m 0 #[.val (.long u0), .second, .val (.int u1), .unset, .unset, .unset, .unset, .unset, .unset, .unset, .unset, .unset] [])) (fun tt kk => castTop (ef_0 m u0 u1 ) kk) ?_
  obtain ⟨cc, hcc⟩ : ∃ z : Int64, z = (u0 &&& (72057594037927935 : Int64)) := ⟨_, rfl⟩
  refine Goal.to (B := s₁.setTop (mkF m 6 #[.val (.long u0), .second, .val (.int u1), .val (.long cc), .second, .unset, .unset, .unset, .unset, .unset, .unset, .unset] [])) (fun tt kk => ?_) ?_
  · subst hcc
    show Steps p.tables e below (s₁.setTop (mkF m 0 #[.val (.long u0), .second, .val (.int u1), .unset, .unset, .unset, .unset, .unset, .unset, .unset, .unset, .unset] [])) tt
    refine XS.lloadN X0.here hx rfl (hb hby at_0) rfl ?_
    show Steps p.tables e below (s₁.setTop (mkF m 1 #[.val (.long u0), .second, .val (.int u1), .unset, .unset, .unset, .unset, .unset, .unset, .unset, .unset, .unset] [(.long u0)])) tt
    refine X0.ldc2Long hx hown (mvT hZ (hw _ (mw 0 rfl))) (g := (mkF m 1 #[.val (.long u0), .second, .val (.int u1), .unset, .unset, .unset, .unset, .unset, .unset, .unset, .unset, .unset] [(.long u0)])) rfl (hb hby at_1) _ ?_
    show Steps p.tables e below (s₁.setTop (mkF m 4 #[.val (.long u0), .second, .val (.int u1), .unset, .unset, .unset, .unset, .unset, .unset, .unset, .unset, .unset] [(.long (72057594037927935 : Int64)), (.long u0)])) tt
    refine XS.land X0.here hx rfl (hb hby at_4) rfl ?_
    show Steps p.tables e below (s₁.setTop (mkF m 5 #[.val (.long u0), .second, .val (.int u1), .unset, .unset, .unset, .unset, .unset, .unset, .unset, .unset, .unset] [(.long (u0 &&& (72057594037927935 : Int64)))])) tt
    refine XS.lstoreN X0.here hx rfl (hb hby at_5) rfl (l' := #[.val (.long u0), .second, .val (.int u1), .val (.long (u0 &&& (72057594037927935 : Int64))), .second, .unset, .unset, .unset, .unset, .unset, .unset, .unset]) rfl ?_
    exact kk
  have hC := own_cc hcc
  obtain ⟨cb, hcb⟩ : ∃ z : Int32, z = ((u1 &&& (63 : Int32)) + (1 : Int32)) := ⟨_, rfl⟩
  refine Goal.to (B := s₁.setTop (mkF m 14 #[.val (.long u0), .second, .val (.int u1), .val (.long cc), .second, .val (.int cb), .unset, .unset, .unset, .unset, .unset, .unset] [])) (fun tt kk => ?_) ?_
  · subst hcb
    show Steps p.tables e below (s₁.setTop (mkF m 6 #[.val (.long u0), .second, .val (.int u1), .val (.long cc), .second, .unset, .unset, .unset, .unset, .unset, .unset, .unset] [])) tt
    refine XS.iloadN X0.here hx rfl (hb hby at_6) rfl ?_
    show Steps p.tables e below (s₁.setTop (mkF m 7 #[.val (.long u0), .second, .val (.int u1), .val (.long cc), .second, .unset, .unset, .unset, .unset, .unset, .unset, .unset] [(.int u1)])) tt
    refine XS.bipush X0.here hx rfl (hb hby at_7) ?_
    show Steps p.tables e below (s₁.setTop (mkF m 9 #[.val (.long u0), .second, .val (.int u1), .val (.long cc), .second, .unset, .unset, .unset, .unset, .unset, .unset, .unset] [(.int (63 : Int32)), (.int u1)])) tt
    refine XS.iand X0.here hx rfl (hb hby at_9) rfl ?_
    show Steps p.tables e below (s₁.setTop (mkF m 10 #[.val (.long u0), .second, .val (.int u1), .val (.long cc), .second, .unset, .unset, .unset, .unset, .unset, .unset, .unset] [(.int (u1 &&& (63 : Int32)))])) tt
    refine XS.iconst X0.here hx rfl (hb hby at_10) ?_
    show Steps p.tables e below (s₁.setTop (mkF m 11 #[.val (.long u0), .second, .val (.int u1), .val (.long cc), .second, .unset, .unset, .unset, .unset, .unset, .unset, .unset] [(.int (1 : Int32)), (.int (u1 &&& (63 : Int32)))])) tt
    refine XS.iadd X0.here hx rfl (hb hby at_11) rfl ?_
    show Steps p.tables e below (s₁.setTop (mkF m 12 #[.val (.long u0), .second, .val (.int u1), .val (.long cc), .second, .unset, .unset, .unset, .unset, .unset, .unset, .unset] [(.int ((u1 &&& (63 : Int32)) + (1 : Int32)))])) tt
    refine XS.istore X0.here hx rfl (hb hby at_12) rfl (l' := #[.val (.long u0), .second, .val (.int u1), .val (.long cc), .second, .val (.int ((u1 &&& (63 : Int32)) + (1 : Int32))), .unset, .unset, .unset, .unset, .unset, .unset]) rfl ?_
    exact kk
  have hD := own_cb hcb
  obtain ⟨bt, hbt⟩ : ∃ z : Int64, z = (cc * (cb.toInt64)) := ⟨_, rfl⟩
  refine Goal.to (B := s₁.setTop (mkF m 21 #[.val (.long u0), .second, .val (.int u1), .val (.long cc), .second, .val (.int cb), .val (.long bt), .second, .unset, .unset, .unset, .unset] [])) (fun tt kk => ?_) ?_
  · subst hbt
    show Steps p.tables e below (s₁.setTop (mkF m 14 #[.val (.long u0), .second, .val (.int u1), .val (.long cc), .second, .val (.int cb), .unset, .unset, .unset, .unset, .unset, .unset] [])) tt
    refine XS.lloadN X0.here hx rfl (hb hby at_14) rfl ?_
    show Steps p.tables e below (s₁.setTop (mkF m 15 #[.val (.long u0), .second, .val (.int u1), .val (.long cc), .second, .val (.int cb), .unset, .unset, .unset, .unset, .unset, .unset] [(.long cc)])) tt
    refine XS.iload X0.here hx rfl (hb hby at_15) rfl ?_
    show Steps p.tables e below (s₁.setTop (mkF m 17 #[.val (.long u0), .second, .val (.int u1), .val (.long cc), .second, .val (.int cb), .unset, .unset, .unset, .unset, .unset, .unset] [(.int cb), (.long cc)])) tt
    refine XS.i2l X0.here hx rfl (hb hby at_17) rfl ?_
    show Steps p.tables e below (s₁.setTop (mkF m 18 #[.val (.long u0), .second, .val (.int u1), .val (.long cc), .second, .val (.int cb), .unset, .unset, .unset, .unset, .unset, .unset] [(.long (cb.toInt64)), (.long cc)])) tt
    refine XS.lmul X0.here hx rfl (hb hby at_18) rfl ?_
    show Steps p.tables e below (s₁.setTop (mkF m 19 #[.val (.long u0), .second, .val (.int u1), .val (.long cc), .second, .val (.int cb), .unset, .unset, .unset, .unset, .unset, .unset] [(.long (cc * (cb.toInt64)))])) tt
    refine XS.lstore X0.here hx rfl (hb hby at_19) rfl (l' := #[.val (.long u0), .second, .val (.int u1), .val (.long cc), .second, .val (.int cb), .val (.long (cc * (cb.toInt64))), .second, .unset, .unset, .unset, .unset]) rfl ?_
    exact kk
  have hB := own_bt hC hD
  have hBt : bt.toInt = cc.toInt * cb.toInt := by rw [hbt]; exact hB.1
  have hB0 : 0 ≤ bt.toInt := by rw [hBt]; exact hB.2.1
  have hB1 : bt.toInt ≤ (2 ^ 56 - 1) * 64 := by rw [hBt]; exact hB.2.2
  refine Goal.to (B := s₁.setTop (mkF m 24 #[.val (.long u0), .second, .val (.int u1), .val (.long cc), .second, .val (.int cb), .val (.long bt), .second, .unset, .unset, .unset, .unset] [(.int cb), (.long cc)])) (fun tt kk => ?_) ?_
  · show Steps p.tables e below (s₁.setTop (mkF m 21 #[.val (.long u0), .second, .val (.int u1), .val (.long cc), .second, .val (.int cb), .val (.long bt), .second, .unset, .unset, .unset, .unset] [])) tt
    refine XS.lloadN X0.here hx rfl (hb hby at_21) rfl ?_
    show Steps p.tables e below (s₁.setTop (mkF m 22 #[.val (.long u0), .second, .val (.int u1), .val (.long cc), .second, .val (.int cb), .val (.long bt), .second, .unset, .unset, .unset, .unset] [(.long cc)])) tt
    refine XS.iload X0.here hx rfl (hb hby at_22) rfl ?_
    exact kk
  obtain ⟨_, _, ⟨T1, L1, k1, n1⟩, -, X1, ⟨Lc1, hQ1, l1, y1, z1⟩, st1⟩ := Jvm.LawKit.callS X0 hx (y := (⟨"com/example/hedger/hedger/WordArray", "wordCount", "(JI)J"⟩ : MethodName)) hown (mvT hZ (hw _ (mw 1 rfl))) (mvT hZ (hw _ (mw 2 rfl))) (mvT hZ (hw _ (mw 3 rfl))) (mvT hZ (hw _ (mw 4 rfl))) (by decide) (backOf (W := 0) (rm1 l Z a0 hw [] cc cb h0 n0 Z0 ) hZ (hw _ (mw 4 rfl)) (hw _ (mw 3 rfl)) (by decide) (by decide)) (g := (mkF m 24 #[.val (.long u0), .second, .val (.int u1), .val (.long cc), .second, .val (.int cb), .val (.long bt), .second, .unset, .unset, .unset, .unset] [(.int cb), (.long cc)])) rfl (by rw [hml]; rfl) (argsL := [(.long cc), (.int cb)]) (rest := []) (lenOf pd_0 rfl) rfl (by show 2 * 0 + _ ≤ _; exact Nat.le_of_eq rfl) (hb hby at_24) (fun _ _ => ⟨rfl, e0, (by decide : 0 + 0 ≤ _), (by decide : 0 + 0 ≤ _)⟩)
  dsimp only [Pt.U, Pt.locs, Pt.cells, Pt.slots] at X1 l1 y1 z1 st1 hQ1
  subst l1 y1 z1
  obtain ⟨rfl, N1q, e1⟩ := hQ1
  have N1 := Fr.app N0 N1q
  refine Goal.to (B := T1.setTop (mkF m 27 #[.val (.long u0), .second, .val (.int u1), .val (.long cc), .second, .val (.int cb), .val (.long bt), .second, .unset, .unset, .unset, .unset] [(.long ((((cc * (cb.toInt64)) + (64 : Int64)) - (1 : Int64)) / (64 : Int64)))])) st1 ?_
  obtain ⟨ww, hww⟩ : ∃ z : Int64, z = ((((cc * (cb.toInt64)) + (64 : Int64)) - (1 : Int64)) / (64 : Int64)) := ⟨_, rfl⟩
  refine Goal.to (B := T1.setTop (mkF m 29 #[.val (.long u0), .second, .val (.int u1), .val (.long cc), .second, .val (.int cb), .val (.long bt), .second, .val (.long ww), .second, .unset, .unset] [])) (fun tt kk => ?_) ?_
  · subst hww
    show Steps p.tables e below (T1.setTop (mkF m 27 #[.val (.long u0), .second, .val (.int u1), .val (.long cc), .second, .val (.int cb), .val (.long bt), .second, .unset, .unset, .unset, .unset] [(.long ((((cc * (cb.toInt64)) + (64 : Int64)) - (1 : Int64)) / (64 : Int64)))])) tt
    refine XS.lstore X1.here hx rfl (hb hby at_27) rfl (l' := #[.val (.long u0), .second, .val (.int u1), .val (.long cc), .second, .val (.int cb), .val (.long bt), .second, .val (.long ((((cc * (cb.toInt64)) + (64 : Int64)) - (1 : Int64)) / (64 : Int64))), .second, .unset, .unset]) rfl ?_
    exact kk
  have hww' : ww.toInt = (bt.toInt + 63) / 64 := by rw [hww]; rw [← hbt]; exact own_ww (by rw [hBt]; exact hB.2.1) (by rw [hBt]; exact hB.2.2)
  obtain ⟨rr, hrr⟩ : ∃ z : Int64, z = (ww * (64 : Int64)) := ⟨_, rfl⟩
  refine Goal.to (B := T1.setTop (mkF m 55 #[.val (.long u0), .second, .val (.int u1), .val (.long cc), .second, .val (.int cb), .val (.long bt), .second, .val (.long ww), .second, .val (.long rr), .second] [])) (fun tt kk => ?_) ?_
  · subst hrr
    show Steps p.tables e below (T1.setTop (mkF m 29 #[.val (.long u0), .second, .val (.int u1), .val (.long cc), .second, .val (.int cb), .val (.long bt), .second, .val (.long ww), .second, .unset, .unset] [])) tt
    refine XS.lload X1.here hx rfl (hb hby at_29) rfl ?_
    show Steps p.tables e below (T1.setTop (mkF m 31 #[.val (.long u0), .second, .val (.int u1), .val (.long cc), .second, .val (.int cb), .val (.long bt), .second, .val (.long ww), .second, .unset, .unset] [(.long ww)])) tt
    refine XS.lconst X1.here hx rfl (hb hby at_31) ?_
    show Steps p.tables e below (T1.setTop (mkF m 32 #[.val (.long u0), .second, .val (.int u1), .val (.long cc), .second, .val (.int cb), .val (.long bt), .second, .val (.long ww), .second, .unset, .unset] [(.long (0 : Int64)), (.long ww)])) tt
    refine XS.lcmp X1.here hx rfl (hb hby at_32) rfl ?_
    show Steps p.tables e below (T1.setTop (mkF m 33 #[.val (.long u0), .second, .val (.int u1), .val (.long cc), .second, .val (.int cb), .val (.long bt), .second, .val (.long ww), .second, .unset, .unset] [(.int (lcmpW ww (0 : Int64)))])) tt
    refine XS.ifNo X1.here hx rfl (hb hby at_33) rfl ((if0 _ _).trans (flt (by rw [lw_lt, Int64.lt_iff_toInt_lt, hww', show (0 : Int64).toInt = 0 from rfl]; omega : ¬ ((lcmpW ww (0 : Int64)) < (0 : Int32)))).1) ?_
    show Steps p.tables e below (T1.setTop (mkF m 36 #[.val (.long u0), .second, .val (.int u1), .val (.long cc), .second, .val (.int cb), .val (.long bt), .second, .val (.long ww), .second, .unset, .unset] [])) tt
    refine XS.lload X1.here hx rfl (hb hby at_36) rfl ?_
    show Steps p.tables e below (T1.setTop (mkF m 38 #[.val (.long u0), .second, .val (.int u1), .val (.long cc), .second, .val (.int cb), .val (.long bt), .second, .val (.long ww), .second, .unset, .unset] [(.long ww)])) tt
    refine X1.ldc2Long hx hown (mvT hZ (hw _ (mw 6 rfl))) (g := (mkF m 38 #[.val (.long u0), .second, .val (.int u1), .val (.long cc), .second, .val (.int cb), .val (.long bt), .second, .val (.long ww), .second, .unset, .unset] [(.long ww)])) rfl (hb hby at_38) _ ?_
    show Steps p.tables e below (T1.setTop (mkF m 41 #[.val (.long u0), .second, .val (.int u1), .val (.long cc), .second, .val (.int cb), .val (.long bt), .second, .val (.long ww), .second, .unset, .unset] [(.long (144115188075855872 : Int64)), (.long ww)])) tt
    refine XS.lcmp X1.here hx rfl (hb hby at_41) rfl ?_
    show Steps p.tables e below (T1.setTop (mkF m 42 #[.val (.long u0), .second, .val (.int u1), .val (.long cc), .second, .val (.int cb), .val (.long bt), .second, .val (.long ww), .second, .unset, .unset] [(.int (lcmpW ww (144115188075855872 : Int64)))])) tt
    refine XS.ifYes X1.here hx rfl (pc0 := 42) (pc' := 47) rfl (hb hby at_42) rfl ((if0 _ _).trans (flt (by rw [lw_gt, Int64.lt_iff_toInt_lt, hww', show (144115188075855872 : Int64).toInt = 144115188075855872 from rfl]; omega : ¬ ((0 : Int32) < (lcmpW ww (144115188075855872 : Int64))))).2.2.2) (by decide) (by decide) ?_
    show Steps p.tables e below (T1.setTop (mkF m 47 #[.val (.long u0), .second, .val (.int u1), .val (.long cc), .second, .val (.int cb), .val (.long bt), .second, .val (.long ww), .second, .unset, .unset] [])) tt
    refine XS.lload X1.here hx rfl (hb hby at_47) rfl ?_
    show Steps p.tables e below (T1.setTop (mkF m 49 #[.val (.long u0), .second, .val (.int u1), .val (.long cc), .second, .val (.int cb), .val (.long bt), .second, .val (.long ww), .second, .unset, .unset] [(.long ww)])) tt
    refine X1.ldc2Long hx hown (mvT hZ (hw _ (mw 7 rfl))) (g := (mkF m 49 #[.val (.long u0), .second, .val (.int u1), .val (.long cc), .second, .val (.int cb), .val (.long bt), .second, .val (.long ww), .second, .unset, .unset] [(.long ww)])) rfl (hb hby at_49) _ ?_
    show Steps p.tables e below (T1.setTop (mkF m 52 #[.val (.long u0), .second, .val (.int u1), .val (.long cc), .second, .val (.int cb), .val (.long bt), .second, .val (.long ww), .second, .unset, .unset] [(.long (64 : Int64)), (.long ww)])) tt
    refine XS.lmul X1.here hx rfl (hb hby at_52) rfl ?_
    show Steps p.tables e below (T1.setTop (mkF m 53 #[.val (.long u0), .second, .val (.int u1), .val (.long cc), .second, .val (.int cb), .val (.long bt), .second, .val (.long ww), .second, .unset, .unset] [(.long (ww * (64 : Int64)))])) tt
    refine XS.lstore X1.here hx rfl (hb hby at_53) rfl (l' := #[.val (.long u0), .second, .val (.int u1), .val (.long cc), .second, .val (.int cb), .val (.long bt), .second, .val (.long ww), .second, .val (.long (ww * (64 : Int64))), .second]) rfl ?_
    exact kk
  have hrr' : rr.toInt = (bt.toInt + 63) / 64 * 64 := by rw [hrr]; exact own_rm hB0 hB1 hww'
  refine Goal.to (B := T1.setTop (mkF m 80 #[.val (.long u0), .second, .val (.int u1), .val (.long cc), .second, .val (.int cb), .val (.long bt), .second, .val (.long ww), .second, .val (.long rr), .second] [(.int (1 : Int32))])) (fun tt kk => ?_) ?_
  · show Steps p.tables e below (T1.setTop (mkF m 55 #[.val (.long u0), .second, .val (.int u1), .val (.long cc), .second, .val (.int cb), .val (.long bt), .second, .val (.long ww), .second, .val (.long rr), .second] [])) tt
    refine XS.lload X1.here hx rfl (hb hby at_55) rfl ?_
    show Steps p.tables e below (T1.setTop (mkF m 57 #[.val (.long u0), .second, .val (.int u1), .val (.long cc), .second, .val (.int cb), .val (.long bt), .second, .val (.long ww), .second, .val (.long rr), .second] [(.long rr)])) tt
    refine XS.lload X1.here hx rfl (hb hby at_57) rfl ?_
    show Steps p.tables e below (T1.setTop (mkF m 59 #[.val (.long u0), .second, .val (.int u1), .val (.long cc), .second, .val (.int cb), .val (.long bt), .second, .val (.long ww), .second, .val (.long rr), .second] [(.long bt), (.long rr)])) tt
    refine XS.lcmp X1.here hx rfl (hb hby at_59) rfl ?_
    show Steps p.tables e below (T1.setTop (mkF m 60 #[.val (.long u0), .second, .val (.int u1), .val (.long cc), .second, .val (.int cb), .val (.long bt), .second, .val (.long ww), .second, .val (.long rr), .second] [(.int (lcmpW rr bt))])) tt
    refine XS.ifNo X1.here hx rfl (hb hby at_60) rfl ((if0 _ _).trans (flt (by rw [lw_lt, Int64.lt_iff_toInt_lt, hrr']; omega : ¬ ((lcmpW rr bt) < (0 : Int32)))).1) ?_
    show Steps p.tables e below (T1.setTop (mkF m 63 #[.val (.long u0), .second, .val (.int u1), .val (.long cc), .second, .val (.int cb), .val (.long bt), .second, .val (.long ww), .second, .val (.long rr), .second] [])) tt
    refine XS.lload X1.here hx rfl (hb hby at_63) rfl ?_
    show Steps p.tables e below (T1.setTop (mkF m 65 #[.val (.long u0), .second, .val (.int u1), .val (.long cc), .second, .val (.int cb), .val (.long bt), .second, .val (.long ww), .second, .val (.long rr), .second] [(.long rr)])) tt
    refine XS.lload X1.here hx rfl (hb hby at_65) rfl ?_
    show Steps p.tables e below (T1.setTop (mkF m 67 #[.val (.long u0), .second, .val (.int u1), .val (.long cc), .second, .val (.int cb), .val (.long bt), .second, .val (.long ww), .second, .val (.long rr), .second] [(.long bt), (.long rr)])) tt
    refine X1.ldc2Long hx hown (mvT hZ (hw _ (mw 7 rfl))) (g := (mkF m 67 #[.val (.long u0), .second, .val (.int u1), .val (.long cc), .second, .val (.int cb), .val (.long bt), .second, .val (.long ww), .second, .val (.long rr), .second] [(.long bt), (.long rr)])) rfl (hb hby at_67) _ ?_
    show Steps p.tables e below (T1.setTop (mkF m 70 #[.val (.long u0), .second, .val (.int u1), .val (.long cc), .second, .val (.int cb), .val (.long bt), .second, .val (.long ww), .second, .val (.long rr), .second] [(.long (64 : Int64)), (.long bt), (.long rr)])) tt
    refine XS.ladd X1.here hx rfl (hb hby at_70) rfl ?_
    show Steps p.tables e below (T1.setTop (mkF m 71 #[.val (.long u0), .second, .val (.int u1), .val (.long cc), .second, .val (.int cb), .val (.long bt), .second, .val (.long ww), .second, .val (.long rr), .second] [(.long (bt + (64 : Int64))), (.long rr)])) tt
    refine XS.lcmp X1.here hx rfl (hb hby at_71) rfl ?_
    show Steps p.tables e below (T1.setTop (mkF m 72 #[.val (.long u0), .second, .val (.int u1), .val (.long cc), .second, .val (.int cb), .val (.long bt), .second, .val (.long ww), .second, .val (.long rr), .second] [(.int (lcmpW rr (bt + (64 : Int64))))])) tt
    refine XS.ifNo X1.here hx rfl (hb hby at_72) rfl ((if0 _ _).trans (tlt (by rw [lw_lt, Int64.lt_iff_toInt_lt, hrr', own_top hB0 hB1]; omega : (lcmpW rr (bt + (64 : Int64))) < (0 : Int32))).2.1) ?_
    show Steps p.tables e below (T1.setTop (mkF m 75 #[.val (.long u0), .second, .val (.int u1), .val (.long cc), .second, .val (.int cb), .val (.long bt), .second, .val (.long ww), .second, .val (.long rr), .second] [])) tt
    refine XS.iconst X1.here hx rfl (hb hby at_75) ?_
    show Steps p.tables e below (T1.setTop (mkF m 76 #[.val (.long u0), .second, .val (.int u1), .val (.long cc), .second, .val (.int cb), .val (.long bt), .second, .val (.long ww), .second, .val (.long rr), .second] [(.int (1 : Int32))])) tt
    refine XS.goto X1.here hx rfl (pc0 := 76) (pc' := 80) rfl (hb hby at_76) (by decide) (by decide) ?_
    exact kk
  exact Goal.retV X1 hx Bd.returns rfl (Or.inl ⟨rfl, Or.inr (Or.inl rfl), _, rfl⟩) (hb hby at_80) hlk e1 ⟨rfl, N1⟩ (by decide) (by decide)
set_option maxRecDepth 65536 in
set_option maxHeartbeats 40000000 in
theorem comes_1 {Post : Tables → Env → Array Value → State → Outcome → State → Prop} (hpost : ∀ tb e args s v u, (limb_1_1.after args s (.returned v) u = true ∧ limb_1_2.after args s (.returned v) u = true ∧ True) → FrameEnd s (.returned v) u (Jvm.fieldLocs frame_1_writes args s ++ Jvm.arrayLocs frame_1_arrays args s ++ Jvm.staticLocs frame_1_statics s) 0 0 → Post tb e args s (.returned v) u) :
    ArmFor flags0 classFile x code maxLocals ret World_1 tables_1 room_1 Calls_1 rest_1 Pre_1 Post := by
  intro l hfl _ _ p e ha hc hk s m args below hf hA hF happ hP
  obtain ⟨hcalls, hrest, hpre⟩ := hP
  obtain ⟨-, -, -, hnamed, -, -, -, hat⟩ := (Spec.applies_iff hf).mp happ
  obtain ⟨hg, hn⟩ := and_e (Cond.before_iff.mp (show (Jvm.Cond.and given_1 narrow_1).before args s = true from hpre))
  obtain ⟨u1, u2⟩ := and_e hg
  obtain ⟨u3, u4⟩ := and_e u2
  obtain ⟨w0, w1, rfl⟩ : ∃ w0 w1 : Value, args = #[w0, w1] := by
    have hs : args.size = 2 := by simpa [Cond.value, given_1] using u1
    obtain ⟨L⟩ := args
    match L, hs with
    | [w0, w1], _ => exact ⟨w0, w1, rfl⟩
  have hw := fun d (hd : d ∈ tables_1) => atoms_spec (ws := Jvm.Cond.code x code maxLocals ret :: tables_1) hat d (List.mem_cons_of_mem _ hd)
  obtain ⟨i0, ei0⟩ := isL_v u3
  obtain rfl : w0 = (.long i0) := Option.some.inj ei0
  obtain ⟨i1, ei1⟩ := is_v u4
  obtain rfl : w1 = (.int i1) := Option.some.inj ei1
  obtain ⟨n, o, h1, h2, h3, _, L, rfl, ⟨rfl, N⟩, hq⟩ := rm0 l s _ hw tables_1 i0 i1 s.heap s.heap.size (Nat.le_refl _)  p e ha hc hk s m _ below hf ((Spec.applies_iff_loose hf).mp happ).1 ⟨rfl, State.Warmed39.refl s, rfl⟩ trivial
  refine ⟨n, _, h1, h2, h3, hpost _ _ _ _ _ _ ⟨Cond.after_iff.mpr rfl, Cond.after_iff.mpr (eq_i res_at (Term.int_eval (1)) rfl), trivial⟩ ⟨hq.1, hq.2.1, (hq.2.2.sift fun y hy => Or.inr (N y hy)).mono (by decide) (by decide)⟩⟩
theorem main_1_1 : Claimed_1_1 := comes_1 fun _ _ _ _ _ _ h hF => ⟨h.1, hF⟩
theorem main_1_2 : Claimed_1_2 := comes_1 fun _ _ _ _ _ _ h hF => ⟨h.2.1, hF⟩
end Jvm.Pilot.@@N@@
namespace Jvm.Pilot.@@N@@
open Jvm Jvm.ClassFile Sem Op Lib Jvm.Free Jvm.Stand Jvm.Pilot.@@N@@.Jvm.D
/-! MADE BY PROGRAM (witnessworld.py) out of the Statement's table words and the real class files: 9 classes; the members and pool entries that the words name. The judged class is class 1, her method 1. -/
namespace start1
open Jvm.ClassFile
def u (s : String) : CpInfo := .utf8 (stringToUtf16 s)
/-- a pool by its gaps: so many unusable entries, then the entry; so many at the end -/
def gap : Nat → List CpInfo → List CpInfo
  | 0, r => r
  | n + 1, r => .unusable :: gap n r
def poolList (es : List (Nat × CpInfo)) (last : Nat) : List CpInfo := es.foldr (fun e r => gap e.1 (e.2 :: r)) (gap last [])
def pool (es : List (Nat × CpInfo)) (last : Nat) : Array CpInfo := ⟨poolList es last⟩
def fileOf (pool : Array CpInfo) (this : Nat) (attrs : Array Attribute := #[]) (ms : Array MethodInfo := #[]) (fl : Nat := 33) (sup : Nat := 0) (ifs : Array Nat := #[]) (fds : Array FieldInfo := #[]) : ClassFile where
  minorVersion := 0
  majorVersion := 65
  constantPool := pool
  accessFlags := fl
  thisClass := this
  superClass := sup
  interfaces := ifs
  fields := fds
  methods := ms
  attributes := attrs
def plain (name : String) (sup : Option ClassId) : Class where
  name := name
  kind := .ordinary
  loader := none
  accessFlags := 33
  super := sup
  interfaces := #[]
  cf := none
  fields := #[]
  methods := #[]
  instanceTypes := #[]
  staticTypes := #[]
  resolved := #[]
  callSites := []
  init := .initialized
  statics := none
  mirror := none

def pool0 : Array CpInfo := pool [(5, u "<init>"), (0, u "()V"), (1, .class_ 10), (1, u "java/lang/Object")] 113

def k0m0 : Method := { name := "<init>", desc := "()V", sig := { parameters := [], returnType := none }, accessFlags := 1, code := none }
/-- java/lang/Object -/
def k0 : Class := { plain "java/lang/Object" none with
  accessFlags := 33
  interfaces := #[]
  cf := some (fileOf pool0 8 #[] #[{ accessFlags := 1, nameIndex := 5, descriptorIndex := 6, attributes := #[] }] 33 0 #[] #[])
  fields := #[]
  methods := #[k0m0]
  instanceTypes := #[]
  staticTypes := #[]
  resolved := Array.replicate 124 none
  statics := none }

def pool1 : Array CpInfo := pool [(2, .class_ 4), (1, u "java/lang/Object"), (0, u "<init>"), (0, u "()V"), (0, .long 72057594037927935), (1, .methodref 10 11), (0, .class_ 12), (0, .nameAndType 13 14), (0, u "com/example/hedger/hedger/WordArray"), (0, u "wordCount"), (0, u "(JI)J"), (0, .long 144115188075855872), (1, .long 64), (1, .class_ 20), (0, u "com/example/hedger/hedger/WordArrayWordCountPinLaw"), (2, u "law"), (0, u "(JI)Z")] 3

def k1m0 : Method := { name := "<init>", desc := "()V", sig := { parameters := [], returnType := none }, accessFlags := 2, code := none }
def k1c1 : Code := { maxStack := 6, maxLocals := 12, code := code, exceptionTable := #[], attributes := #[] }
def k1m1 : Method := { name := "law", desc := "(JI)Z", sig := { parameters := [.long, .int], returnType := some .boolean }, accessFlags := 9, code := some k1c1 }
/-- com/example/hedger/hedger/WordArrayWordCountPinLaw -/
def k1 : Class := { plain "com/example/hedger/hedger/WordArrayWordCountPinLaw" (some 0) with
  accessFlags := 49
  interfaces := #[]
  cf := some (fileOf pool1 19 #[] #[{ accessFlags := 2, nameIndex := 5, descriptorIndex := 6, attributes := #[] }, { accessFlags := 9, nameIndex := 23, descriptorIndex := 24, attributes := #[] }] 49 2 #[] #[])
  fields := #[]
  methods := #[k1m0, k1m1]
  instanceTypes := #[]
  staticTypes := #[]
  resolved := Array.replicate 28 none
  statics := none }

def pool2 : Array CpInfo := pool [(3, .class_ 4), (0, u "com/example/hedger/hedger/WordArray"), (11, .class_ 18), (1, u "java/lang/Object"), (3, u "wordCount"), (0, u "J"), (2, u "head"), (0, u "[J"), (7, u "pages"), (0, u "[[J"), (9, u "spares"), (9, .class_ 58), (1, u "com/example/hedger/hedger/WordArray$WordSource"), (25, .class_ 86), (1, u "com/example/hedger/hedger/WordArray$G1Regions"), (14, .long 64), (3, u "WORDS"), (0, u "Ljava/lang/invoke/VarHandle;"), (58, u "LARGEST_ARRAY_HEADER"), (0, u "I"), (2, u "LARGEST_ARRAY_WORDS"), (1, u "HEAP_REGIONS_PER_HEAD_REGION"), (1, u "PAGE_WORDS"), (1, u "PAGE_SHIFT"), (1, u "PAGE_SLOTS"), (0, u "SPARES_IN_PAGE"), (11, u "(JI)J")] 14

def k2c0 : Code := { maxStack := 4, maxLocals := 3, code := prog_26_method_7_code, exceptionTable := #[], attributes := #[] }
def k2m0 : Method := { name := "wordCount", desc := "(JI)J", sig := { parameters := [.long, .int], returnType := some .long }, accessFlags := 8, code := some k2c0 }
/-- com/example/hedger/hedger/WordArray -/
def k2 : Class := { plain "com/example/hedger/hedger/WordArray" (some 0) with
  accessFlags := 32
  interfaces := #[]
  cf := some (fileOf pool2 3 #[.nestMembers #[84, 56]] #[{ accessFlags := 8, nameIndex := 22, descriptorIndex := 190, attributes := #[] }] 32 16 #[] #[{ accessFlags := 26, nameIndex := 165, descriptorIndex := 166, attributes := #[] }, { accessFlags := 26, nameIndex := 169, descriptorIndex := 166, attributes := #[] }, { accessFlags := 26, nameIndex := 171, descriptorIndex := 166, attributes := #[] }, { accessFlags := 24, nameIndex := 173, descriptorIndex := 166, attributes := #[] }, { accessFlags := 26, nameIndex := 175, descriptorIndex := 166, attributes := #[] }, { accessFlags := 24, nameIndex := 177, descriptorIndex := 23, attributes := #[] }, { accessFlags := 26, nameIndex := 178, descriptorIndex := 166, attributes := #[] }, { accessFlags := 26, nameIndex := 105, descriptorIndex := 106, attributes := #[] }, { accessFlags := 18, nameIndex := 22, descriptorIndex := 23, attributes := #[] }, { accessFlags := 18, nameIndex := 26, descriptorIndex := 27, attributes := #[] }, { accessFlags := 18, nameIndex := 35, descriptorIndex := 36, attributes := #[] }, { accessFlags := 18, nameIndex := 46, descriptorIndex := 27, attributes := #[] }])
  fields := #[{ name := "LARGEST_ARRAY_HEADER", type := .int, accessFlags := 26, slot := 0, constantValue := 0 }, { name := "LARGEST_ARRAY_WORDS", type := .int, accessFlags := 26, slot := 1, constantValue := 0 }, { name := "HEAP_REGIONS_PER_HEAD_REGION", type := .int, accessFlags := 26, slot := 2, constantValue := 0 }, { name := "PAGE_WORDS", type := .int, accessFlags := 24, slot := 3, constantValue := 0 }, { name := "PAGE_SHIFT", type := .int, accessFlags := 26, slot := 4, constantValue := 0 }, { name := "PAGE_SLOTS", type := .long, accessFlags := 24, slot := 5, constantValue := 0 }, { name := "SPARES_IN_PAGE", type := .int, accessFlags := 26, slot := 6, constantValue := 0 }, { name := "WORDS", type := (.object "java/lang/invoke/VarHandle"), accessFlags := 26, slot := 7, constantValue := 0 }, { name := "wordCount", type := .long, accessFlags := 18, slot := 0, constantValue := 0 }, { name := "head", type := (.array .long), accessFlags := 18, slot := 1, constantValue := 0 }, { name := "pages", type := (.array (.array .long)), accessFlags := 18, slot := 2, constantValue := 0 }, { name := "spares", type := (.array .long), accessFlags := 18, slot := 3, constantValue := 0 }]
  methods := #[k2m0]
  instanceTypes := #[.long, (.array .long), (.array (.array .long)), (.array .long)]
  staticTypes := #[.int, .int, .int, .int, .int, .long, .int, (.object "java/lang/invoke/VarHandle")]
  resolved := Array.replicate 205 none
  statics := none }

def pool3 : Array CpInfo := pool [(1, u "java/lang/Cloneable"), (0, .class_ 1), (0, u "java/lang/Object"), (0, .class_ 3)] 3

/-- java/lang/Cloneable -/
def k3 : Class := { plain "java/lang/Cloneable" (some 0) with
  accessFlags := 1537
  interfaces := #[]
  cf := some (fileOf pool3 2 #[] #[] 1537 4 #[] #[])
  fields := #[]
  methods := #[]
  instanceTypes := #[]
  staticTypes := #[]
  resolved := Array.replicate 8 none
  statics := none }

def pool4 : Array CpInfo := pool [(1, u "java/io/Serializable"), (0, .class_ 1), (0, u "java/lang/Object"), (0, .class_ 3)] 3

/-- java/io/Serializable -/
def k4 : Class := { plain "java/io/Serializable" (some 0) with
  accessFlags := 1537
  interfaces := #[]
  cf := some (fileOf pool4 2 #[] #[] 1537 4 #[] #[])
  fields := #[]
  methods := #[]
  instanceTypes := #[]
  staticTypes := #[]
  resolved := Array.replicate 8 none
  statics := none }

/-- the primitive byte -/
def k5 : Class := { plain "byte" none with kind := .primitive 'B', accessFlags := 0x411 }
/-- [B -/
def k6 : Class := { plain "[B" (some 0) with kind := .array 5 .byte, interfaces := #[3, 4], accessFlags := 1041 }

/-- the primitive int -/
def k7 : Class := { plain "int" none with kind := .primitive 'I', accessFlags := 0x411 }
/-- [I -/
def k8 : Class := { plain "[I" (some 0) with kind := .array 7 .int, interfaces := #[3, 4], accessFlags := 1041 }

def heap : Heap := #[]
def classes : Array Class := #[k0, k1, k2, k3, k4, k5, k6, k7, k8]
def interned : List (Array UInt16 × Addr) := []
def slotsUsed : Nat := 0
def theMethod : MethodId := ⟨1, 1⟩
def args0 : Array Value := #[.long 100, .int 7]
def aboutOver (below : List Frame) : State where
  vm := { classes := classes, interned := interned.toArray }
  heap := heap
  slotsUsed := slotsUsed
  threads := #[{ frames := .invoking theMethod args0 :: below }]
def below0 : List Frame := [.native { method := ⟨0, 0⟩, args := #[] }]
def about1 : State := aboutOver below0
def p0 : Program := .bare "" "" ""
def e0 : Env := launch0.env 0 0 0
theorem w_frames : about1.frames = Frame.invoking theMethod args0 :: below0 := rfl
set_option maxRecDepth 65536 in
theorem w_args : argsFit about1.vm theMethod args0 = true := by decide +kernel
set_option maxRecDepth 65536 in
theorem w_heap : heapFits about1 = true := by decide +kernel
set_option maxRecDepth 65536 in
theorem w_runnable : about1.curStatus? = some .runnable := by decide +kernel
set_option maxRecDepth 65536 in
theorem w_alone : about1.alone = true := by decide +kernel
set_option maxRecDepth 65536 in
theorem w_named : about1.methodNamed? x = some theMethod := by decide +kernel
set_option maxRecDepth 65536 in
theorem w_hears : about1.hears theMethod below0 = true := by decide +kernel
set_option maxRecDepth 65536 in
theorem w_ripe : about1.ripe theMethod args0 below0 = true := by decide +kernel
theorem w_running : about1.status = .running := rfl
set_option maxRecDepth 65536 in
theorem w_room : about1.hasRoom e0.platform room_1 = true :=
  launch0.hasRoom_least _ room_1 (by decide +kernel) (by decide +kernel) (by decide +kernel) (by decide +kernel) (by decide +kernel) (by decide +kernel)
theorem allAtoms_all (ts : List Jvm.Cond) (a : Array Jvm.Value) (st : Jvm.State) : (allAtoms ts).before a st = ts.all (fun c => c.before a st) := by
  induction ts with
  | nil => rfl
  | cons c t ih =>
    show (Jvm.Cond.and c (allAtoms t)).before a st = _
    rw [Jvm.Cond.before_and, ih, List.all_cons]
def words1 : List Jvm.Cond := Jvm.Cond.code x code maxLocals ret :: tables_1
/-- a 'code' word, met by the world's own term for the bytes: nothing is compared byte by byte -/
theorem code_word {y : MethodName} {bytes : ByteArray} {mx : Nat} {rt : Option FieldType} {a : Array Value} {s : State} {m : MethodId} {meth : Method} {c : Code} (h1 : s.methodNamed? y = some m) (h2 : s.vm.method? m = some meth) (h3 : meth.code = some c) (h4 : c.code = bytes)
    (h5 : (c.maxLocals == mx && c.exceptionTable.isEmpty && decide (c.maxStack ≤ mostOperands) && decide (meth.sig.returnType = rt) && !meth.locks && decide (parseMethodDescriptor y.desc = some meth.sig)) = true) : (Jvm.Cond.code y bytes mx rt).before a s = true := by
  simp only [Bool.and_eq_true, beq_iff_eq, Bool.not_eq_true', decide_eq_true_eq] at h5
  obtain ⟨⟨⟨⟨⟨g1, g2⟩, g3⟩, g4⟩, g5⟩, g6⟩ := h5
  simp [Cond.before, Cond.holds, Cond.value, h1, h2, h3, h4, g1, g2, g3, g4, g5, g6]
def isCode : Jvm.Cond → Bool
  | .code _ _ _ _ => true
  | _ => false
theorem all_split {L : List Jvm.Cond} {P : Jvm.Cond → Bool} (h1 : L.all (fun c => isCode c || P c) = true) (h2 : ∀ c ∈ L.filter isCode, P c = true) : L.all P = true := by
  refine List.all_eq_true.mpr fun c hc => ?_
  have h := List.all_eq_true.mp h1 c hc
  rcases Bool.eq_false_or_eq_true (isCode c) with hi | hi
  · exact h2 c (List.mem_filter.mpr ⟨hc, hi⟩)
  · simpa [hi] using h
set_option maxRecDepth 65536 in
theorem w_c0 : (Jvm.Cond.code x code maxLocals ret).before args0 about1 = true := code_word (m := ⟨1, 1⟩) (meth := k1m1) (c := k1c1) (by decide +kernel) rfl rfl rfl (by decide +kernel)
set_option maxRecDepth 65536 in
theorem w_c1 : (Jvm.Cond.code ({ cls := "com/example/hedger/hedger/WordArray", name := "wordCount", desc := "(JI)J" } : Jvm.MethodName) prog_26_method_7_code (3 : Nat) (Option.some Jvm.ClassFile.FieldType.long)).before args0 about1 = true := code_word (m := ⟨2, 0⟩) (meth := k2m0) (c := k2c0) (by decide +kernel) rfl rfl rfl (by decide +kernel)
def codes1 : List Jvm.Cond := [Jvm.Cond.code x code maxLocals ret, Jvm.Cond.code ({ cls := "com/example/hedger/hedger/WordArray", name := "wordCount", desc := "(JI)J" } : Jvm.MethodName) prog_26_method_7_code (3 : Nat) (Option.some Jvm.ClassFile.FieldType.long)]
set_option maxRecDepth 65536 in
theorem codes_eq : words1.filter isCode = codes1 := rfl
theorem w_codes : ∀ c ∈ words1.filter isCode, c.before args0 about1 = true := by
  rw [codes_eq]
  intro c hc
  simp only [codes1, List.mem_cons, List.not_mem_nil, or_false] at hc
  rcases hc with rfl | rfl
  · exact w_c0
  · exact w_c1
set_option maxRecDepth 65536 in
theorem w_t1 : words1.all (fun c => isCode c || c.before args0 about1) = true := by decide +kernel
theorem w_tables : (allAtoms (Jvm.Cond.code x code maxLocals ret :: tables_1)).before args0 about1 = true := by
  rw [allAtoms_all]
  show words1.all (fun c => c.before args0 about1) = true
  refine all_split ?_ w_codes
  rw [w_t1]
set_option maxRecDepth 65536 in
theorem w_case : (Jvm.Cond.and given_1 narrow_1).before args0 about1 = true := by decide +kernel
theorem w_applies : (headSpec (Jvm.Cond.code x code maxLocals ret :: tables_1) room_1).applies x e0.platform about1 = true :=
  (Spec.applies_iff w_frames).mpr ⟨w_running, w_runnable, w_alone, w_named, w_hears, w_ripe, w_room, w_tables⟩
theorem atStart : AtStart classFile x code maxLocals ret World_1 tables_1 room_1 Calls_1 rest_1 Pre_1 launch0 p0 e0 about1 theMethod args0 below0 :=
  ⟨lists_1, trivial, launch0.admits_env _ _ _, launch0.least_env, fairChoices_fair.cas, fairChoices_fair.clock, w_frames, w_args, w_heap, w_applies, trivial, trivial, w_case⟩
end start1
theorem witness_1 : WitnessClaimed_1 := ⟨start1.p0, start1.e0, start1.about1, start1.theMethod, start1.args0, start1.below0, start1.atStart⟩
end Jvm.Pilot.@@N@@
