import JvmDerived
import JvmDerived.Pilot.@@N@@Statement
import JvmDerived.Pilot.@@N@@Code
set_option linter.unusedVariables false
set_option linter.unusedSimpArgs false
@@BLOCK:NumsL.lean.txt@@
namespace Jvm.RoadKit
open Sem ClassFile Op Lib Jvm.Stand Jvm.Free Jvm.LawKit
section Own
variable {p : Program} {l : Launch} {e : Env} {R : Room} {s : State} {m : MethodId} {args : Array Value} {below : List Frame} {meth : Method} {c : Code} {T : State} {locs : List Loc} {cells slots : Nat} {Z : State} {h h' : Heap} {a b : Addr} {ty : FieldType} {vs : List Value} {cl : Cell} {sl : Nat} {v : Value} {ws : List Addr}
theorem mw {α : Type} {x : α} {L : List α} (i : Nat) (q : L[i]? = some x) : x ∈ L := List.mem_of_getElem? q
/-- from A the body comes to its end, and Q holds there -/
def Goal (p : Program) (e : Env) (below : List Frame) (s : State) (Q : Option Value → Heap → List Loc → Prop) (k n : Nat) (A : State) : Prop :=
  ∃ s₂ o, Steps p.tables e below A s₂ ∧ s₂.status = .running ∧ Ended s₂ below o ∧ ∃ v L, o = .returned v ∧ Q v s₂.heap L ∧ FrameEnd s o s₂ L k n
variable {Q : Option Value → Heap → List Loc → Prop} {k n : Nat} {A B : State}
theorem Goal.to (f : ∀ t, Steps p.tables e below B t → Steps p.tables e below A t) (g : Goal p e below s Q k n B) : Goal p e below s Q k n A := by
  obtain ⟨s₂, o, h1, r⟩ := g
  exact ⟨s₂, o, f _ h1, r⟩
theorem Goal.tr (f : Steps p.tables e below A B) (g : Goal p e below s Q k n B) : Goal p e below s Q k n A := Goal.to (fun t q => f.trans q) g
theorem Goal.retV (X : Stand p l e R s m args below meth c T locs cells slots) (hx : p.tables.exec = Jvm.exec) {pc : Nat} {Ls : Array Slot} {w : Value} {t : FieldType} {i : Instr} {rest : List Value} (hret : meth.sig.returnType = some t) (hn : narrow t w = w)
    (hi : (i = .ireturn ∧ (t = .int ∨ t = .boolean ∨ t = .byte ∨ t = .char ∨ t = .short) ∧ ∃ z, w = .int z) ∨ (i = .lreturn ∧ t = .long ∧ ∃ z, w = .long z) ∨ (i = .dreturn ∧ t = .double ∧ ∃ z, w = .double z) ∨ (i = .freturn ∧ t = .float ∧ ∃ z, w = .float z) ∨ (i = .areturn ∧ t.isReference = true ∧ w.isRef = true))
    (hd : decode c.code pc = .ok (i, 1)) (hlk : meth.locks = false) (eT : T.heap = h) (hq : Q (some w) h locs) (hc : cells ≤ k) (hs : slots ≤ n) : Goal p e below s Q k n (T.setTop (mkF m pc Ls (w :: rest))) := by
  obtain ⟨fs, hr, hrun, hended, hW, hsame⟩ := X.leave (v := some w) (fun h => by rw [hret] at h; cases h) hlk
  refine ⟨_, _, retOut X hx hret hn hi hd hr, hrun, hended, _, _, rfl, ?_, ⟨_, rfl⟩, hW, hsame.mono hc hs⟩
  show Q (some w) T.heap locs
  rw [eT]; exact hq
theorem Goal.retN (X : Stand p l e R s m args below meth c T locs cells slots) (hx : p.tables.exec = Jvm.exec) {pc : Nat} {Ls : Array Slot} (hret : meth.sig.returnType = none)
    (hd : decode c.code pc = .ok (.return_, 1)) (hlk : meth.locks = false) (eT : T.heap = h) (hq : Q none h locs) (hc : cells ≤ k) (hs : slots ≤ n) : Goal p e below s Q k n (T.setTop (mkF m pc Ls [])) := by
  obtain ⟨fs, hr, hrun, hended, hW, hsame⟩ := X.leave (v := none) (fun _ => rfl) hlk
  refine ⟨_, _, X.returnOut hx hret hd hr, hrun, hended, _, _, rfl, ?_, ⟨_, rfl⟩, hW, hsame.mono hc hs⟩
  show Q none T.heap locs
  rw [eT]; exact hq
/-- the same, with the wide end: texts may have been interned -/
def GoalW (p : Program) (e : Env) (below : List Frame) (s : State) (Q : Option Value → Heap → List Loc → Prop) (k n : Nat) (A : State) : Prop :=
  ∃ s₂ o, Steps p.tables e below A s₂ ∧ s₂.status = .running ∧ Ended s₂ below o ∧ ∃ v L, o = .returned v ∧ Q v s₂.heap L ∧ ReturnedEndW s o s₂ L k n
theorem GoalW.to (f : ∀ t, Steps p.tables e below B t → Steps p.tables e below A t) (g : GoalW p e below s Q k n B) : GoalW p e below s Q k n A := by
  obtain ⟨s₂, o, h1, r⟩ := g
  exact ⟨s₂, o, f _ h1, r⟩
theorem GoalW.tr (f : Steps p.tables e below A B) (g : GoalW p e below s Q k n B) : GoalW p e below s Q k n A := GoalW.to (fun t q => f.trans q) g
theorem GoalW.retV {vm0 : Vm} (X : Stand p l e R (s.setVm vm0) m args below meth c T locs cells slots) {k0 : Nat} (hS : s.Since vm0 k0) (hx : p.tables.exec = Jvm.exec) {pc : Nat} {Ls : Array Slot} {w : Value} {t : FieldType} {i : Instr} {rest : List Value} (hret : meth.sig.returnType = some t) (hn : narrow t w = w)
    (hi : (i = .ireturn ∧ (t = .int ∨ t = .boolean ∨ t = .byte ∨ t = .char ∨ t = .short) ∧ ∃ z, w = .int z) ∨ (i = .lreturn ∧ t = .long ∧ ∃ z, w = .long z) ∨ (i = .dreturn ∧ t = .double ∧ ∃ z, w = .double z) ∨ (i = .freturn ∧ t = .float ∧ ∃ z, w = .float z) ∨ (i = .areturn ∧ t.isReference = true ∧ w.isRef = true))
    (hd : decode c.code pc = .ok (i, 1)) (hlk : meth.locks = false) (eT : T.heap = h) (hk : k0 ≤ h.size) (hq : Q (some w) h locs) (hc : cells ≤ k) (hs : slots ≤ n) : GoalW p e below s Q k n (T.setTop (mkF m pc Ls (w :: rest))) := by
  obtain ⟨fs, hr, hrun, hended, e1, e2, e3, e4⟩ := X.leaveW hS (by rw [eT]; exact hk) (v := some w) (fun h => by rw [hret] at h; cases h) hlk
  refine ⟨_, _, retOut X hx hret hn hi hd hr, hrun, hended, _, _, rfl, ?_, e1, e2, e3, e4.mono hc hs⟩
  show Q (some w) T.heap locs
  rw [eT]; exact hq
theorem nar01 {z : Int32} (q : z = 0 ∨ z = 1) : narrow .boolean (.int z) = .int z := by rcases q with rfl | rfl <;> rfl
theorem catV {r : Value} (q : r.isRef = true) : r.category = 1 := by rcases ref_cases q with rfl | ⟨o, rfl⟩ <;> rfl
theorem catR {o : Addr} : (Value.ref o).category = 1 := rfl
theorem catI {z : Int32} : (Value.int z).category = 1 := rfl
theorem catJ {z : Int64} : (Value.long z).category = 2 := rfl
theorem catN : Value.null.category = 1 := rfl
theorem narV {r : Value} {C : String} (q : r.isRef = true) : narrow (.object C) r = r := by rcases ref_cases q with rfl | ⟨o, rfl⟩ <;> rfl
theorem fitV {r : Value} {C : String} (q : r.isRef = true) : fits (.object C) r = true := by rcases ref_cases q with rfl | ⟨o, rfl⟩ <;> rfl
theorem selP {a0 : Array Value} {y : MethodName} {n : Nat} (hZ : Z.Warmed39 s.vm) (hins : (Cond.instantiable y.cls n).before a0 Z = true) (hp : (Cond.privateMethod y).before a0 Z = true) (hi : (Cond.instanceMethod y).before a0 Z = true) (hy : y.cls ≠ "java/lang/invoke/MethodHandle" ∧ y.cls ≠ "java/lang/invoke/VarHandle") : (Cond.selects y.cls y y).before args s = true := by
  obtain ⟨c, k, hc, hk, -, hniab, -, -⟩ := Cond.instantiable_spec (mv (args := args) hZ hins)
  exact selects_self_of_private hc hk (Bool.or_eq_false_iff.mp hniab).1 (Cond.privateMethod_at (mvP (args := args) hZ hp)) (mv hZ hi) hy
theorem Fld.cast {C n d : String} {w : Value} (F : Fld Z h a C n d v) (q : v = w) : Fld Z h a C n d w := q ▸ F
/-- an array of the heap by the whole list of what it holds -/
def Ary (Z : State) (h : Heap) (a : Addr) (ty : FieldType) (vs : List Value) : Prop := ∃ cl : Cell, Arr Z h a cl ty ∧ cl.slots.toList = vs
theorem Ary.cast {ws : List Value} (F : Ary Z h a ty vs) (q : vs = ws) : Ary Z h a ty ws := q ▸ F
theorem Ary.lt (F : Ary Z h a ty vs) : a < h.size := by obtain ⟨cl, A, -⟩ := F; exact A.lt
theorem Ary.ext (F : Ary Z h a ty vs) (E : Ext h h') : Ary Z h' a ty vs := by obtain ⟨cl, A, r⟩ := F; exact ⟨cl, A.ext E, r⟩
theorem Ary.other (F : Ary Z h a ty vs) (W : Wr h h' b sl v) (q : a ≠ b) : Ary Z h' a ty vs := by obtain ⟨cl, A, r⟩ := F; exact ⟨cl, A.other W q, r⟩
theorem Ary.keep (F : Ary Z h a ty vs) (K : Keep h h' ws) (q : a ∉ ws) : Ary Z h' a ty vs := by obtain ⟨cl, A, r⟩ := F; exact ⟨cl, ⟨K.2.1 a cl A.1 q, A.2⟩, r⟩
theorem Ary.new {k : ClassId} {z : Int32} {N : Nat} (A : Arr Z h a (newA k ty z) ty) (hz : z.toNatClampNeg = N) : Ary Z h a ty (List.replicate N (defaultValue ty)) := ⟨_, A, by simp [newA, hz]⟩
theorem Ary.put {j : Nat} {N : Nat} (A : Arr Z h a cl ty) (S : cl.slots.toList = vs) (W : Wr h h' a j v) (q : j = N) : Ary Z h' a ty (vs.set N v) := ⟨_, A.same W, by subst q; simp [Cell.setSlot, S]⟩
theorem sizeA (S : cl.slots.toList = vs) : cl.slots.size = vs.length := by rw [← S]; simp
theorem inA {j : Int32} (S : cl.slots.toList = vs) (q : ¬ j < 0) (r : j.toNatClampNeg < vs.length) : ¬ (j < 0 ∨ cl.slots.size ≤ j.toNatClampNeg) := by rw [sizeA S]; intro u; rcases u with u | u; exact q u; exact absurd r (Nat.not_lt.mpr u)
theorem atA {j : Nat} (S : cl.slots.toList = vs) (q : vs[j]? = some v) : cl.slots[j]? = some v := by rw [← q, ← S]; simp
theorem lenA {z : Int32} (S : cl.slots.toList = vs) (q : vs.length.toInt32 = z) : cl.slots.size.toInt32 = z := by rw [sizeA S]; exact q
/-- a static that stood when the law began, and what it holds -/
def StaN (Z : State) (n0 : Nat) (h : Heap) (C n d : String) (v : Value) : Prop := ∃ (cf i : Nat) (k : Class) (f : Field) (st : Addr) (cell : Cell), Z.fieldFound? C n d = some (cf, k, i, f) ∧ f.isStatic = true ∧ k.init = .initialized ∧ k.statics = some st ∧ h[st]? = some cell ∧ cell.vm.isStatics = true ∧ cell.slots[f.slot]? = some v ∧ st < n0
section StaN
variable {C nm d : String} {n0 : Nat}
theorem StaN.sta (F : StaN Z n0 h C nm d v) : Sta Z h C nm d v := by obtain ⟨cf, i, k, f, st, cell, h1, h2, h3, h4, h5, h6, h7, -⟩ := F; exact ⟨cf, i, k, f, st, cell, h1, h2, h3, h4, h5, h6, h7⟩
theorem Sta.toN (F : Sta Z h C nm d v) : StaN Z h.size h C nm d v := by obtain ⟨cf, i, k, f, st, cell, h1, h2, h3, h4, h5, h6, h7⟩ := F; exact ⟨cf, i, k, f, st, cell, h1, h2, h3, h4, h5, h6, h7, (Array.getElem?_eq_some_iff.mp h5).1⟩
theorem StaN.ext (F : StaN Z n0 h C nm d v) (E : Ext h h') : StaN Z n0 h' C nm d v := by obtain ⟨cf, i, k, f, st, cell, h1, h2, h3, h4, h5, r⟩ := F; exact ⟨cf, i, k, f, st, cell, h1, h2, h3, h4, E.2 _ _ h5, r⟩
theorem StaN.keep (F : StaN Z n0 h C nm d v) (K : Keep h h' ws) (q : ∀ x ∈ ws, n0 ≤ x) : StaN Z n0 h' C nm d v := by
  obtain ⟨cf, i, k, f, st, cell, h1, h2, h3, h4, h5, h6, h7, h8⟩ := F
  exact ⟨cf, i, k, f, st, cell, h1, h2, h3, h4, K.2.1 _ _ h5 (fun z => absurd h8 (Nat.not_lt.mpr (q _ z))), h6, h7, h8⟩
theorem StaN.wr {w : Value} (F : StaN Z n0 h C nm d v) (W : Wr h h' a sl w) : StaN Z n0 h' C nm d v := by
  obtain ⟨cf, i, k, f, st, cell, h1, h2, h3, h4, h5, h6, h7, h8⟩ := F
  obtain ⟨c', e1, -, -, -, e5, -, e7⟩ := wr_at W h5
  have ne : st ≠ a := fun e => by rw [(e7 e).2.2] at h6; cases h6
  exact ⟨cf, i, k, f, st, cell, h1, h2, h3, h4, by rw [← e5 ne]; exact e1, h6, h7, h8⟩
end StaN
/-- what may lie in an array of objects of class C (of arrays of class C) -/
def OvrO (Z : State) (h : Heap) (a : Addr) (C : String) : Prop := ∃ cl : Cell, h[a]? = some cl ∧ Ovr Z cl.cls C
theorem OvrO.ext {C : String} (F : OvrO Z h a C) (E : Ext h h') : OvrO Z h' a C := by obtain ⟨cl, h1, r⟩ := F; exact ⟨cl, E.2 _ _ h1, r⟩
theorem OvrO.wr {C : String} (F : OvrO Z h a C) (W : Wr h h' b sl v) : OvrO Z h' a C := by obtain ⟨cl, h1, r⟩ := F; obtain ⟨c', e1, e2, -⟩ := wr_at W h1; exact ⟨c', e1, by rw [e2]; exact r⟩
theorem OvrO.keep {C : String} (F : OvrO Z h a C) (K : Keep h h' ws) : OvrO Z h' a C := by obtain ⟨cl, h1, r⟩ := F; obtain ⟨c', e1, e2, -⟩ := K.2.2 _ _ h1; exact ⟨c', e1, by rw [e2]; exact r⟩
theorem stoO {C : String} {y : Addr} (A : Arr Z h a cl ty) (O : OvrO Z h a C) (I : Ins Z h y C true) : Sto Z h a (.ref y) := by
  obtain ⟨c', h1, r⟩ := O
  cases A.1.symm.trans h1
  exact Sto.of A r I
def OvrB (Z : State) (h : Heap) (a : Addr) (C : String) : Prop := ∃ (cl : Cell) (t : FieldType), h[a]? = some cl ∧ OvrA Z cl.cls t C
theorem OvrB.ext {C : String} (F : OvrB Z h a C) (E : Ext h h') : OvrB Z h' a C := by obtain ⟨cl, t, h1, r⟩ := F; exact ⟨cl, t, E.2 _ _ h1, r⟩
theorem OvrB.wr {C : String} (F : OvrB Z h a C) (W : Wr h h' b sl v) : OvrB Z h' a C := by obtain ⟨cl, t, h1, r⟩ := F; obtain ⟨c', e1, e2, -⟩ := wr_at W h1; exact ⟨c', t, e1, by rw [e2]; exact r⟩
theorem OvrB.keep {C : String} (F : OvrB Z h a C) (K : Keep h h' ws) : OvrB Z h' a C := by obtain ⟨cl, t, h1, r⟩ := F; obtain ⟨c', e1, e2, -⟩ := K.2.2 _ _ h1; exact ⟨c', t, e1, by rw [e2]; exact r⟩
theorem stoB {C : String} {y : Addr} (A : Arr Z h a cl ty) (O : OvrB Z h a C) (I : Ins Z h y C true) : Sto Z h a (.ref y) := by
  obtain ⟨c', t, h1, r⟩ := O
  cases A.1.symm.trans h1
  exact Sto.ofVA A rfl r I
theorem fits_nil : ∀ w ∈ ([] : List Value), fits ty w = true := fun _ q => nomatch q
theorem fits_cons (q : fits ty v = true) (r : ∀ w ∈ vs, fits ty w = true) : ∀ w ∈ v :: vs, fits ty w = true := fun w z => (List.mem_cons.mp z).elim (fun u => u ▸ q) (r w)
theorem Ary.arv {dv : Value} {z : Int32} (F : Ary Z h a ty vs) (hz : z.toNatClampNeg = vs.length) (h0 : ¬ z < 0) (hf : ∀ w ∈ vs, fits ty w = true) : ∃ k, Arv Z h a k ty z vs dv := by
  obtain ⟨cl, A, S⟩ := F
  have sz : cl.slots.size = vs.length := sizeA S
  refine ⟨_, cl, A, rfl, sz.trans hz.symm, h0, fun i hi => ?_, fun i hi => ?_⟩
  · rw [sz] at hi
    refine atA S ?_
    rw [List.getD_eq_getElem?_getD, List.getElem?_eq_getElem hi]; rfl
  · rw [sz] at hi
    rw [List.getD_eq_getElem?_getD, List.getElem?_eq_getElem hi]
    exact hf _ (List.getElem_mem hi)
theorem Arv.ary {k : ClassId} {z : Int32} {dv : Value} (F : Arv Z h a k ty z vs dv) (hz : z.toNatClampNeg = vs.length) : Ary Z h a ty vs := by
  obtain ⟨cl, A, -, S, -, H, -⟩ := F
  refine ⟨cl, A, List.ext_getElem? fun i => ?_⟩
  by_cases hi : i < cl.slots.size
  · have q := H i hi
    have hv : i < vs.length := by omega
    rw [List.getD_eq_getElem?_getD, List.getElem?_eq_getElem hv] at q
    rw [List.getElem?_eq_getElem hv, Array.getElem?_toList]; exact q
  · rw [List.getElem?_eq_none (by simp; omega), List.getElem?_eq_none (by omega)]
theorem storeV {Ls : Array Slot} {i : Nat} {r : Value} {o : Slot} {l' : Array Slot} (q : r.isRef = true) (ho : o = .unset ∨ ∃ w, o = .val w ∧ w.category = 1) (hold : Ls[i]? = some o := by rfl) (hl : Ls.setIfInBounds i (.val r) = l' := by rfl) : storeLocals Ls i r = some l' := by
  rw [← hl]; exact XS.store1 hold ho (catV q)
end Own
end Jvm.RoadKit
namespace Jvm.Pilot.@@N@@
open Jvm Jvm.ClassFile Sem Op Lib Jvm.Free Jvm.Stand Jvm.LawKit Jvm.RoadKit Bundle Jvm.Pilot.@@N@@.Jvm.D
theorem own_if (P : Prop) [Decidable P] : (if P then (1 : Int32) else (0 : Int32)) = 0 ∨ (if P then (1 : Int32) else (0 : Int32)) = 1 := by
  by_cases h : P
  · exact Or.inr (if_pos h)
  · exact Or.inl (if_neg h)
theorem own_i (x : Int32) : B53 x.toInt64 := by
  have e := Jvm.Kit.i64_of_i32 x
  have a := x.toInt_lt
  have b := x.le_toInt
  exact ⟨by rw [e]; omega, by rw [e]; omega⟩
theorem own_lo (x : Int32) : (x.toInt64 - (1 : Int64)).toInt = x.toInt - 1 := by
  have e := Jvm.Kit.i64_of_i32 x
  have a := x.toInt_lt
  have b := x.le_toInt
  have e1 : (1 : Int64).toInt = 1 := rfl
  rw [Jvm.Kit.i64_sub (by rw [e, e1]; omega) (by rw [e, e1]; omega), e, e1]
theorem own_hi (x : Int32) : (x.toInt64 + (1 : Int64)).toInt = x.toInt + 1 := by
  have e := Jvm.Kit.i64_of_i32 x
  have a := x.toInt_lt
  have b := x.le_toInt
  have e1 : (1 : Int64).toInt = 1 := rfl
  rw [Jvm.Kit.i64_add (by rw [e, e1]; omega) (by rw [e, e1]; omega), e, e1]
theorem own_bl (x : Int32) : B53 (x.toInt64 - (1 : Int64)) := by
  have a := x.toInt_lt
  have b := x.le_toInt
  exact ⟨by rw [own_lo]; omega, by rw [own_lo]; omega⟩
theorem own_bh (x : Int32) : B53 (x.toInt64 + (1 : Int64)) := by
  have a := x.toInt_lt
  have b := x.le_toInt
  exact ⟨by rw [own_hi]; omega, by rw [own_hi]; omega⟩
theorem own_gt (x y : Int32) : (0 : Int32) < lcmpW x.toInt64 y.toInt64 ↔ y < x := by rw [lw_gt, Int64.lt_iff_toInt_lt, Int32.lt_iff_toInt_lt, Jvm.Kit.i64_of_i32, Jvm.Kit.i64_of_i32]
theorem own_lt (x y : Int32) : lcmpW x.toInt64 y.toInt64 < (0 : Int32) ↔ x < y := by rw [lw_lt, Int64.lt_iff_toInt_lt, Int32.lt_iff_toInt_lt, Jvm.Kit.i64_of_i32, Jvm.Kit.i64_of_i32]
theorem own_gl (x : Int32) : ¬ (0 : Int32) < lcmpW (x.toInt64 - (1 : Int64)) x.toInt64 := by rw [lw_gt, Int64.lt_iff_toInt_lt, own_lo, Jvm.Kit.i64_of_i32]; omega
theorem own_gh (x : Int32) : (0 : Int32) < lcmpW (x.toInt64 + (1 : Int64)) x.toInt64 := by rw [lw_gt, Int64.lt_iff_toInt_lt, own_hi, Jvm.Kit.i64_of_i32]; omega
theorem own_ll (x : Int32) : lcmpW (x.toInt64 - (1 : Int64)) x.toInt64 < (0 : Int32) := by rw [lw_lt, Int64.lt_iff_toInt_lt, own_lo, Jvm.Kit.i64_of_i32]; omega
theorem own_lh (x : Int32) : ¬ lcmpW (x.toInt64 + (1 : Int64)) x.toInt64 < (0 : Int32) := by rw [lw_lt, Int64.lt_iff_toInt_lt, own_hi, Jvm.Kit.i64_of_i32]; omega
theorem own_01 (P : Prop) [Decidable P] : (if P then (0 : Int32) else (1 : Int32)) = 0 ∨ (if P then (0 : Int32) else (1 : Int32)) = 1 := by
  by_cases h : P
  · exact Or.inl (if_pos h)
  · exact Or.inr (if_neg h)
theorem ef_2 (m : MethodId) (x0 : Addr)  : entryFrame m #[(.ref x0)] 1 = mkF m 0 #[.val (.ref x0)] [] := by first | (simp [entryFrame, mkF, argsToLocals, Value.category]; done) | rfl
theorem pn_2 : plainName "java/lang/Record" = true := by first | (simp [plainName, overriddenIn]; done) | decide +kernel
theorem d2_0 : decode jdk_30_method_1_code 0 = .ok (.aload_n 0, 1) := by decide +kernel
theorem d2_1 : decode jdk_30_method_1_code 1 = .ok (.invokespecial 1, 3) := by decide +kernel
theorem d2_4 : decode jdk_30_method_1_code 4 = .ok (.return_, 1) := by decide +kernel
def QR (Z : State) (va : Addr) (h0 : Heap) (n0 : Nat) (v : Option Value) (h : Heap) (L : List Loc) : Prop := v = none ∧ Fr n0 L ∧ h = h0
set_option maxRecDepth 65536 in
set_option maxHeartbeats 40000000 in
theorem rmR (l : Launch) (Z : State) (a0 : Array Value) (hw : ∀ d ∈ tables_1, d.before a0 Z = true) (ws : List Jvm.Cond) (va : Addr) (h0 : Heap) (n0 : Nat) (Z0 : n0 ≤ h0.size) :
    MetFree l (⟨"java/lang/Record", "<init>", "()V"⟩ : MethodName) (head1 (Jvm.Cond.code (⟨"java/lang/Record", "<init>", "()V"⟩ : MethodName) jdk_30_method_1_code 1 none :: ws) ({ frames := 1, cells := 0, slots := 0, locals := 12 } : Room)) (fun a U => a = #[(.ref va)] ∧ Z.Warmed39 U.vm ∧ U.heap = h0) (fun _ _ _ _ _ => True) (fun _ U o U' => ∃ v L, o = .returned v ∧ QR Z va h0 n0 v U'.heap L ∧ FrameEnd U o U' L 0 0) := by
  refine MetFree.of_bodySF (plainFor_of_name pn_2) hisR ?_
  intro p e s m args below meth c s₁ Bd hml0 hP hK
  obtain ⟨rfl, hZ, hh⟩ := hP
  have hx := Bd.exec
  have hby := Bd.bytes
  have hml : c.maxLocals = 1 := hml0
  have hown : s.vm.findClass "java/lang/Record" = some m.cls := findClass_of_methodNamed Bd.named
  have hnm := (name_of_methodNamed Bd.named Bd.method).1
  have X0 : Stand p l e ({ frames := 1, cells := 0, slots := 0, locals := 12 } : Room) s m #[(.ref va)] below meth c s₁ [] 0 0 := Stand.of_body Bd
  have e0 : s₁.heap = h0 := by rw [← hh, Bd.state]; rfl
  have N0 := Fr.nil n0
  have hlk : meth.locks = false := BodyLoose.notSynchronized Bd
  show Goal p e below s (QR Z va h0 n0) 0 0 (s₁.setTop (entryFrame m #[(.ref va)] 1))
  refine Goal.to (B := s₁.setTop (mkF m 0 #[.val (.ref va)] [])) (fun tt kk => castTop (ef_2 m va ) kk) ?_
  refine Goal.to (B := s₁.setTop (mkF m 1 #[.val (.ref va)] [(.ref va)])) (fun tt kk => ?_) ?_
  · show Steps p.tables e below (s₁.setTop (mkF m 0 #[.val (.ref va)] [])) tt
    refine XS.aloadN X0.here hx rfl (hb hby d2_0) rfl rfl ?_
    exact kk
  obtain ⟨T1, X1, e1, st1⟩ := initO X0 hx hZ hown (hw _ (mw 19 rfl)) (hw _ (mw 20 rfl)) (hw _ (mw 21 rfl)) e0 (g := (mkF m 1 #[.val (.ref va)] [(.ref va)])) rfl (by rw [hml]; rfl) rfl (hb hby d2_1) (by decide) (W := 0) (by show 2 * 0 + _ ≤ _; exact Nat.le_of_eq rfl) (by decide)
  refine Goal.to (B := T1.setTop (mkF m 4 #[.val (.ref va)] [])) st1 ?_
  exact Goal.retN X1 hx Bd.returns (hb hby d2_4) hlk e1 ⟨rfl, N0, rfl⟩ (by decide) (by decide)
theorem ef_1 (m : MethodId) (x0 : Addr) (x1 : Addr) (x2 : UInt64) (x3 : Int32)  : entryFrame m #[(.ref x0), (.ref x1), (.double x2), (.int x3)] 5 = mkF m 0 #[.val (.ref x0), .val (.ref x1), .val (.double x2), .second, .val (.int x3)] [] := by first | (simp [entryFrame, mkF, argsToLocals, Value.category]; done) | rfl
theorem pn_1 : plainName "com/example/purloin/measure/Bar" = true := by first | (simp [plainName, overriddenIn]; done) | decide +kernel
theorem d1_0 : decode prog_33_method_1_code 0 = .ok (.aload_n 0, 1) := by decide +kernel
theorem pd_1 : parseMethodDescriptor "()V" = some ⟨[], none⟩ := by decide +kernel
theorem d1_1 : decode prog_33_method_1_code 1 = .ok (.invokespecial 1, 3) := by decide +kernel
theorem d1_4 : decode prog_33_method_1_code 4 = .ok (.aload_n 0, 1) := by decide +kernel
theorem d1_5 : decode prog_33_method_1_code 5 = .ok (.aload_n 1, 1) := by decide +kernel
theorem d1_6 : decode prog_33_method_1_code 6 = .ok (.putfield 7, 3) := by decide +kernel
theorem d1_9 : decode prog_33_method_1_code 9 = .ok (.aload_n 0, 1) := by decide +kernel
theorem d1_10 : decode prog_33_method_1_code 10 = .ok (.dload_n 2, 1) := by decide +kernel
theorem d1_11 : decode prog_33_method_1_code 11 = .ok (.putfield 13, 3) := by decide +kernel
theorem d1_14 : decode prog_33_method_1_code 14 = .ok (.aload_n 0, 1) := by decide +kernel
theorem d1_15 : decode prog_33_method_1_code 15 = .ok (.iload 4, 2) := by decide +kernel
theorem d1_17 : decode prog_33_method_1_code 17 = .ok (.putfield 17, 3) := by decide +kernel
theorem d1_20 : decode prog_33_method_1_code 20 = .ok (.return_, 1) := by decide +kernel
def QN0 (Z : State) (va : Addr) (vt : Addr) (dl : UInt64) (h0 : Heap) (n0 : Nat) (v : Option Value) (h : Heap) (L : List Loc) : Prop := v = none ∧ Fr n0 L ∧ Keep h0 h [va] ∧ Fld Z h va "com/example/purloin/measure/Bar" "text" "Ljava/lang/String;" (.ref vt) ∧ Fld Z h va "com/example/purloin/measure/Bar" "limit" "D" (.double dl) ∧ Fld Z h va "com/example/purloin/measure/Bar" "upper" "Z" (.int (0 : Int32))
set_option maxRecDepth 65536 in
set_option maxHeartbeats 40000000 in
theorem rmN0 (l : Launch) (Z : State) (a0 : Array Value) (hw : ∀ d ∈ tables_1, d.before a0 Z = true) (ws : List Jvm.Cond) (va : Addr) (vt : Addr) (dl : UInt64) (h0 : Heap) (n0 : Nat) (Z0 : n0 ≤ h0.size) (E_va : Exa Z h0 va "com/example/purloin/measure/Bar") (F_text_va : Fld Z h0 va "com/example/purloin/measure/Bar" "text" "Ljava/lang/String;" .null) (F_limit_va : Fld Z h0 va "com/example/purloin/measure/Bar" "limit" "D" (.double (0 : UInt64))) (F_upper_va : Fld Z h0 va "com/example/purloin/measure/Bar" "upper" "Z" (.int (0 : Int32))) (g_va : n0 ≤ va) :
    MetFree l (⟨"com/example/purloin/measure/Bar", "<init>", "(Ljava/lang/String;DZ)V"⟩ : MethodName) (head1 (Jvm.Cond.code (⟨"com/example/purloin/measure/Bar", "<init>", "(Ljava/lang/String;DZ)V"⟩ : MethodName) prog_33_method_1_code 5 none :: ws) ({ frames := 2, cells := 0, slots := 0, locals := 24 } : Room)) (fun a U => a = #[(.ref va), (.ref vt), (.double dl), (.int (0 : Int32))] ∧ Z.Warmed39 U.vm ∧ U.heap = h0) (fun _ _ _ _ _ => True) (fun _ U o U' => ∃ v L, o = .returned v ∧ QN0 Z va vt dl h0 n0 v U'.heap L ∧ FrameEnd U o U' L 0 0) := by
  refine MetFree.of_bodySF (plainFor_of_name pn_1) hisR ?_
  intro p e s m args below meth c s₁ Bd hml0 hP hK
  obtain ⟨rfl, hZ, hh⟩ := hP
  have hx := Bd.exec
  have hby := Bd.bytes
  have hml : c.maxLocals = 5 := hml0
  have hown : s.vm.findClass "com/example/purloin/measure/Bar" = some m.cls := findClass_of_methodNamed Bd.named
  have hnm := (name_of_methodNamed Bd.named Bd.method).1
  have X0 : Stand p l e ({ frames := 2, cells := 0, slots := 0, locals := 24 } : Room) s m #[(.ref va), (.ref vt), (.double dl), (.int (0 : Int32))] below meth c s₁ [] 0 0 := Stand.of_body Bd
  have e0 : s₁.heap = h0 := by rw [← hh, Bd.state]; rfl
  have N0 := Fr.nil n0
  have hlk : meth.locks = false := BodyLoose.notSynchronized Bd
  show Goal p e below s (QN0 Z va vt dl h0 n0) 0 0 (s₁.setTop (entryFrame m #[(.ref va), (.ref vt), (.double dl), (.int (0 : Int32))] 5))
  refine Goal.to (B := s₁.setTop (mkF m 0 #[.val (.ref va), .val (.ref vt), .val (.double dl), .second, .val (.int (0 : Int32))] [])) (fun tt kk => castTop (ef_1 m va vt dl (0 : Int32) ) kk) ?_
  refine Goal.to (B := s₁.setTop (mkF m 1 #[.val (.ref va), .val (.ref vt), .val (.double dl), .second, .val (.int (0 : Int32))] [(.ref va)])) (fun tt kk => ?_) ?_
  · show Steps p.tables e below (s₁.setTop (mkF m 0 #[.val (.ref va), .val (.ref vt), .val (.double dl), .second, .val (.int (0 : Int32))] [])) tt
    refine XS.aloadN X0.here hx rfl (hb hby d1_0) rfl rfl ?_
    exact kk
  obtain ⟨_, _, ⟨T1, L1, k1, n1⟩, -, X1, ⟨Lc1, hQ1, l1, y1, z1⟩, st1⟩ := X0.specialBack hx (y := (⟨"java/lang/Record", "<init>", "()V"⟩ : MethodName)) rfl hown (mvT hZ (hw _ (mw 14 rfl))) (mvT hZ (hw _ (mw 15 rfl))) (mvT hZ (hw _ (mw 18 rfl))) (by decide) (backOf (W := 0) (rmR l Z a0 hw [] va h0 n0 Z0 ) hZ (hw _ (mw 18 rfl)) (hw _ (mw 17 rfl)) (by decide) (by decide)) (g := (mkF m 1 #[.val (.ref va), .val (.ref vt), .val (.double dl), .second, .val (.int (0 : Int32))] [(.ref va)])) rfl (by rw [hml]; rfl) (Steps.refl _) (a := va) (argsL := []) (rest := []) (lenOf pd_1 rfl) rfl (by show 2 * 0 + _ ≤ _; exact Nat.le_of_eq rfl) (hb hby d1_1) (fun _ _ => ⟨rfl, e0, (by decide : 0 + 0 ≤ _), (by decide : 0 + 0 ≤ _)⟩)
  dsimp only [Pt.U, Pt.locs, Pt.cells, Pt.slots] at X1 l1 y1 z1 st1 hQ1
  subst l1 y1 z1
  obtain ⟨rfl, N1q, e1⟩ := hQ1
  have N1 := Fr.app N0 N1q
  refine Goal.tr (B := T1.setTop (mkF m 4 #[.val (.ref va), .val (.ref vt), .val (.double dl), .second, .val (.int (0 : Int32))] [])) st1 ?_
  refine Goal.to (B := T1.setTop (mkF m 6 #[.val (.ref va), .val (.ref vt), .val (.double dl), .second, .val (.int (0 : Int32))] [(.ref vt), (.ref va)])) (fun tt kk => ?_) ?_
  · show Steps p.tables e below (T1.setTop (mkF m 4 #[.val (.ref va), .val (.ref vt), .val (.double dl), .second, .val (.int (0 : Int32))] [])) tt
    refine XS.aloadN X1.here hx rfl (hb hby d1_4) rfl rfl ?_
    show Steps p.tables e below (T1.setTop (mkF m 5 #[.val (.ref va), .val (.ref vt), .val (.double dl), .second, .val (.int (0 : Int32))] [(.ref va)])) tt
    refine XS.aloadN X1.here hx rfl (hb hby d1_5) rfl rfl ?_
    exact kk
  obtain ⟨T2, h2, X2, e2, W2, st2⟩ := putF X1 hx hZ hown (host := "") (Or.inl (hw _ (mw 22 rfl))) Via.refl e1 F_text_va E_va (Or.inr ⟨(hw _ (mw 23 rfl)), rfl, hnm⟩) (hw _ (mw 1 rfl)) (ty := (.object "java/lang/String")) (by decide) rfl rfl (g := (mkF m 6 #[.val (.ref va), .val (.ref vt), .val (.double dl), .second, .val (.int (0 : Int32))] [(.ref vt), (.ref va)])) rfl rfl (hb hby d1_6)
  have Fw2 : Fld Z h2 va "com/example/purloin/measure/Bar" "text" "Ljava/lang/String;" (.ref vt) := F_text_va.same W2
  have N2 := Fr.snoc X2 N1 g_va
  refine Goal.to (B := T2.setTop (mkF m 9 #[.val (.ref va), .val (.ref vt), .val (.double dl), .second, .val (.int (0 : Int32))] [])) st2 ?_
  refine Goal.to (B := T2.setTop (mkF m 11 #[.val (.ref va), .val (.ref vt), .val (.double dl), .second, .val (.int (0 : Int32))] [(.double dl), (.ref va)])) (fun tt kk => ?_) ?_
  · show Steps p.tables e below (T2.setTop (mkF m 9 #[.val (.ref va), .val (.ref vt), .val (.double dl), .second, .val (.int (0 : Int32))] [])) tt
    refine XS.aloadN X2.here hx rfl (hb hby d1_9) rfl rfl ?_
    show Steps p.tables e below (T2.setTop (mkF m 10 #[.val (.ref va), .val (.ref vt), .val (.double dl), .second, .val (.int (0 : Int32))] [(.ref va)])) tt
    refine XS.dloadN X2.here hx rfl (hb hby d1_10) rfl ?_
    exact kk
  have f3 : Fld Z h2 va "com/example/purloin/measure/Bar" "limit" "D" (.double (0 : UInt64)) := (F_limit_va.other W2 (Or.inr (slot_ne (Or.inr (hw _ (mw 25 rfl))) (Or.inr (hw _ (mw 23 rfl))) (by decide) (t := .double) (t' := (.object "java/lang/String")) (by decide) (by decide))))
  have f4 : Exa Z h2 va "com/example/purloin/measure/Bar" := (E_va.wr W2)
  obtain ⟨T5, h5, X5, e5, W5, st5⟩ := putF X2 hx hZ hown (host := "") (Or.inl (hw _ (mw 24 rfl))) Via.refl e2 f3 f4 (Or.inr ⟨(hw _ (mw 25 rfl)), rfl, hnm⟩) (hw _ (mw 1 rfl)) (ty := .double) (by decide) rfl rfl (g := (mkF m 11 #[.val (.ref va), .val (.ref vt), .val (.double dl), .second, .val (.int (0 : Int32))] [(.double dl), (.ref va)])) rfl rfl (hb hby d1_11)
  have Fw5 : Fld Z h5 va "com/example/purloin/measure/Bar" "limit" "D" (.double dl) := f3.same W5
  have N5 := Fr.snoc X5 N2 g_va
  refine Goal.to (B := T5.setTop (mkF m 14 #[.val (.ref va), .val (.ref vt), .val (.double dl), .second, .val (.int (0 : Int32))] [])) st5 ?_
  refine Goal.to (B := T5.setTop (mkF m 17 #[.val (.ref va), .val (.ref vt), .val (.double dl), .second, .val (.int (0 : Int32))] [(.int (0 : Int32)), (.ref va)])) (fun tt kk => ?_) ?_
  · show Steps p.tables e below (T5.setTop (mkF m 14 #[.val (.ref va), .val (.ref vt), .val (.double dl), .second, .val (.int (0 : Int32))] [])) tt
    refine XS.aloadN X5.here hx rfl (hb hby d1_14) rfl rfl ?_
    show Steps p.tables e below (T5.setTop (mkF m 15 #[.val (.ref va), .val (.ref vt), .val (.double dl), .second, .val (.int (0 : Int32))] [(.ref va)])) tt
    refine XS.iload X5.here hx rfl (hb hby d1_15) rfl ?_
    exact kk
  have f6 : Fld Z h5 va "com/example/purloin/measure/Bar" "upper" "Z" (.int (0 : Int32)) := ((F_upper_va.other W2 (Or.inr (slot_ne (Or.inr (hw _ (mw 27 rfl))) (Or.inr (hw _ (mw 23 rfl))) (by decide) (t := .boolean) (t' := (.object "java/lang/String")) (by decide) (by decide)))).other W5 (Or.inr (slot_ne (Or.inr (hw _ (mw 27 rfl))) (Or.inr (hw _ (mw 25 rfl))) (by decide) (t := .boolean) (t' := .double) (by decide) (by decide))))
  have f7 : Exa Z h5 va "com/example/purloin/measure/Bar" := (f4.wr W5)
  obtain ⟨T8, h8, X8, e8, W8, st8⟩ := putF X5 hx hZ hown (host := "") (Or.inl (hw _ (mw 26 rfl))) Via.refl e5 f6 f7 (Or.inr ⟨(hw _ (mw 27 rfl)), rfl, hnm⟩) (hw _ (mw 1 rfl)) (ty := .boolean) (by decide) rfl rfl (g := (mkF m 17 #[.val (.ref va), .val (.ref vt), .val (.double dl), .second, .val (.int (0 : Int32))] [(.int (0 : Int32)), (.ref va)])) rfl rfl (hb hby d1_17)
  have Fw8 : Fld Z h8 va "com/example/purloin/measure/Bar" "upper" "Z" (.int (0 : Int32)) := f6.same W8
  have N8 := Fr.snoc X8 N5 g_va
  refine Goal.to (B := T8.setTop (mkF m 20 #[.val (.ref va), .val (.ref vt), .val (.double dl), .second, .val (.int (0 : Int32))] [])) st8 ?_
  have f9 : Keep h0 h8 [va] := ((((Keep.refl h0 [va]).wr W2 (Or.inl (List.mem_of_getElem? (i := 0) rfl))).wr W5 (Or.inl (List.mem_of_getElem? (i := 0) rfl))).wr W8 (Or.inl (List.mem_of_getElem? (i := 0) rfl)))
  have f10 : Fld Z h8 va "com/example/purloin/measure/Bar" "text" "Ljava/lang/String;" (.ref vt) := ((Fw2.other W5 (Or.inr (slot_ne (Or.inr (hw _ (mw 23 rfl))) (Or.inr (hw _ (mw 25 rfl))) (by decide) (t := (.object "java/lang/String")) (t' := .double) (by decide) (by decide)))).other W8 (Or.inr (slot_ne (Or.inr (hw _ (mw 23 rfl))) (Or.inr (hw _ (mw 27 rfl))) (by decide) (t := (.object "java/lang/String")) (t' := .boolean) (by decide) (by decide))))
  have f11 : Fld Z h8 va "com/example/purloin/measure/Bar" "limit" "D" (.double dl) := (Fw5.other W8 (Or.inr (slot_ne (Or.inr (hw _ (mw 25 rfl))) (Or.inr (hw _ (mw 27 rfl))) (by decide) (t := .double) (t' := .boolean) (by decide) (by decide))))
  exact Goal.retN X8 hx Bd.returns (hb hby d1_20) hlk e8 ⟨rfl, N8, f9, f10, f11, Fw8⟩ (by decide) (by decide)
theorem ef_4 (m : MethodId) (x0 : Addr) (x1 : UInt64)  : entryFrame m #[(.ref x0), (.double x1)] 3 = mkF m 0 #[.val (.ref x0), .val (.double x1), .second] [] := by first | (simp [entryFrame, mkF, argsToLocals, Value.category]; done) | rfl
theorem pn_4 : plainName "com/example/purloin/measure/Bar" = true := by first | (simp [plainName, overriddenIn]; done) | decide +kernel
theorem d4_0 : decode prog_33_method_5_code 0 = .ok (.aload_n 0, 1) := by decide +kernel
theorem d4_1 : decode prog_33_method_5_code 1 = .ok (.getfield 17, 3) := by decide +kernel
theorem d4_4 : decode prog_33_method_5_code 4 = .ok (.ifCond .eq 20, 3) := by decide +kernel
theorem d4_24 : decode prog_33_method_5_code 24 = .ok (.dload_n 1, 1) := by decide +kernel
theorem d4_25 : decode prog_33_method_5_code 25 = .ok (.aload_n 0, 1) := by decide +kernel
theorem d4_26 : decode prog_33_method_5_code 26 = .ok (.getfield 13, 3) := by decide +kernel
theorem d4_29 : decode prog_33_method_5_code 29 = .ok (.dcmp .l, 1) := by decide +kernel
theorem d4_30 : decode prog_33_method_5_code 30 = .ok (.ifCond .lt 7, 3) := by decide +kernel
theorem d4_37 : decode prog_33_method_5_code 37 = .ok (.iconst 0, 1) := by decide +kernel
theorem d4_33 : decode prog_33_method_5_code 33 = .ok (.iconst 1, 1) := by decide +kernel
theorem d4_34 : decode prog_33_method_5_code 34 = .ok (.goto 4, 3) := by decide +kernel
theorem d4_38 : decode prog_33_method_5_code 38 = .ok (.ireturn, 1) := by decide +kernel
def Qm0 (Z : State) (va : Addr) (ua : Int64) (ub : Int64) (h0 : Heap) (n0 : Nat) (v : Option Value) (h : Heap) (L : List Loc) : Prop := v = some (.int (if (lcmpW ua ub) < (0 : Int32) then (0 : Int32) else (1 : Int32))) ∧ Fr n0 L ∧ h = h0
set_option maxRecDepth 65536 in
set_option maxHeartbeats 40000000 in
theorem rmm0 (l : Launch) (Z : State) (a0 : Array Value) (hw : ∀ d ∈ tables_1, d.before a0 Z = true) (ws : List Jvm.Cond) (va : Addr) (ua : Int64) (ub : Int64) (h0 : Heap) (n0 : Nat) (Z0 : n0 ≤ h0.size) (F_limit_va : Fld Z h0 va "com/example/purloin/measure/Bar" "limit" "D" (.double (FP.l2d ub))) (F_upper_va : Fld Z h0 va "com/example/purloin/measure/Bar" "upper" "Z" (.int (0 : Int32))) (ha : B53 ua) (hbb : B53 ub) :
    MetFree l (⟨"com/example/purloin/measure/Bar", "met", "(D)Z"⟩ : MethodName) (head1 (Jvm.Cond.code (⟨"com/example/purloin/measure/Bar", "met", "(D)Z"⟩ : MethodName) prog_33_method_5_code 3 (some .boolean) :: ws) ({ frames := 0, cells := 0, slots := 0, locals := 0 } : Room)) (fun a U => a = #[(.ref va), (.double (FP.l2d ua))] ∧ Z.Warmed39 U.vm ∧ U.heap = h0) (fun _ _ _ _ _ => True) (fun _ U o U' => ∃ v L, o = .returned v ∧ Qm0 Z va ua ub h0 n0 v U'.heap L ∧ FrameEnd U o U' L 0 0) := by
  refine MetFree.of_bodySF (plainFor_of_name pn_4) hisR ?_
  intro p e s m args below meth c s₁ Bd hml0 hP hK
  obtain ⟨rfl, hZ, hh⟩ := hP
  have hx := Bd.exec
  have hby := Bd.bytes
  have hml : c.maxLocals = 3 := hml0
  have hown : s.vm.findClass "com/example/purloin/measure/Bar" = some m.cls := findClass_of_methodNamed Bd.named
  have hnm := (name_of_methodNamed Bd.named Bd.method).1
  have X0 : Stand p l e ({ frames := 0, cells := 0, slots := 0, locals := 0 } : Room) s m #[(.ref va), (.double (FP.l2d ua))] below meth c s₁ [] 0 0 := Stand.of_body Bd
  have e0 : s₁.heap = h0 := by rw [← hh, Bd.state]; rfl
  have N0 := Fr.nil n0
  have hlk : meth.locks = false := BodyLoose.notSynchronized Bd
  show Goal p e below s (Qm0 Z va ua ub h0 n0) 0 0 (s₁.setTop (entryFrame m #[(.ref va), (.double (FP.l2d ua))] 3))
  refine Goal.to (B := s₁.setTop (mkF m 0 #[.val (.ref va), .val (.double (FP.l2d ua)), .second] [])) (fun tt kk => castTop (ef_4 m va (FP.l2d ua) ) kk) ?_
  refine Goal.to (B := s₁.setTop (mkF m 1 #[.val (.ref va), .val (.double (FP.l2d ua)), .second] [(.ref va)])) (fun tt kk => ?_) ?_
  · show Steps p.tables e below (s₁.setTop (mkF m 0 #[.val (.ref va), .val (.double (FP.l2d ua)), .second] [])) tt
    refine XS.aloadN X0.here hx rfl (hb hby d4_0) rfl rfl ?_
    exact kk
  obtain ⟨T1, X1, e1, st1⟩ := getF X0 hx hZ hown (host := "") (Or.inl (hw _ (mw 26 rfl))) Via.refl e0 F_upper_va (g := (mkF m 1 #[.val (.ref va), .val (.double (FP.l2d ua)), .second] [(.ref va)])) rfl rfl (hb hby d4_1)
  refine Goal.to (B := T1.setTop (mkF m 4 #[.val (.ref va), .val (.double (FP.l2d ua)), .second] [(.int (0 : Int32))])) st1 ?_
  refine Goal.to (B := T1.setTop (mkF m 26 #[.val (.ref va), .val (.double (FP.l2d ua)), .second] [(.ref va), (.double (FP.l2d ua))])) (fun tt kk => ?_) ?_
  · show Steps p.tables e below (T1.setTop (mkF m 4 #[.val (.ref va), .val (.double (FP.l2d ua)), .second] [(.int (0 : Int32))])) tt
    refine XS.ifYes X1.here hx rfl (pc0 := 4) (pc' := 24) rfl (hb hby d4_4) rfl ((if0 _ _).trans (teq (rfl : (0 : Int32) = (0 : Int32))).1) (by decide) (by decide) ?_
    show Steps p.tables e below (T1.setTop (mkF m 24 #[.val (.ref va), .val (.double (FP.l2d ua)), .second] [])) tt
    refine XS.dloadN X1.here hx rfl (hb hby d4_24) rfl ?_
    show Steps p.tables e below (T1.setTop (mkF m 25 #[.val (.ref va), .val (.double (FP.l2d ua)), .second] [(.double (FP.l2d ua))])) tt
    refine XS.aloadN X1.here hx rfl (hb hby d4_25) rfl rfl ?_
    exact kk
  obtain ⟨T2, X2, e2, st2⟩ := getF X1 hx hZ hown (host := "") (Or.inl (hw _ (mw 24 rfl))) Via.refl e1 F_limit_va (g := (mkF m 26 #[.val (.ref va), .val (.double (FP.l2d ua)), .second] [(.ref va), (.double (FP.l2d ua))])) rfl rfl (hb hby d4_26)
  refine Goal.to (B := T2.setTop (mkF m 29 #[.val (.ref va), .val (.double (FP.l2d ua)), .second] [(.double (FP.l2d ub)), (.double (FP.l2d ua))])) st2 ?_
  refine Goal.to (B := T2.setTop (mkF m 30 #[.val (.ref va), .val (.double (FP.l2d ua)), .second] [(.int (lcmpW ua ub))])) (fun tt kk => ?_) ?_
  · show Steps p.tables e below (T2.setTop (mkF m 29 #[.val (.ref va), .val (.double (FP.l2d ua)), .second] [(.double (FP.l2d ub)), (.double (FP.l2d ua))])) tt
    refine XS.dcmpS X2.here hx rfl (hb hby d4_29) rfl (dcmpV_w ha hbb _) ?_
    exact kk
  obtain ⟨w4, hw4⟩ : ∃ z : Int32, z = if (lcmpW ua ub) < (0 : Int32) then (0 : Int32) else (1 : Int32) := ⟨_, rfl⟩
  refine Goal.to (B := T2.setTop (mkF m 38 #[.val (.ref va), .val (.double (FP.l2d ua)), .second] [(.int w4)])) (fun tt kk => ?_) ?_
  · by_cases hc3 : (lcmpW ua ub) < (0 : Int32)
    · have qw4 : w4 = (0 : Int32) := by rw [hw4, if_pos hc3]
      rw [qw4] at kk
      show Steps p.tables e below (T2.setTop (mkF m 30 #[.val (.ref va), .val (.double (FP.l2d ua)), .second] [(.int (lcmpW ua ub))])) tt
      refine XS.ifYes X2.here hx rfl (pc0 := 30) (pc' := 37) rfl (hb hby d4_30) rfl ((if0 _ _).trans (tlt hc3).1) (by decide) (by decide) ?_
      show Steps p.tables e below (T2.setTop (mkF m 37 #[.val (.ref va), .val (.double (FP.l2d ua)), .second] [])) tt
      refine XS.iconst X2.here hx rfl (hb hby d4_37) ?_
      exact kk
    · have qw4 : w4 = (1 : Int32) := by rw [hw4, if_neg hc3]
      rw [qw4] at kk
      show Steps p.tables e below (T2.setTop (mkF m 30 #[.val (.ref va), .val (.double (FP.l2d ua)), .second] [(.int (lcmpW ua ub))])) tt
      refine XS.ifNo X2.here hx rfl (hb hby d4_30) rfl ((if0 _ _).trans (flt hc3).1) ?_
      show Steps p.tables e below (T2.setTop (mkF m 33 #[.val (.ref va), .val (.double (FP.l2d ua)), .second] [])) tt
      refine XS.iconst X2.here hx rfl (hb hby d4_33) ?_
      show Steps p.tables e below (T2.setTop (mkF m 34 #[.val (.ref va), .val (.double (FP.l2d ua)), .second] [(.int (1 : Int32))])) tt
      refine XS.goto X2.here hx rfl (pc0 := 34) (pc' := 38) rfl (hb hby d4_34) (by decide) (by decide) ?_
      exact kk
  exact Goal.retV X2 hx Bd.returns (nar01 (by rw [hw4]; exact own_01 _)) (Or.inl ⟨rfl, Or.inr (Or.inl rfl), _, rfl⟩) (hb hby d4_38) hlk e2 ⟨(congrArg some (by rw [hw4] : ((.int w4) : Value) = (.int (if (lcmpW ua ub) < (0 : Int32) then (0 : Int32) else (1 : Int32))))), N0, rfl⟩ (by decide) (by decide)
def QN1 (Z : State) (va : Addr) (vt : Addr) (dl : UInt64) (h0 : Heap) (n0 : Nat) (v : Option Value) (h : Heap) (L : List Loc) : Prop := v = none ∧ Fr n0 L ∧ Keep h0 h [va] ∧ Fld Z h va "com/example/purloin/measure/Bar" "text" "Ljava/lang/String;" (.ref vt) ∧ Fld Z h va "com/example/purloin/measure/Bar" "limit" "D" (.double dl) ∧ Fld Z h va "com/example/purloin/measure/Bar" "upper" "Z" (.int (1 : Int32))
set_option maxRecDepth 65536 in
set_option maxHeartbeats 40000000 in
theorem rmN1 (l : Launch) (Z : State) (a0 : Array Value) (hw : ∀ d ∈ tables_1, d.before a0 Z = true) (ws : List Jvm.Cond) (va : Addr) (vt : Addr) (dl : UInt64) (h0 : Heap) (n0 : Nat) (Z0 : n0 ≤ h0.size) (E_va : Exa Z h0 va "com/example/purloin/measure/Bar") (F_text_va : Fld Z h0 va "com/example/purloin/measure/Bar" "text" "Ljava/lang/String;" .null) (F_limit_va : Fld Z h0 va "com/example/purloin/measure/Bar" "limit" "D" (.double (0 : UInt64))) (F_upper_va : Fld Z h0 va "com/example/purloin/measure/Bar" "upper" "Z" (.int (0 : Int32))) (g_va : n0 ≤ va) :
    MetFree l (⟨"com/example/purloin/measure/Bar", "<init>", "(Ljava/lang/String;DZ)V"⟩ : MethodName) (head1 (Jvm.Cond.code (⟨"com/example/purloin/measure/Bar", "<init>", "(Ljava/lang/String;DZ)V"⟩ : MethodName) prog_33_method_1_code 5 none :: ws) ({ frames := 2, cells := 0, slots := 0, locals := 24 } : Room)) (fun a U => a = #[(.ref va), (.ref vt), (.double dl), (.int (1 : Int32))] ∧ Z.Warmed39 U.vm ∧ U.heap = h0) (fun _ _ _ _ _ => True) (fun _ U o U' => ∃ v L, o = .returned v ∧ QN1 Z va vt dl h0 n0 v U'.heap L ∧ FrameEnd U o U' L 0 0) := by
  refine MetFree.of_bodySF (plainFor_of_name pn_1) hisR ?_
  intro p e s m args below meth c s₁ Bd hml0 hP hK
  obtain ⟨rfl, hZ, hh⟩ := hP
  have hx := Bd.exec
  have hby := Bd.bytes
  have hml : c.maxLocals = 5 := hml0
  have hown : s.vm.findClass "com/example/purloin/measure/Bar" = some m.cls := findClass_of_methodNamed Bd.named
  have hnm := (name_of_methodNamed Bd.named Bd.method).1
  have X0 : Stand p l e ({ frames := 2, cells := 0, slots := 0, locals := 24 } : Room) s m #[(.ref va), (.ref vt), (.double dl), (.int (1 : Int32))] below meth c s₁ [] 0 0 := Stand.of_body Bd
  have e0 : s₁.heap = h0 := by rw [← hh, Bd.state]; rfl
  have N0 := Fr.nil n0
  have hlk : meth.locks = false := BodyLoose.notSynchronized Bd
  show Goal p e below s (QN1 Z va vt dl h0 n0) 0 0 (s₁.setTop (entryFrame m #[(.ref va), (.ref vt), (.double dl), (.int (1 : Int32))] 5))
  refine Goal.to (B := s₁.setTop (mkF m 0 #[.val (.ref va), .val (.ref vt), .val (.double dl), .second, .val (.int (1 : Int32))] [])) (fun tt kk => castTop (ef_1 m va vt dl (1 : Int32) ) kk) ?_
  refine Goal.to (B := s₁.setTop (mkF m 1 #[.val (.ref va), .val (.ref vt), .val (.double dl), .second, .val (.int (1 : Int32))] [(.ref va)])) (fun tt kk => ?_) ?_
  · show Steps p.tables e below (s₁.setTop (mkF m 0 #[.val (.ref va), .val (.ref vt), .val (.double dl), .second, .val (.int (1 : Int32))] [])) tt
    refine XS.aloadN X0.here hx rfl (hb hby d1_0) rfl rfl ?_
    exact kk
  obtain ⟨_, _, ⟨T1, L1, k1, n1⟩, -, X1, ⟨Lc1, hQ1, l1, y1, z1⟩, st1⟩ := X0.specialBack hx (y := (⟨"java/lang/Record", "<init>", "()V"⟩ : MethodName)) rfl hown (mvT hZ (hw _ (mw 14 rfl))) (mvT hZ (hw _ (mw 15 rfl))) (mvT hZ (hw _ (mw 18 rfl))) (by decide) (backOf (W := 0) (rmR l Z a0 hw [] va h0 n0 Z0 ) hZ (hw _ (mw 18 rfl)) (hw _ (mw 17 rfl)) (by decide) (by decide)) (g := (mkF m 1 #[.val (.ref va), .val (.ref vt), .val (.double dl), .second, .val (.int (1 : Int32))] [(.ref va)])) rfl (by rw [hml]; rfl) (Steps.refl _) (a := va) (argsL := []) (rest := []) (lenOf pd_1 rfl) rfl (by show 2 * 0 + _ ≤ _; exact Nat.le_of_eq rfl) (hb hby d1_1) (fun _ _ => ⟨rfl, e0, (by decide : 0 + 0 ≤ _), (by decide : 0 + 0 ≤ _)⟩)
  dsimp only [Pt.U, Pt.locs, Pt.cells, Pt.slots] at X1 l1 y1 z1 st1 hQ1
  subst l1 y1 z1
  obtain ⟨rfl, N1q, e1⟩ := hQ1
  have N1 := Fr.app N0 N1q
  refine Goal.tr (B := T1.setTop (mkF m 4 #[.val (.ref va), .val (.ref vt), .val (.double dl), .second, .val (.int (1 : Int32))] [])) st1 ?_
  refine Goal.to (B := T1.setTop (mkF m 6 #[.val (.ref va), .val (.ref vt), .val (.double dl), .second, .val (.int (1 : Int32))] [(.ref vt), (.ref va)])) (fun tt kk => ?_) ?_
  · show Steps p.tables e below (T1.setTop (mkF m 4 #[.val (.ref va), .val (.ref vt), .val (.double dl), .second, .val (.int (1 : Int32))] [])) tt
    refine XS.aloadN X1.here hx rfl (hb hby d1_4) rfl rfl ?_
    show Steps p.tables e below (T1.setTop (mkF m 5 #[.val (.ref va), .val (.ref vt), .val (.double dl), .second, .val (.int (1 : Int32))] [(.ref va)])) tt
    refine XS.aloadN X1.here hx rfl (hb hby d1_5) rfl rfl ?_
    exact kk
  obtain ⟨T2, h2, X2, e2, W2, st2⟩ := putF X1 hx hZ hown (host := "") (Or.inl (hw _ (mw 22 rfl))) Via.refl e1 F_text_va E_va (Or.inr ⟨(hw _ (mw 23 rfl)), rfl, hnm⟩) (hw _ (mw 1 rfl)) (ty := (.object "java/lang/String")) (by decide) rfl rfl (g := (mkF m 6 #[.val (.ref va), .val (.ref vt), .val (.double dl), .second, .val (.int (1 : Int32))] [(.ref vt), (.ref va)])) rfl rfl (hb hby d1_6)
  have Fw2 : Fld Z h2 va "com/example/purloin/measure/Bar" "text" "Ljava/lang/String;" (.ref vt) := F_text_va.same W2
  have N2 := Fr.snoc X2 N1 g_va
  refine Goal.to (B := T2.setTop (mkF m 9 #[.val (.ref va), .val (.ref vt), .val (.double dl), .second, .val (.int (1 : Int32))] [])) st2 ?_
  refine Goal.to (B := T2.setTop (mkF m 11 #[.val (.ref va), .val (.ref vt), .val (.double dl), .second, .val (.int (1 : Int32))] [(.double dl), (.ref va)])) (fun tt kk => ?_) ?_
  · show Steps p.tables e below (T2.setTop (mkF m 9 #[.val (.ref va), .val (.ref vt), .val (.double dl), .second, .val (.int (1 : Int32))] [])) tt
    refine XS.aloadN X2.here hx rfl (hb hby d1_9) rfl rfl ?_
    show Steps p.tables e below (T2.setTop (mkF m 10 #[.val (.ref va), .val (.ref vt), .val (.double dl), .second, .val (.int (1 : Int32))] [(.ref va)])) tt
    refine XS.dloadN X2.here hx rfl (hb hby d1_10) rfl ?_
    exact kk
  have f3 : Fld Z h2 va "com/example/purloin/measure/Bar" "limit" "D" (.double (0 : UInt64)) := (F_limit_va.other W2 (Or.inr (slot_ne (Or.inr (hw _ (mw 25 rfl))) (Or.inr (hw _ (mw 23 rfl))) (by decide) (t := .double) (t' := (.object "java/lang/String")) (by decide) (by decide))))
  have f4 : Exa Z h2 va "com/example/purloin/measure/Bar" := (E_va.wr W2)
  obtain ⟨T5, h5, X5, e5, W5, st5⟩ := putF X2 hx hZ hown (host := "") (Or.inl (hw _ (mw 24 rfl))) Via.refl e2 f3 f4 (Or.inr ⟨(hw _ (mw 25 rfl)), rfl, hnm⟩) (hw _ (mw 1 rfl)) (ty := .double) (by decide) rfl rfl (g := (mkF m 11 #[.val (.ref va), .val (.ref vt), .val (.double dl), .second, .val (.int (1 : Int32))] [(.double dl), (.ref va)])) rfl rfl (hb hby d1_11)
  have Fw5 : Fld Z h5 va "com/example/purloin/measure/Bar" "limit" "D" (.double dl) := f3.same W5
  have N5 := Fr.snoc X5 N2 g_va
  refine Goal.to (B := T5.setTop (mkF m 14 #[.val (.ref va), .val (.ref vt), .val (.double dl), .second, .val (.int (1 : Int32))] [])) st5 ?_
  refine Goal.to (B := T5.setTop (mkF m 17 #[.val (.ref va), .val (.ref vt), .val (.double dl), .second, .val (.int (1 : Int32))] [(.int (1 : Int32)), (.ref va)])) (fun tt kk => ?_) ?_
  · show Steps p.tables e below (T5.setTop (mkF m 14 #[.val (.ref va), .val (.ref vt), .val (.double dl), .second, .val (.int (1 : Int32))] [])) tt
    refine XS.aloadN X5.here hx rfl (hb hby d1_14) rfl rfl ?_
    show Steps p.tables e below (T5.setTop (mkF m 15 #[.val (.ref va), .val (.ref vt), .val (.double dl), .second, .val (.int (1 : Int32))] [(.ref va)])) tt
    refine XS.iload X5.here hx rfl (hb hby d1_15) rfl ?_
    exact kk
  have f6 : Fld Z h5 va "com/example/purloin/measure/Bar" "upper" "Z" (.int (0 : Int32)) := ((F_upper_va.other W2 (Or.inr (slot_ne (Or.inr (hw _ (mw 27 rfl))) (Or.inr (hw _ (mw 23 rfl))) (by decide) (t := .boolean) (t' := (.object "java/lang/String")) (by decide) (by decide)))).other W5 (Or.inr (slot_ne (Or.inr (hw _ (mw 27 rfl))) (Or.inr (hw _ (mw 25 rfl))) (by decide) (t := .boolean) (t' := .double) (by decide) (by decide))))
  have f7 : Exa Z h5 va "com/example/purloin/measure/Bar" := (f4.wr W5)
  obtain ⟨T8, h8, X8, e8, W8, st8⟩ := putF X5 hx hZ hown (host := "") (Or.inl (hw _ (mw 26 rfl))) Via.refl e5 f6 f7 (Or.inr ⟨(hw _ (mw 27 rfl)), rfl, hnm⟩) (hw _ (mw 1 rfl)) (ty := .boolean) (by decide) rfl rfl (g := (mkF m 17 #[.val (.ref va), .val (.ref vt), .val (.double dl), .second, .val (.int (1 : Int32))] [(.int (1 : Int32)), (.ref va)])) rfl rfl (hb hby d1_17)
  have Fw8 : Fld Z h8 va "com/example/purloin/measure/Bar" "upper" "Z" (.int (1 : Int32)) := f6.same W8
  have N8 := Fr.snoc X8 N5 g_va
  refine Goal.to (B := T8.setTop (mkF m 20 #[.val (.ref va), .val (.ref vt), .val (.double dl), .second, .val (.int (1 : Int32))] [])) st8 ?_
  have f9 : Keep h0 h8 [va] := ((((Keep.refl h0 [va]).wr W2 (Or.inl (List.mem_of_getElem? (i := 0) rfl))).wr W5 (Or.inl (List.mem_of_getElem? (i := 0) rfl))).wr W8 (Or.inl (List.mem_of_getElem? (i := 0) rfl)))
  have f10 : Fld Z h8 va "com/example/purloin/measure/Bar" "text" "Ljava/lang/String;" (.ref vt) := ((Fw2.other W5 (Or.inr (slot_ne (Or.inr (hw _ (mw 23 rfl))) (Or.inr (hw _ (mw 25 rfl))) (by decide) (t := (.object "java/lang/String")) (t' := .double) (by decide) (by decide)))).other W8 (Or.inr (slot_ne (Or.inr (hw _ (mw 23 rfl))) (Or.inr (hw _ (mw 27 rfl))) (by decide) (t := (.object "java/lang/String")) (t' := .boolean) (by decide) (by decide))))
  have f11 : Fld Z h8 va "com/example/purloin/measure/Bar" "limit" "D" (.double dl) := (Fw5.other W8 (Or.inr (slot_ne (Or.inr (hw _ (mw 25 rfl))) (Or.inr (hw _ (mw 27 rfl))) (by decide) (t := .double) (t' := .boolean) (by decide) (by decide))))
  exact Goal.retN X8 hx Bd.returns (hb hby d1_20) hlk e8 ⟨rfl, N8, f9, f10, f11, Fw8⟩ (by decide) (by decide)
theorem d4_7 : decode prog_33_method_5_code 7 = .ok (.dload_n 1, 1) := by decide +kernel
theorem d4_8 : decode prog_33_method_5_code 8 = .ok (.aload_n 0, 1) := by decide +kernel
theorem d4_9 : decode prog_33_method_5_code 9 = .ok (.getfield 13, 3) := by decide +kernel
theorem d4_12 : decode prog_33_method_5_code 12 = .ok (.dcmp .g, 1) := by decide +kernel
theorem d4_13 : decode prog_33_method_5_code 13 = .ok (.ifCond .gt 7, 3) := by decide +kernel
theorem d4_20 : decode prog_33_method_5_code 20 = .ok (.iconst 0, 1) := by decide +kernel
theorem d4_21 : decode prog_33_method_5_code 21 = .ok (.goto 17, 3) := by decide +kernel
theorem d4_16 : decode prog_33_method_5_code 16 = .ok (.iconst 1, 1) := by decide +kernel
theorem d4_17 : decode prog_33_method_5_code 17 = .ok (.goto 21, 3) := by decide +kernel
def Qm1 (Z : State) (va : Addr) (ua : Int64) (ub : Int64) (h0 : Heap) (n0 : Nat) (v : Option Value) (h : Heap) (L : List Loc) : Prop := v = some (.int (if (0 : Int32) < (lcmpW ua ub) then (0 : Int32) else (1 : Int32))) ∧ Fr n0 L ∧ h = h0
set_option maxRecDepth 65536 in
set_option maxHeartbeats 40000000 in
theorem rmm1 (l : Launch) (Z : State) (a0 : Array Value) (hw : ∀ d ∈ tables_1, d.before a0 Z = true) (ws : List Jvm.Cond) (va : Addr) (ua : Int64) (ub : Int64) (h0 : Heap) (n0 : Nat) (Z0 : n0 ≤ h0.size) (F_limit_va : Fld Z h0 va "com/example/purloin/measure/Bar" "limit" "D" (.double (FP.l2d ub))) (F_upper_va : Fld Z h0 va "com/example/purloin/measure/Bar" "upper" "Z" (.int (1 : Int32))) (ha : B53 ua) (hbb : B53 ub) :
    MetFree l (⟨"com/example/purloin/measure/Bar", "met", "(D)Z"⟩ : MethodName) (head1 (Jvm.Cond.code (⟨"com/example/purloin/measure/Bar", "met", "(D)Z"⟩ : MethodName) prog_33_method_5_code 3 (some .boolean) :: ws) ({ frames := 0, cells := 0, slots := 0, locals := 0 } : Room)) (fun a U => a = #[(.ref va), (.double (FP.l2d ua))] ∧ Z.Warmed39 U.vm ∧ U.heap = h0) (fun _ _ _ _ _ => True) (fun _ U o U' => ∃ v L, o = .returned v ∧ Qm1 Z va ua ub h0 n0 v U'.heap L ∧ FrameEnd U o U' L 0 0) := by
  refine MetFree.of_bodySF (plainFor_of_name pn_4) hisR ?_
  intro p e s m args below meth c s₁ Bd hml0 hP hK
  obtain ⟨rfl, hZ, hh⟩ := hP
  have hx := Bd.exec
  have hby := Bd.bytes
  have hml : c.maxLocals = 3 := hml0
  have hown : s.vm.findClass "com/example/purloin/measure/Bar" = some m.cls := findClass_of_methodNamed Bd.named
  have hnm := (name_of_methodNamed Bd.named Bd.method).1
  have X0 : Stand p l e ({ frames := 0, cells := 0, slots := 0, locals := 0 } : Room) s m #[(.ref va), (.double (FP.l2d ua))] below meth c s₁ [] 0 0 := Stand.of_body Bd
  have e0 : s₁.heap = h0 := by rw [← hh, Bd.state]; rfl
  have N0 := Fr.nil n0
  have hlk : meth.locks = false := BodyLoose.notSynchronized Bd
  show Goal p e below s (Qm1 Z va ua ub h0 n0) 0 0 (s₁.setTop (entryFrame m #[(.ref va), (.double (FP.l2d ua))] 3))
  refine Goal.to (B := s₁.setTop (mkF m 0 #[.val (.ref va), .val (.double (FP.l2d ua)), .second] [])) (fun tt kk => castTop (ef_4 m va (FP.l2d ua) ) kk) ?_
  refine Goal.to (B := s₁.setTop (mkF m 1 #[.val (.ref va), .val (.double (FP.l2d ua)), .second] [(.ref va)])) (fun tt kk => ?_) ?_
  · show Steps p.tables e below (s₁.setTop (mkF m 0 #[.val (.ref va), .val (.double (FP.l2d ua)), .second] [])) tt
    refine XS.aloadN X0.here hx rfl (hb hby d4_0) rfl rfl ?_
    exact kk
  obtain ⟨T1, X1, e1, st1⟩ := getF X0 hx hZ hown (host := "") (Or.inl (hw _ (mw 26 rfl))) Via.refl e0 F_upper_va (g := (mkF m 1 #[.val (.ref va), .val (.double (FP.l2d ua)), .second] [(.ref va)])) rfl rfl (hb hby d4_1)
  refine Goal.to (B := T1.setTop (mkF m 4 #[.val (.ref va), .val (.double (FP.l2d ua)), .second] [(.int (1 : Int32))])) st1 ?_
  refine Goal.to (B := T1.setTop (mkF m 9 #[.val (.ref va), .val (.double (FP.l2d ua)), .second] [(.ref va), (.double (FP.l2d ua))])) (fun tt kk => ?_) ?_
  · show Steps p.tables e below (T1.setTop (mkF m 4 #[.val (.ref va), .val (.double (FP.l2d ua)), .second] [(.int (1 : Int32))])) tt
    refine XS.ifNo X1.here hx rfl (hb hby d4_4) rfl ((if0 _ _).trans (feq ((by decide) : ¬ ((1 : Int32) = (0 : Int32)))).1) ?_
    show Steps p.tables e below (T1.setTop (mkF m 7 #[.val (.ref va), .val (.double (FP.l2d ua)), .second] [])) tt
    refine XS.dloadN X1.here hx rfl (hb hby d4_7) rfl ?_
    show Steps p.tables e below (T1.setTop (mkF m 8 #[.val (.ref va), .val (.double (FP.l2d ua)), .second] [(.double (FP.l2d ua))])) tt
    refine XS.aloadN X1.here hx rfl (hb hby d4_8) rfl rfl ?_
    exact kk
  obtain ⟨T2, X2, e2, st2⟩ := getF X1 hx hZ hown (host := "") (Or.inl (hw _ (mw 24 rfl))) Via.refl e1 F_limit_va (g := (mkF m 9 #[.val (.ref va), .val (.double (FP.l2d ua)), .second] [(.ref va), (.double (FP.l2d ua))])) rfl rfl (hb hby d4_9)
  refine Goal.to (B := T2.setTop (mkF m 12 #[.val (.ref va), .val (.double (FP.l2d ua)), .second] [(.double (FP.l2d ub)), (.double (FP.l2d ua))])) st2 ?_
  refine Goal.to (B := T2.setTop (mkF m 13 #[.val (.ref va), .val (.double (FP.l2d ua)), .second] [(.int (lcmpW ua ub))])) (fun tt kk => ?_) ?_
  · show Steps p.tables e below (T2.setTop (mkF m 12 #[.val (.ref va), .val (.double (FP.l2d ua)), .second] [(.double (FP.l2d ub)), (.double (FP.l2d ua))])) tt
    refine XS.dcmpS X2.here hx rfl (hb hby d4_12) rfl (dcmpV_w ha hbb _) ?_
    exact kk
  obtain ⟨w4, hw4⟩ : ∃ z : Int32, z = if (0 : Int32) < (lcmpW ua ub) then (0 : Int32) else (1 : Int32) := ⟨_, rfl⟩
  refine Goal.to (B := T2.setTop (mkF m 38 #[.val (.ref va), .val (.double (FP.l2d ua)), .second] [(.int w4)])) (fun tt kk => ?_) ?_
  · by_cases hc3 : (0 : Int32) < (lcmpW ua ub)
    · have qw4 : w4 = (0 : Int32) := by rw [hw4, if_pos hc3]
      rw [qw4] at kk
      show Steps p.tables e below (T2.setTop (mkF m 13 #[.val (.ref va), .val (.double (FP.l2d ua)), .second] [(.int (lcmpW ua ub))])) tt
      refine XS.ifYes X2.here hx rfl (pc0 := 13) (pc' := 20) rfl (hb hby d4_13) rfl ((if0 _ _).trans (tlt hc3).2.2.1) (by decide) (by decide) ?_
      show Steps p.tables e below (T2.setTop (mkF m 20 #[.val (.ref va), .val (.double (FP.l2d ua)), .second] [])) tt
      refine XS.iconst X2.here hx rfl (hb hby d4_20) ?_
      show Steps p.tables e below (T2.setTop (mkF m 21 #[.val (.ref va), .val (.double (FP.l2d ua)), .second] [(.int (0 : Int32))])) tt
      refine XS.goto X2.here hx rfl (pc0 := 21) (pc' := 38) rfl (hb hby d4_21) (by decide) (by decide) ?_
      exact kk
    · have qw4 : w4 = (1 : Int32) := by rw [hw4, if_neg hc3]
      rw [qw4] at kk
      show Steps p.tables e below (T2.setTop (mkF m 13 #[.val (.ref va), .val (.double (FP.l2d ua)), .second] [(.int (lcmpW ua ub))])) tt
      refine XS.ifNo X2.here hx rfl (hb hby d4_13) rfl ((if0 _ _).trans (flt hc3).2.2.1) ?_
      show Steps p.tables e below (T2.setTop (mkF m 16 #[.val (.ref va), .val (.double (FP.l2d ua)), .second] [])) tt
      refine XS.iconst X2.here hx rfl (hb hby d4_16) ?_
      show Steps p.tables e below (T2.setTop (mkF m 17 #[.val (.ref va), .val (.double (FP.l2d ua)), .second] [(.int (1 : Int32))])) tt
      refine XS.goto X2.here hx rfl (pc0 := 17) (pc' := 38) rfl (hb hby d4_17) (by decide) (by decide) ?_
      exact kk
  exact Goal.retV X2 hx Bd.returns (nar01 (by rw [hw4]; exact own_01 _)) (Or.inl ⟨rfl, Or.inr (Or.inl rfl), _, rfl⟩) (hb hby d4_38) hlk e2 ⟨(congrArg some (by rw [hw4] : ((.int w4) : Value) = (.int (if (0 : Int32) < (lcmpW ua ub) then (0 : Int32) else (1 : Int32))))), N0, rfl⟩ (by decide) (by decide)
theorem ef_0 (m : MethodId) (x0 : Int32) (x1 : Int32) (x2 : Int32)  : entryFrame m #[(.int x0), (.int x1), (.int x2)] maxLocals = mkF m 0 #[.val (.int x0), .val (.int x1), .val (.int x2), .unset, .unset, .unset, .unset, .unset, .unset, .unset, .unset, .unset, .unset, .unset] [] := by first | (simp [entryFrame, mkF, argsToLocals, Value.category, maxLocals]; done) | rfl
theorem pn_0 : plainName "com/example/purloin/measure/BarMetPinLaw" = true := by first | (simp [plainName, overriddenIn]; done) | decide +kernel
theorem pd_0 : parseMethodDescriptor "(Ljava/lang/String;DZ)V" = some ⟨[(.object "java/lang/String"), .double, .boolean], none⟩ := by decide +kernel
theorem pd_2 : parseMethodDescriptor "(D)Z" = some ⟨[.double], some .boolean⟩ := by decide +kernel
def Q0 (Z : State) (u0 : Int32) (u1 : Int32) (u2 : Int32) (h0 : Heap) (n0 : Nat) (v : Option Value) (h : Heap) (L : List Loc) : Prop := v = some (.int (1 : Int32)) ∧ Fr n0 L
set_option maxRecDepth 65536 in
set_option maxHeartbeats 40000000 in
theorem rm0 (l : Launch) (Z : State) (a0 : Array Value) (hw : ∀ d ∈ tables_1, d.before a0 Z = true) (ws : List Jvm.Cond) (u0 : Int32) (u1 : Int32) (u2 : Int32) (h0 : Heap) (n0 : Nat) (Z0 : n0 ≤ h0.size) :
    MetFree l x (head1 (Jvm.Cond.code x code maxLocals ret :: ws) room_1) (fun a U => a = #[(.int u0), (.int u1), (.int u2)] ∧ Z.Warmed39 U.vm ∧ U.heap = h0) (fun _ _ _ _ _ => True) (fun _ U o U' => ∃ v L, o = .returned v ∧ Q0 Z u0 u1 u2 h0 n0 v U'.heap L ∧ ReturnedEndW U o U' L 16 1152) := by
  refine MetFree.of_bodySF (plainFor_of_name pn_0) hisR ?_
  intro p e s m args below meth c s₁ Bd hml0 hP hK
  obtain ⟨rfl, hZ, hh⟩ := hP
  have hx := Bd.exec
  have hby := Bd.bytes
  have hml : c.maxLocals = 14 := hml0
  have hown : s.vm.findClass "com/example/purloin/measure/BarMetPinLaw" = some m.cls := findClass_of_methodNamed Bd.named
  have hnm := (name_of_methodNamed Bd.named Bd.method).1
  have X0 : Stand p l e room_1 s m #[(.int u0), (.int u1), (.int u2)] below meth c s₁ [] 0 0 := Stand.of_body Bd
  have e0 : s₁.heap = h0 := by rw [← hh, Bd.state]; rfl
  have N0 := Fr.nil n0
  have hlk : meth.locks = false := BodyLoose.notSynchronized Bd
  show GoalW p e below s (Q0 Z u0 u1 u2 h0 n0) 16 1152 (s₁.setTop (entryFrame m #[(.int u0), (.int u1), (.int u2)] maxLocals))
  refine GoalW.to (B := s₁.setTop (mkF m 0 #[.val (.int u0), .val (.int u1), .val (.int u2), .unset, .unset, .unset, .unset, .unset, .unset, .unset, .unset, .unset, .unset, .unset] [])) (fun tt kk => castTop (ef_0 m u0 u1 u2 ) kk) ?_
  have hk00 : s.heap.size ≤ h0.size := Nat.le_of_eq (congrArg Array.size hh)
  refine GoalW.to (B := s₁.setTop (mkF m 3 #[.val (.int u0), .val (.int u1), .val (.int u2), .unset, .unset, .unset, .unset, .unset, .unset, .unset, .unset, .unset, .unset, .unset] [(.int (u2 &&& (1 : Int32)))])) (fun tt kk => ?_) ?_
  · show Steps p.tables e below (s₁.setTop (mkF m 0 #[.val (.int u0), .val (.int u1), .val (.int u2), .unset, .unset, .unset, .unset, .unset, .unset, .unset, .unset, .unset, .unset, .unset] [])) tt
    refine XS.iloadN X0.here hx rfl (hb hby at_0) rfl ?_
    show Steps p.tables e below (s₁.setTop (mkF m 1 #[.val (.int u0), .val (.int u1), .val (.int u2), .unset, .unset, .unset, .unset, .unset, .unset, .unset, .unset, .unset, .unset, .unset] [(.int u2)])) tt
    refine XS.iconst X0.here hx rfl (hb hby at_1) ?_
    show Steps p.tables e below (s₁.setTop (mkF m 2 #[.val (.int u0), .val (.int u1), .val (.int u2), .unset, .unset, .unset, .unset, .unset, .unset, .unset, .unset, .unset, .unset, .unset] [(.int (1 : Int32)), (.int u2)])) tt
    refine XS.iand X0.here hx rfl (hb hby at_2) rfl ?_
    exact kk
  by_cases hup : (u2 &&& (1 : Int32)) = (0 : Int32)
  · refine GoalW.to (B := s₁.setTop (mkF m 12 #[.val (.int u0), .val (.int u1), .val (.int u2), .val (.int (0 : Int32)), .unset, .unset, .unset, .unset, .unset, .unset, .unset, .unset, .unset, .unset] [])) (fun tt kk => ?_) ?_
    · show Steps p.tables e below (s₁.setTop (mkF m 3 #[.val (.int u0), .val (.int u1), .val (.int u2), .unset, .unset, .unset, .unset, .unset, .unset, .unset, .unset, .unset, .unset, .unset] [(.int (u2 &&& (1 : Int32)))])) tt
      refine XS.ifYes X0.here hx rfl (pc0 := 3) (pc' := 10) rfl (hb hby at_3) rfl ((if0 _ _).trans (teq hup).1) (by decide) (by decide) ?_
      show Steps p.tables e below (s₁.setTop (mkF m 10 #[.val (.int u0), .val (.int u1), .val (.int u2), .unset, .unset, .unset, .unset, .unset, .unset, .unset, .unset, .unset, .unset, .unset] [])) tt
      refine XS.iconst X0.here hx rfl (hb hby at_10) ?_
      show Steps p.tables e below (s₁.setTop (mkF m 11 #[.val (.int u0), .val (.int u1), .val (.int u2), .unset, .unset, .unset, .unset, .unset, .unset, .unset, .unset, .unset, .unset, .unset] [(.int (0 : Int32))])) tt
      refine XS.istoreN X0.here hx rfl (hb hby at_11) rfl (l' := #[.val (.int u0), .val (.int u1), .val (.int u2), .val (.int (0 : Int32)), .unset, .unset, .unset, .unset, .unset, .unset, .unset, .unset, .unset, .unset]) rfl ?_
      exact kk
    obtain ⟨T1, h1, X1, e1, E1, A1, D1, -, st1⟩ := newO X0 hx hZ hown (hw _ (mw 0 rfl)) (hw _ (mw 1 rfl)) (hw _ (mw 2 rfl)) e0 (g := (mkF m 12 #[.val (.int u0), .val (.int u1), .val (.int u2), .val (.int (0 : Int32)), .unset, .unset, .unset, .unset, .unset, .unset, .unset, .unset, .unset, .unset] [])) rfl (hb hby at_12) (by decide) (by decide)
    obtain ⟨b1, g1⟩ : ∃ z, z = h0.size := ⟨_, rfl⟩
    rw [← g1] at A1 D1 st1
    have g_b1 : n0 ≤ b1 := Nat.le_trans Z0 (Nat.le_of_eq g1.symm)
    have F_text_b1 : Fld Z h1 b1 "com/example/purloin/measure/Bar" "text" "Ljava/lang/String;" .null := D1 (Or.inr (hw _ (mw 23 rfl))) (ty := (.object "java/lang/String")) (by decide)
    have F_limit_b1 : Fld Z h1 b1 "com/example/purloin/measure/Bar" "limit" "D" (.double (0 : UInt64)) := D1 (Or.inr (hw _ (mw 25 rfl))) (ty := .double) (by decide)
    have F_upper_b1 : Fld Z h1 b1 "com/example/purloin/measure/Bar" "upper" "Z" (.int (0 : Int32)) := D1 (Or.inr (hw _ (mw 27 rfl))) (ty := .boolean) (by decide)
    refine GoalW.to (B := T1.setTop (mkF m 15 #[.val (.int u0), .val (.int u1), .val (.int u2), .val (.int (0 : Int32)), .unset, .unset, .unset, .unset, .unset, .unset, .unset, .unset, .unset, .unset] [(.ref b1)])) st1 ?_
    refine GoalW.to (B := T1.setTop (mkF m 16 #[.val (.int u0), .val (.int u1), .val (.int u2), .val (.int (0 : Int32)), .unset, .unset, .unset, .unset, .unset, .unset, .unset, .unset, .unset, .unset] [(.ref b1), (.ref b1)])) (fun tt kk => ?_) ?_
    · show Steps p.tables e below (T1.setTop (mkF m 15 #[.val (.int u0), .val (.int u1), .val (.int u2), .val (.int (0 : Int32)), .unset, .unset, .unset, .unset, .unset, .unset, .unset, .unset, .unset, .unset] [(.ref b1)])) tt
      refine XS.dup X1.here hx rfl (hb hby at_15) rfl rfl ?_
      exact kk
    have f3 : n0 ≤ h1.size := (Nat.le_trans Z0 E1.1)
    have f4 : s.heap.size ≤ h1.size := (Nat.le_trans hk00 E1.1)
    obtain ⟨b2, T2, h2, k2, X2, e2, E2, hS2, hk2, hZ, hown, st2⟩ := ldcS (s := s) (vm0 := s.vm) X1 hx hZ hown (hw _ (mw 3 rfl)) (fun d hd => hw d ((by decide +kernel : ∀ d ∈ Bundle.stringAtoms, d ∈ tables_1) d hd)) e1 ((State.WarmedH.refl s).since s.heap.size) f4 (g := (mkF m 16 #[.val (.int u0), .val (.int u1), .val (.int u2), .val (.int (0 : Int32)), .unset, .unset, .unset, .unset, .unset, .unset, .unset, .unset, .unset, .unset] [(.ref b1), (.ref b1)])) rfl (hb hby at_16) (n := 12) (by decide) (by decide) (by decide) (by decide)
    refine GoalW.to (B := T2.setTop (mkF m 18 #[.val (.int u0), .val (.int u1), .val (.int u2), .val (.int (0 : Int32)), .unset, .unset, .unset, .unset, .unset, .unset, .unset, .unset, .unset, .unset] [(.ref b2), (.ref b1), (.ref b1)])) st2 ?_
    refine GoalW.to (B := T2.setTop (mkF m 21 #[.val (.int u0), .val (.int u1), .val (.int u2), .val (.int (0 : Int32)), .unset, .unset, .unset, .unset, .unset, .unset, .unset, .unset, .unset, .unset] [(.int (0 : Int32)), (.double (FP.l2d (u0.toInt64))), (.ref b2), (.ref b1), (.ref b1)])) (fun tt kk => ?_) ?_
    · show Steps p.tables e below (T2.setTop (mkF m 18 #[.val (.int u0), .val (.int u1), .val (.int u2), .val (.int (0 : Int32)), .unset, .unset, .unset, .unset, .unset, .unset, .unset, .unset, .unset, .unset] [(.ref b2), (.ref b1), (.ref b1)])) tt
      refine XS.iloadN X2.here hx rfl (hb hby at_18) rfl ?_
      show Steps p.tables e below (T2.setTop (mkF m 19 #[.val (.int u0), .val (.int u1), .val (.int u2), .val (.int (0 : Int32)), .unset, .unset, .unset, .unset, .unset, .unset, .unset, .unset, .unset, .unset] [(.int u0), (.ref b2), (.ref b1), (.ref b1)])) tt
      refine XS.i2dS X2.here hx rfl (hb hby at_19) rfl (i2d_w _) ?_
      show Steps p.tables e below (T2.setTop (mkF m 20 #[.val (.int u0), .val (.int u1), .val (.int u2), .val (.int (0 : Int32)), .unset, .unset, .unset, .unset, .unset, .unset, .unset, .unset, .unset, .unset] [(.double (FP.l2d (u0.toInt64))), (.ref b2), (.ref b1), (.ref b1)])) tt
      refine XS.iloadN X2.here hx rfl (hb hby at_20) rfl ?_
      exact kk
    have f5 : Exa Z h2 b1 "com/example/purloin/measure/Bar" := (A1.ext E2)
    have f6 : Fld Z h2 b1 "com/example/purloin/measure/Bar" "text" "Ljava/lang/String;" .null := (F_text_b1.ext E2)
    have f7 : Fld Z h2 b1 "com/example/purloin/measure/Bar" "limit" "D" (.double (0 : UInt64)) := (F_limit_b1.ext E2)
    have f8 : Fld Z h2 b1 "com/example/purloin/measure/Bar" "upper" "Z" (.int (0 : Int32)) := (F_upper_b1.ext E2)
    have f9 : n0 ≤ h2.size := (Nat.le_trans f3 E2.1)
    obtain ⟨_, _, ⟨T10, L10, k10, n10⟩, -, X10, ⟨Lc10, hQ10, l10, y10, z10⟩, st10⟩ := X2.specialBack hx (y := (⟨"com/example/purloin/measure/Bar", "<init>", "(Ljava/lang/String;DZ)V"⟩ : MethodName)) rfl hown (mvT hZ (hw _ (mw 11 rfl))) (mvT hZ (hw _ (mw 12 rfl))) (mvT hZ (hw _ (mw 13 rfl))) (by decide) (backOf (W := 1) (rmN0 l Z a0 hw [] b1 b2 (FP.l2d (u0.toInt64)) h2 n0 f9 f5 f6 f7 f8 g_b1) hZ (hw _ (mw 13 rfl)) (hw _ (mw 2 rfl)) (by decide) (by decide)) (g := (mkF m 21 #[.val (.int u0), .val (.int u1), .val (.int u2), .val (.int (0 : Int32)), .unset, .unset, .unset, .unset, .unset, .unset, .unset, .unset, .unset, .unset] [(.int (0 : Int32)), (.double (FP.l2d (u0.toInt64))), (.ref b2), (.ref b1), (.ref b1)])) rfl (by rw [hml]; rfl) (Steps.refl _) (a := b1) (argsL := [(.ref b2), (.double (FP.l2d (u0.toInt64))), (.int (0 : Int32))]) (rest := [(.ref b1)]) (lenOf pd_0 rfl) rfl (by show 2 * 0 + _ ≤ _; exact Nat.le_of_eq rfl) (hb hby at_21) (fun _ _ => ⟨rfl, e2, (by decide : 3 + 0 ≤ _), (by decide : 19 + 0 ≤ _)⟩)
    dsimp only [Pt.U, Pt.locs, Pt.cells, Pt.slots] at X10 l10 y10 z10 st10 hQ10
    subst l10 y10 z10
    obtain ⟨rfl, N10q, K10, P10_0, P10_1, P10_2⟩ := hQ10
    have N10 := Fr.app N0 N10q
    refine GoalW.tr (B := T10.setTop (mkF m 24 #[.val (.int u0), .val (.int u1), .val (.int u2), .val (.int (0 : Int32)), .unset, .unset, .unset, .unset, .unset, .unset, .unset, .unset, .unset, .unset] [(.ref b1)])) st10 ?_
    refine GoalW.to (B := T10.setTop (mkF m 57 #[.val (.int u0), .val (.int u1), .val (.int u2), .val (.int (0 : Int32)), .val (.ref b1), .val (.long ((u0.toInt64) - (1 : Int64))), .second, .val (.long ((u0.toInt64) + (1 : Int64))), .second, .unset, .unset, .unset, .unset, .unset] [(.int u0), (.int u1)])) (fun tt kk => ?_) ?_
    · show Steps p.tables e below (T10.setTop (mkF m 24 #[.val (.int u0), .val (.int u1), .val (.int u2), .val (.int (0 : Int32)), .unset, .unset, .unset, .unset, .unset, .unset, .unset, .unset, .unset, .unset] [(.ref b1)])) tt
      refine XS.astore X10.here hx rfl (hb hby at_24) rfl rfl (l' := #[.val (.int u0), .val (.int u1), .val (.int u2), .val (.int (0 : Int32)), .val (.ref b1), .unset, .unset, .unset, .unset, .unset, .unset, .unset, .unset, .unset]) rfl ?_
      show Steps p.tables e below (T10.setTop (mkF m 26 #[.val (.int u0), .val (.int u1), .val (.int u2), .val (.int (0 : Int32)), .val (.ref b1), .unset, .unset, .unset, .unset, .unset, .unset, .unset, .unset, .unset] [])) tt
      refine XS.iloadN X10.here hx rfl (hb hby at_26) rfl ?_
      show Steps p.tables e below (T10.setTop (mkF m 27 #[.val (.int u0), .val (.int u1), .val (.int u2), .val (.int (0 : Int32)), .val (.ref b1), .unset, .unset, .unset, .unset, .unset, .unset, .unset, .unset, .unset] [(.int u0)])) tt
      refine XS.i2l X10.here hx rfl (hb hby at_27) rfl ?_
      show Steps p.tables e below (T10.setTop (mkF m 28 #[.val (.int u0), .val (.int u1), .val (.int u2), .val (.int (0 : Int32)), .val (.ref b1), .unset, .unset, .unset, .unset, .unset, .unset, .unset, .unset, .unset] [(.long (u0.toInt64))])) tt
      refine XS.lconst X10.here hx rfl (hb hby at_28) ?_
      show Steps p.tables e below (T10.setTop (mkF m 29 #[.val (.int u0), .val (.int u1), .val (.int u2), .val (.int (0 : Int32)), .val (.ref b1), .unset, .unset, .unset, .unset, .unset, .unset, .unset, .unset, .unset] [(.long (1 : Int64)), (.long (u0.toInt64))])) tt
      refine XS.lsub X10.here hx rfl (hb hby at_29) rfl ?_
      show Steps p.tables e below (T10.setTop (mkF m 30 #[.val (.int u0), .val (.int u1), .val (.int u2), .val (.int (0 : Int32)), .val (.ref b1), .unset, .unset, .unset, .unset, .unset, .unset, .unset, .unset, .unset] [(.long ((u0.toInt64) - (1 : Int64)))])) tt
      refine XS.lstore X10.here hx rfl (hb hby at_30) rfl (l' := #[.val (.int u0), .val (.int u1), .val (.int u2), .val (.int (0 : Int32)), .val (.ref b1), .val (.long ((u0.toInt64) - (1 : Int64))), .second, .unset, .unset, .unset, .unset, .unset, .unset, .unset]) rfl ?_
      show Steps p.tables e below (T10.setTop (mkF m 32 #[.val (.int u0), .val (.int u1), .val (.int u2), .val (.int (0 : Int32)), .val (.ref b1), .val (.long ((u0.toInt64) - (1 : Int64))), .second, .unset, .unset, .unset, .unset, .unset, .unset, .unset] [])) tt
      refine XS.iloadN X10.here hx rfl (hb hby at_32) rfl ?_
      show Steps p.tables e below (T10.setTop (mkF m 33 #[.val (.int u0), .val (.int u1), .val (.int u2), .val (.int (0 : Int32)), .val (.ref b1), .val (.long ((u0.toInt64) - (1 : Int64))), .second, .unset, .unset, .unset, .unset, .unset, .unset, .unset] [(.int u0)])) tt
      refine XS.i2l X10.here hx rfl (hb hby at_33) rfl ?_
      show Steps p.tables e below (T10.setTop (mkF m 34 #[.val (.int u0), .val (.int u1), .val (.int u2), .val (.int (0 : Int32)), .val (.ref b1), .val (.long ((u0.toInt64) - (1 : Int64))), .second, .unset, .unset, .unset, .unset, .unset, .unset, .unset] [(.long (u0.toInt64))])) tt
      refine XS.lconst X10.here hx rfl (hb hby at_34) ?_
      show Steps p.tables e below (T10.setTop (mkF m 35 #[.val (.int u0), .val (.int u1), .val (.int u2), .val (.int (0 : Int32)), .val (.ref b1), .val (.long ((u0.toInt64) - (1 : Int64))), .second, .unset, .unset, .unset, .unset, .unset, .unset, .unset] [(.long (1 : Int64)), (.long (u0.toInt64))])) tt
      refine XS.ladd X10.here hx rfl (hb hby at_35) rfl ?_
      show Steps p.tables e below (T10.setTop (mkF m 36 #[.val (.int u0), .val (.int u1), .val (.int u2), .val (.int (0 : Int32)), .val (.ref b1), .val (.long ((u0.toInt64) - (1 : Int64))), .second, .unset, .unset, .unset, .unset, .unset, .unset, .unset] [(.long ((u0.toInt64) + (1 : Int64)))])) tt
      refine XS.lstore X10.here hx rfl (hb hby at_36) rfl (l' := #[.val (.int u0), .val (.int u1), .val (.int u2), .val (.int (0 : Int32)), .val (.ref b1), .val (.long ((u0.toInt64) - (1 : Int64))), .second, .val (.long ((u0.toInt64) + (1 : Int64))), .second, .unset, .unset, .unset, .unset, .unset]) rfl ?_
      show Steps p.tables e below (T10.setTop (mkF m 38 #[.val (.int u0), .val (.int u1), .val (.int u2), .val (.int (0 : Int32)), .val (.ref b1), .val (.long ((u0.toInt64) - (1 : Int64))), .second, .val (.long ((u0.toInt64) + (1 : Int64))), .second, .unset, .unset, .unset, .unset, .unset] [])) tt
      refine XS.iloadN X10.here hx rfl (hb hby at_38) rfl ?_
      show Steps p.tables e below (T10.setTop (mkF m 39 #[.val (.int u0), .val (.int u1), .val (.int u2), .val (.int (0 : Int32)), .val (.ref b1), .val (.long ((u0.toInt64) - (1 : Int64))), .second, .val (.long ((u0.toInt64) + (1 : Int64))), .second, .unset, .unset, .unset, .unset, .unset] [(.int (0 : Int32))])) tt
      refine XS.ifYes X10.here hx rfl (pc0 := 39) (pc' := 55) rfl (hb hby at_39) rfl ((if0 _ _).trans (teq (rfl : (0 : Int32) = (0 : Int32))).1) (by decide) (by decide) ?_
      show Steps p.tables e below (T10.setTop (mkF m 55 #[.val (.int u0), .val (.int u1), .val (.int u2), .val (.int (0 : Int32)), .val (.ref b1), .val (.long ((u0.toInt64) - (1 : Int64))), .second, .val (.long ((u0.toInt64) + (1 : Int64))), .second, .unset, .unset, .unset, .unset, .unset] [])) tt
      refine XS.iloadN X10.here hx rfl (hb hby at_55) rfl ?_
      show Steps p.tables e below (T10.setTop (mkF m 56 #[.val (.int u0), .val (.int u1), .val (.int u2), .val (.int (0 : Int32)), .val (.ref b1), .val (.long ((u0.toInt64) - (1 : Int64))), .second, .val (.long ((u0.toInt64) + (1 : Int64))), .second, .unset, .unset, .unset, .unset, .unset] [(.int u1)])) tt
      refine XS.iloadN X10.here hx rfl (hb hby at_56) rfl ?_
      exact kk
    obtain ⟨w12, hw12⟩ : ∃ z : Int32, z = if u1 < u0 then (0 : Int32) else (1 : Int32) := ⟨_, rfl⟩
    refine GoalW.to (B := T10.setTop (mkF m 65 #[.val (.int u0), .val (.int u1), .val (.int u2), .val (.int (0 : Int32)), .val (.ref b1), .val (.long ((u0.toInt64) - (1 : Int64))), .second, .val (.long ((u0.toInt64) + (1 : Int64))), .second, .unset, .unset, .unset, .unset, .unset] [(.int w12)])) (fun tt kk => ?_) ?_
    · by_cases hc11 : u1 < u0
      · have qw12 : w12 = (0 : Int32) := by rw [hw12, if_pos hc11]
        rw [qw12] at kk
        show Steps p.tables e below (T10.setTop (mkF m 57 #[.val (.int u0), .val (.int u1), .val (.int u2), .val (.int (0 : Int32)), .val (.ref b1), .val (.long ((u0.toInt64) - (1 : Int64))), .second, .val (.long ((u0.toInt64) + (1 : Int64))), .second, .unset, .unset, .unset, .unset, .unset] [(.int u0), (.int u1)])) tt
        refine XS.icmpYes X10.here hx rfl (pc0 := 57) (pc' := 64) rfl (hb hby at_57) rfl (tlt hc11).1 (by decide) (by decide) ?_
        show Steps p.tables e below (T10.setTop (mkF m 64 #[.val (.int u0), .val (.int u1), .val (.int u2), .val (.int (0 : Int32)), .val (.ref b1), .val (.long ((u0.toInt64) - (1 : Int64))), .second, .val (.long ((u0.toInt64) + (1 : Int64))), .second, .unset, .unset, .unset, .unset, .unset] [])) tt
        refine XS.iconst X10.here hx rfl (hb hby at_64) ?_
        exact kk
      · have qw12 : w12 = (1 : Int32) := by rw [hw12, if_neg hc11]
        rw [qw12] at kk
        show Steps p.tables e below (T10.setTop (mkF m 57 #[.val (.int u0), .val (.int u1), .val (.int u2), .val (.int (0 : Int32)), .val (.ref b1), .val (.long ((u0.toInt64) - (1 : Int64))), .second, .val (.long ((u0.toInt64) + (1 : Int64))), .second, .unset, .unset, .unset, .unset, .unset] [(.int u0), (.int u1)])) tt
        refine XS.icmpNo X10.here hx rfl (hb hby at_57) rfl (flt hc11).1 ?_
        show Steps p.tables e below (T10.setTop (mkF m 60 #[.val (.int u0), .val (.int u1), .val (.int u2), .val (.int (0 : Int32)), .val (.ref b1), .val (.long ((u0.toInt64) - (1 : Int64))), .second, .val (.long ((u0.toInt64) + (1 : Int64))), .second, .unset, .unset, .unset, .unset, .unset] [])) tt
        refine XS.iconst X10.here hx rfl (hb hby at_60) ?_
        show Steps p.tables e below (T10.setTop (mkF m 61 #[.val (.int u0), .val (.int u1), .val (.int u2), .val (.int (0 : Int32)), .val (.ref b1), .val (.long ((u0.toInt64) - (1 : Int64))), .second, .val (.long ((u0.toInt64) + (1 : Int64))), .second, .unset, .unset, .unset, .unset, .unset] [(.int (1 : Int32))])) tt
        refine XS.goto X10.here hx rfl (pc0 := 61) (pc' := 65) rfl (hb hby at_61) (by decide) (by decide) ?_
        exact kk
    refine GoalW.to (B := T10.setTop (mkF m 71 #[.val (.int u0), .val (.int u1), .val (.int u2), .val (.int (0 : Int32)), .val (.ref b1), .val (.long ((u0.toInt64) - (1 : Int64))), .second, .val (.long ((u0.toInt64) + (1 : Int64))), .second, .val (.int w12), .unset, .unset, .unset, .unset] [(.double (FP.l2d (u1.toInt64))), (.ref b1)])) (fun tt kk => ?_) ?_
    · show Steps p.tables e below (T10.setTop (mkF m 65 #[.val (.int u0), .val (.int u1), .val (.int u2), .val (.int (0 : Int32)), .val (.ref b1), .val (.long ((u0.toInt64) - (1 : Int64))), .second, .val (.long ((u0.toInt64) + (1 : Int64))), .second, .unset, .unset, .unset, .unset, .unset] [(.int w12)])) tt
      refine XS.istore X10.here hx rfl (hb hby at_65) rfl (l' := #[.val (.int u0), .val (.int u1), .val (.int u2), .val (.int (0 : Int32)), .val (.ref b1), .val (.long ((u0.toInt64) - (1 : Int64))), .second, .val (.long ((u0.toInt64) + (1 : Int64))), .second, .val (.int w12), .unset, .unset, .unset, .unset]) rfl ?_
      show Steps p.tables e below (T10.setTop (mkF m 67 #[.val (.int u0), .val (.int u1), .val (.int u2), .val (.int (0 : Int32)), .val (.ref b1), .val (.long ((u0.toInt64) - (1 : Int64))), .second, .val (.long ((u0.toInt64) + (1 : Int64))), .second, .val (.int w12), .unset, .unset, .unset, .unset] [])) tt
      refine XS.aload X10.here hx rfl (hb hby at_67) rfl rfl ?_
      show Steps p.tables e below (T10.setTop (mkF m 69 #[.val (.int u0), .val (.int u1), .val (.int u2), .val (.int (0 : Int32)), .val (.ref b1), .val (.long ((u0.toInt64) - (1 : Int64))), .second, .val (.long ((u0.toInt64) + (1 : Int64))), .second, .val (.int w12), .unset, .unset, .unset, .unset] [(.ref b1)])) tt
      refine XS.iloadN X10.here hx rfl (hb hby at_69) rfl ?_
      show Steps p.tables e below (T10.setTop (mkF m 70 #[.val (.int u0), .val (.int u1), .val (.int u2), .val (.int (0 : Int32)), .val (.ref b1), .val (.long ((u0.toInt64) - (1 : Int64))), .second, .val (.long ((u0.toInt64) + (1 : Int64))), .second, .val (.int w12), .unset, .unset, .unset, .unset] [(.int u1), (.ref b1)])) tt
      refine XS.i2dS X10.here hx rfl (hb hby at_70) rfl (i2d_w _) ?_
      exact kk
    have f13 : n0 ≤ T10.heap.size := (Nat.le_trans f9 K10.1)
    have f15 : Exa Z T10.heap b1 "com/example/purloin/measure/Bar" := (f5.keep K10)
    obtain ⟨cq14, kq14, q14a, q14b, q14c⟩ := isOf hZ rfl f15
    obtain ⟨_, _, ⟨T14, L14, k14, n14⟩, -, X14, ⟨Lc14, hQ14, l14, y14, z14⟩, st14⟩ := X10.virtualBack hx (y := (⟨"com/example/purloin/measure/Bar", "met", "(D)Z"⟩ : MethodName)) (z := (⟨"com/example/purloin/measure/Bar", "met", "(D)Z"⟩ : MethodName)) hown (mvT hZ (hw _ (mw 28 rfl))) (mvT hZ (hw _ (mw 29 rfl))) (notFace_of_selects (args := #[]) (mvT hZ (hw _ (mw 31 rfl)))) (mvT hZ (hw _ (mw 31 rfl))) (mvT hZ (hw _ (mw 30 rfl))) (by decide) (backOf (W := 0) (rmm0 l Z a0 hw [] b1 (u1.toInt64) (u0.toInt64) T10.heap n0 f13 P10_1 P10_2 (own_i u1) (own_i u0)) hZ (hw _ (mw 32 rfl)) (hw _ (mw 2 rfl)) (by decide) (by decide)) q14a q14c (g := (mkF m 71 #[.val (.int u0), .val (.int u1), .val (.int u2), .val (.int (0 : Int32)), .val (.ref b1), .val (.long ((u0.toInt64) - (1 : Int64))), .second, .val (.long ((u0.toInt64) + (1 : Int64))), .second, .val (.int w12), .unset, .unset, .unset, .unset] [(.double (FP.l2d (u1.toInt64))), (.ref b1)])) rfl (by rw [hml]; rfl) (Steps.refl _) (argsL := [(.double (FP.l2d (u1.toInt64)))]) (rest := []) (lenOf pd_2 rfl) rfl (by show 2 * 0 + _ ≤ _; exact Nat.le_of_eq rfl) (hb hby at_71) (fun _ _ => ⟨rfl, rfl, (by decide : 3 + 0 ≤ _), (by decide : 19 + 0 ≤ _)⟩)
    dsimp only [Pt.U, Pt.locs, Pt.cells, Pt.slots] at X14 l14 y14 z14 st14 hQ14
    subst l14 y14 z14
    obtain ⟨rfl, N14q, e14⟩ := hQ14
    have N14 := Fr.app N10 N14q
    refine GoalW.tr (B := T14.setTop (mkF m 74 #[.val (.int u0), .val (.int u1), .val (.int u2), .val (.int (0 : Int32)), .val (.ref b1), .val (.long ((u0.toInt64) - (1 : Int64))), .second, .val (.long ((u0.toInt64) + (1 : Int64))), .second, .val (.int w12), .unset, .unset, .unset, .unset] [(.int (if (lcmpW (u1.toInt64) (u0.toInt64)) < (0 : Int32) then (0 : Int32) else (1 : Int32)))])) st14 ?_
    refine GoalW.to (B := T14.setTop (mkF m 90 #[.val (.int u0), .val (.int u1), .val (.int u2), .val (.int (0 : Int32)), .val (.ref b1), .val (.long ((u0.toInt64) - (1 : Int64))), .second, .val (.long ((u0.toInt64) + (1 : Int64))), .second, .val (.int w12), .val (.int (1 : Int32)), .unset, .unset, .unset] [(.double (FP.l2d (u0.toInt64))), (.ref b1)])) (fun tt kk => ?_) ?_
    · show Steps p.tables e below (T14.setTop (mkF m 74 #[.val (.int u0), .val (.int u1), .val (.int u2), .val (.int (0 : Int32)), .val (.ref b1), .val (.long ((u0.toInt64) - (1 : Int64))), .second, .val (.long ((u0.toInt64) + (1 : Int64))), .second, .val (.int w12), .unset, .unset, .unset, .unset] [(.int (if (lcmpW (u1.toInt64) (u0.toInt64)) < (0 : Int32) then (0 : Int32) else (1 : Int32)))])) tt
      refine XS.iload X14.here hx rfl (hb hby at_74) rfl ?_
      show Steps p.tables e below (T14.setTop (mkF m 76 #[.val (.int u0), .val (.int u1), .val (.int u2), .val (.int (0 : Int32)), .val (.ref b1), .val (.long ((u0.toInt64) - (1 : Int64))), .second, .val (.long ((u0.toInt64) + (1 : Int64))), .second, .val (.int w12), .unset, .unset, .unset, .unset] [(.int w12), (.int (if (lcmpW (u1.toInt64) (u0.toInt64)) < (0 : Int32) then (0 : Int32) else (1 : Int32)))])) tt
      refine XS.icmpNo X14.here hx rfl (hb hby at_76) rfl (teq (by rw [hw12]; by_cases q : u1 < u0 <;> simp [own_lt, q] : (if (lcmpW (u1.toInt64) (u0.toInt64)) < (0 : Int32) then (0 : Int32) else (1 : Int32)) = w12)).2 ?_
      show Steps p.tables e below (T14.setTop (mkF m 79 #[.val (.int u0), .val (.int u1), .val (.int u2), .val (.int (0 : Int32)), .val (.ref b1), .val (.long ((u0.toInt64) - (1 : Int64))), .second, .val (.long ((u0.toInt64) + (1 : Int64))), .second, .val (.int w12), .unset, .unset, .unset, .unset] [])) tt
      refine XS.iconst X14.here hx rfl (hb hby at_79) ?_
      show Steps p.tables e below (T14.setTop (mkF m 80 #[.val (.int u0), .val (.int u1), .val (.int u2), .val (.int (0 : Int32)), .val (.ref b1), .val (.long ((u0.toInt64) - (1 : Int64))), .second, .val (.long ((u0.toInt64) + (1 : Int64))), .second, .val (.int w12), .unset, .unset, .unset, .unset] [(.int (1 : Int32))])) tt
      refine XS.goto X14.here hx rfl (pc0 := 80) (pc' := 84) rfl (hb hby at_80) (by decide) (by decide) ?_
      show Steps p.tables e below (T14.setTop (mkF m 84 #[.val (.int u0), .val (.int u1), .val (.int u2), .val (.int (0 : Int32)), .val (.ref b1), .val (.long ((u0.toInt64) - (1 : Int64))), .second, .val (.long ((u0.toInt64) + (1 : Int64))), .second, .val (.int w12), .unset, .unset, .unset, .unset] [(.int (1 : Int32))])) tt
      refine XS.istore X14.here hx rfl (hb hby at_84) rfl (l' := #[.val (.int u0), .val (.int u1), .val (.int u2), .val (.int (0 : Int32)), .val (.ref b1), .val (.long ((u0.toInt64) - (1 : Int64))), .second, .val (.long ((u0.toInt64) + (1 : Int64))), .second, .val (.int w12), .val (.int (1 : Int32)), .unset, .unset, .unset]) rfl ?_
      show Steps p.tables e below (T14.setTop (mkF m 86 #[.val (.int u0), .val (.int u1), .val (.int u2), .val (.int (0 : Int32)), .val (.ref b1), .val (.long ((u0.toInt64) - (1 : Int64))), .second, .val (.long ((u0.toInt64) + (1 : Int64))), .second, .val (.int w12), .val (.int (1 : Int32)), .unset, .unset, .unset] [])) tt
      refine XS.aload X14.here hx rfl (hb hby at_86) rfl rfl ?_
      show Steps p.tables e below (T14.setTop (mkF m 88 #[.val (.int u0), .val (.int u1), .val (.int u2), .val (.int (0 : Int32)), .val (.ref b1), .val (.long ((u0.toInt64) - (1 : Int64))), .second, .val (.long ((u0.toInt64) + (1 : Int64))), .second, .val (.int w12), .val (.int (1 : Int32)), .unset, .unset, .unset] [(.ref b1)])) tt
      refine XS.iloadN X14.here hx rfl (hb hby at_88) rfl ?_
      show Steps p.tables e below (T14.setTop (mkF m 89 #[.val (.int u0), .val (.int u1), .val (.int u2), .val (.int (0 : Int32)), .val (.ref b1), .val (.long ((u0.toInt64) - (1 : Int64))), .second, .val (.long ((u0.toInt64) + (1 : Int64))), .second, .val (.int w12), .val (.int (1 : Int32)), .unset, .unset, .unset] [(.int u0), (.ref b1)])) tt
      refine XS.i2dS X14.here hx rfl (hb hby at_89) rfl (i2d_w _) ?_
      exact kk
    obtain ⟨cq16, kq16, q16a, q16b, q16c⟩ := isOf hZ e14 f15
    obtain ⟨_, _, ⟨T16, L16, k16, n16⟩, -, X16, ⟨Lc16, hQ16, l16, y16, z16⟩, st16⟩ := X14.virtualBack hx (y := (⟨"com/example/purloin/measure/Bar", "met", "(D)Z"⟩ : MethodName)) (z := (⟨"com/example/purloin/measure/Bar", "met", "(D)Z"⟩ : MethodName)) hown (mvT hZ (hw _ (mw 28 rfl))) (mvT hZ (hw _ (mw 29 rfl))) (notFace_of_selects (args := #[]) (mvT hZ (hw _ (mw 31 rfl)))) (mvT hZ (hw _ (mw 31 rfl))) (mvT hZ (hw _ (mw 30 rfl))) (by decide) (backOf (W := 0) (rmm0 l Z a0 hw [] b1 (u0.toInt64) (u0.toInt64) T10.heap n0 f13 P10_1 P10_2 (own_i u0) (own_i u0)) hZ (hw _ (mw 32 rfl)) (hw _ (mw 2 rfl)) (by decide) (by decide)) q16a q16c (g := (mkF m 90 #[.val (.int u0), .val (.int u1), .val (.int u2), .val (.int (0 : Int32)), .val (.ref b1), .val (.long ((u0.toInt64) - (1 : Int64))), .second, .val (.long ((u0.toInt64) + (1 : Int64))), .second, .val (.int w12), .val (.int (1 : Int32)), .unset, .unset, .unset] [(.double (FP.l2d (u0.toInt64))), (.ref b1)])) rfl (by rw [hml]; rfl) (Steps.refl _) (argsL := [(.double (FP.l2d (u0.toInt64)))]) (rest := []) (lenOf pd_2 rfl) rfl (by show 2 * 0 + _ ≤ _; exact Nat.le_of_eq rfl) (hb hby at_90) (fun _ _ => ⟨rfl, e14, (by decide : 3 + 0 ≤ _), (by decide : 19 + 0 ≤ _)⟩)
    dsimp only [Pt.U, Pt.locs, Pt.cells, Pt.slots] at X16 l16 y16 z16 st16 hQ16
    subst l16 y16 z16
    obtain ⟨rfl, N16q, e16⟩ := hQ16
    have N16 := Fr.app N14 N16q
    refine GoalW.tr (B := T16.setTop (mkF m 93 #[.val (.int u0), .val (.int u1), .val (.int u2), .val (.int (0 : Int32)), .val (.ref b1), .val (.long ((u0.toInt64) - (1 : Int64))), .second, .val (.long ((u0.toInt64) + (1 : Int64))), .second, .val (.int w12), .val (.int (1 : Int32)), .unset, .unset, .unset] [(.int (if (lcmpW (u0.toInt64) (u0.toInt64)) < (0 : Int32) then (0 : Int32) else (1 : Int32)))])) st16 ?_
    refine GoalW.to (B := T16.setTop (mkF m 100 #[.val (.int u0), .val (.int u1), .val (.int u2), .val (.int (0 : Int32)), .val (.ref b1), .val (.long ((u0.toInt64) - (1 : Int64))), .second, .val (.long ((u0.toInt64) + (1 : Int64))), .second, .val (.int w12), .val (.int (1 : Int32)), .val (.int (if (lcmpW (u0.toInt64) (u0.toInt64)) < (0 : Int32) then (0 : Int32) else (1 : Int32))), .unset, .unset] [(.double (FP.l2d ((u0.toInt64) - (1 : Int64)))), (.ref b1)])) (fun tt kk => ?_) ?_
    · show Steps p.tables e below (T16.setTop (mkF m 93 #[.val (.int u0), .val (.int u1), .val (.int u2), .val (.int (0 : Int32)), .val (.ref b1), .val (.long ((u0.toInt64) - (1 : Int64))), .second, .val (.long ((u0.toInt64) + (1 : Int64))), .second, .val (.int w12), .val (.int (1 : Int32)), .unset, .unset, .unset] [(.int (if (lcmpW (u0.toInt64) (u0.toInt64)) < (0 : Int32) then (0 : Int32) else (1 : Int32)))])) tt
      refine XS.istore X16.here hx rfl (hb hby at_93) rfl (l' := #[.val (.int u0), .val (.int u1), .val (.int u2), .val (.int (0 : Int32)), .val (.ref b1), .val (.long ((u0.toInt64) - (1 : Int64))), .second, .val (.long ((u0.toInt64) + (1 : Int64))), .second, .val (.int w12), .val (.int (1 : Int32)), .val (.int (if (lcmpW (u0.toInt64) (u0.toInt64)) < (0 : Int32) then (0 : Int32) else (1 : Int32))), .unset, .unset]) rfl ?_
      show Steps p.tables e below (T16.setTop (mkF m 95 #[.val (.int u0), .val (.int u1), .val (.int u2), .val (.int (0 : Int32)), .val (.ref b1), .val (.long ((u0.toInt64) - (1 : Int64))), .second, .val (.long ((u0.toInt64) + (1 : Int64))), .second, .val (.int w12), .val (.int (1 : Int32)), .val (.int (if (lcmpW (u0.toInt64) (u0.toInt64)) < (0 : Int32) then (0 : Int32) else (1 : Int32))), .unset, .unset] [])) tt
      refine XS.aload X16.here hx rfl (hb hby at_95) rfl rfl ?_
      show Steps p.tables e below (T16.setTop (mkF m 97 #[.val (.int u0), .val (.int u1), .val (.int u2), .val (.int (0 : Int32)), .val (.ref b1), .val (.long ((u0.toInt64) - (1 : Int64))), .second, .val (.long ((u0.toInt64) + (1 : Int64))), .second, .val (.int w12), .val (.int (1 : Int32)), .val (.int (if (lcmpW (u0.toInt64) (u0.toInt64)) < (0 : Int32) then (0 : Int32) else (1 : Int32))), .unset, .unset] [(.ref b1)])) tt
      refine XS.lload X16.here hx rfl (hb hby at_97) rfl ?_
      show Steps p.tables e below (T16.setTop (mkF m 99 #[.val (.int u0), .val (.int u1), .val (.int u2), .val (.int (0 : Int32)), .val (.ref b1), .val (.long ((u0.toInt64) - (1 : Int64))), .second, .val (.long ((u0.toInt64) + (1 : Int64))), .second, .val (.int w12), .val (.int (1 : Int32)), .val (.int (if (lcmpW (u0.toInt64) (u0.toInt64)) < (0 : Int32) then (0 : Int32) else (1 : Int32))), .unset, .unset] [(.long ((u0.toInt64) - (1 : Int64))), (.ref b1)])) tt
      refine XS.l2dS X16.here hx rfl (hb hby at_99) rfl rfl ?_
      exact kk
    obtain ⟨cq17, kq17, q17a, q17b, q17c⟩ := isOf hZ e16 f15
    obtain ⟨_, _, ⟨T17, L17, k17, n17⟩, -, X17, ⟨Lc17, hQ17, l17, y17, z17⟩, st17⟩ := X16.virtualBack hx (y := (⟨"com/example/purloin/measure/Bar", "met", "(D)Z"⟩ : MethodName)) (z := (⟨"com/example/purloin/measure/Bar", "met", "(D)Z"⟩ : MethodName)) hown (mvT hZ (hw _ (mw 28 rfl))) (mvT hZ (hw _ (mw 29 rfl))) (notFace_of_selects (args := #[]) (mvT hZ (hw _ (mw 31 rfl)))) (mvT hZ (hw _ (mw 31 rfl))) (mvT hZ (hw _ (mw 30 rfl))) (by decide) (backOf (W := 0) (rmm0 l Z a0 hw [] b1 ((u0.toInt64) - (1 : Int64)) (u0.toInt64) T10.heap n0 f13 P10_1 P10_2 (own_bl u0) (own_i u0)) hZ (hw _ (mw 32 rfl)) (hw _ (mw 2 rfl)) (by decide) (by decide)) q17a q17c (g := (mkF m 100 #[.val (.int u0), .val (.int u1), .val (.int u2), .val (.int (0 : Int32)), .val (.ref b1), .val (.long ((u0.toInt64) - (1 : Int64))), .second, .val (.long ((u0.toInt64) + (1 : Int64))), .second, .val (.int w12), .val (.int (1 : Int32)), .val (.int (if (lcmpW (u0.toInt64) (u0.toInt64)) < (0 : Int32) then (0 : Int32) else (1 : Int32))), .unset, .unset] [(.double (FP.l2d ((u0.toInt64) - (1 : Int64)))), (.ref b1)])) rfl (by rw [hml]; rfl) (Steps.refl _) (argsL := [(.double (FP.l2d ((u0.toInt64) - (1 : Int64))))]) (rest := []) (lenOf pd_2 rfl) rfl (by show 2 * 0 + _ ≤ _; exact Nat.le_of_eq rfl) (hb hby at_100) (fun _ _ => ⟨rfl, e16, (by decide : 3 + 0 ≤ _), (by decide : 19 + 0 ≤ _)⟩)
    dsimp only [Pt.U, Pt.locs, Pt.cells, Pt.slots] at X17 l17 y17 z17 st17 hQ17
    subst l17 y17 z17
    obtain ⟨rfl, N17q, e17⟩ := hQ17
    have N17 := Fr.app N16 N17q
    refine GoalW.tr (B := T17.setTop (mkF m 103 #[.val (.int u0), .val (.int u1), .val (.int u2), .val (.int (0 : Int32)), .val (.ref b1), .val (.long ((u0.toInt64) - (1 : Int64))), .second, .val (.long ((u0.toInt64) + (1 : Int64))), .second, .val (.int w12), .val (.int (1 : Int32)), .val (.int (if (lcmpW (u0.toInt64) (u0.toInt64)) < (0 : Int32) then (0 : Int32) else (1 : Int32))), .unset, .unset] [(.int (if (lcmpW ((u0.toInt64) - (1 : Int64)) (u0.toInt64)) < (0 : Int32) then (0 : Int32) else (1 : Int32)))])) st17 ?_
    refine GoalW.to (B := T17.setTop (mkF m 119 #[.val (.int u0), .val (.int u1), .val (.int u2), .val (.int (0 : Int32)), .val (.ref b1), .val (.long ((u0.toInt64) - (1 : Int64))), .second, .val (.long ((u0.toInt64) + (1 : Int64))), .second, .val (.int w12), .val (.int (1 : Int32)), .val (.int (if (lcmpW (u0.toInt64) (u0.toInt64)) < (0 : Int32) then (0 : Int32) else (1 : Int32))), .val (.int (1 : Int32)), .unset] [(.double (FP.l2d ((u0.toInt64) + (1 : Int64)))), (.ref b1)])) (fun tt kk => ?_) ?_
    · show Steps p.tables e below (T17.setTop (mkF m 103 #[.val (.int u0), .val (.int u1), .val (.int u2), .val (.int (0 : Int32)), .val (.ref b1), .val (.long ((u0.toInt64) - (1 : Int64))), .second, .val (.long ((u0.toInt64) + (1 : Int64))), .second, .val (.int w12), .val (.int (1 : Int32)), .val (.int (if (lcmpW (u0.toInt64) (u0.toInt64)) < (0 : Int32) then (0 : Int32) else (1 : Int32))), .unset, .unset] [(.int (if (lcmpW ((u0.toInt64) - (1 : Int64)) (u0.toInt64)) < (0 : Int32) then (0 : Int32) else (1 : Int32)))])) tt
      refine XS.iloadN X17.here hx rfl (hb hby at_103) rfl ?_
      show Steps p.tables e below (T17.setTop (mkF m 104 #[.val (.int u0), .val (.int u1), .val (.int u2), .val (.int (0 : Int32)), .val (.ref b1), .val (.long ((u0.toInt64) - (1 : Int64))), .second, .val (.long ((u0.toInt64) + (1 : Int64))), .second, .val (.int w12), .val (.int (1 : Int32)), .val (.int (if (lcmpW (u0.toInt64) (u0.toInt64)) < (0 : Int32) then (0 : Int32) else (1 : Int32))), .unset, .unset] [(.int (0 : Int32)), (.int (if (lcmpW ((u0.toInt64) - (1 : Int64)) (u0.toInt64)) < (0 : Int32) then (0 : Int32) else (1 : Int32)))])) tt
      refine XS.icmpNo X17.here hx rfl (hb hby at_104) rfl (teq (if_pos (own_ll u0) : (if (lcmpW ((u0.toInt64) - (1 : Int64)) (u0.toInt64)) < (0 : Int32) then (0 : Int32) else (1 : Int32)) = (0 : Int32))).2 ?_
      show Steps p.tables e below (T17.setTop (mkF m 107 #[.val (.int u0), .val (.int u1), .val (.int u2), .val (.int (0 : Int32)), .val (.ref b1), .val (.long ((u0.toInt64) - (1 : Int64))), .second, .val (.long ((u0.toInt64) + (1 : Int64))), .second, .val (.int w12), .val (.int (1 : Int32)), .val (.int (if (lcmpW (u0.toInt64) (u0.toInt64)) < (0 : Int32) then (0 : Int32) else (1 : Int32))), .unset, .unset] [])) tt
      refine XS.iconst X17.here hx rfl (hb hby at_107) ?_
      show Steps p.tables e below (T17.setTop (mkF m 108 #[.val (.int u0), .val (.int u1), .val (.int u2), .val (.int (0 : Int32)), .val (.ref b1), .val (.long ((u0.toInt64) - (1 : Int64))), .second, .val (.long ((u0.toInt64) + (1 : Int64))), .second, .val (.int w12), .val (.int (1 : Int32)), .val (.int (if (lcmpW (u0.toInt64) (u0.toInt64)) < (0 : Int32) then (0 : Int32) else (1 : Int32))), .unset, .unset] [(.int (1 : Int32))])) tt
      refine XS.goto X17.here hx rfl (pc0 := 108) (pc' := 112) rfl (hb hby at_108) (by decide) (by decide) ?_
      show Steps p.tables e below (T17.setTop (mkF m 112 #[.val (.int u0), .val (.int u1), .val (.int u2), .val (.int (0 : Int32)), .val (.ref b1), .val (.long ((u0.toInt64) - (1 : Int64))), .second, .val (.long ((u0.toInt64) + (1 : Int64))), .second, .val (.int w12), .val (.int (1 : Int32)), .val (.int (if (lcmpW (u0.toInt64) (u0.toInt64)) < (0 : Int32) then (0 : Int32) else (1 : Int32))), .unset, .unset] [(.int (1 : Int32))])) tt
      refine XS.istore X17.here hx rfl (hb hby at_112) rfl (l' := #[.val (.int u0), .val (.int u1), .val (.int u2), .val (.int (0 : Int32)), .val (.ref b1), .val (.long ((u0.toInt64) - (1 : Int64))), .second, .val (.long ((u0.toInt64) + (1 : Int64))), .second, .val (.int w12), .val (.int (1 : Int32)), .val (.int (if (lcmpW (u0.toInt64) (u0.toInt64)) < (0 : Int32) then (0 : Int32) else (1 : Int32))), .val (.int (1 : Int32)), .unset]) rfl ?_
      show Steps p.tables e below (T17.setTop (mkF m 114 #[.val (.int u0), .val (.int u1), .val (.int u2), .val (.int (0 : Int32)), .val (.ref b1), .val (.long ((u0.toInt64) - (1 : Int64))), .second, .val (.long ((u0.toInt64) + (1 : Int64))), .second, .val (.int w12), .val (.int (1 : Int32)), .val (.int (if (lcmpW (u0.toInt64) (u0.toInt64)) < (0 : Int32) then (0 : Int32) else (1 : Int32))), .val (.int (1 : Int32)), .unset] [])) tt
      refine XS.aload X17.here hx rfl (hb hby at_114) rfl rfl ?_
      show Steps p.tables e below (T17.setTop (mkF m 116 #[.val (.int u0), .val (.int u1), .val (.int u2), .val (.int (0 : Int32)), .val (.ref b1), .val (.long ((u0.toInt64) - (1 : Int64))), .second, .val (.long ((u0.toInt64) + (1 : Int64))), .second, .val (.int w12), .val (.int (1 : Int32)), .val (.int (if (lcmpW (u0.toInt64) (u0.toInt64)) < (0 : Int32) then (0 : Int32) else (1 : Int32))), .val (.int (1 : Int32)), .unset] [(.ref b1)])) tt
      refine XS.lload X17.here hx rfl (hb hby at_116) rfl ?_
      show Steps p.tables e below (T17.setTop (mkF m 118 #[.val (.int u0), .val (.int u1), .val (.int u2), .val (.int (0 : Int32)), .val (.ref b1), .val (.long ((u0.toInt64) - (1 : Int64))), .second, .val (.long ((u0.toInt64) + (1 : Int64))), .second, .val (.int w12), .val (.int (1 : Int32)), .val (.int (if (lcmpW (u0.toInt64) (u0.toInt64)) < (0 : Int32) then (0 : Int32) else (1 : Int32))), .val (.int (1 : Int32)), .unset] [(.long ((u0.toInt64) + (1 : Int64))), (.ref b1)])) tt
      refine XS.l2dS X17.here hx rfl (hb hby at_118) rfl rfl ?_
      exact kk
    obtain ⟨cq18, kq18, q18a, q18b, q18c⟩ := isOf hZ e17 f15
    obtain ⟨_, _, ⟨T18, L18, k18, n18⟩, -, X18, ⟨Lc18, hQ18, l18, y18, z18⟩, st18⟩ := X17.virtualBack hx (y := (⟨"com/example/purloin/measure/Bar", "met", "(D)Z"⟩ : MethodName)) (z := (⟨"com/example/purloin/measure/Bar", "met", "(D)Z"⟩ : MethodName)) hown (mvT hZ (hw _ (mw 28 rfl))) (mvT hZ (hw _ (mw 29 rfl))) (notFace_of_selects (args := #[]) (mvT hZ (hw _ (mw 31 rfl)))) (mvT hZ (hw _ (mw 31 rfl))) (mvT hZ (hw _ (mw 30 rfl))) (by decide) (backOf (W := 0) (rmm0 l Z a0 hw [] b1 ((u0.toInt64) + (1 : Int64)) (u0.toInt64) T10.heap n0 f13 P10_1 P10_2 (own_bh u0) (own_i u0)) hZ (hw _ (mw 32 rfl)) (hw _ (mw 2 rfl)) (by decide) (by decide)) q18a q18c (g := (mkF m 119 #[.val (.int u0), .val (.int u1), .val (.int u2), .val (.int (0 : Int32)), .val (.ref b1), .val (.long ((u0.toInt64) - (1 : Int64))), .second, .val (.long ((u0.toInt64) + (1 : Int64))), .second, .val (.int w12), .val (.int (1 : Int32)), .val (.int (if (lcmpW (u0.toInt64) (u0.toInt64)) < (0 : Int32) then (0 : Int32) else (1 : Int32))), .val (.int (1 : Int32)), .unset] [(.double (FP.l2d ((u0.toInt64) + (1 : Int64)))), (.ref b1)])) rfl (by rw [hml]; rfl) (Steps.refl _) (argsL := [(.double (FP.l2d ((u0.toInt64) + (1 : Int64))))]) (rest := []) (lenOf pd_2 rfl) rfl (by show 2 * 0 + _ ≤ _; exact Nat.le_of_eq rfl) (hb hby at_119) (fun _ _ => ⟨rfl, e17, (by decide : 3 + 0 ≤ _), (by decide : 19 + 0 ≤ _)⟩)
    dsimp only [Pt.U, Pt.locs, Pt.cells, Pt.slots] at X18 l18 y18 z18 st18 hQ18
    subst l18 y18 z18
    obtain ⟨rfl, N18q, e18⟩ := hQ18
    have N18 := Fr.app N17 N18q
    refine GoalW.tr (B := T18.setTop (mkF m 122 #[.val (.int u0), .val (.int u1), .val (.int u2), .val (.int (0 : Int32)), .val (.ref b1), .val (.long ((u0.toInt64) - (1 : Int64))), .second, .val (.long ((u0.toInt64) + (1 : Int64))), .second, .val (.int w12), .val (.int (1 : Int32)), .val (.int (if (lcmpW (u0.toInt64) (u0.toInt64)) < (0 : Int32) then (0 : Int32) else (1 : Int32))), .val (.int (1 : Int32)), .unset] [(.int (if (lcmpW ((u0.toInt64) + (1 : Int64)) (u0.toInt64)) < (0 : Int32) then (0 : Int32) else (1 : Int32)))])) st18 ?_
    refine GoalW.to (B := T18.setTop (mkF m 166 #[.val (.int u0), .val (.int u1), .val (.int u2), .val (.int (0 : Int32)), .val (.ref b1), .val (.long ((u0.toInt64) - (1 : Int64))), .second, .val (.long ((u0.toInt64) + (1 : Int64))), .second, .val (.int w12), .val (.int (1 : Int32)), .val (.int (if (lcmpW (u0.toInt64) (u0.toInt64)) < (0 : Int32) then (0 : Int32) else (1 : Int32))), .val (.int (1 : Int32)), .val (.int (1 : Int32))] [(.int (1 : Int32))])) (fun tt kk => ?_) ?_
    · show Steps p.tables e below (T18.setTop (mkF m 122 #[.val (.int u0), .val (.int u1), .val (.int u2), .val (.int (0 : Int32)), .val (.ref b1), .val (.long ((u0.toInt64) - (1 : Int64))), .second, .val (.long ((u0.toInt64) + (1 : Int64))), .second, .val (.int w12), .val (.int (1 : Int32)), .val (.int (if (lcmpW (u0.toInt64) (u0.toInt64)) < (0 : Int32) then (0 : Int32) else (1 : Int32))), .val (.int (1 : Int32)), .unset] [(.int (if (lcmpW ((u0.toInt64) + (1 : Int64)) (u0.toInt64)) < (0 : Int32) then (0 : Int32) else (1 : Int32)))])) tt
      refine XS.iloadN X18.here hx rfl (hb hby at_122) rfl ?_
      show Steps p.tables e below (T18.setTop (mkF m 123 #[.val (.int u0), .val (.int u1), .val (.int u2), .val (.int (0 : Int32)), .val (.ref b1), .val (.long ((u0.toInt64) - (1 : Int64))), .second, .val (.long ((u0.toInt64) + (1 : Int64))), .second, .val (.int w12), .val (.int (1 : Int32)), .val (.int (if (lcmpW (u0.toInt64) (u0.toInt64)) < (0 : Int32) then (0 : Int32) else (1 : Int32))), .val (.int (1 : Int32)), .unset] [(.int (0 : Int32)), (.int (if (lcmpW ((u0.toInt64) + (1 : Int64)) (u0.toInt64)) < (0 : Int32) then (0 : Int32) else (1 : Int32)))])) tt
      refine XS.ifNo X18.here hx rfl (hb hby at_123) rfl ((if0 _ _).trans (teq (rfl : (0 : Int32) = (0 : Int32))).2) ?_
      show Steps p.tables e below (T18.setTop (mkF m 126 #[.val (.int u0), .val (.int u1), .val (.int u2), .val (.int (0 : Int32)), .val (.ref b1), .val (.long ((u0.toInt64) - (1 : Int64))), .second, .val (.long ((u0.toInt64) + (1 : Int64))), .second, .val (.int w12), .val (.int (1 : Int32)), .val (.int (if (lcmpW (u0.toInt64) (u0.toInt64)) < (0 : Int32) then (0 : Int32) else (1 : Int32))), .val (.int (1 : Int32)), .unset] [(.int (if (lcmpW ((u0.toInt64) + (1 : Int64)) (u0.toInt64)) < (0 : Int32) then (0 : Int32) else (1 : Int32)))])) tt
      refine XS.iconst X18.here hx rfl (hb hby at_126) ?_
      show Steps p.tables e below (T18.setTop (mkF m 127 #[.val (.int u0), .val (.int u1), .val (.int u2), .val (.int (0 : Int32)), .val (.ref b1), .val (.long ((u0.toInt64) - (1 : Int64))), .second, .val (.long ((u0.toInt64) + (1 : Int64))), .second, .val (.int w12), .val (.int (1 : Int32)), .val (.int (if (lcmpW (u0.toInt64) (u0.toInt64)) < (0 : Int32) then (0 : Int32) else (1 : Int32))), .val (.int (1 : Int32)), .unset] [(.int (1 : Int32)), (.int (if (lcmpW ((u0.toInt64) + (1 : Int64)) (u0.toInt64)) < (0 : Int32) then (0 : Int32) else (1 : Int32)))])) tt
      refine XS.goto X18.here hx rfl (pc0 := 127) (pc' := 131) rfl (hb hby at_127) (by decide) (by decide) ?_
      show Steps p.tables e below (T18.setTop (mkF m 131 #[.val (.int u0), .val (.int u1), .val (.int u2), .val (.int (0 : Int32)), .val (.ref b1), .val (.long ((u0.toInt64) - (1 : Int64))), .second, .val (.long ((u0.toInt64) + (1 : Int64))), .second, .val (.int w12), .val (.int (1 : Int32)), .val (.int (if (lcmpW (u0.toInt64) (u0.toInt64)) < (0 : Int32) then (0 : Int32) else (1 : Int32))), .val (.int (1 : Int32)), .unset] [(.int (1 : Int32)), (.int (if (lcmpW ((u0.toInt64) + (1 : Int64)) (u0.toInt64)) < (0 : Int32) then (0 : Int32) else (1 : Int32)))])) tt
      refine XS.icmpNo X18.here hx rfl (hb hby at_131) rfl (teq (if_neg (own_lh u0) : (if (lcmpW ((u0.toInt64) + (1 : Int64)) (u0.toInt64)) < (0 : Int32) then (0 : Int32) else (1 : Int32)) = (1 : Int32))).2 ?_
      show Steps p.tables e below (T18.setTop (mkF m 134 #[.val (.int u0), .val (.int u1), .val (.int u2), .val (.int (0 : Int32)), .val (.ref b1), .val (.long ((u0.toInt64) - (1 : Int64))), .second, .val (.long ((u0.toInt64) + (1 : Int64))), .second, .val (.int w12), .val (.int (1 : Int32)), .val (.int (if (lcmpW (u0.toInt64) (u0.toInt64)) < (0 : Int32) then (0 : Int32) else (1 : Int32))), .val (.int (1 : Int32)), .unset] [])) tt
      refine XS.iconst X18.here hx rfl (hb hby at_134) ?_
      show Steps p.tables e below (T18.setTop (mkF m 135 #[.val (.int u0), .val (.int u1), .val (.int u2), .val (.int (0 : Int32)), .val (.ref b1), .val (.long ((u0.toInt64) - (1 : Int64))), .second, .val (.long ((u0.toInt64) + (1 : Int64))), .second, .val (.int w12), .val (.int (1 : Int32)), .val (.int (if (lcmpW (u0.toInt64) (u0.toInt64)) < (0 : Int32) then (0 : Int32) else (1 : Int32))), .val (.int (1 : Int32)), .unset] [(.int (1 : Int32))])) tt
      refine XS.goto X18.here hx rfl (pc0 := 135) (pc' := 139) rfl (hb hby at_135) (by decide) (by decide) ?_
      show Steps p.tables e below (T18.setTop (mkF m 139 #[.val (.int u0), .val (.int u1), .val (.int u2), .val (.int (0 : Int32)), .val (.ref b1), .val (.long ((u0.toInt64) - (1 : Int64))), .second, .val (.long ((u0.toInt64) + (1 : Int64))), .second, .val (.int w12), .val (.int (1 : Int32)), .val (.int (if (lcmpW (u0.toInt64) (u0.toInt64)) < (0 : Int32) then (0 : Int32) else (1 : Int32))), .val (.int (1 : Int32)), .unset] [(.int (1 : Int32))])) tt
      refine XS.istore X18.here hx rfl (hb hby at_139) rfl (l' := #[.val (.int u0), .val (.int u1), .val (.int u2), .val (.int (0 : Int32)), .val (.ref b1), .val (.long ((u0.toInt64) - (1 : Int64))), .second, .val (.long ((u0.toInt64) + (1 : Int64))), .second, .val (.int w12), .val (.int (1 : Int32)), .val (.int (if (lcmpW (u0.toInt64) (u0.toInt64)) < (0 : Int32) then (0 : Int32) else (1 : Int32))), .val (.int (1 : Int32)), .val (.int (1 : Int32))]) rfl ?_
      show Steps p.tables e below (T18.setTop (mkF m 141 #[.val (.int u0), .val (.int u1), .val (.int u2), .val (.int (0 : Int32)), .val (.ref b1), .val (.long ((u0.toInt64) - (1 : Int64))), .second, .val (.long ((u0.toInt64) + (1 : Int64))), .second, .val (.int w12), .val (.int (1 : Int32)), .val (.int (if (lcmpW (u0.toInt64) (u0.toInt64)) < (0 : Int32) then (0 : Int32) else (1 : Int32))), .val (.int (1 : Int32)), .val (.int (1 : Int32))] [])) tt
      refine XS.iload X18.here hx rfl (hb hby at_141) rfl ?_
      show Steps p.tables e below (T18.setTop (mkF m 143 #[.val (.int u0), .val (.int u1), .val (.int u2), .val (.int (0 : Int32)), .val (.ref b1), .val (.long ((u0.toInt64) - (1 : Int64))), .second, .val (.long ((u0.toInt64) + (1 : Int64))), .second, .val (.int w12), .val (.int (1 : Int32)), .val (.int (if (lcmpW (u0.toInt64) (u0.toInt64)) < (0 : Int32) then (0 : Int32) else (1 : Int32))), .val (.int (1 : Int32)), .val (.int (1 : Int32))] [(.int (1 : Int32))])) tt
      refine XS.ifNo X18.here hx rfl (hb hby at_143) rfl ((if0 _ _).trans (feq ((by decide) : ¬ ((1 : Int32) = (0 : Int32)))).1) ?_
      show Steps p.tables e below (T18.setTop (mkF m 146 #[.val (.int u0), .val (.int u1), .val (.int u2), .val (.int (0 : Int32)), .val (.ref b1), .val (.long ((u0.toInt64) - (1 : Int64))), .second, .val (.long ((u0.toInt64) + (1 : Int64))), .second, .val (.int w12), .val (.int (1 : Int32)), .val (.int (if (lcmpW (u0.toInt64) (u0.toInt64)) < (0 : Int32) then (0 : Int32) else (1 : Int32))), .val (.int (1 : Int32)), .val (.int (1 : Int32))] [])) tt
      refine XS.iload X18.here hx rfl (hb hby at_146) rfl ?_
      show Steps p.tables e below (T18.setTop (mkF m 148 #[.val (.int u0), .val (.int u1), .val (.int u2), .val (.int (0 : Int32)), .val (.ref b1), .val (.long ((u0.toInt64) - (1 : Int64))), .second, .val (.long ((u0.toInt64) + (1 : Int64))), .second, .val (.int w12), .val (.int (1 : Int32)), .val (.int (if (lcmpW (u0.toInt64) (u0.toInt64)) < (0 : Int32) then (0 : Int32) else (1 : Int32))), .val (.int (1 : Int32)), .val (.int (1 : Int32))] [(.int (if (lcmpW (u0.toInt64) (u0.toInt64)) < (0 : Int32) then (0 : Int32) else (1 : Int32)))])) tt
      refine XS.ifNo X18.here hx rfl (hb hby at_148) rfl ((if0 _ _).trans (feq (by simp [own_gt, own_lt, Int32.lt_irrefl] : ¬ ((if (lcmpW (u0.toInt64) (u0.toInt64)) < (0 : Int32) then (0 : Int32) else (1 : Int32)) = (0 : Int32)))).1) ?_
      show Steps p.tables e below (T18.setTop (mkF m 151 #[.val (.int u0), .val (.int u1), .val (.int u2), .val (.int (0 : Int32)), .val (.ref b1), .val (.long ((u0.toInt64) - (1 : Int64))), .second, .val (.long ((u0.toInt64) + (1 : Int64))), .second, .val (.int w12), .val (.int (1 : Int32)), .val (.int (if (lcmpW (u0.toInt64) (u0.toInt64)) < (0 : Int32) then (0 : Int32) else (1 : Int32))), .val (.int (1 : Int32)), .val (.int (1 : Int32))] [])) tt
      refine XS.iload X18.here hx rfl (hb hby at_151) rfl ?_
      show Steps p.tables e below (T18.setTop (mkF m 153 #[.val (.int u0), .val (.int u1), .val (.int u2), .val (.int (0 : Int32)), .val (.ref b1), .val (.long ((u0.toInt64) - (1 : Int64))), .second, .val (.long ((u0.toInt64) + (1 : Int64))), .second, .val (.int w12), .val (.int (1 : Int32)), .val (.int (if (lcmpW (u0.toInt64) (u0.toInt64)) < (0 : Int32) then (0 : Int32) else (1 : Int32))), .val (.int (1 : Int32)), .val (.int (1 : Int32))] [(.int (1 : Int32))])) tt
      refine XS.ifNo X18.here hx rfl (hb hby at_153) rfl ((if0 _ _).trans (feq ((by decide) : ¬ ((1 : Int32) = (0 : Int32)))).1) ?_
      show Steps p.tables e below (T18.setTop (mkF m 156 #[.val (.int u0), .val (.int u1), .val (.int u2), .val (.int (0 : Int32)), .val (.ref b1), .val (.long ((u0.toInt64) - (1 : Int64))), .second, .val (.long ((u0.toInt64) + (1 : Int64))), .second, .val (.int w12), .val (.int (1 : Int32)), .val (.int (if (lcmpW (u0.toInt64) (u0.toInt64)) < (0 : Int32) then (0 : Int32) else (1 : Int32))), .val (.int (1 : Int32)), .val (.int (1 : Int32))] [])) tt
      refine XS.iload X18.here hx rfl (hb hby at_156) rfl ?_
      show Steps p.tables e below (T18.setTop (mkF m 158 #[.val (.int u0), .val (.int u1), .val (.int u2), .val (.int (0 : Int32)), .val (.ref b1), .val (.long ((u0.toInt64) - (1 : Int64))), .second, .val (.long ((u0.toInt64) + (1 : Int64))), .second, .val (.int w12), .val (.int (1 : Int32)), .val (.int (if (lcmpW (u0.toInt64) (u0.toInt64)) < (0 : Int32) then (0 : Int32) else (1 : Int32))), .val (.int (1 : Int32)), .val (.int (1 : Int32))] [(.int (1 : Int32))])) tt
      refine XS.ifNo X18.here hx rfl (hb hby at_158) rfl ((if0 _ _).trans (feq ((by decide) : ¬ ((1 : Int32) = (0 : Int32)))).1) ?_
      show Steps p.tables e below (T18.setTop (mkF m 161 #[.val (.int u0), .val (.int u1), .val (.int u2), .val (.int (0 : Int32)), .val (.ref b1), .val (.long ((u0.toInt64) - (1 : Int64))), .second, .val (.long ((u0.toInt64) + (1 : Int64))), .second, .val (.int w12), .val (.int (1 : Int32)), .val (.int (if (lcmpW (u0.toInt64) (u0.toInt64)) < (0 : Int32) then (0 : Int32) else (1 : Int32))), .val (.int (1 : Int32)), .val (.int (1 : Int32))] [])) tt
      refine XS.iconst X18.here hx rfl (hb hby at_161) ?_
      show Steps p.tables e below (T18.setTop (mkF m 162 #[.val (.int u0), .val (.int u1), .val (.int u2), .val (.int (0 : Int32)), .val (.ref b1), .val (.long ((u0.toInt64) - (1 : Int64))), .second, .val (.long ((u0.toInt64) + (1 : Int64))), .second, .val (.int w12), .val (.int (1 : Int32)), .val (.int (if (lcmpW (u0.toInt64) (u0.toInt64)) < (0 : Int32) then (0 : Int32) else (1 : Int32))), .val (.int (1 : Int32)), .val (.int (1 : Int32))] [(.int (1 : Int32))])) tt
      refine XS.goto X18.here hx rfl (pc0 := 162) (pc' := 166) rfl (hb hby at_162) (by decide) (by decide) ?_
      exact kk
    have f19 : k2 ≤ T10.heap.size := (Nat.le_trans hk2 K10.1)
    exact GoalW.retV (s := s) (vm0 := T2.vm) X18 hS2 hx Bd.returns rfl (Or.inl ⟨rfl, Or.inr (Or.inl rfl), _, rfl⟩) (hb hby at_166) hlk e18 f19 ⟨rfl, N18⟩ (by decide) (by decide)
  · refine GoalW.to (B := s₁.setTop (mkF m 12 #[.val (.int u0), .val (.int u1), .val (.int u2), .val (.int (1 : Int32)), .unset, .unset, .unset, .unset, .unset, .unset, .unset, .unset, .unset, .unset] [])) (fun tt kk => ?_) ?_
    · show Steps p.tables e below (s₁.setTop (mkF m 3 #[.val (.int u0), .val (.int u1), .val (.int u2), .unset, .unset, .unset, .unset, .unset, .unset, .unset, .unset, .unset, .unset, .unset] [(.int (u2 &&& (1 : Int32)))])) tt
      refine XS.ifNo X0.here hx rfl (hb hby at_3) rfl ((if0 _ _).trans (feq hup).1) ?_
      show Steps p.tables e below (s₁.setTop (mkF m 6 #[.val (.int u0), .val (.int u1), .val (.int u2), .unset, .unset, .unset, .unset, .unset, .unset, .unset, .unset, .unset, .unset, .unset] [])) tt
      refine XS.iconst X0.here hx rfl (hb hby at_6) ?_
      show Steps p.tables e below (s₁.setTop (mkF m 7 #[.val (.int u0), .val (.int u1), .val (.int u2), .unset, .unset, .unset, .unset, .unset, .unset, .unset, .unset, .unset, .unset, .unset] [(.int (1 : Int32))])) tt
      refine XS.goto X0.here hx rfl (pc0 := 7) (pc' := 11) rfl (hb hby at_7) (by decide) (by decide) ?_
      show Steps p.tables e below (s₁.setTop (mkF m 11 #[.val (.int u0), .val (.int u1), .val (.int u2), .unset, .unset, .unset, .unset, .unset, .unset, .unset, .unset, .unset, .unset, .unset] [(.int (1 : Int32))])) tt
      refine XS.istoreN X0.here hx rfl (hb hby at_11) rfl (l' := #[.val (.int u0), .val (.int u1), .val (.int u2), .val (.int (1 : Int32)), .unset, .unset, .unset, .unset, .unset, .unset, .unset, .unset, .unset, .unset]) rfl ?_
      exact kk
    obtain ⟨T20, h20, X20, e20, E20, A20, D20, -, st20⟩ := newO X0 hx hZ hown (hw _ (mw 0 rfl)) (hw _ (mw 1 rfl)) (hw _ (mw 2 rfl)) e0 (g := (mkF m 12 #[.val (.int u0), .val (.int u1), .val (.int u2), .val (.int (1 : Int32)), .unset, .unset, .unset, .unset, .unset, .unset, .unset, .unset, .unset, .unset] [])) rfl (hb hby at_12) (by decide) (by decide)
    obtain ⟨b20, g20⟩ : ∃ z, z = h0.size := ⟨_, rfl⟩
    rw [← g20] at A20 D20 st20
    have g_b20 : n0 ≤ b20 := Nat.le_trans Z0 (Nat.le_of_eq g20.symm)
    have F_text_b20 : Fld Z h20 b20 "com/example/purloin/measure/Bar" "text" "Ljava/lang/String;" .null := D20 (Or.inr (hw _ (mw 23 rfl))) (ty := (.object "java/lang/String")) (by decide)
    have F_limit_b20 : Fld Z h20 b20 "com/example/purloin/measure/Bar" "limit" "D" (.double (0 : UInt64)) := D20 (Or.inr (hw _ (mw 25 rfl))) (ty := .double) (by decide)
    have F_upper_b20 : Fld Z h20 b20 "com/example/purloin/measure/Bar" "upper" "Z" (.int (0 : Int32)) := D20 (Or.inr (hw _ (mw 27 rfl))) (ty := .boolean) (by decide)
    refine GoalW.to (B := T20.setTop (mkF m 15 #[.val (.int u0), .val (.int u1), .val (.int u2), .val (.int (1 : Int32)), .unset, .unset, .unset, .unset, .unset, .unset, .unset, .unset, .unset, .unset] [(.ref b20)])) st20 ?_
    refine GoalW.to (B := T20.setTop (mkF m 16 #[.val (.int u0), .val (.int u1), .val (.int u2), .val (.int (1 : Int32)), .unset, .unset, .unset, .unset, .unset, .unset, .unset, .unset, .unset, .unset] [(.ref b20), (.ref b20)])) (fun tt kk => ?_) ?_
    · show Steps p.tables e below (T20.setTop (mkF m 15 #[.val (.int u0), .val (.int u1), .val (.int u2), .val (.int (1 : Int32)), .unset, .unset, .unset, .unset, .unset, .unset, .unset, .unset, .unset, .unset] [(.ref b20)])) tt
      refine XS.dup X20.here hx rfl (hb hby at_15) rfl rfl ?_
      exact kk
    have f22 : n0 ≤ h20.size := (Nat.le_trans Z0 E20.1)
    have f23 : s.heap.size ≤ h20.size := (Nat.le_trans hk00 E20.1)
    obtain ⟨b21, T21, h21, k21, X21, e21, E21, hS21, hk21, hZ, hown, st21⟩ := ldcS (s := s) (vm0 := s.vm) X20 hx hZ hown (hw _ (mw 3 rfl)) (fun d hd => hw d ((by decide +kernel : ∀ d ∈ Bundle.stringAtoms, d ∈ tables_1) d hd)) e20 ((State.WarmedH.refl s).since s.heap.size) f23 (g := (mkF m 16 #[.val (.int u0), .val (.int u1), .val (.int u2), .val (.int (1 : Int32)), .unset, .unset, .unset, .unset, .unset, .unset, .unset, .unset, .unset, .unset] [(.ref b20), (.ref b20)])) rfl (hb hby at_16) (n := 12) (by decide) (by decide) (by decide) (by decide)
    refine GoalW.to (B := T21.setTop (mkF m 18 #[.val (.int u0), .val (.int u1), .val (.int u2), .val (.int (1 : Int32)), .unset, .unset, .unset, .unset, .unset, .unset, .unset, .unset, .unset, .unset] [(.ref b21), (.ref b20), (.ref b20)])) st21 ?_
    refine GoalW.to (B := T21.setTop (mkF m 21 #[.val (.int u0), .val (.int u1), .val (.int u2), .val (.int (1 : Int32)), .unset, .unset, .unset, .unset, .unset, .unset, .unset, .unset, .unset, .unset] [(.int (1 : Int32)), (.double (FP.l2d (u0.toInt64))), (.ref b21), (.ref b20), (.ref b20)])) (fun tt kk => ?_) ?_
    · show Steps p.tables e below (T21.setTop (mkF m 18 #[.val (.int u0), .val (.int u1), .val (.int u2), .val (.int (1 : Int32)), .unset, .unset, .unset, .unset, .unset, .unset, .unset, .unset, .unset, .unset] [(.ref b21), (.ref b20), (.ref b20)])) tt
      refine XS.iloadN X21.here hx rfl (hb hby at_18) rfl ?_
      show Steps p.tables e below (T21.setTop (mkF m 19 #[.val (.int u0), .val (.int u1), .val (.int u2), .val (.int (1 : Int32)), .unset, .unset, .unset, .unset, .unset, .unset, .unset, .unset, .unset, .unset] [(.int u0), (.ref b21), (.ref b20), (.ref b20)])) tt
      refine XS.i2dS X21.here hx rfl (hb hby at_19) rfl (i2d_w _) ?_
      show Steps p.tables e below (T21.setTop (mkF m 20 #[.val (.int u0), .val (.int u1), .val (.int u2), .val (.int (1 : Int32)), .unset, .unset, .unset, .unset, .unset, .unset, .unset, .unset, .unset, .unset] [(.double (FP.l2d (u0.toInt64))), (.ref b21), (.ref b20), (.ref b20)])) tt
      refine XS.iloadN X21.here hx rfl (hb hby at_20) rfl ?_
      exact kk
    have f24 : Exa Z h21 b20 "com/example/purloin/measure/Bar" := (A20.ext E21)
    have f25 : Fld Z h21 b20 "com/example/purloin/measure/Bar" "text" "Ljava/lang/String;" .null := (F_text_b20.ext E21)
    have f26 : Fld Z h21 b20 "com/example/purloin/measure/Bar" "limit" "D" (.double (0 : UInt64)) := (F_limit_b20.ext E21)
    have f27 : Fld Z h21 b20 "com/example/purloin/measure/Bar" "upper" "Z" (.int (0 : Int32)) := (F_upper_b20.ext E21)
    have f28 : n0 ≤ h21.size := (Nat.le_trans f22 E21.1)
    obtain ⟨_, _, ⟨T29, L29, k29, n29⟩, -, X29, ⟨Lc29, hQ29, l29, y29, z29⟩, st29⟩ := X21.specialBack hx (y := (⟨"com/example/purloin/measure/Bar", "<init>", "(Ljava/lang/String;DZ)V"⟩ : MethodName)) rfl hown (mvT hZ (hw _ (mw 11 rfl))) (mvT hZ (hw _ (mw 12 rfl))) (mvT hZ (hw _ (mw 13 rfl))) (by decide) (backOf (W := 1) (rmN1 l Z a0 hw [] b20 b21 (FP.l2d (u0.toInt64)) h21 n0 f28 f24 f25 f26 f27 g_b20) hZ (hw _ (mw 13 rfl)) (hw _ (mw 2 rfl)) (by decide) (by decide)) (g := (mkF m 21 #[.val (.int u0), .val (.int u1), .val (.int u2), .val (.int (1 : Int32)), .unset, .unset, .unset, .unset, .unset, .unset, .unset, .unset, .unset, .unset] [(.int (1 : Int32)), (.double (FP.l2d (u0.toInt64))), (.ref b21), (.ref b20), (.ref b20)])) rfl (by rw [hml]; rfl) (Steps.refl _) (a := b20) (argsL := [(.ref b21), (.double (FP.l2d (u0.toInt64))), (.int (1 : Int32))]) (rest := [(.ref b20)]) (lenOf pd_0 rfl) rfl (by show 2 * 0 + _ ≤ _; exact Nat.le_of_eq rfl) (hb hby at_21) (fun _ _ => ⟨rfl, e21, (by decide : 3 + 0 ≤ _), (by decide : 19 + 0 ≤ _)⟩)
    dsimp only [Pt.U, Pt.locs, Pt.cells, Pt.slots] at X29 l29 y29 z29 st29 hQ29
    subst l29 y29 z29
    obtain ⟨rfl, N29q, K29, P29_0, P29_1, P29_2⟩ := hQ29
    have N29 := Fr.app N0 N29q
    refine GoalW.tr (B := T29.setTop (mkF m 24 #[.val (.int u0), .val (.int u1), .val (.int u2), .val (.int (1 : Int32)), .unset, .unset, .unset, .unset, .unset, .unset, .unset, .unset, .unset, .unset] [(.ref b20)])) st29 ?_
    refine GoalW.to (B := T29.setTop (mkF m 44 #[.val (.int u0), .val (.int u1), .val (.int u2), .val (.int (1 : Int32)), .val (.ref b20), .val (.long ((u0.toInt64) - (1 : Int64))), .second, .val (.long ((u0.toInt64) + (1 : Int64))), .second, .unset, .unset, .unset, .unset, .unset] [(.int u0), (.int u1)])) (fun tt kk => ?_) ?_
    · show Steps p.tables e below (T29.setTop (mkF m 24 #[.val (.int u0), .val (.int u1), .val (.int u2), .val (.int (1 : Int32)), .unset, .unset, .unset, .unset, .unset, .unset, .unset, .unset, .unset, .unset] [(.ref b20)])) tt
      refine XS.astore X29.here hx rfl (hb hby at_24) rfl rfl (l' := #[.val (.int u0), .val (.int u1), .val (.int u2), .val (.int (1 : Int32)), .val (.ref b20), .unset, .unset, .unset, .unset, .unset, .unset, .unset, .unset, .unset]) rfl ?_
      show Steps p.tables e below (T29.setTop (mkF m 26 #[.val (.int u0), .val (.int u1), .val (.int u2), .val (.int (1 : Int32)), .val (.ref b20), .unset, .unset, .unset, .unset, .unset, .unset, .unset, .unset, .unset] [])) tt
      refine XS.iloadN X29.here hx rfl (hb hby at_26) rfl ?_
      show Steps p.tables e below (T29.setTop (mkF m 27 #[.val (.int u0), .val (.int u1), .val (.int u2), .val (.int (1 : Int32)), .val (.ref b20), .unset, .unset, .unset, .unset, .unset, .unset, .unset, .unset, .unset] [(.int u0)])) tt
      refine XS.i2l X29.here hx rfl (hb hby at_27) rfl ?_
      show Steps p.tables e below (T29.setTop (mkF m 28 #[.val (.int u0), .val (.int u1), .val (.int u2), .val (.int (1 : Int32)), .val (.ref b20), .unset, .unset, .unset, .unset, .unset, .unset, .unset, .unset, .unset] [(.long (u0.toInt64))])) tt
      refine XS.lconst X29.here hx rfl (hb hby at_28) ?_
      show Steps p.tables e below (T29.setTop (mkF m 29 #[.val (.int u0), .val (.int u1), .val (.int u2), .val (.int (1 : Int32)), .val (.ref b20), .unset, .unset, .unset, .unset, .unset, .unset, .unset, .unset, .unset] [(.long (1 : Int64)), (.long (u0.toInt64))])) tt
      refine XS.lsub X29.here hx rfl (hb hby at_29) rfl ?_
      show Steps p.tables e below (T29.setTop (mkF m 30 #[.val (.int u0), .val (.int u1), .val (.int u2), .val (.int (1 : Int32)), .val (.ref b20), .unset, .unset, .unset, .unset, .unset, .unset, .unset, .unset, .unset] [(.long ((u0.toInt64) - (1 : Int64)))])) tt
      refine XS.lstore X29.here hx rfl (hb hby at_30) rfl (l' := #[.val (.int u0), .val (.int u1), .val (.int u2), .val (.int (1 : Int32)), .val (.ref b20), .val (.long ((u0.toInt64) - (1 : Int64))), .second, .unset, .unset, .unset, .unset, .unset, .unset, .unset]) rfl ?_
      show Steps p.tables e below (T29.setTop (mkF m 32 #[.val (.int u0), .val (.int u1), .val (.int u2), .val (.int (1 : Int32)), .val (.ref b20), .val (.long ((u0.toInt64) - (1 : Int64))), .second, .unset, .unset, .unset, .unset, .unset, .unset, .unset] [])) tt
      refine XS.iloadN X29.here hx rfl (hb hby at_32) rfl ?_
      show Steps p.tables e below (T29.setTop (mkF m 33 #[.val (.int u0), .val (.int u1), .val (.int u2), .val (.int (1 : Int32)), .val (.ref b20), .val (.long ((u0.toInt64) - (1 : Int64))), .second, .unset, .unset, .unset, .unset, .unset, .unset, .unset] [(.int u0)])) tt
      refine XS.i2l X29.here hx rfl (hb hby at_33) rfl ?_
      show Steps p.tables e below (T29.setTop (mkF m 34 #[.val (.int u0), .val (.int u1), .val (.int u2), .val (.int (1 : Int32)), .val (.ref b20), .val (.long ((u0.toInt64) - (1 : Int64))), .second, .unset, .unset, .unset, .unset, .unset, .unset, .unset] [(.long (u0.toInt64))])) tt
      refine XS.lconst X29.here hx rfl (hb hby at_34) ?_
      show Steps p.tables e below (T29.setTop (mkF m 35 #[.val (.int u0), .val (.int u1), .val (.int u2), .val (.int (1 : Int32)), .val (.ref b20), .val (.long ((u0.toInt64) - (1 : Int64))), .second, .unset, .unset, .unset, .unset, .unset, .unset, .unset] [(.long (1 : Int64)), (.long (u0.toInt64))])) tt
      refine XS.ladd X29.here hx rfl (hb hby at_35) rfl ?_
      show Steps p.tables e below (T29.setTop (mkF m 36 #[.val (.int u0), .val (.int u1), .val (.int u2), .val (.int (1 : Int32)), .val (.ref b20), .val (.long ((u0.toInt64) - (1 : Int64))), .second, .unset, .unset, .unset, .unset, .unset, .unset, .unset] [(.long ((u0.toInt64) + (1 : Int64)))])) tt
      refine XS.lstore X29.here hx rfl (hb hby at_36) rfl (l' := #[.val (.int u0), .val (.int u1), .val (.int u2), .val (.int (1 : Int32)), .val (.ref b20), .val (.long ((u0.toInt64) - (1 : Int64))), .second, .val (.long ((u0.toInt64) + (1 : Int64))), .second, .unset, .unset, .unset, .unset, .unset]) rfl ?_
      show Steps p.tables e below (T29.setTop (mkF m 38 #[.val (.int u0), .val (.int u1), .val (.int u2), .val (.int (1 : Int32)), .val (.ref b20), .val (.long ((u0.toInt64) - (1 : Int64))), .second, .val (.long ((u0.toInt64) + (1 : Int64))), .second, .unset, .unset, .unset, .unset, .unset] [])) tt
      refine XS.iloadN X29.here hx rfl (hb hby at_38) rfl ?_
      show Steps p.tables e below (T29.setTop (mkF m 39 #[.val (.int u0), .val (.int u1), .val (.int u2), .val (.int (1 : Int32)), .val (.ref b20), .val (.long ((u0.toInt64) - (1 : Int64))), .second, .val (.long ((u0.toInt64) + (1 : Int64))), .second, .unset, .unset, .unset, .unset, .unset] [(.int (1 : Int32))])) tt
      refine XS.ifNo X29.here hx rfl (hb hby at_39) rfl ((if0 _ _).trans (feq ((by decide) : ¬ ((1 : Int32) = (0 : Int32)))).1) ?_
      show Steps p.tables e below (T29.setTop (mkF m 42 #[.val (.int u0), .val (.int u1), .val (.int u2), .val (.int (1 : Int32)), .val (.ref b20), .val (.long ((u0.toInt64) - (1 : Int64))), .second, .val (.long ((u0.toInt64) + (1 : Int64))), .second, .unset, .unset, .unset, .unset, .unset] [])) tt
      refine XS.iloadN X29.here hx rfl (hb hby at_42) rfl ?_
      show Steps p.tables e below (T29.setTop (mkF m 43 #[.val (.int u0), .val (.int u1), .val (.int u2), .val (.int (1 : Int32)), .val (.ref b20), .val (.long ((u0.toInt64) - (1 : Int64))), .second, .val (.long ((u0.toInt64) + (1 : Int64))), .second, .unset, .unset, .unset, .unset, .unset] [(.int u1)])) tt
      refine XS.iloadN X29.here hx rfl (hb hby at_43) rfl ?_
      exact kk
    obtain ⟨w31, hw31⟩ : ∃ z : Int32, z = if u0 < u1 then (0 : Int32) else (1 : Int32) := ⟨_, rfl⟩
    refine GoalW.to (B := T29.setTop (mkF m 65 #[.val (.int u0), .val (.int u1), .val (.int u2), .val (.int (1 : Int32)), .val (.ref b20), .val (.long ((u0.toInt64) - (1 : Int64))), .second, .val (.long ((u0.toInt64) + (1 : Int64))), .second, .unset, .unset, .unset, .unset, .unset] [(.int w31)])) (fun tt kk => ?_) ?_
    · by_cases hc30 : u0 < u1
      · have qw31 : w31 = (0 : Int32) := by rw [hw31, if_pos hc30]
        rw [qw31] at kk
        show Steps p.tables e below (T29.setTop (mkF m 44 #[.val (.int u0), .val (.int u1), .val (.int u2), .val (.int (1 : Int32)), .val (.ref b20), .val (.long ((u0.toInt64) - (1 : Int64))), .second, .val (.long ((u0.toInt64) + (1 : Int64))), .second, .unset, .unset, .unset, .unset, .unset] [(.int u0), (.int u1)])) tt
        refine XS.icmpYes X29.here hx rfl (pc0 := 44) (pc' := 51) rfl (hb hby at_44) rfl (tlt hc30).2.2.1 (by decide) (by decide) ?_
        show Steps p.tables e below (T29.setTop (mkF m 51 #[.val (.int u0), .val (.int u1), .val (.int u2), .val (.int (1 : Int32)), .val (.ref b20), .val (.long ((u0.toInt64) - (1 : Int64))), .second, .val (.long ((u0.toInt64) + (1 : Int64))), .second, .unset, .unset, .unset, .unset, .unset] [])) tt
        refine XS.iconst X29.here hx rfl (hb hby at_51) ?_
        show Steps p.tables e below (T29.setTop (mkF m 52 #[.val (.int u0), .val (.int u1), .val (.int u2), .val (.int (1 : Int32)), .val (.ref b20), .val (.long ((u0.toInt64) - (1 : Int64))), .second, .val (.long ((u0.toInt64) + (1 : Int64))), .second, .unset, .unset, .unset, .unset, .unset] [(.int (0 : Int32))])) tt
        refine XS.goto X29.here hx rfl (pc0 := 52) (pc' := 65) rfl (hb hby at_52) (by decide) (by decide) ?_
        exact kk
      · have qw31 : w31 = (1 : Int32) := by rw [hw31, if_neg hc30]
        rw [qw31] at kk
        show Steps p.tables e below (T29.setTop (mkF m 44 #[.val (.int u0), .val (.int u1), .val (.int u2), .val (.int (1 : Int32)), .val (.ref b20), .val (.long ((u0.toInt64) - (1 : Int64))), .second, .val (.long ((u0.toInt64) + (1 : Int64))), .second, .unset, .unset, .unset, .unset, .unset] [(.int u0), (.int u1)])) tt
        refine XS.icmpNo X29.here hx rfl (hb hby at_44) rfl (flt hc30).2.2.1 ?_
        show Steps p.tables e below (T29.setTop (mkF m 47 #[.val (.int u0), .val (.int u1), .val (.int u2), .val (.int (1 : Int32)), .val (.ref b20), .val (.long ((u0.toInt64) - (1 : Int64))), .second, .val (.long ((u0.toInt64) + (1 : Int64))), .second, .unset, .unset, .unset, .unset, .unset] [])) tt
        refine XS.iconst X29.here hx rfl (hb hby at_47) ?_
        show Steps p.tables e below (T29.setTop (mkF m 48 #[.val (.int u0), .val (.int u1), .val (.int u2), .val (.int (1 : Int32)), .val (.ref b20), .val (.long ((u0.toInt64) - (1 : Int64))), .second, .val (.long ((u0.toInt64) + (1 : Int64))), .second, .unset, .unset, .unset, .unset, .unset] [(.int (1 : Int32))])) tt
        refine XS.goto X29.here hx rfl (pc0 := 48) (pc' := 65) rfl (hb hby at_48) (by decide) (by decide) ?_
        exact kk
    refine GoalW.to (B := T29.setTop (mkF m 71 #[.val (.int u0), .val (.int u1), .val (.int u2), .val (.int (1 : Int32)), .val (.ref b20), .val (.long ((u0.toInt64) - (1 : Int64))), .second, .val (.long ((u0.toInt64) + (1 : Int64))), .second, .val (.int w31), .unset, .unset, .unset, .unset] [(.double (FP.l2d (u1.toInt64))), (.ref b20)])) (fun tt kk => ?_) ?_
    · show Steps p.tables e below (T29.setTop (mkF m 65 #[.val (.int u0), .val (.int u1), .val (.int u2), .val (.int (1 : Int32)), .val (.ref b20), .val (.long ((u0.toInt64) - (1 : Int64))), .second, .val (.long ((u0.toInt64) + (1 : Int64))), .second, .unset, .unset, .unset, .unset, .unset] [(.int w31)])) tt
      refine XS.istore X29.here hx rfl (hb hby at_65) rfl (l' := #[.val (.int u0), .val (.int u1), .val (.int u2), .val (.int (1 : Int32)), .val (.ref b20), .val (.long ((u0.toInt64) - (1 : Int64))), .second, .val (.long ((u0.toInt64) + (1 : Int64))), .second, .val (.int w31), .unset, .unset, .unset, .unset]) rfl ?_
      show Steps p.tables e below (T29.setTop (mkF m 67 #[.val (.int u0), .val (.int u1), .val (.int u2), .val (.int (1 : Int32)), .val (.ref b20), .val (.long ((u0.toInt64) - (1 : Int64))), .second, .val (.long ((u0.toInt64) + (1 : Int64))), .second, .val (.int w31), .unset, .unset, .unset, .unset] [])) tt
      refine XS.aload X29.here hx rfl (hb hby at_67) rfl rfl ?_
      show Steps p.tables e below (T29.setTop (mkF m 69 #[.val (.int u0), .val (.int u1), .val (.int u2), .val (.int (1 : Int32)), .val (.ref b20), .val (.long ((u0.toInt64) - (1 : Int64))), .second, .val (.long ((u0.toInt64) + (1 : Int64))), .second, .val (.int w31), .unset, .unset, .unset, .unset] [(.ref b20)])) tt
      refine XS.iloadN X29.here hx rfl (hb hby at_69) rfl ?_
      show Steps p.tables e below (T29.setTop (mkF m 70 #[.val (.int u0), .val (.int u1), .val (.int u2), .val (.int (1 : Int32)), .val (.ref b20), .val (.long ((u0.toInt64) - (1 : Int64))), .second, .val (.long ((u0.toInt64) + (1 : Int64))), .second, .val (.int w31), .unset, .unset, .unset, .unset] [(.int u1), (.ref b20)])) tt
      refine XS.i2dS X29.here hx rfl (hb hby at_70) rfl (i2d_w _) ?_
      exact kk
    have f32 : n0 ≤ T29.heap.size := (Nat.le_trans f28 K29.1)
    have f34 : Exa Z T29.heap b20 "com/example/purloin/measure/Bar" := (f24.keep K29)
    obtain ⟨cq33, kq33, q33a, q33b, q33c⟩ := isOf hZ rfl f34
    obtain ⟨_, _, ⟨T33, L33, k33, n33⟩, -, X33, ⟨Lc33, hQ33, l33, y33, z33⟩, st33⟩ := X29.virtualBack hx (y := (⟨"com/example/purloin/measure/Bar", "met", "(D)Z"⟩ : MethodName)) (z := (⟨"com/example/purloin/measure/Bar", "met", "(D)Z"⟩ : MethodName)) hown (mvT hZ (hw _ (mw 28 rfl))) (mvT hZ (hw _ (mw 29 rfl))) (notFace_of_selects (args := #[]) (mvT hZ (hw _ (mw 31 rfl)))) (mvT hZ (hw _ (mw 31 rfl))) (mvT hZ (hw _ (mw 30 rfl))) (by decide) (backOf (W := 0) (rmm1 l Z a0 hw [] b20 (u1.toInt64) (u0.toInt64) T29.heap n0 f32 P29_1 P29_2 (own_i u1) (own_i u0)) hZ (hw _ (mw 32 rfl)) (hw _ (mw 2 rfl)) (by decide) (by decide)) q33a q33c (g := (mkF m 71 #[.val (.int u0), .val (.int u1), .val (.int u2), .val (.int (1 : Int32)), .val (.ref b20), .val (.long ((u0.toInt64) - (1 : Int64))), .second, .val (.long ((u0.toInt64) + (1 : Int64))), .second, .val (.int w31), .unset, .unset, .unset, .unset] [(.double (FP.l2d (u1.toInt64))), (.ref b20)])) rfl (by rw [hml]; rfl) (Steps.refl _) (argsL := [(.double (FP.l2d (u1.toInt64)))]) (rest := []) (lenOf pd_2 rfl) rfl (by show 2 * 0 + _ ≤ _; exact Nat.le_of_eq rfl) (hb hby at_71) (fun _ _ => ⟨rfl, rfl, (by decide : 3 + 0 ≤ _), (by decide : 19 + 0 ≤ _)⟩)
    dsimp only [Pt.U, Pt.locs, Pt.cells, Pt.slots] at X33 l33 y33 z33 st33 hQ33
    subst l33 y33 z33
    obtain ⟨rfl, N33q, e33⟩ := hQ33
    have N33 := Fr.app N29 N33q
    refine GoalW.tr (B := T33.setTop (mkF m 74 #[.val (.int u0), .val (.int u1), .val (.int u2), .val (.int (1 : Int32)), .val (.ref b20), .val (.long ((u0.toInt64) - (1 : Int64))), .second, .val (.long ((u0.toInt64) + (1 : Int64))), .second, .val (.int w31), .unset, .unset, .unset, .unset] [(.int (if (0 : Int32) < (lcmpW (u1.toInt64) (u0.toInt64)) then (0 : Int32) else (1 : Int32)))])) st33 ?_
    refine GoalW.to (B := T33.setTop (mkF m 90 #[.val (.int u0), .val (.int u1), .val (.int u2), .val (.int (1 : Int32)), .val (.ref b20), .val (.long ((u0.toInt64) - (1 : Int64))), .second, .val (.long ((u0.toInt64) + (1 : Int64))), .second, .val (.int w31), .val (.int (1 : Int32)), .unset, .unset, .unset] [(.double (FP.l2d (u0.toInt64))), (.ref b20)])) (fun tt kk => ?_) ?_
    · show Steps p.tables e below (T33.setTop (mkF m 74 #[.val (.int u0), .val (.int u1), .val (.int u2), .val (.int (1 : Int32)), .val (.ref b20), .val (.long ((u0.toInt64) - (1 : Int64))), .second, .val (.long ((u0.toInt64) + (1 : Int64))), .second, .val (.int w31), .unset, .unset, .unset, .unset] [(.int (if (0 : Int32) < (lcmpW (u1.toInt64) (u0.toInt64)) then (0 : Int32) else (1 : Int32)))])) tt
      refine XS.iload X33.here hx rfl (hb hby at_74) rfl ?_
      show Steps p.tables e below (T33.setTop (mkF m 76 #[.val (.int u0), .val (.int u1), .val (.int u2), .val (.int (1 : Int32)), .val (.ref b20), .val (.long ((u0.toInt64) - (1 : Int64))), .second, .val (.long ((u0.toInt64) + (1 : Int64))), .second, .val (.int w31), .unset, .unset, .unset, .unset] [(.int w31), (.int (if (0 : Int32) < (lcmpW (u1.toInt64) (u0.toInt64)) then (0 : Int32) else (1 : Int32)))])) tt
      refine XS.icmpNo X33.here hx rfl (hb hby at_76) rfl (teq (by rw [hw31]; by_cases q : u0 < u1 <;> simp [own_gt, q] : (if (0 : Int32) < (lcmpW (u1.toInt64) (u0.toInt64)) then (0 : Int32) else (1 : Int32)) = w31)).2 ?_
      show Steps p.tables e below (T33.setTop (mkF m 79 #[.val (.int u0), .val (.int u1), .val (.int u2), .val (.int (1 : Int32)), .val (.ref b20), .val (.long ((u0.toInt64) - (1 : Int64))), .second, .val (.long ((u0.toInt64) + (1 : Int64))), .second, .val (.int w31), .unset, .unset, .unset, .unset] [])) tt
      refine XS.iconst X33.here hx rfl (hb hby at_79) ?_
      show Steps p.tables e below (T33.setTop (mkF m 80 #[.val (.int u0), .val (.int u1), .val (.int u2), .val (.int (1 : Int32)), .val (.ref b20), .val (.long ((u0.toInt64) - (1 : Int64))), .second, .val (.long ((u0.toInt64) + (1 : Int64))), .second, .val (.int w31), .unset, .unset, .unset, .unset] [(.int (1 : Int32))])) tt
      refine XS.goto X33.here hx rfl (pc0 := 80) (pc' := 84) rfl (hb hby at_80) (by decide) (by decide) ?_
      show Steps p.tables e below (T33.setTop (mkF m 84 #[.val (.int u0), .val (.int u1), .val (.int u2), .val (.int (1 : Int32)), .val (.ref b20), .val (.long ((u0.toInt64) - (1 : Int64))), .second, .val (.long ((u0.toInt64) + (1 : Int64))), .second, .val (.int w31), .unset, .unset, .unset, .unset] [(.int (1 : Int32))])) tt
      refine XS.istore X33.here hx rfl (hb hby at_84) rfl (l' := #[.val (.int u0), .val (.int u1), .val (.int u2), .val (.int (1 : Int32)), .val (.ref b20), .val (.long ((u0.toInt64) - (1 : Int64))), .second, .val (.long ((u0.toInt64) + (1 : Int64))), .second, .val (.int w31), .val (.int (1 : Int32)), .unset, .unset, .unset]) rfl ?_
      show Steps p.tables e below (T33.setTop (mkF m 86 #[.val (.int u0), .val (.int u1), .val (.int u2), .val (.int (1 : Int32)), .val (.ref b20), .val (.long ((u0.toInt64) - (1 : Int64))), .second, .val (.long ((u0.toInt64) + (1 : Int64))), .second, .val (.int w31), .val (.int (1 : Int32)), .unset, .unset, .unset] [])) tt
      refine XS.aload X33.here hx rfl (hb hby at_86) rfl rfl ?_
      show Steps p.tables e below (T33.setTop (mkF m 88 #[.val (.int u0), .val (.int u1), .val (.int u2), .val (.int (1 : Int32)), .val (.ref b20), .val (.long ((u0.toInt64) - (1 : Int64))), .second, .val (.long ((u0.toInt64) + (1 : Int64))), .second, .val (.int w31), .val (.int (1 : Int32)), .unset, .unset, .unset] [(.ref b20)])) tt
      refine XS.iloadN X33.here hx rfl (hb hby at_88) rfl ?_
      show Steps p.tables e below (T33.setTop (mkF m 89 #[.val (.int u0), .val (.int u1), .val (.int u2), .val (.int (1 : Int32)), .val (.ref b20), .val (.long ((u0.toInt64) - (1 : Int64))), .second, .val (.long ((u0.toInt64) + (1 : Int64))), .second, .val (.int w31), .val (.int (1 : Int32)), .unset, .unset, .unset] [(.int u0), (.ref b20)])) tt
      refine XS.i2dS X33.here hx rfl (hb hby at_89) rfl (i2d_w _) ?_
      exact kk
    obtain ⟨cq35, kq35, q35a, q35b, q35c⟩ := isOf hZ e33 f34
    obtain ⟨_, _, ⟨T35, L35, k35, n35⟩, -, X35, ⟨Lc35, hQ35, l35, y35, z35⟩, st35⟩ := X33.virtualBack hx (y := (⟨"com/example/purloin/measure/Bar", "met", "(D)Z"⟩ : MethodName)) (z := (⟨"com/example/purloin/measure/Bar", "met", "(D)Z"⟩ : MethodName)) hown (mvT hZ (hw _ (mw 28 rfl))) (mvT hZ (hw _ (mw 29 rfl))) (notFace_of_selects (args := #[]) (mvT hZ (hw _ (mw 31 rfl)))) (mvT hZ (hw _ (mw 31 rfl))) (mvT hZ (hw _ (mw 30 rfl))) (by decide) (backOf (W := 0) (rmm1 l Z a0 hw [] b20 (u0.toInt64) (u0.toInt64) T29.heap n0 f32 P29_1 P29_2 (own_i u0) (own_i u0)) hZ (hw _ (mw 32 rfl)) (hw _ (mw 2 rfl)) (by decide) (by decide)) q35a q35c (g := (mkF m 90 #[.val (.int u0), .val (.int u1), .val (.int u2), .val (.int (1 : Int32)), .val (.ref b20), .val (.long ((u0.toInt64) - (1 : Int64))), .second, .val (.long ((u0.toInt64) + (1 : Int64))), .second, .val (.int w31), .val (.int (1 : Int32)), .unset, .unset, .unset] [(.double (FP.l2d (u0.toInt64))), (.ref b20)])) rfl (by rw [hml]; rfl) (Steps.refl _) (argsL := [(.double (FP.l2d (u0.toInt64)))]) (rest := []) (lenOf pd_2 rfl) rfl (by show 2 * 0 + _ ≤ _; exact Nat.le_of_eq rfl) (hb hby at_90) (fun _ _ => ⟨rfl, e33, (by decide : 3 + 0 ≤ _), (by decide : 19 + 0 ≤ _)⟩)
    dsimp only [Pt.U, Pt.locs, Pt.cells, Pt.slots] at X35 l35 y35 z35 st35 hQ35
    subst l35 y35 z35
    obtain ⟨rfl, N35q, e35⟩ := hQ35
    have N35 := Fr.app N33 N35q
    refine GoalW.tr (B := T35.setTop (mkF m 93 #[.val (.int u0), .val (.int u1), .val (.int u2), .val (.int (1 : Int32)), .val (.ref b20), .val (.long ((u0.toInt64) - (1 : Int64))), .second, .val (.long ((u0.toInt64) + (1 : Int64))), .second, .val (.int w31), .val (.int (1 : Int32)), .unset, .unset, .unset] [(.int (if (0 : Int32) < (lcmpW (u0.toInt64) (u0.toInt64)) then (0 : Int32) else (1 : Int32)))])) st35 ?_
    refine GoalW.to (B := T35.setTop (mkF m 100 #[.val (.int u0), .val (.int u1), .val (.int u2), .val (.int (1 : Int32)), .val (.ref b20), .val (.long ((u0.toInt64) - (1 : Int64))), .second, .val (.long ((u0.toInt64) + (1 : Int64))), .second, .val (.int w31), .val (.int (1 : Int32)), .val (.int (if (0 : Int32) < (lcmpW (u0.toInt64) (u0.toInt64)) then (0 : Int32) else (1 : Int32))), .unset, .unset] [(.double (FP.l2d ((u0.toInt64) - (1 : Int64)))), (.ref b20)])) (fun tt kk => ?_) ?_
    · show Steps p.tables e below (T35.setTop (mkF m 93 #[.val (.int u0), .val (.int u1), .val (.int u2), .val (.int (1 : Int32)), .val (.ref b20), .val (.long ((u0.toInt64) - (1 : Int64))), .second, .val (.long ((u0.toInt64) + (1 : Int64))), .second, .val (.int w31), .val (.int (1 : Int32)), .unset, .unset, .unset] [(.int (if (0 : Int32) < (lcmpW (u0.toInt64) (u0.toInt64)) then (0 : Int32) else (1 : Int32)))])) tt
      refine XS.istore X35.here hx rfl (hb hby at_93) rfl (l' := #[.val (.int u0), .val (.int u1), .val (.int u2), .val (.int (1 : Int32)), .val (.ref b20), .val (.long ((u0.toInt64) - (1 : Int64))), .second, .val (.long ((u0.toInt64) + (1 : Int64))), .second, .val (.int w31), .val (.int (1 : Int32)), .val (.int (if (0 : Int32) < (lcmpW (u0.toInt64) (u0.toInt64)) then (0 : Int32) else (1 : Int32))), .unset, .unset]) rfl ?_
      show Steps p.tables e below (T35.setTop (mkF m 95 #[.val (.int u0), .val (.int u1), .val (.int u2), .val (.int (1 : Int32)), .val (.ref b20), .val (.long ((u0.toInt64) - (1 : Int64))), .second, .val (.long ((u0.toInt64) + (1 : Int64))), .second, .val (.int w31), .val (.int (1 : Int32)), .val (.int (if (0 : Int32) < (lcmpW (u0.toInt64) (u0.toInt64)) then (0 : Int32) else (1 : Int32))), .unset, .unset] [])) tt
      refine XS.aload X35.here hx rfl (hb hby at_95) rfl rfl ?_
      show Steps p.tables e below (T35.setTop (mkF m 97 #[.val (.int u0), .val (.int u1), .val (.int u2), .val (.int (1 : Int32)), .val (.ref b20), .val (.long ((u0.toInt64) - (1 : Int64))), .second, .val (.long ((u0.toInt64) + (1 : Int64))), .second, .val (.int w31), .val (.int (1 : Int32)), .val (.int (if (0 : Int32) < (lcmpW (u0.toInt64) (u0.toInt64)) then (0 : Int32) else (1 : Int32))), .unset, .unset] [(.ref b20)])) tt
      refine XS.lload X35.here hx rfl (hb hby at_97) rfl ?_
      show Steps p.tables e below (T35.setTop (mkF m 99 #[.val (.int u0), .val (.int u1), .val (.int u2), .val (.int (1 : Int32)), .val (.ref b20), .val (.long ((u0.toInt64) - (1 : Int64))), .second, .val (.long ((u0.toInt64) + (1 : Int64))), .second, .val (.int w31), .val (.int (1 : Int32)), .val (.int (if (0 : Int32) < (lcmpW (u0.toInt64) (u0.toInt64)) then (0 : Int32) else (1 : Int32))), .unset, .unset] [(.long ((u0.toInt64) - (1 : Int64))), (.ref b20)])) tt
      refine XS.l2dS X35.here hx rfl (hb hby at_99) rfl rfl ?_
      exact kk
    obtain ⟨cq36, kq36, q36a, q36b, q36c⟩ := isOf hZ e35 f34
    obtain ⟨_, _, ⟨T36, L36, k36, n36⟩, -, X36, ⟨Lc36, hQ36, l36, y36, z36⟩, st36⟩ := X35.virtualBack hx (y := (⟨"com/example/purloin/measure/Bar", "met", "(D)Z"⟩ : MethodName)) (z := (⟨"com/example/purloin/measure/Bar", "met", "(D)Z"⟩ : MethodName)) hown (mvT hZ (hw _ (mw 28 rfl))) (mvT hZ (hw _ (mw 29 rfl))) (notFace_of_selects (args := #[]) (mvT hZ (hw _ (mw 31 rfl)))) (mvT hZ (hw _ (mw 31 rfl))) (mvT hZ (hw _ (mw 30 rfl))) (by decide) (backOf (W := 0) (rmm1 l Z a0 hw [] b20 ((u0.toInt64) - (1 : Int64)) (u0.toInt64) T29.heap n0 f32 P29_1 P29_2 (own_bl u0) (own_i u0)) hZ (hw _ (mw 32 rfl)) (hw _ (mw 2 rfl)) (by decide) (by decide)) q36a q36c (g := (mkF m 100 #[.val (.int u0), .val (.int u1), .val (.int u2), .val (.int (1 : Int32)), .val (.ref b20), .val (.long ((u0.toInt64) - (1 : Int64))), .second, .val (.long ((u0.toInt64) + (1 : Int64))), .second, .val (.int w31), .val (.int (1 : Int32)), .val (.int (if (0 : Int32) < (lcmpW (u0.toInt64) (u0.toInt64)) then (0 : Int32) else (1 : Int32))), .unset, .unset] [(.double (FP.l2d ((u0.toInt64) - (1 : Int64)))), (.ref b20)])) rfl (by rw [hml]; rfl) (Steps.refl _) (argsL := [(.double (FP.l2d ((u0.toInt64) - (1 : Int64))))]) (rest := []) (lenOf pd_2 rfl) rfl (by show 2 * 0 + _ ≤ _; exact Nat.le_of_eq rfl) (hb hby at_100) (fun _ _ => ⟨rfl, e35, (by decide : 3 + 0 ≤ _), (by decide : 19 + 0 ≤ _)⟩)
    dsimp only [Pt.U, Pt.locs, Pt.cells, Pt.slots] at X36 l36 y36 z36 st36 hQ36
    subst l36 y36 z36
    obtain ⟨rfl, N36q, e36⟩ := hQ36
    have N36 := Fr.app N35 N36q
    refine GoalW.tr (B := T36.setTop (mkF m 103 #[.val (.int u0), .val (.int u1), .val (.int u2), .val (.int (1 : Int32)), .val (.ref b20), .val (.long ((u0.toInt64) - (1 : Int64))), .second, .val (.long ((u0.toInt64) + (1 : Int64))), .second, .val (.int w31), .val (.int (1 : Int32)), .val (.int (if (0 : Int32) < (lcmpW (u0.toInt64) (u0.toInt64)) then (0 : Int32) else (1 : Int32))), .unset, .unset] [(.int (if (0 : Int32) < (lcmpW ((u0.toInt64) - (1 : Int64)) (u0.toInt64)) then (0 : Int32) else (1 : Int32)))])) st36 ?_
    refine GoalW.to (B := T36.setTop (mkF m 119 #[.val (.int u0), .val (.int u1), .val (.int u2), .val (.int (1 : Int32)), .val (.ref b20), .val (.long ((u0.toInt64) - (1 : Int64))), .second, .val (.long ((u0.toInt64) + (1 : Int64))), .second, .val (.int w31), .val (.int (1 : Int32)), .val (.int (if (0 : Int32) < (lcmpW (u0.toInt64) (u0.toInt64)) then (0 : Int32) else (1 : Int32))), .val (.int (1 : Int32)), .unset] [(.double (FP.l2d ((u0.toInt64) + (1 : Int64)))), (.ref b20)])) (fun tt kk => ?_) ?_
    · show Steps p.tables e below (T36.setTop (mkF m 103 #[.val (.int u0), .val (.int u1), .val (.int u2), .val (.int (1 : Int32)), .val (.ref b20), .val (.long ((u0.toInt64) - (1 : Int64))), .second, .val (.long ((u0.toInt64) + (1 : Int64))), .second, .val (.int w31), .val (.int (1 : Int32)), .val (.int (if (0 : Int32) < (lcmpW (u0.toInt64) (u0.toInt64)) then (0 : Int32) else (1 : Int32))), .unset, .unset] [(.int (if (0 : Int32) < (lcmpW ((u0.toInt64) - (1 : Int64)) (u0.toInt64)) then (0 : Int32) else (1 : Int32)))])) tt
      refine XS.iloadN X36.here hx rfl (hb hby at_103) rfl ?_
      show Steps p.tables e below (T36.setTop (mkF m 104 #[.val (.int u0), .val (.int u1), .val (.int u2), .val (.int (1 : Int32)), .val (.ref b20), .val (.long ((u0.toInt64) - (1 : Int64))), .second, .val (.long ((u0.toInt64) + (1 : Int64))), .second, .val (.int w31), .val (.int (1 : Int32)), .val (.int (if (0 : Int32) < (lcmpW (u0.toInt64) (u0.toInt64)) then (0 : Int32) else (1 : Int32))), .unset, .unset] [(.int (1 : Int32)), (.int (if (0 : Int32) < (lcmpW ((u0.toInt64) - (1 : Int64)) (u0.toInt64)) then (0 : Int32) else (1 : Int32)))])) tt
      refine XS.icmpNo X36.here hx rfl (hb hby at_104) rfl (teq (if_neg (own_gl u0) : (if (0 : Int32) < (lcmpW ((u0.toInt64) - (1 : Int64)) (u0.toInt64)) then (0 : Int32) else (1 : Int32)) = (1 : Int32))).2 ?_
      show Steps p.tables e below (T36.setTop (mkF m 107 #[.val (.int u0), .val (.int u1), .val (.int u2), .val (.int (1 : Int32)), .val (.ref b20), .val (.long ((u0.toInt64) - (1 : Int64))), .second, .val (.long ((u0.toInt64) + (1 : Int64))), .second, .val (.int w31), .val (.int (1 : Int32)), .val (.int (if (0 : Int32) < (lcmpW (u0.toInt64) (u0.toInt64)) then (0 : Int32) else (1 : Int32))), .unset, .unset] [])) tt
      refine XS.iconst X36.here hx rfl (hb hby at_107) ?_
      show Steps p.tables e below (T36.setTop (mkF m 108 #[.val (.int u0), .val (.int u1), .val (.int u2), .val (.int (1 : Int32)), .val (.ref b20), .val (.long ((u0.toInt64) - (1 : Int64))), .second, .val (.long ((u0.toInt64) + (1 : Int64))), .second, .val (.int w31), .val (.int (1 : Int32)), .val (.int (if (0 : Int32) < (lcmpW (u0.toInt64) (u0.toInt64)) then (0 : Int32) else (1 : Int32))), .unset, .unset] [(.int (1 : Int32))])) tt
      refine XS.goto X36.here hx rfl (pc0 := 108) (pc' := 112) rfl (hb hby at_108) (by decide) (by decide) ?_
      show Steps p.tables e below (T36.setTop (mkF m 112 #[.val (.int u0), .val (.int u1), .val (.int u2), .val (.int (1 : Int32)), .val (.ref b20), .val (.long ((u0.toInt64) - (1 : Int64))), .second, .val (.long ((u0.toInt64) + (1 : Int64))), .second, .val (.int w31), .val (.int (1 : Int32)), .val (.int (if (0 : Int32) < (lcmpW (u0.toInt64) (u0.toInt64)) then (0 : Int32) else (1 : Int32))), .unset, .unset] [(.int (1 : Int32))])) tt
      refine XS.istore X36.here hx rfl (hb hby at_112) rfl (l' := #[.val (.int u0), .val (.int u1), .val (.int u2), .val (.int (1 : Int32)), .val (.ref b20), .val (.long ((u0.toInt64) - (1 : Int64))), .second, .val (.long ((u0.toInt64) + (1 : Int64))), .second, .val (.int w31), .val (.int (1 : Int32)), .val (.int (if (0 : Int32) < (lcmpW (u0.toInt64) (u0.toInt64)) then (0 : Int32) else (1 : Int32))), .val (.int (1 : Int32)), .unset]) rfl ?_
      show Steps p.tables e below (T36.setTop (mkF m 114 #[.val (.int u0), .val (.int u1), .val (.int u2), .val (.int (1 : Int32)), .val (.ref b20), .val (.long ((u0.toInt64) - (1 : Int64))), .second, .val (.long ((u0.toInt64) + (1 : Int64))), .second, .val (.int w31), .val (.int (1 : Int32)), .val (.int (if (0 : Int32) < (lcmpW (u0.toInt64) (u0.toInt64)) then (0 : Int32) else (1 : Int32))), .val (.int (1 : Int32)), .unset] [])) tt
      refine XS.aload X36.here hx rfl (hb hby at_114) rfl rfl ?_
      show Steps p.tables e below (T36.setTop (mkF m 116 #[.val (.int u0), .val (.int u1), .val (.int u2), .val (.int (1 : Int32)), .val (.ref b20), .val (.long ((u0.toInt64) - (1 : Int64))), .second, .val (.long ((u0.toInt64) + (1 : Int64))), .second, .val (.int w31), .val (.int (1 : Int32)), .val (.int (if (0 : Int32) < (lcmpW (u0.toInt64) (u0.toInt64)) then (0 : Int32) else (1 : Int32))), .val (.int (1 : Int32)), .unset] [(.ref b20)])) tt
      refine XS.lload X36.here hx rfl (hb hby at_116) rfl ?_
      show Steps p.tables e below (T36.setTop (mkF m 118 #[.val (.int u0), .val (.int u1), .val (.int u2), .val (.int (1 : Int32)), .val (.ref b20), .val (.long ((u0.toInt64) - (1 : Int64))), .second, .val (.long ((u0.toInt64) + (1 : Int64))), .second, .val (.int w31), .val (.int (1 : Int32)), .val (.int (if (0 : Int32) < (lcmpW (u0.toInt64) (u0.toInt64)) then (0 : Int32) else (1 : Int32))), .val (.int (1 : Int32)), .unset] [(.long ((u0.toInt64) + (1 : Int64))), (.ref b20)])) tt
      refine XS.l2dS X36.here hx rfl (hb hby at_118) rfl rfl ?_
      exact kk
    obtain ⟨cq37, kq37, q37a, q37b, q37c⟩ := isOf hZ e36 f34
    obtain ⟨_, _, ⟨T37, L37, k37, n37⟩, -, X37, ⟨Lc37, hQ37, l37, y37, z37⟩, st37⟩ := X36.virtualBack hx (y := (⟨"com/example/purloin/measure/Bar", "met", "(D)Z"⟩ : MethodName)) (z := (⟨"com/example/purloin/measure/Bar", "met", "(D)Z"⟩ : MethodName)) hown (mvT hZ (hw _ (mw 28 rfl))) (mvT hZ (hw _ (mw 29 rfl))) (notFace_of_selects (args := #[]) (mvT hZ (hw _ (mw 31 rfl)))) (mvT hZ (hw _ (mw 31 rfl))) (mvT hZ (hw _ (mw 30 rfl))) (by decide) (backOf (W := 0) (rmm1 l Z a0 hw [] b20 ((u0.toInt64) + (1 : Int64)) (u0.toInt64) T29.heap n0 f32 P29_1 P29_2 (own_bh u0) (own_i u0)) hZ (hw _ (mw 32 rfl)) (hw _ (mw 2 rfl)) (by decide) (by decide)) q37a q37c (g := (mkF m 119 #[.val (.int u0), .val (.int u1), .val (.int u2), .val (.int (1 : Int32)), .val (.ref b20), .val (.long ((u0.toInt64) - (1 : Int64))), .second, .val (.long ((u0.toInt64) + (1 : Int64))), .second, .val (.int w31), .val (.int (1 : Int32)), .val (.int (if (0 : Int32) < (lcmpW (u0.toInt64) (u0.toInt64)) then (0 : Int32) else (1 : Int32))), .val (.int (1 : Int32)), .unset] [(.double (FP.l2d ((u0.toInt64) + (1 : Int64)))), (.ref b20)])) rfl (by rw [hml]; rfl) (Steps.refl _) (argsL := [(.double (FP.l2d ((u0.toInt64) + (1 : Int64))))]) (rest := []) (lenOf pd_2 rfl) rfl (by show 2 * 0 + _ ≤ _; exact Nat.le_of_eq rfl) (hb hby at_119) (fun _ _ => ⟨rfl, e36, (by decide : 3 + 0 ≤ _), (by decide : 19 + 0 ≤ _)⟩)
    dsimp only [Pt.U, Pt.locs, Pt.cells, Pt.slots] at X37 l37 y37 z37 st37 hQ37
    subst l37 y37 z37
    obtain ⟨rfl, N37q, e37⟩ := hQ37
    have N37 := Fr.app N36 N37q
    refine GoalW.tr (B := T37.setTop (mkF m 122 #[.val (.int u0), .val (.int u1), .val (.int u2), .val (.int (1 : Int32)), .val (.ref b20), .val (.long ((u0.toInt64) - (1 : Int64))), .second, .val (.long ((u0.toInt64) + (1 : Int64))), .second, .val (.int w31), .val (.int (1 : Int32)), .val (.int (if (0 : Int32) < (lcmpW (u0.toInt64) (u0.toInt64)) then (0 : Int32) else (1 : Int32))), .val (.int (1 : Int32)), .unset] [(.int (if (0 : Int32) < (lcmpW ((u0.toInt64) + (1 : Int64)) (u0.toInt64)) then (0 : Int32) else (1 : Int32)))])) st37 ?_
    refine GoalW.to (B := T37.setTop (mkF m 166 #[.val (.int u0), .val (.int u1), .val (.int u2), .val (.int (1 : Int32)), .val (.ref b20), .val (.long ((u0.toInt64) - (1 : Int64))), .second, .val (.long ((u0.toInt64) + (1 : Int64))), .second, .val (.int w31), .val (.int (1 : Int32)), .val (.int (if (0 : Int32) < (lcmpW (u0.toInt64) (u0.toInt64)) then (0 : Int32) else (1 : Int32))), .val (.int (1 : Int32)), .val (.int (1 : Int32))] [(.int (1 : Int32))])) (fun tt kk => ?_) ?_
    · show Steps p.tables e below (T37.setTop (mkF m 122 #[.val (.int u0), .val (.int u1), .val (.int u2), .val (.int (1 : Int32)), .val (.ref b20), .val (.long ((u0.toInt64) - (1 : Int64))), .second, .val (.long ((u0.toInt64) + (1 : Int64))), .second, .val (.int w31), .val (.int (1 : Int32)), .val (.int (if (0 : Int32) < (lcmpW (u0.toInt64) (u0.toInt64)) then (0 : Int32) else (1 : Int32))), .val (.int (1 : Int32)), .unset] [(.int (if (0 : Int32) < (lcmpW ((u0.toInt64) + (1 : Int64)) (u0.toInt64)) then (0 : Int32) else (1 : Int32)))])) tt
      refine XS.iloadN X37.here hx rfl (hb hby at_122) rfl ?_
      show Steps p.tables e below (T37.setTop (mkF m 123 #[.val (.int u0), .val (.int u1), .val (.int u2), .val (.int (1 : Int32)), .val (.ref b20), .val (.long ((u0.toInt64) - (1 : Int64))), .second, .val (.long ((u0.toInt64) + (1 : Int64))), .second, .val (.int w31), .val (.int (1 : Int32)), .val (.int (if (0 : Int32) < (lcmpW (u0.toInt64) (u0.toInt64)) then (0 : Int32) else (1 : Int32))), .val (.int (1 : Int32)), .unset] [(.int (1 : Int32)), (.int (if (0 : Int32) < (lcmpW ((u0.toInt64) + (1 : Int64)) (u0.toInt64)) then (0 : Int32) else (1 : Int32)))])) tt
      refine XS.ifYes X37.here hx rfl (pc0 := 123) (pc' := 130) rfl (hb hby at_123) rfl ((if0 _ _).trans (feq ((by decide) : ¬ ((1 : Int32) = (0 : Int32)))).2) (by decide) (by decide) ?_
      show Steps p.tables e below (T37.setTop (mkF m 130 #[.val (.int u0), .val (.int u1), .val (.int u2), .val (.int (1 : Int32)), .val (.ref b20), .val (.long ((u0.toInt64) - (1 : Int64))), .second, .val (.long ((u0.toInt64) + (1 : Int64))), .second, .val (.int w31), .val (.int (1 : Int32)), .val (.int (if (0 : Int32) < (lcmpW (u0.toInt64) (u0.toInt64)) then (0 : Int32) else (1 : Int32))), .val (.int (1 : Int32)), .unset] [(.int (if (0 : Int32) < (lcmpW ((u0.toInt64) + (1 : Int64)) (u0.toInt64)) then (0 : Int32) else (1 : Int32)))])) tt
      refine XS.iconst X37.here hx rfl (hb hby at_130) ?_
      show Steps p.tables e below (T37.setTop (mkF m 131 #[.val (.int u0), .val (.int u1), .val (.int u2), .val (.int (1 : Int32)), .val (.ref b20), .val (.long ((u0.toInt64) - (1 : Int64))), .second, .val (.long ((u0.toInt64) + (1 : Int64))), .second, .val (.int w31), .val (.int (1 : Int32)), .val (.int (if (0 : Int32) < (lcmpW (u0.toInt64) (u0.toInt64)) then (0 : Int32) else (1 : Int32))), .val (.int (1 : Int32)), .unset] [(.int (0 : Int32)), (.int (if (0 : Int32) < (lcmpW ((u0.toInt64) + (1 : Int64)) (u0.toInt64)) then (0 : Int32) else (1 : Int32)))])) tt
      refine XS.icmpNo X37.here hx rfl (hb hby at_131) rfl (teq (if_pos (own_gh u0) : (if (0 : Int32) < (lcmpW ((u0.toInt64) + (1 : Int64)) (u0.toInt64)) then (0 : Int32) else (1 : Int32)) = (0 : Int32))).2 ?_
      show Steps p.tables e below (T37.setTop (mkF m 134 #[.val (.int u0), .val (.int u1), .val (.int u2), .val (.int (1 : Int32)), .val (.ref b20), .val (.long ((u0.toInt64) - (1 : Int64))), .second, .val (.long ((u0.toInt64) + (1 : Int64))), .second, .val (.int w31), .val (.int (1 : Int32)), .val (.int (if (0 : Int32) < (lcmpW (u0.toInt64) (u0.toInt64)) then (0 : Int32) else (1 : Int32))), .val (.int (1 : Int32)), .unset] [])) tt
      refine XS.iconst X37.here hx rfl (hb hby at_134) ?_
      show Steps p.tables e below (T37.setTop (mkF m 135 #[.val (.int u0), .val (.int u1), .val (.int u2), .val (.int (1 : Int32)), .val (.ref b20), .val (.long ((u0.toInt64) - (1 : Int64))), .second, .val (.long ((u0.toInt64) + (1 : Int64))), .second, .val (.int w31), .val (.int (1 : Int32)), .val (.int (if (0 : Int32) < (lcmpW (u0.toInt64) (u0.toInt64)) then (0 : Int32) else (1 : Int32))), .val (.int (1 : Int32)), .unset] [(.int (1 : Int32))])) tt
      refine XS.goto X37.here hx rfl (pc0 := 135) (pc' := 139) rfl (hb hby at_135) (by decide) (by decide) ?_
      show Steps p.tables e below (T37.setTop (mkF m 139 #[.val (.int u0), .val (.int u1), .val (.int u2), .val (.int (1 : Int32)), .val (.ref b20), .val (.long ((u0.toInt64) - (1 : Int64))), .second, .val (.long ((u0.toInt64) + (1 : Int64))), .second, .val (.int w31), .val (.int (1 : Int32)), .val (.int (if (0 : Int32) < (lcmpW (u0.toInt64) (u0.toInt64)) then (0 : Int32) else (1 : Int32))), .val (.int (1 : Int32)), .unset] [(.int (1 : Int32))])) tt
      refine XS.istore X37.here hx rfl (hb hby at_139) rfl (l' := #[.val (.int u0), .val (.int u1), .val (.int u2), .val (.int (1 : Int32)), .val (.ref b20), .val (.long ((u0.toInt64) - (1 : Int64))), .second, .val (.long ((u0.toInt64) + (1 : Int64))), .second, .val (.int w31), .val (.int (1 : Int32)), .val (.int (if (0 : Int32) < (lcmpW (u0.toInt64) (u0.toInt64)) then (0 : Int32) else (1 : Int32))), .val (.int (1 : Int32)), .val (.int (1 : Int32))]) rfl ?_
      show Steps p.tables e below (T37.setTop (mkF m 141 #[.val (.int u0), .val (.int u1), .val (.int u2), .val (.int (1 : Int32)), .val (.ref b20), .val (.long ((u0.toInt64) - (1 : Int64))), .second, .val (.long ((u0.toInt64) + (1 : Int64))), .second, .val (.int w31), .val (.int (1 : Int32)), .val (.int (if (0 : Int32) < (lcmpW (u0.toInt64) (u0.toInt64)) then (0 : Int32) else (1 : Int32))), .val (.int (1 : Int32)), .val (.int (1 : Int32))] [])) tt
      refine XS.iload X37.here hx rfl (hb hby at_141) rfl ?_
      show Steps p.tables e below (T37.setTop (mkF m 143 #[.val (.int u0), .val (.int u1), .val (.int u2), .val (.int (1 : Int32)), .val (.ref b20), .val (.long ((u0.toInt64) - (1 : Int64))), .second, .val (.long ((u0.toInt64) + (1 : Int64))), .second, .val (.int w31), .val (.int (1 : Int32)), .val (.int (if (0 : Int32) < (lcmpW (u0.toInt64) (u0.toInt64)) then (0 : Int32) else (1 : Int32))), .val (.int (1 : Int32)), .val (.int (1 : Int32))] [(.int (1 : Int32))])) tt
      refine XS.ifNo X37.here hx rfl (hb hby at_143) rfl ((if0 _ _).trans (feq ((by decide) : ¬ ((1 : Int32) = (0 : Int32)))).1) ?_
      show Steps p.tables e below (T37.setTop (mkF m 146 #[.val (.int u0), .val (.int u1), .val (.int u2), .val (.int (1 : Int32)), .val (.ref b20), .val (.long ((u0.toInt64) - (1 : Int64))), .second, .val (.long ((u0.toInt64) + (1 : Int64))), .second, .val (.int w31), .val (.int (1 : Int32)), .val (.int (if (0 : Int32) < (lcmpW (u0.toInt64) (u0.toInt64)) then (0 : Int32) else (1 : Int32))), .val (.int (1 : Int32)), .val (.int (1 : Int32))] [])) tt
      refine XS.iload X37.here hx rfl (hb hby at_146) rfl ?_
      show Steps p.tables e below (T37.setTop (mkF m 148 #[.val (.int u0), .val (.int u1), .val (.int u2), .val (.int (1 : Int32)), .val (.ref b20), .val (.long ((u0.toInt64) - (1 : Int64))), .second, .val (.long ((u0.toInt64) + (1 : Int64))), .second, .val (.int w31), .val (.int (1 : Int32)), .val (.int (if (0 : Int32) < (lcmpW (u0.toInt64) (u0.toInt64)) then (0 : Int32) else (1 : Int32))), .val (.int (1 : Int32)), .val (.int (1 : Int32))] [(.int (if (0 : Int32) < (lcmpW (u0.toInt64) (u0.toInt64)) then (0 : Int32) else (1 : Int32)))])) tt
      refine XS.ifNo X37.here hx rfl (hb hby at_148) rfl ((if0 _ _).trans (feq (by simp [own_gt, own_lt, Int32.lt_irrefl] : ¬ ((if (0 : Int32) < (lcmpW (u0.toInt64) (u0.toInt64)) then (0 : Int32) else (1 : Int32)) = (0 : Int32)))).1) ?_
      show Steps p.tables e below (T37.setTop (mkF m 151 #[.val (.int u0), .val (.int u1), .val (.int u2), .val (.int (1 : Int32)), .val (.ref b20), .val (.long ((u0.toInt64) - (1 : Int64))), .second, .val (.long ((u0.toInt64) + (1 : Int64))), .second, .val (.int w31), .val (.int (1 : Int32)), .val (.int (if (0 : Int32) < (lcmpW (u0.toInt64) (u0.toInt64)) then (0 : Int32) else (1 : Int32))), .val (.int (1 : Int32)), .val (.int (1 : Int32))] [])) tt
      refine XS.iload X37.here hx rfl (hb hby at_151) rfl ?_
      show Steps p.tables e below (T37.setTop (mkF m 153 #[.val (.int u0), .val (.int u1), .val (.int u2), .val (.int (1 : Int32)), .val (.ref b20), .val (.long ((u0.toInt64) - (1 : Int64))), .second, .val (.long ((u0.toInt64) + (1 : Int64))), .second, .val (.int w31), .val (.int (1 : Int32)), .val (.int (if (0 : Int32) < (lcmpW (u0.toInt64) (u0.toInt64)) then (0 : Int32) else (1 : Int32))), .val (.int (1 : Int32)), .val (.int (1 : Int32))] [(.int (1 : Int32))])) tt
      refine XS.ifNo X37.here hx rfl (hb hby at_153) rfl ((if0 _ _).trans (feq ((by decide) : ¬ ((1 : Int32) = (0 : Int32)))).1) ?_
      show Steps p.tables e below (T37.setTop (mkF m 156 #[.val (.int u0), .val (.int u1), .val (.int u2), .val (.int (1 : Int32)), .val (.ref b20), .val (.long ((u0.toInt64) - (1 : Int64))), .second, .val (.long ((u0.toInt64) + (1 : Int64))), .second, .val (.int w31), .val (.int (1 : Int32)), .val (.int (if (0 : Int32) < (lcmpW (u0.toInt64) (u0.toInt64)) then (0 : Int32) else (1 : Int32))), .val (.int (1 : Int32)), .val (.int (1 : Int32))] [])) tt
      refine XS.iload X37.here hx rfl (hb hby at_156) rfl ?_
      show Steps p.tables e below (T37.setTop (mkF m 158 #[.val (.int u0), .val (.int u1), .val (.int u2), .val (.int (1 : Int32)), .val (.ref b20), .val (.long ((u0.toInt64) - (1 : Int64))), .second, .val (.long ((u0.toInt64) + (1 : Int64))), .second, .val (.int w31), .val (.int (1 : Int32)), .val (.int (if (0 : Int32) < (lcmpW (u0.toInt64) (u0.toInt64)) then (0 : Int32) else (1 : Int32))), .val (.int (1 : Int32)), .val (.int (1 : Int32))] [(.int (1 : Int32))])) tt
      refine XS.ifNo X37.here hx rfl (hb hby at_158) rfl ((if0 _ _).trans (feq ((by decide) : ¬ ((1 : Int32) = (0 : Int32)))).1) ?_
      show Steps p.tables e below (T37.setTop (mkF m 161 #[.val (.int u0), .val (.int u1), .val (.int u2), .val (.int (1 : Int32)), .val (.ref b20), .val (.long ((u0.toInt64) - (1 : Int64))), .second, .val (.long ((u0.toInt64) + (1 : Int64))), .second, .val (.int w31), .val (.int (1 : Int32)), .val (.int (if (0 : Int32) < (lcmpW (u0.toInt64) (u0.toInt64)) then (0 : Int32) else (1 : Int32))), .val (.int (1 : Int32)), .val (.int (1 : Int32))] [])) tt
      refine XS.iconst X37.here hx rfl (hb hby at_161) ?_
      show Steps p.tables e below (T37.setTop (mkF m 162 #[.val (.int u0), .val (.int u1), .val (.int u2), .val (.int (1 : Int32)), .val (.ref b20), .val (.long ((u0.toInt64) - (1 : Int64))), .second, .val (.long ((u0.toInt64) + (1 : Int64))), .second, .val (.int w31), .val (.int (1 : Int32)), .val (.int (if (0 : Int32) < (lcmpW (u0.toInt64) (u0.toInt64)) then (0 : Int32) else (1 : Int32))), .val (.int (1 : Int32)), .val (.int (1 : Int32))] [(.int (1 : Int32))])) tt
      refine XS.goto X37.here hx rfl (pc0 := 162) (pc' := 166) rfl (hb hby at_162) (by decide) (by decide) ?_
      exact kk
    have f38 : k21 ≤ T29.heap.size := (Nat.le_trans hk21 K29.1)
    exact GoalW.retV (s := s) (vm0 := T21.vm) X37 hS21 hx Bd.returns rfl (Or.inl ⟨rfl, Or.inr (Or.inl rfl), _, rfl⟩) (hb hby at_166) hlk e37 f38 ⟨rfl, N37⟩ (by decide) (by decide)
set_option maxRecDepth 65536 in
set_option maxHeartbeats 40000000 in
theorem comes_1 {Post : Tables → Env → Array Value → State → Outcome → State → Prop} (hpost : ∀ tb e args s v u, (limb_1_1.after args s (.returned v) u = true ∧ limb_1_2.after args s (.returned v) u = true ∧ True) → ReturnedEndW s (.returned v) u (Jvm.fieldLocs frame_1_writes args s ++ Jvm.arrayLocs frame_1_arrays args s ++ Jvm.staticLocs frame_1_statics s) 16 1152 → Post tb e args s (.returned v) u) :
    ArmFor flags0 classFile x code maxLocals ret World_1 tables_1 room_1 Calls_1 rest_1 Pre_1 Post := by
  intro l hfl _ _ p e ha hc hk s m args below hf hA hF happ hP
  obtain ⟨hcalls, hrest, hpre⟩ := hP
  obtain ⟨-, -, -, hnamed, -, -, -, hat⟩ := (Spec.applies_iff hf).mp happ
  obtain ⟨hg, hn⟩ := and_e (Cond.before_iff.mp (show (Jvm.Cond.and given_1 narrow_1).before args s = true from hpre))
  obtain ⟨u1, u2⟩ := and_e hg
  obtain ⟨u3, u4⟩ := and_e u2
  obtain ⟨u5, u6⟩ := and_e u4
  obtain ⟨w0, w1, w2, rfl⟩ : ∃ w0 w1 w2 : Value, args = #[w0, w1, w2] := by
    have hs : args.size = 3 := by simpa [Cond.value, given_1] using u1
    obtain ⟨L⟩ := args
    match L, hs with
    | [w0, w1, w2], _ => exact ⟨w0, w1, w2, rfl⟩
  have hw := fun d (hd : d ∈ tables_1) => atoms_spec (ws := Jvm.Cond.code x code maxLocals ret :: tables_1) hat d (List.mem_cons_of_mem _ hd)
  obtain ⟨i0, ei0⟩ := is_v u3
  obtain rfl : w0 = (.int i0) := Option.some.inj ei0
  obtain ⟨i1, ei1⟩ := is_v u5
  obtain rfl : w1 = (.int i1) := Option.some.inj ei1
  obtain ⟨i2, ei2⟩ := is_v u6
  obtain rfl : w2 = (.int i2) := Option.some.inj ei2
  obtain ⟨n, o, h1, h2, h3, _, L, rfl, ⟨rfl, N⟩, hq⟩ := rm0 l s _ hw tables_1 i0 i1 i2 s.heap s.heap.size (Nat.le_refl _)  p e ha hc hk s m _ below hf ((Spec.applies_iff_loose hf).mp happ).1 ⟨rfl, State.Warmed39.refl s, rfl⟩ trivial
  refine ⟨n, _, h1, h2, h3, hpost _ _ _ _ _ _ ⟨Cond.after_iff.mpr rfl, Cond.after_iff.mpr (eq_i res_at (Term.int_eval (1)) rfl), trivial⟩ ⟨hq.1, hq.2.1, hq.2.2.1, (hq.2.2.2.sift fun y hy => Or.inr (N y hy)).mono (by decide) (by decide)⟩⟩
theorem main_1_1 : Claimed_1_1 := comes_1 fun _ _ _ _ _ _ h hF => ⟨h.1, hF⟩
theorem main_1_2 : Claimed_1_2 := comes_1 fun _ _ _ _ _ _ h hF => ⟨h.2.1, hF⟩
end Jvm.Pilot.@@N@@
namespace Jvm.Pilot.@@N@@
open Jvm Jvm.ClassFile Sem Op Lib Jvm.Free Jvm.Stand Jvm.Pilot.@@N@@.Jvm.D
/-! MADE BY PROGRAM (witnessworld.py) out of the Statement's table words and the real class files: 15 classes; the members and pool entries that the words name. The judged class is class 1, her method 1. -/
namespace start1
open Jvm.ClassFile
def u (s : String) : CpInfo := .utf8 (stringToUtf16 s)
/-- a pool by its gaps: so many unusable entries, then the entry; so many at the end -/
def gap : Nat → List CpInfo → List CpInfo
  | 0, r => r
  | n + 1, r => .unusable :: gap n r
def poolList (es : List (Nat × CpInfo)) (last : Nat) : List CpInfo := es.foldr (fun e r => gap e.1 (e.2 :: r)) (gap last [])
def pool (es : List (Nat × CpInfo)) (last : Nat) : Array CpInfo := ⟨poolList es last⟩
def fileOf (pool : Array CpInfo) (this : Nat) (attrs : Array Attribute := #[]) (ms : Array MethodInfo := #[]) (fl : Nat := 33) (sup : Nat := 0) (ifs : Array Nat := #[]) (fds : Array FieldInfo := #[]) : ClassFile where
  minorVersion := 0
  majorVersion := 65
  constantPool := pool
  accessFlags := fl
  thisClass := this
  superClass := sup
  interfaces := ifs
  fields := fds
  methods := ms
  attributes := attrs
def plain (name : String) (sup : Option ClassId) : Class where
  name := name
  kind := .ordinary
  loader := none
  accessFlags := 33
  super := sup
  interfaces := #[]
  cf := none
  fields := #[]
  methods := #[]
  instanceTypes := #[]
  staticTypes := #[]
  resolved := #[]
  callSites := []
  init := .initialized
  statics := none
  mirror := none

def pool0 : Array CpInfo := pool [(5, u "<init>"), (0, u "()V"), (1, .class_ 10), (1, u "java/lang/Object")] 113

def k0c0 : Code := { maxStack := 0, maxLocals := 1, code := object_method_1_code, exceptionTable := #[], attributes := #[] }
def k0m0 : Method := { name := "<init>", desc := "()V", sig := { parameters := [], returnType := none }, accessFlags := 1, code := some k0c0 }
/-- java/lang/Object -/
def k0 : Class := { plain "java/lang/Object" none with
  accessFlags := 33
  interfaces := #[]
  cf := some (fileOf pool0 8 #[] #[{ accessFlags := 1, nameIndex := 5, descriptorIndex := 6, attributes := #[] }] 33 0 #[] #[])
  fields := #[]
  methods := #[k0m0]
  instanceTypes := #[]
  staticTypes := #[]
  resolved := Array.replicate 124 none
  statics := none }

def pool1 : Array CpInfo := pool [(2, .class_ 4), (1, u "java/lang/Object"), (0, u "<init>"), (0, u "()V"), (0, .class_ 8), (0, u "com/example/purloin/measure/Bar"), (0, .string 10), (0, u "bar"), (0, .methodref 7 12), (0, .nameAndType 5 13), (0, u "(Ljava/lang/String;DZ)V"), (0, .methodref 7 15), (0, .nameAndType 16 17), (0, u "met"), (0, u "(D)Z"), (0, .class_ 19), (0, u "com/example/purloin/measure/BarMetPinLaw"), (2, u "law"), (0, u "(III)Z")] 3

def k1m0 : Method := { name := "<init>", desc := "()V", sig := { parameters := [], returnType := none }, accessFlags := 1, code := none }
def k1c1 : Code := { maxStack := 6, maxLocals := 14, code := code, exceptionTable := #[], attributes := #[] }
def k1m1 : Method := { name := "law", desc := "(III)Z", sig := { parameters := [.int, .int, .int], returnType := some .boolean }, accessFlags := 9, code := some k1c1 }
/-- com/example/purloin/measure/BarMetPinLaw -/
def k1 : Class := { plain "com/example/purloin/measure/BarMetPinLaw" (some 0) with
  accessFlags := 49
  interfaces := #[]
  cf := some (fileOf pool1 18 #[] #[{ accessFlags := 1, nameIndex := 5, descriptorIndex := 6, attributes := #[] }, { accessFlags := 9, nameIndex := 22, descriptorIndex := 23, attributes := #[] }] 49 2 #[] #[])
  fields := #[]
  methods := #[k1m0, k1m1]
  instanceTypes := #[]
  staticTypes := #[]
  resolved := Array.replicate 27 none
  statics := none }

def pool2 : Array CpInfo := pool [(1, .methodref 2 3), (0, .class_ 4), (0, .nameAndType 5 6), (0, u "java/lang/Object"), (0, u "<init>"), (0, u "()V"), (0, .class_ 8), (0, u "java/lang/Record")] 13

def k2c0 : Code := { maxStack := 1, maxLocals := 1, code := jdk_30_method_1_code, exceptionTable := #[], attributes := #[] }
def k2m0 : Method := { name := "<init>", desc := "()V", sig := { parameters := [], returnType := none }, accessFlags := 4, code := some k2c0 }
/-- java/lang/Record -/
def k2 : Class := { plain "java/lang/Record" (some 0) with
  accessFlags := 1057
  interfaces := #[]
  cf := some (fileOf pool2 7 #[] #[{ accessFlags := 4, nameIndex := 5, descriptorIndex := 6, attributes := #[] }] 1057 2 #[] #[])
  fields := #[]
  methods := #[k2m0]
  instanceTypes := #[]
  staticTypes := #[]
  resolved := Array.replicate 22 none
  statics := none }

def pool3 : Array CpInfo := pool [(1, .methodref 2 3), (0, .class_ 4), (0, .nameAndType 5 6), (0, u "java/lang/Record"), (0, u "<init>"), (0, u "()V"), (0, .fieldref 8 9), (0, .class_ 10), (0, .nameAndType 11 12), (0, u "com/example/purloin/measure/Bar"), (0, u "text"), (0, u "Ljava/lang/String;"), (0, .fieldref 8 14), (0, .nameAndType 15 16), (0, u "limit"), (0, u "D"), (0, .fieldref 8 18), (0, .nameAndType 19 20), (0, u "upper"), (0, u "Z"), (10, u "(Ljava/lang/String;DZ)V"), (21, u "met"), (0, u "(D)Z")] 179

def k3c0 : Code := { maxStack := 3, maxLocals := 5, code := prog_33_method_1_code, exceptionTable := #[], attributes := #[] }
def k3m0 : Method := { name := "<init>", desc := "(Ljava/lang/String;DZ)V", sig := { parameters := [(.object "java/lang/String"), .double, .boolean], returnType := none }, accessFlags := 0, code := some k3c0 }
def k3c1 : Code := { maxStack := 4, maxLocals := 3, code := prog_33_method_5_code, exceptionTable := #[], attributes := #[] }
def k3m1 : Method := { name := "met", desc := "(D)Z", sig := { parameters := [.double], returnType := some .boolean }, accessFlags := 0, code := some k3c1 }
/-- com/example/purloin/measure/Bar -/
def k3 : Class := { plain "com/example/purloin/measure/Bar" (some 2) with
  accessFlags := 48
  interfaces := #[]
  cf := some (fileOf pool3 8 #[] #[{ accessFlags := 0, nameIndex := 5, descriptorIndex := 31, attributes := #[] }, { accessFlags := 0, nameIndex := 53, descriptorIndex := 54, attributes := #[] }] 48 2 #[] #[{ accessFlags := 18, nameIndex := 11, descriptorIndex := 12, attributes := #[] }, { accessFlags := 18, nameIndex := 15, descriptorIndex := 16, attributes := #[] }, { accessFlags := 18, nameIndex := 19, descriptorIndex := 20, attributes := #[] }])
  fields := #[{ name := "text", type := (.object "java/lang/String"), accessFlags := 18, slot := 0, constantValue := 0 }, { name := "limit", type := .double, accessFlags := 18, slot := 1, constantValue := 0 }, { name := "upper", type := .boolean, accessFlags := 18, slot := 2, constantValue := 0 }]
  methods := #[k3m0, k3m1]
  instanceTypes := #[(.object "java/lang/String"), .double, .boolean]
  staticTypes := #[]
  resolved := Array.replicate 234 none
  statics := none }

def pool4 : Array CpInfo := pool [(1, .class_ 2), (0, u "java/io/Serializable"), (0, .class_ 4), (0, u "java/lang/Object")] 2

/-- java/io/Serializable -/
def k4 : Class := { plain "java/io/Serializable" (some 0) with
  accessFlags := 1537
  interfaces := #[]
  cf := some (fileOf pool4 1 #[] #[] 1537 3 #[] #[])
  fields := #[]
  methods := #[]
  instanceTypes := #[]
  staticTypes := #[]
  resolved := Array.replicate 7 none
  statics := none }

def pool5 : Array CpInfo := pool [(1, .class_ 2), (0, u "java/lang/Comparable"), (0, .class_ 4), (0, u "java/lang/Object")] 7

/-- java/lang/Comparable -/
def k5 : Class := { plain "java/lang/Comparable" (some 0) with
  accessFlags := 1537
  interfaces := #[]
  cf := some (fileOf pool5 1 #[] #[] 1537 3 #[] #[])
  fields := #[]
  methods := #[]
  instanceTypes := #[]
  staticTypes := #[]
  resolved := Array.replicate 12 none
  statics := none }

def pool6 : Array CpInfo := pool [(2, .class_ 4), (1, u "java/lang/CharSequence"), (42, .class_ 48), (0, u "java/lang/CharSequence$1CodePointIterator"), (10, .class_ 60), (0, u "java/lang/CharSequence$1CharIterator"), (5, .class_ 67), (0, u "java/lang/Object")] 63

/-- java/lang/CharSequence -/
def k6 : Class := { plain "java/lang/CharSequence" (some 0) with
  accessFlags := 1537
  interfaces := #[]
  cf := some (fileOf pool6 2 #[.nestMembers #[47, 59]] #[] 1537 66 #[] #[])
  fields := #[]
  methods := #[]
  instanceTypes := #[]
  staticTypes := #[]
  resolved := Array.replicate 131 none
  statics := none }

def pool7 : Array CpInfo := pool [(1, .class_ 2), (0, u "java/lang/constant/Constable"), (0, .class_ 4), (0, u "java/lang/Object")] 6

/-- java/lang/constant/Constable -/
def k7 : Class := { plain "java/lang/constant/Constable" (some 0) with
  accessFlags := 1537
  interfaces := #[]
  cf := some (fileOf pool7 1 #[] #[] 1537 3 #[] #[])
  fields := #[]
  methods := #[]
  instanceTypes := #[]
  staticTypes := #[]
  resolved := Array.replicate 11 none
  statics := none }

def pool8 : Array CpInfo := pool [(1, .class_ 2), (0, u "java/lang/constant/ConstantDesc"), (0, .class_ 4), (0, u "java/lang/Object")] 32

/-- java/lang/constant/ConstantDesc -/
def k8 : Class := { plain "java/lang/constant/ConstantDesc" (some 0) with
  accessFlags := 1537
  interfaces := #[]
  cf := some (fileOf pool8 1 #[] #[] 1537 3 #[] #[])
  fields := #[]
  methods := #[]
  instanceTypes := #[]
  staticTypes := #[]
  resolved := Array.replicate 37 none
  statics := none }

def pool9 : Array CpInfo := pool [(2, .class_ 4), (1, u "java/lang/Object"), (0, u "<init>"), (0, u "()V"), (3, .class_ 12), (1, u "java/lang/String"), (0, u "value"), (0, u "[B"), (2, u "coder"), (0, u "B"), (2, u "hash"), (0, u "I"), (2, u "hashIsZero"), (0, u "Z"), (13, u "COMPACT_STRINGS"), (534, .class_ 576), (0, u "java/lang/CharSequence"), (22, u "CASE_INSENSITIVE_ORDER"), (0, u "Ljava/util/Comparator;"), (500, u "serialPersistentFields"), (0, u "[Ljava/io/ObjectStreamField;"), (0, .class_ 1104), (0, u "java/lang/String$CaseInsensitiveComparator"), (1, .class_ 1107), (0, u "java/io/Serializable"), (0, .class_ 1109), (0, u "java/lang/Comparable"), (0, .class_ 1111), (0, u "java/lang/constant/Constable"), (0, .class_ 1113), (0, u "java/lang/constant/ConstantDesc"), (2, u "serialVersionUID"), (0, u "J"), (3, u "REPL"), (0, u "C"), (2, u "LATIN1"), (1, u "UTF16")] 323

def k9m0 : Method := { name := "<init>", desc := "()V", sig := { parameters := [], returnType := none }, accessFlags := 1, code := none }
/-- java/lang/String -/
def k9 : Class := { plain "java/lang/String" (some 0) with
  accessFlags := 49
  interfaces := #[4, 5, 6, 7, 8]
  cf := some (fileOf pool9 10 #[.nestMembers #[1103]] #[{ accessFlags := 1, nameIndex := 5, descriptorIndex := 6, attributes := #[] }] 49 2 #[1106, 1108, 575, 1110, 1112] #[{ accessFlags := 18, nameIndex := 13, descriptorIndex := 14, attributes := #[] }, { accessFlags := 18, nameIndex := 17, descriptorIndex := 18, attributes := #[] }, { accessFlags := 2, nameIndex := 21, descriptorIndex := 22, attributes := #[] }, { accessFlags := 2, nameIndex := 25, descriptorIndex := 26, attributes := #[] }, { accessFlags := 26, nameIndex := 1116, descriptorIndex := 1117, attributes := #[] }, { accessFlags := 24, nameIndex := 40, descriptorIndex := 26, attributes := #[] }, { accessFlags := 26, nameIndex := 1101, descriptorIndex := 1102, attributes := #[] }, { accessFlags := 26, nameIndex := 1121, descriptorIndex := 1122, attributes := #[] }, { accessFlags := 25, nameIndex := 599, descriptorIndex := 600, attributes := #[] }, { accessFlags := 24, nameIndex := 1125, descriptorIndex := 18, attributes := #[] }, { accessFlags := 24, nameIndex := 1127, descriptorIndex := 18, attributes := #[] }])
  fields := #[{ name := "value", type := (.array .byte), accessFlags := 18, slot := 0, constantValue := 0 }, { name := "coder", type := .byte, accessFlags := 18, slot := 1, constantValue := 0 }, { name := "hash", type := .int, accessFlags := 2, slot := 2, constantValue := 0 }, { name := "hashIsZero", type := .boolean, accessFlags := 2, slot := 3, constantValue := 0 }, { name := "serialVersionUID", type := .long, accessFlags := 26, slot := 0, constantValue := 0 }, { name := "COMPACT_STRINGS", type := .boolean, accessFlags := 24, slot := 1, constantValue := 0 }, { name := "serialPersistentFields", type := (.array (.object "java/io/ObjectStreamField")), accessFlags := 26, slot := 2, constantValue := 0 }, { name := "REPL", type := .char, accessFlags := 26, slot := 3, constantValue := 0 }, { name := "CASE_INSENSITIVE_ORDER", type := (.object "java/util/Comparator"), accessFlags := 25, slot := 4, constantValue := 0 }, { name := "LATIN1", type := .byte, accessFlags := 24, slot := 5, constantValue := 0 }, { name := "UTF16", type := .byte, accessFlags := 24, slot := 6, constantValue := 0 }]
  methods := #[k9m0]
  instanceTypes := #[(.array .byte), .byte, .int, .boolean]
  staticTypes := #[.long, .boolean, (.array (.object "java/io/ObjectStreamField")), .char, (.object "java/util/Comparator"), .byte, .byte]
  resolved := Array.replicate 1451 none
  statics := none }

def pool10 : Array CpInfo := pool [(1, u "java/lang/Cloneable"), (0, .class_ 1), (0, u "java/lang/Object"), (0, .class_ 3)] 3

/-- java/lang/Cloneable -/
def k10 : Class := { plain "java/lang/Cloneable" (some 0) with
  accessFlags := 1537
  interfaces := #[]
  cf := some (fileOf pool10 2 #[] #[] 1537 4 #[] #[])
  fields := #[]
  methods := #[]
  instanceTypes := #[]
  staticTypes := #[]
  resolved := Array.replicate 8 none
  statics := none }

/-- the primitive byte -/
def k11 : Class := { plain "byte" none with kind := .primitive 'B', accessFlags := 0x411 }
/-- [B -/
def k12 : Class := { plain "[B" (some 0) with kind := .array 11 .byte, interfaces := #[10, 4], accessFlags := 1041 }

/-- the primitive int -/
def k13 : Class := { plain "int" none with kind := .primitive 'I', accessFlags := 0x411 }
/-- [I -/
def k14 : Class := { plain "[I" (some 0) with kind := .array 13 .int, interfaces := #[10, 4], accessFlags := 1041 }

def heap : Heap := #[]
def classes : Array Class := #[k0, k1, k2, k3, k4, k5, k6, k7, k8, k9, k10, k11, k12, k13, k14]
def interned : List (Array UInt16 × Addr) := []
def slotsUsed : Nat := 0
def theMethod : MethodId := ⟨1, 1⟩
def args0 : Array Value := #[.int 5, .int 3, .int 1]
def aboutOver (below : List Frame) : State where
  vm := { classes := classes, interned := interned.toArray }
  heap := heap
  slotsUsed := slotsUsed
  threads := #[{ frames := .invoking theMethod args0 :: below }]
def below0 : List Frame := [.native { method := ⟨0, 0⟩, args := #[] }]
def about1 : State := aboutOver below0
def p0 : Program := .bare "" "" ""
def e0 : Env := launch0.env 0 0 0
theorem w_frames : about1.frames = Frame.invoking theMethod args0 :: below0 := rfl
set_option maxRecDepth 65536 in
theorem w_args : argsFit about1.vm theMethod args0 = true := by decide +kernel
set_option maxRecDepth 65536 in
theorem w_heap : heapFits about1 = true := by decide +kernel
set_option maxRecDepth 65536 in
theorem w_runnable : about1.curStatus? = some .runnable := by decide +kernel
set_option maxRecDepth 65536 in
theorem w_alone : about1.alone = true := by decide +kernel
set_option maxRecDepth 65536 in
theorem w_named : about1.methodNamed? x = some theMethod := by decide +kernel
set_option maxRecDepth 65536 in
theorem w_hears : about1.hears theMethod below0 = true := by decide +kernel
set_option maxRecDepth 65536 in
theorem w_ripe : about1.ripe theMethod args0 below0 = true := by decide +kernel
theorem w_running : about1.status = .running := rfl
set_option maxRecDepth 65536 in
theorem w_room : about1.hasRoom e0.platform room_1 = true :=
  launch0.hasRoom_least _ room_1 (by decide +kernel) (by decide +kernel) (by decide +kernel) (by decide +kernel) (by decide +kernel) (by decide +kernel)
theorem allAtoms_all (ts : List Jvm.Cond) (a : Array Jvm.Value) (st : Jvm.State) : (allAtoms ts).before a st = ts.all (fun c => c.before a st) := by
  induction ts with
  | nil => rfl
  | cons c t ih =>
    show (Jvm.Cond.and c (allAtoms t)).before a st = _
    rw [Jvm.Cond.before_and, ih, List.all_cons]
def words1 : List Jvm.Cond := Jvm.Cond.code x code maxLocals ret :: tables_1
/-- a 'code' word, met by the world's own term for the bytes: nothing is compared byte by byte -/
theorem code_word {y : MethodName} {bytes : ByteArray} {mx : Nat} {rt : Option FieldType} {a : Array Value} {s : State} {m : MethodId} {meth : Method} {c : Code} (h1 : s.methodNamed? y = some m) (h2 : s.vm.method? m = some meth) (h3 : meth.code = some c) (h4 : c.code = bytes)
    (h5 : (c.maxLocals == mx && c.exceptionTable.isEmpty && decide (c.maxStack ≤ mostOperands) && decide (meth.sig.returnType = rt) && !meth.locks && decide (parseMethodDescriptor y.desc = some meth.sig)) = true) : (Jvm.Cond.code y bytes mx rt).before a s = true := by
  simp only [Bool.and_eq_true, beq_iff_eq, Bool.not_eq_true', decide_eq_true_eq] at h5
  obtain ⟨⟨⟨⟨⟨g1, g2⟩, g3⟩, g4⟩, g5⟩, g6⟩ := h5
  simp [Cond.before, Cond.holds, Cond.value, h1, h2, h3, h4, g1, g2, g3, g4, g5, g6]
def isCode : Jvm.Cond → Bool
  | .code _ _ _ _ => true
  | _ => false
theorem all_split {L : List Jvm.Cond} {P : Jvm.Cond → Bool} (h1 : L.all (fun c => isCode c || P c) = true) (h2 : ∀ c ∈ L.filter isCode, P c = true) : L.all P = true := by
  refine List.all_eq_true.mpr fun c hc => ?_
  have h := List.all_eq_true.mp h1 c hc
  rcases Bool.eq_false_or_eq_true (isCode c) with hi | hi
  · exact h2 c (List.mem_filter.mpr ⟨hc, hi⟩)
  · simpa [hi] using h
set_option maxRecDepth 65536 in
theorem w_c0 : (Jvm.Cond.code x code maxLocals ret).before args0 about1 = true := code_word (m := ⟨1, 1⟩) (meth := k1m1) (c := k1c1) (by decide +kernel) rfl rfl rfl (by decide +kernel)
set_option maxRecDepth 65536 in
theorem w_c1 : (Jvm.Cond.code ({ cls := "com/example/purloin/measure/Bar", name := "<init>", desc := "(Ljava/lang/String;DZ)V" } : Jvm.MethodName) prog_33_method_1_code (5 : Nat) (Option.none : Option Jvm.ClassFile.FieldType)).before args0 about1 = true := code_word (m := ⟨3, 0⟩) (meth := k3m0) (c := k3c0) (by decide +kernel) rfl rfl rfl (by decide +kernel)
set_option maxRecDepth 65536 in
theorem w_c2 : (Jvm.Cond.code ({ cls := "java/lang/Record", name := "<init>", desc := "()V" } : Jvm.MethodName) jdk_30_method_1_code (1 : Nat) (Option.none : Option Jvm.ClassFile.FieldType)).before args0 about1 = true := code_word (m := ⟨2, 0⟩) (meth := k2m0) (c := k2c0) (by decide +kernel) rfl rfl rfl (by decide +kernel)
set_option maxRecDepth 65536 in
theorem w_c3 : (Jvm.Cond.code ({ cls := "java/lang/Object", name := "<init>", desc := "()V" } : Jvm.MethodName) object_method_1_code (1 : Nat) (Option.none : Option Jvm.ClassFile.FieldType)).before args0 about1 = true := code_word (m := ⟨0, 0⟩) (meth := k0m0) (c := k0c0) (by decide +kernel) rfl rfl rfl (by decide +kernel)
set_option maxRecDepth 65536 in
theorem w_c4 : (Jvm.Cond.code ({ cls := "com/example/purloin/measure/Bar", name := "met", desc := "(D)Z" } : Jvm.MethodName) prog_33_method_5_code (3 : Nat) (Option.some Jvm.ClassFile.FieldType.boolean)).before args0 about1 = true := code_word (m := ⟨3, 1⟩) (meth := k3m1) (c := k3c1) (by decide +kernel) rfl rfl rfl (by decide +kernel)
def codes1 : List Jvm.Cond := [Jvm.Cond.code x code maxLocals ret, Jvm.Cond.code ({ cls := "com/example/purloin/measure/Bar", name := "<init>", desc := "(Ljava/lang/String;DZ)V" } : Jvm.MethodName) prog_33_method_1_code (5 : Nat) (Option.none : Option Jvm.ClassFile.FieldType), Jvm.Cond.code ({ cls := "java/lang/Record", name := "<init>", desc := "()V" } : Jvm.MethodName) jdk_30_method_1_code (1 : Nat) (Option.none : Option Jvm.ClassFile.FieldType), Jvm.Cond.code ({ cls := "java/lang/Object", name := "<init>", desc := "()V" } : Jvm.MethodName) object_method_1_code (1 : Nat) (Option.none : Option Jvm.ClassFile.FieldType), Jvm.Cond.code ({ cls := "com/example/purloin/measure/Bar", name := "met", desc := "(D)Z" } : Jvm.MethodName) prog_33_method_5_code (3 : Nat) (Option.some Jvm.ClassFile.FieldType.boolean)]
set_option maxRecDepth 65536 in
theorem codes_eq : words1.filter isCode = codes1 := rfl
theorem w_codes : ∀ c ∈ words1.filter isCode, c.before args0 about1 = true := by
  rw [codes_eq]
  intro c hc
  simp only [codes1, List.mem_cons, List.not_mem_nil, or_false] at hc
  rcases hc with rfl | rfl | rfl | rfl | rfl
  · exact w_c0
  · exact w_c1
  · exact w_c2
  · exact w_c3
  · exact w_c4
set_option maxRecDepth 65536 in
theorem w_t1 : (words1.take 24).all (fun c => isCode c || c.before args0 about1) = true := by decide +kernel
set_option maxRecDepth 65536 in
theorem w_t2 : (words1.drop 24).all (fun c => isCode c || c.before args0 about1) = true := by decide +kernel
theorem w_tables : (allAtoms (Jvm.Cond.code x code maxLocals ret :: tables_1)).before args0 about1 = true := by
  rw [allAtoms_all]
  show words1.all (fun c => c.before args0 about1) = true
  refine all_split ?_ w_codes
  rw [← List.take_append_drop 24 words1, List.all_append, w_t1, w_t2]
  rfl
set_option maxRecDepth 65536 in
theorem w_case : (Jvm.Cond.and given_1 narrow_1).before args0 about1 = true := by decide +kernel
theorem w_applies : (headSpec (Jvm.Cond.code x code maxLocals ret :: tables_1) room_1).applies x e0.platform about1 = true :=
  (Spec.applies_iff w_frames).mpr ⟨w_running, w_runnable, w_alone, w_named, w_hears, w_ripe, w_room, w_tables⟩
theorem atStart : AtStart classFile x code maxLocals ret World_1 tables_1 room_1 Calls_1 rest_1 Pre_1 launch0 p0 e0 about1 theMethod args0 below0 :=
  ⟨lists_1, trivial, launch0.admits_env _ _ _, launch0.least_env, fairChoices_fair.cas, fairChoices_fair.clock, w_frames, w_args, w_heap, w_applies, trivial, trivial, w_case⟩
end start1
theorem witness_1 : WitnessClaimed_1 := ⟨start1.p0, start1.e0, start1.about1, start1.theMethod, start1.args0, start1.below0, start1.atStart⟩
end Jvm.Pilot.@@N@@
