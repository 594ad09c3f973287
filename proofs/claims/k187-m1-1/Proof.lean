import JvmDerived
import JvmDerived.Pilot.@@N@@Statement
import JvmDerived.Pilot.@@N@@Code
set_option linter.unusedVariables false
set_option linter.unusedSimpArgs false
@@BLOCK:NumsL.lean.txt@@
namespace Jvm.RoadKit
open Sem ClassFile Op Lib Jvm.Stand Jvm.Free Jvm.LawKit
section Own
variable {p : Program} {l : Launch} {e : Env} {R : Room} {s : State} {m : MethodId} {args : Array Value} {below : List Frame} {meth : Method} {c : Code} {T : State} {locs : List Loc} {cells slots : Nat} {Z : State} {h h' : Heap} {a b : Addr} {ty : FieldType} {vs : List Value} {cl : Cell} {sl : Nat} {v : Value} {ws : List Addr}
theorem mw {α : Type} {x : α} {L : List α} (i : Nat) (q : L[i]? = some x) : x ∈ L := List.mem_of_getElem? q
/-- from A the body comes to its end, and Q holds there -/
def Goal (p : Program) (e : Env) (below : List Frame) (s : State) (Q : Option Value → Heap → List Loc → Prop) (k n : Nat) (A : State) : Prop :=
  ∃ s₂ o, Steps p.tables e below A s₂ ∧ s₂.status = .running ∧ Ended s₂ below o ∧ ∃ v L, o = .returned v ∧ Q v s₂.heap L ∧ FrameEnd s o s₂ L k n
variable {Q : Option Value → Heap → List Loc → Prop} {k n : Nat} {A B : State}
theorem Goal.to (f : ∀ t, Steps p.tables e below B t → Steps p.tables e below A t) (g : Goal p e below s Q k n B) : Goal p e below s Q k n A := by
  obtain ⟨s₂, o, h1, r⟩ := g
  exact ⟨s₂, o, f _ h1, r⟩
theorem Goal.tr (f : Steps p.tables e below A B) (g : Goal p e below s Q k n B) : Goal p e below s Q k n A := Goal.to (fun t q => f.trans q) g
theorem Goal.retV (X : Stand p l e R s m args below meth c T locs cells slots) (hx : p.tables.exec = Jvm.exec) {pc : Nat} {Ls : Array Slot} {w : Value} {t : FieldType} {i : Instr} {rest : List Value} (hret : meth.sig.returnType = some t) (hn : narrow t w = w)
    (hi : (i = .ireturn ∧ (t = .int ∨ t = .boolean ∨ t = .byte ∨ t = .char ∨ t = .short) ∧ ∃ z, w = .int z) ∨ (i = .lreturn ∧ t = .long ∧ ∃ z, w = .long z) ∨ (i = .dreturn ∧ t = .double ∧ ∃ z, w = .double z) ∨ (i = .freturn ∧ t = .float ∧ ∃ z, w = .float z) ∨ (i = .areturn ∧ t.isReference = true ∧ w.isRef = true))
    (hd : decode c.code pc = .ok (i, 1)) (hlk : meth.locks = false) (eT : T.heap = h) (hq : Q (some w) h locs) (hc : cells ≤ k) (hs : slots ≤ n) : Goal p e below s Q k n (T.setTop (mkF m pc Ls (w :: rest))) := by
  obtain ⟨fs, hr, hrun, hended, hW, hsame⟩ := X.leave (v := some w) (fun h => by rw [hret] at h; cases h) hlk
  refine ⟨_, _, retOut X hx hret hn hi hd hr, hrun, hended, _, _, rfl, ?_, ⟨_, rfl⟩, hW, hsame.mono hc hs⟩
  show Q (some w) T.heap locs
  rw [eT]; exact hq
theorem Goal.retN (X : Stand p l e R s m args below meth c T locs cells slots) (hx : p.tables.exec = Jvm.exec) {pc : Nat} {Ls : Array Slot} (hret : meth.sig.returnType = none)
    (hd : decode c.code pc = .ok (.return_, 1)) (hlk : meth.locks = false) (eT : T.heap = h) (hq : Q none h locs) (hc : cells ≤ k) (hs : slots ≤ n) : Goal p e below s Q k n (T.setTop (mkF m pc Ls [])) := by
  obtain ⟨fs, hr, hrun, hended, hW, hsame⟩ := X.leave (v := none) (fun _ => rfl) hlk
  refine ⟨_, _, X.returnOut hx hret hd hr, hrun, hended, _, _, rfl, ?_, ⟨_, rfl⟩, hW, hsame.mono hc hs⟩
  show Q none T.heap locs
  rw [eT]; exact hq
/-- the same, with the wide end: texts may have been interned -/
def GoalW (p : Program) (e : Env) (below : List Frame) (s : State) (Q : Option Value → Heap → List Loc → Prop) (k n : Nat) (A : State) : Prop :=
  ∃ s₂ o, Steps p.tables e below A s₂ ∧ s₂.status = .running ∧ Ended s₂ below o ∧ ∃ v L, o = .returned v ∧ Q v s₂.heap L ∧ ReturnedEndW s o s₂ L k n
theorem GoalW.to (f : ∀ t, Steps p.tables e below B t → Steps p.tables e below A t) (g : GoalW p e below s Q k n B) : GoalW p e below s Q k n A := by
  obtain ⟨s₂, o, h1, r⟩ := g
  exact ⟨s₂, o, f _ h1, r⟩
theorem GoalW.tr (f : Steps p.tables e below A B) (g : GoalW p e below s Q k n B) : GoalW p e below s Q k n A := GoalW.to (fun t q => f.trans q) g
theorem GoalW.retV {vm0 : Vm} (X : Stand p l e R (s.setVm vm0) m args below meth c T locs cells slots) {k0 : Nat} (hS : s.Since vm0 k0) (hx : p.tables.exec = Jvm.exec) {pc : Nat} {Ls : Array Slot} {w : Value} {t : FieldType} {i : Instr} {rest : List Value} (hret : meth.sig.returnType = some t) (hn : narrow t w = w)
    (hi : (i = .ireturn ∧ (t = .int ∨ t = .boolean ∨ t = .byte ∨ t = .char ∨ t = .short) ∧ ∃ z, w = .int z) ∨ (i = .lreturn ∧ t = .long ∧ ∃ z, w = .long z) ∨ (i = .dreturn ∧ t = .double ∧ ∃ z, w = .double z) ∨ (i = .freturn ∧ t = .float ∧ ∃ z, w = .float z) ∨ (i = .areturn ∧ t.isReference = true ∧ w.isRef = true))
    (hd : decode c.code pc = .ok (i, 1)) (hlk : meth.locks = false) (eT : T.heap = h) (hk : k0 ≤ h.size) (hq : Q (some w) h locs) (hc : cells ≤ k) (hs : slots ≤ n) : GoalW p e below s Q k n (T.setTop (mkF m pc Ls (w :: rest))) := by
  obtain ⟨fs, hr, hrun, hended, e1, e2, e3, e4⟩ := X.leaveW hS (by rw [eT]; exact hk) (v := some w) (fun h => by rw [hret] at h; cases h) hlk
  refine ⟨_, _, retOut X hx hret hn hi hd hr, hrun, hended, _, _, rfl, ?_, e1, e2, e3, e4.mono hc hs⟩
  show Q (some w) T.heap locs
  rw [eT]; exact hq
theorem nar01 {z : Int32} (q : z = 0 ∨ z = 1) : narrow .boolean (.int z) = .int z := by rcases q with rfl | rfl <;> rfl
theorem catV {r : Value} (q : r.isRef = true) : r.category = 1 := by rcases ref_cases q with rfl | ⟨o, rfl⟩ <;> rfl
theorem catR {o : Addr} : (Value.ref o).category = 1 := rfl
theorem catI {z : Int32} : (Value.int z).category = 1 := rfl
theorem catJ {z : Int64} : (Value.long z).category = 2 := rfl
theorem catN : Value.null.category = 1 := rfl
theorem narV {r : Value} {C : String} (q : r.isRef = true) : narrow (.object C) r = r := by rcases ref_cases q with rfl | ⟨o, rfl⟩ <;> rfl
theorem fitV {r : Value} {C : String} (q : r.isRef = true) : fits (.object C) r = true := by rcases ref_cases q with rfl | ⟨o, rfl⟩ <;> rfl
theorem selP {a0 : Array Value} {y : MethodName} {n : Nat} (hZ : Z.Warmed39 s.vm) (hins : (Cond.instantiable y.cls n).before a0 Z = true) (hp : (Cond.privateMethod y).before a0 Z = true) (hi : (Cond.instanceMethod y).before a0 Z = true) (hy : y.cls ≠ "java/lang/invoke/MethodHandle" ∧ y.cls ≠ "java/lang/invoke/VarHandle") : (Cond.selects y.cls y y).before args s = true := by
  obtain ⟨c, k, hc, hk, -, hniab, -, -⟩ := Cond.instantiable_spec (mv (args := args) hZ hins)
  exact selects_self_of_private hc hk (Bool.or_eq_false_iff.mp hniab).1 (Cond.privateMethod_at (mvP (args := args) hZ hp)) (mv hZ hi) hy
theorem Fld.cast {C n d : String} {w : Value} (F : Fld Z h a C n d v) (q : v = w) : Fld Z h a C n d w := q ▸ F
/-- an array of the heap by the whole list of what it holds -/
def Ary (Z : State) (h : Heap) (a : Addr) (ty : FieldType) (vs : List Value) : Prop := ∃ cl : Cell, Arr Z h a cl ty ∧ cl.slots.toList = vs
theorem Ary.cast {ws : List Value} (F : Ary Z h a ty vs) (q : vs = ws) : Ary Z h a ty ws := q ▸ F
theorem Ary.lt (F : Ary Z h a ty vs) : a < h.size := by obtain ⟨cl, A, -⟩ := F; exact A.lt
theorem Ary.ext (F : Ary Z h a ty vs) (E : Ext h h') : Ary Z h' a ty vs := by obtain ⟨cl, A, r⟩ := F; exact ⟨cl, A.ext E, r⟩
theorem Ary.other (F : Ary Z h a ty vs) (W : Wr h h' b sl v) (q : a ≠ b) : Ary Z h' a ty vs := by obtain ⟨cl, A, r⟩ := F; exact ⟨cl, A.other W q, r⟩
theorem Ary.keep (F : Ary Z h a ty vs) (K : Keep h h' ws) (q : a ∉ ws) : Ary Z h' a ty vs := by obtain ⟨cl, A, r⟩ := F; exact ⟨cl, ⟨K.2.1 a cl A.1 q, A.2⟩, r⟩
theorem Ary.new {k : ClassId} {z : Int32} {N : Nat} (A : Arr Z h a (newA k ty z) ty) (hz : z.toNatClampNeg = N) : Ary Z h a ty (List.replicate N (defaultValue ty)) := ⟨_, A, by simp [newA, hz]⟩
theorem Ary.put {j : Nat} {N : Nat} (A : Arr Z h a cl ty) (S : cl.slots.toList = vs) (W : Wr h h' a j v) (q : j = N) : Ary Z h' a ty (vs.set N v) := ⟨_, A.same W, by subst q; simp [Cell.setSlot, S]⟩
theorem sizeA (S : cl.slots.toList = vs) : cl.slots.size = vs.length := by rw [← S]; simp
theorem inA {j : Int32} (S : cl.slots.toList = vs) (q : ¬ j < 0) (r : j.toNatClampNeg < vs.length) : ¬ (j < 0 ∨ cl.slots.size ≤ j.toNatClampNeg) := by rw [sizeA S]; intro u; rcases u with u | u; exact q u; exact absurd r (Nat.not_lt.mpr u)
theorem atA {j : Nat} (S : cl.slots.toList = vs) (q : vs[j]? = some v) : cl.slots[j]? = some v := by rw [← q, ← S]; simp
theorem lenA {z : Int32} (S : cl.slots.toList = vs) (q : vs.length.toInt32 = z) : cl.slots.size.toInt32 = z := by rw [sizeA S]; exact q
/-- a static that stood when the law began, and what it holds -/
def StaN (Z : State) (n0 : Nat) (h : Heap) (C n d : String) (v : Value) : Prop := ∃ (cf i : Nat) (k : Class) (f : Field) (st : Addr) (cell : Cell), Z.fieldFound? C n d = some (cf, k, i, f) ∧ f.isStatic = true ∧ k.init = .initialized ∧ k.statics = some st ∧ h[st]? = some cell ∧ cell.vm.isStatics = true ∧ cell.slots[f.slot]? = some v ∧ st < n0
section StaN
variable {C nm d : String} {n0 : Nat}
theorem StaN.sta (F : StaN Z n0 h C nm d v) : Sta Z h C nm d v := by obtain ⟨cf, i, k, f, st, cell, h1, h2, h3, h4, h5, h6, h7, -⟩ := F; exact ⟨cf, i, k, f, st, cell, h1, h2, h3, h4, h5, h6, h7⟩
theorem Sta.toN (F : Sta Z h C nm d v) : StaN Z h.size h C nm d v := by obtain ⟨cf, i, k, f, st, cell, h1, h2, h3, h4, h5, h6, h7⟩ := F; exact ⟨cf, i, k, f, st, cell, h1, h2, h3, h4, h5, h6, h7, (Array.getElem?_eq_some_iff.mp h5).1⟩
theorem StaN.ext (F : StaN Z n0 h C nm d v) (E : Ext h h') : StaN Z n0 h' C nm d v := by obtain ⟨cf, i, k, f, st, cell, h1, h2, h3, h4, h5, r⟩ := F; exact ⟨cf, i, k, f, st, cell, h1, h2, h3, h4, E.2 _ _ h5, r⟩
theorem StaN.keep (F : StaN Z n0 h C nm d v) (K : Keep h h' ws) (q : ∀ x ∈ ws, n0 ≤ x) : StaN Z n0 h' C nm d v := by
  obtain ⟨cf, i, k, f, st, cell, h1, h2, h3, h4, h5, h6, h7, h8⟩ := F
  exact ⟨cf, i, k, f, st, cell, h1, h2, h3, h4, K.2.1 _ _ h5 (fun z => absurd h8 (Nat.not_lt.mpr (q _ z))), h6, h7, h8⟩
theorem StaN.wr {w : Value} (F : StaN Z n0 h C nm d v) (W : Wr h h' a sl w) : StaN Z n0 h' C nm d v := by
  obtain ⟨cf, i, k, f, st, cell, h1, h2, h3, h4, h5, h6, h7, h8⟩ := F
  obtain ⟨c', e1, -, -, -, e5, -, e7⟩ := wr_at W h5
  have ne : st ≠ a := fun e => by rw [(e7 e).2.2] at h6; cases h6
  exact ⟨cf, i, k, f, st, cell, h1, h2, h3, h4, by rw [← e5 ne]; exact e1, h6, h7, h8⟩
end StaN
/-- what may lie in an array of objects of class C (of arrays of class C) -/
def OvrO (Z : State) (h : Heap) (a : Addr) (C : String) : Prop := ∃ cl : Cell, h[a]? = some cl ∧ Ovr Z cl.cls C
theorem OvrO.ext {C : String} (F : OvrO Z h a C) (E : Ext h h') : OvrO Z h' a C := by obtain ⟨cl, h1, r⟩ := F; exact ⟨cl, E.2 _ _ h1, r⟩
theorem OvrO.wr {C : String} (F : OvrO Z h a C) (W : Wr h h' b sl v) : OvrO Z h' a C := by obtain ⟨cl, h1, r⟩ := F; obtain ⟨c', e1, e2, -⟩ := wr_at W h1; exact ⟨c', e1, by rw [e2]; exact r⟩
theorem OvrO.keep {C : String} (F : OvrO Z h a C) (K : Keep h h' ws) : OvrO Z h' a C := by obtain ⟨cl, h1, r⟩ := F; obtain ⟨c', e1, e2, -⟩ := K.2.2 _ _ h1; exact ⟨c', e1, by rw [e2]; exact r⟩
theorem stoO {C : String} {y : Addr} (A : Arr Z h a cl ty) (O : OvrO Z h a C) (I : Ins Z h y C true) : Sto Z h a (.ref y) := by
  obtain ⟨c', h1, r⟩ := O
  cases A.1.symm.trans h1
  exact Sto.of A r I
def OvrB (Z : State) (h : Heap) (a : Addr) (C : String) : Prop := ∃ (cl : Cell) (t : FieldType), h[a]? = some cl ∧ OvrA Z cl.cls t C
theorem OvrB.ext {C : String} (F : OvrB Z h a C) (E : Ext h h') : OvrB Z h' a C := by obtain ⟨cl, t, h1, r⟩ := F; exact ⟨cl, t, E.2 _ _ h1, r⟩
theorem OvrB.wr {C : String} (F : OvrB Z h a C) (W : Wr h h' b sl v) : OvrB Z h' a C := by obtain ⟨cl, t, h1, r⟩ := F; obtain ⟨c', e1, e2, -⟩ := wr_at W h1; exact ⟨c', t, e1, by rw [e2]; exact r⟩
theorem OvrB.keep {C : String} (F : OvrB Z h a C) (K : Keep h h' ws) : OvrB Z h' a C := by obtain ⟨cl, t, h1, r⟩ := F; obtain ⟨c', e1, e2, -⟩ := K.2.2 _ _ h1; exact ⟨c', t, e1, by rw [e2]; exact r⟩
theorem stoB {C : String} {y : Addr} (A : Arr Z h a cl ty) (O : OvrB Z h a C) (I : Ins Z h y C true) : Sto Z h a (.ref y) := by
  obtain ⟨c', t, h1, r⟩ := O
  cases A.1.symm.trans h1
  exact Sto.ofVA A rfl r I
theorem fits_nil : ∀ w ∈ ([] : List Value), fits ty w = true := fun _ q => nomatch q
theorem fits_cons (q : fits ty v = true) (r : ∀ w ∈ vs, fits ty w = true) : ∀ w ∈ v :: vs, fits ty w = true := fun w z => (List.mem_cons.mp z).elim (fun u => u ▸ q) (r w)
theorem Ary.arv {dv : Value} {z : Int32} (F : Ary Z h a ty vs) (hz : z.toNatClampNeg = vs.length) (h0 : ¬ z < 0) (hf : ∀ w ∈ vs, fits ty w = true) : ∃ k, Arv Z h a k ty z vs dv := by
  obtain ⟨cl, A, S⟩ := F
  have sz : cl.slots.size = vs.length := sizeA S
  refine ⟨_, cl, A, rfl, sz.trans hz.symm, h0, fun i hi => ?_, fun i hi => ?_⟩
  · rw [sz] at hi
    refine atA S ?_
    rw [List.getD_eq_getElem?_getD, List.getElem?_eq_getElem hi]; rfl
  · rw [sz] at hi
    rw [List.getD_eq_getElem?_getD, List.getElem?_eq_getElem hi]
    exact hf _ (List.getElem_mem hi)
theorem Arv.ary {k : ClassId} {z : Int32} {dv : Value} (F : Arv Z h a k ty z vs dv) (hz : z.toNatClampNeg = vs.length) : Ary Z h a ty vs := by
  obtain ⟨cl, A, -, S, -, H, -⟩ := F
  refine ⟨cl, A, List.ext_getElem? fun i => ?_⟩
  by_cases hi : i < cl.slots.size
  · have q := H i hi
    have hv : i < vs.length := by omega
    rw [List.getD_eq_getElem?_getD, List.getElem?_eq_getElem hv] at q
    rw [List.getElem?_eq_getElem hv, Array.getElem?_toList]; exact q
  · rw [List.getElem?_eq_none (by simp; omega), List.getElem?_eq_none (by omega)]
theorem storeV {Ls : Array Slot} {i : Nat} {r : Value} {o : Slot} {l' : Array Slot} (q : r.isRef = true) (ho : o = .unset ∨ ∃ w, o = .val w ∧ w.category = 1) (hold : Ls[i]? = some o := by rfl) (hl : Ls.setIfInBounds i (.val r) = l' := by rfl) : storeLocals Ls i r = some l' := by
  rw [← hl]; exact XS.store1 hold ho (catV q)
end Own
end Jvm.RoadKit
namespace Jvm.Pilot.@@N@@
open Jvm Jvm.ClassFile Sem Op Lib Jvm.Free Jvm.Stand Jvm.LawKit Jvm.RoadKit Bundle Jvm.Pilot.@@N@@.Jvm.D
theorem own_if (P : Prop) [Decidable P] : (if P then (1 : Int32) else (0 : Int32)) = 0 ∨ (if P then (1 : Int32) else (0 : Int32)) = 1 := by
  by_cases h : P
  · exact Or.inr (if_pos h)
  · exact Or.inl (if_neg h)
def own_ex (u : Int32) (n : Int64) : Int32 := if u = (2147483647 : Int32) then (0 : Int32) else if (0 : Int32) < lcmpW n (u.toInt64) then (1 : Int32) else (0 : Int32)
theorem own_i (x : Int32) : B53 x.toInt64 := by
  have e := Jvm.Kit.i64_of_i32 x
  have a := x.toInt_lt
  have b := x.le_toInt
  exact ⟨by rw [e]; omega, by rw [e]; omega⟩
theorem own_b {P : Prop} [Decidable P] {u : Int64} {v w : Int32} {n : Int64} (h : n = if P then (u >>> ((11 : Int32) &&& 0x3f).toInt64) else (((v.toInt64) + ((w &&& (3 : Int32)).toInt64)) - (2 : Int64))) : B53 n := by
  by_cases q : P
  · rw [if_pos q] at h
    have e : (u >>> ((11 : Int32) &&& 0x3f).toInt64).toInt = u.toInt / 2 ^ 11 := Jvm.Kit.i64_shr u _ (by decide)
    have a := u.toInt_lt
    have b := u.le_toInt
    rw [h]
    exact ⟨by rw [e]; omega, by rw [e]; omega⟩
  · rw [if_neg q] at h
    have e1 := Jvm.Kit.i64_of_i32 v
    have e2 := Jvm.Kit.i64_of_i32 (w &&& 3)
    have m := Jvm.Kit.i32_mask w 3 (k := 2) (by decide) (by decide)
    have a := v.toInt_lt
    have b := v.le_toInt
    have e3 : (2 : Int64).toInt = 2 := rfl
    have s1 : ((v.toInt64) + ((w &&& (3 : Int32)).toInt64)).toInt = v.toInt + w.toInt % 2 ^ 2 := by rw [Jvm.Kit.i64_add (by rw [e1, e2, m]; omega) (by rw [e1, e2, m]; omega), e1, e2, m]
    have s2 : (((v.toInt64) + ((w &&& (3 : Int32)).toInt64)) - (2 : Int64)).toInt = v.toInt + w.toInt % 2 ^ 2 - 2 := by rw [Jvm.Kit.i64_sub (by rw [s1, e3]; omega) (by rw [s1, e3]; omega), s1, e3]
    rw [h]
    exact ⟨by rw [s2]; omega, by rw [s2]; omega⟩
theorem ef_1 (m : MethodId) (x0 : UInt64) (x1 : Int32)  : entryFrame m #[(.double x0), (.int x1)] 3 = mkF m 0 #[.val (.double x0), .second, .val (.int x1)] [] := by first | (simp [entryFrame, mkF, argsToLocals, Value.category]; done) | rfl
theorem pn_1 : plainName "com/example/cohortbench/cohortbench/protocols/speculative/Executions" = true := by first | (simp [plainName, overriddenIn]; done) | decide +kernel
theorem d1_0 : decode prog_123_method_1_code 0 = .ok (.iload_n 2, 1) := by decide +kernel
theorem d1_1 : decode prog_123_method_1_code 1 = .ok (.ldc 7, 2) := by decide +kernel
theorem d1_3 : decode prog_123_method_1_code 3 = .ok (.if_icmp .eq 14, 3) := by decide +kernel
theorem d1_17 : decode prog_123_method_1_code 17 = .ok (.iconst 0, 1) := by decide +kernel
theorem d1_18 : decode prog_123_method_1_code 18 = .ok (.ireturn, 1) := by decide +kernel
theorem d1_6 : decode prog_123_method_1_code 6 = .ok (.dload_n 0, 1) := by decide +kernel
theorem d1_7 : decode prog_123_method_1_code 7 = .ok (.iload_n 2, 1) := by decide +kernel
theorem d1_8 : decode prog_123_method_1_code 8 = .ok (.i2d, 1) := by decide +kernel
theorem d1_9 : decode prog_123_method_1_code 9 = .ok (.dcmp .l, 1) := by decide +kernel
theorem d1_10 : decode prog_123_method_1_code 10 = .ok (.ifCond .le 7, 3) := by decide +kernel
theorem d1_13 : decode prog_123_method_1_code 13 = .ok (.iconst 1, 1) := by decide +kernel
theorem d1_14 : decode prog_123_method_1_code 14 = .ok (.goto 4, 3) := by decide +kernel
def Q1 (Z : State) (un : Int64) (ul : Int32) (h0 : Heap) (n0 : Nat) (v : Option Value) (h : Heap) (L : List Loc) : Prop := v = some (.int (own_ex ul un)) ∧ Fr n0 L ∧ h = h0
set_option maxRecDepth 65536 in
set_option maxHeartbeats 40000000 in
theorem rm1 (l : Launch) (Z : State) (a0 : Array Value) (hw : ∀ d ∈ tables_1, d.before a0 Z = true) (ws : List Jvm.Cond) (un : Int64) (ul : Int32) (h0 : Heap) (n0 : Nat) (Z0 : n0 ≤ h0.size) (hbb : B53 un) :
    MetFree l (⟨"com/example/cohortbench/cohortbench/protocols/speculative/Executions", "exceeds", "(DI)Z"⟩ : MethodName) (head1 (Jvm.Cond.code (⟨"com/example/cohortbench/cohortbench/protocols/speculative/Executions", "exceeds", "(DI)Z"⟩ : MethodName) prog_123_method_1_code 3 (some .boolean) :: ws) ({ frames := 0, cells := 0, slots := 0, locals := 0 } : Room)) (fun a U => a = #[(.double (FP.l2d un)), (.int ul)] ∧ Z.Warmed39 U.vm ∧ U.heap = h0) (fun _ _ _ _ _ => True) (fun _ U o U' => ∃ v L, o = .returned v ∧ Q1 Z un ul h0 n0 v U'.heap L ∧ FrameEnd U o U' L 0 0) := by
  refine MetFree.of_bodySF (plainFor_of_name pn_1) hisR ?_
  intro p e s m args below meth c s₁ Bd hml0 hP hK
  obtain ⟨rfl, hZ, hh⟩ := hP
  have hx := Bd.exec
  have hby := Bd.bytes
  have hml : c.maxLocals = 3 := hml0
  have hown : s.vm.findClass "com/example/cohortbench/cohortbench/protocols/speculative/Executions" = some m.cls := findClass_of_methodNamed Bd.named
  have hnm := (name_of_methodNamed Bd.named Bd.method).1
  have X0 : Stand p l e ({ frames := 0, cells := 0, slots := 0, locals := 0 } : Room) s m #[(.double (FP.l2d un)), (.int ul)] below meth c s₁ [] 0 0 := Stand.of_body Bd
  have e0 : s₁.heap = h0 := by rw [← hh, Bd.state]; rfl
  have N0 := Fr.nil n0
  have hlk : meth.locks = false := BodyLoose.notSynchronized Bd
  show Goal p e below s (Q1 Z un ul h0 n0) 0 0 (s₁.setTop (entryFrame m #[(.double (FP.l2d un)), (.int ul)] 3))
  refine Goal.to (B := s₁.setTop (mkF m 0 #[.val (.double (FP.l2d un)), .second, .val (.int ul)] [])) (fun tt kk => castTop (ef_1 m (FP.l2d un) ul ) kk) ?_
  refine Goal.to (B := s₁.setTop (mkF m 3 #[.val (.double (FP.l2d un)), .second, .val (.int ul)] [(.int (2147483647 : Int32)), (.int ul)])) (fun tt kk => ?_) ?_
  · show Steps p.tables e below (s₁.setTop (mkF m 0 #[.val (.double (FP.l2d un)), .second, .val (.int ul)] [])) tt
    refine XS.iloadN X0.here hx rfl (hb hby d1_0) rfl ?_
    show Steps p.tables e below (s₁.setTop (mkF m 1 #[.val (.double (FP.l2d un)), .second, .val (.int ul)] [(.int ul)])) tt
    refine X0.ldcInt hx hown (mvT hZ (hw _ (mw 6 rfl))) (g := (mkF m 1 #[.val (.double (FP.l2d un)), .second, .val (.int ul)] [(.int ul)])) rfl (hb hby d1_1) _ ?_
    exact kk
  by_cases hmx : ul = (2147483647 : Int32)
  · refine Goal.to (B := s₁.setTop (mkF m 18 #[.val (.double (FP.l2d un)), .second, .val (.int ul)] [(.int (0 : Int32))])) (fun tt kk => ?_) ?_
    · show Steps p.tables e below (s₁.setTop (mkF m 3 #[.val (.double (FP.l2d un)), .second, .val (.int ul)] [(.int (2147483647 : Int32)), (.int ul)])) tt
      refine XS.icmpYes X0.here hx rfl (pc0 := 3) (pc' := 17) rfl (hb hby d1_3) rfl (teq hmx).1 (by decide) (by decide) ?_
      show Steps p.tables e below (s₁.setTop (mkF m 17 #[.val (.double (FP.l2d un)), .second, .val (.int ul)] [])) tt
      refine XS.iconst X0.here hx rfl (hb hby d1_17) ?_
      exact kk
    exact Goal.retV X0 hx Bd.returns rfl (Or.inl ⟨rfl, Or.inr (Or.inl rfl), _, rfl⟩) (hb hby d1_18) hlk e0 ⟨(congrArg some (by simp only [own_ex, if_pos hmx] : ((.int (0 : Int32)) : Value) = (.int (own_ex ul un)))), N0, rfl⟩ (by decide) (by decide)
  · refine Goal.to (B := s₁.setTop (mkF m 10 #[.val (.double (FP.l2d un)), .second, .val (.int ul)] [(.int (lcmpW un (ul.toInt64)))])) (fun tt kk => ?_) ?_
    · show Steps p.tables e below (s₁.setTop (mkF m 3 #[.val (.double (FP.l2d un)), .second, .val (.int ul)] [(.int (2147483647 : Int32)), (.int ul)])) tt
      refine XS.icmpNo X0.here hx rfl (hb hby d1_3) rfl (feq hmx).1 ?_
      show Steps p.tables e below (s₁.setTop (mkF m 6 #[.val (.double (FP.l2d un)), .second, .val (.int ul)] [])) tt
      refine XS.dloadN X0.here hx rfl (hb hby d1_6) rfl ?_
      show Steps p.tables e below (s₁.setTop (mkF m 7 #[.val (.double (FP.l2d un)), .second, .val (.int ul)] [(.double (FP.l2d un))])) tt
      refine XS.iloadN X0.here hx rfl (hb hby d1_7) rfl ?_
      show Steps p.tables e below (s₁.setTop (mkF m 8 #[.val (.double (FP.l2d un)), .second, .val (.int ul)] [(.int ul), (.double (FP.l2d un))])) tt
      refine XS.i2dS X0.here hx rfl (hb hby d1_8) rfl (i2d_w _) ?_
      show Steps p.tables e below (s₁.setTop (mkF m 9 #[.val (.double (FP.l2d un)), .second, .val (.int ul)] [(.double (FP.l2d (ul.toInt64))), (.double (FP.l2d un))])) tt
      refine XS.dcmpS X0.here hx rfl (hb hby d1_9) rfl (dcmpV_w hbb (own_i ul) _) ?_
      exact kk
    obtain ⟨w2, hw2⟩ : ∃ z : Int32, z = if (0 : Int32) < (lcmpW un (ul.toInt64)) then (1 : Int32) else (0 : Int32) := ⟨_, rfl⟩
    refine Goal.to (B := s₁.setTop (mkF m 18 #[.val (.double (FP.l2d un)), .second, .val (.int ul)] [(.int w2)])) (fun tt kk => ?_) ?_
    · by_cases hc1 : (0 : Int32) < (lcmpW un (ul.toInt64))
      · have qw2 : w2 = (1 : Int32) := by rw [hw2, if_pos hc1]
        rw [qw2] at kk
        show Steps p.tables e below (s₁.setTop (mkF m 10 #[.val (.double (FP.l2d un)), .second, .val (.int ul)] [(.int (lcmpW un (ul.toInt64)))])) tt
        refine XS.ifNo X0.here hx rfl (hb hby d1_10) rfl ((if0 _ _).trans (tlt hc1).2.2.2) ?_
        show Steps p.tables e below (s₁.setTop (mkF m 13 #[.val (.double (FP.l2d un)), .second, .val (.int ul)] [])) tt
        refine XS.iconst X0.here hx rfl (hb hby d1_13) ?_
        show Steps p.tables e below (s₁.setTop (mkF m 14 #[.val (.double (FP.l2d un)), .second, .val (.int ul)] [(.int (1 : Int32))])) tt
        refine XS.goto X0.here hx rfl (pc0 := 14) (pc' := 18) rfl (hb hby d1_14) (by decide) (by decide) ?_
        exact kk
      · have qw2 : w2 = (0 : Int32) := by rw [hw2, if_neg hc1]
        rw [qw2] at kk
        show Steps p.tables e below (s₁.setTop (mkF m 10 #[.val (.double (FP.l2d un)), .second, .val (.int ul)] [(.int (lcmpW un (ul.toInt64)))])) tt
        refine XS.ifYes X0.here hx rfl (pc0 := 10) (pc' := 17) rfl (hb hby d1_10) rfl ((if0 _ _).trans (flt hc1).2.2.2) (by decide) (by decide) ?_
        show Steps p.tables e below (s₁.setTop (mkF m 17 #[.val (.double (FP.l2d un)), .second, .val (.int ul)] [])) tt
        refine XS.iconst X0.here hx rfl (hb hby d1_17) ?_
        exact kk
    exact Goal.retV X0 hx Bd.returns (nar01 (by rw [hw2]; exact own_if _)) (Or.inl ⟨rfl, Or.inr (Or.inl rfl), _, rfl⟩) (hb hby d1_18) hlk e0 ⟨(congrArg some (by rw [hw2]; simp only [own_ex, if_neg hmx] : ((.int w2) : Value) = (.int (own_ex ul un)))), N0, rfl⟩ (by decide) (by decide)
theorem ef_0 (m : MethodId) (x0 : Int64) (x1 : Int32) (x2 : Int32)  : entryFrame m #[(.long x0), (.int x1), (.int x2)] maxLocals = mkF m 0 #[.val (.long x0), .second, .val (.int x1), .val (.int x2), .unset, .unset, .unset, .unset, .unset, .unset] [] := by first | (simp [entryFrame, mkF, argsToLocals, Value.category, maxLocals]; done) | rfl
theorem pn_0 : plainName "com/example/cohortbench/cohortbench/protocols/speculative/ExecutionsExceedsPinLaw" = true := by first | (simp [plainName, overriddenIn]; done) | decide +kernel
theorem pd_0 : parseMethodDescriptor "(DI)Z" = some ⟨[.double, .int], some .boolean⟩ := by decide +kernel
def Q0 (Z : State) (u0 : Int64) (u1 : Int32) (u2 : Int32) (h0 : Heap) (n0 : Nat) (v : Option Value) (h : Heap) (L : List Loc) : Prop := v = some (.int (1 : Int32)) ∧ Fr n0 L
set_option maxRecDepth 65536 in
set_option maxHeartbeats 40000000 in
theorem rm0 (l : Launch) (Z : State) (a0 : Array Value) (hw : ∀ d ∈ tables_1, d.before a0 Z = true) (ws : List Jvm.Cond) (u0 : Int64) (u1 : Int32) (u2 : Int32) (h0 : Heap) (n0 : Nat) (Z0 : n0 ≤ h0.size) :
    MetFree l x (head1 (Jvm.Cond.code x code maxLocals ret :: ws) room_1) (fun a U => a = #[(.long u0), (.int u1), (.int u2)] ∧ Z.Warmed39 U.vm ∧ U.heap = h0) (fun _ _ _ _ _ => True) (fun _ U o U' => ∃ v L, o = .returned v ∧ Q0 Z u0 u1 u2 h0 n0 v U'.heap L ∧ FrameEnd U o U' L 0 0) := by
  refine MetFree.of_bodySF (plainFor_of_name pn_0) hisR ?_
  intro p e s m args below meth c s₁ Bd hml0 hP hK
  obtain ⟨rfl, hZ, hh⟩ := hP
  have hx := Bd.exec
  have hby := Bd.bytes
  have hml : c.maxLocals = 10 := hml0
  have hown : s.vm.findClass "com/example/cohortbench/cohortbench/protocols/speculative/ExecutionsExceedsPinLaw" = some m.cls := findClass_of_methodNamed Bd.named
  have hnm := (name_of_methodNamed Bd.named Bd.method).1
  have X0 : Stand p l e room_1 s m #[(.long u0), (.int u1), (.int u2)] below meth c s₁ [] 0 0 := Stand.of_body Bd
  have e0 : s₁.heap = h0 := by rw [← hh, Bd.state]; rfl
  have N0 := Fr.nil n0
  have hlk : meth.locks = false := BodyLoose.notSynchronized Bd
  show Goal p e below s (Q0 Z u0 u1 u2 h0 n0) 0 0 (s₁.setTop (entryFrame m #[(.long u0), (.int u1), (.int u2)] maxLocals))
  refine Goal.to (B := s₁.setTop (mkF m 0 #[.val (.long u0), .second, .val (.int u1), .val (.int u2), .unset, .unset, .unset, .unset, .unset, .unset] [])) (fun tt kk => castTop (ef_0 m u0 u1 u2 ) kk) ?_
  refine Goal.to (B := s₁.setTop (mkF m 4 #[.val (.long u0), .second, .val (.int u1), .val (.int u2), .unset, .unset, .unset, .unset, .unset, .unset] [(.int (u2 &&& (8 : Int32)))])) (fun tt kk => ?_) ?_
  · show Steps p.tables e below (s₁.setTop (mkF m 0 #[.val (.long u0), .second, .val (.int u1), .val (.int u2), .unset, .unset, .unset, .unset, .unset, .unset] [])) tt
    refine XS.iloadN X0.here hx rfl (hb hby at_0) rfl ?_
    show Steps p.tables e below (s₁.setTop (mkF m 1 #[.val (.long u0), .second, .val (.int u1), .val (.int u2), .unset, .unset, .unset, .unset, .unset, .unset] [(.int u2)])) tt
    refine XS.bipush X0.here hx rfl (hb hby at_1) ?_
    show Steps p.tables e below (s₁.setTop (mkF m 3 #[.val (.long u0), .second, .val (.int u1), .val (.int u2), .unset, .unset, .unset, .unset, .unset, .unset] [(.int (8 : Int32)), (.int u2)])) tt
    refine XS.iand X0.here hx rfl (hb hby at_3) rfl ?_
    exact kk
  obtain ⟨w2, hw2⟩ : ∃ z : Int32, z = if (u2 &&& (8 : Int32)) = (0 : Int32) then u1 else (2147483647 : Int32) := ⟨_, rfl⟩
  refine Goal.to (B := s₁.setTop (mkF m 13 #[.val (.long u0), .second, .val (.int u1), .val (.int u2), .unset, .unset, .unset, .unset, .unset, .unset] [(.int w2)])) (fun tt kk => ?_) ?_
  · by_cases hc1 : (u2 &&& (8 : Int32)) = (0 : Int32)
    · have qw2 : w2 = u1 := by rw [hw2, if_pos hc1]
      rw [qw2] at kk
      show Steps p.tables e below (s₁.setTop (mkF m 4 #[.val (.long u0), .second, .val (.int u1), .val (.int u2), .unset, .unset, .unset, .unset, .unset, .unset] [(.int (u2 &&& (8 : Int32)))])) tt
      refine XS.ifYes X0.here hx rfl (pc0 := 4) (pc' := 12) rfl (hb hby at_4) rfl ((if0 _ _).trans (teq hc1).1) (by decide) (by decide) ?_
      show Steps p.tables e below (s₁.setTop (mkF m 12 #[.val (.long u0), .second, .val (.int u1), .val (.int u2), .unset, .unset, .unset, .unset, .unset, .unset] [])) tt
      refine XS.iloadN X0.here hx rfl (hb hby at_12) rfl ?_
      exact kk
    · have qw2 : w2 = (2147483647 : Int32) := by rw [hw2, if_neg hc1]
      rw [qw2] at kk
      show Steps p.tables e below (s₁.setTop (mkF m 4 #[.val (.long u0), .second, .val (.int u1), .val (.int u2), .unset, .unset, .unset, .unset, .unset, .unset] [(.int (u2 &&& (8 : Int32)))])) tt
      refine XS.ifNo X0.here hx rfl (hb hby at_4) rfl ((if0 _ _).trans (feq hc1).1) ?_
      show Steps p.tables e below (s₁.setTop (mkF m 7 #[.val (.long u0), .second, .val (.int u1), .val (.int u2), .unset, .unset, .unset, .unset, .unset, .unset] [])) tt
      refine X0.ldcInt hx hown (mvT hZ (hw _ (mw 1 rfl))) (g := (mkF m 7 #[.val (.long u0), .second, .val (.int u1), .val (.int u2), .unset, .unset, .unset, .unset, .unset, .unset] [])) rfl (hb hby at_7) _ ?_
      show Steps p.tables e below (s₁.setTop (mkF m 9 #[.val (.long u0), .second, .val (.int u1), .val (.int u2), .unset, .unset, .unset, .unset, .unset, .unset] [(.int (2147483647 : Int32))])) tt
      refine XS.goto X0.here hx rfl (pc0 := 9) (pc' := 13) rfl (hb hby at_9) (by decide) (by decide) ?_
      exact kk
  refine Goal.to (B := s₁.setTop (mkF m 18 #[.val (.long u0), .second, .val (.int u1), .val (.int u2), .val (.int w2), .unset, .unset, .unset, .unset, .unset] [(.int (u2 &&& (1 : Int32)))])) (fun tt kk => ?_) ?_
  · show Steps p.tables e below (s₁.setTop (mkF m 13 #[.val (.long u0), .second, .val (.int u1), .val (.int u2), .unset, .unset, .unset, .unset, .unset, .unset] [(.int w2)])) tt
    refine XS.istore X0.here hx rfl (hb hby at_13) rfl (l' := #[.val (.long u0), .second, .val (.int u1), .val (.int u2), .val (.int w2), .unset, .unset, .unset, .unset, .unset]) rfl ?_
    show Steps p.tables e below (s₁.setTop (mkF m 15 #[.val (.long u0), .second, .val (.int u1), .val (.int u2), .val (.int w2), .unset, .unset, .unset, .unset, .unset] [])) tt
    refine XS.iloadN X0.here hx rfl (hb hby at_15) rfl ?_
    show Steps p.tables e below (s₁.setTop (mkF m 16 #[.val (.long u0), .second, .val (.int u1), .val (.int u2), .val (.int w2), .unset, .unset, .unset, .unset, .unset] [(.int u2)])) tt
    refine XS.iconst X0.here hx rfl (hb hby at_16) ?_
    show Steps p.tables e below (s₁.setTop (mkF m 17 #[.val (.long u0), .second, .val (.int u1), .val (.int u2), .val (.int w2), .unset, .unset, .unset, .unset, .unset] [(.int (1 : Int32)), (.int u2)])) tt
    refine XS.iand X0.here hx rfl (hb hby at_17) rfl ?_
    exact kk
  obtain ⟨w4, hw4⟩ : ∃ z : Int64, z = if (u2 &&& (1 : Int32)) = (0 : Int32) then (u0 >>> ((11 : Int32) &&& 0x3f).toInt64) else (((w2.toInt64) + (((u2 >>> ((1 : Int32) &&& 31)) &&& (3 : Int32)).toInt64)) - (2 : Int64)) := ⟨_, rfl⟩
  refine Goal.to (B := s₁.setTop (mkF m 46 #[.val (.long u0), .second, .val (.int u1), .val (.int u2), .val (.int w2), .val (.long w4), .second, .unset, .unset, .unset] [])) (fun tt kk => ?_) ?_
  · by_cases hc3 : (u2 &&& (1 : Int32)) = (0 : Int32)
    · have qw4 : w4 = (u0 >>> ((11 : Int32) &&& 0x3f).toInt64) := by rw [hw4, if_pos hc3]
      rw [qw4] at kk
      show Steps p.tables e below (s₁.setTop (mkF m 18 #[.val (.long u0), .second, .val (.int u1), .val (.int u2), .val (.int w2), .unset, .unset, .unset, .unset, .unset] [(.int (u2 &&& (1 : Int32)))])) tt
      refine XS.ifYes X0.here hx rfl (pc0 := 18) (pc' := 40) rfl (hb hby at_18) rfl ((if0 _ _).trans (teq hc3).1) (by decide) (by decide) ?_
      show Steps p.tables e below (s₁.setTop (mkF m 40 #[.val (.long u0), .second, .val (.int u1), .val (.int u2), .val (.int w2), .unset, .unset, .unset, .unset, .unset] [])) tt
      refine XS.lloadN X0.here hx rfl (hb hby at_40) rfl ?_
      show Steps p.tables e below (s₁.setTop (mkF m 41 #[.val (.long u0), .second, .val (.int u1), .val (.int u2), .val (.int w2), .unset, .unset, .unset, .unset, .unset] [(.long u0)])) tt
      refine XS.bipush X0.here hx rfl (hb hby at_41) ?_
      show Steps p.tables e below (s₁.setTop (mkF m 43 #[.val (.long u0), .second, .val (.int u1), .val (.int u2), .val (.int w2), .unset, .unset, .unset, .unset, .unset] [(.int (11 : Int32)), (.long u0)])) tt
      refine XS.lshr X0.here hx rfl (hb hby at_43) rfl ?_
      show Steps p.tables e below (s₁.setTop (mkF m 44 #[.val (.long u0), .second, .val (.int u1), .val (.int u2), .val (.int w2), .unset, .unset, .unset, .unset, .unset] [(.long (u0 >>> ((11 : Int32) &&& 0x3f).toInt64))])) tt
      refine XS.lstore X0.here hx rfl (hb hby at_44) rfl (l' := #[.val (.long u0), .second, .val (.int u1), .val (.int u2), .val (.int w2), .val (.long (u0 >>> ((11 : Int32) &&& 0x3f).toInt64)), .second, .unset, .unset, .unset]) rfl ?_
      exact kk
    · have qw4 : w4 = (((w2.toInt64) + (((u2 >>> ((1 : Int32) &&& 31)) &&& (3 : Int32)).toInt64)) - (2 : Int64)) := by rw [hw4, if_neg hc3]
      rw [qw4] at kk
      show Steps p.tables e below (s₁.setTop (mkF m 18 #[.val (.long u0), .second, .val (.int u1), .val (.int u2), .val (.int w2), .unset, .unset, .unset, .unset, .unset] [(.int (u2 &&& (1 : Int32)))])) tt
      refine XS.ifNo X0.here hx rfl (hb hby at_18) rfl ((if0 _ _).trans (feq hc3).1) ?_
      show Steps p.tables e below (s₁.setTop (mkF m 21 #[.val (.long u0), .second, .val (.int u1), .val (.int u2), .val (.int w2), .unset, .unset, .unset, .unset, .unset] [])) tt
      refine XS.iload X0.here hx rfl (hb hby at_21) rfl ?_
      show Steps p.tables e below (s₁.setTop (mkF m 23 #[.val (.long u0), .second, .val (.int u1), .val (.int u2), .val (.int w2), .unset, .unset, .unset, .unset, .unset] [(.int w2)])) tt
      refine XS.i2l X0.here hx rfl (hb hby at_23) rfl ?_
      show Steps p.tables e below (s₁.setTop (mkF m 24 #[.val (.long u0), .second, .val (.int u1), .val (.int u2), .val (.int w2), .unset, .unset, .unset, .unset, .unset] [(.long (w2.toInt64))])) tt
      refine XS.iloadN X0.here hx rfl (hb hby at_24) rfl ?_
      show Steps p.tables e below (s₁.setTop (mkF m 25 #[.val (.long u0), .second, .val (.int u1), .val (.int u2), .val (.int w2), .unset, .unset, .unset, .unset, .unset] [(.int u2), (.long (w2.toInt64))])) tt
      refine XS.iconst X0.here hx rfl (hb hby at_25) ?_
      show Steps p.tables e below (s₁.setTop (mkF m 26 #[.val (.long u0), .second, .val (.int u1), .val (.int u2), .val (.int w2), .unset, .unset, .unset, .unset, .unset] [(.int (1 : Int32)), (.int u2), (.long (w2.toInt64))])) tt
      refine XS.ishr X0.here hx rfl (hb hby at_26) rfl ?_
      show Steps p.tables e below (s₁.setTop (mkF m 27 #[.val (.long u0), .second, .val (.int u1), .val (.int u2), .val (.int w2), .unset, .unset, .unset, .unset, .unset] [(.int (u2 >>> ((1 : Int32) &&& 31))), (.long (w2.toInt64))])) tt
      refine XS.iconst X0.here hx rfl (hb hby at_27) ?_
      show Steps p.tables e below (s₁.setTop (mkF m 28 #[.val (.long u0), .second, .val (.int u1), .val (.int u2), .val (.int w2), .unset, .unset, .unset, .unset, .unset] [(.int (3 : Int32)), (.int (u2 >>> ((1 : Int32) &&& 31))), (.long (w2.toInt64))])) tt
      refine XS.iand X0.here hx rfl (hb hby at_28) rfl ?_
      show Steps p.tables e below (s₁.setTop (mkF m 29 #[.val (.long u0), .second, .val (.int u1), .val (.int u2), .val (.int w2), .unset, .unset, .unset, .unset, .unset] [(.int ((u2 >>> ((1 : Int32) &&& 31)) &&& (3 : Int32))), (.long (w2.toInt64))])) tt
      refine XS.i2l X0.here hx rfl (hb hby at_29) rfl ?_
      show Steps p.tables e below (s₁.setTop (mkF m 30 #[.val (.long u0), .second, .val (.int u1), .val (.int u2), .val (.int w2), .unset, .unset, .unset, .unset, .unset] [(.long (((u2 >>> ((1 : Int32) &&& 31)) &&& (3 : Int32)).toInt64)), (.long (w2.toInt64))])) tt
      refine XS.ladd X0.here hx rfl (hb hby at_30) rfl ?_
      show Steps p.tables e below (s₁.setTop (mkF m 31 #[.val (.long u0), .second, .val (.int u1), .val (.int u2), .val (.int w2), .unset, .unset, .unset, .unset, .unset] [(.long ((w2.toInt64) + (((u2 >>> ((1 : Int32) &&& 31)) &&& (3 : Int32)).toInt64)))])) tt
      refine X0.ldc2Long hx hown (mvT hZ (hw _ (mw 0 rfl))) (g := (mkF m 31 #[.val (.long u0), .second, .val (.int u1), .val (.int u2), .val (.int w2), .unset, .unset, .unset, .unset, .unset] [(.long ((w2.toInt64) + (((u2 >>> ((1 : Int32) &&& 31)) &&& (3 : Int32)).toInt64)))])) rfl (hb hby at_31) _ ?_
      show Steps p.tables e below (s₁.setTop (mkF m 34 #[.val (.long u0), .second, .val (.int u1), .val (.int u2), .val (.int w2), .unset, .unset, .unset, .unset, .unset] [(.long (2 : Int64)), (.long ((w2.toInt64) + (((u2 >>> ((1 : Int32) &&& 31)) &&& (3 : Int32)).toInt64)))])) tt
      refine XS.lsub X0.here hx rfl (hb hby at_34) rfl ?_
      show Steps p.tables e below (s₁.setTop (mkF m 35 #[.val (.long u0), .second, .val (.int u1), .val (.int u2), .val (.int w2), .unset, .unset, .unset, .unset, .unset] [(.long (((w2.toInt64) + (((u2 >>> ((1 : Int32) &&& 31)) &&& (3 : Int32)).toInt64)) - (2 : Int64)))])) tt
      refine XS.lstore X0.here hx rfl (hb hby at_35) rfl (l' := #[.val (.long u0), .second, .val (.int u1), .val (.int u2), .val (.int w2), .val (.long (((w2.toInt64) + (((u2 >>> ((1 : Int32) &&& 31)) &&& (3 : Int32)).toInt64)) - (2 : Int64))), .second, .unset, .unset, .unset]) rfl ?_
      show Steps p.tables e below (s₁.setTop (mkF m 37 #[.val (.long u0), .second, .val (.int u1), .val (.int u2), .val (.int w2), .val (.long (((w2.toInt64) + (((u2 >>> ((1 : Int32) &&& 31)) &&& (3 : Int32)).toInt64)) - (2 : Int64))), .second, .unset, .unset, .unset] [])) tt
      refine XS.goto X0.here hx rfl (pc0 := 37) (pc' := 46) rfl (hb hby at_37) (by decide) (by decide) ?_
      exact kk
  have hB := own_b hw4
  refine Goal.to (B := s₁.setTop (mkF m 55 #[.val (.long u0), .second, .val (.int u1), .val (.int u2), .val (.int w2), .val (.long w4), .second, .val (.double (FP.l2d w4)), .second, .unset] [(.int (2147483647 : Int32)), (.int w2)])) (fun tt kk => ?_) ?_
  · show Steps p.tables e below (s₁.setTop (mkF m 46 #[.val (.long u0), .second, .val (.int u1), .val (.int u2), .val (.int w2), .val (.long w4), .second, .unset, .unset, .unset] [])) tt
    refine XS.lload X0.here hx rfl (hb hby at_46) rfl ?_
    show Steps p.tables e below (s₁.setTop (mkF m 48 #[.val (.long u0), .second, .val (.int u1), .val (.int u2), .val (.int w2), .val (.long w4), .second, .unset, .unset, .unset] [(.long w4)])) tt
    refine XS.l2dS X0.here hx rfl (hb hby at_48) rfl rfl ?_
    show Steps p.tables e below (s₁.setTop (mkF m 49 #[.val (.long u0), .second, .val (.int u1), .val (.int u2), .val (.int w2), .val (.long w4), .second, .unset, .unset, .unset] [(.double (FP.l2d w4))])) tt
    refine XS.dstore X0.here hx rfl (hb hby at_49) rfl (l' := #[.val (.long u0), .second, .val (.int u1), .val (.int u2), .val (.int w2), .val (.long w4), .second, .val (.double (FP.l2d w4)), .second, .unset]) rfl ?_
    show Steps p.tables e below (s₁.setTop (mkF m 51 #[.val (.long u0), .second, .val (.int u1), .val (.int u2), .val (.int w2), .val (.long w4), .second, .val (.double (FP.l2d w4)), .second, .unset] [])) tt
    refine XS.iload X0.here hx rfl (hb hby at_51) rfl ?_
    show Steps p.tables e below (s₁.setTop (mkF m 53 #[.val (.long u0), .second, .val (.int u1), .val (.int u2), .val (.int w2), .val (.long w4), .second, .val (.double (FP.l2d w4)), .second, .unset] [(.int w2)])) tt
    refine X0.ldcInt hx hown (mvT hZ (hw _ (mw 1 rfl))) (g := (mkF m 53 #[.val (.long u0), .second, .val (.int u1), .val (.int u2), .val (.int w2), .val (.long w4), .second, .val (.double (FP.l2d w4)), .second, .unset] [(.int w2)])) rfl (hb hby at_53) _ ?_
    exact kk
  by_cases hmx : w2 = (2147483647 : Int32)
  · refine Goal.to (B := s₁.setTop (mkF m 84 #[.val (.long u0), .second, .val (.int u1), .val (.int u2), .val (.int w2), .val (.long w4), .second, .val (.double (FP.l2d w4)), .second, .val (.int (0 : Int32))] [(.int w2), (.double (FP.l2d w4))])) (fun tt kk => ?_) ?_
    · show Steps p.tables e below (s₁.setTop (mkF m 55 #[.val (.long u0), .second, .val (.int u1), .val (.int u2), .val (.int w2), .val (.long w4), .second, .val (.double (FP.l2d w4)), .second, .unset] [(.int (2147483647 : Int32)), (.int w2)])) tt
      refine XS.icmpNo X0.here hx rfl (hb hby at_55) rfl (teq hmx).2 ?_
      show Steps p.tables e below (s₁.setTop (mkF m 58 #[.val (.long u0), .second, .val (.int u1), .val (.int u2), .val (.int w2), .val (.long w4), .second, .val (.double (FP.l2d w4)), .second, .unset] [])) tt
      refine XS.iconst X0.here hx rfl (hb hby at_58) ?_
      show Steps p.tables e below (s₁.setTop (mkF m 59 #[.val (.long u0), .second, .val (.int u1), .val (.int u2), .val (.int w2), .val (.long w4), .second, .val (.double (FP.l2d w4)), .second, .unset] [(.int (0 : Int32))])) tt
      refine XS.istore X0.here hx rfl (hb hby at_59) rfl (l' := #[.val (.long u0), .second, .val (.int u1), .val (.int u2), .val (.int w2), .val (.long w4), .second, .val (.double (FP.l2d w4)), .second, .val (.int (0 : Int32))]) rfl ?_
      show Steps p.tables e below (s₁.setTop (mkF m 61 #[.val (.long u0), .second, .val (.int u1), .val (.int u2), .val (.int w2), .val (.long w4), .second, .val (.double (FP.l2d w4)), .second, .val (.int (0 : Int32))] [])) tt
      refine XS.goto X0.here hx rfl (pc0 := 61) (pc' := 80) rfl (hb hby at_61) (by decide) (by decide) ?_
      show Steps p.tables e below (s₁.setTop (mkF m 80 #[.val (.long u0), .second, .val (.int u1), .val (.int u2), .val (.int w2), .val (.long w4), .second, .val (.double (FP.l2d w4)), .second, .val (.int (0 : Int32))] [])) tt
      refine XS.dload X0.here hx rfl (hb hby at_80) rfl ?_
      show Steps p.tables e below (s₁.setTop (mkF m 82 #[.val (.long u0), .second, .val (.int u1), .val (.int u2), .val (.int w2), .val (.long w4), .second, .val (.double (FP.l2d w4)), .second, .val (.int (0 : Int32))] [(.double (FP.l2d w4))])) tt
      refine XS.iload X0.here hx rfl (hb hby at_82) rfl ?_
      exact kk
    obtain ⟨_, _, ⟨T5, L5, k5, n5⟩, -, X5, ⟨Lc5, hQ5, l5, y5, z5⟩, st5⟩ := Jvm.LawKit.callS X0 hx (y := (⟨"com/example/cohortbench/cohortbench/protocols/speculative/Executions", "exceeds", "(DI)Z"⟩ : MethodName)) hown (mvT hZ (hw _ (mw 2 rfl))) (mvT hZ (hw _ (mw 3 rfl))) (mvT hZ (hw _ (mw 4 rfl))) (mvT hZ (hw _ (mw 5 rfl))) (by decide) (backOf (W := 0) (rm1 l Z a0 hw [] w4 w2 h0 n0 Z0 hB) hZ (hw _ (mw 5 rfl)) (hw _ (mw 4 rfl)) (by decide) (by decide)) (g := (mkF m 84 #[.val (.long u0), .second, .val (.int u1), .val (.int u2), .val (.int w2), .val (.long w4), .second, .val (.double (FP.l2d w4)), .second, .val (.int (0 : Int32))] [(.int w2), (.double (FP.l2d w4))])) rfl (by rw [hml]; rfl) (argsL := [(.double (FP.l2d w4)), (.int w2)]) (rest := []) (lenOf pd_0 rfl) rfl (by show 2 * 0 + _ ≤ _; exact Nat.le_of_eq rfl) (hb hby at_84) (fun _ _ => ⟨rfl, e0, (by decide : 0 + 0 ≤ _), (by decide : 0 + 0 ≤ _)⟩)
    dsimp only [Pt.U, Pt.locs, Pt.cells, Pt.slots] at X5 l5 y5 z5 st5 hQ5
    subst l5 y5 z5
    obtain ⟨rfl, N5q, e5⟩ := hQ5
    have N5 := Fr.app N0 N5q
    refine Goal.to (B := T5.setTop (mkF m 87 #[.val (.long u0), .second, .val (.int u1), .val (.int u2), .val (.int w2), .val (.long w4), .second, .val (.double (FP.l2d w4)), .second, .val (.int (0 : Int32))] [(.int (own_ex w2 w4))])) st5 ?_
    refine Goal.to (B := T5.setTop (mkF m 97 #[.val (.long u0), .second, .val (.int u1), .val (.int u2), .val (.int w2), .val (.long w4), .second, .val (.double (FP.l2d w4)), .second, .val (.int (0 : Int32))] [(.int (1 : Int32))])) (fun tt kk => ?_) ?_
    · show Steps p.tables e below (T5.setTop (mkF m 87 #[.val (.long u0), .second, .val (.int u1), .val (.int u2), .val (.int w2), .val (.long w4), .second, .val (.double (FP.l2d w4)), .second, .val (.int (0 : Int32))] [(.int (own_ex w2 w4))])) tt
      refine XS.iload X5.here hx rfl (hb hby at_87) rfl ?_
      show Steps p.tables e below (T5.setTop (mkF m 89 #[.val (.long u0), .second, .val (.int u1), .val (.int u2), .val (.int w2), .val (.long w4), .second, .val (.double (FP.l2d w4)), .second, .val (.int (0 : Int32))] [(.int (0 : Int32)), (.int (own_ex w2 w4))])) tt
      refine XS.icmpNo X5.here hx rfl (hb hby at_89) rfl (teq (if_pos hmx : (own_ex w2 w4) = (0 : Int32))).2 ?_
      show Steps p.tables e below (T5.setTop (mkF m 92 #[.val (.long u0), .second, .val (.int u1), .val (.int u2), .val (.int w2), .val (.long w4), .second, .val (.double (FP.l2d w4)), .second, .val (.int (0 : Int32))] [])) tt
      refine XS.iconst X5.here hx rfl (hb hby at_92) ?_
      show Steps p.tables e below (T5.setTop (mkF m 93 #[.val (.long u0), .second, .val (.int u1), .val (.int u2), .val (.int w2), .val (.long w4), .second, .val (.double (FP.l2d w4)), .second, .val (.int (0 : Int32))] [(.int (1 : Int32))])) tt
      refine XS.goto X5.here hx rfl (pc0 := 93) (pc' := 97) rfl (hb hby at_93) (by decide) (by decide) ?_
      exact kk
    exact Goal.retV X5 hx Bd.returns rfl (Or.inl ⟨rfl, Or.inr (Or.inl rfl), _, rfl⟩) (hb hby at_97) hlk e5 ⟨rfl, N5⟩ (by decide) (by decide)
  · refine Goal.to (B := s₁.setTop (mkF m 70 #[.val (.long u0), .second, .val (.int u1), .val (.int u2), .val (.int w2), .val (.long w4), .second, .val (.double (FP.l2d w4)), .second, .unset] [(.int (lcmpW w4 (w2.toInt64)))])) (fun tt kk => ?_) ?_
    · show Steps p.tables e below (s₁.setTop (mkF m 55 #[.val (.long u0), .second, .val (.int u1), .val (.int u2), .val (.int w2), .val (.long w4), .second, .val (.double (FP.l2d w4)), .second, .unset] [(.int (2147483647 : Int32)), (.int w2)])) tt
      refine XS.icmpYes X0.here hx rfl (pc0 := 55) (pc' := 64) rfl (hb hby at_55) rfl (feq hmx).2 (by decide) (by decide) ?_
      show Steps p.tables e below (s₁.setTop (mkF m 64 #[.val (.long u0), .second, .val (.int u1), .val (.int u2), .val (.int w2), .val (.long w4), .second, .val (.double (FP.l2d w4)), .second, .unset] [])) tt
      refine XS.lload X0.here hx rfl (hb hby at_64) rfl ?_
      show Steps p.tables e below (s₁.setTop (mkF m 66 #[.val (.long u0), .second, .val (.int u1), .val (.int u2), .val (.int w2), .val (.long w4), .second, .val (.double (FP.l2d w4)), .second, .unset] [(.long w4)])) tt
      refine XS.iload X0.here hx rfl (hb hby at_66) rfl ?_
      show Steps p.tables e below (s₁.setTop (mkF m 68 #[.val (.long u0), .second, .val (.int u1), .val (.int u2), .val (.int w2), .val (.long w4), .second, .val (.double (FP.l2d w4)), .second, .unset] [(.int w2), (.long w4)])) tt
      refine XS.i2l X0.here hx rfl (hb hby at_68) rfl ?_
      show Steps p.tables e below (s₁.setTop (mkF m 69 #[.val (.long u0), .second, .val (.int u1), .val (.int u2), .val (.int w2), .val (.long w4), .second, .val (.double (FP.l2d w4)), .second, .unset] [(.long (w2.toInt64)), (.long w4)])) tt
      refine XS.lcmp X0.here hx rfl (hb hby at_69) rfl ?_
      exact kk
    obtain ⟨w7, hw7⟩ : ∃ z : Int32, z = if (0 : Int32) < (lcmpW w4 (w2.toInt64)) then (1 : Int32) else (0 : Int32) := ⟨_, rfl⟩
    refine Goal.to (B := s₁.setTop (mkF m 78 #[.val (.long u0), .second, .val (.int u1), .val (.int u2), .val (.int w2), .val (.long w4), .second, .val (.double (FP.l2d w4)), .second, .unset] [(.int w7)])) (fun tt kk => ?_) ?_
    · by_cases hc6 : (0 : Int32) < (lcmpW w4 (w2.toInt64))
      · have qw7 : w7 = (1 : Int32) := by rw [hw7, if_pos hc6]
        rw [qw7] at kk
        show Steps p.tables e below (s₁.setTop (mkF m 70 #[.val (.long u0), .second, .val (.int u1), .val (.int u2), .val (.int w2), .val (.long w4), .second, .val (.double (FP.l2d w4)), .second, .unset] [(.int (lcmpW w4 (w2.toInt64)))])) tt
        refine XS.ifNo X0.here hx rfl (hb hby at_70) rfl ((if0 _ _).trans (tlt hc6).2.2.2) ?_
        show Steps p.tables e below (s₁.setTop (mkF m 73 #[.val (.long u0), .second, .val (.int u1), .val (.int u2), .val (.int w2), .val (.long w4), .second, .val (.double (FP.l2d w4)), .second, .unset] [])) tt
        refine XS.iconst X0.here hx rfl (hb hby at_73) ?_
        show Steps p.tables e below (s₁.setTop (mkF m 74 #[.val (.long u0), .second, .val (.int u1), .val (.int u2), .val (.int w2), .val (.long w4), .second, .val (.double (FP.l2d w4)), .second, .unset] [(.int (1 : Int32))])) tt
        refine XS.goto X0.here hx rfl (pc0 := 74) (pc' := 78) rfl (hb hby at_74) (by decide) (by decide) ?_
        exact kk
      · have qw7 : w7 = (0 : Int32) := by rw [hw7, if_neg hc6]
        rw [qw7] at kk
        show Steps p.tables e below (s₁.setTop (mkF m 70 #[.val (.long u0), .second, .val (.int u1), .val (.int u2), .val (.int w2), .val (.long w4), .second, .val (.double (FP.l2d w4)), .second, .unset] [(.int (lcmpW w4 (w2.toInt64)))])) tt
        refine XS.ifYes X0.here hx rfl (pc0 := 70) (pc' := 77) rfl (hb hby at_70) rfl ((if0 _ _).trans (flt hc6).2.2.2) (by decide) (by decide) ?_
        show Steps p.tables e below (s₁.setTop (mkF m 77 #[.val (.long u0), .second, .val (.int u1), .val (.int u2), .val (.int w2), .val (.long w4), .second, .val (.double (FP.l2d w4)), .second, .unset] [])) tt
        refine XS.iconst X0.here hx rfl (hb hby at_77) ?_
        exact kk
    refine Goal.to (B := s₁.setTop (mkF m 84 #[.val (.long u0), .second, .val (.int u1), .val (.int u2), .val (.int w2), .val (.long w4), .second, .val (.double (FP.l2d w4)), .second, .val (.int w7)] [(.int w2), (.double (FP.l2d w4))])) (fun tt kk => ?_) ?_
    · show Steps p.tables e below (s₁.setTop (mkF m 78 #[.val (.long u0), .second, .val (.int u1), .val (.int u2), .val (.int w2), .val (.long w4), .second, .val (.double (FP.l2d w4)), .second, .unset] [(.int w7)])) tt
      refine XS.istore X0.here hx rfl (hb hby at_78) rfl (l' := #[.val (.long u0), .second, .val (.int u1), .val (.int u2), .val (.int w2), .val (.long w4), .second, .val (.double (FP.l2d w4)), .second, .val (.int w7)]) rfl ?_
      show Steps p.tables e below (s₁.setTop (mkF m 80 #[.val (.long u0), .second, .val (.int u1), .val (.int u2), .val (.int w2), .val (.long w4), .second, .val (.double (FP.l2d w4)), .second, .val (.int w7)] [])) tt
      refine XS.dload X0.here hx rfl (hb hby at_80) rfl ?_
      show Steps p.tables e below (s₁.setTop (mkF m 82 #[.val (.long u0), .second, .val (.int u1), .val (.int u2), .val (.int w2), .val (.long w4), .second, .val (.double (FP.l2d w4)), .second, .val (.int w7)] [(.double (FP.l2d w4))])) tt
      refine XS.iload X0.here hx rfl (hb hby at_82) rfl ?_
      exact kk
    obtain ⟨_, _, ⟨T8, L8, k8, n8⟩, -, X8, ⟨Lc8, hQ8, l8, y8, z8⟩, st8⟩ := Jvm.LawKit.callS X0 hx (y := (⟨"com/example/cohortbench/cohortbench/protocols/speculative/Executions", "exceeds", "(DI)Z"⟩ : MethodName)) hown (mvT hZ (hw _ (mw 2 rfl))) (mvT hZ (hw _ (mw 3 rfl))) (mvT hZ (hw _ (mw 4 rfl))) (mvT hZ (hw _ (mw 5 rfl))) (by decide) (backOf (W := 0) (rm1 l Z a0 hw [] w4 w2 h0 n0 Z0 hB) hZ (hw _ (mw 5 rfl)) (hw _ (mw 4 rfl)) (by decide) (by decide)) (g := (mkF m 84 #[.val (.long u0), .second, .val (.int u1), .val (.int u2), .val (.int w2), .val (.long w4), .second, .val (.double (FP.l2d w4)), .second, .val (.int w7)] [(.int w2), (.double (FP.l2d w4))])) rfl (by rw [hml]; rfl) (argsL := [(.double (FP.l2d w4)), (.int w2)]) (rest := []) (lenOf pd_0 rfl) rfl (by show 2 * 0 + _ ≤ _; exact Nat.le_of_eq rfl) (hb hby at_84) (fun _ _ => ⟨rfl, e0, (by decide : 0 + 0 ≤ _), (by decide : 0 + 0 ≤ _)⟩)
    dsimp only [Pt.U, Pt.locs, Pt.cells, Pt.slots] at X8 l8 y8 z8 st8 hQ8
    subst l8 y8 z8
    obtain ⟨rfl, N8q, e8⟩ := hQ8
    have N8 := Fr.app N0 N8q
    refine Goal.to (B := T8.setTop (mkF m 87 #[.val (.long u0), .second, .val (.int u1), .val (.int u2), .val (.int w2), .val (.long w4), .second, .val (.double (FP.l2d w4)), .second, .val (.int w7)] [(.int (own_ex w2 w4))])) st8 ?_
    refine Goal.to (B := T8.setTop (mkF m 97 #[.val (.long u0), .second, .val (.int u1), .val (.int u2), .val (.int w2), .val (.long w4), .second, .val (.double (FP.l2d w4)), .second, .val (.int w7)] [(.int (1 : Int32))])) (fun tt kk => ?_) ?_
    · show Steps p.tables e below (T8.setTop (mkF m 87 #[.val (.long u0), .second, .val (.int u1), .val (.int u2), .val (.int w2), .val (.long w4), .second, .val (.double (FP.l2d w4)), .second, .val (.int w7)] [(.int (own_ex w2 w4))])) tt
      refine XS.iload X8.here hx rfl (hb hby at_87) rfl ?_
      show Steps p.tables e below (T8.setTop (mkF m 89 #[.val (.long u0), .second, .val (.int u1), .val (.int u2), .val (.int w2), .val (.long w4), .second, .val (.double (FP.l2d w4)), .second, .val (.int w7)] [(.int w7), (.int (own_ex w2 w4))])) tt
      refine XS.icmpNo X8.here hx rfl (hb hby at_89) rfl (teq (by rw [hw7]; exact if_neg hmx : (own_ex w2 w4) = w7)).2 ?_
      show Steps p.tables e below (T8.setTop (mkF m 92 #[.val (.long u0), .second, .val (.int u1), .val (.int u2), .val (.int w2), .val (.long w4), .second, .val (.double (FP.l2d w4)), .second, .val (.int w7)] [])) tt
      refine XS.iconst X8.here hx rfl (hb hby at_92) ?_
      show Steps p.tables e below (T8.setTop (mkF m 93 #[.val (.long u0), .second, .val (.int u1), .val (.int u2), .val (.int w2), .val (.long w4), .second, .val (.double (FP.l2d w4)), .second, .val (.int w7)] [(.int (1 : Int32))])) tt
      refine XS.goto X8.here hx rfl (pc0 := 93) (pc' := 97) rfl (hb hby at_93) (by decide) (by decide) ?_
      exact kk
    exact Goal.retV X8 hx Bd.returns rfl (Or.inl ⟨rfl, Or.inr (Or.inl rfl), _, rfl⟩) (hb hby at_97) hlk e8 ⟨rfl, N8⟩ (by decide) (by decide)
set_option maxRecDepth 65536 in
set_option maxHeartbeats 40000000 in
theorem comes_1 {Post : Tables → Env → Array Value → State → Outcome → State → Prop} (hpost : ∀ tb e args s v u, (limb_1_1.after args s (.returned v) u = true ∧ limb_1_2.after args s (.returned v) u = true ∧ True) → FrameEnd s (.returned v) u (Jvm.fieldLocs frame_1_writes args s ++ Jvm.arrayLocs frame_1_arrays args s ++ Jvm.staticLocs frame_1_statics s) 0 0 → Post tb e args s (.returned v) u) :
    ArmFor flags0 classFile x code maxLocals ret World_1 tables_1 room_1 Calls_1 rest_1 Pre_1 Post := by
  intro l hfl _ _ p e ha hc hk s m args below hf hA hF happ hP
  obtain ⟨hcalls, hrest, hpre⟩ := hP
  obtain ⟨-, -, -, hnamed, -, -, -, hat⟩ := (Spec.applies_iff hf).mp happ
  obtain ⟨hg, hn⟩ := and_e (Cond.before_iff.mp (show (Jvm.Cond.and given_1 narrow_1).before args s = true from hpre))
  obtain ⟨u1, u2⟩ := and_e hg
  obtain ⟨u3, u4⟩ := and_e u2
  obtain ⟨u5, u6⟩ := and_e u4
  obtain ⟨w0, w1, w2, rfl⟩ : ∃ w0 w1 w2 : Value, args = #[w0, w1, w2] := by
    have hs : args.size = 3 := by simpa [Cond.value, given_1] using u1
    obtain ⟨L⟩ := args
    match L, hs with
    | [w0, w1, w2], _ => exact ⟨w0, w1, w2, rfl⟩
  have hw := fun d (hd : d ∈ tables_1) => atoms_spec (ws := Jvm.Cond.code x code maxLocals ret :: tables_1) hat d (List.mem_cons_of_mem _ hd)
  obtain ⟨i0, ei0⟩ := isL_v u3
  obtain rfl : w0 = (.long i0) := Option.some.inj ei0
  obtain ⟨i1, ei1⟩ := is_v u5
  obtain rfl : w1 = (.int i1) := Option.some.inj ei1
  obtain ⟨i2, ei2⟩ := is_v u6
  obtain rfl : w2 = (.int i2) := Option.some.inj ei2
  obtain ⟨n, o, h1, h2, h3, _, L, rfl, ⟨rfl, N⟩, hq⟩ := rm0 l s _ hw tables_1 i0 i1 i2 s.heap s.heap.size (Nat.le_refl _)  p e ha hc hk s m _ below hf ((Spec.applies_iff_loose hf).mp happ).1 ⟨rfl, State.Warmed39.refl s, rfl⟩ trivial
  refine ⟨n, _, h1, h2, h3, hpost _ _ _ _ _ _ ⟨Cond.after_iff.mpr rfl, Cond.after_iff.mpr (eq_i res_at (Term.int_eval (1)) rfl), trivial⟩ ⟨hq.1, hq.2.1, (hq.2.2.sift fun y hy => Or.inr (N y hy)).mono (by decide) (by decide)⟩⟩
theorem main_1_1 : Claimed_1_1 := comes_1 fun _ _ _ _ _ _ h hF => ⟨h.1, hF⟩
theorem main_1_2 : Claimed_1_2 := comes_1 fun _ _ _ _ _ _ h hF => ⟨h.2.1, hF⟩
end Jvm.Pilot.@@N@@
namespace Jvm.Pilot.@@N@@
open Jvm Jvm.ClassFile Sem Op Lib Jvm.Free Jvm.Stand Jvm.Pilot.@@N@@.Jvm.D
/-! MADE BY PROGRAM (witnessworld.py) out of the Statement's table words and the real class files: 9 classes; the members and pool entries that the words name. The judged class is class 1, her method 1. -/
namespace start1
open Jvm.ClassFile
def u (s : String) : CpInfo := .utf8 (stringToUtf16 s)
/-- a pool by its gaps: so many unusable entries, then the entry; so many at the end -/
def gap : Nat → List CpInfo → List CpInfo
  | 0, r => r
  | n + 1, r => .unusable :: gap n r
def poolList (es : List (Nat × CpInfo)) (last : Nat) : List CpInfo := es.foldr (fun e r => gap e.1 (e.2 :: r)) (gap last [])
def pool (es : List (Nat × CpInfo)) (last : Nat) : Array CpInfo := ⟨poolList es last⟩
def fileOf (pool : Array CpInfo) (this : Nat) (attrs : Array Attribute := #[]) (ms : Array MethodInfo := #[]) (fl : Nat := 33) (sup : Nat := 0) (ifs : Array Nat := #[]) (fds : Array FieldInfo := #[]) : ClassFile where
  minorVersion := 0
  majorVersion := 65
  constantPool := pool
  accessFlags := fl
  thisClass := this
  superClass := sup
  interfaces := ifs
  fields := fds
  methods := ms
  attributes := attrs
def plain (name : String) (sup : Option ClassId) : Class where
  name := name
  kind := .ordinary
  loader := none
  accessFlags := 33
  super := sup
  interfaces := #[]
  cf := none
  fields := #[]
  methods := #[]
  instanceTypes := #[]
  staticTypes := #[]
  resolved := #[]
  callSites := []
  init := .initialized
  statics := none
  mirror := none

def pool0 : Array CpInfo := pool [(5, u "<init>"), (0, u "()V"), (1, .class_ 10), (1, u "java/lang/Object")] 113

def k0m0 : Method := { name := "<init>", desc := "()V", sig := { parameters := [], returnType := none }, accessFlags := 1, code := none }
/-- java/lang/Object -/
def k0 : Class := { plain "java/lang/Object" none with
  accessFlags := 33
  interfaces := #[]
  cf := some (fileOf pool0 8 #[] #[{ accessFlags := 1, nameIndex := 5, descriptorIndex := 6, attributes := #[] }] 33 0 #[] #[])
  fields := #[]
  methods := #[k0m0]
  instanceTypes := #[]
  staticTypes := #[]
  resolved := Array.replicate 124 none
  statics := none }

def pool1 : Array CpInfo := pool [(2, .class_ 4), (1, u "java/lang/Object"), (0, u "<init>"), (0, u "()V"), (2, .integer 2147483647), (0, .long 2), (1, .interfaceMethodref 13 14), (0, .class_ 15), (0, .nameAndType 16 17), (0, u "com/example/cohortbench/cohortbench/protocols/speculative/Executions"), (0, u "exceeds"), (0, u "(DI)Z"), (0, .class_ 19), (0, u "com/example/cohortbench/cohortbench/protocols/speculative/ExecutionsExceedsPinLaw"), (2, u "law"), (0, u "(JII)Z")] 3

def k1m0 : Method := { name := "<init>", desc := "()V", sig := { parameters := [], returnType := none }, accessFlags := 1, code := none }
def k1c1 : Code := { maxStack := 4, maxLocals := 10, code := code, exceptionTable := #[], attributes := #[] }
def k1m1 : Method := { name := "law", desc := "(JII)Z", sig := { parameters := [.long, .int, .int], returnType := some .boolean }, accessFlags := 9, code := some k1c1 }
/-- com/example/cohortbench/cohortbench/protocols/speculative/ExecutionsExceedsPinLaw -/
def k1 : Class := { plain "com/example/cohortbench/cohortbench/protocols/speculative/ExecutionsExceedsPinLaw" (some 0) with
  accessFlags := 49
  interfaces := #[]
  cf := some (fileOf pool1 18 #[] #[{ accessFlags := 1, nameIndex := 5, descriptorIndex := 6, attributes := #[] }, { accessFlags := 9, nameIndex := 22, descriptorIndex := 23, attributes := #[] }] 49 2 #[] #[])
  fields := #[]
  methods := #[k1m0, k1m1]
  instanceTypes := #[]
  staticTypes := #[]
  resolved := Array.replicate 27 none
  statics := none }

def pool2 : Array CpInfo := pool [(5, .class_ 6), (0, u "com/example/cohortbench/cohortbench/protocols/speculative/Executions"), (0, .integer 2147483647), (0, .class_ 9), (0, u "java/lang/Object"), (0, u "UNBOUNDED"), (0, u "I"), (1, u "NO_KEEP_LIMIT"), (0, u "J"), (2, u "FULL"), (0, u "D"), (2, u "exceeds"), (0, u "(DI)Z")] 20

def k2c0 : Code := { maxStack := 4, maxLocals := 3, code := prog_123_method_1_code, exceptionTable := #[], attributes := #[] }
def k2m0 : Method := { name := "exceeds", desc := "(DI)Z", sig := { parameters := [.double, .int], returnType := some .boolean }, accessFlags := 9, code := some k2c0 }
/-- com/example/cohortbench/cohortbench/protocols/speculative/Executions -/
def k2 : Class := { plain "com/example/cohortbench/cohortbench/protocols/speculative/Executions" (some 0) with
  accessFlags := 1536
  interfaces := #[]
  cf := some (fileOf pool2 5 #[] #[{ accessFlags := 9, nameIndex := 21, descriptorIndex := 22, attributes := #[] }] 1536 8 #[] #[{ accessFlags := 25, nameIndex := 10, descriptorIndex := 11, attributes := #[] }, { accessFlags := 25, nameIndex := 13, descriptorIndex := 14, attributes := #[] }, { accessFlags := 25, nameIndex := 17, descriptorIndex := 18, attributes := #[] }])
  fields := #[{ name := "UNBOUNDED", type := .int, accessFlags := 25, slot := 0, constantValue := 0 }, { name := "NO_KEEP_LIMIT", type := .long, accessFlags := 25, slot := 1, constantValue := 0 }, { name := "FULL", type := .double, accessFlags := 25, slot := 2, constantValue := 0 }]
  methods := #[k2m0]
  instanceTypes := #[]
  staticTypes := #[.int, .long, .double]
  resolved := Array.replicate 43 none
  statics := none }

def pool3 : Array CpInfo := pool [(1, u "java/lang/Cloneable"), (0, .class_ 1), (0, u "java/lang/Object"), (0, .class_ 3)] 3

/-- java/lang/Cloneable -/
def k3 : Class := { plain "java/lang/Cloneable" (some 0) with
  accessFlags := 1537
  interfaces := #[]
  cf := some (fileOf pool3 2 #[] #[] 1537 4 #[] #[])
  fields := #[]
  methods := #[]
  instanceTypes := #[]
  staticTypes := #[]
  resolved := Array.replicate 8 none
  statics := none }

def pool4 : Array CpInfo := pool [(1, u "java/io/Serializable"), (0, .class_ 1), (0, u "java/lang/Object"), (0, .class_ 3)] 3

/-- java/io/Serializable -/
def k4 : Class := { plain "java/io/Serializable" (some 0) with
  accessFlags := 1537
  interfaces := #[]
  cf := some (fileOf pool4 2 #[] #[] 1537 4 #[] #[])
  fields := #[]
  methods := #[]
  instanceTypes := #[]
  staticTypes := #[]
  resolved := Array.replicate 8 none
  statics := none }

/-- the primitive byte -/
def k5 : Class := { plain "byte" none with kind := .primitive 'B', accessFlags := 0x411 }
/-- [B -/
def k6 : Class := { plain "[B" (some 0) with kind := .array 5 .byte, interfaces := #[3, 4], accessFlags := 1041 }

/-- the primitive int -/
def k7 : Class := { plain "int" none with kind := .primitive 'I', accessFlags := 0x411 }
/-- [I -/
def k8 : Class := { plain "[I" (some 0) with kind := .array 7 .int, interfaces := #[3, 4], accessFlags := 1041 }

def heap : Heap := #[]
def classes : Array Class := #[k0, k1, k2, k3, k4, k5, k6, k7, k8]
def interned : List (Array UInt16 × Addr) := []
def slotsUsed : Nat := 0
def theMethod : MethodId := ⟨1, 1⟩
def args0 : Array Value := #[.long 5, .int 3, .int 1]
def aboutOver (below : List Frame) : State where
  vm := { classes := classes, interned := interned.toArray }
  heap := heap
  slotsUsed := slotsUsed
  threads := #[{ frames := .invoking theMethod args0 :: below }]
def below0 : List Frame := [.native { method := ⟨0, 0⟩, args := #[] }]
def about1 : State := aboutOver below0
def p0 : Program := .bare "" "" ""
def e0 : Env := launch0.env 0 0 0
theorem w_frames : about1.frames = Frame.invoking theMethod args0 :: below0 := rfl
set_option maxRecDepth 65536 in
theorem w_args : argsFit about1.vm theMethod args0 = true := by decide +kernel
set_option maxRecDepth 65536 in
theorem w_heap : heapFits about1 = true := by decide +kernel
set_option maxRecDepth 65536 in
theorem w_runnable : about1.curStatus? = some .runnable := by decide +kernel
set_option maxRecDepth 65536 in
theorem w_alone : about1.alone = true := by decide +kernel
set_option maxRecDepth 65536 in
theorem w_named : about1.methodNamed? x = some theMethod := by decide +kernel
set_option maxRecDepth 65536 in
theorem w_hears : about1.hears theMethod below0 = true := by decide +kernel
set_option maxRecDepth 65536 in
theorem w_ripe : about1.ripe theMethod args0 below0 = true := by decide +kernel
theorem w_running : about1.status = .running := rfl
set_option maxRecDepth 65536 in
theorem w_room : about1.hasRoom e0.platform room_1 = true :=
  launch0.hasRoom_least _ room_1 (by decide +kernel) (by decide +kernel) (by decide +kernel) (by decide +kernel) (by decide +kernel) (by decide +kernel)
theorem allAtoms_all (ts : List Jvm.Cond) (a : Array Jvm.Value) (st : Jvm.State) : (allAtoms ts).before a st = ts.all (fun c => c.before a st) := by
  induction ts with
  | nil => rfl
  | cons c t ih =>
    show (Jvm.Cond.and c (allAtoms t)).before a st = _
    rw [Jvm.Cond.before_and, ih, List.all_cons]
def words1 : List Jvm.Cond := Jvm.Cond.code x code maxLocals ret :: tables_1
/-- a 'code' word, met by the world's own term for the bytes: nothing is compared byte by byte -/
theorem code_word {y : MethodName} {bytes : ByteArray} {mx : Nat} {rt : Option FieldType} {a : Array Value} {s : State} {m : MethodId} {meth : Method} {c : Code} (h1 : s.methodNamed? y = some m) (h2 : s.vm.method? m = some meth) (h3 : meth.code = some c) (h4 : c.code = bytes)
    (h5 : (c.maxLocals == mx && c.exceptionTable.isEmpty && decide (c.maxStack ≤ mostOperands) && decide (meth.sig.returnType = rt) && !meth.locks && decide (parseMethodDescriptor y.desc = some meth.sig)) = true) : (Jvm.Cond.code y bytes mx rt).before a s = true := by
  simp only [Bool.and_eq_true, beq_iff_eq, Bool.not_eq_true', decide_eq_true_eq] at h5
  obtain ⟨⟨⟨⟨⟨g1, g2⟩, g3⟩, g4⟩, g5⟩, g6⟩ := h5
  simp [Cond.before, Cond.holds, Cond.value, h1, h2, h3, h4, g1, g2, g3, g4, g5, g6]
def isCode : Jvm.Cond → Bool
  | .code _ _ _ _ => true
  | _ => false
theorem all_split {L : List Jvm.Cond} {P : Jvm.Cond → Bool} (h1 : L.all (fun c => isCode c || P c) = true) (h2 : ∀ c ∈ L.filter isCode, P c = true) : L.all P = true := by
  refine List.all_eq_true.mpr fun c hc => ?_
  have h := List.all_eq_true.mp h1 c hc
  rcases Bool.eq_false_or_eq_true (isCode c) with hi | hi
  · exact h2 c (List.mem_filter.mpr ⟨hc, hi⟩)
  · simpa [hi] using h
set_option maxRecDepth 65536 in
theorem w_c0 : (Jvm.Cond.code x code maxLocals ret).before args0 about1 = true := code_word (m := ⟨1, 1⟩) (meth := k1m1) (c := k1c1) (by decide +kernel) rfl rfl rfl (by decide +kernel)
set_option maxRecDepth 65536 in
theorem w_c1 : (Jvm.Cond.code ({ cls := "com/example/cohortbench/cohortbench/protocols/speculative/Executions", name := "exceeds", desc := "(DI)Z" } : Jvm.MethodName) prog_123_method_1_code (3 : Nat) (Option.some Jvm.ClassFile.FieldType.boolean)).before args0 about1 = true := code_word (m := ⟨2, 0⟩) (meth := k2m0) (c := k2c0) (by decide +kernel) rfl rfl rfl (by decide +kernel)
def codes1 : List Jvm.Cond := [Jvm.Cond.code x code maxLocals ret, Jvm.Cond.code ({ cls := "com/example/cohortbench/cohortbench/protocols/speculative/Executions", name := "exceeds", desc := "(DI)Z" } : Jvm.MethodName) prog_123_method_1_code (3 : Nat) (Option.some Jvm.ClassFile.FieldType.boolean)]
set_option maxRecDepth 65536 in
theorem codes_eq : words1.filter isCode = codes1 := rfl
theorem w_codes : ∀ c ∈ words1.filter isCode, c.before args0 about1 = true := by
  rw [codes_eq]
  intro c hc
  simp only [codes1, List.mem_cons, List.not_mem_nil, or_false] at hc
  rcases hc with rfl | rfl
  · exact w_c0
  · exact w_c1
set_option maxRecDepth 65536 in
theorem w_t1 : words1.all (fun c => isCode c || c.before args0 about1) = true := by decide +kernel
theorem w_tables : (allAtoms (Jvm.Cond.code x code maxLocals ret :: tables_1)).before args0 about1 = true := by
  rw [allAtoms_all]
  show words1.all (fun c => c.before args0 about1) = true
  refine all_split ?_ w_codes
  rw [w_t1]
set_option maxRecDepth 65536 in
theorem w_case : (Jvm.Cond.and given_1 narrow_1).before args0 about1 = true := by decide +kernel
theorem w_applies : (headSpec (Jvm.Cond.code x code maxLocals ret :: tables_1) room_1).applies x e0.platform about1 = true :=
  (Spec.applies_iff w_frames).mpr ⟨w_running, w_runnable, w_alone, w_named, w_hears, w_ripe, w_room, w_tables⟩
theorem atStart : AtStart classFile x code maxLocals ret World_1 tables_1 room_1 Calls_1 rest_1 Pre_1 launch0 p0 e0 about1 theMethod args0 below0 :=
  ⟨lists_1, trivial, launch0.admits_env _ _ _, launch0.least_env, fairChoices_fair.cas, fairChoices_fair.clock, w_frames, w_args, w_heap, w_applies, trivial, trivial, w_case⟩
end start1
theorem witness_1 : WitnessClaimed_1 := ⟨start1.p0, start1.e0, start1.about1, start1.theMethod, start1.args0, start1.below0, start1.atStart⟩
end Jvm.Pilot.@@N@@
