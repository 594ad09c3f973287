import JvmDerived
import JvmDerived.Pilot.@@N@@Statement
import JvmDerived.Pilot.@@N@@Code
set_option linter.unusedVariables false
set_option linter.unusedSimpArgs false
@@BLOCK:NumsL.lean.txt@@
namespace Jvm.RoadKit
open Sem ClassFile Op Lib Jvm.Stand Jvm.Free Jvm.LawKit
section Own
variable {p : Program} {l : Launch} {e : Env} {R : Room} {s : State} {m : MethodId} {args : Array Value} {below : List Frame} {meth : Method} {c : Code} {T : State} {locs : List Loc} {cells slots : Nat} {Z : State} {h h' : Heap} {a b : Addr} {ty : FieldType} {vs : List Value} {cl : Cell} {sl : Nat} {v : Value} {ws : List Addr}
theorem mw {α : Type} {x : α} {L : List α} (i : Nat) (q : L[i]? = some x) : x ∈ L := List.mem_of_getElem? q
/-- from A the body comes to its end, and Q holds there -/
def Goal (p : Program) (e : Env) (below : List Frame) (s : State) (Q : Option Value → Heap → List Loc → Prop) (k n : Nat) (A : State) : Prop :=
  ∃ s₂ o, Steps p.tables e below A s₂ ∧ s₂.status = .running ∧ Ended s₂ below o ∧ ∃ v L, o = .returned v ∧ Q v s₂.heap L ∧ FrameEnd s o s₂ L k n
variable {Q : Option Value → Heap → List Loc → Prop} {k n : Nat} {A B : State}
theorem Goal.to (f : ∀ t, Steps p.tables e below B t → Steps p.tables e below A t) (g : Goal p e below s Q k n B) : Goal p e below s Q k n A := by
  obtain ⟨s₂, o, h1, r⟩ := g
  exact ⟨s₂, o, f _ h1, r⟩
theorem Goal.tr (f : Steps p.tables e below A B) (g : Goal p e below s Q k n B) : Goal p e below s Q k n A := Goal.to (fun t q => f.trans q) g
theorem Goal.retV (X : Stand p l e R s m args below meth c T locs cells slots) (hx : p.tables.exec = Jvm.exec) {pc : Nat} {Ls : Array Slot} {w : Value} {t : FieldType} {i : Instr} {rest : List Value} (hret : meth.sig.returnType = some t) (hn : narrow t w = w)
    (hi : (i = .ireturn ∧ (t = .int ∨ t = .boolean ∨ t = .byte ∨ t = .char ∨ t = .short) ∧ ∃ z, w = .int z) ∨ (i = .lreturn ∧ t = .long ∧ ∃ z, w = .long z) ∨ (i = .dreturn ∧ t = .double ∧ ∃ z, w = .double z) ∨ (i = .freturn ∧ t = .float ∧ ∃ z, w = .float z) ∨ (i = .areturn ∧ t.isReference = true ∧ w.isRef = true))
    (hd : decode c.code pc = .ok (i, 1)) (hlk : meth.locks = false) (eT : T.heap = h) (hq : Q (some w) h locs) (hc : cells ≤ k) (hs : slots ≤ n) : Goal p e below s Q k n (T.setTop (mkF m pc Ls (w :: rest))) := by
  obtain ⟨fs, hr, hrun, hended, hW, hsame⟩ := X.leave (v := some w) (fun h => by rw [hret] at h; cases h) hlk
  refine ⟨_, _, retOut X hx hret hn hi hd hr, hrun, hended, _, _, rfl, ?_, ⟨_, rfl⟩, hW, hsame.mono hc hs⟩
  show Q (some w) T.heap locs
  rw [eT]; exact hq
theorem Goal.retN (X : Stand p l e R s m args below meth c T locs cells slots) (hx : p.tables.exec = Jvm.exec) {pc : Nat} {Ls : Array Slot} (hret : meth.sig.returnType = none)
    (hd : decode c.code pc = .ok (.return_, 1)) (hlk : meth.locks = false) (eT : T.heap = h) (hq : Q none h locs) (hc : cells ≤ k) (hs : slots ≤ n) : Goal p e below s Q k n (T.setTop (mkF m pc Ls [])) := by
  obtain ⟨fs, hr, hrun, hended, hW, hsame⟩ := X.leave (v := none) (fun _ => rfl) hlk
  refine ⟨_, _, X.returnOut hx hret hd hr, hrun, hended, _, _, rfl, ?_, ⟨_, rfl⟩, hW, hsame.mono hc hs⟩
  show Q none T.heap locs
  rw [eT]; exact hq
/-- the same, with the wide end: texts may have been interned -/
def GoalW (p : Program) (e : Env) (below : List Frame) (s : State) (Q : Option Value → Heap → List Loc → Prop) (k n : Nat) (A : State) : Prop :=
  ∃ s₂ o, Steps p.tables e below A s₂ ∧ s₂.status = .running ∧ Ended s₂ below o ∧ ∃ v L, o = .returned v ∧ Q v s₂.heap L ∧ ReturnedEndW s o s₂ L k n
theorem GoalW.to (f : ∀ t, Steps p.tables e below B t → Steps p.tables e below A t) (g : GoalW p e below s Q k n B) : GoalW p e below s Q k n A := by
  obtain ⟨s₂, o, h1, r⟩ := g
  exact ⟨s₂, o, f _ h1, r⟩
theorem GoalW.tr (f : Steps p.tables e below A B) (g : GoalW p e below s Q k n B) : GoalW p e below s Q k n A := GoalW.to (fun t q => f.trans q) g
theorem GoalW.retV {vm0 : Vm} (X : Stand p l e R (s.setVm vm0) m args below meth c T locs cells slots) {k0 : Nat} (hS : s.Since vm0 k0) (hx : p.tables.exec = Jvm.exec) {pc : Nat} {Ls : Array Slot} {w : Value} {t : FieldType} {i : Instr} {rest : List Value} (hret : meth.sig.returnType = some t) (hn : narrow t w = w)
    (hi : (i = .ireturn ∧ (t = .int ∨ t = .boolean ∨ t = .byte ∨ t = .char ∨ t = .short) ∧ ∃ z, w = .int z) ∨ (i = .lreturn ∧ t = .long ∧ ∃ z, w = .long z) ∨ (i = .dreturn ∧ t = .double ∧ ∃ z, w = .double z) ∨ (i = .freturn ∧ t = .float ∧ ∃ z, w = .float z) ∨ (i = .areturn ∧ t.isReference = true ∧ w.isRef = true))
    (hd : decode c.code pc = .ok (i, 1)) (hlk : meth.locks = false) (eT : T.heap = h) (hk : k0 ≤ h.size) (hq : Q (some w) h locs) (hc : cells ≤ k) (hs : slots ≤ n) : GoalW p e below s Q k n (T.setTop (mkF m pc Ls (w :: rest))) := by
  obtain ⟨fs, hr, hrun, hended, e1, e2, e3, e4⟩ := X.leaveW hS (by rw [eT]; exact hk) (v := some w) (fun h => by rw [hret] at h; cases h) hlk
  refine ⟨_, _, retOut X hx hret hn hi hd hr, hrun, hended, _, _, rfl, ?_, e1, e2, e3, e4.mono hc hs⟩
  show Q (some w) T.heap locs
  rw [eT]; exact hq
theorem nar01 {z : Int32} (q : z = 0 ∨ z = 1) : narrow .boolean (.int z) = .int z := by rcases q with rfl | rfl <;> rfl
theorem catV {r : Value} (q : r.isRef = true) : r.category = 1 := by rcases ref_cases q with rfl | ⟨o, rfl⟩ <;> rfl
theorem catR {o : Addr} : (Value.ref o).category = 1 := rfl
theorem catI {z : Int32} : (Value.int z).category = 1 := rfl
theorem catJ {z : Int64} : (Value.long z).category = 2 := rfl
theorem catN : Value.null.category = 1 := rfl
theorem narV {r : Value} {C : String} (q : r.isRef = true) : narrow (.object C) r = r := by rcases ref_cases q with rfl | ⟨o, rfl⟩ <;> rfl
theorem fitV {r : Value} {C : String} (q : r.isRef = true) : fits (.object C) r = true := by rcases ref_cases q with rfl | ⟨o, rfl⟩ <;> rfl
theorem selP {a0 : Array Value} {y : MethodName} {n : Nat} (hZ : Z.Warmed39 s.vm) (hins : (Cond.instantiable y.cls n).before a0 Z = true) (hp : (Cond.privateMethod y).before a0 Z = true) (hi : (Cond.instanceMethod y).before a0 Z = true) (hy : y.cls ≠ "java/lang/invoke/MethodHandle" ∧ y.cls ≠ "java/lang/invoke/VarHandle") : (Cond.selects y.cls y y).before args s = true := by
  obtain ⟨c, k, hc, hk, -, hniab, -, -⟩ := Cond.instantiable_spec (mv (args := args) hZ hins)
  exact selects_self_of_private hc hk (Bool.or_eq_false_iff.mp hniab).1 (Cond.privateMethod_at (mvP (args := args) hZ hp)) (mv hZ hi) hy
theorem Fld.cast {C n d : String} {w : Value} (F : Fld Z h a C n d v) (q : v = w) : Fld Z h a C n d w := q ▸ F
/-- an array of the heap by the whole list of what it holds -/
def Ary (Z : State) (h : Heap) (a : Addr) (ty : FieldType) (vs : List Value) : Prop := ∃ cl : Cell, Arr Z h a cl ty ∧ cl.slots.toList = vs
theorem Ary.cast {ws : List Value} (F : Ary Z h a ty vs) (q : vs = ws) : Ary Z h a ty ws := q ▸ F
theorem Ary.lt (F : Ary Z h a ty vs) : a < h.size := by obtain ⟨cl, A, -⟩ := F; exact A.lt
theorem Ary.ext (F : Ary Z h a ty vs) (E : Ext h h') : Ary Z h' a ty vs := by obtain ⟨cl, A, r⟩ := F; exact ⟨cl, A.ext E, r⟩
theorem Ary.other (F : Ary Z h a ty vs) (W : Wr h h' b sl v) (q : a ≠ b) : Ary Z h' a ty vs := by obtain ⟨cl, A, r⟩ := F; exact ⟨cl, A.other W q, r⟩
theorem Ary.keep (F : Ary Z h a ty vs) (K : Keep h h' ws) (q : a ∉ ws) : Ary Z h' a ty vs := by obtain ⟨cl, A, r⟩ := F; exact ⟨cl, ⟨K.2.1 a cl A.1 q, A.2⟩, r⟩
theorem Ary.new {k : ClassId} {z : Int32} {N : Nat} (A : Arr Z h a (newA k ty z) ty) (hz : z.toNatClampNeg = N) : Ary Z h a ty (List.replicate N (defaultValue ty)) := ⟨_, A, by simp [newA, hz]⟩
theorem Ary.put {j : Nat} {N : Nat} (A : Arr Z h a cl ty) (S : cl.slots.toList = vs) (W : Wr h h' a j v) (q : j = N) : Ary Z h' a ty (vs.set N v) := ⟨_, A.same W, by subst q; simp [Cell.setSlot, S]⟩
theorem sizeA (S : cl.slots.toList = vs) : cl.slots.size = vs.length := by rw [← S]; simp
theorem inA {j : Int32} (S : cl.slots.toList = vs) (q : ¬ j < 0) (r : j.toNatClampNeg < vs.length) : ¬ (j < 0 ∨ cl.slots.size ≤ j.toNatClampNeg) := by rw [sizeA S]; intro u; rcases u with u | u; exact q u; exact absurd r (Nat.not_lt.mpr u)
theorem atA {j : Nat} (S : cl.slots.toList = vs) (q : vs[j]? = some v) : cl.slots[j]? = some v := by rw [← q, ← S]; simp
theorem lenA {z : Int32} (S : cl.slots.toList = vs) (q : vs.length.toInt32 = z) : cl.slots.size.toInt32 = z := by rw [sizeA S]; exact q
/-- a static that stood when the law began, and what it holds -/
def StaN (Z : State) (n0 : Nat) (h : Heap) (C n d : String) (v : Value) : Prop := ∃ (cf i : Nat) (k : Class) (f : Field) (st : Addr) (cell : Cell), Z.fieldFound? C n d = some (cf, k, i, f) ∧ f.isStatic = true ∧ k.init = .initialized ∧ k.statics = some st ∧ h[st]? = some cell ∧ cell.vm.isStatics = true ∧ cell.slots[f.slot]? = some v ∧ st < n0
section StaN
variable {C nm d : String} {n0 : Nat}
theorem StaN.sta (F : StaN Z n0 h C nm d v) : Sta Z h C nm d v := by obtain ⟨cf, i, k, f, st, cell, h1, h2, h3, h4, h5, h6, h7, -⟩ := F; exact ⟨cf, i, k, f, st, cell, h1, h2, h3, h4, h5, h6, h7⟩
theorem Sta.toN (F : Sta Z h C nm d v) : StaN Z h.size h C nm d v := by obtain ⟨cf, i, k, f, st, cell, h1, h2, h3, h4, h5, h6, h7⟩ := F; exact ⟨cf, i, k, f, st, cell, h1, h2, h3, h4, h5, h6, h7, (Array.getElem?_eq_some_iff.mp h5).1⟩
theorem StaN.ext (F : StaN Z n0 h C nm d v) (E : Ext h h') : StaN Z n0 h' C nm d v := by obtain ⟨cf, i, k, f, st, cell, h1, h2, h3, h4, h5, r⟩ := F; exact ⟨cf, i, k, f, st, cell, h1, h2, h3, h4, E.2 _ _ h5, r⟩
theorem StaN.keep (F : StaN Z n0 h C nm d v) (K : Keep h h' ws) (q : ∀ x ∈ ws, n0 ≤ x) : StaN Z n0 h' C nm d v := by
  obtain ⟨cf, i, k, f, st, cell, h1, h2, h3, h4, h5, h6, h7, h8⟩ := F
  exact ⟨cf, i, k, f, st, cell, h1, h2, h3, h4, K.2.1 _ _ h5 (fun z => absurd h8 (Nat.not_lt.mpr (q _ z))), h6, h7, h8⟩
theorem StaN.wr {w : Value} (F : StaN Z n0 h C nm d v) (W : Wr h h' a sl w) : StaN Z n0 h' C nm d v := by
  obtain ⟨cf, i, k, f, st, cell, h1, h2, h3, h4, h5, h6, h7, h8⟩ := F
  obtain ⟨c', e1, -, -, -, e5, -, e7⟩ := wr_at W h5
  have ne : st ≠ a := fun e => by rw [(e7 e).2.2] at h6; cases h6
  exact ⟨cf, i, k, f, st, cell, h1, h2, h3, h4, by rw [← e5 ne]; exact e1, h6, h7, h8⟩
end StaN
/-- what may lie in an array of objects of class C (of arrays of class C) -/
def OvrO (Z : State) (h : Heap) (a : Addr) (C : String) : Prop := ∃ cl : Cell, h[a]? = some cl ∧ Ovr Z cl.cls C
theorem OvrO.ext {C : String} (F : OvrO Z h a C) (E : Ext h h') : OvrO Z h' a C := by obtain ⟨cl, h1, r⟩ := F; exact ⟨cl, E.2 _ _ h1, r⟩
theorem OvrO.wr {C : String} (F : OvrO Z h a C) (W : Wr h h' b sl v) : OvrO Z h' a C := by obtain ⟨cl, h1, r⟩ := F; obtain ⟨c', e1, e2, -⟩ := wr_at W h1; exact ⟨c', e1, by rw [e2]; exact r⟩
theorem OvrO.keep {C : String} (F : OvrO Z h a C) (K : Keep h h' ws) : OvrO Z h' a C := by obtain ⟨cl, h1, r⟩ := F; obtain ⟨c', e1, e2, -⟩ := K.2.2 _ _ h1; exact ⟨c', e1, by rw [e2]; exact r⟩
theorem stoO {C : String} {y : Addr} (A : Arr Z h a cl ty) (O : OvrO Z h a C) (I : Ins Z h y C true) : Sto Z h a (.ref y) := by
  obtain ⟨c', h1, r⟩ := O
  cases A.1.symm.trans h1
  exact Sto.of A r I
def OvrB (Z : State) (h : Heap) (a : Addr) (C : String) : Prop := ∃ (cl : Cell) (t : FieldType), h[a]? = some cl ∧ OvrA Z cl.cls t C
theorem OvrB.ext {C : String} (F : OvrB Z h a C) (E : Ext h h') : OvrB Z h' a C := by obtain ⟨cl, t, h1, r⟩ := F; exact ⟨cl, t, E.2 _ _ h1, r⟩
theorem OvrB.wr {C : String} (F : OvrB Z h a C) (W : Wr h h' b sl v) : OvrB Z h' a C := by obtain ⟨cl, t, h1, r⟩ := F; obtain ⟨c', e1, e2, -⟩ := wr_at W h1; exact ⟨c', t, e1, by rw [e2]; exact r⟩
theorem OvrB.keep {C : String} (F : OvrB Z h a C) (K : Keep h h' ws) : OvrB Z h' a C := by obtain ⟨cl, t, h1, r⟩ := F; obtain ⟨c', e1, e2, -⟩ := K.2.2 _ _ h1; exact ⟨c', t, e1, by rw [e2]; exact r⟩
theorem stoB {C : String} {y : Addr} (A : Arr Z h a cl ty) (O : OvrB Z h a C) (I : Ins Z h y C true) : Sto Z h a (.ref y) := by
  obtain ⟨c', t, h1, r⟩ := O
  cases A.1.symm.trans h1
  exact Sto.ofVA A rfl r I
theorem fits_nil : ∀ w ∈ ([] : List Value), fits ty w = true := fun _ q => nomatch q
theorem fits_cons (q : fits ty v = true) (r : ∀ w ∈ vs, fits ty w = true) : ∀ w ∈ v :: vs, fits ty w = true := fun w z => (List.mem_cons.mp z).elim (fun u => u ▸ q) (r w)
theorem Ary.arv {dv : Value} {z : Int32} (F : Ary Z h a ty vs) (hz : z.toNatClampNeg = vs.length) (h0 : ¬ z < 0) (hf : ∀ w ∈ vs, fits ty w = true) : ∃ k, Arv Z h a k ty z vs dv := by
  obtain ⟨cl, A, S⟩ := F
  have sz : cl.slots.size = vs.length := sizeA S
  refine ⟨_, cl, A, rfl, sz.trans hz.symm, h0, fun i hi => ?_, fun i hi => ?_⟩
  · rw [sz] at hi
    refine atA S ?_
    rw [List.getD_eq_getElem?_getD, List.getElem?_eq_getElem hi]; rfl
  · rw [sz] at hi
    rw [List.getD_eq_getElem?_getD, List.getElem?_eq_getElem hi]
    exact hf _ (List.getElem_mem hi)
theorem Arv.ary {k : ClassId} {z : Int32} {dv : Value} (F : Arv Z h a k ty z vs dv) (hz : z.toNatClampNeg = vs.length) : Ary Z h a ty vs := by
  obtain ⟨cl, A, -, S, -, H, -⟩ := F
  refine ⟨cl, A, List.ext_getElem? fun i => ?_⟩
  by_cases hi : i < cl.slots.size
  · have q := H i hi
    have hv : i < vs.length := by omega
    rw [List.getD_eq_getElem?_getD, List.getElem?_eq_getElem hv] at q
    rw [List.getElem?_eq_getElem hv, Array.getElem?_toList]; exact q
  · rw [List.getElem?_eq_none (by simp; omega), List.getElem?_eq_none (by omega)]
theorem storeV {Ls : Array Slot} {i : Nat} {r : Value} {o : Slot} {l' : Array Slot} (q : r.isRef = true) (ho : o = .unset ∨ ∃ w, o = .val w ∧ w.category = 1) (hold : Ls[i]? = some o := by rfl) (hl : Ls.setIfInBounds i (.val r) = l' := by rfl) : storeLocals Ls i r = some l' := by
  rw [← hl]; exact XS.store1 hold ho (catV q)
end Own
end Jvm.RoadKit
namespace Jvm.Pilot.@@N@@
open Jvm Jvm.ClassFile Sem Op Lib Jvm.Free Jvm.Stand Jvm.LawKit Jvm.RoadKit Bundle Jvm.Pilot.@@N@@.Jvm.D
theorem own_k {u n : Int32} (h : n = ((u &&& (3 : Int32)) + (1 : Int32))) : n = 1 ∨ n = 2 ∨ n = 3 ∨ n = 4 := by
  have q := Jvm.Kit.i32_mask u 3 (k := 2) (by decide) (by decide)
  have e1 : (1 : Int32).toInt = 1 := rfl
  have r := Jvm.Kit.i32_add (p := u &&& 3) (q := 1) (by omega) (by omega)
  rw [← h] at r
  have s : n.toInt = 1 ∨ n.toInt = 2 ∨ n.toInt = 3 ∨ n.toInt = 4 := by omega
  rcases s with s | s | s | s
  · exact Or.inl (Int32.toInt_inj.mp s)
  · exact Or.inr (Or.inl (Int32.toInt_inj.mp s))
  · exact Or.inr (Or.inr (Or.inl (Int32.toInt_inj.mp s)))
  · exact Or.inr (Or.inr (Or.inr (Int32.toInt_inj.mp s)))
/-- bounded by k times 2^31 -/
def own_B (k : Int) (x : Int64) : Prop := -(k * 2147483648) ≤ x.toInt ∧ x.toInt ≤ k * 2147483648
theorem own_i (x : Int32) : own_B 1 x.toInt64 := by
  have e := Jvm.Kit.i64_of_i32 x
  have a := x.toInt_lt
  have b := x.le_toInt
  exact ⟨by rw [e]; omega, by rw [e]; omega⟩
theorem own_0 : own_B 0 (0 : Int64) := by unfold own_B; decide
theorem own_s {k : Int} {x : Int64} (h : own_B k x) (hk : k ≤ 4) : B53 x := by unfold own_B at h; exact ⟨by omega, by omega⟩
theorem own_add {k : Int} {x y : Int64} (h : own_B k x) (g : own_B 1 y) (hk : 0 ≤ k ∧ k ≤ 4) : own_B (k + 1) (x + y) := by
  unfold own_B at *
  have e := Jvm.Kit.i64_add (x := x) (y := y) (by omega) (by omega)
  rw [e]; omega
theorem own_nn (x : Int64) {y : Int64} (h : y ≠ 0) : Jvm.Free.Fl.NoNaN64 (FP.ddiv (FP.l2d x) (FP.l2d y)) := ((ddiv_mag (Jvm.Free.Fl.l2d_mag x) (l2d_big h) (by decide) (by decide)).fin (by decide)).noNaN
theorem ef_1 (m : MethodId) (x0 : Addr)  : entryFrame m #[(.ref x0)] 8 = mkF m 0 #[.val (.ref x0), .unset, .unset, .unset, .unset, .unset, .unset, .unset] [] := by first | (simp [entryFrame, mkF, argsToLocals, Value.category]; done) | rfl
theorem pn_1 : plainName "com/example/enodia/enodia/compare/MeanInterval" = true := by first | (simp [plainName, overriddenIn]; done) | decide +kernel
theorem d1_0 : decode prog_9_method_3_code 0 = .ok (.dconst 0, 1) := by decide +kernel
theorem d1_1 : decode prog_9_method_3_code 1 = .ok (.dstore_n 1, 1) := by decide +kernel
theorem d1_2 : decode prog_9_method_3_code 2 = .ok (.aload_n 0, 1) := by decide +kernel
theorem d1_3 : decode prog_9_method_3_code 3 = .ok (.astore_n 3, 1) := by decide +kernel
theorem d1_4 : decode prog_9_method_3_code 4 = .ok (.aload_n 3, 1) := by decide +kernel
theorem d1_5 : decode prog_9_method_3_code 5 = .ok (.arraylength, 1) := by decide +kernel
theorem d1_6 : decode prog_9_method_3_code 6 = .ok (.istore 4, 2) := by decide +kernel
theorem d1_8 : decode prog_9_method_3_code 8 = .ok (.iconst 0, 1) := by decide +kernel
theorem d1_9 : decode prog_9_method_3_code 9 = .ok (.istore 5, 2) := by decide +kernel
theorem d1_11 : decode prog_9_method_3_code 11 = .ok (.iload 5, 2) := by decide +kernel
theorem d1_13 : decode prog_9_method_3_code 13 = .ok (.iload 4, 2) := by decide +kernel
theorem d1_15 : decode prog_9_method_3_code 15 = .ok (.if_icmp .ge 20, 3) := by decide +kernel
theorem d1_18 : decode prog_9_method_3_code 18 = .ok (.aload_n 3, 1) := by decide +kernel
theorem d1_19 : decode prog_9_method_3_code 19 = .ok (.iload 5, 2) := by decide +kernel
theorem d1_21 : decode prog_9_method_3_code 21 = .ok (.daload, 1) := by decide +kernel
theorem d1_22 : decode prog_9_method_3_code 22 = .ok (.dstore 6, 2) := by decide +kernel
theorem d1_24 : decode prog_9_method_3_code 24 = .ok (.dload_n 1, 1) := by decide +kernel
theorem d1_25 : decode prog_9_method_3_code 25 = .ok (.dload 6, 2) := by decide +kernel
theorem d1_27 : decode prog_9_method_3_code 27 = .ok (.dadd, 1) := by decide +kernel
theorem d1_28 : decode prog_9_method_3_code 28 = .ok (.dstore_n 1, 1) := by decide +kernel
theorem d1_29 : decode prog_9_method_3_code 29 = .ok (.iinc 5 1, 3) := by decide +kernel
theorem d1_32 : decode prog_9_method_3_code 32 = .ok (.goto (-21), 3) := by decide +kernel
theorem d1_35 : decode prog_9_method_3_code 35 = .ok (.dload_n 1, 1) := by decide +kernel
theorem d1_36 : decode prog_9_method_3_code 36 = .ok (.aload_n 0, 1) := by decide +kernel
theorem d1_37 : decode prog_9_method_3_code 37 = .ok (.arraylength, 1) := by decide +kernel
theorem d1_38 : decode prog_9_method_3_code 38 = .ok (.i2d, 1) := by decide +kernel
theorem d1_39 : decode prog_9_method_3_code 39 = .ok (.ddiv, 1) := by decide +kernel
theorem d1_40 : decode prog_9_method_3_code 40 = .ok (.dreturn, 1) := by decide +kernel
def Qm1 (Z : State) (va : Addr) (x0 : Int64) (h0 : Heap) (n0 : Nat) (v : Option Value) (h : Heap) (L : List Loc) : Prop := v = some (.double (FP.ddiv (FP.l2d x0) (FP.l2d ((1 : Int32).toInt64)))) ∧ Fr n0 L ∧ h = h0
set_option maxRecDepth 65536 in
set_option maxHeartbeats 40000000 in
theorem rmm1 (l : Launch) (Z : State) (a0 : Array Value) (hw : ∀ d ∈ tables_1, d.before a0 Z = true) (ws : List Jvm.Cond) (va : Addr) (x0 : Int64) (h0 : Heap) (n0 : Nat) (Z0 : n0 ≤ h0.size) (V_va : Ary Z h0 va .double [(.double (FP.l2d x0))]) (hb0 : own_B 1 x0) :
    MetFree l (⟨"com/example/enodia/enodia/compare/MeanInterval", "mean", "([D)D"⟩ : MethodName) (head1 (Jvm.Cond.code (⟨"com/example/enodia/enodia/compare/MeanInterval", "mean", "([D)D"⟩ : MethodName) prog_9_method_3_code 8 (some .double) :: ws) ({ frames := 0, cells := 0, slots := 0, locals := 0 } : Room)) (fun a U => a = #[(.ref va)] ∧ Z.Warmed39 U.vm ∧ U.heap = h0) (fun _ _ _ _ _ => True) (fun _ U o U' => ∃ v L, o = .returned v ∧ Qm1 Z va x0 h0 n0 v U'.heap L ∧ FrameEnd U o U' L 0 0) := by
  refine MetFree.of_bodySF (plainFor_of_name pn_1) hisR ?_
  intro p e s m args below meth c s₁ Bd hml0 hP hK
  obtain ⟨rfl, hZ, hh⟩ := hP
  have hx := Bd.exec
  have hby := Bd.bytes
  have hml : c.maxLocals = 8 := hml0
  have hown : s.vm.findClass "com/example/enodia/enodia/compare/MeanInterval" = some m.cls := findClass_of_methodNamed Bd.named
  have hnm := (name_of_methodNamed Bd.named Bd.method).1
  have X0 : Stand p l e ({ frames := 0, cells := 0, slots := 0, locals := 0 } : Room) s m #[(.ref va)] below meth c s₁ [] 0 0 := Stand.of_body Bd
  have e0 : s₁.heap = h0 := by rw [← hh, Bd.state]; rfl
  have N0 := Fr.nil n0
  have hlk : meth.locks = false := BodyLoose.notSynchronized Bd
  show Goal p e below s (Qm1 Z va x0 h0 n0) 0 0 (s₁.setTop (entryFrame m #[(.ref va)] 8))
  refine Goal.to (B := s₁.setTop (mkF m 0 #[.val (.ref va), .unset, .unset, .unset, .unset, .unset, .unset, .unset] [])) (fun tt kk => castTop (ef_1 m va ) kk) ?_
  refine Goal.to (B := s₁.setTop (mkF m 5 #[.val (.ref va), .val (.double (FP.l2d (0 : Int64))), .second, .val (.ref va), .unset, .unset, .unset, .unset] [(.ref va)])) (fun tt kk => ?_) ?_
  · show Steps p.tables e below (s₁.setTop (mkF m 0 #[.val (.ref va), .unset, .unset, .unset, .unset, .unset, .unset, .unset] [])) tt
    refine XS.dconst0 X0.here hx rfl (hb hby d1_0) (v := FP.l2d (0 : Int64)) (by rw [l2d_zero]; rfl) ?_
    show Steps p.tables e below (s₁.setTop (mkF m 1 #[.val (.ref va), .unset, .unset, .unset, .unset, .unset, .unset, .unset] [(.double (FP.l2d (0 : Int64)))])) tt
    refine XS.dstoreN X0.here hx rfl (hb hby d1_1) rfl (l' := #[.val (.ref va), .val (.double (FP.l2d (0 : Int64))), .second, .unset, .unset, .unset, .unset, .unset]) rfl ?_
    show Steps p.tables e below (s₁.setTop (mkF m 2 #[.val (.ref va), .val (.double (FP.l2d (0 : Int64))), .second, .unset, .unset, .unset, .unset, .unset] [])) tt
    refine XS.aloadN X0.here hx rfl (hb hby d1_2) rfl rfl ?_
    show Steps p.tables e below (s₁.setTop (mkF m 3 #[.val (.ref va), .val (.double (FP.l2d (0 : Int64))), .second, .unset, .unset, .unset, .unset, .unset] [(.ref va)])) tt
    refine XS.astoreN X0.here hx rfl (hb hby d1_3) rfl rfl (l' := #[.val (.ref va), .val (.double (FP.l2d (0 : Int64))), .second, .val (.ref va), .unset, .unset, .unset, .unset]) rfl ?_
    show Steps p.tables e below (s₁.setTop (mkF m 4 #[.val (.ref va), .val (.double (FP.l2d (0 : Int64))), .second, .val (.ref va), .unset, .unset, .unset, .unset] [])) tt
    refine XS.aloadN X0.here hx rfl (hb hby d1_4) rfl rfl ?_
    exact kk
  obtain ⟨cl1, Ar1, Sl1⟩ := id V_va
  have ln1 : cl1.slots.size.toInt32 = (1 : Int32) := lenA Sl1 rfl
  refine Goal.to (B := s₁.setTop (mkF m 21 #[.val (.ref va), .val (.double (FP.l2d (0 : Int64))), .second, .val (.ref va), .val (.int (1 : Int32)), .val (.int (0 : Int32)), .unset, .unset] [(.int (0 : Int32)), (.ref va)])) (fun tt kk => ?_) ?_
  · show Steps p.tables e below (s₁.setTop (mkF m 5 #[.val (.ref va), .val (.double (FP.l2d (0 : Int64))), .second, .val (.ref va), .unset, .unset, .unset, .unset] [(.ref va)])) tt
    refine X0.arraylength hx (by rw [e0]; exact Ar1.1) (State.isArrayOf_alike hZ.alike Ar1.2.1) (g := (mkF m 5 #[.val (.ref va), .val (.double (FP.l2d (0 : Int64))), .second, .val (.ref va), .unset, .unset, .unset, .unset] [(.ref va)])) rfl rfl (hb hby d1_5) _ ?_
    rw [ln1]
    show Steps p.tables e below (s₁.setTop (mkF m 6 #[.val (.ref va), .val (.double (FP.l2d (0 : Int64))), .second, .val (.ref va), .unset, .unset, .unset, .unset] [(.int (1 : Int32))])) tt
    refine XS.istore X0.here hx rfl (hb hby d1_6) rfl (l' := #[.val (.ref va), .val (.double (FP.l2d (0 : Int64))), .second, .val (.ref va), .val (.int (1 : Int32)), .unset, .unset, .unset]) rfl ?_
    show Steps p.tables e below (s₁.setTop (mkF m 8 #[.val (.ref va), .val (.double (FP.l2d (0 : Int64))), .second, .val (.ref va), .val (.int (1 : Int32)), .unset, .unset, .unset] [])) tt
    refine XS.iconst X0.here hx rfl (hb hby d1_8) ?_
    show Steps p.tables e below (s₁.setTop (mkF m 9 #[.val (.ref va), .val (.double (FP.l2d (0 : Int64))), .second, .val (.ref va), .val (.int (1 : Int32)), .unset, .unset, .unset] [(.int (0 : Int32))])) tt
    refine XS.istore X0.here hx rfl (hb hby d1_9) rfl (l' := #[.val (.ref va), .val (.double (FP.l2d (0 : Int64))), .second, .val (.ref va), .val (.int (1 : Int32)), .val (.int (0 : Int32)), .unset, .unset]) rfl ?_
    show Steps p.tables e below (s₁.setTop (mkF m 11 #[.val (.ref va), .val (.double (FP.l2d (0 : Int64))), .second, .val (.ref va), .val (.int (1 : Int32)), .val (.int (0 : Int32)), .unset, .unset] [])) tt
    refine XS.iload X0.here hx rfl (hb hby d1_11) rfl ?_
    show Steps p.tables e below (s₁.setTop (mkF m 13 #[.val (.ref va), .val (.double (FP.l2d (0 : Int64))), .second, .val (.ref va), .val (.int (1 : Int32)), .val (.int (0 : Int32)), .unset, .unset] [(.int (0 : Int32))])) tt
    refine XS.iload X0.here hx rfl (hb hby d1_13) rfl ?_
    show Steps p.tables e below (s₁.setTop (mkF m 15 #[.val (.ref va), .val (.double (FP.l2d (0 : Int64))), .second, .val (.ref va), .val (.int (1 : Int32)), .val (.int (0 : Int32)), .unset, .unset] [(.int (1 : Int32)), (.int (0 : Int32))])) tt
    refine XS.icmpNo X0.here hx rfl (hb hby d1_15) rfl (tlt ((by decide) : (0 : Int32) < (1 : Int32))).2.1 ?_
    show Steps p.tables e below (s₁.setTop (mkF m 18 #[.val (.ref va), .val (.double (FP.l2d (0 : Int64))), .second, .val (.ref va), .val (.int (1 : Int32)), .val (.int (0 : Int32)), .unset, .unset] [])) tt
    refine XS.aloadN X0.here hx rfl (hb hby d1_18) rfl rfl ?_
    show Steps p.tables e below (s₁.setTop (mkF m 19 #[.val (.ref va), .val (.double (FP.l2d (0 : Int64))), .second, .val (.ref va), .val (.int (1 : Int32)), .val (.int (0 : Int32)), .unset, .unset] [(.ref va)])) tt
    refine XS.iload X0.here hx rfl (hb hby d1_19) rfl ?_
    exact kk
  obtain ⟨cl2, Ar2, Sl2⟩ := id V_va
  have hin2 := inA (cl := cl2) Sl2 (j := (0 : Int32)) (by decide) (Nat.le_of_ble_eq_true rfl)
  have hat2 : cl2.slots[((0 : Int32)).toNatClampNeg]? = some (.double (FP.l2d x0)) := atA Sl2 rfl
  have q3 := dadd_w (own_s own_0 (by decide)) (own_s hb0 (by decide))
  refine Goal.to (B := s₁.setTop (mkF m 37 #[.val (.ref va), .val (.double (FP.l2d ((0 : Int64) + x0))), .second, .val (.ref va), .val (.int (1 : Int32)), .val (.int (1 : Int32)), .val (.double (FP.l2d x0)), .second] [(.ref va), (.double (FP.l2d ((0 : Int64) + x0)))])) (fun tt kk => ?_) ?_
  · show Steps p.tables e below (s₁.setTop (mkF m 21 #[.val (.ref va), .val (.double (FP.l2d (0 : Int64))), .second, .val (.ref va), .val (.int (1 : Int32)), .val (.int (0 : Int32)), .unset, .unset] [(.int (0 : Int32)), (.ref va)])) tt
    refine X0.daload hx (j := (0 : Int32)) (v := (.double (FP.l2d x0))) (by rw [e0]; exact Ar2.1) (State.isArrayOf_alike hZ.alike Ar2.2.1) Ar2.2.2 hin2 hat2 (g := (mkF m 21 #[.val (.ref va), .val (.double (FP.l2d (0 : Int64))), .second, .val (.ref va), .val (.int (1 : Int32)), .val (.int (0 : Int32)), .unset, .unset] [(.int (0 : Int32)), (.ref va)])) rfl rfl (hb hby d1_21) _ ?_
    show Steps p.tables e below (s₁.setTop (mkF m 22 #[.val (.ref va), .val (.double (FP.l2d (0 : Int64))), .second, .val (.ref va), .val (.int (1 : Int32)), .val (.int (0 : Int32)), .unset, .unset] [(.double (FP.l2d x0))])) tt
    refine XS.dstore X0.here hx rfl (hb hby d1_22) rfl (l' := #[.val (.ref va), .val (.double (FP.l2d (0 : Int64))), .second, .val (.ref va), .val (.int (1 : Int32)), .val (.int (0 : Int32)), .val (.double (FP.l2d x0)), .second]) rfl ?_
    show Steps p.tables e below (s₁.setTop (mkF m 24 #[.val (.ref va), .val (.double (FP.l2d (0 : Int64))), .second, .val (.ref va), .val (.int (1 : Int32)), .val (.int (0 : Int32)), .val (.double (FP.l2d x0)), .second] [])) tt
    refine XS.dloadN X0.here hx rfl (hb hby d1_24) rfl ?_
    show Steps p.tables e below (s₁.setTop (mkF m 25 #[.val (.ref va), .val (.double (FP.l2d (0 : Int64))), .second, .val (.ref va), .val (.int (1 : Int32)), .val (.int (0 : Int32)), .val (.double (FP.l2d x0)), .second] [(.double (FP.l2d (0 : Int64)))])) tt
    refine XS.dload X0.here hx rfl (hb hby d1_25) rfl ?_
    show Steps p.tables e below (s₁.setTop (mkF m 27 #[.val (.ref va), .val (.double (FP.l2d (0 : Int64))), .second, .val (.ref va), .val (.int (1 : Int32)), .val (.int (0 : Int32)), .val (.double (FP.l2d x0)), .second] [(.double (FP.l2d x0)), (.double (FP.l2d (0 : Int64)))])) tt
    refine XS.daddS X0.here hx rfl (hb hby d1_27) rfl (nn_w q3) q3 ?_
    show Steps p.tables e below (s₁.setTop (mkF m 28 #[.val (.ref va), .val (.double (FP.l2d (0 : Int64))), .second, .val (.ref va), .val (.int (1 : Int32)), .val (.int (0 : Int32)), .val (.double (FP.l2d x0)), .second] [(.double (FP.l2d ((0 : Int64) + x0)))])) tt
    refine XS.dstoreN X0.here hx rfl (hb hby d1_28) rfl (l' := #[.val (.ref va), .val (.double (FP.l2d ((0 : Int64) + x0))), .second, .val (.ref va), .val (.int (1 : Int32)), .val (.int (0 : Int32)), .val (.double (FP.l2d x0)), .second]) rfl ?_
    show Steps p.tables e below (s₁.setTop (mkF m 29 #[.val (.ref va), .val (.double (FP.l2d ((0 : Int64) + x0))), .second, .val (.ref va), .val (.int (1 : Int32)), .val (.int (0 : Int32)), .val (.double (FP.l2d x0)), .second] [])) tt
    refine XS.iinc X0.here hx rfl (hb hby d1_29) rfl (l' := #[.val (.ref va), .val (.double (FP.l2d ((0 : Int64) + x0))), .second, .val (.ref va), .val (.int (1 : Int32)), .val (.int (1 : Int32)), .val (.double (FP.l2d x0)), .second]) rfl ?_
    show Steps p.tables e below (s₁.setTop (mkF m 32 #[.val (.ref va), .val (.double (FP.l2d ((0 : Int64) + x0))), .second, .val (.ref va), .val (.int (1 : Int32)), .val (.int (1 : Int32)), .val (.double (FP.l2d x0)), .second] [])) tt
    refine XS.goto X0.here hx rfl (pc0 := 32) (pc' := 11) rfl (hb hby d1_32) (by decide) (by decide) ?_
    show Steps p.tables e below (s₁.setTop (mkF m 11 #[.val (.ref va), .val (.double (FP.l2d ((0 : Int64) + x0))), .second, .val (.ref va), .val (.int (1 : Int32)), .val (.int (1 : Int32)), .val (.double (FP.l2d x0)), .second] [])) tt
    refine XS.iload X0.here hx rfl (hb hby d1_11) rfl ?_
    show Steps p.tables e below (s₁.setTop (mkF m 13 #[.val (.ref va), .val (.double (FP.l2d ((0 : Int64) + x0))), .second, .val (.ref va), .val (.int (1 : Int32)), .val (.int (1 : Int32)), .val (.double (FP.l2d x0)), .second] [(.int (1 : Int32))])) tt
    refine XS.iload X0.here hx rfl (hb hby d1_13) rfl ?_
    show Steps p.tables e below (s₁.setTop (mkF m 15 #[.val (.ref va), .val (.double (FP.l2d ((0 : Int64) + x0))), .second, .val (.ref va), .val (.int (1 : Int32)), .val (.int (1 : Int32)), .val (.double (FP.l2d x0)), .second] [(.int (1 : Int32)), (.int (1 : Int32))])) tt
    refine XS.icmpYes X0.here hx rfl (pc0 := 15) (pc' := 35) rfl (hb hby d1_15) rfl (flt (Int32.lt_irrefl : ¬ ((1 : Int32) < (1 : Int32)))).2.1 (by decide) (by decide) ?_
    show Steps p.tables e below (s₁.setTop (mkF m 35 #[.val (.ref va), .val (.double (FP.l2d ((0 : Int64) + x0))), .second, .val (.ref va), .val (.int (1 : Int32)), .val (.int (1 : Int32)), .val (.double (FP.l2d x0)), .second] [])) tt
    refine XS.dloadN X0.here hx rfl (hb hby d1_35) rfl ?_
    show Steps p.tables e below (s₁.setTop (mkF m 36 #[.val (.ref va), .val (.double (FP.l2d ((0 : Int64) + x0))), .second, .val (.ref va), .val (.int (1 : Int32)), .val (.int (1 : Int32)), .val (.double (FP.l2d x0)), .second] [(.double (FP.l2d ((0 : Int64) + x0)))])) tt
    refine XS.aloadN X0.here hx rfl (hb hby d1_36) rfl rfl ?_
    exact kk
  obtain ⟨cl4, Ar4, Sl4⟩ := id V_va
  have ln4 : cl4.slots.size.toInt32 = (1 : Int32) := lenA Sl4 rfl
  refine Goal.to (B := s₁.setTop (mkF m 40 #[.val (.ref va), .val (.double (FP.l2d ((0 : Int64) + x0))), .second, .val (.ref va), .val (.int (1 : Int32)), .val (.int (1 : Int32)), .val (.double (FP.l2d x0)), .second] [(.double (FP.ddiv (FP.l2d ((0 : Int64) + x0)) (FP.l2d ((1 : Int32).toInt64))))])) (fun tt kk => ?_) ?_
  · show Steps p.tables e below (s₁.setTop (mkF m 37 #[.val (.ref va), .val (.double (FP.l2d ((0 : Int64) + x0))), .second, .val (.ref va), .val (.int (1 : Int32)), .val (.int (1 : Int32)), .val (.double (FP.l2d x0)), .second] [(.ref va), (.double (FP.l2d ((0 : Int64) + x0)))])) tt
    refine X0.arraylength hx (by rw [e0]; exact Ar4.1) (State.isArrayOf_alike hZ.alike Ar4.2.1) (g := (mkF m 37 #[.val (.ref va), .val (.double (FP.l2d ((0 : Int64) + x0))), .second, .val (.ref va), .val (.int (1 : Int32)), .val (.int (1 : Int32)), .val (.double (FP.l2d x0)), .second] [(.ref va), (.double (FP.l2d ((0 : Int64) + x0)))])) rfl rfl (hb hby d1_37) _ ?_
    rw [ln4]
    show Steps p.tables e below (s₁.setTop (mkF m 38 #[.val (.ref va), .val (.double (FP.l2d ((0 : Int64) + x0))), .second, .val (.ref va), .val (.int (1 : Int32)), .val (.int (1 : Int32)), .val (.double (FP.l2d x0)), .second] [(.int (1 : Int32)), (.double (FP.l2d ((0 : Int64) + x0)))])) tt
    refine XS.i2dS X0.here hx rfl (hb hby d1_38) rfl (i2d_w _) ?_
    show Steps p.tables e below (s₁.setTop (mkF m 39 #[.val (.ref va), .val (.double (FP.l2d ((0 : Int64) + x0))), .second, .val (.ref va), .val (.int (1 : Int32)), .val (.int (1 : Int32)), .val (.double (FP.l2d x0)), .second] [(.double (FP.l2d ((1 : Int32).toInt64))), (.double (FP.l2d ((0 : Int64) + x0)))])) tt
    refine XS.ddivS X0.here hx rfl (hb hby d1_39) rfl (own_nn _ (by decide)) rfl ?_
    exact kk
  exact Goal.retV X0 hx Bd.returns rfl (Or.inr (Or.inr (Or.inl ⟨rfl, rfl, _, rfl⟩))) (hb hby d1_40) hlk e0 ⟨(congrArg some (by rw [Int64.zero_add] : ((.double (FP.ddiv (FP.l2d ((0 : Int64) + x0)) (FP.l2d ((1 : Int32).toInt64)))) : Value) = (.double (FP.ddiv (FP.l2d x0) (FP.l2d ((1 : Int32).toInt64)))))), N0, rfl⟩ (by decide) (by decide)
def Qm2 (Z : State) (va : Addr) (x0 : Int64) (x1 : Int64) (h0 : Heap) (n0 : Nat) (v : Option Value) (h : Heap) (L : List Loc) : Prop := v = some (.double (FP.ddiv (FP.l2d (x0 + x1)) (FP.l2d ((2 : Int32).toInt64)))) ∧ Fr n0 L ∧ h = h0
set_option maxRecDepth 65536 in
set_option maxHeartbeats 40000000 in
theorem rmm2 (l : Launch) (Z : State) (a0 : Array Value) (hw : ∀ d ∈ tables_1, d.before a0 Z = true) (ws : List Jvm.Cond) (va : Addr) (x0 : Int64) (x1 : Int64) (h0 : Heap) (n0 : Nat) (Z0 : n0 ≤ h0.size) (V_va : Ary Z h0 va .double [(.double (FP.l2d x0)), (.double (FP.l2d x1))]) (hb0 : own_B 1 x0) (hb1 : own_B 1 x1) :
    MetFree l (⟨"com/example/enodia/enodia/compare/MeanInterval", "mean", "([D)D"⟩ : MethodName) (head1 (Jvm.Cond.code (⟨"com/example/enodia/enodia/compare/MeanInterval", "mean", "([D)D"⟩ : MethodName) prog_9_method_3_code 8 (some .double) :: ws) ({ frames := 0, cells := 0, slots := 0, locals := 0 } : Room)) (fun a U => a = #[(.ref va)] ∧ Z.Warmed39 U.vm ∧ U.heap = h0) (fun _ _ _ _ _ => True) (fun _ U o U' => ∃ v L, o = .returned v ∧ Qm2 Z va x0 x1 h0 n0 v U'.heap L ∧ FrameEnd U o U' L 0 0) := by
  refine MetFree.of_bodySF (plainFor_of_name pn_1) hisR ?_
  intro p e s m args below meth c s₁ Bd hml0 hP hK
  obtain ⟨rfl, hZ, hh⟩ := hP
  have hx := Bd.exec
  have hby := Bd.bytes
  have hml : c.maxLocals = 8 := hml0
  have hown : s.vm.findClass "com/example/enodia/enodia/compare/MeanInterval" = some m.cls := findClass_of_methodNamed Bd.named
  have hnm := (name_of_methodNamed Bd.named Bd.method).1
  have X0 : Stand p l e ({ frames := 0, cells := 0, slots := 0, locals := 0 } : Room) s m #[(.ref va)] below meth c s₁ [] 0 0 := Stand.of_body Bd
  have e0 : s₁.heap = h0 := by rw [← hh, Bd.state]; rfl
  have N0 := Fr.nil n0
  have hlk : meth.locks = false := BodyLoose.notSynchronized Bd
  show Goal p e below s (Qm2 Z va x0 x1 h0 n0) 0 0 (s₁.setTop (entryFrame m #[(.ref va)] 8))
  refine Goal.to (B := s₁.setTop (mkF m 0 #[.val (.ref va), .unset, .unset, .unset, .unset, .unset, .unset, .unset] [])) (fun tt kk => castTop (ef_1 m va ) kk) ?_
  refine Goal.to (B := s₁.setTop (mkF m 5 #[.val (.ref va), .val (.double (FP.l2d (0 : Int64))), .second, .val (.ref va), .unset, .unset, .unset, .unset] [(.ref va)])) (fun tt kk => ?_) ?_
  · show Steps p.tables e below (s₁.setTop (mkF m 0 #[.val (.ref va), .unset, .unset, .unset, .unset, .unset, .unset, .unset] [])) tt
    refine XS.dconst0 X0.here hx rfl (hb hby d1_0) (v := FP.l2d (0 : Int64)) (by rw [l2d_zero]; rfl) ?_
    show Steps p.tables e below (s₁.setTop (mkF m 1 #[.val (.ref va), .unset, .unset, .unset, .unset, .unset, .unset, .unset] [(.double (FP.l2d (0 : Int64)))])) tt
    refine XS.dstoreN X0.here hx rfl (hb hby d1_1) rfl (l' := #[.val (.ref va), .val (.double (FP.l2d (0 : Int64))), .second, .unset, .unset, .unset, .unset, .unset]) rfl ?_
    show Steps p.tables e below (s₁.setTop (mkF m 2 #[.val (.ref va), .val (.double (FP.l2d (0 : Int64))), .second, .unset, .unset, .unset, .unset, .unset] [])) tt
    refine XS.aloadN X0.here hx rfl (hb hby d1_2) rfl rfl ?_
    show Steps p.tables e below (s₁.setTop (mkF m 3 #[.val (.ref va), .val (.double (FP.l2d (0 : Int64))), .second, .unset, .unset, .unset, .unset, .unset] [(.ref va)])) tt
    refine XS.astoreN X0.here hx rfl (hb hby d1_3) rfl rfl (l' := #[.val (.ref va), .val (.double (FP.l2d (0 : Int64))), .second, .val (.ref va), .unset, .unset, .unset, .unset]) rfl ?_
    show Steps p.tables e below (s₁.setTop (mkF m 4 #[.val (.ref va), .val (.double (FP.l2d (0 : Int64))), .second, .val (.ref va), .unset, .unset, .unset, .unset] [])) tt
    refine XS.aloadN X0.here hx rfl (hb hby d1_4) rfl rfl ?_
    exact kk
  obtain ⟨cl1, Ar1, Sl1⟩ := id V_va
  have ln1 : cl1.slots.size.toInt32 = (2 : Int32) := lenA Sl1 rfl
  refine Goal.to (B := s₁.setTop (mkF m 21 #[.val (.ref va), .val (.double (FP.l2d (0 : Int64))), .second, .val (.ref va), .val (.int (2 : Int32)), .val (.int (0 : Int32)), .unset, .unset] [(.int (0 : Int32)), (.ref va)])) (fun tt kk => ?_) ?_
  · show Steps p.tables e below (s₁.setTop (mkF m 5 #[.val (.ref va), .val (.double (FP.l2d (0 : Int64))), .second, .val (.ref va), .unset, .unset, .unset, .unset] [(.ref va)])) tt
    refine X0.arraylength hx (by rw [e0]; exact Ar1.1) (State.isArrayOf_alike hZ.alike Ar1.2.1) (g := (mkF m 5 #[.val (.ref va), .val (.double (FP.l2d (0 : Int64))), .second, .val (.ref va), .unset, .unset, .unset, .unset] [(.ref va)])) rfl rfl (hb hby d1_5) _ ?_
    rw [ln1]
    show Steps p.tables e below (s₁.setTop (mkF m 6 #[.val (.ref va), .val (.double (FP.l2d (0 : Int64))), .second, .val (.ref va), .unset, .unset, .unset, .unset] [(.int (2 : Int32))])) tt
    refine XS.istore X0.here hx rfl (hb hby d1_6) rfl (l' := #[.val (.ref va), .val (.double (FP.l2d (0 : Int64))), .second, .val (.ref va), .val (.int (2 : Int32)), .unset, .unset, .unset]) rfl ?_
    show Steps p.tables e below (s₁.setTop (mkF m 8 #[.val (.ref va), .val (.double (FP.l2d (0 : Int64))), .second, .val (.ref va), .val (.int (2 : Int32)), .unset, .unset, .unset] [])) tt
    refine XS.iconst X0.here hx rfl (hb hby d1_8) ?_
    show Steps p.tables e below (s₁.setTop (mkF m 9 #[.val (.ref va), .val (.double (FP.l2d (0 : Int64))), .second, .val (.ref va), .val (.int (2 : Int32)), .unset, .unset, .unset] [(.int (0 : Int32))])) tt
    refine XS.istore X0.here hx rfl (hb hby d1_9) rfl (l' := #[.val (.ref va), .val (.double (FP.l2d (0 : Int64))), .second, .val (.ref va), .val (.int (2 : Int32)), .val (.int (0 : Int32)), .unset, .unset]) rfl ?_
    show Steps p.tables e below (s₁.setTop (mkF m 11 #[.val (.ref va), .val (.double (FP.l2d (0 : Int64))), .second, .val (.ref va), .val (.int (2 : Int32)), .val (.int (0 : Int32)), .unset, .unset] [])) tt
    refine XS.iload X0.here hx rfl (hb hby d1_11) rfl ?_
    show Steps p.tables e below (s₁.setTop (mkF m 13 #[.val (.ref va), .val (.double (FP.l2d (0 : Int64))), .second, .val (.ref va), .val (.int (2 : Int32)), .val (.int (0 : Int32)), .unset, .unset] [(.int (0 : Int32))])) tt
    refine XS.iload X0.here hx rfl (hb hby d1_13) rfl ?_
    show Steps p.tables e below (s₁.setTop (mkF m 15 #[.val (.ref va), .val (.double (FP.l2d (0 : Int64))), .second, .val (.ref va), .val (.int (2 : Int32)), .val (.int (0 : Int32)), .unset, .unset] [(.int (2 : Int32)), (.int (0 : Int32))])) tt
    refine XS.icmpNo X0.here hx rfl (hb hby d1_15) rfl (tlt ((by decide) : (0 : Int32) < (2 : Int32))).2.1 ?_
    show Steps p.tables e below (s₁.setTop (mkF m 18 #[.val (.ref va), .val (.double (FP.l2d (0 : Int64))), .second, .val (.ref va), .val (.int (2 : Int32)), .val (.int (0 : Int32)), .unset, .unset] [])) tt
    refine XS.aloadN X0.here hx rfl (hb hby d1_18) rfl rfl ?_
    show Steps p.tables e below (s₁.setTop (mkF m 19 #[.val (.ref va), .val (.double (FP.l2d (0 : Int64))), .second, .val (.ref va), .val (.int (2 : Int32)), .val (.int (0 : Int32)), .unset, .unset] [(.ref va)])) tt
    refine XS.iload X0.here hx rfl (hb hby d1_19) rfl ?_
    exact kk
  obtain ⟨cl2, Ar2, Sl2⟩ := id V_va
  have hin2 := inA (cl := cl2) Sl2 (j := (0 : Int32)) (by decide) (Nat.le_of_ble_eq_true rfl)
  have hat2 : cl2.slots[((0 : Int32)).toNatClampNeg]? = some (.double (FP.l2d x0)) := atA Sl2 rfl
  have q3 := dadd_w (own_s own_0 (by decide)) (own_s hb0 (by decide))
  refine Goal.to (B := s₁.setTop (mkF m 21 #[.val (.ref va), .val (.double (FP.l2d ((0 : Int64) + x0))), .second, .val (.ref va), .val (.int (2 : Int32)), .val (.int (1 : Int32)), .val (.double (FP.l2d x0)), .second] [(.int (1 : Int32)), (.ref va)])) (fun tt kk => ?_) ?_
  · show Steps p.tables e below (s₁.setTop (mkF m 21 #[.val (.ref va), .val (.double (FP.l2d (0 : Int64))), .second, .val (.ref va), .val (.int (2 : Int32)), .val (.int (0 : Int32)), .unset, .unset] [(.int (0 : Int32)), (.ref va)])) tt
    refine X0.daload hx (j := (0 : Int32)) (v := (.double (FP.l2d x0))) (by rw [e0]; exact Ar2.1) (State.isArrayOf_alike hZ.alike Ar2.2.1) Ar2.2.2 hin2 hat2 (g := (mkF m 21 #[.val (.ref va), .val (.double (FP.l2d (0 : Int64))), .second, .val (.ref va), .val (.int (2 : Int32)), .val (.int (0 : Int32)), .unset, .unset] [(.int (0 : Int32)), (.ref va)])) rfl rfl (hb hby d1_21) _ ?_
    show Steps p.tables e below (s₁.setTop (mkF m 22 #[.val (.ref va), .val (.double (FP.l2d (0 : Int64))), .second, .val (.ref va), .val (.int (2 : Int32)), .val (.int (0 : Int32)), .unset, .unset] [(.double (FP.l2d x0))])) tt
    refine XS.dstore X0.here hx rfl (hb hby d1_22) rfl (l' := #[.val (.ref va), .val (.double (FP.l2d (0 : Int64))), .second, .val (.ref va), .val (.int (2 : Int32)), .val (.int (0 : Int32)), .val (.double (FP.l2d x0)), .second]) rfl ?_
    show Steps p.tables e below (s₁.setTop (mkF m 24 #[.val (.ref va), .val (.double (FP.l2d (0 : Int64))), .second, .val (.ref va), .val (.int (2 : Int32)), .val (.int (0 : Int32)), .val (.double (FP.l2d x0)), .second] [])) tt
    refine XS.dloadN X0.here hx rfl (hb hby d1_24) rfl ?_
    show Steps p.tables e below (s₁.setTop (mkF m 25 #[.val (.ref va), .val (.double (FP.l2d (0 : Int64))), .second, .val (.ref va), .val (.int (2 : Int32)), .val (.int (0 : Int32)), .val (.double (FP.l2d x0)), .second] [(.double (FP.l2d (0 : Int64)))])) tt
    refine XS.dload X0.here hx rfl (hb hby d1_25) rfl ?_
    show Steps p.tables e below (s₁.setTop (mkF m 27 #[.val (.ref va), .val (.double (FP.l2d (0 : Int64))), .second, .val (.ref va), .val (.int (2 : Int32)), .val (.int (0 : Int32)), .val (.double (FP.l2d x0)), .second] [(.double (FP.l2d x0)), (.double (FP.l2d (0 : Int64)))])) tt
    refine XS.daddS X0.here hx rfl (hb hby d1_27) rfl (nn_w q3) q3 ?_
    show Steps p.tables e below (s₁.setTop (mkF m 28 #[.val (.ref va), .val (.double (FP.l2d (0 : Int64))), .second, .val (.ref va), .val (.int (2 : Int32)), .val (.int (0 : Int32)), .val (.double (FP.l2d x0)), .second] [(.double (FP.l2d ((0 : Int64) + x0)))])) tt
    refine XS.dstoreN X0.here hx rfl (hb hby d1_28) rfl (l' := #[.val (.ref va), .val (.double (FP.l2d ((0 : Int64) + x0))), .second, .val (.ref va), .val (.int (2 : Int32)), .val (.int (0 : Int32)), .val (.double (FP.l2d x0)), .second]) rfl ?_
    show Steps p.tables e below (s₁.setTop (mkF m 29 #[.val (.ref va), .val (.double (FP.l2d ((0 : Int64) + x0))), .second, .val (.ref va), .val (.int (2 : Int32)), .val (.int (0 : Int32)), .val (.double (FP.l2d x0)), .second] [])) tt
    refine XS.iinc X0.here hx rfl (hb hby d1_29) rfl (l' := #[.val (.ref va), .val (.double (FP.l2d ((0 : Int64) + x0))), .second, .val (.ref va), .val (.int (2 : Int32)), .val (.int (1 : Int32)), .val (.double (FP.l2d x0)), .second]) rfl ?_
    show Steps p.tables e below (s₁.setTop (mkF m 32 #[.val (.ref va), .val (.double (FP.l2d ((0 : Int64) + x0))), .second, .val (.ref va), .val (.int (2 : Int32)), .val (.int (1 : Int32)), .val (.double (FP.l2d x0)), .second] [])) tt
    refine XS.goto X0.here hx rfl (pc0 := 32) (pc' := 11) rfl (hb hby d1_32) (by decide) (by decide) ?_
    show Steps p.tables e below (s₁.setTop (mkF m 11 #[.val (.ref va), .val (.double (FP.l2d ((0 : Int64) + x0))), .second, .val (.ref va), .val (.int (2 : Int32)), .val (.int (1 : Int32)), .val (.double (FP.l2d x0)), .second] [])) tt
    refine XS.iload X0.here hx rfl (hb hby d1_11) rfl ?_
    show Steps p.tables e below (s₁.setTop (mkF m 13 #[.val (.ref va), .val (.double (FP.l2d ((0 : Int64) + x0))), .second, .val (.ref va), .val (.int (2 : Int32)), .val (.int (1 : Int32)), .val (.double (FP.l2d x0)), .second] [(.int (1 : Int32))])) tt
    refine XS.iload X0.here hx rfl (hb hby d1_13) rfl ?_
    show Steps p.tables e below (s₁.setTop (mkF m 15 #[.val (.ref va), .val (.double (FP.l2d ((0 : Int64) + x0))), .second, .val (.ref va), .val (.int (2 : Int32)), .val (.int (1 : Int32)), .val (.double (FP.l2d x0)), .second] [(.int (2 : Int32)), (.int (1 : Int32))])) tt
    refine XS.icmpNo X0.here hx rfl (hb hby d1_15) rfl (tlt ((by decide) : (1 : Int32) < (2 : Int32))).2.1 ?_
    show Steps p.tables e below (s₁.setTop (mkF m 18 #[.val (.ref va), .val (.double (FP.l2d ((0 : Int64) + x0))), .second, .val (.ref va), .val (.int (2 : Int32)), .val (.int (1 : Int32)), .val (.double (FP.l2d x0)), .second] [])) tt
    refine XS.aloadN X0.here hx rfl (hb hby d1_18) rfl rfl ?_
    show Steps p.tables e below (s₁.setTop (mkF m 19 #[.val (.ref va), .val (.double (FP.l2d ((0 : Int64) + x0))), .second, .val (.ref va), .val (.int (2 : Int32)), .val (.int (1 : Int32)), .val (.double (FP.l2d x0)), .second] [(.ref va)])) tt
    refine XS.iload X0.here hx rfl (hb hby d1_19) rfl ?_
    exact kk
  obtain ⟨cl4, Ar4, Sl4⟩ := id V_va
  have hin4 := inA (cl := cl4) Sl4 (j := (1 : Int32)) (by decide) (Nat.le_of_ble_eq_true rfl)
  have hat4 : cl4.slots[((1 : Int32)).toNatClampNeg]? = some (.double (FP.l2d x1)) := atA Sl4 rfl
  have q5 := dadd_w (own_s (own_add own_0 hb0 (by decide)) (by decide)) (own_s hb1 (by decide))
  refine Goal.to (B := s₁.setTop (mkF m 37 #[.val (.ref va), .val (.double (FP.l2d (((0 : Int64) + x0) + x1))), .second, .val (.ref va), .val (.int (2 : Int32)), .val (.int (2 : Int32)), .val (.double (FP.l2d x1)), .second] [(.ref va), (.double (FP.l2d (((0 : Int64) + x0) + x1)))])) (fun tt kk => ?_) ?_
  · show Steps p.tables e below (s₁.setTop (mkF m 21 #[.val (.ref va), .val (.double (FP.l2d ((0 : Int64) + x0))), .second, .val (.ref va), .val (.int (2 : Int32)), .val (.int (1 : Int32)), .val (.double (FP.l2d x0)), .second] [(.int (1 : Int32)), (.ref va)])) tt
    refine X0.daload hx (j := (1 : Int32)) (v := (.double (FP.l2d x1))) (by rw [e0]; exact Ar4.1) (State.isArrayOf_alike hZ.alike Ar4.2.1) Ar4.2.2 hin4 hat4 (g := (mkF m 21 #[.val (.ref va), .val (.double (FP.l2d ((0 : Int64) + x0))), .second, .val (.ref va), .val (.int (2 : Int32)), .val (.int (1 : Int32)), .val (.double (FP.l2d x0)), .second] [(.int (1 : Int32)), (.ref va)])) rfl rfl (hb hby d1_21) _ ?_
    show Steps p.tables e below (s₁.setTop (mkF m 22 #[.val (.ref va), .val (.double (FP.l2d ((0 : Int64) + x0))), .second, .val (.ref va), .val (.int (2 : Int32)), .val (.int (1 : Int32)), .val (.double (FP.l2d x0)), .second] [(.double (FP.l2d x1))])) tt
    refine XS.dstore X0.here hx rfl (hb hby d1_22) rfl (l' := #[.val (.ref va), .val (.double (FP.l2d ((0 : Int64) + x0))), .second, .val (.ref va), .val (.int (2 : Int32)), .val (.int (1 : Int32)), .val (.double (FP.l2d x1)), .second]) rfl ?_
    show Steps p.tables e below (s₁.setTop (mkF m 24 #[.val (.ref va), .val (.double (FP.l2d ((0 : Int64) + x0))), .second, .val (.ref va), .val (.int (2 : Int32)), .val (.int (1 : Int32)), .val (.double (FP.l2d x1)), .second] [])) tt
    refine XS.dloadN X0.here hx rfl (hb hby d1_24) rfl ?_
    show Steps p.tables e below (s₁.setTop (mkF m 25 #[.val (.ref va), .val (.double (FP.l2d ((0 : Int64) + x0))), .second, .val (.ref va), .val (.int (2 : Int32)), .val (.int (1 : Int32)), .val (.double (FP.l2d x1)), .second] [(.double (FP.l2d ((0 : Int64) + x0)))])) tt
    refine XS.dload X0.here hx rfl (hb hby d1_25) rfl ?_
    show Steps p.tables e below (s₁.setTop (mkF m 27 #[.val (.ref va), .val (.double (FP.l2d ((0 : Int64) + x0))), .second, .val (.ref va), .val (.int (2 : Int32)), .val (.int (1 : Int32)), .val (.double (FP.l2d x1)), .second] [(.double (FP.l2d x1)), (.double (FP.l2d ((0 : Int64) + x0)))])) tt
    refine XS.daddS X0.here hx rfl (hb hby d1_27) rfl (nn_w q5) q5 ?_
    show Steps p.tables e below (s₁.setTop (mkF m 28 #[.val (.ref va), .val (.double (FP.l2d ((0 : Int64) + x0))), .second, .val (.ref va), .val (.int (2 : Int32)), .val (.int (1 : Int32)), .val (.double (FP.l2d x1)), .second] [(.double (FP.l2d (((0 : Int64) + x0) + x1)))])) tt
    refine XS.dstoreN X0.here hx rfl (hb hby d1_28) rfl (l' := #[.val (.ref va), .val (.double (FP.l2d (((0 : Int64) + x0) + x1))), .second, .val (.ref va), .val (.int (2 : Int32)), .val (.int (1 : Int32)), .val (.double (FP.l2d x1)), .second]) rfl ?_
    show Steps p.tables e below (s₁.setTop (mkF m 29 #[.val (.ref va), .val (.double (FP.l2d (((0 : Int64) + x0) + x1))), .second, .val (.ref va), .val (.int (2 : Int32)), .val (.int (1 : Int32)), .val (.double (FP.l2d x1)), .second] [])) tt
    refine XS.iinc X0.here hx rfl (hb hby d1_29) rfl (l' := #[.val (.ref va), .val (.double (FP.l2d (((0 : Int64) + x0) + x1))), .second, .val (.ref va), .val (.int (2 : Int32)), .val (.int (2 : Int32)), .val (.double (FP.l2d x1)), .second]) rfl ?_
    show Steps p.tables e below (s₁.setTop (mkF m 32 #[.val (.ref va), .val (.double (FP.l2d (((0 : Int64) + x0) + x1))), .second, .val (.ref va), .val (.int (2 : Int32)), .val (.int (2 : Int32)), .val (.double (FP.l2d x1)), .second] [])) tt
    refine XS.goto X0.here hx rfl (pc0 := 32) (pc' := 11) rfl (hb hby d1_32) (by decide) (by decide) ?_
    show Steps p.tables e below (s₁.setTop (mkF m 11 #[.val (.ref va), .val (.double (FP.l2d (((0 : Int64) + x0) + x1))), .second, .val (.ref va), .val (.int (2 : Int32)), .val (.int (2 : Int32)), .val (.double (FP.l2d x1)), .second] [])) tt
    refine XS.iload X0.here hx rfl (hb hby d1_11) rfl ?_
    show Steps p.tables e below (s₁.setTop (mkF m 13 #[.val (.ref va), .val (.double (FP.l2d (((0 : Int64) + x0) + x1))), .second, .val (.ref va), .val (.int (2 : Int32)), .val (.int (2 : Int32)), .val (.double (FP.l2d x1)), .second] [(.int (2 : Int32))])) tt
    refine XS.iload X0.here hx rfl (hb hby d1_13) rfl ?_
    show Steps p.tables e below (s₁.setTop (mkF m 15 #[.val (.ref va), .val (.double (FP.l2d (((0 : Int64) + x0) + x1))), .second, .val (.ref va), .val (.int (2 : Int32)), .val (.int (2 : Int32)), .val (.double (FP.l2d x1)), .second] [(.int (2 : Int32)), (.int (2 : Int32))])) tt
    refine XS.icmpYes X0.here hx rfl (pc0 := 15) (pc' := 35) rfl (hb hby d1_15) rfl (flt (Int32.lt_irrefl : ¬ ((2 : Int32) < (2 : Int32)))).2.1 (by decide) (by decide) ?_
    show Steps p.tables e below (s₁.setTop (mkF m 35 #[.val (.ref va), .val (.double (FP.l2d (((0 : Int64) + x0) + x1))), .second, .val (.ref va), .val (.int (2 : Int32)), .val (.int (2 : Int32)), .val (.double (FP.l2d x1)), .second] [])) tt
    refine XS.dloadN X0.here hx rfl (hb hby d1_35) rfl ?_
    show Steps p.tables e below (s₁.setTop (mkF m 36 #[.val (.ref va), .val (.double (FP.l2d (((0 : Int64) + x0) + x1))), .second, .val (.ref va), .val (.int (2 : Int32)), .val (.int (2 : Int32)), .val (.double (FP.l2d x1)), .second] [(.double (FP.l2d (((0 : Int64) + x0) + x1)))])) tt
    refine XS.aloadN X0.here hx rfl (hb hby d1_36) rfl rfl ?_
    exact kk
  obtain ⟨cl6, Ar6, Sl6⟩ := id V_va
  have ln6 : cl6.slots.size.toInt32 = (2 : Int32) := lenA Sl6 rfl
  refine Goal.to (B := s₁.setTop (mkF m 40 #[.val (.ref va), .val (.double (FP.l2d (((0 : Int64) + x0) + x1))), .second, .val (.ref va), .val (.int (2 : Int32)), .val (.int (2 : Int32)), .val (.double (FP.l2d x1)), .second] [(.double (FP.ddiv (FP.l2d (((0 : Int64) + x0) + x1)) (FP.l2d ((2 : Int32).toInt64))))])) (fun tt kk => ?_) ?_
  · show Steps p.tables e below (s₁.setTop (mkF m 37 #[.val (.ref va), .val (.double (FP.l2d (((0 : Int64) + x0) + x1))), .second, .val (.ref va), .val (.int (2 : Int32)), .val (.int (2 : Int32)), .val (.double (FP.l2d x1)), .second] [(.ref va), (.double (FP.l2d (((0 : Int64) + x0) + x1)))])) tt
    refine X0.arraylength hx (by rw [e0]; exact Ar6.1) (State.isArrayOf_alike hZ.alike Ar6.2.1) (g := (mkF m 37 #[.val (.ref va), .val (.double (FP.l2d (((0 : Int64) + x0) + x1))), .second, .val (.ref va), .val (.int (2 : Int32)), .val (.int (2 : Int32)), .val (.double (FP.l2d x1)), .second] [(.ref va), (.double (FP.l2d (((0 : Int64) + x0) + x1)))])) rfl rfl (hb hby d1_37) _ ?_
    rw [ln6]
    show Steps p.tables e below (s₁.setTop (mkF m 38 #[.val (.ref va), .val (.double (FP.l2d (((0 : Int64) + x0) + x1))), .second, .val (.ref va), .val (.int (2 : Int32)), .val (.int (2 : Int32)), .val (.double (FP.l2d x1)), .second] [(.int (2 : Int32)), (.double (FP.l2d (((0 : Int64) + x0) + x1)))])) tt
    refine XS.i2dS X0.here hx rfl (hb hby d1_38) rfl (i2d_w _) ?_
    show Steps p.tables e below (s₁.setTop (mkF m 39 #[.val (.ref va), .val (.double (FP.l2d (((0 : Int64) + x0) + x1))), .second, .val (.ref va), .val (.int (2 : Int32)), .val (.int (2 : Int32)), .val (.double (FP.l2d x1)), .second] [(.double (FP.l2d ((2 : Int32).toInt64))), (.double (FP.l2d (((0 : Int64) + x0) + x1)))])) tt
    refine XS.ddivS X0.here hx rfl (hb hby d1_39) rfl (own_nn _ (by decide)) rfl ?_
    exact kk
  exact Goal.retV X0 hx Bd.returns rfl (Or.inr (Or.inr (Or.inl ⟨rfl, rfl, _, rfl⟩))) (hb hby d1_40) hlk e0 ⟨(congrArg some (by rw [Int64.zero_add] : ((.double (FP.ddiv (FP.l2d (((0 : Int64) + x0) + x1)) (FP.l2d ((2 : Int32).toInt64)))) : Value) = (.double (FP.ddiv (FP.l2d (x0 + x1)) (FP.l2d ((2 : Int32).toInt64)))))), N0, rfl⟩ (by decide) (by decide)
def Qm3 (Z : State) (va : Addr) (x0 : Int64) (x1 : Int64) (x2 : Int64) (h0 : Heap) (n0 : Nat) (v : Option Value) (h : Heap) (L : List Loc) : Prop := v = some (.double (FP.ddiv (FP.l2d ((x0 + x1) + x2)) (FP.l2d ((3 : Int32).toInt64)))) ∧ Fr n0 L ∧ h = h0
set_option maxRecDepth 65536 in
set_option maxHeartbeats 40000000 in
theorem rmm3 (l : Launch) (Z : State) (a0 : Array Value) (hw : ∀ d ∈ tables_1, d.before a0 Z = true) (ws : List Jvm.Cond) (va : Addr) (x0 : Int64) (x1 : Int64) (x2 : Int64) (h0 : Heap) (n0 : Nat) (Z0 : n0 ≤ h0.size) (V_va : Ary Z h0 va .double [(.double (FP.l2d x0)), (.double (FP.l2d x1)), (.double (FP.l2d x2))]) (hb0 : own_B 1 x0) (hb1 : own_B 1 x1) (hb2 : own_B 1 x2) :
    MetFree l (⟨"com/example/enodia/enodia/compare/MeanInterval", "mean", "([D)D"⟩ : MethodName) (head1 (Jvm.Cond.code (⟨"com/example/enodia/enodia/compare/MeanInterval", "mean", "([D)D"⟩ : MethodName) prog_9_method_3_code 8 (some .double) :: ws) ({ frames := 0, cells := 0, slots := 0, locals := 0 } : Room)) (fun a U => a = #[(.ref va)] ∧ Z.Warmed39 U.vm ∧ U.heap = h0) (fun _ _ _ _ _ => True) (fun _ U o U' => ∃ v L, o = .returned v ∧ Qm3 Z va x0 x1 x2 h0 n0 v U'.heap L ∧ FrameEnd U o U' L 0 0) := by
  refine MetFree.of_bodySF (plainFor_of_name pn_1) hisR ?_
  intro p e s m args below meth c s₁ Bd hml0 hP hK
  obtain ⟨rfl, hZ, hh⟩ := hP
  have hx := Bd.exec
  have hby := Bd.bytes
  have hml : c.maxLocals = 8 := hml0
  have hown : s.vm.findClass "com/example/enodia/enodia/compare/MeanInterval" = some m.cls := findClass_of_methodNamed Bd.named
  have hnm := (name_of_methodNamed Bd.named Bd.method).1
  have X0 : Stand p l e ({ frames := 0, cells := 0, slots := 0, locals := 0 } : Room) s m #[(.ref va)] below meth c s₁ [] 0 0 := Stand.of_body Bd
  have e0 : s₁.heap = h0 := by rw [← hh, Bd.state]; rfl
  have N0 := Fr.nil n0
  have hlk : meth.locks = false := BodyLoose.notSynchronized Bd
  show Goal p e below s (Qm3 Z va x0 x1 x2 h0 n0) 0 0 (s₁.setTop (entryFrame m #[(.ref va)] 8))
  refine Goal.to (B := s₁.setTop (mkF m 0 #[.val (.ref va), .unset, .unset, .unset, .unset, .unset, .unset, .unset] [])) (fun tt kk => castTop (ef_1 m va ) kk) ?_
  refine Goal.to (B := s₁.setTop (mkF m 5 #[.val (.ref va), .val (.double (FP.l2d (0 : Int64))), .second, .val (.ref va), .unset, .unset, .unset, .unset] [(.ref va)])) (fun tt kk => ?_) ?_
  · show Steps p.tables e below (s₁.setTop (mkF m 0 #[.val (.ref va), .unset, .unset, .unset, .unset, .unset, .unset, .unset] [])) tt
    refine XS.dconst0 X0.here hx rfl (hb hby d1_0) (v := FP.l2d (0 : Int64)) (by rw [l2d_zero]; rfl) ?_
    show Steps p.tables e below (s₁.setTop (mkF m 1 #[.val (.ref va), .unset, .unset, .unset, .unset, .unset, .unset, .unset] [(.double (FP.l2d (0 : Int64)))])) tt
    refine XS.dstoreN X0.here hx rfl (hb hby d1_1) rfl (l' := #[.val (.ref va), .val (.double (FP.l2d (0 : Int64))), .second, .unset, .unset, .unset, .unset, .unset]) rfl ?_
    show Steps p.tables e below (s₁.setTop (mkF m 2 #[.val (.ref va), .val (.double (FP.l2d (0 : Int64))), .second, .unset, .unset, .unset, .unset, .unset] [])) tt
    refine XS.aloadN X0.here hx rfl (hb hby d1_2) rfl rfl ?_
    show Steps p.tables e below (s₁.setTop (mkF m 3 #[.val (.ref va), .val (.double (FP.l2d (0 : Int64))), .second, .unset, .unset, .unset, .unset, .unset] [(.ref va)])) tt
    refine XS.astoreN X0.here hx rfl (hb hby d1_3) rfl rfl (l' := #[.val (.ref va), .val (.double (FP.l2d (0 : Int64))), .second, .val (.ref va), .unset, .unset, .unset, .unset]) rfl ?_
    show Steps p.tables e below (s₁.setTop (mkF m 4 #[.val (.ref va), .val (.double (FP.l2d (0 : Int64))), .second, .val (.ref va), .unset, .unset, .unset, .unset] [])) tt
    refine XS.aloadN X0.here hx rfl (hb hby d1_4) rfl rfl ?_
    exact kk
  obtain ⟨cl1, Ar1, Sl1⟩ := id V_va
  have ln1 : cl1.slots.size.toInt32 = (3 : Int32) := lenA Sl1 rfl
  refine Goal.to (B := s₁.setTop (mkF m 21 #[.val (.ref va), .val (.double (FP.l2d (0 : Int64))), .second, .val (.ref va), .val (.int (3 : Int32)), .val (.int (0 : Int32)), .unset, .unset] [(.int (0 : Int32)), (.ref va)])) (fun tt kk => ?_) ?_
  · show Steps p.tables e below (s₁.setTop (mkF m 5 #[.val (.ref va), .val (.double (FP.l2d (0 : Int64))), .second, .val (.ref va), .unset, .unset, .unset, .unset] [(.ref va)])) tt
    refine X0.arraylength hx (by rw [e0]; exact Ar1.1) (State.isArrayOf_alike hZ.alike Ar1.2.1) (g := (mkF m 5 #[.val (.ref va), .val (.double (FP.l2d (0 : Int64))), .second, .val (.ref va), .unset, .unset, .unset, .unset] [(.ref va)])) rfl rfl (hb hby d1_5) _ ?_
    rw [ln1]
    show Steps p.tables e below (s₁.setTop (mkF m 6 #[.val (.ref va), .val (.double (FP.l2d (0 : Int64))), .second, .val (.ref va), .unset, .unset, .unset, .unset] [(.int (3 : Int32))])) tt
    refine XS.istore X0.here hx rfl (hb hby d1_6) rfl (l' := #[.val (.ref va), .val (.double (FP.l2d (0 : Int64))), .second, .val (.ref va), .val (.int (3 : Int32)), .unset, .unset, .unset]) rfl ?_
    show Steps p.tables e below (s₁.setTop (mkF m 8 #[.val (.ref va), .val (.double (FP.l2d (0 : Int64))), .second, .val (.ref va), .val (.int (3 : Int32)), .unset, .unset, .unset] [])) tt
    refine XS.iconst X0.here hx rfl (hb hby d1_8) ?_
    show Steps p.tables e below (s₁.setTop (mkF m 9 #[.val (.ref va), .val (.double (FP.l2d (0 : Int64))), .second, .val (.ref va), .val (.int (3 : Int32)), .unset, .unset, .unset] [(.int (0 : Int32))])) tt
    refine XS.istore X0.here hx rfl (hb hby d1_9) rfl (l' := #[.val (.ref va), .val (.double (FP.l2d (0 : Int64))), .second, .val (.ref va), .val (.int (3 : Int32)), .val (.int (0 : Int32)), .unset, .unset]) rfl ?_
    show Steps p.tables e below (s₁.setTop (mkF m 11 #[.val (.ref va), .val (.double (FP.l2d (0 : Int64))), .second, .val (.ref va), .val (.int (3 : Int32)), .val (.int (0 : Int32)), .unset, .unset] [])) tt
    refine XS.iload X0.here hx rfl (hb hby d1_11) rfl ?_
    show Steps p.tables e below (s₁.setTop (mkF m 13 #[.val (.ref va), .val (.double (FP.l2d (0 : Int64))), .second, .val (.ref va), .val (.int (3 : Int32)), .val (.int (0 : Int32)), .unset, .unset] [(.int (0 : Int32))])) tt
    refine XS.iload X0.here hx rfl (hb hby d1_13) rfl ?_
    show Steps p.tables e below (s₁.setTop (mkF m 15 #[.val (.ref va), .val (.double (FP.l2d (0 : Int64))), .second, .val (.ref va), .val (.int (3 : Int32)), .val (.int (0 : Int32)), .unset, .unset] [(.int (3 : Int32)), (.int (0 : Int32))])) tt
    refine XS.icmpNo X0.here hx rfl (hb hby d1_15) rfl (tlt ((by decide) : (0 : Int32) < (3 : Int32))).2.1 ?_
    show Steps p.tables e below (s₁.setTop (mkF m 18 #[.val (.ref va), .val (.double (FP.l2d (0 : Int64))), .second, .val (.ref va), .val (.int (3 : Int32)), .val (.int (0 : Int32)), .unset, .unset] [])) tt
    refine XS.aloadN X0.here hx rfl (hb hby d1_18) rfl rfl ?_
    show Steps p.tables e below (s₁.setTop (mkF m 19 #[.val (.ref va), .val (.double (FP.l2d (0 : Int64))), .second, .val (.ref va), .val (.int (3 : Int32)), .val (.int (0 : Int32)), .unset, .unset] [(.ref va)])) tt
    refine XS.iload X0.here hx rfl (hb hby d1_19) rfl ?_
    exact kk
  obtain ⟨cl2, Ar2, Sl2⟩ := id V_va
  have hin2 := inA (cl := cl2) Sl2 (j := (0 : Int32)) (by decide) (Nat.le_of_ble_eq_true rfl)
  have hat2 : cl2.slots[((0 : Int32)).toNatClampNeg]? = some (.double (FP.l2d x0)) := atA Sl2 rfl
  have q3 := dadd_w (own_s own_0 (by decide)) (own_s hb0 (by decide))
  refine Goal.to (B := s₁.setTop (mkF m 21 #[.val (.ref va), .val (.double (FP.l2d ((0 : Int64) + x0))), .second, .val (.ref va), .val (.int (3 : Int32)), .val (.int (1 : Int32)), .val (.double (FP.l2d x0)), .second] [(.int (1 : Int32)), (.ref va)])) (fun tt kk => ?_) ?_
  · show Steps p.tables e below (s₁.setTop (mkF m 21 #[.val (.ref va), .val (.double (FP.l2d (0 : Int64))), .second, .val (.ref va), .val (.int (3 : Int32)), .val (.int (0 : Int32)), .unset, .unset] [(.int (0 : Int32)), (.ref va)])) tt
    refine X0.daload hx (j := (0 : Int32)) (v := (.double (FP.l2d x0))) (by rw [e0]; exact Ar2.1) (State.isArrayOf_alike hZ.alike Ar2.2.1) Ar2.2.2 hin2 hat2 (g := (mkF m 21 #[.val (.ref va), .val (.double (FP.l2d (0 : Int64))), .second, .val (.ref va), .val (.int (3 : Int32)), .val (.int (0 : Int32)), .unset, .unset] [(.int (0 : Int32)), (.ref va)])) rfl rfl (hb hby d1_21) _ ?_
    show Steps p.tables e below (s₁.setTop (mkF m 22 #[.val (.ref va), .val (.double (FP.l2d (0 : Int64))), .second, .val (.ref va), .val (.int (3 : Int32)), .val (.int (0 : Int32)), .unset, .unset] [(.double (FP.l2d x0))])) tt
    refine XS.dstore X0.here hx rfl (hb hby d1_22) rfl (l' := #[.val (.ref va), .val (.double (FP.l2d (0 : Int64))), .second, .val (.ref va), .val (.int (3 : Int32)), .val (.int (0 : Int32)), .val (.double (FP.l2d x0)), .second]) rfl ?_
    show Steps p.tables e below (s₁.setTop (mkF m 24 #[.val (.ref va), .val (.double (FP.l2d (0 : Int64))), .second, .val (.ref va), .val (.int (3 : Int32)), .val (.int (0 : Int32)), .val (.double (FP.l2d x0)), .second] [])) tt
    refine XS.dloadN X0.here hx rfl (hb hby d1_24) rfl ?_
    show Steps p.tables e below (s₁.setTop (mkF m 25 #[.val (.ref va), .val (.double (FP.l2d (0 : Int64))), .second, .val (.ref va), .val (.int (3 : Int32)), .val (.int (0 : Int32)), .val (.double (FP.l2d x0)), .second] [(.double (FP.l2d (0 : Int64)))])) tt
    refine XS.dload X0.here hx rfl (hb hby d1_25) rfl ?_
    show Steps p.tables e below (s₁.setTop (mkF m 27 #[.val (.ref va), .val (.double (FP.l2d (0 : Int64))), .second, .val (.ref va), .val (.int (3 : Int32)), .val (.int (0 : Int32)), .val (.double (FP.l2d x0)), .second] [(.double (FP.l2d x0)), (.double (FP.l2d (0 : Int64)))])) tt
    refine XS.daddS X0.here hx rfl (hb hby d1_27) rfl (nn_w q3) q3 ?_
    show Steps p.tables e below (s₁.setTop (mkF m 28 #[.val (.ref va), .val (.double (FP.l2d (0 : Int64))), .second, .val (.ref va), .val (.int (3 : Int32)), .val (.int (0 : Int32)), .val (.double (FP.l2d x0)), .second] [(.double (FP.l2d ((0 : Int64) + x0)))])) tt
    refine XS.dstoreN X0.here hx rfl (hb hby d1_28) rfl (l' := #[.val (.ref va), .val (.double (FP.l2d ((0 : Int64) + x0))), .second, .val (.ref va), .val (.int (3 : Int32)), .val (.int (0 : Int32)), .val (.double (FP.l2d x0)), .second]) rfl ?_
    show Steps p.tables e below (s₁.setTop (mkF m 29 #[.val (.ref va), .val (.double (FP.l2d ((0 : Int64) + x0))), .second, .val (.ref va), .val (.int (3 : Int32)), .val (.int (0 : Int32)), .val (.double (FP.l2d x0)), .second] [])) tt
    refine XS.iinc X0.here hx rfl (hb hby d1_29) rfl (l' := #[.val (.ref va), .val (.double (FP.l2d ((0 : Int64) + x0))), .second, .val (.ref va), .val (.int (3 : Int32)), .val (.int (1 : Int32)), .val (.double (FP.l2d x0)), .second]) rfl ?_
    show Steps p.tables e below (s₁.setTop (mkF m 32 #[.val (.ref va), .val (.double (FP.l2d ((0 : Int64) + x0))), .second, .val (.ref va), .val (.int (3 : Int32)), .val (.int (1 : Int32)), .val (.double (FP.l2d x0)), .second] [])) tt
    refine XS.goto X0.here hx rfl (pc0 := 32) (pc' := 11) rfl (hb hby d1_32) (by decide) (by decide) ?_
    show Steps p.tables e below (s₁.setTop (mkF m 11 #[.val (.ref va), .val (.double (FP.l2d ((0 : Int64) + x0))), .second, .val (.ref va), .val (.int (3 : Int32)), .val (.int (1 : Int32)), .val (.double (FP.l2d x0)), .second] [])) tt
    refine XS.iload X0.here hx rfl (hb hby d1_11) rfl ?_
    show Steps p.tables e below (s₁.setTop (mkF m 13 #[.val (.ref va), .val (.double (FP.l2d ((0 : Int64) + x0))), .second, .val (.ref va), .val (.int (3 : Int32)), .val (.int (1 : Int32)), .val (.double (FP.l2d x0)), .second] [(.int (1 : Int32))])) tt
    refine XS.iload X0.here hx rfl (hb hby d1_13) rfl ?_
    show Steps p.tables e below (s₁.setTop (mkF m 15 #[.val (.ref va), .val (.double (FP.l2d ((0 : Int64) + x0))), .second, .val (.ref va), .val (.int (3 : Int32)), .val (.int (1 : Int32)), .val (.double (FP.l2d x0)), .second] [(.int (3 : Int32)), (.int (1 : Int32))])) tt
    refine XS.icmpNo X0.here hx rfl (hb hby d1_15) rfl (tlt ((by decide) : (1 : Int32) < (3 : Int32))).2.1 ?_
    show Steps p.tables e below (s₁.setTop (mkF m 18 #[.val (.ref va), .val (.double (FP.l2d ((0 : Int64) + x0))), .second, .val (.ref va), .val (.int (3 : Int32)), .val (.int (1 : Int32)), .val (.double (FP.l2d x0)), .second] [])) tt
    refine XS.aloadN X0.here hx rfl (hb hby d1_18) rfl rfl ?_
    show Steps p.tables e below (s₁.setTop (mkF m 19 #[.val (.ref va), .val (.double (FP.l2d ((0 : Int64) + x0))), .second, .val (.ref va), .val (.int (3 : Int32)), .val (.int (1 : Int32)), .val (.double (FP.l2d x0)), .second] [(.ref va)])) tt
    refine XS.iload X0.here hx rfl (hb hby d1_19) rfl ?_
    exact kk
  obtain ⟨cl4, Ar4, Sl4⟩ := id V_va
  have hin4 := inA (cl := cl4) Sl4 (j := (1 : Int32)) (by decide) (Nat.le_of_ble_eq_true rfl)
  have hat4 : cl4.slots[((1 : Int32)).toNatClampNeg]? = some (.double (FP.l2d x1)) := atA Sl4 rfl
  have q5 := dadd_w (own_s (own_add own_0 hb0 (by decide)) (by decide)) (own_s hb1 (by decide))
  refine Goal.to (B := s₁.setTop (mkF m 21 #[.val (.ref va), .val (.double (FP.l2d (((0 : Int64) + x0) + x1))), .second, .val (.ref va), .val (.int (3 : Int32)), .val (.int (2 : Int32)), .val (.double (FP.l2d x1)), .second] [(.int (2 : Int32)), (.ref va)])) (fun tt kk => ?_) ?_
  · show Steps p.tables e below (s₁.setTop (mkF m 21 #[.val (.ref va), .val (.double (FP.l2d ((0 : Int64) + x0))), .second, .val (.ref va), .val (.int (3 : Int32)), .val (.int (1 : Int32)), .val (.double (FP.l2d x0)), .second] [(.int (1 : Int32)), (.ref va)])) tt
    refine X0.daload hx (j := (1 : Int32)) (v := (.double (FP.l2d x1))) (by rw [e0]; exact Ar4.1) (State.isArrayOf_alike hZ.alike Ar4.2.1) Ar4.2.2 hin4 hat4 (g := (mkF m 21 #[.val (.ref va), .val (.double (FP.l2d ((0 : Int64) + x0))), .second, .val (.ref va), .val (.int (3 : Int32)), .val (.int (1 : Int32)), .val (.double (FP.l2d x0)), .second] [(.int (1 : Int32)), (.ref va)])) rfl rfl (hb hby d1_21) _ ?_
    show Steps p.tables e below (s₁.setTop (mkF m 22 #[.val (.ref va), .val (.double (FP.l2d ((0 : Int64) + x0))), .second, .val (.ref va), .val (.int (3 : Int32)), .val (.int (1 : Int32)), .val (.double (FP.l2d x0)), .second] [(.double (FP.l2d x1))])) tt
    refine XS.dstore X0.here hx rfl (hb hby d1_22) rfl (l' := #[.val (.ref va), .val (.double (FP.l2d ((0 : Int64) + x0))), .second, .val (.ref va), .val (.int (3 : Int32)), .val (.int (1 : Int32)), .val (.double (FP.l2d x1)), .second]) rfl ?_
    show Steps p.tables e below (s₁.setTop (mkF m 24 #[.val (.ref va), .val (.double (FP.l2d ((0 : Int64) + x0))), .second, .val (.ref va), .val (.int (3 : Int32)), .val (.int (1 : Int32)), .val (.double (FP.l2d x1)), .second] [])) tt
    refine XS.dloadN X0.here hx rfl (hb hby d1_24) rfl ?_
    show Steps p.tables e below (s₁.setTop (mkF m 25 #[.val (.ref va), .val (.double (FP.l2d ((0 : Int64) + x0))), .second, .val (.ref va), .val (.int (3 : Int32)), .val (.int (1 : Int32)), .val (.double (FP.l2d x1)), .second] [(.double (FP.l2d ((0 : Int64) + x0)))])) tt
    refine XS.dload X0.here hx rfl (hb hby d1_25) rfl ?_
    show Steps p.tables e below (s₁.setTop (mkF m 27 #[.val (.ref va), .val (.double (FP.l2d ((0 : Int64) + x0))), .second, .val (.ref va), .val (.int (3 : Int32)), .val (.int (1 : Int32)), .val (.double (FP.l2d x1)), .second] [(.double (FP.l2d x1)), (.double (FP.l2d ((0 : Int64) + x0)))])) tt
    refine XS.daddS X0.here hx rfl (hb hby d1_27) rfl (nn_w q5) q5 ?_
    show Steps p.tables e below (s₁.setTop (mkF m 28 #[.val (.ref va), .val (.double (FP.l2d ((0 : Int64) + x0))), .second, .val (.ref va), .val (.int (3 : Int32)), .val (.int (1 : Int32)), .val (.double (FP.l2d x1)), .second] [(.double (FP.l2d (((0 : Int64) + x0) + x1)))])) tt
    refine XS.dstoreN X0.here hx rfl (hb hby d1_28) rfl (l' := #[.val (.ref va), .val (.double (FP.l2d (((0 : Int64) + x0) + x1))), .second, .val (.ref va), .val (.int (3 : Int32)), .val (.int (1 : Int32)), .val (.double (FP.l2d x1)), .second]) rfl ?_
    show Steps p.tables e below (s₁.setTop (mkF m 29 #[.val (.ref va), .val (.double (FP.l2d (((0 : Int64) + x0) + x1))), .second, .val (.ref va), .val (.int (3 : Int32)), .val (.int (1 : Int32)), .val (.double (FP.l2d x1)), .second] [])) tt
    refine XS.iinc X0.here hx rfl (hb hby d1_29) rfl (l' := #[.val (.ref va), .val (.double (FP.l2d (((0 : Int64) + x0) + x1))), .second, .val (.ref va), .val (.int (3 : Int32)), .val (.int (2 : Int32)), .val (.double (FP.l2d x1)), .second]) rfl ?_
    show Steps p.tables e below (s₁.setTop (mkF m 32 #[.val (.ref va), .val (.double (FP.l2d (((0 : Int64) + x0) + x1))), .second, .val (.ref va), .val (.int (3 : Int32)), .val (.int (2 : Int32)), .val (.double (FP.l2d x1)), .second] [])) tt
    refine XS.goto X0.here hx rfl (pc0 := 32) (pc' := 11) rfl (hb hby d1_32) (by decide) (by decide) ?_
    show Steps p.tables e below (s₁.setTop (mkF m 11 #[.val (.ref va), .val (.double (FP.l2d (((0 : Int64) + x0) + x1))), .second, .val (.ref va), .val (.int (3 : Int32)), .val (.int (2 : Int32)), .val (.double (FP.l2d x1)), .second] [])) tt
    refine XS.iload X0.here hx rfl (hb hby d1_11) rfl ?_
    show Steps p.tables e below (s₁.setTop (mkF m 13 #[.val (.ref va), .val (.double (FP.l2d (((0 : Int64) + x0) + x1))), .second, .val (.ref va), .val (.int (3 : Int32)), .val (.int (2 : Int32)), .val (.double (FP.l2d x1)), .second] [(.int (2 : Int32))])) tt
    refine XS.iload X0.here hx rfl (hb hby d1_13) rfl ?_
    show Steps p.tables e below (s₁.setTop (mkF m 15 #[.val (.ref va), .val (.double (FP.l2d (((0 : Int64) + x0) + x1))), .second, .val (.ref va), .val (.int (3 : Int32)), .val (.int (2 : Int32)), .val (.double (FP.l2d x1)), .second] [(.int (3 : Int32)), (.int (2 : Int32))])) tt
    refine XS.icmpNo X0.here hx rfl (hb hby d1_15) rfl (tlt ((by decide) : (2 : Int32) < (3 : Int32))).2.1 ?_
    show Steps p.tables e below (s₁.setTop (mkF m 18 #[.val (.ref va), .val (.double (FP.l2d (((0 : Int64) + x0) + x1))), .second, .val (.ref va), .val (.int (3 : Int32)), .val (.int (2 : Int32)), .val (.double (FP.l2d x1)), .second] [])) tt
    refine XS.aloadN X0.here hx rfl (hb hby d1_18) rfl rfl ?_
    show Steps p.tables e below (s₁.setTop (mkF m 19 #[.val (.ref va), .val (.double (FP.l2d (((0 : Int64) + x0) + x1))), .second, .val (.ref va), .val (.int (3 : Int32)), .val (.int (2 : Int32)), .val (.double (FP.l2d x1)), .second] [(.ref va)])) tt
    refine XS.iload X0.here hx rfl (hb hby d1_19) rfl ?_
    exact kk
  obtain ⟨cl6, Ar6, Sl6⟩ := id V_va
  have hin6 := inA (cl := cl6) Sl6 (j := (2 : Int32)) (by decide) (Nat.le_of_ble_eq_true rfl)
  have hat6 : cl6.slots[((2 : Int32)).toNatClampNeg]? = some (.double (FP.l2d x2)) := atA Sl6 rfl
  have q7 := dadd_w (own_s (own_add (own_add own_0 hb0 (by decide)) hb1 (by decide)) (by decide)) (own_s hb2 (by decide))
  refine Goal.to (B := s₁.setTop (mkF m 37 #[.val (.ref va), .val (.double (FP.l2d ((((0 : Int64) + x0) + x1) + x2))), .second, .val (.ref va), .val (.int (3 : Int32)), .val (.int (3 : Int32)), .val (.double (FP.l2d x2)), .second] [(.ref va), (.double (FP.l2d ((((0 : Int64) + x0) + x1) + x2)))])) (fun tt kk => ?_) ?_
  · show Steps p.tables e below (s₁.setTop (mkF m 21 #[.val (.ref va), .val (.double (FP.l2d (((0 : Int64) + x0) + x1))), .second, .val (.ref va), .val (.int (3 : Int32)), .val (.int (2 : Int32)), .val (.double (FP.l2d x1)), .second] [(.int (2 : Int32)), (.ref va)])) tt
    refine X0.daload hx (j := (2 : Int32)) (v := (.double (FP.l2d x2))) (by rw [e0]; exact Ar6.1) (State.isArrayOf_alike hZ.alike Ar6.2.1) Ar6.2.2 hin6 hat6 (g := (mkF m 21 #[.val (.ref va), .val (.double (FP.l2d (((0 : Int64) + x0) + x1))), .second, .val (.ref va), .val (.int (3 : Int32)), .val (.int (2 : Int32)), .val (.double (FP.l2d x1)), .second] [(.int (2 : Int32)), (.ref va)])) rfl rfl (hb hby d1_21) _ ?_
    show Steps p.tables e below (s₁.setTop (mkF m 22 #[.val (.ref va), .val (.double (FP.l2d (((0 : Int64) + x0) + x1))), .second, .val (.ref va), .val (.int (3 : Int32)), .val (.int (2 : Int32)), .val (.double (FP.l2d x1)), .second] [(.double (FP.l2d x2))])) tt
    refine XS.dstore X0.here hx rfl (hb hby d1_22) rfl (l' := #[.val (.ref va), .val (.double (FP.l2d (((0 : Int64) + x0) + x1))), .second, .val (.ref va), .val (.int (3 : Int32)), .val (.int (2 : Int32)), .val (.double (FP.l2d x2)), .second]) rfl ?_
    show Steps p.tables e below (s₁.setTop (mkF m 24 #[.val (.ref va), .val (.double (FP.l2d (((0 : Int64) + x0) + x1))), .second, .val (.ref va), .val (.int (3 : Int32)), .val (.int (2 : Int32)), .val (.double (FP.l2d x2)), .second] [])) tt
    refine XS.dloadN X0.here hx rfl (hb hby d1_24) rfl ?_
    show Steps p.tables e below (s₁.setTop (mkF m 25 #[.val (.ref va), .val (.double (FP.l2d (((0 : Int64) + x0) + x1))), .second, .val (.ref va), .val (.int (3 : Int32)), .val (.int (2 : Int32)), .val (.double (FP.l2d x2)), .second] [(.double (FP.l2d (((0 : Int64) + x0) + x1)))])) tt
    refine XS.dload X0.here hx rfl (hb hby d1_25) rfl ?_
    show Steps p.tables e below (s₁.setTop (mkF m 27 #[.val (.ref va), .val (.double (FP.l2d (((0 : Int64) + x0) + x1))), .second, .val (.ref va), .val (.int (3 : Int32)), .val (.int (2 : Int32)), .val (.double (FP.l2d x2)), .second] [(.double (FP.l2d x2)), (.double (FP.l2d (((0 : Int64) + x0) + x1)))])) tt
    refine XS.daddS X0.here hx rfl (hb hby d1_27) rfl (nn_w q7) q7 ?_
    show Steps p.tables e below (s₁.setTop (mkF m 28 #[.val (.ref va), .val (.double (FP.l2d (((0 : Int64) + x0) + x1))), .second, .val (.ref va), .val (.int (3 : Int32)), .val (.int (2 : Int32)), .val (.double (FP.l2d x2)), .second] [(.double (FP.l2d ((((0 : Int64) + x0) + x1) + x2)))])) tt
    refine XS.dstoreN X0.here hx rfl (hb hby d1_28) rfl (l' := #[.val (.ref va), .val (.double (FP.l2d ((((0 : Int64) + x0) + x1) + x2))), .second, .val (.ref va), .val (.int (3 : Int32)), .val (.int (2 : Int32)), .val (.double (FP.l2d x2)), .second]) rfl ?_
    show Steps p.tables e below (s₁.setTop (mkF m 29 #[.val (.ref va), .val (.double (FP.l2d ((((0 : Int64) + x0) + x1) + x2))), .second, .val (.ref va), .val (.int (3 : Int32)), .val (.int (2 : Int32)), .val (.double (FP.l2d x2)), .second] [])) tt
    refine XS.iinc X0.here hx rfl (hb hby d1_29) rfl (l' := #[.val (.ref va), .val (.double (FP.l2d ((((0 : Int64) + x0) + x1) + x2))), .second, .val (.ref va), .val (.int (3 : Int32)), .val (.int (3 : Int32)), .val (.double (FP.l2d x2)), .second]) rfl ?_
    show Steps p.tables e below (s₁.setTop (mkF m 32 #[.val (.ref va), .val (.double (FP.l2d ((((0 : Int64) + x0) + x1) + x2))), .second, .val (.ref va), .val (.int (3 : Int32)), .val (.int (3 : Int32)), .val (.double (FP.l2d x2)), .second] [])) tt
    refine XS.goto X0.here hx rfl (pc0 := 32) (pc' := 11) rfl (hb hby d1_32) (by decide) (by decide) ?_
    show Steps p.tables e below (s₁.setTop (mkF m 11 #[.val (.ref va), .val (.double (FP.l2d ((((0 : Int64) + x0) + x1) + x2))), .second, .val (.ref va), .val (.int (3 : Int32)), .val (.int (3 : Int32)), .val (.double (FP.l2d x2)), .second] [])) tt
    refine XS.iload X0.here hx rfl (hb hby d1_11) rfl ?_
    show Steps p.tables e below (s₁.setTop (mkF m 13 #[.val (.ref va), .val (.double (FP.l2d ((((0 : Int64) + x0) + x1) + x2))), .second, .val (.ref va), .val (.int (3 : Int32)), .val (.int (3 : Int32)), .val (.double (FP.l2d x2)), .second] [(.int (3 : Int32))])) tt
    refine XS.iload X0.here hx rfl (hb hby d1_13) rfl ?_
    show Steps p.tables e below (s₁.setTop (mkF m 15 #[.val (.ref va), .val (.double (FP.l2d ((((0 : Int64) + x0) + x1) + x2))), .second, .val (.ref va), .val (.int (3 : Int32)), .val (.int (3 : Int32)), .val (.double (FP.l2d x2)), .second] [(.int (3 : Int32)), (.int (3 : Int32))])) tt
    refine XS.icmpYes X0.here hx rfl (pc0 := 15) (pc' := 35) rfl (hb hby d1_15) rfl (flt (Int32.lt_irrefl : ¬ ((3 : Int32) < (3 : Int32)))).2.1 (by decide) (by decide) ?_
    show Steps p.tables e below (s₁.setTop (mkF m 35 #[.val (.ref va), .val (.double (FP.l2d ((((0 : Int64) + x0) + x1) + x2))), .second, .val (.ref va), .val (.int (3 : Int32)), .val (.int (3 : Int32)), .val (.double (FP.l2d x2)), .second] [])) tt
    refine XS.dloadN X0.here hx rfl (hb hby d1_35) rfl ?_
    show Steps p.tables e below (s₁.setTop (mkF m 36 #[.val (.ref va), .val (.double (FP.l2d ((((0 : Int64) + x0) + x1) + x2))), .second, .val (.ref va), .val (.int (3 : Int32)), .val (.int (3 : Int32)), .val (.double (FP.l2d x2)), .second] [(.double (FP.l2d ((((0 : Int64) + x0) + x1) + x2)))])) tt
    refine XS.aloadN X0.here hx rfl (hb hby d1_36) rfl rfl ?_
    exact kk
  obtain ⟨cl8, Ar8, Sl8⟩ := id V_va
  have ln8 : cl8.slots.size.toInt32 = (3 : Int32) := lenA Sl8 rfl
  refine Goal.to (B := s₁.setTop (mkF m 40 #[.val (.ref va), .val (.double (FP.l2d ((((0 : Int64) + x0) + x1) + x2))), .second, .val (.ref va), .val (.int (3 : Int32)), .val (.int (3 : Int32)), .val (.double (FP.l2d x2)), .second] [(.double (FP.ddiv (FP.l2d ((((0 : Int64) + x0) + x1) + x2)) (FP.l2d ((3 : Int32).toInt64))))])) (fun tt kk => ?_) ?_
  · show Steps p.tables e below (s₁.setTop (mkF m 37 #[.val (.ref va), .val (.double (FP.l2d ((((0 : Int64) + x0) + x1) + x2))), .second, .val (.ref va), .val (.int (3 : Int32)), .val (.int (3 : Int32)), .val (.double (FP.l2d x2)), .second] [(.ref va), (.double (FP.l2d ((((0 : Int64) + x0) + x1) + x2)))])) tt
    refine X0.arraylength hx (by rw [e0]; exact Ar8.1) (State.isArrayOf_alike hZ.alike Ar8.2.1) (g := (mkF m 37 #[.val (.ref va), .val (.double (FP.l2d ((((0 : Int64) + x0) + x1) + x2))), .second, .val (.ref va), .val (.int (3 : Int32)), .val (.int (3 : Int32)), .val (.double (FP.l2d x2)), .second] [(.ref va), (.double (FP.l2d ((((0 : Int64) + x0) + x1) + x2)))])) rfl rfl (hb hby d1_37) _ ?_
    rw [ln8]
    show Steps p.tables e below (s₁.setTop (mkF m 38 #[.val (.ref va), .val (.double (FP.l2d ((((0 : Int64) + x0) + x1) + x2))), .second, .val (.ref va), .val (.int (3 : Int32)), .val (.int (3 : Int32)), .val (.double (FP.l2d x2)), .second] [(.int (3 : Int32)), (.double (FP.l2d ((((0 : Int64) + x0) + x1) + x2)))])) tt
    refine XS.i2dS X0.here hx rfl (hb hby d1_38) rfl (i2d_w _) ?_
    show Steps p.tables e below (s₁.setTop (mkF m 39 #[.val (.ref va), .val (.double (FP.l2d ((((0 : Int64) + x0) + x1) + x2))), .second, .val (.ref va), .val (.int (3 : Int32)), .val (.int (3 : Int32)), .val (.double (FP.l2d x2)), .second] [(.double (FP.l2d ((3 : Int32).toInt64))), (.double (FP.l2d ((((0 : Int64) + x0) + x1) + x2)))])) tt
    refine XS.ddivS X0.here hx rfl (hb hby d1_39) rfl (own_nn _ (by decide)) rfl ?_
    exact kk
  exact Goal.retV X0 hx Bd.returns rfl (Or.inr (Or.inr (Or.inl ⟨rfl, rfl, _, rfl⟩))) (hb hby d1_40) hlk e0 ⟨(congrArg some (by rw [Int64.zero_add] : ((.double (FP.ddiv (FP.l2d ((((0 : Int64) + x0) + x1) + x2)) (FP.l2d ((3 : Int32).toInt64)))) : Value) = (.double (FP.ddiv (FP.l2d ((x0 + x1) + x2)) (FP.l2d ((3 : Int32).toInt64)))))), N0, rfl⟩ (by decide) (by decide)
def Qm4 (Z : State) (va : Addr) (x0 : Int64) (x1 : Int64) (x2 : Int64) (x3 : Int64) (h0 : Heap) (n0 : Nat) (v : Option Value) (h : Heap) (L : List Loc) : Prop := v = some (.double (FP.ddiv (FP.l2d (((x0 + x1) + x2) + x3)) (FP.l2d ((4 : Int32).toInt64)))) ∧ Fr n0 L ∧ h = h0
set_option maxRecDepth 65536 in
set_option maxHeartbeats 40000000 in
theorem rmm4 (l : Launch) (Z : State) (a0 : Array Value) (hw : ∀ d ∈ tables_1, d.before a0 Z = true) (ws : List Jvm.Cond) (va : Addr) (x0 : Int64) (x1 : Int64) (x2 : Int64) (x3 : Int64) (h0 : Heap) (n0 : Nat) (Z0 : n0 ≤ h0.size) (V_va : Ary Z h0 va .double [(.double (FP.l2d x0)), (.double (FP.l2d x1)), (.double (FP.l2d x2)), (.double (FP.l2d x3))]) (hb0 : own_B 1 x0) (hb1 : own_B 1 x1) (hb2 : own_B 1 x2) (hb3 : own_B 1 x3) :
    MetFree l (⟨"com/example/enodia/enodia/compare/MeanInterval", "mean", "([D)D"⟩ : MethodName) (head1 (Jvm.Cond.code (⟨"com/example/enodia/enodia/compare/MeanInterval", "mean", "([D)D"⟩ : MethodName) prog_9_method_3_code 8 (some .double) :: ws) ({ frames := 0, cells := 0, slots := 0, locals := 0 } : Room)) (fun a U => a = #[(.ref va)] ∧ Z.Warmed39 U.vm ∧ U.heap = h0) (fun _ _ _ _ _ => True) (fun _ U o U' => ∃ v L, o = .returned v ∧ Qm4 Z va x0 x1 x2 x3 h0 n0 v U'.heap L ∧ FrameEnd U o U' L 0 0) := by
  refine MetFree.of_bodySF (plainFor_of_name pn_1) hisR ?_
  intro p e s m args below meth c s₁ Bd hml0 hP hK
  obtain ⟨rfl, hZ, hh⟩ := hP
  have hx := Bd.exec
  have hby := Bd.bytes
  have hml : c.maxLocals = 8 := hml0
  have hown : s.vm.findClass "com/example/enodia/enodia/compare/MeanInterval" = some m.cls := findClass_of_methodNamed Bd.named
  have hnm := (name_of_methodNamed Bd.named Bd.method).1
  have X0 : Stand p l e ({ frames := 0, cells := 0, slots := 0, locals := 0 } : Room) s m #[(.ref va)] below meth c s₁ [] 0 0 := Stand.of_body Bd
  have e0 : s₁.heap = h0 := by rw [← hh, Bd.state]; rfl
  have N0 := Fr.nil n0
  have hlk : meth.locks = false := BodyLoose.notSynchronized Bd
  show Goal p e below s (Qm4 Z va x0 x1 x2 x3 h0 n0) 0 0 (s₁.setTop (entryFrame m #[(.ref va)] 8))
  refine Goal.to (B := s₁.setTop (mkF m 0 #[.val (.ref va), .unset, .unset, .unset, .unset, .unset, .unset, .unset] [])) (fun tt kk => castTop (ef_1 m va ) kk) ?_
  refine Goal.to (B := s₁.setTop (mkF m 5 #[.val (.ref va), .val (.double (FP.l2d (0 : Int64))), .second, .val (.ref va), .unset, .unset, .unset, .unset] [(.ref va)])) (fun tt kk => ?_) ?_
  · show Steps p.tables e below (s₁.setTop (mkF m 0 #[.val (.ref va), .unset, .unset, .unset, .unset, .unset, .unset, .unset] [])) tt
    refine XS.dconst0 X0.here hx rfl (hb hby d1_0) (v := FP.l2d (0 : Int64)) (by rw [l2d_zero]; rfl) ?_
    show Steps p.tables e below (s₁.setTop (mkF m 1 #[.val (.ref va), .unset, .unset, .unset, .unset, .unset, .unset, .unset] [(.double (FP.l2d (0 : Int64)))])) tt
    refine XS.dstoreN X0.here hx rfl (hb hby d1_1) rfl (l' := #[.val (.ref va), .val (.double (FP.l2d (0 : Int64))), .second, .unset, .unset, .unset, .unset, .unset]) rfl ?_
    show Steps p.tables e below (s₁.setTop (mkF m 2 #[.val (.ref va), .val (.double (FP.l2d (0 : Int64))), .second, .unset, .unset, .unset, .unset, .unset] [])) tt
    refine XS.aloadN X0.here hx rfl (hb hby d1_2) rfl rfl ?_
    show Steps p.tables e below (s₁.setTop (mkF m 3 #[.val (.ref va), .val (.double (FP.l2d (0 : Int64))), .second, .unset, .unset, .unset, .unset, .unset] [(.ref va)])) tt
    refine XS.astoreN X0.here hx rfl (hb hby d1_3) rfl rfl (l' := #[.val (.ref va), .val (.double (FP.l2d (0 : Int64))), .second, .val (.ref va), .unset, .unset, .unset, .unset]) rfl ?_
    show Steps p.tables e below (s₁.setTop (mkF m 4 #[.val (.ref va), .val (.double (FP.l2d (0 : Int64))), .second, .val (.ref va), .unset, .unset, .unset, .unset] [])) tt
    refine XS.aloadN X0.here hx rfl (hb hby d1_4) rfl rfl ?_
    exact kk
  obtain ⟨cl1, Ar1, Sl1⟩ := id V_va
  have ln1 : cl1.slots.size.toInt32 = (4 : Int32) := lenA Sl1 rfl
  refine Goal.to (B := s₁.setTop (mkF m 21 #[.val (.ref va), .val (.double (FP.l2d (0 : Int64))), .second, .val (.ref va), .val (.int (4 : Int32)), .val (.int (0 : Int32)), .unset, .unset] [(.int (0 : Int32)), (.ref va)])) (fun tt kk => ?_) ?_
  · show Steps p.tables e below (s₁.setTop (mkF m 5 #[.val (.ref va), .val (.double (FP.l2d (0 : Int64))), .second, .val (.ref va), .unset, .unset, .unset, .unset] [(.ref va)])) tt
    refine X0.arraylength hx (by rw [e0]; exact Ar1.1) (State.isArrayOf_alike hZ.alike Ar1.2.1) (g := (mkF m 5 #[.val (.ref va), .val (.double (FP.l2d (0 : Int64))), .second, .val (.ref va), .unset, .unset, .unset, .unset] [(.ref va)])) rfl rfl (hb hby d1_5) _ ?_
    rw [ln1]
    show Steps p.tables e below (s₁.setTop (mkF m 6 #[.val (.ref va), .val (.double (FP.l2d (0 : Int64))), .second, .val (.ref va), .unset, .unset, .unset, .unset] [(.int (4 : Int32))])) tt
    refine XS.istore X0.here hx rfl (hb hby d1_6) rfl (l' := #[.val (.ref va), .val (.double (FP.l2d (0 : Int64))), .second, .val (.ref va), .val (.int (4 : Int32)), .unset, .unset, .unset]) rfl ?_
    show Steps p.tables e below (s₁.setTop (mkF m 8 #[.val (.ref va), .val (.double (FP.l2d (0 : Int64))), .second, .val (.ref va), .val (.int (4 : Int32)), .unset, .unset, .unset] [])) tt
    refine XS.iconst X0.here hx rfl (hb hby d1_8) ?_
    show Steps p.tables e below (s₁.setTop (mkF m 9 #[.val (.ref va), .val (.double (FP.l2d (0 : Int64))), .second, .val (.ref va), .val (.int (4 : Int32)), .unset, .unset, .unset] [(.int (0 : Int32))])) tt
    refine XS.istore X0.here hx rfl (hb hby d1_9) rfl (l' := #[.val (.ref va), .val (.double (FP.l2d (0 : Int64))), .second, .val (.ref va), .val (.int (4 : Int32)), .val (.int (0 : Int32)), .unset, .unset]) rfl ?_
    show Steps p.tables e below (s₁.setTop (mkF m 11 #[.val (.ref va), .val (.double (FP.l2d (0 : Int64))), .second, .val (.ref va), .val (.int (4 : Int32)), .val (.int (0 : Int32)), .unset, .unset] [])) tt
    refine XS.iload X0.here hx rfl (hb hby d1_11) rfl ?_
    show Steps p.tables e below (s₁.setTop (mkF m 13 #[.val (.ref va), .val (.double (FP.l2d (0 : Int64))), .second, .val (.ref va), .val (.int (4 : Int32)), .val (.int (0 : Int32)), .unset, .unset] [(.int (0 : Int32))])) tt
    refine XS.iload X0.here hx rfl (hb hby d1_13) rfl ?_
    show Steps p.tables e below (s₁.setTop (mkF m 15 #[.val (.ref va), .val (.double (FP.l2d (0 : Int64))), .second, .val (.ref va), .val (.int (4 : Int32)), .val (.int (0 : Int32)), .unset, .unset] [(.int (4 : Int32)), (.int (0 : Int32))])) tt
    refine XS.icmpNo X0.here hx rfl (hb hby d1_15) rfl (tlt ((by decide) : (0 : Int32) < (4 : Int32))).2.1 ?_
    show Steps p.tables e below (s₁.setTop (mkF m 18 #[.val (.ref va), .val (.double (FP.l2d (0 : Int64))), .second, .val (.ref va), .val (.int (4 : Int32)), .val (.int (0 : Int32)), .unset, .unset] [])) tt
    refine XS.aloadN X0.here hx rfl (hb hby d1_18) rfl rfl ?_
    show Steps p.tables e below (s₁.setTop (mkF m 19 #[.val (.ref va), .val (.double (FP.l2d (0 : Int64))), .second, .val (.ref va), .val (.int (4 : Int32)), .val (.int (0 : Int32)), .unset, .unset] [(.ref va)])) tt
    refine XS.iload X0.here hx rfl (hb hby d1_19) rfl ?_
    exact kk
  obtain ⟨cl2, Ar2, Sl2⟩ := id V_va
  have hin2 := inA (cl := cl2) Sl2 (j := (0 : Int32)) (by decide) (Nat.le_of_ble_eq_true rfl)
  have hat2 : cl2.slots[((0 : Int32)).toNatClampNeg]? = some (.double (FP.l2d x0)) := atA Sl2 rfl
  have q3 := dadd_w (own_s own_0 (by decide)) (own_s hb0 (by decide))
  refine Goal.to (B := s₁.setTop (mkF m 21 #[.val (.ref va), .val (.double (FP.l2d ((0 : Int64) + x0))), .second, .val (.ref va), .val (.int (4 : Int32)), .val (.int (1 : Int32)), .val (.double (FP.l2d x0)), .second] [(.int (1 : Int32)), (.ref va)])) (fun tt kk => ?_) ?_
  · show Steps p.tables e below (s₁.setTop (mkF m 21 #[.val (.ref va), .val (.double (FP.l2d (0 : Int64))), .second, .val (.ref va), .val (.int (4 : Int32)), .val (.int (0 : Int32)), .unset, .unset] [(.int (0 : Int32)), (.ref va)])) tt
    refine X0.daload hx (j := (0 : Int32)) (v := (.double (FP.l2d x0))) (by rw [e0]; exact Ar2.1) (State.isArrayOf_alike hZ.alike Ar2.2.1) Ar2.2.2 hin2 hat2 (g := (mkF m 21 #[.val (.ref va), .val (.double (FP.l2d (0 : Int64))), .second, .val (.ref va), .val (.int (4 : Int32)), .val (.int (0 : Int32)), .unset, .unset] [(.int (0 : Int32)), (.ref va)])) rfl rfl (hb hby d1_21) _ ?_
    show Steps p.tables e below (s₁.setTop (mkF m 22 #[.val (.ref va), .val (.double (FP.l2d (0 : Int64))), .second, .val (.ref va), .val (.int (4 : Int32)), .val (.int (0 : Int32)), .unset, .unset] [(.double (FP.l2d x0))])) tt
    refine XS.dstore X0.here hx rfl (hb hby d1_22) rfl (l' := #[.val (.ref va), .val (.double (FP.l2d (0 : Int64))), .second, .val (.ref va), .val (.int (4 : Int32)), .val (.int (0 : Int32)), .val (.double (FP.l2d x0)), .second]) rfl ?_
    show Steps p.tables e below (s₁.setTop (mkF m 24 #[.val (.ref va), .val (.double (FP.l2d (0 : Int64))), .second, .val (.ref va), .val (.int (4 : Int32)), .val (.int (0 : Int32)), .val (.double (FP.l2d x0)), .second] [])) tt
    refine XS.dloadN X0.here hx rfl (hb hby d1_24) rfl ?_
    show Steps p.tables e below (s₁.setTop (mkF m 25 #[.val (.ref va), .val (.double (FP.l2d (0 : Int64))), .second, .val (.ref va), .val (.int (4 : Int32)), .val (.int (0 : Int32)), .val (.double (FP.l2d x0)), .second] [(.double (FP.l2d (0 : Int64)))])) tt
    refine XS.dload X0.here hx rfl (hb hby d1_25) rfl ?_
    show Steps p.tables e below (s₁.setTop (mkF m 27 #[.val (.ref va), .val (.double (FP.l2d (0 : Int64))), .second, .val (.ref va), .val (.int (4 : Int32)), .val (.int (0 : Int32)), .val (.double (FP.l2d x0)), .second] [(.double (FP.l2d x0)), (.double (FP.l2d (0 : Int64)))])) tt
    refine XS.daddS X0.here hx rfl (hb hby d1_27) rfl (nn_w q3) q3 ?_
    show Steps p.tables e below (s₁.setTop (mkF m 28 #[.val (.ref va), .val (.double (FP.l2d (0 : Int64))), .second, .val (.ref va), .val (.int (4 : Int32)), .val (.int (0 : Int32)), .val (.double (FP.l2d x0)), .second] [(.double (FP.l2d ((0 : Int64) + x0)))])) tt
    refine XS.dstoreN X0.here hx rfl (hb hby d1_28) rfl (l' := #[.val (.ref va), .val (.double (FP.l2d ((0 : Int64) + x0))), .second, .val (.ref va), .val (.int (4 : Int32)), .val (.int (0 : Int32)), .val (.double (FP.l2d x0)), .second]) rfl ?_
    show Steps p.tables e below (s₁.setTop (mkF m 29 #[.val (.ref va), .val (.double (FP.l2d ((0 : Int64) + x0))), .second, .val (.ref va), .val (.int (4 : Int32)), .val (.int (0 : Int32)), .val (.double (FP.l2d x0)), .second] [])) tt
    refine XS.iinc X0.here hx rfl (hb hby d1_29) rfl (l' := #[.val (.ref va), .val (.double (FP.l2d ((0 : Int64) + x0))), .second, .val (.ref va), .val (.int (4 : Int32)), .val (.int (1 : Int32)), .val (.double (FP.l2d x0)), .second]) rfl ?_
    show Steps p.tables e below (s₁.setTop (mkF m 32 #[.val (.ref va), .val (.double (FP.l2d ((0 : Int64) + x0))), .second, .val (.ref va), .val (.int (4 : Int32)), .val (.int (1 : Int32)), .val (.double (FP.l2d x0)), .second] [])) tt
    refine XS.goto X0.here hx rfl (pc0 := 32) (pc' := 11) rfl (hb hby d1_32) (by decide) (by decide) ?_
    show Steps p.tables e below (s₁.setTop (mkF m 11 #[.val (.ref va), .val (.double (FP.l2d ((0 : Int64) + x0))), .second, .val (.ref va), .val (.int (4 : Int32)), .val (.int (1 : Int32)), .val (.double (FP.l2d x0)), .second] [])) tt
    refine XS.iload X0.here hx rfl (hb hby d1_11) rfl ?_
    show Steps p.tables e below (s₁.setTop (mkF m 13 #[.val (.ref va), .val (.double (FP.l2d ((0 : Int64) + x0))), .second, .val (.ref va), .val (.int (4 : Int32)), .val (.int (1 : Int32)), .val (.double (FP.l2d x0)), .second] [(.int (1 : Int32))])) tt
    refine XS.iload X0.here hx rfl (hb hby d1_13) rfl ?_
    show Steps p.tables e below (s₁.setTop (mkF m 15 #[.val (.ref va), .val (.double (FP.l2d ((0 : Int64) + x0))), .second, .val (.ref va), .val (.int (4 : Int32)), .val (.int (1 : Int32)), .val (.double (FP.l2d x0)), .second] [(.int (4 : Int32)), (.int (1 : Int32))])) tt
    refine XS.icmpNo X0.here hx rfl (hb hby d1_15) rfl (tlt ((by decide) : (1 : Int32) < (4 : Int32))).2.1 ?_
    show Steps p.tables e below (s₁.setTop (mkF m 18 #[.val (.ref va), .val (.double (FP.l2d ((0 : Int64) + x0))), .second, .val (.ref va), .val (.int (4 : Int32)), .val (.int (1 : Int32)), .val (.double (FP.l2d x0)), .second] [])) tt
    refine XS.aloadN X0.here hx rfl (hb hby d1_18) rfl rfl ?_
    show Steps p.tables e below (s₁.setTop (mkF m 19 #[.val (.ref va), .val (.double (FP.l2d ((0 : Int64) + x0))), .second, .val (.ref va), .val (.int (4 : Int32)), .val (.int (1 : Int32)), .val (.double (FP.l2d x0)), .second] [(.ref va)])) tt
    refine XS.iload X0.here hx rfl (hb hby d1_19) rfl ?_
    exact kk
  obtain ⟨cl4, Ar4, Sl4⟩ := id V_va
  have hin4 := inA (cl := cl4) Sl4 (j := (1 : Int32)) (by decide) (Nat.le_of_ble_eq_true rfl)
  have hat4 : cl4.slots[((1 : Int32)).toNatClampNeg]? = some (.double (FP.l2d x1)) := atA Sl4 rfl
  have q5 := dadd_w (own_s (own_add own_0 hb0 (by decide)) (by decide)) (own_s hb1 (by decide))
  refine Goal.to (B := s₁.setTop (mkF m 21 #[.val (.ref va), .val (.double (FP.l2d (((0 : Int64) + x0) + x1))), .second, .val (.ref va), .val (.int (4 : Int32)), .val (.int (2 : Int32)), .val (.double (FP.l2d x1)), .second] [(.int (2 : Int32)), (.ref va)])) (fun tt kk => ?_) ?_
  · show Steps p.tables e below (s₁.setTop (mkF m 21 #[.val (.ref va), .val (.double (FP.l2d ((0 : Int64) + x0))), .second, .val (.ref va), .val (.int (4 : Int32)), .val (.int (1 : Int32)), .val (.double (FP.l2d x0)), .second] [(.int (1 : Int32)), (.ref va)])) tt
    refine X0.daload hx (j := (1 : Int32)) (v := (.double (FP.l2d x1))) (by rw [e0]; exact Ar4.1) (State.isArrayOf_alike hZ.alike Ar4.2.1) Ar4.2.2 hin4 hat4 (g := (mkF m 21 #[.val (.ref va), .val (.double (FP.l2d ((0 : Int64) + x0))), .second, .val (.ref va), .val (.int (4 : Int32)), .val (.int (1 : Int32)), .val (.double (FP.l2d x0)), .second] [(.int (1 : Int32)), (.ref va)])) rfl rfl (hb hby d1_21) _ ?_
    show Steps p.tables e below (s₁.setTop (mkF m 22 #[.val (.ref va), .val (.double (FP.l2d ((0 : Int64) + x0))), .second, .val (.ref va), .val (.int (4 : Int32)), .val (.int (1 : Int32)), .val (.double (FP.l2d x0)), .second] [(.double (FP.l2d x1))])) tt
    refine XS.dstore X0.here hx rfl (hb hby d1_22) rfl (l' := #[.val (.ref va), .val (.double (FP.l2d ((0 : Int64) + x0))), .second, .val (.ref va), .val (.int (4 : Int32)), .val (.int (1 : Int32)), .val (.double (FP.l2d x1)), .second]) rfl ?_
    show Steps p.tables e below (s₁.setTop (mkF m 24 #[.val (.ref va), .val (.double (FP.l2d ((0 : Int64) + x0))), .second, .val (.ref va), .val (.int (4 : Int32)), .val (.int (1 : Int32)), .val (.double (FP.l2d x1)), .second] [])) tt
    refine XS.dloadN X0.here hx rfl (hb hby d1_24) rfl ?_
    show Steps p.tables e below (s₁.setTop (mkF m 25 #[.val (.ref va), .val (.double (FP.l2d ((0 : Int64) + x0))), .second, .val (.ref va), .val (.int (4 : Int32)), .val (.int (1 : Int32)), .val (.double (FP.l2d x1)), .second] [(.double (FP.l2d ((0 : Int64) + x0)))])) tt
    refine XS.dload X0.here hx rfl (hb hby d1_25) rfl ?_
    show Steps p.tables e below (s₁.setTop (mkF m 27 #[.val (.ref va), .val (.double (FP.l2d ((0 : Int64) + x0))), .second, .val (.ref va), .val (.int (4 : Int32)), .val (.int (1 : Int32)), .val (.double (FP.l2d x1)), .second] [(.double (FP.l2d x1)), (.double (FP.l2d ((0 : Int64) + x0)))])) tt
    refine XS.daddS X0.here hx rfl (hb hby d1_27) rfl (nn_w q5) q5 ?_
    show Steps p.tables e below (s₁.setTop (mkF m 28 #[.val (.ref va), .val (.double (FP.l2d ((0 : Int64) + x0))), .second, .val (.ref va), .val (.int (4 : Int32)), .val (.int (1 : Int32)), .val (.double (FP.l2d x1)), .second] [(.double (FP.l2d (((0 : Int64) + x0) + x1)))])) tt
    refine XS.dstoreN X0.here hx rfl (hb hby d1_28) rfl (l' := #[.val (.ref va), .val (.double (FP.l2d (((0 : Int64) + x0) + x1))), .second, .val (.ref va), .val (.int (4 : Int32)), .val (.int (1 : Int32)), .val (.double (FP.l2d x1)), .second]) rfl ?_
    show Steps p.tables e below (s₁.setTop (mkF m 29 #[.val (.ref va), .val (.double (FP.l2d (((0 : Int64) + x0) + x1))), .second, .val (.ref va), .val (.int (4 : Int32)), .val (.int (1 : Int32)), .val (.double (FP.l2d x1)), .second] [])) tt
    refine XS.iinc X0.here hx rfl (hb hby d1_29) rfl (l' := #[.val (.ref va), .val (.double (FP.l2d (((0 : Int64) + x0) + x1))), .second, .val (.ref va), .val (.int (4 : Int32)), .val (.int (2 : Int32)), .val (.double (FP.l2d x1)), .second]) rfl ?_
    show Steps p.tables e below (s₁.setTop (mkF m 32 #[.val (.ref va), .val (.double (FP.l2d (((0 : Int64) + x0) + x1))), .second, .val (.ref va), .val (.int (4 : Int32)), .val (.int (2 : Int32)), .val (.double (FP.l2d x1)), .second] [])) tt
    refine XS.goto X0.here hx rfl (pc0 := 32) (pc' := 11) rfl (hb hby d1_32) (by decide) (by decide) ?_
    show Steps p.tables e below (s₁.setTop (mkF m 11 #[.val (.ref va), .val (.double (FP.l2d (((0 : Int64) + x0) + x1))), .second, .val (.ref va), .val (.int (4 : Int32)), .val (.int (2 : Int32)), .val (.double (FP.l2d x1)), .second] [])) tt
    refine XS.iload X0.here hx rfl (hb hby d1_11) rfl ?_
    show Steps p.tables e below (s₁.setTop (mkF m 13 #[.val (.ref va), .val (.double (FP.l2d (((0 : Int64) + x0) + x1))), .second, .val (.ref va), .val (.int (4 : Int32)), .val (.int (2 : Int32)), .val (.double (FP.l2d x1)), .second] [(.int (2 : Int32))])) tt
    refine XS.iload X0.here hx rfl (hb hby d1_13) rfl ?_
    show Steps p.tables e below (s₁.setTop (mkF m 15 #[.val (.ref va), .val (.double (FP.l2d (((0 : Int64) + x0) + x1))), .second, .val (.ref va), .val (.int (4 : Int32)), .val (.int (2 : Int32)), .val (.double (FP.l2d x1)), .second] [(.int (4 : Int32)), (.int (2 : Int32))])) tt
    refine XS.icmpNo X0.here hx rfl (hb hby d1_15) rfl (tlt ((by decide) : (2 : Int32) < (4 : Int32))).2.1 ?_
    show Steps p.tables e below (s₁.setTop (mkF m 18 #[.val (.ref va), .val (.double (FP.l2d (((0 : Int64) + x0) + x1))), .second, .val (.ref va), .val (.int (4 : Int32)), .val (.int (2 : Int32)), .val (.double (FP.l2d x1)), .second] [])) tt
    refine XS.aloadN X0.here hx rfl (hb hby d1_18) rfl rfl ?_
    show Steps p.tables e below (s₁.setTop (mkF m 19 #[.val (.ref va), .val (.double (FP.l2d (((0 : Int64) + x0) + x1))), .second, .val (.ref va), .val (.int (4 : Int32)), .val (.int (2 : Int32)), .val (.double (FP.l2d x1)), .second] [(.ref va)])) tt
    refine XS.iload X0.here hx rfl (hb hby d1_19) rfl ?_
    exact kk
  obtain ⟨cl6, Ar6, Sl6⟩ := id V_va
  have hin6 := inA (cl := cl6) Sl6 (j := (2 : Int32)) (by decide) (Nat.le_of_ble_eq_true rfl)
  have hat6 : cl6.slots[((2 : Int32)).toNatClampNeg]? = some (.double (FP.l2d x2)) := atA Sl6 rfl
  have q7 := dadd_w (own_s (own_add (own_add own_0 hb0 (by decide)) hb1 (by decide)) (by decide)) (own_s hb2 (by decide))
  refine Goal.to (B := s₁.setTop (mkF m 21 #[.val (.ref va), .val (.double (FP.l2d ((((0 : Int64) + x0) + x1) + x2))), .second, .val (.ref va), .val (.int (4 : Int32)), .val (.int (3 : Int32)), .val (.double (FP.l2d x2)), .second] [(.int (3 : Int32)), (.ref va)])) (fun tt kk => ?_) ?_
  · show Steps p.tables e below (s₁.setTop (mkF m 21 #[.val (.ref va), .val (.double (FP.l2d (((0 : Int64) + x0) + x1))), .second, .val (.ref va), .val (.int (4 : Int32)), .val (.int (2 : Int32)), .val (.double (FP.l2d x1)), .second] [(.int (2 : Int32)), (.ref va)])) tt
    refine X0.daload hx (j := (2 : Int32)) (v := (.double (FP.l2d x2))) (by rw [e0]; exact Ar6.1) (State.isArrayOf_alike hZ.alike Ar6.2.1) Ar6.2.2 hin6 hat6 (g := (mkF m 21 #[.val (.ref va), .val (.double (FP.l2d (((0 : Int64) + x0) + x1))), .second, .val (.ref va), .val (.int (4 : Int32)), .val (.int (2 : Int32)), .val (.double (FP.l2d x1)), .second] [(.int (2 : Int32)), (.ref va)])) rfl rfl (hb hby d1_21) _ ?_
    show Steps p.tables e below (s₁.setTop (mkF m 22 #[.val (.ref va), .val (.double (FP.l2d (((0 : Int64) + x0) + x1))), .second, .val (.ref va), .val (.int (4 : Int32)), .val (.int (2 : Int32)), .val (.double (FP.l2d x1)), .second] [(.double (FP.l2d x2))])) tt
    refine XS.dstore X0.here hx rfl (hb hby d1_22) rfl (l' := #[.val (.ref va), .val (.double (FP.l2d (((0 : Int64) + x0) + x1))), .second, .val (.ref va), .val (.int (4 : Int32)), .val (.int (2 : Int32)), .val (.double (FP.l2d x2)), .second]) rfl ?_
    show Steps p.tables e below (s₁.setTop (mkF m 24 #[.val (.ref va), .val (.double (FP.l2d (((0 : Int64) + x0) + x1))), .second, .val (.ref va), .val (.int (4 : Int32)), .val (.int (2 : Int32)), .val (.double (FP.l2d x2)), .second] [])) tt
    refine XS.dloadN X0.here hx rfl (hb hby d1_24) rfl ?_
    show Steps p.tables e below (s₁.setTop (mkF m 25 #[.val (.ref va), .val (.double (FP.l2d (((0 : Int64) + x0) + x1))), .second, .val (.ref va), .val (.int (4 : Int32)), .val (.int (2 : Int32)), .val (.double (FP.l2d x2)), .second] [(.double (FP.l2d (((0 : Int64) + x0) + x1)))])) tt
    refine XS.dload X0.here hx rfl (hb hby d1_25) rfl ?_
    show Steps p.tables e below (s₁.setTop (mkF m 27 #[.val (.ref va), .val (.double (FP.l2d (((0 : Int64) + x0) + x1))), .second, .val (.ref va), .val (.int (4 : Int32)), .val (.int (2 : Int32)), .val (.double (FP.l2d x2)), .second] [(.double (FP.l2d x2)), (.double (FP.l2d (((0 : Int64) + x0) + x1)))])) tt
    refine XS.daddS X0.here hx rfl (hb hby d1_27) rfl (nn_w q7) q7 ?_
    show Steps p.tables e below (s₁.setTop (mkF m 28 #[.val (.ref va), .val (.double (FP.l2d (((0 : Int64) + x0) + x1))), .second, .val (.ref va), .val (.int (4 : Int32)), .val (.int (2 : Int32)), .val (.double (FP.l2d x2)), .second] [(.double (FP.l2d ((((0 : Int64) + x0) + x1) + x2)))])) tt
    refine XS.dstoreN X0.here hx rfl (hb hby d1_28) rfl (l' := #[.val (.ref va), .val (.double (FP.l2d ((((0 : Int64) + x0) + x1) + x2))), .second, .val (.ref va), .val (.int (4 : Int32)), .val (.int (2 : Int32)), .val (.double (FP.l2d x2)), .second]) rfl ?_
    show Steps p.tables e below (s₁.setTop (mkF m 29 #[.val (.ref va), .val (.double (FP.l2d ((((0 : Int64) + x0) + x1) + x2))), .second, .val (.ref va), .val (.int (4 : Int32)), .val (.int (2 : Int32)), .val (.double (FP.l2d x2)), .second] [])) tt
    refine XS.iinc X0.here hx rfl (hb hby d1_29) rfl (l' := #[.val (.ref va), .val (.double (FP.l2d ((((0 : Int64) + x0) + x1) + x2))), .second, .val (.ref va), .val (.int (4 : Int32)), .val (.int (3 : Int32)), .val (.double (FP.l2d x2)), .second]) rfl ?_
    show Steps p.tables e below (s₁.setTop (mkF m 32 #[.val (.ref va), .val (.double (FP.l2d ((((0 : Int64) + x0) + x1) + x2))), .second, .val (.ref va), .val (.int (4 : Int32)), .val (.int (3 : Int32)), .val (.double (FP.l2d x2)), .second] [])) tt
    refine XS.goto X0.here hx rfl (pc0 := 32) (pc' := 11) rfl (hb hby d1_32) (by decide) (by decide) ?_
    show Steps p.tables e below (s₁.setTop (mkF m 11 #[.val (.ref va), .val (.double (FP.l2d ((((0 : Int64) + x0) + x1) + x2))), .second, .val (.ref va), .val (.int (4 : Int32)), .val (.int (3 : Int32)), .val (.double (FP.l2d x2)), .second] [])) tt
    refine XS.iload X0.here hx rfl (hb hby d1_11) rfl ?_
    show Steps p.tables e below (s₁.setTop (mkF m 13 #[.val (.ref va), .val (.double (FP.l2d ((((0 : Int64) + x0) + x1) + x2))), .second, .val (.ref va), .val (.int (4 : Int32)), .val (.int (3 : Int32)), .val (.double (FP.l2d x2)), .second] [(.int (3 : Int32))])) tt
    refine XS.iload X0.here hx rfl (hb hby d1_13) rfl ?_
    show Steps p.tables e below (s₁.setTop (mkF m 15 #[.val (.ref va), .val (.double (FP.l2d ((((0 : Int64) + x0) + x1) + x2))), .second, .val (.ref va), .val (.int (4 : Int32)), .val (.int (3 : Int32)), .val (.double (FP.l2d x2)), .second] [(.int (4 : Int32)), (.int (3 : Int32))])) tt
    refine XS.icmpNo X0.here hx rfl (hb hby d1_15) rfl (tlt ((by decide) : (3 : Int32) < (4 : Int32))).2.1 ?_
    show Steps p.tables e below (s₁.setTop (mkF m 18 #[.val (.ref va), .val (.double (FP.l2d ((((0 : Int64) + x0) + x1) + x2))), .second, .val (.ref va), .val (.int (4 : Int32)), .val (.int (3 : Int32)), .val (.double (FP.l2d x2)), .second] [])) tt
    refine XS.aloadN X0.here hx rfl (hb hby d1_18) rfl rfl ?_
    show Steps p.tables e below (s₁.setTop (mkF m 19 #[.val (.ref va), .val (.double (FP.l2d ((((0 : Int64) + x0) + x1) + x2))), .second, .val (.ref va), .val (.int (4 : Int32)), .val (.int (3 : Int32)), .val (.double (FP.l2d x2)), .second] [(.ref va)])) tt
    refine XS.iload X0.here hx rfl (hb hby d1_19) rfl ?_
    exact kk
  obtain ⟨cl8, Ar8, Sl8⟩ := id V_va
  have hin8 := inA (cl := cl8) Sl8 (j := (3 : Int32)) (by decide) (Nat.le_of_ble_eq_true rfl)
  have hat8 : cl8.slots[((3 : Int32)).toNatClampNeg]? = some (.double (FP.l2d x3)) := atA Sl8 rfl
  have q9 := dadd_w (own_s (own_add (own_add (own_add own_0 hb0 (by decide)) hb1 (by decide)) hb2 (by decide)) (by decide)) (own_s hb3 (by decide))
  refine Goal.to (B := s₁.setTop (mkF m 37 #[.val (.ref va), .val (.double (FP.l2d (((((0 : Int64) + x0) + x1) + x2) + x3))), .second, .val (.ref va), .val (.int (4 : Int32)), .val (.int (4 : Int32)), .val (.double (FP.l2d x3)), .second] [(.ref va), (.double (FP.l2d (((((0 : Int64) + x0) + x1) + x2) + x3)))])) (fun tt kk => ?_) ?_
  · show Steps p.tables e below (s₁.setTop (mkF m 21 #[.val (.ref va), .val (.double (FP.l2d ((((0 : Int64) + x0) + x1) + x2))), .second, .val (.ref va), .val (.int (4 : Int32)), .val (.int (3 : Int32)), .val (.double (FP.l2d x2)), .second] [(.int (3 : Int32)), (.ref va)])) tt
    refine X0.daload hx (j := (3 : Int32)) (v := (.double (FP.l2d x3))) (by rw [e0]; exact Ar8.1) (State.isArrayOf_alike hZ.alike Ar8.2.1) Ar8.2.2 hin8 hat8 (g := (mkF m 21 #[.val (.ref va), .val (.double (FP.l2d ((((0 : Int64) + x0) + x1) + x2))), .second, .val (.ref va), .val (.int (4 : Int32)), .val (.int (3 : Int32)), .val (.double (FP.l2d x2)), .second] [(.int (3 : Int32)), (.ref va)])) rfl rfl (hb hby d1_21) _ ?_
    show Steps p.tables e below (s₁.setTop (mkF m 22 #[.val (.ref va), .val (.double (FP.l2d ((((0 : Int64) + x0) + x1) + x2))), .second, .val (.ref va), .val (.int (4 : Int32)), .val (.int (3 : Int32)), .val (.double (FP.l2d x2)), .second] [(.double (FP.l2d x3))])) tt
    refine XS.dstore X0.here hx rfl (hb hby d1_22) rfl (l' := #[.val (.ref va), .val (.double (FP.l2d ((((0 : Int64) + x0) + x1) + x2))), .second, .val (.ref va), .val (.int (4 : Int32)), .val (.int (3 : Int32)), .val (.double (FP.l2d x3)), .second]) rfl ?_
    show Steps p.tables e below (s₁.setTop (mkF m 24 #[.val (.ref va), .val (.double (FP.l2d ((((0 : Int64) + x0) + x1) + x2))), .second, .val (.ref va), .val (.int (4 : Int32)), .val (.int (3 : Int32)), .val (.double (FP.l2d x3)), .second] [])) tt
    refine XS.dloadN X0.here hx rfl (hb hby d1_24) rfl ?_
    show Steps p.tables e below (s₁.setTop (mkF m 25 #[.val (.ref va), .val (.double (FP.l2d ((((0 : Int64) + x0) + x1) + x2))), .second, .val (.ref va), .val (.int (4 : Int32)), .val (.int (3 : Int32)), .val (.double (FP.l2d x3)), .second] [(.double (FP.l2d ((((0 : Int64) + x0) + x1) + x2)))])) tt
    refine XS.dload X0.here hx rfl (hb hby d1_25) rfl ?_
    show Steps p.tables e below (s₁.setTop (mkF m 27 #[.val (.ref va), .val (.double (FP.l2d ((((0 : Int64) + x0) + x1) + x2))), .second, .val (.ref va), .val (.int (4 : Int32)), .val (.int (3 : Int32)), .val (.double (FP.l2d x3)), .second] [(.double (FP.l2d x3)), (.double (FP.l2d ((((0 : Int64) + x0) + x1) + x2)))])) tt
    refine XS.daddS X0.here hx rfl (hb hby d1_27) rfl (nn_w q9) q9 ?_
    show Steps p.tables e below (s₁.setTop (mkF m 28 #[.val (.ref va), .val (.double (FP.l2d ((((0 : Int64) + x0) + x1) + x2))), .second, .val (.ref va), .val (.int (4 : Int32)), .val (.int (3 : Int32)), .val (.double (FP.l2d x3)), .second] [(.double (FP.l2d (((((0 : Int64) + x0) + x1) + x2) + x3)))])) tt
    refine XS.dstoreN X0.here hx rfl (hb hby d1_28) rfl (l' := #[.val (.ref va), .val (.double (FP.l2d (((((0 : Int64) + x0) + x1) + x2) + x3))), .second, .val (.ref va), .val (.int (4 : Int32)), .val (.int (3 : Int32)), .val (.double (FP.l2d x3)), .second]) rfl ?_
    show Steps p.tables e below (s₁.setTop (mkF m 29 #[.val (.ref va), .val (.double (FP.l2d (((((0 : Int64) + x0) + x1) + x2) + x3))), .second, .val (.ref va), .val (.int (4 : Int32)), .val (.int (3 : Int32)), .val (.double (FP.l2d x3)), .second] [])) tt
    refine XS.iinc X0.here hx rfl (hb hby d1_29) rfl (l' := #[.val (.ref va), .val (.double (FP.l2d (((((0 : Int64) + x0) + x1) + x2) + x3))), .second, .val (.ref va), .val (.int (4 : Int32)), .val (.int (4 : Int32)), .val (.double (FP.l2d x3)), .second]) rfl ?_
    show Steps p.tables e below (s₁.setTop (mkF m 32 #[.val (.ref va), .val (.double (FP.l2d (((((0 : Int64) + x0) + x1) + x2) + x3))), .second, .val (.ref va), .val (.int (4 : Int32)), .val (.int (4 : Int32)), .val (.double (FP.l2d x3)), .second] [])) tt
    refine XS.goto X0.here hx rfl (pc0 := 32) (pc' := 11) rfl (hb hby d1_32) (by decide) (by decide) ?_
    show Steps p.tables e below (s₁.setTop (mkF m 11 #[.val (.ref va), .val (.double (FP.l2d (((((0 : Int64) + x0) + x1) + x2) + x3))), .second, .val (.ref va), .val (.int (4 : Int32)), .val (.int (4 : Int32)), .val (.double (FP.l2d x3)), .second] [])) tt
    refine XS.iload X0.here hx rfl (hb hby d1_11) rfl ?_
    show Steps p.tables e below (s₁.setTop (mkF m 13 #[.val (.ref va), .val (.double (FP.l2d (((((0 : Int64) + x0) + x1) + x2) + x3))), .second, .val (.ref va), .val (.int (4 : Int32)), .val (.int (4 : Int32)), .val (.double (FP.l2d x3)), .second] [(.int (4 : Int32))])) tt
    refine XS.iload X0.here hx rfl (hb hby d1_13) rfl ?_
    show Steps p.tables e below (s₁.setTop (mkF m 15 #[.val (.ref va), .val (.double (FP.l2d (((((0 : Int64) + x0) + x1) + x2) + x3))), .second, .val (.ref va), .val (.int (4 : Int32)), .val (.int (4 : Int32)), .val (.double (FP.l2d x3)), .second] [(.int (4 : Int32)), (.int (4 : Int32))])) tt
    refine XS.icmpYes X0.here hx rfl (pc0 := 15) (pc' := 35) rfl (hb hby d1_15) rfl (flt (Int32.lt_irrefl : ¬ ((4 : Int32) < (4 : Int32)))).2.1 (by decide) (by decide) ?_
    show Steps p.tables e below (s₁.setTop (mkF m 35 #[.val (.ref va), .val (.double (FP.l2d (((((0 : Int64) + x0) + x1) + x2) + x3))), .second, .val (.ref va), .val (.int (4 : Int32)), .val (.int (4 : Int32)), .val (.double (FP.l2d x3)), .second] [])) tt
    refine XS.dloadN X0.here hx rfl (hb hby d1_35) rfl ?_
    show Steps p.tables e below (s₁.setTop (mkF m 36 #[.val (.ref va), .val (.double (FP.l2d (((((0 : Int64) + x0) + x1) + x2) + x3))), .second, .val (.ref va), .val (.int (4 : Int32)), .val (.int (4 : Int32)), .val (.double (FP.l2d x3)), .second] [(.double (FP.l2d (((((0 : Int64) + x0) + x1) + x2) + x3)))])) tt
    refine XS.aloadN X0.here hx rfl (hb hby d1_36) rfl rfl ?_
    exact kk
  obtain ⟨cl10, Ar10, Sl10⟩ := id V_va
  have ln10 : cl10.slots.size.toInt32 = (4 : Int32) := lenA Sl10 rfl
  refine Goal.to (B := s₁.setTop (mkF m 40 #[.val (.ref va), .val (.double (FP.l2d (((((0 : Int64) + x0) + x1) + x2) + x3))), .second, .val (.ref va), .val (.int (4 : Int32)), .val (.int (4 : Int32)), .val (.double (FP.l2d x3)), .second] [(.double (FP.ddiv (FP.l2d (((((0 : Int64) + x0) + x1) + x2) + x3)) (FP.l2d ((4 : Int32).toInt64))))])) (fun tt kk => ?_) ?_
  · show Steps p.tables e below (s₁.setTop (mkF m 37 #[.val (.ref va), .val (.double (FP.l2d (((((0 : Int64) + x0) + x1) + x2) + x3))), .second, .val (.ref va), .val (.int (4 : Int32)), .val (.int (4 : Int32)), .val (.double (FP.l2d x3)), .second] [(.ref va), (.double (FP.l2d (((((0 : Int64) + x0) + x1) + x2) + x3)))])) tt
    refine X0.arraylength hx (by rw [e0]; exact Ar10.1) (State.isArrayOf_alike hZ.alike Ar10.2.1) (g := (mkF m 37 #[.val (.ref va), .val (.double (FP.l2d (((((0 : Int64) + x0) + x1) + x2) + x3))), .second, .val (.ref va), .val (.int (4 : Int32)), .val (.int (4 : Int32)), .val (.double (FP.l2d x3)), .second] [(.ref va), (.double (FP.l2d (((((0 : Int64) + x0) + x1) + x2) + x3)))])) rfl rfl (hb hby d1_37) _ ?_
    rw [ln10]
    show Steps p.tables e below (s₁.setTop (mkF m 38 #[.val (.ref va), .val (.double (FP.l2d (((((0 : Int64) + x0) + x1) + x2) + x3))), .second, .val (.ref va), .val (.int (4 : Int32)), .val (.int (4 : Int32)), .val (.double (FP.l2d x3)), .second] [(.int (4 : Int32)), (.double (FP.l2d (((((0 : Int64) + x0) + x1) + x2) + x3)))])) tt
    refine XS.i2dS X0.here hx rfl (hb hby d1_38) rfl (i2d_w _) ?_
    show Steps p.tables e below (s₁.setTop (mkF m 39 #[.val (.ref va), .val (.double (FP.l2d (((((0 : Int64) + x0) + x1) + x2) + x3))), .second, .val (.ref va), .val (.int (4 : Int32)), .val (.int (4 : Int32)), .val (.double (FP.l2d x3)), .second] [(.double (FP.l2d ((4 : Int32).toInt64))), (.double (FP.l2d (((((0 : Int64) + x0) + x1) + x2) + x3)))])) tt
    refine XS.ddivS X0.here hx rfl (hb hby d1_39) rfl (own_nn _ (by decide)) rfl ?_
    exact kk
  exact Goal.retV X0 hx Bd.returns rfl (Or.inr (Or.inr (Or.inl ⟨rfl, rfl, _, rfl⟩))) (hb hby d1_40) hlk e0 ⟨(congrArg some (by rw [Int64.zero_add] : ((.double (FP.ddiv (FP.l2d (((((0 : Int64) + x0) + x1) + x2) + x3)) (FP.l2d ((4 : Int32).toInt64)))) : Value) = (.double (FP.ddiv (FP.l2d (((x0 + x1) + x2) + x3)) (FP.l2d ((4 : Int32).toInt64)))))), N0, rfl⟩ (by decide) (by decide)
theorem ef_0 (m : MethodId) (x0 : Int32) (x1 : Int32) (x2 : Int32) (x3 : Int32) (x4 : Int32)  : entryFrame m #[(.int x0), (.int x1), (.int x2), (.int x3), (.int x4)] maxLocals = mkF m 0 #[.val (.int x0), .val (.int x1), .val (.int x2), .val (.int x3), .val (.int x4), .unset, .unset, .unset, .unset, .unset, .unset, .unset, .unset] [] := by first | (simp [entryFrame, mkF, argsToLocals, Value.category, maxLocals]; done) | rfl
theorem pn_0 : plainName "com/example/enodia/enodia/compare/MeanIntervalMeanPinLaw" = true := by first | (simp [plainName, overriddenIn]; done) | decide +kernel
theorem pd_0 : parseMethodDescriptor "([D)D" = some ⟨[(.array .double)], some .double⟩ := by decide +kernel
def Q0 (Z : State) (u0 : Int32) (u1 : Int32) (u2 : Int32) (u3 : Int32) (u4 : Int32) (h0 : Heap) (n0 : Nat) (v : Option Value) (h : Heap) (L : List Loc) : Prop := v = some (.int (1 : Int32)) ∧ Fr n0 L
set_option maxRecDepth 65536 in
set_option maxHeartbeats 40000000 in
theorem rm0 (l : Launch) (Z : State) (a0 : Array Value) (hw : ∀ d ∈ tables_1, d.before a0 Z = true) (ws : List Jvm.Cond) (u0 : Int32) (u1 : Int32) (u2 : Int32) (u3 : Int32) (u4 : Int32) (h0 : Heap) (n0 : Nat) (Z0 : n0 ≤ h0.size) :
    MetFree l x (head1 (Jvm.Cond.code x code maxLocals ret :: ws) room_1) (fun a U => a = #[(.int u0), (.int u1), (.int u2), (.int u3), (.int u4)] ∧ Z.Warmed39 U.vm ∧ U.heap = h0) (fun _ _ _ _ _ => True) (fun _ U o U' => ∃ v L, o = .returned v ∧ Q0 Z u0 u1 u2 u3 u4 h0 n0 v U'.heap L ∧ FrameEnd U o U' L 16 128) := by
  refine MetFree.of_bodySF (plainFor_of_name pn_0) hisR ?_
  intro p e s m args below meth c s₁ Bd hml0 hP hK
  obtain ⟨rfl, hZ, hh⟩ := hP
  have hx := Bd.exec
  have hby := Bd.bytes
  have hml : c.maxLocals = 13 := hml0
  have hown : s.vm.findClass "com/example/enodia/enodia/compare/MeanIntervalMeanPinLaw" = some m.cls := findClass_of_methodNamed Bd.named
  have hnm := (name_of_methodNamed Bd.named Bd.method).1
  have X0 : Stand p l e room_1 s m #[(.int u0), (.int u1), (.int u2), (.int u3), (.int u4)] below meth c s₁ [] 0 0 := Stand.of_body Bd
  have e0 : s₁.heap = h0 := by rw [← hh, Bd.state]; rfl
  have N0 := Fr.nil n0
  have hlk : meth.locks = false := BodyLoose.notSynchronized Bd
  show Goal p e below s (Q0 Z u0 u1 u2 u3 u4 h0 n0) 16 128 (s₁.setTop (entryFrame m #[(.int u0), (.int u1), (.int u2), (.int u3), (.int u4)] maxLocals))
  refine Goal.to (B := s₁.setTop (mkF m 0 #[.val (.int u0), .val (.int u1), .val (.int u2), .val (.int u3), .val (.int u4), .unset, .unset, .unset, .unset, .unset, .unset, .unset, .unset] [])) (fun tt kk => castTop (ef_0 m u0 u1 u2 u3 u4 ) kk) ?_
  obtain ⟨nn, hnn⟩ : ∃ z : Int32, z = ((u0 &&& (3 : Int32)) + (1 : Int32)) := ⟨_, rfl⟩
  refine Goal.to (B := s₁.setTop (mkF m 7 #[.val (.int u0), .val (.int u1), .val (.int u2), .val (.int u3), .val (.int u4), .val (.int nn), .unset, .unset, .unset, .unset, .unset, .unset, .unset] [])) (fun tt kk => ?_) ?_
  · subst hnn
    show Steps p.tables e below (s₁.setTop (mkF m 0 #[.val (.int u0), .val (.int u1), .val (.int u2), .val (.int u3), .val (.int u4), .unset, .unset, .unset, .unset, .unset, .unset, .unset, .unset] [])) tt
    refine XS.iloadN X0.here hx rfl (hb hby at_0) rfl ?_
    show Steps p.tables e below (s₁.setTop (mkF m 1 #[.val (.int u0), .val (.int u1), .val (.int u2), .val (.int u3), .val (.int u4), .unset, .unset, .unset, .unset, .unset, .unset, .unset, .unset] [(.int u0)])) tt
    refine XS.iconst X0.here hx rfl (hb hby at_1) ?_
    show Steps p.tables e below (s₁.setTop (mkF m 2 #[.val (.int u0), .val (.int u1), .val (.int u2), .val (.int u3), .val (.int u4), .unset, .unset, .unset, .unset, .unset, .unset, .unset, .unset] [(.int (3 : Int32)), (.int u0)])) tt
    refine XS.iand X0.here hx rfl (hb hby at_2) rfl ?_
    show Steps p.tables e below (s₁.setTop (mkF m 3 #[.val (.int u0), .val (.int u1), .val (.int u2), .val (.int u3), .val (.int u4), .unset, .unset, .unset, .unset, .unset, .unset, .unset, .unset] [(.int (u0 &&& (3 : Int32)))])) tt
    refine XS.iconst X0.here hx rfl (hb hby at_3) ?_
    show Steps p.tables e below (s₁.setTop (mkF m 4 #[.val (.int u0), .val (.int u1), .val (.int u2), .val (.int u3), .val (.int u4), .unset, .unset, .unset, .unset, .unset, .unset, .unset, .unset] [(.int (1 : Int32)), (.int (u0 &&& (3 : Int32)))])) tt
    refine XS.iadd X0.here hx rfl (hb hby at_4) rfl ?_
    show Steps p.tables e below (s₁.setTop (mkF m 5 #[.val (.int u0), .val (.int u1), .val (.int u2), .val (.int u3), .val (.int u4), .unset, .unset, .unset, .unset, .unset, .unset, .unset, .unset] [(.int ((u0 &&& (3 : Int32)) + (1 : Int32)))])) tt
    refine XS.istore X0.here hx rfl (hb hby at_5) rfl (l' := #[.val (.int u0), .val (.int u1), .val (.int u2), .val (.int u3), .val (.int u4), .val (.int ((u0 &&& (3 : Int32)) + (1 : Int32))), .unset, .unset, .unset, .unset, .unset, .unset, .unset]) rfl ?_
    exact kk
  refine Goal.to (B := s₁.setTop (mkF m 9 #[.val (.int u0), .val (.int u1), .val (.int u2), .val (.int u3), .val (.int u4), .val (.int nn), .unset, .unset, .unset, .unset, .unset, .unset, .unset] [(.int nn)])) (fun tt kk => ?_) ?_
  · show Steps p.tables e below (s₁.setTop (mkF m 7 #[.val (.int u0), .val (.int u1), .val (.int u2), .val (.int u3), .val (.int u4), .val (.int nn), .unset, .unset, .unset, .unset, .unset, .unset, .unset] [])) tt
    refine XS.iload X0.here hx rfl (hb hby at_7) rfl ?_
    exact kk
  rcases own_k hnn with rfl | rfl | rfl | rfl
  · refine Goal.to (B := s₁.setTop (mkF m 14 #[.val (.int u0), .val (.int u1), .val (.int u2), .val (.int u3), .val (.int u4), .val (.int (1 : Int32)), .unset, .unset, .unset, .unset, .unset, .unset, .unset] [(.int (1 : Int32))])) (fun tt kk => ?_) ?_
    · show Steps p.tables e below (s₁.setTop (mkF m 9 #[.val (.int u0), .val (.int u1), .val (.int u2), .val (.int u3), .val (.int u4), .val (.int (1 : Int32)), .unset, .unset, .unset, .unset, .unset, .unset, .unset] [(.int (1 : Int32))])) tt
      refine XS.iconst X0.here hx rfl (hb hby at_9) ?_
      show Steps p.tables e below (s₁.setTop (mkF m 10 #[.val (.int u0), .val (.int u1), .val (.int u2), .val (.int u3), .val (.int u4), .val (.int (1 : Int32)), .unset, .unset, .unset, .unset, .unset, .unset, .unset] [(.int (1 : Int32)), (.int (1 : Int32))])) tt
      refine XS.icmpNo X0.here hx rfl (hb hby at_10) rfl (teq (rfl : (1 : Int32) = (1 : Int32))).2 ?_
      show Steps p.tables e below (s₁.setTop (mkF m 13 #[.val (.int u0), .val (.int u1), .val (.int u2), .val (.int u3), .val (.int u4), .val (.int (1 : Int32)), .unset, .unset, .unset, .unset, .unset, .unset, .unset] [])) tt
      refine XS.iconst X0.here hx rfl (hb hby at_13) ?_
      exact kk
    obtain ⟨T1, h1, k1, X1, e1, E1, A1, st1⟩ := newP X0 hx hZ (hw _ (mw 0 rfl)) e0 (g := (mkF m 14 #[.val (.int u0), .val (.int u1), .val (.int u2), .val (.int u3), .val (.int u4), .val (.int (1 : Int32)), .unset, .unset, .unset, .unset, .unset, .unset, .unset] [(.int (1 : Int32))])) rfl (hb hby at_14) rfl (by decide) (cap := 1) (by decide) (by decide) (by decide) (by decide)
    obtain ⟨b1, g1⟩ : ∃ z, z = h0.size := ⟨_, rfl⟩
    rw [← g1] at A1 st1
    have g_b1 : n0 ≤ b1 := Nat.le_trans Z0 (Nat.le_of_eq g1.symm)
    have V1 : Ary Z h1 b1 .double [(.double (0 : UInt64))] := Ary.new A1 rfl
    refine Goal.to (B := T1.setTop (mkF m 16 #[.val (.int u0), .val (.int u1), .val (.int u2), .val (.int u3), .val (.int u4), .val (.int (1 : Int32)), .unset, .unset, .unset, .unset, .unset, .unset, .unset] [(.ref b1)])) st1 ?_
    refine Goal.to (B := T1.setTop (mkF m 20 #[.val (.int u0), .val (.int u1), .val (.int u2), .val (.int u3), .val (.int u4), .val (.int (1 : Int32)), .unset, .unset, .unset, .unset, .unset, .unset, .unset] [(.double (FP.l2d (u1.toInt64))), (.int (0 : Int32)), (.ref b1), (.ref b1)])) (fun tt kk => ?_) ?_
    · show Steps p.tables e below (T1.setTop (mkF m 16 #[.val (.int u0), .val (.int u1), .val (.int u2), .val (.int u3), .val (.int u4), .val (.int (1 : Int32)), .unset, .unset, .unset, .unset, .unset, .unset, .unset] [(.ref b1)])) tt
      refine XS.dup X1.here hx rfl (hb hby at_16) rfl rfl ?_
      show Steps p.tables e below (T1.setTop (mkF m 17 #[.val (.int u0), .val (.int u1), .val (.int u2), .val (.int u3), .val (.int u4), .val (.int (1 : Int32)), .unset, .unset, .unset, .unset, .unset, .unset, .unset] [(.ref b1), (.ref b1)])) tt
      refine XS.iconst X1.here hx rfl (hb hby at_17) ?_
      show Steps p.tables e below (T1.setTop (mkF m 18 #[.val (.int u0), .val (.int u1), .val (.int u2), .val (.int u3), .val (.int u4), .val (.int (1 : Int32)), .unset, .unset, .unset, .unset, .unset, .unset, .unset] [(.int (0 : Int32)), (.ref b1), (.ref b1)])) tt
      refine XS.iloadN X1.here hx rfl (hb hby at_18) rfl ?_
      show Steps p.tables e below (T1.setTop (mkF m 19 #[.val (.int u0), .val (.int u1), .val (.int u2), .val (.int u3), .val (.int u4), .val (.int (1 : Int32)), .unset, .unset, .unset, .unset, .unset, .unset, .unset] [(.int u1), (.int (0 : Int32)), (.ref b1), (.ref b1)])) tt
      refine XS.i2dS X1.here hx rfl (hb hby at_19) rfl (i2d_w _) ?_
      exact kk
    obtain ⟨cl2, Ar2, Sl2⟩ := id V1
    have hin2 := inA (cl := cl2) Sl2 (j := (0 : Int32)) (by decide) (Nat.le_of_ble_eq_true rfl)
    obtain ⟨T2, h2, X2, e2, W2, st2⟩ := stD X1 hx hZ e1 Ar2 (j := (0 : Int32)) hin2 (g := (mkF m 20 #[.val (.int u0), .val (.int u1), .val (.int u2), .val (.int u3), .val (.int u4), .val (.int (1 : Int32)), .unset, .unset, .unset, .unset, .unset, .unset, .unset] [(.double (FP.l2d (u1.toInt64))), (.int (0 : Int32)), (.ref b1), (.ref b1)])) rfl rfl (hb hby at_20)
    have V2 : Ary Z h2 b1 .double [(.double (FP.l2d (u1.toInt64)))] := Ary.put Ar2 Sl2 W2 rfl
    have N2 := Fr.snoc X2 N0 g_b1
    refine Goal.to (B := T2.setTop (mkF m 21 #[.val (.int u0), .val (.int u1), .val (.int u2), .val (.int u3), .val (.int u4), .val (.int (1 : Int32)), .unset, .unset, .unset, .unset, .unset, .unset, .unset] [(.ref b1)])) st2 ?_
    refine Goal.to (B := T2.setTop (mkF m 151 #[.val (.int u0), .val (.int u1), .val (.int u2), .val (.int u3), .val (.int u4), .val (.int (1 : Int32)), .val (.ref b1), .val (.long (u1.toInt64)), .second, .val (.double (FP.ddiv (FP.l2d (u1.toInt64)) (FP.l2d ((1 : Int32).toInt64)))), .second, .unset, .unset] [(.ref b1)])) (fun tt kk => ?_) ?_
    · show Steps p.tables e below (T2.setTop (mkF m 21 #[.val (.int u0), .val (.int u1), .val (.int u2), .val (.int u3), .val (.int u4), .val (.int (1 : Int32)), .unset, .unset, .unset, .unset, .unset, .unset, .unset] [(.ref b1)])) tt
      refine XS.astore X2.here hx rfl (hb hby at_21) rfl rfl (l' := #[.val (.int u0), .val (.int u1), .val (.int u2), .val (.int u3), .val (.int u4), .val (.int (1 : Int32)), .val (.ref b1), .unset, .unset, .unset, .unset, .unset, .unset]) rfl ?_
      show Steps p.tables e below (T2.setTop (mkF m 23 #[.val (.int u0), .val (.int u1), .val (.int u2), .val (.int u3), .val (.int u4), .val (.int (1 : Int32)), .val (.ref b1), .unset, .unset, .unset, .unset, .unset, .unset] [])) tt
      refine XS.iloadN X2.here hx rfl (hb hby at_23) rfl ?_
      show Steps p.tables e below (T2.setTop (mkF m 24 #[.val (.int u0), .val (.int u1), .val (.int u2), .val (.int u3), .val (.int u4), .val (.int (1 : Int32)), .val (.ref b1), .unset, .unset, .unset, .unset, .unset, .unset] [(.int u1)])) tt
      refine XS.i2l X2.here hx rfl (hb hby at_24) rfl ?_
      show Steps p.tables e below (T2.setTop (mkF m 25 #[.val (.int u0), .val (.int u1), .val (.int u2), .val (.int u3), .val (.int u4), .val (.int (1 : Int32)), .val (.ref b1), .unset, .unset, .unset, .unset, .unset, .unset] [(.long (u1.toInt64))])) tt
      refine XS.lstore X2.here hx rfl (hb hby at_25) rfl (l' := #[.val (.int u0), .val (.int u1), .val (.int u2), .val (.int u3), .val (.int u4), .val (.int (1 : Int32)), .val (.ref b1), .val (.long (u1.toInt64)), .second, .unset, .unset, .unset, .unset]) rfl ?_
      show Steps p.tables e below (T2.setTop (mkF m 27 #[.val (.int u0), .val (.int u1), .val (.int u2), .val (.int u3), .val (.int u4), .val (.int (1 : Int32)), .val (.ref b1), .val (.long (u1.toInt64)), .second, .unset, .unset, .unset, .unset] [])) tt
      refine XS.goto X2.here hx rfl (pc0 := 27) (pc' := 140) rfl (hb hby at_27) (by decide) (by decide) ?_
      show Steps p.tables e below (T2.setTop (mkF m 140 #[.val (.int u0), .val (.int u1), .val (.int u2), .val (.int u3), .val (.int u4), .val (.int (1 : Int32)), .val (.ref b1), .val (.long (u1.toInt64)), .second, .unset, .unset, .unset, .unset] [])) tt
      refine XS.lload X2.here hx rfl (hb hby at_140) rfl ?_
      show Steps p.tables e below (T2.setTop (mkF m 142 #[.val (.int u0), .val (.int u1), .val (.int u2), .val (.int u3), .val (.int u4), .val (.int (1 : Int32)), .val (.ref b1), .val (.long (u1.toInt64)), .second, .unset, .unset, .unset, .unset] [(.long (u1.toInt64))])) tt
      refine XS.l2dS X2.here hx rfl (hb hby at_142) rfl rfl ?_
      show Steps p.tables e below (T2.setTop (mkF m 143 #[.val (.int u0), .val (.int u1), .val (.int u2), .val (.int u3), .val (.int u4), .val (.int (1 : Int32)), .val (.ref b1), .val (.long (u1.toInt64)), .second, .unset, .unset, .unset, .unset] [(.double (FP.l2d (u1.toInt64)))])) tt
      refine XS.iload X2.here hx rfl (hb hby at_143) rfl ?_
      show Steps p.tables e below (T2.setTop (mkF m 145 #[.val (.int u0), .val (.int u1), .val (.int u2), .val (.int u3), .val (.int u4), .val (.int (1 : Int32)), .val (.ref b1), .val (.long (u1.toInt64)), .second, .unset, .unset, .unset, .unset] [(.int (1 : Int32)), (.double (FP.l2d (u1.toInt64)))])) tt
      refine XS.i2dS X2.here hx rfl (hb hby at_145) rfl (i2d_w _) ?_
      show Steps p.tables e below (T2.setTop (mkF m 146 #[.val (.int u0), .val (.int u1), .val (.int u2), .val (.int u3), .val (.int u4), .val (.int (1 : Int32)), .val (.ref b1), .val (.long (u1.toInt64)), .second, .unset, .unset, .unset, .unset] [(.double (FP.l2d ((1 : Int32).toInt64))), (.double (FP.l2d (u1.toInt64)))])) tt
      refine XS.ddivS X2.here hx rfl (hb hby at_146) rfl (own_nn _ (by decide)) rfl ?_
      show Steps p.tables e below (T2.setTop (mkF m 147 #[.val (.int u0), .val (.int u1), .val (.int u2), .val (.int u3), .val (.int u4), .val (.int (1 : Int32)), .val (.ref b1), .val (.long (u1.toInt64)), .second, .unset, .unset, .unset, .unset] [(.double (FP.ddiv (FP.l2d (u1.toInt64)) (FP.l2d ((1 : Int32).toInt64))))])) tt
      refine XS.dstore X2.here hx rfl (hb hby at_147) rfl (l' := #[.val (.int u0), .val (.int u1), .val (.int u2), .val (.int u3), .val (.int u4), .val (.int (1 : Int32)), .val (.ref b1), .val (.long (u1.toInt64)), .second, .val (.double (FP.ddiv (FP.l2d (u1.toInt64)) (FP.l2d ((1 : Int32).toInt64)))), .second, .unset, .unset]) rfl ?_
      show Steps p.tables e below (T2.setTop (mkF m 149 #[.val (.int u0), .val (.int u1), .val (.int u2), .val (.int u3), .val (.int u4), .val (.int (1 : Int32)), .val (.ref b1), .val (.long (u1.toInt64)), .second, .val (.double (FP.ddiv (FP.l2d (u1.toInt64)) (FP.l2d ((1 : Int32).toInt64)))), .second, .unset, .unset] [])) tt
      refine XS.aload X2.here hx rfl (hb hby at_149) rfl rfl ?_
      exact kk
    have f3 : n0 ≤ h2.size := (Nat.le_trans (Nat.le_trans Z0 E1.1) (Keep.of_wr W2).1)
    obtain ⟨_, _, ⟨T4, L4, k4, n4⟩, -, X4, ⟨Lc4, hQ4, l4, y4, z4⟩, st4⟩ := Jvm.LawKit.callS X2 hx (y := (⟨"com/example/enodia/enodia/compare/MeanInterval", "mean", "([D)D"⟩ : MethodName)) hown (mvT hZ (hw _ (mw 1 rfl))) (mvT hZ (hw _ (mw 2 rfl))) (mvT hZ (hw _ (mw 3 rfl))) (mvT hZ (hw _ (mw 4 rfl))) (by decide) (backOf (W := 0) (rmm1 l Z a0 hw [] b1 (u1.toInt64) h2 n0 f3 V2 (own_i u1)) hZ (hw _ (mw 4 rfl)) (hw _ (mw 3 rfl)) (by decide) (by decide)) (g := (mkF m 151 #[.val (.int u0), .val (.int u1), .val (.int u2), .val (.int u3), .val (.int u4), .val (.int (1 : Int32)), .val (.ref b1), .val (.long (u1.toInt64)), .second, .val (.double (FP.ddiv (FP.l2d (u1.toInt64)) (FP.l2d ((1 : Int32).toInt64)))), .second, .unset, .unset] [(.ref b1)])) rfl (by rw [hml]; rfl) (argsL := [(.ref b1)]) (rest := []) (lenOf pd_0 rfl) rfl (by show 2 * 0 + _ ≤ _; exact Nat.le_of_eq rfl) (hb hby at_151) (fun _ _ => ⟨rfl, e2, (by decide : 1 + 0 ≤ _), (by decide : 1 + 0 ≤ _)⟩)
    dsimp only [Pt.U, Pt.locs, Pt.cells, Pt.slots] at X4 l4 y4 z4 st4 hQ4
    subst l4 y4 z4
    obtain ⟨rfl, N4q, e4⟩ := hQ4
    have N4 := Fr.app N2 N4q
    refine Goal.to (B := T4.setTop (mkF m 154 #[.val (.int u0), .val (.int u1), .val (.int u2), .val (.int u3), .val (.int u4), .val (.int (1 : Int32)), .val (.ref b1), .val (.long (u1.toInt64)), .second, .val (.double (FP.ddiv (FP.l2d (u1.toInt64)) (FP.l2d ((1 : Int32).toInt64)))), .second, .unset, .unset] [(.double (FP.ddiv (FP.l2d (u1.toInt64)) (FP.l2d ((1 : Int32).toInt64))))])) st4 ?_
    refine Goal.to (B := T4.setTop (mkF m 169 #[.val (.int u0), .val (.int u1), .val (.int u2), .val (.int u3), .val (.int u4), .val (.int (1 : Int32)), .val (.ref b1), .val (.long (u1.toInt64)), .second, .val (.double (FP.ddiv (FP.l2d (u1.toInt64)) (FP.l2d ((1 : Int32).toInt64)))), .second, .val (.double (FP.ddiv (FP.l2d (u1.toInt64)) (FP.l2d ((1 : Int32).toInt64)))), .second] [(.int (1 : Int32))])) (fun tt kk => ?_) ?_
    · show Steps p.tables e below (T4.setTop (mkF m 154 #[.val (.int u0), .val (.int u1), .val (.int u2), .val (.int u3), .val (.int u4), .val (.int (1 : Int32)), .val (.ref b1), .val (.long (u1.toInt64)), .second, .val (.double (FP.ddiv (FP.l2d (u1.toInt64)) (FP.l2d ((1 : Int32).toInt64)))), .second, .unset, .unset] [(.double (FP.ddiv (FP.l2d (u1.toInt64)) (FP.l2d ((1 : Int32).toInt64))))])) tt
      refine XS.dstore X4.here hx rfl (hb hby at_154) rfl (l' := #[.val (.int u0), .val (.int u1), .val (.int u2), .val (.int u3), .val (.int u4), .val (.int (1 : Int32)), .val (.ref b1), .val (.long (u1.toInt64)), .second, .val (.double (FP.ddiv (FP.l2d (u1.toInt64)) (FP.l2d ((1 : Int32).toInt64)))), .second, .val (.double (FP.ddiv (FP.l2d (u1.toInt64)) (FP.l2d ((1 : Int32).toInt64)))), .second]) rfl ?_
      show Steps p.tables e below (T4.setTop (mkF m 156 #[.val (.int u0), .val (.int u1), .val (.int u2), .val (.int u3), .val (.int u4), .val (.int (1 : Int32)), .val (.ref b1), .val (.long (u1.toInt64)), .second, .val (.double (FP.ddiv (FP.l2d (u1.toInt64)) (FP.l2d ((1 : Int32).toInt64)))), .second, .val (.double (FP.ddiv (FP.l2d (u1.toInt64)) (FP.l2d ((1 : Int32).toInt64)))), .second] [])) tt
      refine XS.dload X4.here hx rfl (hb hby at_156) rfl ?_
      show Steps p.tables e below (T4.setTop (mkF m 158 #[.val (.int u0), .val (.int u1), .val (.int u2), .val (.int u3), .val (.int u4), .val (.int (1 : Int32)), .val (.ref b1), .val (.long (u1.toInt64)), .second, .val (.double (FP.ddiv (FP.l2d (u1.toInt64)) (FP.l2d ((1 : Int32).toInt64)))), .second, .val (.double (FP.ddiv (FP.l2d (u1.toInt64)) (FP.l2d ((1 : Int32).toInt64)))), .second] [(.double (FP.ddiv (FP.l2d (u1.toInt64)) (FP.l2d ((1 : Int32).toInt64))))])) tt
      refine XS.dload X4.here hx rfl (hb hby at_158) rfl ?_
      show Steps p.tables e below (T4.setTop (mkF m 160 #[.val (.int u0), .val (.int u1), .val (.int u2), .val (.int u3), .val (.int u4), .val (.int (1 : Int32)), .val (.ref b1), .val (.long (u1.toInt64)), .second, .val (.double (FP.ddiv (FP.l2d (u1.toInt64)) (FP.l2d ((1 : Int32).toInt64)))), .second, .val (.double (FP.ddiv (FP.l2d (u1.toInt64)) (FP.l2d ((1 : Int32).toInt64)))), .second] [(.double (FP.ddiv (FP.l2d (u1.toInt64)) (FP.l2d ((1 : Int32).toInt64)))), (.double (FP.ddiv (FP.l2d (u1.toInt64)) (FP.l2d ((1 : Int32).toInt64))))])) tt
      refine XS.dcmpS X4.here hx rfl (hb hby at_160) rfl (dcmpV_eq rfl (own_nn _ (by decide)) _) ?_
      show Steps p.tables e below (T4.setTop (mkF m 161 #[.val (.int u0), .val (.int u1), .val (.int u2), .val (.int u3), .val (.int u4), .val (.int (1 : Int32)), .val (.ref b1), .val (.long (u1.toInt64)), .second, .val (.double (FP.ddiv (FP.l2d (u1.toInt64)) (FP.l2d ((1 : Int32).toInt64)))), .second, .val (.double (FP.ddiv (FP.l2d (u1.toInt64)) (FP.l2d ((1 : Int32).toInt64)))), .second] [(.int (0 : Int32))])) tt
      refine XS.ifNo X4.here hx rfl (hb hby at_161) rfl ((if0 _ _).trans (teq (rfl : (0 : Int32) = (0 : Int32))).2) ?_
      show Steps p.tables e below (T4.setTop (mkF m 164 #[.val (.int u0), .val (.int u1), .val (.int u2), .val (.int u3), .val (.int u4), .val (.int (1 : Int32)), .val (.ref b1), .val (.long (u1.toInt64)), .second, .val (.double (FP.ddiv (FP.l2d (u1.toInt64)) (FP.l2d ((1 : Int32).toInt64)))), .second, .val (.double (FP.ddiv (FP.l2d (u1.toInt64)) (FP.l2d ((1 : Int32).toInt64)))), .second] [])) tt
      refine XS.iconst X4.here hx rfl (hb hby at_164) ?_
      show Steps p.tables e below (T4.setTop (mkF m 165 #[.val (.int u0), .val (.int u1), .val (.int u2), .val (.int u3), .val (.int u4), .val (.int (1 : Int32)), .val (.ref b1), .val (.long (u1.toInt64)), .second, .val (.double (FP.ddiv (FP.l2d (u1.toInt64)) (FP.l2d ((1 : Int32).toInt64)))), .second, .val (.double (FP.ddiv (FP.l2d (u1.toInt64)) (FP.l2d ((1 : Int32).toInt64)))), .second] [(.int (1 : Int32))])) tt
      refine XS.goto X4.here hx rfl (pc0 := 165) (pc' := 169) rfl (hb hby at_165) (by decide) (by decide) ?_
      exact kk
    exact Goal.retV X4 hx Bd.returns rfl (Or.inl ⟨rfl, Or.inr (Or.inl rfl), _, rfl⟩) (hb hby at_169) hlk e4 ⟨rfl, N4⟩ (by decide) (by decide)
  · refine Goal.to (B := s₁.setTop (mkF m 37 #[.val (.int u0), .val (.int u1), .val (.int u2), .val (.int u3), .val (.int u4), .val (.int (2 : Int32)), .unset, .unset, .unset, .unset, .unset, .unset, .unset] [(.int (2 : Int32))])) (fun tt kk => ?_) ?_
    · show Steps p.tables e below (s₁.setTop (mkF m 9 #[.val (.int u0), .val (.int u1), .val (.int u2), .val (.int u3), .val (.int u4), .val (.int (2 : Int32)), .unset, .unset, .unset, .unset, .unset, .unset, .unset] [(.int (2 : Int32))])) tt
      refine XS.iconst X0.here hx rfl (hb hby at_9) ?_
      show Steps p.tables e below (s₁.setTop (mkF m 10 #[.val (.int u0), .val (.int u1), .val (.int u2), .val (.int u3), .val (.int u4), .val (.int (2 : Int32)), .unset, .unset, .unset, .unset, .unset, .unset, .unset] [(.int (1 : Int32)), (.int (2 : Int32))])) tt
      refine XS.icmpYes X0.here hx rfl (pc0 := 10) (pc' := 30) rfl (hb hby at_10) rfl (feq ((by decide) : ¬ ((2 : Int32) = (1 : Int32)))).2 (by decide) (by decide) ?_
      show Steps p.tables e below (s₁.setTop (mkF m 30 #[.val (.int u0), .val (.int u1), .val (.int u2), .val (.int u3), .val (.int u4), .val (.int (2 : Int32)), .unset, .unset, .unset, .unset, .unset, .unset, .unset] [])) tt
      refine XS.iload X0.here hx rfl (hb hby at_30) rfl ?_
      show Steps p.tables e below (s₁.setTop (mkF m 32 #[.val (.int u0), .val (.int u1), .val (.int u2), .val (.int u3), .val (.int u4), .val (.int (2 : Int32)), .unset, .unset, .unset, .unset, .unset, .unset, .unset] [(.int (2 : Int32))])) tt
      refine XS.iconst X0.here hx rfl (hb hby at_32) ?_
      show Steps p.tables e below (s₁.setTop (mkF m 33 #[.val (.int u0), .val (.int u1), .val (.int u2), .val (.int u3), .val (.int u4), .val (.int (2 : Int32)), .unset, .unset, .unset, .unset, .unset, .unset, .unset] [(.int (2 : Int32)), (.int (2 : Int32))])) tt
      refine XS.icmpNo X0.here hx rfl (hb hby at_33) rfl (teq (rfl : (2 : Int32) = (2 : Int32))).2 ?_
      show Steps p.tables e below (s₁.setTop (mkF m 36 #[.val (.int u0), .val (.int u1), .val (.int u2), .val (.int u3), .val (.int u4), .val (.int (2 : Int32)), .unset, .unset, .unset, .unset, .unset, .unset, .unset] [])) tt
      refine XS.iconst X0.here hx rfl (hb hby at_36) ?_
      exact kk
    obtain ⟨T5, h5, k5, X5, e5, E5, A5, st5⟩ := newP X0 hx hZ (hw _ (mw 0 rfl)) e0 (g := (mkF m 37 #[.val (.int u0), .val (.int u1), .val (.int u2), .val (.int u3), .val (.int u4), .val (.int (2 : Int32)), .unset, .unset, .unset, .unset, .unset, .unset, .unset] [(.int (2 : Int32))])) rfl (hb hby at_37) rfl (by decide) (cap := 2) (by decide) (by decide) (by decide) (by decide)
    obtain ⟨b5, g5⟩ : ∃ z, z = h0.size := ⟨_, rfl⟩
    rw [← g5] at A5 st5
    have g_b5 : n0 ≤ b5 := Nat.le_trans Z0 (Nat.le_of_eq g5.symm)
    have V5 : Ary Z h5 b5 .double [(.double (0 : UInt64)), (.double (0 : UInt64))] := Ary.new A5 rfl
    refine Goal.to (B := T5.setTop (mkF m 39 #[.val (.int u0), .val (.int u1), .val (.int u2), .val (.int u3), .val (.int u4), .val (.int (2 : Int32)), .unset, .unset, .unset, .unset, .unset, .unset, .unset] [(.ref b5)])) st5 ?_
    refine Goal.to (B := T5.setTop (mkF m 43 #[.val (.int u0), .val (.int u1), .val (.int u2), .val (.int u3), .val (.int u4), .val (.int (2 : Int32)), .unset, .unset, .unset, .unset, .unset, .unset, .unset] [(.double (FP.l2d (u1.toInt64))), (.int (0 : Int32)), (.ref b5), (.ref b5)])) (fun tt kk => ?_) ?_
    · show Steps p.tables e below (T5.setTop (mkF m 39 #[.val (.int u0), .val (.int u1), .val (.int u2), .val (.int u3), .val (.int u4), .val (.int (2 : Int32)), .unset, .unset, .unset, .unset, .unset, .unset, .unset] [(.ref b5)])) tt
      refine XS.dup X5.here hx rfl (hb hby at_39) rfl rfl ?_
      show Steps p.tables e below (T5.setTop (mkF m 40 #[.val (.int u0), .val (.int u1), .val (.int u2), .val (.int u3), .val (.int u4), .val (.int (2 : Int32)), .unset, .unset, .unset, .unset, .unset, .unset, .unset] [(.ref b5), (.ref b5)])) tt
      refine XS.iconst X5.here hx rfl (hb hby at_40) ?_
      show Steps p.tables e below (T5.setTop (mkF m 41 #[.val (.int u0), .val (.int u1), .val (.int u2), .val (.int u3), .val (.int u4), .val (.int (2 : Int32)), .unset, .unset, .unset, .unset, .unset, .unset, .unset] [(.int (0 : Int32)), (.ref b5), (.ref b5)])) tt
      refine XS.iloadN X5.here hx rfl (hb hby at_41) rfl ?_
      show Steps p.tables e below (T5.setTop (mkF m 42 #[.val (.int u0), .val (.int u1), .val (.int u2), .val (.int u3), .val (.int u4), .val (.int (2 : Int32)), .unset, .unset, .unset, .unset, .unset, .unset, .unset] [(.int u1), (.int (0 : Int32)), (.ref b5), (.ref b5)])) tt
      refine XS.i2dS X5.here hx rfl (hb hby at_42) rfl (i2d_w _) ?_
      exact kk
    obtain ⟨cl6, Ar6, Sl6⟩ := id V5
    have hin6 := inA (cl := cl6) Sl6 (j := (0 : Int32)) (by decide) (Nat.le_of_ble_eq_true rfl)
    obtain ⟨T6, h6, X6, e6, W6, st6⟩ := stD X5 hx hZ e5 Ar6 (j := (0 : Int32)) hin6 (g := (mkF m 43 #[.val (.int u0), .val (.int u1), .val (.int u2), .val (.int u3), .val (.int u4), .val (.int (2 : Int32)), .unset, .unset, .unset, .unset, .unset, .unset, .unset] [(.double (FP.l2d (u1.toInt64))), (.int (0 : Int32)), (.ref b5), (.ref b5)])) rfl rfl (hb hby at_43)
    have V6 : Ary Z h6 b5 .double [(.double (FP.l2d (u1.toInt64))), (.double (0 : UInt64))] := Ary.put Ar6 Sl6 W6 rfl
    have N6 := Fr.snoc X6 N0 g_b5
    refine Goal.to (B := T6.setTop (mkF m 44 #[.val (.int u0), .val (.int u1), .val (.int u2), .val (.int u3), .val (.int u4), .val (.int (2 : Int32)), .unset, .unset, .unset, .unset, .unset, .unset, .unset] [(.ref b5)])) st6 ?_
    refine Goal.to (B := T6.setTop (mkF m 48 #[.val (.int u0), .val (.int u1), .val (.int u2), .val (.int u3), .val (.int u4), .val (.int (2 : Int32)), .unset, .unset, .unset, .unset, .unset, .unset, .unset] [(.double (FP.l2d (u2.toInt64))), (.int (1 : Int32)), (.ref b5), (.ref b5)])) (fun tt kk => ?_) ?_
    · show Steps p.tables e below (T6.setTop (mkF m 44 #[.val (.int u0), .val (.int u1), .val (.int u2), .val (.int u3), .val (.int u4), .val (.int (2 : Int32)), .unset, .unset, .unset, .unset, .unset, .unset, .unset] [(.ref b5)])) tt
      refine XS.dup X6.here hx rfl (hb hby at_44) rfl rfl ?_
      show Steps p.tables e below (T6.setTop (mkF m 45 #[.val (.int u0), .val (.int u1), .val (.int u2), .val (.int u3), .val (.int u4), .val (.int (2 : Int32)), .unset, .unset, .unset, .unset, .unset, .unset, .unset] [(.ref b5), (.ref b5)])) tt
      refine XS.iconst X6.here hx rfl (hb hby at_45) ?_
      show Steps p.tables e below (T6.setTop (mkF m 46 #[.val (.int u0), .val (.int u1), .val (.int u2), .val (.int u3), .val (.int u4), .val (.int (2 : Int32)), .unset, .unset, .unset, .unset, .unset, .unset, .unset] [(.int (1 : Int32)), (.ref b5), (.ref b5)])) tt
      refine XS.iloadN X6.here hx rfl (hb hby at_46) rfl ?_
      show Steps p.tables e below (T6.setTop (mkF m 47 #[.val (.int u0), .val (.int u1), .val (.int u2), .val (.int u3), .val (.int u4), .val (.int (2 : Int32)), .unset, .unset, .unset, .unset, .unset, .unset, .unset] [(.int u2), (.int (1 : Int32)), (.ref b5), (.ref b5)])) tt
      refine XS.i2dS X6.here hx rfl (hb hby at_47) rfl (i2d_w _) ?_
      exact kk
    obtain ⟨cl7, Ar7, Sl7⟩ := id V6
    have hin7 := inA (cl := cl7) Sl7 (j := (1 : Int32)) (by decide) (Nat.le_of_ble_eq_true rfl)
    obtain ⟨T7, h7, X7, e7, W7, st7⟩ := stD X6 hx hZ e6 Ar7 (j := (1 : Int32)) hin7 (g := (mkF m 48 #[.val (.int u0), .val (.int u1), .val (.int u2), .val (.int u3), .val (.int u4), .val (.int (2 : Int32)), .unset, .unset, .unset, .unset, .unset, .unset, .unset] [(.double (FP.l2d (u2.toInt64))), (.int (1 : Int32)), (.ref b5), (.ref b5)])) rfl rfl (hb hby at_48)
    have V7 : Ary Z h7 b5 .double [(.double (FP.l2d (u1.toInt64))), (.double (FP.l2d (u2.toInt64)))] := Ary.put Ar7 Sl7 W7 rfl
    have N7 := Fr.snoc X7 N6 g_b5
    refine Goal.to (B := T7.setTop (mkF m 49 #[.val (.int u0), .val (.int u1), .val (.int u2), .val (.int u3), .val (.int u4), .val (.int (2 : Int32)), .unset, .unset, .unset, .unset, .unset, .unset, .unset] [(.ref b5)])) st7 ?_
    refine Goal.to (B := T7.setTop (mkF m 151 #[.val (.int u0), .val (.int u1), .val (.int u2), .val (.int u3), .val (.int u4), .val (.int (2 : Int32)), .val (.ref b5), .val (.long ((u1.toInt64) + (u2.toInt64))), .second, .val (.double (FP.ddiv (FP.l2d ((u1.toInt64) + (u2.toInt64))) (FP.l2d ((2 : Int32).toInt64)))), .second, .unset, .unset] [(.ref b5)])) (fun tt kk => ?_) ?_
    · show Steps p.tables e below (T7.setTop (mkF m 49 #[.val (.int u0), .val (.int u1), .val (.int u2), .val (.int u3), .val (.int u4), .val (.int (2 : Int32)), .unset, .unset, .unset, .unset, .unset, .unset, .unset] [(.ref b5)])) tt
      refine XS.astore X7.here hx rfl (hb hby at_49) rfl rfl (l' := #[.val (.int u0), .val (.int u1), .val (.int u2), .val (.int u3), .val (.int u4), .val (.int (2 : Int32)), .val (.ref b5), .unset, .unset, .unset, .unset, .unset, .unset]) rfl ?_
      show Steps p.tables e below (T7.setTop (mkF m 51 #[.val (.int u0), .val (.int u1), .val (.int u2), .val (.int u3), .val (.int u4), .val (.int (2 : Int32)), .val (.ref b5), .unset, .unset, .unset, .unset, .unset, .unset] [])) tt
      refine XS.iloadN X7.here hx rfl (hb hby at_51) rfl ?_
      show Steps p.tables e below (T7.setTop (mkF m 52 #[.val (.int u0), .val (.int u1), .val (.int u2), .val (.int u3), .val (.int u4), .val (.int (2 : Int32)), .val (.ref b5), .unset, .unset, .unset, .unset, .unset, .unset] [(.int u1)])) tt
      refine XS.i2l X7.here hx rfl (hb hby at_52) rfl ?_
      show Steps p.tables e below (T7.setTop (mkF m 53 #[.val (.int u0), .val (.int u1), .val (.int u2), .val (.int u3), .val (.int u4), .val (.int (2 : Int32)), .val (.ref b5), .unset, .unset, .unset, .unset, .unset, .unset] [(.long (u1.toInt64))])) tt
      refine XS.iloadN X7.here hx rfl (hb hby at_53) rfl ?_
      show Steps p.tables e below (T7.setTop (mkF m 54 #[.val (.int u0), .val (.int u1), .val (.int u2), .val (.int u3), .val (.int u4), .val (.int (2 : Int32)), .val (.ref b5), .unset, .unset, .unset, .unset, .unset, .unset] [(.int u2), (.long (u1.toInt64))])) tt
      refine XS.i2l X7.here hx rfl (hb hby at_54) rfl ?_
      show Steps p.tables e below (T7.setTop (mkF m 55 #[.val (.int u0), .val (.int u1), .val (.int u2), .val (.int u3), .val (.int u4), .val (.int (2 : Int32)), .val (.ref b5), .unset, .unset, .unset, .unset, .unset, .unset] [(.long (u2.toInt64)), (.long (u1.toInt64))])) tt
      refine XS.ladd X7.here hx rfl (hb hby at_55) rfl ?_
      show Steps p.tables e below (T7.setTop (mkF m 56 #[.val (.int u0), .val (.int u1), .val (.int u2), .val (.int u3), .val (.int u4), .val (.int (2 : Int32)), .val (.ref b5), .unset, .unset, .unset, .unset, .unset, .unset] [(.long ((u1.toInt64) + (u2.toInt64)))])) tt
      refine XS.lstore X7.here hx rfl (hb hby at_56) rfl (l' := #[.val (.int u0), .val (.int u1), .val (.int u2), .val (.int u3), .val (.int u4), .val (.int (2 : Int32)), .val (.ref b5), .val (.long ((u1.toInt64) + (u2.toInt64))), .second, .unset, .unset, .unset, .unset]) rfl ?_
      show Steps p.tables e below (T7.setTop (mkF m 58 #[.val (.int u0), .val (.int u1), .val (.int u2), .val (.int u3), .val (.int u4), .val (.int (2 : Int32)), .val (.ref b5), .val (.long ((u1.toInt64) + (u2.toInt64))), .second, .unset, .unset, .unset, .unset] [])) tt
      refine XS.goto X7.here hx rfl (pc0 := 58) (pc' := 140) rfl (hb hby at_58) (by decide) (by decide) ?_
      show Steps p.tables e below (T7.setTop (mkF m 140 #[.val (.int u0), .val (.int u1), .val (.int u2), .val (.int u3), .val (.int u4), .val (.int (2 : Int32)), .val (.ref b5), .val (.long ((u1.toInt64) + (u2.toInt64))), .second, .unset, .unset, .unset, .unset] [])) tt
      refine XS.lload X7.here hx rfl (hb hby at_140) rfl ?_
      show Steps p.tables e below (T7.setTop (mkF m 142 #[.val (.int u0), .val (.int u1), .val (.int u2), .val (.int u3), .val (.int u4), .val (.int (2 : Int32)), .val (.ref b5), .val (.long ((u1.toInt64) + (u2.toInt64))), .second, .unset, .unset, .unset, .unset] [(.long ((u1.toInt64) + (u2.toInt64)))])) tt
      refine XS.l2dS X7.here hx rfl (hb hby at_142) rfl rfl ?_
      show Steps p.tables e below (T7.setTop (mkF m 143 #[.val (.int u0), .val (.int u1), .val (.int u2), .val (.int u3), .val (.int u4), .val (.int (2 : Int32)), .val (.ref b5), .val (.long ((u1.toInt64) + (u2.toInt64))), .second, .unset, .unset, .unset, .unset] [(.double (FP.l2d ((u1.toInt64) + (u2.toInt64))))])) tt
      refine XS.iload X7.here hx rfl (hb hby at_143) rfl ?_
      show Steps p.tables e below (T7.setTop (mkF m 145 #[.val (.int u0), .val (.int u1), .val (.int u2), .val (.int u3), .val (.int u4), .val (.int (2 : Int32)), .val (.ref b5), .val (.long ((u1.toInt64) + (u2.toInt64))), .second, .unset, .unset, .unset, .unset] [(.int (2 : Int32)), (.double (FP.l2d ((u1.toInt64) + (u2.toInt64))))])) tt
      refine XS.i2dS X7.here hx rfl (hb hby at_145) rfl (i2d_w _) ?_
      show Steps p.tables e below (T7.setTop (mkF m 146 #[.val (.int u0), .val (.int u1), .val (.int u2), .val (.int u3), .val (.int u4), .val (.int (2 : Int32)), .val (.ref b5), .val (.long ((u1.toInt64) + (u2.toInt64))), .second, .unset, .unset, .unset, .unset] [(.double (FP.l2d ((2 : Int32).toInt64))), (.double (FP.l2d ((u1.toInt64) + (u2.toInt64))))])) tt
      refine XS.ddivS X7.here hx rfl (hb hby at_146) rfl (own_nn _ (by decide)) rfl ?_
      show Steps p.tables e below (T7.setTop (mkF m 147 #[.val (.int u0), .val (.int u1), .val (.int u2), .val (.int u3), .val (.int u4), .val (.int (2 : Int32)), .val (.ref b5), .val (.long ((u1.toInt64) + (u2.toInt64))), .second, .unset, .unset, .unset, .unset] [(.double (FP.ddiv (FP.l2d ((u1.toInt64) + (u2.toInt64))) (FP.l2d ((2 : Int32).toInt64))))])) tt
      refine XS.dstore X7.here hx rfl (hb hby at_147) rfl (l' := #[.val (.int u0), .val (.int u1), .val (.int u2), .val (.int u3), .val (.int u4), .val (.int (2 : Int32)), .val (.ref b5), .val (.long ((u1.toInt64) + (u2.toInt64))), .second, .val (.double (FP.ddiv (FP.l2d ((u1.toInt64) + (u2.toInt64))) (FP.l2d ((2 : Int32).toInt64)))), .second, .unset, .unset]) rfl ?_
      show Steps p.tables e below (T7.setTop (mkF m 149 #[.val (.int u0), .val (.int u1), .val (.int u2), .val (.int u3), .val (.int u4), .val (.int (2 : Int32)), .val (.ref b5), .val (.long ((u1.toInt64) + (u2.toInt64))), .second, .val (.double (FP.ddiv (FP.l2d ((u1.toInt64) + (u2.toInt64))) (FP.l2d ((2 : Int32).toInt64)))), .second, .unset, .unset] [])) tt
      refine XS.aload X7.here hx rfl (hb hby at_149) rfl rfl ?_
      exact kk
    have f8 : n0 ≤ h7.size := (Nat.le_trans (Nat.le_trans (Nat.le_trans Z0 E5.1) (Keep.of_wr W6).1) (Keep.of_wr W7).1)
    obtain ⟨_, _, ⟨T9, L9, k9, n9⟩, -, X9, ⟨Lc9, hQ9, l9, y9, z9⟩, st9⟩ := Jvm.LawKit.callS X7 hx (y := (⟨"com/example/enodia/enodia/compare/MeanInterval", "mean", "([D)D"⟩ : MethodName)) hown (mvT hZ (hw _ (mw 1 rfl))) (mvT hZ (hw _ (mw 2 rfl))) (mvT hZ (hw _ (mw 3 rfl))) (mvT hZ (hw _ (mw 4 rfl))) (by decide) (backOf (W := 0) (rmm2 l Z a0 hw [] b5 (u1.toInt64) (u2.toInt64) h7 n0 f8 V7 (own_i u1) (own_i u2)) hZ (hw _ (mw 4 rfl)) (hw _ (mw 3 rfl)) (by decide) (by decide)) (g := (mkF m 151 #[.val (.int u0), .val (.int u1), .val (.int u2), .val (.int u3), .val (.int u4), .val (.int (2 : Int32)), .val (.ref b5), .val (.long ((u1.toInt64) + (u2.toInt64))), .second, .val (.double (FP.ddiv (FP.l2d ((u1.toInt64) + (u2.toInt64))) (FP.l2d ((2 : Int32).toInt64)))), .second, .unset, .unset] [(.ref b5)])) rfl (by rw [hml]; rfl) (argsL := [(.ref b5)]) (rest := []) (lenOf pd_0 rfl) rfl (by show 2 * 0 + _ ≤ _; exact Nat.le_of_eq rfl) (hb hby at_151) (fun _ _ => ⟨rfl, e7, (by decide : 1 + 0 ≤ _), (by decide : 2 + 0 ≤ _)⟩)
    dsimp only [Pt.U, Pt.locs, Pt.cells, Pt.slots] at X9 l9 y9 z9 st9 hQ9
    subst l9 y9 z9
    obtain ⟨rfl, N9q, e9⟩ := hQ9
    have N9 := Fr.app N7 N9q
    refine Goal.to (B := T9.setTop (mkF m 154 #[.val (.int u0), .val (.int u1), .val (.int u2), .val (.int u3), .val (.int u4), .val (.int (2 : Int32)), .val (.ref b5), .val (.long ((u1.toInt64) + (u2.toInt64))), .second, .val (.double (FP.ddiv (FP.l2d ((u1.toInt64) + (u2.toInt64))) (FP.l2d ((2 : Int32).toInt64)))), .second, .unset, .unset] [(.double (FP.ddiv (FP.l2d ((u1.toInt64) + (u2.toInt64))) (FP.l2d ((2 : Int32).toInt64))))])) st9 ?_
    refine Goal.to (B := T9.setTop (mkF m 169 #[.val (.int u0), .val (.int u1), .val (.int u2), .val (.int u3), .val (.int u4), .val (.int (2 : Int32)), .val (.ref b5), .val (.long ((u1.toInt64) + (u2.toInt64))), .second, .val (.double (FP.ddiv (FP.l2d ((u1.toInt64) + (u2.toInt64))) (FP.l2d ((2 : Int32).toInt64)))), .second, .val (.double (FP.ddiv (FP.l2d ((u1.toInt64) + (u2.toInt64))) (FP.l2d ((2 : Int32).toInt64)))), .second] [(.int (1 : Int32))])) (fun tt kk => ?_) ?_
    · show Steps p.tables e below (T9.setTop (mkF m 154 #[.val (.int u0), .val (.int u1), .val (.int u2), .val (.int u3), .val (.int u4), .val (.int (2 : Int32)), .val (.ref b5), .val (.long ((u1.toInt64) + (u2.toInt64))), .second, .val (.double (FP.ddiv (FP.l2d ((u1.toInt64) + (u2.toInt64))) (FP.l2d ((2 : Int32).toInt64)))), .second, .unset, .unset] [(.double (FP.ddiv (FP.l2d ((u1.toInt64) + (u2.toInt64))) (FP.l2d ((2 : Int32).toInt64))))])) tt
      refine XS.dstore X9.here hx rfl (hb hby at_154) rfl (l' := #[.val (.int u0), .val (.int u1), .val (.int u2), .val (.int u3), .val (.int u4), .val (.int (2 : Int32)), .val (.ref b5), .val (.long ((u1.toInt64) + (u2.toInt64))), .second, .val (.double (FP.ddiv (FP.l2d ((u1.toInt64) + (u2.toInt64))) (FP.l2d ((2 : Int32).toInt64)))), .second, .val (.double (FP.ddiv (FP.l2d ((u1.toInt64) + (u2.toInt64))) (FP.l2d ((2 : Int32).toInt64)))), .second]) rfl ?_
      show Steps p.tables e below (T9.setTop (mkF m 156 #[.val (.int u0), .val (.int u1), .val (.int u2), .val (.int u3), .val (.int u4), .val (.int (2 : Int32)), .val (.ref b5), .val (.long ((u1.toInt64) + (u2.toInt64))), .second, .val (.double (FP.ddiv (FP.l2d ((u1.toInt64) + (u2.toInt64))) (FP.l2d ((2 : Int32).toInt64)))), .second, .val (.double (FP.ddiv (FP.l2d ((u1.toInt64) + (u2.toInt64))) (FP.l2d ((2 : Int32).toInt64)))), .second] [])) tt
      refine XS.dload X9.here hx rfl (hb hby at_156) rfl ?_
      show Steps p.tables e below (T9.setTop (mkF m 158 #[.val (.int u0), .val (.int u1), .val (.int u2), .val (.int u3), .val (.int u4), .val (.int (2 : Int32)), .val (.ref b5), .val (.long ((u1.toInt64) + (u2.toInt64))), .second, .val (.double (FP.ddiv (FP.l2d ((u1.toInt64) + (u2.toInt64))) (FP.l2d ((2 : Int32).toInt64)))), .second, .val (.double (FP.ddiv (FP.l2d ((u1.toInt64) + (u2.toInt64))) (FP.l2d ((2 : Int32).toInt64)))), .second] [(.double (FP.ddiv (FP.l2d ((u1.toInt64) + (u2.toInt64))) (FP.l2d ((2 : Int32).toInt64))))])) tt
      refine XS.dload X9.here hx rfl (hb hby at_158) rfl ?_
      show Steps p.tables e below (T9.setTop (mkF m 160 #[.val (.int u0), .val (.int u1), .val (.int u2), .val (.int u3), .val (.int u4), .val (.int (2 : Int32)), .val (.ref b5), .val (.long ((u1.toInt64) + (u2.toInt64))), .second, .val (.double (FP.ddiv (FP.l2d ((u1.toInt64) + (u2.toInt64))) (FP.l2d ((2 : Int32).toInt64)))), .second, .val (.double (FP.ddiv (FP.l2d ((u1.toInt64) + (u2.toInt64))) (FP.l2d ((2 : Int32).toInt64)))), .second] [(.double (FP.ddiv (FP.l2d ((u1.toInt64) + (u2.toInt64))) (FP.l2d ((2 : Int32).toInt64)))), (.double (FP.ddiv (FP.l2d ((u1.toInt64) + (u2.toInt64))) (FP.l2d ((2 : Int32).toInt64))))])) tt
      refine XS.dcmpS X9.here hx rfl (hb hby at_160) rfl (dcmpV_eq rfl (own_nn _ (by decide)) _) ?_
      show Steps p.tables e below (T9.setTop (mkF m 161 #[.val (.int u0), .val (.int u1), .val (.int u2), .val (.int u3), .val (.int u4), .val (.int (2 : Int32)), .val (.ref b5), .val (.long ((u1.toInt64) + (u2.toInt64))), .second, .val (.double (FP.ddiv (FP.l2d ((u1.toInt64) + (u2.toInt64))) (FP.l2d ((2 : Int32).toInt64)))), .second, .val (.double (FP.ddiv (FP.l2d ((u1.toInt64) + (u2.toInt64))) (FP.l2d ((2 : Int32).toInt64)))), .second] [(.int (0 : Int32))])) tt
      refine XS.ifNo X9.here hx rfl (hb hby at_161) rfl ((if0 _ _).trans (teq (rfl : (0 : Int32) = (0 : Int32))).2) ?_
      show Steps p.tables e below (T9.setTop (mkF m 164 #[.val (.int u0), .val (.int u1), .val (.int u2), .val (.int u3), .val (.int u4), .val (.int (2 : Int32)), .val (.ref b5), .val (.long ((u1.toInt64) + (u2.toInt64))), .second, .val (.double (FP.ddiv (FP.l2d ((u1.toInt64) + (u2.toInt64))) (FP.l2d ((2 : Int32).toInt64)))), .second, .val (.double (FP.ddiv (FP.l2d ((u1.toInt64) + (u2.toInt64))) (FP.l2d ((2 : Int32).toInt64)))), .second] [])) tt
      refine XS.iconst X9.here hx rfl (hb hby at_164) ?_
      show Steps p.tables e below (T9.setTop (mkF m 165 #[.val (.int u0), .val (.int u1), .val (.int u2), .val (.int u3), .val (.int u4), .val (.int (2 : Int32)), .val (.ref b5), .val (.long ((u1.toInt64) + (u2.toInt64))), .second, .val (.double (FP.ddiv (FP.l2d ((u1.toInt64) + (u2.toInt64))) (FP.l2d ((2 : Int32).toInt64)))), .second, .val (.double (FP.ddiv (FP.l2d ((u1.toInt64) + (u2.toInt64))) (FP.l2d ((2 : Int32).toInt64)))), .second] [(.int (1 : Int32))])) tt
      refine XS.goto X9.here hx rfl (pc0 := 165) (pc' := 169) rfl (hb hby at_165) (by decide) (by decide) ?_
      exact kk
    exact Goal.retV X9 hx Bd.returns rfl (Or.inl ⟨rfl, Or.inr (Or.inl rfl), _, rfl⟩) (hb hby at_169) hlk e9 ⟨rfl, N9⟩ (by decide) (by decide)
  · refine Goal.to (B := s₁.setTop (mkF m 68 #[.val (.int u0), .val (.int u1), .val (.int u2), .val (.int u3), .val (.int u4), .val (.int (3 : Int32)), .unset, .unset, .unset, .unset, .unset, .unset, .unset] [(.int (3 : Int32))])) (fun tt kk => ?_) ?_
    · show Steps p.tables e below (s₁.setTop (mkF m 9 #[.val (.int u0), .val (.int u1), .val (.int u2), .val (.int u3), .val (.int u4), .val (.int (3 : Int32)), .unset, .unset, .unset, .unset, .unset, .unset, .unset] [(.int (3 : Int32))])) tt
      refine XS.iconst X0.here hx rfl (hb hby at_9) ?_
      show Steps p.tables e below (s₁.setTop (mkF m 10 #[.val (.int u0), .val (.int u1), .val (.int u2), .val (.int u3), .val (.int u4), .val (.int (3 : Int32)), .unset, .unset, .unset, .unset, .unset, .unset, .unset] [(.int (1 : Int32)), (.int (3 : Int32))])) tt
      refine XS.icmpYes X0.here hx rfl (pc0 := 10) (pc' := 30) rfl (hb hby at_10) rfl (feq ((by decide) : ¬ ((3 : Int32) = (1 : Int32)))).2 (by decide) (by decide) ?_
      show Steps p.tables e below (s₁.setTop (mkF m 30 #[.val (.int u0), .val (.int u1), .val (.int u2), .val (.int u3), .val (.int u4), .val (.int (3 : Int32)), .unset, .unset, .unset, .unset, .unset, .unset, .unset] [])) tt
      refine XS.iload X0.here hx rfl (hb hby at_30) rfl ?_
      show Steps p.tables e below (s₁.setTop (mkF m 32 #[.val (.int u0), .val (.int u1), .val (.int u2), .val (.int u3), .val (.int u4), .val (.int (3 : Int32)), .unset, .unset, .unset, .unset, .unset, .unset, .unset] [(.int (3 : Int32))])) tt
      refine XS.iconst X0.here hx rfl (hb hby at_32) ?_
      show Steps p.tables e below (s₁.setTop (mkF m 33 #[.val (.int u0), .val (.int u1), .val (.int u2), .val (.int u3), .val (.int u4), .val (.int (3 : Int32)), .unset, .unset, .unset, .unset, .unset, .unset, .unset] [(.int (2 : Int32)), (.int (3 : Int32))])) tt
      refine XS.icmpYes X0.here hx rfl (pc0 := 33) (pc' := 61) rfl (hb hby at_33) rfl (feq ((by decide) : ¬ ((3 : Int32) = (2 : Int32)))).2 (by decide) (by decide) ?_
      show Steps p.tables e below (s₁.setTop (mkF m 61 #[.val (.int u0), .val (.int u1), .val (.int u2), .val (.int u3), .val (.int u4), .val (.int (3 : Int32)), .unset, .unset, .unset, .unset, .unset, .unset, .unset] [])) tt
      refine XS.iload X0.here hx rfl (hb hby at_61) rfl ?_
      show Steps p.tables e below (s₁.setTop (mkF m 63 #[.val (.int u0), .val (.int u1), .val (.int u2), .val (.int u3), .val (.int u4), .val (.int (3 : Int32)), .unset, .unset, .unset, .unset, .unset, .unset, .unset] [(.int (3 : Int32))])) tt
      refine XS.iconst X0.here hx rfl (hb hby at_63) ?_
      show Steps p.tables e below (s₁.setTop (mkF m 64 #[.val (.int u0), .val (.int u1), .val (.int u2), .val (.int u3), .val (.int u4), .val (.int (3 : Int32)), .unset, .unset, .unset, .unset, .unset, .unset, .unset] [(.int (3 : Int32)), (.int (3 : Int32))])) tt
      refine XS.icmpNo X0.here hx rfl (hb hby at_64) rfl (teq (rfl : (3 : Int32) = (3 : Int32))).2 ?_
      show Steps p.tables e below (s₁.setTop (mkF m 67 #[.val (.int u0), .val (.int u1), .val (.int u2), .val (.int u3), .val (.int u4), .val (.int (3 : Int32)), .unset, .unset, .unset, .unset, .unset, .unset, .unset] [])) tt
      refine XS.iconst X0.here hx rfl (hb hby at_67) ?_
      exact kk
    obtain ⟨T10, h10, k10, X10, e10, E10, A10, st10⟩ := newP X0 hx hZ (hw _ (mw 0 rfl)) e0 (g := (mkF m 68 #[.val (.int u0), .val (.int u1), .val (.int u2), .val (.int u3), .val (.int u4), .val (.int (3 : Int32)), .unset, .unset, .unset, .unset, .unset, .unset, .unset] [(.int (3 : Int32))])) rfl (hb hby at_68) rfl (by decide) (cap := 3) (by decide) (by decide) (by decide) (by decide)
    obtain ⟨b10, g10⟩ : ∃ z, z = h0.size := ⟨_, rfl⟩
    rw [← g10] at A10 st10
    have g_b10 : n0 ≤ b10 := Nat.le_trans Z0 (Nat.le_of_eq g10.symm)
    have V10 : Ary Z h10 b10 .double [(.double (0 : UInt64)), (.double (0 : UInt64)), (.double (0 : UInt64))] := Ary.new A10 rfl
    refine Goal.to (B := T10.setTop (mkF m 70 #[.val (.int u0), .val (.int u1), .val (.int u2), .val (.int u3), .val (.int u4), .val (.int (3 : Int32)), .unset, .unset, .unset, .unset, .unset, .unset, .unset] [(.ref b10)])) st10 ?_
    refine Goal.to (B := T10.setTop (mkF m 74 #[.val (.int u0), .val (.int u1), .val (.int u2), .val (.int u3), .val (.int u4), .val (.int (3 : Int32)), .unset, .unset, .unset, .unset, .unset, .unset, .unset] [(.double (FP.l2d (u1.toInt64))), (.int (0 : Int32)), (.ref b10), (.ref b10)])) (fun tt kk => ?_) ?_
    · show Steps p.tables e below (T10.setTop (mkF m 70 #[.val (.int u0), .val (.int u1), .val (.int u2), .val (.int u3), .val (.int u4), .val (.int (3 : Int32)), .unset, .unset, .unset, .unset, .unset, .unset, .unset] [(.ref b10)])) tt
      refine XS.dup X10.here hx rfl (hb hby at_70) rfl rfl ?_
      show Steps p.tables e below (T10.setTop (mkF m 71 #[.val (.int u0), .val (.int u1), .val (.int u2), .val (.int u3), .val (.int u4), .val (.int (3 : Int32)), .unset, .unset, .unset, .unset, .unset, .unset, .unset] [(.ref b10), (.ref b10)])) tt
      refine XS.iconst X10.here hx rfl (hb hby at_71) ?_
      show Steps p.tables e below (T10.setTop (mkF m 72 #[.val (.int u0), .val (.int u1), .val (.int u2), .val (.int u3), .val (.int u4), .val (.int (3 : Int32)), .unset, .unset, .unset, .unset, .unset, .unset, .unset] [(.int (0 : Int32)), (.ref b10), (.ref b10)])) tt
      refine XS.iloadN X10.here hx rfl (hb hby at_72) rfl ?_
      show Steps p.tables e below (T10.setTop (mkF m 73 #[.val (.int u0), .val (.int u1), .val (.int u2), .val (.int u3), .val (.int u4), .val (.int (3 : Int32)), .unset, .unset, .unset, .unset, .unset, .unset, .unset] [(.int u1), (.int (0 : Int32)), (.ref b10), (.ref b10)])) tt
      refine XS.i2dS X10.here hx rfl (hb hby at_73) rfl (i2d_w _) ?_
      exact kk
    obtain ⟨cl11, Ar11, Sl11⟩ := id V10
    have hin11 := inA (cl := cl11) Sl11 (j := (0 : Int32)) (by decide) (Nat.le_of_ble_eq_true rfl)
    obtain ⟨T11, h11, X11, e11, W11, st11⟩ := stD X10 hx hZ e10 Ar11 (j := (0 : Int32)) hin11 (g := (mkF m 74 #[.val (.int u0), .val (.int u1), .val (.int u2), .val (.int u3), .val (.int u4), .val (.int (3 : Int32)), .unset, .unset, .unset, .unset, .unset, .unset, .unset] [(.double (FP.l2d (u1.toInt64))), (.int (0 : Int32)), (.ref b10), (.ref b10)])) rfl rfl (hb hby at_74)
    have V11 : Ary Z h11 b10 .double [(.double (FP.l2d (u1.toInt64))), (.double (0 : UInt64)), (.double (0 : UInt64))] := Ary.put Ar11 Sl11 W11 rfl
    have N11 := Fr.snoc X11 N0 g_b10
    refine Goal.to (B := T11.setTop (mkF m 75 #[.val (.int u0), .val (.int u1), .val (.int u2), .val (.int u3), .val (.int u4), .val (.int (3 : Int32)), .unset, .unset, .unset, .unset, .unset, .unset, .unset] [(.ref b10)])) st11 ?_
    refine Goal.to (B := T11.setTop (mkF m 79 #[.val (.int u0), .val (.int u1), .val (.int u2), .val (.int u3), .val (.int u4), .val (.int (3 : Int32)), .unset, .unset, .unset, .unset, .unset, .unset, .unset] [(.double (FP.l2d (u2.toInt64))), (.int (1 : Int32)), (.ref b10), (.ref b10)])) (fun tt kk => ?_) ?_
    · show Steps p.tables e below (T11.setTop (mkF m 75 #[.val (.int u0), .val (.int u1), .val (.int u2), .val (.int u3), .val (.int u4), .val (.int (3 : Int32)), .unset, .unset, .unset, .unset, .unset, .unset, .unset] [(.ref b10)])) tt
      refine XS.dup X11.here hx rfl (hb hby at_75) rfl rfl ?_
      show Steps p.tables e below (T11.setTop (mkF m 76 #[.val (.int u0), .val (.int u1), .val (.int u2), .val (.int u3), .val (.int u4), .val (.int (3 : Int32)), .unset, .unset, .unset, .unset, .unset, .unset, .unset] [(.ref b10), (.ref b10)])) tt
      refine XS.iconst X11.here hx rfl (hb hby at_76) ?_
      show Steps p.tables e below (T11.setTop (mkF m 77 #[.val (.int u0), .val (.int u1), .val (.int u2), .val (.int u3), .val (.int u4), .val (.int (3 : Int32)), .unset, .unset, .unset, .unset, .unset, .unset, .unset] [(.int (1 : Int32)), (.ref b10), (.ref b10)])) tt
      refine XS.iloadN X11.here hx rfl (hb hby at_77) rfl ?_
      show Steps p.tables e below (T11.setTop (mkF m 78 #[.val (.int u0), .val (.int u1), .val (.int u2), .val (.int u3), .val (.int u4), .val (.int (3 : Int32)), .unset, .unset, .unset, .unset, .unset, .unset, .unset] [(.int u2), (.int (1 : Int32)), (.ref b10), (.ref b10)])) tt
      refine XS.i2dS X11.here hx rfl (hb hby at_78) rfl (i2d_w _) ?_
      exact kk
    obtain ⟨cl12, Ar12, Sl12⟩ := id V11
    have hin12 := inA (cl := cl12) Sl12 (j := (1 : Int32)) (by decide) (Nat.le_of_ble_eq_true rfl)
    obtain ⟨T12, h12, X12, e12, W12, st12⟩ := stD X11 hx hZ e11 Ar12 (j := (1 : Int32)) hin12 (g := (mkF m 79 #[.val (.int u0), .val (.int u1), .val (.int u2), .val (.int u3), .val (.int u4), .val (.int (3 : Int32)), .unset, .unset, .unset, .unset, .unset, .unset, .unset] [(.double (FP.l2d (u2.toInt64))), (.int (1 : Int32)), (.ref b10), (.ref b10)])) rfl rfl (hb hby at_79)
    have V12 : Ary Z h12 b10 .double [(.double (FP.l2d (u1.toInt64))), (.double (FP.l2d (u2.toInt64))), (.double (0 : UInt64))] := Ary.put Ar12 Sl12 W12 rfl
    have N12 := Fr.snoc X12 N11 g_b10
    refine Goal.to (B := T12.setTop (mkF m 80 #[.val (.int u0), .val (.int u1), .val (.int u2), .val (.int u3), .val (.int u4), .val (.int (3 : Int32)), .unset, .unset, .unset, .unset, .unset, .unset, .unset] [(.ref b10)])) st12 ?_
    refine Goal.to (B := T12.setTop (mkF m 84 #[.val (.int u0), .val (.int u1), .val (.int u2), .val (.int u3), .val (.int u4), .val (.int (3 : Int32)), .unset, .unset, .unset, .unset, .unset, .unset, .unset] [(.double (FP.l2d (u3.toInt64))), (.int (2 : Int32)), (.ref b10), (.ref b10)])) (fun tt kk => ?_) ?_
    · show Steps p.tables e below (T12.setTop (mkF m 80 #[.val (.int u0), .val (.int u1), .val (.int u2), .val (.int u3), .val (.int u4), .val (.int (3 : Int32)), .unset, .unset, .unset, .unset, .unset, .unset, .unset] [(.ref b10)])) tt
      refine XS.dup X12.here hx rfl (hb hby at_80) rfl rfl ?_
      show Steps p.tables e below (T12.setTop (mkF m 81 #[.val (.int u0), .val (.int u1), .val (.int u2), .val (.int u3), .val (.int u4), .val (.int (3 : Int32)), .unset, .unset, .unset, .unset, .unset, .unset, .unset] [(.ref b10), (.ref b10)])) tt
      refine XS.iconst X12.here hx rfl (hb hby at_81) ?_
      show Steps p.tables e below (T12.setTop (mkF m 82 #[.val (.int u0), .val (.int u1), .val (.int u2), .val (.int u3), .val (.int u4), .val (.int (3 : Int32)), .unset, .unset, .unset, .unset, .unset, .unset, .unset] [(.int (2 : Int32)), (.ref b10), (.ref b10)])) tt
      refine XS.iloadN X12.here hx rfl (hb hby at_82) rfl ?_
      show Steps p.tables e below (T12.setTop (mkF m 83 #[.val (.int u0), .val (.int u1), .val (.int u2), .val (.int u3), .val (.int u4), .val (.int (3 : Int32)), .unset, .unset, .unset, .unset, .unset, .unset, .unset] [(.int u3), (.int (2 : Int32)), (.ref b10), (.ref b10)])) tt
      refine XS.i2dS X12.here hx rfl (hb hby at_83) rfl (i2d_w _) ?_
      exact kk
    obtain ⟨cl13, Ar13, Sl13⟩ := id V12
    have hin13 := inA (cl := cl13) Sl13 (j := (2 : Int32)) (by decide) (Nat.le_of_ble_eq_true rfl)
    obtain ⟨T13, h13, X13, e13, W13, st13⟩ := stD X12 hx hZ e12 Ar13 (j := (2 : Int32)) hin13 (g := (mkF m 84 #[.val (.int u0), .val (.int u1), .val (.int u2), .val (.int u3), .val (.int u4), .val (.int (3 : Int32)), .unset, .unset, .unset, .unset, .unset, .unset, .unset] [(.double (FP.l2d (u3.toInt64))), (.int (2 : Int32)), (.ref b10), (.ref b10)])) rfl rfl (hb hby at_84)
    have V13 : Ary Z h13 b10 .double [(.double (FP.l2d (u1.toInt64))), (.double (FP.l2d (u2.toInt64))), (.double (FP.l2d (u3.toInt64)))] := Ary.put Ar13 Sl13 W13 rfl
    have N13 := Fr.snoc X13 N12 g_b10
    refine Goal.to (B := T13.setTop (mkF m 85 #[.val (.int u0), .val (.int u1), .val (.int u2), .val (.int u3), .val (.int u4), .val (.int (3 : Int32)), .unset, .unset, .unset, .unset, .unset, .unset, .unset] [(.ref b10)])) st13 ?_
    refine Goal.to (B := T13.setTop (mkF m 151 #[.val (.int u0), .val (.int u1), .val (.int u2), .val (.int u3), .val (.int u4), .val (.int (3 : Int32)), .val (.ref b10), .val (.long (((u1.toInt64) + (u2.toInt64)) + (u3.toInt64))), .second, .val (.double (FP.ddiv (FP.l2d (((u1.toInt64) + (u2.toInt64)) + (u3.toInt64))) (FP.l2d ((3 : Int32).toInt64)))), .second, .unset, .unset] [(.ref b10)])) (fun tt kk => ?_) ?_
    · show Steps p.tables e below (T13.setTop (mkF m 85 #[.val (.int u0), .val (.int u1), .val (.int u2), .val (.int u3), .val (.int u4), .val (.int (3 : Int32)), .unset, .unset, .unset, .unset, .unset, .unset, .unset] [(.ref b10)])) tt
      refine XS.astore X13.here hx rfl (hb hby at_85) rfl rfl (l' := #[.val (.int u0), .val (.int u1), .val (.int u2), .val (.int u3), .val (.int u4), .val (.int (3 : Int32)), .val (.ref b10), .unset, .unset, .unset, .unset, .unset, .unset]) rfl ?_
      show Steps p.tables e below (T13.setTop (mkF m 87 #[.val (.int u0), .val (.int u1), .val (.int u2), .val (.int u3), .val (.int u4), .val (.int (3 : Int32)), .val (.ref b10), .unset, .unset, .unset, .unset, .unset, .unset] [])) tt
      refine XS.iloadN X13.here hx rfl (hb hby at_87) rfl ?_
      show Steps p.tables e below (T13.setTop (mkF m 88 #[.val (.int u0), .val (.int u1), .val (.int u2), .val (.int u3), .val (.int u4), .val (.int (3 : Int32)), .val (.ref b10), .unset, .unset, .unset, .unset, .unset, .unset] [(.int u1)])) tt
      refine XS.i2l X13.here hx rfl (hb hby at_88) rfl ?_
      show Steps p.tables e below (T13.setTop (mkF m 89 #[.val (.int u0), .val (.int u1), .val (.int u2), .val (.int u3), .val (.int u4), .val (.int (3 : Int32)), .val (.ref b10), .unset, .unset, .unset, .unset, .unset, .unset] [(.long (u1.toInt64))])) tt
      refine XS.iloadN X13.here hx rfl (hb hby at_89) rfl ?_
      show Steps p.tables e below (T13.setTop (mkF m 90 #[.val (.int u0), .val (.int u1), .val (.int u2), .val (.int u3), .val (.int u4), .val (.int (3 : Int32)), .val (.ref b10), .unset, .unset, .unset, .unset, .unset, .unset] [(.int u2), (.long (u1.toInt64))])) tt
      refine XS.i2l X13.here hx rfl (hb hby at_90) rfl ?_
      show Steps p.tables e below (T13.setTop (mkF m 91 #[.val (.int u0), .val (.int u1), .val (.int u2), .val (.int u3), .val (.int u4), .val (.int (3 : Int32)), .val (.ref b10), .unset, .unset, .unset, .unset, .unset, .unset] [(.long (u2.toInt64)), (.long (u1.toInt64))])) tt
      refine XS.ladd X13.here hx rfl (hb hby at_91) rfl ?_
      show Steps p.tables e below (T13.setTop (mkF m 92 #[.val (.int u0), .val (.int u1), .val (.int u2), .val (.int u3), .val (.int u4), .val (.int (3 : Int32)), .val (.ref b10), .unset, .unset, .unset, .unset, .unset, .unset] [(.long ((u1.toInt64) + (u2.toInt64)))])) tt
      refine XS.iloadN X13.here hx rfl (hb hby at_92) rfl ?_
      show Steps p.tables e below (T13.setTop (mkF m 93 #[.val (.int u0), .val (.int u1), .val (.int u2), .val (.int u3), .val (.int u4), .val (.int (3 : Int32)), .val (.ref b10), .unset, .unset, .unset, .unset, .unset, .unset] [(.int u3), (.long ((u1.toInt64) + (u2.toInt64)))])) tt
      refine XS.i2l X13.here hx rfl (hb hby at_93) rfl ?_
      show Steps p.tables e below (T13.setTop (mkF m 94 #[.val (.int u0), .val (.int u1), .val (.int u2), .val (.int u3), .val (.int u4), .val (.int (3 : Int32)), .val (.ref b10), .unset, .unset, .unset, .unset, .unset, .unset] [(.long (u3.toInt64)), (.long ((u1.toInt64) + (u2.toInt64)))])) tt
      refine XS.ladd X13.here hx rfl (hb hby at_94) rfl ?_
      show Steps p.tables e below (T13.setTop (mkF m 95 #[.val (.int u0), .val (.int u1), .val (.int u2), .val (.int u3), .val (.int u4), .val (.int (3 : Int32)), .val (.ref b10), .unset, .unset, .unset, .unset, .unset, .unset] [(.long (((u1.toInt64) + (u2.toInt64)) + (u3.toInt64)))])) tt
      refine XS.lstore X13.here hx rfl (hb hby at_95) rfl (l' := #[.val (.int u0), .val (.int u1), .val (.int u2), .val (.int u3), .val (.int u4), .val (.int (3 : Int32)), .val (.ref b10), .val (.long (((u1.toInt64) + (u2.toInt64)) + (u3.toInt64))), .second, .unset, .unset, .unset, .unset]) rfl ?_
      show Steps p.tables e below (T13.setTop (mkF m 97 #[.val (.int u0), .val (.int u1), .val (.int u2), .val (.int u3), .val (.int u4), .val (.int (3 : Int32)), .val (.ref b10), .val (.long (((u1.toInt64) + (u2.toInt64)) + (u3.toInt64))), .second, .unset, .unset, .unset, .unset] [])) tt
      refine XS.goto X13.here hx rfl (pc0 := 97) (pc' := 140) rfl (hb hby at_97) (by decide) (by decide) ?_
      show Steps p.tables e below (T13.setTop (mkF m 140 #[.val (.int u0), .val (.int u1), .val (.int u2), .val (.int u3), .val (.int u4), .val (.int (3 : Int32)), .val (.ref b10), .val (.long (((u1.toInt64) + (u2.toInt64)) + (u3.toInt64))), .second, .unset, .unset, .unset, .unset] [])) tt
      refine XS.lload X13.here hx rfl (hb hby at_140) rfl ?_
      show Steps p.tables e below (T13.setTop (mkF m 142 #[.val (.int u0), .val (.int u1), .val (.int u2), .val (.int u3), .val (.int u4), .val (.int (3 : Int32)), .val (.ref b10), .val (.long (((u1.toInt64) + (u2.toInt64)) + (u3.toInt64))), .second, .unset, .unset, .unset, .unset] [(.long (((u1.toInt64) + (u2.toInt64)) + (u3.toInt64)))])) tt
      refine XS.l2dS X13.here hx rfl (hb hby at_142) rfl rfl ?_
      show Steps p.tables e below (T13.setTop (mkF m 143 #[.val (.int u0), .val (.int u1), .val (.int u2), .val (.int u3), .val (.int u4), .val (.int (3 : Int32)), .val (.ref b10), .val (.long (((u1.toInt64) + (u2.toInt64)) + (u3.toInt64))), .second, .unset, .unset, .unset, .unset] [(.double (FP.l2d (((u1.toInt64) + (u2.toInt64)) + (u3.toInt64))))])) tt
      refine XS.iload X13.here hx rfl (hb hby at_143) rfl ?_
      show Steps p.tables e below (T13.setTop (mkF m 145 #[.val (.int u0), .val (.int u1), .val (.int u2), .val (.int u3), .val (.int u4), .val (.int (3 : Int32)), .val (.ref b10), .val (.long (((u1.toInt64) + (u2.toInt64)) + (u3.toInt64))), .second, .unset, .unset, .unset, .unset] [(.int (3 : Int32)), (.double (FP.l2d (((u1.toInt64) + (u2.toInt64)) + (u3.toInt64))))])) tt
      refine XS.i2dS X13.here hx rfl (hb hby at_145) rfl (i2d_w _) ?_
      show Steps p.tables e below (T13.setTop (mkF m 146 #[.val (.int u0), .val (.int u1), .val (.int u2), .val (.int u3), .val (.int u4), .val (.int (3 : Int32)), .val (.ref b10), .val (.long (((u1.toInt64) + (u2.toInt64)) + (u3.toInt64))), .second, .unset, .unset, .unset, .unset] [(.double (FP.l2d ((3 : Int32).toInt64))), (.double (FP.l2d (((u1.toInt64) + (u2.toInt64)) + (u3.toInt64))))])) tt
      refine XS.ddivS X13.here hx rfl (hb hby at_146) rfl (own_nn _ (by decide)) rfl ?_
      show Steps p.tables e below (T13.setTop (mkF m 147 #[.val (.int u0), .val (.int u1), .val (.int u2), .val (.int u3), .val (.int u4), .val (.int (3 : Int32)), .val (.ref b10), .val (.long (((u1.toInt64) + (u2.toInt64)) + (u3.toInt64))), .second, .unset, .unset, .unset, .unset] [(.double (FP.ddiv (FP.l2d (((u1.toInt64) + (u2.toInt64)) + (u3.toInt64))) (FP.l2d ((3 : Int32).toInt64))))])) tt
      refine XS.dstore X13.here hx rfl (hb hby at_147) rfl (l' := #[.val (.int u0), .val (.int u1), .val (.int u2), .val (.int u3), .val (.int u4), .val (.int (3 : Int32)), .val (.ref b10), .val (.long (((u1.toInt64) + (u2.toInt64)) + (u3.toInt64))), .second, .val (.double (FP.ddiv (FP.l2d (((u1.toInt64) + (u2.toInt64)) + (u3.toInt64))) (FP.l2d ((3 : Int32).toInt64)))), .second, .unset, .unset]) rfl ?_
      show Steps p.tables e below (T13.setTop (mkF m 149 #[.val (.int u0), .val (.int u1), .val (.int u2), .val (.int u3), .val (.int u4), .val (.int (3 : Int32)), .val (.ref b10), .val (.long (((u1.toInt64) + (u2.toInt64)) + (u3.toInt64))), .second, .val (.double (FP.ddiv (FP.l2d (((u1.toInt64) + (u2.toInt64)) + (u3.toInt64))) (FP.l2d ((3 : Int32).toInt64)))), .second, .unset, .unset] [])) tt
      refine XS.aload X13.here hx rfl (hb hby at_149) rfl rfl ?_
      exact kk
    have f14 : n0 ≤ h13.size := (Nat.le_trans (Nat.le_trans (Nat.le_trans (Nat.le_trans Z0 E10.1) (Keep.of_wr W11).1) (Keep.of_wr W12).1) (Keep.of_wr W13).1)
    obtain ⟨_, _, ⟨T15, L15, k15, n15⟩, -, X15, ⟨Lc15, hQ15, l15, y15, z15⟩, st15⟩ := Jvm.LawKit.callS X13 hx (y := (⟨"com/example/enodia/enodia/compare/MeanInterval", "mean", "([D)D"⟩ : MethodName)) hown (mvT hZ (hw _ (mw 1 rfl))) (mvT hZ (hw _ (mw 2 rfl))) (mvT hZ (hw _ (mw 3 rfl))) (mvT hZ (hw _ (mw 4 rfl))) (by decide) (backOf (W := 0) (rmm3 l Z a0 hw [] b10 (u1.toInt64) (u2.toInt64) (u3.toInt64) h13 n0 f14 V13 (own_i u1) (own_i u2) (own_i u3)) hZ (hw _ (mw 4 rfl)) (hw _ (mw 3 rfl)) (by decide) (by decide)) (g := (mkF m 151 #[.val (.int u0), .val (.int u1), .val (.int u2), .val (.int u3), .val (.int u4), .val (.int (3 : Int32)), .val (.ref b10), .val (.long (((u1.toInt64) + (u2.toInt64)) + (u3.toInt64))), .second, .val (.double (FP.ddiv (FP.l2d (((u1.toInt64) + (u2.toInt64)) + (u3.toInt64))) (FP.l2d ((3 : Int32).toInt64)))), .second, .unset, .unset] [(.ref b10)])) rfl (by rw [hml]; rfl) (argsL := [(.ref b10)]) (rest := []) (lenOf pd_0 rfl) rfl (by show 2 * 0 + _ ≤ _; exact Nat.le_of_eq rfl) (hb hby at_151) (fun _ _ => ⟨rfl, e13, (by decide : 1 + 0 ≤ _), (by decide : 3 + 0 ≤ _)⟩)
    dsimp only [Pt.U, Pt.locs, Pt.cells, Pt.slots] at X15 l15 y15 z15 st15 hQ15
    subst l15 y15 z15
    obtain ⟨rfl, N15q, e15⟩ := hQ15
    have N15 := Fr.app N13 N15q
    refine Goal.to (B := T15.setTop (mkF m 154 #[.val (.int u0), .val (.int u1), .val (.int u2), .val (.int u3), .val (.int u4), .val (.int (3 : Int32)), .val (.ref b10), .val (.long (((u1.toInt64) + (u2.toInt64)) + (u3.toInt64))), .second, .val (.double (FP.ddiv (FP.l2d (((u1.toInt64) + (u2.toInt64)) + (u3.toInt64))) (FP.l2d ((3 : Int32).toInt64)))), .second, .unset, .unset] [(.double (FP.ddiv (FP.l2d (((u1.toInt64) + (u2.toInt64)) + (u3.toInt64))) (FP.l2d ((3 : Int32).toInt64))))])) st15 ?_
    refine Goal.to (B := T15.setTop (mkF m 169 #[.val (.int u0), .val (.int u1), .val (.int u2), .val (.int u3), .val (.int u4), .val (.int (3 : Int32)), .val (.ref b10), .val (.long (((u1.toInt64) + (u2.toInt64)) + (u3.toInt64))), .second, .val (.double (FP.ddiv (FP.l2d (((u1.toInt64) + (u2.toInt64)) + (u3.toInt64))) (FP.l2d ((3 : Int32).toInt64)))), .second, .val (.double (FP.ddiv (FP.l2d (((u1.toInt64) + (u2.toInt64)) + (u3.toInt64))) (FP.l2d ((3 : Int32).toInt64)))), .second] [(.int (1 : Int32))])) (fun tt kk => ?_) ?_
    · show Steps p.tables e below (T15.setTop (mkF m 154 #[.val (.int u0), .val (.int u1), .val (.int u2), .val (.int u3), .val (.int u4), .val (.int (3 : Int32)), .val (.ref b10), .val (.long (((u1.toInt64) + (u2.toInt64)) + (u3.toInt64))), .second, .val (.double (FP.ddiv (FP.l2d (((u1.toInt64) + (u2.toInt64)) + (u3.toInt64))) (FP.l2d ((3 : Int32).toInt64)))), .second, .unset, .unset] [(.double (FP.ddiv (FP.l2d (((u1.toInt64) + (u2.toInt64)) + (u3.toInt64))) (FP.l2d ((3 : Int32).toInt64))))])) tt
      refine XS.dstore X15.here hx rfl (hb hby at_154) rfl (l' := #[.val (.int u0), .val (.int u1), .val (.int u2), .val (.int u3), .val (.int u4), .val (.int (3 : Int32)), .val (.ref b10), .val (.long (((u1.toInt64) + (u2.toInt64)) + (u3.toInt64))), .second, .val (.double (FP.ddiv (FP.l2d (((u1.toInt64) + (u2.toInt64)) + (u3.toInt64))) (FP.l2d ((3 : Int32).toInt64)))), .second, .val (.double (FP.ddiv (FP.l2d (((u1.toInt64) + (u2.toInt64)) + (u3.toInt64))) (FP.l2d ((3 : Int32).toInt64)))), .second]) rfl ?_
      show Steps p.tables e below (T15.setTop (mkF m 156 #[.val (.int u0), .val (.int u1), .val (.int u2), .val (.int u3), .val (.int u4), .val (.int (3 : Int32)), .val (.ref b10), .val (.long (((u1.toInt64) + (u2.toInt64)) + (u3.toInt64))), .second, .val (.double (FP.ddiv (FP.l2d (((u1.toInt64) + (u2.toInt64)) + (u3.toInt64))) (FP.l2d ((3 : Int32).toInt64)))), .second, .val (.double (FP.ddiv (FP.l2d (((u1.toInt64) + (u2.toInt64)) + (u3.toInt64))) (FP.l2d ((3 : Int32).toInt64)))), .second] [])) tt
      refine XS.dload X15.here hx rfl (hb hby at_156) rfl ?_
      show Steps p.tables e below (T15.setTop (mkF m 158 #[.val (.int u0), .val (.int u1), .val (.int u2), .val (.int u3), .val (.int u4), .val (.int (3 : Int32)), .val (.ref b10), .val (.long (((u1.toInt64) + (u2.toInt64)) + (u3.toInt64))), .second, .val (.double (FP.ddiv (FP.l2d (((u1.toInt64) + (u2.toInt64)) + (u3.toInt64))) (FP.l2d ((3 : Int32).toInt64)))), .second, .val (.double (FP.ddiv (FP.l2d (((u1.toInt64) + (u2.toInt64)) + (u3.toInt64))) (FP.l2d ((3 : Int32).toInt64)))), .second] [(.double (FP.ddiv (FP.l2d (((u1.toInt64) + (u2.toInt64)) + (u3.toInt64))) (FP.l2d ((3 : Int32).toInt64))))])) tt
      refine XS.dload X15.here hx rfl (hb hby at_158) rfl ?_
      show Steps p.tables e below (T15.setTop (mkF m 160 #[.val (.int u0), .val (.int u1), .val (.int u2), .val (.int u3), .val (.int u4), .val (.int (3 : Int32)), .val (.ref b10), .val (.long (((u1.toInt64) + (u2.toInt64)) + (u3.toInt64))), .second, .val (.double (FP.ddiv (FP.l2d (((u1.toInt64) + (u2.toInt64)) + (u3.toInt64))) (FP.l2d ((3 : Int32).toInt64)))), .second, .val (.double (FP.ddiv (FP.l2d (((u1.toInt64) + (u2.toInt64)) + (u3.toInt64))) (FP.l2d ((3 : Int32).toInt64)))), .second] [(.double (FP.ddiv (FP.l2d (((u1.toInt64) + (u2.toInt64)) + (u3.toInt64))) (FP.l2d ((3 : Int32).toInt64)))), (.double (FP.ddiv (FP.l2d (((u1.toInt64) + (u2.toInt64)) + (u3.toInt64))) (FP.l2d ((3 : Int32).toInt64))))])) tt
      refine XS.dcmpS X15.here hx rfl (hb hby at_160) rfl (dcmpV_eq rfl (own_nn _ (by decide)) _) ?_
      show Steps p.tables e below (T15.setTop (mkF m 161 #[.val (.int u0), .val (.int u1), .val (.int u2), .val (.int u3), .val (.int u4), .val (.int (3 : Int32)), .val (.ref b10), .val (.long (((u1.toInt64) + (u2.toInt64)) + (u3.toInt64))), .second, .val (.double (FP.ddiv (FP.l2d (((u1.toInt64) + (u2.toInt64)) + (u3.toInt64))) (FP.l2d ((3 : Int32).toInt64)))), .second, .val (.double (FP.ddiv (FP.l2d (((u1.toInt64) + (u2.toInt64)) + (u3.toInt64))) (FP.l2d ((3 : Int32).toInt64)))), .second] [(.int (0 : Int32))])) tt
      refine XS.ifNo X15.here hx rfl (hb hby at_161) rfl ((if0 _ _).trans (teq (rfl : (0 : Int32) = (0 : Int32))).2) ?_
      show Steps p.tables e below (T15.setTop (mkF m 164 #[.val (.int u0), .val (.int u1), .val (.int u2), .val (.int u3), .val (.int u4), .val (.int (3 : Int32)), .val (.ref b10), .val (.long (((u1.toInt64) + (u2.toInt64)) + (u3.toInt64))), .second, .val (.double (FP.ddiv (FP.l2d (((u1.toInt64) + (u2.toInt64)) + (u3.toInt64))) (FP.l2d ((3 : Int32).toInt64)))), .second, .val (.double (FP.ddiv (FP.l2d (((u1.toInt64) + (u2.toInt64)) + (u3.toInt64))) (FP.l2d ((3 : Int32).toInt64)))), .second] [])) tt
      refine XS.iconst X15.here hx rfl (hb hby at_164) ?_
      show Steps p.tables e below (T15.setTop (mkF m 165 #[.val (.int u0), .val (.int u1), .val (.int u2), .val (.int u3), .val (.int u4), .val (.int (3 : Int32)), .val (.ref b10), .val (.long (((u1.toInt64) + (u2.toInt64)) + (u3.toInt64))), .second, .val (.double (FP.ddiv (FP.l2d (((u1.toInt64) + (u2.toInt64)) + (u3.toInt64))) (FP.l2d ((3 : Int32).toInt64)))), .second, .val (.double (FP.ddiv (FP.l2d (((u1.toInt64) + (u2.toInt64)) + (u3.toInt64))) (FP.l2d ((3 : Int32).toInt64)))), .second] [(.int (1 : Int32))])) tt
      refine XS.goto X15.here hx rfl (pc0 := 165) (pc' := 169) rfl (hb hby at_165) (by decide) (by decide) ?_
      exact kk
    exact Goal.retV X15 hx Bd.returns rfl (Or.inl ⟨rfl, Or.inr (Or.inl rfl), _, rfl⟩) (hb hby at_169) hlk e15 ⟨rfl, N15⟩ (by decide) (by decide)
  · refine Goal.to (B := s₁.setTop (mkF m 101 #[.val (.int u0), .val (.int u1), .val (.int u2), .val (.int u3), .val (.int u4), .val (.int (4 : Int32)), .unset, .unset, .unset, .unset, .unset, .unset, .unset] [(.int (4 : Int32))])) (fun tt kk => ?_) ?_
    · show Steps p.tables e below (s₁.setTop (mkF m 9 #[.val (.int u0), .val (.int u1), .val (.int u2), .val (.int u3), .val (.int u4), .val (.int (4 : Int32)), .unset, .unset, .unset, .unset, .unset, .unset, .unset] [(.int (4 : Int32))])) tt
      refine XS.iconst X0.here hx rfl (hb hby at_9) ?_
      show Steps p.tables e below (s₁.setTop (mkF m 10 #[.val (.int u0), .val (.int u1), .val (.int u2), .val (.int u3), .val (.int u4), .val (.int (4 : Int32)), .unset, .unset, .unset, .unset, .unset, .unset, .unset] [(.int (1 : Int32)), (.int (4 : Int32))])) tt
      refine XS.icmpYes X0.here hx rfl (pc0 := 10) (pc' := 30) rfl (hb hby at_10) rfl (feq ((by decide) : ¬ ((4 : Int32) = (1 : Int32)))).2 (by decide) (by decide) ?_
      show Steps p.tables e below (s₁.setTop (mkF m 30 #[.val (.int u0), .val (.int u1), .val (.int u2), .val (.int u3), .val (.int u4), .val (.int (4 : Int32)), .unset, .unset, .unset, .unset, .unset, .unset, .unset] [])) tt
      refine XS.iload X0.here hx rfl (hb hby at_30) rfl ?_
      show Steps p.tables e below (s₁.setTop (mkF m 32 #[.val (.int u0), .val (.int u1), .val (.int u2), .val (.int u3), .val (.int u4), .val (.int (4 : Int32)), .unset, .unset, .unset, .unset, .unset, .unset, .unset] [(.int (4 : Int32))])) tt
      refine XS.iconst X0.here hx rfl (hb hby at_32) ?_
      show Steps p.tables e below (s₁.setTop (mkF m 33 #[.val (.int u0), .val (.int u1), .val (.int u2), .val (.int u3), .val (.int u4), .val (.int (4 : Int32)), .unset, .unset, .unset, .unset, .unset, .unset, .unset] [(.int (2 : Int32)), (.int (4 : Int32))])) tt
      refine XS.icmpYes X0.here hx rfl (pc0 := 33) (pc' := 61) rfl (hb hby at_33) rfl (feq ((by decide) : ¬ ((4 : Int32) = (2 : Int32)))).2 (by decide) (by decide) ?_
      show Steps p.tables e below (s₁.setTop (mkF m 61 #[.val (.int u0), .val (.int u1), .val (.int u2), .val (.int u3), .val (.int u4), .val (.int (4 : Int32)), .unset, .unset, .unset, .unset, .unset, .unset, .unset] [])) tt
      refine XS.iload X0.here hx rfl (hb hby at_61) rfl ?_
      show Steps p.tables e below (s₁.setTop (mkF m 63 #[.val (.int u0), .val (.int u1), .val (.int u2), .val (.int u3), .val (.int u4), .val (.int (4 : Int32)), .unset, .unset, .unset, .unset, .unset, .unset, .unset] [(.int (4 : Int32))])) tt
      refine XS.iconst X0.here hx rfl (hb hby at_63) ?_
      show Steps p.tables e below (s₁.setTop (mkF m 64 #[.val (.int u0), .val (.int u1), .val (.int u2), .val (.int u3), .val (.int u4), .val (.int (4 : Int32)), .unset, .unset, .unset, .unset, .unset, .unset, .unset] [(.int (3 : Int32)), (.int (4 : Int32))])) tt
      refine XS.icmpYes X0.here hx rfl (pc0 := 64) (pc' := 100) rfl (hb hby at_64) rfl (feq ((by decide) : ¬ ((4 : Int32) = (3 : Int32)))).2 (by decide) (by decide) ?_
      show Steps p.tables e below (s₁.setTop (mkF m 100 #[.val (.int u0), .val (.int u1), .val (.int u2), .val (.int u3), .val (.int u4), .val (.int (4 : Int32)), .unset, .unset, .unset, .unset, .unset, .unset, .unset] [])) tt
      refine XS.iconst X0.here hx rfl (hb hby at_100) ?_
      exact kk
    obtain ⟨T16, h16, k16, X16, e16, E16, A16, st16⟩ := newP X0 hx hZ (hw _ (mw 0 rfl)) e0 (g := (mkF m 101 #[.val (.int u0), .val (.int u1), .val (.int u2), .val (.int u3), .val (.int u4), .val (.int (4 : Int32)), .unset, .unset, .unset, .unset, .unset, .unset, .unset] [(.int (4 : Int32))])) rfl (hb hby at_101) rfl (by decide) (cap := 4) (by decide) (by decide) (by decide) (by decide)
    obtain ⟨b16, g16⟩ : ∃ z, z = h0.size := ⟨_, rfl⟩
    rw [← g16] at A16 st16
    have g_b16 : n0 ≤ b16 := Nat.le_trans Z0 (Nat.le_of_eq g16.symm)
    have V16 : Ary Z h16 b16 .double [(.double (0 : UInt64)), (.double (0 : UInt64)), (.double (0 : UInt64)), (.double (0 : UInt64))] := Ary.new A16 rfl
    refine Goal.to (B := T16.setTop (mkF m 103 #[.val (.int u0), .val (.int u1), .val (.int u2), .val (.int u3), .val (.int u4), .val (.int (4 : Int32)), .unset, .unset, .unset, .unset, .unset, .unset, .unset] [(.ref b16)])) st16 ?_
    refine Goal.to (B := T16.setTop (mkF m 107 #[.val (.int u0), .val (.int u1), .val (.int u2), .val (.int u3), .val (.int u4), .val (.int (4 : Int32)), .unset, .unset, .unset, .unset, .unset, .unset, .unset] [(.double (FP.l2d (u1.toInt64))), (.int (0 : Int32)), (.ref b16), (.ref b16)])) (fun tt kk => ?_) ?_
    · show Steps p.tables e below (T16.setTop (mkF m 103 #[.val (.int u0), .val (.int u1), .val (.int u2), .val (.int u3), .val (.int u4), .val (.int (4 : Int32)), .unset, .unset, .unset, .unset, .unset, .unset, .unset] [(.ref b16)])) tt
      refine XS.dup X16.here hx rfl (hb hby at_103) rfl rfl ?_
      show Steps p.tables e below (T16.setTop (mkF m 104 #[.val (.int u0), .val (.int u1), .val (.int u2), .val (.int u3), .val (.int u4), .val (.int (4 : Int32)), .unset, .unset, .unset, .unset, .unset, .unset, .unset] [(.ref b16), (.ref b16)])) tt
      refine XS.iconst X16.here hx rfl (hb hby at_104) ?_
      show Steps p.tables e below (T16.setTop (mkF m 105 #[.val (.int u0), .val (.int u1), .val (.int u2), .val (.int u3), .val (.int u4), .val (.int (4 : Int32)), .unset, .unset, .unset, .unset, .unset, .unset, .unset] [(.int (0 : Int32)), (.ref b16), (.ref b16)])) tt
      refine XS.iloadN X16.here hx rfl (hb hby at_105) rfl ?_
      show Steps p.tables e below (T16.setTop (mkF m 106 #[.val (.int u0), .val (.int u1), .val (.int u2), .val (.int u3), .val (.int u4), .val (.int (4 : Int32)), .unset, .unset, .unset, .unset, .unset, .unset, .unset] [(.int u1), (.int (0 : Int32)), (.ref b16), (.ref b16)])) tt
      refine XS.i2dS X16.here hx rfl (hb hby at_106) rfl (i2d_w _) ?_
      exact kk
    obtain ⟨cl17, Ar17, Sl17⟩ := id V16
    have hin17 := inA (cl := cl17) Sl17 (j := (0 : Int32)) (by decide) (Nat.le_of_ble_eq_true rfl)
    obtain ⟨T17, h17, X17, e17, W17, st17⟩ := stD X16 hx hZ e16 Ar17 (j := (0 : Int32)) hin17 (g := (mkF m 107 #[.val (.int u0), .val (.int u1), .val (.int u2), .val (.int u3), .val (.int u4), .val (.int (4 : Int32)), .unset, .unset, .unset, .unset, .unset, .unset, .unset] [(.double (FP.l2d (u1.toInt64))), (.int (0 : Int32)), (.ref b16), (.ref b16)])) rfl rfl (hb hby at_107)
    have V17 : Ary Z h17 b16 .double [(.double (FP.l2d (u1.toInt64))), (.double (0 : UInt64)), (.double (0 : UInt64)), (.double (0 : UInt64))] := Ary.put Ar17 Sl17 W17 rfl
    have N17 := Fr.snoc X17 N0 g_b16
    refine Goal.to (B := T17.setTop (mkF m 108 #[.val (.int u0), .val (.int u1), .val (.int u2), .val (.int u3), .val (.int u4), .val (.int (4 : Int32)), .unset, .unset, .unset, .unset, .unset, .unset, .unset] [(.ref b16)])) st17 ?_
    refine Goal.to (B := T17.setTop (mkF m 112 #[.val (.int u0), .val (.int u1), .val (.int u2), .val (.int u3), .val (.int u4), .val (.int (4 : Int32)), .unset, .unset, .unset, .unset, .unset, .unset, .unset] [(.double (FP.l2d (u2.toInt64))), (.int (1 : Int32)), (.ref b16), (.ref b16)])) (fun tt kk => ?_) ?_
    · show Steps p.tables e below (T17.setTop (mkF m 108 #[.val (.int u0), .val (.int u1), .val (.int u2), .val (.int u3), .val (.int u4), .val (.int (4 : Int32)), .unset, .unset, .unset, .unset, .unset, .unset, .unset] [(.ref b16)])) tt
      refine XS.dup X17.here hx rfl (hb hby at_108) rfl rfl ?_
      show Steps p.tables e below (T17.setTop (mkF m 109 #[.val (.int u0), .val (.int u1), .val (.int u2), .val (.int u3), .val (.int u4), .val (.int (4 : Int32)), .unset, .unset, .unset, .unset, .unset, .unset, .unset] [(.ref b16), (.ref b16)])) tt
      refine XS.iconst X17.here hx rfl (hb hby at_109) ?_
      show Steps p.tables e below (T17.setTop (mkF m 110 #[.val (.int u0), .val (.int u1), .val (.int u2), .val (.int u3), .val (.int u4), .val (.int (4 : Int32)), .unset, .unset, .unset, .unset, .unset, .unset, .unset] [(.int (1 : Int32)), (.ref b16), (.ref b16)])) tt
      refine XS.iloadN X17.here hx rfl (hb hby at_110) rfl ?_
      show Steps p.tables e below (T17.setTop (mkF m 111 #[.val (.int u0), .val (.int u1), .val (.int u2), .val (.int u3), .val (.int u4), .val (.int (4 : Int32)), .unset, .unset, .unset, .unset, .unset, .unset, .unset] [(.int u2), (.int (1 : Int32)), (.ref b16), (.ref b16)])) tt
      refine XS.i2dS X17.here hx rfl (hb hby at_111) rfl (i2d_w _) ?_
      exact kk
    obtain ⟨cl18, Ar18, Sl18⟩ := id V17
    have hin18 := inA (cl := cl18) Sl18 (j := (1 : Int32)) (by decide) (Nat.le_of_ble_eq_true rfl)
    obtain ⟨T18, h18, X18, e18, W18, st18⟩ := stD X17 hx hZ e17 Ar18 (j := (1 : Int32)) hin18 (g := (mkF m 112 #[.val (.int u0), .val (.int u1), .val (.int u2), .val (.int u3), .val (.int u4), .val (.int (4 : Int32)), .unset, .unset, .unset, .unset, .unset, .unset, .unset] [(.double (FP.l2d (u2.toInt64))), (.int (1 : Int32)), (.ref b16), (.ref b16)])) rfl rfl (hb hby at_112)
    have V18 : Ary Z h18 b16 .double [(.double (FP.l2d (u1.toInt64))), (.double (FP.l2d (u2.toInt64))), (.double (0 : UInt64)), (.double (0 : UInt64))] := Ary.put Ar18 Sl18 W18 rfl
    have N18 := Fr.snoc X18 N17 g_b16
    refine Goal.to (B := T18.setTop (mkF m 113 #[.val (.int u0), .val (.int u1), .val (.int u2), .val (.int u3), .val (.int u4), .val (.int (4 : Int32)), .unset, .unset, .unset, .unset, .unset, .unset, .unset] [(.ref b16)])) st18 ?_
    refine Goal.to (B := T18.setTop (mkF m 117 #[.val (.int u0), .val (.int u1), .val (.int u2), .val (.int u3), .val (.int u4), .val (.int (4 : Int32)), .unset, .unset, .unset, .unset, .unset, .unset, .unset] [(.double (FP.l2d (u3.toInt64))), (.int (2 : Int32)), (.ref b16), (.ref b16)])) (fun tt kk => ?_) ?_
    · show Steps p.tables e below (T18.setTop (mkF m 113 #[.val (.int u0), .val (.int u1), .val (.int u2), .val (.int u3), .val (.int u4), .val (.int (4 : Int32)), .unset, .unset, .unset, .unset, .unset, .unset, .unset] [(.ref b16)])) tt
      refine XS.dup X18.here hx rfl (hb hby at_113) rfl rfl ?_
      show Steps p.tables e below (T18.setTop (mkF m 114 #[.val (.int u0), .val (.int u1), .val (.int u2), .val (.int u3), .val (.int u4), .val (.int (4 : Int32)), .unset, .unset, .unset, .unset, .unset, .unset, .unset] [(.ref b16), (.ref b16)])) tt
      refine XS.iconst X18.here hx rfl (hb hby at_114) ?_
      show Steps p.tables e below (T18.setTop (mkF m 115 #[.val (.int u0), .val (.int u1), .val (.int u2), .val (.int u3), .val (.int u4), .val (.int (4 : Int32)), .unset, .unset, .unset, .unset, .unset, .unset, .unset] [(.int (2 : Int32)), (.ref b16), (.ref b16)])) tt
      refine XS.iloadN X18.here hx rfl (hb hby at_115) rfl ?_
      show Steps p.tables e below (T18.setTop (mkF m 116 #[.val (.int u0), .val (.int u1), .val (.int u2), .val (.int u3), .val (.int u4), .val (.int (4 : Int32)), .unset, .unset, .unset, .unset, .unset, .unset, .unset] [(.int u3), (.int (2 : Int32)), (.ref b16), (.ref b16)])) tt
      refine XS.i2dS X18.here hx rfl (hb hby at_116) rfl (i2d_w _) ?_
      exact kk
    obtain ⟨cl19, Ar19, Sl19⟩ := id V18
    have hin19 := inA (cl := cl19) Sl19 (j := (2 : Int32)) (by decide) (Nat.le_of_ble_eq_true rfl)
    obtain ⟨T19, h19, X19, e19, W19, st19⟩ := stD X18 hx hZ e18 Ar19 (j := (2 : Int32)) hin19 (g := (mkF m 117 #[.val (.int u0), .val (.int u1), .val (.int u2), .val (.int u3), .val (.int u4), .val (.int (4 : Int32)), .unset, .unset, .unset, .unset, .unset, .unset, .unset] [(.double (FP.l2d (u3.toInt64))), (.int (2 : Int32)), (.ref b16), (.ref b16)])) rfl rfl (hb hby at_117)
    have V19 : Ary Z h19 b16 .double [(.double (FP.l2d (u1.toInt64))), (.double (FP.l2d (u2.toInt64))), (.double (FP.l2d (u3.toInt64))), (.double (0 : UInt64))] := Ary.put Ar19 Sl19 W19 rfl
    have N19 := Fr.snoc X19 N18 g_b16
    refine Goal.to (B := T19.setTop (mkF m 118 #[.val (.int u0), .val (.int u1), .val (.int u2), .val (.int u3), .val (.int u4), .val (.int (4 : Int32)), .unset, .unset, .unset, .unset, .unset, .unset, .unset] [(.ref b16)])) st19 ?_
    refine Goal.to (B := T19.setTop (mkF m 123 #[.val (.int u0), .val (.int u1), .val (.int u2), .val (.int u3), .val (.int u4), .val (.int (4 : Int32)), .unset, .unset, .unset, .unset, .unset, .unset, .unset] [(.double (FP.l2d (u4.toInt64))), (.int (3 : Int32)), (.ref b16), (.ref b16)])) (fun tt kk => ?_) ?_
    · show Steps p.tables e below (T19.setTop (mkF m 118 #[.val (.int u0), .val (.int u1), .val (.int u2), .val (.int u3), .val (.int u4), .val (.int (4 : Int32)), .unset, .unset, .unset, .unset, .unset, .unset, .unset] [(.ref b16)])) tt
      refine XS.dup X19.here hx rfl (hb hby at_118) rfl rfl ?_
      show Steps p.tables e below (T19.setTop (mkF m 119 #[.val (.int u0), .val (.int u1), .val (.int u2), .val (.int u3), .val (.int u4), .val (.int (4 : Int32)), .unset, .unset, .unset, .unset, .unset, .unset, .unset] [(.ref b16), (.ref b16)])) tt
      refine XS.iconst X19.here hx rfl (hb hby at_119) ?_
      show Steps p.tables e below (T19.setTop (mkF m 120 #[.val (.int u0), .val (.int u1), .val (.int u2), .val (.int u3), .val (.int u4), .val (.int (4 : Int32)), .unset, .unset, .unset, .unset, .unset, .unset, .unset] [(.int (3 : Int32)), (.ref b16), (.ref b16)])) tt
      refine XS.iload X19.here hx rfl (hb hby at_120) rfl ?_
      show Steps p.tables e below (T19.setTop (mkF m 122 #[.val (.int u0), .val (.int u1), .val (.int u2), .val (.int u3), .val (.int u4), .val (.int (4 : Int32)), .unset, .unset, .unset, .unset, .unset, .unset, .unset] [(.int u4), (.int (3 : Int32)), (.ref b16), (.ref b16)])) tt
      refine XS.i2dS X19.here hx rfl (hb hby at_122) rfl (i2d_w _) ?_
      exact kk
    obtain ⟨cl20, Ar20, Sl20⟩ := id V19
    have hin20 := inA (cl := cl20) Sl20 (j := (3 : Int32)) (by decide) (Nat.le_of_ble_eq_true rfl)
    obtain ⟨T20, h20, X20, e20, W20, st20⟩ := stD X19 hx hZ e19 Ar20 (j := (3 : Int32)) hin20 (g := (mkF m 123 #[.val (.int u0), .val (.int u1), .val (.int u2), .val (.int u3), .val (.int u4), .val (.int (4 : Int32)), .unset, .unset, .unset, .unset, .unset, .unset, .unset] [(.double (FP.l2d (u4.toInt64))), (.int (3 : Int32)), (.ref b16), (.ref b16)])) rfl rfl (hb hby at_123)
    have V20 : Ary Z h20 b16 .double [(.double (FP.l2d (u1.toInt64))), (.double (FP.l2d (u2.toInt64))), (.double (FP.l2d (u3.toInt64))), (.double (FP.l2d (u4.toInt64)))] := Ary.put Ar20 Sl20 W20 rfl
    have N20 := Fr.snoc X20 N19 g_b16
    refine Goal.to (B := T20.setTop (mkF m 124 #[.val (.int u0), .val (.int u1), .val (.int u2), .val (.int u3), .val (.int u4), .val (.int (4 : Int32)), .unset, .unset, .unset, .unset, .unset, .unset, .unset] [(.ref b16)])) st20 ?_
    refine Goal.to (B := T20.setTop (mkF m 151 #[.val (.int u0), .val (.int u1), .val (.int u2), .val (.int u3), .val (.int u4), .val (.int (4 : Int32)), .val (.ref b16), .val (.long ((((u1.toInt64) + (u2.toInt64)) + (u3.toInt64)) + (u4.toInt64))), .second, .val (.double (FP.ddiv (FP.l2d ((((u1.toInt64) + (u2.toInt64)) + (u3.toInt64)) + (u4.toInt64))) (FP.l2d ((4 : Int32).toInt64)))), .second, .unset, .unset] [(.ref b16)])) (fun tt kk => ?_) ?_
    · show Steps p.tables e below (T20.setTop (mkF m 124 #[.val (.int u0), .val (.int u1), .val (.int u2), .val (.int u3), .val (.int u4), .val (.int (4 : Int32)), .unset, .unset, .unset, .unset, .unset, .unset, .unset] [(.ref b16)])) tt
      refine XS.astore X20.here hx rfl (hb hby at_124) rfl rfl (l' := #[.val (.int u0), .val (.int u1), .val (.int u2), .val (.int u3), .val (.int u4), .val (.int (4 : Int32)), .val (.ref b16), .unset, .unset, .unset, .unset, .unset, .unset]) rfl ?_
      show Steps p.tables e below (T20.setTop (mkF m 126 #[.val (.int u0), .val (.int u1), .val (.int u2), .val (.int u3), .val (.int u4), .val (.int (4 : Int32)), .val (.ref b16), .unset, .unset, .unset, .unset, .unset, .unset] [])) tt
      refine XS.iloadN X20.here hx rfl (hb hby at_126) rfl ?_
      show Steps p.tables e below (T20.setTop (mkF m 127 #[.val (.int u0), .val (.int u1), .val (.int u2), .val (.int u3), .val (.int u4), .val (.int (4 : Int32)), .val (.ref b16), .unset, .unset, .unset, .unset, .unset, .unset] [(.int u1)])) tt
      refine XS.i2l X20.here hx rfl (hb hby at_127) rfl ?_
      show Steps p.tables e below (T20.setTop (mkF m 128 #[.val (.int u0), .val (.int u1), .val (.int u2), .val (.int u3), .val (.int u4), .val (.int (4 : Int32)), .val (.ref b16), .unset, .unset, .unset, .unset, .unset, .unset] [(.long (u1.toInt64))])) tt
      refine XS.iloadN X20.here hx rfl (hb hby at_128) rfl ?_
      show Steps p.tables e below (T20.setTop (mkF m 129 #[.val (.int u0), .val (.int u1), .val (.int u2), .val (.int u3), .val (.int u4), .val (.int (4 : Int32)), .val (.ref b16), .unset, .unset, .unset, .unset, .unset, .unset] [(.int u2), (.long (u1.toInt64))])) tt
      refine XS.i2l X20.here hx rfl (hb hby at_129) rfl ?_
      show Steps p.tables e below (T20.setTop (mkF m 130 #[.val (.int u0), .val (.int u1), .val (.int u2), .val (.int u3), .val (.int u4), .val (.int (4 : Int32)), .val (.ref b16), .unset, .unset, .unset, .unset, .unset, .unset] [(.long (u2.toInt64)), (.long (u1.toInt64))])) tt
      refine XS.ladd X20.here hx rfl (hb hby at_130) rfl ?_
      show Steps p.tables e below (T20.setTop (mkF m 131 #[.val (.int u0), .val (.int u1), .val (.int u2), .val (.int u3), .val (.int u4), .val (.int (4 : Int32)), .val (.ref b16), .unset, .unset, .unset, .unset, .unset, .unset] [(.long ((u1.toInt64) + (u2.toInt64)))])) tt
      refine XS.iloadN X20.here hx rfl (hb hby at_131) rfl ?_
      show Steps p.tables e below (T20.setTop (mkF m 132 #[.val (.int u0), .val (.int u1), .val (.int u2), .val (.int u3), .val (.int u4), .val (.int (4 : Int32)), .val (.ref b16), .unset, .unset, .unset, .unset, .unset, .unset] [(.int u3), (.long ((u1.toInt64) + (u2.toInt64)))])) tt
      refine XS.i2l X20.here hx rfl (hb hby at_132) rfl ?_
      show Steps p.tables e below (T20.setTop (mkF m 133 #[.val (.int u0), .val (.int u1), .val (.int u2), .val (.int u3), .val (.int u4), .val (.int (4 : Int32)), .val (.ref b16), .unset, .unset, .unset, .unset, .unset, .unset] [(.long (u3.toInt64)), (.long ((u1.toInt64) + (u2.toInt64)))])) tt
      refine XS.ladd X20.here hx rfl (hb hby at_133) rfl ?_
      show Steps p.tables e below (T20.setTop (mkF m 134 #[.val (.int u0), .val (.int u1), .val (.int u2), .val (.int u3), .val (.int u4), .val (.int (4 : Int32)), .val (.ref b16), .unset, .unset, .unset, .unset, .unset, .unset] [(.long (((u1.toInt64) + (u2.toInt64)) + (u3.toInt64)))])) tt
      refine XS.iload X20.here hx rfl (hb hby at_134) rfl ?_
      show Steps p.tables e below (T20.setTop (mkF m 136 #[.val (.int u0), .val (.int u1), .val (.int u2), .val (.int u3), .val (.int u4), .val (.int (4 : Int32)), .val (.ref b16), .unset, .unset, .unset, .unset, .unset, .unset] [(.int u4), (.long (((u1.toInt64) + (u2.toInt64)) + (u3.toInt64)))])) tt
      refine XS.i2l X20.here hx rfl (hb hby at_136) rfl ?_
      show Steps p.tables e below (T20.setTop (mkF m 137 #[.val (.int u0), .val (.int u1), .val (.int u2), .val (.int u3), .val (.int u4), .val (.int (4 : Int32)), .val (.ref b16), .unset, .unset, .unset, .unset, .unset, .unset] [(.long (u4.toInt64)), (.long (((u1.toInt64) + (u2.toInt64)) + (u3.toInt64)))])) tt
      refine XS.ladd X20.here hx rfl (hb hby at_137) rfl ?_
      show Steps p.tables e below (T20.setTop (mkF m 138 #[.val (.int u0), .val (.int u1), .val (.int u2), .val (.int u3), .val (.int u4), .val (.int (4 : Int32)), .val (.ref b16), .unset, .unset, .unset, .unset, .unset, .unset] [(.long ((((u1.toInt64) + (u2.toInt64)) + (u3.toInt64)) + (u4.toInt64)))])) tt
      refine XS.lstore X20.here hx rfl (hb hby at_138) rfl (l' := #[.val (.int u0), .val (.int u1), .val (.int u2), .val (.int u3), .val (.int u4), .val (.int (4 : Int32)), .val (.ref b16), .val (.long ((((u1.toInt64) + (u2.toInt64)) + (u3.toInt64)) + (u4.toInt64))), .second, .unset, .unset, .unset, .unset]) rfl ?_
      show Steps p.tables e below (T20.setTop (mkF m 140 #[.val (.int u0), .val (.int u1), .val (.int u2), .val (.int u3), .val (.int u4), .val (.int (4 : Int32)), .val (.ref b16), .val (.long ((((u1.toInt64) + (u2.toInt64)) + (u3.toInt64)) + (u4.toInt64))), .second, .unset, .unset, .unset, .unset] [])) tt
      refine XS.lload X20.here hx rfl (hb hby at_140) rfl ?_
      show Steps p.tables e below (T20.setTop (mkF m 142 #[.val (.int u0), .val (.int u1), .val (.int u2), .val (.int u3), .val (.int u4), .val (.int (4 : Int32)), .val (.ref b16), .val (.long ((((u1.toInt64) + (u2.toInt64)) + (u3.toInt64)) + (u4.toInt64))), .second, .unset, .unset, .unset, .unset] [(.long ((((u1.toInt64) + (u2.toInt64)) + (u3.toInt64)) + (u4.toInt64)))])) tt
      refine XS.l2dS X20.here hx rfl (hb hby at_142) rfl rfl ?_
      show Steps p.tables e below (T20.setTop (mkF m 143 #[.val (.int u0), .val (.int u1), .val (.int u2), .val (.int u3), .val (.int u4), .val (.int (4 : Int32)), .val (.ref b16), .val (.long ((((u1.toInt64) + (u2.toInt64)) + (u3.toInt64)) + (u4.toInt64))), .second, .unset, .unset, .unset, .unset] [(.double (FP.l2d ((((u1.toInt64) + (u2.toInt64)) + (u3.toInt64)) + (u4.toInt64))))])) tt
      refine XS.iload X20.here hx rfl (hb hby at_143) rfl ?_
      show Steps p.tables e below (T20.setTop (mkF m 145 #[.val (.int u0), .val (.int u1), .val (.int u2), .val (.int u3), .val (.int u4), .val (.int (4 : Int32)), .val (.ref b16), .val (.long ((((u1.toInt64) + (u2.toInt64)) + (u3.toInt64)) + (u4.toInt64))), .second, .unset, .unset, .unset, .unset] [(.int (4 : Int32)), (.double (FP.l2d ((((u1.toInt64) + (u2.toInt64)) + (u3.toInt64)) + (u4.toInt64))))])) tt
      refine XS.i2dS X20.here hx rfl (hb hby at_145) rfl (i2d_w _) ?_
      show Steps p.tables e below (T20.setTop (mkF m 146 #[.val (.int u0), .val (.int u1), .val (.int u2), .val (.int u3), .val (.int u4), .val (.int (4 : Int32)), .val (.ref b16), .val (.long ((((u1.toInt64) + (u2.toInt64)) + (u3.toInt64)) + (u4.toInt64))), .second, .unset, .unset, .unset, .unset] [(.double (FP.l2d ((4 : Int32).toInt64))), (.double (FP.l2d ((((u1.toInt64) + (u2.toInt64)) + (u3.toInt64)) + (u4.toInt64))))])) tt
      refine XS.ddivS X20.here hx rfl (hb hby at_146) rfl (own_nn _ (by decide)) rfl ?_
      show Steps p.tables e below (T20.setTop (mkF m 147 #[.val (.int u0), .val (.int u1), .val (.int u2), .val (.int u3), .val (.int u4), .val (.int (4 : Int32)), .val (.ref b16), .val (.long ((((u1.toInt64) + (u2.toInt64)) + (u3.toInt64)) + (u4.toInt64))), .second, .unset, .unset, .unset, .unset] [(.double (FP.ddiv (FP.l2d ((((u1.toInt64) + (u2.toInt64)) + (u3.toInt64)) + (u4.toInt64))) (FP.l2d ((4 : Int32).toInt64))))])) tt
      refine XS.dstore X20.here hx rfl (hb hby at_147) rfl (l' := #[.val (.int u0), .val (.int u1), .val (.int u2), .val (.int u3), .val (.int u4), .val (.int (4 : Int32)), .val (.ref b16), .val (.long ((((u1.toInt64) + (u2.toInt64)) + (u3.toInt64)) + (u4.toInt64))), .second, .val (.double (FP.ddiv (FP.l2d ((((u1.toInt64) + (u2.toInt64)) + (u3.toInt64)) + (u4.toInt64))) (FP.l2d ((4 : Int32).toInt64)))), .second, .unset, .unset]) rfl ?_
      show Steps p.tables e below (T20.setTop (mkF m 149 #[.val (.int u0), .val (.int u1), .val (.int u2), .val (.int u3), .val (.int u4), .val (.int (4 : Int32)), .val (.ref b16), .val (.long ((((u1.toInt64) + (u2.toInt64)) + (u3.toInt64)) + (u4.toInt64))), .second, .val (.double (FP.ddiv (FP.l2d ((((u1.toInt64) + (u2.toInt64)) + (u3.toInt64)) + (u4.toInt64))) (FP.l2d ((4 : Int32).toInt64)))), .second, .unset, .unset] [])) tt
      refine XS.aload X20.here hx rfl (hb hby at_149) rfl rfl ?_
      exact kk
    have f21 : n0 ≤ h20.size := (Nat.le_trans (Nat.le_trans (Nat.le_trans (Nat.le_trans (Nat.le_trans Z0 E16.1) (Keep.of_wr W17).1) (Keep.of_wr W18).1) (Keep.of_wr W19).1) (Keep.of_wr W20).1)
    obtain ⟨_, _, ⟨T22, L22, k22, n22⟩, -, X22, ⟨Lc22, hQ22, l22, y22, z22⟩, st22⟩ := Jvm.LawKit.callS X20 hx (y := (⟨"com/example/enodia/enodia/compare/MeanInterval", "mean", "([D)D"⟩ : MethodName)) hown (mvT hZ (hw _ (mw 1 rfl))) (mvT hZ (hw _ (mw 2 rfl))) (mvT hZ (hw _ (mw 3 rfl))) (mvT hZ (hw _ (mw 4 rfl))) (by decide) (backOf (W := 0) (rmm4 l Z a0 hw [] b16 (u1.toInt64) (u2.toInt64) (u3.toInt64) (u4.toInt64) h20 n0 f21 V20 (own_i u1) (own_i u2) (own_i u3) (own_i u4)) hZ (hw _ (mw 4 rfl)) (hw _ (mw 3 rfl)) (by decide) (by decide)) (g := (mkF m 151 #[.val (.int u0), .val (.int u1), .val (.int u2), .val (.int u3), .val (.int u4), .val (.int (4 : Int32)), .val (.ref b16), .val (.long ((((u1.toInt64) + (u2.toInt64)) + (u3.toInt64)) + (u4.toInt64))), .second, .val (.double (FP.ddiv (FP.l2d ((((u1.toInt64) + (u2.toInt64)) + (u3.toInt64)) + (u4.toInt64))) (FP.l2d ((4 : Int32).toInt64)))), .second, .unset, .unset] [(.ref b16)])) rfl (by rw [hml]; rfl) (argsL := [(.ref b16)]) (rest := []) (lenOf pd_0 rfl) rfl (by show 2 * 0 + _ ≤ _; exact Nat.le_of_eq rfl) (hb hby at_151) (fun _ _ => ⟨rfl, e20, (by decide : 1 + 0 ≤ _), (by decide : 4 + 0 ≤ _)⟩)
    dsimp only [Pt.U, Pt.locs, Pt.cells, Pt.slots] at X22 l22 y22 z22 st22 hQ22
    subst l22 y22 z22
    obtain ⟨rfl, N22q, e22⟩ := hQ22
    have N22 := Fr.app N20 N22q
    refine Goal.to (B := T22.setTop (mkF m 154 #[.val (.int u0), .val (.int u1), .val (.int u2), .val (.int u3), .val (.int u4), .val (.int (4 : Int32)), .val (.ref b16), .val (.long ((((u1.toInt64) + (u2.toInt64)) + (u3.toInt64)) + (u4.toInt64))), .second, .val (.double (FP.ddiv (FP.l2d ((((u1.toInt64) + (u2.toInt64)) + (u3.toInt64)) + (u4.toInt64))) (FP.l2d ((4 : Int32).toInt64)))), .second, .unset, .unset] [(.double (FP.ddiv (FP.l2d ((((u1.toInt64) + (u2.toInt64)) + (u3.toInt64)) + (u4.toInt64))) (FP.l2d ((4 : Int32).toInt64))))])) st22 ?_
    refine Goal.to (B := T22.setTop (mkF m 169 #[.val (.int u0), .val (.int u1), .val (.int u2), .val (.int u3), .val (.int u4), .val (.int (4 : Int32)), .val (.ref b16), .val (.long ((((u1.toInt64) + (u2.toInt64)) + (u3.toInt64)) + (u4.toInt64))), .second, .val (.double (FP.ddiv (FP.l2d ((((u1.toInt64) + (u2.toInt64)) + (u3.toInt64)) + (u4.toInt64))) (FP.l2d ((4 : Int32).toInt64)))), .second, .val (.double (FP.ddiv (FP.l2d ((((u1.toInt64) + (u2.toInt64)) + (u3.toInt64)) + (u4.toInt64))) (FP.l2d ((4 : Int32).toInt64)))), .second] [(.int (1 : Int32))])) (fun tt kk => ?_) ?_
    · show Steps p.tables e below (T22.setTop (mkF m 154 #[.val (.int u0), .val (.int u1), .val (.int u2), .val (.int u3), .val (.int u4), .val (.int (4 : Int32)), .val (.ref b16), .val (.long ((((u1.toInt64) + (u2.toInt64)) + (u3.toInt64)) + (u4.toInt64))), .second, .val (.double (FP.ddiv (FP.l2d ((((u1.toInt64) + (u2.toInt64)) + (u3.toInt64)) + (u4.toInt64))) (FP.l2d ((4 : Int32).toInt64)))), .second, .unset, .unset] [(.double (FP.ddiv (FP.l2d ((((u1.toInt64) + (u2.toInt64)) + (u3.toInt64)) + (u4.toInt64))) (FP.l2d ((4 : Int32).toInt64))))])) tt
      refine XS.dstore X22.here hx rfl (hb hby at_154) rfl (l' := #[.val (.int u0), .val (.int u1), .val (.int u2), .val (.int u3), .val (.int u4), .val (.int (4 : Int32)), .val (.ref b16), .val (.long ((((u1.toInt64) + (u2.toInt64)) + (u3.toInt64)) + (u4.toInt64))), .second, .val (.double (FP.ddiv (FP.l2d ((((u1.toInt64) + (u2.toInt64)) + (u3.toInt64)) + (u4.toInt64))) (FP.l2d ((4 : Int32).toInt64)))), .second, .val (.double (FP.ddiv (FP.l2d ((((u1.toInt64) + (u2.toInt64)) + (u3.toInt64)) + (u4.toInt64))) (FP.l2d ((4 : Int32).toInt64)))), .second]) rfl ?_
      show Steps p.tables e below (T22.setTop (mkF m 156 #[.val (.int u0), .val (.int u1), .val (.int u2), .val (.int u3), .val (.int u4), .val (.int (4 : Int32)), .val (.ref b16), .val (.long ((((u1.toInt64) + (u2.toInt64)) + (u3.toInt64)) + (u4.toInt64))), .second, .val (.double (FP.ddiv (FP.l2d ((((u1.toInt64) + (u2.toInt64)) + (u3.toInt64)) + (u4.toInt64))) (FP.l2d ((4 : Int32).toInt64)))), .second, .val (.double (FP.ddiv (FP.l2d ((((u1.toInt64) + (u2.toInt64)) + (u3.toInt64)) + (u4.toInt64))) (FP.l2d ((4 : Int32).toInt64)))), .second] [])) tt
      refine XS.dload X22.here hx rfl (hb hby at_156) rfl ?_
      show Steps p.tables e below (T22.setTop (mkF m 158 #[.val (.int u0), .val (.int u1), .val (.int u2), .val (.int u3), .val (.int u4), .val (.int (4 : Int32)), .val (.ref b16), .val (.long ((((u1.toInt64) + (u2.toInt64)) + (u3.toInt64)) + (u4.toInt64))), .second, .val (.double (FP.ddiv (FP.l2d ((((u1.toInt64) + (u2.toInt64)) + (u3.toInt64)) + (u4.toInt64))) (FP.l2d ((4 : Int32).toInt64)))), .second, .val (.double (FP.ddiv (FP.l2d ((((u1.toInt64) + (u2.toInt64)) + (u3.toInt64)) + (u4.toInt64))) (FP.l2d ((4 : Int32).toInt64)))), .second] [(.double (FP.ddiv (FP.l2d ((((u1.toInt64) + (u2.toInt64)) + (u3.toInt64)) + (u4.toInt64))) (FP.l2d ((4 : Int32).toInt64))))])) tt
      refine XS.dload X22.here hx rfl (hb hby at_158) rfl ?_
      show Steps p.tables e below (T22.setTop (mkF m 160 #[.val (.int u0), .val (.int u1), .val (.int u2), .val (.int u3), .val (.int u4), .val (.int (4 : Int32)), .val (.ref b16), .val (.long ((((u1.toInt64) + (u2.toInt64)) + (u3.toInt64)) + (u4.toInt64))), .second, .val (.double (FP.ddiv (FP.l2d ((((u1.toInt64) + (u2.toInt64)) + (u3.toInt64)) + (u4.toInt64))) (FP.l2d ((4 : Int32).toInt64)))), .second, .val (.double (FP.ddiv (FP.l2d ((((u1.toInt64) + (u2.toInt64)) + (u3.toInt64)) + (u4.toInt64))) (FP.l2d ((4 : Int32).toInt64)))), .second] [(.double (FP.ddiv (FP.l2d ((((u1.toInt64) + (u2.toInt64)) + (u3.toInt64)) + (u4.toInt64))) (FP.l2d ((4 : Int32).toInt64)))), (.double (FP.ddiv (FP.l2d ((((u1.toInt64) + (u2.toInt64)) + (u3.toInt64)) + (u4.toInt64))) (FP.l2d ((4 : Int32).toInt64))))])) tt
      refine XS.dcmpS X22.here hx rfl (hb hby at_160) rfl (dcmpV_eq rfl (own_nn _ (by decide)) _) ?_
      show Steps p.tables e below (T22.setTop (mkF m 161 #[.val (.int u0), .val (.int u1), .val (.int u2), .val (.int u3), .val (.int u4), .val (.int (4 : Int32)), .val (.ref b16), .val (.long ((((u1.toInt64) + (u2.toInt64)) + (u3.toInt64)) + (u4.toInt64))), .second, .val (.double (FP.ddiv (FP.l2d ((((u1.toInt64) + (u2.toInt64)) + (u3.toInt64)) + (u4.toInt64))) (FP.l2d ((4 : Int32).toInt64)))), .second, .val (.double (FP.ddiv (FP.l2d ((((u1.toInt64) + (u2.toInt64)) + (u3.toInt64)) + (u4.toInt64))) (FP.l2d ((4 : Int32).toInt64)))), .second] [(.int (0 : Int32))])) tt
      refine XS.ifNo X22.here hx rfl (hb hby at_161) rfl ((if0 _ _).trans (teq (rfl : (0 : Int32) = (0 : Int32))).2) ?_
      show Steps p.tables e below (T22.setTop (mkF m 164 #[.val (.int u0), .val (.int u1), .val (.int u2), .val (.int u3), .val (.int u4), .val (.int (4 : Int32)), .val (.ref b16), .val (.long ((((u1.toInt64) + (u2.toInt64)) + (u3.toInt64)) + (u4.toInt64))), .second, .val (.double (FP.ddiv (FP.l2d ((((u1.toInt64) + (u2.toInt64)) + (u3.toInt64)) + (u4.toInt64))) (FP.l2d ((4 : Int32).toInt64)))), .second, .val (.double (FP.ddiv (FP.l2d ((((u1.toInt64) + (u2.toInt64)) + (u3.toInt64)) + (u4.toInt64))) (FP.l2d ((4 : Int32).toInt64)))), .second] [])) tt
      refine XS.iconst X22.here hx rfl (hb hby at_164) ?_
      show Steps p.tables e below (T22.setTop (mkF m 165 #[.val (.int u0), .val (.int u1), .val (.int u2), .val (.int u3), .val (.int u4), .val (.int (4 : Int32)), .val (.ref b16), .val (.long ((((u1.toInt64) + (u2.toInt64)) + (u3.toInt64)) + (u4.toInt64))), .second, .val (.double (FP.ddiv (FP.l2d ((((u1.toInt64) + (u2.toInt64)) + (u3.toInt64)) + (u4.toInt64))) (FP.l2d ((4 : Int32).toInt64)))), .second, .val (.double (FP.ddiv (FP.l2d ((((u1.toInt64) + (u2.toInt64)) + (u3.toInt64)) + (u4.toInt64))) (FP.l2d ((4 : Int32).toInt64)))), .second] [(.int (1 : Int32))])) tt
      refine XS.goto X22.here hx rfl (pc0 := 165) (pc' := 169) rfl (hb hby at_165) (by decide) (by decide) ?_
      exact kk
    exact Goal.retV X22 hx Bd.returns rfl (Or.inl ⟨rfl, Or.inr (Or.inl rfl), _, rfl⟩) (hb hby at_169) hlk e22 ⟨rfl, N22⟩ (by decide) (by decide)
set_option maxRecDepth 65536 in
set_option maxHeartbeats 40000000 in
theorem comes_1 {Post : Tables → Env → Array Value → State → Outcome → State → Prop} (hpost : ∀ tb e args s v u, (limb_1_1.after args s (.returned v) u = true ∧ limb_1_2.after args s (.returned v) u = true ∧ True) → FrameEnd s (.returned v) u (Jvm.fieldLocs frame_1_writes args s ++ Jvm.arrayLocs frame_1_arrays args s ++ Jvm.staticLocs frame_1_statics s) 16 128 → Post tb e args s (.returned v) u) :
    ArmFor flags0 classFile x code maxLocals ret World_1 tables_1 room_1 Calls_1 rest_1 Pre_1 Post := by
  intro l hfl _ _ p e ha hc hk s m args below hf hA hF happ hP
  obtain ⟨hcalls, hrest, hpre⟩ := hP
  obtain ⟨-, -, -, hnamed, -, -, -, hat⟩ := (Spec.applies_iff hf).mp happ
  obtain ⟨hg, hn⟩ := and_e (Cond.before_iff.mp (show (Jvm.Cond.and given_1 narrow_1).before args s = true from hpre))
  obtain ⟨u1, u2⟩ := and_e hg
  obtain ⟨u3, u4⟩ := and_e u2
  obtain ⟨u5, u6⟩ := and_e u4
  obtain ⟨u7, u8⟩ := and_e u6
  obtain ⟨u9, u10⟩ := and_e u8
  obtain ⟨w0, w1, w2, w3, w4, rfl⟩ : ∃ w0 w1 w2 w3 w4 : Value, args = #[w0, w1, w2, w3, w4] := by
    have hs : args.size = 5 := by simpa [Cond.value, given_1] using u1
    obtain ⟨L⟩ := args
    match L, hs with
    | [w0, w1, w2, w3, w4], _ => exact ⟨w0, w1, w2, w3, w4, rfl⟩
  have hw := fun d (hd : d ∈ tables_1) => atoms_spec (ws := Jvm.Cond.code x code maxLocals ret :: tables_1) hat d (List.mem_cons_of_mem _ hd)
  obtain ⟨i0, ei0⟩ := is_v u3
  obtain rfl : w0 = (.int i0) := Option.some.inj ei0
  obtain ⟨i1, ei1⟩ := is_v u5
  obtain rfl : w1 = (.int i1) := Option.some.inj ei1
  obtain ⟨i2, ei2⟩ := is_v u7
  obtain rfl : w2 = (.int i2) := Option.some.inj ei2
  obtain ⟨i3, ei3⟩ := is_v u9
  obtain rfl : w3 = (.int i3) := Option.some.inj ei3
  obtain ⟨i4, ei4⟩ := is_v u10
  obtain rfl : w4 = (.int i4) := Option.some.inj ei4
  obtain ⟨n, o, h1, h2, h3, _, L, rfl, ⟨rfl, N⟩, hq⟩ := rm0 l s _ hw tables_1 i0 i1 i2 i3 i4 s.heap s.heap.size (Nat.le_refl _)  p e ha hc hk s m _ below hf ((Spec.applies_iff_loose hf).mp happ).1 ⟨rfl, State.Warmed39.refl s, rfl⟩ trivial
  refine ⟨n, _, h1, h2, h3, hpost _ _ _ _ _ _ ⟨Cond.after_iff.mpr rfl, Cond.after_iff.mpr (eq_i res_at (Term.int_eval (1)) rfl), trivial⟩ ⟨hq.1, hq.2.1, (hq.2.2.sift fun y hy => Or.inr (N y hy)).mono (by decide) (by decide)⟩⟩
theorem main_1_1 : Claimed_1_1 := comes_1 fun _ _ _ _ _ _ h hF => ⟨h.1, hF⟩
theorem main_1_2 : Claimed_1_2 := comes_1 fun _ _ _ _ _ _ h hF => ⟨h.2.1, hF⟩
end Jvm.Pilot.@@N@@
namespace Jvm.Pilot.@@N@@
open Jvm Jvm.ClassFile Sem Op Lib Jvm.Free Jvm.Stand Jvm.Pilot.@@N@@.Jvm.D
/-! MADE BY PROGRAM (witnessworld.py) out of the Statement's table words and the real class files: 9 classes; the members and pool entries that the words name. The judged class is class 1, her method 1. -/
namespace start1
open Jvm.ClassFile
def u (s : String) : CpInfo := .utf8 (stringToUtf16 s)
/-- a pool by its gaps: so many unusable entries, then the entry; so many at the end -/
def gap : Nat → List CpInfo → List CpInfo
  | 0, r => r
  | n + 1, r => .unusable :: gap n r
def poolList (es : List (Nat × CpInfo)) (last : Nat) : List CpInfo := es.foldr (fun e r => gap e.1 (e.2 :: r)) (gap last [])
def pool (es : List (Nat × CpInfo)) (last : Nat) : Array CpInfo := ⟨poolList es last⟩
def fileOf (pool : Array CpInfo) (this : Nat) (attrs : Array Attribute := #[]) (ms : Array MethodInfo := #[]) (fl : Nat := 33) (sup : Nat := 0) (ifs : Array Nat := #[]) (fds : Array FieldInfo := #[]) : ClassFile where
  minorVersion := 0
  majorVersion := 65
  constantPool := pool
  accessFlags := fl
  thisClass := this
  superClass := sup
  interfaces := ifs
  fields := fds
  methods := ms
  attributes := attrs
def plain (name : String) (sup : Option ClassId) : Class where
  name := name
  kind := .ordinary
  loader := none
  accessFlags := 33
  super := sup
  interfaces := #[]
  cf := none
  fields := #[]
  methods := #[]
  instanceTypes := #[]
  staticTypes := #[]
  resolved := #[]
  callSites := []
  init := .initialized
  statics := none
  mirror := none

def pool0 : Array CpInfo := pool [(5, u "<init>"), (0, u "()V"), (1, .class_ 10), (1, u "java/lang/Object")] 113

def k0m0 : Method := { name := "<init>", desc := "()V", sig := { parameters := [], returnType := none }, accessFlags := 1, code := none }
/-- java/lang/Object -/
def k0 : Class := { plain "java/lang/Object" none with
  accessFlags := 33
  interfaces := #[]
  cf := some (fileOf pool0 8 #[] #[{ accessFlags := 1, nameIndex := 5, descriptorIndex := 6, attributes := #[] }] 33 0 #[] #[])
  fields := #[]
  methods := #[k0m0]
  instanceTypes := #[]
  staticTypes := #[]
  resolved := Array.replicate 124 none
  statics := none }

def pool1 : Array CpInfo := pool [(2, .class_ 4), (1, u "java/lang/Object"), (0, u "<init>"), (0, u "()V"), (0, .methodref 8 9), (0, .class_ 10), (0, .nameAndType 11 12), (0, u "com/example/enodia/enodia/compare/MeanInterval"), (0, u "mean"), (0, u "([D)D"), (0, .class_ 14), (0, u "com/example/enodia/enodia/compare/MeanIntervalMeanPinLaw"), (2, u "law"), (0, u "(IIIII)Z")] 5

def k1m0 : Method := { name := "<init>", desc := "()V", sig := { parameters := [], returnType := none }, accessFlags := 2, code := none }
def k1c1 : Code := { maxStack := 5, maxLocals := 13, code := code, exceptionTable := #[], attributes := #[] }
def k1m1 : Method := { name := "law", desc := "(IIIII)Z", sig := { parameters := [.int, .int, .int, .int, .int], returnType := some .boolean }, accessFlags := 9, code := some k1c1 }
/-- com/example/enodia/enodia/compare/MeanIntervalMeanPinLaw -/
def k1 : Class := { plain "com/example/enodia/enodia/compare/MeanIntervalMeanPinLaw" (some 0) with
  accessFlags := 49
  interfaces := #[]
  cf := some (fileOf pool1 13 #[] #[{ accessFlags := 2, nameIndex := 5, descriptorIndex := 6, attributes := #[] }, { accessFlags := 9, nameIndex := 17, descriptorIndex := 18, attributes := #[] }] 49 2 #[] #[])
  fields := #[]
  methods := #[k1m0, k1m1]
  instanceTypes := #[]
  staticTypes := #[]
  resolved := Array.replicate 24 none
  statics := none }

def pool2 : Array CpInfo := pool [(2, .class_ 4), (1, u "java/lang/Object"), (3, .class_ 10), (1, u "com/example/enodia/enodia/compare/MeanInterval"), (0, u "mean"), (0, u "D"), (2, u "ci95Low"), (2, u "ci95High"), (2, u "([D)D"), (21, u "UPPER_PROBABILITY")] 14

def k2c0 : Code := { maxStack := 4, maxLocals := 8, code := prog_9_method_3_code, exceptionTable := #[], attributes := #[] }
def k2m0 : Method := { name := "mean", desc := "([D)D", sig := { parameters := [(.array .double)], returnType := some .double }, accessFlags := 8, code := some k2c0 }
/-- com/example/enodia/enodia/compare/MeanInterval -/
def k2 : Class := { plain "com/example/enodia/enodia/compare/MeanInterval" (some 0) with
  accessFlags := 48
  interfaces := #[]
  cf := some (fileOf pool2 8 #[] #[{ accessFlags := 8, nameIndex := 11, descriptorIndex := 21, attributes := #[] }] 48 2 #[] #[{ accessFlags := 26, nameIndex := 43, descriptorIndex := 12, attributes := #[] }, { accessFlags := 18, nameIndex := 11, descriptorIndex := 12, attributes := #[] }, { accessFlags := 18, nameIndex := 15, descriptorIndex := 12, attributes := #[] }, { accessFlags := 18, nameIndex := 18, descriptorIndex := 12, attributes := #[] }])
  fields := #[{ name := "UPPER_PROBABILITY", type := .double, accessFlags := 26, slot := 0, constantValue := 0 }, { name := "mean", type := .double, accessFlags := 18, slot := 0, constantValue := 0 }, { name := "ci95Low", type := .double, accessFlags := 18, slot := 1, constantValue := 0 }, { name := "ci95High", type := .double, accessFlags := 18, slot := 2, constantValue := 0 }]
  methods := #[k2m0]
  instanceTypes := #[.double, .double, .double]
  staticTypes := #[.double]
  resolved := Array.replicate 58 none
  statics := none }

def pool3 : Array CpInfo := pool [(1, u "java/lang/Cloneable"), (0, .class_ 1), (0, u "java/lang/Object"), (0, .class_ 3)] 3

/-- java/lang/Cloneable -/
def k3 : Class := { plain "java/lang/Cloneable" (some 0) with
  accessFlags := 1537
  interfaces := #[]
  cf := some (fileOf pool3 2 #[] #[] 1537 4 #[] #[])
  fields := #[]
  methods := #[]
  instanceTypes := #[]
  staticTypes := #[]
  resolved := Array.replicate 8 none
  statics := none }

def pool4 : Array CpInfo := pool [(1, u "java/io/Serializable"), (0, .class_ 1), (0, u "java/lang/Object"), (0, .class_ 3)] 3

/-- java/io/Serializable -/
def k4 : Class := { plain "java/io/Serializable" (some 0) with
  accessFlags := 1537
  interfaces := #[]
  cf := some (fileOf pool4 2 #[] #[] 1537 4 #[] #[])
  fields := #[]
  methods := #[]
  instanceTypes := #[]
  staticTypes := #[]
  resolved := Array.replicate 8 none
  statics := none }

/-- the primitive byte -/
def k5 : Class := { plain "byte" none with kind := .primitive 'B', accessFlags := 0x411 }
/-- [B -/
def k6 : Class := { plain "[B" (some 0) with kind := .array 5 .byte, interfaces := #[3, 4], accessFlags := 1041 }

/-- the primitive int -/
def k7 : Class := { plain "int" none with kind := .primitive 'I', accessFlags := 0x411 }
/-- [I -/
def k8 : Class := { plain "[I" (some 0) with kind := .array 7 .int, interfaces := #[3, 4], accessFlags := 1041 }

def k9 : Class := { plain "double" none with kind := .primitive 'D', accessFlags := 0x411 }
def k10 : Class := { plain "[D" (some 0) with kind := .array 9 .double, interfaces := #[3, 4], accessFlags := 1041 }

def heap : Heap := #[]
def classes : Array Class := #[k0, k1, k2, k3, k4, k5, k6, k7, k8, k9, k10]
def interned : List (Array UInt16 × Addr) := []
def slotsUsed : Nat := 0
def theMethod : MethodId := ⟨1, 1⟩
def args0 : Array Value := #[.int 1, .int 2, .int 3, .int 4, .int 5]
def aboutOver (below : List Frame) : State where
  vm := { classes := classes, interned := interned.toArray }
  heap := heap
  slotsUsed := slotsUsed
  threads := #[{ frames := .invoking theMethod args0 :: below }]
def below0 : List Frame := [.native { method := ⟨0, 0⟩, args := #[] }]
def about1 : State := aboutOver below0
def p0 : Program := .bare "" "" ""
def e0 : Env := launch0.env 0 0 0
theorem w_frames : about1.frames = Frame.invoking theMethod args0 :: below0 := rfl
set_option maxRecDepth 65536 in
theorem w_args : argsFit about1.vm theMethod args0 = true := by decide +kernel
set_option maxRecDepth 65536 in
theorem w_heap : heapFits about1 = true := by decide +kernel
set_option maxRecDepth 65536 in
theorem w_runnable : about1.curStatus? = some .runnable := by decide +kernel
set_option maxRecDepth 65536 in
theorem w_alone : about1.alone = true := by decide +kernel
set_option maxRecDepth 65536 in
theorem w_named : about1.methodNamed? x = some theMethod := by decide +kernel
set_option maxRecDepth 65536 in
theorem w_hears : about1.hears theMethod below0 = true := by decide +kernel
set_option maxRecDepth 65536 in
theorem w_ripe : about1.ripe theMethod args0 below0 = true := by decide +kernel
theorem w_running : about1.status = .running := rfl
set_option maxRecDepth 65536 in
theorem w_room : about1.hasRoom e0.platform room_1 = true :=
  launch0.hasRoom_least _ room_1 (by decide +kernel) (by decide +kernel) (by decide +kernel) (by decide +kernel) (by decide +kernel) (by decide +kernel)
theorem allAtoms_all (ts : List Jvm.Cond) (a : Array Jvm.Value) (st : Jvm.State) : (allAtoms ts).before a st = ts.all (fun c => c.before a st) := by
  induction ts with
  | nil => rfl
  | cons c t ih =>
    show (Jvm.Cond.and c (allAtoms t)).before a st = _
    rw [Jvm.Cond.before_and, ih, List.all_cons]
def words1 : List Jvm.Cond := Jvm.Cond.code x code maxLocals ret :: tables_1
/-- a 'code' word, met by the world's own term for the bytes: nothing is compared byte by byte -/
theorem code_word {y : MethodName} {bytes : ByteArray} {mx : Nat} {rt : Option FieldType} {a : Array Value} {s : State} {m : MethodId} {meth : Method} {c : Code} (h1 : s.methodNamed? y = some m) (h2 : s.vm.method? m = some meth) (h3 : meth.code = some c) (h4 : c.code = bytes)
    (h5 : (c.maxLocals == mx && c.exceptionTable.isEmpty && decide (c.maxStack ≤ mostOperands) && decide (meth.sig.returnType = rt) && !meth.locks && decide (parseMethodDescriptor y.desc = some meth.sig)) = true) : (Jvm.Cond.code y bytes mx rt).before a s = true := by
  simp only [Bool.and_eq_true, beq_iff_eq, Bool.not_eq_true', decide_eq_true_eq] at h5
  obtain ⟨⟨⟨⟨⟨g1, g2⟩, g3⟩, g4⟩, g5⟩, g6⟩ := h5
  simp [Cond.before, Cond.holds, Cond.value, h1, h2, h3, h4, g1, g2, g3, g4, g5, g6]
def isCode : Jvm.Cond → Bool
  | .code _ _ _ _ => true
  | _ => false
theorem all_split {L : List Jvm.Cond} {P : Jvm.Cond → Bool} (h1 : L.all (fun c => isCode c || P c) = true) (h2 : ∀ c ∈ L.filter isCode, P c = true) : L.all P = true := by
  refine List.all_eq_true.mpr fun c hc => ?_
  have h := List.all_eq_true.mp h1 c hc
  rcases Bool.eq_false_or_eq_true (isCode c) with hi | hi
  · exact h2 c (List.mem_filter.mpr ⟨hc, hi⟩)
  · simpa [hi] using h
set_option maxRecDepth 65536 in
theorem w_c0 : (Jvm.Cond.code x code maxLocals ret).before args0 about1 = true := code_word (m := ⟨1, 1⟩) (meth := k1m1) (c := k1c1) (by decide +kernel) rfl rfl rfl (by decide +kernel)
set_option maxRecDepth 65536 in
theorem w_c1 : (Jvm.Cond.code ({ cls := "com/example/enodia/enodia/compare/MeanInterval", name := "mean", desc := "([D)D" } : Jvm.MethodName) prog_9_method_3_code (8 : Nat) (Option.some Jvm.ClassFile.FieldType.double)).before args0 about1 = true := code_word (m := ⟨2, 0⟩) (meth := k2m0) (c := k2c0) (by decide +kernel) rfl rfl rfl (by decide +kernel)
def codes1 : List Jvm.Cond := [Jvm.Cond.code x code maxLocals ret, Jvm.Cond.code ({ cls := "com/example/enodia/enodia/compare/MeanInterval", name := "mean", desc := "([D)D" } : Jvm.MethodName) prog_9_method_3_code (8 : Nat) (Option.some Jvm.ClassFile.FieldType.double)]
set_option maxRecDepth 65536 in
theorem codes_eq : words1.filter isCode = codes1 := rfl
theorem w_codes : ∀ c ∈ words1.filter isCode, c.before args0 about1 = true := by
  rw [codes_eq]
  intro c hc
  simp only [codes1, List.mem_cons, List.not_mem_nil, or_false] at hc
  rcases hc with rfl | rfl
  · exact w_c0
  · exact w_c1
set_option maxRecDepth 65536 in
theorem w_t1 : words1.all (fun c => isCode c || c.before args0 about1) = true := by decide +kernel
theorem w_tables : (allAtoms (Jvm.Cond.code x code maxLocals ret :: tables_1)).before args0 about1 = true := by
  rw [allAtoms_all]
  show words1.all (fun c => c.before args0 about1) = true
  refine all_split ?_ w_codes
  rw [w_t1]
set_option maxRecDepth 65536 in
theorem w_case : (Jvm.Cond.and given_1 narrow_1).before args0 about1 = true := by decide +kernel
theorem w_applies : (headSpec (Jvm.Cond.code x code maxLocals ret :: tables_1) room_1).applies x e0.platform about1 = true :=
  (Spec.applies_iff w_frames).mpr ⟨w_running, w_runnable, w_alone, w_named, w_hears, w_ripe, w_room, w_tables⟩
theorem atStart : AtStart classFile x code maxLocals ret World_1 tables_1 room_1 Calls_1 rest_1 Pre_1 launch0 p0 e0 about1 theMethod args0 below0 :=
  ⟨lists_1, trivial, launch0.admits_env _ _ _, launch0.least_env, fairChoices_fair.cas, fairChoices_fair.clock, w_frames, w_args, w_heap, w_applies, trivial, trivial, w_case⟩
end start1
theorem witness_1 : WitnessClaimed_1 := ⟨start1.p0, start1.e0, start1.about1, start1.theMethod, start1.args0, start1.below0, start1.atStart⟩
end Jvm.Pilot.@@N@@
