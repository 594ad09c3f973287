import JvmDerived
import JvmDerived.Pilot.@@N@@Statement
import JvmDerived.Pilot.@@N@@Code
set_option linter.unusedVariables false
set_option linter.unusedSimpArgs false
@@BLOCK:NumsL.lean.txt@@
namespace Jvm.RoadKit
open Sem ClassFile Op Lib Jvm.Stand Jvm.Free Jvm.LawKit
section Own
variable {p : Program} {l : Launch} {e : Env} {R : Room} {s : State} {m : MethodId} {args : Array Value} {below : List Frame} {meth : Method} {c : Code} {T : State} {locs : List Loc} {cells slots : Nat} {Z : State} {h h' : Heap} {a b : Addr} {ty : FieldType} {vs : List Value} {cl : Cell} {sl : Nat} {v : Value} {ws : List Addr}
theorem mw {α : Type} {x : α} {L : List α} (i : Nat) (q : L[i]? = some x) : x ∈ L := List.mem_of_getElem? q
/-- from A the body comes to its end, and Q holds there -/
def Goal (p : Program) (e : Env) (below : List Frame) (s : State) (Q : Option Value → Heap → List Loc → Prop) (k n : Nat) (A : State) : Prop :=
  ∃ s₂ o, Steps p.tables e below A s₂ ∧ s₂.status = .running ∧ Ended s₂ below o ∧ ∃ v L, o = .returned v ∧ Q v s₂.heap L ∧ FrameEnd s o s₂ L k n
variable {Q : Option Value → Heap → List Loc → Prop} {k n : Nat} {A B : State}
theorem Goal.to (f : ∀ t, Steps p.tables e below B t → Steps p.tables e below A t) (g : Goal p e below s Q k n B) : Goal p e below s Q k n A := by
  obtain ⟨s₂, o, h1, r⟩ := g
  exact ⟨s₂, o, f _ h1, r⟩
theorem Goal.tr (f : Steps p.tables e below A B) (g : Goal p e below s Q k n B) : Goal p e below s Q k n A := Goal.to (fun t q => f.trans q) g
theorem Goal.retV (X : Stand p l e R s m args below meth c T locs cells slots) (hx : p.tables.exec = Jvm.exec) {pc : Nat} {Ls : Array Slot} {w : Value} {t : FieldType} {i : Instr} {rest : List Value} (hret : meth.sig.returnType = some t) (hn : narrow t w = w)
    (hi : (i = .ireturn ∧ (t = .int ∨ t = .boolean ∨ t = .byte ∨ t = .char ∨ t = .short) ∧ ∃ z, w = .int z) ∨ (i = .lreturn ∧ t = .long ∧ ∃ z, w = .long z) ∨ (i = .dreturn ∧ t = .double ∧ ∃ z, w = .double z) ∨ (i = .freturn ∧ t = .float ∧ ∃ z, w = .float z) ∨ (i = .areturn ∧ t.isReference = true ∧ w.isRef = true))
    (hd : decode c.code pc = .ok (i, 1)) (hlk : meth.locks = false) (eT : T.heap = h) (hq : Q (some w) h locs) (hc : cells ≤ k) (hs : slots ≤ n) : Goal p e below s Q k n (T.setTop (mkF m pc Ls (w :: rest))) := by
  obtain ⟨fs, hr, hrun, hended, hW, hsame⟩ := X.leave (v := some w) (fun h => by rw [hret] at h; cases h) hlk
  refine ⟨_, _, retOut X hx hret hn hi hd hr, hrun, hended, _, _, rfl, ?_, ⟨_, rfl⟩, hW, hsame.mono hc hs⟩
  show Q (some w) T.heap locs
  rw [eT]; exact hq
theorem Goal.retN (X : Stand p l e R s m args below meth c T locs cells slots) (hx : p.tables.exec = Jvm.exec) {pc : Nat} {Ls : Array Slot} (hret : meth.sig.returnType = none)
    (hd : decode c.code pc = .ok (.return_, 1)) (hlk : meth.locks = false) (eT : T.heap = h) (hq : Q none h locs) (hc : cells ≤ k) (hs : slots ≤ n) : Goal p e below s Q k n (T.setTop (mkF m pc Ls [])) := by
  obtain ⟨fs, hr, hrun, hended, hW, hsame⟩ := X.leave (v := none) (fun _ => rfl) hlk
  refine ⟨_, _, X.returnOut hx hret hd hr, hrun, hended, _, _, rfl, ?_, ⟨_, rfl⟩, hW, hsame.mono hc hs⟩
  show Q none T.heap locs
  rw [eT]; exact hq
/-- the same, with the wide end: texts may have been interned -/
def GoalW (p : Program) (e : Env) (below : List Frame) (s : State) (Q : Option Value → Heap → List Loc → Prop) (k n : Nat) (A : State) : Prop :=
  ∃ s₂ o, Steps p.tables e below A s₂ ∧ s₂.status = .running ∧ Ended s₂ below o ∧ ∃ v L, o = .returned v ∧ Q v s₂.heap L ∧ ReturnedEndW s o s₂ L k n
theorem GoalW.to (f : ∀ t, Steps p.tables e below B t → Steps p.tables e below A t) (g : GoalW p e below s Q k n B) : GoalW p e below s Q k n A := by
  obtain ⟨s₂, o, h1, r⟩ := g
  exact ⟨s₂, o, f _ h1, r⟩
theorem GoalW.tr (f : Steps p.tables e below A B) (g : GoalW p e below s Q k n B) : GoalW p e below s Q k n A := GoalW.to (fun t q => f.trans q) g
theorem GoalW.retV {vm0 : Vm} (X : Stand p l e R (s.setVm vm0) m args below meth c T locs cells slots) {k0 : Nat} (hS : s.Since vm0 k0) (hx : p.tables.exec = Jvm.exec) {pc : Nat} {Ls : Array Slot} {w : Value} {t : FieldType} {i : Instr} {rest : List Value} (hret : meth.sig.returnType = some t) (hn : narrow t w = w)
    (hi : (i = .ireturn ∧ (t = .int ∨ t = .boolean ∨ t = .byte ∨ t = .char ∨ t = .short) ∧ ∃ z, w = .int z) ∨ (i = .lreturn ∧ t = .long ∧ ∃ z, w = .long z) ∨ (i = .dreturn ∧ t = .double ∧ ∃ z, w = .double z) ∨ (i = .freturn ∧ t = .float ∧ ∃ z, w = .float z) ∨ (i = .areturn ∧ t.isReference = true ∧ w.isRef = true))
    (hd : decode c.code pc = .ok (i, 1)) (hlk : meth.locks = false) (eT : T.heap = h) (hk : k0 ≤ h.size) (hq : Q (some w) h locs) (hc : cells ≤ k) (hs : slots ≤ n) : GoalW p e below s Q k n (T.setTop (mkF m pc Ls (w :: rest))) := by
  obtain ⟨fs, hr, hrun, hended, e1, e2, e3, e4⟩ := X.leaveW hS (by rw [eT]; exact hk) (v := some w) (fun h => by rw [hret] at h; cases h) hlk
  refine ⟨_, _, retOut X hx hret hn hi hd hr, hrun, hended, _, _, rfl, ?_, e1, e2, e3, e4.mono hc hs⟩
  show Q (some w) T.heap locs
  rw [eT]; exact hq
theorem nar01 {z : Int32} (q : z = 0 ∨ z = 1) : narrow .boolean (.int z) = .int z := by rcases q with rfl | rfl <;> rfl
theorem catV {r : Value} (q : r.isRef = true) : r.category = 1 := by rcases ref_cases q with rfl | ⟨o, rfl⟩ <;> rfl
theorem narV {r : Value} {C : String} (q : r.isRef = true) : narrow (.object C) r = r := by rcases ref_cases q with rfl | ⟨o, rfl⟩ <;> rfl
theorem fitV {r : Value} {C : String} (q : r.isRef = true) : fits (.object C) r = true := by rcases ref_cases q with rfl | ⟨o, rfl⟩ <;> rfl
theorem selP {a0 : Array Value} {y : MethodName} {n : Nat} (hZ : Z.Warmed39 s.vm) (hins : (Cond.instantiable y.cls n).before a0 Z = true) (hp : (Cond.privateMethod y).before a0 Z = true) (hi : (Cond.instanceMethod y).before a0 Z = true) (hy : y.cls ≠ "java/lang/invoke/MethodHandle" ∧ y.cls ≠ "java/lang/invoke/VarHandle") : (Cond.selects y.cls y y).before args s = true := by
  obtain ⟨c, k, hc, hk, -, hniab, -, -⟩ := Cond.instantiable_spec (mv (args := args) hZ hins)
  exact selects_self_of_private hc hk (Bool.or_eq_false_iff.mp hniab).1 (Cond.privateMethod_at (mvP (args := args) hZ hp)) (mv hZ hi) hy
theorem Fld.cast {C n d : String} {w : Value} (F : Fld Z h a C n d v) (q : v = w) : Fld Z h a C n d w := q ▸ F
/-- an array of the heap by the whole list of what it holds -/
def Ary (Z : State) (h : Heap) (a : Addr) (ty : FieldType) (vs : List Value) : Prop := ∃ cl : Cell, Arr Z h a cl ty ∧ cl.slots.toList = vs
theorem Ary.cast {ws : List Value} (F : Ary Z h a ty vs) (q : vs = ws) : Ary Z h a ty ws := q ▸ F
theorem Ary.lt (F : Ary Z h a ty vs) : a < h.size := by obtain ⟨cl, A, -⟩ := F; exact A.lt
theorem Ary.ext (F : Ary Z h a ty vs) (E : Ext h h') : Ary Z h' a ty vs := by obtain ⟨cl, A, r⟩ := F; exact ⟨cl, A.ext E, r⟩
theorem Ary.other (F : Ary Z h a ty vs) (W : Wr h h' b sl v) (q : a ≠ b) : Ary Z h' a ty vs := by obtain ⟨cl, A, r⟩ := F; exact ⟨cl, A.other W q, r⟩
theorem Ary.keep (F : Ary Z h a ty vs) (K : Keep h h' ws) (q : a ∉ ws) : Ary Z h' a ty vs := by obtain ⟨cl, A, r⟩ := F; exact ⟨cl, ⟨K.2.1 a cl A.1 q, A.2⟩, r⟩
theorem Ary.new {k : ClassId} {z : Int32} {N : Nat} (A : Arr Z h a (newA k ty z) ty) (hz : z.toNatClampNeg = N) : Ary Z h a ty (List.replicate N (defaultValue ty)) := ⟨_, A, by simp [newA, hz]⟩
theorem Ary.put {j : Nat} {N : Nat} (A : Arr Z h a cl ty) (S : cl.slots.toList = vs) (W : Wr h h' a j v) (q : j = N) : Ary Z h' a ty (vs.set N v) := ⟨_, A.same W, by subst q; simp [Cell.setSlot, S]⟩
theorem sizeA (S : cl.slots.toList = vs) : cl.slots.size = vs.length := by rw [← S]; simp
theorem inA {j : Int32} (S : cl.slots.toList = vs) (q : ¬ j < 0) (r : j.toNatClampNeg < vs.length) : ¬ (j < 0 ∨ cl.slots.size ≤ j.toNatClampNeg) := by rw [sizeA S]; intro u; rcases u with u | u; exact q u; exact absurd r (Nat.not_lt.mpr u)
theorem atA {j : Nat} (S : cl.slots.toList = vs) (q : vs[j]? = some v) : cl.slots[j]? = some v := by rw [← q, ← S]; simp
theorem lenA {z : Int32} (S : cl.slots.toList = vs) (q : vs.length.toInt32 = z) : cl.slots.size.toInt32 = z := by rw [sizeA S]; exact q
/-- a static that stood when the law began, and what it holds -/
def StaN (Z : State) (n0 : Nat) (h : Heap) (C n d : String) (v : Value) : Prop := ∃ (cf i : Nat) (k : Class) (f : Field) (st : Addr) (cell : Cell), Z.fieldFound? C n d = some (cf, k, i, f) ∧ f.isStatic = true ∧ k.init = .initialized ∧ k.statics = some st ∧ h[st]? = some cell ∧ cell.vm.isStatics = true ∧ cell.slots[f.slot]? = some v ∧ st < n0
section StaN
variable {C nm d : String} {n0 : Nat}
theorem StaN.sta (F : StaN Z n0 h C nm d v) : Sta Z h C nm d v := by obtain ⟨cf, i, k, f, st, cell, h1, h2, h3, h4, h5, h6, h7, -⟩ := F; exact ⟨cf, i, k, f, st, cell, h1, h2, h3, h4, h5, h6, h7⟩
theorem Sta.toN (F : Sta Z h C nm d v) : StaN Z h.size h C nm d v := by obtain ⟨cf, i, k, f, st, cell, h1, h2, h3, h4, h5, h6, h7⟩ := F; exact ⟨cf, i, k, f, st, cell, h1, h2, h3, h4, h5, h6, h7, (Array.getElem?_eq_some_iff.mp h5).1⟩
theorem StaN.ext (F : StaN Z n0 h C nm d v) (E : Ext h h') : StaN Z n0 h' C nm d v := by obtain ⟨cf, i, k, f, st, cell, h1, h2, h3, h4, h5, r⟩ := F; exact ⟨cf, i, k, f, st, cell, h1, h2, h3, h4, E.2 _ _ h5, r⟩
theorem StaN.keep (F : StaN Z n0 h C nm d v) (K : Keep h h' ws) (q : ∀ x ∈ ws, n0 ≤ x) : StaN Z n0 h' C nm d v := by
  obtain ⟨cf, i, k, f, st, cell, h1, h2, h3, h4, h5, h6, h7, h8⟩ := F
  exact ⟨cf, i, k, f, st, cell, h1, h2, h3, h4, K.2.1 _ _ h5 (fun z => absurd h8 (Nat.not_lt.mpr (q _ z))), h6, h7, h8⟩
theorem StaN.wr {w : Value} (F : StaN Z n0 h C nm d v) (W : Wr h h' a sl w) : StaN Z n0 h' C nm d v := by
  obtain ⟨cf, i, k, f, st, cell, h1, h2, h3, h4, h5, h6, h7, h8⟩ := F
  obtain ⟨c', e1, -, -, -, e5, -, e7⟩ := wr_at W h5
  have ne : st ≠ a := fun e => by rw [(e7 e).2.2] at h6; cases h6
  exact ⟨cf, i, k, f, st, cell, h1, h2, h3, h4, by rw [← e5 ne]; exact e1, h6, h7, h8⟩
end StaN
/-- what may lie in an array of objects of class C (of arrays of class C) -/
def OvrO (Z : State) (h : Heap) (a : Addr) (C : String) : Prop := ∃ cl : Cell, h[a]? = some cl ∧ Ovr Z cl.cls C
theorem OvrO.ext {C : String} (F : OvrO Z h a C) (E : Ext h h') : OvrO Z h' a C := by obtain ⟨cl, h1, r⟩ := F; exact ⟨cl, E.2 _ _ h1, r⟩
theorem OvrO.wr {C : String} (F : OvrO Z h a C) (W : Wr h h' b sl v) : OvrO Z h' a C := by obtain ⟨cl, h1, r⟩ := F; obtain ⟨c', e1, e2, -⟩ := wr_at W h1; exact ⟨c', e1, by rw [e2]; exact r⟩
theorem OvrO.keep {C : String} (F : OvrO Z h a C) (K : Keep h h' ws) : OvrO Z h' a C := by obtain ⟨cl, h1, r⟩ := F; obtain ⟨c', e1, e2, -⟩ := K.2.2 _ _ h1; exact ⟨c', e1, by rw [e2]; exact r⟩
theorem stoO {C : String} {y : Addr} (A : Arr Z h a cl ty) (O : OvrO Z h a C) (I : Ins Z h y C true) : Sto Z h a (.ref y) := by
  obtain ⟨c', h1, r⟩ := O
  cases A.1.symm.trans h1
  exact Sto.of A r I
def OvrB (Z : State) (h : Heap) (a : Addr) (C : String) : Prop := ∃ (cl : Cell) (t : FieldType), h[a]? = some cl ∧ OvrA Z cl.cls t C
theorem OvrB.ext {C : String} (F : OvrB Z h a C) (E : Ext h h') : OvrB Z h' a C := by obtain ⟨cl, t, h1, r⟩ := F; exact ⟨cl, t, E.2 _ _ h1, r⟩
theorem OvrB.wr {C : String} (F : OvrB Z h a C) (W : Wr h h' b sl v) : OvrB Z h' a C := by obtain ⟨cl, t, h1, r⟩ := F; obtain ⟨c', e1, e2, -⟩ := wr_at W h1; exact ⟨c', t, e1, by rw [e2]; exact r⟩
theorem OvrB.keep {C : String} (F : OvrB Z h a C) (K : Keep h h' ws) : OvrB Z h' a C := by obtain ⟨cl, t, h1, r⟩ := F; obtain ⟨c', e1, e2, -⟩ := K.2.2 _ _ h1; exact ⟨c', t, e1, by rw [e2]; exact r⟩
theorem stoB {C : String} {y : Addr} (A : Arr Z h a cl ty) (O : OvrB Z h a C) (I : Ins Z h y C true) : Sto Z h a (.ref y) := by
  obtain ⟨c', t, h1, r⟩ := O
  cases A.1.symm.trans h1
  exact Sto.ofVA A rfl r I
theorem fits_nil : ∀ w ∈ ([] : List Value), fits ty w = true := fun _ q => nomatch q
theorem fits_cons (q : fits ty v = true) (r : ∀ w ∈ vs, fits ty w = true) : ∀ w ∈ v :: vs, fits ty w = true := fun w z => (List.mem_cons.mp z).elim (fun u => u ▸ q) (r w)
theorem Ary.arv {dv : Value} {z : Int32} (F : Ary Z h a ty vs) (hz : z.toNatClampNeg = vs.length) (h0 : ¬ z < 0) (hf : ∀ w ∈ vs, fits ty w = true) : ∃ k, Arv Z h a k ty z vs dv := by
  obtain ⟨cl, A, S⟩ := F
  have sz : cl.slots.size = vs.length := sizeA S
  refine ⟨_, cl, A, rfl, sz.trans hz.symm, h0, fun i hi => ?_, fun i hi => ?_⟩
  · rw [sz] at hi
    refine atA S ?_
    rw [List.getD_eq_getElem?_getD, List.getElem?_eq_getElem hi]; rfl
  · rw [sz] at hi
    rw [List.getD_eq_getElem?_getD, List.getElem?_eq_getElem hi]
    exact hf _ (List.getElem_mem hi)
theorem Arv.ary {k : ClassId} {z : Int32} {dv : Value} (F : Arv Z h a k ty z vs dv) (hz : z.toNatClampNeg = vs.length) : Ary Z h a ty vs := by
  obtain ⟨cl, A, -, S, -, H, -⟩ := F
  refine ⟨cl, A, List.ext_getElem? fun i => ?_⟩
  by_cases hi : i < cl.slots.size
  · have q := H i hi
    have hv : i < vs.length := by omega
    rw [List.getD_eq_getElem?_getD, List.getElem?_eq_getElem hv] at q
    rw [List.getElem?_eq_getElem hv, Array.getElem?_toList]; exact q
  · rw [List.getElem?_eq_none (by simp; omega), List.getElem?_eq_none (by omega)]
theorem storeV {Ls : Array Slot} {i : Nat} {r : Value} {o : Slot} {l' : Array Slot} (q : r.isRef = true) (ho : o = .unset ∨ ∃ w, o = .val w ∧ w.category = 1) (hold : Ls[i]? = some o := by rfl) (hl : Ls.setIfInBounds i (.val r) = l' := by rfl) : storeLocals Ls i r = some l' := by
  rw [← hl]; exact XS.store1 hold ho (catV q)
end Own
end Jvm.RoadKit
namespace Jvm.Pilot.@@N@@
open Jvm Jvm.ClassFile Sem Op Lib Jvm.Free Jvm.Stand Jvm.LawKit Jvm.RoadKit Bundle Jvm.Pilot.@@N@@.Jvm.D
theorem own_if (P : Prop) [Decidable P] : (if P then (1 : Int32) else (0 : Int32)) = 0 ∨ (if P then (1 : Int32) else (0 : Int32)) = 1 := by
  by_cases h : P
  · exact Or.inr (if_pos h)
  · exact Or.inl (if_neg h)
theorem own_yes {P : Prop} [Decidable P] (h : P) : ¬ ((if P then (1 : Int32) else (0 : Int32)) = (0 : Int32)) := by rw [if_pos h]; decide
theorem own_no {P : Prop} [Decidable P] (h : ¬ P) : (if P then (1 : Int32) else (0 : Int32)) = (0 : Int32) := if_neg h
theorem own_was {P : Prop} [Decidable P] (h : ¬ ((if P then (1 : Int32) else (0 : Int32)) = (0 : Int32))) : P := by
  by_cases q : P
  · exact q
  · exact absurd (if_neg q) h
theorem own_dn {x y ub lo hi : Int32} (h1 : lo = if y < x then y else x) (h2 : hi = if x < y then y else x) (h : hi < ub) : lo < ub := by
  rw [Int32.lt_iff_toInt_lt] at *
  have a : lo.toInt ≤ hi.toInt := by
    rw [h1, h2]
    by_cases p1 : y < x <;> by_cases p2 : x < y <;> simp only [p1, p2, if_true, if_false] <;> rw [Int32.lt_iff_toInt_lt] at p1 p2 <;> omega
  omega
theorem own_pred {x : Int32} (h : ¬ x = (-2147483648 : Int32)) : (x - (1 : Int32)) < x := by
  have e1 : (1 : Int32).toInt = 1 := rfl
  have em : (-2147483648 : Int32).toInt = -2147483648 := rfl
  have a := x.le_toInt
  have b : x.toInt ≠ -2147483648 := fun q => h (Int32.toInt_inj.mp (by rw [q, em]))
  have d := x.toInt_lt
  rw [Int32.lt_iff_toInt_lt, Jvm.Kit.i32_sub (by rw [e1]; omega) (by rw [e1]; omega), e1]; omega
theorem ef_2 (m : MethodId) (x0 : Addr)  : entryFrame m #[(.ref x0)] 1 = mkF m 0 #[.val (.ref x0)] [] := by first | (simp [entryFrame, mkF, argsToLocals, Value.category]; done) | rfl
theorem pn_2 : plainName "java/lang/Record" = true := by first | (simp [plainName, overriddenIn]; done) | decide +kernel
theorem d2_0 : decode jdk_30_method_1_code 0 = .ok (.aload_n 0, 1) := by decide +kernel
theorem d2_1 : decode jdk_30_method_1_code 1 = .ok (.invokespecial 1, 3) := by decide +kernel
theorem d2_4 : decode jdk_30_method_1_code 4 = .ok (.return_, 1) := by decide +kernel
def Q2 (Z : State) (va : Addr) (h0 : Heap) (n0 : Nat) (v : Option Value) (h : Heap) (L : List Loc) : Prop := v = none ∧ Fr n0 L ∧ h = h0
set_option maxRecDepth 65536 in
set_option maxHeartbeats 40000000 in
theorem rm2 (l : Launch) (Z : State) (a0 : Array Value) (hw : ∀ d ∈ tables_1, d.before a0 Z = true) (ws : List Jvm.Cond) (va : Addr) (h0 : Heap) (n0 : Nat) (Z0 : n0 ≤ h0.size) :
    MetFree l (⟨"java/lang/Record", "<init>", "()V"⟩ : MethodName) (head1 (Jvm.Cond.code (⟨"java/lang/Record", "<init>", "()V"⟩ : MethodName) jdk_30_method_1_code 1 none :: ws) ({ frames := 1, cells := 0, slots := 0, locals := 12 } : Room)) (fun a U => a = #[(.ref va)] ∧ Z.Warmed39 U.vm ∧ U.heap = h0) (fun _ _ _ _ _ => True) (fun _ U o U' => ∃ v L, o = .returned v ∧ Q2 Z va h0 n0 v U'.heap L ∧ FrameEnd U o U' L 0 0) := by
  refine MetFree.of_bodySF (plainFor_of_name pn_2) hisR ?_
  intro p e s m args below meth c s₁ Bd hml0 hP hK
  obtain ⟨rfl, hZ, hh⟩ := hP
  have hx := Bd.exec
  have hby := Bd.bytes
  have hml : c.maxLocals = 1 := hml0
  have hown : s.vm.findClass "java/lang/Record" = some m.cls := findClass_of_methodNamed Bd.named
  have hnm := (name_of_methodNamed Bd.named Bd.method).1
  have X0 : Stand p l e ({ frames := 1, cells := 0, slots := 0, locals := 12 } : Room) s m #[(.ref va)] below meth c s₁ [] 0 0 := Stand.of_body Bd
  have e0 : s₁.heap = h0 := by rw [← hh, Bd.state]; rfl
  have N0 := Fr.nil n0
  have hlk : meth.locks = false := BodyLoose.notSynchronized Bd
  show Goal p e below s (Q2 Z va h0 n0) 0 0 (s₁.setTop (entryFrame m #[(.ref va)] 1))
  refine Goal.to (B := s₁.setTop (mkF m 0 #[.val (.ref va)] [])) (fun tt kk => castTop (ef_2 m va ) kk) ?_
  refine Goal.to (B := s₁.setTop (mkF m 1 #[.val (.ref va)] [(.ref va)])) (fun tt kk => ?_) ?_
  · show Steps p.tables e below (s₁.setTop (mkF m 0 #[.val (.ref va)] [])) tt
    refine XS.aloadN X0.here hx rfl (hb hby d2_0) rfl rfl ?_
    exact kk
  obtain ⟨T1, X1, e1, st1⟩ := initO X0 hx hZ hown (hw _ (mw 11 rfl)) (hw _ (mw 12 rfl)) (hw _ (mw 13 rfl)) e0 (g := (mkF m 1 #[.val (.ref va)] [(.ref va)])) rfl (by rw [hml]; rfl) rfl (hb hby d2_1) (by decide) (W := 0) (by show 2 * 0 + _ ≤ _; exact Nat.le_of_eq rfl) (by decide)
  refine Goal.to (B := T1.setTop (mkF m 4 #[.val (.ref va)] [])) st1 ?_
  exact Goal.retN X1 hx Bd.returns (hb hby d2_4) hlk e1 ⟨rfl, N0, rfl⟩ (by decide) (by decide)
theorem ef_1 (m : MethodId) (x0 : Addr) (x1 : Int32)  : entryFrame m #[(.ref x0), (.int x1)] 2 = mkF m 0 #[.val (.ref x0), .val (.int x1)] [] := by first | (simp [entryFrame, mkF, argsToLocals, Value.category]; done) | rfl
theorem pn_1 : plainName "com/example/tavernlex/tavernlex/cli/Handover" = true := by first | (simp [plainName, overriddenIn]; done) | decide +kernel
theorem d1_0 : decode prog_90_method_1_code 0 = .ok (.aload_n 0, 1) := by decide +kernel
theorem pd_1 : parseMethodDescriptor "()V" = some ⟨[], none⟩ := by decide +kernel
theorem d1_1 : decode prog_90_method_1_code 1 = .ok (.invokespecial 1, 3) := by decide +kernel
theorem d1_4 : decode prog_90_method_1_code 4 = .ok (.aload_n 0, 1) := by decide +kernel
theorem d1_5 : decode prog_90_method_1_code 5 = .ok (.iload_n 1, 1) := by decide +kernel
theorem d1_6 : decode prog_90_method_1_code 6 = .ok (.putfield 7, 3) := by decide +kernel
theorem d1_9 : decode prog_90_method_1_code 9 = .ok (.return_, 1) := by decide +kernel
def Q1 (Z : State) (va : Addr) (u0 : Int32) (h0 : Heap) (n0 : Nat) (v : Option Value) (h : Heap) (L : List Loc) : Prop := v = none ∧ Fr n0 L ∧ Keep h0 h [va] ∧ Exa Z h va "com/example/tavernlex/tavernlex/cli/Handover" ∧ Fld Z h va "com/example/tavernlex/tavernlex/cli/Handover" "below" "I" (.int u0)
set_option maxRecDepth 65536 in
set_option maxHeartbeats 40000000 in
theorem rm1 (l : Launch) (Z : State) (a0 : Array Value) (hw : ∀ d ∈ tables_1, d.before a0 Z = true) (ws : List Jvm.Cond) (va : Addr) (u0 : Int32) (h0 : Heap) (n0 : Nat) (Z0 : n0 ≤ h0.size) (E_va : Exa Z h0 va "com/example/tavernlex/tavernlex/cli/Handover") (F_below_va : Fld Z h0 va "com/example/tavernlex/tavernlex/cli/Handover" "below" "I" (.int (0 : Int32))) (g_va : n0 ≤ va) :
    MetFree l (⟨"com/example/tavernlex/tavernlex/cli/Handover", "<init>", "(I)V"⟩ : MethodName) (head1 (Jvm.Cond.code (⟨"com/example/tavernlex/tavernlex/cli/Handover", "<init>", "(I)V"⟩ : MethodName) prog_90_method_1_code 2 none :: ws) ({ frames := 2, cells := 0, slots := 0, locals := 24 } : Room)) (fun a U => a = #[(.ref va), (.int u0)] ∧ Z.Warmed39 U.vm ∧ U.heap = h0) (fun _ _ _ _ _ => True) (fun _ U o U' => ∃ v L, o = .returned v ∧ Q1 Z va u0 h0 n0 v U'.heap L ∧ FrameEnd U o U' L 0 0) := by
  refine MetFree.of_bodySF (plainFor_of_name pn_1) hisR ?_
  intro p e s m args below meth c s₁ Bd hml0 hP hK
  obtain ⟨rfl, hZ, hh⟩ := hP
  have hx := Bd.exec
  have hby := Bd.bytes
  have hml : c.maxLocals = 2 := hml0
  have hown : s.vm.findClass "com/example/tavernlex/tavernlex/cli/Handover" = some m.cls := findClass_of_methodNamed Bd.named
  have hnm := (name_of_methodNamed Bd.named Bd.method).1
  have X0 : Stand p l e ({ frames := 2, cells := 0, slots := 0, locals := 24 } : Room) s m #[(.ref va), (.int u0)] below meth c s₁ [] 0 0 := Stand.of_body Bd
  have e0 : s₁.heap = h0 := by rw [← hh, Bd.state]; rfl
  have N0 := Fr.nil n0
  have hlk : meth.locks = false := BodyLoose.notSynchronized Bd
  show Goal p e below s (Q1 Z va u0 h0 n0) 0 0 (s₁.setTop (entryFrame m #[(.ref va), (.int u0)] 2))
  refine Goal.to (B := s₁.setTop (mkF m 0 #[.val (.ref va), .val (.int u0)] [])) (fun tt kk => castTop (ef_1 m va u0 ) kk) ?_
  refine Goal.to (B := s₁.setTop (mkF m 1 #[.val (.ref va), .val (.int u0)] [(.ref va)])) (fun tt kk => ?_) ?_
  · show Steps p.tables e below (s₁.setTop (mkF m 0 #[.val (.ref va), .val (.int u0)] [])) tt
    refine XS.aloadN X0.here hx rfl (hb hby d1_0) rfl rfl ?_
    exact kk
  obtain ⟨_, _, ⟨T1, L1, k1, n1⟩, -, X1, ⟨Lc1, hQ1, l1, y1, z1⟩, st1⟩ := X0.specialBack hx (y := (⟨"java/lang/Record", "<init>", "()V"⟩ : MethodName)) rfl hown (mvT hZ (hw _ (mw 6 rfl))) (mvT hZ (hw _ (mw 7 rfl))) (mvT hZ (hw _ (mw 10 rfl))) (by decide) (backOf (W := 0) (rm2 l Z a0 hw [] va h0 n0 Z0 ) hZ (hw _ (mw 10 rfl)) (hw _ (mw 9 rfl)) (by decide) (by decide)) (g := (mkF m 1 #[.val (.ref va), .val (.int u0)] [(.ref va)])) rfl (by rw [hml]; rfl) (Steps.refl _) (a := va) (argsL := []) (rest := []) (lenOf pd_1 rfl) rfl (by show 2 * 0 + _ ≤ _; exact Nat.le_of_eq rfl) (hb hby d1_1) (fun _ _ => ⟨rfl, e0, (by decide : 0 + 0 ≤ _), (by decide : 0 + 0 ≤ _)⟩)
  dsimp only [Pt.U, Pt.locs, Pt.cells, Pt.slots] at X1 l1 y1 z1 st1 hQ1
  subst l1 y1 z1
  obtain ⟨rfl, N1q, e1⟩ := hQ1
  have N1 := Fr.app N0 N1q
  refine Goal.tr (B := T1.setTop (mkF m 4 #[.val (.ref va), .val (.int u0)] [])) st1 ?_
  refine Goal.to (B := T1.setTop (mkF m 6 #[.val (.ref va), .val (.int u0)] [(.int u0), (.ref va)])) (fun tt kk => ?_) ?_
  · show Steps p.tables e below (T1.setTop (mkF m 4 #[.val (.ref va), .val (.int u0)] [])) tt
    refine XS.aloadN X1.here hx rfl (hb hby d1_4) rfl rfl ?_
    show Steps p.tables e below (T1.setTop (mkF m 5 #[.val (.ref va), .val (.int u0)] [(.ref va)])) tt
    refine XS.iloadN X1.here hx rfl (hb hby d1_5) rfl ?_
    exact kk
  obtain ⟨T2, h2, X2, e2, W2, st2⟩ := putF X1 hx hZ hown (host := "") (Or.inl (hw _ (mw 14 rfl))) Via.refl e1 F_below_va E_va (Or.inr ⟨(hw _ (mw 15 rfl)), rfl, hnm⟩) (hw _ (mw 1 rfl)) (ty := .int) (by decide) rfl rfl (g := (mkF m 6 #[.val (.ref va), .val (.int u0)] [(.int u0), (.ref va)])) rfl rfl (hb hby d1_6)
  have Fw2 : Fld Z h2 va "com/example/tavernlex/tavernlex/cli/Handover" "below" "I" (.int u0) := F_below_va.same W2
  have N2 := Fr.snoc X2 N1 g_va
  refine Goal.to (B := T2.setTop (mkF m 9 #[.val (.ref va), .val (.int u0)] [])) st2 ?_
  have f3 : Keep h0 h2 [va] := ((Keep.refl h0 [va]).wr W2 (Or.inl (List.mem_of_getElem? (i := 0) rfl)))
  have f4 : Exa Z h2 va "com/example/tavernlex/tavernlex/cli/Handover" := (E_va.wr W2)
  exact Goal.retN X2 hx Bd.returns (hb hby d1_9) hlk e2 ⟨rfl, N2, f3, f4, Fw2⟩ (by decide) (by decide)
theorem ef_4 (m : MethodId) (x0 : Addr)  : entryFrame m #[(.ref x0)] 1 = mkF m 0 #[.val (.ref x0)] [] := by first | (simp [entryFrame, mkF, argsToLocals, Value.category]; done) | rfl
theorem pn_4 : plainName "com/example/tavernlex/tavernlex/cli/Handover" = true := by first | (simp [plainName, overriddenIn]; done) | decide +kernel
theorem d4_0 : decode prog_90_method_9_code 0 = .ok (.aload_n 0, 1) := by decide +kernel
theorem d4_1 : decode prog_90_method_9_code 1 = .ok (.getfield 7, 3) := by decide +kernel
theorem d4_4 : decode prog_90_method_9_code 4 = .ok (.ireturn, 1) := by decide +kernel
def Q4 (Z : State) (va : Addr) (u0 : Int32) (h0 : Heap) (n0 : Nat) (v : Option Value) (h : Heap) (L : List Loc) : Prop := v = some (.int u0) ∧ Fr n0 L ∧ h = h0
set_option maxRecDepth 65536 in
set_option maxHeartbeats 40000000 in
theorem rm4 (l : Launch) (Z : State) (a0 : Array Value) (hw : ∀ d ∈ tables_1, d.before a0 Z = true) (ws : List Jvm.Cond) (va : Addr) (u0 : Int32) (h0 : Heap) (n0 : Nat) (Z0 : n0 ≤ h0.size) (F_below_va : Fld Z h0 va "com/example/tavernlex/tavernlex/cli/Handover" "below" "I" (.int u0)) :
    MetFree l (⟨"com/example/tavernlex/tavernlex/cli/Handover", "below", "()I"⟩ : MethodName) (head1 (Jvm.Cond.code (⟨"com/example/tavernlex/tavernlex/cli/Handover", "below", "()I"⟩ : MethodName) prog_90_method_9_code 1 (some .int) :: ws) ({ frames := 0, cells := 0, slots := 0, locals := 0 } : Room)) (fun a U => a = #[(.ref va)] ∧ Z.Warmed39 U.vm ∧ U.heap = h0) (fun _ _ _ _ _ => True) (fun _ U o U' => ∃ v L, o = .returned v ∧ Q4 Z va u0 h0 n0 v U'.heap L ∧ FrameEnd U o U' L 0 0) := by
  refine MetFree.of_bodySF (plainFor_of_name pn_4) hisR ?_
  intro p e s m args below meth c s₁ Bd hml0 hP hK
  obtain ⟨rfl, hZ, hh⟩ := hP
  have hx := Bd.exec
  have hby := Bd.bytes
  have hml : c.maxLocals = 1 := hml0
  have hown : s.vm.findClass "com/example/tavernlex/tavernlex/cli/Handover" = some m.cls := findClass_of_methodNamed Bd.named
  have hnm := (name_of_methodNamed Bd.named Bd.method).1
  have X0 : Stand p l e ({ frames := 0, cells := 0, slots := 0, locals := 0 } : Room) s m #[(.ref va)] below meth c s₁ [] 0 0 := Stand.of_body Bd
  have e0 : s₁.heap = h0 := by rw [← hh, Bd.state]; rfl
  have N0 := Fr.nil n0
  have hlk : meth.locks = false := BodyLoose.notSynchronized Bd
  show Goal p e below s (Q4 Z va u0 h0 n0) 0 0 (s₁.setTop (entryFrame m #[(.ref va)] 1))
  refine Goal.to (B := s₁.setTop (mkF m 0 #[.val (.ref va)] [])) (fun tt kk => castTop (ef_4 m va ) kk) ?_
  refine Goal.to (B := s₁.setTop (mkF m 1 #[.val (.ref va)] [(.ref va)])) (fun tt kk => ?_) ?_
  · show Steps p.tables e below (s₁.setTop (mkF m 0 #[.val (.ref va)] [])) tt
    refine XS.aloadN X0.here hx rfl (hb hby d4_0) rfl rfl ?_
    exact kk
  obtain ⟨T1, X1, e1, st1⟩ := getF X0 hx hZ hown (host := "") (Or.inl (hw _ (mw 14 rfl))) Via.refl e0 F_below_va (g := (mkF m 1 #[.val (.ref va)] [(.ref va)])) rfl rfl (hb hby d4_1)
  refine Goal.to (B := T1.setTop (mkF m 4 #[.val (.ref va)] [(.int u0)])) st1 ?_
  exact Goal.retV X1 hx Bd.returns rfl (Or.inl ⟨rfl, Or.inl rfl, _, rfl⟩) (hb hby d4_4) hlk e1 ⟨rfl, N0, rfl⟩ (by decide) (by decide)
theorem ef_5 (m : MethodId) (x0 : Addr) (x1 : Int32)  : entryFrame m #[(.ref x0), (.int x1)] 2 = mkF m 0 #[.val (.ref x0), .val (.int x1)] [] := by first | (simp [entryFrame, mkF, argsToLocals, Value.category]; done) | rfl
theorem pn_5 : plainName "com/example/tavernlex/tavernlex/cli/Handover" = true := by first | (simp [plainName, overriddenIn]; done) | decide +kernel
theorem d5_0 : decode prog_90_method_3_code 0 = .ok (.iload_n 1, 1) := by decide +kernel
theorem d5_1 : decode prog_90_method_3_code 1 = .ok (.aload_n 0, 1) := by decide +kernel
theorem d5_2 : decode prog_90_method_3_code 2 = .ok (.getfield 7, 3) := by decide +kernel
theorem d5_5 : decode prog_90_method_3_code 5 = .ok (.if_icmp .ge 7, 3) := by decide +kernel
theorem d5_8 : decode prog_90_method_3_code 8 = .ok (.iconst 1, 1) := by decide +kernel
theorem d5_9 : decode prog_90_method_3_code 9 = .ok (.goto 4, 3) := by decide +kernel
theorem d5_12 : decode prog_90_method_3_code 12 = .ok (.iconst 0, 1) := by decide +kernel
theorem d5_13 : decode prog_90_method_3_code 13 = .ok (.ireturn, 1) := by decide +kernel
def Q5 (Z : State) (va : Addr) (u0 : Int32) (u1 : Int32) (h0 : Heap) (n0 : Nat) (v : Option Value) (h : Heap) (L : List Loc) : Prop := v = some (.int (if u1 < u0 then (1 : Int32) else (0 : Int32))) ∧ Fr n0 L ∧ h = h0
set_option maxRecDepth 65536 in
set_option maxHeartbeats 40000000 in
theorem rm5 (l : Launch) (Z : State) (a0 : Array Value) (hw : ∀ d ∈ tables_1, d.before a0 Z = true) (ws : List Jvm.Cond) (va : Addr) (u0 : Int32) (u1 : Int32) (h0 : Heap) (n0 : Nat) (Z0 : n0 ≤ h0.size) (F_below_va : Fld Z h0 va "com/example/tavernlex/tavernlex/cli/Handover" "below" "I" (.int u0)) :
    MetFree l (⟨"com/example/tavernlex/tavernlex/cli/Handover", "covers", "(I)Z"⟩ : MethodName) (head1 (Jvm.Cond.code (⟨"com/example/tavernlex/tavernlex/cli/Handover", "covers", "(I)Z"⟩ : MethodName) prog_90_method_3_code 2 (some .boolean) :: ws) ({ frames := 0, cells := 0, slots := 0, locals := 0 } : Room)) (fun a U => a = #[(.ref va), (.int u1)] ∧ Z.Warmed39 U.vm ∧ U.heap = h0) (fun _ _ _ _ _ => True) (fun _ U o U' => ∃ v L, o = .returned v ∧ Q5 Z va u0 u1 h0 n0 v U'.heap L ∧ FrameEnd U o U' L 0 0) := by
  refine MetFree.of_bodySF (plainFor_of_name pn_5) hisR ?_
  intro p e s m args below meth c s₁ Bd hml0 hP hK
  obtain ⟨rfl, hZ, hh⟩ := hP
  have hx := Bd.exec
  have hby := Bd.bytes
  have hml : c.maxLocals = 2 := hml0
  have hown : s.vm.findClass "com/example/tavernlex/tavernlex/cli/Handover" = some m.cls := findClass_of_methodNamed Bd.named
  have hnm := (name_of_methodNamed Bd.named Bd.method).1
  have X0 : Stand p l e ({ frames := 0, cells := 0, slots := 0, locals := 0 } : Room) s m #[(.ref va), (.int u1)] below meth c s₁ [] 0 0 := Stand.of_body Bd
  have e0 : s₁.heap = h0 := by rw [← hh, Bd.state]; rfl
  have N0 := Fr.nil n0
  have hlk : meth.locks = false := BodyLoose.notSynchronized Bd
  show Goal p e below s (Q5 Z va u0 u1 h0 n0) 0 0 (s₁.setTop (entryFrame m #[(.ref va), (.int u1)] 2))
  refine Goal.to (B := s₁.setTop (mkF m 0 #[.val (.ref va), .val (.int u1)] [])) (fun tt kk => castTop (ef_5 m va u1 ) kk) ?_
  refine Goal.to (B := s₁.setTop (mkF m 2 #[.val (.ref va), .val (.int u1)] [(.ref va), (.int u1)])) (fun tt kk => ?_) ?_
  · show Steps p.tables e below (s₁.setTop (mkF m 0 #[.val (.ref va), .val (.int u1)] [])) tt
    refine XS.iloadN X0.here hx rfl (hb hby d5_0) rfl ?_
    show Steps p.tables e below (s₁.setTop (mkF m 1 #[.val (.ref va), .val (.int u1)] [(.int u1)])) tt
    refine XS.aloadN X0.here hx rfl (hb hby d5_1) rfl rfl ?_
    exact kk
  obtain ⟨T1, X1, e1, st1⟩ := getF X0 hx hZ hown (host := "") (Or.inl (hw _ (mw 14 rfl))) Via.refl e0 F_below_va (g := (mkF m 2 #[.val (.ref va), .val (.int u1)] [(.ref va), (.int u1)])) rfl rfl (hb hby d5_2)
  refine Goal.to (B := T1.setTop (mkF m 5 #[.val (.ref va), .val (.int u1)] [(.int u0), (.int u1)])) st1 ?_
  obtain ⟨w3, hw3⟩ : ∃ z : Int32, z = if u1 < u0 then (1 : Int32) else (0 : Int32) := ⟨_, rfl⟩
  refine Goal.to (B := T1.setTop (mkF m 13 #[.val (.ref va), .val (.int u1)] [(.int w3)])) (fun tt kk => ?_) ?_
  · by_cases hc2 : u1 < u0
    · have qw3 : w3 = (1 : Int32) := by rw [hw3, if_pos hc2]
      rw [qw3] at kk
      show Steps p.tables e below (T1.setTop (mkF m 5 #[.val (.ref va), .val (.int u1)] [(.int u0), (.int u1)])) tt
      refine XS.icmpNo X1.here hx rfl (hb hby d5_5) rfl (tlt hc2).2.1 ?_
      show Steps p.tables e below (T1.setTop (mkF m 8 #[.val (.ref va), .val (.int u1)] [])) tt
      refine XS.iconst X1.here hx rfl (hb hby d5_8) ?_
      show Steps p.tables e below (T1.setTop (mkF m 9 #[.val (.ref va), .val (.int u1)] [(.int (1 : Int32))])) tt
      refine XS.goto X1.here hx rfl (pc0 := 9) (pc' := 13) rfl (hb hby d5_9) (by decide) (by decide) ?_
      exact kk
    · have qw3 : w3 = (0 : Int32) := by rw [hw3, if_neg hc2]
      rw [qw3] at kk
      show Steps p.tables e below (T1.setTop (mkF m 5 #[.val (.ref va), .val (.int u1)] [(.int u0), (.int u1)])) tt
      refine XS.icmpYes X1.here hx rfl (pc0 := 5) (pc' := 12) rfl (hb hby d5_5) rfl (flt hc2).2.1 (by decide) (by decide) ?_
      show Steps p.tables e below (T1.setTop (mkF m 12 #[.val (.ref va), .val (.int u1)] [])) tt
      refine XS.iconst X1.here hx rfl (hb hby d5_12) ?_
      exact kk
  exact Goal.retV X1 hx Bd.returns (nar01 (by rw [hw3]; exact own_if _)) (Or.inl ⟨rfl, Or.inr (Or.inl rfl), _, rfl⟩) (hb hby d5_13) hlk e1 ⟨(congrArg some (by rw [hw3] : ((.int w3) : Value) = (.int (if u1 < u0 then (1 : Int32) else (0 : Int32))))), N0, rfl⟩ (by decide) (by decide)
theorem ef_7 (m : MethodId) (x0 : Int32) (x1 : Int32)  : entryFrame m #[(.int x0), (.int x1)] 2 = mkF m 0 #[.val (.int x0), .val (.int x1)] [] := by first | (simp [entryFrame, mkF, argsToLocals, Value.category]; done) | rfl
theorem d7_0 : decode jdk_29_method_69_code 0 = .ok (.iload_n 0, 1) := by decide +kernel
theorem d7_1 : decode jdk_29_method_69_code 1 = .ok (.iload_n 1, 1) := by decide +kernel
theorem d7_2 : decode jdk_29_method_69_code 2 = .ok (.if_icmp .gt 7, 3) := by decide +kernel
theorem d7_9 : decode jdk_29_method_69_code 9 = .ok (.iload_n 1, 1) := by decide +kernel
theorem d7_5 : decode jdk_29_method_69_code 5 = .ok (.iload_n 0, 1) := by decide +kernel
theorem d7_6 : decode jdk_29_method_69_code 6 = .ok (.goto 4, 3) := by decide +kernel
theorem d7_10 : decode jdk_29_method_69_code 10 = .ok (.ireturn, 1) := by decide +kernel
def Q7 (Z : State) (u0 : Int32) (u1 : Int32) (h0 : Heap) (n0 : Nat) (v : Option Value) (h : Heap) (L : List Loc) : Prop := v = some (.int (if u1 < u0 then u1 else u0)) ∧ Fr n0 L ∧ h = h0
set_option maxRecDepth 65536 in
set_option maxHeartbeats 40000000 in
theorem rm7 (l : Launch) (Z : State) (a0 : Array Value) (hw : ∀ d ∈ tables_1, d.before a0 Z = true) (ws : List Jvm.Cond) (u0 : Int32) (u1 : Int32) (h0 : Heap) (n0 : Nat) (Z0 : n0 ≤ h0.size) :
    MetFree l (⟨"java/lang/Math", "min", "(II)I"⟩ : MethodName) (head1 (Jvm.Cond.code (⟨"java/lang/Math", "min", "(II)I"⟩ : MethodName) jdk_29_method_69_code 2 (some .int) :: ws) ({ frames := 0, cells := 0, slots := 0, locals := 0 } : Room)) (fun a U => a = #[(.int u0), (.int u1)] ∧ Z.Warmed39 U.vm ∧ U.heap = h0) (fun _ _ _ _ _ => True) (fun _ U o U' => ∃ v L, o = .returned v ∧ Q7 Z u0 u1 h0 n0 v U'.heap L ∧ FrameEnd U o U' L 0 0) := by
  refine MetFree.of_bodySF (Jvm.Free.JP.mathPlain rfl (by decide +kernel)) hisR ?_
  intro p e s m args below meth c s₁ Bd hml0 hP hK
  obtain ⟨rfl, hZ, hh⟩ := hP
  have hx := Bd.exec
  have hby := Bd.bytes
  have hml : c.maxLocals = 2 := hml0
  have hown : s.vm.findClass "java/lang/Math" = some m.cls := findClass_of_methodNamed Bd.named
  have hnm := (name_of_methodNamed Bd.named Bd.method).1
  have X0 : Stand p l e ({ frames := 0, cells := 0, slots := 0, locals := 0 } : Room) s m #[(.int u0), (.int u1)] below meth c s₁ [] 0 0 := Stand.of_body Bd
  have e0 : s₁.heap = h0 := by rw [← hh, Bd.state]; rfl
  have N0 := Fr.nil n0
  have hlk : meth.locks = false := BodyLoose.notSynchronized Bd
  show Goal p e below s (Q7 Z u0 u1 h0 n0) 0 0 (s₁.setTop (entryFrame m #[(.int u0), (.int u1)] 2))
  refine Goal.to (B := s₁.setTop (mkF m 0 #[.val (.int u0), .val (.int u1)] [])) (fun tt kk => castTop (ef_7 m u0 u1 ) kk) ?_
  refine Goal.to (B := s₁.setTop (mkF m 2 #[.val (.int u0), .val (.int u1)] [(.int u1), (.int u0)])) (fun tt kk => ?_) ?_
  · show Steps p.tables e below (s₁.setTop (mkF m 0 #[.val (.int u0), .val (.int u1)] [])) tt
    refine XS.iloadN X0.here hx rfl (hb hby d7_0) rfl ?_
    show Steps p.tables e below (s₁.setTop (mkF m 1 #[.val (.int u0), .val (.int u1)] [(.int u0)])) tt
    refine XS.iloadN X0.here hx rfl (hb hby d7_1) rfl ?_
    exact kk
  obtain ⟨w2, hw2⟩ : ∃ z : Int32, z = if u1 < u0 then u1 else u0 := ⟨_, rfl⟩
  refine Goal.to (B := s₁.setTop (mkF m 10 #[.val (.int u0), .val (.int u1)] [(.int w2)])) (fun tt kk => ?_) ?_
  · by_cases hc1 : u1 < u0
    · have qw2 : w2 = u1 := by rw [hw2, if_pos hc1]
      rw [qw2] at kk
      show Steps p.tables e below (s₁.setTop (mkF m 2 #[.val (.int u0), .val (.int u1)] [(.int u1), (.int u0)])) tt
      refine XS.icmpYes X0.here hx rfl (pc0 := 2) (pc' := 9) rfl (hb hby d7_2) rfl (tlt hc1).2.2.1 (by decide) (by decide) ?_
      show Steps p.tables e below (s₁.setTop (mkF m 9 #[.val (.int u0), .val (.int u1)] [])) tt
      refine XS.iloadN X0.here hx rfl (hb hby d7_9) rfl ?_
      exact kk
    · have qw2 : w2 = u0 := by rw [hw2, if_neg hc1]
      rw [qw2] at kk
      show Steps p.tables e below (s₁.setTop (mkF m 2 #[.val (.int u0), .val (.int u1)] [(.int u1), (.int u0)])) tt
      refine XS.icmpNo X0.here hx rfl (hb hby d7_2) rfl (flt hc1).2.2.1 ?_
      show Steps p.tables e below (s₁.setTop (mkF m 5 #[.val (.int u0), .val (.int u1)] [])) tt
      refine XS.iloadN X0.here hx rfl (hb hby d7_5) rfl ?_
      show Steps p.tables e below (s₁.setTop (mkF m 6 #[.val (.int u0), .val (.int u1)] [(.int u0)])) tt
      refine XS.goto X0.here hx rfl (pc0 := 6) (pc' := 10) rfl (hb hby d7_6) (by decide) (by decide) ?_
      exact kk
  exact Goal.retV X0 hx Bd.returns rfl (Or.inl ⟨rfl, Or.inl rfl, _, rfl⟩) (hb hby d7_10) hlk e0 ⟨(congrArg some (by rw [hw2] : ((.int w2) : Value) = (.int (if u1 < u0 then u1 else u0)))), N0, rfl⟩ (by decide) (by decide)
theorem ef_8 (m : MethodId) (x0 : Int32) (x1 : Int32)  : entryFrame m #[(.int x0), (.int x1)] 2 = mkF m 0 #[.val (.int x0), .val (.int x1)] [] := by first | (simp [entryFrame, mkF, argsToLocals, Value.category]; done) | rfl
theorem d8_0 : decode jdk_29_method_65_code 0 = .ok (.iload_n 0, 1) := by decide +kernel
theorem d8_1 : decode jdk_29_method_65_code 1 = .ok (.iload_n 1, 1) := by decide +kernel
theorem d8_2 : decode jdk_29_method_65_code 2 = .ok (.if_icmp .lt 7, 3) := by decide +kernel
theorem d8_9 : decode jdk_29_method_65_code 9 = .ok (.iload_n 1, 1) := by decide +kernel
theorem d8_5 : decode jdk_29_method_65_code 5 = .ok (.iload_n 0, 1) := by decide +kernel
theorem d8_6 : decode jdk_29_method_65_code 6 = .ok (.goto 4, 3) := by decide +kernel
theorem d8_10 : decode jdk_29_method_65_code 10 = .ok (.ireturn, 1) := by decide +kernel
def Q8 (Z : State) (u0 : Int32) (u1 : Int32) (h0 : Heap) (n0 : Nat) (v : Option Value) (h : Heap) (L : List Loc) : Prop := v = some (.int (if u0 < u1 then u1 else u0)) ∧ Fr n0 L ∧ h = h0
set_option maxRecDepth 65536 in
set_option maxHeartbeats 40000000 in
theorem rm8 (l : Launch) (Z : State) (a0 : Array Value) (hw : ∀ d ∈ tables_1, d.before a0 Z = true) (ws : List Jvm.Cond) (u0 : Int32) (u1 : Int32) (h0 : Heap) (n0 : Nat) (Z0 : n0 ≤ h0.size) :
    MetFree l (⟨"java/lang/Math", "max", "(II)I"⟩ : MethodName) (head1 (Jvm.Cond.code (⟨"java/lang/Math", "max", "(II)I"⟩ : MethodName) jdk_29_method_65_code 2 (some .int) :: ws) ({ frames := 0, cells := 0, slots := 0, locals := 0 } : Room)) (fun a U => a = #[(.int u0), (.int u1)] ∧ Z.Warmed39 U.vm ∧ U.heap = h0) (fun _ _ _ _ _ => True) (fun _ U o U' => ∃ v L, o = .returned v ∧ Q8 Z u0 u1 h0 n0 v U'.heap L ∧ FrameEnd U o U' L 0 0) := by
  refine MetFree.of_bodySF (Jvm.Free.JP.mathPlain rfl (by decide +kernel)) hisR ?_
  intro p e s m args below meth c s₁ Bd hml0 hP hK
  obtain ⟨rfl, hZ, hh⟩ := hP
  have hx := Bd.exec
  have hby := Bd.bytes
  have hml : c.maxLocals = 2 := hml0
  have hown : s.vm.findClass "java/lang/Math" = some m.cls := findClass_of_methodNamed Bd.named
  have hnm := (name_of_methodNamed Bd.named Bd.method).1
  have X0 : Stand p l e ({ frames := 0, cells := 0, slots := 0, locals := 0 } : Room) s m #[(.int u0), (.int u1)] below meth c s₁ [] 0 0 := Stand.of_body Bd
  have e0 : s₁.heap = h0 := by rw [← hh, Bd.state]; rfl
  have N0 := Fr.nil n0
  have hlk : meth.locks = false := BodyLoose.notSynchronized Bd
  show Goal p e below s (Q8 Z u0 u1 h0 n0) 0 0 (s₁.setTop (entryFrame m #[(.int u0), (.int u1)] 2))
  refine Goal.to (B := s₁.setTop (mkF m 0 #[.val (.int u0), .val (.int u1)] [])) (fun tt kk => castTop (ef_8 m u0 u1 ) kk) ?_
  refine Goal.to (B := s₁.setTop (mkF m 2 #[.val (.int u0), .val (.int u1)] [(.int u1), (.int u0)])) (fun tt kk => ?_) ?_
  · show Steps p.tables e below (s₁.setTop (mkF m 0 #[.val (.int u0), .val (.int u1)] [])) tt
    refine XS.iloadN X0.here hx rfl (hb hby d8_0) rfl ?_
    show Steps p.tables e below (s₁.setTop (mkF m 1 #[.val (.int u0), .val (.int u1)] [(.int u0)])) tt
    refine XS.iloadN X0.here hx rfl (hb hby d8_1) rfl ?_
    exact kk
  obtain ⟨w2, hw2⟩ : ∃ z : Int32, z = if u0 < u1 then u1 else u0 := ⟨_, rfl⟩
  refine Goal.to (B := s₁.setTop (mkF m 10 #[.val (.int u0), .val (.int u1)] [(.int w2)])) (fun tt kk => ?_) ?_
  · by_cases hc1 : u0 < u1
    · have qw2 : w2 = u1 := by rw [hw2, if_pos hc1]
      rw [qw2] at kk
      show Steps p.tables e below (s₁.setTop (mkF m 2 #[.val (.int u0), .val (.int u1)] [(.int u1), (.int u0)])) tt
      refine XS.icmpYes X0.here hx rfl (pc0 := 2) (pc' := 9) rfl (hb hby d8_2) rfl (tlt hc1).1 (by decide) (by decide) ?_
      show Steps p.tables e below (s₁.setTop (mkF m 9 #[.val (.int u0), .val (.int u1)] [])) tt
      refine XS.iloadN X0.here hx rfl (hb hby d8_9) rfl ?_
      exact kk
    · have qw2 : w2 = u0 := by rw [hw2, if_neg hc1]
      rw [qw2] at kk
      show Steps p.tables e below (s₁.setTop (mkF m 2 #[.val (.int u0), .val (.int u1)] [(.int u1), (.int u0)])) tt
      refine XS.icmpNo X0.here hx rfl (hb hby d8_2) rfl (flt hc1).1 ?_
      show Steps p.tables e below (s₁.setTop (mkF m 5 #[.val (.int u0), .val (.int u1)] [])) tt
      refine XS.iloadN X0.here hx rfl (hb hby d8_5) rfl ?_
      show Steps p.tables e below (s₁.setTop (mkF m 6 #[.val (.int u0), .val (.int u1)] [(.int u0)])) tt
      refine XS.goto X0.here hx rfl (pc0 := 6) (pc' := 10) rfl (hb hby d8_6) (by decide) (by decide) ?_
      exact kk
  exact Goal.retV X0 hx Bd.returns rfl (Or.inl ⟨rfl, Or.inl rfl, _, rfl⟩) (hb hby d8_10) hlk e0 ⟨(congrArg some (by rw [hw2] : ((.int w2) : Value) = (.int (if u0 < u1 then u1 else u0)))), N0, rfl⟩ (by decide) (by decide)
theorem ef_6 (m : MethodId) (x0 : Addr) (x1 : Int32) (x2 : Int32)  : entryFrame m #[(.ref x0), (.int x1), (.int x2)] 5 = mkF m 0 #[.val (.ref x0), .val (.int x1), .val (.int x2), .unset, .unset] [] := by first | (simp [entryFrame, mkF, argsToLocals, Value.category]; done) | rfl
theorem pn_6 : plainName "com/example/tavernlex/tavernlex/cli/HandoverCoversPinLaw" = true := by first | (simp [plainName, overriddenIn]; done) | decide +kernel
theorem d6_0 : decode method_2_code 0 = .ok (.iload_n 1, 1) := by decide +kernel
theorem d6_1 : decode method_2_code 1 = .ok (.iload_n 2, 1) := by decide +kernel
theorem pd_5 : parseMethodDescriptor "(II)I" = some ⟨[.int, .int], some .int⟩ := by decide +kernel
theorem d6_2 : decode method_2_code 2 = .ok (.invokestatic 7, 3) := by decide +kernel
theorem d6_5 : decode method_2_code 5 = .ok (.istore_n 3, 1) := by decide +kernel
theorem d6_6 : decode method_2_code 6 = .ok (.iload_n 1, 1) := by decide +kernel
theorem d6_7 : decode method_2_code 7 = .ok (.iload_n 2, 1) := by decide +kernel
theorem d6_8 : decode method_2_code 8 = .ok (.invokestatic 13, 3) := by decide +kernel
theorem d6_11 : decode method_2_code 11 = .ok (.istore 4, 2) := by decide +kernel
theorem d6_13 : decode method_2_code 13 = .ok (.aload_n 0, 1) := by decide +kernel
theorem d6_14 : decode method_2_code 14 = .ok (.iload 4, 2) := by decide +kernel
theorem pd_3 : parseMethodDescriptor "(I)Z" = some ⟨[.int], some .boolean⟩ := by decide +kernel
theorem d6_16 : decode method_2_code 16 = .ok (.invokevirtual 16, 3) := by decide +kernel
theorem d6_19 : decode method_2_code 19 = .ok (.ifCond .eq 11, 3) := by decide +kernel
theorem d6_30 : decode method_2_code 30 = .ok (.iconst 1, 1) := by decide +kernel
theorem d6_31 : decode method_2_code 31 = .ok (.goto 4, 3) := by decide +kernel
theorem d6_35 : decode method_2_code 35 = .ok (.ireturn, 1) := by decide +kernel
theorem d6_22 : decode method_2_code 22 = .ok (.aload_n 0, 1) := by decide +kernel
theorem d6_23 : decode method_2_code 23 = .ok (.iload_n 3, 1) := by decide +kernel
theorem d6_24 : decode method_2_code 24 = .ok (.invokevirtual 16, 3) := by decide +kernel
theorem d6_27 : decode method_2_code 27 = .ok (.ifCond .eq 7, 3) := by decide +kernel
def Q6 (Z : State) (va : Addr) (u0 : Int32) (u1 : Int32) (ub : Int32) (h0 : Heap) (n0 : Nat) (v : Option Value) (h : Heap) (L : List Loc) : Prop := v = some (.int (1 : Int32)) ∧ Fr n0 L ∧ h = h0
set_option maxRecDepth 65536 in
set_option maxHeartbeats 40000000 in
theorem rm6 (l : Launch) (Z : State) (a0 : Array Value) (hw : ∀ d ∈ tables_1, d.before a0 Z = true) (ws : List Jvm.Cond) (va : Addr) (u0 : Int32) (u1 : Int32) (ub : Int32) (h0 : Heap) (n0 : Nat) (Z0 : n0 ≤ h0.size) (E_va : Exa Z h0 va "com/example/tavernlex/tavernlex/cli/Handover") (F_below_va : Fld Z h0 va "com/example/tavernlex/tavernlex/cli/Handover" "below" "I" (.int ub)) :
    MetFree l (⟨"com/example/tavernlex/tavernlex/cli/HandoverCoversPinLaw", "downward", "(Lcom/example/tavernlex/tavernlex/cli/Handover;II)Z"⟩ : MethodName) (head1 (Jvm.Cond.code (⟨"com/example/tavernlex/tavernlex/cli/HandoverCoversPinLaw", "downward", "(Lcom/example/tavernlex/tavernlex/cli/Handover;II)Z"⟩ : MethodName) method_2_code 5 (some .boolean) :: ws) ({ frames := 1, cells := 0, slots := 0, locals := 13 } : Room)) (fun a U => a = #[(.ref va), (.int u0), (.int u1)] ∧ Z.Warmed39 U.vm ∧ U.heap = h0) (fun _ _ _ _ _ => True) (fun _ U o U' => ∃ v L, o = .returned v ∧ Q6 Z va u0 u1 ub h0 n0 v U'.heap L ∧ FrameEnd U o U' L 0 0) := by
  refine MetFree.of_bodySF (plainFor_of_name pn_6) hisR ?_
  intro p e s m args below meth c s₁ Bd hml0 hP hK
  obtain ⟨rfl, hZ, hh⟩ := hP
  have hx := Bd.exec
  have hby := Bd.bytes
  have hml : c.maxLocals = 5 := hml0
  have hown : s.vm.findClass "com/example/tavernlex/tavernlex/cli/HandoverCoversPinLaw" = some m.cls := findClass_of_methodNamed Bd.named
  have hnm := (name_of_methodNamed Bd.named Bd.method).1
  have X0 : Stand p l e ({ frames := 1, cells := 0, slots := 0, locals := 13 } : Room) s m #[(.ref va), (.int u0), (.int u1)] below meth c s₁ [] 0 0 := Stand.of_body Bd
  have e0 : s₁.heap = h0 := by rw [← hh, Bd.state]; rfl
  have N0 := Fr.nil n0
  have hlk : meth.locks = false := BodyLoose.notSynchronized Bd
  show Goal p e below s (Q6 Z va u0 u1 ub h0 n0) 0 0 (s₁.setTop (entryFrame m #[(.ref va), (.int u0), (.int u1)] 5))
  refine Goal.to (B := s₁.setTop (mkF m 0 #[.val (.ref va), .val (.int u0), .val (.int u1), .unset, .unset] [])) (fun tt kk => castTop (ef_6 m va u0 u1 ) kk) ?_
  refine Goal.to (B := s₁.setTop (mkF m 2 #[.val (.ref va), .val (.int u0), .val (.int u1), .unset, .unset] [(.int u1), (.int u0)])) (fun tt kk => ?_) ?_
  · show Steps p.tables e below (s₁.setTop (mkF m 0 #[.val (.ref va), .val (.int u0), .val (.int u1), .unset, .unset] [])) tt
    refine XS.iloadN X0.here hx rfl (hb hby d6_0) rfl ?_
    show Steps p.tables e below (s₁.setTop (mkF m 1 #[.val (.ref va), .val (.int u0), .val (.int u1), .unset, .unset] [(.int u0)])) tt
    refine XS.iloadN X0.here hx rfl (hb hby d6_1) rfl ?_
    exact kk
  obtain ⟨_, _, ⟨T1, L1, k1, n1⟩, -, X1, ⟨Lc1, hQ1, l1, y1, z1⟩, st1⟩ := Jvm.LawKit.callS X0 hx (y := (⟨"java/lang/Math", "min", "(II)I"⟩ : MethodName)) hown (mvT hZ (hw _ (mw 31 rfl))) (mvT hZ (hw _ (mw 32 rfl))) (mvT hZ (hw _ (mw 33 rfl))) (mvT hZ (hw _ (mw 34 rfl))) (by decide) (backOf (W := 0) (rm7 l Z a0 hw [] u0 u1 h0 n0 Z0 ) hZ (hw _ (mw 34 rfl)) (hw _ (mw 33 rfl)) (by decide) (by decide)) (g := (mkF m 2 #[.val (.ref va), .val (.int u0), .val (.int u1), .unset, .unset] [(.int u1), (.int u0)])) rfl (by rw [hml]; rfl) (argsL := [(.int u0), (.int u1)]) (rest := []) (lenOf pd_5 rfl) rfl (by show 2 * 0 + _ ≤ _; exact Nat.le_of_eq rfl) (hb hby d6_2) (fun _ _ => ⟨rfl, e0, (by decide : 0 + 0 ≤ _), (by decide : 0 + 0 ≤ _)⟩)
  dsimp only [Pt.U, Pt.locs, Pt.cells, Pt.slots] at X1 l1 y1 z1 st1 hQ1
  subst l1 y1 z1
  obtain ⟨rfl, N1q, e1⟩ := hQ1
  have N1 := Fr.app N0 N1q
  refine Goal.to (B := T1.setTop (mkF m 5 #[.val (.ref va), .val (.int u0), .val (.int u1), .unset, .unset] [(.int (if u1 < u0 then u1 else u0))])) st1 ?_
  obtain ⟨lo, hlo⟩ : ∃ z : Int32, z = (if u1 < u0 then u1 else u0) := ⟨_, rfl⟩
  refine Goal.to (B := T1.setTop (mkF m 6 #[.val (.ref va), .val (.int u0), .val (.int u1), .val (.int lo), .unset] [])) (fun tt kk => ?_) ?_
  · subst hlo
    show Steps p.tables e below (T1.setTop (mkF m 5 #[.val (.ref va), .val (.int u0), .val (.int u1), .unset, .unset] [(.int (if u1 < u0 then u1 else u0))])) tt
    refine XS.istoreN X1.here hx rfl (hb hby d6_5) rfl (l' := #[.val (.ref va), .val (.int u0), .val (.int u1), .val (.int (if u1 < u0 then u1 else u0)), .unset]) rfl ?_
    exact kk
  refine Goal.to (B := T1.setTop (mkF m 8 #[.val (.ref va), .val (.int u0), .val (.int u1), .val (.int lo), .unset] [(.int u1), (.int u0)])) (fun tt kk => ?_) ?_
  · show Steps p.tables e below (T1.setTop (mkF m 6 #[.val (.ref va), .val (.int u0), .val (.int u1), .val (.int lo), .unset] [])) tt
    refine XS.iloadN X1.here hx rfl (hb hby d6_6) rfl ?_
    show Steps p.tables e below (T1.setTop (mkF m 7 #[.val (.ref va), .val (.int u0), .val (.int u1), .val (.int lo), .unset] [(.int u0)])) tt
    refine XS.iloadN X1.here hx rfl (hb hby d6_7) rfl ?_
    exact kk
  obtain ⟨_, _, ⟨T2, L2, k2, n2⟩, -, X2, ⟨Lc2, hQ2, l2, y2, z2⟩, st2⟩ := Jvm.LawKit.callS X1 hx (y := (⟨"java/lang/Math", "max", "(II)I"⟩ : MethodName)) hown (mvT hZ (hw _ (mw 35 rfl))) (mvT hZ (hw _ (mw 36 rfl))) (mvT hZ (hw _ (mw 33 rfl))) (mvT hZ (hw _ (mw 37 rfl))) (by decide) (backOf (W := 0) (rm8 l Z a0 hw [] u0 u1 h0 n0 Z0 ) hZ (hw _ (mw 37 rfl)) (hw _ (mw 33 rfl)) (by decide) (by decide)) (g := (mkF m 8 #[.val (.ref va), .val (.int u0), .val (.int u1), .val (.int lo), .unset] [(.int u1), (.int u0)])) rfl (by rw [hml]; rfl) (argsL := [(.int u0), (.int u1)]) (rest := []) (lenOf pd_5 rfl) rfl (by show 2 * 0 + _ ≤ _; exact Nat.le_of_eq rfl) (hb hby d6_8) (fun _ _ => ⟨rfl, e1, (by decide : 0 + 0 ≤ _), (by decide : 0 + 0 ≤ _)⟩)
  dsimp only [Pt.U, Pt.locs, Pt.cells, Pt.slots] at X2 l2 y2 z2 st2 hQ2
  subst l2 y2 z2
  obtain ⟨rfl, N2q, e2⟩ := hQ2
  have N2 := Fr.app N1 N2q
  refine Goal.to (B := T2.setTop (mkF m 11 #[.val (.ref va), .val (.int u0), .val (.int u1), .val (.int lo), .unset] [(.int (if u0 < u1 then u1 else u0))])) st2 ?_
  obtain ⟨hi, hhi⟩ : ∃ z : Int32, z = (if u0 < u1 then u1 else u0) := ⟨_, rfl⟩
  refine Goal.to (B := T2.setTop (mkF m 13 #[.val (.ref va), .val (.int u0), .val (.int u1), .val (.int lo), .val (.int hi)] [])) (fun tt kk => ?_) ?_
  · subst hhi
    show Steps p.tables e below (T2.setTop (mkF m 11 #[.val (.ref va), .val (.int u0), .val (.int u1), .val (.int lo), .unset] [(.int (if u0 < u1 then u1 else u0))])) tt
    refine XS.istore X2.here hx rfl (hb hby d6_11) rfl (l' := #[.val (.ref va), .val (.int u0), .val (.int u1), .val (.int lo), .val (.int (if u0 < u1 then u1 else u0))]) rfl ?_
    exact kk
  refine Goal.to (B := T2.setTop (mkF m 16 #[.val (.ref va), .val (.int u0), .val (.int u1), .val (.int lo), .val (.int hi)] [(.int hi), (.ref va)])) (fun tt kk => ?_) ?_
  · show Steps p.tables e below (T2.setTop (mkF m 13 #[.val (.ref va), .val (.int u0), .val (.int u1), .val (.int lo), .val (.int hi)] [])) tt
    refine XS.aloadN X2.here hx rfl (hb hby d6_13) rfl rfl ?_
    show Steps p.tables e below (T2.setTop (mkF m 14 #[.val (.ref va), .val (.int u0), .val (.int u1), .val (.int lo), .val (.int hi)] [(.ref va)])) tt
    refine XS.iload X2.here hx rfl (hb hby d6_14) rfl ?_
    exact kk
  obtain ⟨cq3, kq3, q3a, q3b, q3c⟩ := isOf hZ e2 E_va
  obtain ⟨_, _, ⟨T3, L3, k3, n3⟩, -, X3, ⟨Lc3, hQ3, l3, y3, z3⟩, st3⟩ := X2.virtualBack hx (y := (⟨"com/example/tavernlex/tavernlex/cli/Handover", "covers", "(I)Z"⟩ : MethodName)) (z := (⟨"com/example/tavernlex/tavernlex/cli/Handover", "covers", "(I)Z"⟩ : MethodName)) hown (mvT hZ (hw _ (mw 21 rfl))) (mvT hZ (hw _ (mw 22 rfl))) (notFace_of_selects (args := #[]) (mvT hZ (hw _ (mw 24 rfl)))) (mvT hZ (hw _ (mw 24 rfl))) (mvT hZ (hw _ (mw 23 rfl))) (by decide) (backOf (W := 0) (rm5 l Z a0 hw [] va ub hi h0 n0 Z0 F_below_va) hZ (hw _ (mw 25 rfl)) (hw _ (mw 2 rfl)) (by decide) (by decide)) q3a q3c (g := (mkF m 16 #[.val (.ref va), .val (.int u0), .val (.int u1), .val (.int lo), .val (.int hi)] [(.int hi), (.ref va)])) rfl (by rw [hml]; rfl) (Steps.refl _) (argsL := [(.int hi)]) (rest := []) (lenOf pd_3 rfl) rfl (by show 2 * 0 + _ ≤ _; exact Nat.le_of_eq rfl) (hb hby d6_16) (fun _ _ => ⟨rfl, e2, (by decide : 0 + 0 ≤ _), (by decide : 0 + 0 ≤ _)⟩)
  dsimp only [Pt.U, Pt.locs, Pt.cells, Pt.slots] at X3 l3 y3 z3 st3 hQ3
  subst l3 y3 z3
  obtain ⟨rfl, N3q, e3⟩ := hQ3
  have N3 := Fr.app N2 N3q
  refine Goal.tr (B := T3.setTop (mkF m 19 #[.val (.ref va), .val (.int u0), .val (.int u1), .val (.int lo), .val (.int hi)] [(.int (if hi < ub then (1 : Int32) else (0 : Int32)))])) st3 ?_
  by_cases hcv : (if hi < ub then (1 : Int32) else (0 : Int32)) = (0 : Int32)
  · refine Goal.to (B := T3.setTop (mkF m 35 #[.val (.ref va), .val (.int u0), .val (.int u1), .val (.int lo), .val (.int hi)] [(.int (1 : Int32))])) (fun tt kk => ?_) ?_
    · show Steps p.tables e below (T3.setTop (mkF m 19 #[.val (.ref va), .val (.int u0), .val (.int u1), .val (.int lo), .val (.int hi)] [(.int (if hi < ub then (1 : Int32) else (0 : Int32)))])) tt
      refine XS.ifYes X3.here hx rfl (pc0 := 19) (pc' := 30) rfl (hb hby d6_19) rfl ((if0 _ _).trans (teq hcv).1) (by decide) (by decide) ?_
      show Steps p.tables e below (T3.setTop (mkF m 30 #[.val (.ref va), .val (.int u0), .val (.int u1), .val (.int lo), .val (.int hi)] [])) tt
      refine XS.iconst X3.here hx rfl (hb hby d6_30) ?_
      show Steps p.tables e below (T3.setTop (mkF m 31 #[.val (.ref va), .val (.int u0), .val (.int u1), .val (.int lo), .val (.int hi)] [(.int (1 : Int32))])) tt
      refine XS.goto X3.here hx rfl (pc0 := 31) (pc' := 35) rfl (hb hby d6_31) (by decide) (by decide) ?_
      exact kk
    exact Goal.retV X3 hx Bd.returns rfl (Or.inl ⟨rfl, Or.inr (Or.inl rfl), _, rfl⟩) (hb hby d6_35) hlk e3 ⟨rfl, N3, rfl⟩ (by decide) (by decide)
  · refine Goal.to (B := T3.setTop (mkF m 24 #[.val (.ref va), .val (.int u0), .val (.int u1), .val (.int lo), .val (.int hi)] [(.int lo), (.ref va)])) (fun tt kk => ?_) ?_
    · show Steps p.tables e below (T3.setTop (mkF m 19 #[.val (.ref va), .val (.int u0), .val (.int u1), .val (.int lo), .val (.int hi)] [(.int (if hi < ub then (1 : Int32) else (0 : Int32)))])) tt
      refine XS.ifNo X3.here hx rfl (hb hby d6_19) rfl ((if0 _ _).trans (feq hcv).1) ?_
      show Steps p.tables e below (T3.setTop (mkF m 22 #[.val (.ref va), .val (.int u0), .val (.int u1), .val (.int lo), .val (.int hi)] [])) tt
      refine XS.aloadN X3.here hx rfl (hb hby d6_22) rfl rfl ?_
      show Steps p.tables e below (T3.setTop (mkF m 23 #[.val (.ref va), .val (.int u0), .val (.int u1), .val (.int lo), .val (.int hi)] [(.ref va)])) tt
      refine XS.iloadN X3.here hx rfl (hb hby d6_23) rfl ?_
      exact kk
    obtain ⟨cq4, kq4, q4a, q4b, q4c⟩ := isOf hZ e3 E_va
    obtain ⟨_, _, ⟨T4, L4, k4, n4⟩, -, X4, ⟨Lc4, hQ4, l4, y4, z4⟩, st4⟩ := X3.virtualBack hx (y := (⟨"com/example/tavernlex/tavernlex/cli/Handover", "covers", "(I)Z"⟩ : MethodName)) (z := (⟨"com/example/tavernlex/tavernlex/cli/Handover", "covers", "(I)Z"⟩ : MethodName)) hown (mvT hZ (hw _ (mw 21 rfl))) (mvT hZ (hw _ (mw 22 rfl))) (notFace_of_selects (args := #[]) (mvT hZ (hw _ (mw 24 rfl)))) (mvT hZ (hw _ (mw 24 rfl))) (mvT hZ (hw _ (mw 23 rfl))) (by decide) (backOf (W := 0) (rm5 l Z a0 hw [] va ub lo h0 n0 Z0 F_below_va) hZ (hw _ (mw 25 rfl)) (hw _ (mw 2 rfl)) (by decide) (by decide)) q4a q4c (g := (mkF m 24 #[.val (.ref va), .val (.int u0), .val (.int u1), .val (.int lo), .val (.int hi)] [(.int lo), (.ref va)])) rfl (by rw [hml]; rfl) (Steps.refl _) (argsL := [(.int lo)]) (rest := []) (lenOf pd_3 rfl) rfl (by show 2 * 0 + _ ≤ _; exact Nat.le_of_eq rfl) (hb hby d6_24) (fun _ _ => ⟨rfl, e3, (by decide : 0 + 0 ≤ _), (by decide : 0 + 0 ≤ _)⟩)
    dsimp only [Pt.U, Pt.locs, Pt.cells, Pt.slots] at X4 l4 y4 z4 st4 hQ4
    subst l4 y4 z4
    obtain ⟨rfl, N4q, e4⟩ := hQ4
    have N4 := Fr.app N3 N4q
    refine Goal.tr (B := T4.setTop (mkF m 27 #[.val (.ref va), .val (.int u0), .val (.int u1), .val (.int lo), .val (.int hi)] [(.int (if lo < ub then (1 : Int32) else (0 : Int32)))])) st4 ?_
    refine Goal.to (B := T4.setTop (mkF m 35 #[.val (.ref va), .val (.int u0), .val (.int u1), .val (.int lo), .val (.int hi)] [(.int (1 : Int32))])) (fun tt kk => ?_) ?_
    · show Steps p.tables e below (T4.setTop (mkF m 27 #[.val (.ref va), .val (.int u0), .val (.int u1), .val (.int lo), .val (.int hi)] [(.int (if lo < ub then (1 : Int32) else (0 : Int32)))])) tt
      refine XS.ifNo X4.here hx rfl (hb hby d6_27) rfl ((if0 _ _).trans (feq (own_yes (own_dn hlo hhi (own_was hcv)) : ¬ ((if lo < ub then (1 : Int32) else (0 : Int32)) = (0 : Int32)))).1) ?_
      show Steps p.tables e below (T4.setTop (mkF m 30 #[.val (.ref va), .val (.int u0), .val (.int u1), .val (.int lo), .val (.int hi)] [])) tt
      refine XS.iconst X4.here hx rfl (hb hby d6_30) ?_
      show Steps p.tables e below (T4.setTop (mkF m 31 #[.val (.ref va), .val (.int u0), .val (.int u1), .val (.int lo), .val (.int hi)] [(.int (1 : Int32))])) tt
      refine XS.goto X4.here hx rfl (pc0 := 31) (pc' := 35) rfl (hb hby d6_31) (by decide) (by decide) ?_
      exact kk
    exact Goal.retV X4 hx Bd.returns rfl (Or.inl ⟨rfl, Or.inr (Or.inl rfl), _, rfl⟩) (hb hby d6_35) hlk e4 ⟨rfl, N4, rfl⟩ (by decide) (by decide)
theorem ef_0 (m : MethodId) (x0 : Int32) (x1 : Int32) (x2 : Int32)  : entryFrame m #[(.int x0), (.int x1), (.int x2)] maxLocals = mkF m 0 #[.val (.int x0), .val (.int x1), .val (.int x2), .unset, .unset] [] := by first | (simp [entryFrame, mkF, argsToLocals, Value.category, maxLocals]; done) | rfl
theorem pn_0 : plainName "com/example/tavernlex/tavernlex/cli/HandoverCoversPinLaw" = true := by first | (simp [plainName, overriddenIn]; done) | decide +kernel
theorem pd_0 : parseMethodDescriptor "(I)V" = some ⟨[.int], none⟩ := by decide +kernel
theorem pd_2 : parseMethodDescriptor "()I" = some ⟨[], some .int⟩ := by decide +kernel
theorem pd_4 : parseMethodDescriptor "(Lcom/example/tavernlex/tavernlex/cli/Handover;II)Z" = some ⟨[(.object "com/example/tavernlex/tavernlex/cli/Handover"), .int, .int], some .boolean⟩ := by decide +kernel
def Q0 (Z : State) (u0 : Int32) (u1 : Int32) (u2 : Int32) (h0 : Heap) (n0 : Nat) (v : Option Value) (h : Heap) (L : List Loc) : Prop := v = some (.int (1 : Int32)) ∧ Fr n0 L
set_option maxRecDepth 65536 in
set_option maxHeartbeats 40000000 in
theorem rm0 (l : Launch) (Z : State) (a0 : Array Value) (hw : ∀ d ∈ tables_1, d.before a0 Z = true) (ws : List Jvm.Cond) (u0 : Int32) (u1 : Int32) (u2 : Int32) (h0 : Heap) (n0 : Nat) (Z0 : n0 ≤ h0.size) :
    MetFree l x (head1 (Jvm.Cond.code x code maxLocals ret :: ws) room_1) (fun a U => a = #[(.int u0), (.int u1), (.int u2)] ∧ Z.Warmed39 U.vm ∧ U.heap = h0) (fun _ _ _ _ _ => True) (fun _ U o U' => ∃ v L, o = .returned v ∧ Q0 Z u0 u1 u2 h0 n0 v U'.heap L ∧ FrameEnd U o U' L 16 128) := by
  refine MetFree.of_bodySF (plainFor_of_name pn_0) hisR ?_
  intro p e s m args below meth c s₁ Bd hml0 hP hK
  obtain ⟨rfl, hZ, hh⟩ := hP
  have hx := Bd.exec
  have hby := Bd.bytes
  have hml : c.maxLocals = 5 := hml0
  have hown : s.vm.findClass "com/example/tavernlex/tavernlex/cli/HandoverCoversPinLaw" = some m.cls := findClass_of_methodNamed Bd.named
  have hnm := (name_of_methodNamed Bd.named Bd.method).1
  have X0 : Stand p l e room_1 s m #[(.int u0), (.int u1), (.int u2)] below meth c s₁ [] 0 0 := Stand.of_body Bd
  have e0 : s₁.heap = h0 := by rw [← hh, Bd.state]; rfl
  have N0 := Fr.nil n0
  have hlk : meth.locks = false := BodyLoose.notSynchronized Bd
  show Goal p e below s (Q0 Z u0 u1 u2 h0 n0) 16 128 (s₁.setTop (entryFrame m #[(.int u0), (.int u1), (.int u2)] maxLocals))
  refine Goal.to (B := s₁.setTop (mkF m 0 #[.val (.int u0), .val (.int u1), .val (.int u2), .unset, .unset] [])) (fun tt kk => castTop (ef_0 m u0 u1 u2 ) kk) ?_
  obtain ⟨T1, h1, X1, e1, E1, A1, D1, -, st1⟩ := newO X0 hx hZ hown (hw _ (mw 0 rfl)) (hw _ (mw 1 rfl)) (hw _ (mw 2 rfl)) e0 (g := (mkF m 0 #[.val (.int u0), .val (.int u1), .val (.int u2), .unset, .unset] [])) rfl (hb hby at_0) (by decide) (by decide)
  obtain ⟨b1, g1⟩ : ∃ z, z = h0.size := ⟨_, rfl⟩
  rw [← g1] at A1 D1 st1
  have g_b1 : n0 ≤ b1 := Nat.le_trans Z0 (Nat.le_of_eq g1.symm)
  have F_below_b1 : Fld Z h1 b1 "com/example/tavernlex/tavernlex/cli/Handover" "below" "I" (.int (0 : Int32)) := D1 (Or.inr (hw _ (mw 15 rfl))) (ty := .int) (by decide)
  refine Goal.to (B := T1.setTop (mkF m 3 #[.val (.int u0), .val (.int u1), .val (.int u2), .unset, .unset] [(.ref b1)])) st1 ?_
  refine Goal.to (B := T1.setTop (mkF m 5 #[.val (.int u0), .val (.int u1), .val (.int u2), .unset, .unset] [(.int u0), (.ref b1), (.ref b1)])) (fun tt kk => ?_) ?_
  · show Steps p.tables e below (T1.setTop (mkF m 3 #[.val (.int u0), .val (.int u1), .val (.int u2), .unset, .unset] [(.ref b1)])) tt
    refine XS.dup X1.here hx rfl (hb hby at_3) rfl rfl ?_
    show Steps p.tables e below (T1.setTop (mkF m 4 #[.val (.int u0), .val (.int u1), .val (.int u2), .unset, .unset] [(.ref b1), (.ref b1)])) tt
    refine XS.iloadN X1.here hx rfl (hb hby at_4) rfl ?_
    exact kk
  have f2 : n0 ≤ h1.size := (Nat.le_trans Z0 E1.1)
  obtain ⟨_, _, ⟨T3, L3, k3, n3⟩, -, X3, ⟨Lc3, hQ3, l3, y3, z3⟩, st3⟩ := X1.specialBack hx (y := (⟨"com/example/tavernlex/tavernlex/cli/Handover", "<init>", "(I)V"⟩ : MethodName)) rfl hown (mvT hZ (hw _ (mw 3 rfl))) (mvT hZ (hw _ (mw 4 rfl))) (mvT hZ (hw _ (mw 5 rfl))) (by decide) (backOf (W := 1) (rm1 l Z a0 hw [] b1 u0 h1 n0 f2 A1 F_below_b1 g_b1) hZ (hw _ (mw 5 rfl)) (hw _ (mw 2 rfl)) (by decide) (by decide)) (g := (mkF m 5 #[.val (.int u0), .val (.int u1), .val (.int u2), .unset, .unset] [(.int u0), (.ref b1), (.ref b1)])) rfl (by rw [hml]; rfl) (Steps.refl _) (a := b1) (argsL := [(.int u0)]) (rest := [(.ref b1)]) (lenOf pd_0 rfl) rfl (by show 2 * 0 + _ ≤ _; exact Nat.le_of_eq rfl) (hb hby at_5) (fun _ _ => ⟨rfl, e1, (by decide : 1 + 0 ≤ _), (by decide : 1 + 0 ≤ _)⟩)
  dsimp only [Pt.U, Pt.locs, Pt.cells, Pt.slots] at X3 l3 y3 z3 st3 hQ3
  subst l3 y3 z3
  obtain ⟨rfl, N3q, K3, P3_0, P3_1⟩ := hQ3
  have N3 := Fr.app N0 N3q
  refine Goal.tr (B := T3.setTop (mkF m 8 #[.val (.int u0), .val (.int u1), .val (.int u2), .unset, .unset] [(.ref b1)])) st3 ?_
  refine Goal.to (B := T3.setTop (mkF m 10 #[.val (.int u0), .val (.int u1), .val (.int u2), .val (.ref b1), .unset] [(.ref b1)])) (fun tt kk => ?_) ?_
  · show Steps p.tables e below (T3.setTop (mkF m 8 #[.val (.int u0), .val (.int u1), .val (.int u2), .unset, .unset] [(.ref b1)])) tt
    refine XS.astoreN X3.here hx rfl (hb hby at_8) rfl rfl (l' := #[.val (.int u0), .val (.int u1), .val (.int u2), .val (.ref b1), .unset]) rfl ?_
    show Steps p.tables e below (T3.setTop (mkF m 9 #[.val (.int u0), .val (.int u1), .val (.int u2), .val (.ref b1), .unset] [])) tt
    refine XS.aloadN X3.here hx rfl (hb hby at_9) rfl rfl ?_
    exact kk
  have f4 : n0 ≤ T3.heap.size := (Nat.le_trans f2 K3.1)
  obtain ⟨cq5, kq5, q5a, q5b, q5c⟩ := isOf hZ rfl P3_0
  obtain ⟨_, _, ⟨T5, L5, k5, n5⟩, -, X5, ⟨Lc5, hQ5, l5, y5, z5⟩, st5⟩ := X3.virtualBack hx (y := (⟨"com/example/tavernlex/tavernlex/cli/Handover", "below", "()I"⟩ : MethodName)) (z := (⟨"com/example/tavernlex/tavernlex/cli/Handover", "below", "()I"⟩ : MethodName)) hown (mvT hZ (hw _ (mw 16 rfl))) (mvT hZ (hw _ (mw 17 rfl))) (notFace_of_selects (args := #[]) (mvT hZ (hw _ (mw 19 rfl)))) (mvT hZ (hw _ (mw 19 rfl))) (mvT hZ (hw _ (mw 18 rfl))) (by decide) (backOf (W := 0) (rm4 l Z a0 hw [] b1 u0 T3.heap n0 f4 P3_1) hZ (hw _ (mw 20 rfl)) (hw _ (mw 2 rfl)) (by decide) (by decide)) q5a q5c (g := (mkF m 10 #[.val (.int u0), .val (.int u1), .val (.int u2), .val (.ref b1), .unset] [(.ref b1)])) rfl (by rw [hml]; rfl) (Steps.refl _) (argsL := []) (rest := []) (lenOf pd_2 rfl) rfl (by show 2 * 0 + _ ≤ _; exact Nat.le_of_eq rfl) (hb hby at_10) (fun _ _ => ⟨rfl, rfl, (by decide : 1 + 0 ≤ _), (by decide : 1 + 0 ≤ _)⟩)
  dsimp only [Pt.U, Pt.locs, Pt.cells, Pt.slots] at X5 l5 y5 z5 st5 hQ5
  subst l5 y5 z5
  obtain ⟨rfl, N5q, e5⟩ := hQ5
  have N5 := Fr.app N3 N5q
  refine Goal.tr (B := T5.setTop (mkF m 13 #[.val (.int u0), .val (.int u1), .val (.int u2), .val (.ref b1), .unset] [(.int u0)])) st5 ?_
  refine Goal.to (B := T5.setTop (mkF m 31 #[.val (.int u0), .val (.int u1), .val (.int u2), .val (.ref b1), .val (.int (1 : Int32))] [(.int u0), (.ref b1)])) (fun tt kk => ?_) ?_
  · show Steps p.tables e below (T5.setTop (mkF m 13 #[.val (.int u0), .val (.int u1), .val (.int u2), .val (.ref b1), .unset] [(.int u0)])) tt
    refine XS.iloadN X5.here hx rfl (hb hby at_13) rfl ?_
    show Steps p.tables e below (T5.setTop (mkF m 14 #[.val (.int u0), .val (.int u1), .val (.int u2), .val (.ref b1), .unset] [(.int u0), (.int u0)])) tt
    refine XS.icmpNo X5.here hx rfl (hb hby at_14) rfl (teq (rfl : u0 = u0)).2 ?_
    show Steps p.tables e below (T5.setTop (mkF m 17 #[.val (.int u0), .val (.int u1), .val (.int u2), .val (.ref b1), .unset] [])) tt
    refine XS.iconst X5.here hx rfl (hb hby at_17) ?_
    show Steps p.tables e below (T5.setTop (mkF m 18 #[.val (.int u0), .val (.int u1), .val (.int u2), .val (.ref b1), .unset] [(.int (1 : Int32))])) tt
    refine XS.goto X5.here hx rfl (pc0 := 18) (pc' := 22) rfl (hb hby at_18) (by decide) (by decide) ?_
    show Steps p.tables e below (T5.setTop (mkF m 22 #[.val (.int u0), .val (.int u1), .val (.int u2), .val (.ref b1), .unset] [(.int (1 : Int32))])) tt
    refine XS.istore X5.here hx rfl (hb hby at_22) rfl (l' := #[.val (.int u0), .val (.int u1), .val (.int u2), .val (.ref b1), .val (.int (1 : Int32))]) rfl ?_
    show Steps p.tables e below (T5.setTop (mkF m 24 #[.val (.int u0), .val (.int u1), .val (.int u2), .val (.ref b1), .val (.int (1 : Int32))] [])) tt
    refine XS.iload X5.here hx rfl (hb hby at_24) rfl ?_
    show Steps p.tables e below (T5.setTop (mkF m 26 #[.val (.int u0), .val (.int u1), .val (.int u2), .val (.ref b1), .val (.int (1 : Int32))] [(.int (1 : Int32))])) tt
    refine XS.ifNo X5.here hx rfl (hb hby at_26) rfl ((if0 _ _).trans (feq ((by decide) : ¬ ((1 : Int32) = (0 : Int32)))).1) ?_
    show Steps p.tables e below (T5.setTop (mkF m 29 #[.val (.int u0), .val (.int u1), .val (.int u2), .val (.ref b1), .val (.int (1 : Int32))] [])) tt
    refine XS.aloadN X5.here hx rfl (hb hby at_29) rfl rfl ?_
    show Steps p.tables e below (T5.setTop (mkF m 30 #[.val (.int u0), .val (.int u1), .val (.int u2), .val (.ref b1), .val (.int (1 : Int32))] [(.ref b1)])) tt
    refine XS.iloadN X5.here hx rfl (hb hby at_30) rfl ?_
    exact kk
  obtain ⟨cq6, kq6, q6a, q6b, q6c⟩ := isOf hZ e5 P3_0
  obtain ⟨_, _, ⟨T6, L6, k6, n6⟩, -, X6, ⟨Lc6, hQ6, l6, y6, z6⟩, st6⟩ := X5.virtualBack hx (y := (⟨"com/example/tavernlex/tavernlex/cli/Handover", "covers", "(I)Z"⟩ : MethodName)) (z := (⟨"com/example/tavernlex/tavernlex/cli/Handover", "covers", "(I)Z"⟩ : MethodName)) hown (mvT hZ (hw _ (mw 21 rfl))) (mvT hZ (hw _ (mw 22 rfl))) (notFace_of_selects (args := #[]) (mvT hZ (hw _ (mw 24 rfl)))) (mvT hZ (hw _ (mw 24 rfl))) (mvT hZ (hw _ (mw 23 rfl))) (by decide) (backOf (W := 0) (rm5 l Z a0 hw [] b1 u0 u0 T3.heap n0 f4 P3_1) hZ (hw _ (mw 25 rfl)) (hw _ (mw 2 rfl)) (by decide) (by decide)) q6a q6c (g := (mkF m 31 #[.val (.int u0), .val (.int u1), .val (.int u2), .val (.ref b1), .val (.int (1 : Int32))] [(.int u0), (.ref b1)])) rfl (by rw [hml]; rfl) (Steps.refl _) (argsL := [(.int u0)]) (rest := []) (lenOf pd_3 rfl) rfl (by show 2 * 0 + _ ≤ _; exact Nat.le_of_eq rfl) (hb hby at_31) (fun _ _ => ⟨rfl, e5, (by decide : 1 + 0 ≤ _), (by decide : 1 + 0 ≤ _)⟩)
  dsimp only [Pt.U, Pt.locs, Pt.cells, Pt.slots] at X6 l6 y6 z6 st6 hQ6
  subst l6 y6 z6
  obtain ⟨rfl, N6q, e6⟩ := hQ6
  have N6 := Fr.app N5 N6q
  refine Goal.tr (B := T6.setTop (mkF m 34 #[.val (.int u0), .val (.int u1), .val (.int u2), .val (.ref b1), .val (.int (1 : Int32))] [(.int (if u0 < u0 then (1 : Int32) else (0 : Int32)))])) st6 ?_
  refine Goal.to (B := T6.setTop (mkF m 47 #[.val (.int u0), .val (.int u1), .val (.int u2), .val (.ref b1), .val (.int (1 : Int32))] [(.int (-2147483648 : Int32)), (.int u0)])) (fun tt kk => ?_) ?_
  · show Steps p.tables e below (T6.setTop (mkF m 34 #[.val (.int u0), .val (.int u1), .val (.int u2), .val (.ref b1), .val (.int (1 : Int32))] [(.int (if u0 < u0 then (1 : Int32) else (0 : Int32)))])) tt
    refine XS.ifNo X6.here hx rfl (hb hby at_34) rfl ((if0 _ _).trans (teq (own_no Int32.lt_irrefl : (if u0 < u0 then (1 : Int32) else (0 : Int32)) = (0 : Int32))).2) ?_
    show Steps p.tables e below (T6.setTop (mkF m 37 #[.val (.int u0), .val (.int u1), .val (.int u2), .val (.ref b1), .val (.int (1 : Int32))] [])) tt
    refine XS.iconst X6.here hx rfl (hb hby at_37) ?_
    show Steps p.tables e below (T6.setTop (mkF m 38 #[.val (.int u0), .val (.int u1), .val (.int u2), .val (.ref b1), .val (.int (1 : Int32))] [(.int (1 : Int32))])) tt
    refine XS.goto X6.here hx rfl (pc0 := 38) (pc' := 42) rfl (hb hby at_38) (by decide) (by decide) ?_
    show Steps p.tables e below (T6.setTop (mkF m 42 #[.val (.int u0), .val (.int u1), .val (.int u2), .val (.ref b1), .val (.int (1 : Int32))] [(.int (1 : Int32))])) tt
    refine XS.istore X6.here hx rfl (hb hby at_42) rfl (l' := #[.val (.int u0), .val (.int u1), .val (.int u2), .val (.ref b1), .val (.int (1 : Int32))]) rfl ?_
    show Steps p.tables e below (T6.setTop (mkF m 44 #[.val (.int u0), .val (.int u1), .val (.int u2), .val (.ref b1), .val (.int (1 : Int32))] [])) tt
    refine XS.iloadN X6.here hx rfl (hb hby at_44) rfl ?_
    show Steps p.tables e below (T6.setTop (mkF m 45 #[.val (.int u0), .val (.int u1), .val (.int u2), .val (.ref b1), .val (.int (1 : Int32))] [(.int u0)])) tt
    refine X6.ldcInt hx hown (mvT hZ (hw _ (mw 26 rfl))) (g := (mkF m 45 #[.val (.int u0), .val (.int u1), .val (.int u2), .val (.ref b1), .val (.int (1 : Int32))] [(.int u0)])) rfl (hb hby at_45) _ ?_
    exact kk
  by_cases hmin : u0 = (-2147483648 : Int32)
  · refine Goal.to (B := T6.setTop (mkF m 103 #[.val (.int u0), .val (.int u1), .val (.int u2), .val (.ref b1), .val (.int (1 : Int32))] [(.int u2), (.int u1), (.ref b1)])) (fun tt kk => ?_) ?_
    · show Steps p.tables e below (T6.setTop (mkF m 47 #[.val (.int u0), .val (.int u1), .val (.int u2), .val (.ref b1), .val (.int (1 : Int32))] [(.int (-2147483648 : Int32)), (.int u0)])) tt
      refine XS.icmpYes X6.here hx rfl (pc0 := 47) (pc' := 95) rfl (hb hby at_47) rfl (teq hmin).1 (by decide) (by decide) ?_
      show Steps p.tables e below (T6.setTop (mkF m 95 #[.val (.int u0), .val (.int u1), .val (.int u2), .val (.ref b1), .val (.int (1 : Int32))] [])) tt
      refine XS.iload X6.here hx rfl (hb hby at_95) rfl ?_
      show Steps p.tables e below (T6.setTop (mkF m 97 #[.val (.int u0), .val (.int u1), .val (.int u2), .val (.ref b1), .val (.int (1 : Int32))] [(.int (1 : Int32))])) tt
      refine XS.ifNo X6.here hx rfl (hb hby at_97) rfl ((if0 _ _).trans (feq ((by decide) : ¬ ((1 : Int32) = (0 : Int32)))).1) ?_
      show Steps p.tables e below (T6.setTop (mkF m 100 #[.val (.int u0), .val (.int u1), .val (.int u2), .val (.ref b1), .val (.int (1 : Int32))] [])) tt
      refine XS.aloadN X6.here hx rfl (hb hby at_100) rfl rfl ?_
      show Steps p.tables e below (T6.setTop (mkF m 101 #[.val (.int u0), .val (.int u1), .val (.int u2), .val (.ref b1), .val (.int (1 : Int32))] [(.ref b1)])) tt
      refine XS.iloadN X6.here hx rfl (hb hby at_101) rfl ?_
      show Steps p.tables e below (T6.setTop (mkF m 102 #[.val (.int u0), .val (.int u1), .val (.int u2), .val (.ref b1), .val (.int (1 : Int32))] [(.int u1), (.ref b1)])) tt
      refine XS.iloadN X6.here hx rfl (hb hby at_102) rfl ?_
      exact kk
    obtain ⟨_, _, ⟨T7, L7, k7, n7⟩, -, X7, ⟨Lc7, hQ7, l7, y7, z7⟩, st7⟩ := Jvm.LawKit.callS X6 hx (y := (⟨"com/example/tavernlex/tavernlex/cli/HandoverCoversPinLaw", "downward", "(Lcom/example/tavernlex/tavernlex/cli/Handover;II)Z"⟩ : MethodName)) hown (mvT hZ (hw _ (mw 27 rfl))) (mvT hZ (hw _ (mw 28 rfl))) (mvT hZ (hw _ (mw 29 rfl))) (mvT hZ (hw _ (mw 30 rfl))) (by decide) (backOf (W := 0) (rm6 l Z a0 hw [] b1 u1 u2 u0 T3.heap n0 f4 P3_0 P3_1) hZ (hw _ (mw 30 rfl)) (hw _ (mw 29 rfl)) (by decide) (by decide)) (g := (mkF m 103 #[.val (.int u0), .val (.int u1), .val (.int u2), .val (.ref b1), .val (.int (1 : Int32))] [(.int u2), (.int u1), (.ref b1)])) rfl (by rw [hml]; rfl) (argsL := [(.ref b1), (.int u1), (.int u2)]) (rest := []) (lenOf pd_4 rfl) rfl (by show 2 * 0 + _ ≤ _; exact Nat.le_of_eq rfl) (hb hby at_103) (fun _ _ => ⟨rfl, e6, (by decide : 1 + 0 ≤ _), (by decide : 1 + 0 ≤ _)⟩)
    dsimp only [Pt.U, Pt.locs, Pt.cells, Pt.slots] at X7 l7 y7 z7 st7 hQ7
    subst l7 y7 z7
    obtain ⟨rfl, N7q, e7⟩ := hQ7
    have N7 := Fr.app N6 N7q
    refine Goal.to (B := T7.setTop (mkF m 106 #[.val (.int u0), .val (.int u1), .val (.int u2), .val (.ref b1), .val (.int (1 : Int32))] [(.int (1 : Int32))])) st7 ?_
    refine Goal.to (B := T7.setTop (mkF m 124 #[.val (.int u0), .val (.int u1), .val (.int u2), .val (.ref b1), .val (.int (1 : Int32))] [(.int u0), (.int u1), (.ref b1)])) (fun tt kk => ?_) ?_
    · show Steps p.tables e below (T7.setTop (mkF m 106 #[.val (.int u0), .val (.int u1), .val (.int u2), .val (.ref b1), .val (.int (1 : Int32))] [(.int (1 : Int32))])) tt
      refine XS.ifNo X7.here hx rfl (hb hby at_106) rfl ((if0 _ _).trans (feq ((by decide) : ¬ ((1 : Int32) = (0 : Int32)))).1) ?_
      show Steps p.tables e below (T7.setTop (mkF m 109 #[.val (.int u0), .val (.int u1), .val (.int u2), .val (.ref b1), .val (.int (1 : Int32))] [])) tt
      refine XS.iconst X7.here hx rfl (hb hby at_109) ?_
      show Steps p.tables e below (T7.setTop (mkF m 110 #[.val (.int u0), .val (.int u1), .val (.int u2), .val (.ref b1), .val (.int (1 : Int32))] [(.int (1 : Int32))])) tt
      refine XS.goto X7.here hx rfl (pc0 := 110) (pc' := 114) rfl (hb hby at_110) (by decide) (by decide) ?_
      show Steps p.tables e below (T7.setTop (mkF m 114 #[.val (.int u0), .val (.int u1), .val (.int u2), .val (.ref b1), .val (.int (1 : Int32))] [(.int (1 : Int32))])) tt
      refine XS.istore X7.here hx rfl (hb hby at_114) rfl (l' := #[.val (.int u0), .val (.int u1), .val (.int u2), .val (.ref b1), .val (.int (1 : Int32))]) rfl ?_
      show Steps p.tables e below (T7.setTop (mkF m 116 #[.val (.int u0), .val (.int u1), .val (.int u2), .val (.ref b1), .val (.int (1 : Int32))] [])) tt
      refine XS.iload X7.here hx rfl (hb hby at_116) rfl ?_
      show Steps p.tables e below (T7.setTop (mkF m 118 #[.val (.int u0), .val (.int u1), .val (.int u2), .val (.ref b1), .val (.int (1 : Int32))] [(.int (1 : Int32))])) tt
      refine XS.ifNo X7.here hx rfl (hb hby at_118) rfl ((if0 _ _).trans (feq ((by decide) : ¬ ((1 : Int32) = (0 : Int32)))).1) ?_
      show Steps p.tables e below (T7.setTop (mkF m 121 #[.val (.int u0), .val (.int u1), .val (.int u2), .val (.ref b1), .val (.int (1 : Int32))] [])) tt
      refine XS.aloadN X7.here hx rfl (hb hby at_121) rfl rfl ?_
      show Steps p.tables e below (T7.setTop (mkF m 122 #[.val (.int u0), .val (.int u1), .val (.int u2), .val (.ref b1), .val (.int (1 : Int32))] [(.ref b1)])) tt
      refine XS.iloadN X7.here hx rfl (hb hby at_122) rfl ?_
      show Steps p.tables e below (T7.setTop (mkF m 123 #[.val (.int u0), .val (.int u1), .val (.int u2), .val (.ref b1), .val (.int (1 : Int32))] [(.int u1), (.ref b1)])) tt
      refine XS.iloadN X7.here hx rfl (hb hby at_123) rfl ?_
      exact kk
    obtain ⟨_, _, ⟨T8, L8, k8, n8⟩, -, X8, ⟨Lc8, hQ8, l8, y8, z8⟩, st8⟩ := Jvm.LawKit.callS X7 hx (y := (⟨"com/example/tavernlex/tavernlex/cli/HandoverCoversPinLaw", "downward", "(Lcom/example/tavernlex/tavernlex/cli/Handover;II)Z"⟩ : MethodName)) hown (mvT hZ (hw _ (mw 27 rfl))) (mvT hZ (hw _ (mw 28 rfl))) (mvT hZ (hw _ (mw 29 rfl))) (mvT hZ (hw _ (mw 30 rfl))) (by decide) (backOf (W := 0) (rm6 l Z a0 hw [] b1 u1 u0 u0 T3.heap n0 f4 P3_0 P3_1) hZ (hw _ (mw 30 rfl)) (hw _ (mw 29 rfl)) (by decide) (by decide)) (g := (mkF m 124 #[.val (.int u0), .val (.int u1), .val (.int u2), .val (.ref b1), .val (.int (1 : Int32))] [(.int u0), (.int u1), (.ref b1)])) rfl (by rw [hml]; rfl) (argsL := [(.ref b1), (.int u1), (.int u0)]) (rest := []) (lenOf pd_4 rfl) rfl (by show 2 * 0 + _ ≤ _; exact Nat.le_of_eq rfl) (hb hby at_124) (fun _ _ => ⟨rfl, e7, (by decide : 1 + 0 ≤ _), (by decide : 1 + 0 ≤ _)⟩)
    dsimp only [Pt.U, Pt.locs, Pt.cells, Pt.slots] at X8 l8 y8 z8 st8 hQ8
    subst l8 y8 z8
    obtain ⟨rfl, N8q, e8⟩ := hQ8
    have N8 := Fr.app N7 N8q
    refine Goal.to (B := T8.setTop (mkF m 127 #[.val (.int u0), .val (.int u1), .val (.int u2), .val (.ref b1), .val (.int (1 : Int32))] [(.int (1 : Int32))])) st8 ?_
    refine Goal.to (B := T8.setTop (mkF m 139 #[.val (.int u0), .val (.int u1), .val (.int u2), .val (.ref b1), .val (.int (1 : Int32))] [(.int (1 : Int32))])) (fun tt kk => ?_) ?_
    · show Steps p.tables e below (T8.setTop (mkF m 127 #[.val (.int u0), .val (.int u1), .val (.int u2), .val (.ref b1), .val (.int (1 : Int32))] [(.int (1 : Int32))])) tt
      refine XS.ifNo X8.here hx rfl (hb hby at_127) rfl ((if0 _ _).trans (feq ((by decide) : ¬ ((1 : Int32) = (0 : Int32)))).1) ?_
      show Steps p.tables e below (T8.setTop (mkF m 130 #[.val (.int u0), .val (.int u1), .val (.int u2), .val (.ref b1), .val (.int (1 : Int32))] [])) tt
      refine XS.iconst X8.here hx rfl (hb hby at_130) ?_
      show Steps p.tables e below (T8.setTop (mkF m 131 #[.val (.int u0), .val (.int u1), .val (.int u2), .val (.ref b1), .val (.int (1 : Int32))] [(.int (1 : Int32))])) tt
      refine XS.goto X8.here hx rfl (pc0 := 131) (pc' := 135) rfl (hb hby at_131) (by decide) (by decide) ?_
      show Steps p.tables e below (T8.setTop (mkF m 135 #[.val (.int u0), .val (.int u1), .val (.int u2), .val (.ref b1), .val (.int (1 : Int32))] [(.int (1 : Int32))])) tt
      refine XS.istore X8.here hx rfl (hb hby at_135) rfl (l' := #[.val (.int u0), .val (.int u1), .val (.int u2), .val (.ref b1), .val (.int (1 : Int32))]) rfl ?_
      show Steps p.tables e below (T8.setTop (mkF m 137 #[.val (.int u0), .val (.int u1), .val (.int u2), .val (.ref b1), .val (.int (1 : Int32))] [])) tt
      refine XS.iload X8.here hx rfl (hb hby at_137) rfl ?_
      exact kk
    exact Goal.retV X8 hx Bd.returns rfl (Or.inl ⟨rfl, Or.inr (Or.inl rfl), _, rfl⟩) (hb hby at_139) hlk e8 ⟨rfl, N8⟩ (by decide) (by decide)
  · refine Goal.to (B := T6.setTop (mkF m 59 #[.val (.int u0), .val (.int u1), .val (.int u2), .val (.ref b1), .val (.int (1 : Int32))] [(.int (u0 - (1 : Int32))), (.ref b1)])) (fun tt kk => ?_) ?_
    · show Steps p.tables e below (T6.setTop (mkF m 47 #[.val (.int u0), .val (.int u1), .val (.int u2), .val (.ref b1), .val (.int (1 : Int32))] [(.int (-2147483648 : Int32)), (.int u0)])) tt
      refine XS.icmpNo X6.here hx rfl (hb hby at_47) rfl (feq hmin).1 ?_
      show Steps p.tables e below (T6.setTop (mkF m 50 #[.val (.int u0), .val (.int u1), .val (.int u2), .val (.ref b1), .val (.int (1 : Int32))] [])) tt
      refine XS.iload X6.here hx rfl (hb hby at_50) rfl ?_
      show Steps p.tables e below (T6.setTop (mkF m 52 #[.val (.int u0), .val (.int u1), .val (.int u2), .val (.ref b1), .val (.int (1 : Int32))] [(.int (1 : Int32))])) tt
      refine XS.ifNo X6.here hx rfl (hb hby at_52) rfl ((if0 _ _).trans (feq ((by decide) : ¬ ((1 : Int32) = (0 : Int32)))).1) ?_
      show Steps p.tables e below (T6.setTop (mkF m 55 #[.val (.int u0), .val (.int u1), .val (.int u2), .val (.ref b1), .val (.int (1 : Int32))] [])) tt
      refine XS.aloadN X6.here hx rfl (hb hby at_55) rfl rfl ?_
      show Steps p.tables e below (T6.setTop (mkF m 56 #[.val (.int u0), .val (.int u1), .val (.int u2), .val (.ref b1), .val (.int (1 : Int32))] [(.ref b1)])) tt
      refine XS.iloadN X6.here hx rfl (hb hby at_56) rfl ?_
      show Steps p.tables e below (T6.setTop (mkF m 57 #[.val (.int u0), .val (.int u1), .val (.int u2), .val (.ref b1), .val (.int (1 : Int32))] [(.int u0), (.ref b1)])) tt
      refine XS.iconst X6.here hx rfl (hb hby at_57) ?_
      show Steps p.tables e below (T6.setTop (mkF m 58 #[.val (.int u0), .val (.int u1), .val (.int u2), .val (.ref b1), .val (.int (1 : Int32))] [(.int (1 : Int32)), (.int u0), (.ref b1)])) tt
      refine XS.isub X6.here hx rfl (hb hby at_58) rfl ?_
      exact kk
    obtain ⟨cq9, kq9, q9a, q9b, q9c⟩ := isOf hZ e6 P3_0
    obtain ⟨_, _, ⟨T9, L9, k9, n9⟩, -, X9, ⟨Lc9, hQ9, l9, y9, z9⟩, st9⟩ := X6.virtualBack hx (y := (⟨"com/example/tavernlex/tavernlex/cli/Handover", "covers", "(I)Z"⟩ : MethodName)) (z := (⟨"com/example/tavernlex/tavernlex/cli/Handover", "covers", "(I)Z"⟩ : MethodName)) hown (mvT hZ (hw _ (mw 21 rfl))) (mvT hZ (hw _ (mw 22 rfl))) (notFace_of_selects (args := #[]) (mvT hZ (hw _ (mw 24 rfl)))) (mvT hZ (hw _ (mw 24 rfl))) (mvT hZ (hw _ (mw 23 rfl))) (by decide) (backOf (W := 0) (rm5 l Z a0 hw [] b1 u0 (u0 - (1 : Int32)) T3.heap n0 f4 P3_1) hZ (hw _ (mw 25 rfl)) (hw _ (mw 2 rfl)) (by decide) (by decide)) q9a q9c (g := (mkF m 59 #[.val (.int u0), .val (.int u1), .val (.int u2), .val (.ref b1), .val (.int (1 : Int32))] [(.int (u0 - (1 : Int32))), (.ref b1)])) rfl (by rw [hml]; rfl) (Steps.refl _) (argsL := [(.int (u0 - (1 : Int32)))]) (rest := []) (lenOf pd_3 rfl) rfl (by show 2 * 0 + _ ≤ _; exact Nat.le_of_eq rfl) (hb hby at_59) (fun _ _ => ⟨rfl, e6, (by decide : 1 + 0 ≤ _), (by decide : 1 + 0 ≤ _)⟩)
    dsimp only [Pt.U, Pt.locs, Pt.cells, Pt.slots] at X9 l9 y9 z9 st9 hQ9
    subst l9 y9 z9
    obtain ⟨rfl, N9q, e9⟩ := hQ9
    have N9 := Fr.app N6 N9q
    refine Goal.tr (B := T9.setTop (mkF m 62 #[.val (.int u0), .val (.int u1), .val (.int u2), .val (.ref b1), .val (.int (1 : Int32))] [(.int (if (u0 - (1 : Int32)) < u0 then (1 : Int32) else (0 : Int32)))])) st9 ?_
    refine Goal.to (B := T9.setTop (mkF m 82 #[.val (.int u0), .val (.int u1), .val (.int u2), .val (.ref b1), .val (.int (1 : Int32))] [(.int (u0 - (1 : Int32))), (.int u1), (.ref b1)])) (fun tt kk => ?_) ?_
    · show Steps p.tables e below (T9.setTop (mkF m 62 #[.val (.int u0), .val (.int u1), .val (.int u2), .val (.ref b1), .val (.int (1 : Int32))] [(.int (if (u0 - (1 : Int32)) < u0 then (1 : Int32) else (0 : Int32)))])) tt
      refine XS.ifNo X9.here hx rfl (hb hby at_62) rfl ((if0 _ _).trans (feq (own_yes (own_pred hmin) : ¬ ((if (u0 - (1 : Int32)) < u0 then (1 : Int32) else (0 : Int32)) = (0 : Int32)))).1) ?_
      show Steps p.tables e below (T9.setTop (mkF m 65 #[.val (.int u0), .val (.int u1), .val (.int u2), .val (.ref b1), .val (.int (1 : Int32))] [])) tt
      refine XS.iconst X9.here hx rfl (hb hby at_65) ?_
      show Steps p.tables e below (T9.setTop (mkF m 66 #[.val (.int u0), .val (.int u1), .val (.int u2), .val (.ref b1), .val (.int (1 : Int32))] [(.int (1 : Int32))])) tt
      refine XS.goto X9.here hx rfl (pc0 := 66) (pc' := 70) rfl (hb hby at_66) (by decide) (by decide) ?_
      show Steps p.tables e below (T9.setTop (mkF m 70 #[.val (.int u0), .val (.int u1), .val (.int u2), .val (.ref b1), .val (.int (1 : Int32))] [(.int (1 : Int32))])) tt
      refine XS.istore X9.here hx rfl (hb hby at_70) rfl (l' := #[.val (.int u0), .val (.int u1), .val (.int u2), .val (.ref b1), .val (.int (1 : Int32))]) rfl ?_
      show Steps p.tables e below (T9.setTop (mkF m 72 #[.val (.int u0), .val (.int u1), .val (.int u2), .val (.ref b1), .val (.int (1 : Int32))] [])) tt
      refine XS.iload X9.here hx rfl (hb hby at_72) rfl ?_
      show Steps p.tables e below (T9.setTop (mkF m 74 #[.val (.int u0), .val (.int u1), .val (.int u2), .val (.ref b1), .val (.int (1 : Int32))] [(.int (1 : Int32))])) tt
      refine XS.ifNo X9.here hx rfl (hb hby at_74) rfl ((if0 _ _).trans (feq ((by decide) : ¬ ((1 : Int32) = (0 : Int32)))).1) ?_
      show Steps p.tables e below (T9.setTop (mkF m 77 #[.val (.int u0), .val (.int u1), .val (.int u2), .val (.ref b1), .val (.int (1 : Int32))] [])) tt
      refine XS.aloadN X9.here hx rfl (hb hby at_77) rfl rfl ?_
      show Steps p.tables e below (T9.setTop (mkF m 78 #[.val (.int u0), .val (.int u1), .val (.int u2), .val (.ref b1), .val (.int (1 : Int32))] [(.ref b1)])) tt
      refine XS.iloadN X9.here hx rfl (hb hby at_78) rfl ?_
      show Steps p.tables e below (T9.setTop (mkF m 79 #[.val (.int u0), .val (.int u1), .val (.int u2), .val (.ref b1), .val (.int (1 : Int32))] [(.int u1), (.ref b1)])) tt
      refine XS.iloadN X9.here hx rfl (hb hby at_79) rfl ?_
      show Steps p.tables e below (T9.setTop (mkF m 80 #[.val (.int u0), .val (.int u1), .val (.int u2), .val (.ref b1), .val (.int (1 : Int32))] [(.int u0), (.int u1), (.ref b1)])) tt
      refine XS.iconst X9.here hx rfl (hb hby at_80) ?_
      show Steps p.tables e below (T9.setTop (mkF m 81 #[.val (.int u0), .val (.int u1), .val (.int u2), .val (.ref b1), .val (.int (1 : Int32))] [(.int (1 : Int32)), (.int u0), (.int u1), (.ref b1)])) tt
      refine XS.isub X9.here hx rfl (hb hby at_81) rfl ?_
      exact kk
    obtain ⟨_, _, ⟨T10, L10, k10, n10⟩, -, X10, ⟨Lc10, hQ10, l10, y10, z10⟩, st10⟩ := Jvm.LawKit.callS X9 hx (y := (⟨"com/example/tavernlex/tavernlex/cli/HandoverCoversPinLaw", "downward", "(Lcom/example/tavernlex/tavernlex/cli/Handover;II)Z"⟩ : MethodName)) hown (mvT hZ (hw _ (mw 27 rfl))) (mvT hZ (hw _ (mw 28 rfl))) (mvT hZ (hw _ (mw 29 rfl))) (mvT hZ (hw _ (mw 30 rfl))) (by decide) (backOf (W := 0) (rm6 l Z a0 hw [] b1 u1 (u0 - (1 : Int32)) u0 T3.heap n0 f4 P3_0 P3_1) hZ (hw _ (mw 30 rfl)) (hw _ (mw 29 rfl)) (by decide) (by decide)) (g := (mkF m 82 #[.val (.int u0), .val (.int u1), .val (.int u2), .val (.ref b1), .val (.int (1 : Int32))] [(.int (u0 - (1 : Int32))), (.int u1), (.ref b1)])) rfl (by rw [hml]; rfl) (argsL := [(.ref b1), (.int u1), (.int (u0 - (1 : Int32)))]) (rest := []) (lenOf pd_4 rfl) rfl (by show 2 * 0 + _ ≤ _; exact Nat.le_of_eq rfl) (hb hby at_82) (fun _ _ => ⟨rfl, e9, (by decide : 1 + 0 ≤ _), (by decide : 1 + 0 ≤ _)⟩)
    dsimp only [Pt.U, Pt.locs, Pt.cells, Pt.slots] at X10 l10 y10 z10 st10 hQ10
    subst l10 y10 z10
    obtain ⟨rfl, N10q, e10⟩ := hQ10
    have N10 := Fr.app N9 N10q
    refine Goal.to (B := T10.setTop (mkF m 85 #[.val (.int u0), .val (.int u1), .val (.int u2), .val (.ref b1), .val (.int (1 : Int32))] [(.int (1 : Int32))])) st10 ?_
    refine Goal.to (B := T10.setTop (mkF m 103 #[.val (.int u0), .val (.int u1), .val (.int u2), .val (.ref b1), .val (.int (1 : Int32))] [(.int u2), (.int u1), (.ref b1)])) (fun tt kk => ?_) ?_
    · show Steps p.tables e below (T10.setTop (mkF m 85 #[.val (.int u0), .val (.int u1), .val (.int u2), .val (.ref b1), .val (.int (1 : Int32))] [(.int (1 : Int32))])) tt
      refine XS.ifNo X10.here hx rfl (hb hby at_85) rfl ((if0 _ _).trans (feq ((by decide) : ¬ ((1 : Int32) = (0 : Int32)))).1) ?_
      show Steps p.tables e below (T10.setTop (mkF m 88 #[.val (.int u0), .val (.int u1), .val (.int u2), .val (.ref b1), .val (.int (1 : Int32))] [])) tt
      refine XS.iconst X10.here hx rfl (hb hby at_88) ?_
      show Steps p.tables e below (T10.setTop (mkF m 89 #[.val (.int u0), .val (.int u1), .val (.int u2), .val (.ref b1), .val (.int (1 : Int32))] [(.int (1 : Int32))])) tt
      refine XS.goto X10.here hx rfl (pc0 := 89) (pc' := 93) rfl (hb hby at_89) (by decide) (by decide) ?_
      show Steps p.tables e below (T10.setTop (mkF m 93 #[.val (.int u0), .val (.int u1), .val (.int u2), .val (.ref b1), .val (.int (1 : Int32))] [(.int (1 : Int32))])) tt
      refine XS.istore X10.here hx rfl (hb hby at_93) rfl (l' := #[.val (.int u0), .val (.int u1), .val (.int u2), .val (.ref b1), .val (.int (1 : Int32))]) rfl ?_
      show Steps p.tables e below (T10.setTop (mkF m 95 #[.val (.int u0), .val (.int u1), .val (.int u2), .val (.ref b1), .val (.int (1 : Int32))] [])) tt
      refine XS.iload X10.here hx rfl (hb hby at_95) rfl ?_
      show Steps p.tables e below (T10.setTop (mkF m 97 #[.val (.int u0), .val (.int u1), .val (.int u2), .val (.ref b1), .val (.int (1 : Int32))] [(.int (1 : Int32))])) tt
      refine XS.ifNo X10.here hx rfl (hb hby at_97) rfl ((if0 _ _).trans (feq ((by decide) : ¬ ((1 : Int32) = (0 : Int32)))).1) ?_
      show Steps p.tables e below (T10.setTop (mkF m 100 #[.val (.int u0), .val (.int u1), .val (.int u2), .val (.ref b1), .val (.int (1 : Int32))] [])) tt
      refine XS.aloadN X10.here hx rfl (hb hby at_100) rfl rfl ?_
      show Steps p.tables e below (T10.setTop (mkF m 101 #[.val (.int u0), .val (.int u1), .val (.int u2), .val (.ref b1), .val (.int (1 : Int32))] [(.ref b1)])) tt
      refine XS.iloadN X10.here hx rfl (hb hby at_101) rfl ?_
      show Steps p.tables e below (T10.setTop (mkF m 102 #[.val (.int u0), .val (.int u1), .val (.int u2), .val (.ref b1), .val (.int (1 : Int32))] [(.int u1), (.ref b1)])) tt
      refine XS.iloadN X10.here hx rfl (hb hby at_102) rfl ?_
      exact kk
    obtain ⟨_, _, ⟨T11, L11, k11, n11⟩, -, X11, ⟨Lc11, hQ11, l11, y11, z11⟩, st11⟩ := Jvm.LawKit.callS X10 hx (y := (⟨"com/example/tavernlex/tavernlex/cli/HandoverCoversPinLaw", "downward", "(Lcom/example/tavernlex/tavernlex/cli/Handover;II)Z"⟩ : MethodName)) hown (mvT hZ (hw _ (mw 27 rfl))) (mvT hZ (hw _ (mw 28 rfl))) (mvT hZ (hw _ (mw 29 rfl))) (mvT hZ (hw _ (mw 30 rfl))) (by decide) (backOf (W := 0) (rm6 l Z a0 hw [] b1 u1 u2 u0 T3.heap n0 f4 P3_0 P3_1) hZ (hw _ (mw 30 rfl)) (hw _ (mw 29 rfl)) (by decide) (by decide)) (g := (mkF m 103 #[.val (.int u0), .val (.int u1), .val (.int u2), .val (.ref b1), .val (.int (1 : Int32))] [(.int u2), (.int u1), (.ref b1)])) rfl (by rw [hml]; rfl) (argsL := [(.ref b1), (.int u1), (.int u2)]) (rest := []) (lenOf pd_4 rfl) rfl (by show 2 * 0 + _ ≤ _; exact Nat.le_of_eq rfl) (hb hby at_103) (fun _ _ => ⟨rfl, e10, (by decide : 1 + 0 ≤ _), (by decide : 1 + 0 ≤ _)⟩)
    dsimp only [Pt.U, Pt.locs, Pt.cells, Pt.slots] at X11 l11 y11 z11 st11 hQ11
    subst l11 y11 z11
    obtain ⟨rfl, N11q, e11⟩ := hQ11
    have N11 := Fr.app N10 N11q
    refine Goal.to (B := T11.setTop (mkF m 106 #[.val (.int u0), .val (.int u1), .val (.int u2), .val (.ref b1), .val (.int (1 : Int32))] [(.int (1 : Int32))])) st11 ?_
    refine Goal.to (B := T11.setTop (mkF m 124 #[.val (.int u0), .val (.int u1), .val (.int u2), .val (.ref b1), .val (.int (1 : Int32))] [(.int u0), (.int u1), (.ref b1)])) (fun tt kk => ?_) ?_
    · show Steps p.tables e below (T11.setTop (mkF m 106 #[.val (.int u0), .val (.int u1), .val (.int u2), .val (.ref b1), .val (.int (1 : Int32))] [(.int (1 : Int32))])) tt
      refine XS.ifNo X11.here hx rfl (hb hby at_106) rfl ((if0 _ _).trans (feq ((by decide) : ¬ ((1 : Int32) = (0 : Int32)))).1) ?_
      show Steps p.tables e below (T11.setTop (mkF m 109 #[.val (.int u0), .val (.int u1), .val (.int u2), .val (.ref b1), .val (.int (1 : Int32))] [])) tt
      refine XS.iconst X11.here hx rfl (hb hby at_109) ?_
      show Steps p.tables e below (T11.setTop (mkF m 110 #[.val (.int u0), .val (.int u1), .val (.int u2), .val (.ref b1), .val (.int (1 : Int32))] [(.int (1 : Int32))])) tt
      refine XS.goto X11.here hx rfl (pc0 := 110) (pc' := 114) rfl (hb hby at_110) (by decide) (by decide) ?_
      show Steps p.tables e below (T11.setTop (mkF m 114 #[.val (.int u0), .val (.int u1), .val (.int u2), .val (.ref b1), .val (.int (1 : Int32))] [(.int (1 : Int32))])) tt
      refine XS.istore X11.here hx rfl (hb hby at_114) rfl (l' := #[.val (.int u0), .val (.int u1), .val (.int u2), .val (.ref b1), .val (.int (1 : Int32))]) rfl ?_
      show Steps p.tables e below (T11.setTop (mkF m 116 #[.val (.int u0), .val (.int u1), .val (.int u2), .val (.ref b1), .val (.int (1 : Int32))] [])) tt
      refine XS.iload X11.here hx rfl (hb hby at_116) rfl ?_
      show Steps p.tables e below (T11.setTop (mkF m 118 #[.val (.int u0), .val (.int u1), .val (.int u2), .val (.ref b1), .val (.int (1 : Int32))] [(.int (1 : Int32))])) tt
      refine XS.ifNo X11.here hx rfl (hb hby at_118) rfl ((if0 _ _).trans (feq ((by decide) : ¬ ((1 : Int32) = (0 : Int32)))).1) ?_
      show Steps p.tables e below (T11.setTop (mkF m 121 #[.val (.int u0), .val (.int u1), .val (.int u2), .val (.ref b1), .val (.int (1 : Int32))] [])) tt
      refine XS.aloadN X11.here hx rfl (hb hby at_121) rfl rfl ?_
      show Steps p.tables e below (T11.setTop (mkF m 122 #[.val (.int u0), .val (.int u1), .val (.int u2), .val (.ref b1), .val (.int (1 : Int32))] [(.ref b1)])) tt
      refine XS.iloadN X11.here hx rfl (hb hby at_122) rfl ?_
      show Steps p.tables e below (T11.setTop (mkF m 123 #[.val (.int u0), .val (.int u1), .val (.int u2), .val (.ref b1), .val (.int (1 : Int32))] [(.int u1), (.ref b1)])) tt
      refine XS.iloadN X11.here hx rfl (hb hby at_123) rfl ?_
      exact kk
    obtain ⟨_, _, ⟨T12, L12, k12, n12⟩, -, X12, ⟨Lc12, hQ12, l12, y12, z12⟩, st12⟩ := Jvm.LawKit.callS X11 hx (y := (⟨"com/example/tavernlex/tavernlex/cli/HandoverCoversPinLaw", "downward", "(Lcom/example/tavernlex/tavernlex/cli/Handover;II)Z"⟩ : MethodName)) hown (mvT hZ (hw _ (mw 27 rfl))) (mvT hZ (hw _ (mw 28 rfl))) (mvT hZ (hw _ (mw 29 rfl))) (mvT hZ (hw _ (mw 30 rfl))) (by decide) (backOf (W := 0) (rm6 l Z a0 hw [] b1 u1 u0 u0 T3.heap n0 f4 P3_0 P3_1) hZ (hw _ (mw 30 rfl)) (hw _ (mw 29 rfl)) (by decide) (by decide)) (g := (mkF m 124 #[.val (.int u0), .val (.int u1), .val (.int u2), .val (.ref b1), .val (.int (1 : Int32))] [(.int u0), (.int u1), (.ref b1)])) rfl (by rw [hml]; rfl) (argsL := [(.ref b1), (.int u1), (.int u0)]) (rest := []) (lenOf pd_4 rfl) rfl (by show 2 * 0 + _ ≤ _; exact Nat.le_of_eq rfl) (hb hby at_124) (fun _ _ => ⟨rfl, e11, (by decide : 1 + 0 ≤ _), (by decide : 1 + 0 ≤ _)⟩)
    dsimp only [Pt.U, Pt.locs, Pt.cells, Pt.slots] at X12 l12 y12 z12 st12 hQ12
    subst l12 y12 z12
    obtain ⟨rfl, N12q, e12⟩ := hQ12
    have N12 := Fr.app N11 N12q
    refine Goal.to (B := T12.setTop (mkF m 127 #[.val (.int u0), .val (.int u1), .val (.int u2), .val (.ref b1), .val (.int (1 : Int32))] [(.int (1 : Int32))])) st12 ?_
    refine Goal.to (B := T12.setTop (mkF m 139 #[.val (.int u0), .val (.int u1), .val (.int u2), .val (.ref b1), .val (.int (1 : Int32))] [(.int (1 : Int32))])) (fun tt kk => ?_) ?_
    · show Steps p.tables e below (T12.setTop (mkF m 127 #[.val (.int u0), .val (.int u1), .val (.int u2), .val (.ref b1), .val (.int (1 : Int32))] [(.int (1 : Int32))])) tt
      refine XS.ifNo X12.here hx rfl (hb hby at_127) rfl ((if0 _ _).trans (feq ((by decide) : ¬ ((1 : Int32) = (0 : Int32)))).1) ?_
      show Steps p.tables e below (T12.setTop (mkF m 130 #[.val (.int u0), .val (.int u1), .val (.int u2), .val (.ref b1), .val (.int (1 : Int32))] [])) tt
      refine XS.iconst X12.here hx rfl (hb hby at_130) ?_
      show Steps p.tables e below (T12.setTop (mkF m 131 #[.val (.int u0), .val (.int u1), .val (.int u2), .val (.ref b1), .val (.int (1 : Int32))] [(.int (1 : Int32))])) tt
      refine XS.goto X12.here hx rfl (pc0 := 131) (pc' := 135) rfl (hb hby at_131) (by decide) (by decide) ?_
      show Steps p.tables e below (T12.setTop (mkF m 135 #[.val (.int u0), .val (.int u1), .val (.int u2), .val (.ref b1), .val (.int (1 : Int32))] [(.int (1 : Int32))])) tt
      refine XS.istore X12.here hx rfl (hb hby at_135) rfl (l' := #[.val (.int u0), .val (.int u1), .val (.int u2), .val (.ref b1), .val (.int (1 : Int32))]) rfl ?_
      show Steps p.tables e below (T12.setTop (mkF m 137 #[.val (.int u0), .val (.int u1), .val (.int u2), .val (.ref b1), .val (.int (1 : Int32))] [])) tt
      refine XS.iload X12.here hx rfl (hb hby at_137) rfl ?_
      exact kk
    exact Goal.retV X12 hx Bd.returns rfl (Or.inl ⟨rfl, Or.inr (Or.inl rfl), _, rfl⟩) (hb hby at_139) hlk e12 ⟨rfl, N12⟩ (by decide) (by decide)
set_option maxRecDepth 65536 in
set_option maxHeartbeats 40000000 in
theorem comes_1 {Post : Tables → Env → Array Value → State → Outcome → State → Prop} (hpost : ∀ tb e args s v u, (limb_1_1.after args s (.returned v) u = true ∧ limb_1_2.after args s (.returned v) u = true ∧ True) → FrameEnd s (.returned v) u (Jvm.fieldLocs frame_1_writes args s ++ Jvm.arrayLocs frame_1_arrays args s ++ Jvm.staticLocs frame_1_statics s) 16 128 → Post tb e args s (.returned v) u) :
    ArmFor flags0 classFile x code maxLocals ret World_1 tables_1 room_1 Calls_1 rest_1 Pre_1 Post := by
  intro l hfl _ _ p e ha hc hk s m args below hf hA hF happ hP
  obtain ⟨hcalls, hrest, hpre⟩ := hP
  obtain ⟨-, -, -, hnamed, -, -, -, hat⟩ := (Spec.applies_iff hf).mp happ
  obtain ⟨hg, hn⟩ := and_e (Cond.before_iff.mp (show (Jvm.Cond.and given_1 narrow_1).before args s = true from hpre))
  obtain ⟨u1, u2⟩ := and_e hg
  obtain ⟨u3, u4⟩ := and_e u2
  obtain ⟨u5, u6⟩ := and_e u4
  obtain ⟨w0, w1, w2, rfl⟩ : ∃ w0 w1 w2 : Value, args = #[w0, w1, w2] := by
    have hs : args.size = 3 := by simpa [Cond.value, given_1] using u1
    obtain ⟨L⟩ := args
    match L, hs with
    | [w0, w1, w2], _ => exact ⟨w0, w1, w2, rfl⟩
  have hw := fun d (hd : d ∈ tables_1) => atoms_spec (ws := Jvm.Cond.code x code maxLocals ret :: tables_1) hat d (List.mem_cons_of_mem _ hd)
  obtain ⟨i0, ei0⟩ := is_v u3
  obtain rfl : w0 = (.int i0) := Option.some.inj ei0
  obtain ⟨i1, ei1⟩ := is_v u5
  obtain rfl : w1 = (.int i1) := Option.some.inj ei1
  obtain ⟨i2, ei2⟩ := is_v u6
  obtain rfl : w2 = (.int i2) := Option.some.inj ei2
  obtain ⟨n, o, h1, h2, h3, _, L, rfl, ⟨rfl, N⟩, hq⟩ := rm0 l s _ hw tables_1 i0 i1 i2 s.heap s.heap.size (Nat.le_refl _)  p e ha hc hk s m _ below hf ((Spec.applies_iff_loose hf).mp happ).1 ⟨rfl, State.Warmed39.refl s, rfl⟩ trivial
  refine ⟨n, _, h1, h2, h3, hpost _ _ _ _ _ _ ⟨Cond.after_iff.mpr rfl, Cond.after_iff.mpr (eq_i res_at (Term.int_eval (1)) rfl), trivial⟩ ⟨hq.1, hq.2.1, (hq.2.2.sift fun y hy => Or.inr (N y hy)).mono (by decide) (by decide)⟩⟩
theorem main_1_1 : Claimed_1_1 := comes_1 fun _ _ _ _ _ _ h hF => ⟨h.1, hF⟩
theorem main_1_2 : Claimed_1_2 := comes_1 fun _ _ _ _ _ _ h hF => ⟨h.2.1, hF⟩
end Jvm.Pilot.@@N@@
namespace Jvm.Pilot.@@N@@
open Jvm Jvm.ClassFile Sem Op Lib Jvm.Free Jvm.Stand Jvm.Pilot.@@N@@.Jvm.D
/-! MADE BY PROGRAM (witnessworld.py) out of the Statement's table words and the real class files: 11 classes; the members and pool entries that the words name. The judged class is class 1, her method 2. -/
namespace start1
open Jvm.ClassFile
def u (s : String) : CpInfo := .utf8 (stringToUtf16 s)
/-- a pool by its gaps: so many unusable entries, then the entry; so many at the end -/
def gap : Nat → List CpInfo → List CpInfo
  | 0, r => r
  | n + 1, r => .unusable :: gap n r
def poolList (es : List (Nat × CpInfo)) (last : Nat) : List CpInfo := es.foldr (fun e r => gap e.1 (e.2 :: r)) (gap last [])
def pool (es : List (Nat × CpInfo)) (last : Nat) : Array CpInfo := ⟨poolList es last⟩
def fileOf (pool : Array CpInfo) (this : Nat) (attrs : Array Attribute := #[]) (ms : Array MethodInfo := #[]) (fl : Nat := 33) (sup : Nat := 0) (ifs : Array Nat := #[]) (fds : Array FieldInfo := #[]) : ClassFile where
  minorVersion := 0
  majorVersion := 65
  constantPool := pool
  accessFlags := fl
  thisClass := this
  superClass := sup
  interfaces := ifs
  fields := fds
  methods := ms
  attributes := attrs
def plain (name : String) (sup : Option ClassId) : Class where
  name := name
  kind := .ordinary
  loader := none
  accessFlags := 33
  super := sup
  interfaces := #[]
  cf := none
  fields := #[]
  methods := #[]
  instanceTypes := #[]
  staticTypes := #[]
  resolved := #[]
  callSites := []
  init := .initialized
  statics := none
  mirror := none

def pool0 : Array CpInfo := pool [(5, u "<init>"), (0, u "()V"), (1, .class_ 10), (1, u "java/lang/Object")] 113

def k0c0 : Code := { maxStack := 0, maxLocals := 1, code := object_method_1_code, exceptionTable := #[], attributes := #[] }
def k0m0 : Method := { name := "<init>", desc := "()V", sig := { parameters := [], returnType := none }, accessFlags := 1, code := some k0c0 }
/-- java/lang/Object -/
def k0 : Class := { plain "java/lang/Object" none with
  accessFlags := 33
  interfaces := #[]
  cf := some (fileOf pool0 8 #[] #[{ accessFlags := 1, nameIndex := 5, descriptorIndex := 6, attributes := #[] }] 33 0 #[] #[])
  fields := #[]
  methods := #[k0m0]
  instanceTypes := #[]
  staticTypes := #[]
  resolved := Array.replicate 124 none
  statics := none }

def pool1 : Array CpInfo := pool [(2, .class_ 4), (1, u "java/lang/Object"), (0, u "<init>"), (0, u "()V"), (0, .methodref 8 9), (0, .class_ 10), (0, .nameAndType 11 12), (0, u "java/lang/Math"), (0, u "min"), (0, u "(II)I"), (0, .methodref 8 14), (0, .nameAndType 15 12), (0, u "max"), (0, .methodref 17 18), (0, .class_ 19), (0, .nameAndType 20 21), (0, u "com/example/tavernlex/tavernlex/cli/Handover"), (0, u "covers"), (0, u "(I)Z"), (0, .methodref 17 23), (0, .nameAndType 5 24), (0, u "(I)V"), (0, .methodref 17 26), (0, .nameAndType 27 28), (0, u "below"), (0, u "()I"), (2, .integer 2147483648), (0, .methodref 33 34), (0, .class_ 35), (0, .nameAndType 36 37), (0, u "com/example/tavernlex/tavernlex/cli/HandoverCoversPinLaw"), (0, u "downward"), (0, u "(Lcom/example/tavernlex/tavernlex/cli/Handover;II)Z"), (3, u "law"), (0, u "(III)Z")] 2

def k1m0 : Method := { name := "<init>", desc := "()V", sig := { parameters := [], returnType := none }, accessFlags := 1, code := none }
def k1c1 : Code := { maxStack := 2, maxLocals := 5, code := method_2_code, exceptionTable := #[], attributes := #[] }
def k1m1 : Method := { name := "downward", desc := "(Lcom/example/tavernlex/tavernlex/cli/Handover;II)Z", sig := { parameters := [(.object "com/example/tavernlex/tavernlex/cli/Handover"), .int, .int], returnType := some .boolean }, accessFlags := 10, code := some k1c1 }
def k1c2 : Code := { maxStack := 4, maxLocals := 5, code := code, exceptionTable := #[], attributes := #[] }
def k1m2 : Method := { name := "law", desc := "(III)Z", sig := { parameters := [.int, .int, .int], returnType := some .boolean }, accessFlags := 9, code := some k1c2 }
/-- com/example/tavernlex/tavernlex/cli/HandoverCoversPinLaw -/
def k1 : Class := { plain "com/example/tavernlex/tavernlex/cli/HandoverCoversPinLaw" (some 0) with
  accessFlags := 49
  interfaces := #[]
  cf := some (fileOf pool1 33 #[] #[{ accessFlags := 1, nameIndex := 5, descriptorIndex := 6, attributes := #[] }, { accessFlags := 10, nameIndex := 36, descriptorIndex := 37, attributes := #[] }, { accessFlags := 9, nameIndex := 41, descriptorIndex := 42, attributes := #[] }] 49 2 #[] #[])
  fields := #[]
  methods := #[k1m0, k1m1, k1m2]
  instanceTypes := #[]
  staticTypes := #[]
  resolved := Array.replicate 45 none
  statics := none }

def pool2 : Array CpInfo := pool [(1, .methodref 2 3), (0, .class_ 4), (0, .nameAndType 5 6), (0, u "java/lang/Object"), (0, u "<init>"), (0, u "()V"), (0, .class_ 8), (0, u "java/lang/Record")] 13

def k2c0 : Code := { maxStack := 1, maxLocals := 1, code := jdk_30_method_1_code, exceptionTable := #[], attributes := #[] }
def k2m0 : Method := { name := "<init>", desc := "()V", sig := { parameters := [], returnType := none }, accessFlags := 4, code := some k2c0 }
/-- java/lang/Record -/
def k2 : Class := { plain "java/lang/Record" (some 0) with
  accessFlags := 1057
  interfaces := #[]
  cf := some (fileOf pool2 7 #[] #[{ accessFlags := 4, nameIndex := 5, descriptorIndex := 6, attributes := #[] }] 1057 2 #[] #[])
  fields := #[]
  methods := #[k2m0]
  instanceTypes := #[]
  staticTypes := #[]
  resolved := Array.replicate 22 none
  statics := none }

def pool3 : Array CpInfo := pool [(1, .methodref 2 3), (0, .class_ 4), (0, .nameAndType 5 6), (0, u "java/lang/Record"), (0, u "<init>"), (0, u "()V"), (0, .fieldref 8 9), (0, .class_ 10), (0, .nameAndType 11 12), (0, u "com/example/tavernlex/tavernlex/cli/Handover"), (0, u "below"), (0, u "I"), (35, u "()I"), (4, u "(I)V"), (78, u "IN_PROCESS"), (0, u "Lcom/example/tavernlex/tavernlex/cli/Handover;"), (0, u "STANDARD_DESCRIPTORS"), (8, u "covers"), (0, u "(I)Z")] 21

def k3c0 : Code := { maxStack := 2, maxLocals := 2, code := prog_90_method_1_code, exceptionTable := #[], attributes := #[] }
def k3m0 : Method := { name := "<init>", desc := "(I)V", sig := { parameters := [.int], returnType := none }, accessFlags := 0, code := some k3c0 }
def k3c1 : Code := { maxStack := 2, maxLocals := 2, code := prog_90_method_3_code, exceptionTable := #[], attributes := #[] }
def k3m1 : Method := { name := "covers", desc := "(I)Z", sig := { parameters := [.int], returnType := some .boolean }, accessFlags := 0, code := some k3c1 }
def k3c2 : Code := { maxStack := 1, maxLocals := 1, code := prog_90_method_9_code, exceptionTable := #[], attributes := #[] }
def k3m2 : Method := { name := "below", desc := "()I", sig := { parameters := [], returnType := some .int }, accessFlags := 1, code := some k3c2 }
/-- com/example/tavernlex/tavernlex/cli/Handover -/
def k3 : Class := { plain "com/example/tavernlex/tavernlex/cli/Handover" (some 2) with
  accessFlags := 48
  interfaces := #[]
  cf := some (fileOf pool3 8 #[] #[{ accessFlags := 0, nameIndex := 5, descriptorIndex := 53, attributes := #[] }, { accessFlags := 0, nameIndex := 143, descriptorIndex := 144, attributes := #[] }, { accessFlags := 1, nameIndex := 11, descriptorIndex := 48, attributes := #[] }] 48 2 #[] #[{ accessFlags := 18, nameIndex := 11, descriptorIndex := 12, attributes := #[] }, { accessFlags := 24, nameIndex := 132, descriptorIndex := 133, attributes := #[] }, { accessFlags := 26, nameIndex := 134, descriptorIndex := 12, attributes := #[] }])
  fields := #[{ name := "below", type := .int, accessFlags := 18, slot := 0, constantValue := 0 }, { name := "IN_PROCESS", type := (.object "com/example/tavernlex/tavernlex/cli/Handover"), accessFlags := 24, slot := 0, constantValue := 0 }, { name := "STANDARD_DESCRIPTORS", type := .int, accessFlags := 26, slot := 1, constantValue := 0 }]
  methods := #[k3m0, k3m1, k3m2]
  instanceTypes := #[.int]
  staticTypes := #[(.object "com/example/tavernlex/tavernlex/cli/Handover"), .int]
  resolved := Array.replicate 166 none
  statics := none }

def pool4 : Array CpInfo := pool [(1, .class_ 2), (0, u "java/lang/Math"), (1, .class_ 6), (1, u "java/lang/Object"), (0, u "<init>"), (0, u "()V"), (89, .class_ 100), (1, u "java/lang/Math$RandomNumberGeneratorHolder"), (71, u "negativeZeroFloatBits"), (0, u "J"), (2, u "negativeZeroDoubleBits"), (21, u "max"), (2, u "min"), (43, u "$assertionsDisabled"), (0, u "Z"), (88, u "(II)I"), (2, u "twoToTheDoubleScaleDown"), (0, u "D"), (4, u "twoToTheDoubleScaleUp"), (9, u "E"), (3, u "PI"), (2, u "TAU"), (2, u "DEGREES_TO_RADIANS"), (0, u "RADIANS_TO_DEGREES")] 94

def k4m0 : Method := { name := "<init>", desc := "()V", sig := { parameters := [], returnType := none }, accessFlags := 2, code := none }
def k4c1 : Code := { maxStack := 2, maxLocals := 2, code := jdk_29_method_65_code, exceptionTable := #[], attributes := #[] }
def k4m1 : Method := { name := "max", desc := "(II)I", sig := { parameters := [.int, .int], returnType := some .int }, accessFlags := 9, code := some k4c1 }
def k4c2 : Code := { maxStack := 2, maxLocals := 2, code := jdk_29_method_69_code, exceptionTable := #[], attributes := #[] }
def k4m2 : Method := { name := "min", desc := "(II)I", sig := { parameters := [.int, .int], returnType := some .int }, accessFlags := 9, code := some k4c2 }
/-- java/lang/Math -/
def k4 : Class := { plain "java/lang/Math" (some 0) with
  accessFlags := 49
  interfaces := #[]
  cf := some (fileOf pool4 1 #[.nestMembers #[98]] #[{ accessFlags := 2, nameIndex := 7, descriptorIndex := 8, attributes := #[] }, { accessFlags := 9, nameIndex := 198, descriptorIndex := 335, attributes := #[] }, { accessFlags := 9, nameIndex := 201, descriptorIndex := 335, attributes := #[] }] 49 4 #[] #[{ accessFlags := 25, nameIndex := 354, descriptorIndex := 339, attributes := #[] }, { accessFlags := 25, nameIndex := 358, descriptorIndex := 339, attributes := #[] }, { accessFlags := 25, nameIndex := 361, descriptorIndex := 339, attributes := #[] }, { accessFlags := 26, nameIndex := 364, descriptorIndex := 339, attributes := #[] }, { accessFlags := 26, nameIndex := 365, descriptorIndex := 339, attributes := #[] }, { accessFlags := 26, nameIndex := 172, descriptorIndex := 173, attributes := #[] }, { accessFlags := 26, nameIndex := 176, descriptorIndex := 173, attributes := #[] }, { accessFlags := 8, nameIndex := 344, descriptorIndex := 339, attributes := #[] }, { accessFlags := 8, nameIndex := 338, descriptorIndex := 339, attributes := #[] }, { accessFlags := 4120, nameIndex := 245, descriptorIndex := 246, attributes := #[] }])
  fields := #[{ name := "E", type := .double, accessFlags := 25, slot := 0, constantValue := 0 }, { name := "PI", type := .double, accessFlags := 25, slot := 1, constantValue := 0 }, { name := "TAU", type := .double, accessFlags := 25, slot := 2, constantValue := 0 }, { name := "DEGREES_TO_RADIANS", type := .double, accessFlags := 26, slot := 3, constantValue := 0 }, { name := "RADIANS_TO_DEGREES", type := .double, accessFlags := 26, slot := 4, constantValue := 0 }, { name := "negativeZeroFloatBits", type := .long, accessFlags := 26, slot := 5, constantValue := 0 }, { name := "negativeZeroDoubleBits", type := .long, accessFlags := 26, slot := 6, constantValue := 0 }, { name := "twoToTheDoubleScaleUp", type := .double, accessFlags := 8, slot := 7, constantValue := 0 }, { name := "twoToTheDoubleScaleDown", type := .double, accessFlags := 8, slot := 8, constantValue := 0 }, { name := "$assertionsDisabled", type := .boolean, accessFlags := 4120, slot := 9, constantValue := 0 }]
  methods := #[k4m0, k4m1, k4m2]
  instanceTypes := #[]
  staticTypes := #[.double, .double, .double, .double, .double, .long, .long, .double, .double, .boolean]
  resolved := Array.replicate 460 none
  statics := none }

def pool5 : Array CpInfo := pool [(1, u "java/lang/Cloneable"), (0, .class_ 1), (0, u "java/lang/Object"), (0, .class_ 3)] 3

/-- java/lang/Cloneable -/
def k5 : Class := { plain "java/lang/Cloneable" (some 0) with
  accessFlags := 1537
  interfaces := #[]
  cf := some (fileOf pool5 2 #[] #[] 1537 4 #[] #[])
  fields := #[]
  methods := #[]
  instanceTypes := #[]
  staticTypes := #[]
  resolved := Array.replicate 8 none
  statics := none }

def pool6 : Array CpInfo := pool [(1, u "java/io/Serializable"), (0, .class_ 1), (0, u "java/lang/Object"), (0, .class_ 3)] 3

/-- java/io/Serializable -/
def k6 : Class := { plain "java/io/Serializable" (some 0) with
  accessFlags := 1537
  interfaces := #[]
  cf := some (fileOf pool6 2 #[] #[] 1537 4 #[] #[])
  fields := #[]
  methods := #[]
  instanceTypes := #[]
  staticTypes := #[]
  resolved := Array.replicate 8 none
  statics := none }

/-- the primitive byte -/
def k7 : Class := { plain "byte" none with kind := .primitive 'B', accessFlags := 0x411 }
/-- [B -/
def k8 : Class := { plain "[B" (some 0) with kind := .array 7 .byte, interfaces := #[5, 6], accessFlags := 1041 }

/-- the primitive int -/
def k9 : Class := { plain "int" none with kind := .primitive 'I', accessFlags := 0x411 }
/-- [I -/
def k10 : Class := { plain "[I" (some 0) with kind := .array 9 .int, interfaces := #[5, 6], accessFlags := 1041 }

def heap : Heap := #[]
def classes : Array Class := #[k0, k1, k2, k3, k4, k5, k6, k7, k8, k9, k10]
def interned : List (Array UInt16 × Addr) := []
def slotsUsed : Nat := 0
def theMethod : MethodId := ⟨1, 2⟩
def args0 : Array Value := #[.int 5, .int 3, .int 9]
def aboutOver (below : List Frame) : State where
  vm := { classes := classes, interned := interned.toArray }
  heap := heap
  slotsUsed := slotsUsed
  threads := #[{ frames := .invoking theMethod args0 :: below }]
def below0 : List Frame := [.native { method := ⟨0, 0⟩, args := #[] }]
def about1 : State := aboutOver below0
def p0 : Program := .bare "" "" ""
def e0 : Env := launch0.env 0 0 0
theorem w_frames : about1.frames = Frame.invoking theMethod args0 :: below0 := rfl
set_option maxRecDepth 65536 in
theorem w_args : argsFit about1.vm theMethod args0 = true := by decide +kernel
set_option maxRecDepth 65536 in
theorem w_heap : heapFits about1 = true := by decide +kernel
set_option maxRecDepth 65536 in
theorem w_runnable : about1.curStatus? = some .runnable := by decide +kernel
set_option maxRecDepth 65536 in
theorem w_alone : about1.alone = true := by decide +kernel
set_option maxRecDepth 65536 in
theorem w_named : about1.methodNamed? x = some theMethod := by decide +kernel
set_option maxRecDepth 65536 in
theorem w_hears : about1.hears theMethod below0 = true := by decide +kernel
set_option maxRecDepth 65536 in
theorem w_ripe : about1.ripe theMethod args0 below0 = true := by decide +kernel
theorem w_running : about1.status = .running := rfl
set_option maxRecDepth 65536 in
theorem w_room : about1.hasRoom e0.platform room_1 = true :=
  launch0.hasRoom_least _ room_1 (by decide +kernel) (by decide +kernel) (by decide +kernel) (by decide +kernel) (by decide +kernel) (by decide +kernel)
theorem allAtoms_all (ts : List Jvm.Cond) (a : Array Jvm.Value) (st : Jvm.State) : (allAtoms ts).before a st = ts.all (fun c => c.before a st) := by
  induction ts with
  | nil => rfl
  | cons c t ih =>
    show (Jvm.Cond.and c (allAtoms t)).before a st = _
    rw [Jvm.Cond.before_and, ih, List.all_cons]
def words1 : List Jvm.Cond := Jvm.Cond.code x code maxLocals ret :: tables_1
/-- a 'code' word, met by the world's own term for the bytes: nothing is compared byte by byte -/
theorem code_word {y : MethodName} {bytes : ByteArray} {mx : Nat} {rt : Option FieldType} {a : Array Value} {s : State} {m : MethodId} {meth : Method} {c : Code} (h1 : s.methodNamed? y = some m) (h2 : s.vm.method? m = some meth) (h3 : meth.code = some c) (h4 : c.code = bytes)
    (h5 : (c.maxLocals == mx && c.exceptionTable.isEmpty && decide (c.maxStack ≤ mostOperands) && decide (meth.sig.returnType = rt) && !meth.locks && decide (parseMethodDescriptor y.desc = some meth.sig)) = true) : (Jvm.Cond.code y bytes mx rt).before a s = true := by
  simp only [Bool.and_eq_true, beq_iff_eq, Bool.not_eq_true', decide_eq_true_eq] at h5
  obtain ⟨⟨⟨⟨⟨g1, g2⟩, g3⟩, g4⟩, g5⟩, g6⟩ := h5
  simp [Cond.before, Cond.holds, Cond.value, h1, h2, h3, h4, g1, g2, g3, g4, g5, g6]
def isCode : Jvm.Cond → Bool
  | .code _ _ _ _ => true
  | _ => false
theorem all_split {L : List Jvm.Cond} {P : Jvm.Cond → Bool} (h1 : L.all (fun c => isCode c || P c) = true) (h2 : ∀ c ∈ L.filter isCode, P c = true) : L.all P = true := by
  refine List.all_eq_true.mpr fun c hc => ?_
  have h := List.all_eq_true.mp h1 c hc
  rcases Bool.eq_false_or_eq_true (isCode c) with hi | hi
  · exact h2 c (List.mem_filter.mpr ⟨hc, hi⟩)
  · simpa [hi] using h
set_option maxRecDepth 65536 in
theorem w_c0 : (Jvm.Cond.code x code maxLocals ret).before args0 about1 = true := code_word (m := ⟨1, 2⟩) (meth := k1m2) (c := k1c2) (by decide +kernel) rfl rfl rfl (by decide +kernel)
set_option maxRecDepth 65536 in
theorem w_c1 : (Jvm.Cond.code ({ cls := "com/example/tavernlex/tavernlex/cli/Handover", name := "<init>", desc := "(I)V" } : Jvm.MethodName) prog_90_method_1_code (2 : Nat) (Option.none : Option Jvm.ClassFile.FieldType)).before args0 about1 = true := code_word (m := ⟨3, 0⟩) (meth := k3m0) (c := k3c0) (by decide +kernel) rfl rfl rfl (by decide +kernel)
set_option maxRecDepth 65536 in
theorem w_c2 : (Jvm.Cond.code ({ cls := "java/lang/Record", name := "<init>", desc := "()V" } : Jvm.MethodName) jdk_30_method_1_code (1 : Nat) (Option.none : Option Jvm.ClassFile.FieldType)).before args0 about1 = true := code_word (m := ⟨2, 0⟩) (meth := k2m0) (c := k2c0) (by decide +kernel) rfl rfl rfl (by decide +kernel)
set_option maxRecDepth 65536 in
theorem w_c3 : (Jvm.Cond.code ({ cls := "java/lang/Object", name := "<init>", desc := "()V" } : Jvm.MethodName) object_method_1_code (1 : Nat) (Option.none : Option Jvm.ClassFile.FieldType)).before args0 about1 = true := code_word (m := ⟨0, 0⟩) (meth := k0m0) (c := k0c0) (by decide +kernel) rfl rfl rfl (by decide +kernel)
set_option maxRecDepth 65536 in
theorem w_c4 : (Jvm.Cond.code ({ cls := "com/example/tavernlex/tavernlex/cli/Handover", name := "below", desc := "()I" } : Jvm.MethodName) prog_90_method_9_code (1 : Nat) (Option.some Jvm.ClassFile.FieldType.int)).before args0 about1 = true := code_word (m := ⟨3, 2⟩) (meth := k3m2) (c := k3c2) (by decide +kernel) rfl rfl rfl (by decide +kernel)
set_option maxRecDepth 65536 in
theorem w_c5 : (Jvm.Cond.code ({ cls := "com/example/tavernlex/tavernlex/cli/Handover", name := "covers", desc := "(I)Z" } : Jvm.MethodName) prog_90_method_3_code (2 : Nat) (Option.some Jvm.ClassFile.FieldType.boolean)).before args0 about1 = true := code_word (m := ⟨3, 1⟩) (meth := k3m1) (c := k3c1) (by decide +kernel) rfl rfl rfl (by decide +kernel)
set_option maxRecDepth 65536 in
theorem w_c6 : (Jvm.Cond.code ({ cls := "com/example/tavernlex/tavernlex/cli/HandoverCoversPinLaw", name := "downward", desc := "(Lcom/example/tavernlex/tavernlex/cli/Handover;II)Z" } : Jvm.MethodName) method_2_code (5 : Nat) (Option.some Jvm.ClassFile.FieldType.boolean)).before args0 about1 = true := code_word (m := ⟨1, 1⟩) (meth := k1m1) (c := k1c1) (by decide +kernel) rfl rfl rfl (by decide +kernel)
set_option maxRecDepth 65536 in
theorem w_c7 : (Jvm.Cond.code ({ cls := "java/lang/Math", name := "min", desc := "(II)I" } : Jvm.MethodName) jdk_29_method_69_code (2 : Nat) (Option.some Jvm.ClassFile.FieldType.int)).before args0 about1 = true := code_word (m := ⟨4, 2⟩) (meth := k4m2) (c := k4c2) (by decide +kernel) rfl rfl rfl (by decide +kernel)
set_option maxRecDepth 65536 in
theorem w_c8 : (Jvm.Cond.code ({ cls := "java/lang/Math", name := "max", desc := "(II)I" } : Jvm.MethodName) jdk_29_method_65_code (2 : Nat) (Option.some Jvm.ClassFile.FieldType.int)).before args0 about1 = true := code_word (m := ⟨4, 1⟩) (meth := k4m1) (c := k4c1) (by decide +kernel) rfl rfl rfl (by decide +kernel)
def codes1 : List Jvm.Cond := [Jvm.Cond.code x code maxLocals ret, Jvm.Cond.code ({ cls := "com/example/tavernlex/tavernlex/cli/Handover", name := "<init>", desc := "(I)V" } : Jvm.MethodName) prog_90_method_1_code (2 : Nat) (Option.none : Option Jvm.ClassFile.FieldType), Jvm.Cond.code ({ cls := "java/lang/Record", name := "<init>", desc := "()V" } : Jvm.MethodName) jdk_30_method_1_code (1 : Nat) (Option.none : Option Jvm.ClassFile.FieldType), Jvm.Cond.code ({ cls := "java/lang/Object", name := "<init>", desc := "()V" } : Jvm.MethodName) object_method_1_code (1 : Nat) (Option.none : Option Jvm.ClassFile.FieldType), Jvm.Cond.code ({ cls := "com/example/tavernlex/tavernlex/cli/Handover", name := "below", desc := "()I" } : Jvm.MethodName) prog_90_method_9_code (1 : Nat) (Option.some Jvm.ClassFile.FieldType.int), Jvm.Cond.code ({ cls := "com/example/tavernlex/tavernlex/cli/Handover", name := "covers", desc := "(I)Z" } : Jvm.MethodName) prog_90_method_3_code (2 : Nat) (Option.some Jvm.ClassFile.FieldType.boolean), Jvm.Cond.code ({ cls := "com/example/tavernlex/tavernlex/cli/HandoverCoversPinLaw", name := "downward", desc := "(Lcom/example/tavernlex/tavernlex/cli/Handover;II)Z" } : Jvm.MethodName) method_2_code (5 : Nat) (Option.some Jvm.ClassFile.FieldType.boolean), Jvm.Cond.code ({ cls := "java/lang/Math", name := "min", desc := "(II)I" } : Jvm.MethodName) jdk_29_method_69_code (2 : Nat) (Option.some Jvm.ClassFile.FieldType.int), Jvm.Cond.code ({ cls := "java/lang/Math", name := "max", desc := "(II)I" } : Jvm.MethodName) jdk_29_method_65_code (2 : Nat) (Option.some Jvm.ClassFile.FieldType.int)]
set_option maxRecDepth 65536 in
theorem codes_eq : words1.filter isCode = codes1 := rfl
theorem w_codes : ∀ c ∈ words1.filter isCode, c.before args0 about1 = true := by
  rw [codes_eq]
  intro c hc
  simp only [codes1, List.mem_cons, List.not_mem_nil, or_false] at hc
  rcases hc with rfl | rfl | rfl | rfl | rfl | rfl | rfl | rfl | rfl
  · exact w_c0
  · exact w_c1
  · exact w_c2
  · exact w_c3
  · exact w_c4
  · exact w_c5
  · exact w_c6
  · exact w_c7
  · exact w_c8
set_option maxRecDepth 65536 in
theorem w_t1 : (words1.take 24).all (fun c => isCode c || c.before args0 about1) = true := by decide +kernel
set_option maxRecDepth 65536 in
theorem w_t2 : (words1.drop 24).all (fun c => isCode c || c.before args0 about1) = true := by decide +kernel
theorem w_tables : (allAtoms (Jvm.Cond.code x code maxLocals ret :: tables_1)).before args0 about1 = true := by
  rw [allAtoms_all]
  show words1.all (fun c => c.before args0 about1) = true
  refine all_split ?_ w_codes
  rw [← List.take_append_drop 24 words1, List.all_append, w_t1, w_t2]
  rfl
set_option maxRecDepth 65536 in
theorem w_case : (Jvm.Cond.and given_1 narrow_1).before args0 about1 = true := by decide +kernel
theorem w_applies : (headSpec (Jvm.Cond.code x code maxLocals ret :: tables_1) room_1).applies x e0.platform about1 = true :=
  (Spec.applies_iff w_frames).mpr ⟨w_running, w_runnable, w_alone, w_named, w_hears, w_ripe, w_room, w_tables⟩
theorem atStart : AtStart classFile x code maxLocals ret World_1 tables_1 room_1 Calls_1 rest_1 Pre_1 launch0 p0 e0 about1 theMethod args0 below0 :=
  ⟨lists_1, trivial, launch0.admits_env _ _ _, launch0.least_env, fairChoices_fair.cas, fairChoices_fair.clock, w_frames, w_args, w_heap, w_applies, trivial, trivial, w_case⟩
end start1
theorem witness_1 : WitnessClaimed_1 := ⟨start1.p0, start1.e0, start1.about1, start1.theMethod, start1.args0, start1.below0, start1.atStart⟩
end Jvm.Pilot.@@N@@
