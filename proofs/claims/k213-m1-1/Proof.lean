import JvmDerived
import JvmDerived.Pilot.@@N@@Statement
import JvmDerived.Pilot.@@N@@Code
set_option linter.unusedVariables false
set_option linter.unusedSimpArgs false
@@BLOCK:NumsL.lean.txt@@
namespace Jvm.RoadKit
open Sem ClassFile Op Lib Jvm.Stand Jvm.Free Jvm.LawKit
section Own
variable {p : Program} {l : Launch} {e : Env} {R : Room} {s : State} {m : MethodId} {args : Array Value} {below : List Frame} {meth : Method} {c : Code} {T : State} {locs : List Loc} {cells slots : Nat} {Z : State} {h h' : Heap} {a b : Addr} {ty : FieldType} {vs : List Value} {cl : Cell} {sl : Nat} {v : Value} {ws : List Addr}
theorem mw {α : Type} {x : α} {L : List α} (i : Nat) (q : L[i]? = some x) : x ∈ L := List.mem_of_getElem? q
/-- from A the body comes to its end, and Q holds there -/
def Goal (p : Program) (e : Env) (below : List Frame) (s : State) (Q : Option Value → Heap → List Loc → Prop) (k n : Nat) (A : State) : Prop :=
  ∃ s₂ o, Steps p.tables e below A s₂ ∧ s₂.status = .running ∧ Ended s₂ below o ∧ ∃ v L, o = .returned v ∧ Q v s₂.heap L ∧ FrameEnd s o s₂ L k n
variable {Q : Option Value → Heap → List Loc → Prop} {k n : Nat} {A B : State}
theorem Goal.to (f : ∀ t, Steps p.tables e below B t → Steps p.tables e below A t) (g : Goal p e below s Q k n B) : Goal p e below s Q k n A := by
  obtain ⟨s₂, o, h1, r⟩ := g
  exact ⟨s₂, o, f _ h1, r⟩
theorem Goal.tr (f : Steps p.tables e below A B) (g : Goal p e below s Q k n B) : Goal p e below s Q k n A := Goal.to (fun t q => f.trans q) g
theorem Goal.retV (X : Stand p l e R s m args below meth c T locs cells slots) (hx : p.tables.exec = Jvm.exec) {pc : Nat} {Ls : Array Slot} {w : Value} {t : FieldType} {i : Instr} {rest : List Value} (hret : meth.sig.returnType = some t) (hn : narrow t w = w)
    (hi : (i = .ireturn ∧ (t = .int ∨ t = .boolean ∨ t = .byte ∨ t = .char ∨ t = .short) ∧ ∃ z, w = .int z) ∨ (i = .lreturn ∧ t = .long ∧ ∃ z, w = .long z) ∨ (i = .dreturn ∧ t = .double ∧ ∃ z, w = .double z) ∨ (i = .freturn ∧ t = .float ∧ ∃ z, w = .float z) ∨ (i = .areturn ∧ t.isReference = true ∧ w.isRef = true))
    (hd : decode c.code pc = .ok (i, 1)) (hlk : meth.locks = false) (eT : T.heap = h) (hq : Q (some w) h locs) (hc : cells ≤ k) (hs : slots ≤ n) : Goal p e below s Q k n (T.setTop (mkF m pc Ls (w :: rest))) := by
  obtain ⟨fs, hr, hrun, hended, hW, hsame⟩ := X.leave (v := some w) (fun h => by rw [hret] at h; cases h) hlk
  refine ⟨_, _, retOut X hx hret hn hi hd hr, hrun, hended, _, _, rfl, ?_, ⟨_, rfl⟩, hW, hsame.mono hc hs⟩
  show Q (some w) T.heap locs
  rw [eT]; exact hq
theorem Goal.retN (X : Stand p l e R s m args below meth c T locs cells slots) (hx : p.tables.exec = Jvm.exec) {pc : Nat} {Ls : Array Slot} (hret : meth.sig.returnType = none)
    (hd : decode c.code pc = .ok (.return_, 1)) (hlk : meth.locks = false) (eT : T.heap = h) (hq : Q none h locs) (hc : cells ≤ k) (hs : slots ≤ n) : Goal p e below s Q k n (T.setTop (mkF m pc Ls [])) := by
  obtain ⟨fs, hr, hrun, hended, hW, hsame⟩ := X.leave (v := none) (fun _ => rfl) hlk
  refine ⟨_, _, X.returnOut hx hret hd hr, hrun, hended, _, _, rfl, ?_, ⟨_, rfl⟩, hW, hsame.mono hc hs⟩
  show Q none T.heap locs
  rw [eT]; exact hq
/-- the same, with the wide end: texts may have been interned -/
def GoalW (p : Program) (e : Env) (below : List Frame) (s : State) (Q : Option Value → Heap → List Loc → Prop) (k n : Nat) (A : State) : Prop :=
  ∃ s₂ o, Steps p.tables e below A s₂ ∧ s₂.status = .running ∧ Ended s₂ below o ∧ ∃ v L, o = .returned v ∧ Q v s₂.heap L ∧ ReturnedEndW s o s₂ L k n
theorem GoalW.to (f : ∀ t, Steps p.tables e below B t → Steps p.tables e below A t) (g : GoalW p e below s Q k n B) : GoalW p e below s Q k n A := by
  obtain ⟨s₂, o, h1, r⟩ := g
  exact ⟨s₂, o, f _ h1, r⟩
theorem GoalW.tr (f : Steps p.tables e below A B) (g : GoalW p e below s Q k n B) : GoalW p e below s Q k n A := GoalW.to (fun t q => f.trans q) g
theorem GoalW.retV {vm0 : Vm} (X : Stand p l e R (s.setVm vm0) m args below meth c T locs cells slots) {k0 : Nat} (hS : s.Since vm0 k0) (hx : p.tables.exec = Jvm.exec) {pc : Nat} {Ls : Array Slot} {w : Value} {t : FieldType} {i : Instr} {rest : List Value} (hret : meth.sig.returnType = some t) (hn : narrow t w = w)
    (hi : (i = .ireturn ∧ (t = .int ∨ t = .boolean ∨ t = .byte ∨ t = .char ∨ t = .short) ∧ ∃ z, w = .int z) ∨ (i = .lreturn ∧ t = .long ∧ ∃ z, w = .long z) ∨ (i = .dreturn ∧ t = .double ∧ ∃ z, w = .double z) ∨ (i = .freturn ∧ t = .float ∧ ∃ z, w = .float z) ∨ (i = .areturn ∧ t.isReference = true ∧ w.isRef = true))
    (hd : decode c.code pc = .ok (i, 1)) (hlk : meth.locks = false) (eT : T.heap = h) (hk : k0 ≤ h.size) (hq : Q (some w) h locs) (hc : cells ≤ k) (hs : slots ≤ n) : GoalW p e below s Q k n (T.setTop (mkF m pc Ls (w :: rest))) := by
  obtain ⟨fs, hr, hrun, hended, e1, e2, e3, e4⟩ := X.leaveW hS (by rw [eT]; exact hk) (v := some w) (fun h => by rw [hret] at h; cases h) hlk
  refine ⟨_, _, retOut X hx hret hn hi hd hr, hrun, hended, _, _, rfl, ?_, e1, e2, e3, e4.mono hc hs⟩
  show Q (some w) T.heap locs
  rw [eT]; exact hq
theorem nar01 {z : Int32} (q : z = 0 ∨ z = 1) : narrow .boolean (.int z) = .int z := by rcases q with rfl | rfl <;> rfl
theorem catV {r : Value} (q : r.isRef = true) : r.category = 1 := by rcases ref_cases q with rfl | ⟨o, rfl⟩ <;> rfl
theorem catR {o : Addr} : (Value.ref o).category = 1 := rfl
theorem catI {z : Int32} : (Value.int z).category = 1 := rfl
theorem catJ {z : Int64} : (Value.long z).category = 2 := rfl
theorem catN : Value.null.category = 1 := rfl
theorem narV {r : Value} {C : String} (q : r.isRef = true) : narrow (.object C) r = r := by rcases ref_cases q with rfl | ⟨o, rfl⟩ <;> rfl
theorem fitV {r : Value} {C : String} (q : r.isRef = true) : fits (.object C) r = true := by rcases ref_cases q with rfl | ⟨o, rfl⟩ <;> rfl
theorem selP {a0 : Array Value} {y : MethodName} {n : Nat} (hZ : Z.Warmed39 s.vm) (hins : (Cond.instantiable y.cls n).before a0 Z = true) (hp : (Cond.privateMethod y).before a0 Z = true) (hi : (Cond.instanceMethod y).before a0 Z = true) (hy : y.cls ≠ "java/lang/invoke/MethodHandle" ∧ y.cls ≠ "java/lang/invoke/VarHandle") : (Cond.selects y.cls y y).before args s = true := by
  obtain ⟨c, k, hc, hk, -, hniab, -, -⟩ := Cond.instantiable_spec (mv (args := args) hZ hins)
  exact selects_self_of_private hc hk (Bool.or_eq_false_iff.mp hniab).1 (Cond.privateMethod_at (mvP (args := args) hZ hp)) (mv hZ hi) hy
theorem Fld.cast {C n d : String} {w : Value} (F : Fld Z h a C n d v) (q : v = w) : Fld Z h a C n d w := q ▸ F
/-- an array of the heap by the whole list of what it holds -/
def Ary (Z : State) (h : Heap) (a : Addr) (ty : FieldType) (vs : List Value) : Prop := ∃ cl : Cell, Arr Z h a cl ty ∧ cl.slots.toList = vs
theorem Ary.cast {ws : List Value} (F : Ary Z h a ty vs) (q : vs = ws) : Ary Z h a ty ws := q ▸ F
theorem Ary.lt (F : Ary Z h a ty vs) : a < h.size := by obtain ⟨cl, A, -⟩ := F; exact A.lt
theorem Ary.ext (F : Ary Z h a ty vs) (E : Ext h h') : Ary Z h' a ty vs := by obtain ⟨cl, A, r⟩ := F; exact ⟨cl, A.ext E, r⟩
theorem Ary.other (F : Ary Z h a ty vs) (W : Wr h h' b sl v) (q : a ≠ b) : Ary Z h' a ty vs := by obtain ⟨cl, A, r⟩ := F; exact ⟨cl, A.other W q, r⟩
theorem Ary.keep (F : Ary Z h a ty vs) (K : Keep h h' ws) (q : a ∉ ws) : Ary Z h' a ty vs := by obtain ⟨cl, A, r⟩ := F; exact ⟨cl, ⟨K.2.1 a cl A.1 q, A.2⟩, r⟩
theorem Ary.new {k : ClassId} {z : Int32} {N : Nat} (A : Arr Z h a (newA k ty z) ty) (hz : z.toNatClampNeg = N) : Ary Z h a ty (List.replicate N (defaultValue ty)) := ⟨_, A, by simp [newA, hz]⟩
theorem Ary.put {j : Nat} {N : Nat} (A : Arr Z h a cl ty) (S : cl.slots.toList = vs) (W : Wr h h' a j v) (q : j = N) : Ary Z h' a ty (vs.set N v) := ⟨_, A.same W, by subst q; simp [Cell.setSlot, S]⟩
theorem sizeA (S : cl.slots.toList = vs) : cl.slots.size = vs.length := by rw [← S]; simp
theorem inA {j : Int32} (S : cl.slots.toList = vs) (q : ¬ j < 0) (r : j.toNatClampNeg < vs.length) : ¬ (j < 0 ∨ cl.slots.size ≤ j.toNatClampNeg) := by rw [sizeA S]; intro u; rcases u with u | u; exact q u; exact absurd r (Nat.not_lt.mpr u)
theorem atA {j : Nat} (S : cl.slots.toList = vs) (q : vs[j]? = some v) : cl.slots[j]? = some v := by rw [← q, ← S]; simp
theorem lenA {z : Int32} (S : cl.slots.toList = vs) (q : vs.length.toInt32 = z) : cl.slots.size.toInt32 = z := by rw [sizeA S]; exact q
/-- a static that stood when the law began, and what it holds -/
def StaN (Z : State) (n0 : Nat) (h : Heap) (C n d : String) (v : Value) : Prop := ∃ (cf i : Nat) (k : Class) (f : Field) (st : Addr) (cell : Cell), Z.fieldFound? C n d = some (cf, k, i, f) ∧ f.isStatic = true ∧ k.init = .initialized ∧ k.statics = some st ∧ h[st]? = some cell ∧ cell.vm.isStatics = true ∧ cell.slots[f.slot]? = some v ∧ st < n0
section StaN
variable {C nm d : String} {n0 : Nat}
theorem StaN.sta (F : StaN Z n0 h C nm d v) : Sta Z h C nm d v := by obtain ⟨cf, i, k, f, st, cell, h1, h2, h3, h4, h5, h6, h7, -⟩ := F; exact ⟨cf, i, k, f, st, cell, h1, h2, h3, h4, h5, h6, h7⟩
theorem Sta.toN (F : Sta Z h C nm d v) : StaN Z h.size h C nm d v := by obtain ⟨cf, i, k, f, st, cell, h1, h2, h3, h4, h5, h6, h7⟩ := F; exact ⟨cf, i, k, f, st, cell, h1, h2, h3, h4, h5, h6, h7, (Array.getElem?_eq_some_iff.mp h5).1⟩
theorem StaN.ext (F : StaN Z n0 h C nm d v) (E : Ext h h') : StaN Z n0 h' C nm d v := by obtain ⟨cf, i, k, f, st, cell, h1, h2, h3, h4, h5, r⟩ := F; exact ⟨cf, i, k, f, st, cell, h1, h2, h3, h4, E.2 _ _ h5, r⟩
theorem StaN.keep (F : StaN Z n0 h C nm d v) (K : Keep h h' ws) (q : ∀ x ∈ ws, n0 ≤ x) : StaN Z n0 h' C nm d v := by
  obtain ⟨cf, i, k, f, st, cell, h1, h2, h3, h4, h5, h6, h7, h8⟩ := F
  exact ⟨cf, i, k, f, st, cell, h1, h2, h3, h4, K.2.1 _ _ h5 (fun z => absurd h8 (Nat.not_lt.mpr (q _ z))), h6, h7, h8⟩
theorem StaN.wr {w : Value} (F : StaN Z n0 h C nm d v) (W : Wr h h' a sl w) : StaN Z n0 h' C nm d v := by
  obtain ⟨cf, i, k, f, st, cell, h1, h2, h3, h4, h5, h6, h7, h8⟩ := F
  obtain ⟨c', e1, -, -, -, e5, -, e7⟩ := wr_at W h5
  have ne : st ≠ a := fun e => by rw [(e7 e).2.2] at h6; cases h6
  exact ⟨cf, i, k, f, st, cell, h1, h2, h3, h4, by rw [← e5 ne]; exact e1, h6, h7, h8⟩
end StaN
/-- what may lie in an array of objects of class C (of arrays of class C) -/
def OvrO (Z : State) (h : Heap) (a : Addr) (C : String) : Prop := ∃ cl : Cell, h[a]? = some cl ∧ Ovr Z cl.cls C
theorem OvrO.ext {C : String} (F : OvrO Z h a C) (E : Ext h h') : OvrO Z h' a C := by obtain ⟨cl, h1, r⟩ := F; exact ⟨cl, E.2 _ _ h1, r⟩
theorem OvrO.wr {C : String} (F : OvrO Z h a C) (W : Wr h h' b sl v) : OvrO Z h' a C := by obtain ⟨cl, h1, r⟩ := F; obtain ⟨c', e1, e2, -⟩ := wr_at W h1; exact ⟨c', e1, by rw [e2]; exact r⟩
theorem OvrO.keep {C : String} (F : OvrO Z h a C) (K : Keep h h' ws) : OvrO Z h' a C := by obtain ⟨cl, h1, r⟩ := F; obtain ⟨c', e1, e2, -⟩ := K.2.2 _ _ h1; exact ⟨c', e1, by rw [e2]; exact r⟩
theorem stoO {C : String} {y : Addr} (A : Arr Z h a cl ty) (O : OvrO Z h a C) (I : Ins Z h y C true) : Sto Z h a (.ref y) := by
  obtain ⟨c', h1, r⟩ := O
  cases A.1.symm.trans h1
  exact Sto.of A r I
def OvrB (Z : State) (h : Heap) (a : Addr) (C : String) : Prop := ∃ (cl : Cell) (t : FieldType), h[a]? = some cl ∧ OvrA Z cl.cls t C
theorem OvrB.ext {C : String} (F : OvrB Z h a C) (E : Ext h h') : OvrB Z h' a C := by obtain ⟨cl, t, h1, r⟩ := F; exact ⟨cl, t, E.2 _ _ h1, r⟩
theorem OvrB.wr {C : String} (F : OvrB Z h a C) (W : Wr h h' b sl v) : OvrB Z h' a C := by obtain ⟨cl, t, h1, r⟩ := F; obtain ⟨c', e1, e2, -⟩ := wr_at W h1; exact ⟨c', t, e1, by rw [e2]; exact r⟩
theorem OvrB.keep {C : String} (F : OvrB Z h a C) (K : Keep h h' ws) : OvrB Z h' a C := by obtain ⟨cl, t, h1, r⟩ := F; obtain ⟨c', e1, e2, -⟩ := K.2.2 _ _ h1; exact ⟨c', t, e1, by rw [e2]; exact r⟩
theorem stoB {C : String} {y : Addr} (A : Arr Z h a cl ty) (O : OvrB Z h a C) (I : Ins Z h y C true) : Sto Z h a (.ref y) := by
  obtain ⟨c', t, h1, r⟩ := O
  cases A.1.symm.trans h1
  exact Sto.ofVA A rfl r I
theorem fits_nil : ∀ w ∈ ([] : List Value), fits ty w = true := fun _ q => nomatch q
theorem fits_cons (q : fits ty v = true) (r : ∀ w ∈ vs, fits ty w = true) : ∀ w ∈ v :: vs, fits ty w = true := fun w z => (List.mem_cons.mp z).elim (fun u => u ▸ q) (r w)
theorem Ary.arv {dv : Value} {z : Int32} (F : Ary Z h a ty vs) (hz : z.toNatClampNeg = vs.length) (h0 : ¬ z < 0) (hf : ∀ w ∈ vs, fits ty w = true) : ∃ k, Arv Z h a k ty z vs dv := by
  obtain ⟨cl, A, S⟩ := F
  have sz : cl.slots.size = vs.length := sizeA S
  refine ⟨_, cl, A, rfl, sz.trans hz.symm, h0, fun i hi => ?_, fun i hi => ?_⟩
  · rw [sz] at hi
    refine atA S ?_
    rw [List.getD_eq_getElem?_getD, List.getElem?_eq_getElem hi]; rfl
  · rw [sz] at hi
    rw [List.getD_eq_getElem?_getD, List.getElem?_eq_getElem hi]
    exact hf _ (List.getElem_mem hi)
theorem Arv.ary {k : ClassId} {z : Int32} {dv : Value} (F : Arv Z h a k ty z vs dv) (hz : z.toNatClampNeg = vs.length) : Ary Z h a ty vs := by
  obtain ⟨cl, A, -, S, -, H, -⟩ := F
  refine ⟨cl, A, List.ext_getElem? fun i => ?_⟩
  by_cases hi : i < cl.slots.size
  · have q := H i hi
    have hv : i < vs.length := by omega
    rw [List.getD_eq_getElem?_getD, List.getElem?_eq_getElem hv] at q
    rw [List.getElem?_eq_getElem hv, Array.getElem?_toList]; exact q
  · rw [List.getElem?_eq_none (by simp; omega), List.getElem?_eq_none (by omega)]
theorem storeV {Ls : Array Slot} {i : Nat} {r : Value} {o : Slot} {l' : Array Slot} (q : r.isRef = true) (ho : o = .unset ∨ ∃ w, o = .val w ∧ w.category = 1) (hold : Ls[i]? = some o := by rfl) (hl : Ls.setIfInBounds i (.val r) = l' := by rfl) : storeLocals Ls i r = some l' := by
  rw [← hl]; exact XS.store1 hold ho (catV q)
end Own
end Jvm.RoadKit
namespace Jvm.Pilot.@@N@@
open Jvm Jvm.ClassFile Sem Op Lib Jvm.Free Jvm.Stand Jvm.LawKit Jvm.RoadKit Bundle Jvm.Pilot.@@N@@.Jvm.D
/-- the number of one of the four identities -/
def own_n (q : Fin 4) : Int32 := Int32.ofNat q.val
theorem own_ix : ∀ q : Fin 4, ¬ own_n q < 0 ∧ (own_n q).toNatClampNeg = q.val := by decide
theorem own_ix16 : ∀ q : Fin 4, ¬ ((16 : Int32) + own_n q) < 0 ∧ ((16 : Int32) + own_n q).toNatClampNeg = 16 + q.val := by decide
theorem own_ix32 : ∀ q : Fin 4, ¬ ((32 : Int32) + own_n q) < 0 ∧ ((32 : Int32) + own_n q).toNatClampNeg = 32 + q.val := by decide
theorem own_ixr : ∀ q : Fin 4, ¬ ((((2 : Int32) + own_n q) * (1 : Int32)) + (0 : Int32)) < 0 ∧ ((((2 : Int32) + own_n q) * (1 : Int32)) + (0 : Int32)).toNatClampNeg = 2 + q.val := by decide
theorem own_ixc : ∀ q : Fin 4, ¬ ((0 : Int32) + (((own_n q).toUInt32 >>> ((6 : Int32) &&& 31).toUInt32).toInt32)) < 0 ∧ ((0 : Int32) + (((own_n q).toUInt32 >>> ((6 : Int32) &&& 31).toUInt32).toInt32)).toNatClampNeg = 0 := by decide
theorem own_inj : ∀ q r : Fin 4, own_n q = own_n r → q = r := by decide
theorem own_zero : ∀ q : Fin 4, own_n q = (0 : Int32) → q = 0 := by decide
theorem own_lt : ∀ q : Fin 4, q.val < 4 := by decide
theorem own_and (x : Int32) : ∃ q : Fin 4, (x &&& (3 : Int32)) = own_n q := by
  have m := Jvm.Kit.i32_mask x 3 (k := 2) (by decide) (by decide)
  have s : (x &&& 3).toInt = 0 ∨ (x &&& 3).toInt = 1 ∨ (x &&& 3).toInt = 2 ∨ (x &&& 3).toInt = 3 := by omega
  rcases s with s | s | s | s
  · exact ⟨0, Int32.toInt_inj.mp s⟩
  · exact ⟨1, Int32.toInt_inj.mp s⟩
  · exact ⟨2, Int32.toInt_inj.mp s⟩
  · exact ⟨3, Int32.toInt_inj.mp s⟩
theorem own_f4 {P : Fin 4 → Prop} (h0 : P 0) (h1 : P 1) (h2 : P 2) (h3 : P 3) : ∀ q, P q
  | 0 => h0
  | 1 => h1
  | 2 => h2
  | 3 => h3
def own_u (p : Fin 4 → Fin 4) (q v : Fin 4) : Fin 4 → Fin 4 := fun j => if j = q then v else p j
def own_P (p : Fin 4 → Fin 4) : List Value := [.int (own_n (p 0)), .int (own_n (p 1)), .int (own_n (p 2)), .int (own_n (p 3))]
def own_T (h : Int32) : List Value := List.replicate 12 (.int (0 : Int32)) ++ [.int (-1 : Int32), .int (-2 : Int32), .int (-2 : Int32), .int (-2 : Int32)] ++ List.replicate 12 (.int (0 : Int32)) ++ [.int (-1 : Int32), .int (-1 : Int32), .int (-1 : Int32), .int (-1 : Int32)] ++ List.replicate 28 (.int (0 : Int32)) ++ [.int h] ++ List.replicate 16 (.int (0 : Int32))
def own_I (p : Fin 4 → Fin 4) (h : Int32) : List Value := own_P p ++ own_T h
def own_R (a b : Int64) : List Value := [.long a, .long b] ++ List.replicate 16 (.long (0 : Int64))
theorem own_lenI (p : Fin 4 → Fin 4) (h : Int32) : (own_I p h).length = 81 := rfl
theorem own_lenR (a b : Int64) : (own_R a b).length = 18 := rfl
theorem own_getP (p : Fin 4 → Fin 4) : ∀ q : Fin 4, (own_P p)[q.val]? = some (.int (own_n (p q))) := own_f4 rfl rfl rfl rfl
theorem own_getI (p : Fin 4 → Fin 4) (h : Int32) : ∀ q : Fin 4, (own_I p h)[q.val]? = some (.int (own_n (p q))) := own_f4 rfl rfl rfl rfl
theorem own_setI (p : Fin 4 → Fin 4) (h : Int32) (v : Fin 4) : ∀ q : Fin 4, (own_I p h).set q.val (.int (own_n v)) = own_I (own_u p q v) h := own_f4 rfl rfl rfl rfl
theorem own_numI (p : Fin 4 → Fin 4) (h : Int32) : ∀ q : Fin 4, (own_I p h)[16 + q.val]? = some (.int (if q = 0 then (-1 : Int32) else (-2 : Int32))) := own_f4 rfl rfl rfl rfl
theorem own_colI (p : Fin 4 → Fin 4) (h : Int32) : ∀ q : Fin 4, (own_I p h)[32 + q.val]? = some (.int (-1 : Int32)) := own_f4 rfl rfl rfl rfl
theorem own_rowR (a b : Int64) : ∀ q : Fin 4, (own_R a b)[2 + q.val]? = some (.long (0 : Int64)) := own_f4 rfl rfl rfl rfl
theorem own_setR (a b : Int64) : ∀ q : Fin 4, (own_R a b).set (2 + q.val) (.long (0 : Int64)) = own_R a b := own_f4 rfl rfl rfl rfl
def own_m (p : Fin 4 → Fin 4) (a b : Fin 4) : Fin 4 → Fin 4 := if b = 0 then own_u p a b else own_u p b a
def own_rl (r : Fin 4 → Fin 4) (ch ro : Fin 4) : Fin 4 → Fin 4 := fun k => if own_n (r k) = own_n ch then ro else r k
/-- a forest of the four whose roots r names, 0 among them -/
def own_Inv (p r : Fin 4 → Fin 4) : Prop := p 0 = 0 ∧ (∀ k, p (p (p (p k))) = p (p (p k))) ∧ ∀ k, r k = p (p (p k))
def own_f (a b c d : Fin 4) : Fin 4 → Fin 4
  | 0 => a
  | 1 => b
  | 2 => c
  | 3 => d
theorem own_eta (p : Fin 4 → Fin 4) : p = own_f (p 0) (p 1) (p 2) (p 3) := funext (own_f4 rfl rfl rfl rfl)
def own_good (p : Fin 4 → Fin 4) : Bool := decide (p 0 = 0 ∧ ∀ k, p (p (p (p k))) = p (p (p k)))
theorem own_good_iff (p : Fin 4 → Fin 4) : own_good p = true ↔ (p 0 = 0 ∧ ∀ k, p (p (p (p k))) = p (p (p k))) := decide_eq_true_iff
theorem own_stepD : ∀ a b c d : Fin 4, own_good (own_f a b c d) = true → ∀ x y : Fin 4, own_f a b c d x = x → own_f a b c d y = y → x ≠ y →
    own_good (own_m (own_f a b c d) x y) = true ∧ ∀ k, (if own_f a b c d (own_f a b c d (own_f a b c d k)) = (if y = 0 then x else y) then (if y = 0 then y else x) else own_f a b c d (own_f a b c d (own_f a b c d k))) = own_m (own_f a b c d) x y (own_m (own_f a b c d) x y (own_m (own_f a b c d) x y k)) := by decide +kernel
theorem own_step {p r : Fin 4 → Fin 4} (h : own_Inv p r) {i j : Fin 4} (hne : r i ≠ r j) : own_Inv (own_m p (r i) (r j)) (own_rl r (if r j = 0 then r i else r j) (if r j = 0 then r j else r i)) := by
  obtain ⟨h1, h2, h3⟩ := h
  have g : own_good (own_f (p 0) (p 1) (p 2) (p 3)) = true := by rw [← own_eta]; exact (own_good_iff p).mpr ⟨h1, h2⟩
  have q := own_stepD (p 0) (p 1) (p 2) (p 3) g (r i) (r j)
  rw [← own_eta] at q
  obtain ⟨q1, q2⟩ := q (by rw [h3, h2]) (by rw [h3, h2]) hne
  obtain ⟨e1, e2⟩ := (own_good_iff _).mp q1
  refine ⟨e1, e2, fun k => ?_⟩
  rw [← q2 k, ← h3 k]
  unfold own_rl
  by_cases u : r k = (if r j = 0 then r i else r j)
  · rw [if_pos u, if_pos (by rw [u])]
  · rw [if_neg u, if_neg (fun v => u (own_inj _ _ v))]
def own_h (p : Fin 4 → Fin 4) (x : Fin 4) : Fin 4 → Fin 4 := own_u p x (p (p x))
theorem own_findD : ∀ a b c d : Fin 4, own_good (own_f a b c d) = true → ∀ q : Fin 4, ¬ own_f a b c d q = q →
    own_good (own_h (own_f a b c d) q) = true ∧ (∀ k, own_h (own_f a b c d) q (own_h (own_f a b c d) q (own_h (own_f a b c d) q k)) = own_f a b c d (own_f a b c d (own_f a b c d k))) ∧
    (own_h (own_f a b c d) q (own_f a b c d (own_f a b c d q)) ≠ own_f a b c d (own_f a b c d q) → own_h (own_h (own_f a b c d) q) (own_f a b c d (own_f a b c d q)) (own_h (own_f a b c d) q (own_h (own_f a b c d) q (own_f a b c d (own_f a b c d q)))) = own_h (own_f a b c d) q (own_h (own_f a b c d) q (own_f a b c d (own_f a b c d q)))) := by decide +kernel
theorem own_find {p r : Fin 4 → Fin 4} (h : own_Inv p r) {q : Fin 4} (hne : ¬ p q = q) : own_Inv (own_h p q) r ∧ (own_h p q (p (p q)) ≠ p (p q) → own_h (own_h p q) (p (p q)) (own_h p q (own_h p q (p (p q)))) = own_h p q (own_h p q (p (p q)))) := by
  obtain ⟨h1, h2, h3⟩ := h
  have g : own_good (own_f (p 0) (p 1) (p 2) (p 3)) = true := by rw [← own_eta]; exact (own_good_iff p).mpr ⟨h1, h2⟩
  have d := own_findD (p 0) (p 1) (p 2) (p 3) g q
  rw [← own_eta] at d
  obtain ⟨d1, d2, d3⟩ := d hne
  obtain ⟨e1, e2⟩ := (own_good_iff _).mp d1
  exact ⟨⟨e1, e2, fun k => by rw [h3, d2]⟩, d3⟩
theorem own_root {p r : Fin 4 → Fin 4} (h : own_Inv p r) {x : Fin 4} (e : p x = x) : r x = x := by rw [h.2.2, e, e, e]
theorem own_up {p r : Fin 4 → Fin 4} (h : own_Inv p r) (q : Fin 4) : r (p q) = r q := by rw [h.2.2, h.2.2, h.2.1]
theorem own_hat (p : Fin 4 → Fin 4) (x : Fin 4) : own_h p x x = p (p x) := by unfold own_h own_u; rw [if_pos rfl]
theorem own_cap (x : Int32) : (-1 : Int32) < (x &&& (2147483647 : Int32)) := by
  have m := Jvm.Kit.i32_mask x 2147483647 (k := 31) (by decide) (by decide)
  rw [Int32.lt_iff_toInt_lt, m, show (-1 : Int32).toInt = -1 from rfl]; omega
theorem own_id0 : own_Inv (fun k => k) (fun k => k) := ⟨rfl, fun _ => rfl, fun _ => rfl⟩
theorem ef_3 (m : MethodId) (x0 : Int32)  : entryFrame m #[(.int x0)] 1 = mkF m 0 #[.val (.int x0)] [] := by first | (simp [entryFrame, mkF, argsToLocals, Value.category]; done) | rfl
theorem pn_3 : plainName "com/example/deferra/deferra/engine/Identities" = true := by first | (simp [plainName, overriddenIn]; done) | decide +kernel
theorem d3_0 : decode prog_18_method_46_code 0 = .ok (.iconst 5, 1) := by decide +kernel
theorem d3_1 : decode prog_18_method_46_code 1 = .ok (.iload_n 0, 1) := by decide +kernel
theorem d3_2 : decode prog_18_method_46_code 2 = .ok (.imul, 1) := by decide +kernel
theorem d3_3 : decode prog_18_method_46_code 3 = .ok (.iconst 1, 1) := by decide +kernel
theorem d3_4 : decode prog_18_method_46_code 4 = .ok (.iadd, 1) := by decide +kernel
theorem d3_5 : decode prog_18_method_46_code 5 = .ok (.ireturn, 1) := by decide +kernel
def Qif (Z : State)  (h0 : Heap) (n0 : Nat) (v : Option Value) (h : Heap) (L : List Loc) : Prop := v = some (.int (81 : Int32)) ∧ Fr n0 L ∧ h = h0
set_option maxRecDepth 65536 in
set_option maxHeartbeats 40000000 in
theorem rmif (l : Launch) (Z : State) (a0 : Array Value) (hw : ∀ d ∈ tables_1, d.before a0 Z = true) (ws : List Jvm.Cond)  (h0 : Heap) (n0 : Nat) (Z0 : n0 ≤ h0.size) :
    MetFree l (⟨"com/example/deferra/deferra/engine/Identities", "intsFor", "(I)I"⟩ : MethodName) (head1 (Jvm.Cond.code (⟨"com/example/deferra/deferra/engine/Identities", "intsFor", "(I)I"⟩ : MethodName) prog_18_method_46_code 1 (some .int) :: ws) ({ frames := 0, cells := 0, slots := 0, locals := 0 } : Room)) (fun a U => a = #[(.int (16 : Int32))] ∧ Z.Warmed39 U.vm ∧ U.heap = h0) (fun _ _ _ _ _ => True) (fun _ U o U' => ∃ v L, o = .returned v ∧ Qif Z  h0 n0 v U'.heap L ∧ FrameEnd U o U' L 0 0) := by
  refine MetFree.of_bodySF (plainFor_of_name pn_3) hisR ?_
  intro p e s m args below meth c s₁ Bd hml0 hP hK
  obtain ⟨rfl, hZ, hh⟩ := hP
  have hx := Bd.exec
  have hby := Bd.bytes
  have hml : c.maxLocals = 1 := hml0
  have hown : s.vm.findClass "com/example/deferra/deferra/engine/Identities" = some m.cls := findClass_of_methodNamed Bd.named
  have hnm := (name_of_methodNamed Bd.named Bd.method).1
  have X0 : Stand p l e ({ frames := 0, cells := 0, slots := 0, locals := 0 } : Room) s m #[(.int (16 : Int32))] below meth c s₁ [] 0 0 := Stand.of_body Bd
  have e0 : s₁.heap = h0 := by rw [← hh, Bd.state]; rfl
  have N0 := Fr.nil n0
  have hlk : meth.locks = false := BodyLoose.notSynchronized Bd
  show Goal p e below s (Qif Z  h0 n0) 0 0 (s₁.setTop (entryFrame m #[(.int (16 : Int32))] 1))
  refine Goal.to (B := s₁.setTop (mkF m 0 #[.val (.int (16 : Int32))] [])) (fun tt kk => castTop (ef_3 m (16 : Int32) ) kk) ?_
  refine Goal.to (B := s₁.setTop (mkF m 5 #[.val (.int (16 : Int32))] [(.int (81 : Int32))])) (fun tt kk => ?_) ?_
  · show Steps p.tables e below (s₁.setTop (mkF m 0 #[.val (.int (16 : Int32))] [])) tt
    refine XS.iconst X0.here hx rfl (hb hby d3_0) ?_
    show Steps p.tables e below (s₁.setTop (mkF m 1 #[.val (.int (16 : Int32))] [(.int (5 : Int32))])) tt
    refine XS.iloadN X0.here hx rfl (hb hby d3_1) rfl ?_
    show Steps p.tables e below (s₁.setTop (mkF m 2 #[.val (.int (16 : Int32))] [(.int (16 : Int32)), (.int (5 : Int32))])) tt
    refine XS.imul X0.here hx rfl (hb hby d3_2) rfl ?_
    show Steps p.tables e below (s₁.setTop (mkF m 3 #[.val (.int (16 : Int32))] [(.int (80 : Int32))])) tt
    refine XS.iconst X0.here hx rfl (hb hby d3_3) ?_
    show Steps p.tables e below (s₁.setTop (mkF m 4 #[.val (.int (16 : Int32))] [(.int (1 : Int32)), (.int (80 : Int32))])) tt
    refine XS.iadd X0.here hx rfl (hb hby d3_4) rfl ?_
    exact kk
  exact Goal.retV X0 hx Bd.returns rfl (Or.inl ⟨rfl, Or.inl rfl, _, rfl⟩) (hb hby d3_5) hlk e0 ⟨rfl, N0, rfl⟩ (by decide) (by decide)
theorem ef_4 (m : MethodId) (x0 : Addr)  : entryFrame m #[(.ref x0)] 1 = mkF m 0 #[.val (.ref x0)] [] := by first | (simp [entryFrame, mkF, argsToLocals, Value.category]; done) | rfl
theorem pn_4 : plainName "com/example/deferra/deferra/engine/Identities" = true := by first | (simp [plainName, overriddenIn]; done) | decide +kernel
theorem d4_0 : decode prog_18_method_47_code 0 = .ok (.aload_n 0, 1) := by decide +kernel
theorem d4_1 : decode prog_18_method_47_code 1 = .ok (.aload_n 0, 1) := by decide +kernel
theorem d4_2 : decode prog_18_method_47_code 2 = .ok (.getfield 13, 3) := by decide +kernel
theorem d4_5 : decode prog_18_method_47_code 5 = .ok (.putfield 41, 3) := by decide +kernel
theorem d4_8 : decode prog_18_method_47_code 8 = .ok (.aload_n 0, 1) := by decide +kernel
theorem d4_9 : decode prog_18_method_47_code 9 = .ok (.iconst 2, 1) := by decide +kernel
theorem d4_10 : decode prog_18_method_47_code 10 = .ok (.aload_n 0, 1) := by decide +kernel
theorem d4_11 : decode prog_18_method_47_code 11 = .ok (.getfield 13, 3) := by decide +kernel
theorem d4_14 : decode prog_18_method_47_code 14 = .ok (.imul, 1) := by decide +kernel
theorem d4_15 : decode prog_18_method_47_code 15 = .ok (.putfield 44, 3) := by decide +kernel
theorem d4_18 : decode prog_18_method_47_code 18 = .ok (.aload_n 0, 1) := by decide +kernel
theorem d4_19 : decode prog_18_method_47_code 19 = .ok (.iconst 3, 1) := by decide +kernel
theorem d4_20 : decode prog_18_method_47_code 20 = .ok (.aload_n 0, 1) := by decide +kernel
theorem d4_21 : decode prog_18_method_47_code 21 = .ok (.getfield 13, 3) := by decide +kernel
theorem d4_24 : decode prog_18_method_47_code 24 = .ok (.imul, 1) := by decide +kernel
theorem d4_25 : decode prog_18_method_47_code 25 = .ok (.putfield 106, 3) := by decide +kernel
theorem d4_28 : decode prog_18_method_47_code 28 = .ok (.aload_n 0, 1) := by decide +kernel
theorem d4_29 : decode prog_18_method_47_code 29 = .ok (.iconst 4, 1) := by decide +kernel
theorem d4_30 : decode prog_18_method_47_code 30 = .ok (.aload_n 0, 1) := by decide +kernel
theorem d4_31 : decode prog_18_method_47_code 31 = .ok (.getfield 13, 3) := by decide +kernel
theorem d4_34 : decode prog_18_method_47_code 34 = .ok (.imul, 1) := by decide +kernel
theorem d4_35 : decode prog_18_method_47_code 35 = .ok (.putfield 93, 3) := by decide +kernel
theorem d4_38 : decode prog_18_method_47_code 38 = .ok (.return_, 1) := by decide +kernel
def Qpi (Z : State) (va : Addr) (uc : Int32) (vi : Addr) (h0 : Heap) (n0 : Nat) (v : Option Value) (h : Heap) (L : List Loc) : Prop := v = none ∧ Fr n0 L ∧ Keep h0 h [va] ∧ Fld Z h va "com/example/deferra/deferra/engine/Identities" "count" "I" (.int (1 : Int32)) ∧ Fld Z h va "com/example/deferra/deferra/engine/Identities" "slots" "I" (.int (16 : Int32)) ∧ Fld Z h va "com/example/deferra/deferra/engine/Identities" "words" "I" (.int (1 : Int32)) ∧ Fld Z h va "com/example/deferra/deferra/engine/Identities" "capacity" "I" (.int uc) ∧ Fld Z h va "com/example/deferra/deferra/engine/Identities" "nullAllowed" "Z" (.int (1 : Int32)) ∧ Fld Z h va "com/example/deferra/deferra/engine/Identities" "ints" "[I" (.ref vi) ∧ Fld Z h va "com/example/deferra/deferra/engine/Identities" "numberAt" "I" (.int (16 : Int32)) ∧ Fld Z h va "com/example/deferra/deferra/engine/Identities" "colourAt" "I" (.int (32 : Int32)) ∧ Fld Z h va "com/example/deferra/deferra/engine/Identities" "madeAt" "I" (.int (48 : Int32)) ∧ Fld Z h va "com/example/deferra/deferra/engine/Identities" "holdersAt" "I" (.int (64 : Int32)) ∧ Fld Z h va "com/example/deferra/deferra/engine/Identities" "rows" "[J" .null ∧ Fld Z h va "com/example/deferra/deferra/engine/Identities" "openCount" "I" (.int (0 : Int32))
set_option maxRecDepth 65536 in
set_option maxHeartbeats 40000000 in
theorem rmpi (l : Launch) (Z : State) (a0 : Array Value) (hw : ∀ d ∈ tables_1, d.before a0 Z = true) (ws : List Jvm.Cond) (va : Addr) (uc : Int32) (vi : Addr) (h0 : Heap) (n0 : Nat) (Z0 : n0 ≤ h0.size) (E_va : Exa Z h0 va "com/example/deferra/deferra/engine/Identities") (F_slots_va : Fld Z h0 va "com/example/deferra/deferra/engine/Identities" "slots" "I" (.int (16 : Int32))) (F_numberAt_va : Fld Z h0 va "com/example/deferra/deferra/engine/Identities" "numberAt" "I" (.int (0 : Int32))) (F_colourAt_va : Fld Z h0 va "com/example/deferra/deferra/engine/Identities" "colourAt" "I" (.int (0 : Int32))) (F_madeAt_va : Fld Z h0 va "com/example/deferra/deferra/engine/Identities" "madeAt" "I" (.int (0 : Int32))) (F_holdersAt_va : Fld Z h0 va "com/example/deferra/deferra/engine/Identities" "holdersAt" "I" (.int (0 : Int32))) (F_count_va : Fld Z h0 va "com/example/deferra/deferra/engine/Identities" "count" "I" (.int (1 : Int32))) (F_words_va : Fld Z h0 va "com/example/deferra/deferra/engine/Identities" "words" "I" (.int (1 : Int32))) (F_capacity_va : Fld Z h0 va "com/example/deferra/deferra/engine/Identities" "capacity" "I" (.int uc)) (F_nullAllowed_va : Fld Z h0 va "com/example/deferra/deferra/engine/Identities" "nullAllowed" "Z" (.int (1 : Int32))) (F_ints_va : Fld Z h0 va "com/example/deferra/deferra/engine/Identities" "ints" "[I" (.ref vi)) (F_rows_va : Fld Z h0 va "com/example/deferra/deferra/engine/Identities" "rows" "[J" .null) (F_openCount_va : Fld Z h0 va "com/example/deferra/deferra/engine/Identities" "openCount" "I" (.int (0 : Int32))) (g_va : n0 ≤ va) :
    MetFree l (⟨"com/example/deferra/deferra/engine/Identities", "placeInts", "()V"⟩ : MethodName) (head1 (Jvm.Cond.code (⟨"com/example/deferra/deferra/engine/Identities", "placeInts", "()V"⟩ : MethodName) prog_18_method_47_code 1 none :: ws) ({ frames := 0, cells := 0, slots := 0, locals := 0 } : Room)) (fun a U => a = #[(.ref va)] ∧ Z.Warmed39 U.vm ∧ U.heap = h0) (fun _ _ _ _ _ => True) (fun _ U o U' => ∃ v L, o = .returned v ∧ Qpi Z va uc vi h0 n0 v U'.heap L ∧ FrameEnd U o U' L 0 0) := by
  refine MetFree.of_bodySF (plainFor_of_name pn_4) hisR ?_
  intro p e s m args below meth c s₁ Bd hml0 hP hK
  obtain ⟨rfl, hZ, hh⟩ := hP
  have hx := Bd.exec
  have hby := Bd.bytes
  have hml : c.maxLocals = 1 := hml0
  have hown : s.vm.findClass "com/example/deferra/deferra/engine/Identities" = some m.cls := findClass_of_methodNamed Bd.named
  have hnm := (name_of_methodNamed Bd.named Bd.method).1
  have X0 : Stand p l e ({ frames := 0, cells := 0, slots := 0, locals := 0 } : Room) s m #[(.ref va)] below meth c s₁ [] 0 0 := Stand.of_body Bd
  have e0 : s₁.heap = h0 := by rw [← hh, Bd.state]; rfl
  have N0 := Fr.nil n0
  have hlk : meth.locks = false := BodyLoose.notSynchronized Bd
  show Goal p e below s (Qpi Z va uc vi h0 n0) 0 0 (s₁.setTop (entryFrame m #[(.ref va)] 1))
  refine Goal.to (B := s₁.setTop (mkF m 0 #[.val (.ref va)] [])) (fun tt kk => castTop (ef_4 m va ) kk) ?_
  refine Goal.to (B := s₁.setTop (mkF m 2 #[.val (.ref va)] [(.ref va), (.ref va)])) (fun tt kk => ?_) ?_
  · show Steps p.tables e below (s₁.setTop (mkF m 0 #[.val (.ref va)] [])) tt
    refine XS.aloadN X0.here hx rfl (hb hby d4_0) rfl rfl ?_
    show Steps p.tables e below (s₁.setTop (mkF m 1 #[.val (.ref va)] [(.ref va)])) tt
    refine XS.aloadN X0.here hx rfl (hb hby d4_1) rfl rfl ?_
    exact kk
  obtain ⟨T1, X1, e1, st1⟩ := getF X0 hx hZ hown (host := "") (Or.inl (hw _ (mw 12 rfl))) Via.refl e0 F_slots_va (g := (mkF m 2 #[.val (.ref va)] [(.ref va), (.ref va)])) rfl rfl (hb hby d4_2)
  refine Goal.to (B := T1.setTop (mkF m 5 #[.val (.ref va)] [(.int (16 : Int32)), (.ref va)])) st1 ?_
  obtain ⟨T2, h2, X2, e2, W2, st2⟩ := putF X1 hx hZ hown (host := "") (Or.inl (hw _ (mw 30 rfl))) Via.refl e1 F_numberAt_va E_va (Or.inl (hw _ (mw 31 rfl))) (hw _ (mw 1 rfl)) (ty := .int) (by decide) rfl rfl (g := (mkF m 5 #[.val (.ref va)] [(.int (16 : Int32)), (.ref va)])) rfl rfl (hb hby d4_5)
  have Fw2 : Fld Z h2 va "com/example/deferra/deferra/engine/Identities" "numberAt" "I" (.int (16 : Int32)) := F_numberAt_va.same W2
  have N2 := Fr.snoc X2 N0 g_va
  refine Goal.to (B := T2.setTop (mkF m 8 #[.val (.ref va)] [])) st2 ?_
  refine Goal.to (B := T2.setTop (mkF m 11 #[.val (.ref va)] [(.ref va), (.int (2 : Int32)), (.ref va)])) (fun tt kk => ?_) ?_
  · show Steps p.tables e below (T2.setTop (mkF m 8 #[.val (.ref va)] [])) tt
    refine XS.aloadN X2.here hx rfl (hb hby d4_8) rfl rfl ?_
    show Steps p.tables e below (T2.setTop (mkF m 9 #[.val (.ref va)] [(.ref va)])) tt
    refine XS.iconst X2.here hx rfl (hb hby d4_9) ?_
    show Steps p.tables e below (T2.setTop (mkF m 10 #[.val (.ref va)] [(.int (2 : Int32)), (.ref va)])) tt
    refine XS.aloadN X2.here hx rfl (hb hby d4_10) rfl rfl ?_
    exact kk
  have f3 : Fld Z h2 va "com/example/deferra/deferra/engine/Identities" "slots" "I" (.int (16 : Int32)) := (F_slots_va.other W2 (Or.inr (slot_ne (Or.inl (hw _ (mw 13 rfl))) (Or.inl (hw _ (mw 31 rfl))) (by decide) (t := .int) (t' := .int) (by decide) (by decide))))
  obtain ⟨T4, X4, e4, st4⟩ := getF X2 hx hZ hown (host := "") (Or.inl (hw _ (mw 12 rfl))) Via.refl e2 f3 (g := (mkF m 11 #[.val (.ref va)] [(.ref va), (.int (2 : Int32)), (.ref va)])) rfl rfl (hb hby d4_11)
  refine Goal.to (B := T4.setTop (mkF m 14 #[.val (.ref va)] [(.int (16 : Int32)), (.int (2 : Int32)), (.ref va)])) st4 ?_
  refine Goal.to (B := T4.setTop (mkF m 15 #[.val (.ref va)] [(.int (32 : Int32)), (.ref va)])) (fun tt kk => ?_) ?_
  · show Steps p.tables e below (T4.setTop (mkF m 14 #[.val (.ref va)] [(.int (16 : Int32)), (.int (2 : Int32)), (.ref va)])) tt
    refine XS.imul X4.here hx rfl (hb hby d4_14) rfl ?_
    exact kk
  have f5 : Fld Z h2 va "com/example/deferra/deferra/engine/Identities" "colourAt" "I" (.int (0 : Int32)) := (F_colourAt_va.other W2 (Or.inr (slot_ne (Or.inl (hw _ (mw 33 rfl))) (Or.inl (hw _ (mw 31 rfl))) (by decide) (t := .int) (t' := .int) (by decide) (by decide))))
  have f6 : Exa Z h2 va "com/example/deferra/deferra/engine/Identities" := (E_va.wr W2)
  obtain ⟨T7, h7, X7, e7, W7, st7⟩ := putF X4 hx hZ hown (host := "") (Or.inl (hw _ (mw 32 rfl))) Via.refl e4 f5 f6 (Or.inl (hw _ (mw 33 rfl))) (hw _ (mw 1 rfl)) (ty := .int) (by decide) rfl rfl (g := (mkF m 15 #[.val (.ref va)] [(.int (32 : Int32)), (.ref va)])) rfl rfl (hb hby d4_15)
  have Fw7 : Fld Z h7 va "com/example/deferra/deferra/engine/Identities" "colourAt" "I" (.int (32 : Int32)) := f5.same W7
  have N7 := Fr.snoc X7 N2 g_va
  refine Goal.to (B := T7.setTop (mkF m 18 #[.val (.ref va)] [])) st7 ?_
  refine Goal.to (B := T7.setTop (mkF m 21 #[.val (.ref va)] [(.ref va), (.int (3 : Int32)), (.ref va)])) (fun tt kk => ?_) ?_
  · show Steps p.tables e below (T7.setTop (mkF m 18 #[.val (.ref va)] [])) tt
    refine XS.aloadN X7.here hx rfl (hb hby d4_18) rfl rfl ?_
    show Steps p.tables e below (T7.setTop (mkF m 19 #[.val (.ref va)] [(.ref va)])) tt
    refine XS.iconst X7.here hx rfl (hb hby d4_19) ?_
    show Steps p.tables e below (T7.setTop (mkF m 20 #[.val (.ref va)] [(.int (3 : Int32)), (.ref va)])) tt
    refine XS.aloadN X7.here hx rfl (hb hby d4_20) rfl rfl ?_
    exact kk
  have f8 : Fld Z h7 va "com/example/deferra/deferra/engine/Identities" "slots" "I" (.int (16 : Int32)) := (f3.other W7 (Or.inr (slot_ne (Or.inl (hw _ (mw 13 rfl))) (Or.inl (hw _ (mw 33 rfl))) (by decide) (t := .int) (t' := .int) (by decide) (by decide))))
  obtain ⟨T9, X9, e9, st9⟩ := getF X7 hx hZ hown (host := "") (Or.inl (hw _ (mw 12 rfl))) Via.refl e7 f8 (g := (mkF m 21 #[.val (.ref va)] [(.ref va), (.int (3 : Int32)), (.ref va)])) rfl rfl (hb hby d4_21)
  refine Goal.to (B := T9.setTop (mkF m 24 #[.val (.ref va)] [(.int (16 : Int32)), (.int (3 : Int32)), (.ref va)])) st9 ?_
  refine Goal.to (B := T9.setTop (mkF m 25 #[.val (.ref va)] [(.int (48 : Int32)), (.ref va)])) (fun tt kk => ?_) ?_
  · show Steps p.tables e below (T9.setTop (mkF m 24 #[.val (.ref va)] [(.int (16 : Int32)), (.int (3 : Int32)), (.ref va)])) tt
    refine XS.imul X9.here hx rfl (hb hby d4_24) rfl ?_
    exact kk
  have f10 : Fld Z h7 va "com/example/deferra/deferra/engine/Identities" "madeAt" "I" (.int (0 : Int32)) := ((F_madeAt_va.other W2 (Or.inr (slot_ne (Or.inl (hw _ (mw 35 rfl))) (Or.inl (hw _ (mw 31 rfl))) (by decide) (t := .int) (t' := .int) (by decide) (by decide)))).other W7 (Or.inr (slot_ne (Or.inl (hw _ (mw 35 rfl))) (Or.inl (hw _ (mw 33 rfl))) (by decide) (t := .int) (t' := .int) (by decide) (by decide))))
  have f11 : Exa Z h7 va "com/example/deferra/deferra/engine/Identities" := (f6.wr W7)
  obtain ⟨T12, h12, X12, e12, W12, st12⟩ := putF X9 hx hZ hown (host := "") (Or.inl (hw _ (mw 34 rfl))) Via.refl e9 f10 f11 (Or.inl (hw _ (mw 35 rfl))) (hw _ (mw 1 rfl)) (ty := .int) (by decide) rfl rfl (g := (mkF m 25 #[.val (.ref va)] [(.int (48 : Int32)), (.ref va)])) rfl rfl (hb hby d4_25)
  have Fw12 : Fld Z h12 va "com/example/deferra/deferra/engine/Identities" "madeAt" "I" (.int (48 : Int32)) := f10.same W12
  have N12 := Fr.snoc X12 N7 g_va
  refine Goal.to (B := T12.setTop (mkF m 28 #[.val (.ref va)] [])) st12 ?_
  refine Goal.to (B := T12.setTop (mkF m 31 #[.val (.ref va)] [(.ref va), (.int (4 : Int32)), (.ref va)])) (fun tt kk => ?_) ?_
  · show Steps p.tables e below (T12.setTop (mkF m 28 #[.val (.ref va)] [])) tt
    refine XS.aloadN X12.here hx rfl (hb hby d4_28) rfl rfl ?_
    show Steps p.tables e below (T12.setTop (mkF m 29 #[.val (.ref va)] [(.ref va)])) tt
    refine XS.iconst X12.here hx rfl (hb hby d4_29) ?_
    show Steps p.tables e below (T12.setTop (mkF m 30 #[.val (.ref va)] [(.int (4 : Int32)), (.ref va)])) tt
    refine XS.aloadN X12.here hx rfl (hb hby d4_30) rfl rfl ?_
    exact kk
  have f13 : Fld Z h12 va "com/example/deferra/deferra/engine/Identities" "slots" "I" (.int (16 : Int32)) := (f8.other W12 (Or.inr (slot_ne (Or.inl (hw _ (mw 13 rfl))) (Or.inl (hw _ (mw 35 rfl))) (by decide) (t := .int) (t' := .int) (by decide) (by decide))))
  obtain ⟨T14, X14, e14, st14⟩ := getF X12 hx hZ hown (host := "") (Or.inl (hw _ (mw 12 rfl))) Via.refl e12 f13 (g := (mkF m 31 #[.val (.ref va)] [(.ref va), (.int (4 : Int32)), (.ref va)])) rfl rfl (hb hby d4_31)
  refine Goal.to (B := T14.setTop (mkF m 34 #[.val (.ref va)] [(.int (16 : Int32)), (.int (4 : Int32)), (.ref va)])) st14 ?_
  refine Goal.to (B := T14.setTop (mkF m 35 #[.val (.ref va)] [(.int (64 : Int32)), (.ref va)])) (fun tt kk => ?_) ?_
  · show Steps p.tables e below (T14.setTop (mkF m 34 #[.val (.ref va)] [(.int (16 : Int32)), (.int (4 : Int32)), (.ref va)])) tt
    refine XS.imul X14.here hx rfl (hb hby d4_34) rfl ?_
    exact kk
  have f15 : Fld Z h12 va "com/example/deferra/deferra/engine/Identities" "holdersAt" "I" (.int (0 : Int32)) := (((F_holdersAt_va.other W2 (Or.inr (slot_ne (Or.inl (hw _ (mw 37 rfl))) (Or.inl (hw _ (mw 31 rfl))) (by decide) (t := .int) (t' := .int) (by decide) (by decide)))).other W7 (Or.inr (slot_ne (Or.inl (hw _ (mw 37 rfl))) (Or.inl (hw _ (mw 33 rfl))) (by decide) (t := .int) (t' := .int) (by decide) (by decide)))).other W12 (Or.inr (slot_ne (Or.inl (hw _ (mw 37 rfl))) (Or.inl (hw _ (mw 35 rfl))) (by decide) (t := .int) (t' := .int) (by decide) (by decide))))
  have f16 : Exa Z h12 va "com/example/deferra/deferra/engine/Identities" := (f11.wr W12)
  obtain ⟨T17, h17, X17, e17, W17, st17⟩ := putF X14 hx hZ hown (host := "") (Or.inl (hw _ (mw 36 rfl))) Via.refl e14 f15 f16 (Or.inl (hw _ (mw 37 rfl))) (hw _ (mw 1 rfl)) (ty := .int) (by decide) rfl rfl (g := (mkF m 35 #[.val (.ref va)] [(.int (64 : Int32)), (.ref va)])) rfl rfl (hb hby d4_35)
  have Fw17 : Fld Z h17 va "com/example/deferra/deferra/engine/Identities" "holdersAt" "I" (.int (64 : Int32)) := f15.same W17
  have N17 := Fr.snoc X17 N12 g_va
  refine Goal.to (B := T17.setTop (mkF m 38 #[.val (.ref va)] [])) st17 ?_
  have f18 : Keep h0 h17 [va] := (((((Keep.refl h0 [va]).wr W2 (Or.inl (List.mem_of_getElem? (i := 0) rfl))).wr W7 (Or.inl (List.mem_of_getElem? (i := 0) rfl))).wr W12 (Or.inl (List.mem_of_getElem? (i := 0) rfl))).wr W17 (Or.inl (List.mem_of_getElem? (i := 0) rfl)))
  have f19 : Fld Z h17 va "com/example/deferra/deferra/engine/Identities" "count" "I" (.int (1 : Int32)) := ((((F_count_va.other W2 (Or.inr (slot_ne (Or.inl (hw _ (mw 11 rfl))) (Or.inl (hw _ (mw 31 rfl))) (by decide) (t := .int) (t' := .int) (by decide) (by decide)))).other W7 (Or.inr (slot_ne (Or.inl (hw _ (mw 11 rfl))) (Or.inl (hw _ (mw 33 rfl))) (by decide) (t := .int) (t' := .int) (by decide) (by decide)))).other W12 (Or.inr (slot_ne (Or.inl (hw _ (mw 11 rfl))) (Or.inl (hw _ (mw 35 rfl))) (by decide) (t := .int) (t' := .int) (by decide) (by decide)))).other W17 (Or.inr (slot_ne (Or.inl (hw _ (mw 11 rfl))) (Or.inl (hw _ (mw 37 rfl))) (by decide) (t := .int) (t' := .int) (by decide) (by decide))))
  have f20 : Fld Z h17 va "com/example/deferra/deferra/engine/Identities" "slots" "I" (.int (16 : Int32)) := (f13.other W17 (Or.inr (slot_ne (Or.inl (hw _ (mw 13 rfl))) (Or.inl (hw _ (mw 37 rfl))) (by decide) (t := .int) (t' := .int) (by decide) (by decide))))
  have f21 : Fld Z h17 va "com/example/deferra/deferra/engine/Identities" "words" "I" (.int (1 : Int32)) := ((((F_words_va.other W2 (Or.inr (slot_ne (Or.inl (hw _ (mw 15 rfl))) (Or.inl (hw _ (mw 31 rfl))) (by decide) (t := .int) (t' := .int) (by decide) (by decide)))).other W7 (Or.inr (slot_ne (Or.inl (hw _ (mw 15 rfl))) (Or.inl (hw _ (mw 33 rfl))) (by decide) (t := .int) (t' := .int) (by decide) (by decide)))).other W12 (Or.inr (slot_ne (Or.inl (hw _ (mw 15 rfl))) (Or.inl (hw _ (mw 35 rfl))) (by decide) (t := .int) (t' := .int) (by decide) (by decide)))).other W17 (Or.inr (slot_ne (Or.inl (hw _ (mw 15 rfl))) (Or.inl (hw _ (mw 37 rfl))) (by decide) (t := .int) (t' := .int) (by decide) (by decide))))
  have f22 : Fld Z h17 va "com/example/deferra/deferra/engine/Identities" "capacity" "I" (.int uc) := ((((F_capacity_va.other W2 (Or.inr (slot_ne (Or.inr (hw _ (mw 17 rfl))) (Or.inl (hw _ (mw 31 rfl))) (by decide) (t := .int) (t' := .int) (by decide) (by decide)))).other W7 (Or.inr (slot_ne (Or.inr (hw _ (mw 17 rfl))) (Or.inl (hw _ (mw 33 rfl))) (by decide) (t := .int) (t' := .int) (by decide) (by decide)))).other W12 (Or.inr (slot_ne (Or.inr (hw _ (mw 17 rfl))) (Or.inl (hw _ (mw 35 rfl))) (by decide) (t := .int) (t' := .int) (by decide) (by decide)))).other W17 (Or.inr (slot_ne (Or.inr (hw _ (mw 17 rfl))) (Or.inl (hw _ (mw 37 rfl))) (by decide) (t := .int) (t' := .int) (by decide) (by decide))))
  have f23 : Fld Z h17 va "com/example/deferra/deferra/engine/Identities" "nullAllowed" "Z" (.int (1 : Int32)) := ((((F_nullAllowed_va.other W2 (Or.inr (slot_ne (Or.inr (hw _ (mw 19 rfl))) (Or.inl (hw _ (mw 31 rfl))) (by decide) (t := .boolean) (t' := .int) (by decide) (by decide)))).other W7 (Or.inr (slot_ne (Or.inr (hw _ (mw 19 rfl))) (Or.inl (hw _ (mw 33 rfl))) (by decide) (t := .boolean) (t' := .int) (by decide) (by decide)))).other W12 (Or.inr (slot_ne (Or.inr (hw _ (mw 19 rfl))) (Or.inl (hw _ (mw 35 rfl))) (by decide) (t := .boolean) (t' := .int) (by decide) (by decide)))).other W17 (Or.inr (slot_ne (Or.inr (hw _ (mw 19 rfl))) (Or.inl (hw _ (mw 37 rfl))) (by decide) (t := .boolean) (t' := .int) (by decide) (by decide))))
  have f24 : Fld Z h17 va "com/example/deferra/deferra/engine/Identities" "ints" "[I" (.ref vi) := ((((F_ints_va.other W2 (Or.inr (slot_ne (Or.inl (hw _ (mw 25 rfl))) (Or.inl (hw _ (mw 31 rfl))) (by decide) (t := (.array .int)) (t' := .int) (by decide) (by decide)))).other W7 (Or.inr (slot_ne (Or.inl (hw _ (mw 25 rfl))) (Or.inl (hw _ (mw 33 rfl))) (by decide) (t := (.array .int)) (t' := .int) (by decide) (by decide)))).other W12 (Or.inr (slot_ne (Or.inl (hw _ (mw 25 rfl))) (Or.inl (hw _ (mw 35 rfl))) (by decide) (t := (.array .int)) (t' := .int) (by decide) (by decide)))).other W17 (Or.inr (slot_ne (Or.inl (hw _ (mw 25 rfl))) (Or.inl (hw _ (mw 37 rfl))) (by decide) (t := (.array .int)) (t' := .int) (by decide) (by decide))))
  have f25 : Fld Z h17 va "com/example/deferra/deferra/engine/Identities" "numberAt" "I" (.int (16 : Int32)) := (((Fw2.other W7 (Or.inr (slot_ne (Or.inl (hw _ (mw 31 rfl))) (Or.inl (hw _ (mw 33 rfl))) (by decide) (t := .int) (t' := .int) (by decide) (by decide)))).other W12 (Or.inr (slot_ne (Or.inl (hw _ (mw 31 rfl))) (Or.inl (hw _ (mw 35 rfl))) (by decide) (t := .int) (t' := .int) (by decide) (by decide)))).other W17 (Or.inr (slot_ne (Or.inl (hw _ (mw 31 rfl))) (Or.inl (hw _ (mw 37 rfl))) (by decide) (t := .int) (t' := .int) (by decide) (by decide))))
  have f26 : Fld Z h17 va "com/example/deferra/deferra/engine/Identities" "colourAt" "I" (.int (32 : Int32)) := ((Fw7.other W12 (Or.inr (slot_ne (Or.inl (hw _ (mw 33 rfl))) (Or.inl (hw _ (mw 35 rfl))) (by decide) (t := .int) (t' := .int) (by decide) (by decide)))).other W17 (Or.inr (slot_ne (Or.inl (hw _ (mw 33 rfl))) (Or.inl (hw _ (mw 37 rfl))) (by decide) (t := .int) (t' := .int) (by decide) (by decide))))
  have f27 : Fld Z h17 va "com/example/deferra/deferra/engine/Identities" "madeAt" "I" (.int (48 : Int32)) := (Fw12.other W17 (Or.inr (slot_ne (Or.inl (hw _ (mw 35 rfl))) (Or.inl (hw _ (mw 37 rfl))) (by decide) (t := .int) (t' := .int) (by decide) (by decide))))
  have f28 : Fld Z h17 va "com/example/deferra/deferra/engine/Identities" "rows" "[J" .null := ((((F_rows_va.other W2 (Or.inr (slot_ne (Or.inl (hw _ (mw 40 rfl))) (Or.inl (hw _ (mw 31 rfl))) (by decide) (t := (.array .long)) (t' := .int) (by decide) (by decide)))).other W7 (Or.inr (slot_ne (Or.inl (hw _ (mw 40 rfl))) (Or.inl (hw _ (mw 33 rfl))) (by decide) (t := (.array .long)) (t' := .int) (by decide) (by decide)))).other W12 (Or.inr (slot_ne (Or.inl (hw _ (mw 40 rfl))) (Or.inl (hw _ (mw 35 rfl))) (by decide) (t := (.array .long)) (t' := .int) (by decide) (by decide)))).other W17 (Or.inr (slot_ne (Or.inl (hw _ (mw 40 rfl))) (Or.inl (hw _ (mw 37 rfl))) (by decide) (t := (.array .long)) (t' := .int) (by decide) (by decide))))
  have f29 : Fld Z h17 va "com/example/deferra/deferra/engine/Identities" "openCount" "I" (.int (0 : Int32)) := ((((F_openCount_va.other W2 (Or.inr (slot_ne (Or.inl (hw _ (mw 47 rfl))) (Or.inl (hw _ (mw 31 rfl))) (by decide) (t := .int) (t' := .int) (by decide) (by decide)))).other W7 (Or.inr (slot_ne (Or.inl (hw _ (mw 47 rfl))) (Or.inl (hw _ (mw 33 rfl))) (by decide) (t := .int) (t' := .int) (by decide) (by decide)))).other W12 (Or.inr (slot_ne (Or.inl (hw _ (mw 47 rfl))) (Or.inl (hw _ (mw 35 rfl))) (by decide) (t := .int) (t' := .int) (by decide) (by decide)))).other W17 (Or.inr (slot_ne (Or.inl (hw _ (mw 47 rfl))) (Or.inl (hw _ (mw 37 rfl))) (by decide) (t := .int) (t' := .int) (by decide) (by decide))))
  exact Goal.retN X17 hx Bd.returns (hb hby d4_38) hlk e17 ⟨rfl, N17, f18, f19, f20, f21, f22, f23, f24, f25, f26, f27, Fw17, f28, f29⟩ (by decide) (by decide)
theorem ef_1 (m : MethodId) (x0 : Addr) (x1 : Int32) (x2 : Int32)  : entryFrame m #[(.ref x0), (.int x1), (.int x2)] 3 = mkF m 0 #[.val (.ref x0), .val (.int x1), .val (.int x2)] [] := by first | (simp [entryFrame, mkF, argsToLocals, Value.category]; done) | rfl
theorem pn_1 : plainName "com/example/deferra/deferra/engine/Identities" = true := by first | (simp [plainName, overriddenIn]; done) | decide +kernel
theorem d1_0 : decode prog_18_method_1_code 0 = .ok (.aload_n 0, 1) := by decide +kernel
theorem d1_1 : decode prog_18_method_1_code 1 = .ok (.invokespecial 1, 3) := by decide +kernel
theorem d1_4 : decode prog_18_method_1_code 4 = .ok (.aload_n 0, 1) := by decide +kernel
theorem d1_5 : decode prog_18_method_1_code 5 = .ok (.iconst 1, 1) := by decide +kernel
theorem d1_6 : decode prog_18_method_1_code 6 = .ok (.putfield 7, 3) := by decide +kernel
theorem d1_9 : decode prog_18_method_1_code 9 = .ok (.aload_n 0, 1) := by decide +kernel
theorem d1_10 : decode prog_18_method_1_code 10 = .ok (.bipush 16, 2) := by decide +kernel
theorem d1_12 : decode prog_18_method_1_code 12 = .ok (.putfield 13, 3) := by decide +kernel
theorem d1_15 : decode prog_18_method_1_code 15 = .ok (.aload_n 0, 1) := by decide +kernel
theorem d1_16 : decode prog_18_method_1_code 16 = .ok (.iconst 1, 1) := by decide +kernel
theorem d1_17 : decode prog_18_method_1_code 17 = .ok (.putfield 16, 3) := by decide +kernel
theorem d1_20 : decode prog_18_method_1_code 20 = .ok (.aload_n 0, 1) := by decide +kernel
theorem d1_21 : decode prog_18_method_1_code 21 = .ok (.iload_n 1, 1) := by decide +kernel
theorem d1_22 : decode prog_18_method_1_code 22 = .ok (.putfield 19, 3) := by decide +kernel
theorem d1_25 : decode prog_18_method_1_code 25 = .ok (.aload_n 0, 1) := by decide +kernel
theorem d1_26 : decode prog_18_method_1_code 26 = .ok (.iload_n 2, 1) := by decide +kernel
theorem d1_27 : decode prog_18_method_1_code 27 = .ok (.putfield 22, 3) := by decide +kernel
theorem d1_30 : decode prog_18_method_1_code 30 = .ok (.aload_n 0, 1) := by decide +kernel
theorem d1_31 : decode prog_18_method_1_code 31 = .ok (.aload_n 0, 1) := by decide +kernel
theorem d1_32 : decode prog_18_method_1_code 32 = .ok (.getfield 13, 3) := by decide +kernel
theorem pd_2 : parseMethodDescriptor "(I)I" = some ⟨[.int], some .int⟩ := by decide +kernel
theorem d1_35 : decode prog_18_method_1_code 35 = .ok (.invokestatic 26, 3) := by decide +kernel
theorem d1_38 : decode prog_18_method_1_code 38 = .ok (.newarray .int, 2) := by decide +kernel
theorem d1_40 : decode prog_18_method_1_code 40 = .ok (.putfield 30, 3) := by decide +kernel
theorem d1_43 : decode prog_18_method_1_code 43 = .ok (.aload_n 0, 1) := by decide +kernel
theorem pd_1 : parseMethodDescriptor "()V" = some ⟨[], none⟩ := by decide +kernel
theorem d1_44 : decode prog_18_method_1_code 44 = .ok (.invokevirtual 34, 3) := by decide +kernel
theorem d1_47 : decode prog_18_method_1_code 47 = .ok (.aload_n 0, 1) := by decide +kernel
theorem d1_48 : decode prog_18_method_1_code 48 = .ok (.iconst 2, 1) := by decide +kernel
theorem d1_49 : decode prog_18_method_1_code 49 = .ok (.aload_n 0, 1) := by decide +kernel
theorem d1_50 : decode prog_18_method_1_code 50 = .ok (.getfield 13, 3) := by decide +kernel
theorem d1_53 : decode prog_18_method_1_code 53 = .ok (.iadd, 1) := by decide +kernel
theorem d1_54 : decode prog_18_method_1_code 54 = .ok (.aload_n 0, 1) := by decide +kernel
theorem d1_55 : decode prog_18_method_1_code 55 = .ok (.getfield 16, 3) := by decide +kernel
theorem d1_58 : decode prog_18_method_1_code 58 = .ok (.imul, 1) := by decide +kernel
theorem d1_59 : decode prog_18_method_1_code 59 = .ok (.newarray .long, 2) := by decide +kernel
theorem d1_61 : decode prog_18_method_1_code 61 = .ok (.putfield 37, 3) := by decide +kernel
theorem d1_64 : decode prog_18_method_1_code 64 = .ok (.aload_n 0, 1) := by decide +kernel
theorem d1_65 : decode prog_18_method_1_code 65 = .ok (.getfield 30, 3) := by decide +kernel
theorem d1_68 : decode prog_18_method_1_code 68 = .ok (.aload_n 0, 1) := by decide +kernel
theorem d1_69 : decode prog_18_method_1_code 69 = .ok (.getfield 41, 3) := by decide +kernel
theorem d1_72 : decode prog_18_method_1_code 72 = .ok (.iconst 0, 1) := by decide +kernel
theorem d1_73 : decode prog_18_method_1_code 73 = .ok (.iadd, 1) := by decide +kernel
theorem d1_74 : decode prog_18_method_1_code 74 = .ok (.iconst (-1), 1) := by decide +kernel
theorem d1_75 : decode prog_18_method_1_code 75 = .ok (.iastore, 1) := by decide +kernel
theorem d1_76 : decode prog_18_method_1_code 76 = .ok (.aload_n 0, 1) := by decide +kernel
theorem d1_77 : decode prog_18_method_1_code 77 = .ok (.getfield 30, 3) := by decide +kernel
theorem d1_80 : decode prog_18_method_1_code 80 = .ok (.aload_n 0, 1) := by decide +kernel
theorem d1_81 : decode prog_18_method_1_code 81 = .ok (.getfield 44, 3) := by decide +kernel
theorem d1_84 : decode prog_18_method_1_code 84 = .ok (.iconst 0, 1) := by decide +kernel
theorem d1_85 : decode prog_18_method_1_code 85 = .ok (.iadd, 1) := by decide +kernel
theorem d1_86 : decode prog_18_method_1_code 86 = .ok (.iconst (-1), 1) := by decide +kernel
theorem d1_87 : decode prog_18_method_1_code 87 = .ok (.iastore, 1) := by decide +kernel
theorem d1_88 : decode prog_18_method_1_code 88 = .ok (.return_, 1) := by decide +kernel
def QN (Z : State) (va : Addr) (uc : Int32) (h0 : Heap) (n0 : Nat) (v : Option Value) (h : Heap) (L : List Loc) : Prop := ∃ vi : Addr, ∃ vr : Addr, v = none ∧ Fr n0 L ∧ Keep h0 h [va] ∧ h0.size ≤ vi ∧ h0.size ≤ vr ∧ vi ≠ vr ∧ Fld Z h va "com/example/deferra/deferra/engine/Identities" "count" "I" (.int (1 : Int32)) ∧ Fld Z h va "com/example/deferra/deferra/engine/Identities" "slots" "I" (.int (16 : Int32)) ∧ Fld Z h va "com/example/deferra/deferra/engine/Identities" "words" "I" (.int (1 : Int32)) ∧ Fld Z h va "com/example/deferra/deferra/engine/Identities" "capacity" "I" (.int uc) ∧ Fld Z h va "com/example/deferra/deferra/engine/Identities" "nullAllowed" "Z" (.int (1 : Int32)) ∧ Fld Z h va "com/example/deferra/deferra/engine/Identities" "ints" "[I" (.ref vi) ∧ Fld Z h va "com/example/deferra/deferra/engine/Identities" "numberAt" "I" (.int (16 : Int32)) ∧ Fld Z h va "com/example/deferra/deferra/engine/Identities" "colourAt" "I" (.int (32 : Int32)) ∧ Fld Z h va "com/example/deferra/deferra/engine/Identities" "madeAt" "I" (.int (48 : Int32)) ∧ Fld Z h va "com/example/deferra/deferra/engine/Identities" "holdersAt" "I" (.int (64 : Int32)) ∧ Fld Z h va "com/example/deferra/deferra/engine/Identities" "rows" "[J" (.ref vr) ∧ Fld Z h va "com/example/deferra/deferra/engine/Identities" "openCount" "I" (.int (0 : Int32)) ∧ Ary Z h vi .int [(.int (0 : Int32)), (.int (0 : Int32)), (.int (0 : Int32)), (.int (0 : Int32)), (.int (0 : Int32)), (.int (0 : Int32)), (.int (0 : Int32)), (.int (0 : Int32)), (.int (0 : Int32)), (.int (0 : Int32)), (.int (0 : Int32)), (.int (0 : Int32)), (.int (0 : Int32)), (.int (0 : Int32)), (.int (0 : Int32)), (.int (0 : Int32)), (.int (-1 : Int32)), (.int (0 : Int32)), (.int (0 : Int32)), (.int (0 : Int32)), (.int (0 : Int32)), (.int (0 : Int32)), (.int (0 : Int32)), (.int (0 : Int32)), (.int (0 : Int32)), (.int (0 : Int32)), (.int (0 : Int32)), (.int (0 : Int32)), (.int (0 : Int32)), (.int (0 : Int32)), (.int (0 : Int32)), (.int (0 : Int32)), (.int (-1 : Int32)), (.int (0 : Int32)), (.int (0 : Int32)), (.int (0 : Int32)), (.int (0 : Int32)), (.int (0 : Int32)), (.int (0 : Int32)), (.int (0 : Int32)), (.int (0 : Int32)), (.int (0 : Int32)), (.int (0 : Int32)), (.int (0 : Int32)), (.int (0 : Int32)), (.int (0 : Int32)), (.int (0 : Int32)), (.int (0 : Int32)), (.int (0 : Int32)), (.int (0 : Int32)), (.int (0 : Int32)), (.int (0 : Int32)), (.int (0 : Int32)), (.int (0 : Int32)), (.int (0 : Int32)), (.int (0 : Int32)), (.int (0 : Int32)), (.int (0 : Int32)), (.int (0 : Int32)), (.int (0 : Int32)), (.int (0 : Int32)), (.int (0 : Int32)), (.int (0 : Int32)), (.int (0 : Int32)), (.int (0 : Int32)), (.int (0 : Int32)), (.int (0 : Int32)), (.int (0 : Int32)), (.int (0 : Int32)), (.int (0 : Int32)), (.int (0 : Int32)), (.int (0 : Int32)), (.int (0 : Int32)), (.int (0 : Int32)), (.int (0 : Int32)), (.int (0 : Int32)), (.int (0 : Int32)), (.int (0 : Int32)), (.int (0 : Int32)), (.int (0 : Int32)), (.int (0 : Int32))] ∧ Ary Z h vr .long [(.long (0 : Int64)), (.long (0 : Int64)), (.long (0 : Int64)), (.long (0 : Int64)), (.long (0 : Int64)), (.long (0 : Int64)), (.long (0 : Int64)), (.long (0 : Int64)), (.long (0 : Int64)), (.long (0 : Int64)), (.long (0 : Int64)), (.long (0 : Int64)), (.long (0 : Int64)), (.long (0 : Int64)), (.long (0 : Int64)), (.long (0 : Int64)), (.long (0 : Int64)), (.long (0 : Int64))]
set_option maxRecDepth 65536 in
set_option maxHeartbeats 40000000 in
theorem rmN (l : Launch) (Z : State) (a0 : Array Value) (hw : ∀ d ∈ tables_1, d.before a0 Z = true) (ws : List Jvm.Cond) (va : Addr) (uc : Int32) (h0 : Heap) (n0 : Nat) (Z0 : n0 ≤ h0.size) (E_va : Exa Z h0 va "com/example/deferra/deferra/engine/Identities") (F_count_va : Fld Z h0 va "com/example/deferra/deferra/engine/Identities" "count" "I" (.int (0 : Int32))) (F_slots_va : Fld Z h0 va "com/example/deferra/deferra/engine/Identities" "slots" "I" (.int (0 : Int32))) (F_words_va : Fld Z h0 va "com/example/deferra/deferra/engine/Identities" "words" "I" (.int (0 : Int32))) (F_capacity_va : Fld Z h0 va "com/example/deferra/deferra/engine/Identities" "capacity" "I" (.int (0 : Int32))) (F_nullAllowed_va : Fld Z h0 va "com/example/deferra/deferra/engine/Identities" "nullAllowed" "Z" (.int (0 : Int32))) (F_ints_va : Fld Z h0 va "com/example/deferra/deferra/engine/Identities" "ints" "[I" .null) (F_numberAt_va : Fld Z h0 va "com/example/deferra/deferra/engine/Identities" "numberAt" "I" (.int (0 : Int32))) (F_colourAt_va : Fld Z h0 va "com/example/deferra/deferra/engine/Identities" "colourAt" "I" (.int (0 : Int32))) (F_madeAt_va : Fld Z h0 va "com/example/deferra/deferra/engine/Identities" "madeAt" "I" (.int (0 : Int32))) (F_holdersAt_va : Fld Z h0 va "com/example/deferra/deferra/engine/Identities" "holdersAt" "I" (.int (0 : Int32))) (F_rows_va : Fld Z h0 va "com/example/deferra/deferra/engine/Identities" "rows" "[J" .null) (F_openCount_va : Fld Z h0 va "com/example/deferra/deferra/engine/Identities" "openCount" "I" (.int (0 : Int32))) (g_va : n0 ≤ va) :
    MetFree l (⟨"com/example/deferra/deferra/engine/Identities", "<init>", "(IZ)V"⟩ : MethodName) (head1 (Jvm.Cond.code (⟨"com/example/deferra/deferra/engine/Identities", "<init>", "(IZ)V"⟩ : MethodName) prog_18_method_1_code 3 none :: ws) ({ frames := 1, cells := 2, slots := 99, locals := 13 } : Room)) (fun a U => a = #[(.ref va), (.int uc), (.int (1 : Int32))] ∧ Z.Warmed39 U.vm ∧ U.heap = h0) (fun _ _ _ _ _ => True) (fun _ U o U' => ∃ v L, o = .returned v ∧ QN Z va uc h0 n0 v U'.heap L ∧ FrameEnd U o U' L 2 99) := by
  refine MetFree.of_bodySF (plainFor_of_name pn_1) hisR ?_
  intro p e s m args below meth c s₁ Bd hml0 hP hK
  obtain ⟨rfl, hZ, hh⟩ := hP
  have hx := Bd.exec
  have hby := Bd.bytes
  have hml : c.maxLocals = 3 := hml0
  have hown : s.vm.findClass "com/example/deferra/deferra/engine/Identities" = some m.cls := findClass_of_methodNamed Bd.named
  have hnm := (name_of_methodNamed Bd.named Bd.method).1
  have X0 : Stand p l e ({ frames := 1, cells := 2, slots := 99, locals := 13 } : Room) s m #[(.ref va), (.int uc), (.int (1 : Int32))] below meth c s₁ [] 0 0 := Stand.of_body Bd
  have e0 : s₁.heap = h0 := by rw [← hh, Bd.state]; rfl
  have N0 := Fr.nil n0
  have hlk : meth.locks = false := BodyLoose.notSynchronized Bd
  show Goal p e below s (QN Z va uc h0 n0) 2 99 (s₁.setTop (entryFrame m #[(.ref va), (.int uc), (.int (1 : Int32))] 3))
  refine Goal.to (B := s₁.setTop (mkF m 0 #[.val (.ref va), .val (.int uc), .val (.int (1 : Int32))] [])) (fun tt kk => castTop (ef_1 m va uc (1 : Int32) ) kk) ?_
  refine Goal.to (B := s₁.setTop (mkF m 1 #[.val (.ref va), .val (.int uc), .val (.int (1 : Int32))] [(.ref va)])) (fun tt kk => ?_) ?_
  · show Steps p.tables e below (s₁.setTop (mkF m 0 #[.val (.ref va), .val (.int uc), .val (.int (1 : Int32))] [])) tt
    refine XS.aloadN X0.here hx rfl (hb hby d1_0) rfl rfl ?_
    exact kk
  obtain ⟨T1, X1, e1, st1⟩ := initO X0 hx hZ hown (hw _ (mw 7 rfl)) (hw _ (mw 8 rfl)) (hw _ (mw 9 rfl)) e0 (g := (mkF m 1 #[.val (.ref va), .val (.int uc), .val (.int (1 : Int32))] [(.ref va)])) rfl (by rw [hml]; rfl) rfl (hb hby d1_1) (by decide) (W := 0) (by show 2 * 0 + _ ≤ _; exact Nat.le_of_eq rfl) (by decide)
  refine Goal.to (B := T1.setTop (mkF m 4 #[.val (.ref va), .val (.int uc), .val (.int (1 : Int32))] [])) st1 ?_
  refine Goal.to (B := T1.setTop (mkF m 6 #[.val (.ref va), .val (.int uc), .val (.int (1 : Int32))] [(.int (1 : Int32)), (.ref va)])) (fun tt kk => ?_) ?_
  · show Steps p.tables e below (T1.setTop (mkF m 4 #[.val (.ref va), .val (.int uc), .val (.int (1 : Int32))] [])) tt
    refine XS.aloadN X1.here hx rfl (hb hby d1_4) rfl rfl ?_
    show Steps p.tables e below (T1.setTop (mkF m 5 #[.val (.ref va), .val (.int uc), .val (.int (1 : Int32))] [(.ref va)])) tt
    refine XS.iconst X1.here hx rfl (hb hby d1_5) ?_
    exact kk
  obtain ⟨T2, h2, X2, e2, W2, st2⟩ := putF X1 hx hZ hown (host := "") (Or.inl (hw _ (mw 10 rfl))) Via.refl e1 F_count_va E_va (Or.inl (hw _ (mw 11 rfl))) (hw _ (mw 1 rfl)) (ty := .int) (by decide) rfl rfl (g := (mkF m 6 #[.val (.ref va), .val (.int uc), .val (.int (1 : Int32))] [(.int (1 : Int32)), (.ref va)])) rfl rfl (hb hby d1_6)
  have Fw2 : Fld Z h2 va "com/example/deferra/deferra/engine/Identities" "count" "I" (.int (1 : Int32)) := F_count_va.same W2
  have N2 := Fr.snoc X2 N0 g_va
  refine Goal.to (B := T2.setTop (mkF m 9 #[.val (.ref va), .val (.int uc), .val (.int (1 : Int32))] [])) st2 ?_
  refine Goal.to (B := T2.setTop (mkF m 12 #[.val (.ref va), .val (.int uc), .val (.int (1 : Int32))] [(.int (16 : Int32)), (.ref va)])) (fun tt kk => ?_) ?_
  · show Steps p.tables e below (T2.setTop (mkF m 9 #[.val (.ref va), .val (.int uc), .val (.int (1 : Int32))] [])) tt
    refine XS.aloadN X2.here hx rfl (hb hby d1_9) rfl rfl ?_
    show Steps p.tables e below (T2.setTop (mkF m 10 #[.val (.ref va), .val (.int uc), .val (.int (1 : Int32))] [(.ref va)])) tt
    refine XS.bipush X2.here hx rfl (hb hby d1_10) ?_
    exact kk
  have f3 : Fld Z h2 va "com/example/deferra/deferra/engine/Identities" "slots" "I" (.int (0 : Int32)) := (F_slots_va.other W2 (Or.inr (slot_ne (Or.inl (hw _ (mw 13 rfl))) (Or.inl (hw _ (mw 11 rfl))) (by decide) (t := .int) (t' := .int) (by decide) (by decide))))
  have f4 : Exa Z h2 va "com/example/deferra/deferra/engine/Identities" := (E_va.wr W2)
  obtain ⟨T5, h5, X5, e5, W5, st5⟩ := putF X2 hx hZ hown (host := "") (Or.inl (hw _ (mw 12 rfl))) Via.refl e2 f3 f4 (Or.inl (hw _ (mw 13 rfl))) (hw _ (mw 1 rfl)) (ty := .int) (by decide) rfl rfl (g := (mkF m 12 #[.val (.ref va), .val (.int uc), .val (.int (1 : Int32))] [(.int (16 : Int32)), (.ref va)])) rfl rfl (hb hby d1_12)
  have Fw5 : Fld Z h5 va "com/example/deferra/deferra/engine/Identities" "slots" "I" (.int (16 : Int32)) := f3.same W5
  have N5 := Fr.snoc X5 N2 g_va
  refine Goal.to (B := T5.setTop (mkF m 15 #[.val (.ref va), .val (.int uc), .val (.int (1 : Int32))] [])) st5 ?_
  refine Goal.to (B := T5.setTop (mkF m 17 #[.val (.ref va), .val (.int uc), .val (.int (1 : Int32))] [(.int (1 : Int32)), (.ref va)])) (fun tt kk => ?_) ?_
  · show Steps p.tables e below (T5.setTop (mkF m 15 #[.val (.ref va), .val (.int uc), .val (.int (1 : Int32))] [])) tt
    refine XS.aloadN X5.here hx rfl (hb hby d1_15) rfl rfl ?_
    show Steps p.tables e below (T5.setTop (mkF m 16 #[.val (.ref va), .val (.int uc), .val (.int (1 : Int32))] [(.ref va)])) tt
    refine XS.iconst X5.here hx rfl (hb hby d1_16) ?_
    exact kk
  have f6 : Fld Z h5 va "com/example/deferra/deferra/engine/Identities" "words" "I" (.int (0 : Int32)) := ((F_words_va.other W2 (Or.inr (slot_ne (Or.inl (hw _ (mw 15 rfl))) (Or.inl (hw _ (mw 11 rfl))) (by decide) (t := .int) (t' := .int) (by decide) (by decide)))).other W5 (Or.inr (slot_ne (Or.inl (hw _ (mw 15 rfl))) (Or.inl (hw _ (mw 13 rfl))) (by decide) (t := .int) (t' := .int) (by decide) (by decide))))
  have f7 : Exa Z h5 va "com/example/deferra/deferra/engine/Identities" := (f4.wr W5)
  obtain ⟨T8, h8, X8, e8, W8, st8⟩ := putF X5 hx hZ hown (host := "") (Or.inl (hw _ (mw 14 rfl))) Via.refl e5 f6 f7 (Or.inl (hw _ (mw 15 rfl))) (hw _ (mw 1 rfl)) (ty := .int) (by decide) rfl rfl (g := (mkF m 17 #[.val (.ref va), .val (.int uc), .val (.int (1 : Int32))] [(.int (1 : Int32)), (.ref va)])) rfl rfl (hb hby d1_17)
  have Fw8 : Fld Z h8 va "com/example/deferra/deferra/engine/Identities" "words" "I" (.int (1 : Int32)) := f6.same W8
  have N8 := Fr.snoc X8 N5 g_va
  refine Goal.to (B := T8.setTop (mkF m 20 #[.val (.ref va), .val (.int uc), .val (.int (1 : Int32))] [])) st8 ?_
  refine Goal.to (B := T8.setTop (mkF m 22 #[.val (.ref va), .val (.int uc), .val (.int (1 : Int32))] [(.int uc), (.ref va)])) (fun tt kk => ?_) ?_
  · show Steps p.tables e below (T8.setTop (mkF m 20 #[.val (.ref va), .val (.int uc), .val (.int (1 : Int32))] [])) tt
    refine XS.aloadN X8.here hx rfl (hb hby d1_20) rfl rfl ?_
    show Steps p.tables e below (T8.setTop (mkF m 21 #[.val (.ref va), .val (.int uc), .val (.int (1 : Int32))] [(.ref va)])) tt
    refine XS.iloadN X8.here hx rfl (hb hby d1_21) rfl ?_
    exact kk
  have f9 : Fld Z h8 va "com/example/deferra/deferra/engine/Identities" "capacity" "I" (.int (0 : Int32)) := (((F_capacity_va.other W2 (Or.inr (slot_ne (Or.inr (hw _ (mw 17 rfl))) (Or.inl (hw _ (mw 11 rfl))) (by decide) (t := .int) (t' := .int) (by decide) (by decide)))).other W5 (Or.inr (slot_ne (Or.inr (hw _ (mw 17 rfl))) (Or.inl (hw _ (mw 13 rfl))) (by decide) (t := .int) (t' := .int) (by decide) (by decide)))).other W8 (Or.inr (slot_ne (Or.inr (hw _ (mw 17 rfl))) (Or.inl (hw _ (mw 15 rfl))) (by decide) (t := .int) (t' := .int) (by decide) (by decide))))
  have f10 : Exa Z h8 va "com/example/deferra/deferra/engine/Identities" := (f7.wr W8)
  obtain ⟨T11, h11, X11, e11, W11, st11⟩ := putF X8 hx hZ hown (host := "") (Or.inl (hw _ (mw 16 rfl))) Via.refl e8 f9 f10 (Or.inr ⟨(hw _ (mw 17 rfl)), rfl, hnm⟩) (hw _ (mw 1 rfl)) (ty := .int) (by decide) rfl rfl (g := (mkF m 22 #[.val (.ref va), .val (.int uc), .val (.int (1 : Int32))] [(.int uc), (.ref va)])) rfl rfl (hb hby d1_22)
  have Fw11 : Fld Z h11 va "com/example/deferra/deferra/engine/Identities" "capacity" "I" (.int uc) := f9.same W11
  have N11 := Fr.snoc X11 N8 g_va
  refine Goal.to (B := T11.setTop (mkF m 25 #[.val (.ref va), .val (.int uc), .val (.int (1 : Int32))] [])) st11 ?_
  refine Goal.to (B := T11.setTop (mkF m 27 #[.val (.ref va), .val (.int uc), .val (.int (1 : Int32))] [(.int (1 : Int32)), (.ref va)])) (fun tt kk => ?_) ?_
  · show Steps p.tables e below (T11.setTop (mkF m 25 #[.val (.ref va), .val (.int uc), .val (.int (1 : Int32))] [])) tt
    refine XS.aloadN X11.here hx rfl (hb hby d1_25) rfl rfl ?_
    show Steps p.tables e below (T11.setTop (mkF m 26 #[.val (.ref va), .val (.int uc), .val (.int (1 : Int32))] [(.ref va)])) tt
    refine XS.iloadN X11.here hx rfl (hb hby d1_26) rfl ?_
    exact kk
  have f12 : Fld Z h11 va "com/example/deferra/deferra/engine/Identities" "nullAllowed" "Z" (.int (0 : Int32)) := ((((F_nullAllowed_va.other W2 (Or.inr (slot_ne (Or.inr (hw _ (mw 19 rfl))) (Or.inl (hw _ (mw 11 rfl))) (by decide) (t := .boolean) (t' := .int) (by decide) (by decide)))).other W5 (Or.inr (slot_ne (Or.inr (hw _ (mw 19 rfl))) (Or.inl (hw _ (mw 13 rfl))) (by decide) (t := .boolean) (t' := .int) (by decide) (by decide)))).other W8 (Or.inr (slot_ne (Or.inr (hw _ (mw 19 rfl))) (Or.inl (hw _ (mw 15 rfl))) (by decide) (t := .boolean) (t' := .int) (by decide) (by decide)))).other W11 (Or.inr (slot_ne (Or.inr (hw _ (mw 19 rfl))) (Or.inr (hw _ (mw 17 rfl))) (by decide) (t := .boolean) (t' := .int) (by decide) (by decide))))
  have f13 : Exa Z h11 va "com/example/deferra/deferra/engine/Identities" := (f10.wr W11)
  obtain ⟨T14, h14, X14, e14, W14, st14⟩ := putF X11 hx hZ hown (host := "") (Or.inl (hw _ (mw 18 rfl))) Via.refl e11 f12 f13 (Or.inr ⟨(hw _ (mw 19 rfl)), rfl, hnm⟩) (hw _ (mw 1 rfl)) (ty := .boolean) (by decide) rfl rfl (g := (mkF m 27 #[.val (.ref va), .val (.int uc), .val (.int (1 : Int32))] [(.int (1 : Int32)), (.ref va)])) rfl rfl (hb hby d1_27)
  have Fw14 : Fld Z h14 va "com/example/deferra/deferra/engine/Identities" "nullAllowed" "Z" (.int (1 : Int32)) := f12.same W14
  have N14 := Fr.snoc X14 N11 g_va
  refine Goal.to (B := T14.setTop (mkF m 30 #[.val (.ref va), .val (.int uc), .val (.int (1 : Int32))] [])) st14 ?_
  refine Goal.to (B := T14.setTop (mkF m 32 #[.val (.ref va), .val (.int uc), .val (.int (1 : Int32))] [(.ref va), (.ref va)])) (fun tt kk => ?_) ?_
  · show Steps p.tables e below (T14.setTop (mkF m 30 #[.val (.ref va), .val (.int uc), .val (.int (1 : Int32))] [])) tt
    refine XS.aloadN X14.here hx rfl (hb hby d1_30) rfl rfl ?_
    show Steps p.tables e below (T14.setTop (mkF m 31 #[.val (.ref va), .val (.int uc), .val (.int (1 : Int32))] [(.ref va)])) tt
    refine XS.aloadN X14.here hx rfl (hb hby d1_31) rfl rfl ?_
    exact kk
  have f15 : Fld Z h14 va "com/example/deferra/deferra/engine/Identities" "slots" "I" (.int (16 : Int32)) := (((Fw5.other W8 (Or.inr (slot_ne (Or.inl (hw _ (mw 13 rfl))) (Or.inl (hw _ (mw 15 rfl))) (by decide) (t := .int) (t' := .int) (by decide) (by decide)))).other W11 (Or.inr (slot_ne (Or.inl (hw _ (mw 13 rfl))) (Or.inr (hw _ (mw 17 rfl))) (by decide) (t := .int) (t' := .int) (by decide) (by decide)))).other W14 (Or.inr (slot_ne (Or.inl (hw _ (mw 13 rfl))) (Or.inr (hw _ (mw 19 rfl))) (by decide) (t := .int) (t' := .boolean) (by decide) (by decide))))
  obtain ⟨T16, X16, e16, st16⟩ := getF X14 hx hZ hown (host := "") (Or.inl (hw _ (mw 12 rfl))) Via.refl e14 f15 (g := (mkF m 32 #[.val (.ref va), .val (.int uc), .val (.int (1 : Int32))] [(.ref va), (.ref va)])) rfl rfl (hb hby d1_32)
  refine Goal.to (B := T16.setTop (mkF m 35 #[.val (.ref va), .val (.int uc), .val (.int (1 : Int32))] [(.int (16 : Int32)), (.ref va)])) st16 ?_
  have f17 : n0 ≤ h14.size := (Nat.le_trans (Nat.le_trans (Nat.le_trans (Nat.le_trans (Nat.le_trans Z0 (Keep.of_wr W2).1) (Keep.of_wr W5).1) (Keep.of_wr W8).1) (Keep.of_wr W11).1) (Keep.of_wr W14).1)
  obtain ⟨_, _, ⟨T18, L18, k18, n18⟩, -, X18, ⟨Lc18, hQ18, l18, y18, z18⟩, st18⟩ := Jvm.LawKit.callS X16 hx (y := (⟨"com/example/deferra/deferra/engine/Identities", "intsFor", "(I)I"⟩ : MethodName)) hown (mvT hZ (hw _ (mw 20 rfl))) (mvT hZ (hw _ (mw 21 rfl))) (mvT hZ (hw _ (mw 2 rfl))) (mvT hZ (hw _ (mw 22 rfl))) (by decide) (backOf (W := 1) (rmif l Z a0 hw []  h14 n0 f17 ) hZ (hw _ (mw 22 rfl)) (hw _ (mw 2 rfl)) (by decide) (by decide)) (g := (mkF m 35 #[.val (.ref va), .val (.int uc), .val (.int (1 : Int32))] [(.int (16 : Int32)), (.ref va)])) rfl (by rw [hml]; rfl) (argsL := [(.int (16 : Int32))]) (rest := [(.ref va)]) (lenOf pd_2 rfl) rfl (by show 2 * 0 + _ ≤ _; exact Nat.le_of_eq rfl) (hb hby d1_35) (fun _ _ => ⟨rfl, e16, (by decide : 0 + 0 ≤ _), (by decide : 0 + 0 ≤ _)⟩)
  dsimp only [Pt.U, Pt.locs, Pt.cells, Pt.slots] at X18 l18 y18 z18 st18 hQ18
  subst l18 y18 z18
  obtain ⟨rfl, N18q, e18⟩ := hQ18
  have N18 := Fr.app N14 N18q
  refine Goal.to (B := T18.setTop (mkF m 38 #[.val (.ref va), .val (.int uc), .val (.int (1 : Int32))] [(.int (81 : Int32)), (.ref va)])) st18 ?_
  have f20 : Exa Z h14 va "com/example/deferra/deferra/engine/Identities" := (f13.wr W14)
  have f21 : Keep h0 h14 [va] := ((((((Keep.refl h0 [va]).wr W2 (Or.inl (List.mem_of_getElem? (i := 0) rfl))).wr W5 (Or.inl (List.mem_of_getElem? (i := 0) rfl))).wr W8 (Or.inl (List.mem_of_getElem? (i := 0) rfl))).wr W11 (Or.inl (List.mem_of_getElem? (i := 0) rfl))).wr W14 (Or.inl (List.mem_of_getElem? (i := 0) rfl)))
  obtain ⟨T19, h19, k19, X19, e19, E19, A19, st19⟩ := newP X18 hx hZ (hw _ (mw 23 rfl)) e18 (g := (mkF m 38 #[.val (.ref va), .val (.int uc), .val (.int (1 : Int32))] [(.int (81 : Int32)), (.ref va)])) rfl (hb hby d1_38) rfl (by decide) (cap := 81) (by decide) (by decide) (by decide) (by decide)
  obtain ⟨b19, g19⟩ : ∃ z, z = h14.size := ⟨_, rfl⟩
  rw [← g19] at A19 st19
  have ne_va_b19 : va ≠ b19 := Nat.ne_of_lt (Nat.lt_of_lt_of_le f20.lt (Nat.le_of_eq g19.symm))
  have g_b19 : n0 ≤ b19 := Nat.le_trans f17 (Nat.le_of_eq g19.symm)
  have sz_b19 : h0.size ≤ b19 := Nat.le_trans f21.1 (Nat.le_of_eq g19.symm)
  have V19 : Ary Z h19 b19 .int [(.int (0 : Int32)), (.int (0 : Int32)), (.int (0 : Int32)), (.int (0 : Int32)), (.int (0 : Int32)), (.int (0 : Int32)), (.int (0 : Int32)), (.int (0 : Int32)), (.int (0 : Int32)), (.int (0 : Int32)), (.int (0 : Int32)), (.int (0 : Int32)), (.int (0 : Int32)), (.int (0 : Int32)), (.int (0 : Int32)), (.int (0 : Int32)), (.int (0 : Int32)), (.int (0 : Int32)), (.int (0 : Int32)), (.int (0 : Int32)), (.int (0 : Int32)), (.int (0 : Int32)), (.int (0 : Int32)), (.int (0 : Int32)), (.int (0 : Int32)), (.int (0 : Int32)), (.int (0 : Int32)), (.int (0 : Int32)), (.int (0 : Int32)), (.int (0 : Int32)), (.int (0 : Int32)), (.int (0 : Int32)), (.int (0 : Int32)), (.int (0 : Int32)), (.int (0 : Int32)), (.int (0 : Int32)), (.int (0 : Int32)), (.int (0 : Int32)), (.int (0 : Int32)), (.int (0 : Int32)), (.int (0 : Int32)), (.int (0 : Int32)), (.int (0 : Int32)), (.int (0 : Int32)), (.int (0 : Int32)), (.int (0 : Int32)), (.int (0 : Int32)), (.int (0 : Int32)), (.int (0 : Int32)), (.int (0 : Int32)), (.int (0 : Int32)), (.int (0 : Int32)), (.int (0 : Int32)), (.int (0 : Int32)), (.int (0 : Int32)), (.int (0 : Int32)), (.int (0 : Int32)), (.int (0 : Int32)), (.int (0 : Int32)), (.int (0 : Int32)), (.int (0 : Int32)), (.int (0 : Int32)), (.int (0 : Int32)), (.int (0 : Int32)), (.int (0 : Int32)), (.int (0 : Int32)), (.int (0 : Int32)), (.int (0 : Int32)), (.int (0 : Int32)), (.int (0 : Int32)), (.int (0 : Int32)), (.int (0 : Int32)), (.int (0 : Int32)), (.int (0 : Int32)), (.int (0 : Int32)), (.int (0 : Int32)), (.int (0 : Int32)), (.int (0 : Int32)), (.int (0 : Int32)), (.int (0 : Int32)), (.int (0 : Int32))] := Ary.new A19 rfl
  refine Goal.to (B := T19.setTop (mkF m 40 #[.val (.ref va), .val (.int uc), .val (.int (1 : Int32))] [(.ref b19), (.ref va)])) st19 ?_
  have f22 : Fld Z h19 va "com/example/deferra/deferra/engine/Identities" "ints" "[I" .null := ((((((F_ints_va.other W2 (Or.inr (slot_ne (Or.inl (hw _ (mw 25 rfl))) (Or.inl (hw _ (mw 11 rfl))) (by decide) (t := (.array .int)) (t' := .int) (by decide) (by decide)))).other W5 (Or.inr (slot_ne (Or.inl (hw _ (mw 25 rfl))) (Or.inl (hw _ (mw 13 rfl))) (by decide) (t := (.array .int)) (t' := .int) (by decide) (by decide)))).other W8 (Or.inr (slot_ne (Or.inl (hw _ (mw 25 rfl))) (Or.inl (hw _ (mw 15 rfl))) (by decide) (t := (.array .int)) (t' := .int) (by decide) (by decide)))).other W11 (Or.inr (slot_ne (Or.inl (hw _ (mw 25 rfl))) (Or.inr (hw _ (mw 17 rfl))) (by decide) (t := (.array .int)) (t' := .int) (by decide) (by decide)))).other W14 (Or.inr (slot_ne (Or.inl (hw _ (mw 25 rfl))) (Or.inr (hw _ (mw 19 rfl))) (by decide) (t := (.array .int)) (t' := .boolean) (by decide) (by decide)))).ext E19)
  have f23 : Exa Z h19 va "com/example/deferra/deferra/engine/Identities" := (f20.ext E19)
  obtain ⟨T24, h24, X24, e24, W24, st24⟩ := putF X19 hx hZ hown (host := "") (Or.inl (hw _ (mw 24 rfl))) Via.refl e19 f22 f23 (Or.inl (hw _ (mw 25 rfl))) (hw _ (mw 1 rfl)) (ty := (.array .int)) (by decide) rfl rfl (g := (mkF m 40 #[.val (.ref va), .val (.int uc), .val (.int (1 : Int32))] [(.ref b19), (.ref va)])) rfl rfl (hb hby d1_40)
  have Fw24 : Fld Z h24 va "com/example/deferra/deferra/engine/Identities" "ints" "[I" (.ref b19) := f22.same W24
  have N24 := Fr.snoc X24 N18 g_va
  refine Goal.to (B := T24.setTop (mkF m 43 #[.val (.ref va), .val (.int uc), .val (.int (1 : Int32))] [])) st24 ?_
  refine Goal.to (B := T24.setTop (mkF m 44 #[.val (.ref va), .val (.int uc), .val (.int (1 : Int32))] [(.ref va)])) (fun tt kk => ?_) ?_
  · show Steps p.tables e below (T24.setTop (mkF m 43 #[.val (.ref va), .val (.int uc), .val (.int (1 : Int32))] [])) tt
    refine XS.aloadN X24.here hx rfl (hb hby d1_43) rfl rfl ?_
    exact kk
  have f25 : Exa Z h24 va "com/example/deferra/deferra/engine/Identities" := (f23.wr W24)
  have f26 : Fld Z h24 va "com/example/deferra/deferra/engine/Identities" "slots" "I" (.int (16 : Int32)) := ((f15.ext E19).other W24 (Or.inr (slot_ne (Or.inl (hw _ (mw 13 rfl))) (Or.inl (hw _ (mw 25 rfl))) (by decide) (t := .int) (t' := (.array .int)) (by decide) (by decide))))
  have f27 : Fld Z h24 va "com/example/deferra/deferra/engine/Identities" "numberAt" "I" (.int (0 : Int32)) := (((((((F_numberAt_va.other W2 (Or.inr (slot_ne (Or.inl (hw _ (mw 31 rfl))) (Or.inl (hw _ (mw 11 rfl))) (by decide) (t := .int) (t' := .int) (by decide) (by decide)))).other W5 (Or.inr (slot_ne (Or.inl (hw _ (mw 31 rfl))) (Or.inl (hw _ (mw 13 rfl))) (by decide) (t := .int) (t' := .int) (by decide) (by decide)))).other W8 (Or.inr (slot_ne (Or.inl (hw _ (mw 31 rfl))) (Or.inl (hw _ (mw 15 rfl))) (by decide) (t := .int) (t' := .int) (by decide) (by decide)))).other W11 (Or.inr (slot_ne (Or.inl (hw _ (mw 31 rfl))) (Or.inr (hw _ (mw 17 rfl))) (by decide) (t := .int) (t' := .int) (by decide) (by decide)))).other W14 (Or.inr (slot_ne (Or.inl (hw _ (mw 31 rfl))) (Or.inr (hw _ (mw 19 rfl))) (by decide) (t := .int) (t' := .boolean) (by decide) (by decide)))).ext E19).other W24 (Or.inr (slot_ne (Or.inl (hw _ (mw 31 rfl))) (Or.inl (hw _ (mw 25 rfl))) (by decide) (t := .int) (t' := (.array .int)) (by decide) (by decide))))
  have f28 : Fld Z h24 va "com/example/deferra/deferra/engine/Identities" "colourAt" "I" (.int (0 : Int32)) := (((((((F_colourAt_va.other W2 (Or.inr (slot_ne (Or.inl (hw _ (mw 33 rfl))) (Or.inl (hw _ (mw 11 rfl))) (by decide) (t := .int) (t' := .int) (by decide) (by decide)))).other W5 (Or.inr (slot_ne (Or.inl (hw _ (mw 33 rfl))) (Or.inl (hw _ (mw 13 rfl))) (by decide) (t := .int) (t' := .int) (by decide) (by decide)))).other W8 (Or.inr (slot_ne (Or.inl (hw _ (mw 33 rfl))) (Or.inl (hw _ (mw 15 rfl))) (by decide) (t := .int) (t' := .int) (by decide) (by decide)))).other W11 (Or.inr (slot_ne (Or.inl (hw _ (mw 33 rfl))) (Or.inr (hw _ (mw 17 rfl))) (by decide) (t := .int) (t' := .int) (by decide) (by decide)))).other W14 (Or.inr (slot_ne (Or.inl (hw _ (mw 33 rfl))) (Or.inr (hw _ (mw 19 rfl))) (by decide) (t := .int) (t' := .boolean) (by decide) (by decide)))).ext E19).other W24 (Or.inr (slot_ne (Or.inl (hw _ (mw 33 rfl))) (Or.inl (hw _ (mw 25 rfl))) (by decide) (t := .int) (t' := (.array .int)) (by decide) (by decide))))
  have f29 : Fld Z h24 va "com/example/deferra/deferra/engine/Identities" "madeAt" "I" (.int (0 : Int32)) := (((((((F_madeAt_va.other W2 (Or.inr (slot_ne (Or.inl (hw _ (mw 35 rfl))) (Or.inl (hw _ (mw 11 rfl))) (by decide) (t := .int) (t' := .int) (by decide) (by decide)))).other W5 (Or.inr (slot_ne (Or.inl (hw _ (mw 35 rfl))) (Or.inl (hw _ (mw 13 rfl))) (by decide) (t := .int) (t' := .int) (by decide) (by decide)))).other W8 (Or.inr (slot_ne (Or.inl (hw _ (mw 35 rfl))) (Or.inl (hw _ (mw 15 rfl))) (by decide) (t := .int) (t' := .int) (by decide) (by decide)))).other W11 (Or.inr (slot_ne (Or.inl (hw _ (mw 35 rfl))) (Or.inr (hw _ (mw 17 rfl))) (by decide) (t := .int) (t' := .int) (by decide) (by decide)))).other W14 (Or.inr (slot_ne (Or.inl (hw _ (mw 35 rfl))) (Or.inr (hw _ (mw 19 rfl))) (by decide) (t := .int) (t' := .boolean) (by decide) (by decide)))).ext E19).other W24 (Or.inr (slot_ne (Or.inl (hw _ (mw 35 rfl))) (Or.inl (hw _ (mw 25 rfl))) (by decide) (t := .int) (t' := (.array .int)) (by decide) (by decide))))
  have f30 : Fld Z h24 va "com/example/deferra/deferra/engine/Identities" "holdersAt" "I" (.int (0 : Int32)) := (((((((F_holdersAt_va.other W2 (Or.inr (slot_ne (Or.inl (hw _ (mw 37 rfl))) (Or.inl (hw _ (mw 11 rfl))) (by decide) (t := .int) (t' := .int) (by decide) (by decide)))).other W5 (Or.inr (slot_ne (Or.inl (hw _ (mw 37 rfl))) (Or.inl (hw _ (mw 13 rfl))) (by decide) (t := .int) (t' := .int) (by decide) (by decide)))).other W8 (Or.inr (slot_ne (Or.inl (hw _ (mw 37 rfl))) (Or.inl (hw _ (mw 15 rfl))) (by decide) (t := .int) (t' := .int) (by decide) (by decide)))).other W11 (Or.inr (slot_ne (Or.inl (hw _ (mw 37 rfl))) (Or.inr (hw _ (mw 17 rfl))) (by decide) (t := .int) (t' := .int) (by decide) (by decide)))).other W14 (Or.inr (slot_ne (Or.inl (hw _ (mw 37 rfl))) (Or.inr (hw _ (mw 19 rfl))) (by decide) (t := .int) (t' := .boolean) (by decide) (by decide)))).ext E19).other W24 (Or.inr (slot_ne (Or.inl (hw _ (mw 37 rfl))) (Or.inl (hw _ (mw 25 rfl))) (by decide) (t := .int) (t' := (.array .int)) (by decide) (by decide))))
  have f31 : Fld Z h24 va "com/example/deferra/deferra/engine/Identities" "count" "I" (.int (1 : Int32)) := ((((((Fw2.other W5 (Or.inr (slot_ne (Or.inl (hw _ (mw 11 rfl))) (Or.inl (hw _ (mw 13 rfl))) (by decide) (t := .int) (t' := .int) (by decide) (by decide)))).other W8 (Or.inr (slot_ne (Or.inl (hw _ (mw 11 rfl))) (Or.inl (hw _ (mw 15 rfl))) (by decide) (t := .int) (t' := .int) (by decide) (by decide)))).other W11 (Or.inr (slot_ne (Or.inl (hw _ (mw 11 rfl))) (Or.inr (hw _ (mw 17 rfl))) (by decide) (t := .int) (t' := .int) (by decide) (by decide)))).other W14 (Or.inr (slot_ne (Or.inl (hw _ (mw 11 rfl))) (Or.inr (hw _ (mw 19 rfl))) (by decide) (t := .int) (t' := .boolean) (by decide) (by decide)))).ext E19).other W24 (Or.inr (slot_ne (Or.inl (hw _ (mw 11 rfl))) (Or.inl (hw _ (mw 25 rfl))) (by decide) (t := .int) (t' := (.array .int)) (by decide) (by decide))))
  have f32 : Fld Z h24 va "com/example/deferra/deferra/engine/Identities" "words" "I" (.int (1 : Int32)) := ((((Fw8.other W11 (Or.inr (slot_ne (Or.inl (hw _ (mw 15 rfl))) (Or.inr (hw _ (mw 17 rfl))) (by decide) (t := .int) (t' := .int) (by decide) (by decide)))).other W14 (Or.inr (slot_ne (Or.inl (hw _ (mw 15 rfl))) (Or.inr (hw _ (mw 19 rfl))) (by decide) (t := .int) (t' := .boolean) (by decide) (by decide)))).ext E19).other W24 (Or.inr (slot_ne (Or.inl (hw _ (mw 15 rfl))) (Or.inl (hw _ (mw 25 rfl))) (by decide) (t := .int) (t' := (.array .int)) (by decide) (by decide))))
  have f33 : Fld Z h24 va "com/example/deferra/deferra/engine/Identities" "capacity" "I" (.int uc) := (((Fw11.other W14 (Or.inr (slot_ne (Or.inr (hw _ (mw 17 rfl))) (Or.inr (hw _ (mw 19 rfl))) (by decide) (t := .int) (t' := .boolean) (by decide) (by decide)))).ext E19).other W24 (Or.inr (slot_ne (Or.inr (hw _ (mw 17 rfl))) (Or.inl (hw _ (mw 25 rfl))) (by decide) (t := .int) (t' := (.array .int)) (by decide) (by decide))))
  have f34 : Fld Z h24 va "com/example/deferra/deferra/engine/Identities" "nullAllowed" "Z" (.int (1 : Int32)) := ((Fw14.ext E19).other W24 (Or.inr (slot_ne (Or.inr (hw _ (mw 19 rfl))) (Or.inl (hw _ (mw 25 rfl))) (by decide) (t := .boolean) (t' := (.array .int)) (by decide) (by decide))))
  have f35 : Fld Z h24 va "com/example/deferra/deferra/engine/Identities" "rows" "[J" .null := (((((((F_rows_va.other W2 (Or.inr (slot_ne (Or.inl (hw _ (mw 40 rfl))) (Or.inl (hw _ (mw 11 rfl))) (by decide) (t := (.array .long)) (t' := .int) (by decide) (by decide)))).other W5 (Or.inr (slot_ne (Or.inl (hw _ (mw 40 rfl))) (Or.inl (hw _ (mw 13 rfl))) (by decide) (t := (.array .long)) (t' := .int) (by decide) (by decide)))).other W8 (Or.inr (slot_ne (Or.inl (hw _ (mw 40 rfl))) (Or.inl (hw _ (mw 15 rfl))) (by decide) (t := (.array .long)) (t' := .int) (by decide) (by decide)))).other W11 (Or.inr (slot_ne (Or.inl (hw _ (mw 40 rfl))) (Or.inr (hw _ (mw 17 rfl))) (by decide) (t := (.array .long)) (t' := .int) (by decide) (by decide)))).other W14 (Or.inr (slot_ne (Or.inl (hw _ (mw 40 rfl))) (Or.inr (hw _ (mw 19 rfl))) (by decide) (t := (.array .long)) (t' := .boolean) (by decide) (by decide)))).ext E19).other W24 (Or.inr (slot_ne (Or.inl (hw _ (mw 40 rfl))) (Or.inl (hw _ (mw 25 rfl))) (by decide) (t := (.array .long)) (t' := (.array .int)) (by decide) (by decide))))
  have f36 : Fld Z h24 va "com/example/deferra/deferra/engine/Identities" "openCount" "I" (.int (0 : Int32)) := (((((((F_openCount_va.other W2 (Or.inr (slot_ne (Or.inl (hw _ (mw 47 rfl))) (Or.inl (hw _ (mw 11 rfl))) (by decide) (t := .int) (t' := .int) (by decide) (by decide)))).other W5 (Or.inr (slot_ne (Or.inl (hw _ (mw 47 rfl))) (Or.inl (hw _ (mw 13 rfl))) (by decide) (t := .int) (t' := .int) (by decide) (by decide)))).other W8 (Or.inr (slot_ne (Or.inl (hw _ (mw 47 rfl))) (Or.inl (hw _ (mw 15 rfl))) (by decide) (t := .int) (t' := .int) (by decide) (by decide)))).other W11 (Or.inr (slot_ne (Or.inl (hw _ (mw 47 rfl))) (Or.inr (hw _ (mw 17 rfl))) (by decide) (t := .int) (t' := .int) (by decide) (by decide)))).other W14 (Or.inr (slot_ne (Or.inl (hw _ (mw 47 rfl))) (Or.inr (hw _ (mw 19 rfl))) (by decide) (t := .int) (t' := .boolean) (by decide) (by decide)))).ext E19).other W24 (Or.inr (slot_ne (Or.inl (hw _ (mw 47 rfl))) (Or.inl (hw _ (mw 25 rfl))) (by decide) (t := .int) (t' := (.array .int)) (by decide) (by decide))))
  have f37 : n0 ≤ h24.size := (Nat.le_trans (Nat.le_trans f17 E19.1) (Keep.of_wr W24).1)
  obtain ⟨cq38, q38, q38'⟩ := f25.cell
  obtain ⟨_, _, ⟨T38, L38, k38, n38⟩, -, X38, ⟨Lc38, hQ38, l38, y38, z38⟩, st38⟩ := X24.privateBack hx (y := (⟨"com/example/deferra/deferra/engine/Identities", "placeInts", "()V"⟩ : MethodName)) hown (mvT hZ (hw _ (mw 26 rfl))) (mvT hZ (hw _ (mw 27 rfl))) (selP hZ (hw _ (mw 1 rfl)) (hw _ (mw 28 rfl)) (hw _ (mw 27 rfl)) (by decide)) (Cond.privateMethod_at (mvP hZ (hw _ (mw 28 rfl)) (args := #[]))) (mvT hZ (hw _ (mw 29 rfl))) (by decide) (backOf (W := 0) (rmpi l Z a0 hw [] va uc b19 h24 n0 f37 f25 f26 f27 f28 f29 f30 f31 f32 f33 f34 Fw24 f35 f36 g_va) hZ (hw _ (mw 29 rfl)) (hw _ (mw 2 rfl)) (by decide) (by decide)) (g := (mkF m 44 #[.val (.ref va), .val (.int uc), .val (.int (1 : Int32))] [(.ref va)])) rfl (by rw [hml]; rfl) (Steps.refl _) (a := va) (by rw [e24]; exact q38) q38' (argsL := []) (rest := []) (lenOf pd_1 rfl) rfl (by show 2 * 0 + _ ≤ _; exact Nat.le_of_eq rfl) (hb hby d1_44) (fun _ _ => ⟨rfl, e24, (by decide : 1 + 0 ≤ _), (by decide : 81 + 0 ≤ _)⟩)
  dsimp only [Pt.U, Pt.locs, Pt.cells, Pt.slots] at X38 l38 y38 z38 st38 hQ38
  subst l38 y38 z38
  obtain ⟨rfl, N38q, K38, P38_0, P38_1, P38_2, P38_3, P38_4, P38_5, P38_6, P38_7, P38_8, P38_9, P38_10, P38_11⟩ := hQ38
  have N38 := Fr.app N24 N38q
  refine Goal.tr (B := T38.setTop (mkF m 47 #[.val (.ref va), .val (.int uc), .val (.int (1 : Int32))] [])) st38 ?_
  refine Goal.to (B := T38.setTop (mkF m 50 #[.val (.ref va), .val (.int uc), .val (.int (1 : Int32))] [(.ref va), (.int (2 : Int32)), (.ref va)])) (fun tt kk => ?_) ?_
  · show Steps p.tables e below (T38.setTop (mkF m 47 #[.val (.ref va), .val (.int uc), .val (.int (1 : Int32))] [])) tt
    refine XS.aloadN X38.here hx rfl (hb hby d1_47) rfl rfl ?_
    show Steps p.tables e below (T38.setTop (mkF m 48 #[.val (.ref va), .val (.int uc), .val (.int (1 : Int32))] [(.ref va)])) tt
    refine XS.iconst X38.here hx rfl (hb hby d1_48) ?_
    show Steps p.tables e below (T38.setTop (mkF m 49 #[.val (.ref va), .val (.int uc), .val (.int (1 : Int32))] [(.int (2 : Int32)), (.ref va)])) tt
    refine XS.aloadN X38.here hx rfl (hb hby d1_49) rfl rfl ?_
    exact kk
  obtain ⟨T39, X39, e39, st39⟩ := getF X38 hx hZ hown (host := "") (Or.inl (hw _ (mw 12 rfl))) Via.refl rfl P38_1 (g := (mkF m 50 #[.val (.ref va), .val (.int uc), .val (.int (1 : Int32))] [(.ref va), (.int (2 : Int32)), (.ref va)])) rfl rfl (hb hby d1_50)
  refine Goal.to (B := T39.setTop (mkF m 53 #[.val (.ref va), .val (.int uc), .val (.int (1 : Int32))] [(.int (16 : Int32)), (.int (2 : Int32)), (.ref va)])) st39 ?_
  refine Goal.to (B := T39.setTop (mkF m 55 #[.val (.ref va), .val (.int uc), .val (.int (1 : Int32))] [(.ref va), (.int (18 : Int32)), (.ref va)])) (fun tt kk => ?_) ?_
  · show Steps p.tables e below (T39.setTop (mkF m 53 #[.val (.ref va), .val (.int uc), .val (.int (1 : Int32))] [(.int (16 : Int32)), (.int (2 : Int32)), (.ref va)])) tt
    refine XS.iadd X39.here hx rfl (hb hby d1_53) rfl ?_
    show Steps p.tables e below (T39.setTop (mkF m 54 #[.val (.ref va), .val (.int uc), .val (.int (1 : Int32))] [(.int (18 : Int32)), (.ref va)])) tt
    refine XS.aloadN X39.here hx rfl (hb hby d1_54) rfl rfl ?_
    exact kk
  obtain ⟨T40, X40, e40, st40⟩ := getF X39 hx hZ hown (host := "") (Or.inl (hw _ (mw 14 rfl))) Via.refl e39 P38_2 (g := (mkF m 55 #[.val (.ref va), .val (.int uc), .val (.int (1 : Int32))] [(.ref va), (.int (18 : Int32)), (.ref va)])) rfl rfl (hb hby d1_55)
  refine Goal.to (B := T40.setTop (mkF m 58 #[.val (.ref va), .val (.int uc), .val (.int (1 : Int32))] [(.int (1 : Int32)), (.int (18 : Int32)), (.ref va)])) st40 ?_
  refine Goal.to (B := T40.setTop (mkF m 59 #[.val (.ref va), .val (.int uc), .val (.int (1 : Int32))] [(.int (18 : Int32)), (.ref va)])) (fun tt kk => ?_) ?_
  · show Steps p.tables e below (T40.setTop (mkF m 58 #[.val (.ref va), .val (.int uc), .val (.int (1 : Int32))] [(.int (1 : Int32)), (.int (18 : Int32)), (.ref va)])) tt
    refine XS.imul X40.here hx rfl (hb hby d1_58) rfl ?_
    exact kk
  have f42 : Exa Z T38.heap va "com/example/deferra/deferra/engine/Identities" := (f25.keep K38)
  have f43 : Ary Z T38.heap b19 .int [(.int (0 : Int32)), (.int (0 : Int32)), (.int (0 : Int32)), (.int (0 : Int32)), (.int (0 : Int32)), (.int (0 : Int32)), (.int (0 : Int32)), (.int (0 : Int32)), (.int (0 : Int32)), (.int (0 : Int32)), (.int (0 : Int32)), (.int (0 : Int32)), (.int (0 : Int32)), (.int (0 : Int32)), (.int (0 : Int32)), (.int (0 : Int32)), (.int (0 : Int32)), (.int (0 : Int32)), (.int (0 : Int32)), (.int (0 : Int32)), (.int (0 : Int32)), (.int (0 : Int32)), (.int (0 : Int32)), (.int (0 : Int32)), (.int (0 : Int32)), (.int (0 : Int32)), (.int (0 : Int32)), (.int (0 : Int32)), (.int (0 : Int32)), (.int (0 : Int32)), (.int (0 : Int32)), (.int (0 : Int32)), (.int (0 : Int32)), (.int (0 : Int32)), (.int (0 : Int32)), (.int (0 : Int32)), (.int (0 : Int32)), (.int (0 : Int32)), (.int (0 : Int32)), (.int (0 : Int32)), (.int (0 : Int32)), (.int (0 : Int32)), (.int (0 : Int32)), (.int (0 : Int32)), (.int (0 : Int32)), (.int (0 : Int32)), (.int (0 : Int32)), (.int (0 : Int32)), (.int (0 : Int32)), (.int (0 : Int32)), (.int (0 : Int32)), (.int (0 : Int32)), (.int (0 : Int32)), (.int (0 : Int32)), (.int (0 : Int32)), (.int (0 : Int32)), (.int (0 : Int32)), (.int (0 : Int32)), (.int (0 : Int32)), (.int (0 : Int32)), (.int (0 : Int32)), (.int (0 : Int32)), (.int (0 : Int32)), (.int (0 : Int32)), (.int (0 : Int32)), (.int (0 : Int32)), (.int (0 : Int32)), (.int (0 : Int32)), (.int (0 : Int32)), (.int (0 : Int32)), (.int (0 : Int32)), (.int (0 : Int32)), (.int (0 : Int32)), (.int (0 : Int32)), (.int (0 : Int32)), (.int (0 : Int32)), (.int (0 : Int32)), (.int (0 : Int32)), (.int (0 : Int32)), (.int (0 : Int32)), (.int (0 : Int32))] := ((V19.other W24 (Ne.symm ne_va_b19)).keep K38 (ninS (Ne.symm ne_va_b19) nin0))
  have f44 : n0 ≤ T38.heap.size := (Nat.le_trans f37 K38.1)
  have f45 : Keep h0 T38.heap [va] := (((f21.ext E19).wr W24 (Or.inl (List.mem_of_getElem? (i := 0) rfl))).trans K38 (allS (Or.inl (List.mem_of_getElem? (i := 0) rfl)) all0))
  obtain ⟨T41, h41, k41, X41, e41, E41, A41, st41⟩ := newP X40 hx hZ (hw _ (mw 38 rfl)) e40 (g := (mkF m 59 #[.val (.ref va), .val (.int uc), .val (.int (1 : Int32))] [(.int (18 : Int32)), (.ref va)])) rfl (hb hby d1_59) rfl (by decide) (cap := 18) (by decide) (by decide) (by decide) (by decide)
  obtain ⟨b41, g41⟩ : ∃ z, z = T38.heap.size := ⟨_, rfl⟩
  rw [← g41] at A41 st41
  have ne_va_b41 : va ≠ b41 := Nat.ne_of_lt (Nat.lt_of_lt_of_le f42.lt (Nat.le_of_eq g41.symm))
  have ne_b19_b41 : b19 ≠ b41 := Nat.ne_of_lt (Nat.lt_of_lt_of_le f43.lt (Nat.le_of_eq g41.symm))
  have g_b41 : n0 ≤ b41 := Nat.le_trans f44 (Nat.le_of_eq g41.symm)
  have sz_b41 : h0.size ≤ b41 := Nat.le_trans f45.1 (Nat.le_of_eq g41.symm)
  have V41 : Ary Z h41 b41 .long [(.long (0 : Int64)), (.long (0 : Int64)), (.long (0 : Int64)), (.long (0 : Int64)), (.long (0 : Int64)), (.long (0 : Int64)), (.long (0 : Int64)), (.long (0 : Int64)), (.long (0 : Int64)), (.long (0 : Int64)), (.long (0 : Int64)), (.long (0 : Int64)), (.long (0 : Int64)), (.long (0 : Int64)), (.long (0 : Int64)), (.long (0 : Int64)), (.long (0 : Int64)), (.long (0 : Int64))] := Ary.new A41 rfl
  refine Goal.to (B := T41.setTop (mkF m 61 #[.val (.ref va), .val (.int uc), .val (.int (1 : Int32))] [(.ref b41), (.ref va)])) st41 ?_
  have f46 : Fld Z h41 va "com/example/deferra/deferra/engine/Identities" "rows" "[J" .null := (P38_10.ext E41)
  have f47 : Exa Z h41 va "com/example/deferra/deferra/engine/Identities" := (f42.ext E41)
  obtain ⟨T48, h48, X48, e48, W48, st48⟩ := putF X41 hx hZ hown (host := "") (Or.inl (hw _ (mw 39 rfl))) Via.refl e41 f46 f47 (Or.inl (hw _ (mw 40 rfl))) (hw _ (mw 1 rfl)) (ty := (.array .long)) (by decide) rfl rfl (g := (mkF m 61 #[.val (.ref va), .val (.int uc), .val (.int (1 : Int32))] [(.ref b41), (.ref va)])) rfl rfl (hb hby d1_61)
  have Fw48 : Fld Z h48 va "com/example/deferra/deferra/engine/Identities" "rows" "[J" (.ref b41) := f46.same W48
  have N48 := Fr.snoc X48 N38 g_va
  refine Goal.to (B := T48.setTop (mkF m 64 #[.val (.ref va), .val (.int uc), .val (.int (1 : Int32))] [])) st48 ?_
  refine Goal.to (B := T48.setTop (mkF m 65 #[.val (.ref va), .val (.int uc), .val (.int (1 : Int32))] [(.ref va)])) (fun tt kk => ?_) ?_
  · show Steps p.tables e below (T48.setTop (mkF m 64 #[.val (.ref va), .val (.int uc), .val (.int (1 : Int32))] [])) tt
    refine XS.aloadN X48.here hx rfl (hb hby d1_64) rfl rfl ?_
    exact kk
  have f49 : Fld Z h48 va "com/example/deferra/deferra/engine/Identities" "ints" "[I" (.ref b19) := ((P38_5.ext E41).other W48 (Or.inr (slot_ne (Or.inl (hw _ (mw 25 rfl))) (Or.inl (hw _ (mw 40 rfl))) (by decide) (t := (.array .int)) (t' := (.array .long)) (by decide) (by decide))))
  obtain ⟨T50, X50, e50, st50⟩ := getF X48 hx hZ hown (host := "") (Or.inl (hw _ (mw 24 rfl))) Via.refl e48 f49 (g := (mkF m 65 #[.val (.ref va), .val (.int uc), .val (.int (1 : Int32))] [(.ref va)])) rfl rfl (hb hby d1_65)
  refine Goal.to (B := T50.setTop (mkF m 68 #[.val (.ref va), .val (.int uc), .val (.int (1 : Int32))] [(.ref b19)])) st50 ?_
  refine Goal.to (B := T50.setTop (mkF m 69 #[.val (.ref va), .val (.int uc), .val (.int (1 : Int32))] [(.ref va), (.ref b19)])) (fun tt kk => ?_) ?_
  · show Steps p.tables e below (T50.setTop (mkF m 68 #[.val (.ref va), .val (.int uc), .val (.int (1 : Int32))] [(.ref b19)])) tt
    refine XS.aloadN X50.here hx rfl (hb hby d1_68) rfl rfl ?_
    exact kk
  have f51 : Fld Z h48 va "com/example/deferra/deferra/engine/Identities" "numberAt" "I" (.int (16 : Int32)) := ((P38_6.ext E41).other W48 (Or.inr (slot_ne (Or.inl (hw _ (mw 31 rfl))) (Or.inl (hw _ (mw 40 rfl))) (by decide) (t := .int) (t' := (.array .long)) (by decide) (by decide))))
  obtain ⟨T52, X52, e52, st52⟩ := getF X50 hx hZ hown (host := "") (Or.inl (hw _ (mw 30 rfl))) Via.refl e50 f51 (g := (mkF m 69 #[.val (.ref va), .val (.int uc), .val (.int (1 : Int32))] [(.ref va), (.ref b19)])) rfl rfl (hb hby d1_69)
  refine Goal.to (B := T52.setTop (mkF m 72 #[.val (.ref va), .val (.int uc), .val (.int (1 : Int32))] [(.int (16 : Int32)), (.ref b19)])) st52 ?_
  refine Goal.to (B := T52.setTop (mkF m 75 #[.val (.ref va), .val (.int uc), .val (.int (1 : Int32))] [(.int (-1 : Int32)), (.int (16 : Int32)), (.ref b19)])) (fun tt kk => ?_) ?_
  · show Steps p.tables e below (T52.setTop (mkF m 72 #[.val (.ref va), .val (.int uc), .val (.int (1 : Int32))] [(.int (16 : Int32)), (.ref b19)])) tt
    refine XS.iconst X52.here hx rfl (hb hby d1_72) ?_
    show Steps p.tables e below (T52.setTop (mkF m 73 #[.val (.ref va), .val (.int uc), .val (.int (1 : Int32))] [(.int (0 : Int32)), (.int (16 : Int32)), (.ref b19)])) tt
    refine XS.iadd X52.here hx rfl (hb hby d1_73) rfl ?_
    show Steps p.tables e below (T52.setTop (mkF m 74 #[.val (.ref va), .val (.int uc), .val (.int (1 : Int32))] [(.int (16 : Int32)), (.ref b19)])) tt
    refine XS.iconst X52.here hx rfl (hb hby d1_74) ?_
    exact kk
  have f53 : Ary Z h48 b19 .int [(.int (0 : Int32)), (.int (0 : Int32)), (.int (0 : Int32)), (.int (0 : Int32)), (.int (0 : Int32)), (.int (0 : Int32)), (.int (0 : Int32)), (.int (0 : Int32)), (.int (0 : Int32)), (.int (0 : Int32)), (.int (0 : Int32)), (.int (0 : Int32)), (.int (0 : Int32)), (.int (0 : Int32)), (.int (0 : Int32)), (.int (0 : Int32)), (.int (0 : Int32)), (.int (0 : Int32)), (.int (0 : Int32)), (.int (0 : Int32)), (.int (0 : Int32)), (.int (0 : Int32)), (.int (0 : Int32)), (.int (0 : Int32)), (.int (0 : Int32)), (.int (0 : Int32)), (.int (0 : Int32)), (.int (0 : Int32)), (.int (0 : Int32)), (.int (0 : Int32)), (.int (0 : Int32)), (.int (0 : Int32)), (.int (0 : Int32)), (.int (0 : Int32)), (.int (0 : Int32)), (.int (0 : Int32)), (.int (0 : Int32)), (.int (0 : Int32)), (.int (0 : Int32)), (.int (0 : Int32)), (.int (0 : Int32)), (.int (0 : Int32)), (.int (0 : Int32)), (.int (0 : Int32)), (.int (0 : Int32)), (.int (0 : Int32)), (.int (0 : Int32)), (.int (0 : Int32)), (.int (0 : Int32)), (.int (0 : Int32)), (.int (0 : Int32)), (.int (0 : Int32)), (.int (0 : Int32)), (.int (0 : Int32)), (.int (0 : Int32)), (.int (0 : Int32)), (.int (0 : Int32)), (.int (0 : Int32)), (.int (0 : Int32)), (.int (0 : Int32)), (.int (0 : Int32)), (.int (0 : Int32)), (.int (0 : Int32)), (.int (0 : Int32)), (.int (0 : Int32)), (.int (0 : Int32)), (.int (0 : Int32)), (.int (0 : Int32)), (.int (0 : Int32)), (.int (0 : Int32)), (.int (0 : Int32)), (.int (0 : Int32)), (.int (0 : Int32)), (.int (0 : Int32)), (.int (0 : Int32)), (.int (0 : Int32)), (.int (0 : Int32)), (.int (0 : Int32)), (.int (0 : Int32)), (.int (0 : Int32)), (.int (0 : Int32))] := ((f43.ext E41).other W48 (Ne.symm ne_va_b19))
  obtain ⟨cl54, Ar54, Sl54⟩ := id f53
  have hin54 := inA (cl := cl54) Sl54 (j := (16 : Int32)) (by decide) (Nat.le_of_ble_eq_true rfl)
  obtain ⟨T54, h54, X54, e54, W54, st54⟩ := stI X52 hx hZ e52 Ar54 (j := (16 : Int32)) hin54 (g := (mkF m 75 #[.val (.ref va), .val (.int uc), .val (.int (1 : Int32))] [(.int (-1 : Int32)), (.int (16 : Int32)), (.ref b19)])) rfl rfl (hb hby d1_75)
  have V54 : Ary Z h54 b19 .int [(.int (0 : Int32)), (.int (0 : Int32)), (.int (0 : Int32)), (.int (0 : Int32)), (.int (0 : Int32)), (.int (0 : Int32)), (.int (0 : Int32)), (.int (0 : Int32)), (.int (0 : Int32)), (.int (0 : Int32)), (.int (0 : Int32)), (.int (0 : Int32)), (.int (0 : Int32)), (.int (0 : Int32)), (.int (0 : Int32)), (.int (0 : Int32)), (.int (-1 : Int32)), (.int (0 : Int32)), (.int (0 : Int32)), (.int (0 : Int32)), (.int (0 : Int32)), (.int (0 : Int32)), (.int (0 : Int32)), (.int (0 : Int32)), (.int (0 : Int32)), (.int (0 : Int32)), (.int (0 : Int32)), (.int (0 : Int32)), (.int (0 : Int32)), (.int (0 : Int32)), (.int (0 : Int32)), (.int (0 : Int32)), (.int (0 : Int32)), (.int (0 : Int32)), (.int (0 : Int32)), (.int (0 : Int32)), (.int (0 : Int32)), (.int (0 : Int32)), (.int (0 : Int32)), (.int (0 : Int32)), (.int (0 : Int32)), (.int (0 : Int32)), (.int (0 : Int32)), (.int (0 : Int32)), (.int (0 : Int32)), (.int (0 : Int32)), (.int (0 : Int32)), (.int (0 : Int32)), (.int (0 : Int32)), (.int (0 : Int32)), (.int (0 : Int32)), (.int (0 : Int32)), (.int (0 : Int32)), (.int (0 : Int32)), (.int (0 : Int32)), (.int (0 : Int32)), (.int (0 : Int32)), (.int (0 : Int32)), (.int (0 : Int32)), (.int (0 : Int32)), (.int (0 : Int32)), (.int (0 : Int32)), (.int (0 : Int32)), (.int (0 : Int32)), (.int (0 : Int32)), (.int (0 : Int32)), (.int (0 : Int32)), (.int (0 : Int32)), (.int (0 : Int32)), (.int (0 : Int32)), (.int (0 : Int32)), (.int (0 : Int32)), (.int (0 : Int32)), (.int (0 : Int32)), (.int (0 : Int32)), (.int (0 : Int32)), (.int (0 : Int32)), (.int (0 : Int32)), (.int (0 : Int32)), (.int (0 : Int32)), (.int (0 : Int32))] := Ary.put Ar54 Sl54 W54 rfl
  have N54 := Fr.snoc X54 N48 g_b19
  refine Goal.to (B := T54.setTop (mkF m 76 #[.val (.ref va), .val (.int uc), .val (.int (1 : Int32))] [])) st54 ?_
  refine Goal.to (B := T54.setTop (mkF m 77 #[.val (.ref va), .val (.int uc), .val (.int (1 : Int32))] [(.ref va)])) (fun tt kk => ?_) ?_
  · show Steps p.tables e below (T54.setTop (mkF m 76 #[.val (.ref va), .val (.int uc), .val (.int (1 : Int32))] [])) tt
    refine XS.aloadN X54.here hx rfl (hb hby d1_76) rfl rfl ?_
    exact kk
  have f55 : Fld Z h54 va "com/example/deferra/deferra/engine/Identities" "ints" "[I" (.ref b19) := (f49.other W54 (Or.inl ne_va_b19))
  obtain ⟨T56, X56, e56, st56⟩ := getF X54 hx hZ hown (host := "") (Or.inl (hw _ (mw 24 rfl))) Via.refl e54 f55 (g := (mkF m 77 #[.val (.ref va), .val (.int uc), .val (.int (1 : Int32))] [(.ref va)])) rfl rfl (hb hby d1_77)
  refine Goal.to (B := T56.setTop (mkF m 80 #[.val (.ref va), .val (.int uc), .val (.int (1 : Int32))] [(.ref b19)])) st56 ?_
  refine Goal.to (B := T56.setTop (mkF m 81 #[.val (.ref va), .val (.int uc), .val (.int (1 : Int32))] [(.ref va), (.ref b19)])) (fun tt kk => ?_) ?_
  · show Steps p.tables e below (T56.setTop (mkF m 80 #[.val (.ref va), .val (.int uc), .val (.int (1 : Int32))] [(.ref b19)])) tt
    refine XS.aloadN X56.here hx rfl (hb hby d1_80) rfl rfl ?_
    exact kk
  have f57 : Fld Z h54 va "com/example/deferra/deferra/engine/Identities" "colourAt" "I" (.int (32 : Int32)) := (((P38_7.ext E41).other W48 (Or.inr (slot_ne (Or.inl (hw _ (mw 33 rfl))) (Or.inl (hw _ (mw 40 rfl))) (by decide) (t := .int) (t' := (.array .long)) (by decide) (by decide)))).other W54 (Or.inl ne_va_b19))
  obtain ⟨T58, X58, e58, st58⟩ := getF X56 hx hZ hown (host := "") (Or.inl (hw _ (mw 32 rfl))) Via.refl e56 f57 (g := (mkF m 81 #[.val (.ref va), .val (.int uc), .val (.int (1 : Int32))] [(.ref va), (.ref b19)])) rfl rfl (hb hby d1_81)
  refine Goal.to (B := T58.setTop (mkF m 84 #[.val (.ref va), .val (.int uc), .val (.int (1 : Int32))] [(.int (32 : Int32)), (.ref b19)])) st58 ?_
  refine Goal.to (B := T58.setTop (mkF m 87 #[.val (.ref va), .val (.int uc), .val (.int (1 : Int32))] [(.int (-1 : Int32)), (.int (32 : Int32)), (.ref b19)])) (fun tt kk => ?_) ?_
  · show Steps p.tables e below (T58.setTop (mkF m 84 #[.val (.ref va), .val (.int uc), .val (.int (1 : Int32))] [(.int (32 : Int32)), (.ref b19)])) tt
    refine XS.iconst X58.here hx rfl (hb hby d1_84) ?_
    show Steps p.tables e below (T58.setTop (mkF m 85 #[.val (.ref va), .val (.int uc), .val (.int (1 : Int32))] [(.int (0 : Int32)), (.int (32 : Int32)), (.ref b19)])) tt
    refine XS.iadd X58.here hx rfl (hb hby d1_85) rfl ?_
    show Steps p.tables e below (T58.setTop (mkF m 86 #[.val (.ref va), .val (.int uc), .val (.int (1 : Int32))] [(.int (32 : Int32)), (.ref b19)])) tt
    refine XS.iconst X58.here hx rfl (hb hby d1_86) ?_
    exact kk
  obtain ⟨cl59, Ar59, Sl59⟩ := id V54
  have hin59 := inA (cl := cl59) Sl59 (j := (32 : Int32)) (by decide) (Nat.le_of_ble_eq_true rfl)
  obtain ⟨T59, h59, X59, e59, W59, st59⟩ := stI X58 hx hZ e58 Ar59 (j := (32 : Int32)) hin59 (g := (mkF m 87 #[.val (.ref va), .val (.int uc), .val (.int (1 : Int32))] [(.int (-1 : Int32)), (.int (32 : Int32)), (.ref b19)])) rfl rfl (hb hby d1_87)
  have V59 : Ary Z h59 b19 .int [(.int (0 : Int32)), (.int (0 : Int32)), (.int (0 : Int32)), (.int (0 : Int32)), (.int (0 : Int32)), (.int (0 : Int32)), (.int (0 : Int32)), (.int (0 : Int32)), (.int (0 : Int32)), (.int (0 : Int32)), (.int (0 : Int32)), (.int (0 : Int32)), (.int (0 : Int32)), (.int (0 : Int32)), (.int (0 : Int32)), (.int (0 : Int32)), (.int (-1 : Int32)), (.int (0 : Int32)), (.int (0 : Int32)), (.int (0 : Int32)), (.int (0 : Int32)), (.int (0 : Int32)), (.int (0 : Int32)), (.int (0 : Int32)), (.int (0 : Int32)), (.int (0 : Int32)), (.int (0 : Int32)), (.int (0 : Int32)), (.int (0 : Int32)), (.int (0 : Int32)), (.int (0 : Int32)), (.int (0 : Int32)), (.int (-1 : Int32)), (.int (0 : Int32)), (.int (0 : Int32)), (.int (0 : Int32)), (.int (0 : Int32)), (.int (0 : Int32)), (.int (0 : Int32)), (.int (0 : Int32)), (.int (0 : Int32)), (.int (0 : Int32)), (.int (0 : Int32)), (.int (0 : Int32)), (.int (0 : Int32)), (.int (0 : Int32)), (.int (0 : Int32)), (.int (0 : Int32)), (.int (0 : Int32)), (.int (0 : Int32)), (.int (0 : Int32)), (.int (0 : Int32)), (.int (0 : Int32)), (.int (0 : Int32)), (.int (0 : Int32)), (.int (0 : Int32)), (.int (0 : Int32)), (.int (0 : Int32)), (.int (0 : Int32)), (.int (0 : Int32)), (.int (0 : Int32)), (.int (0 : Int32)), (.int (0 : Int32)), (.int (0 : Int32)), (.int (0 : Int32)), (.int (0 : Int32)), (.int (0 : Int32)), (.int (0 : Int32)), (.int (0 : Int32)), (.int (0 : Int32)), (.int (0 : Int32)), (.int (0 : Int32)), (.int (0 : Int32)), (.int (0 : Int32)), (.int (0 : Int32)), (.int (0 : Int32)), (.int (0 : Int32)), (.int (0 : Int32)), (.int (0 : Int32)), (.int (0 : Int32)), (.int (0 : Int32))] := Ary.put Ar59 Sl59 W59 rfl
  have N59 := Fr.snoc X59 N54 g_b19
  refine Goal.to (B := T59.setTop (mkF m 88 #[.val (.ref va), .val (.int uc), .val (.int (1 : Int32))] [])) st59 ?_
  have f60 : Keep h0 h59 [va] := ((((f45.ext E41).wr W48 (Or.inl (List.mem_of_getElem? (i := 0) rfl))).wr W54 (Or.inr sz_b19)).wr W59 (Or.inr sz_b19))
  have f61 : Fld Z h59 va "com/example/deferra/deferra/engine/Identities" "count" "I" (.int (1 : Int32)) := ((((P38_0.ext E41).other W48 (Or.inr (slot_ne (Or.inl (hw _ (mw 11 rfl))) (Or.inl (hw _ (mw 40 rfl))) (by decide) (t := .int) (t' := (.array .long)) (by decide) (by decide)))).other W54 (Or.inl ne_va_b19)).other W59 (Or.inl ne_va_b19))
  have f62 : Fld Z h59 va "com/example/deferra/deferra/engine/Identities" "slots" "I" (.int (16 : Int32)) := ((((P38_1.ext E41).other W48 (Or.inr (slot_ne (Or.inl (hw _ (mw 13 rfl))) (Or.inl (hw _ (mw 40 rfl))) (by decide) (t := .int) (t' := (.array .long)) (by decide) (by decide)))).other W54 (Or.inl ne_va_b19)).other W59 (Or.inl ne_va_b19))
  have f63 : Fld Z h59 va "com/example/deferra/deferra/engine/Identities" "words" "I" (.int (1 : Int32)) := ((((P38_2.ext E41).other W48 (Or.inr (slot_ne (Or.inl (hw _ (mw 15 rfl))) (Or.inl (hw _ (mw 40 rfl))) (by decide) (t := .int) (t' := (.array .long)) (by decide) (by decide)))).other W54 (Or.inl ne_va_b19)).other W59 (Or.inl ne_va_b19))
  have f64 : Fld Z h59 va "com/example/deferra/deferra/engine/Identities" "capacity" "I" (.int uc) := ((((P38_3.ext E41).other W48 (Or.inr (slot_ne (Or.inr (hw _ (mw 17 rfl))) (Or.inl (hw _ (mw 40 rfl))) (by decide) (t := .int) (t' := (.array .long)) (by decide) (by decide)))).other W54 (Or.inl ne_va_b19)).other W59 (Or.inl ne_va_b19))
  have f65 : Fld Z h59 va "com/example/deferra/deferra/engine/Identities" "nullAllowed" "Z" (.int (1 : Int32)) := ((((P38_4.ext E41).other W48 (Or.inr (slot_ne (Or.inr (hw _ (mw 19 rfl))) (Or.inl (hw _ (mw 40 rfl))) (by decide) (t := .boolean) (t' := (.array .long)) (by decide) (by decide)))).other W54 (Or.inl ne_va_b19)).other W59 (Or.inl ne_va_b19))
  have f66 : Fld Z h59 va "com/example/deferra/deferra/engine/Identities" "ints" "[I" (.ref b19) := (f55.other W59 (Or.inl ne_va_b19))
  have f67 : Fld Z h59 va "com/example/deferra/deferra/engine/Identities" "numberAt" "I" (.int (16 : Int32)) := ((f51.other W54 (Or.inl ne_va_b19)).other W59 (Or.inl ne_va_b19))
  have f68 : Fld Z h59 va "com/example/deferra/deferra/engine/Identities" "colourAt" "I" (.int (32 : Int32)) := (f57.other W59 (Or.inl ne_va_b19))
  have f69 : Fld Z h59 va "com/example/deferra/deferra/engine/Identities" "madeAt" "I" (.int (48 : Int32)) := ((((P38_8.ext E41).other W48 (Or.inr (slot_ne (Or.inl (hw _ (mw 35 rfl))) (Or.inl (hw _ (mw 40 rfl))) (by decide) (t := .int) (t' := (.array .long)) (by decide) (by decide)))).other W54 (Or.inl ne_va_b19)).other W59 (Or.inl ne_va_b19))
  have f70 : Fld Z h59 va "com/example/deferra/deferra/engine/Identities" "holdersAt" "I" (.int (64 : Int32)) := ((((P38_9.ext E41).other W48 (Or.inr (slot_ne (Or.inl (hw _ (mw 37 rfl))) (Or.inl (hw _ (mw 40 rfl))) (by decide) (t := .int) (t' := (.array .long)) (by decide) (by decide)))).other W54 (Or.inl ne_va_b19)).other W59 (Or.inl ne_va_b19))
  have f71 : Fld Z h59 va "com/example/deferra/deferra/engine/Identities" "rows" "[J" (.ref b41) := ((Fw48.other W54 (Or.inl ne_va_b19)).other W59 (Or.inl ne_va_b19))
  have f72 : Fld Z h59 va "com/example/deferra/deferra/engine/Identities" "openCount" "I" (.int (0 : Int32)) := ((((P38_11.ext E41).other W48 (Or.inr (slot_ne (Or.inl (hw _ (mw 47 rfl))) (Or.inl (hw _ (mw 40 rfl))) (by decide) (t := .int) (t' := (.array .long)) (by decide) (by decide)))).other W54 (Or.inl ne_va_b19)).other W59 (Or.inl ne_va_b19))
  have f73 : Ary Z h59 b41 .long [(.long (0 : Int64)), (.long (0 : Int64)), (.long (0 : Int64)), (.long (0 : Int64)), (.long (0 : Int64)), (.long (0 : Int64)), (.long (0 : Int64)), (.long (0 : Int64)), (.long (0 : Int64)), (.long (0 : Int64)), (.long (0 : Int64)), (.long (0 : Int64)), (.long (0 : Int64)), (.long (0 : Int64)), (.long (0 : Int64)), (.long (0 : Int64)), (.long (0 : Int64)), (.long (0 : Int64))] := (((V41.other W48 (Ne.symm ne_va_b41)).other W54 (Ne.symm ne_b19_b41)).other W59 (Ne.symm ne_b19_b41))
  exact Goal.retN X59 hx Bd.returns (hb hby d1_88) hlk e59 ⟨b19, b41, rfl, N59, f60, sz_b19, sz_b41, ne_b19_b41, f61, f62, f63, f64, f65, f66, f67, f68, f69, f70, f71, f72, V59, f73⟩ (by decide) (by decide)
theorem ef_5 (m : MethodId) (x0 : Addr) (x1 : Int32)  : entryFrame m #[(.ref x0), (.int x1)] 6 = mkF m 0 #[.val (.ref x0), .val (.int x1), .unset, .unset, .unset, .unset] [] := by first | (simp [entryFrame, mkF, argsToLocals, Value.category]; done) | rfl
theorem pn_5 : plainName "com/example/deferra/deferra/engine/Identities" = true := by first | (simp [plainName, overriddenIn]; done) | decide +kernel
theorem d5_0 : decode prog_18_method_4_code 0 = .ok (.aload_n 0, 1) := by decide +kernel
theorem d5_1 : decode prog_18_method_4_code 1 = .ok (.getfield 7, 3) := by decide +kernel
theorem d5_4 : decode prog_18_method_4_code 4 = .ok (.aload_n 0, 1) := by decide +kernel
theorem d5_5 : decode prog_18_method_4_code 5 = .ok (.getfield 13, 3) := by decide +kernel
theorem d5_8 : decode prog_18_method_4_code 8 = .ok (.if_icmp .ne 7, 3) := by decide +kernel
theorem d5_15 : decode prog_18_method_4_code 15 = .ok (.aload_n 0, 1) := by decide +kernel
theorem d5_16 : decode prog_18_method_4_code 16 = .ok (.getfield 7, 3) := by decide +kernel
theorem d5_19 : decode prog_18_method_4_code 19 = .ok (.aload_n 0, 1) := by decide +kernel
theorem d5_20 : decode prog_18_method_4_code 20 = .ok (.getfield 16, 3) := by decide +kernel
theorem d5_23 : decode prog_18_method_4_code 23 = .ok (.bipush 64, 2) := by decide +kernel
theorem d5_25 : decode prog_18_method_4_code 25 = .ok (.imul, 1) := by decide +kernel
theorem d5_26 : decode prog_18_method_4_code 26 = .ok (.if_icmp .ne 7, 3) := by decide +kernel
theorem d5_33 : decode prog_18_method_4_code 33 = .ok (.aload_n 0, 1) := by decide +kernel
theorem d5_34 : decode prog_18_method_4_code 34 = .ok (.dup, 1) := by decide +kernel
theorem d5_35 : decode prog_18_method_4_code 35 = .ok (.getfield 7, 3) := by decide +kernel
theorem d5_38 : decode prog_18_method_4_code 38 = .ok (.dup_x1, 1) := by decide +kernel
theorem d5_39 : decode prog_18_method_4_code 39 = .ok (.iconst 1, 1) := by decide +kernel
theorem d5_40 : decode prog_18_method_4_code 40 = .ok (.iadd, 1) := by decide +kernel
theorem d5_41 : decode prog_18_method_4_code 41 = .ok (.putfield 7, 3) := by decide +kernel
theorem d5_44 : decode prog_18_method_4_code 44 = .ok (.istore_n 2, 1) := by decide +kernel
theorem d5_45 : decode prog_18_method_4_code 45 = .ok (.aload_n 0, 1) := by decide +kernel
theorem d5_46 : decode prog_18_method_4_code 46 = .ok (.getfield 30, 3) := by decide +kernel
theorem d5_49 : decode prog_18_method_4_code 49 = .ok (.iload_n 2, 1) := by decide +kernel
theorem d5_50 : decode prog_18_method_4_code 50 = .ok (.iload_n 2, 1) := by decide +kernel
theorem d5_51 : decode prog_18_method_4_code 51 = .ok (.iastore, 1) := by decide +kernel
theorem d5_52 : decode prog_18_method_4_code 52 = .ok (.aload_n 0, 1) := by decide +kernel
theorem d5_53 : decode prog_18_method_4_code 53 = .ok (.getfield 30, 3) := by decide +kernel
theorem d5_56 : decode prog_18_method_4_code 56 = .ok (.aload_n 0, 1) := by decide +kernel
theorem d5_57 : decode prog_18_method_4_code 57 = .ok (.getfield 41, 3) := by decide +kernel
theorem d5_60 : decode prog_18_method_4_code 60 = .ok (.iload_n 2, 1) := by decide +kernel
theorem d5_61 : decode prog_18_method_4_code 61 = .ok (.iadd, 1) := by decide +kernel
theorem d5_62 : decode prog_18_method_4_code 62 = .ok (.bipush (-2), 2) := by decide +kernel
theorem d5_64 : decode prog_18_method_4_code 64 = .ok (.iastore, 1) := by decide +kernel
theorem d5_65 : decode prog_18_method_4_code 65 = .ok (.iload_n 1, 1) := by decide +kernel
theorem d5_66 : decode prog_18_method_4_code 66 = .ok (.ifCond .eq 76, 3) := by decide +kernel
theorem d5_142 : decode prog_18_method_4_code 142 = .ok (.aload_n 0, 1) := by decide +kernel
theorem d5_143 : decode prog_18_method_4_code 143 = .ok (.getfield 22, 3) := by decide +kernel
theorem d5_146 : decode prog_18_method_4_code 146 = .ok (.ifCond .eq 8, 3) := by decide +kernel
theorem d5_149 : decode prog_18_method_4_code 149 = .ok (.iconst (-1), 1) := by decide +kernel
theorem d5_150 : decode prog_18_method_4_code 150 = .ok (.istore_n 3, 1) := by decide +kernel
theorem d5_151 : decode prog_18_method_4_code 151 = .ok (.goto 11, 3) := by decide +kernel
theorem d5_162 : decode prog_18_method_4_code 162 = .ok (.aload_n 0, 1) := by decide +kernel
theorem d5_163 : decode prog_18_method_4_code 163 = .ok (.getfield 37, 3) := by decide +kernel
theorem d5_166 : decode prog_18_method_4_code 166 = .ok (.iconst 0, 1) := by decide +kernel
theorem d5_167 : decode prog_18_method_4_code 167 = .ok (.aload_n 0, 1) := by decide +kernel
theorem d5_168 : decode prog_18_method_4_code 168 = .ok (.getfield 16, 3) := by decide +kernel
theorem d5_171 : decode prog_18_method_4_code 171 = .ok (.imul, 1) := by decide +kernel
theorem d5_172 : decode prog_18_method_4_code 172 = .ok (.iload_n 2, 1) := by decide +kernel
theorem d5_173 : decode prog_18_method_4_code 173 = .ok (.bipush 6, 2) := by decide +kernel
theorem d5_175 : decode prog_18_method_4_code 175 = .ok (.iushr, 1) := by decide +kernel
theorem d5_176 : decode prog_18_method_4_code 176 = .ok (.iadd, 1) := by decide +kernel
theorem d5_177 : decode prog_18_method_4_code 177 = .ok (.dup2, 1) := by decide +kernel
theorem d5_178 : decode prog_18_method_4_code 178 = .ok (.laload, 1) := by decide +kernel
theorem d5_179 : decode prog_18_method_4_code 179 = .ok (.lconst 1, 1) := by decide +kernel
theorem d5_180 : decode prog_18_method_4_code 180 = .ok (.iload_n 2, 1) := by decide +kernel
theorem d5_181 : decode prog_18_method_4_code 181 = .ok (.lshl, 1) := by decide +kernel
theorem d5_182 : decode prog_18_method_4_code 182 = .ok (.lor, 1) := by decide +kernel
theorem d5_183 : decode prog_18_method_4_code 183 = .ok (.lastore, 1) := by decide +kernel
theorem d5_184 : decode prog_18_method_4_code 184 = .ok (.aload_n 0, 1) := by decide +kernel
theorem d5_185 : decode prog_18_method_4_code 185 = .ok (.dup, 1) := by decide +kernel
theorem d5_186 : decode prog_18_method_4_code 186 = .ok (.getfield 57, 3) := by decide +kernel
theorem d5_189 : decode prog_18_method_4_code 189 = .ok (.iconst 1, 1) := by decide +kernel
theorem d5_190 : decode prog_18_method_4_code 190 = .ok (.iadd, 1) := by decide +kernel
theorem d5_191 : decode prog_18_method_4_code 191 = .ok (.putfield 57, 3) := by decide +kernel
theorem d5_194 : decode prog_18_method_4_code 194 = .ok (.aload_n 0, 1) := by decide +kernel
theorem d5_195 : decode prog_18_method_4_code 195 = .ok (.getfield 30, 3) := by decide +kernel
theorem d5_198 : decode prog_18_method_4_code 198 = .ok (.aload_n 0, 1) := by decide +kernel
theorem d5_199 : decode prog_18_method_4_code 199 = .ok (.getfield 44, 3) := by decide +kernel
theorem d5_202 : decode prog_18_method_4_code 202 = .ok (.iload_n 2, 1) := by decide +kernel
theorem d5_203 : decode prog_18_method_4_code 203 = .ok (.iadd, 1) := by decide +kernel
theorem d5_204 : decode prog_18_method_4_code 204 = .ok (.iload_n 3, 1) := by decide +kernel
theorem d5_205 : decode prog_18_method_4_code 205 = .ok (.iastore, 1) := by decide +kernel
theorem d5_206 : decode prog_18_method_4_code 206 = .ok (.aload_n 0, 1) := by decide +kernel
theorem d5_207 : decode prog_18_method_4_code 207 = .ok (.getfield 30, 3) := by decide +kernel
theorem d5_210 : decode prog_18_method_4_code 210 = .ok (.aload_n 0, 1) := by decide +kernel
theorem d5_211 : decode prog_18_method_4_code 211 = .ok (.getfield 93, 3) := by decide +kernel
theorem d5_214 : decode prog_18_method_4_code 214 = .ok (.iload_n 3, 1) := by decide +kernel
theorem d5_215 : decode prog_18_method_4_code 215 = .ok (.iadd, 1) := by decide +kernel
theorem d5_216 : decode prog_18_method_4_code 216 = .ok (.iconst 1, 1) := by decide +kernel
theorem d5_217 : decode prog_18_method_4_code 217 = .ok (.iadd, 1) := by decide +kernel
theorem d5_218 : decode prog_18_method_4_code 218 = .ok (.dup2, 1) := by decide +kernel
theorem d5_219 : decode prog_18_method_4_code 219 = .ok (.iaload, 1) := by decide +kernel
theorem d5_220 : decode prog_18_method_4_code 220 = .ok (.iconst 1, 1) := by decide +kernel
theorem d5_221 : decode prog_18_method_4_code 221 = .ok (.iadd, 1) := by decide +kernel
theorem d5_222 : decode prog_18_method_4_code 222 = .ok (.iastore, 1) := by decide +kernel
theorem d5_223 : decode prog_18_method_4_code 223 = .ok (.iload_n 3, 1) := by decide +kernel
theorem d5_224 : decode prog_18_method_4_code 224 = .ok (.aload_n 0, 1) := by decide +kernel
theorem d5_225 : decode prog_18_method_4_code 225 = .ok (.getfield 19, 3) := by decide +kernel
theorem d5_228 : decode prog_18_method_4_code 228 = .ok (.if_icmp .lt 16, 3) := by decide +kernel
theorem d5_244 : decode prog_18_method_4_code 244 = .ok (.iconst 1, 1) := by decide +kernel
theorem d5_245 : decode prog_18_method_4_code 245 = .ok (.goto 4, 3) := by decide +kernel
theorem d5_249 : decode prog_18_method_4_code 249 = .ok (.istore 4, 2) := by decide +kernel
theorem d5_251 : decode prog_18_method_4_code 251 = .ok (.iload 4, 2) := by decide +kernel
theorem d5_253 : decode prog_18_method_4_code 253 = .ok (.ifCond .eq 7, 3) := by decide +kernel
theorem d5_256 : decode prog_18_method_4_code 256 = .ok (.iload_n 2, 1) := by decide +kernel
theorem d5_257 : decode prog_18_method_4_code 257 = .ok (.goto 4, 3) := by decide +kernel
theorem d5_261 : decode prog_18_method_4_code 261 = .ok (.ireturn, 1) := by decide +kernel
def Qtk1 (Z : State) (va : Addr) (vi : Addr) (vr : Addr) (uc : Int32) (h0 : Heap) (n0 : Nat) (v : Option Value) (h : Heap) (L : List Loc) : Prop := v = some (.int (1 : Int32)) ∧ Fr n0 L ∧ Keep h0 h [va, vi, vr] ∧ Fld Z h va "com/example/deferra/deferra/engine/Identities" "count" "I" (.int (2 : Int32)) ∧ Fld Z h va "com/example/deferra/deferra/engine/Identities" "slots" "I" (.int (16 : Int32)) ∧ Fld Z h va "com/example/deferra/deferra/engine/Identities" "words" "I" (.int (1 : Int32)) ∧ Fld Z h va "com/example/deferra/deferra/engine/Identities" "capacity" "I" (.int uc) ∧ Fld Z h va "com/example/deferra/deferra/engine/Identities" "nullAllowed" "Z" (.int (1 : Int32)) ∧ Fld Z h va "com/example/deferra/deferra/engine/Identities" "ints" "[I" (.ref vi) ∧ Fld Z h va "com/example/deferra/deferra/engine/Identities" "numberAt" "I" (.int (16 : Int32)) ∧ Fld Z h va "com/example/deferra/deferra/engine/Identities" "colourAt" "I" (.int (32 : Int32)) ∧ Fld Z h va "com/example/deferra/deferra/engine/Identities" "madeAt" "I" (.int (48 : Int32)) ∧ Fld Z h va "com/example/deferra/deferra/engine/Identities" "holdersAt" "I" (.int (64 : Int32)) ∧ Fld Z h va "com/example/deferra/deferra/engine/Identities" "rows" "[J" (.ref vr) ∧ Fld Z h va "com/example/deferra/deferra/engine/Identities" "openCount" "I" (.int (1 : Int32)) ∧ Ary Z h vi .int [(.int (0 : Int32)), (.int (1 : Int32)), (.int (0 : Int32)), (.int (0 : Int32)), (.int (0 : Int32)), (.int (0 : Int32)), (.int (0 : Int32)), (.int (0 : Int32)), (.int (0 : Int32)), (.int (0 : Int32)), (.int (0 : Int32)), (.int (0 : Int32)), (.int (0 : Int32)), (.int (0 : Int32)), (.int (0 : Int32)), (.int (0 : Int32)), (.int (-1 : Int32)), (.int (-2 : Int32)), (.int (0 : Int32)), (.int (0 : Int32)), (.int (0 : Int32)), (.int (0 : Int32)), (.int (0 : Int32)), (.int (0 : Int32)), (.int (0 : Int32)), (.int (0 : Int32)), (.int (0 : Int32)), (.int (0 : Int32)), (.int (0 : Int32)), (.int (0 : Int32)), (.int (0 : Int32)), (.int (0 : Int32)), (.int (-1 : Int32)), (.int (-1 : Int32)), (.int (0 : Int32)), (.int (0 : Int32)), (.int (0 : Int32)), (.int (0 : Int32)), (.int (0 : Int32)), (.int (0 : Int32)), (.int (0 : Int32)), (.int (0 : Int32)), (.int (0 : Int32)), (.int (0 : Int32)), (.int (0 : Int32)), (.int (0 : Int32)), (.int (0 : Int32)), (.int (0 : Int32)), (.int (0 : Int32)), (.int (0 : Int32)), (.int (0 : Int32)), (.int (0 : Int32)), (.int (0 : Int32)), (.int (0 : Int32)), (.int (0 : Int32)), (.int (0 : Int32)), (.int (0 : Int32)), (.int (0 : Int32)), (.int (0 : Int32)), (.int (0 : Int32)), (.int (0 : Int32)), (.int (0 : Int32)), (.int (0 : Int32)), (.int (0 : Int32)), (.int (1 : Int32)), (.int (0 : Int32)), (.int (0 : Int32)), (.int (0 : Int32)), (.int (0 : Int32)), (.int (0 : Int32)), (.int (0 : Int32)), (.int (0 : Int32)), (.int (0 : Int32)), (.int (0 : Int32)), (.int (0 : Int32)), (.int (0 : Int32)), (.int (0 : Int32)), (.int (0 : Int32)), (.int (0 : Int32)), (.int (0 : Int32)), (.int (0 : Int32))] ∧ Ary Z h vr .long [(.long (2 : Int64)), (.long (0 : Int64)), (.long (0 : Int64)), (.long (0 : Int64)), (.long (0 : Int64)), (.long (0 : Int64)), (.long (0 : Int64)), (.long (0 : Int64)), (.long (0 : Int64)), (.long (0 : Int64)), (.long (0 : Int64)), (.long (0 : Int64)), (.long (0 : Int64)), (.long (0 : Int64)), (.long (0 : Int64)), (.long (0 : Int64)), (.long (0 : Int64)), (.long (0 : Int64))]
set_option maxRecDepth 65536 in
set_option maxHeartbeats 40000000 in
theorem rmtk1 (l : Launch) (Z : State) (a0 : Array Value) (hw : ∀ d ∈ tables_1, d.before a0 Z = true) (ws : List Jvm.Cond) (va : Addr) (vi : Addr) (vr : Addr) (uc : Int32) (h0 : Heap) (n0 : Nat) (Z0 : n0 ≤ h0.size) (E_va : Exa Z h0 va "com/example/deferra/deferra/engine/Identities") (F_count_va : Fld Z h0 va "com/example/deferra/deferra/engine/Identities" "count" "I" (.int (1 : Int32))) (F_slots_va : Fld Z h0 va "com/example/deferra/deferra/engine/Identities" "slots" "I" (.int (16 : Int32))) (F_words_va : Fld Z h0 va "com/example/deferra/deferra/engine/Identities" "words" "I" (.int (1 : Int32))) (F_capacity_va : Fld Z h0 va "com/example/deferra/deferra/engine/Identities" "capacity" "I" (.int uc)) (F_nullAllowed_va : Fld Z h0 va "com/example/deferra/deferra/engine/Identities" "nullAllowed" "Z" (.int (1 : Int32))) (F_ints_va : Fld Z h0 va "com/example/deferra/deferra/engine/Identities" "ints" "[I" (.ref vi)) (F_numberAt_va : Fld Z h0 va "com/example/deferra/deferra/engine/Identities" "numberAt" "I" (.int (16 : Int32))) (F_colourAt_va : Fld Z h0 va "com/example/deferra/deferra/engine/Identities" "colourAt" "I" (.int (32 : Int32))) (F_madeAt_va : Fld Z h0 va "com/example/deferra/deferra/engine/Identities" "madeAt" "I" (.int (48 : Int32))) (F_holdersAt_va : Fld Z h0 va "com/example/deferra/deferra/engine/Identities" "holdersAt" "I" (.int (64 : Int32))) (F_rows_va : Fld Z h0 va "com/example/deferra/deferra/engine/Identities" "rows" "[J" (.ref vr)) (F_openCount_va : Fld Z h0 va "com/example/deferra/deferra/engine/Identities" "openCount" "I" (.int (0 : Int32))) (V_vi : Ary Z h0 vi .int [(.int (0 : Int32)), (.int (0 : Int32)), (.int (0 : Int32)), (.int (0 : Int32)), (.int (0 : Int32)), (.int (0 : Int32)), (.int (0 : Int32)), (.int (0 : Int32)), (.int (0 : Int32)), (.int (0 : Int32)), (.int (0 : Int32)), (.int (0 : Int32)), (.int (0 : Int32)), (.int (0 : Int32)), (.int (0 : Int32)), (.int (0 : Int32)), (.int (-1 : Int32)), (.int (0 : Int32)), (.int (0 : Int32)), (.int (0 : Int32)), (.int (0 : Int32)), (.int (0 : Int32)), (.int (0 : Int32)), (.int (0 : Int32)), (.int (0 : Int32)), (.int (0 : Int32)), (.int (0 : Int32)), (.int (0 : Int32)), (.int (0 : Int32)), (.int (0 : Int32)), (.int (0 : Int32)), (.int (0 : Int32)), (.int (-1 : Int32)), (.int (0 : Int32)), (.int (0 : Int32)), (.int (0 : Int32)), (.int (0 : Int32)), (.int (0 : Int32)), (.int (0 : Int32)), (.int (0 : Int32)), (.int (0 : Int32)), (.int (0 : Int32)), (.int (0 : Int32)), (.int (0 : Int32)), (.int (0 : Int32)), (.int (0 : Int32)), (.int (0 : Int32)), (.int (0 : Int32)), (.int (0 : Int32)), (.int (0 : Int32)), (.int (0 : Int32)), (.int (0 : Int32)), (.int (0 : Int32)), (.int (0 : Int32)), (.int (0 : Int32)), (.int (0 : Int32)), (.int (0 : Int32)), (.int (0 : Int32)), (.int (0 : Int32)), (.int (0 : Int32)), (.int (0 : Int32)), (.int (0 : Int32)), (.int (0 : Int32)), (.int (0 : Int32)), (.int (0 : Int32)), (.int (0 : Int32)), (.int (0 : Int32)), (.int (0 : Int32)), (.int (0 : Int32)), (.int (0 : Int32)), (.int (0 : Int32)), (.int (0 : Int32)), (.int (0 : Int32)), (.int (0 : Int32)), (.int (0 : Int32)), (.int (0 : Int32)), (.int (0 : Int32)), (.int (0 : Int32)), (.int (0 : Int32)), (.int (0 : Int32)), (.int (0 : Int32))]) (V_vr : Ary Z h0 vr .long [(.long (0 : Int64)), (.long (0 : Int64)), (.long (0 : Int64)), (.long (0 : Int64)), (.long (0 : Int64)), (.long (0 : Int64)), (.long (0 : Int64)), (.long (0 : Int64)), (.long (0 : Int64)), (.long (0 : Int64)), (.long (0 : Int64)), (.long (0 : Int64)), (.long (0 : Int64)), (.long (0 : Int64)), (.long (0 : Int64)), (.long (0 : Int64)), (.long (0 : Int64)), (.long (0 : Int64))]) (g_va : n0 ≤ va) (g_vi : n0 ≤ vi) (g_vr : n0 ≤ vr) (ne_va_vi : va ≠ vi) (ne_va_vr : va ≠ vr) (ne_vi_vr : vi ≠ vr) (hcap : (-1 : Int32) < uc) :
    MetFree l (⟨"com/example/deferra/deferra/engine/Identities", "take", "(Z)I"⟩ : MethodName) (head1 (Jvm.Cond.code (⟨"com/example/deferra/deferra/engine/Identities", "take", "(Z)I"⟩ : MethodName) prog_18_method_4_code 6 (some .int) :: ws) ({ frames := 0, cells := 0, slots := 0, locals := 0 } : Room)) (fun a U => a = #[(.ref va), (.int (0 : Int32))] ∧ Z.Warmed39 U.vm ∧ U.heap = h0) (fun _ _ _ _ _ => True) (fun _ U o U' => ∃ v L, o = .returned v ∧ Qtk1 Z va vi vr uc h0 n0 v U'.heap L ∧ FrameEnd U o U' L 0 0) := by
  refine MetFree.of_bodySF (plainFor_of_name pn_5) hisR ?_
  intro p e s m args below meth c s₁ Bd hml0 hP hK
  obtain ⟨rfl, hZ, hh⟩ := hP
  have hx := Bd.exec
  have hby := Bd.bytes
  have hml : c.maxLocals = 6 := hml0
  have hown : s.vm.findClass "com/example/deferra/deferra/engine/Identities" = some m.cls := findClass_of_methodNamed Bd.named
  have hnm := (name_of_methodNamed Bd.named Bd.method).1
  have X0 : Stand p l e ({ frames := 0, cells := 0, slots := 0, locals := 0 } : Room) s m #[(.ref va), (.int (0 : Int32))] below meth c s₁ [] 0 0 := Stand.of_body Bd
  have e0 : s₁.heap = h0 := by rw [← hh, Bd.state]; rfl
  have N0 := Fr.nil n0
  have hlk : meth.locks = false := BodyLoose.notSynchronized Bd
  show Goal p e below s (Qtk1 Z va vi vr uc h0 n0) 0 0 (s₁.setTop (entryFrame m #[(.ref va), (.int (0 : Int32))] 6))
  refine Goal.to (B := s₁.setTop (mkF m 0 #[.val (.ref va), .val (.int (0 : Int32)), .unset, .unset, .unset, .unset] [])) (fun tt kk => castTop (ef_5 m va (0 : Int32) ) kk) ?_
  refine Goal.to (B := s₁.setTop (mkF m 1 #[.val (.ref va), .val (.int (0 : Int32)), .unset, .unset, .unset, .unset] [(.ref va)])) (fun tt kk => ?_) ?_
  · show Steps p.tables e below (s₁.setTop (mkF m 0 #[.val (.ref va), .val (.int (0 : Int32)), .unset, .unset, .unset, .unset] [])) tt
    refine XS.aloadN X0.here hx rfl (hb hby d5_0) rfl rfl ?_
    exact kk
  obtain ⟨T1, X1, e1, st1⟩ := getF X0 hx hZ hown (host := "") (Or.inl (hw _ (mw 10 rfl))) Via.refl e0 F_count_va (g := (mkF m 1 #[.val (.ref va), .val (.int (0 : Int32)), .unset, .unset, .unset, .unset] [(.ref va)])) rfl rfl (hb hby d5_1)
  refine Goal.to (B := T1.setTop (mkF m 4 #[.val (.ref va), .val (.int (0 : Int32)), .unset, .unset, .unset, .unset] [(.int (1 : Int32))])) st1 ?_
  refine Goal.to (B := T1.setTop (mkF m 5 #[.val (.ref va), .val (.int (0 : Int32)), .unset, .unset, .unset, .unset] [(.ref va), (.int (1 : Int32))])) (fun tt kk => ?_) ?_
  · show Steps p.tables e below (T1.setTop (mkF m 4 #[.val (.ref va), .val (.int (0 : Int32)), .unset, .unset, .unset, .unset] [(.int (1 : Int32))])) tt
    refine XS.aloadN X1.here hx rfl (hb hby d5_4) rfl rfl ?_
    exact kk
  obtain ⟨T2, X2, e2, st2⟩ := getF X1 hx hZ hown (host := "") (Or.inl (hw _ (mw 12 rfl))) Via.refl e1 F_slots_va (g := (mkF m 5 #[.val (.ref va), .val (.int (0 : Int32)), .unset, .unset, .unset, .unset] [(.ref va), (.int (1 : Int32))])) rfl rfl (hb hby d5_5)
  refine Goal.to (B := T2.setTop (mkF m 8 #[.val (.ref va), .val (.int (0 : Int32)), .unset, .unset, .unset, .unset] [(.int (16 : Int32)), (.int (1 : Int32))])) st2 ?_
  refine Goal.to (B := T2.setTop (mkF m 16 #[.val (.ref va), .val (.int (0 : Int32)), .unset, .unset, .unset, .unset] [(.ref va)])) (fun tt kk => ?_) ?_
  · show Steps p.tables e below (T2.setTop (mkF m 8 #[.val (.ref va), .val (.int (0 : Int32)), .unset, .unset, .unset, .unset] [(.int (16 : Int32)), (.int (1 : Int32))])) tt
    refine XS.icmpYes X2.here hx rfl (pc0 := 8) (pc' := 15) rfl (hb hby d5_8) rfl (feq ((by decide) : ¬ ((1 : Int32) = (16 : Int32)))).2 (by decide) (by decide) ?_
    show Steps p.tables e below (T2.setTop (mkF m 15 #[.val (.ref va), .val (.int (0 : Int32)), .unset, .unset, .unset, .unset] [])) tt
    refine XS.aloadN X2.here hx rfl (hb hby d5_15) rfl rfl ?_
    exact kk
  obtain ⟨T3, X3, e3, st3⟩ := getF X2 hx hZ hown (host := "") (Or.inl (hw _ (mw 10 rfl))) Via.refl e2 F_count_va (g := (mkF m 16 #[.val (.ref va), .val (.int (0 : Int32)), .unset, .unset, .unset, .unset] [(.ref va)])) rfl rfl (hb hby d5_16)
  refine Goal.to (B := T3.setTop (mkF m 19 #[.val (.ref va), .val (.int (0 : Int32)), .unset, .unset, .unset, .unset] [(.int (1 : Int32))])) st3 ?_
  refine Goal.to (B := T3.setTop (mkF m 20 #[.val (.ref va), .val (.int (0 : Int32)), .unset, .unset, .unset, .unset] [(.ref va), (.int (1 : Int32))])) (fun tt kk => ?_) ?_
  · show Steps p.tables e below (T3.setTop (mkF m 19 #[.val (.ref va), .val (.int (0 : Int32)), .unset, .unset, .unset, .unset] [(.int (1 : Int32))])) tt
    refine XS.aloadN X3.here hx rfl (hb hby d5_19) rfl rfl ?_
    exact kk
  obtain ⟨T4, X4, e4, st4⟩ := getF X3 hx hZ hown (host := "") (Or.inl (hw _ (mw 14 rfl))) Via.refl e3 F_words_va (g := (mkF m 20 #[.val (.ref va), .val (.int (0 : Int32)), .unset, .unset, .unset, .unset] [(.ref va), (.int (1 : Int32))])) rfl rfl (hb hby d5_20)
  refine Goal.to (B := T4.setTop (mkF m 23 #[.val (.ref va), .val (.int (0 : Int32)), .unset, .unset, .unset, .unset] [(.int (1 : Int32)), (.int (1 : Int32))])) st4 ?_
  refine Goal.to (B := T4.setTop (mkF m 35 #[.val (.ref va), .val (.int (0 : Int32)), .unset, .unset, .unset, .unset] [(.ref va), (.ref va)])) (fun tt kk => ?_) ?_
  · show Steps p.tables e below (T4.setTop (mkF m 23 #[.val (.ref va), .val (.int (0 : Int32)), .unset, .unset, .unset, .unset] [(.int (1 : Int32)), (.int (1 : Int32))])) tt
    refine XS.bipush X4.here hx rfl (hb hby d5_23) ?_
    show Steps p.tables e below (T4.setTop (mkF m 25 #[.val (.ref va), .val (.int (0 : Int32)), .unset, .unset, .unset, .unset] [(.int (64 : Int32)), (.int (1 : Int32)), (.int (1 : Int32))])) tt
    refine XS.imul X4.here hx rfl (hb hby d5_25) rfl ?_
    show Steps p.tables e below (T4.setTop (mkF m 26 #[.val (.ref va), .val (.int (0 : Int32)), .unset, .unset, .unset, .unset] [(.int (64 : Int32)), (.int (1 : Int32))])) tt
    refine XS.icmpYes X4.here hx rfl (pc0 := 26) (pc' := 33) rfl (hb hby d5_26) rfl (feq ((by decide) : ¬ ((1 : Int32) = (64 : Int32)))).2 (by decide) (by decide) ?_
    show Steps p.tables e below (T4.setTop (mkF m 33 #[.val (.ref va), .val (.int (0 : Int32)), .unset, .unset, .unset, .unset] [])) tt
    refine XS.aloadN X4.here hx rfl (hb hby d5_33) rfl rfl ?_
    show Steps p.tables e below (T4.setTop (mkF m 34 #[.val (.ref va), .val (.int (0 : Int32)), .unset, .unset, .unset, .unset] [(.ref va)])) tt
    refine XS.dup X4.here hx rfl (hb hby d5_34) rfl rfl ?_
    exact kk
  obtain ⟨T5, X5, e5, st5⟩ := getF X4 hx hZ hown (host := "") (Or.inl (hw _ (mw 10 rfl))) Via.refl e4 F_count_va (g := (mkF m 35 #[.val (.ref va), .val (.int (0 : Int32)), .unset, .unset, .unset, .unset] [(.ref va), (.ref va)])) rfl rfl (hb hby d5_35)
  refine Goal.to (B := T5.setTop (mkF m 38 #[.val (.ref va), .val (.int (0 : Int32)), .unset, .unset, .unset, .unset] [(.int (1 : Int32)), (.ref va)])) st5 ?_
  refine Goal.to (B := T5.setTop (mkF m 41 #[.val (.ref va), .val (.int (0 : Int32)), .unset, .unset, .unset, .unset] [(.int (2 : Int32)), (.ref va), (.int (1 : Int32))])) (fun tt kk => ?_) ?_
  · show Steps p.tables e below (T5.setTop (mkF m 38 #[.val (.ref va), .val (.int (0 : Int32)), .unset, .unset, .unset, .unset] [(.int (1 : Int32)), (.ref va)])) tt
    refine XS.dupX1 X5.here hx rfl (hb hby d5_38) rfl rfl rfl ?_
    show Steps p.tables e below (T5.setTop (mkF m 39 #[.val (.ref va), .val (.int (0 : Int32)), .unset, .unset, .unset, .unset] [(.int (1 : Int32)), (.ref va), (.int (1 : Int32))])) tt
    refine XS.iconst X5.here hx rfl (hb hby d5_39) ?_
    show Steps p.tables e below (T5.setTop (mkF m 40 #[.val (.ref va), .val (.int (0 : Int32)), .unset, .unset, .unset, .unset] [(.int (1 : Int32)), (.int (1 : Int32)), (.ref va), (.int (1 : Int32))])) tt
    refine XS.iadd X5.here hx rfl (hb hby d5_40) rfl ?_
    exact kk
  obtain ⟨T6, h6, X6, e6, W6, st6⟩ := putF X5 hx hZ hown (host := "") (Or.inl (hw _ (mw 10 rfl))) Via.refl e5 F_count_va E_va (Or.inl (hw _ (mw 11 rfl))) (hw _ (mw 1 rfl)) (ty := .int) (by decide) rfl rfl (g := (mkF m 41 #[.val (.ref va), .val (.int (0 : Int32)), .unset, .unset, .unset, .unset] [(.int (2 : Int32)), (.ref va), (.int (1 : Int32))])) rfl rfl (hb hby d5_41)
  have Fw6 : Fld Z h6 va "com/example/deferra/deferra/engine/Identities" "count" "I" (.int (2 : Int32)) := F_count_va.same W6
  have N6 := Fr.snoc X6 N0 g_va
  refine Goal.to (B := T6.setTop (mkF m 44 #[.val (.ref va), .val (.int (0 : Int32)), .unset, .unset, .unset, .unset] [(.int (1 : Int32))])) st6 ?_
  refine Goal.to (B := T6.setTop (mkF m 46 #[.val (.ref va), .val (.int (0 : Int32)), .val (.int (1 : Int32)), .unset, .unset, .unset] [(.ref va)])) (fun tt kk => ?_) ?_
  · show Steps p.tables e below (T6.setTop (mkF m 44 #[.val (.ref va), .val (.int (0 : Int32)), .unset, .unset, .unset, .unset] [(.int (1 : Int32))])) tt
    refine XS.istoreN X6.here hx rfl (hb hby d5_44) rfl (l' := #[.val (.ref va), .val (.int (0 : Int32)), .val (.int (1 : Int32)), .unset, .unset, .unset]) rfl ?_
    show Steps p.tables e below (T6.setTop (mkF m 45 #[.val (.ref va), .val (.int (0 : Int32)), .val (.int (1 : Int32)), .unset, .unset, .unset] [])) tt
    refine XS.aloadN X6.here hx rfl (hb hby d5_45) rfl rfl ?_
    exact kk
  have f7 : Fld Z h6 va "com/example/deferra/deferra/engine/Identities" "ints" "[I" (.ref vi) := (F_ints_va.other W6 (Or.inr (slot_ne (Or.inl (hw _ (mw 25 rfl))) (Or.inl (hw _ (mw 11 rfl))) (by decide) (t := (.array .int)) (t' := .int) (by decide) (by decide))))
  obtain ⟨T8, X8, e8, st8⟩ := getF X6 hx hZ hown (host := "") (Or.inl (hw _ (mw 24 rfl))) Via.refl e6 f7 (g := (mkF m 46 #[.val (.ref va), .val (.int (0 : Int32)), .val (.int (1 : Int32)), .unset, .unset, .unset] [(.ref va)])) rfl rfl (hb hby d5_46)
  refine Goal.to (B := T8.setTop (mkF m 49 #[.val (.ref va), .val (.int (0 : Int32)), .val (.int (1 : Int32)), .unset, .unset, .unset] [(.ref vi)])) st8 ?_
  refine Goal.to (B := T8.setTop (mkF m 51 #[.val (.ref va), .val (.int (0 : Int32)), .val (.int (1 : Int32)), .unset, .unset, .unset] [(.int (1 : Int32)), (.int (1 : Int32)), (.ref vi)])) (fun tt kk => ?_) ?_
  · show Steps p.tables e below (T8.setTop (mkF m 49 #[.val (.ref va), .val (.int (0 : Int32)), .val (.int (1 : Int32)), .unset, .unset, .unset] [(.ref vi)])) tt
    refine XS.iloadN X8.here hx rfl (hb hby d5_49) rfl ?_
    show Steps p.tables e below (T8.setTop (mkF m 50 #[.val (.ref va), .val (.int (0 : Int32)), .val (.int (1 : Int32)), .unset, .unset, .unset] [(.int (1 : Int32)), (.ref vi)])) tt
    refine XS.iloadN X8.here hx rfl (hb hby d5_50) rfl ?_
    exact kk
  have f9 : Ary Z h6 vi .int [(.int (0 : Int32)), (.int (0 : Int32)), (.int (0 : Int32)), (.int (0 : Int32)), (.int (0 : Int32)), (.int (0 : Int32)), (.int (0 : Int32)), (.int (0 : Int32)), (.int (0 : Int32)), (.int (0 : Int32)), (.int (0 : Int32)), (.int (0 : Int32)), (.int (0 : Int32)), (.int (0 : Int32)), (.int (0 : Int32)), (.int (0 : Int32)), (.int (-1 : Int32)), (.int (0 : Int32)), (.int (0 : Int32)), (.int (0 : Int32)), (.int (0 : Int32)), (.int (0 : Int32)), (.int (0 : Int32)), (.int (0 : Int32)), (.int (0 : Int32)), (.int (0 : Int32)), (.int (0 : Int32)), (.int (0 : Int32)), (.int (0 : Int32)), (.int (0 : Int32)), (.int (0 : Int32)), (.int (0 : Int32)), (.int (-1 : Int32)), (.int (0 : Int32)), (.int (0 : Int32)), (.int (0 : Int32)), (.int (0 : Int32)), (.int (0 : Int32)), (.int (0 : Int32)), (.int (0 : Int32)), (.int (0 : Int32)), (.int (0 : Int32)), (.int (0 : Int32)), (.int (0 : Int32)), (.int (0 : Int32)), (.int (0 : Int32)), (.int (0 : Int32)), (.int (0 : Int32)), (.int (0 : Int32)), (.int (0 : Int32)), (.int (0 : Int32)), (.int (0 : Int32)), (.int (0 : Int32)), (.int (0 : Int32)), (.int (0 : Int32)), (.int (0 : Int32)), (.int (0 : Int32)), (.int (0 : Int32)), (.int (0 : Int32)), (.int (0 : Int32)), (.int (0 : Int32)), (.int (0 : Int32)), (.int (0 : Int32)), (.int (0 : Int32)), (.int (0 : Int32)), (.int (0 : Int32)), (.int (0 : Int32)), (.int (0 : Int32)), (.int (0 : Int32)), (.int (0 : Int32)), (.int (0 : Int32)), (.int (0 : Int32)), (.int (0 : Int32)), (.int (0 : Int32)), (.int (0 : Int32)), (.int (0 : Int32)), (.int (0 : Int32)), (.int (0 : Int32)), (.int (0 : Int32)), (.int (0 : Int32)), (.int (0 : Int32))] := (V_vi.other W6 (Ne.symm ne_va_vi))
  obtain ⟨cl10, Ar10, Sl10⟩ := id f9
  have hin10 := inA (cl := cl10) Sl10 (j := (1 : Int32)) (by decide) (Nat.le_of_ble_eq_true rfl)
  obtain ⟨T10, h10, X10, e10, W10, st10⟩ := stI X8 hx hZ e8 Ar10 (j := (1 : Int32)) hin10 (g := (mkF m 51 #[.val (.ref va), .val (.int (0 : Int32)), .val (.int (1 : Int32)), .unset, .unset, .unset] [(.int (1 : Int32)), (.int (1 : Int32)), (.ref vi)])) rfl rfl (hb hby d5_51)
  have V10 : Ary Z h10 vi .int [(.int (0 : Int32)), (.int (1 : Int32)), (.int (0 : Int32)), (.int (0 : Int32)), (.int (0 : Int32)), (.int (0 : Int32)), (.int (0 : Int32)), (.int (0 : Int32)), (.int (0 : Int32)), (.int (0 : Int32)), (.int (0 : Int32)), (.int (0 : Int32)), (.int (0 : Int32)), (.int (0 : Int32)), (.int (0 : Int32)), (.int (0 : Int32)), (.int (-1 : Int32)), (.int (0 : Int32)), (.int (0 : Int32)), (.int (0 : Int32)), (.int (0 : Int32)), (.int (0 : Int32)), (.int (0 : Int32)), (.int (0 : Int32)), (.int (0 : Int32)), (.int (0 : Int32)), (.int (0 : Int32)), (.int (0 : Int32)), (.int (0 : Int32)), (.int (0 : Int32)), (.int (0 : Int32)), (.int (0 : Int32)), (.int (-1 : Int32)), (.int (0 : Int32)), (.int (0 : Int32)), (.int (0 : Int32)), (.int (0 : Int32)), (.int (0 : Int32)), (.int (0 : Int32)), (.int (0 : Int32)), (.int (0 : Int32)), (.int (0 : Int32)), (.int (0 : Int32)), (.int (0 : Int32)), (.int (0 : Int32)), (.int (0 : Int32)), (.int (0 : Int32)), (.int (0 : Int32)), (.int (0 : Int32)), (.int (0 : Int32)), (.int (0 : Int32)), (.int (0 : Int32)), (.int (0 : Int32)), (.int (0 : Int32)), (.int (0 : Int32)), (.int (0 : Int32)), (.int (0 : Int32)), (.int (0 : Int32)), (.int (0 : Int32)), (.int (0 : Int32)), (.int (0 : Int32)), (.int (0 : Int32)), (.int (0 : Int32)), (.int (0 : Int32)), (.int (0 : Int32)), (.int (0 : Int32)), (.int (0 : Int32)), (.int (0 : Int32)), (.int (0 : Int32)), (.int (0 : Int32)), (.int (0 : Int32)), (.int (0 : Int32)), (.int (0 : Int32)), (.int (0 : Int32)), (.int (0 : Int32)), (.int (0 : Int32)), (.int (0 : Int32)), (.int (0 : Int32)), (.int (0 : Int32)), (.int (0 : Int32)), (.int (0 : Int32))] := Ary.put Ar10 Sl10 W10 rfl
  have N10 := Fr.snoc X10 N6 g_vi
  refine Goal.to (B := T10.setTop (mkF m 52 #[.val (.ref va), .val (.int (0 : Int32)), .val (.int (1 : Int32)), .unset, .unset, .unset] [])) st10 ?_
  refine Goal.to (B := T10.setTop (mkF m 53 #[.val (.ref va), .val (.int (0 : Int32)), .val (.int (1 : Int32)), .unset, .unset, .unset] [(.ref va)])) (fun tt kk => ?_) ?_
  · show Steps p.tables e below (T10.setTop (mkF m 52 #[.val (.ref va), .val (.int (0 : Int32)), .val (.int (1 : Int32)), .unset, .unset, .unset] [])) tt
    refine XS.aloadN X10.here hx rfl (hb hby d5_52) rfl rfl ?_
    exact kk
  have f11 : Fld Z h10 va "com/example/deferra/deferra/engine/Identities" "ints" "[I" (.ref vi) := (f7.other W10 (Or.inl ne_va_vi))
  obtain ⟨T12, X12, e12, st12⟩ := getF X10 hx hZ hown (host := "") (Or.inl (hw _ (mw 24 rfl))) Via.refl e10 f11 (g := (mkF m 53 #[.val (.ref va), .val (.int (0 : Int32)), .val (.int (1 : Int32)), .unset, .unset, .unset] [(.ref va)])) rfl rfl (hb hby d5_53)
  refine Goal.to (B := T12.setTop (mkF m 56 #[.val (.ref va), .val (.int (0 : Int32)), .val (.int (1 : Int32)), .unset, .unset, .unset] [(.ref vi)])) st12 ?_
  refine Goal.to (B := T12.setTop (mkF m 57 #[.val (.ref va), .val (.int (0 : Int32)), .val (.int (1 : Int32)), .unset, .unset, .unset] [(.ref va), (.ref vi)])) (fun tt kk => ?_) ?_
  · show Steps p.tables e below (T12.setTop (mkF m 56 #[.val (.ref va), .val (.int (0 : Int32)), .val (.int (1 : Int32)), .unset, .unset, .unset] [(.ref vi)])) tt
    refine XS.aloadN X12.here hx rfl (hb hby d5_56) rfl rfl ?_
    exact kk
  have f13 : Fld Z h10 va "com/example/deferra/deferra/engine/Identities" "numberAt" "I" (.int (16 : Int32)) := ((F_numberAt_va.other W6 (Or.inr (slot_ne (Or.inl (hw _ (mw 31 rfl))) (Or.inl (hw _ (mw 11 rfl))) (by decide) (t := .int) (t' := .int) (by decide) (by decide)))).other W10 (Or.inl ne_va_vi))
  obtain ⟨T14, X14, e14, st14⟩ := getF X12 hx hZ hown (host := "") (Or.inl (hw _ (mw 30 rfl))) Via.refl e12 f13 (g := (mkF m 57 #[.val (.ref va), .val (.int (0 : Int32)), .val (.int (1 : Int32)), .unset, .unset, .unset] [(.ref va), (.ref vi)])) rfl rfl (hb hby d5_57)
  refine Goal.to (B := T14.setTop (mkF m 60 #[.val (.ref va), .val (.int (0 : Int32)), .val (.int (1 : Int32)), .unset, .unset, .unset] [(.int (16 : Int32)), (.ref vi)])) st14 ?_
  refine Goal.to (B := T14.setTop (mkF m 64 #[.val (.ref va), .val (.int (0 : Int32)), .val (.int (1 : Int32)), .unset, .unset, .unset] [(.int (-2 : Int32)), (.int (17 : Int32)), (.ref vi)])) (fun tt kk => ?_) ?_
  · show Steps p.tables e below (T14.setTop (mkF m 60 #[.val (.ref va), .val (.int (0 : Int32)), .val (.int (1 : Int32)), .unset, .unset, .unset] [(.int (16 : Int32)), (.ref vi)])) tt
    refine XS.iloadN X14.here hx rfl (hb hby d5_60) rfl ?_
    show Steps p.tables e below (T14.setTop (mkF m 61 #[.val (.ref va), .val (.int (0 : Int32)), .val (.int (1 : Int32)), .unset, .unset, .unset] [(.int (1 : Int32)), (.int (16 : Int32)), (.ref vi)])) tt
    refine XS.iadd X14.here hx rfl (hb hby d5_61) rfl ?_
    show Steps p.tables e below (T14.setTop (mkF m 62 #[.val (.ref va), .val (.int (0 : Int32)), .val (.int (1 : Int32)), .unset, .unset, .unset] [(.int (17 : Int32)), (.ref vi)])) tt
    refine XS.bipush X14.here hx rfl (hb hby d5_62) ?_
    exact kk
  obtain ⟨cl15, Ar15, Sl15⟩ := id V10
  have hin15 := inA (cl := cl15) Sl15 (j := (17 : Int32)) (by decide) (Nat.le_of_ble_eq_true rfl)
  obtain ⟨T15, h15, X15, e15, W15, st15⟩ := stI X14 hx hZ e14 Ar15 (j := (17 : Int32)) hin15 (g := (mkF m 64 #[.val (.ref va), .val (.int (0 : Int32)), .val (.int (1 : Int32)), .unset, .unset, .unset] [(.int (-2 : Int32)), (.int (17 : Int32)), (.ref vi)])) rfl rfl (hb hby d5_64)
  have V15 : Ary Z h15 vi .int [(.int (0 : Int32)), (.int (1 : Int32)), (.int (0 : Int32)), (.int (0 : Int32)), (.int (0 : Int32)), (.int (0 : Int32)), (.int (0 : Int32)), (.int (0 : Int32)), (.int (0 : Int32)), (.int (0 : Int32)), (.int (0 : Int32)), (.int (0 : Int32)), (.int (0 : Int32)), (.int (0 : Int32)), (.int (0 : Int32)), (.int (0 : Int32)), (.int (-1 : Int32)), (.int (-2 : Int32)), (.int (0 : Int32)), (.int (0 : Int32)), (.int (0 : Int32)), (.int (0 : Int32)), (.int (0 : Int32)), (.int (0 : Int32)), (.int (0 : Int32)), (.int (0 : Int32)), (.int (0 : Int32)), (.int (0 : Int32)), (.int (0 : Int32)), (.int (0 : Int32)), (.int (0 : Int32)), (.int (0 : Int32)), (.int (-1 : Int32)), (.int (0 : Int32)), (.int (0 : Int32)), (.int (0 : Int32)), (.int (0 : Int32)), (.int (0 : Int32)), (.int (0 : Int32)), (.int (0 : Int32)), (.int (0 : Int32)), (.int (0 : Int32)), (.int (0 : Int32)), (.int (0 : Int32)), (.int (0 : Int32)), (.int (0 : Int32)), (.int (0 : Int32)), (.int (0 : Int32)), (.int (0 : Int32)), (.int (0 : Int32)), (.int (0 : Int32)), (.int (0 : Int32)), (.int (0 : Int32)), (.int (0 : Int32)), (.int (0 : Int32)), (.int (0 : Int32)), (.int (0 : Int32)), (.int (0 : Int32)), (.int (0 : Int32)), (.int (0 : Int32)), (.int (0 : Int32)), (.int (0 : Int32)), (.int (0 : Int32)), (.int (0 : Int32)), (.int (0 : Int32)), (.int (0 : Int32)), (.int (0 : Int32)), (.int (0 : Int32)), (.int (0 : Int32)), (.int (0 : Int32)), (.int (0 : Int32)), (.int (0 : Int32)), (.int (0 : Int32)), (.int (0 : Int32)), (.int (0 : Int32)), (.int (0 : Int32)), (.int (0 : Int32)), (.int (0 : Int32)), (.int (0 : Int32)), (.int (0 : Int32)), (.int (0 : Int32))] := Ary.put Ar15 Sl15 W15 rfl
  have N15 := Fr.snoc X15 N10 g_vi
  refine Goal.to (B := T15.setTop (mkF m 65 #[.val (.ref va), .val (.int (0 : Int32)), .val (.int (1 : Int32)), .unset, .unset, .unset] [])) st15 ?_
  refine Goal.to (B := T15.setTop (mkF m 143 #[.val (.ref va), .val (.int (0 : Int32)), .val (.int (1 : Int32)), .unset, .unset, .unset] [(.ref va)])) (fun tt kk => ?_) ?_
  · show Steps p.tables e below (T15.setTop (mkF m 65 #[.val (.ref va), .val (.int (0 : Int32)), .val (.int (1 : Int32)), .unset, .unset, .unset] [])) tt
    refine XS.iloadN X15.here hx rfl (hb hby d5_65) rfl ?_
    show Steps p.tables e below (T15.setTop (mkF m 66 #[.val (.ref va), .val (.int (0 : Int32)), .val (.int (1 : Int32)), .unset, .unset, .unset] [(.int (0 : Int32))])) tt
    refine XS.ifYes X15.here hx rfl (pc0 := 66) (pc' := 142) rfl (hb hby d5_66) rfl ((if0 _ _).trans (teq (rfl : (0 : Int32) = (0 : Int32))).1) (by decide) (by decide) ?_
    show Steps p.tables e below (T15.setTop (mkF m 142 #[.val (.ref va), .val (.int (0 : Int32)), .val (.int (1 : Int32)), .unset, .unset, .unset] [])) tt
    refine XS.aloadN X15.here hx rfl (hb hby d5_142) rfl rfl ?_
    exact kk
  have f16 : Fld Z h15 va "com/example/deferra/deferra/engine/Identities" "nullAllowed" "Z" (.int (1 : Int32)) := (((F_nullAllowed_va.other W6 (Or.inr (slot_ne (Or.inr (hw _ (mw 19 rfl))) (Or.inl (hw _ (mw 11 rfl))) (by decide) (t := .boolean) (t' := .int) (by decide) (by decide)))).other W10 (Or.inl ne_va_vi)).other W15 (Or.inl ne_va_vi))
  obtain ⟨T17, X17, e17, st17⟩ := getF X15 hx hZ hown (host := "") (Or.inl (hw _ (mw 18 rfl))) Via.refl e15 f16 (g := (mkF m 143 #[.val (.ref va), .val (.int (0 : Int32)), .val (.int (1 : Int32)), .unset, .unset, .unset] [(.ref va)])) rfl rfl (hb hby d5_143)
  refine Goal.to (B := T17.setTop (mkF m 146 #[.val (.ref va), .val (.int (0 : Int32)), .val (.int (1 : Int32)), .unset, .unset, .unset] [(.int (1 : Int32))])) st17 ?_
  refine Goal.to (B := T17.setTop (mkF m 163 #[.val (.ref va), .val (.int (0 : Int32)), .val (.int (1 : Int32)), .val (.int (-1 : Int32)), .unset, .unset] [(.ref va)])) (fun tt kk => ?_) ?_
  · show Steps p.tables e below (T17.setTop (mkF m 146 #[.val (.ref va), .val (.int (0 : Int32)), .val (.int (1 : Int32)), .unset, .unset, .unset] [(.int (1 : Int32))])) tt
    refine XS.ifNo X17.here hx rfl (hb hby d5_146) rfl ((if0 _ _).trans (feq ((by decide) : ¬ ((1 : Int32) = (0 : Int32)))).1) ?_
    show Steps p.tables e below (T17.setTop (mkF m 149 #[.val (.ref va), .val (.int (0 : Int32)), .val (.int (1 : Int32)), .unset, .unset, .unset] [])) tt
    refine XS.iconst X17.here hx rfl (hb hby d5_149) ?_
    show Steps p.tables e below (T17.setTop (mkF m 150 #[.val (.ref va), .val (.int (0 : Int32)), .val (.int (1 : Int32)), .unset, .unset, .unset] [(.int (-1 : Int32))])) tt
    refine XS.istoreN X17.here hx rfl (hb hby d5_150) rfl (l' := #[.val (.ref va), .val (.int (0 : Int32)), .val (.int (1 : Int32)), .val (.int (-1 : Int32)), .unset, .unset]) rfl ?_
    show Steps p.tables e below (T17.setTop (mkF m 151 #[.val (.ref va), .val (.int (0 : Int32)), .val (.int (1 : Int32)), .val (.int (-1 : Int32)), .unset, .unset] [])) tt
    refine XS.goto X17.here hx rfl (pc0 := 151) (pc' := 162) rfl (hb hby d5_151) (by decide) (by decide) ?_
    show Steps p.tables e below (T17.setTop (mkF m 162 #[.val (.ref va), .val (.int (0 : Int32)), .val (.int (1 : Int32)), .val (.int (-1 : Int32)), .unset, .unset] [])) tt
    refine XS.aloadN X17.here hx rfl (hb hby d5_162) rfl rfl ?_
    exact kk
  have f18 : Fld Z h15 va "com/example/deferra/deferra/engine/Identities" "rows" "[J" (.ref vr) := (((F_rows_va.other W6 (Or.inr (slot_ne (Or.inl (hw _ (mw 40 rfl))) (Or.inl (hw _ (mw 11 rfl))) (by decide) (t := (.array .long)) (t' := .int) (by decide) (by decide)))).other W10 (Or.inl ne_va_vi)).other W15 (Or.inl ne_va_vi))
  obtain ⟨T19, X19, e19, st19⟩ := getF X17 hx hZ hown (host := "") (Or.inl (hw _ (mw 39 rfl))) Via.refl e17 f18 (g := (mkF m 163 #[.val (.ref va), .val (.int (0 : Int32)), .val (.int (1 : Int32)), .val (.int (-1 : Int32)), .unset, .unset] [(.ref va)])) rfl rfl (hb hby d5_163)
  refine Goal.to (B := T19.setTop (mkF m 166 #[.val (.ref va), .val (.int (0 : Int32)), .val (.int (1 : Int32)), .val (.int (-1 : Int32)), .unset, .unset] [(.ref vr)])) st19 ?_
  refine Goal.to (B := T19.setTop (mkF m 168 #[.val (.ref va), .val (.int (0 : Int32)), .val (.int (1 : Int32)), .val (.int (-1 : Int32)), .unset, .unset] [(.ref va), (.int (0 : Int32)), (.ref vr)])) (fun tt kk => ?_) ?_
  · show Steps p.tables e below (T19.setTop (mkF m 166 #[.val (.ref va), .val (.int (0 : Int32)), .val (.int (1 : Int32)), .val (.int (-1 : Int32)), .unset, .unset] [(.ref vr)])) tt
    refine XS.iconst X19.here hx rfl (hb hby d5_166) ?_
    show Steps p.tables e below (T19.setTop (mkF m 167 #[.val (.ref va), .val (.int (0 : Int32)), .val (.int (1 : Int32)), .val (.int (-1 : Int32)), .unset, .unset] [(.int (0 : Int32)), (.ref vr)])) tt
    refine XS.aloadN X19.here hx rfl (hb hby d5_167) rfl rfl ?_
    exact kk
  have f20 : Fld Z h15 va "com/example/deferra/deferra/engine/Identities" "words" "I" (.int (1 : Int32)) := (((F_words_va.other W6 (Or.inr (slot_ne (Or.inl (hw _ (mw 15 rfl))) (Or.inl (hw _ (mw 11 rfl))) (by decide) (t := .int) (t' := .int) (by decide) (by decide)))).other W10 (Or.inl ne_va_vi)).other W15 (Or.inl ne_va_vi))
  obtain ⟨T21, X21, e21, st21⟩ := getF X19 hx hZ hown (host := "") (Or.inl (hw _ (mw 14 rfl))) Via.refl e19 f20 (g := (mkF m 168 #[.val (.ref va), .val (.int (0 : Int32)), .val (.int (1 : Int32)), .val (.int (-1 : Int32)), .unset, .unset] [(.ref va), (.int (0 : Int32)), (.ref vr)])) rfl rfl (hb hby d5_168)
  refine Goal.to (B := T21.setTop (mkF m 171 #[.val (.ref va), .val (.int (0 : Int32)), .val (.int (1 : Int32)), .val (.int (-1 : Int32)), .unset, .unset] [(.int (1 : Int32)), (.int (0 : Int32)), (.ref vr)])) st21 ?_
  refine Goal.to (B := T21.setTop (mkF m 178 #[.val (.ref va), .val (.int (0 : Int32)), .val (.int (1 : Int32)), .val (.int (-1 : Int32)), .unset, .unset] [(.int (0 : Int32)), (.ref vr), (.int (0 : Int32)), (.ref vr)])) (fun tt kk => ?_) ?_
  · show Steps p.tables e below (T21.setTop (mkF m 171 #[.val (.ref va), .val (.int (0 : Int32)), .val (.int (1 : Int32)), .val (.int (-1 : Int32)), .unset, .unset] [(.int (1 : Int32)), (.int (0 : Int32)), (.ref vr)])) tt
    refine XS.imul X21.here hx rfl (hb hby d5_171) rfl ?_
    show Steps p.tables e below (T21.setTop (mkF m 172 #[.val (.ref va), .val (.int (0 : Int32)), .val (.int (1 : Int32)), .val (.int (-1 : Int32)), .unset, .unset] [(.int (0 : Int32)), (.ref vr)])) tt
    refine XS.iloadN X21.here hx rfl (hb hby d5_172) rfl ?_
    show Steps p.tables e below (T21.setTop (mkF m 173 #[.val (.ref va), .val (.int (0 : Int32)), .val (.int (1 : Int32)), .val (.int (-1 : Int32)), .unset, .unset] [(.int (1 : Int32)), (.int (0 : Int32)), (.ref vr)])) tt
    refine XS.bipush X21.here hx rfl (hb hby d5_173) ?_
    show Steps p.tables e below (T21.setTop (mkF m 175 #[.val (.ref va), .val (.int (0 : Int32)), .val (.int (1 : Int32)), .val (.int (-1 : Int32)), .unset, .unset] [(.int (6 : Int32)), (.int (1 : Int32)), (.int (0 : Int32)), (.ref vr)])) tt
    refine XS.iushr X21.here hx rfl (hb hby d5_175) rfl ?_
    show Steps p.tables e below (T21.setTop (mkF m 176 #[.val (.ref va), .val (.int (0 : Int32)), .val (.int (1 : Int32)), .val (.int (-1 : Int32)), .unset, .unset] [(.int (0 : Int32)), (.int (0 : Int32)), (.ref vr)])) tt
    refine XS.iadd X21.here hx rfl (hb hby d5_176) rfl ?_
    show Steps p.tables e below (T21.setTop (mkF m 177 #[.val (.ref va), .val (.int (0 : Int32)), .val (.int (1 : Int32)), .val (.int (-1 : Int32)), .unset, .unset] [(.int (0 : Int32)), (.ref vr)])) tt
    refine Jvm.Free.XT.dup2 X21.here hx rfl (hb hby d5_177) rfl rfl rfl ?_
    exact kk
  have f22 : Ary Z h15 vr .long [(.long (0 : Int64)), (.long (0 : Int64)), (.long (0 : Int64)), (.long (0 : Int64)), (.long (0 : Int64)), (.long (0 : Int64)), (.long (0 : Int64)), (.long (0 : Int64)), (.long (0 : Int64)), (.long (0 : Int64)), (.long (0 : Int64)), (.long (0 : Int64)), (.long (0 : Int64)), (.long (0 : Int64)), (.long (0 : Int64)), (.long (0 : Int64)), (.long (0 : Int64)), (.long (0 : Int64))] := (((V_vr.other W6 (Ne.symm ne_va_vr)).other W10 (Ne.symm ne_vi_vr)).other W15 (Ne.symm ne_vi_vr))
  obtain ⟨cl23, Ar23, Sl23⟩ := id f22
  have hin23 := inA (cl := cl23) Sl23 (j := (0 : Int32)) (by decide) (Nat.le_of_ble_eq_true rfl)
  have hat23 : cl23.slots[((0 : Int32)).toNatClampNeg]? = some (.long (0 : Int64)) := atA Sl23 rfl
  refine Goal.to (B := T21.setTop (mkF m 183 #[.val (.ref va), .val (.int (0 : Int32)), .val (.int (1 : Int32)), .val (.int (-1 : Int32)), .unset, .unset] [(.long (2 : Int64)), (.int (0 : Int32)), (.ref vr)])) (fun tt kk => ?_) ?_
  · show Steps p.tables e below (T21.setTop (mkF m 178 #[.val (.ref va), .val (.int (0 : Int32)), .val (.int (1 : Int32)), .val (.int (-1 : Int32)), .unset, .unset] [(.int (0 : Int32)), (.ref vr), (.int (0 : Int32)), (.ref vr)])) tt
    refine X21.laload hx (j := (0 : Int32)) (v := (.long (0 : Int64))) (by rw [e21]; exact Ar23.1) (State.isArrayOf_alike hZ.alike Ar23.2.1) Ar23.2.2 hin23 hat23 (g := (mkF m 178 #[.val (.ref va), .val (.int (0 : Int32)), .val (.int (1 : Int32)), .val (.int (-1 : Int32)), .unset, .unset] [(.int (0 : Int32)), (.ref vr), (.int (0 : Int32)), (.ref vr)])) rfl rfl (hb hby d5_178) _ ?_
    show Steps p.tables e below (T21.setTop (mkF m 179 #[.val (.ref va), .val (.int (0 : Int32)), .val (.int (1 : Int32)), .val (.int (-1 : Int32)), .unset, .unset] [(.long (0 : Int64)), (.int (0 : Int32)), (.ref vr)])) tt
    refine XS.lconst X21.here hx rfl (hb hby d5_179) ?_
    show Steps p.tables e below (T21.setTop (mkF m 180 #[.val (.ref va), .val (.int (0 : Int32)), .val (.int (1 : Int32)), .val (.int (-1 : Int32)), .unset, .unset] [(.long (1 : Int64)), (.long (0 : Int64)), (.int (0 : Int32)), (.ref vr)])) tt
    refine XS.iloadN X21.here hx rfl (hb hby d5_180) rfl ?_
    show Steps p.tables e below (T21.setTop (mkF m 181 #[.val (.ref va), .val (.int (0 : Int32)), .val (.int (1 : Int32)), .val (.int (-1 : Int32)), .unset, .unset] [(.int (1 : Int32)), (.long (1 : Int64)), (.long (0 : Int64)), (.int (0 : Int32)), (.ref vr)])) tt
    refine XS.lshl X21.here hx rfl (hb hby d5_181) rfl ?_
    show Steps p.tables e below (T21.setTop (mkF m 182 #[.val (.ref va), .val (.int (0 : Int32)), .val (.int (1 : Int32)), .val (.int (-1 : Int32)), .unset, .unset] [(.long (2 : Int64)), (.long (0 : Int64)), (.int (0 : Int32)), (.ref vr)])) tt
    refine XS.lor X21.here hx rfl (hb hby d5_182) rfl ?_
    exact kk
  obtain ⟨cl24, Ar24, Sl24⟩ := id f22
  have hin24 := inA (cl := cl24) Sl24 (j := (0 : Int32)) (by decide) (Nat.le_of_ble_eq_true rfl)
  obtain ⟨T24, h24, X24, e24, W24, st24⟩ := stJ X21 hx hZ e21 Ar24 (j := (0 : Int32)) hin24 (g := (mkF m 183 #[.val (.ref va), .val (.int (0 : Int32)), .val (.int (1 : Int32)), .val (.int (-1 : Int32)), .unset, .unset] [(.long (2 : Int64)), (.int (0 : Int32)), (.ref vr)])) rfl rfl (hb hby d5_183)
  have V24 : Ary Z h24 vr .long [(.long (2 : Int64)), (.long (0 : Int64)), (.long (0 : Int64)), (.long (0 : Int64)), (.long (0 : Int64)), (.long (0 : Int64)), (.long (0 : Int64)), (.long (0 : Int64)), (.long (0 : Int64)), (.long (0 : Int64)), (.long (0 : Int64)), (.long (0 : Int64)), (.long (0 : Int64)), (.long (0 : Int64)), (.long (0 : Int64)), (.long (0 : Int64)), (.long (0 : Int64)), (.long (0 : Int64))] := Ary.put Ar24 Sl24 W24 rfl
  have N24 := Fr.snoc X24 N15 g_vr
  refine Goal.to (B := T24.setTop (mkF m 184 #[.val (.ref va), .val (.int (0 : Int32)), .val (.int (1 : Int32)), .val (.int (-1 : Int32)), .unset, .unset] [])) st24 ?_
  refine Goal.to (B := T24.setTop (mkF m 186 #[.val (.ref va), .val (.int (0 : Int32)), .val (.int (1 : Int32)), .val (.int (-1 : Int32)), .unset, .unset] [(.ref va), (.ref va)])) (fun tt kk => ?_) ?_
  · show Steps p.tables e below (T24.setTop (mkF m 184 #[.val (.ref va), .val (.int (0 : Int32)), .val (.int (1 : Int32)), .val (.int (-1 : Int32)), .unset, .unset] [])) tt
    refine XS.aloadN X24.here hx rfl (hb hby d5_184) rfl rfl ?_
    show Steps p.tables e below (T24.setTop (mkF m 185 #[.val (.ref va), .val (.int (0 : Int32)), .val (.int (1 : Int32)), .val (.int (-1 : Int32)), .unset, .unset] [(.ref va)])) tt
    refine XS.dup X24.here hx rfl (hb hby d5_185) rfl rfl ?_
    exact kk
  have f25 : Fld Z h24 va "com/example/deferra/deferra/engine/Identities" "openCount" "I" (.int (0 : Int32)) := ((((F_openCount_va.other W6 (Or.inr (slot_ne (Or.inl (hw _ (mw 47 rfl))) (Or.inl (hw _ (mw 11 rfl))) (by decide) (t := .int) (t' := .int) (by decide) (by decide)))).other W10 (Or.inl ne_va_vi)).other W15 (Or.inl ne_va_vi)).other W24 (Or.inl ne_va_vr))
  obtain ⟨T26, X26, e26, st26⟩ := getF X24 hx hZ hown (host := "") (Or.inl (hw _ (mw 46 rfl))) Via.refl e24 f25 (g := (mkF m 186 #[.val (.ref va), .val (.int (0 : Int32)), .val (.int (1 : Int32)), .val (.int (-1 : Int32)), .unset, .unset] [(.ref va), (.ref va)])) rfl rfl (hb hby d5_186)
  refine Goal.to (B := T26.setTop (mkF m 189 #[.val (.ref va), .val (.int (0 : Int32)), .val (.int (1 : Int32)), .val (.int (-1 : Int32)), .unset, .unset] [(.int (0 : Int32)), (.ref va)])) st26 ?_
  refine Goal.to (B := T26.setTop (mkF m 191 #[.val (.ref va), .val (.int (0 : Int32)), .val (.int (1 : Int32)), .val (.int (-1 : Int32)), .unset, .unset] [(.int (1 : Int32)), (.ref va)])) (fun tt kk => ?_) ?_
  · show Steps p.tables e below (T26.setTop (mkF m 189 #[.val (.ref va), .val (.int (0 : Int32)), .val (.int (1 : Int32)), .val (.int (-1 : Int32)), .unset, .unset] [(.int (0 : Int32)), (.ref va)])) tt
    refine XS.iconst X26.here hx rfl (hb hby d5_189) ?_
    show Steps p.tables e below (T26.setTop (mkF m 190 #[.val (.ref va), .val (.int (0 : Int32)), .val (.int (1 : Int32)), .val (.int (-1 : Int32)), .unset, .unset] [(.int (1 : Int32)), (.int (0 : Int32)), (.ref va)])) tt
    refine XS.iadd X26.here hx rfl (hb hby d5_190) rfl ?_
    exact kk
  have f27 : Exa Z h24 va "com/example/deferra/deferra/engine/Identities" := ((((E_va.wr W6).wr W10).wr W15).wr W24)
  obtain ⟨T28, h28, X28, e28, W28, st28⟩ := putF X26 hx hZ hown (host := "") (Or.inl (hw _ (mw 46 rfl))) Via.refl e26 f25 f27 (Or.inl (hw _ (mw 47 rfl))) (hw _ (mw 1 rfl)) (ty := .int) (by decide) rfl rfl (g := (mkF m 191 #[.val (.ref va), .val (.int (0 : Int32)), .val (.int (1 : Int32)), .val (.int (-1 : Int32)), .unset, .unset] [(.int (1 : Int32)), (.ref va)])) rfl rfl (hb hby d5_191)
  have Fw28 : Fld Z h28 va "com/example/deferra/deferra/engine/Identities" "openCount" "I" (.int (1 : Int32)) := f25.same W28
  have N28 := Fr.snoc X28 N24 g_va
  refine Goal.to (B := T28.setTop (mkF m 194 #[.val (.ref va), .val (.int (0 : Int32)), .val (.int (1 : Int32)), .val (.int (-1 : Int32)), .unset, .unset] [])) st28 ?_
  refine Goal.to (B := T28.setTop (mkF m 195 #[.val (.ref va), .val (.int (0 : Int32)), .val (.int (1 : Int32)), .val (.int (-1 : Int32)), .unset, .unset] [(.ref va)])) (fun tt kk => ?_) ?_
  · show Steps p.tables e below (T28.setTop (mkF m 194 #[.val (.ref va), .val (.int (0 : Int32)), .val (.int (1 : Int32)), .val (.int (-1 : Int32)), .unset, .unset] [])) tt
    refine XS.aloadN X28.here hx rfl (hb hby d5_194) rfl rfl ?_
    exact kk
  have f29 : Fld Z h28 va "com/example/deferra/deferra/engine/Identities" "ints" "[I" (.ref vi) := (((f11.other W15 (Or.inl ne_va_vi)).other W24 (Or.inl ne_va_vr)).other W28 (Or.inr (slot_ne (Or.inl (hw _ (mw 25 rfl))) (Or.inl (hw _ (mw 47 rfl))) (by decide) (t := (.array .int)) (t' := .int) (by decide) (by decide))))
  obtain ⟨T30, X30, e30, st30⟩ := getF X28 hx hZ hown (host := "") (Or.inl (hw _ (mw 24 rfl))) Via.refl e28 f29 (g := (mkF m 195 #[.val (.ref va), .val (.int (0 : Int32)), .val (.int (1 : Int32)), .val (.int (-1 : Int32)), .unset, .unset] [(.ref va)])) rfl rfl (hb hby d5_195)
  refine Goal.to (B := T30.setTop (mkF m 198 #[.val (.ref va), .val (.int (0 : Int32)), .val (.int (1 : Int32)), .val (.int (-1 : Int32)), .unset, .unset] [(.ref vi)])) st30 ?_
  refine Goal.to (B := T30.setTop (mkF m 199 #[.val (.ref va), .val (.int (0 : Int32)), .val (.int (1 : Int32)), .val (.int (-1 : Int32)), .unset, .unset] [(.ref va), (.ref vi)])) (fun tt kk => ?_) ?_
  · show Steps p.tables e below (T30.setTop (mkF m 198 #[.val (.ref va), .val (.int (0 : Int32)), .val (.int (1 : Int32)), .val (.int (-1 : Int32)), .unset, .unset] [(.ref vi)])) tt
    refine XS.aloadN X30.here hx rfl (hb hby d5_198) rfl rfl ?_
    exact kk
  have f31 : Fld Z h28 va "com/example/deferra/deferra/engine/Identities" "colourAt" "I" (.int (32 : Int32)) := (((((F_colourAt_va.other W6 (Or.inr (slot_ne (Or.inl (hw _ (mw 33 rfl))) (Or.inl (hw _ (mw 11 rfl))) (by decide) (t := .int) (t' := .int) (by decide) (by decide)))).other W10 (Or.inl ne_va_vi)).other W15 (Or.inl ne_va_vi)).other W24 (Or.inl ne_va_vr)).other W28 (Or.inr (slot_ne (Or.inl (hw _ (mw 33 rfl))) (Or.inl (hw _ (mw 47 rfl))) (by decide) (t := .int) (t' := .int) (by decide) (by decide))))
  obtain ⟨T32, X32, e32, st32⟩ := getF X30 hx hZ hown (host := "") (Or.inl (hw _ (mw 32 rfl))) Via.refl e30 f31 (g := (mkF m 199 #[.val (.ref va), .val (.int (0 : Int32)), .val (.int (1 : Int32)), .val (.int (-1 : Int32)), .unset, .unset] [(.ref va), (.ref vi)])) rfl rfl (hb hby d5_199)
  refine Goal.to (B := T32.setTop (mkF m 202 #[.val (.ref va), .val (.int (0 : Int32)), .val (.int (1 : Int32)), .val (.int (-1 : Int32)), .unset, .unset] [(.int (32 : Int32)), (.ref vi)])) st32 ?_
  refine Goal.to (B := T32.setTop (mkF m 205 #[.val (.ref va), .val (.int (0 : Int32)), .val (.int (1 : Int32)), .val (.int (-1 : Int32)), .unset, .unset] [(.int (-1 : Int32)), (.int (33 : Int32)), (.ref vi)])) (fun tt kk => ?_) ?_
  · show Steps p.tables e below (T32.setTop (mkF m 202 #[.val (.ref va), .val (.int (0 : Int32)), .val (.int (1 : Int32)), .val (.int (-1 : Int32)), .unset, .unset] [(.int (32 : Int32)), (.ref vi)])) tt
    refine XS.iloadN X32.here hx rfl (hb hby d5_202) rfl ?_
    show Steps p.tables e below (T32.setTop (mkF m 203 #[.val (.ref va), .val (.int (0 : Int32)), .val (.int (1 : Int32)), .val (.int (-1 : Int32)), .unset, .unset] [(.int (1 : Int32)), (.int (32 : Int32)), (.ref vi)])) tt
    refine XS.iadd X32.here hx rfl (hb hby d5_203) rfl ?_
    show Steps p.tables e below (T32.setTop (mkF m 204 #[.val (.ref va), .val (.int (0 : Int32)), .val (.int (1 : Int32)), .val (.int (-1 : Int32)), .unset, .unset] [(.int (33 : Int32)), (.ref vi)])) tt
    refine XS.iloadN X32.here hx rfl (hb hby d5_204) rfl ?_
    exact kk
  have f33 : Ary Z h28 vi .int [(.int (0 : Int32)), (.int (1 : Int32)), (.int (0 : Int32)), (.int (0 : Int32)), (.int (0 : Int32)), (.int (0 : Int32)), (.int (0 : Int32)), (.int (0 : Int32)), (.int (0 : Int32)), (.int (0 : Int32)), (.int (0 : Int32)), (.int (0 : Int32)), (.int (0 : Int32)), (.int (0 : Int32)), (.int (0 : Int32)), (.int (0 : Int32)), (.int (-1 : Int32)), (.int (-2 : Int32)), (.int (0 : Int32)), (.int (0 : Int32)), (.int (0 : Int32)), (.int (0 : Int32)), (.int (0 : Int32)), (.int (0 : Int32)), (.int (0 : Int32)), (.int (0 : Int32)), (.int (0 : Int32)), (.int (0 : Int32)), (.int (0 : Int32)), (.int (0 : Int32)), (.int (0 : Int32)), (.int (0 : Int32)), (.int (-1 : Int32)), (.int (0 : Int32)), (.int (0 : Int32)), (.int (0 : Int32)), (.int (0 : Int32)), (.int (0 : Int32)), (.int (0 : Int32)), (.int (0 : Int32)), (.int (0 : Int32)), (.int (0 : Int32)), (.int (0 : Int32)), (.int (0 : Int32)), (.int (0 : Int32)), (.int (0 : Int32)), (.int (0 : Int32)), (.int (0 : Int32)), (.int (0 : Int32)), (.int (0 : Int32)), (.int (0 : Int32)), (.int (0 : Int32)), (.int (0 : Int32)), (.int (0 : Int32)), (.int (0 : Int32)), (.int (0 : Int32)), (.int (0 : Int32)), (.int (0 : Int32)), (.int (0 : Int32)), (.int (0 : Int32)), (.int (0 : Int32)), (.int (0 : Int32)), (.int (0 : Int32)), (.int (0 : Int32)), (.int (0 : Int32)), (.int (0 : Int32)), (.int (0 : Int32)), (.int (0 : Int32)), (.int (0 : Int32)), (.int (0 : Int32)), (.int (0 : Int32)), (.int (0 : Int32)), (.int (0 : Int32)), (.int (0 : Int32)), (.int (0 : Int32)), (.int (0 : Int32)), (.int (0 : Int32)), (.int (0 : Int32)), (.int (0 : Int32)), (.int (0 : Int32)), (.int (0 : Int32))] := ((V15.other W24 ne_vi_vr).other W28 (Ne.symm ne_va_vi))
  obtain ⟨cl34, Ar34, Sl34⟩ := id f33
  have hin34 := inA (cl := cl34) Sl34 (j := (33 : Int32)) (by decide) (Nat.le_of_ble_eq_true rfl)
  obtain ⟨T34, h34, X34, e34, W34, st34⟩ := stI X32 hx hZ e32 Ar34 (j := (33 : Int32)) hin34 (g := (mkF m 205 #[.val (.ref va), .val (.int (0 : Int32)), .val (.int (1 : Int32)), .val (.int (-1 : Int32)), .unset, .unset] [(.int (-1 : Int32)), (.int (33 : Int32)), (.ref vi)])) rfl rfl (hb hby d5_205)
  have V34 : Ary Z h34 vi .int [(.int (0 : Int32)), (.int (1 : Int32)), (.int (0 : Int32)), (.int (0 : Int32)), (.int (0 : Int32)), (.int (0 : Int32)), (.int (0 : Int32)), (.int (0 : Int32)), (.int (0 : Int32)), (.int (0 : Int32)), (.int (0 : Int32)), (.int (0 : Int32)), (.int (0 : Int32)), (.int (0 : Int32)), (.int (0 : Int32)), (.int (0 : Int32)), (.int (-1 : Int32)), (.int (-2 : Int32)), (.int (0 : Int32)), (.int (0 : Int32)), (.int (0 : Int32)), (.int (0 : Int32)), (.int (0 : Int32)), (.int (0 : Int32)), (.int (0 : Int32)), (.int (0 : Int32)), (.int (0 : Int32)), (.int (0 : Int32)), (.int (0 : Int32)), (.int (0 : Int32)), (.int (0 : Int32)), (.int (0 : Int32)), (.int (-1 : Int32)), (.int (-1 : Int32)), (.int (0 : Int32)), (.int (0 : Int32)), (.int (0 : Int32)), (.int (0 : Int32)), (.int (0 : Int32)), (.int (0 : Int32)), (.int (0 : Int32)), (.int (0 : Int32)), (.int (0 : Int32)), (.int (0 : Int32)), (.int (0 : Int32)), (.int (0 : Int32)), (.int (0 : Int32)), (.int (0 : Int32)), (.int (0 : Int32)), (.int (0 : Int32)), (.int (0 : Int32)), (.int (0 : Int32)), (.int (0 : Int32)), (.int (0 : Int32)), (.int (0 : Int32)), (.int (0 : Int32)), (.int (0 : Int32)), (.int (0 : Int32)), (.int (0 : Int32)), (.int (0 : Int32)), (.int (0 : Int32)), (.int (0 : Int32)), (.int (0 : Int32)), (.int (0 : Int32)), (.int (0 : Int32)), (.int (0 : Int32)), (.int (0 : Int32)), (.int (0 : Int32)), (.int (0 : Int32)), (.int (0 : Int32)), (.int (0 : Int32)), (.int (0 : Int32)), (.int (0 : Int32)), (.int (0 : Int32)), (.int (0 : Int32)), (.int (0 : Int32)), (.int (0 : Int32)), (.int (0 : Int32)), (.int (0 : Int32)), (.int (0 : Int32)), (.int (0 : Int32))] := Ary.put Ar34 Sl34 W34 rfl
  have N34 := Fr.snoc X34 N28 g_vi
  refine Goal.to (B := T34.setTop (mkF m 206 #[.val (.ref va), .val (.int (0 : Int32)), .val (.int (1 : Int32)), .val (.int (-1 : Int32)), .unset, .unset] [])) st34 ?_
  refine Goal.to (B := T34.setTop (mkF m 207 #[.val (.ref va), .val (.int (0 : Int32)), .val (.int (1 : Int32)), .val (.int (-1 : Int32)), .unset, .unset] [(.ref va)])) (fun tt kk => ?_) ?_
  · show Steps p.tables e below (T34.setTop (mkF m 206 #[.val (.ref va), .val (.int (0 : Int32)), .val (.int (1 : Int32)), .val (.int (-1 : Int32)), .unset, .unset] [])) tt
    refine XS.aloadN X34.here hx rfl (hb hby d5_206) rfl rfl ?_
    exact kk
  have f35 : Fld Z h34 va "com/example/deferra/deferra/engine/Identities" "ints" "[I" (.ref vi) := (f29.other W34 (Or.inl ne_va_vi))
  obtain ⟨T36, X36, e36, st36⟩ := getF X34 hx hZ hown (host := "") (Or.inl (hw _ (mw 24 rfl))) Via.refl e34 f35 (g := (mkF m 207 #[.val (.ref va), .val (.int (0 : Int32)), .val (.int (1 : Int32)), .val (.int (-1 : Int32)), .unset, .unset] [(.ref va)])) rfl rfl (hb hby d5_207)
  refine Goal.to (B := T36.setTop (mkF m 210 #[.val (.ref va), .val (.int (0 : Int32)), .val (.int (1 : Int32)), .val (.int (-1 : Int32)), .unset, .unset] [(.ref vi)])) st36 ?_
  refine Goal.to (B := T36.setTop (mkF m 211 #[.val (.ref va), .val (.int (0 : Int32)), .val (.int (1 : Int32)), .val (.int (-1 : Int32)), .unset, .unset] [(.ref va), (.ref vi)])) (fun tt kk => ?_) ?_
  · show Steps p.tables e below (T36.setTop (mkF m 210 #[.val (.ref va), .val (.int (0 : Int32)), .val (.int (1 : Int32)), .val (.int (-1 : Int32)), .unset, .unset] [(.ref vi)])) tt
    refine XS.aloadN X36.here hx rfl (hb hby d5_210) rfl rfl ?_
    exact kk
  have f37 : Fld Z h34 va "com/example/deferra/deferra/engine/Identities" "holdersAt" "I" (.int (64 : Int32)) := ((((((F_holdersAt_va.other W6 (Or.inr (slot_ne (Or.inl (hw _ (mw 37 rfl))) (Or.inl (hw _ (mw 11 rfl))) (by decide) (t := .int) (t' := .int) (by decide) (by decide)))).other W10 (Or.inl ne_va_vi)).other W15 (Or.inl ne_va_vi)).other W24 (Or.inl ne_va_vr)).other W28 (Or.inr (slot_ne (Or.inl (hw _ (mw 37 rfl))) (Or.inl (hw _ (mw 47 rfl))) (by decide) (t := .int) (t' := .int) (by decide) (by decide)))).other W34 (Or.inl ne_va_vi))
  obtain ⟨T38, X38, e38, st38⟩ := getF X36 hx hZ hown (host := "") (Or.inl (hw _ (mw 36 rfl))) Via.refl e36 f37 (g := (mkF m 211 #[.val (.ref va), .val (.int (0 : Int32)), .val (.int (1 : Int32)), .val (.int (-1 : Int32)), .unset, .unset] [(.ref va), (.ref vi)])) rfl rfl (hb hby d5_211)
  refine Goal.to (B := T38.setTop (mkF m 214 #[.val (.ref va), .val (.int (0 : Int32)), .val (.int (1 : Int32)), .val (.int (-1 : Int32)), .unset, .unset] [(.int (64 : Int32)), (.ref vi)])) st38 ?_
  refine Goal.to (B := T38.setTop (mkF m 219 #[.val (.ref va), .val (.int (0 : Int32)), .val (.int (1 : Int32)), .val (.int (-1 : Int32)), .unset, .unset] [(.int (64 : Int32)), (.ref vi), (.int (64 : Int32)), (.ref vi)])) (fun tt kk => ?_) ?_
  · show Steps p.tables e below (T38.setTop (mkF m 214 #[.val (.ref va), .val (.int (0 : Int32)), .val (.int (1 : Int32)), .val (.int (-1 : Int32)), .unset, .unset] [(.int (64 : Int32)), (.ref vi)])) tt
    refine XS.iloadN X38.here hx rfl (hb hby d5_214) rfl ?_
    show Steps p.tables e below (T38.setTop (mkF m 215 #[.val (.ref va), .val (.int (0 : Int32)), .val (.int (1 : Int32)), .val (.int (-1 : Int32)), .unset, .unset] [(.int (-1 : Int32)), (.int (64 : Int32)), (.ref vi)])) tt
    refine XS.iadd X38.here hx rfl (hb hby d5_215) rfl ?_
    show Steps p.tables e below (T38.setTop (mkF m 216 #[.val (.ref va), .val (.int (0 : Int32)), .val (.int (1 : Int32)), .val (.int (-1 : Int32)), .unset, .unset] [(.int (63 : Int32)), (.ref vi)])) tt
    refine XS.iconst X38.here hx rfl (hb hby d5_216) ?_
    show Steps p.tables e below (T38.setTop (mkF m 217 #[.val (.ref va), .val (.int (0 : Int32)), .val (.int (1 : Int32)), .val (.int (-1 : Int32)), .unset, .unset] [(.int (1 : Int32)), (.int (63 : Int32)), (.ref vi)])) tt
    refine XS.iadd X38.here hx rfl (hb hby d5_217) rfl ?_
    show Steps p.tables e below (T38.setTop (mkF m 218 #[.val (.ref va), .val (.int (0 : Int32)), .val (.int (1 : Int32)), .val (.int (-1 : Int32)), .unset, .unset] [(.int (64 : Int32)), (.ref vi)])) tt
    refine Jvm.Free.XT.dup2 X38.here hx rfl (hb hby d5_218) rfl rfl rfl ?_
    exact kk
  obtain ⟨cl39, Ar39, Sl39⟩ := id V34
  have hin39 := inA (cl := cl39) Sl39 (j := (64 : Int32)) (by decide) (Nat.le_of_ble_eq_true rfl)
  have hat39 : cl39.slots[((64 : Int32)).toNatClampNeg]? = some (.int (0 : Int32)) := atA Sl39 rfl
  refine Goal.to (B := T38.setTop (mkF m 222 #[.val (.ref va), .val (.int (0 : Int32)), .val (.int (1 : Int32)), .val (.int (-1 : Int32)), .unset, .unset] [(.int (1 : Int32)), (.int (64 : Int32)), (.ref vi)])) (fun tt kk => ?_) ?_
  · show Steps p.tables e below (T38.setTop (mkF m 219 #[.val (.ref va), .val (.int (0 : Int32)), .val (.int (1 : Int32)), .val (.int (-1 : Int32)), .unset, .unset] [(.int (64 : Int32)), (.ref vi), (.int (64 : Int32)), (.ref vi)])) tt
    refine X38.iaload hx (j := (64 : Int32)) (v := (.int (0 : Int32))) (by rw [e38]; exact Ar39.1) (State.isArrayOf_alike hZ.alike Ar39.2.1) Ar39.2.2 hin39 hat39 (g := (mkF m 219 #[.val (.ref va), .val (.int (0 : Int32)), .val (.int (1 : Int32)), .val (.int (-1 : Int32)), .unset, .unset] [(.int (64 : Int32)), (.ref vi), (.int (64 : Int32)), (.ref vi)])) rfl rfl (hb hby d5_219) _ ?_
    show Steps p.tables e below (T38.setTop (mkF m 220 #[.val (.ref va), .val (.int (0 : Int32)), .val (.int (1 : Int32)), .val (.int (-1 : Int32)), .unset, .unset] [(.int (0 : Int32)), (.int (64 : Int32)), (.ref vi)])) tt
    refine XS.iconst X38.here hx rfl (hb hby d5_220) ?_
    show Steps p.tables e below (T38.setTop (mkF m 221 #[.val (.ref va), .val (.int (0 : Int32)), .val (.int (1 : Int32)), .val (.int (-1 : Int32)), .unset, .unset] [(.int (1 : Int32)), (.int (0 : Int32)), (.int (64 : Int32)), (.ref vi)])) tt
    refine XS.iadd X38.here hx rfl (hb hby d5_221) rfl ?_
    exact kk
  obtain ⟨cl40, Ar40, Sl40⟩ := id V34
  have hin40 := inA (cl := cl40) Sl40 (j := (64 : Int32)) (by decide) (Nat.le_of_ble_eq_true rfl)
  obtain ⟨T40, h40, X40, e40, W40, st40⟩ := stI X38 hx hZ e38 Ar40 (j := (64 : Int32)) hin40 (g := (mkF m 222 #[.val (.ref va), .val (.int (0 : Int32)), .val (.int (1 : Int32)), .val (.int (-1 : Int32)), .unset, .unset] [(.int (1 : Int32)), (.int (64 : Int32)), (.ref vi)])) rfl rfl (hb hby d5_222)
  have V40 : Ary Z h40 vi .int [(.int (0 : Int32)), (.int (1 : Int32)), (.int (0 : Int32)), (.int (0 : Int32)), (.int (0 : Int32)), (.int (0 : Int32)), (.int (0 : Int32)), (.int (0 : Int32)), (.int (0 : Int32)), (.int (0 : Int32)), (.int (0 : Int32)), (.int (0 : Int32)), (.int (0 : Int32)), (.int (0 : Int32)), (.int (0 : Int32)), (.int (0 : Int32)), (.int (-1 : Int32)), (.int (-2 : Int32)), (.int (0 : Int32)), (.int (0 : Int32)), (.int (0 : Int32)), (.int (0 : Int32)), (.int (0 : Int32)), (.int (0 : Int32)), (.int (0 : Int32)), (.int (0 : Int32)), (.int (0 : Int32)), (.int (0 : Int32)), (.int (0 : Int32)), (.int (0 : Int32)), (.int (0 : Int32)), (.int (0 : Int32)), (.int (-1 : Int32)), (.int (-1 : Int32)), (.int (0 : Int32)), (.int (0 : Int32)), (.int (0 : Int32)), (.int (0 : Int32)), (.int (0 : Int32)), (.int (0 : Int32)), (.int (0 : Int32)), (.int (0 : Int32)), (.int (0 : Int32)), (.int (0 : Int32)), (.int (0 : Int32)), (.int (0 : Int32)), (.int (0 : Int32)), (.int (0 : Int32)), (.int (0 : Int32)), (.int (0 : Int32)), (.int (0 : Int32)), (.int (0 : Int32)), (.int (0 : Int32)), (.int (0 : Int32)), (.int (0 : Int32)), (.int (0 : Int32)), (.int (0 : Int32)), (.int (0 : Int32)), (.int (0 : Int32)), (.int (0 : Int32)), (.int (0 : Int32)), (.int (0 : Int32)), (.int (0 : Int32)), (.int (0 : Int32)), (.int (1 : Int32)), (.int (0 : Int32)), (.int (0 : Int32)), (.int (0 : Int32)), (.int (0 : Int32)), (.int (0 : Int32)), (.int (0 : Int32)), (.int (0 : Int32)), (.int (0 : Int32)), (.int (0 : Int32)), (.int (0 : Int32)), (.int (0 : Int32)), (.int (0 : Int32)), (.int (0 : Int32)), (.int (0 : Int32)), (.int (0 : Int32)), (.int (0 : Int32))] := Ary.put Ar40 Sl40 W40 rfl
  have N40 := Fr.snoc X40 N34 g_vi
  refine Goal.to (B := T40.setTop (mkF m 223 #[.val (.ref va), .val (.int (0 : Int32)), .val (.int (1 : Int32)), .val (.int (-1 : Int32)), .unset, .unset] [])) st40 ?_
  refine Goal.to (B := T40.setTop (mkF m 225 #[.val (.ref va), .val (.int (0 : Int32)), .val (.int (1 : Int32)), .val (.int (-1 : Int32)), .unset, .unset] [(.ref va), (.int (-1 : Int32))])) (fun tt kk => ?_) ?_
  · show Steps p.tables e below (T40.setTop (mkF m 223 #[.val (.ref va), .val (.int (0 : Int32)), .val (.int (1 : Int32)), .val (.int (-1 : Int32)), .unset, .unset] [])) tt
    refine XS.iloadN X40.here hx rfl (hb hby d5_223) rfl ?_
    show Steps p.tables e below (T40.setTop (mkF m 224 #[.val (.ref va), .val (.int (0 : Int32)), .val (.int (1 : Int32)), .val (.int (-1 : Int32)), .unset, .unset] [(.int (-1 : Int32))])) tt
    refine XS.aloadN X40.here hx rfl (hb hby d5_224) rfl rfl ?_
    exact kk
  have f41 : Fld Z h40 va "com/example/deferra/deferra/engine/Identities" "capacity" "I" (.int uc) := (((((((F_capacity_va.other W6 (Or.inr (slot_ne (Or.inr (hw _ (mw 17 rfl))) (Or.inl (hw _ (mw 11 rfl))) (by decide) (t := .int) (t' := .int) (by decide) (by decide)))).other W10 (Or.inl ne_va_vi)).other W15 (Or.inl ne_va_vi)).other W24 (Or.inl ne_va_vr)).other W28 (Or.inr (slot_ne (Or.inr (hw _ (mw 17 rfl))) (Or.inl (hw _ (mw 47 rfl))) (by decide) (t := .int) (t' := .int) (by decide) (by decide)))).other W34 (Or.inl ne_va_vi)).other W40 (Or.inl ne_va_vi))
  obtain ⟨T42, X42, e42, st42⟩ := getF X40 hx hZ hown (host := "") (Or.inl (hw _ (mw 16 rfl))) Via.refl e40 f41 (g := (mkF m 225 #[.val (.ref va), .val (.int (0 : Int32)), .val (.int (1 : Int32)), .val (.int (-1 : Int32)), .unset, .unset] [(.ref va), (.int (-1 : Int32))])) rfl rfl (hb hby d5_225)
  refine Goal.to (B := T42.setTop (mkF m 228 #[.val (.ref va), .val (.int (0 : Int32)), .val (.int (1 : Int32)), .val (.int (-1 : Int32)), .unset, .unset] [(.int uc), (.int (-1 : Int32))])) st42 ?_
  refine Goal.to (B := T42.setTop (mkF m 261 #[.val (.ref va), .val (.int (0 : Int32)), .val (.int (1 : Int32)), .val (.int (-1 : Int32)), .val (.int (1 : Int32)), .unset] [(.int (1 : Int32))])) (fun tt kk => ?_) ?_
  · show Steps p.tables e below (T42.setTop (mkF m 228 #[.val (.ref va), .val (.int (0 : Int32)), .val (.int (1 : Int32)), .val (.int (-1 : Int32)), .unset, .unset] [(.int uc), (.int (-1 : Int32))])) tt
    refine XS.icmpYes X42.here hx rfl (pc0 := 228) (pc' := 244) rfl (hb hby d5_228) rfl (tlt hcap).1 (by decide) (by decide) ?_
    show Steps p.tables e below (T42.setTop (mkF m 244 #[.val (.ref va), .val (.int (0 : Int32)), .val (.int (1 : Int32)), .val (.int (-1 : Int32)), .unset, .unset] [])) tt
    refine XS.iconst X42.here hx rfl (hb hby d5_244) ?_
    show Steps p.tables e below (T42.setTop (mkF m 245 #[.val (.ref va), .val (.int (0 : Int32)), .val (.int (1 : Int32)), .val (.int (-1 : Int32)), .unset, .unset] [(.int (1 : Int32))])) tt
    refine XS.goto X42.here hx rfl (pc0 := 245) (pc' := 249) rfl (hb hby d5_245) (by decide) (by decide) ?_
    show Steps p.tables e below (T42.setTop (mkF m 249 #[.val (.ref va), .val (.int (0 : Int32)), .val (.int (1 : Int32)), .val (.int (-1 : Int32)), .unset, .unset] [(.int (1 : Int32))])) tt
    refine XS.istore X42.here hx rfl (hb hby d5_249) rfl (l' := #[.val (.ref va), .val (.int (0 : Int32)), .val (.int (1 : Int32)), .val (.int (-1 : Int32)), .val (.int (1 : Int32)), .unset]) rfl ?_
    show Steps p.tables e below (T42.setTop (mkF m 251 #[.val (.ref va), .val (.int (0 : Int32)), .val (.int (1 : Int32)), .val (.int (-1 : Int32)), .val (.int (1 : Int32)), .unset] [])) tt
    refine XS.iload X42.here hx rfl (hb hby d5_251) rfl ?_
    show Steps p.tables e below (T42.setTop (mkF m 253 #[.val (.ref va), .val (.int (0 : Int32)), .val (.int (1 : Int32)), .val (.int (-1 : Int32)), .val (.int (1 : Int32)), .unset] [(.int (1 : Int32))])) tt
    refine XS.ifNo X42.here hx rfl (hb hby d5_253) rfl ((if0 _ _).trans (feq ((by decide) : ¬ ((1 : Int32) = (0 : Int32)))).1) ?_
    show Steps p.tables e below (T42.setTop (mkF m 256 #[.val (.ref va), .val (.int (0 : Int32)), .val (.int (1 : Int32)), .val (.int (-1 : Int32)), .val (.int (1 : Int32)), .unset] [])) tt
    refine XS.iloadN X42.here hx rfl (hb hby d5_256) rfl ?_
    show Steps p.tables e below (T42.setTop (mkF m 257 #[.val (.ref va), .val (.int (0 : Int32)), .val (.int (1 : Int32)), .val (.int (-1 : Int32)), .val (.int (1 : Int32)), .unset] [(.int (1 : Int32))])) tt
    refine XS.goto X42.here hx rfl (pc0 := 257) (pc' := 261) rfl (hb hby d5_257) (by decide) (by decide) ?_
    exact kk
  have f43 : Keep h0 h40 [va, vi, vr] := ((((((((Keep.refl h0 [va, vi, vr]).wr W6 (Or.inl (List.mem_of_getElem? (i := 0) rfl))).wr W10 (Or.inl (List.mem_of_getElem? (i := 1) rfl))).wr W15 (Or.inl (List.mem_of_getElem? (i := 1) rfl))).wr W24 (Or.inl (List.mem_of_getElem? (i := 2) rfl))).wr W28 (Or.inl (List.mem_of_getElem? (i := 0) rfl))).wr W34 (Or.inl (List.mem_of_getElem? (i := 1) rfl))).wr W40 (Or.inl (List.mem_of_getElem? (i := 1) rfl)))
  have f44 : Fld Z h40 va "com/example/deferra/deferra/engine/Identities" "count" "I" (.int (2 : Int32)) := ((((((Fw6.other W10 (Or.inl ne_va_vi)).other W15 (Or.inl ne_va_vi)).other W24 (Or.inl ne_va_vr)).other W28 (Or.inr (slot_ne (Or.inl (hw _ (mw 11 rfl))) (Or.inl (hw _ (mw 47 rfl))) (by decide) (t := .int) (t' := .int) (by decide) (by decide)))).other W34 (Or.inl ne_va_vi)).other W40 (Or.inl ne_va_vi))
  have f45 : Fld Z h40 va "com/example/deferra/deferra/engine/Identities" "slots" "I" (.int (16 : Int32)) := (((((((F_slots_va.other W6 (Or.inr (slot_ne (Or.inl (hw _ (mw 13 rfl))) (Or.inl (hw _ (mw 11 rfl))) (by decide) (t := .int) (t' := .int) (by decide) (by decide)))).other W10 (Or.inl ne_va_vi)).other W15 (Or.inl ne_va_vi)).other W24 (Or.inl ne_va_vr)).other W28 (Or.inr (slot_ne (Or.inl (hw _ (mw 13 rfl))) (Or.inl (hw _ (mw 47 rfl))) (by decide) (t := .int) (t' := .int) (by decide) (by decide)))).other W34 (Or.inl ne_va_vi)).other W40 (Or.inl ne_va_vi))
  have f46 : Fld Z h40 va "com/example/deferra/deferra/engine/Identities" "words" "I" (.int (1 : Int32)) := ((((f20.other W24 (Or.inl ne_va_vr)).other W28 (Or.inr (slot_ne (Or.inl (hw _ (mw 15 rfl))) (Or.inl (hw _ (mw 47 rfl))) (by decide) (t := .int) (t' := .int) (by decide) (by decide)))).other W34 (Or.inl ne_va_vi)).other W40 (Or.inl ne_va_vi))
  have f47 : Fld Z h40 va "com/example/deferra/deferra/engine/Identities" "nullAllowed" "Z" (.int (1 : Int32)) := ((((f16.other W24 (Or.inl ne_va_vr)).other W28 (Or.inr (slot_ne (Or.inr (hw _ (mw 19 rfl))) (Or.inl (hw _ (mw 47 rfl))) (by decide) (t := .boolean) (t' := .int) (by decide) (by decide)))).other W34 (Or.inl ne_va_vi)).other W40 (Or.inl ne_va_vi))
  have f48 : Fld Z h40 va "com/example/deferra/deferra/engine/Identities" "ints" "[I" (.ref vi) := (f35.other W40 (Or.inl ne_va_vi))
  have f49 : Fld Z h40 va "com/example/deferra/deferra/engine/Identities" "numberAt" "I" (.int (16 : Int32)) := (((((f13.other W15 (Or.inl ne_va_vi)).other W24 (Or.inl ne_va_vr)).other W28 (Or.inr (slot_ne (Or.inl (hw _ (mw 31 rfl))) (Or.inl (hw _ (mw 47 rfl))) (by decide) (t := .int) (t' := .int) (by decide) (by decide)))).other W34 (Or.inl ne_va_vi)).other W40 (Or.inl ne_va_vi))
  have f50 : Fld Z h40 va "com/example/deferra/deferra/engine/Identities" "colourAt" "I" (.int (32 : Int32)) := ((f31.other W34 (Or.inl ne_va_vi)).other W40 (Or.inl ne_va_vi))
  have f51 : Fld Z h40 va "com/example/deferra/deferra/engine/Identities" "madeAt" "I" (.int (48 : Int32)) := (((((((F_madeAt_va.other W6 (Or.inr (slot_ne (Or.inl (hw _ (mw 35 rfl))) (Or.inl (hw _ (mw 11 rfl))) (by decide) (t := .int) (t' := .int) (by decide) (by decide)))).other W10 (Or.inl ne_va_vi)).other W15 (Or.inl ne_va_vi)).other W24 (Or.inl ne_va_vr)).other W28 (Or.inr (slot_ne (Or.inl (hw _ (mw 35 rfl))) (Or.inl (hw _ (mw 47 rfl))) (by decide) (t := .int) (t' := .int) (by decide) (by decide)))).other W34 (Or.inl ne_va_vi)).other W40 (Or.inl ne_va_vi))
  have f52 : Fld Z h40 va "com/example/deferra/deferra/engine/Identities" "holdersAt" "I" (.int (64 : Int32)) := (f37.other W40 (Or.inl ne_va_vi))
  have f53 : Fld Z h40 va "com/example/deferra/deferra/engine/Identities" "rows" "[J" (.ref vr) := ((((f18.other W24 (Or.inl ne_va_vr)).other W28 (Or.inr (slot_ne (Or.inl (hw _ (mw 40 rfl))) (Or.inl (hw _ (mw 47 rfl))) (by decide) (t := (.array .long)) (t' := .int) (by decide) (by decide)))).other W34 (Or.inl ne_va_vi)).other W40 (Or.inl ne_va_vi))
  have f54 : Fld Z h40 va "com/example/deferra/deferra/engine/Identities" "openCount" "I" (.int (1 : Int32)) := ((Fw28.other W34 (Or.inl ne_va_vi)).other W40 (Or.inl ne_va_vi))
  have f55 : Ary Z h40 vr .long [(.long (2 : Int64)), (.long (0 : Int64)), (.long (0 : Int64)), (.long (0 : Int64)), (.long (0 : Int64)), (.long (0 : Int64)), (.long (0 : Int64)), (.long (0 : Int64)), (.long (0 : Int64)), (.long (0 : Int64)), (.long (0 : Int64)), (.long (0 : Int64)), (.long (0 : Int64)), (.long (0 : Int64)), (.long (0 : Int64)), (.long (0 : Int64)), (.long (0 : Int64)), (.long (0 : Int64))] := (((V24.other W28 (Ne.symm ne_va_vr)).other W34 (Ne.symm ne_vi_vr)).other W40 (Ne.symm ne_vi_vr))
  exact Goal.retV X42 hx Bd.returns rfl (Or.inl ⟨rfl, Or.inl rfl, _, rfl⟩) (hb hby d5_261) hlk e42 ⟨rfl, N40, f43, f44, f45, f46, f41, f47, f48, f49, f50, f51, f52, f53, f54, V40, f55⟩ (by decide) (by decide)
def Qtk2 (Z : State) (va : Addr) (vi : Addr) (vr : Addr) (uc : Int32) (h0 : Heap) (n0 : Nat) (v : Option Value) (h : Heap) (L : List Loc) : Prop := v = some (.int (2 : Int32)) ∧ Fr n0 L ∧ Keep h0 h [va, vi, vr] ∧ Fld Z h va "com/example/deferra/deferra/engine/Identities" "count" "I" (.int (3 : Int32)) ∧ Fld Z h va "com/example/deferra/deferra/engine/Identities" "slots" "I" (.int (16 : Int32)) ∧ Fld Z h va "com/example/deferra/deferra/engine/Identities" "words" "I" (.int (1 : Int32)) ∧ Fld Z h va "com/example/deferra/deferra/engine/Identities" "capacity" "I" (.int uc) ∧ Fld Z h va "com/example/deferra/deferra/engine/Identities" "nullAllowed" "Z" (.int (1 : Int32)) ∧ Fld Z h va "com/example/deferra/deferra/engine/Identities" "ints" "[I" (.ref vi) ∧ Fld Z h va "com/example/deferra/deferra/engine/Identities" "numberAt" "I" (.int (16 : Int32)) ∧ Fld Z h va "com/example/deferra/deferra/engine/Identities" "colourAt" "I" (.int (32 : Int32)) ∧ Fld Z h va "com/example/deferra/deferra/engine/Identities" "madeAt" "I" (.int (48 : Int32)) ∧ Fld Z h va "com/example/deferra/deferra/engine/Identities" "holdersAt" "I" (.int (64 : Int32)) ∧ Fld Z h va "com/example/deferra/deferra/engine/Identities" "rows" "[J" (.ref vr) ∧ Fld Z h va "com/example/deferra/deferra/engine/Identities" "openCount" "I" (.int (2 : Int32)) ∧ Ary Z h vi .int [(.int (0 : Int32)), (.int (1 : Int32)), (.int (2 : Int32)), (.int (0 : Int32)), (.int (0 : Int32)), (.int (0 : Int32)), (.int (0 : Int32)), (.int (0 : Int32)), (.int (0 : Int32)), (.int (0 : Int32)), (.int (0 : Int32)), (.int (0 : Int32)), (.int (0 : Int32)), (.int (0 : Int32)), (.int (0 : Int32)), (.int (0 : Int32)), (.int (-1 : Int32)), (.int (-2 : Int32)), (.int (-2 : Int32)), (.int (0 : Int32)), (.int (0 : Int32)), (.int (0 : Int32)), (.int (0 : Int32)), (.int (0 : Int32)), (.int (0 : Int32)), (.int (0 : Int32)), (.int (0 : Int32)), (.int (0 : Int32)), (.int (0 : Int32)), (.int (0 : Int32)), (.int (0 : Int32)), (.int (0 : Int32)), (.int (-1 : Int32)), (.int (-1 : Int32)), (.int (-1 : Int32)), (.int (0 : Int32)), (.int (0 : Int32)), (.int (0 : Int32)), (.int (0 : Int32)), (.int (0 : Int32)), (.int (0 : Int32)), (.int (0 : Int32)), (.int (0 : Int32)), (.int (0 : Int32)), (.int (0 : Int32)), (.int (0 : Int32)), (.int (0 : Int32)), (.int (0 : Int32)), (.int (0 : Int32)), (.int (0 : Int32)), (.int (0 : Int32)), (.int (0 : Int32)), (.int (0 : Int32)), (.int (0 : Int32)), (.int (0 : Int32)), (.int (0 : Int32)), (.int (0 : Int32)), (.int (0 : Int32)), (.int (0 : Int32)), (.int (0 : Int32)), (.int (0 : Int32)), (.int (0 : Int32)), (.int (0 : Int32)), (.int (0 : Int32)), (.int (2 : Int32)), (.int (0 : Int32)), (.int (0 : Int32)), (.int (0 : Int32)), (.int (0 : Int32)), (.int (0 : Int32)), (.int (0 : Int32)), (.int (0 : Int32)), (.int (0 : Int32)), (.int (0 : Int32)), (.int (0 : Int32)), (.int (0 : Int32)), (.int (0 : Int32)), (.int (0 : Int32)), (.int (0 : Int32)), (.int (0 : Int32)), (.int (0 : Int32))] ∧ Ary Z h vr .long [(.long (6 : Int64)), (.long (0 : Int64)), (.long (0 : Int64)), (.long (0 : Int64)), (.long (0 : Int64)), (.long (0 : Int64)), (.long (0 : Int64)), (.long (0 : Int64)), (.long (0 : Int64)), (.long (0 : Int64)), (.long (0 : Int64)), (.long (0 : Int64)), (.long (0 : Int64)), (.long (0 : Int64)), (.long (0 : Int64)), (.long (0 : Int64)), (.long (0 : Int64)), (.long (0 : Int64))]
set_option maxRecDepth 65536 in
set_option maxHeartbeats 40000000 in
theorem rmtk2 (l : Launch) (Z : State) (a0 : Array Value) (hw : ∀ d ∈ tables_1, d.before a0 Z = true) (ws : List Jvm.Cond) (va : Addr) (vi : Addr) (vr : Addr) (uc : Int32) (h0 : Heap) (n0 : Nat) (Z0 : n0 ≤ h0.size) (E_va : Exa Z h0 va "com/example/deferra/deferra/engine/Identities") (F_count_va : Fld Z h0 va "com/example/deferra/deferra/engine/Identities" "count" "I" (.int (2 : Int32))) (F_slots_va : Fld Z h0 va "com/example/deferra/deferra/engine/Identities" "slots" "I" (.int (16 : Int32))) (F_words_va : Fld Z h0 va "com/example/deferra/deferra/engine/Identities" "words" "I" (.int (1 : Int32))) (F_capacity_va : Fld Z h0 va "com/example/deferra/deferra/engine/Identities" "capacity" "I" (.int uc)) (F_nullAllowed_va : Fld Z h0 va "com/example/deferra/deferra/engine/Identities" "nullAllowed" "Z" (.int (1 : Int32))) (F_ints_va : Fld Z h0 va "com/example/deferra/deferra/engine/Identities" "ints" "[I" (.ref vi)) (F_numberAt_va : Fld Z h0 va "com/example/deferra/deferra/engine/Identities" "numberAt" "I" (.int (16 : Int32))) (F_colourAt_va : Fld Z h0 va "com/example/deferra/deferra/engine/Identities" "colourAt" "I" (.int (32 : Int32))) (F_madeAt_va : Fld Z h0 va "com/example/deferra/deferra/engine/Identities" "madeAt" "I" (.int (48 : Int32))) (F_holdersAt_va : Fld Z h0 va "com/example/deferra/deferra/engine/Identities" "holdersAt" "I" (.int (64 : Int32))) (F_rows_va : Fld Z h0 va "com/example/deferra/deferra/engine/Identities" "rows" "[J" (.ref vr)) (F_openCount_va : Fld Z h0 va "com/example/deferra/deferra/engine/Identities" "openCount" "I" (.int (1 : Int32))) (V_vi : Ary Z h0 vi .int [(.int (0 : Int32)), (.int (1 : Int32)), (.int (0 : Int32)), (.int (0 : Int32)), (.int (0 : Int32)), (.int (0 : Int32)), (.int (0 : Int32)), (.int (0 : Int32)), (.int (0 : Int32)), (.int (0 : Int32)), (.int (0 : Int32)), (.int (0 : Int32)), (.int (0 : Int32)), (.int (0 : Int32)), (.int (0 : Int32)), (.int (0 : Int32)), (.int (-1 : Int32)), (.int (-2 : Int32)), (.int (0 : Int32)), (.int (0 : Int32)), (.int (0 : Int32)), (.int (0 : Int32)), (.int (0 : Int32)), (.int (0 : Int32)), (.int (0 : Int32)), (.int (0 : Int32)), (.int (0 : Int32)), (.int (0 : Int32)), (.int (0 : Int32)), (.int (0 : Int32)), (.int (0 : Int32)), (.int (0 : Int32)), (.int (-1 : Int32)), (.int (-1 : Int32)), (.int (0 : Int32)), (.int (0 : Int32)), (.int (0 : Int32)), (.int (0 : Int32)), (.int (0 : Int32)), (.int (0 : Int32)), (.int (0 : Int32)), (.int (0 : Int32)), (.int (0 : Int32)), (.int (0 : Int32)), (.int (0 : Int32)), (.int (0 : Int32)), (.int (0 : Int32)), (.int (0 : Int32)), (.int (0 : Int32)), (.int (0 : Int32)), (.int (0 : Int32)), (.int (0 : Int32)), (.int (0 : Int32)), (.int (0 : Int32)), (.int (0 : Int32)), (.int (0 : Int32)), (.int (0 : Int32)), (.int (0 : Int32)), (.int (0 : Int32)), (.int (0 : Int32)), (.int (0 : Int32)), (.int (0 : Int32)), (.int (0 : Int32)), (.int (0 : Int32)), (.int (1 : Int32)), (.int (0 : Int32)), (.int (0 : Int32)), (.int (0 : Int32)), (.int (0 : Int32)), (.int (0 : Int32)), (.int (0 : Int32)), (.int (0 : Int32)), (.int (0 : Int32)), (.int (0 : Int32)), (.int (0 : Int32)), (.int (0 : Int32)), (.int (0 : Int32)), (.int (0 : Int32)), (.int (0 : Int32)), (.int (0 : Int32)), (.int (0 : Int32))]) (V_vr : Ary Z h0 vr .long [(.long (2 : Int64)), (.long (0 : Int64)), (.long (0 : Int64)), (.long (0 : Int64)), (.long (0 : Int64)), (.long (0 : Int64)), (.long (0 : Int64)), (.long (0 : Int64)), (.long (0 : Int64)), (.long (0 : Int64)), (.long (0 : Int64)), (.long (0 : Int64)), (.long (0 : Int64)), (.long (0 : Int64)), (.long (0 : Int64)), (.long (0 : Int64)), (.long (0 : Int64)), (.long (0 : Int64))]) (g_va : n0 ≤ va) (g_vi : n0 ≤ vi) (g_vr : n0 ≤ vr) (ne_va_vi : va ≠ vi) (ne_va_vr : va ≠ vr) (ne_vi_vr : vi ≠ vr) (hcap : (-1 : Int32) < uc) :
    MetFree l (⟨"com/example/deferra/deferra/engine/Identities", "take", "(Z)I"⟩ : MethodName) (head1 (Jvm.Cond.code (⟨"com/example/deferra/deferra/engine/Identities", "take", "(Z)I"⟩ : MethodName) prog_18_method_4_code 6 (some .int) :: ws) ({ frames := 0, cells := 0, slots := 0, locals := 0 } : Room)) (fun a U => a = #[(.ref va), (.int (0 : Int32))] ∧ Z.Warmed39 U.vm ∧ U.heap = h0) (fun _ _ _ _ _ => True) (fun _ U o U' => ∃ v L, o = .returned v ∧ Qtk2 Z va vi vr uc h0 n0 v U'.heap L ∧ FrameEnd U o U' L 0 0) := by
  refine MetFree.of_bodySF (plainFor_of_name pn_5) hisR ?_
  intro p e s m args below meth c s₁ Bd hml0 hP hK
  obtain ⟨rfl, hZ, hh⟩ := hP
  have hx := Bd.exec
  have hby := Bd.bytes
  have hml : c.maxLocals = 6 := hml0
  have hown : s.vm.findClass "com/example/deferra/deferra/engine/Identities" = some m.cls := findClass_of_methodNamed Bd.named
  have hnm := (name_of_methodNamed Bd.named Bd.method).1
  have X0 : Stand p l e ({ frames := 0, cells := 0, slots := 0, locals := 0 } : Room) s m #[(.ref va), (.int (0 : Int32))] below meth c s₁ [] 0 0 := Stand.of_body Bd
  have e0 : s₁.heap = h0 := by rw [← hh, Bd.state]; rfl
  have N0 := Fr.nil n0
  have hlk : meth.locks = false := BodyLoose.notSynchronized Bd
  show Goal p e below s (Qtk2 Z va vi vr uc h0 n0) 0 0 (s₁.setTop (entryFrame m #[(.ref va), (.int (0 : Int32))] 6))
  refine Goal.to (B := s₁.setTop (mkF m 0 #[.val (.ref va), .val (.int (0 : Int32)), .unset, .unset, .unset, .unset] [])) (fun tt kk => castTop (ef_5 m va (0 : Int32) ) kk) ?_
  refine Goal.to (B := s₁.setTop (mkF m 1 #[.val (.ref va), .val (.int (0 : Int32)), .unset, .unset, .unset, .unset] [(.ref va)])) (fun tt kk => ?_) ?_
  · show Steps p.tables e below (s₁.setTop (mkF m 0 #[.val (.ref va), .val (.int (0 : Int32)), .unset, .unset, .unset, .unset] [])) tt
    refine XS.aloadN X0.here hx rfl (hb hby d5_0) rfl rfl ?_
    exact kk
  obtain ⟨T1, X1, e1, st1⟩ := getF X0 hx hZ hown (host := "") (Or.inl (hw _ (mw 10 rfl))) Via.refl e0 F_count_va (g := (mkF m 1 #[.val (.ref va), .val (.int (0 : Int32)), .unset, .unset, .unset, .unset] [(.ref va)])) rfl rfl (hb hby d5_1)
  refine Goal.to (B := T1.setTop (mkF m 4 #[.val (.ref va), .val (.int (0 : Int32)), .unset, .unset, .unset, .unset] [(.int (2 : Int32))])) st1 ?_
  refine Goal.to (B := T1.setTop (mkF m 5 #[.val (.ref va), .val (.int (0 : Int32)), .unset, .unset, .unset, .unset] [(.ref va), (.int (2 : Int32))])) (fun tt kk => ?_) ?_
  · show Steps p.tables e below (T1.setTop (mkF m 4 #[.val (.ref va), .val (.int (0 : Int32)), .unset, .unset, .unset, .unset] [(.int (2 : Int32))])) tt
    refine XS.aloadN X1.here hx rfl (hb hby d5_4) rfl rfl ?_
    exact kk
  obtain ⟨T2, X2, e2, st2⟩ := getF X1 hx hZ hown (host := "") (Or.inl (hw _ (mw 12 rfl))) Via.refl e1 F_slots_va (g := (mkF m 5 #[.val (.ref va), .val (.int (0 : Int32)), .unset, .unset, .unset, .unset] [(.ref va), (.int (2 : Int32))])) rfl rfl (hb hby d5_5)
  refine Goal.to (B := T2.setTop (mkF m 8 #[.val (.ref va), .val (.int (0 : Int32)), .unset, .unset, .unset, .unset] [(.int (16 : Int32)), (.int (2 : Int32))])) st2 ?_
  refine Goal.to (B := T2.setTop (mkF m 16 #[.val (.ref va), .val (.int (0 : Int32)), .unset, .unset, .unset, .unset] [(.ref va)])) (fun tt kk => ?_) ?_
  · show Steps p.tables e below (T2.setTop (mkF m 8 #[.val (.ref va), .val (.int (0 : Int32)), .unset, .unset, .unset, .unset] [(.int (16 : Int32)), (.int (2 : Int32))])) tt
    refine XS.icmpYes X2.here hx rfl (pc0 := 8) (pc' := 15) rfl (hb hby d5_8) rfl (feq ((by decide) : ¬ ((2 : Int32) = (16 : Int32)))).2 (by decide) (by decide) ?_
    show Steps p.tables e below (T2.setTop (mkF m 15 #[.val (.ref va), .val (.int (0 : Int32)), .unset, .unset, .unset, .unset] [])) tt
    refine XS.aloadN X2.here hx rfl (hb hby d5_15) rfl rfl ?_
    exact kk
  obtain ⟨T3, X3, e3, st3⟩ := getF X2 hx hZ hown (host := "") (Or.inl (hw _ (mw 10 rfl))) Via.refl e2 F_count_va (g := (mkF m 16 #[.val (.ref va), .val (.int (0 : Int32)), .unset, .unset, .unset, .unset] [(.ref va)])) rfl rfl (hb hby d5_16)
  refine Goal.to (B := T3.setTop (mkF m 19 #[.val (.ref va), .val (.int (0 : Int32)), .unset, .unset, .unset, .unset] [(.int (2 : Int32))])) st3 ?_
  refine Goal.to (B := T3.setTop (mkF m 20 #[.val (.ref va), .val (.int (0 : Int32)), .unset, .unset, .unset, .unset] [(.ref va), (.int (2 : Int32))])) (fun tt kk => ?_) ?_
  · show Steps p.tables e below (T3.setTop (mkF m 19 #[.val (.ref va), .val (.int (0 : Int32)), .unset, .unset, .unset, .unset] [(.int (2 : Int32))])) tt
    refine XS.aloadN X3.here hx rfl (hb hby d5_19) rfl rfl ?_
    exact kk
  obtain ⟨T4, X4, e4, st4⟩ := getF X3 hx hZ hown (host := "") (Or.inl (hw _ (mw 14 rfl))) Via.refl e3 F_words_va (g := (mkF m 20 #[.val (.ref va), .val (.int (0 : Int32)), .unset, .unset, .unset, .unset] [(.ref va), (.int (2 : Int32))])) rfl rfl (hb hby d5_20)
  refine Goal.to (B := T4.setTop (mkF m 23 #[.val (.ref va), .val (.int (0 : Int32)), .unset, .unset, .unset, .unset] [(.int (1 : Int32)), (.int (2 : Int32))])) st4 ?_
  refine Goal.to (B := T4.setTop (mkF m 35 #[.val (.ref va), .val (.int (0 : Int32)), .unset, .unset, .unset, .unset] [(.ref va), (.ref va)])) (fun tt kk => ?_) ?_
  · show Steps p.tables e below (T4.setTop (mkF m 23 #[.val (.ref va), .val (.int (0 : Int32)), .unset, .unset, .unset, .unset] [(.int (1 : Int32)), (.int (2 : Int32))])) tt
    refine XS.bipush X4.here hx rfl (hb hby d5_23) ?_
    show Steps p.tables e below (T4.setTop (mkF m 25 #[.val (.ref va), .val (.int (0 : Int32)), .unset, .unset, .unset, .unset] [(.int (64 : Int32)), (.int (1 : Int32)), (.int (2 : Int32))])) tt
    refine XS.imul X4.here hx rfl (hb hby d5_25) rfl ?_
    show Steps p.tables e below (T4.setTop (mkF m 26 #[.val (.ref va), .val (.int (0 : Int32)), .unset, .unset, .unset, .unset] [(.int (64 : Int32)), (.int (2 : Int32))])) tt
    refine XS.icmpYes X4.here hx rfl (pc0 := 26) (pc' := 33) rfl (hb hby d5_26) rfl (feq ((by decide) : ¬ ((2 : Int32) = (64 : Int32)))).2 (by decide) (by decide) ?_
    show Steps p.tables e below (T4.setTop (mkF m 33 #[.val (.ref va), .val (.int (0 : Int32)), .unset, .unset, .unset, .unset] [])) tt
    refine XS.aloadN X4.here hx rfl (hb hby d5_33) rfl rfl ?_
    show Steps p.tables e below (T4.setTop (mkF m 34 #[.val (.ref va), .val (.int (0 : Int32)), .unset, .unset, .unset, .unset] [(.ref va)])) tt
    refine XS.dup X4.here hx rfl (hb hby d5_34) rfl rfl ?_
    exact kk
  obtain ⟨T5, X5, e5, st5⟩ := getF X4 hx hZ hown (host := "") (Or.inl (hw _ (mw 10 rfl))) Via.refl e4 F_count_va (g := (mkF m 35 #[.val (.ref va), .val (.int (0 : Int32)), .unset, .unset, .unset, .unset] [(.ref va), (.ref va)])) rfl rfl (hb hby d5_35)
  refine Goal.to (B := T5.setTop (mkF m 38 #[.val (.ref va), .val (.int (0 : Int32)), .unset, .unset, .unset, .unset] [(.int (2 : Int32)), (.ref va)])) st5 ?_
  refine Goal.to (B := T5.setTop (mkF m 41 #[.val (.ref va), .val (.int (0 : Int32)), .unset, .unset, .unset, .unset] [(.int (3 : Int32)), (.ref va), (.int (2 : Int32))])) (fun tt kk => ?_) ?_
  · show Steps p.tables e below (T5.setTop (mkF m 38 #[.val (.ref va), .val (.int (0 : Int32)), .unset, .unset, .unset, .unset] [(.int (2 : Int32)), (.ref va)])) tt
    refine XS.dupX1 X5.here hx rfl (hb hby d5_38) rfl rfl rfl ?_
    show Steps p.tables e below (T5.setTop (mkF m 39 #[.val (.ref va), .val (.int (0 : Int32)), .unset, .unset, .unset, .unset] [(.int (2 : Int32)), (.ref va), (.int (2 : Int32))])) tt
    refine XS.iconst X5.here hx rfl (hb hby d5_39) ?_
    show Steps p.tables e below (T5.setTop (mkF m 40 #[.val (.ref va), .val (.int (0 : Int32)), .unset, .unset, .unset, .unset] [(.int (1 : Int32)), (.int (2 : Int32)), (.ref va), (.int (2 : Int32))])) tt
    refine XS.iadd X5.here hx rfl (hb hby d5_40) rfl ?_
    exact kk
  obtain ⟨T6, h6, X6, e6, W6, st6⟩ := putF X5 hx hZ hown (host := "") (Or.inl (hw _ (mw 10 rfl))) Via.refl e5 F_count_va E_va (Or.inl (hw _ (mw 11 rfl))) (hw _ (mw 1 rfl)) (ty := .int) (by decide) rfl rfl (g := (mkF m 41 #[.val (.ref va), .val (.int (0 : Int32)), .unset, .unset, .unset, .unset] [(.int (3 : Int32)), (.ref va), (.int (2 : Int32))])) rfl rfl (hb hby d5_41)
  have Fw6 : Fld Z h6 va "com/example/deferra/deferra/engine/Identities" "count" "I" (.int (3 : Int32)) := F_count_va.same W6
  have N6 := Fr.snoc X6 N0 g_va
  refine Goal.to (B := T6.setTop (mkF m 44 #[.val (.ref va), .val (.int (0 : Int32)), .unset, .unset, .unset, .unset] [(.int (2 : Int32))])) st6 ?_
  refine Goal.to (B := T6.setTop (mkF m 46 #[.val (.ref va), .val (.int (0 : Int32)), .val (.int (2 : Int32)), .unset, .unset, .unset] [(.ref va)])) (fun tt kk => ?_) ?_
  · show Steps p.tables e below (T6.setTop (mkF m 44 #[.val (.ref va), .val (.int (0 : Int32)), .unset, .unset, .unset, .unset] [(.int (2 : Int32))])) tt
    refine XS.istoreN X6.here hx rfl (hb hby d5_44) rfl (l' := #[.val (.ref va), .val (.int (0 : Int32)), .val (.int (2 : Int32)), .unset, .unset, .unset]) rfl ?_
    show Steps p.tables e below (T6.setTop (mkF m 45 #[.val (.ref va), .val (.int (0 : Int32)), .val (.int (2 : Int32)), .unset, .unset, .unset] [])) tt
    refine XS.aloadN X6.here hx rfl (hb hby d5_45) rfl rfl ?_
    exact kk
  have f7 : Fld Z h6 va "com/example/deferra/deferra/engine/Identities" "ints" "[I" (.ref vi) := (F_ints_va.other W6 (Or.inr (slot_ne (Or.inl (hw _ (mw 25 rfl))) (Or.inl (hw _ (mw 11 rfl))) (by decide) (t := (.array .int)) (t' := .int) (by decide) (by decide))))
  obtain ⟨T8, X8, e8, st8⟩ := getF X6 hx hZ hown (host := "") (Or.inl (hw _ (mw 24 rfl))) Via.refl e6 f7 (g := (mkF m 46 #[.val (.ref va), .val (.int (0 : Int32)), .val (.int (2 : Int32)), .unset, .unset, .unset] [(.ref va)])) rfl rfl (hb hby d5_46)
  refine Goal.to (B := T8.setTop (mkF m 49 #[.val (.ref va), .val (.int (0 : Int32)), .val (.int (2 : Int32)), .unset, .unset, .unset] [(.ref vi)])) st8 ?_
  refine Goal.to (B := T8.setTop (mkF m 51 #[.val (.ref va), .val (.int (0 : Int32)), .val (.int (2 : Int32)), .unset, .unset, .unset] [(.int (2 : Int32)), (.int (2 : Int32)), (.ref vi)])) (fun tt kk => ?_) ?_
  · show Steps p.tables e below (T8.setTop (mkF m 49 #[.val (.ref va), .val (.int (0 : Int32)), .val (.int (2 : Int32)), .unset, .unset, .unset] [(.ref vi)])) tt
    refine XS.iloadN X8.here hx rfl (hb hby d5_49) rfl ?_
    show Steps p.tables e below (T8.setTop (mkF m 50 #[.val (.ref va), .val (.int (0 : Int32)), .val (.int (2 : Int32)), .unset, .unset, .unset] [(.int (2 : Int32)), (.ref vi)])) tt
    refine XS.iloadN X8.here hx rfl (hb hby d5_50) rfl ?_
    exact kk
  have f9 : Ary Z h6 vi .int [(.int (0 : Int32)), (.int (1 : Int32)), (.int (0 : Int32)), (.int (0 : Int32)), (.int (0 : Int32)), (.int (0 : Int32)), (.int (0 : Int32)), (.int (0 : Int32)), (.int (0 : Int32)), (.int (0 : Int32)), (.int (0 : Int32)), (.int (0 : Int32)), (.int (0 : Int32)), (.int (0 : Int32)), (.int (0 : Int32)), (.int (0 : Int32)), (.int (-1 : Int32)), (.int (-2 : Int32)), (.int (0 : Int32)), (.int (0 : Int32)), (.int (0 : Int32)), (.int (0 : Int32)), (.int (0 : Int32)), (.int (0 : Int32)), (.int (0 : Int32)), (.int (0 : Int32)), (.int (0 : Int32)), (.int (0 : Int32)), (.int (0 : Int32)), (.int (0 : Int32)), (.int (0 : Int32)), (.int (0 : Int32)), (.int (-1 : Int32)), (.int (-1 : Int32)), (.int (0 : Int32)), (.int (0 : Int32)), (.int (0 : Int32)), (.int (0 : Int32)), (.int (0 : Int32)), (.int (0 : Int32)), (.int (0 : Int32)), (.int (0 : Int32)), (.int (0 : Int32)), (.int (0 : Int32)), (.int (0 : Int32)), (.int (0 : Int32)), (.int (0 : Int32)), (.int (0 : Int32)), (.int (0 : Int32)), (.int (0 : Int32)), (.int (0 : Int32)), (.int (0 : Int32)), (.int (0 : Int32)), (.int (0 : Int32)), (.int (0 : Int32)), (.int (0 : Int32)), (.int (0 : Int32)), (.int (0 : Int32)), (.int (0 : Int32)), (.int (0 : Int32)), (.int (0 : Int32)), (.int (0 : Int32)), (.int (0 : Int32)), (.int (0 : Int32)), (.int (1 : Int32)), (.int (0 : Int32)), (.int (0 : Int32)), (.int (0 : Int32)), (.int (0 : Int32)), (.int (0 : Int32)), (.int (0 : Int32)), (.int (0 : Int32)), (.int (0 : Int32)), (.int (0 : Int32)), (.int (0 : Int32)), (.int (0 : Int32)), (.int (0 : Int32)), (.int (0 : Int32)), (.int (0 : Int32)), (.int (0 : Int32)), (.int (0 : Int32))] := (V_vi.other W6 (Ne.symm ne_va_vi))
  obtain ⟨cl10, Ar10, Sl10⟩ := id f9
  have hin10 := inA (cl := cl10) Sl10 (j := (2 : Int32)) (by decide) (Nat.le_of_ble_eq_true rfl)
  obtain ⟨T10, h10, X10, e10, W10, st10⟩ := stI X8 hx hZ e8 Ar10 (j := (2 : Int32)) hin10 (g := (mkF m 51 #[.val (.ref va), .val (.int (0 : Int32)), .val (.int (2 : Int32)), .unset, .unset, .unset] [(.int (2 : Int32)), (.int (2 : Int32)), (.ref vi)])) rfl rfl (hb hby d5_51)
  have V10 : Ary Z h10 vi .int [(.int (0 : Int32)), (.int (1 : Int32)), (.int (2 : Int32)), (.int (0 : Int32)), (.int (0 : Int32)), (.int (0 : Int32)), (.int (0 : Int32)), (.int (0 : Int32)), (.int (0 : Int32)), (.int (0 : Int32)), (.int (0 : Int32)), (.int (0 : Int32)), (.int (0 : Int32)), (.int (0 : Int32)), (.int (0 : Int32)), (.int (0 : Int32)), (.int (-1 : Int32)), (.int (-2 : Int32)), (.int (0 : Int32)), (.int (0 : Int32)), (.int (0 : Int32)), (.int (0 : Int32)), (.int (0 : Int32)), (.int (0 : Int32)), (.int (0 : Int32)), (.int (0 : Int32)), (.int (0 : Int32)), (.int (0 : Int32)), (.int (0 : Int32)), (.int (0 : Int32)), (.int (0 : Int32)), (.int (0 : Int32)), (.int (-1 : Int32)), (.int (-1 : Int32)), (.int (0 : Int32)), (.int (0 : Int32)), (.int (0 : Int32)), (.int (0 : Int32)), (.int (0 : Int32)), (.int (0 : Int32)), (.int (0 : Int32)), (.int (0 : Int32)), (.int (0 : Int32)), (.int (0 : Int32)), (.int (0 : Int32)), (.int (0 : Int32)), (.int (0 : Int32)), (.int (0 : Int32)), (.int (0 : Int32)), (.int (0 : Int32)), (.int (0 : Int32)), (.int (0 : Int32)), (.int (0 : Int32)), (.int (0 : Int32)), (.int (0 : Int32)), (.int (0 : Int32)), (.int (0 : Int32)), (.int (0 : Int32)), (.int (0 : Int32)), (.int (0 : Int32)), (.int (0 : Int32)), (.int (0 : Int32)), (.int (0 : Int32)), (.int (0 : Int32)), (.int (1 : Int32)), (.int (0 : Int32)), (.int (0 : Int32)), (.int (0 : Int32)), (.int (0 : Int32)), (.int (0 : Int32)), (.int (0 : Int32)), (.int (0 : Int32)), (.int (0 : Int32)), (.int (0 : Int32)), (.int (0 : Int32)), (.int (0 : Int32)), (.int (0 : Int32)), (.int (0 : Int32)), (.int (0 : Int32)), (.int (0 : Int32)), (.int (0 : Int32))] := Ary.put Ar10 Sl10 W10 rfl
  have N10 := Fr.snoc X10 N6 g_vi
  refine Goal.to (B := T10.setTop (mkF m 52 #[.val (.ref va), .val (.int (0 : Int32)), .val (.int (2 : Int32)), .unset, .unset, .unset] [])) st10 ?_
  refine Goal.to (B := T10.setTop (mkF m 53 #[.val (.ref va), .val (.int (0 : Int32)), .val (.int (2 : Int32)), .unset, .unset, .unset] [(.ref va)])) (fun tt kk => ?_) ?_
  · show Steps p.tables e below (T10.setTop (mkF m 52 #[.val (.ref va), .val (.int (0 : Int32)), .val (.int (2 : Int32)), .unset, .unset, .unset] [])) tt
    refine XS.aloadN X10.here hx rfl (hb hby d5_52) rfl rfl ?_
    exact kk
  have f11 : Fld Z h10 va "com/example/deferra/deferra/engine/Identities" "ints" "[I" (.ref vi) := (f7.other W10 (Or.inl ne_va_vi))
  obtain ⟨T12, X12, e12, st12⟩ := getF X10 hx hZ hown (host := "") (Or.inl (hw _ (mw 24 rfl))) Via.refl e10 f11 (g := (mkF m 53 #[.val (.ref va), .val (.int (0 : Int32)), .val (.int (2 : Int32)), .unset, .unset, .unset] [(.ref va)])) rfl rfl (hb hby d5_53)
  refine Goal.to (B := T12.setTop (mkF m 56 #[.val (.ref va), .val (.int (0 : Int32)), .val (.int (2 : Int32)), .unset, .unset, .unset] [(.ref vi)])) st12 ?_
  refine Goal.to (B := T12.setTop (mkF m 57 #[.val (.ref va), .val (.int (0 : Int32)), .val (.int (2 : Int32)), .unset, .unset, .unset] [(.ref va), (.ref vi)])) (fun tt kk => ?_) ?_
  · show Steps p.tables e below (T12.setTop (mkF m 56 #[.val (.ref va), .val (.int (0 : Int32)), .val (.int (2 : Int32)), .unset, .unset, .unset] [(.ref vi)])) tt
    refine XS.aloadN X12.here hx rfl (hb hby d5_56) rfl rfl ?_
    exact kk
  have f13 : Fld Z h10 va "com/example/deferra/deferra/engine/Identities" "numberAt" "I" (.int (16 : Int32)) := ((F_numberAt_va.other W6 (Or.inr (slot_ne (Or.inl (hw _ (mw 31 rfl))) (Or.inl (hw _ (mw 11 rfl))) (by decide) (t := .int) (t' := .int) (by decide) (by decide)))).other W10 (Or.inl ne_va_vi))
  obtain ⟨T14, X14, e14, st14⟩ := getF X12 hx hZ hown (host := "") (Or.inl (hw _ (mw 30 rfl))) Via.refl e12 f13 (g := (mkF m 57 #[.val (.ref va), .val (.int (0 : Int32)), .val (.int (2 : Int32)), .unset, .unset, .unset] [(.ref va), (.ref vi)])) rfl rfl (hb hby d5_57)
  refine Goal.to (B := T14.setTop (mkF m 60 #[.val (.ref va), .val (.int (0 : Int32)), .val (.int (2 : Int32)), .unset, .unset, .unset] [(.int (16 : Int32)), (.ref vi)])) st14 ?_
  refine Goal.to (B := T14.setTop (mkF m 64 #[.val (.ref va), .val (.int (0 : Int32)), .val (.int (2 : Int32)), .unset, .unset, .unset] [(.int (-2 : Int32)), (.int (18 : Int32)), (.ref vi)])) (fun tt kk => ?_) ?_
  · show Steps p.tables e below (T14.setTop (mkF m 60 #[.val (.ref va), .val (.int (0 : Int32)), .val (.int (2 : Int32)), .unset, .unset, .unset] [(.int (16 : Int32)), (.ref vi)])) tt
    refine XS.iloadN X14.here hx rfl (hb hby d5_60) rfl ?_
    show Steps p.tables e below (T14.setTop (mkF m 61 #[.val (.ref va), .val (.int (0 : Int32)), .val (.int (2 : Int32)), .unset, .unset, .unset] [(.int (2 : Int32)), (.int (16 : Int32)), (.ref vi)])) tt
    refine XS.iadd X14.here hx rfl (hb hby d5_61) rfl ?_
    show Steps p.tables e below (T14.setTop (mkF m 62 #[.val (.ref va), .val (.int (0 : Int32)), .val (.int (2 : Int32)), .unset, .unset, .unset] [(.int (18 : Int32)), (.ref vi)])) tt
    refine XS.bipush X14.here hx rfl (hb hby d5_62) ?_
    exact kk
  obtain ⟨cl15, Ar15, Sl15⟩ := id V10
  have hin15 := inA (cl := cl15) Sl15 (j := (18 : Int32)) (by decide) (Nat.le_of_ble_eq_true rfl)
  obtain ⟨T15, h15, X15, e15, W15, st15⟩ := stI X14 hx hZ e14 Ar15 (j := (18 : Int32)) hin15 (g := (mkF m 64 #[.val (.ref va), .val (.int (0 : Int32)), .val (.int (2 : Int32)), .unset, .unset, .unset] [(.int (-2 : Int32)), (.int (18 : Int32)), (.ref vi)])) rfl rfl (hb hby d5_64)
  have V15 : Ary Z h15 vi .int [(.int (0 : Int32)), (.int (1 : Int32)), (.int (2 : Int32)), (.int (0 : Int32)), (.int (0 : Int32)), (.int (0 : Int32)), (.int (0 : Int32)), (.int (0 : Int32)), (.int (0 : Int32)), (.int (0 : Int32)), (.int (0 : Int32)), (.int (0 : Int32)), (.int (0 : Int32)), (.int (0 : Int32)), (.int (0 : Int32)), (.int (0 : Int32)), (.int (-1 : Int32)), (.int (-2 : Int32)), (.int (-2 : Int32)), (.int (0 : Int32)), (.int (0 : Int32)), (.int (0 : Int32)), (.int (0 : Int32)), (.int (0 : Int32)), (.int (0 : Int32)), (.int (0 : Int32)), (.int (0 : Int32)), (.int (0 : Int32)), (.int (0 : Int32)), (.int (0 : Int32)), (.int (0 : Int32)), (.int (0 : Int32)), (.int (-1 : Int32)), (.int (-1 : Int32)), (.int (0 : Int32)), (.int (0 : Int32)), (.int (0 : Int32)), (.int (0 : Int32)), (.int (0 : Int32)), (.int (0 : Int32)), (.int (0 : Int32)), (.int (0 : Int32)), (.int (0 : Int32)), (.int (0 : Int32)), (.int (0 : Int32)), (.int (0 : Int32)), (.int (0 : Int32)), (.int (0 : Int32)), (.int (0 : Int32)), (.int (0 : Int32)), (.int (0 : Int32)), (.int (0 : Int32)), (.int (0 : Int32)), (.int (0 : Int32)), (.int (0 : Int32)), (.int (0 : Int32)), (.int (0 : Int32)), (.int (0 : Int32)), (.int (0 : Int32)), (.int (0 : Int32)), (.int (0 : Int32)), (.int (0 : Int32)), (.int (0 : Int32)), (.int (0 : Int32)), (.int (1 : Int32)), (.int (0 : Int32)), (.int (0 : Int32)), (.int (0 : Int32)), (.int (0 : Int32)), (.int (0 : Int32)), (.int (0 : Int32)), (.int (0 : Int32)), (.int (0 : Int32)), (.int (0 : Int32)), (.int (0 : Int32)), (.int (0 : Int32)), (.int (0 : Int32)), (.int (0 : Int32)), (.int (0 : Int32)), (.int (0 : Int32)), (.int (0 : Int32))] := Ary.put Ar15 Sl15 W15 rfl
  have N15 := Fr.snoc X15 N10 g_vi
  refine Goal.to (B := T15.setTop (mkF m 65 #[.val (.ref va), .val (.int (0 : Int32)), .val (.int (2 : Int32)), .unset, .unset, .unset] [])) st15 ?_
  refine Goal.to (B := T15.setTop (mkF m 143 #[.val (.ref va), .val (.int (0 : Int32)), .val (.int (2 : Int32)), .unset, .unset, .unset] [(.ref va)])) (fun tt kk => ?_) ?_
  · show Steps p.tables e below (T15.setTop (mkF m 65 #[.val (.ref va), .val (.int (0 : Int32)), .val (.int (2 : Int32)), .unset, .unset, .unset] [])) tt
    refine XS.iloadN X15.here hx rfl (hb hby d5_65) rfl ?_
    show Steps p.tables e below (T15.setTop (mkF m 66 #[.val (.ref va), .val (.int (0 : Int32)), .val (.int (2 : Int32)), .unset, .unset, .unset] [(.int (0 : Int32))])) tt
    refine XS.ifYes X15.here hx rfl (pc0 := 66) (pc' := 142) rfl (hb hby d5_66) rfl ((if0 _ _).trans (teq (rfl : (0 : Int32) = (0 : Int32))).1) (by decide) (by decide) ?_
    show Steps p.tables e below (T15.setTop (mkF m 142 #[.val (.ref va), .val (.int (0 : Int32)), .val (.int (2 : Int32)), .unset, .unset, .unset] [])) tt
    refine XS.aloadN X15.here hx rfl (hb hby d5_142) rfl rfl ?_
    exact kk
  have f16 : Fld Z h15 va "com/example/deferra/deferra/engine/Identities" "nullAllowed" "Z" (.int (1 : Int32)) := (((F_nullAllowed_va.other W6 (Or.inr (slot_ne (Or.inr (hw _ (mw 19 rfl))) (Or.inl (hw _ (mw 11 rfl))) (by decide) (t := .boolean) (t' := .int) (by decide) (by decide)))).other W10 (Or.inl ne_va_vi)).other W15 (Or.inl ne_va_vi))
  obtain ⟨T17, X17, e17, st17⟩ := getF X15 hx hZ hown (host := "") (Or.inl (hw _ (mw 18 rfl))) Via.refl e15 f16 (g := (mkF m 143 #[.val (.ref va), .val (.int (0 : Int32)), .val (.int (2 : Int32)), .unset, .unset, .unset] [(.ref va)])) rfl rfl (hb hby d5_143)
  refine Goal.to (B := T17.setTop (mkF m 146 #[.val (.ref va), .val (.int (0 : Int32)), .val (.int (2 : Int32)), .unset, .unset, .unset] [(.int (1 : Int32))])) st17 ?_
  refine Goal.to (B := T17.setTop (mkF m 163 #[.val (.ref va), .val (.int (0 : Int32)), .val (.int (2 : Int32)), .val (.int (-1 : Int32)), .unset, .unset] [(.ref va)])) (fun tt kk => ?_) ?_
  · show Steps p.tables e below (T17.setTop (mkF m 146 #[.val (.ref va), .val (.int (0 : Int32)), .val (.int (2 : Int32)), .unset, .unset, .unset] [(.int (1 : Int32))])) tt
    refine XS.ifNo X17.here hx rfl (hb hby d5_146) rfl ((if0 _ _).trans (feq ((by decide) : ¬ ((1 : Int32) = (0 : Int32)))).1) ?_
    show Steps p.tables e below (T17.setTop (mkF m 149 #[.val (.ref va), .val (.int (0 : Int32)), .val (.int (2 : Int32)), .unset, .unset, .unset] [])) tt
    refine XS.iconst X17.here hx rfl (hb hby d5_149) ?_
    show Steps p.tables e below (T17.setTop (mkF m 150 #[.val (.ref va), .val (.int (0 : Int32)), .val (.int (2 : Int32)), .unset, .unset, .unset] [(.int (-1 : Int32))])) tt
    refine XS.istoreN X17.here hx rfl (hb hby d5_150) rfl (l' := #[.val (.ref va), .val (.int (0 : Int32)), .val (.int (2 : Int32)), .val (.int (-1 : Int32)), .unset, .unset]) rfl ?_
    show Steps p.tables e below (T17.setTop (mkF m 151 #[.val (.ref va), .val (.int (0 : Int32)), .val (.int (2 : Int32)), .val (.int (-1 : Int32)), .unset, .unset] [])) tt
    refine XS.goto X17.here hx rfl (pc0 := 151) (pc' := 162) rfl (hb hby d5_151) (by decide) (by decide) ?_
    show Steps p.tables e below (T17.setTop (mkF m 162 #[.val (.ref va), .val (.int (0 : Int32)), .val (.int (2 : Int32)), .val (.int (-1 : Int32)), .unset, .unset] [])) tt
    refine XS.aloadN X17.here hx rfl (hb hby d5_162) rfl rfl ?_
    exact kk
  have f18 : Fld Z h15 va "com/example/deferra/deferra/engine/Identities" "rows" "[J" (.ref vr) := (((F_rows_va.other W6 (Or.inr (slot_ne (Or.inl (hw _ (mw 40 rfl))) (Or.inl (hw _ (mw 11 rfl))) (by decide) (t := (.array .long)) (t' := .int) (by decide) (by decide)))).other W10 (Or.inl ne_va_vi)).other W15 (Or.inl ne_va_vi))
  obtain ⟨T19, X19, e19, st19⟩ := getF X17 hx hZ hown (host := "") (Or.inl (hw _ (mw 39 rfl))) Via.refl e17 f18 (g := (mkF m 163 #[.val (.ref va), .val (.int (0 : Int32)), .val (.int (2 : Int32)), .val (.int (-1 : Int32)), .unset, .unset] [(.ref va)])) rfl rfl (hb hby d5_163)
  refine Goal.to (B := T19.setTop (mkF m 166 #[.val (.ref va), .val (.int (0 : Int32)), .val (.int (2 : Int32)), .val (.int (-1 : Int32)), .unset, .unset] [(.ref vr)])) st19 ?_
  refine Goal.to (B := T19.setTop (mkF m 168 #[.val (.ref va), .val (.int (0 : Int32)), .val (.int (2 : Int32)), .val (.int (-1 : Int32)), .unset, .unset] [(.ref va), (.int (0 : Int32)), (.ref vr)])) (fun tt kk => ?_) ?_
  · show Steps p.tables e below (T19.setTop (mkF m 166 #[.val (.ref va), .val (.int (0 : Int32)), .val (.int (2 : Int32)), .val (.int (-1 : Int32)), .unset, .unset] [(.ref vr)])) tt
    refine XS.iconst X19.here hx rfl (hb hby d5_166) ?_
    show Steps p.tables e below (T19.setTop (mkF m 167 #[.val (.ref va), .val (.int (0 : Int32)), .val (.int (2 : Int32)), .val (.int (-1 : Int32)), .unset, .unset] [(.int (0 : Int32)), (.ref vr)])) tt
    refine XS.aloadN X19.here hx rfl (hb hby d5_167) rfl rfl ?_
    exact kk
  have f20 : Fld Z h15 va "com/example/deferra/deferra/engine/Identities" "words" "I" (.int (1 : Int32)) := (((F_words_va.other W6 (Or.inr (slot_ne (Or.inl (hw _ (mw 15 rfl))) (Or.inl (hw _ (mw 11 rfl))) (by decide) (t := .int) (t' := .int) (by decide) (by decide)))).other W10 (Or.inl ne_va_vi)).other W15 (Or.inl ne_va_vi))
  obtain ⟨T21, X21, e21, st21⟩ := getF X19 hx hZ hown (host := "") (Or.inl (hw _ (mw 14 rfl))) Via.refl e19 f20 (g := (mkF m 168 #[.val (.ref va), .val (.int (0 : Int32)), .val (.int (2 : Int32)), .val (.int (-1 : Int32)), .unset, .unset] [(.ref va), (.int (0 : Int32)), (.ref vr)])) rfl rfl (hb hby d5_168)
  refine Goal.to (B := T21.setTop (mkF m 171 #[.val (.ref va), .val (.int (0 : Int32)), .val (.int (2 : Int32)), .val (.int (-1 : Int32)), .unset, .unset] [(.int (1 : Int32)), (.int (0 : Int32)), (.ref vr)])) st21 ?_
  refine Goal.to (B := T21.setTop (mkF m 178 #[.val (.ref va), .val (.int (0 : Int32)), .val (.int (2 : Int32)), .val (.int (-1 : Int32)), .unset, .unset] [(.int (0 : Int32)), (.ref vr), (.int (0 : Int32)), (.ref vr)])) (fun tt kk => ?_) ?_
  · show Steps p.tables e below (T21.setTop (mkF m 171 #[.val (.ref va), .val (.int (0 : Int32)), .val (.int (2 : Int32)), .val (.int (-1 : Int32)), .unset, .unset] [(.int (1 : Int32)), (.int (0 : Int32)), (.ref vr)])) tt
    refine XS.imul X21.here hx rfl (hb hby d5_171) rfl ?_
    show Steps p.tables e below (T21.setTop (mkF m 172 #[.val (.ref va), .val (.int (0 : Int32)), .val (.int (2 : Int32)), .val (.int (-1 : Int32)), .unset, .unset] [(.int (0 : Int32)), (.ref vr)])) tt
    refine XS.iloadN X21.here hx rfl (hb hby d5_172) rfl ?_
    show Steps p.tables e below (T21.setTop (mkF m 173 #[.val (.ref va), .val (.int (0 : Int32)), .val (.int (2 : Int32)), .val (.int (-1 : Int32)), .unset, .unset] [(.int (2 : Int32)), (.int (0 : Int32)), (.ref vr)])) tt
    refine XS.bipush X21.here hx rfl (hb hby d5_173) ?_
    show Steps p.tables e below (T21.setTop (mkF m 175 #[.val (.ref va), .val (.int (0 : Int32)), .val (.int (2 : Int32)), .val (.int (-1 : Int32)), .unset, .unset] [(.int (6 : Int32)), (.int (2 : Int32)), (.int (0 : Int32)), (.ref vr)])) tt
    refine XS.iushr X21.here hx rfl (hb hby d5_175) rfl ?_
    show Steps p.tables e below (T21.setTop (mkF m 176 #[.val (.ref va), .val (.int (0 : Int32)), .val (.int (2 : Int32)), .val (.int (-1 : Int32)), .unset, .unset] [(.int (0 : Int32)), (.int (0 : Int32)), (.ref vr)])) tt
    refine XS.iadd X21.here hx rfl (hb hby d5_176) rfl ?_
    show Steps p.tables e below (T21.setTop (mkF m 177 #[.val (.ref va), .val (.int (0 : Int32)), .val (.int (2 : Int32)), .val (.int (-1 : Int32)), .unset, .unset] [(.int (0 : Int32)), (.ref vr)])) tt
    refine Jvm.Free.XT.dup2 X21.here hx rfl (hb hby d5_177) rfl rfl rfl ?_
    exact kk
  have f22 : Ary Z h15 vr .long [(.long (2 : Int64)), (.long (0 : Int64)), (.long (0 : Int64)), (.long (0 : Int64)), (.long (0 : Int64)), (.long (0 : Int64)), (.long (0 : Int64)), (.long (0 : Int64)), (.long (0 : Int64)), (.long (0 : Int64)), (.long (0 : Int64)), (.long (0 : Int64)), (.long (0 : Int64)), (.long (0 : Int64)), (.long (0 : Int64)), (.long (0 : Int64)), (.long (0 : Int64)), (.long (0 : Int64))] := (((V_vr.other W6 (Ne.symm ne_va_vr)).other W10 (Ne.symm ne_vi_vr)).other W15 (Ne.symm ne_vi_vr))
  obtain ⟨cl23, Ar23, Sl23⟩ := id f22
  have hin23 := inA (cl := cl23) Sl23 (j := (0 : Int32)) (by decide) (Nat.le_of_ble_eq_true rfl)
  have hat23 : cl23.slots[((0 : Int32)).toNatClampNeg]? = some (.long (2 : Int64)) := atA Sl23 rfl
  refine Goal.to (B := T21.setTop (mkF m 183 #[.val (.ref va), .val (.int (0 : Int32)), .val (.int (2 : Int32)), .val (.int (-1 : Int32)), .unset, .unset] [(.long (6 : Int64)), (.int (0 : Int32)), (.ref vr)])) (fun tt kk => ?_) ?_
  · show Steps p.tables e below (T21.setTop (mkF m 178 #[.val (.ref va), .val (.int (0 : Int32)), .val (.int (2 : Int32)), .val (.int (-1 : Int32)), .unset, .unset] [(.int (0 : Int32)), (.ref vr), (.int (0 : Int32)), (.ref vr)])) tt
    refine X21.laload hx (j := (0 : Int32)) (v := (.long (2 : Int64))) (by rw [e21]; exact Ar23.1) (State.isArrayOf_alike hZ.alike Ar23.2.1) Ar23.2.2 hin23 hat23 (g := (mkF m 178 #[.val (.ref va), .val (.int (0 : Int32)), .val (.int (2 : Int32)), .val (.int (-1 : Int32)), .unset, .unset] [(.int (0 : Int32)), (.ref vr), (.int (0 : Int32)), (.ref vr)])) rfl rfl (hb hby d5_178) _ ?_
    show Steps p.tables e below (T21.setTop (mkF m 179 #[.val (.ref va), .val (.int (0 : Int32)), .val (.int (2 : Int32)), .val (.int (-1 : Int32)), .unset, .unset] [(.long (2 : Int64)), (.int (0 : Int32)), (.ref vr)])) tt
    refine XS.lconst X21.here hx rfl (hb hby d5_179) ?_
    show Steps p.tables e below (T21.setTop (mkF m 180 #[.val (.ref va), .val (.int (0 : Int32)), .val (.int (2 : Int32)), .val (.int (-1 : Int32)), .unset, .unset] [(.long (1 : Int64)), (.long (2 : Int64)), (.int (0 : Int32)), (.ref vr)])) tt
    refine XS.iloadN X21.here hx rfl (hb hby d5_180) rfl ?_
    show Steps p.tables e below (T21.setTop (mkF m 181 #[.val (.ref va), .val (.int (0 : Int32)), .val (.int (2 : Int32)), .val (.int (-1 : Int32)), .unset, .unset] [(.int (2 : Int32)), (.long (1 : Int64)), (.long (2 : Int64)), (.int (0 : Int32)), (.ref vr)])) tt
    refine XS.lshl X21.here hx rfl (hb hby d5_181) rfl ?_
    show Steps p.tables e below (T21.setTop (mkF m 182 #[.val (.ref va), .val (.int (0 : Int32)), .val (.int (2 : Int32)), .val (.int (-1 : Int32)), .unset, .unset] [(.long (4 : Int64)), (.long (2 : Int64)), (.int (0 : Int32)), (.ref vr)])) tt
    refine XS.lor X21.here hx rfl (hb hby d5_182) rfl ?_
    exact kk
  obtain ⟨cl24, Ar24, Sl24⟩ := id f22
  have hin24 := inA (cl := cl24) Sl24 (j := (0 : Int32)) (by decide) (Nat.le_of_ble_eq_true rfl)
  obtain ⟨T24, h24, X24, e24, W24, st24⟩ := stJ X21 hx hZ e21 Ar24 (j := (0 : Int32)) hin24 (g := (mkF m 183 #[.val (.ref va), .val (.int (0 : Int32)), .val (.int (2 : Int32)), .val (.int (-1 : Int32)), .unset, .unset] [(.long (6 : Int64)), (.int (0 : Int32)), (.ref vr)])) rfl rfl (hb hby d5_183)
  have V24 : Ary Z h24 vr .long [(.long (6 : Int64)), (.long (0 : Int64)), (.long (0 : Int64)), (.long (0 : Int64)), (.long (0 : Int64)), (.long (0 : Int64)), (.long (0 : Int64)), (.long (0 : Int64)), (.long (0 : Int64)), (.long (0 : Int64)), (.long (0 : Int64)), (.long (0 : Int64)), (.long (0 : Int64)), (.long (0 : Int64)), (.long (0 : Int64)), (.long (0 : Int64)), (.long (0 : Int64)), (.long (0 : Int64))] := Ary.put Ar24 Sl24 W24 rfl
  have N24 := Fr.snoc X24 N15 g_vr
  refine Goal.to (B := T24.setTop (mkF m 184 #[.val (.ref va), .val (.int (0 : Int32)), .val (.int (2 : Int32)), .val (.int (-1 : Int32)), .unset, .unset] [])) st24 ?_
  refine Goal.to (B := T24.setTop (mkF m 186 #[.val (.ref va), .val (.int (0 : Int32)), .val (.int (2 : Int32)), .val (.int (-1 : Int32)), .unset, .unset] [(.ref va), (.ref va)])) (fun tt kk => ?_) ?_
  · show Steps p.tables e below (T24.setTop (mkF m 184 #[.val (.ref va), .val (.int (0 : Int32)), .val (.int (2 : Int32)), .val (.int (-1 : Int32)), .unset, .unset] [])) tt
    refine XS.aloadN X24.here hx rfl (hb hby d5_184) rfl rfl ?_
    show Steps p.tables e below (T24.setTop (mkF m 185 #[.val (.ref va), .val (.int (0 : Int32)), .val (.int (2 : Int32)), .val (.int (-1 : Int32)), .unset, .unset] [(.ref va)])) tt
    refine XS.dup X24.here hx rfl (hb hby d5_185) rfl rfl ?_
    exact kk
  have f25 : Fld Z h24 va "com/example/deferra/deferra/engine/Identities" "openCount" "I" (.int (1 : Int32)) := ((((F_openCount_va.other W6 (Or.inr (slot_ne (Or.inl (hw _ (mw 47 rfl))) (Or.inl (hw _ (mw 11 rfl))) (by decide) (t := .int) (t' := .int) (by decide) (by decide)))).other W10 (Or.inl ne_va_vi)).other W15 (Or.inl ne_va_vi)).other W24 (Or.inl ne_va_vr))
  obtain ⟨T26, X26, e26, st26⟩ := getF X24 hx hZ hown (host := "") (Or.inl (hw _ (mw 46 rfl))) Via.refl e24 f25 (g := (mkF m 186 #[.val (.ref va), .val (.int (0 : Int32)), .val (.int (2 : Int32)), .val (.int (-1 : Int32)), .unset, .unset] [(.ref va), (.ref va)])) rfl rfl (hb hby d5_186)
  refine Goal.to (B := T26.setTop (mkF m 189 #[.val (.ref va), .val (.int (0 : Int32)), .val (.int (2 : Int32)), .val (.int (-1 : Int32)), .unset, .unset] [(.int (1 : Int32)), (.ref va)])) st26 ?_
  refine Goal.to (B := T26.setTop (mkF m 191 #[.val (.ref va), .val (.int (0 : Int32)), .val (.int (2 : Int32)), .val (.int (-1 : Int32)), .unset, .unset] [(.int (2 : Int32)), (.ref va)])) (fun tt kk => ?_) ?_
  · show Steps p.tables e below (T26.setTop (mkF m 189 #[.val (.ref va), .val (.int (0 : Int32)), .val (.int (2 : Int32)), .val (.int (-1 : Int32)), .unset, .unset] [(.int (1 : Int32)), (.ref va)])) tt
    refine XS.iconst X26.here hx rfl (hb hby d5_189) ?_
    show Steps p.tables e below (T26.setTop (mkF m 190 #[.val (.ref va), .val (.int (0 : Int32)), .val (.int (2 : Int32)), .val (.int (-1 : Int32)), .unset, .unset] [(.int (1 : Int32)), (.int (1 : Int32)), (.ref va)])) tt
    refine XS.iadd X26.here hx rfl (hb hby d5_190) rfl ?_
    exact kk
  have f27 : Exa Z h24 va "com/example/deferra/deferra/engine/Identities" := ((((E_va.wr W6).wr W10).wr W15).wr W24)
  obtain ⟨T28, h28, X28, e28, W28, st28⟩ := putF X26 hx hZ hown (host := "") (Or.inl (hw _ (mw 46 rfl))) Via.refl e26 f25 f27 (Or.inl (hw _ (mw 47 rfl))) (hw _ (mw 1 rfl)) (ty := .int) (by decide) rfl rfl (g := (mkF m 191 #[.val (.ref va), .val (.int (0 : Int32)), .val (.int (2 : Int32)), .val (.int (-1 : Int32)), .unset, .unset] [(.int (2 : Int32)), (.ref va)])) rfl rfl (hb hby d5_191)
  have Fw28 : Fld Z h28 va "com/example/deferra/deferra/engine/Identities" "openCount" "I" (.int (2 : Int32)) := f25.same W28
  have N28 := Fr.snoc X28 N24 g_va
  refine Goal.to (B := T28.setTop (mkF m 194 #[.val (.ref va), .val (.int (0 : Int32)), .val (.int (2 : Int32)), .val (.int (-1 : Int32)), .unset, .unset] [])) st28 ?_
  refine Goal.to (B := T28.setTop (mkF m 195 #[.val (.ref va), .val (.int (0 : Int32)), .val (.int (2 : Int32)), .val (.int (-1 : Int32)), .unset, .unset] [(.ref va)])) (fun tt kk => ?_) ?_
  · show Steps p.tables e below (T28.setTop (mkF m 194 #[.val (.ref va), .val (.int (0 : Int32)), .val (.int (2 : Int32)), .val (.int (-1 : Int32)), .unset, .unset] [])) tt
    refine XS.aloadN X28.here hx rfl (hb hby d5_194) rfl rfl ?_
    exact kk
  have f29 : Fld Z h28 va "com/example/deferra/deferra/engine/Identities" "ints" "[I" (.ref vi) := (((f11.other W15 (Or.inl ne_va_vi)).other W24 (Or.inl ne_va_vr)).other W28 (Or.inr (slot_ne (Or.inl (hw _ (mw 25 rfl))) (Or.inl (hw _ (mw 47 rfl))) (by decide) (t := (.array .int)) (t' := .int) (by decide) (by decide))))
  obtain ⟨T30, X30, e30, st30⟩ := getF X28 hx hZ hown (host := "") (Or.inl (hw _ (mw 24 rfl))) Via.refl e28 f29 (g := (mkF m 195 #[.val (.ref va), .val (.int (0 : Int32)), .val (.int (2 : Int32)), .val (.int (-1 : Int32)), .unset, .unset] [(.ref va)])) rfl rfl (hb hby d5_195)
  refine Goal.to (B := T30.setTop (mkF m 198 #[.val (.ref va), .val (.int (0 : Int32)), .val (.int (2 : Int32)), .val (.int (-1 : Int32)), .unset, .unset] [(.ref vi)])) st30 ?_
  refine Goal.to (B := T30.setTop (mkF m 199 #[.val (.ref va), .val (.int (0 : Int32)), .val (.int (2 : Int32)), .val (.int (-1 : Int32)), .unset, .unset] [(.ref va), (.ref vi)])) (fun tt kk => ?_) ?_
  · show Steps p.tables e below (T30.setTop (mkF m 198 #[.val (.ref va), .val (.int (0 : Int32)), .val (.int (2 : Int32)), .val (.int (-1 : Int32)), .unset, .unset] [(.ref vi)])) tt
    refine XS.aloadN X30.here hx rfl (hb hby d5_198) rfl rfl ?_
    exact kk
  have f31 : Fld Z h28 va "com/example/deferra/deferra/engine/Identities" "colourAt" "I" (.int (32 : Int32)) := (((((F_colourAt_va.other W6 (Or.inr (slot_ne (Or.inl (hw _ (mw 33 rfl))) (Or.inl (hw _ (mw 11 rfl))) (by decide) (t := .int) (t' := .int) (by decide) (by decide)))).other W10 (Or.inl ne_va_vi)).other W15 (Or.inl ne_va_vi)).other W24 (Or.inl ne_va_vr)).other W28 (Or.inr (slot_ne (Or.inl (hw _ (mw 33 rfl))) (Or.inl (hw _ (mw 47 rfl))) (by decide) (t := .int) (t' := .int) (by decide) (by decide))))
  obtain ⟨T32, X32, e32, st32⟩ := getF X30 hx hZ hown (host := "") (Or.inl (hw _ (mw 32 rfl))) Via.refl e30 f31 (g := (mkF m 199 #[.val (.ref va), .val (.int (0 : Int32)), .val (.int (2 : Int32)), .val (.int (-1 : Int32)), .unset, .unset] [(.ref va), (.ref vi)])) rfl rfl (hb hby d5_199)
  refine Goal.to (B := T32.setTop (mkF m 202 #[.val (.ref va), .val (.int (0 : Int32)), .val (.int (2 : Int32)), .val (.int (-1 : Int32)), .unset, .unset] [(.int (32 : Int32)), (.ref vi)])) st32 ?_
  refine Goal.to (B := T32.setTop (mkF m 205 #[.val (.ref va), .val (.int (0 : Int32)), .val (.int (2 : Int32)), .val (.int (-1 : Int32)), .unset, .unset] [(.int (-1 : Int32)), (.int (34 : Int32)), (.ref vi)])) (fun tt kk => ?_) ?_
  · show Steps p.tables e below (T32.setTop (mkF m 202 #[.val (.ref va), .val (.int (0 : Int32)), .val (.int (2 : Int32)), .val (.int (-1 : Int32)), .unset, .unset] [(.int (32 : Int32)), (.ref vi)])) tt
    refine XS.iloadN X32.here hx rfl (hb hby d5_202) rfl ?_
    show Steps p.tables e below (T32.setTop (mkF m 203 #[.val (.ref va), .val (.int (0 : Int32)), .val (.int (2 : Int32)), .val (.int (-1 : Int32)), .unset, .unset] [(.int (2 : Int32)), (.int (32 : Int32)), (.ref vi)])) tt
    refine XS.iadd X32.here hx rfl (hb hby d5_203) rfl ?_
    show Steps p.tables e below (T32.setTop (mkF m 204 #[.val (.ref va), .val (.int (0 : Int32)), .val (.int (2 : Int32)), .val (.int (-1 : Int32)), .unset, .unset] [(.int (34 : Int32)), (.ref vi)])) tt
    refine XS.iloadN X32.here hx rfl (hb hby d5_204) rfl ?_
    exact kk
  have f33 : Ary Z h28 vi .int [(.int (0 : Int32)), (.int (1 : Int32)), (.int (2 : Int32)), (.int (0 : Int32)), (.int (0 : Int32)), (.int (0 : Int32)), (.int (0 : Int32)), (.int (0 : Int32)), (.int (0 : Int32)), (.int (0 : Int32)), (.int (0 : Int32)), (.int (0 : Int32)), (.int (0 : Int32)), (.int (0 : Int32)), (.int (0 : Int32)), (.int (0 : Int32)), (.int (-1 : Int32)), (.int (-2 : Int32)), (.int (-2 : Int32)), (.int (0 : Int32)), (.int (0 : Int32)), (.int (0 : Int32)), (.int (0 : Int32)), (.int (0 : Int32)), (.int (0 : Int32)), (.int (0 : Int32)), (.int (0 : Int32)), (.int (0 : Int32)), (.int (0 : Int32)), (.int (0 : Int32)), (.int (0 : Int32)), (.int (0 : Int32)), (.int (-1 : Int32)), (.int (-1 : Int32)), (.int (0 : Int32)), (.int (0 : Int32)), (.int (0 : Int32)), (.int (0 : Int32)), (.int (0 : Int32)), (.int (0 : Int32)), (.int (0 : Int32)), (.int (0 : Int32)), (.int (0 : Int32)), (.int (0 : Int32)), (.int (0 : Int32)), (.int (0 : Int32)), (.int (0 : Int32)), (.int (0 : Int32)), (.int (0 : Int32)), (.int (0 : Int32)), (.int (0 : Int32)), (.int (0 : Int32)), (.int (0 : Int32)), (.int (0 : Int32)), (.int (0 : Int32)), (.int (0 : Int32)), (.int (0 : Int32)), (.int (0 : Int32)), (.int (0 : Int32)), (.int (0 : Int32)), (.int (0 : Int32)), (.int (0 : Int32)), (.int (0 : Int32)), (.int (0 : Int32)), (.int (1 : Int32)), (.int (0 : Int32)), (.int (0 : Int32)), (.int (0 : Int32)), (.int (0 : Int32)), (.int (0 : Int32)), (.int (0 : Int32)), (.int (0 : Int32)), (.int (0 : Int32)), (.int (0 : Int32)), (.int (0 : Int32)), (.int (0 : Int32)), (.int (0 : Int32)), (.int (0 : Int32)), (.int (0 : Int32)), (.int (0 : Int32)), (.int (0 : Int32))] := ((V15.other W24 ne_vi_vr).other W28 (Ne.symm ne_va_vi))
  obtain ⟨cl34, Ar34, Sl34⟩ := id f33
  have hin34 := inA (cl := cl34) Sl34 (j := (34 : Int32)) (by decide) (Nat.le_of_ble_eq_true rfl)
  obtain ⟨T34, h34, X34, e34, W34, st34⟩ := stI X32 hx hZ e32 Ar34 (j := (34 : Int32)) hin34 (g := (mkF m 205 #[.val (.ref va), .val (.int (0 : Int32)), .val (.int (2 : Int32)), .val (.int (-1 : Int32)), .unset, .unset] [(.int (-1 : Int32)), (.int (34 : Int32)), (.ref vi)])) rfl rfl (hb hby d5_205)
  have V34 : Ary Z h34 vi .int [(.int (0 : Int32)), (.int (1 : Int32)), (.int (2 : Int32)), (.int (0 : Int32)), (.int (0 : Int32)), (.int (0 : Int32)), (.int (0 : Int32)), (.int (0 : Int32)), (.int (0 : Int32)), (.int (0 : Int32)), (.int (0 : Int32)), (.int (0 : Int32)), (.int (0 : Int32)), (.int (0 : Int32)), (.int (0 : Int32)), (.int (0 : Int32)), (.int (-1 : Int32)), (.int (-2 : Int32)), (.int (-2 : Int32)), (.int (0 : Int32)), (.int (0 : Int32)), (.int (0 : Int32)), (.int (0 : Int32)), (.int (0 : Int32)), (.int (0 : Int32)), (.int (0 : Int32)), (.int (0 : Int32)), (.int (0 : Int32)), (.int (0 : Int32)), (.int (0 : Int32)), (.int (0 : Int32)), (.int (0 : Int32)), (.int (-1 : Int32)), (.int (-1 : Int32)), (.int (-1 : Int32)), (.int (0 : Int32)), (.int (0 : Int32)), (.int (0 : Int32)), (.int (0 : Int32)), (.int (0 : Int32)), (.int (0 : Int32)), (.int (0 : Int32)), (.int (0 : Int32)), (.int (0 : Int32)), (.int (0 : Int32)), (.int (0 : Int32)), (.int (0 : Int32)), (.int (0 : Int32)), (.int (0 : Int32)), (.int (0 : Int32)), (.int (0 : Int32)), (.int (0 : Int32)), (.int (0 : Int32)), (.int (0 : Int32)), (.int (0 : Int32)), (.int (0 : Int32)), (.int (0 : Int32)), (.int (0 : Int32)), (.int (0 : Int32)), (.int (0 : Int32)), (.int (0 : Int32)), (.int (0 : Int32)), (.int (0 : Int32)), (.int (0 : Int32)), (.int (1 : Int32)), (.int (0 : Int32)), (.int (0 : Int32)), (.int (0 : Int32)), (.int (0 : Int32)), (.int (0 : Int32)), (.int (0 : Int32)), (.int (0 : Int32)), (.int (0 : Int32)), (.int (0 : Int32)), (.int (0 : Int32)), (.int (0 : Int32)), (.int (0 : Int32)), (.int (0 : Int32)), (.int (0 : Int32)), (.int (0 : Int32)), (.int (0 : Int32))] := Ary.put Ar34 Sl34 W34 rfl
  have N34 := Fr.snoc X34 N28 g_vi
  refine Goal.to (B := T34.setTop (mkF m 206 #[.val (.ref va), .val (.int (0 : Int32)), .val (.int (2 : Int32)), .val (.int (-1 : Int32)), .unset, .unset] [])) st34 ?_
  refine Goal.to (B := T34.setTop (mkF m 207 #[.val (.ref va), .val (.int (0 : Int32)), .val (.int (2 : Int32)), .val (.int (-1 : Int32)), .unset, .unset] [(.ref va)])) (fun tt kk => ?_) ?_
  · show Steps p.tables e below (T34.setTop (mkF m 206 #[.val (.ref va), .val (.int (0 : Int32)), .val (.int (2 : Int32)), .val (.int (-1 : Int32)), .unset, .unset] [])) tt
    refine XS.aloadN X34.here hx rfl (hb hby d5_206) rfl rfl ?_
    exact kk
  have f35 : Fld Z h34 va "com/example/deferra/deferra/engine/Identities" "ints" "[I" (.ref vi) := (f29.other W34 (Or.inl ne_va_vi))
  obtain ⟨T36, X36, e36, st36⟩ := getF X34 hx hZ hown (host := "") (Or.inl (hw _ (mw 24 rfl))) Via.refl e34 f35 (g := (mkF m 207 #[.val (.ref va), .val (.int (0 : Int32)), .val (.int (2 : Int32)), .val (.int (-1 : Int32)), .unset, .unset] [(.ref va)])) rfl rfl (hb hby d5_207)
  refine Goal.to (B := T36.setTop (mkF m 210 #[.val (.ref va), .val (.int (0 : Int32)), .val (.int (2 : Int32)), .val (.int (-1 : Int32)), .unset, .unset] [(.ref vi)])) st36 ?_
  refine Goal.to (B := T36.setTop (mkF m 211 #[.val (.ref va), .val (.int (0 : Int32)), .val (.int (2 : Int32)), .val (.int (-1 : Int32)), .unset, .unset] [(.ref va), (.ref vi)])) (fun tt kk => ?_) ?_
  · show Steps p.tables e below (T36.setTop (mkF m 210 #[.val (.ref va), .val (.int (0 : Int32)), .val (.int (2 : Int32)), .val (.int (-1 : Int32)), .unset, .unset] [(.ref vi)])) tt
    refine XS.aloadN X36.here hx rfl (hb hby d5_210) rfl rfl ?_
    exact kk
  have f37 : Fld Z h34 va "com/example/deferra/deferra/engine/Identities" "holdersAt" "I" (.int (64 : Int32)) := ((((((F_holdersAt_va.other W6 (Or.inr (slot_ne (Or.inl (hw _ (mw 37 rfl))) (Or.inl (hw _ (mw 11 rfl))) (by decide) (t := .int) (t' := .int) (by decide) (by decide)))).other W10 (Or.inl ne_va_vi)).other W15 (Or.inl ne_va_vi)).other W24 (Or.inl ne_va_vr)).other W28 (Or.inr (slot_ne (Or.inl (hw _ (mw 37 rfl))) (Or.inl (hw _ (mw 47 rfl))) (by decide) (t := .int) (t' := .int) (by decide) (by decide)))).other W34 (Or.inl ne_va_vi))
  obtain ⟨T38, X38, e38, st38⟩ := getF X36 hx hZ hown (host := "") (Or.inl (hw _ (mw 36 rfl))) Via.refl e36 f37 (g := (mkF m 211 #[.val (.ref va), .val (.int (0 : Int32)), .val (.int (2 : Int32)), .val (.int (-1 : Int32)), .unset, .unset] [(.ref va), (.ref vi)])) rfl rfl (hb hby d5_211)
  refine Goal.to (B := T38.setTop (mkF m 214 #[.val (.ref va), .val (.int (0 : Int32)), .val (.int (2 : Int32)), .val (.int (-1 : Int32)), .unset, .unset] [(.int (64 : Int32)), (.ref vi)])) st38 ?_
  refine Goal.to (B := T38.setTop (mkF m 219 #[.val (.ref va), .val (.int (0 : Int32)), .val (.int (2 : Int32)), .val (.int (-1 : Int32)), .unset, .unset] [(.int (64 : Int32)), (.ref vi), (.int (64 : Int32)), (.ref vi)])) (fun tt kk => ?_) ?_
  · show Steps p.tables e below (T38.setTop (mkF m 214 #[.val (.ref va), .val (.int (0 : Int32)), .val (.int (2 : Int32)), .val (.int (-1 : Int32)), .unset, .unset] [(.int (64 : Int32)), (.ref vi)])) tt
    refine XS.iloadN X38.here hx rfl (hb hby d5_214) rfl ?_
    show Steps p.tables e below (T38.setTop (mkF m 215 #[.val (.ref va), .val (.int (0 : Int32)), .val (.int (2 : Int32)), .val (.int (-1 : Int32)), .unset, .unset] [(.int (-1 : Int32)), (.int (64 : Int32)), (.ref vi)])) tt
    refine XS.iadd X38.here hx rfl (hb hby d5_215) rfl ?_
    show Steps p.tables e below (T38.setTop (mkF m 216 #[.val (.ref va), .val (.int (0 : Int32)), .val (.int (2 : Int32)), .val (.int (-1 : Int32)), .unset, .unset] [(.int (63 : Int32)), (.ref vi)])) tt
    refine XS.iconst X38.here hx rfl (hb hby d5_216) ?_
    show Steps p.tables e below (T38.setTop (mkF m 217 #[.val (.ref va), .val (.int (0 : Int32)), .val (.int (2 : Int32)), .val (.int (-1 : Int32)), .unset, .unset] [(.int (1 : Int32)), (.int (63 : Int32)), (.ref vi)])) tt
    refine XS.iadd X38.here hx rfl (hb hby d5_217) rfl ?_
    show Steps p.tables e below (T38.setTop (mkF m 218 #[.val (.ref va), .val (.int (0 : Int32)), .val (.int (2 : Int32)), .val (.int (-1 : Int32)), .unset, .unset] [(.int (64 : Int32)), (.ref vi)])) tt
    refine Jvm.Free.XT.dup2 X38.here hx rfl (hb hby d5_218) rfl rfl rfl ?_
    exact kk
  obtain ⟨cl39, Ar39, Sl39⟩ := id V34
  have hin39 := inA (cl := cl39) Sl39 (j := (64 : Int32)) (by decide) (Nat.le_of_ble_eq_true rfl)
  have hat39 : cl39.slots[((64 : Int32)).toNatClampNeg]? = some (.int (1 : Int32)) := atA Sl39 rfl
  refine Goal.to (B := T38.setTop (mkF m 222 #[.val (.ref va), .val (.int (0 : Int32)), .val (.int (2 : Int32)), .val (.int (-1 : Int32)), .unset, .unset] [(.int (2 : Int32)), (.int (64 : Int32)), (.ref vi)])) (fun tt kk => ?_) ?_
  · show Steps p.tables e below (T38.setTop (mkF m 219 #[.val (.ref va), .val (.int (0 : Int32)), .val (.int (2 : Int32)), .val (.int (-1 : Int32)), .unset, .unset] [(.int (64 : Int32)), (.ref vi), (.int (64 : Int32)), (.ref vi)])) tt
    refine X38.iaload hx (j := (64 : Int32)) (v := (.int (1 : Int32))) (by rw [e38]; exact Ar39.1) (State.isArrayOf_alike hZ.alike Ar39.2.1) Ar39.2.2 hin39 hat39 (g := (mkF m 219 #[.val (.ref va), .val (.int (0 : Int32)), .val (.int (2 : Int32)), .val (.int (-1 : Int32)), .unset, .unset] [(.int (64 : Int32)), (.ref vi), (.int (64 : Int32)), (.ref vi)])) rfl rfl (hb hby d5_219) _ ?_
    show Steps p.tables e below (T38.setTop (mkF m 220 #[.val (.ref va), .val (.int (0 : Int32)), .val (.int (2 : Int32)), .val (.int (-1 : Int32)), .unset, .unset] [(.int (1 : Int32)), (.int (64 : Int32)), (.ref vi)])) tt
    refine XS.iconst X38.here hx rfl (hb hby d5_220) ?_
    show Steps p.tables e below (T38.setTop (mkF m 221 #[.val (.ref va), .val (.int (0 : Int32)), .val (.int (2 : Int32)), .val (.int (-1 : Int32)), .unset, .unset] [(.int (1 : Int32)), (.int (1 : Int32)), (.int (64 : Int32)), (.ref vi)])) tt
    refine XS.iadd X38.here hx rfl (hb hby d5_221) rfl ?_
    exact kk
  obtain ⟨cl40, Ar40, Sl40⟩ := id V34
  have hin40 := inA (cl := cl40) Sl40 (j := (64 : Int32)) (by decide) (Nat.le_of_ble_eq_true rfl)
  obtain ⟨T40, h40, X40, e40, W40, st40⟩ := stI X38 hx hZ e38 Ar40 (j := (64 : Int32)) hin40 (g := (mkF m 222 #[.val (.ref va), .val (.int (0 : Int32)), .val (.int (2 : Int32)), .val (.int (-1 : Int32)), .unset, .unset] [(.int (2 : Int32)), (.int (64 : Int32)), (.ref vi)])) rfl rfl (hb hby d5_222)
  have V40 : Ary Z h40 vi .int [(.int (0 : Int32)), (.int (1 : Int32)), (.int (2 : Int32)), (.int (0 : Int32)), (.int (0 : Int32)), (.int (0 : Int32)), (.int (0 : Int32)), (.int (0 : Int32)), (.int (0 : Int32)), (.int (0 : Int32)), (.int (0 : Int32)), (.int (0 : Int32)), (.int (0 : Int32)), (.int (0 : Int32)), (.int (0 : Int32)), (.int (0 : Int32)), (.int (-1 : Int32)), (.int (-2 : Int32)), (.int (-2 : Int32)), (.int (0 : Int32)), (.int (0 : Int32)), (.int (0 : Int32)), (.int (0 : Int32)), (.int (0 : Int32)), (.int (0 : Int32)), (.int (0 : Int32)), (.int (0 : Int32)), (.int (0 : Int32)), (.int (0 : Int32)), (.int (0 : Int32)), (.int (0 : Int32)), (.int (0 : Int32)), (.int (-1 : Int32)), (.int (-1 : Int32)), (.int (-1 : Int32)), (.int (0 : Int32)), (.int (0 : Int32)), (.int (0 : Int32)), (.int (0 : Int32)), (.int (0 : Int32)), (.int (0 : Int32)), (.int (0 : Int32)), (.int (0 : Int32)), (.int (0 : Int32)), (.int (0 : Int32)), (.int (0 : Int32)), (.int (0 : Int32)), (.int (0 : Int32)), (.int (0 : Int32)), (.int (0 : Int32)), (.int (0 : Int32)), (.int (0 : Int32)), (.int (0 : Int32)), (.int (0 : Int32)), (.int (0 : Int32)), (.int (0 : Int32)), (.int (0 : Int32)), (.int (0 : Int32)), (.int (0 : Int32)), (.int (0 : Int32)), (.int (0 : Int32)), (.int (0 : Int32)), (.int (0 : Int32)), (.int (0 : Int32)), (.int (2 : Int32)), (.int (0 : Int32)), (.int (0 : Int32)), (.int (0 : Int32)), (.int (0 : Int32)), (.int (0 : Int32)), (.int (0 : Int32)), (.int (0 : Int32)), (.int (0 : Int32)), (.int (0 : Int32)), (.int (0 : Int32)), (.int (0 : Int32)), (.int (0 : Int32)), (.int (0 : Int32)), (.int (0 : Int32)), (.int (0 : Int32)), (.int (0 : Int32))] := Ary.put Ar40 Sl40 W40 rfl
  have N40 := Fr.snoc X40 N34 g_vi
  refine Goal.to (B := T40.setTop (mkF m 223 #[.val (.ref va), .val (.int (0 : Int32)), .val (.int (2 : Int32)), .val (.int (-1 : Int32)), .unset, .unset] [])) st40 ?_
  refine Goal.to (B := T40.setTop (mkF m 225 #[.val (.ref va), .val (.int (0 : Int32)), .val (.int (2 : Int32)), .val (.int (-1 : Int32)), .unset, .unset] [(.ref va), (.int (-1 : Int32))])) (fun tt kk => ?_) ?_
  · show Steps p.tables e below (T40.setTop (mkF m 223 #[.val (.ref va), .val (.int (0 : Int32)), .val (.int (2 : Int32)), .val (.int (-1 : Int32)), .unset, .unset] [])) tt
    refine XS.iloadN X40.here hx rfl (hb hby d5_223) rfl ?_
    show Steps p.tables e below (T40.setTop (mkF m 224 #[.val (.ref va), .val (.int (0 : Int32)), .val (.int (2 : Int32)), .val (.int (-1 : Int32)), .unset, .unset] [(.int (-1 : Int32))])) tt
    refine XS.aloadN X40.here hx rfl (hb hby d5_224) rfl rfl ?_
    exact kk
  have f41 : Fld Z h40 va "com/example/deferra/deferra/engine/Identities" "capacity" "I" (.int uc) := (((((((F_capacity_va.other W6 (Or.inr (slot_ne (Or.inr (hw _ (mw 17 rfl))) (Or.inl (hw _ (mw 11 rfl))) (by decide) (t := .int) (t' := .int) (by decide) (by decide)))).other W10 (Or.inl ne_va_vi)).other W15 (Or.inl ne_va_vi)).other W24 (Or.inl ne_va_vr)).other W28 (Or.inr (slot_ne (Or.inr (hw _ (mw 17 rfl))) (Or.inl (hw _ (mw 47 rfl))) (by decide) (t := .int) (t' := .int) (by decide) (by decide)))).other W34 (Or.inl ne_va_vi)).other W40 (Or.inl ne_va_vi))
  obtain ⟨T42, X42, e42, st42⟩ := getF X40 hx hZ hown (host := "") (Or.inl (hw _ (mw 16 rfl))) Via.refl e40 f41 (g := (mkF m 225 #[.val (.ref va), .val (.int (0 : Int32)), .val (.int (2 : Int32)), .val (.int (-1 : Int32)), .unset, .unset] [(.ref va), (.int (-1 : Int32))])) rfl rfl (hb hby d5_225)
  refine Goal.to (B := T42.setTop (mkF m 228 #[.val (.ref va), .val (.int (0 : Int32)), .val (.int (2 : Int32)), .val (.int (-1 : Int32)), .unset, .unset] [(.int uc), (.int (-1 : Int32))])) st42 ?_
  refine Goal.to (B := T42.setTop (mkF m 261 #[.val (.ref va), .val (.int (0 : Int32)), .val (.int (2 : Int32)), .val (.int (-1 : Int32)), .val (.int (1 : Int32)), .unset] [(.int (2 : Int32))])) (fun tt kk => ?_) ?_
  · show Steps p.tables e below (T42.setTop (mkF m 228 #[.val (.ref va), .val (.int (0 : Int32)), .val (.int (2 : Int32)), .val (.int (-1 : Int32)), .unset, .unset] [(.int uc), (.int (-1 : Int32))])) tt
    refine XS.icmpYes X42.here hx rfl (pc0 := 228) (pc' := 244) rfl (hb hby d5_228) rfl (tlt hcap).1 (by decide) (by decide) ?_
    show Steps p.tables e below (T42.setTop (mkF m 244 #[.val (.ref va), .val (.int (0 : Int32)), .val (.int (2 : Int32)), .val (.int (-1 : Int32)), .unset, .unset] [])) tt
    refine XS.iconst X42.here hx rfl (hb hby d5_244) ?_
    show Steps p.tables e below (T42.setTop (mkF m 245 #[.val (.ref va), .val (.int (0 : Int32)), .val (.int (2 : Int32)), .val (.int (-1 : Int32)), .unset, .unset] [(.int (1 : Int32))])) tt
    refine XS.goto X42.here hx rfl (pc0 := 245) (pc' := 249) rfl (hb hby d5_245) (by decide) (by decide) ?_
    show Steps p.tables e below (T42.setTop (mkF m 249 #[.val (.ref va), .val (.int (0 : Int32)), .val (.int (2 : Int32)), .val (.int (-1 : Int32)), .unset, .unset] [(.int (1 : Int32))])) tt
    refine XS.istore X42.here hx rfl (hb hby d5_249) rfl (l' := #[.val (.ref va), .val (.int (0 : Int32)), .val (.int (2 : Int32)), .val (.int (-1 : Int32)), .val (.int (1 : Int32)), .unset]) rfl ?_
    show Steps p.tables e below (T42.setTop (mkF m 251 #[.val (.ref va), .val (.int (0 : Int32)), .val (.int (2 : Int32)), .val (.int (-1 : Int32)), .val (.int (1 : Int32)), .unset] [])) tt
    refine XS.iload X42.here hx rfl (hb hby d5_251) rfl ?_
    show Steps p.tables e below (T42.setTop (mkF m 253 #[.val (.ref va), .val (.int (0 : Int32)), .val (.int (2 : Int32)), .val (.int (-1 : Int32)), .val (.int (1 : Int32)), .unset] [(.int (1 : Int32))])) tt
    refine XS.ifNo X42.here hx rfl (hb hby d5_253) rfl ((if0 _ _).trans (feq ((by decide) : ¬ ((1 : Int32) = (0 : Int32)))).1) ?_
    show Steps p.tables e below (T42.setTop (mkF m 256 #[.val (.ref va), .val (.int (0 : Int32)), .val (.int (2 : Int32)), .val (.int (-1 : Int32)), .val (.int (1 : Int32)), .unset] [])) tt
    refine XS.iloadN X42.here hx rfl (hb hby d5_256) rfl ?_
    show Steps p.tables e below (T42.setTop (mkF m 257 #[.val (.ref va), .val (.int (0 : Int32)), .val (.int (2 : Int32)), .val (.int (-1 : Int32)), .val (.int (1 : Int32)), .unset] [(.int (2 : Int32))])) tt
    refine XS.goto X42.here hx rfl (pc0 := 257) (pc' := 261) rfl (hb hby d5_257) (by decide) (by decide) ?_
    exact kk
  have f43 : Keep h0 h40 [va, vi, vr] := ((((((((Keep.refl h0 [va, vi, vr]).wr W6 (Or.inl (List.mem_of_getElem? (i := 0) rfl))).wr W10 (Or.inl (List.mem_of_getElem? (i := 1) rfl))).wr W15 (Or.inl (List.mem_of_getElem? (i := 1) rfl))).wr W24 (Or.inl (List.mem_of_getElem? (i := 2) rfl))).wr W28 (Or.inl (List.mem_of_getElem? (i := 0) rfl))).wr W34 (Or.inl (List.mem_of_getElem? (i := 1) rfl))).wr W40 (Or.inl (List.mem_of_getElem? (i := 1) rfl)))
  have f44 : Fld Z h40 va "com/example/deferra/deferra/engine/Identities" "count" "I" (.int (3 : Int32)) := ((((((Fw6.other W10 (Or.inl ne_va_vi)).other W15 (Or.inl ne_va_vi)).other W24 (Or.inl ne_va_vr)).other W28 (Or.inr (slot_ne (Or.inl (hw _ (mw 11 rfl))) (Or.inl (hw _ (mw 47 rfl))) (by decide) (t := .int) (t' := .int) (by decide) (by decide)))).other W34 (Or.inl ne_va_vi)).other W40 (Or.inl ne_va_vi))
  have f45 : Fld Z h40 va "com/example/deferra/deferra/engine/Identities" "slots" "I" (.int (16 : Int32)) := (((((((F_slots_va.other W6 (Or.inr (slot_ne (Or.inl (hw _ (mw 13 rfl))) (Or.inl (hw _ (mw 11 rfl))) (by decide) (t := .int) (t' := .int) (by decide) (by decide)))).other W10 (Or.inl ne_va_vi)).other W15 (Or.inl ne_va_vi)).other W24 (Or.inl ne_va_vr)).other W28 (Or.inr (slot_ne (Or.inl (hw _ (mw 13 rfl))) (Or.inl (hw _ (mw 47 rfl))) (by decide) (t := .int) (t' := .int) (by decide) (by decide)))).other W34 (Or.inl ne_va_vi)).other W40 (Or.inl ne_va_vi))
  have f46 : Fld Z h40 va "com/example/deferra/deferra/engine/Identities" "words" "I" (.int (1 : Int32)) := ((((f20.other W24 (Or.inl ne_va_vr)).other W28 (Or.inr (slot_ne (Or.inl (hw _ (mw 15 rfl))) (Or.inl (hw _ (mw 47 rfl))) (by decide) (t := .int) (t' := .int) (by decide) (by decide)))).other W34 (Or.inl ne_va_vi)).other W40 (Or.inl ne_va_vi))
  have f47 : Fld Z h40 va "com/example/deferra/deferra/engine/Identities" "nullAllowed" "Z" (.int (1 : Int32)) := ((((f16.other W24 (Or.inl ne_va_vr)).other W28 (Or.inr (slot_ne (Or.inr (hw _ (mw 19 rfl))) (Or.inl (hw _ (mw 47 rfl))) (by decide) (t := .boolean) (t' := .int) (by decide) (by decide)))).other W34 (Or.inl ne_va_vi)).other W40 (Or.inl ne_va_vi))
  have f48 : Fld Z h40 va "com/example/deferra/deferra/engine/Identities" "ints" "[I" (.ref vi) := (f35.other W40 (Or.inl ne_va_vi))
  have f49 : Fld Z h40 va "com/example/deferra/deferra/engine/Identities" "numberAt" "I" (.int (16 : Int32)) := (((((f13.other W15 (Or.inl ne_va_vi)).other W24 (Or.inl ne_va_vr)).other W28 (Or.inr (slot_ne (Or.inl (hw _ (mw 31 rfl))) (Or.inl (hw _ (mw 47 rfl))) (by decide) (t := .int) (t' := .int) (by decide) (by decide)))).other W34 (Or.inl ne_va_vi)).other W40 (Or.inl ne_va_vi))
  have f50 : Fld Z h40 va "com/example/deferra/deferra/engine/Identities" "colourAt" "I" (.int (32 : Int32)) := ((f31.other W34 (Or.inl ne_va_vi)).other W40 (Or.inl ne_va_vi))
  have f51 : Fld Z h40 va "com/example/deferra/deferra/engine/Identities" "madeAt" "I" (.int (48 : Int32)) := (((((((F_madeAt_va.other W6 (Or.inr (slot_ne (Or.inl (hw _ (mw 35 rfl))) (Or.inl (hw _ (mw 11 rfl))) (by decide) (t := .int) (t' := .int) (by decide) (by decide)))).other W10 (Or.inl ne_va_vi)).other W15 (Or.inl ne_va_vi)).other W24 (Or.inl ne_va_vr)).other W28 (Or.inr (slot_ne (Or.inl (hw _ (mw 35 rfl))) (Or.inl (hw _ (mw 47 rfl))) (by decide) (t := .int) (t' := .int) (by decide) (by decide)))).other W34 (Or.inl ne_va_vi)).other W40 (Or.inl ne_va_vi))
  have f52 : Fld Z h40 va "com/example/deferra/deferra/engine/Identities" "holdersAt" "I" (.int (64 : Int32)) := (f37.other W40 (Or.inl ne_va_vi))
  have f53 : Fld Z h40 va "com/example/deferra/deferra/engine/Identities" "rows" "[J" (.ref vr) := ((((f18.other W24 (Or.inl ne_va_vr)).other W28 (Or.inr (slot_ne (Or.inl (hw _ (mw 40 rfl))) (Or.inl (hw _ (mw 47 rfl))) (by decide) (t := (.array .long)) (t' := .int) (by decide) (by decide)))).other W34 (Or.inl ne_va_vi)).other W40 (Or.inl ne_va_vi))
  have f54 : Fld Z h40 va "com/example/deferra/deferra/engine/Identities" "openCount" "I" (.int (2 : Int32)) := ((Fw28.other W34 (Or.inl ne_va_vi)).other W40 (Or.inl ne_va_vi))
  have f55 : Ary Z h40 vr .long [(.long (6 : Int64)), (.long (0 : Int64)), (.long (0 : Int64)), (.long (0 : Int64)), (.long (0 : Int64)), (.long (0 : Int64)), (.long (0 : Int64)), (.long (0 : Int64)), (.long (0 : Int64)), (.long (0 : Int64)), (.long (0 : Int64)), (.long (0 : Int64)), (.long (0 : Int64)), (.long (0 : Int64)), (.long (0 : Int64)), (.long (0 : Int64)), (.long (0 : Int64)), (.long (0 : Int64))] := (((V24.other W28 (Ne.symm ne_va_vr)).other W34 (Ne.symm ne_vi_vr)).other W40 (Ne.symm ne_vi_vr))
  exact Goal.retV X42 hx Bd.returns rfl (Or.inl ⟨rfl, Or.inl rfl, _, rfl⟩) (hb hby d5_261) hlk e42 ⟨rfl, N40, f43, f44, f45, f46, f41, f47, f48, f49, f50, f51, f52, f53, f54, V40, f55⟩ (by decide) (by decide)
def Qtk3 (Z : State) (va : Addr) (vi : Addr) (vr : Addr) (uc : Int32) (h0 : Heap) (n0 : Nat) (v : Option Value) (h : Heap) (L : List Loc) : Prop := v = some (.int (3 : Int32)) ∧ Fr n0 L ∧ Keep h0 h [va, vi, vr] ∧ Fld Z h va "com/example/deferra/deferra/engine/Identities" "count" "I" (.int (4 : Int32)) ∧ Fld Z h va "com/example/deferra/deferra/engine/Identities" "slots" "I" (.int (16 : Int32)) ∧ Fld Z h va "com/example/deferra/deferra/engine/Identities" "words" "I" (.int (1 : Int32)) ∧ Fld Z h va "com/example/deferra/deferra/engine/Identities" "capacity" "I" (.int uc) ∧ Fld Z h va "com/example/deferra/deferra/engine/Identities" "nullAllowed" "Z" (.int (1 : Int32)) ∧ Fld Z h va "com/example/deferra/deferra/engine/Identities" "ints" "[I" (.ref vi) ∧ Fld Z h va "com/example/deferra/deferra/engine/Identities" "numberAt" "I" (.int (16 : Int32)) ∧ Fld Z h va "com/example/deferra/deferra/engine/Identities" "colourAt" "I" (.int (32 : Int32)) ∧ Fld Z h va "com/example/deferra/deferra/engine/Identities" "madeAt" "I" (.int (48 : Int32)) ∧ Fld Z h va "com/example/deferra/deferra/engine/Identities" "holdersAt" "I" (.int (64 : Int32)) ∧ Fld Z h va "com/example/deferra/deferra/engine/Identities" "rows" "[J" (.ref vr) ∧ Fld Z h va "com/example/deferra/deferra/engine/Identities" "openCount" "I" (.int (3 : Int32)) ∧ Ary Z h vi .int [(.int (0 : Int32)), (.int (1 : Int32)), (.int (2 : Int32)), (.int (3 : Int32)), (.int (0 : Int32)), (.int (0 : Int32)), (.int (0 : Int32)), (.int (0 : Int32)), (.int (0 : Int32)), (.int (0 : Int32)), (.int (0 : Int32)), (.int (0 : Int32)), (.int (0 : Int32)), (.int (0 : Int32)), (.int (0 : Int32)), (.int (0 : Int32)), (.int (-1 : Int32)), (.int (-2 : Int32)), (.int (-2 : Int32)), (.int (-2 : Int32)), (.int (0 : Int32)), (.int (0 : Int32)), (.int (0 : Int32)), (.int (0 : Int32)), (.int (0 : Int32)), (.int (0 : Int32)), (.int (0 : Int32)), (.int (0 : Int32)), (.int (0 : Int32)), (.int (0 : Int32)), (.int (0 : Int32)), (.int (0 : Int32)), (.int (-1 : Int32)), (.int (-1 : Int32)), (.int (-1 : Int32)), (.int (-1 : Int32)), (.int (0 : Int32)), (.int (0 : Int32)), (.int (0 : Int32)), (.int (0 : Int32)), (.int (0 : Int32)), (.int (0 : Int32)), (.int (0 : Int32)), (.int (0 : Int32)), (.int (0 : Int32)), (.int (0 : Int32)), (.int (0 : Int32)), (.int (0 : Int32)), (.int (0 : Int32)), (.int (0 : Int32)), (.int (0 : Int32)), (.int (0 : Int32)), (.int (0 : Int32)), (.int (0 : Int32)), (.int (0 : Int32)), (.int (0 : Int32)), (.int (0 : Int32)), (.int (0 : Int32)), (.int (0 : Int32)), (.int (0 : Int32)), (.int (0 : Int32)), (.int (0 : Int32)), (.int (0 : Int32)), (.int (0 : Int32)), (.int (3 : Int32)), (.int (0 : Int32)), (.int (0 : Int32)), (.int (0 : Int32)), (.int (0 : Int32)), (.int (0 : Int32)), (.int (0 : Int32)), (.int (0 : Int32)), (.int (0 : Int32)), (.int (0 : Int32)), (.int (0 : Int32)), (.int (0 : Int32)), (.int (0 : Int32)), (.int (0 : Int32)), (.int (0 : Int32)), (.int (0 : Int32)), (.int (0 : Int32))] ∧ Ary Z h vr .long [(.long (14 : Int64)), (.long (0 : Int64)), (.long (0 : Int64)), (.long (0 : Int64)), (.long (0 : Int64)), (.long (0 : Int64)), (.long (0 : Int64)), (.long (0 : Int64)), (.long (0 : Int64)), (.long (0 : Int64)), (.long (0 : Int64)), (.long (0 : Int64)), (.long (0 : Int64)), (.long (0 : Int64)), (.long (0 : Int64)), (.long (0 : Int64)), (.long (0 : Int64)), (.long (0 : Int64))]
set_option maxRecDepth 65536 in
set_option maxHeartbeats 40000000 in
theorem rmtk3 (l : Launch) (Z : State) (a0 : Array Value) (hw : ∀ d ∈ tables_1, d.before a0 Z = true) (ws : List Jvm.Cond) (va : Addr) (vi : Addr) (vr : Addr) (uc : Int32) (h0 : Heap) (n0 : Nat) (Z0 : n0 ≤ h0.size) (E_va : Exa Z h0 va "com/example/deferra/deferra/engine/Identities") (F_count_va : Fld Z h0 va "com/example/deferra/deferra/engine/Identities" "count" "I" (.int (3 : Int32))) (F_slots_va : Fld Z h0 va "com/example/deferra/deferra/engine/Identities" "slots" "I" (.int (16 : Int32))) (F_words_va : Fld Z h0 va "com/example/deferra/deferra/engine/Identities" "words" "I" (.int (1 : Int32))) (F_capacity_va : Fld Z h0 va "com/example/deferra/deferra/engine/Identities" "capacity" "I" (.int uc)) (F_nullAllowed_va : Fld Z h0 va "com/example/deferra/deferra/engine/Identities" "nullAllowed" "Z" (.int (1 : Int32))) (F_ints_va : Fld Z h0 va "com/example/deferra/deferra/engine/Identities" "ints" "[I" (.ref vi)) (F_numberAt_va : Fld Z h0 va "com/example/deferra/deferra/engine/Identities" "numberAt" "I" (.int (16 : Int32))) (F_colourAt_va : Fld Z h0 va "com/example/deferra/deferra/engine/Identities" "colourAt" "I" (.int (32 : Int32))) (F_madeAt_va : Fld Z h0 va "com/example/deferra/deferra/engine/Identities" "madeAt" "I" (.int (48 : Int32))) (F_holdersAt_va : Fld Z h0 va "com/example/deferra/deferra/engine/Identities" "holdersAt" "I" (.int (64 : Int32))) (F_rows_va : Fld Z h0 va "com/example/deferra/deferra/engine/Identities" "rows" "[J" (.ref vr)) (F_openCount_va : Fld Z h0 va "com/example/deferra/deferra/engine/Identities" "openCount" "I" (.int (2 : Int32))) (V_vi : Ary Z h0 vi .int [(.int (0 : Int32)), (.int (1 : Int32)), (.int (2 : Int32)), (.int (0 : Int32)), (.int (0 : Int32)), (.int (0 : Int32)), (.int (0 : Int32)), (.int (0 : Int32)), (.int (0 : Int32)), (.int (0 : Int32)), (.int (0 : Int32)), (.int (0 : Int32)), (.int (0 : Int32)), (.int (0 : Int32)), (.int (0 : Int32)), (.int (0 : Int32)), (.int (-1 : Int32)), (.int (-2 : Int32)), (.int (-2 : Int32)), (.int (0 : Int32)), (.int (0 : Int32)), (.int (0 : Int32)), (.int (0 : Int32)), (.int (0 : Int32)), (.int (0 : Int32)), (.int (0 : Int32)), (.int (0 : Int32)), (.int (0 : Int32)), (.int (0 : Int32)), (.int (0 : Int32)), (.int (0 : Int32)), (.int (0 : Int32)), (.int (-1 : Int32)), (.int (-1 : Int32)), (.int (-1 : Int32)), (.int (0 : Int32)), (.int (0 : Int32)), (.int (0 : Int32)), (.int (0 : Int32)), (.int (0 : Int32)), (.int (0 : Int32)), (.int (0 : Int32)), (.int (0 : Int32)), (.int (0 : Int32)), (.int (0 : Int32)), (.int (0 : Int32)), (.int (0 : Int32)), (.int (0 : Int32)), (.int (0 : Int32)), (.int (0 : Int32)), (.int (0 : Int32)), (.int (0 : Int32)), (.int (0 : Int32)), (.int (0 : Int32)), (.int (0 : Int32)), (.int (0 : Int32)), (.int (0 : Int32)), (.int (0 : Int32)), (.int (0 : Int32)), (.int (0 : Int32)), (.int (0 : Int32)), (.int (0 : Int32)), (.int (0 : Int32)), (.int (0 : Int32)), (.int (2 : Int32)), (.int (0 : Int32)), (.int (0 : Int32)), (.int (0 : Int32)), (.int (0 : Int32)), (.int (0 : Int32)), (.int (0 : Int32)), (.int (0 : Int32)), (.int (0 : Int32)), (.int (0 : Int32)), (.int (0 : Int32)), (.int (0 : Int32)), (.int (0 : Int32)), (.int (0 : Int32)), (.int (0 : Int32)), (.int (0 : Int32)), (.int (0 : Int32))]) (V_vr : Ary Z h0 vr .long [(.long (6 : Int64)), (.long (0 : Int64)), (.long (0 : Int64)), (.long (0 : Int64)), (.long (0 : Int64)), (.long (0 : Int64)), (.long (0 : Int64)), (.long (0 : Int64)), (.long (0 : Int64)), (.long (0 : Int64)), (.long (0 : Int64)), (.long (0 : Int64)), (.long (0 : Int64)), (.long (0 : Int64)), (.long (0 : Int64)), (.long (0 : Int64)), (.long (0 : Int64)), (.long (0 : Int64))]) (g_va : n0 ≤ va) (g_vi : n0 ≤ vi) (g_vr : n0 ≤ vr) (ne_va_vi : va ≠ vi) (ne_va_vr : va ≠ vr) (ne_vi_vr : vi ≠ vr) (hcap : (-1 : Int32) < uc) :
    MetFree l (⟨"com/example/deferra/deferra/engine/Identities", "take", "(Z)I"⟩ : MethodName) (head1 (Jvm.Cond.code (⟨"com/example/deferra/deferra/engine/Identities", "take", "(Z)I"⟩ : MethodName) prog_18_method_4_code 6 (some .int) :: ws) ({ frames := 0, cells := 0, slots := 0, locals := 0 } : Room)) (fun a U => a = #[(.ref va), (.int (0 : Int32))] ∧ Z.Warmed39 U.vm ∧ U.heap = h0) (fun _ _ _ _ _ => True) (fun _ U o U' => ∃ v L, o = .returned v ∧ Qtk3 Z va vi vr uc h0 n0 v U'.heap L ∧ FrameEnd U o U' L 0 0) := by
  refine MetFree.of_bodySF (plainFor_of_name pn_5) hisR ?_
  intro p e s m args below meth c s₁ Bd hml0 hP hK
  obtain ⟨rfl, hZ, hh⟩ := hP
  have hx := Bd.exec
  have hby := Bd.bytes
  have hml : c.maxLocals = 6 := hml0
  have hown : s.vm.findClass "com/example/deferra/deferra/engine/Identities" = some m.cls := findClass_of_methodNamed Bd.named
  have hnm := (name_of_methodNamed Bd.named Bd.method).1
  have X0 : Stand p l e ({ frames := 0, cells := 0, slots := 0, locals := 0 } : Room) s m #[(.ref va), (.int (0 : Int32))] below meth c s₁ [] 0 0 := Stand.of_body Bd
  have e0 : s₁.heap = h0 := by rw [← hh, Bd.state]; rfl
  have N0 := Fr.nil n0
  have hlk : meth.locks = false := BodyLoose.notSynchronized Bd
  show Goal p e below s (Qtk3 Z va vi vr uc h0 n0) 0 0 (s₁.setTop (entryFrame m #[(.ref va), (.int (0 : Int32))] 6))
  refine Goal.to (B := s₁.setTop (mkF m 0 #[.val (.ref va), .val (.int (0 : Int32)), .unset, .unset, .unset, .unset] [])) (fun tt kk => castTop (ef_5 m va (0 : Int32) ) kk) ?_
  refine Goal.to (B := s₁.setTop (mkF m 1 #[.val (.ref va), .val (.int (0 : Int32)), .unset, .unset, .unset, .unset] [(.ref va)])) (fun tt kk => ?_) ?_
  · show Steps p.tables e below (s₁.setTop (mkF m 0 #[.val (.ref va), .val (.int (0 : Int32)), .unset, .unset, .unset, .unset] [])) tt
    refine XS.aloadN X0.here hx rfl (hb hby d5_0) rfl rfl ?_
    exact kk
  obtain ⟨T1, X1, e1, st1⟩ := getF X0 hx hZ hown (host := "") (Or.inl (hw _ (mw 10 rfl))) Via.refl e0 F_count_va (g := (mkF m 1 #[.val (.ref va), .val (.int (0 : Int32)), .unset, .unset, .unset, .unset] [(.ref va)])) rfl rfl (hb hby d5_1)
  refine Goal.to (B := T1.setTop (mkF m 4 #[.val (.ref va), .val (.int (0 : Int32)), .unset, .unset, .unset, .unset] [(.int (3 : Int32))])) st1 ?_
  refine Goal.to (B := T1.setTop (mkF m 5 #[.val (.ref va), .val (.int (0 : Int32)), .unset, .unset, .unset, .unset] [(.ref va), (.int (3 : Int32))])) (fun tt kk => ?_) ?_
  · show Steps p.tables e below (T1.setTop (mkF m 4 #[.val (.ref va), .val (.int (0 : Int32)), .unset, .unset, .unset, .unset] [(.int (3 : Int32))])) tt
    refine XS.aloadN X1.here hx rfl (hb hby d5_4) rfl rfl ?_
    exact kk
  obtain ⟨T2, X2, e2, st2⟩ := getF X1 hx hZ hown (host := "") (Or.inl (hw _ (mw 12 rfl))) Via.refl e1 F_slots_va (g := (mkF m 5 #[.val (.ref va), .val (.int (0 : Int32)), .unset, .unset, .unset, .unset] [(.ref va), (.int (3 : Int32))])) rfl rfl (hb hby d5_5)
  refine Goal.to (B := T2.setTop (mkF m 8 #[.val (.ref va), .val (.int (0 : Int32)), .unset, .unset, .unset, .unset] [(.int (16 : Int32)), (.int (3 : Int32))])) st2 ?_
  refine Goal.to (B := T2.setTop (mkF m 16 #[.val (.ref va), .val (.int (0 : Int32)), .unset, .unset, .unset, .unset] [(.ref va)])) (fun tt kk => ?_) ?_
  · show Steps p.tables e below (T2.setTop (mkF m 8 #[.val (.ref va), .val (.int (0 : Int32)), .unset, .unset, .unset, .unset] [(.int (16 : Int32)), (.int (3 : Int32))])) tt
    refine XS.icmpYes X2.here hx rfl (pc0 := 8) (pc' := 15) rfl (hb hby d5_8) rfl (feq ((by decide) : ¬ ((3 : Int32) = (16 : Int32)))).2 (by decide) (by decide) ?_
    show Steps p.tables e below (T2.setTop (mkF m 15 #[.val (.ref va), .val (.int (0 : Int32)), .unset, .unset, .unset, .unset] [])) tt
    refine XS.aloadN X2.here hx rfl (hb hby d5_15) rfl rfl ?_
    exact kk
  obtain ⟨T3, X3, e3, st3⟩ := getF X2 hx hZ hown (host := "") (Or.inl (hw _ (mw 10 rfl))) Via.refl e2 F_count_va (g := (mkF m 16 #[.val (.ref va), .val (.int (0 : Int32)), .unset, .unset, .unset, .unset] [(.ref va)])) rfl rfl (hb hby d5_16)
  refine Goal.to (B := T3.setTop (mkF m 19 #[.val (.ref va), .val (.int (0 : Int32)), .unset, .unset, .unset, .unset] [(.int (3 : Int32))])) st3 ?_
  refine Goal.to (B := T3.setTop (mkF m 20 #[.val (.ref va), .val (.int (0 : Int32)), .unset, .unset, .unset, .unset] [(.ref va), (.int (3 : Int32))])) (fun tt kk => ?_) ?_
  · show Steps p.tables e below (T3.setTop (mkF m 19 #[.val (.ref va), .val (.int (0 : Int32)), .unset, .unset, .unset, .unset] [(.int (3 : Int32))])) tt
    refine XS.aloadN X3.here hx rfl (hb hby d5_19) rfl rfl ?_
    exact kk
  obtain ⟨T4, X4, e4, st4⟩ := getF X3 hx hZ hown (host := "") (Or.inl (hw _ (mw 14 rfl))) Via.refl e3 F_words_va (g := (mkF m 20 #[.val (.ref va), .val (.int (0 : Int32)), .unset, .unset, .unset, .unset] [(.ref va), (.int (3 : Int32))])) rfl rfl (hb hby d5_20)
  refine Goal.to (B := T4.setTop (mkF m 23 #[.val (.ref va), .val (.int (0 : Int32)), .unset, .unset, .unset, .unset] [(.int (1 : Int32)), (.int (3 : Int32))])) st4 ?_
  refine Goal.to (B := T4.setTop (mkF m 35 #[.val (.ref va), .val (.int (0 : Int32)), .unset, .unset, .unset, .unset] [(.ref va), (.ref va)])) (fun tt kk => ?_) ?_
  · show Steps p.tables e below (T4.setTop (mkF m 23 #[.val (.ref va), .val (.int (0 : Int32)), .unset, .unset, .unset, .unset] [(.int (1 : Int32)), (.int (3 : Int32))])) tt
    refine XS.bipush X4.here hx rfl (hb hby d5_23) ?_
    show Steps p.tables e below (T4.setTop (mkF m 25 #[.val (.ref va), .val (.int (0 : Int32)), .unset, .unset, .unset, .unset] [(.int (64 : Int32)), (.int (1 : Int32)), (.int (3 : Int32))])) tt
    refine XS.imul X4.here hx rfl (hb hby d5_25) rfl ?_
    show Steps p.tables e below (T4.setTop (mkF m 26 #[.val (.ref va), .val (.int (0 : Int32)), .unset, .unset, .unset, .unset] [(.int (64 : Int32)), (.int (3 : Int32))])) tt
    refine XS.icmpYes X4.here hx rfl (pc0 := 26) (pc' := 33) rfl (hb hby d5_26) rfl (feq ((by decide) : ¬ ((3 : Int32) = (64 : Int32)))).2 (by decide) (by decide) ?_
    show Steps p.tables e below (T4.setTop (mkF m 33 #[.val (.ref va), .val (.int (0 : Int32)), .unset, .unset, .unset, .unset] [])) tt
    refine XS.aloadN X4.here hx rfl (hb hby d5_33) rfl rfl ?_
    show Steps p.tables e below (T4.setTop (mkF m 34 #[.val (.ref va), .val (.int (0 : Int32)), .unset, .unset, .unset, .unset] [(.ref va)])) tt
    refine XS.dup X4.here hx rfl (hb hby d5_34) rfl rfl ?_
    exact kk
  obtain ⟨T5, X5, e5, st5⟩ := getF X4 hx hZ hown (host := "") (Or.inl (hw _ (mw 10 rfl))) Via.refl e4 F_count_va (g := (mkF m 35 #[.val (.ref va), .val (.int (0 : Int32)), .unset, .unset, .unset, .unset] [(.ref va), (.ref va)])) rfl rfl (hb hby d5_35)
  refine Goal.to (B := T5.setTop (mkF m 38 #[.val (.ref va), .val (.int (0 : Int32)), .unset, .unset, .unset, .unset] [(.int (3 : Int32)), (.ref va)])) st5 ?_
  refine Goal.to (B := T5.setTop (mkF m 41 #[.val (.ref va), .val (.int (0 : Int32)), .unset, .unset, .unset, .unset] [(.int (4 : Int32)), (.ref va), (.int (3 : Int32))])) (fun tt kk => ?_) ?_
  · show Steps p.tables e below (T5.setTop (mkF m 38 #[.val (.ref va), .val (.int (0 : Int32)), .unset, .unset, .unset, .unset] [(.int (3 : Int32)), (.ref va)])) tt
    refine XS.dupX1 X5.here hx rfl (hb hby d5_38) rfl rfl rfl ?_
    show Steps p.tables e below (T5.setTop (mkF m 39 #[.val (.ref va), .val (.int (0 : Int32)), .unset, .unset, .unset, .unset] [(.int (3 : Int32)), (.ref va), (.int (3 : Int32))])) tt
    refine XS.iconst X5.here hx rfl (hb hby d5_39) ?_
    show Steps p.tables e below (T5.setTop (mkF m 40 #[.val (.ref va), .val (.int (0 : Int32)), .unset, .unset, .unset, .unset] [(.int (1 : Int32)), (.int (3 : Int32)), (.ref va), (.int (3 : Int32))])) tt
    refine XS.iadd X5.here hx rfl (hb hby d5_40) rfl ?_
    exact kk
  obtain ⟨T6, h6, X6, e6, W6, st6⟩ := putF X5 hx hZ hown (host := "") (Or.inl (hw _ (mw 10 rfl))) Via.refl e5 F_count_va E_va (Or.inl (hw _ (mw 11 rfl))) (hw _ (mw 1 rfl)) (ty := .int) (by decide) rfl rfl (g := (mkF m 41 #[.val (.ref va), .val (.int (0 : Int32)), .unset, .unset, .unset, .unset] [(.int (4 : Int32)), (.ref va), (.int (3 : Int32))])) rfl rfl (hb hby d5_41)
  have Fw6 : Fld Z h6 va "com/example/deferra/deferra/engine/Identities" "count" "I" (.int (4 : Int32)) := F_count_va.same W6
  have N6 := Fr.snoc X6 N0 g_va
  refine Goal.to (B := T6.setTop (mkF m 44 #[.val (.ref va), .val (.int (0 : Int32)), .unset, .unset, .unset, .unset] [(.int (3 : Int32))])) st6 ?_
  refine Goal.to (B := T6.setTop (mkF m 46 #[.val (.ref va), .val (.int (0 : Int32)), .val (.int (3 : Int32)), .unset, .unset, .unset] [(.ref va)])) (fun tt kk => ?_) ?_
  · show Steps p.tables e below (T6.setTop (mkF m 44 #[.val (.ref va), .val (.int (0 : Int32)), .unset, .unset, .unset, .unset] [(.int (3 : Int32))])) tt
    refine XS.istoreN X6.here hx rfl (hb hby d5_44) rfl (l' := #[.val (.ref va), .val (.int (0 : Int32)), .val (.int (3 : Int32)), .unset, .unset, .unset]) rfl ?_
    show Steps p.tables e below (T6.setTop (mkF m 45 #[.val (.ref va), .val (.int (0 : Int32)), .val (.int (3 : Int32)), .unset, .unset, .unset] [])) tt
    refine XS.aloadN X6.here hx rfl (hb hby d5_45) rfl rfl ?_
    exact kk
  have f7 : Fld Z h6 va "com/example/deferra/deferra/engine/Identities" "ints" "[I" (.ref vi) := (F_ints_va.other W6 (Or.inr (slot_ne (Or.inl (hw _ (mw 25 rfl))) (Or.inl (hw _ (mw 11 rfl))) (by decide) (t := (.array .int)) (t' := .int) (by decide) (by decide))))
  obtain ⟨T8, X8, e8, st8⟩ := getF X6 hx hZ hown (host := "") (Or.inl (hw _ (mw 24 rfl))) Via.refl e6 f7 (g := (mkF m 46 #[.val (.ref va), .val (.int (0 : Int32)), .val (.int (3 : Int32)), .unset, .unset, .unset] [(.ref va)])) rfl rfl (hb hby d5_46)
  refine Goal.to (B := T8.setTop (mkF m 49 #[.val (.ref va), .val (.int (0 : Int32)), .val (.int (3 : Int32)), .unset, .unset, .unset] [(.ref vi)])) st8 ?_
  refine Goal.to (B := T8.setTop (mkF m 51 #[.val (.ref va), .val (.int (0 : Int32)), .val (.int (3 : Int32)), .unset, .unset, .unset] [(.int (3 : Int32)), (.int (3 : Int32)), (.ref vi)])) (fun tt kk => ?_) ?_
  · show Steps p.tables e below (T8.setTop (mkF m 49 #[.val (.ref va), .val (.int (0 : Int32)), .val (.int (3 : Int32)), .unset, .unset, .unset] [(.ref vi)])) tt
    refine XS.iloadN X8.here hx rfl (hb hby d5_49) rfl ?_
    show Steps p.tables e below (T8.setTop (mkF m 50 #[.val (.ref va), .val (.int (0 : Int32)), .val (.int (3 : Int32)), .unset, .unset, .unset] [(.int (3 : Int32)), (.ref vi)])) tt
    refine XS.iloadN X8.here hx rfl (hb hby d5_50) rfl ?_
    exact kk
  have f9 : Ary Z h6 vi .int [(.int (0 : Int32)), (.int (1 : Int32)), (.int (2 : Int32)), (.int (0 : Int32)), (.int (0 : Int32)), (.int (0 : Int32)), (.int (0 : Int32)), (.int (0 : Int32)), (.int (0 : Int32)), (.int (0 : Int32)), (.int (0 : Int32)), (.int (0 : Int32)), (.int (0 : Int32)), (.int (0 : Int32)), (.int (0 : Int32)), (.int (0 : Int32)), (.int (-1 : Int32)), (.int (-2 : Int32)), (.int (-2 : Int32)), (.int (0 : Int32)), (.int (0 : Int32)), (.int (0 : Int32)), (.int (0 : Int32)), (.int (0 : Int32)), (.int (0 : Int32)), (.int (0 : Int32)), (.int (0 : Int32)), (.int (0 : Int32)), (.int (0 : Int32)), (.int (0 : Int32)), (.int (0 : Int32)), (.int (0 : Int32)), (.int (-1 : Int32)), (.int (-1 : Int32)), (.int (-1 : Int32)), (.int (0 : Int32)), (.int (0 : Int32)), (.int (0 : Int32)), (.int (0 : Int32)), (.int (0 : Int32)), (.int (0 : Int32)), (.int (0 : Int32)), (.int (0 : Int32)), (.int (0 : Int32)), (.int (0 : Int32)), (.int (0 : Int32)), (.int (0 : Int32)), (.int (0 : Int32)), (.int (0 : Int32)), (.int (0 : Int32)), (.int (0 : Int32)), (.int (0 : Int32)), (.int (0 : Int32)), (.int (0 : Int32)), (.int (0 : Int32)), (.int (0 : Int32)), (.int (0 : Int32)), (.int (0 : Int32)), (.int (0 : Int32)), (.int (0 : Int32)), (.int (0 : Int32)), (.int (0 : Int32)), (.int (0 : Int32)), (.int (0 : Int32)), (.int (2 : Int32)), (.int (0 : Int32)), (.int (0 : Int32)), (.int (0 : Int32)), (.int (0 : Int32)), (.int (0 : Int32)), (.int (0 : Int32)), (.int (0 : Int32)), (.int (0 : Int32)), (.int (0 : Int32)), (.int (0 : Int32)), (.int (0 : Int32)), (.int (0 : Int32)), (.int (0 : Int32)), (.int (0 : Int32)), (.int (0 : Int32)), (.int (0 : Int32))] := (V_vi.other W6 (Ne.symm ne_va_vi))
  obtain ⟨cl10, Ar10, Sl10⟩ := id f9
  have hin10 := inA (cl := cl10) Sl10 (j := (3 : Int32)) (by decide) (Nat.le_of_ble_eq_true rfl)
  obtain ⟨T10, h10, X10, e10, W10, st10⟩ := stI X8 hx hZ e8 Ar10 (j := (3 : Int32)) hin10 (g := (mkF m 51 #[.val (.ref va), .val (.int (0 : Int32)), .val (.int (3 : Int32)), .unset, .unset, .unset] [(.int (3 : Int32)), (.int (3 : Int32)), (.ref vi)])) rfl rfl (hb hby d5_51)
  have V10 : Ary Z h10 vi .int [(.int (0 : Int32)), (.int (1 : Int32)), (.int (2 : Int32)), (.int (3 : Int32)), (.int (0 : Int32)), (.int (0 : Int32)), (.int (0 : Int32)), (.int (0 : Int32)), (.int (0 : Int32)), (.int (0 : Int32)), (.int (0 : Int32)), (.int (0 : Int32)), (.int (0 : Int32)), (.int (0 : Int32)), (.int (0 : Int32)), (.int (0 : Int32)), (.int (-1 : Int32)), (.int (-2 : Int32)), (.int (-2 : Int32)), (.int (0 : Int32)), (.int (0 : Int32)), (.int (0 : Int32)), (.int (0 : Int32)), (.int (0 : Int32)), (.int (0 : Int32)), (.int (0 : Int32)), (.int (0 : Int32)), (.int (0 : Int32)), (.int (0 : Int32)), (.int (0 : Int32)), (.int (0 : Int32)), (.int (0 : Int32)), (.int (-1 : Int32)), (.int (-1 : Int32)), (.int (-1 : Int32)), (.int (0 : Int32)), (.int (0 : Int32)), (.int (0 : Int32)), (.int (0 : Int32)), (.int (0 : Int32)), (.int (0 : Int32)), (.int (0 : Int32)), (.int (0 : Int32)), (.int (0 : Int32)), (.int (0 : Int32)), (.int (0 : Int32)), (.int (0 : Int32)), (.int (0 : Int32)), (.int (0 : Int32)), (.int (0 : Int32)), (.int (0 : Int32)), (.int (0 : Int32)), (.int (0 : Int32)), (.int (0 : Int32)), (.int (0 : Int32)), (.int (0 : Int32)), (.int (0 : Int32)), (.int (0 : Int32)), (.int (0 : Int32)), (.int (0 : Int32)), (.int (0 : Int32)), (.int (0 : Int32)), (.int (0 : Int32)), (.int (0 : Int32)), (.int (2 : Int32)), (.int (0 : Int32)), (.int (0 : Int32)), (.int (0 : Int32)), (.int (0 : Int32)), (.int (0 : Int32)), (.int (0 : Int32)), (.int (0 : Int32)), (.int (0 : Int32)), (.int (0 : Int32)), (.int (0 : Int32)), (.int (0 : Int32)), (.int (0 : Int32)), (.int (0 : Int32)), (.int (0 : Int32)), (.int (0 : Int32)), (.int (0 : Int32))] := Ary.put Ar10 Sl10 W10 rfl
  have N10 := Fr.snoc X10 N6 g_vi
  refine Goal.to (B := T10.setTop (mkF m 52 #[.val (.ref va), .val (.int (0 : Int32)), .val (.int (3 : Int32)), .unset, .unset, .unset] [])) st10 ?_
  refine Goal.to (B := T10.setTop (mkF m 53 #[.val (.ref va), .val (.int (0 : Int32)), .val (.int (3 : Int32)), .unset, .unset, .unset] [(.ref va)])) (fun tt kk => ?_) ?_
  · show Steps p.tables e below (T10.setTop (mkF m 52 #[.val (.ref va), .val (.int (0 : Int32)), .val (.int (3 : Int32)), .unset, .unset, .unset] [])) tt
    refine XS.aloadN X10.here hx rfl (hb hby d5_52) rfl rfl ?_
    exact kk
  have f11 : Fld Z h10 va "com/example/deferra/deferra/engine/Identities" "ints" "[I" (.ref vi) := (f7.other W10 (Or.inl ne_va_vi))
  obtain ⟨T12, X12, e12, st12⟩ := getF X10 hx hZ hown (host := "") (Or.inl (hw _ (mw 24 rfl))) Via.refl e10 f11 (g := (mkF m 53 #[.val (.ref va), .val (.int (0 : Int32)), .val (.int (3 : Int32)), .unset, .unset, .unset] [(.ref va)])) rfl rfl (hb hby d5_53)
  refine Goal.to (B := T12.setTop (mkF m 56 #[.val (.ref va), .val (.int (0 : Int32)), .val (.int (3 : Int32)), .unset, .unset, .unset] [(.ref vi)])) st12 ?_
  refine Goal.to (B := T12.setTop (mkF m 57 #[.val (.ref va), .val (.int (0 : Int32)), .val (.int (3 : Int32)), .unset, .unset, .unset] [(.ref va), (.ref vi)])) (fun tt kk => ?_) ?_
  · show Steps p.tables e below (T12.setTop (mkF m 56 #[.val (.ref va), .val (.int (0 : Int32)), .val (.int (3 : Int32)), .unset, .unset, .unset] [(.ref vi)])) tt
    refine XS.aloadN X12.here hx rfl (hb hby d5_56) rfl rfl ?_
    exact kk
  have f13 : Fld Z h10 va "com/example/deferra/deferra/engine/Identities" "numberAt" "I" (.int (16 : Int32)) := ((F_numberAt_va.other W6 (Or.inr (slot_ne (Or.inl (hw _ (mw 31 rfl))) (Or.inl (hw _ (mw 11 rfl))) (by decide) (t := .int) (t' := .int) (by decide) (by decide)))).other W10 (Or.inl ne_va_vi))
  obtain ⟨T14, X14, e14, st14⟩ := getF X12 hx hZ hown (host := "") (Or.inl (hw _ (mw 30 rfl))) Via.refl e12 f13 (g := (mkF m 57 #[.val (.ref va), .val (.int (0 : Int32)), .val (.int (3 : Int32)), .unset, .unset, .unset] [(.ref va), (.ref vi)])) rfl rfl (hb hby d5_57)
  refine Goal.to (B := T14.setTop (mkF m 60 #[.val (.ref va), .val (.int (0 : Int32)), .val (.int (3 : Int32)), .unset, .unset, .unset] [(.int (16 : Int32)), (.ref vi)])) st14 ?_
  refine Goal.to (B := T14.setTop (mkF m 64 #[.val (.ref va), .val (.int (0 : Int32)), .val (.int (3 : Int32)), .unset, .unset, .unset] [(.int (-2 : Int32)), (.int (19 : Int32)), (.ref vi)])) (fun tt kk => ?_) ?_
  · show Steps p.tables e below (T14.setTop (mkF m 60 #[.val (.ref va), .val (.int (0 : Int32)), .val (.int (3 : Int32)), .unset, .unset, .unset] [(.int (16 : Int32)), (.ref vi)])) tt
    refine XS.iloadN X14.here hx rfl (hb hby d5_60) rfl ?_
    show Steps p.tables e below (T14.setTop (mkF m 61 #[.val (.ref va), .val (.int (0 : Int32)), .val (.int (3 : Int32)), .unset, .unset, .unset] [(.int (3 : Int32)), (.int (16 : Int32)), (.ref vi)])) tt
    refine XS.iadd X14.here hx rfl (hb hby d5_61) rfl ?_
    show Steps p.tables e below (T14.setTop (mkF m 62 #[.val (.ref va), .val (.int (0 : Int32)), .val (.int (3 : Int32)), .unset, .unset, .unset] [(.int (19 : Int32)), (.ref vi)])) tt
    refine XS.bipush X14.here hx rfl (hb hby d5_62) ?_
    exact kk
  obtain ⟨cl15, Ar15, Sl15⟩ := id V10
  have hin15 := inA (cl := cl15) Sl15 (j := (19 : Int32)) (by decide) (Nat.le_of_ble_eq_true rfl)
  obtain ⟨T15, h15, X15, e15, W15, st15⟩ := stI X14 hx hZ e14 Ar15 (j := (19 : Int32)) hin15 (g := (mkF m 64 #[.val (.ref va), .val (.int (0 : Int32)), .val (.int (3 : Int32)), .unset, .unset, .unset] [(.int (-2 : Int32)), (.int (19 : Int32)), (.ref vi)])) rfl rfl (hb hby d5_64)
  have V15 : Ary Z h15 vi .int [(.int (0 : Int32)), (.int (1 : Int32)), (.int (2 : Int32)), (.int (3 : Int32)), (.int (0 : Int32)), (.int (0 : Int32)), (.int (0 : Int32)), (.int (0 : Int32)), (.int (0 : Int32)), (.int (0 : Int32)), (.int (0 : Int32)), (.int (0 : Int32)), (.int (0 : Int32)), (.int (0 : Int32)), (.int (0 : Int32)), (.int (0 : Int32)), (.int (-1 : Int32)), (.int (-2 : Int32)), (.int (-2 : Int32)), (.int (-2 : Int32)), (.int (0 : Int32)), (.int (0 : Int32)), (.int (0 : Int32)), (.int (0 : Int32)), (.int (0 : Int32)), (.int (0 : Int32)), (.int (0 : Int32)), (.int (0 : Int32)), (.int (0 : Int32)), (.int (0 : Int32)), (.int (0 : Int32)), (.int (0 : Int32)), (.int (-1 : Int32)), (.int (-1 : Int32)), (.int (-1 : Int32)), (.int (0 : Int32)), (.int (0 : Int32)), (.int (0 : Int32)), (.int (0 : Int32)), (.int (0 : Int32)), (.int (0 : Int32)), (.int (0 : Int32)), (.int (0 : Int32)), (.int (0 : Int32)), (.int (0 : Int32)), (.int (0 : Int32)), (.int (0 : Int32)), (.int (0 : Int32)), (.int (0 : Int32)), (.int (0 : Int32)), (.int (0 : Int32)), (.int (0 : Int32)), (.int (0 : Int32)), (.int (0 : Int32)), (.int (0 : Int32)), (.int (0 : Int32)), (.int (0 : Int32)), (.int (0 : Int32)), (.int (0 : Int32)), (.int (0 : Int32)), (.int (0 : Int32)), (.int (0 : Int32)), (.int (0 : Int32)), (.int (0 : Int32)), (.int (2 : Int32)), (.int (0 : Int32)), (.int (0 : Int32)), (.int (0 : Int32)), (.int (0 : Int32)), (.int (0 : Int32)), (.int (0 : Int32)), (.int (0 : Int32)), (.int (0 : Int32)), (.int (0 : Int32)), (.int (0 : Int32)), (.int (0 : Int32)), (.int (0 : Int32)), (.int (0 : Int32)), (.int (0 : Int32)), (.int (0 : Int32)), (.int (0 : Int32))] := Ary.put Ar15 Sl15 W15 rfl
  have N15 := Fr.snoc X15 N10 g_vi
  refine Goal.to (B := T15.setTop (mkF m 65 #[.val (.ref va), .val (.int (0 : Int32)), .val (.int (3 : Int32)), .unset, .unset, .unset] [])) st15 ?_
  refine Goal.to (B := T15.setTop (mkF m 143 #[.val (.ref va), .val (.int (0 : Int32)), .val (.int (3 : Int32)), .unset, .unset, .unset] [(.ref va)])) (fun tt kk => ?_) ?_
  · show Steps p.tables e below (T15.setTop (mkF m 65 #[.val (.ref va), .val (.int (0 : Int32)), .val (.int (3 : Int32)), .unset, .unset, .unset] [])) tt
    refine XS.iloadN X15.here hx rfl (hb hby d5_65) rfl ?_
    show Steps p.tables e below (T15.setTop (mkF m 66 #[.val (.ref va), .val (.int (0 : Int32)), .val (.int (3 : Int32)), .unset, .unset, .unset] [(.int (0 : Int32))])) tt
    refine XS.ifYes X15.here hx rfl (pc0 := 66) (pc' := 142) rfl (hb hby d5_66) rfl ((if0 _ _).trans (teq (rfl : (0 : Int32) = (0 : Int32))).1) (by decide) (by decide) ?_
    show Steps p.tables e below (T15.setTop (mkF m 142 #[.val (.ref va), .val (.int (0 : Int32)), .val (.int (3 : Int32)), .unset, .unset, .unset] [])) tt
    refine XS.aloadN X15.here hx rfl (hb hby d5_142) rfl rfl ?_
    exact kk
  have f16 : Fld Z h15 va "com/example/deferra/deferra/engine/Identities" "nullAllowed" "Z" (.int (1 : Int32)) := (((F_nullAllowed_va.other W6 (Or.inr (slot_ne (Or.inr (hw _ (mw 19 rfl))) (Or.inl (hw _ (mw 11 rfl))) (by decide) (t := .boolean) (t' := .int) (by decide) (by decide)))).other W10 (Or.inl ne_va_vi)).other W15 (Or.inl ne_va_vi))
  obtain ⟨T17, X17, e17, st17⟩ := getF X15 hx hZ hown (host := "") (Or.inl (hw _ (mw 18 rfl))) Via.refl e15 f16 (g := (mkF m 143 #[.val (.ref va), .val (.int (0 : Int32)), .val (.int (3 : Int32)), .unset, .unset, .unset] [(.ref va)])) rfl rfl (hb hby d5_143)
  refine Goal.to (B := T17.setTop (mkF m 146 #[.val (.ref va), .val (.int (0 : Int32)), .val (.int (3 : Int32)), .unset, .unset, .unset] [(.int (1 : Int32))])) st17 ?_
  refine Goal.to (B := T17.setTop (mkF m 163 #[.val (.ref va), .val (.int (0 : Int32)), .val (.int (3 : Int32)), .val (.int (-1 : Int32)), .unset, .unset] [(.ref va)])) (fun tt kk => ?_) ?_
  · show Steps p.tables e below (T17.setTop (mkF m 146 #[.val (.ref va), .val (.int (0 : Int32)), .val (.int (3 : Int32)), .unset, .unset, .unset] [(.int (1 : Int32))])) tt
    refine XS.ifNo X17.here hx rfl (hb hby d5_146) rfl ((if0 _ _).trans (feq ((by decide) : ¬ ((1 : Int32) = (0 : Int32)))).1) ?_
    show Steps p.tables e below (T17.setTop (mkF m 149 #[.val (.ref va), .val (.int (0 : Int32)), .val (.int (3 : Int32)), .unset, .unset, .unset] [])) tt
    refine XS.iconst X17.here hx rfl (hb hby d5_149) ?_
    show Steps p.tables e below (T17.setTop (mkF m 150 #[.val (.ref va), .val (.int (0 : Int32)), .val (.int (3 : Int32)), .unset, .unset, .unset] [(.int (-1 : Int32))])) tt
    refine XS.istoreN X17.here hx rfl (hb hby d5_150) rfl (l' := #[.val (.ref va), .val (.int (0 : Int32)), .val (.int (3 : Int32)), .val (.int (-1 : Int32)), .unset, .unset]) rfl ?_
    show Steps p.tables e below (T17.setTop (mkF m 151 #[.val (.ref va), .val (.int (0 : Int32)), .val (.int (3 : Int32)), .val (.int (-1 : Int32)), .unset, .unset] [])) tt
    refine XS.goto X17.here hx rfl (pc0 := 151) (pc' := 162) rfl (hb hby d5_151) (by decide) (by decide) ?_
    show Steps p.tables e below (T17.setTop (mkF m 162 #[.val (.ref va), .val (.int (0 : Int32)), .val (.int (3 : Int32)), .val (.int (-1 : Int32)), .unset, .unset] [])) tt
    refine XS.aloadN X17.here hx rfl (hb hby d5_162) rfl rfl ?_
    exact kk
  have f18 : Fld Z h15 va "com/example/deferra/deferra/engine/Identities" "rows" "[J" (.ref vr) := (((F_rows_va.other W6 (Or.inr (slot_ne (Or.inl (hw _ (mw 40 rfl))) (Or.inl (hw _ (mw 11 rfl))) (by decide) (t := (.array .long)) (t' := .int) (by decide) (by decide)))).other W10 (Or.inl ne_va_vi)).other W15 (Or.inl ne_va_vi))
  obtain ⟨T19, X19, e19, st19⟩ := getF X17 hx hZ hown (host := "") (Or.inl (hw _ (mw 39 rfl))) Via.refl e17 f18 (g := (mkF m 163 #[.val (.ref va), .val (.int (0 : Int32)), .val (.int (3 : Int32)), .val (.int (-1 : Int32)), .unset, .unset] [(.ref va)])) rfl rfl (hb hby d5_163)
  refine Goal.to (B := T19.setTop (mkF m 166 #[.val (.ref va), .val (.int (0 : Int32)), .val (.int (3 : Int32)), .val (.int (-1 : Int32)), .unset, .unset] [(.ref vr)])) st19 ?_
  refine Goal.to (B := T19.setTop (mkF m 168 #[.val (.ref va), .val (.int (0 : Int32)), .val (.int (3 : Int32)), .val (.int (-1 : Int32)), .unset, .unset] [(.ref va), (.int (0 : Int32)), (.ref vr)])) (fun tt kk => ?_) ?_
  · show Steps p.tables e below (T19.setTop (mkF m 166 #[.val (.ref va), .val (.int (0 : Int32)), .val (.int (3 : Int32)), .val (.int (-1 : Int32)), .unset, .unset] [(.ref vr)])) tt
    refine XS.iconst X19.here hx rfl (hb hby d5_166) ?_
    show Steps p.tables e below (T19.setTop (mkF m 167 #[.val (.ref va), .val (.int (0 : Int32)), .val (.int (3 : Int32)), .val (.int (-1 : Int32)), .unset, .unset] [(.int (0 : Int32)), (.ref vr)])) tt
    refine XS.aloadN X19.here hx rfl (hb hby d5_167) rfl rfl ?_
    exact kk
  have f20 : Fld Z h15 va "com/example/deferra/deferra/engine/Identities" "words" "I" (.int (1 : Int32)) := (((F_words_va.other W6 (Or.inr (slot_ne (Or.inl (hw _ (mw 15 rfl))) (Or.inl (hw _ (mw 11 rfl))) (by decide) (t := .int) (t' := .int) (by decide) (by decide)))).other W10 (Or.inl ne_va_vi)).other W15 (Or.inl ne_va_vi))
  obtain ⟨T21, X21, e21, st21⟩ := getF X19 hx hZ hown (host := "") (Or.inl (hw _ (mw 14 rfl))) Via.refl e19 f20 (g := (mkF m 168 #[.val (.ref va), .val (.int (0 : Int32)), .val (.int (3 : Int32)), .val (.int (-1 : Int32)), .unset, .unset] [(.ref va), (.int (0 : Int32)), (.ref vr)])) rfl rfl (hb hby d5_168)
  refine Goal.to (B := T21.setTop (mkF m 171 #[.val (.ref va), .val (.int (0 : Int32)), .val (.int (3 : Int32)), .val (.int (-1 : Int32)), .unset, .unset] [(.int (1 : Int32)), (.int (0 : Int32)), (.ref vr)])) st21 ?_
  refine Goal.to (B := T21.setTop (mkF m 178 #[.val (.ref va), .val (.int (0 : Int32)), .val (.int (3 : Int32)), .val (.int (-1 : Int32)), .unset, .unset] [(.int (0 : Int32)), (.ref vr), (.int (0 : Int32)), (.ref vr)])) (fun tt kk => ?_) ?_
  · show Steps p.tables e below (T21.setTop (mkF m 171 #[.val (.ref va), .val (.int (0 : Int32)), .val (.int (3 : Int32)), .val (.int (-1 : Int32)), .unset, .unset] [(.int (1 : Int32)), (.int (0 : Int32)), (.ref vr)])) tt
    refine XS.imul X21.here hx rfl (hb hby d5_171) rfl ?_
    show Steps p.tables e below (T21.setTop (mkF m 172 #[.val (.ref va), .val (.int (0 : Int32)), .val (.int (3 : Int32)), .val (.int (-1 : Int32)), .unset, .unset] [(.int (0 : Int32)), (.ref vr)])) tt
    refine XS.iloadN X21.here hx rfl (hb hby d5_172) rfl ?_
    show Steps p.tables e below (T21.setTop (mkF m 173 #[.val (.ref va), .val (.int (0 : Int32)), .val (.int (3 : Int32)), .val (.int (-1 : Int32)), .unset, .unset] [(.int (3 : Int32)), (.int (0 : Int32)), (.ref vr)])) tt
    refine XS.bipush X21.here hx rfl (hb hby d5_173) ?_
    show Steps p.tables e below (T21.setTop (mkF m 175 #[.val (.ref va), .val (.int (0 : Int32)), .val (.int (3 : Int32)), .val (.int (-1 : Int32)), .unset, .unset] [(.int (6 : Int32)), (.int (3 : Int32)), (.int (0 : Int32)), (.ref vr)])) tt
    refine XS.iushr X21.here hx rfl (hb hby d5_175) rfl ?_
    show Steps p.tables e below (T21.setTop (mkF m 176 #[.val (.ref va), .val (.int (0 : Int32)), .val (.int (3 : Int32)), .val (.int (-1 : Int32)), .unset, .unset] [(.int (0 : Int32)), (.int (0 : Int32)), (.ref vr)])) tt
    refine XS.iadd X21.here hx rfl (hb hby d5_176) rfl ?_
    show Steps p.tables e below (T21.setTop (mkF m 177 #[.val (.ref va), .val (.int (0 : Int32)), .val (.int (3 : Int32)), .val (.int (-1 : Int32)), .unset, .unset] [(.int (0 : Int32)), (.ref vr)])) tt
    refine Jvm.Free.XT.dup2 X21.here hx rfl (hb hby d5_177) rfl rfl rfl ?_
    exact kk
  have f22 : Ary Z h15 vr .long [(.long (6 : Int64)), (.long (0 : Int64)), (.long (0 : Int64)), (.long (0 : Int64)), (.long (0 : Int64)), (.long (0 : Int64)), (.long (0 : Int64)), (.long (0 : Int64)), (.long (0 : Int64)), (.long (0 : Int64)), (.long (0 : Int64)), (.long (0 : Int64)), (.long (0 : Int64)), (.long (0 : Int64)), (.long (0 : Int64)), (.long (0 : Int64)), (.long (0 : Int64)), (.long (0 : Int64))] := (((V_vr.other W6 (Ne.symm ne_va_vr)).other W10 (Ne.symm ne_vi_vr)).other W15 (Ne.symm ne_vi_vr))
  obtain ⟨cl23, Ar23, Sl23⟩ := id f22
  have hin23 := inA (cl := cl23) Sl23 (j := (0 : Int32)) (by decide) (Nat.le_of_ble_eq_true rfl)
  have hat23 : cl23.slots[((0 : Int32)).toNatClampNeg]? = some (.long (6 : Int64)) := atA Sl23 rfl
  refine Goal.to (B := T21.setTop (mkF m 183 #[.val (.ref va), .val (.int (0 : Int32)), .val (.int (3 : Int32)), .val (.int (-1 : Int32)), .unset, .unset] [(.long (14 : Int64)), (.int (0 : Int32)), (.ref vr)])) (fun tt kk => ?_) ?_
  · show Steps p.tables e below (T21.setTop (mkF m 178 #[.val (.ref va), .val (.int (0 : Int32)), .val (.int (3 : Int32)), .val (.int (-1 : Int32)), .unset, .unset] [(.int (0 : Int32)), (.ref vr), (.int (0 : Int32)), (.ref vr)])) tt
    refine X21.laload hx (j := (0 : Int32)) (v := (.long (6 : Int64))) (by rw [e21]; exact Ar23.1) (State.isArrayOf_alike hZ.alike Ar23.2.1) Ar23.2.2 hin23 hat23 (g := (mkF m 178 #[.val (.ref va), .val (.int (0 : Int32)), .val (.int (3 : Int32)), .val (.int (-1 : Int32)), .unset, .unset] [(.int (0 : Int32)), (.ref vr), (.int (0 : Int32)), (.ref vr)])) rfl rfl (hb hby d5_178) _ ?_
    show Steps p.tables e below (T21.setTop (mkF m 179 #[.val (.ref va), .val (.int (0 : Int32)), .val (.int (3 : Int32)), .val (.int (-1 : Int32)), .unset, .unset] [(.long (6 : Int64)), (.int (0 : Int32)), (.ref vr)])) tt
    refine XS.lconst X21.here hx rfl (hb hby d5_179) ?_
    show Steps p.tables e below (T21.setTop (mkF m 180 #[.val (.ref va), .val (.int (0 : Int32)), .val (.int (3 : Int32)), .val (.int (-1 : Int32)), .unset, .unset] [(.long (1 : Int64)), (.long (6 : Int64)), (.int (0 : Int32)), (.ref vr)])) tt
    refine XS.iloadN X21.here hx rfl (hb hby d5_180) rfl ?_
    show Steps p.tables e below (T21.setTop (mkF m 181 #[.val (.ref va), .val (.int (0 : Int32)), .val (.int (3 : Int32)), .val (.int (-1 : Int32)), .unset, .unset] [(.int (3 : Int32)), (.long (1 : Int64)), (.long (6 : Int64)), (.int (0 : Int32)), (.ref vr)])) tt
    refine XS.lshl X21.here hx rfl (hb hby d5_181) rfl ?_
    show Steps p.tables e below (T21.setTop (mkF m 182 #[.val (.ref va), .val (.int (0 : Int32)), .val (.int (3 : Int32)), .val (.int (-1 : Int32)), .unset, .unset] [(.long (8 : Int64)), (.long (6 : Int64)), (.int (0 : Int32)), (.ref vr)])) tt
    refine XS.lor X21.here hx rfl (hb hby d5_182) rfl ?_
    exact kk
  obtain ⟨cl24, Ar24, Sl24⟩ := id f22
  have hin24 := inA (cl := cl24) Sl24 (j := (0 : Int32)) (by decide) (Nat.le_of_ble_eq_true rfl)
  obtain ⟨T24, h24, X24, e24, W24, st24⟩ := stJ X21 hx hZ e21 Ar24 (j := (0 : Int32)) hin24 (g := (mkF m 183 #[.val (.ref va), .val (.int (0 : Int32)), .val (.int (3 : Int32)), .val (.int (-1 : Int32)), .unset, .unset] [(.long (14 : Int64)), (.int (0 : Int32)), (.ref vr)])) rfl rfl (hb hby d5_183)
  have V24 : Ary Z h24 vr .long [(.long (14 : Int64)), (.long (0 : Int64)), (.long (0 : Int64)), (.long (0 : Int64)), (.long (0 : Int64)), (.long (0 : Int64)), (.long (0 : Int64)), (.long (0 : Int64)), (.long (0 : Int64)), (.long (0 : Int64)), (.long (0 : Int64)), (.long (0 : Int64)), (.long (0 : Int64)), (.long (0 : Int64)), (.long (0 : Int64)), (.long (0 : Int64)), (.long (0 : Int64)), (.long (0 : Int64))] := Ary.put Ar24 Sl24 W24 rfl
  have N24 := Fr.snoc X24 N15 g_vr
  refine Goal.to (B := T24.setTop (mkF m 184 #[.val (.ref va), .val (.int (0 : Int32)), .val (.int (3 : Int32)), .val (.int (-1 : Int32)), .unset, .unset] [])) st24 ?_
  refine Goal.to (B := T24.setTop (mkF m 186 #[.val (.ref va), .val (.int (0 : Int32)), .val (.int (3 : Int32)), .val (.int (-1 : Int32)), .unset, .unset] [(.ref va), (.ref va)])) (fun tt kk => ?_) ?_
  · show Steps p.tables e below (T24.setTop (mkF m 184 #[.val (.ref va), .val (.int (0 : Int32)), .val (.int (3 : Int32)), .val (.int (-1 : Int32)), .unset, .unset] [])) tt
    refine XS.aloadN X24.here hx rfl (hb hby d5_184) rfl rfl ?_
    show Steps p.tables e below (T24.setTop (mkF m 185 #[.val (.ref va), .val (.int (0 : Int32)), .val (.int (3 : Int32)), .val (.int (-1 : Int32)), .unset, .unset] [(.ref va)])) tt
    refine XS.dup X24.here hx rfl (hb hby d5_185) rfl rfl ?_
    exact kk
  have f25 : Fld Z h24 va "com/example/deferra/deferra/engine/Identities" "openCount" "I" (.int (2 : Int32)) := ((((F_openCount_va.other W6 (Or.inr (slot_ne (Or.inl (hw _ (mw 47 rfl))) (Or.inl (hw _ (mw 11 rfl))) (by decide) (t := .int) (t' := .int) (by decide) (by decide)))).other W10 (Or.inl ne_va_vi)).other W15 (Or.inl ne_va_vi)).other W24 (Or.inl ne_va_vr))
  obtain ⟨T26, X26, e26, st26⟩ := getF X24 hx hZ hown (host := "") (Or.inl (hw _ (mw 46 rfl))) Via.refl e24 f25 (g := (mkF m 186 #[.val (.ref va), .val (.int (0 : Int32)), .val (.int (3 : Int32)), .val (.int (-1 : Int32)), .unset, .unset] [(.ref va), (.ref va)])) rfl rfl (hb hby d5_186)
  refine Goal.to (B := T26.setTop (mkF m 189 #[.val (.ref va), .val (.int (0 : Int32)), .val (.int (3 : Int32)), .val (.int (-1 : Int32)), .unset, .unset] [(.int (2 : Int32)), (.ref va)])) st26 ?_
  refine Goal.to (B := T26.setTop (mkF m 191 #[.val (.ref va), .val (.int (0 : Int32)), .val (.int (3 : Int32)), .val (.int (-1 : Int32)), .unset, .unset] [(.int (3 : Int32)), (.ref va)])) (fun tt kk => ?_) ?_
  · show Steps p.tables e below (T26.setTop (mkF m 189 #[.val (.ref va), .val (.int (0 : Int32)), .val (.int (3 : Int32)), .val (.int (-1 : Int32)), .unset, .unset] [(.int (2 : Int32)), (.ref va)])) tt
    refine XS.iconst X26.here hx rfl (hb hby d5_189) ?_
    show Steps p.tables e below (T26.setTop (mkF m 190 #[.val (.ref va), .val (.int (0 : Int32)), .val (.int (3 : Int32)), .val (.int (-1 : Int32)), .unset, .unset] [(.int (1 : Int32)), (.int (2 : Int32)), (.ref va)])) tt
    refine XS.iadd X26.here hx rfl (hb hby d5_190) rfl ?_
    exact kk
  have f27 : Exa Z h24 va "com/example/deferra/deferra/engine/Identities" := ((((E_va.wr W6).wr W10).wr W15).wr W24)
  obtain ⟨T28, h28, X28, e28, W28, st28⟩ := putF X26 hx hZ hown (host := "") (Or.inl (hw _ (mw 46 rfl))) Via.refl e26 f25 f27 (Or.inl (hw _ (mw 47 rfl))) (hw _ (mw 1 rfl)) (ty := .int) (by decide) rfl rfl (g := (mkF m 191 #[.val (.ref va), .val (.int (0 : Int32)), .val (.int (3 : Int32)), .val (.int (-1 : Int32)), .unset, .unset] [(.int (3 : Int32)), (.ref va)])) rfl rfl (hb hby d5_191)
  have Fw28 : Fld Z h28 va "com/example/deferra/deferra/engine/Identities" "openCount" "I" (.int (3 : Int32)) := f25.same W28
  have N28 := Fr.snoc X28 N24 g_va
  refine Goal.to (B := T28.setTop (mkF m 194 #[.val (.ref va), .val (.int (0 : Int32)), .val (.int (3 : Int32)), .val (.int (-1 : Int32)), .unset, .unset] [])) st28 ?_
  refine Goal.to (B := T28.setTop (mkF m 195 #[.val (.ref va), .val (.int (0 : Int32)), .val (.int (3 : Int32)), .val (.int (-1 : Int32)), .unset, .unset] [(.ref va)])) (fun tt kk => ?_) ?_
  · show Steps p.tables e below (T28.setTop (mkF m 194 #[.val (.ref va), .val (.int (0 : Int32)), .val (.int (3 : Int32)), .val (.int (-1 : Int32)), .unset, .unset] [])) tt
    refine XS.aloadN X28.here hx rfl (hb hby d5_194) rfl rfl ?_
    exact kk
  have f29 : Fld Z h28 va "com/example/deferra/deferra/engine/Identities" "ints" "[I" (.ref vi) := (((f11.other W15 (Or.inl ne_va_vi)).other W24 (Or.inl ne_va_vr)).other W28 (Or.inr (slot_ne (Or.inl (hw _ (mw 25 rfl))) (Or.inl (hw _ (mw 47 rfl))) (by decide) (t := (.array .int)) (t' := .int) (by decide) (by decide))))
  obtain ⟨T30, X30, e30, st30⟩ := getF X28 hx hZ hown (host := "") (Or.inl (hw _ (mw 24 rfl))) Via.refl e28 f29 (g := (mkF m 195 #[.val (.ref va), .val (.int (0 : Int32)), .val (.int (3 : Int32)), .val (.int (-1 : Int32)), .unset, .unset] [(.ref va)])) rfl rfl (hb hby d5_195)
  refine Goal.to (B := T30.setTop (mkF m 198 #[.val (.ref va), .val (.int (0 : Int32)), .val (.int (3 : Int32)), .val (.int (-1 : Int32)), .unset, .unset] [(.ref vi)])) st30 ?_
  refine Goal.to (B := T30.setTop (mkF m 199 #[.val (.ref va), .val (.int (0 : Int32)), .val (.int (3 : Int32)), .val (.int (-1 : Int32)), .unset, .unset] [(.ref va), (.ref vi)])) (fun tt kk => ?_) ?_
  · show Steps p.tables e below (T30.setTop (mkF m 198 #[.val (.ref va), .val (.int (0 : Int32)), .val (.int (3 : Int32)), .val (.int (-1 : Int32)), .unset, .unset] [(.ref vi)])) tt
    refine XS.aloadN X30.here hx rfl (hb hby d5_198) rfl rfl ?_
    exact kk
  have f31 : Fld Z h28 va "com/example/deferra/deferra/engine/Identities" "colourAt" "I" (.int (32 : Int32)) := (((((F_colourAt_va.other W6 (Or.inr (slot_ne (Or.inl (hw _ (mw 33 rfl))) (Or.inl (hw _ (mw 11 rfl))) (by decide) (t := .int) (t' := .int) (by decide) (by decide)))).other W10 (Or.inl ne_va_vi)).other W15 (Or.inl ne_va_vi)).other W24 (Or.inl ne_va_vr)).other W28 (Or.inr (slot_ne (Or.inl (hw _ (mw 33 rfl))) (Or.inl (hw _ (mw 47 rfl))) (by decide) (t := .int) (t' := .int) (by decide) (by decide))))
  obtain ⟨T32, X32, e32, st32⟩ := getF X30 hx hZ hown (host := "") (Or.inl (hw _ (mw 32 rfl))) Via.refl e30 f31 (g := (mkF m 199 #[.val (.ref va), .val (.int (0 : Int32)), .val (.int (3 : Int32)), .val (.int (-1 : Int32)), .unset, .unset] [(.ref va), (.ref vi)])) rfl rfl (hb hby d5_199)
  refine Goal.to (B := T32.setTop (mkF m 202 #[.val (.ref va), .val (.int (0 : Int32)), .val (.int (3 : Int32)), .val (.int (-1 : Int32)), .unset, .unset] [(.int (32 : Int32)), (.ref vi)])) st32 ?_
  refine Goal.to (B := T32.setTop (mkF m 205 #[.val (.ref va), .val (.int (0 : Int32)), .val (.int (3 : Int32)), .val (.int (-1 : Int32)), .unset, .unset] [(.int (-1 : Int32)), (.int (35 : Int32)), (.ref vi)])) (fun tt kk => ?_) ?_
  · show Steps p.tables e below (T32.setTop (mkF m 202 #[.val (.ref va), .val (.int (0 : Int32)), .val (.int (3 : Int32)), .val (.int (-1 : Int32)), .unset, .unset] [(.int (32 : Int32)), (.ref vi)])) tt
    refine XS.iloadN X32.here hx rfl (hb hby d5_202) rfl ?_
    show Steps p.tables e below (T32.setTop (mkF m 203 #[.val (.ref va), .val (.int (0 : Int32)), .val (.int (3 : Int32)), .val (.int (-1 : Int32)), .unset, .unset] [(.int (3 : Int32)), (.int (32 : Int32)), (.ref vi)])) tt
    refine XS.iadd X32.here hx rfl (hb hby d5_203) rfl ?_
    show Steps p.tables e below (T32.setTop (mkF m 204 #[.val (.ref va), .val (.int (0 : Int32)), .val (.int (3 : Int32)), .val (.int (-1 : Int32)), .unset, .unset] [(.int (35 : Int32)), (.ref vi)])) tt
    refine XS.iloadN X32.here hx rfl (hb hby d5_204) rfl ?_
    exact kk
  have f33 : Ary Z h28 vi .int [(.int (0 : Int32)), (.int (1 : Int32)), (.int (2 : Int32)), (.int (3 : Int32)), (.int (0 : Int32)), (.int (0 : Int32)), (.int (0 : Int32)), (.int (0 : Int32)), (.int (0 : Int32)), (.int (0 : Int32)), (.int (0 : Int32)), (.int (0 : Int32)), (.int (0 : Int32)), (.int (0 : Int32)), (.int (0 : Int32)), (.int (0 : Int32)), (.int (-1 : Int32)), (.int (-2 : Int32)), (.int (-2 : Int32)), (.int (-2 : Int32)), (.int (0 : Int32)), (.int (0 : Int32)), (.int (0 : Int32)), (.int (0 : Int32)), (.int (0 : Int32)), (.int (0 : Int32)), (.int (0 : Int32)), (.int (0 : Int32)), (.int (0 : Int32)), (.int (0 : Int32)), (.int (0 : Int32)), (.int (0 : Int32)), (.int (-1 : Int32)), (.int (-1 : Int32)), (.int (-1 : Int32)), (.int (0 : Int32)), (.int (0 : Int32)), (.int (0 : Int32)), (.int (0 : Int32)), (.int (0 : Int32)), (.int (0 : Int32)), (.int (0 : Int32)), (.int (0 : Int32)), (.int (0 : Int32)), (.int (0 : Int32)), (.int (0 : Int32)), (.int (0 : Int32)), (.int (0 : Int32)), (.int (0 : Int32)), (.int (0 : Int32)), (.int (0 : Int32)), (.int (0 : Int32)), (.int (0 : Int32)), (.int (0 : Int32)), (.int (0 : Int32)), (.int (0 : Int32)), (.int (0 : Int32)), (.int (0 : Int32)), (.int (0 : Int32)), (.int (0 : Int32)), (.int (0 : Int32)), (.int (0 : Int32)), (.int (0 : Int32)), (.int (0 : Int32)), (.int (2 : Int32)), (.int (0 : Int32)), (.int (0 : Int32)), (.int (0 : Int32)), (.int (0 : Int32)), (.int (0 : Int32)), (.int (0 : Int32)), (.int (0 : Int32)), (.int (0 : Int32)), (.int (0 : Int32)), (.int (0 : Int32)), (.int (0 : Int32)), (.int (0 : Int32)), (.int (0 : Int32)), (.int (0 : Int32)), (.int (0 : Int32)), (.int (0 : Int32))] := ((V15.other W24 ne_vi_vr).other W28 (Ne.symm ne_va_vi))
  obtain ⟨cl34, Ar34, Sl34⟩ := id f33
  have hin34 := inA (cl := cl34) Sl34 (j := (35 : Int32)) (by decide) (Nat.le_of_ble_eq_true rfl)
  obtain ⟨T34, h34, X34, e34, W34, st34⟩ := stI X32 hx hZ e32 Ar34 (j := (35 : Int32)) hin34 (g := (mkF m 205 #[.val (.ref va), .val (.int (0 : Int32)), .val (.int (3 : Int32)), .val (.int (-1 : Int32)), .unset, .unset] [(.int (-1 : Int32)), (.int (35 : Int32)), (.ref vi)])) rfl rfl (hb hby d5_205)
  have V34 : Ary Z h34 vi .int [(.int (0 : Int32)), (.int (1 : Int32)), (.int (2 : Int32)), (.int (3 : Int32)), (.int (0 : Int32)), (.int (0 : Int32)), (.int (0 : Int32)), (.int (0 : Int32)), (.int (0 : Int32)), (.int (0 : Int32)), (.int (0 : Int32)), (.int (0 : Int32)), (.int (0 : Int32)), (.int (0 : Int32)), (.int (0 : Int32)), (.int (0 : Int32)), (.int (-1 : Int32)), (.int (-2 : Int32)), (.int (-2 : Int32)), (.int (-2 : Int32)), (.int (0 : Int32)), (.int (0 : Int32)), (.int (0 : Int32)), (.int (0 : Int32)), (.int (0 : Int32)), (.int (0 : Int32)), (.int (0 : Int32)), (.int (0 : Int32)), (.int (0 : Int32)), (.int (0 : Int32)), (.int (0 : Int32)), (.int (0 : Int32)), (.int (-1 : Int32)), (.int (-1 : Int32)), (.int (-1 : Int32)), (.int (-1 : Int32)), (.int (0 : Int32)), (.int (0 : Int32)), (.int (0 : Int32)), (.int (0 : Int32)), (.int (0 : Int32)), (.int (0 : Int32)), (.int (0 : Int32)), (.int (0 : Int32)), (.int (0 : Int32)), (.int (0 : Int32)), (.int (0 : Int32)), (.int (0 : Int32)), (.int (0 : Int32)), (.int (0 : Int32)), (.int (0 : Int32)), (.int (0 : Int32)), (.int (0 : Int32)), (.int (0 : Int32)), (.int (0 : Int32)), (.int (0 : Int32)), (.int (0 : Int32)), (.int (0 : Int32)), (.int (0 : Int32)), (.int (0 : Int32)), (.int (0 : Int32)), (.int (0 : Int32)), (.int (0 : Int32)), (.int (0 : Int32)), (.int (2 : Int32)), (.int (0 : Int32)), (.int (0 : Int32)), (.int (0 : Int32)), (.int (0 : Int32)), (.int (0 : Int32)), (.int (0 : Int32)), (.int (0 : Int32)), (.int (0 : Int32)), (.int (0 : Int32)), (.int (0 : Int32)), (.int (0 : Int32)), (.int (0 : Int32)), (.int (0 : Int32)), (.int (0 : Int32)), (.int (0 : Int32)), (.int (0 : Int32))] := Ary.put Ar34 Sl34 W34 rfl
  have N34 := Fr.snoc X34 N28 g_vi
  refine Goal.to (B := T34.setTop (mkF m 206 #[.val (.ref va), .val (.int (0 : Int32)), .val (.int (3 : Int32)), .val (.int (-1 : Int32)), .unset, .unset] [])) st34 ?_
  refine Goal.to (B := T34.setTop (mkF m 207 #[.val (.ref va), .val (.int (0 : Int32)), .val (.int (3 : Int32)), .val (.int (-1 : Int32)), .unset, .unset] [(.ref va)])) (fun tt kk => ?_) ?_
  · show Steps p.tables e below (T34.setTop (mkF m 206 #[.val (.ref va), .val (.int (0 : Int32)), .val (.int (3 : Int32)), .val (.int (-1 : Int32)), .unset, .unset] [])) tt
    refine XS.aloadN X34.here hx rfl (hb hby d5_206) rfl rfl ?_
    exact kk
  have f35 : Fld Z h34 va "com/example/deferra/deferra/engine/Identities" "ints" "[I" (.ref vi) := (f29.other W34 (Or.inl ne_va_vi))
  obtain ⟨T36, X36, e36, st36⟩ := getF X34 hx hZ hown (host := "") (Or.inl (hw _ (mw 24 rfl))) Via.refl e34 f35 (g := (mkF m 207 #[.val (.ref va), .val (.int (0 : Int32)), .val (.int (3 : Int32)), .val (.int (-1 : Int32)), .unset, .unset] [(.ref va)])) rfl rfl (hb hby d5_207)
  refine Goal.to (B := T36.setTop (mkF m 210 #[.val (.ref va), .val (.int (0 : Int32)), .val (.int (3 : Int32)), .val (.int (-1 : Int32)), .unset, .unset] [(.ref vi)])) st36 ?_
  refine Goal.to (B := T36.setTop (mkF m 211 #[.val (.ref va), .val (.int (0 : Int32)), .val (.int (3 : Int32)), .val (.int (-1 : Int32)), .unset, .unset] [(.ref va), (.ref vi)])) (fun tt kk => ?_) ?_
  · show Steps p.tables e below (T36.setTop (mkF m 210 #[.val (.ref va), .val (.int (0 : Int32)), .val (.int (3 : Int32)), .val (.int (-1 : Int32)), .unset, .unset] [(.ref vi)])) tt
    refine XS.aloadN X36.here hx rfl (hb hby d5_210) rfl rfl ?_
    exact kk
  have f37 : Fld Z h34 va "com/example/deferra/deferra/engine/Identities" "holdersAt" "I" (.int (64 : Int32)) := ((((((F_holdersAt_va.other W6 (Or.inr (slot_ne (Or.inl (hw _ (mw 37 rfl))) (Or.inl (hw _ (mw 11 rfl))) (by decide) (t := .int) (t' := .int) (by decide) (by decide)))).other W10 (Or.inl ne_va_vi)).other W15 (Or.inl ne_va_vi)).other W24 (Or.inl ne_va_vr)).other W28 (Or.inr (slot_ne (Or.inl (hw _ (mw 37 rfl))) (Or.inl (hw _ (mw 47 rfl))) (by decide) (t := .int) (t' := .int) (by decide) (by decide)))).other W34 (Or.inl ne_va_vi))
  obtain ⟨T38, X38, e38, st38⟩ := getF X36 hx hZ hown (host := "") (Or.inl (hw _ (mw 36 rfl))) Via.refl e36 f37 (g := (mkF m 211 #[.val (.ref va), .val (.int (0 : Int32)), .val (.int (3 : Int32)), .val (.int (-1 : Int32)), .unset, .unset] [(.ref va), (.ref vi)])) rfl rfl (hb hby d5_211)
  refine Goal.to (B := T38.setTop (mkF m 214 #[.val (.ref va), .val (.int (0 : Int32)), .val (.int (3 : Int32)), .val (.int (-1 : Int32)), .unset, .unset] [(.int (64 : Int32)), (.ref vi)])) st38 ?_
  refine Goal.to (B := T38.setTop (mkF m 219 #[.val (.ref va), .val (.int (0 : Int32)), .val (.int (3 : Int32)), .val (.int (-1 : Int32)), .unset, .unset] [(.int (64 : Int32)), (.ref vi), (.int (64 : Int32)), (.ref vi)])) (fun tt kk => ?_) ?_
  · show Steps p.tables e below (T38.setTop (mkF m 214 #[.val (.ref va), .val (.int (0 : Int32)), .val (.int (3 : Int32)), .val (.int (-1 : Int32)), .unset, .unset] [(.int (64 : Int32)), (.ref vi)])) tt
    refine XS.iloadN X38.here hx rfl (hb hby d5_214) rfl ?_
    show Steps p.tables e below (T38.setTop (mkF m 215 #[.val (.ref va), .val (.int (0 : Int32)), .val (.int (3 : Int32)), .val (.int (-1 : Int32)), .unset, .unset] [(.int (-1 : Int32)), (.int (64 : Int32)), (.ref vi)])) tt
    refine XS.iadd X38.here hx rfl (hb hby d5_215) rfl ?_
    show Steps p.tables e below (T38.setTop (mkF m 216 #[.val (.ref va), .val (.int (0 : Int32)), .val (.int (3 : Int32)), .val (.int (-1 : Int32)), .unset, .unset] [(.int (63 : Int32)), (.ref vi)])) tt
    refine XS.iconst X38.here hx rfl (hb hby d5_216) ?_
    show Steps p.tables e below (T38.setTop (mkF m 217 #[.val (.ref va), .val (.int (0 : Int32)), .val (.int (3 : Int32)), .val (.int (-1 : Int32)), .unset, .unset] [(.int (1 : Int32)), (.int (63 : Int32)), (.ref vi)])) tt
    refine XS.iadd X38.here hx rfl (hb hby d5_217) rfl ?_
    show Steps p.tables e below (T38.setTop (mkF m 218 #[.val (.ref va), .val (.int (0 : Int32)), .val (.int (3 : Int32)), .val (.int (-1 : Int32)), .unset, .unset] [(.int (64 : Int32)), (.ref vi)])) tt
    refine Jvm.Free.XT.dup2 X38.here hx rfl (hb hby d5_218) rfl rfl rfl ?_
    exact kk
  obtain ⟨cl39, Ar39, Sl39⟩ := id V34
  have hin39 := inA (cl := cl39) Sl39 (j := (64 : Int32)) (by decide) (Nat.le_of_ble_eq_true rfl)
  have hat39 : cl39.slots[((64 : Int32)).toNatClampNeg]? = some (.int (2 : Int32)) := atA Sl39 rfl
  refine Goal.to (B := T38.setTop (mkF m 222 #[.val (.ref va), .val (.int (0 : Int32)), .val (.int (3 : Int32)), .val (.int (-1 : Int32)), .unset, .unset] [(.int (3 : Int32)), (.int (64 : Int32)), (.ref vi)])) (fun tt kk => ?_) ?_
  · show Steps p.tables e below (T38.setTop (mkF m 219 #[.val (.ref va), .val (.int (0 : Int32)), .val (.int (3 : Int32)), .val (.int (-1 : Int32)), .unset, .unset] [(.int (64 : Int32)), (.ref vi), (.int (64 : Int32)), (.ref vi)])) tt
    refine X38.iaload hx (j := (64 : Int32)) (v := (.int (2 : Int32))) (by rw [e38]; exact Ar39.1) (State.isArrayOf_alike hZ.alike Ar39.2.1) Ar39.2.2 hin39 hat39 (g := (mkF m 219 #[.val (.ref va), .val (.int (0 : Int32)), .val (.int (3 : Int32)), .val (.int (-1 : Int32)), .unset, .unset] [(.int (64 : Int32)), (.ref vi), (.int (64 : Int32)), (.ref vi)])) rfl rfl (hb hby d5_219) _ ?_
    show Steps p.tables e below (T38.setTop (mkF m 220 #[.val (.ref va), .val (.int (0 : Int32)), .val (.int (3 : Int32)), .val (.int (-1 : Int32)), .unset, .unset] [(.int (2 : Int32)), (.int (64 : Int32)), (.ref vi)])) tt
    refine XS.iconst X38.here hx rfl (hb hby d5_220) ?_
    show Steps p.tables e below (T38.setTop (mkF m 221 #[.val (.ref va), .val (.int (0 : Int32)), .val (.int (3 : Int32)), .val (.int (-1 : Int32)), .unset, .unset] [(.int (1 : Int32)), (.int (2 : Int32)), (.int (64 : Int32)), (.ref vi)])) tt
    refine XS.iadd X38.here hx rfl (hb hby d5_221) rfl ?_
    exact kk
  obtain ⟨cl40, Ar40, Sl40⟩ := id V34
  have hin40 := inA (cl := cl40) Sl40 (j := (64 : Int32)) (by decide) (Nat.le_of_ble_eq_true rfl)
  obtain ⟨T40, h40, X40, e40, W40, st40⟩ := stI X38 hx hZ e38 Ar40 (j := (64 : Int32)) hin40 (g := (mkF m 222 #[.val (.ref va), .val (.int (0 : Int32)), .val (.int (3 : Int32)), .val (.int (-1 : Int32)), .unset, .unset] [(.int (3 : Int32)), (.int (64 : Int32)), (.ref vi)])) rfl rfl (hb hby d5_222)
  have V40 : Ary Z h40 vi .int [(.int (0 : Int32)), (.int (1 : Int32)), (.int (2 : Int32)), (.int (3 : Int32)), (.int (0 : Int32)), (.int (0 : Int32)), (.int (0 : Int32)), (.int (0 : Int32)), (.int (0 : Int32)), (.int (0 : Int32)), (.int (0 : Int32)), (.int (0 : Int32)), (.int (0 : Int32)), (.int (0 : Int32)), (.int (0 : Int32)), (.int (0 : Int32)), (.int (-1 : Int32)), (.int (-2 : Int32)), (.int (-2 : Int32)), (.int (-2 : Int32)), (.int (0 : Int32)), (.int (0 : Int32)), (.int (0 : Int32)), (.int (0 : Int32)), (.int (0 : Int32)), (.int (0 : Int32)), (.int (0 : Int32)), (.int (0 : Int32)), (.int (0 : Int32)), (.int (0 : Int32)), (.int (0 : Int32)), (.int (0 : Int32)), (.int (-1 : Int32)), (.int (-1 : Int32)), (.int (-1 : Int32)), (.int (-1 : Int32)), (.int (0 : Int32)), (.int (0 : Int32)), (.int (0 : Int32)), (.int (0 : Int32)), (.int (0 : Int32)), (.int (0 : Int32)), (.int (0 : Int32)), (.int (0 : Int32)), (.int (0 : Int32)), (.int (0 : Int32)), (.int (0 : Int32)), (.int (0 : Int32)), (.int (0 : Int32)), (.int (0 : Int32)), (.int (0 : Int32)), (.int (0 : Int32)), (.int (0 : Int32)), (.int (0 : Int32)), (.int (0 : Int32)), (.int (0 : Int32)), (.int (0 : Int32)), (.int (0 : Int32)), (.int (0 : Int32)), (.int (0 : Int32)), (.int (0 : Int32)), (.int (0 : Int32)), (.int (0 : Int32)), (.int (0 : Int32)), (.int (3 : Int32)), (.int (0 : Int32)), (.int (0 : Int32)), (.int (0 : Int32)), (.int (0 : Int32)), (.int (0 : Int32)), (.int (0 : Int32)), (.int (0 : Int32)), (.int (0 : Int32)), (.int (0 : Int32)), (.int (0 : Int32)), (.int (0 : Int32)), (.int (0 : Int32)), (.int (0 : Int32)), (.int (0 : Int32)), (.int (0 : Int32)), (.int (0 : Int32))] := Ary.put Ar40 Sl40 W40 rfl
  have N40 := Fr.snoc X40 N34 g_vi
  refine Goal.to (B := T40.setTop (mkF m 223 #[.val (.ref va), .val (.int (0 : Int32)), .val (.int (3 : Int32)), .val (.int (-1 : Int32)), .unset, .unset] [])) st40 ?_
  refine Goal.to (B := T40.setTop (mkF m 225 #[.val (.ref va), .val (.int (0 : Int32)), .val (.int (3 : Int32)), .val (.int (-1 : Int32)), .unset, .unset] [(.ref va), (.int (-1 : Int32))])) (fun tt kk => ?_) ?_
  · show Steps p.tables e below (T40.setTop (mkF m 223 #[.val (.ref va), .val (.int (0 : Int32)), .val (.int (3 : Int32)), .val (.int (-1 : Int32)), .unset, .unset] [])) tt
    refine XS.iloadN X40.here hx rfl (hb hby d5_223) rfl ?_
    show Steps p.tables e below (T40.setTop (mkF m 224 #[.val (.ref va), .val (.int (0 : Int32)), .val (.int (3 : Int32)), .val (.int (-1 : Int32)), .unset, .unset] [(.int (-1 : Int32))])) tt
    refine XS.aloadN X40.here hx rfl (hb hby d5_224) rfl rfl ?_
    exact kk
  have f41 : Fld Z h40 va "com/example/deferra/deferra/engine/Identities" "capacity" "I" (.int uc) := (((((((F_capacity_va.other W6 (Or.inr (slot_ne (Or.inr (hw _ (mw 17 rfl))) (Or.inl (hw _ (mw 11 rfl))) (by decide) (t := .int) (t' := .int) (by decide) (by decide)))).other W10 (Or.inl ne_va_vi)).other W15 (Or.inl ne_va_vi)).other W24 (Or.inl ne_va_vr)).other W28 (Or.inr (slot_ne (Or.inr (hw _ (mw 17 rfl))) (Or.inl (hw _ (mw 47 rfl))) (by decide) (t := .int) (t' := .int) (by decide) (by decide)))).other W34 (Or.inl ne_va_vi)).other W40 (Or.inl ne_va_vi))
  obtain ⟨T42, X42, e42, st42⟩ := getF X40 hx hZ hown (host := "") (Or.inl (hw _ (mw 16 rfl))) Via.refl e40 f41 (g := (mkF m 225 #[.val (.ref va), .val (.int (0 : Int32)), .val (.int (3 : Int32)), .val (.int (-1 : Int32)), .unset, .unset] [(.ref va), (.int (-1 : Int32))])) rfl rfl (hb hby d5_225)
  refine Goal.to (B := T42.setTop (mkF m 228 #[.val (.ref va), .val (.int (0 : Int32)), .val (.int (3 : Int32)), .val (.int (-1 : Int32)), .unset, .unset] [(.int uc), (.int (-1 : Int32))])) st42 ?_
  refine Goal.to (B := T42.setTop (mkF m 261 #[.val (.ref va), .val (.int (0 : Int32)), .val (.int (3 : Int32)), .val (.int (-1 : Int32)), .val (.int (1 : Int32)), .unset] [(.int (3 : Int32))])) (fun tt kk => ?_) ?_
  · show Steps p.tables e below (T42.setTop (mkF m 228 #[.val (.ref va), .val (.int (0 : Int32)), .val (.int (3 : Int32)), .val (.int (-1 : Int32)), .unset, .unset] [(.int uc), (.int (-1 : Int32))])) tt
    refine XS.icmpYes X42.here hx rfl (pc0 := 228) (pc' := 244) rfl (hb hby d5_228) rfl (tlt hcap).1 (by decide) (by decide) ?_
    show Steps p.tables e below (T42.setTop (mkF m 244 #[.val (.ref va), .val (.int (0 : Int32)), .val (.int (3 : Int32)), .val (.int (-1 : Int32)), .unset, .unset] [])) tt
    refine XS.iconst X42.here hx rfl (hb hby d5_244) ?_
    show Steps p.tables e below (T42.setTop (mkF m 245 #[.val (.ref va), .val (.int (0 : Int32)), .val (.int (3 : Int32)), .val (.int (-1 : Int32)), .unset, .unset] [(.int (1 : Int32))])) tt
    refine XS.goto X42.here hx rfl (pc0 := 245) (pc' := 249) rfl (hb hby d5_245) (by decide) (by decide) ?_
    show Steps p.tables e below (T42.setTop (mkF m 249 #[.val (.ref va), .val (.int (0 : Int32)), .val (.int (3 : Int32)), .val (.int (-1 : Int32)), .unset, .unset] [(.int (1 : Int32))])) tt
    refine XS.istore X42.here hx rfl (hb hby d5_249) rfl (l' := #[.val (.ref va), .val (.int (0 : Int32)), .val (.int (3 : Int32)), .val (.int (-1 : Int32)), .val (.int (1 : Int32)), .unset]) rfl ?_
    show Steps p.tables e below (T42.setTop (mkF m 251 #[.val (.ref va), .val (.int (0 : Int32)), .val (.int (3 : Int32)), .val (.int (-1 : Int32)), .val (.int (1 : Int32)), .unset] [])) tt
    refine XS.iload X42.here hx rfl (hb hby d5_251) rfl ?_
    show Steps p.tables e below (T42.setTop (mkF m 253 #[.val (.ref va), .val (.int (0 : Int32)), .val (.int (3 : Int32)), .val (.int (-1 : Int32)), .val (.int (1 : Int32)), .unset] [(.int (1 : Int32))])) tt
    refine XS.ifNo X42.here hx rfl (hb hby d5_253) rfl ((if0 _ _).trans (feq ((by decide) : ¬ ((1 : Int32) = (0 : Int32)))).1) ?_
    show Steps p.tables e below (T42.setTop (mkF m 256 #[.val (.ref va), .val (.int (0 : Int32)), .val (.int (3 : Int32)), .val (.int (-1 : Int32)), .val (.int (1 : Int32)), .unset] [])) tt
    refine XS.iloadN X42.here hx rfl (hb hby d5_256) rfl ?_
    show Steps p.tables e below (T42.setTop (mkF m 257 #[.val (.ref va), .val (.int (0 : Int32)), .val (.int (3 : Int32)), .val (.int (-1 : Int32)), .val (.int (1 : Int32)), .unset] [(.int (3 : Int32))])) tt
    refine XS.goto X42.here hx rfl (pc0 := 257) (pc' := 261) rfl (hb hby d5_257) (by decide) (by decide) ?_
    exact kk
  have f43 : Keep h0 h40 [va, vi, vr] := ((((((((Keep.refl h0 [va, vi, vr]).wr W6 (Or.inl (List.mem_of_getElem? (i := 0) rfl))).wr W10 (Or.inl (List.mem_of_getElem? (i := 1) rfl))).wr W15 (Or.inl (List.mem_of_getElem? (i := 1) rfl))).wr W24 (Or.inl (List.mem_of_getElem? (i := 2) rfl))).wr W28 (Or.inl (List.mem_of_getElem? (i := 0) rfl))).wr W34 (Or.inl (List.mem_of_getElem? (i := 1) rfl))).wr W40 (Or.inl (List.mem_of_getElem? (i := 1) rfl)))
  have f44 : Fld Z h40 va "com/example/deferra/deferra/engine/Identities" "count" "I" (.int (4 : Int32)) := ((((((Fw6.other W10 (Or.inl ne_va_vi)).other W15 (Or.inl ne_va_vi)).other W24 (Or.inl ne_va_vr)).other W28 (Or.inr (slot_ne (Or.inl (hw _ (mw 11 rfl))) (Or.inl (hw _ (mw 47 rfl))) (by decide) (t := .int) (t' := .int) (by decide) (by decide)))).other W34 (Or.inl ne_va_vi)).other W40 (Or.inl ne_va_vi))
  have f45 : Fld Z h40 va "com/example/deferra/deferra/engine/Identities" "slots" "I" (.int (16 : Int32)) := (((((((F_slots_va.other W6 (Or.inr (slot_ne (Or.inl (hw _ (mw 13 rfl))) (Or.inl (hw _ (mw 11 rfl))) (by decide) (t := .int) (t' := .int) (by decide) (by decide)))).other W10 (Or.inl ne_va_vi)).other W15 (Or.inl ne_va_vi)).other W24 (Or.inl ne_va_vr)).other W28 (Or.inr (slot_ne (Or.inl (hw _ (mw 13 rfl))) (Or.inl (hw _ (mw 47 rfl))) (by decide) (t := .int) (t' := .int) (by decide) (by decide)))).other W34 (Or.inl ne_va_vi)).other W40 (Or.inl ne_va_vi))
  have f46 : Fld Z h40 va "com/example/deferra/deferra/engine/Identities" "words" "I" (.int (1 : Int32)) := ((((f20.other W24 (Or.inl ne_va_vr)).other W28 (Or.inr (slot_ne (Or.inl (hw _ (mw 15 rfl))) (Or.inl (hw _ (mw 47 rfl))) (by decide) (t := .int) (t' := .int) (by decide) (by decide)))).other W34 (Or.inl ne_va_vi)).other W40 (Or.inl ne_va_vi))
  have f47 : Fld Z h40 va "com/example/deferra/deferra/engine/Identities" "nullAllowed" "Z" (.int (1 : Int32)) := ((((f16.other W24 (Or.inl ne_va_vr)).other W28 (Or.inr (slot_ne (Or.inr (hw _ (mw 19 rfl))) (Or.inl (hw _ (mw 47 rfl))) (by decide) (t := .boolean) (t' := .int) (by decide) (by decide)))).other W34 (Or.inl ne_va_vi)).other W40 (Or.inl ne_va_vi))
  have f48 : Fld Z h40 va "com/example/deferra/deferra/engine/Identities" "ints" "[I" (.ref vi) := (f35.other W40 (Or.inl ne_va_vi))
  have f49 : Fld Z h40 va "com/example/deferra/deferra/engine/Identities" "numberAt" "I" (.int (16 : Int32)) := (((((f13.other W15 (Or.inl ne_va_vi)).other W24 (Or.inl ne_va_vr)).other W28 (Or.inr (slot_ne (Or.inl (hw _ (mw 31 rfl))) (Or.inl (hw _ (mw 47 rfl))) (by decide) (t := .int) (t' := .int) (by decide) (by decide)))).other W34 (Or.inl ne_va_vi)).other W40 (Or.inl ne_va_vi))
  have f50 : Fld Z h40 va "com/example/deferra/deferra/engine/Identities" "colourAt" "I" (.int (32 : Int32)) := ((f31.other W34 (Or.inl ne_va_vi)).other W40 (Or.inl ne_va_vi))
  have f51 : Fld Z h40 va "com/example/deferra/deferra/engine/Identities" "madeAt" "I" (.int (48 : Int32)) := (((((((F_madeAt_va.other W6 (Or.inr (slot_ne (Or.inl (hw _ (mw 35 rfl))) (Or.inl (hw _ (mw 11 rfl))) (by decide) (t := .int) (t' := .int) (by decide) (by decide)))).other W10 (Or.inl ne_va_vi)).other W15 (Or.inl ne_va_vi)).other W24 (Or.inl ne_va_vr)).other W28 (Or.inr (slot_ne (Or.inl (hw _ (mw 35 rfl))) (Or.inl (hw _ (mw 47 rfl))) (by decide) (t := .int) (t' := .int) (by decide) (by decide)))).other W34 (Or.inl ne_va_vi)).other W40 (Or.inl ne_va_vi))
  have f52 : Fld Z h40 va "com/example/deferra/deferra/engine/Identities" "holdersAt" "I" (.int (64 : Int32)) := (f37.other W40 (Or.inl ne_va_vi))
  have f53 : Fld Z h40 va "com/example/deferra/deferra/engine/Identities" "rows" "[J" (.ref vr) := ((((f18.other W24 (Or.inl ne_va_vr)).other W28 (Or.inr (slot_ne (Or.inl (hw _ (mw 40 rfl))) (Or.inl (hw _ (mw 47 rfl))) (by decide) (t := (.array .long)) (t' := .int) (by decide) (by decide)))).other W34 (Or.inl ne_va_vi)).other W40 (Or.inl ne_va_vi))
  have f54 : Fld Z h40 va "com/example/deferra/deferra/engine/Identities" "openCount" "I" (.int (3 : Int32)) := ((Fw28.other W34 (Or.inl ne_va_vi)).other W40 (Or.inl ne_va_vi))
  have f55 : Ary Z h40 vr .long [(.long (14 : Int64)), (.long (0 : Int64)), (.long (0 : Int64)), (.long (0 : Int64)), (.long (0 : Int64)), (.long (0 : Int64)), (.long (0 : Int64)), (.long (0 : Int64)), (.long (0 : Int64)), (.long (0 : Int64)), (.long (0 : Int64)), (.long (0 : Int64)), (.long (0 : Int64)), (.long (0 : Int64)), (.long (0 : Int64)), (.long (0 : Int64)), (.long (0 : Int64)), (.long (0 : Int64))] := (((V24.other W28 (Ne.symm ne_va_vr)).other W34 (Ne.symm ne_vi_vr)).other W40 (Ne.symm ne_vi_vr))
  exact Goal.retV X42 hx Bd.returns rfl (Or.inl ⟨rfl, Or.inl rfl, _, rfl⟩) (hb hby d5_261) hlk e42 ⟨rfl, N40, f43, f44, f45, f46, f41, f47, f48, f49, f50, f51, f52, f53, f54, V40, f55⟩ (by decide) (by decide)
theorem ef_10 (m : MethodId) (x0 : Addr) (x1 : Int32)  : entryFrame m #[(.ref x0), (.int x1)] 2 = mkF m 0 #[.val (.ref x0), .val (.int x1)] [] := by first | (simp [entryFrame, mkF, argsToLocals, Value.category]; done) | rfl
theorem pn_10 : plainName "com/example/deferra/deferra/engine/Identities" = true := by first | (simp [plainName, overriddenIn]; done) | decide +kernel
theorem d10_0 : decode prog_18_method_8_code 0 = .ok (.aload_n 0, 1) := by decide +kernel
theorem d10_1 : decode prog_18_method_8_code 1 = .ok (.getfield 30, 3) := by decide +kernel
theorem d10_4 : decode prog_18_method_8_code 4 = .ok (.aload_n 0, 1) := by decide +kernel
theorem d10_5 : decode prog_18_method_8_code 5 = .ok (.getfield 44, 3) := by decide +kernel
theorem d10_8 : decode prog_18_method_8_code 8 = .ok (.iload_n 1, 1) := by decide +kernel
theorem d10_9 : decode prog_18_method_8_code 9 = .ok (.iadd, 1) := by decide +kernel
theorem d10_10 : decode prog_18_method_8_code 10 = .ok (.iaload, 1) := by decide +kernel
theorem d10_11 : decode prog_18_method_8_code 11 = .ok (.ireturn, 1) := by decide +kernel
def Qco (Z : State) (va : Addr) (vi : Addr) (pp : Fin 4 → Fin 4) (hd : Int32) (q : Fin 4) (h0 : Heap) (n0 : Nat) (v : Option Value) (h : Heap) (L : List Loc) : Prop := v = some (.int (-1 : Int32)) ∧ Fr n0 L ∧ h = h0
set_option maxRecDepth 65536 in
set_option maxHeartbeats 40000000 in
theorem rmco (l : Launch) (Z : State) (a0 : Array Value) (hw : ∀ d ∈ tables_1, d.before a0 Z = true) (ws : List Jvm.Cond) (va : Addr) (vi : Addr) (pp : Fin 4 → Fin 4) (hd : Int32) (q : Fin 4) (h0 : Heap) (n0 : Nat) (Z0 : n0 ≤ h0.size) (F_ints_va : Fld Z h0 va "com/example/deferra/deferra/engine/Identities" "ints" "[I" (.ref vi)) (F_colourAt_va : Fld Z h0 va "com/example/deferra/deferra/engine/Identities" "colourAt" "I" (.int (32 : Int32))) (V_vi : Ary Z h0 vi .int (own_I pp hd)) :
    MetFree l (⟨"com/example/deferra/deferra/engine/Identities", "colour", "(I)I"⟩ : MethodName) (head1 (Jvm.Cond.code (⟨"com/example/deferra/deferra/engine/Identities", "colour", "(I)I"⟩ : MethodName) prog_18_method_8_code 2 (some .int) :: ws) ({ frames := 0, cells := 0, slots := 0, locals := 0 } : Room)) (fun a U => a = #[(.ref va), (.int (own_n q))] ∧ Z.Warmed39 U.vm ∧ U.heap = h0) (fun _ _ _ _ _ => True) (fun _ U o U' => ∃ v L, o = .returned v ∧ Qco Z va vi pp hd q h0 n0 v U'.heap L ∧ FrameEnd U o U' L 0 0) := by
  refine MetFree.of_bodySF (plainFor_of_name pn_10) hisR ?_
  intro p e s m args below meth c s₁ Bd hml0 hP hK
  obtain ⟨rfl, hZ, hh⟩ := hP
  have hx := Bd.exec
  have hby := Bd.bytes
  have hml : c.maxLocals = 2 := hml0
  have hown : s.vm.findClass "com/example/deferra/deferra/engine/Identities" = some m.cls := findClass_of_methodNamed Bd.named
  have hnm := (name_of_methodNamed Bd.named Bd.method).1
  have X0 : Stand p l e ({ frames := 0, cells := 0, slots := 0, locals := 0 } : Room) s m #[(.ref va), (.int (own_n q))] below meth c s₁ [] 0 0 := Stand.of_body Bd
  have e0 : s₁.heap = h0 := by rw [← hh, Bd.state]; rfl
  have N0 := Fr.nil n0
  have hlk : meth.locks = false := BodyLoose.notSynchronized Bd
  show Goal p e below s (Qco Z va vi pp hd q h0 n0) 0 0 (s₁.setTop (entryFrame m #[(.ref va), (.int (own_n q))] 2))
  refine Goal.to (B := s₁.setTop (mkF m 0 #[.val (.ref va), .val (.int (own_n q))] [])) (fun tt kk => castTop (ef_10 m va (own_n q) ) kk) ?_
  refine Goal.to (B := s₁.setTop (mkF m 1 #[.val (.ref va), .val (.int (own_n q))] [(.ref va)])) (fun tt kk => ?_) ?_
  · show Steps p.tables e below (s₁.setTop (mkF m 0 #[.val (.ref va), .val (.int (own_n q))] [])) tt
    refine XS.aloadN X0.here hx rfl (hb hby d10_0) rfl rfl ?_
    exact kk
  obtain ⟨T1, X1, e1, st1⟩ := getF X0 hx hZ hown (host := "") (Or.inl (hw _ (mw 24 rfl))) Via.refl e0 F_ints_va (g := (mkF m 1 #[.val (.ref va), .val (.int (own_n q))] [(.ref va)])) rfl rfl (hb hby d10_1)
  refine Goal.to (B := T1.setTop (mkF m 4 #[.val (.ref va), .val (.int (own_n q))] [(.ref vi)])) st1 ?_
  refine Goal.to (B := T1.setTop (mkF m 5 #[.val (.ref va), .val (.int (own_n q))] [(.ref va), (.ref vi)])) (fun tt kk => ?_) ?_
  · show Steps p.tables e below (T1.setTop (mkF m 4 #[.val (.ref va), .val (.int (own_n q))] [(.ref vi)])) tt
    refine XS.aloadN X1.here hx rfl (hb hby d10_4) rfl rfl ?_
    exact kk
  obtain ⟨T2, X2, e2, st2⟩ := getF X1 hx hZ hown (host := "") (Or.inl (hw _ (mw 32 rfl))) Via.refl e1 F_colourAt_va (g := (mkF m 5 #[.val (.ref va), .val (.int (own_n q))] [(.ref va), (.ref vi)])) rfl rfl (hb hby d10_5)
  refine Goal.to (B := T2.setTop (mkF m 8 #[.val (.ref va), .val (.int (own_n q))] [(.int (32 : Int32)), (.ref vi)])) st2 ?_
  refine Goal.to (B := T2.setTop (mkF m 10 #[.val (.ref va), .val (.int (own_n q))] [(.int ((32 : Int32) + (own_n q))), (.ref vi)])) (fun tt kk => ?_) ?_
  · show Steps p.tables e below (T2.setTop (mkF m 8 #[.val (.ref va), .val (.int (own_n q))] [(.int (32 : Int32)), (.ref vi)])) tt
    refine XS.iloadN X2.here hx rfl (hb hby d10_8) rfl ?_
    show Steps p.tables e below (T2.setTop (mkF m 9 #[.val (.ref va), .val (.int (own_n q))] [(.int (own_n q)), (.int (32 : Int32)), (.ref vi)])) tt
    refine XS.iadd X2.here hx rfl (hb hby d10_9) rfl ?_
    exact kk
  obtain ⟨cl3, Ar3, Sl3⟩ := id V_vi
  have hin3 := inA (cl := cl3) Sl3 (j := ((32 : Int32) + (own_n q))) (own_ix32 q).1 (by rw [(own_ix32 q).2, own_lenI]; have := own_lt q; omega)
  have hat3 : cl3.slots[(((32 : Int32) + (own_n q))).toNatClampNeg]? = some (.int (-1 : Int32)) := atA Sl3 (by rw [(own_ix32 q).2]; exact own_colI pp hd q)
  refine Goal.to (B := T2.setTop (mkF m 11 #[.val (.ref va), .val (.int (own_n q))] [(.int (-1 : Int32))])) (fun tt kk => ?_) ?_
  · show Steps p.tables e below (T2.setTop (mkF m 10 #[.val (.ref va), .val (.int (own_n q))] [(.int ((32 : Int32) + (own_n q))), (.ref vi)])) tt
    refine X2.iaload hx (j := ((32 : Int32) + (own_n q))) (v := (.int (-1 : Int32))) (by rw [e2]; exact Ar3.1) (State.isArrayOf_alike hZ.alike Ar3.2.1) Ar3.2.2 hin3 hat3 (g := (mkF m 10 #[.val (.ref va), .val (.int (own_n q))] [(.int ((32 : Int32) + (own_n q))), (.ref vi)])) rfl rfl (hb hby d10_10) _ ?_
    exact kk
  exact Goal.retV X2 hx Bd.returns rfl (Or.inl ⟨rfl, Or.inl rfl, _, rfl⟩) (hb hby d10_11) hlk e2 ⟨rfl, N0, rfl⟩ (by decide) (by decide)
theorem ef_12 (m : MethodId) (x0 : Addr) (x1 : Int32)  : entryFrame m #[(.ref x0), (.int x1)] 2 = mkF m 0 #[.val (.ref x0), .val (.int x1)] [] := by first | (simp [entryFrame, mkF, argsToLocals, Value.category]; done) | rfl
theorem pn_12 : plainName "com/example/deferra/deferra/engine/Identities" = true := by first | (simp [plainName, overriddenIn]; done) | decide +kernel
theorem d12_0 : decode prog_18_method_7_code 0 = .ok (.aload_n 0, 1) := by decide +kernel
theorem d12_1 : decode prog_18_method_7_code 1 = .ok (.getfield 30, 3) := by decide +kernel
theorem d12_4 : decode prog_18_method_7_code 4 = .ok (.aload_n 0, 1) := by decide +kernel
theorem d12_5 : decode prog_18_method_7_code 5 = .ok (.getfield 41, 3) := by decide +kernel
theorem d12_8 : decode prog_18_method_7_code 8 = .ok (.iload_n 1, 1) := by decide +kernel
theorem d12_9 : decode prog_18_method_7_code 9 = .ok (.iadd, 1) := by decide +kernel
theorem d12_10 : decode prog_18_method_7_code 10 = .ok (.iaload, 1) := by decide +kernel
theorem d12_11 : decode prog_18_method_7_code 11 = .ok (.ireturn, 1) := by decide +kernel
def Qnu (Z : State) (va : Addr) (vi : Addr) (pp : Fin 4 → Fin 4) (hd : Int32) (q : Fin 4) (h0 : Heap) (n0 : Nat) (v : Option Value) (h : Heap) (L : List Loc) : Prop := v = some (.int (if q = 0 then (-1 : Int32) else (-2 : Int32))) ∧ Fr n0 L ∧ h = h0
set_option maxRecDepth 65536 in
set_option maxHeartbeats 40000000 in
theorem rmnu (l : Launch) (Z : State) (a0 : Array Value) (hw : ∀ d ∈ tables_1, d.before a0 Z = true) (ws : List Jvm.Cond) (va : Addr) (vi : Addr) (pp : Fin 4 → Fin 4) (hd : Int32) (q : Fin 4) (h0 : Heap) (n0 : Nat) (Z0 : n0 ≤ h0.size) (F_ints_va : Fld Z h0 va "com/example/deferra/deferra/engine/Identities" "ints" "[I" (.ref vi)) (F_numberAt_va : Fld Z h0 va "com/example/deferra/deferra/engine/Identities" "numberAt" "I" (.int (16 : Int32))) (V_vi : Ary Z h0 vi .int (own_I pp hd)) :
    MetFree l (⟨"com/example/deferra/deferra/engine/Identities", "number", "(I)I"⟩ : MethodName) (head1 (Jvm.Cond.code (⟨"com/example/deferra/deferra/engine/Identities", "number", "(I)I"⟩ : MethodName) prog_18_method_7_code 2 (some .int) :: ws) ({ frames := 0, cells := 0, slots := 0, locals := 0 } : Room)) (fun a U => a = #[(.ref va), (.int (own_n q))] ∧ Z.Warmed39 U.vm ∧ U.heap = h0) (fun _ _ _ _ _ => True) (fun _ U o U' => ∃ v L, o = .returned v ∧ Qnu Z va vi pp hd q h0 n0 v U'.heap L ∧ FrameEnd U o U' L 0 0) := by
  refine MetFree.of_bodySF (plainFor_of_name pn_12) hisR ?_
  intro p e s m args below meth c s₁ Bd hml0 hP hK
  obtain ⟨rfl, hZ, hh⟩ := hP
  have hx := Bd.exec
  have hby := Bd.bytes
  have hml : c.maxLocals = 2 := hml0
  have hown : s.vm.findClass "com/example/deferra/deferra/engine/Identities" = some m.cls := findClass_of_methodNamed Bd.named
  have hnm := (name_of_methodNamed Bd.named Bd.method).1
  have X0 : Stand p l e ({ frames := 0, cells := 0, slots := 0, locals := 0 } : Room) s m #[(.ref va), (.int (own_n q))] below meth c s₁ [] 0 0 := Stand.of_body Bd
  have e0 : s₁.heap = h0 := by rw [← hh, Bd.state]; rfl
  have N0 := Fr.nil n0
  have hlk : meth.locks = false := BodyLoose.notSynchronized Bd
  show Goal p e below s (Qnu Z va vi pp hd q h0 n0) 0 0 (s₁.setTop (entryFrame m #[(.ref va), (.int (own_n q))] 2))
  refine Goal.to (B := s₁.setTop (mkF m 0 #[.val (.ref va), .val (.int (own_n q))] [])) (fun tt kk => castTop (ef_12 m va (own_n q) ) kk) ?_
  refine Goal.to (B := s₁.setTop (mkF m 1 #[.val (.ref va), .val (.int (own_n q))] [(.ref va)])) (fun tt kk => ?_) ?_
  · show Steps p.tables e below (s₁.setTop (mkF m 0 #[.val (.ref va), .val (.int (own_n q))] [])) tt
    refine XS.aloadN X0.here hx rfl (hb hby d12_0) rfl rfl ?_
    exact kk
  obtain ⟨T1, X1, e1, st1⟩ := getF X0 hx hZ hown (host := "") (Or.inl (hw _ (mw 24 rfl))) Via.refl e0 F_ints_va (g := (mkF m 1 #[.val (.ref va), .val (.int (own_n q))] [(.ref va)])) rfl rfl (hb hby d12_1)
  refine Goal.to (B := T1.setTop (mkF m 4 #[.val (.ref va), .val (.int (own_n q))] [(.ref vi)])) st1 ?_
  refine Goal.to (B := T1.setTop (mkF m 5 #[.val (.ref va), .val (.int (own_n q))] [(.ref va), (.ref vi)])) (fun tt kk => ?_) ?_
  · show Steps p.tables e below (T1.setTop (mkF m 4 #[.val (.ref va), .val (.int (own_n q))] [(.ref vi)])) tt
    refine XS.aloadN X1.here hx rfl (hb hby d12_4) rfl rfl ?_
    exact kk
  obtain ⟨T2, X2, e2, st2⟩ := getF X1 hx hZ hown (host := "") (Or.inl (hw _ (mw 30 rfl))) Via.refl e1 F_numberAt_va (g := (mkF m 5 #[.val (.ref va), .val (.int (own_n q))] [(.ref va), (.ref vi)])) rfl rfl (hb hby d12_5)
  refine Goal.to (B := T2.setTop (mkF m 8 #[.val (.ref va), .val (.int (own_n q))] [(.int (16 : Int32)), (.ref vi)])) st2 ?_
  refine Goal.to (B := T2.setTop (mkF m 10 #[.val (.ref va), .val (.int (own_n q))] [(.int ((16 : Int32) + (own_n q))), (.ref vi)])) (fun tt kk => ?_) ?_
  · show Steps p.tables e below (T2.setTop (mkF m 8 #[.val (.ref va), .val (.int (own_n q))] [(.int (16 : Int32)), (.ref vi)])) tt
    refine XS.iloadN X2.here hx rfl (hb hby d12_8) rfl ?_
    show Steps p.tables e below (T2.setTop (mkF m 9 #[.val (.ref va), .val (.int (own_n q))] [(.int (own_n q)), (.int (16 : Int32)), (.ref vi)])) tt
    refine XS.iadd X2.here hx rfl (hb hby d12_9) rfl ?_
    exact kk
  obtain ⟨cl3, Ar3, Sl3⟩ := id V_vi
  have hin3 := inA (cl := cl3) Sl3 (j := ((16 : Int32) + (own_n q))) (own_ix16 q).1 (by rw [(own_ix16 q).2, own_lenI]; have := own_lt q; omega)
  have hat3 : cl3.slots[(((16 : Int32) + (own_n q))).toNatClampNeg]? = some (.int (if q = 0 then (-1 : Int32) else (-2 : Int32))) := atA Sl3 (by rw [(own_ix16 q).2]; exact own_numI pp hd q)
  refine Goal.to (B := T2.setTop (mkF m 11 #[.val (.ref va), .val (.int (own_n q))] [(.int (if q = 0 then (-1 : Int32) else (-2 : Int32)))])) (fun tt kk => ?_) ?_
  · show Steps p.tables e below (T2.setTop (mkF m 10 #[.val (.ref va), .val (.int (own_n q))] [(.int ((16 : Int32) + (own_n q))), (.ref vi)])) tt
    refine X2.iaload hx (j := ((16 : Int32) + (own_n q))) (v := (.int (if q = 0 then (-1 : Int32) else (-2 : Int32)))) (by rw [e2]; exact Ar3.1) (State.isArrayOf_alike hZ.alike Ar3.2.1) Ar3.2.2 hin3 hat3 (g := (mkF m 10 #[.val (.ref va), .val (.int (own_n q))] [(.int ((16 : Int32) + (own_n q))), (.ref vi)])) rfl rfl (hb hby d12_10) _ ?_
    exact kk
  exact Goal.retV X2 hx Bd.returns rfl (Or.inl ⟨rfl, Or.inl rfl, _, rfl⟩) (hb hby d12_11) hlk e2 ⟨rfl, N0, rfl⟩ (by decide) (by decide)
theorem ef_14 (m : MethodId) (x0 : Addr) (x1 : Int32)  : entryFrame m #[(.ref x0), (.int x1)] 2 = mkF m 0 #[.val (.ref x0), .val (.int x1)] [] := by first | (simp [entryFrame, mkF, argsToLocals, Value.category]; done) | rfl
theorem pn_14 : plainName "com/example/deferra/deferra/engine/Identities" = true := by first | (simp [plainName, overriddenIn]; done) | decide +kernel
theorem d14_0 : decode prog_18_method_45_code 0 = .ok (.iconst 2, 1) := by decide +kernel
theorem d14_1 : decode prog_18_method_45_code 1 = .ok (.iload_n 1, 1) := by decide +kernel
theorem d14_2 : decode prog_18_method_45_code 2 = .ok (.iadd, 1) := by decide +kernel
theorem d14_3 : decode prog_18_method_45_code 3 = .ok (.aload_n 0, 1) := by decide +kernel
theorem d14_4 : decode prog_18_method_45_code 4 = .ok (.getfield 16, 3) := by decide +kernel
theorem d14_7 : decode prog_18_method_45_code 7 = .ok (.imul, 1) := by decide +kernel
theorem d14_8 : decode prog_18_method_45_code 8 = .ok (.ireturn, 1) := by decide +kernel
def Qro (Z : State) (va : Addr) (q : Fin 4) (h0 : Heap) (n0 : Nat) (v : Option Value) (h : Heap) (L : List Loc) : Prop := v = some (.int (((2 : Int32) + (own_n q)) * (1 : Int32))) ∧ Fr n0 L ∧ h = h0
set_option maxRecDepth 65536 in
set_option maxHeartbeats 40000000 in
theorem rmro (l : Launch) (Z : State) (a0 : Array Value) (hw : ∀ d ∈ tables_1, d.before a0 Z = true) (ws : List Jvm.Cond) (va : Addr) (q : Fin 4) (h0 : Heap) (n0 : Nat) (Z0 : n0 ≤ h0.size) (F_words_va : Fld Z h0 va "com/example/deferra/deferra/engine/Identities" "words" "I" (.int (1 : Int32))) :
    MetFree l (⟨"com/example/deferra/deferra/engine/Identities", "row", "(I)I"⟩ : MethodName) (head1 (Jvm.Cond.code (⟨"com/example/deferra/deferra/engine/Identities", "row", "(I)I"⟩ : MethodName) prog_18_method_45_code 2 (some .int) :: ws) ({ frames := 0, cells := 0, slots := 0, locals := 0 } : Room)) (fun a U => a = #[(.ref va), (.int (own_n q))] ∧ Z.Warmed39 U.vm ∧ U.heap = h0) (fun _ _ _ _ _ => True) (fun _ U o U' => ∃ v L, o = .returned v ∧ Qro Z va q h0 n0 v U'.heap L ∧ FrameEnd U o U' L 0 0) := by
  refine MetFree.of_bodySF (plainFor_of_name pn_14) hisR ?_
  intro p e s m args below meth c s₁ Bd hml0 hP hK
  obtain ⟨rfl, hZ, hh⟩ := hP
  have hx := Bd.exec
  have hby := Bd.bytes
  have hml : c.maxLocals = 2 := hml0
  have hown : s.vm.findClass "com/example/deferra/deferra/engine/Identities" = some m.cls := findClass_of_methodNamed Bd.named
  have hnm := (name_of_methodNamed Bd.named Bd.method).1
  have X0 : Stand p l e ({ frames := 0, cells := 0, slots := 0, locals := 0 } : Room) s m #[(.ref va), (.int (own_n q))] below meth c s₁ [] 0 0 := Stand.of_body Bd
  have e0 : s₁.heap = h0 := by rw [← hh, Bd.state]; rfl
  have N0 := Fr.nil n0
  have hlk : meth.locks = false := BodyLoose.notSynchronized Bd
  show Goal p e below s (Qro Z va q h0 n0) 0 0 (s₁.setTop (entryFrame m #[(.ref va), (.int (own_n q))] 2))
  refine Goal.to (B := s₁.setTop (mkF m 0 #[.val (.ref va), .val (.int (own_n q))] [])) (fun tt kk => castTop (ef_14 m va (own_n q) ) kk) ?_
  refine Goal.to (B := s₁.setTop (mkF m 4 #[.val (.ref va), .val (.int (own_n q))] [(.ref va), (.int ((2 : Int32) + (own_n q)))])) (fun tt kk => ?_) ?_
  · show Steps p.tables e below (s₁.setTop (mkF m 0 #[.val (.ref va), .val (.int (own_n q))] [])) tt
    refine XS.iconst X0.here hx rfl (hb hby d14_0) ?_
    show Steps p.tables e below (s₁.setTop (mkF m 1 #[.val (.ref va), .val (.int (own_n q))] [(.int (2 : Int32))])) tt
    refine XS.iloadN X0.here hx rfl (hb hby d14_1) rfl ?_
    show Steps p.tables e below (s₁.setTop (mkF m 2 #[.val (.ref va), .val (.int (own_n q))] [(.int (own_n q)), (.int (2 : Int32))])) tt
    refine XS.iadd X0.here hx rfl (hb hby d14_2) rfl ?_
    show Steps p.tables e below (s₁.setTop (mkF m 3 #[.val (.ref va), .val (.int (own_n q))] [(.int ((2 : Int32) + (own_n q)))])) tt
    refine XS.aloadN X0.here hx rfl (hb hby d14_3) rfl rfl ?_
    exact kk
  obtain ⟨T1, X1, e1, st1⟩ := getF X0 hx hZ hown (host := "") (Or.inl (hw _ (mw 14 rfl))) Via.refl e0 F_words_va (g := (mkF m 4 #[.val (.ref va), .val (.int (own_n q))] [(.ref va), (.int ((2 : Int32) + (own_n q)))])) rfl rfl (hb hby d14_4)
  refine Goal.to (B := T1.setTop (mkF m 7 #[.val (.ref va), .val (.int (own_n q))] [(.int (1 : Int32)), (.int ((2 : Int32) + (own_n q)))])) st1 ?_
  refine Goal.to (B := T1.setTop (mkF m 8 #[.val (.ref va), .val (.int (own_n q))] [(.int (((2 : Int32) + (own_n q)) * (1 : Int32)))])) (fun tt kk => ?_) ?_
  · show Steps p.tables e below (T1.setTop (mkF m 7 #[.val (.ref va), .val (.int (own_n q))] [(.int (1 : Int32)), (.int ((2 : Int32) + (own_n q)))])) tt
    refine XS.imul X1.here hx rfl (hb hby d14_7) rfl ?_
    exact kk
  exact Goal.retV X1 hx Bd.returns rfl (Or.inl ⟨rfl, Or.inl rfl, _, rfl⟩) (hb hby d14_8) hlk e1 ⟨rfl, N0, rfl⟩ (by decide) (by decide)
theorem ef_13 (m : MethodId) (x0 : Addr) (x1 : Int32)  : entryFrame m #[(.ref x0), (.int x1)] 2 = mkF m 0 #[.val (.ref x0), .val (.int x1)] [] := by first | (simp [entryFrame, mkF, argsToLocals, Value.category]; done) | rfl
theorem pn_13 : plainName "com/example/deferra/deferra/engine/Identities" = true := by first | (simp [plainName, overriddenIn]; done) | decide +kernel
theorem d13_0 : decode prog_18_method_40_code 0 = .ok (.aload_n 0, 1) := by decide +kernel
theorem d13_1 : decode prog_18_method_40_code 1 = .ok (.getfield 37, 3) := by decide +kernel
theorem d13_4 : decode prog_18_method_40_code 4 = .ok (.iconst 0, 1) := by decide +kernel
theorem d13_5 : decode prog_18_method_40_code 5 = .ok (.aload_n 0, 1) := by decide +kernel
theorem d13_6 : decode prog_18_method_40_code 6 = .ok (.getfield 16, 3) := by decide +kernel
theorem d13_9 : decode prog_18_method_40_code 9 = .ok (.imul, 1) := by decide +kernel
theorem d13_10 : decode prog_18_method_40_code 10 = .ok (.iload_n 1, 1) := by decide +kernel
theorem d13_11 : decode prog_18_method_40_code 11 = .ok (.bipush 6, 2) := by decide +kernel
theorem d13_13 : decode prog_18_method_40_code 13 = .ok (.iushr, 1) := by decide +kernel
theorem d13_14 : decode prog_18_method_40_code 14 = .ok (.iadd, 1) := by decide +kernel
theorem d13_15 : decode prog_18_method_40_code 15 = .ok (.dup2, 1) := by decide +kernel
theorem d13_16 : decode prog_18_method_40_code 16 = .ok (.laload, 1) := by decide +kernel
theorem d13_17 : decode prog_18_method_40_code 17 = .ok (.lconst 1, 1) := by decide +kernel
theorem d13_18 : decode prog_18_method_40_code 18 = .ok (.iload_n 1, 1) := by decide +kernel
theorem d13_19 : decode prog_18_method_40_code 19 = .ok (.lshl, 1) := by decide +kernel
theorem d13_20 : decode prog_18_method_40_code 20 = .ok (.ldc2_w 74, 3) := by decide +kernel
theorem d13_23 : decode prog_18_method_40_code 23 = .ok (.lxor, 1) := by decide +kernel
theorem d13_24 : decode prog_18_method_40_code 24 = .ok (.land, 1) := by decide +kernel
theorem d13_25 : decode prog_18_method_40_code 25 = .ok (.lastore, 1) := by decide +kernel
theorem d13_26 : decode prog_18_method_40_code 26 = .ok (.aload_n 0, 1) := by decide +kernel
theorem d13_27 : decode prog_18_method_40_code 27 = .ok (.dup, 1) := by decide +kernel
theorem d13_28 : decode prog_18_method_40_code 28 = .ok (.getfield 57, 3) := by decide +kernel
theorem d13_31 : decode prog_18_method_40_code 31 = .ok (.iconst 1, 1) := by decide +kernel
theorem d13_32 : decode prog_18_method_40_code 32 = .ok (.isub, 1) := by decide +kernel
theorem d13_33 : decode prog_18_method_40_code 33 = .ok (.putfield 57, 3) := by decide +kernel
theorem d13_36 : decode prog_18_method_40_code 36 = .ok (.aload_n 0, 1) := by decide +kernel
theorem d13_37 : decode prog_18_method_40_code 37 = .ok (.getfield 30, 3) := by decide +kernel
theorem d13_40 : decode prog_18_method_40_code 40 = .ok (.aload_n 0, 1) := by decide +kernel
theorem d13_41 : decode prog_18_method_40_code 41 = .ok (.getfield 93, 3) := by decide +kernel
theorem d13_44 : decode prog_18_method_40_code 44 = .ok (.aload_n 0, 1) := by decide +kernel
theorem d13_45 : decode prog_18_method_40_code 45 = .ok (.iload_n 1, 1) := by decide +kernel
theorem d13_46 : decode prog_18_method_40_code 46 = .ok (.invokevirtual 136, 3) := by decide +kernel
theorem d13_49 : decode prog_18_method_40_code 49 = .ok (.iadd, 1) := by decide +kernel
theorem d13_50 : decode prog_18_method_40_code 50 = .ok (.iconst 1, 1) := by decide +kernel
theorem d13_51 : decode prog_18_method_40_code 51 = .ok (.iadd, 1) := by decide +kernel
theorem d13_52 : decode prog_18_method_40_code 52 = .ok (.dup2, 1) := by decide +kernel
theorem d13_53 : decode prog_18_method_40_code 53 = .ok (.iaload, 1) := by decide +kernel
theorem d13_54 : decode prog_18_method_40_code 54 = .ok (.iconst 1, 1) := by decide +kernel
theorem d13_55 : decode prog_18_method_40_code 55 = .ok (.isub, 1) := by decide +kernel
theorem d13_56 : decode prog_18_method_40_code 56 = .ok (.iastore, 1) := by decide +kernel
theorem d13_57 : decode prog_18_method_40_code 57 = .ok (.return_, 1) := by decide +kernel
def Qcl (Z : State) (va : Addr) (vi : Addr) (vr : Addr) (pp : Fin 4 → Fin 4) (hd : Int32) (ra : Int64) (rb : Int64) (uo : Int32) (q : Fin 4) (h0 : Heap) (n0 : Nat) (v : Option Value) (h : Heap) (L : List Loc) : Prop := ∃ na : Int64, ∃ nh : Int32, ∃ no : Int32, v = none ∧ Fr n0 L ∧ Keep h0 h [va, vi, vr] ∧ Fld Z h va "com/example/deferra/deferra/engine/Identities" "words" "I" (.int (1 : Int32)) ∧ Fld Z h va "com/example/deferra/deferra/engine/Identities" "ints" "[I" (.ref vi) ∧ Fld Z h va "com/example/deferra/deferra/engine/Identities" "numberAt" "I" (.int (16 : Int32)) ∧ Fld Z h va "com/example/deferra/deferra/engine/Identities" "colourAt" "I" (.int (32 : Int32)) ∧ Fld Z h va "com/example/deferra/deferra/engine/Identities" "holdersAt" "I" (.int (64 : Int32)) ∧ Fld Z h va "com/example/deferra/deferra/engine/Identities" "rows" "[J" (.ref vr) ∧ Fld Z h va "com/example/deferra/deferra/engine/Identities" "openCount" "I" (.int no) ∧ Ary Z h vi .int (own_I pp nh) ∧ Ary Z h vr .long (own_R na rb)
set_option maxRecDepth 65536 in
set_option maxHeartbeats 40000000 in
theorem rmcl (l : Launch) (Z : State) (a0 : Array Value) (hw : ∀ d ∈ tables_1, d.before a0 Z = true) (ws : List Jvm.Cond) (va : Addr) (vi : Addr) (vr : Addr) (pp : Fin 4 → Fin 4) (hd : Int32) (ra : Int64) (rb : Int64) (uo : Int32) (q : Fin 4) (h0 : Heap) (n0 : Nat) (Z0 : n0 ≤ h0.size) (E_va : Exa Z h0 va "com/example/deferra/deferra/engine/Identities") (F_words_va : Fld Z h0 va "com/example/deferra/deferra/engine/Identities" "words" "I" (.int (1 : Int32))) (F_ints_va : Fld Z h0 va "com/example/deferra/deferra/engine/Identities" "ints" "[I" (.ref vi)) (F_numberAt_va : Fld Z h0 va "com/example/deferra/deferra/engine/Identities" "numberAt" "I" (.int (16 : Int32))) (F_colourAt_va : Fld Z h0 va "com/example/deferra/deferra/engine/Identities" "colourAt" "I" (.int (32 : Int32))) (F_holdersAt_va : Fld Z h0 va "com/example/deferra/deferra/engine/Identities" "holdersAt" "I" (.int (64 : Int32))) (F_rows_va : Fld Z h0 va "com/example/deferra/deferra/engine/Identities" "rows" "[J" (.ref vr)) (F_openCount_va : Fld Z h0 va "com/example/deferra/deferra/engine/Identities" "openCount" "I" (.int uo)) (V_vi : Ary Z h0 vi .int (own_I pp hd)) (V_vr : Ary Z h0 vr .long (own_R ra rb)) (g_va : n0 ≤ va) (g_vi : n0 ≤ vi) (g_vr : n0 ≤ vr) (ne_va_vi : va ≠ vi) (ne_va_vr : va ≠ vr) (ne_vi_vr : vi ≠ vr) :
    MetFree l (⟨"com/example/deferra/deferra/engine/Identities", "close", "(I)V"⟩ : MethodName) (head1 (Jvm.Cond.code (⟨"com/example/deferra/deferra/engine/Identities", "close", "(I)V"⟩ : MethodName) prog_18_method_40_code 2 none :: ws) ({ frames := 1, cells := 0, slots := 0, locals := 15 } : Room)) (fun a U => a = #[(.ref va), (.int (own_n q))] ∧ Z.Warmed39 U.vm ∧ U.heap = h0) (fun _ _ _ _ _ => True) (fun _ U o U' => ∃ v L, o = .returned v ∧ Qcl Z va vi vr pp hd ra rb uo q h0 n0 v U'.heap L ∧ FrameEnd U o U' L 0 0) := by
  refine MetFree.of_bodySF (plainFor_of_name pn_13) hisR ?_
  intro p e s m args below meth c s₁ Bd hml0 hP hK
  obtain ⟨rfl, hZ, hh⟩ := hP
  have hx := Bd.exec
  have hby := Bd.bytes
  have hml : c.maxLocals = 2 := hml0
  have hown : s.vm.findClass "com/example/deferra/deferra/engine/Identities" = some m.cls := findClass_of_methodNamed Bd.named
  have hnm := (name_of_methodNamed Bd.named Bd.method).1
  have X0 : Stand p l e ({ frames := 1, cells := 0, slots := 0, locals := 15 } : Room) s m #[(.ref va), (.int (own_n q))] below meth c s₁ [] 0 0 := Stand.of_body Bd
  have e0 : s₁.heap = h0 := by rw [← hh, Bd.state]; rfl
  have N0 := Fr.nil n0
  have hlk : meth.locks = false := BodyLoose.notSynchronized Bd
  show Goal p e below s (Qcl Z va vi vr pp hd ra rb uo q h0 n0) 0 0 (s₁.setTop (entryFrame m #[(.ref va), (.int (own_n q))] 2))
  refine Goal.to (B := s₁.setTop (mkF m 0 #[.val (.ref va), .val (.int (own_n q))] [])) (fun tt kk => castTop (ef_13 m va (own_n q) ) kk) ?_
  refine Goal.to (B := s₁.setTop (mkF m 1 #[.val (.ref va), .val (.int (own_n q))] [(.ref va)])) (fun tt kk => ?_) ?_
  · show Steps p.tables e below (s₁.setTop (mkF m 0 #[.val (.ref va), .val (.int (own_n q))] [])) tt
    refine XS.aloadN X0.here hx rfl (hb hby d13_0) rfl rfl ?_
    exact kk
  obtain ⟨T1, X1, e1, st1⟩ := getF X0 hx hZ hown (host := "") (Or.inl (hw _ (mw 39 rfl))) Via.refl e0 F_rows_va (g := (mkF m 1 #[.val (.ref va), .val (.int (own_n q))] [(.ref va)])) rfl rfl (hb hby d13_1)
  refine Goal.to (B := T1.setTop (mkF m 4 #[.val (.ref va), .val (.int (own_n q))] [(.ref vr)])) st1 ?_
  refine Goal.to (B := T1.setTop (mkF m 6 #[.val (.ref va), .val (.int (own_n q))] [(.ref va), (.int (0 : Int32)), (.ref vr)])) (fun tt kk => ?_) ?_
  · show Steps p.tables e below (T1.setTop (mkF m 4 #[.val (.ref va), .val (.int (own_n q))] [(.ref vr)])) tt
    refine XS.iconst X1.here hx rfl (hb hby d13_4) ?_
    show Steps p.tables e below (T1.setTop (mkF m 5 #[.val (.ref va), .val (.int (own_n q))] [(.int (0 : Int32)), (.ref vr)])) tt
    refine XS.aloadN X1.here hx rfl (hb hby d13_5) rfl rfl ?_
    exact kk
  obtain ⟨T2, X2, e2, st2⟩ := getF X1 hx hZ hown (host := "") (Or.inl (hw _ (mw 14 rfl))) Via.refl e1 F_words_va (g := (mkF m 6 #[.val (.ref va), .val (.int (own_n q))] [(.ref va), (.int (0 : Int32)), (.ref vr)])) rfl rfl (hb hby d13_6)
  refine Goal.to (B := T2.setTop (mkF m 9 #[.val (.ref va), .val (.int (own_n q))] [(.int (1 : Int32)), (.int (0 : Int32)), (.ref vr)])) st2 ?_
  refine Goal.to (B := T2.setTop (mkF m 16 #[.val (.ref va), .val (.int (own_n q))] [(.int ((0 : Int32) + (((own_n q).toUInt32 >>> ((6 : Int32) &&& 31).toUInt32).toInt32))), (.ref vr), (.int ((0 : Int32) + (((own_n q).toUInt32 >>> ((6 : Int32) &&& 31).toUInt32).toInt32))), (.ref vr)])) (fun tt kk => ?_) ?_
  · show Steps p.tables e below (T2.setTop (mkF m 9 #[.val (.ref va), .val (.int (own_n q))] [(.int (1 : Int32)), (.int (0 : Int32)), (.ref vr)])) tt
    refine XS.imul X2.here hx rfl (hb hby d13_9) rfl ?_
    show Steps p.tables e below (T2.setTop (mkF m 10 #[.val (.ref va), .val (.int (own_n q))] [(.int (0 : Int32)), (.ref vr)])) tt
    refine XS.iloadN X2.here hx rfl (hb hby d13_10) rfl ?_
    show Steps p.tables e below (T2.setTop (mkF m 11 #[.val (.ref va), .val (.int (own_n q))] [(.int (own_n q)), (.int (0 : Int32)), (.ref vr)])) tt
    refine XS.bipush X2.here hx rfl (hb hby d13_11) ?_
    show Steps p.tables e below (T2.setTop (mkF m 13 #[.val (.ref va), .val (.int (own_n q))] [(.int (6 : Int32)), (.int (own_n q)), (.int (0 : Int32)), (.ref vr)])) tt
    refine XS.iushr X2.here hx rfl (hb hby d13_13) rfl ?_
    show Steps p.tables e below (T2.setTop (mkF m 14 #[.val (.ref va), .val (.int (own_n q))] [(.int (((own_n q).toUInt32 >>> ((6 : Int32) &&& 31).toUInt32).toInt32)), (.int (0 : Int32)), (.ref vr)])) tt
    refine XS.iadd X2.here hx rfl (hb hby d13_14) rfl ?_
    show Steps p.tables e below (T2.setTop (mkF m 15 #[.val (.ref va), .val (.int (own_n q))] [(.int ((0 : Int32) + (((own_n q).toUInt32 >>> ((6 : Int32) &&& 31).toUInt32).toInt32))), (.ref vr)])) tt
    refine Jvm.Free.XT.dup2 X2.here hx rfl (hb hby d13_15) rfl rfl rfl ?_
    exact kk
  obtain ⟨cl3, Ar3, Sl3⟩ := id V_vr
  have hin3 := inA (cl := cl3) Sl3 (j := ((0 : Int32) + (((own_n q).toUInt32 >>> ((6 : Int32) &&& 31).toUInt32).toInt32))) (own_ixc q).1 (by rw [(own_ixc q).2, own_lenR]; decide)
  have hat3 : cl3.slots[(((0 : Int32) + (((own_n q).toUInt32 >>> ((6 : Int32) &&& 31).toUInt32).toInt32))).toNatClampNeg]? = some (.long ra) := atA Sl3 (by rw [(own_ixc q).2]; rfl)
  refine Goal.to (B := T2.setTop (mkF m 25 #[.val (.ref va), .val (.int (own_n q))] [(.long (ra &&& (((1 : Int64) <<< ((own_n q) &&& 0x3f).toInt64) ^^^ (-1 : Int64)))), (.int ((0 : Int32) + (((own_n q).toUInt32 >>> ((6 : Int32) &&& 31).toUInt32).toInt32))), (.ref vr)])) (fun tt kk => ?_) ?_
  · show Steps p.tables e below (T2.setTop (mkF m 16 #[.val (.ref va), .val (.int (own_n q))] [(.int ((0 : Int32) + (((own_n q).toUInt32 >>> ((6 : Int32) &&& 31).toUInt32).toInt32))), (.ref vr), (.int ((0 : Int32) + (((own_n q).toUInt32 >>> ((6 : Int32) &&& 31).toUInt32).toInt32))), (.ref vr)])) tt
    refine X2.laload hx (j := ((0 : Int32) + (((own_n q).toUInt32 >>> ((6 : Int32) &&& 31).toUInt32).toInt32))) (v := (.long ra)) (by rw [e2]; exact Ar3.1) (State.isArrayOf_alike hZ.alike Ar3.2.1) Ar3.2.2 hin3 hat3 (g := (mkF m 16 #[.val (.ref va), .val (.int (own_n q))] [(.int ((0 : Int32) + (((own_n q).toUInt32 >>> ((6 : Int32) &&& 31).toUInt32).toInt32))), (.ref vr), (.int ((0 : Int32) + (((own_n q).toUInt32 >>> ((6 : Int32) &&& 31).toUInt32).toInt32))), (.ref vr)])) rfl rfl (hb hby d13_16) _ ?_
    show Steps p.tables e below (T2.setTop (mkF m 17 #[.val (.ref va), .val (.int (own_n q))] [(.long ra), (.int ((0 : Int32) + (((own_n q).toUInt32 >>> ((6 : Int32) &&& 31).toUInt32).toInt32))), (.ref vr)])) tt
    refine XS.lconst X2.here hx rfl (hb hby d13_17) ?_
    show Steps p.tables e below (T2.setTop (mkF m 18 #[.val (.ref va), .val (.int (own_n q))] [(.long (1 : Int64)), (.long ra), (.int ((0 : Int32) + (((own_n q).toUInt32 >>> ((6 : Int32) &&& 31).toUInt32).toInt32))), (.ref vr)])) tt
    refine XS.iloadN X2.here hx rfl (hb hby d13_18) rfl ?_
    show Steps p.tables e below (T2.setTop (mkF m 19 #[.val (.ref va), .val (.int (own_n q))] [(.int (own_n q)), (.long (1 : Int64)), (.long ra), (.int ((0 : Int32) + (((own_n q).toUInt32 >>> ((6 : Int32) &&& 31).toUInt32).toInt32))), (.ref vr)])) tt
    refine XS.lshl X2.here hx rfl (hb hby d13_19) rfl ?_
    show Steps p.tables e below (T2.setTop (mkF m 20 #[.val (.ref va), .val (.int (own_n q))] [(.long ((1 : Int64) <<< ((own_n q) &&& 0x3f).toInt64)), (.long ra), (.int ((0 : Int32) + (((own_n q).toUInt32 >>> ((6 : Int32) &&& 31).toUInt32).toInt32))), (.ref vr)])) tt
    refine X2.ldc2Long hx hown (mvT hZ (hw _ (mw 85 rfl))) (g := (mkF m 20 #[.val (.ref va), .val (.int (own_n q))] [(.long ((1 : Int64) <<< ((own_n q) &&& 0x3f).toInt64)), (.long ra), (.int ((0 : Int32) + (((own_n q).toUInt32 >>> ((6 : Int32) &&& 31).toUInt32).toInt32))), (.ref vr)])) rfl (hb hby d13_20) _ ?_
    show Steps p.tables e below (T2.setTop (mkF m 23 #[.val (.ref va), .val (.int (own_n q))] [(.long (-1 : Int64)), (.long ((1 : Int64) <<< ((own_n q) &&& 0x3f).toInt64)), (.long ra), (.int ((0 : Int32) + (((own_n q).toUInt32 >>> ((6 : Int32) &&& 31).toUInt32).toInt32))), (.ref vr)])) tt
    refine XS.lxor X2.here hx rfl (hb hby d13_23) rfl ?_
    show Steps p.tables e below (T2.setTop (mkF m 24 #[.val (.ref va), .val (.int (own_n q))] [(.long (((1 : Int64) <<< ((own_n q) &&& 0x3f).toInt64) ^^^ (-1 : Int64))), (.long ra), (.int ((0 : Int32) + (((own_n q).toUInt32 >>> ((6 : Int32) &&& 31).toUInt32).toInt32))), (.ref vr)])) tt
    refine XS.land X2.here hx rfl (hb hby d13_24) rfl ?_
    exact kk
  obtain ⟨cl4, Ar4, Sl4⟩ := id V_vr
  have hin4 := inA (cl := cl4) Sl4 (j := ((0 : Int32) + (((own_n q).toUInt32 >>> ((6 : Int32) &&& 31).toUInt32).toInt32))) (own_ixc q).1 (by rw [(own_ixc q).2, own_lenR]; decide)
  obtain ⟨T4, h4, X4, e4, W4, st4⟩ := stJ X2 hx hZ e2 Ar4 (j := ((0 : Int32) + (((own_n q).toUInt32 >>> ((6 : Int32) &&& 31).toUInt32).toInt32))) hin4 (g := (mkF m 25 #[.val (.ref va), .val (.int (own_n q))] [(.long (ra &&& (((1 : Int64) <<< ((own_n q) &&& 0x3f).toInt64) ^^^ (-1 : Int64)))), (.int ((0 : Int32) + (((own_n q).toUInt32 >>> ((6 : Int32) &&& 31).toUInt32).toInt32))), (.ref vr)])) rfl rfl (hb hby d13_25)
  have V4 : Ary Z h4 vr .long (((own_R ra rb)).set (0) (.long (ra &&& (((1 : Int64) <<< ((own_n q) &&& 0x3f).toInt64) ^^^ (-1 : Int64))))) := Ary.put Ar4 Sl4 W4 (own_ixc q).2
  have N4 := Fr.snoc X4 N0 g_vr
  refine Goal.to (B := T4.setTop (mkF m 26 #[.val (.ref va), .val (.int (own_n q))] [])) st4 ?_
  refine Goal.to (B := T4.setTop (mkF m 28 #[.val (.ref va), .val (.int (own_n q))] [(.ref va), (.ref va)])) (fun tt kk => ?_) ?_
  · show Steps p.tables e below (T4.setTop (mkF m 26 #[.val (.ref va), .val (.int (own_n q))] [])) tt
    refine XS.aloadN X4.here hx rfl (hb hby d13_26) rfl rfl ?_
    show Steps p.tables e below (T4.setTop (mkF m 27 #[.val (.ref va), .val (.int (own_n q))] [(.ref va)])) tt
    refine XS.dup X4.here hx rfl (hb hby d13_27) rfl rfl ?_
    exact kk
  have f5 : Fld Z h4 va "com/example/deferra/deferra/engine/Identities" "openCount" "I" (.int uo) := (F_openCount_va.other W4 (Or.inl ne_va_vr))
  obtain ⟨T6, X6, e6, st6⟩ := getF X4 hx hZ hown (host := "") (Or.inl (hw _ (mw 46 rfl))) Via.refl e4 f5 (g := (mkF m 28 #[.val (.ref va), .val (.int (own_n q))] [(.ref va), (.ref va)])) rfl rfl (hb hby d13_28)
  refine Goal.to (B := T6.setTop (mkF m 31 #[.val (.ref va), .val (.int (own_n q))] [(.int uo), (.ref va)])) st6 ?_
  refine Goal.to (B := T6.setTop (mkF m 33 #[.val (.ref va), .val (.int (own_n q))] [(.int (uo - (1 : Int32))), (.ref va)])) (fun tt kk => ?_) ?_
  · show Steps p.tables e below (T6.setTop (mkF m 31 #[.val (.ref va), .val (.int (own_n q))] [(.int uo), (.ref va)])) tt
    refine XS.iconst X6.here hx rfl (hb hby d13_31) ?_
    show Steps p.tables e below (T6.setTop (mkF m 32 #[.val (.ref va), .val (.int (own_n q))] [(.int (1 : Int32)), (.int uo), (.ref va)])) tt
    refine XS.isub X6.here hx rfl (hb hby d13_32) rfl ?_
    exact kk
  have f7 : Exa Z h4 va "com/example/deferra/deferra/engine/Identities" := (E_va.wr W4)
  obtain ⟨T8, h8, X8, e8, W8, st8⟩ := putF X6 hx hZ hown (host := "") (Or.inl (hw _ (mw 46 rfl))) Via.refl e6 f5 f7 (Or.inl (hw _ (mw 47 rfl))) (hw _ (mw 1 rfl)) (ty := .int) (by decide) rfl rfl (g := (mkF m 33 #[.val (.ref va), .val (.int (own_n q))] [(.int (uo - (1 : Int32))), (.ref va)])) rfl rfl (hb hby d13_33)
  have Fw8 : Fld Z h8 va "com/example/deferra/deferra/engine/Identities" "openCount" "I" (.int (uo - (1 : Int32))) := f5.same W8
  have N8 := Fr.snoc X8 N4 g_va
  refine Goal.to (B := T8.setTop (mkF m 36 #[.val (.ref va), .val (.int (own_n q))] [])) st8 ?_
  refine Goal.to (B := T8.setTop (mkF m 37 #[.val (.ref va), .val (.int (own_n q))] [(.ref va)])) (fun tt kk => ?_) ?_
  · show Steps p.tables e below (T8.setTop (mkF m 36 #[.val (.ref va), .val (.int (own_n q))] [])) tt
    refine XS.aloadN X8.here hx rfl (hb hby d13_36) rfl rfl ?_
    exact kk
  have f9 : Fld Z h8 va "com/example/deferra/deferra/engine/Identities" "ints" "[I" (.ref vi) := ((F_ints_va.other W4 (Or.inl ne_va_vr)).other W8 (Or.inr (slot_ne (Or.inl (hw _ (mw 25 rfl))) (Or.inl (hw _ (mw 47 rfl))) (by decide) (t := (.array .int)) (t' := .int) (by decide) (by decide))))
  obtain ⟨T10, X10, e10, st10⟩ := getF X8 hx hZ hown (host := "") (Or.inl (hw _ (mw 24 rfl))) Via.refl e8 f9 (g := (mkF m 37 #[.val (.ref va), .val (.int (own_n q))] [(.ref va)])) rfl rfl (hb hby d13_37)
  refine Goal.to (B := T10.setTop (mkF m 40 #[.val (.ref va), .val (.int (own_n q))] [(.ref vi)])) st10 ?_
  refine Goal.to (B := T10.setTop (mkF m 41 #[.val (.ref va), .val (.int (own_n q))] [(.ref va), (.ref vi)])) (fun tt kk => ?_) ?_
  · show Steps p.tables e below (T10.setTop (mkF m 40 #[.val (.ref va), .val (.int (own_n q))] [(.ref vi)])) tt
    refine XS.aloadN X10.here hx rfl (hb hby d13_40) rfl rfl ?_
    exact kk
  have f11 : Fld Z h8 va "com/example/deferra/deferra/engine/Identities" "holdersAt" "I" (.int (64 : Int32)) := ((F_holdersAt_va.other W4 (Or.inl ne_va_vr)).other W8 (Or.inr (slot_ne (Or.inl (hw _ (mw 37 rfl))) (Or.inl (hw _ (mw 47 rfl))) (by decide) (t := .int) (t' := .int) (by decide) (by decide))))
  obtain ⟨T12, X12, e12, st12⟩ := getF X10 hx hZ hown (host := "") (Or.inl (hw _ (mw 36 rfl))) Via.refl e10 f11 (g := (mkF m 41 #[.val (.ref va), .val (.int (own_n q))] [(.ref va), (.ref vi)])) rfl rfl (hb hby d13_41)
  refine Goal.to (B := T12.setTop (mkF m 44 #[.val (.ref va), .val (.int (own_n q))] [(.int (64 : Int32)), (.ref vi)])) st12 ?_
  refine Goal.to (B := T12.setTop (mkF m 46 #[.val (.ref va), .val (.int (own_n q))] [(.int (own_n q)), (.ref va), (.int (64 : Int32)), (.ref vi)])) (fun tt kk => ?_) ?_
  · show Steps p.tables e below (T12.setTop (mkF m 44 #[.val (.ref va), .val (.int (own_n q))] [(.int (64 : Int32)), (.ref vi)])) tt
    refine XS.aloadN X12.here hx rfl (hb hby d13_44) rfl rfl ?_
    show Steps p.tables e below (T12.setTop (mkF m 45 #[.val (.ref va), .val (.int (own_n q))] [(.ref va), (.int (64 : Int32)), (.ref vi)])) tt
    refine XS.iloadN X12.here hx rfl (hb hby d13_45) rfl ?_
    exact kk
  have f13 : Fld Z h8 va "com/example/deferra/deferra/engine/Identities" "colourAt" "I" (.int (32 : Int32)) := ((F_colourAt_va.other W4 (Or.inl ne_va_vr)).other W8 (Or.inr (slot_ne (Or.inl (hw _ (mw 33 rfl))) (Or.inl (hw _ (mw 47 rfl))) (by decide) (t := .int) (t' := .int) (by decide) (by decide))))
  have f14 : Ary Z h8 vi .int (own_I pp hd) := ((V_vi.other W4 ne_vi_vr).other W8 (Ne.symm ne_va_vi))
  have f15 : n0 ≤ h8.size := (Nat.le_trans (Nat.le_trans Z0 (Keep.of_wr W4).1) (Keep.of_wr W8).1)
  have f17 : Exa Z h8 va "com/example/deferra/deferra/engine/Identities" := (f7.wr W8)
  obtain ⟨cq16, q16, q16'⟩ := f17.cell
  obtain ⟨_, _, ⟨T16, L16, k16, n16⟩, -, X16, ⟨Lc16, hQ16, l16, y16, z16⟩, st16⟩ := X12.privateBack hx (y := (⟨"com/example/deferra/deferra/engine/Identities", "colour", "(I)I"⟩ : MethodName)) hown (mvT hZ (hw _ (mw 68 rfl))) (mvT hZ (hw _ (mw 69 rfl))) (selP hZ (hw _ (mw 1 rfl)) (hw _ (mw 70 rfl)) (hw _ (mw 69 rfl)) (by decide)) (Cond.privateMethod_at (mvP hZ (hw _ (mw 70 rfl)) (args := #[]))) (mvT hZ (hw _ (mw 71 rfl))) (by decide) (backOf (W := 2) (rmco l Z a0 hw [] va vi pp hd q h8 n0 f15 f9 f13 f14) hZ (hw _ (mw 71 rfl)) (hw _ (mw 2 rfl)) (by decide) (by decide)) (g := (mkF m 46 #[.val (.ref va), .val (.int (own_n q))] [(.int (own_n q)), (.ref va), (.int (64 : Int32)), (.ref vi)])) rfl (by rw [hml]; rfl) (Steps.refl _) (a := va) (by rw [e12]; exact q16) q16' (argsL := [(.int (own_n q))]) (rest := [(.int (64 : Int32)), (.ref vi)]) (lenOf pd_2 rfl) rfl (by show 2 * 0 + _ ≤ _; exact Nat.le_of_eq rfl) (hb hby d13_46) (fun _ _ => ⟨rfl, e12, (by decide : 0 + 0 ≤ _), (by decide : 0 + 0 ≤ _)⟩)
  dsimp only [Pt.U, Pt.locs, Pt.cells, Pt.slots] at X16 l16 y16 z16 st16 hQ16
  subst l16 y16 z16
  obtain ⟨rfl, N16q, e16⟩ := hQ16
  have N16 := Fr.app N8 N16q
  refine Goal.tr (B := T16.setTop (mkF m 49 #[.val (.ref va), .val (.int (own_n q))] [(.int (-1 : Int32)), (.int (64 : Int32)), (.ref vi)])) st16 ?_
  refine Goal.to (B := T16.setTop (mkF m 53 #[.val (.ref va), .val (.int (own_n q))] [(.int (64 : Int32)), (.ref vi), (.int (64 : Int32)), (.ref vi)])) (fun tt kk => ?_) ?_
  · show Steps p.tables e below (T16.setTop (mkF m 49 #[.val (.ref va), .val (.int (own_n q))] [(.int (-1 : Int32)), (.int (64 : Int32)), (.ref vi)])) tt
    refine XS.iadd X16.here hx rfl (hb hby d13_49) rfl ?_
    show Steps p.tables e below (T16.setTop (mkF m 50 #[.val (.ref va), .val (.int (own_n q))] [(.int (63 : Int32)), (.ref vi)])) tt
    refine XS.iconst X16.here hx rfl (hb hby d13_50) ?_
    show Steps p.tables e below (T16.setTop (mkF m 51 #[.val (.ref va), .val (.int (own_n q))] [(.int (1 : Int32)), (.int (63 : Int32)), (.ref vi)])) tt
    refine XS.iadd X16.here hx rfl (hb hby d13_51) rfl ?_
    show Steps p.tables e below (T16.setTop (mkF m 52 #[.val (.ref va), .val (.int (own_n q))] [(.int (64 : Int32)), (.ref vi)])) tt
    refine Jvm.Free.XT.dup2 X16.here hx rfl (hb hby d13_52) rfl rfl rfl ?_
    exact kk
  obtain ⟨cl18, Ar18, Sl18⟩ := id f14
  have hin18 := inA (cl := cl18) Sl18 (j := (64 : Int32)) (by decide) (by rw [own_lenI]; decide)
  have hat18 : cl18.slots[((64 : Int32)).toNatClampNeg]? = some (.int hd) := atA Sl18 rfl
  refine Goal.to (B := T16.setTop (mkF m 56 #[.val (.ref va), .val (.int (own_n q))] [(.int (hd - (1 : Int32))), (.int (64 : Int32)), (.ref vi)])) (fun tt kk => ?_) ?_
  · show Steps p.tables e below (T16.setTop (mkF m 53 #[.val (.ref va), .val (.int (own_n q))] [(.int (64 : Int32)), (.ref vi), (.int (64 : Int32)), (.ref vi)])) tt
    refine X16.iaload hx (j := (64 : Int32)) (v := (.int hd)) (by rw [e16]; exact Ar18.1) (State.isArrayOf_alike hZ.alike Ar18.2.1) Ar18.2.2 hin18 hat18 (g := (mkF m 53 #[.val (.ref va), .val (.int (own_n q))] [(.int (64 : Int32)), (.ref vi), (.int (64 : Int32)), (.ref vi)])) rfl rfl (hb hby d13_53) _ ?_
    show Steps p.tables e below (T16.setTop (mkF m 54 #[.val (.ref va), .val (.int (own_n q))] [(.int hd), (.int (64 : Int32)), (.ref vi)])) tt
    refine XS.iconst X16.here hx rfl (hb hby d13_54) ?_
    show Steps p.tables e below (T16.setTop (mkF m 55 #[.val (.ref va), .val (.int (own_n q))] [(.int (1 : Int32)), (.int hd), (.int (64 : Int32)), (.ref vi)])) tt
    refine XS.isub X16.here hx rfl (hb hby d13_55) rfl ?_
    exact kk
  obtain ⟨cl19, Ar19, Sl19⟩ := id f14
  have hin19 := inA (cl := cl19) Sl19 (j := (64 : Int32)) (by decide) (by rw [own_lenI]; decide)
  obtain ⟨T19, h19, X19, e19, W19, st19⟩ := stI X16 hx hZ e16 Ar19 (j := (64 : Int32)) hin19 (g := (mkF m 56 #[.val (.ref va), .val (.int (own_n q))] [(.int (hd - (1 : Int32))), (.int (64 : Int32)), (.ref vi)])) rfl rfl (hb hby d13_56)
  have V19 : Ary Z h19 vi .int (((own_I pp hd)).set (64) (.int (hd - (1 : Int32)))) := Ary.put Ar19 Sl19 W19 rfl
  have N19 := Fr.snoc X19 N16 g_vi
  refine Goal.to (B := T19.setTop (mkF m 57 #[.val (.ref va), .val (.int (own_n q))] [])) st19 ?_
  have f20 : Keep h0 h19 [va, vi, vr] := ((((Keep.refl h0 [va, vi, vr]).wr W4 (Or.inl (List.mem_of_getElem? (i := 2) rfl))).wr W8 (Or.inl (List.mem_of_getElem? (i := 0) rfl))).wr W19 (Or.inl (List.mem_of_getElem? (i := 1) rfl)))
  have f21 : Fld Z h19 va "com/example/deferra/deferra/engine/Identities" "words" "I" (.int (1 : Int32)) := (((F_words_va.other W4 (Or.inl ne_va_vr)).other W8 (Or.inr (slot_ne (Or.inl (hw _ (mw 15 rfl))) (Or.inl (hw _ (mw 47 rfl))) (by decide) (t := .int) (t' := .int) (by decide) (by decide)))).other W19 (Or.inl ne_va_vi))
  have f22 : Fld Z h19 va "com/example/deferra/deferra/engine/Identities" "ints" "[I" (.ref vi) := (f9.other W19 (Or.inl ne_va_vi))
  have f23 : Fld Z h19 va "com/example/deferra/deferra/engine/Identities" "numberAt" "I" (.int (16 : Int32)) := (((F_numberAt_va.other W4 (Or.inl ne_va_vr)).other W8 (Or.inr (slot_ne (Or.inl (hw _ (mw 31 rfl))) (Or.inl (hw _ (mw 47 rfl))) (by decide) (t := .int) (t' := .int) (by decide) (by decide)))).other W19 (Or.inl ne_va_vi))
  have f24 : Fld Z h19 va "com/example/deferra/deferra/engine/Identities" "colourAt" "I" (.int (32 : Int32)) := (f13.other W19 (Or.inl ne_va_vi))
  have f25 : Fld Z h19 va "com/example/deferra/deferra/engine/Identities" "holdersAt" "I" (.int (64 : Int32)) := (f11.other W19 (Or.inl ne_va_vi))
  have f26 : Fld Z h19 va "com/example/deferra/deferra/engine/Identities" "rows" "[J" (.ref vr) := (((F_rows_va.other W4 (Or.inl ne_va_vr)).other W8 (Or.inr (slot_ne (Or.inl (hw _ (mw 40 rfl))) (Or.inl (hw _ (mw 47 rfl))) (by decide) (t := (.array .long)) (t' := .int) (by decide) (by decide)))).other W19 (Or.inl ne_va_vi))
  have f27 : Fld Z h19 va "com/example/deferra/deferra/engine/Identities" "openCount" "I" (.int (uo - (1 : Int32))) := (Fw8.other W19 (Or.inl ne_va_vi))
  have f28 : Ary Z h19 vr .long (((own_R ra rb)).set (0) (.long (ra &&& (((1 : Int64) <<< ((own_n q) &&& 0x3f).toInt64) ^^^ (-1 : Int64))))) := ((V4.other W8 (Ne.symm ne_va_vr)).other W19 (Ne.symm ne_vi_vr))
  exact Goal.retN X19 hx Bd.returns (hb hby d13_57) hlk e19 ⟨(ra &&& (((1 : Int64) <<< ((own_n q) &&& 0x3f).toInt64) ^^^ (-1 : Int64))), (hd - (1 : Int32)), (uo - (1 : Int32)), rfl, N19, f20, f21, f22, f23, f24, f25, f26, f27, (Ary.cast V19 (by rfl : ((((own_I pp hd)).set (64) (.int (hd - (1 : Int32)))) : List Value) = (own_I pp (hd - (1 : Int32))))), (Ary.cast f28 (by rfl : ((((own_R ra rb)).set (0) (.long (ra &&& (((1 : Int64) <<< ((own_n q) &&& 0x3f).toInt64) ^^^ (-1 : Int64))))) : List Value) = (own_R (ra &&& (((1 : Int64) <<< ((own_n q) &&& 0x3f).toInt64) ^^^ (-1 : Int64))) rb)))⟩ (by decide) (by decide)
theorem ef_11 (m : MethodId) (x0 : Addr) (x1 : Int32) (x2 : Int32)  : entryFrame m #[(.ref x0), (.int x1), (.int x2)] 10 = mkF m 0 #[.val (.ref x0), .val (.int x1), .val (.int x2), .unset, .unset, .unset, .unset, .unset, .unset, .unset] [] := by first | (simp [entryFrame, mkF, argsToLocals, Value.category]; done) | rfl
theorem pn_11 : plainName "com/example/deferra/deferra/engine/Identities" = true := by first | (simp [plainName, overriddenIn]; done) | decide +kernel
theorem d11_0 : decode prog_18_method_16_code 0 = .ok (.aload_n 0, 1) := by decide +kernel
theorem d11_1 : decode prog_18_method_16_code 1 = .ok (.iload_n 2, 1) := by decide +kernel
theorem d11_2 : decode prog_18_method_16_code 2 = .ok (.invokevirtual 149, 3) := by decide +kernel
theorem d11_5 : decode prog_18_method_16_code 5 = .ok (.bipush (-2), 2) := by decide +kernel
theorem d11_7 : decode prog_18_method_16_code 7 = .ok (.if_icmp .eq 7, 3) := by decide +kernel
theorem d11_10 : decode prog_18_method_16_code 10 = .ok (.iload_n 2, 1) := by decide +kernel
theorem d11_11 : decode prog_18_method_16_code 11 = .ok (.goto 4, 3) := by decide +kernel
theorem d11_15 : decode prog_18_method_16_code 15 = .ok (.istore_n 3, 1) := by decide +kernel
theorem d11_16 : decode prog_18_method_16_code 16 = .ok (.iload_n 3, 1) := by decide +kernel
theorem d11_17 : decode prog_18_method_16_code 17 = .ok (.iload_n 1, 1) := by decide +kernel
theorem d11_18 : decode prog_18_method_16_code 18 = .ok (.if_icmp .ne 7, 3) := by decide +kernel
theorem d11_25 : decode prog_18_method_16_code 25 = .ok (.iload_n 1, 1) := by decide +kernel
theorem d11_26 : decode prog_18_method_16_code 26 = .ok (.istore 4, 2) := by decide +kernel
theorem d11_28 : decode prog_18_method_16_code 28 = .ok (.aload_n 0, 1) := by decide +kernel
theorem d11_29 : decode prog_18_method_16_code 29 = .ok (.getfield 30, 3) := by decide +kernel
theorem d11_32 : decode prog_18_method_16_code 32 = .ok (.iload 4, 2) := by decide +kernel
theorem d11_34 : decode prog_18_method_16_code 34 = .ok (.iload_n 3, 1) := by decide +kernel
theorem d11_35 : decode prog_18_method_16_code 35 = .ok (.iastore, 1) := by decide +kernel
theorem d11_36 : decode prog_18_method_16_code 36 = .ok (.aload_n 0, 1) := by decide +kernel
theorem d11_37 : decode prog_18_method_16_code 37 = .ok (.iload 4, 2) := by decide +kernel
theorem pd_9 : parseMethodDescriptor "(I)V" = some ⟨[.int], none⟩ := by decide +kernel
theorem d11_39 : decode prog_18_method_16_code 39 = .ok (.invokevirtual 142, 3) := by decide +kernel
theorem d11_42 : decode prog_18_method_16_code 42 = .ok (.aload_n 0, 1) := by decide +kernel
theorem d11_43 : decode prog_18_method_16_code 43 = .ok (.iload_n 3, 1) := by decide +kernel
theorem d11_44 : decode prog_18_method_16_code 44 = .ok (.invokevirtual 71, 3) := by decide +kernel
theorem d11_47 : decode prog_18_method_16_code 47 = .ok (.istore 5, 2) := by decide +kernel
theorem d11_49 : decode prog_18_method_16_code 49 = .ok (.aload_n 0, 1) := by decide +kernel
theorem d11_50 : decode prog_18_method_16_code 50 = .ok (.iload 4, 2) := by decide +kernel
theorem d11_52 : decode prog_18_method_16_code 52 = .ok (.invokevirtual 71, 3) := by decide +kernel
theorem d11_55 : decode prog_18_method_16_code 55 = .ok (.istore 6, 2) := by decide +kernel
theorem d11_57 : decode prog_18_method_16_code 57 = .ok (.iconst 0, 1) := by decide +kernel
theorem d11_58 : decode prog_18_method_16_code 58 = .ok (.istore 7, 2) := by decide +kernel
theorem d11_60 : decode prog_18_method_16_code 60 = .ok (.iload 7, 2) := by decide +kernel
theorem d11_62 : decode prog_18_method_16_code 62 = .ok (.aload_n 0, 1) := by decide +kernel
theorem d11_63 : decode prog_18_method_16_code 63 = .ok (.getfield 16, 3) := by decide +kernel
theorem d11_66 : decode prog_18_method_16_code 66 = .ok (.if_icmp .ge 71, 3) := by decide +kernel
theorem d11_69 : decode prog_18_method_16_code 69 = .ok (.aload_n 0, 1) := by decide +kernel
theorem d11_70 : decode prog_18_method_16_code 70 = .ok (.getfield 37, 3) := by decide +kernel
theorem d11_73 : decode prog_18_method_16_code 73 = .ok (.iload 6, 2) := by decide +kernel
theorem d11_75 : decode prog_18_method_16_code 75 = .ok (.iload 7, 2) := by decide +kernel
theorem d11_77 : decode prog_18_method_16_code 77 = .ok (.iadd, 1) := by decide +kernel
theorem d11_78 : decode prog_18_method_16_code 78 = .ok (.laload, 1) := by decide +kernel
theorem d11_79 : decode prog_18_method_16_code 79 = .ok (.lstore 8, 2) := by decide +kernel
theorem d11_81 : decode prog_18_method_16_code 81 = .ok (.aload_n 0, 1) := by decide +kernel
theorem d11_82 : decode prog_18_method_16_code 82 = .ok (.getfield 37, 3) := by decide +kernel
theorem d11_85 : decode prog_18_method_16_code 85 = .ok (.iload 5, 2) := by decide +kernel
theorem d11_87 : decode prog_18_method_16_code 87 = .ok (.iload 7, 2) := by decide +kernel
theorem d11_89 : decode prog_18_method_16_code 89 = .ok (.iadd, 1) := by decide +kernel
theorem d11_90 : decode prog_18_method_16_code 90 = .ok (.dup2, 1) := by decide +kernel
theorem d11_91 : decode prog_18_method_16_code 91 = .ok (.laload, 1) := by decide +kernel
theorem d11_92 : decode prog_18_method_16_code 92 = .ok (.lload 8, 2) := by decide +kernel
theorem d11_94 : decode prog_18_method_16_code 94 = .ok (.lor, 1) := by decide +kernel
theorem d11_95 : decode prog_18_method_16_code 95 = .ok (.lastore, 1) := by decide +kernel
theorem d11_96 : decode prog_18_method_16_code 96 = .ok (.lload 8, 2) := by decide +kernel
theorem d11_98 : decode prog_18_method_16_code 98 = .ok (.lconst 0, 1) := by decide +kernel
theorem d11_99 : decode prog_18_method_16_code 99 = .ok (.lcmp, 1) := by decide +kernel
theorem d11_100 : decode prog_18_method_16_code 100 = .ok (.ifCond .eq 31, 3) := by decide +kernel
theorem d11_131 : decode prog_18_method_16_code 131 = .ok (.iinc 7 1, 3) := by decide +kernel
theorem d11_134 : decode prog_18_method_16_code 134 = .ok (.goto (-74), 3) := by decide +kernel
theorem d11_137 : decode prog_18_method_16_code 137 = .ok (.return_, 1) := by decide +kernel
theorem d11_14 : decode prog_18_method_16_code 14 = .ok (.iload_n 1, 1) := by decide +kernel
theorem d11_21 : decode prog_18_method_16_code 21 = .ok (.iload_n 2, 1) := by decide +kernel
theorem d11_22 : decode prog_18_method_16_code 22 = .ok (.goto 4, 3) := by decide +kernel
def Qmg (Z : State) (va : Addr) (vi : Addr) (vr : Addr) (pp : Fin 4 → Fin 4) (hd : Int32) (ra : Int64) (rb : Int64) (uo : Int32) (qa : Fin 4) (qb : Fin 4) (h0 : Heap) (n0 : Nat) (v : Option Value) (h : Heap) (L : List Loc) : Prop := ∃ na : Int64, ∃ nh : Int32, ∃ no : Int32, v = none ∧ Fr n0 L ∧ Keep h0 h [va, vi, vr] ∧ Fld Z h va "com/example/deferra/deferra/engine/Identities" "words" "I" (.int (1 : Int32)) ∧ Fld Z h va "com/example/deferra/deferra/engine/Identities" "ints" "[I" (.ref vi) ∧ Fld Z h va "com/example/deferra/deferra/engine/Identities" "numberAt" "I" (.int (16 : Int32)) ∧ Fld Z h va "com/example/deferra/deferra/engine/Identities" "colourAt" "I" (.int (32 : Int32)) ∧ Fld Z h va "com/example/deferra/deferra/engine/Identities" "holdersAt" "I" (.int (64 : Int32)) ∧ Fld Z h va "com/example/deferra/deferra/engine/Identities" "rows" "[J" (.ref vr) ∧ Fld Z h va "com/example/deferra/deferra/engine/Identities" "openCount" "I" (.int no) ∧ Ary Z h vi .int (own_I (own_m pp qa qb) nh) ∧ Ary Z h vr .long (own_R na rb)
set_option maxRecDepth 65536 in
set_option maxHeartbeats 40000000 in
theorem rmmg (l : Launch) (Z : State) (a0 : Array Value) (hw : ∀ d ∈ tables_1, d.before a0 Z = true) (ws : List Jvm.Cond) (va : Addr) (vi : Addr) (vr : Addr) (pp : Fin 4 → Fin 4) (hd : Int32) (ra : Int64) (rb : Int64) (uo : Int32) (qa : Fin 4) (qb : Fin 4) (h0 : Heap) (n0 : Nat) (Z0 : n0 ≤ h0.size) (E_va : Exa Z h0 va "com/example/deferra/deferra/engine/Identities") (F_words_va : Fld Z h0 va "com/example/deferra/deferra/engine/Identities" "words" "I" (.int (1 : Int32))) (F_ints_va : Fld Z h0 va "com/example/deferra/deferra/engine/Identities" "ints" "[I" (.ref vi)) (F_numberAt_va : Fld Z h0 va "com/example/deferra/deferra/engine/Identities" "numberAt" "I" (.int (16 : Int32))) (F_colourAt_va : Fld Z h0 va "com/example/deferra/deferra/engine/Identities" "colourAt" "I" (.int (32 : Int32))) (F_holdersAt_va : Fld Z h0 va "com/example/deferra/deferra/engine/Identities" "holdersAt" "I" (.int (64 : Int32))) (F_rows_va : Fld Z h0 va "com/example/deferra/deferra/engine/Identities" "rows" "[J" (.ref vr)) (F_openCount_va : Fld Z h0 va "com/example/deferra/deferra/engine/Identities" "openCount" "I" (.int uo)) (V_vi : Ary Z h0 vi .int (own_I pp hd)) (V_vr : Ary Z h0 vr .long (own_R ra rb)) (g_va : n0 ≤ va) (g_vi : n0 ≤ vi) (g_vr : n0 ≤ vr) (ne_va_vi : va ≠ vi) (ne_va_vr : va ≠ vr) (ne_vi_vr : vi ≠ vr) (hne : qa ≠ qb) :
    MetFree l (⟨"com/example/deferra/deferra/engine/Identities", "merge", "(II)V"⟩ : MethodName) (head1 (Jvm.Cond.code (⟨"com/example/deferra/deferra/engine/Identities", "merge", "(II)V"⟩ : MethodName) prog_18_method_16_code 10 none :: ws) ({ frames := 2, cells := 0, slots := 0, locals := 28 } : Room)) (fun a U => a = #[(.ref va), (.int (own_n qa)), (.int (own_n qb))] ∧ Z.Warmed39 U.vm ∧ U.heap = h0) (fun _ _ _ _ _ => True) (fun _ U o U' => ∃ v L, o = .returned v ∧ Qmg Z va vi vr pp hd ra rb uo qa qb h0 n0 v U'.heap L ∧ FrameEnd U o U' L 0 0) := by
  refine MetFree.of_bodySF (plainFor_of_name pn_11) hisR ?_
  intro p e s m args below meth c s₁ Bd hml0 hP hK
  obtain ⟨rfl, hZ, hh⟩ := hP
  have hx := Bd.exec
  have hby := Bd.bytes
  have hml : c.maxLocals = 10 := hml0
  have hown : s.vm.findClass "com/example/deferra/deferra/engine/Identities" = some m.cls := findClass_of_methodNamed Bd.named
  have hnm := (name_of_methodNamed Bd.named Bd.method).1
  have X0 : Stand p l e ({ frames := 2, cells := 0, slots := 0, locals := 28 } : Room) s m #[(.ref va), (.int (own_n qa)), (.int (own_n qb))] below meth c s₁ [] 0 0 := Stand.of_body Bd
  have e0 : s₁.heap = h0 := by rw [← hh, Bd.state]; rfl
  have N0 := Fr.nil n0
  have hlk : meth.locks = false := BodyLoose.notSynchronized Bd
  show Goal p e below s (Qmg Z va vi vr pp hd ra rb uo qa qb h0 n0) 0 0 (s₁.setTop (entryFrame m #[(.ref va), (.int (own_n qa)), (.int (own_n qb))] 10))
  refine Goal.to (B := s₁.setTop (mkF m 0 #[.val (.ref va), .val (.int (own_n qa)), .val (.int (own_n qb)), .unset, .unset, .unset, .unset, .unset, .unset, .unset] [])) (fun tt kk => castTop (ef_11 m va (own_n qa) (own_n qb) ) kk) ?_
  by_cases hk0 : qb = 0
  · refine Goal.to (B := s₁.setTop (mkF m 2 #[.val (.ref va), .val (.int (own_n qa)), .val (.int (own_n qb)), .unset, .unset, .unset, .unset, .unset, .unset, .unset] [(.int (own_n qb)), (.ref va)])) (fun tt kk => ?_) ?_
    · show Steps p.tables e below (s₁.setTop (mkF m 0 #[.val (.ref va), .val (.int (own_n qa)), .val (.int (own_n qb)), .unset, .unset, .unset, .unset, .unset, .unset, .unset] [])) tt
      refine XS.aloadN X0.here hx rfl (hb hby d11_0) rfl rfl ?_
      show Steps p.tables e below (s₁.setTop (mkF m 1 #[.val (.ref va), .val (.int (own_n qa)), .val (.int (own_n qb)), .unset, .unset, .unset, .unset, .unset, .unset, .unset] [(.ref va)])) tt
      refine XS.iloadN X0.here hx rfl (hb hby d11_1) rfl ?_
      exact kk
    obtain ⟨cq1, kq1, q1a, q1b, q1c⟩ := isOf hZ e0 E_va
    obtain ⟨_, _, ⟨T1, L1, k1, n1⟩, -, X1, ⟨Lc1, hQ1, l1, y1, z1⟩, st1⟩ := X0.virtualBack hx (y := (⟨"com/example/deferra/deferra/engine/Identities", "number", "(I)I"⟩ : MethodName)) (z := (⟨"com/example/deferra/deferra/engine/Identities", "number", "(I)I"⟩ : MethodName)) hown (mvT hZ (hw _ (mw 76 rfl))) (mvT hZ (hw _ (mw 77 rfl))) (notFace_of_selects (args := #[]) (mvT hZ (hw _ (mw 79 rfl)))) (mvT hZ (hw _ (mw 79 rfl))) (mvT hZ (hw _ (mw 78 rfl))) (by decide) (backOf (W := 0) (rmnu l Z a0 hw [] va vi pp hd qb h0 n0 Z0 F_ints_va F_numberAt_va V_vi) hZ (hw _ (mw 80 rfl)) (hw _ (mw 2 rfl)) (by decide) (by decide)) q1a q1c (g := (mkF m 2 #[.val (.ref va), .val (.int (own_n qa)), .val (.int (own_n qb)), .unset, .unset, .unset, .unset, .unset, .unset, .unset] [(.int (own_n qb)), (.ref va)])) rfl (by rw [hml]; rfl) (Steps.refl _) (argsL := [(.int (own_n qb))]) (rest := []) (lenOf pd_2 rfl) rfl (by show 2 * 0 + _ ≤ _; exact Nat.le_of_eq rfl) (hb hby d11_2) (fun _ _ => ⟨rfl, e0, (by decide : 0 + 0 ≤ _), (by decide : 0 + 0 ≤ _)⟩)
    dsimp only [Pt.U, Pt.locs, Pt.cells, Pt.slots] at X1 l1 y1 z1 st1 hQ1
    subst l1 y1 z1
    obtain ⟨rfl, N1q, e1⟩ := hQ1
    have N1 := Fr.app N0 N1q
    refine Goal.tr (B := T1.setTop (mkF m 5 #[.val (.ref va), .val (.int (own_n qa)), .val (.int (own_n qb)), .unset, .unset, .unset, .unset, .unset, .unset, .unset] [(.int (if qb = 0 then (-1 : Int32) else (-2 : Int32)))])) st1 ?_
    refine Goal.to (B := T1.setTop (mkF m 29 #[.val (.ref va), .val (.int (own_n qa)), .val (.int (own_n qb)), .val (.int (own_n qb)), .val (.int (own_n qa)), .unset, .unset, .unset, .unset, .unset] [(.ref va)])) (fun tt kk => ?_) ?_
    · show Steps p.tables e below (T1.setTop (mkF m 5 #[.val (.ref va), .val (.int (own_n qa)), .val (.int (own_n qb)), .unset, .unset, .unset, .unset, .unset, .unset, .unset] [(.int (if qb = 0 then (-1 : Int32) else (-2 : Int32)))])) tt
      refine XS.bipush X1.here hx rfl (hb hby d11_5) ?_
      show Steps p.tables e below (T1.setTop (mkF m 7 #[.val (.ref va), .val (.int (own_n qa)), .val (.int (own_n qb)), .unset, .unset, .unset, .unset, .unset, .unset, .unset] [(.int (-2 : Int32)), (.int (if qb = 0 then (-1 : Int32) else (-2 : Int32)))])) tt
      refine XS.icmpNo X1.here hx rfl (hb hby d11_7) rfl (feq (by rw [if_pos hk0]; decide : ¬ ((if qb = 0 then (-1 : Int32) else (-2 : Int32)) = (-2 : Int32)))).1 ?_
      show Steps p.tables e below (T1.setTop (mkF m 10 #[.val (.ref va), .val (.int (own_n qa)), .val (.int (own_n qb)), .unset, .unset, .unset, .unset, .unset, .unset, .unset] [])) tt
      refine XS.iloadN X1.here hx rfl (hb hby d11_10) rfl ?_
      show Steps p.tables e below (T1.setTop (mkF m 11 #[.val (.ref va), .val (.int (own_n qa)), .val (.int (own_n qb)), .unset, .unset, .unset, .unset, .unset, .unset, .unset] [(.int (own_n qb))])) tt
      refine XS.goto X1.here hx rfl (pc0 := 11) (pc' := 15) rfl (hb hby d11_11) (by decide) (by decide) ?_
      show Steps p.tables e below (T1.setTop (mkF m 15 #[.val (.ref va), .val (.int (own_n qa)), .val (.int (own_n qb)), .unset, .unset, .unset, .unset, .unset, .unset, .unset] [(.int (own_n qb))])) tt
      refine XS.istoreN X1.here hx rfl (hb hby d11_15) rfl (l' := #[.val (.ref va), .val (.int (own_n qa)), .val (.int (own_n qb)), .val (.int (own_n qb)), .unset, .unset, .unset, .unset, .unset, .unset]) rfl ?_
      show Steps p.tables e below (T1.setTop (mkF m 16 #[.val (.ref va), .val (.int (own_n qa)), .val (.int (own_n qb)), .val (.int (own_n qb)), .unset, .unset, .unset, .unset, .unset, .unset] [])) tt
      refine XS.iloadN X1.here hx rfl (hb hby d11_16) rfl ?_
      show Steps p.tables e below (T1.setTop (mkF m 17 #[.val (.ref va), .val (.int (own_n qa)), .val (.int (own_n qb)), .val (.int (own_n qb)), .unset, .unset, .unset, .unset, .unset, .unset] [(.int (own_n qb))])) tt
      refine XS.iloadN X1.here hx rfl (hb hby d11_17) rfl ?_
      show Steps p.tables e below (T1.setTop (mkF m 18 #[.val (.ref va), .val (.int (own_n qa)), .val (.int (own_n qb)), .val (.int (own_n qb)), .unset, .unset, .unset, .unset, .unset, .unset] [(.int (own_n qa)), (.int (own_n qb))])) tt
      refine XS.icmpYes X1.here hx rfl (pc0 := 18) (pc' := 25) rfl (hb hby d11_18) rfl (feq (fun q => hne (own_inj _ _ q).symm : ¬ ((own_n qb) = (own_n qa)))).2 (by decide) (by decide) ?_
      show Steps p.tables e below (T1.setTop (mkF m 25 #[.val (.ref va), .val (.int (own_n qa)), .val (.int (own_n qb)), .val (.int (own_n qb)), .unset, .unset, .unset, .unset, .unset, .unset] [])) tt
      refine XS.iloadN X1.here hx rfl (hb hby d11_25) rfl ?_
      show Steps p.tables e below (T1.setTop (mkF m 26 #[.val (.ref va), .val (.int (own_n qa)), .val (.int (own_n qb)), .val (.int (own_n qb)), .unset, .unset, .unset, .unset, .unset, .unset] [(.int (own_n qa))])) tt
      refine XS.istore X1.here hx rfl (hb hby d11_26) rfl (l' := #[.val (.ref va), .val (.int (own_n qa)), .val (.int (own_n qb)), .val (.int (own_n qb)), .val (.int (own_n qa)), .unset, .unset, .unset, .unset, .unset]) rfl ?_
      show Steps p.tables e below (T1.setTop (mkF m 28 #[.val (.ref va), .val (.int (own_n qa)), .val (.int (own_n qb)), .val (.int (own_n qb)), .val (.int (own_n qa)), .unset, .unset, .unset, .unset, .unset] [])) tt
      refine XS.aloadN X1.here hx rfl (hb hby d11_28) rfl rfl ?_
      exact kk
    obtain ⟨T2, X2, e2, st2⟩ := getF X1 hx hZ hown (host := "") (Or.inl (hw _ (mw 24 rfl))) Via.refl e1 F_ints_va (g := (mkF m 29 #[.val (.ref va), .val (.int (own_n qa)), .val (.int (own_n qb)), .val (.int (own_n qb)), .val (.int (own_n qa)), .unset, .unset, .unset, .unset, .unset] [(.ref va)])) rfl rfl (hb hby d11_29)
    refine Goal.to (B := T2.setTop (mkF m 32 #[.val (.ref va), .val (.int (own_n qa)), .val (.int (own_n qb)), .val (.int (own_n qb)), .val (.int (own_n qa)), .unset, .unset, .unset, .unset, .unset] [(.ref vi)])) st2 ?_
    refine Goal.to (B := T2.setTop (mkF m 35 #[.val (.ref va), .val (.int (own_n qa)), .val (.int (own_n qb)), .val (.int (own_n qb)), .val (.int (own_n qa)), .unset, .unset, .unset, .unset, .unset] [(.int (own_n qb)), (.int (own_n qa)), (.ref vi)])) (fun tt kk => ?_) ?_
    · show Steps p.tables e below (T2.setTop (mkF m 32 #[.val (.ref va), .val (.int (own_n qa)), .val (.int (own_n qb)), .val (.int (own_n qb)), .val (.int (own_n qa)), .unset, .unset, .unset, .unset, .unset] [(.ref vi)])) tt
      refine XS.iload X2.here hx rfl (hb hby d11_32) rfl ?_
      show Steps p.tables e below (T2.setTop (mkF m 34 #[.val (.ref va), .val (.int (own_n qa)), .val (.int (own_n qb)), .val (.int (own_n qb)), .val (.int (own_n qa)), .unset, .unset, .unset, .unset, .unset] [(.int (own_n qa)), (.ref vi)])) tt
      refine XS.iloadN X2.here hx rfl (hb hby d11_34) rfl ?_
      exact kk
    obtain ⟨cl3, Ar3, Sl3⟩ := id V_vi
    have hin3 := inA (cl := cl3) Sl3 (j := (own_n qa)) (own_ix qa).1 (by rw [(own_ix qa).2, own_lenI]; have := own_lt qa; omega)
    obtain ⟨T3, h3, X3, e3, W3, st3⟩ := stI X2 hx hZ e2 Ar3 (j := (own_n qa)) hin3 (g := (mkF m 35 #[.val (.ref va), .val (.int (own_n qa)), .val (.int (own_n qb)), .val (.int (own_n qb)), .val (.int (own_n qa)), .unset, .unset, .unset, .unset, .unset] [(.int (own_n qb)), (.int (own_n qa)), (.ref vi)])) rfl rfl (hb hby d11_35)
    have V3 : Ary Z h3 vi .int (((own_I pp hd)).set (qa.val) (.int (own_n qb))) := Ary.put Ar3 Sl3 W3 (own_ix qa).2
    have N3 := Fr.snoc X3 N1 g_vi
    refine Goal.to (B := T3.setTop (mkF m 36 #[.val (.ref va), .val (.int (own_n qa)), .val (.int (own_n qb)), .val (.int (own_n qb)), .val (.int (own_n qa)), .unset, .unset, .unset, .unset, .unset] [])) st3 ?_
    have V4 : Ary Z h3 vi .int (own_I (own_u pp qa qb) hd) := Ary.cast V3 (own_setI pp hd qb qa)
    refine Goal.to (B := T3.setTop (mkF m 39 #[.val (.ref va), .val (.int (own_n qa)), .val (.int (own_n qb)), .val (.int (own_n qb)), .val (.int (own_n qa)), .unset, .unset, .unset, .unset, .unset] [(.int (own_n qa)), (.ref va)])) (fun tt kk => ?_) ?_
    · show Steps p.tables e below (T3.setTop (mkF m 36 #[.val (.ref va), .val (.int (own_n qa)), .val (.int (own_n qb)), .val (.int (own_n qb)), .val (.int (own_n qa)), .unset, .unset, .unset, .unset, .unset] [])) tt
      refine XS.aloadN X3.here hx rfl (hb hby d11_36) rfl rfl ?_
      show Steps p.tables e below (T3.setTop (mkF m 37 #[.val (.ref va), .val (.int (own_n qa)), .val (.int (own_n qb)), .val (.int (own_n qb)), .val (.int (own_n qa)), .unset, .unset, .unset, .unset, .unset] [(.ref va)])) tt
      refine XS.iload X3.here hx rfl (hb hby d11_37) rfl ?_
      exact kk
    have f5 : Exa Z h3 va "com/example/deferra/deferra/engine/Identities" := (E_va.wr W3)
    have f6 : Fld Z h3 va "com/example/deferra/deferra/engine/Identities" "words" "I" (.int (1 : Int32)) := (F_words_va.other W3 (Or.inl ne_va_vi))
    have f7 : Fld Z h3 va "com/example/deferra/deferra/engine/Identities" "ints" "[I" (.ref vi) := (F_ints_va.other W3 (Or.inl ne_va_vi))
    have f8 : Fld Z h3 va "com/example/deferra/deferra/engine/Identities" "numberAt" "I" (.int (16 : Int32)) := (F_numberAt_va.other W3 (Or.inl ne_va_vi))
    have f9 : Fld Z h3 va "com/example/deferra/deferra/engine/Identities" "colourAt" "I" (.int (32 : Int32)) := (F_colourAt_va.other W3 (Or.inl ne_va_vi))
    have f10 : Fld Z h3 va "com/example/deferra/deferra/engine/Identities" "holdersAt" "I" (.int (64 : Int32)) := (F_holdersAt_va.other W3 (Or.inl ne_va_vi))
    have f11 : Fld Z h3 va "com/example/deferra/deferra/engine/Identities" "rows" "[J" (.ref vr) := (F_rows_va.other W3 (Or.inl ne_va_vi))
    have f12 : Fld Z h3 va "com/example/deferra/deferra/engine/Identities" "openCount" "I" (.int uo) := (F_openCount_va.other W3 (Or.inl ne_va_vi))
    have f13 : Ary Z h3 vr .long (own_R ra rb) := (V_vr.other W3 (Ne.symm ne_vi_vr))
    have f14 : n0 ≤ h3.size := (Nat.le_trans Z0 (Keep.of_wr W3).1)
    obtain ⟨cq15, q15, q15'⟩ := f5.cell
    obtain ⟨_, _, ⟨T15, L15, k15, n15⟩, -, X15, ⟨Lc15, hQ15, l15, y15, z15⟩, st15⟩ := X3.privateBack hx (y := (⟨"com/example/deferra/deferra/engine/Identities", "close", "(I)V"⟩ : MethodName)) hown (mvT hZ (hw _ (mw 81 rfl))) (mvT hZ (hw _ (mw 82 rfl))) (selP hZ (hw _ (mw 1 rfl)) (hw _ (mw 83 rfl)) (hw _ (mw 82 rfl)) (by decide)) (Cond.privateMethod_at (mvP hZ (hw _ (mw 83 rfl)) (args := #[]))) (mvT hZ (hw _ (mw 84 rfl))) (by decide) (backOf (W := 0) (rmcl l Z a0 hw [] va vi vr (own_u pp qa qb) hd ra rb uo qa h3 n0 f14 f5 f6 f7 f8 f9 f10 f11 f12 V4 f13 g_va g_vi g_vr ne_va_vi ne_va_vr ne_vi_vr) hZ (hw _ (mw 84 rfl)) (hw _ (mw 2 rfl)) (by decide) (by decide)) (g := (mkF m 39 #[.val (.ref va), .val (.int (own_n qa)), .val (.int (own_n qb)), .val (.int (own_n qb)), .val (.int (own_n qa)), .unset, .unset, .unset, .unset, .unset] [(.int (own_n qa)), (.ref va)])) rfl (by rw [hml]; rfl) (Steps.refl _) (a := va) (by rw [e3]; exact q15) q15' (argsL := [(.int (own_n qa))]) (rest := []) (lenOf pd_9 rfl) rfl (by show 2 * 0 + _ ≤ _; exact Nat.le_of_eq rfl) (hb hby d11_39) (fun _ _ => ⟨rfl, e3, (by decide : 0 + 0 ≤ _), (by decide : 0 + 0 ≤ _)⟩)
    dsimp only [Pt.U, Pt.locs, Pt.cells, Pt.slots] at X15 l15 y15 z15 st15 hQ15
    subst l15 y15 z15
    obtain ⟨na_15, nh_15, no_15, rfl, N15q, K15, P15_0, P15_1, P15_2, P15_3, P15_4, P15_5, P15_6, P15_7, P15_8⟩ := hQ15
    have N15 := Fr.app N3 N15q
    refine Goal.tr (B := T15.setTop (mkF m 42 #[.val (.ref va), .val (.int (own_n qa)), .val (.int (own_n qb)), .val (.int (own_n qb)), .val (.int (own_n qa)), .unset, .unset, .unset, .unset, .unset] [])) st15 ?_
    refine Goal.to (B := T15.setTop (mkF m 44 #[.val (.ref va), .val (.int (own_n qa)), .val (.int (own_n qb)), .val (.int (own_n qb)), .val (.int (own_n qa)), .unset, .unset, .unset, .unset, .unset] [(.int (own_n qb)), (.ref va)])) (fun tt kk => ?_) ?_
    · show Steps p.tables e below (T15.setTop (mkF m 42 #[.val (.ref va), .val (.int (own_n qa)), .val (.int (own_n qb)), .val (.int (own_n qb)), .val (.int (own_n qa)), .unset, .unset, .unset, .unset, .unset] [])) tt
      refine XS.aloadN X15.here hx rfl (hb hby d11_42) rfl rfl ?_
      show Steps p.tables e below (T15.setTop (mkF m 43 #[.val (.ref va), .val (.int (own_n qa)), .val (.int (own_n qb)), .val (.int (own_n qb)), .val (.int (own_n qa)), .unset, .unset, .unset, .unset, .unset] [(.ref va)])) tt
      refine XS.iloadN X15.here hx rfl (hb hby d11_43) rfl ?_
      exact kk
    have f16 : n0 ≤ T15.heap.size := (Nat.le_trans f14 K15.1)
    have f18 : Exa Z T15.heap va "com/example/deferra/deferra/engine/Identities" := (f5.keep K15)
    obtain ⟨cq17, q17, q17'⟩ := f18.cell
    obtain ⟨_, _, ⟨T17, L17, k17, n17⟩, -, X17, ⟨Lc17, hQ17, l17, y17, z17⟩, st17⟩ := X15.privateBack hx (y := (⟨"com/example/deferra/deferra/engine/Identities", "row", "(I)I"⟩ : MethodName)) hown (mvT hZ (hw _ (mw 86 rfl))) (mvT hZ (hw _ (mw 87 rfl))) (selP hZ (hw _ (mw 1 rfl)) (hw _ (mw 88 rfl)) (hw _ (mw 87 rfl)) (by decide)) (Cond.privateMethod_at (mvP hZ (hw _ (mw 88 rfl)) (args := #[]))) (mvT hZ (hw _ (mw 89 rfl))) (by decide) (backOf (W := 0) (rmro l Z a0 hw [] va qb T15.heap n0 f16 P15_0) hZ (hw _ (mw 89 rfl)) (hw _ (mw 2 rfl)) (by decide) (by decide)) (g := (mkF m 44 #[.val (.ref va), .val (.int (own_n qa)), .val (.int (own_n qb)), .val (.int (own_n qb)), .val (.int (own_n qa)), .unset, .unset, .unset, .unset, .unset] [(.int (own_n qb)), (.ref va)])) rfl (by rw [hml]; rfl) (Steps.refl _) (a := va) q17 q17' (argsL := [(.int (own_n qb))]) (rest := []) (lenOf pd_2 rfl) rfl (by show 2 * 0 + _ ≤ _; exact Nat.le_of_eq rfl) (hb hby d11_44) (fun _ _ => ⟨rfl, rfl, (by decide : 0 + 0 ≤ _), (by decide : 0 + 0 ≤ _)⟩)
    dsimp only [Pt.U, Pt.locs, Pt.cells, Pt.slots] at X17 l17 y17 z17 st17 hQ17
    subst l17 y17 z17
    obtain ⟨rfl, N17q, e17⟩ := hQ17
    have N17 := Fr.app N15 N17q
    refine Goal.tr (B := T17.setTop (mkF m 47 #[.val (.ref va), .val (.int (own_n qa)), .val (.int (own_n qb)), .val (.int (own_n qb)), .val (.int (own_n qa)), .unset, .unset, .unset, .unset, .unset] [(.int (((2 : Int32) + (own_n qb)) * (1 : Int32)))])) st17 ?_
    refine Goal.to (B := T17.setTop (mkF m 52 #[.val (.ref va), .val (.int (own_n qa)), .val (.int (own_n qb)), .val (.int (own_n qb)), .val (.int (own_n qa)), .val (.int (((2 : Int32) + (own_n qb)) * (1 : Int32))), .unset, .unset, .unset, .unset] [(.int (own_n qa)), (.ref va)])) (fun tt kk => ?_) ?_
    · show Steps p.tables e below (T17.setTop (mkF m 47 #[.val (.ref va), .val (.int (own_n qa)), .val (.int (own_n qb)), .val (.int (own_n qb)), .val (.int (own_n qa)), .unset, .unset, .unset, .unset, .unset] [(.int (((2 : Int32) + (own_n qb)) * (1 : Int32)))])) tt
      refine XS.istore X17.here hx rfl (hb hby d11_47) rfl (l' := #[.val (.ref va), .val (.int (own_n qa)), .val (.int (own_n qb)), .val (.int (own_n qb)), .val (.int (own_n qa)), .val (.int (((2 : Int32) + (own_n qb)) * (1 : Int32))), .unset, .unset, .unset, .unset]) rfl ?_
      show Steps p.tables e below (T17.setTop (mkF m 49 #[.val (.ref va), .val (.int (own_n qa)), .val (.int (own_n qb)), .val (.int (own_n qb)), .val (.int (own_n qa)), .val (.int (((2 : Int32) + (own_n qb)) * (1 : Int32))), .unset, .unset, .unset, .unset] [])) tt
      refine XS.aloadN X17.here hx rfl (hb hby d11_49) rfl rfl ?_
      show Steps p.tables e below (T17.setTop (mkF m 50 #[.val (.ref va), .val (.int (own_n qa)), .val (.int (own_n qb)), .val (.int (own_n qb)), .val (.int (own_n qa)), .val (.int (((2 : Int32) + (own_n qb)) * (1 : Int32))), .unset, .unset, .unset, .unset] [(.ref va)])) tt
      refine XS.iload X17.here hx rfl (hb hby d11_50) rfl ?_
      exact kk
    obtain ⟨cq19, q19, q19'⟩ := f18.cell
    obtain ⟨_, _, ⟨T19, L19, k19, n19⟩, -, X19, ⟨Lc19, hQ19, l19, y19, z19⟩, st19⟩ := X17.privateBack hx (y := (⟨"com/example/deferra/deferra/engine/Identities", "row", "(I)I"⟩ : MethodName)) hown (mvT hZ (hw _ (mw 86 rfl))) (mvT hZ (hw _ (mw 87 rfl))) (selP hZ (hw _ (mw 1 rfl)) (hw _ (mw 88 rfl)) (hw _ (mw 87 rfl)) (by decide)) (Cond.privateMethod_at (mvP hZ (hw _ (mw 88 rfl)) (args := #[]))) (mvT hZ (hw _ (mw 89 rfl))) (by decide) (backOf (W := 0) (rmro l Z a0 hw [] va qa T15.heap n0 f16 P15_0) hZ (hw _ (mw 89 rfl)) (hw _ (mw 2 rfl)) (by decide) (by decide)) (g := (mkF m 52 #[.val (.ref va), .val (.int (own_n qa)), .val (.int (own_n qb)), .val (.int (own_n qb)), .val (.int (own_n qa)), .val (.int (((2 : Int32) + (own_n qb)) * (1 : Int32))), .unset, .unset, .unset, .unset] [(.int (own_n qa)), (.ref va)])) rfl (by rw [hml]; rfl) (Steps.refl _) (a := va) (by rw [e17]; exact q19) q19' (argsL := [(.int (own_n qa))]) (rest := []) (lenOf pd_2 rfl) rfl (by show 2 * 0 + _ ≤ _; exact Nat.le_of_eq rfl) (hb hby d11_52) (fun _ _ => ⟨rfl, e17, (by decide : 0 + 0 ≤ _), (by decide : 0 + 0 ≤ _)⟩)
    dsimp only [Pt.U, Pt.locs, Pt.cells, Pt.slots] at X19 l19 y19 z19 st19 hQ19
    subst l19 y19 z19
    obtain ⟨rfl, N19q, e19⟩ := hQ19
    have N19 := Fr.app N17 N19q
    refine Goal.tr (B := T19.setTop (mkF m 55 #[.val (.ref va), .val (.int (own_n qa)), .val (.int (own_n qb)), .val (.int (own_n qb)), .val (.int (own_n qa)), .val (.int (((2 : Int32) + (own_n qb)) * (1 : Int32))), .unset, .unset, .unset, .unset] [(.int (((2 : Int32) + (own_n qa)) * (1 : Int32)))])) st19 ?_
    refine Goal.to (B := T19.setTop (mkF m 63 #[.val (.ref va), .val (.int (own_n qa)), .val (.int (own_n qb)), .val (.int (own_n qb)), .val (.int (own_n qa)), .val (.int (((2 : Int32) + (own_n qb)) * (1 : Int32))), .val (.int (((2 : Int32) + (own_n qa)) * (1 : Int32))), .val (.int (0 : Int32)), .unset, .unset] [(.ref va), (.int (0 : Int32))])) (fun tt kk => ?_) ?_
    · show Steps p.tables e below (T19.setTop (mkF m 55 #[.val (.ref va), .val (.int (own_n qa)), .val (.int (own_n qb)), .val (.int (own_n qb)), .val (.int (own_n qa)), .val (.int (((2 : Int32) + (own_n qb)) * (1 : Int32))), .unset, .unset, .unset, .unset] [(.int (((2 : Int32) + (own_n qa)) * (1 : Int32)))])) tt
      refine XS.istore X19.here hx rfl (hb hby d11_55) rfl (l' := #[.val (.ref va), .val (.int (own_n qa)), .val (.int (own_n qb)), .val (.int (own_n qb)), .val (.int (own_n qa)), .val (.int (((2 : Int32) + (own_n qb)) * (1 : Int32))), .val (.int (((2 : Int32) + (own_n qa)) * (1 : Int32))), .unset, .unset, .unset]) rfl ?_
      show Steps p.tables e below (T19.setTop (mkF m 57 #[.val (.ref va), .val (.int (own_n qa)), .val (.int (own_n qb)), .val (.int (own_n qb)), .val (.int (own_n qa)), .val (.int (((2 : Int32) + (own_n qb)) * (1 : Int32))), .val (.int (((2 : Int32) + (own_n qa)) * (1 : Int32))), .unset, .unset, .unset] [])) tt
      refine XS.iconst X19.here hx rfl (hb hby d11_57) ?_
      show Steps p.tables e below (T19.setTop (mkF m 58 #[.val (.ref va), .val (.int (own_n qa)), .val (.int (own_n qb)), .val (.int (own_n qb)), .val (.int (own_n qa)), .val (.int (((2 : Int32) + (own_n qb)) * (1 : Int32))), .val (.int (((2 : Int32) + (own_n qa)) * (1 : Int32))), .unset, .unset, .unset] [(.int (0 : Int32))])) tt
      refine XS.istore X19.here hx rfl (hb hby d11_58) rfl (l' := #[.val (.ref va), .val (.int (own_n qa)), .val (.int (own_n qb)), .val (.int (own_n qb)), .val (.int (own_n qa)), .val (.int (((2 : Int32) + (own_n qb)) * (1 : Int32))), .val (.int (((2 : Int32) + (own_n qa)) * (1 : Int32))), .val (.int (0 : Int32)), .unset, .unset]) rfl ?_
      show Steps p.tables e below (T19.setTop (mkF m 60 #[.val (.ref va), .val (.int (own_n qa)), .val (.int (own_n qb)), .val (.int (own_n qb)), .val (.int (own_n qa)), .val (.int (((2 : Int32) + (own_n qb)) * (1 : Int32))), .val (.int (((2 : Int32) + (own_n qa)) * (1 : Int32))), .val (.int (0 : Int32)), .unset, .unset] [])) tt
      refine XS.iload X19.here hx rfl (hb hby d11_60) rfl ?_
      show Steps p.tables e below (T19.setTop (mkF m 62 #[.val (.ref va), .val (.int (own_n qa)), .val (.int (own_n qb)), .val (.int (own_n qb)), .val (.int (own_n qa)), .val (.int (((2 : Int32) + (own_n qb)) * (1 : Int32))), .val (.int (((2 : Int32) + (own_n qa)) * (1 : Int32))), .val (.int (0 : Int32)), .unset, .unset] [(.int (0 : Int32))])) tt
      refine XS.aloadN X19.here hx rfl (hb hby d11_62) rfl rfl ?_
      exact kk
    obtain ⟨T20, X20, e20, st20⟩ := getF X19 hx hZ hown (host := "") (Or.inl (hw _ (mw 14 rfl))) Via.refl e19 P15_0 (g := (mkF m 63 #[.val (.ref va), .val (.int (own_n qa)), .val (.int (own_n qb)), .val (.int (own_n qb)), .val (.int (own_n qa)), .val (.int (((2 : Int32) + (own_n qb)) * (1 : Int32))), .val (.int (((2 : Int32) + (own_n qa)) * (1 : Int32))), .val (.int (0 : Int32)), .unset, .unset] [(.ref va), (.int (0 : Int32))])) rfl rfl (hb hby d11_63)
    refine Goal.to (B := T20.setTop (mkF m 66 #[.val (.ref va), .val (.int (own_n qa)), .val (.int (own_n qb)), .val (.int (own_n qb)), .val (.int (own_n qa)), .val (.int (((2 : Int32) + (own_n qb)) * (1 : Int32))), .val (.int (((2 : Int32) + (own_n qa)) * (1 : Int32))), .val (.int (0 : Int32)), .unset, .unset] [(.int (1 : Int32)), (.int (0 : Int32))])) st20 ?_
    refine Goal.to (B := T20.setTop (mkF m 70 #[.val (.ref va), .val (.int (own_n qa)), .val (.int (own_n qb)), .val (.int (own_n qb)), .val (.int (own_n qa)), .val (.int (((2 : Int32) + (own_n qb)) * (1 : Int32))), .val (.int (((2 : Int32) + (own_n qa)) * (1 : Int32))), .val (.int (0 : Int32)), .unset, .unset] [(.ref va)])) (fun tt kk => ?_) ?_
    · show Steps p.tables e below (T20.setTop (mkF m 66 #[.val (.ref va), .val (.int (own_n qa)), .val (.int (own_n qb)), .val (.int (own_n qb)), .val (.int (own_n qa)), .val (.int (((2 : Int32) + (own_n qb)) * (1 : Int32))), .val (.int (((2 : Int32) + (own_n qa)) * (1 : Int32))), .val (.int (0 : Int32)), .unset, .unset] [(.int (1 : Int32)), (.int (0 : Int32))])) tt
      refine XS.icmpNo X20.here hx rfl (hb hby d11_66) rfl (tlt ((by decide) : (0 : Int32) < (1 : Int32))).2.1 ?_
      show Steps p.tables e below (T20.setTop (mkF m 69 #[.val (.ref va), .val (.int (own_n qa)), .val (.int (own_n qb)), .val (.int (own_n qb)), .val (.int (own_n qa)), .val (.int (((2 : Int32) + (own_n qb)) * (1 : Int32))), .val (.int (((2 : Int32) + (own_n qa)) * (1 : Int32))), .val (.int (0 : Int32)), .unset, .unset] [])) tt
      refine XS.aloadN X20.here hx rfl (hb hby d11_69) rfl rfl ?_
      exact kk
    obtain ⟨T21, X21, e21, st21⟩ := getF X20 hx hZ hown (host := "") (Or.inl (hw _ (mw 39 rfl))) Via.refl e20 P15_5 (g := (mkF m 70 #[.val (.ref va), .val (.int (own_n qa)), .val (.int (own_n qb)), .val (.int (own_n qb)), .val (.int (own_n qa)), .val (.int (((2 : Int32) + (own_n qb)) * (1 : Int32))), .val (.int (((2 : Int32) + (own_n qa)) * (1 : Int32))), .val (.int (0 : Int32)), .unset, .unset] [(.ref va)])) rfl rfl (hb hby d11_70)
    refine Goal.to (B := T21.setTop (mkF m 73 #[.val (.ref va), .val (.int (own_n qa)), .val (.int (own_n qb)), .val (.int (own_n qb)), .val (.int (own_n qa)), .val (.int (((2 : Int32) + (own_n qb)) * (1 : Int32))), .val (.int (((2 : Int32) + (own_n qa)) * (1 : Int32))), .val (.int (0 : Int32)), .unset, .unset] [(.ref vr)])) st21 ?_
    refine Goal.to (B := T21.setTop (mkF m 78 #[.val (.ref va), .val (.int (own_n qa)), .val (.int (own_n qb)), .val (.int (own_n qb)), .val (.int (own_n qa)), .val (.int (((2 : Int32) + (own_n qb)) * (1 : Int32))), .val (.int (((2 : Int32) + (own_n qa)) * (1 : Int32))), .val (.int (0 : Int32)), .unset, .unset] [(.int ((((2 : Int32) + (own_n qa)) * (1 : Int32)) + (0 : Int32))), (.ref vr)])) (fun tt kk => ?_) ?_
    · show Steps p.tables e below (T21.setTop (mkF m 73 #[.val (.ref va), .val (.int (own_n qa)), .val (.int (own_n qb)), .val (.int (own_n qb)), .val (.int (own_n qa)), .val (.int (((2 : Int32) + (own_n qb)) * (1 : Int32))), .val (.int (((2 : Int32) + (own_n qa)) * (1 : Int32))), .val (.int (0 : Int32)), .unset, .unset] [(.ref vr)])) tt
      refine XS.iload X21.here hx rfl (hb hby d11_73) rfl ?_
      show Steps p.tables e below (T21.setTop (mkF m 75 #[.val (.ref va), .val (.int (own_n qa)), .val (.int (own_n qb)), .val (.int (own_n qb)), .val (.int (own_n qa)), .val (.int (((2 : Int32) + (own_n qb)) * (1 : Int32))), .val (.int (((2 : Int32) + (own_n qa)) * (1 : Int32))), .val (.int (0 : Int32)), .unset, .unset] [(.int (((2 : Int32) + (own_n qa)) * (1 : Int32))), (.ref vr)])) tt
      refine XS.iload X21.here hx rfl (hb hby d11_75) rfl ?_
      show Steps p.tables e below (T21.setTop (mkF m 77 #[.val (.ref va), .val (.int (own_n qa)), .val (.int (own_n qb)), .val (.int (own_n qb)), .val (.int (own_n qa)), .val (.int (((2 : Int32) + (own_n qb)) * (1 : Int32))), .val (.int (((2 : Int32) + (own_n qa)) * (1 : Int32))), .val (.int (0 : Int32)), .unset, .unset] [(.int (0 : Int32)), (.int (((2 : Int32) + (own_n qa)) * (1 : Int32))), (.ref vr)])) tt
      refine XS.iadd X21.here hx rfl (hb hby d11_77) rfl ?_
      exact kk
    obtain ⟨cl22, Ar22, Sl22⟩ := id P15_8
    have hin22 := inA (cl := cl22) Sl22 (j := ((((2 : Int32) + (own_n qa)) * (1 : Int32)) + (0 : Int32))) (own_ixr qa).1 (by rw [(own_ixr qa).2, own_lenR]; have := own_lt qa; omega)
    have hat22 : cl22.slots[(((((2 : Int32) + (own_n qa)) * (1 : Int32)) + (0 : Int32))).toNatClampNeg]? = some (.long (0 : Int64)) := atA Sl22 (by rw [(own_ixr qa).2]; exact own_rowR na_15 rb qa)
    refine Goal.to (B := T21.setTop (mkF m 82 #[.val (.ref va), .val (.int (own_n qa)), .val (.int (own_n qb)), .val (.int (own_n qb)), .val (.int (own_n qa)), .val (.int (((2 : Int32) + (own_n qb)) * (1 : Int32))), .val (.int (((2 : Int32) + (own_n qa)) * (1 : Int32))), .val (.int (0 : Int32)), .val (.long (0 : Int64)), .second] [(.ref va)])) (fun tt kk => ?_) ?_
    · show Steps p.tables e below (T21.setTop (mkF m 78 #[.val (.ref va), .val (.int (own_n qa)), .val (.int (own_n qb)), .val (.int (own_n qb)), .val (.int (own_n qa)), .val (.int (((2 : Int32) + (own_n qb)) * (1 : Int32))), .val (.int (((2 : Int32) + (own_n qa)) * (1 : Int32))), .val (.int (0 : Int32)), .unset, .unset] [(.int ((((2 : Int32) + (own_n qa)) * (1 : Int32)) + (0 : Int32))), (.ref vr)])) tt
      refine X21.laload hx (j := ((((2 : Int32) + (own_n qa)) * (1 : Int32)) + (0 : Int32))) (v := (.long (0 : Int64))) (by rw [e21]; exact Ar22.1) (State.isArrayOf_alike hZ.alike Ar22.2.1) Ar22.2.2 hin22 hat22 (g := (mkF m 78 #[.val (.ref va), .val (.int (own_n qa)), .val (.int (own_n qb)), .val (.int (own_n qb)), .val (.int (own_n qa)), .val (.int (((2 : Int32) + (own_n qb)) * (1 : Int32))), .val (.int (((2 : Int32) + (own_n qa)) * (1 : Int32))), .val (.int (0 : Int32)), .unset, .unset] [(.int ((((2 : Int32) + (own_n qa)) * (1 : Int32)) + (0 : Int32))), (.ref vr)])) rfl rfl (hb hby d11_78) _ ?_
      show Steps p.tables e below (T21.setTop (mkF m 79 #[.val (.ref va), .val (.int (own_n qa)), .val (.int (own_n qb)), .val (.int (own_n qb)), .val (.int (own_n qa)), .val (.int (((2 : Int32) + (own_n qb)) * (1 : Int32))), .val (.int (((2 : Int32) + (own_n qa)) * (1 : Int32))), .val (.int (0 : Int32)), .unset, .unset] [(.long (0 : Int64))])) tt
      refine XS.lstore X21.here hx rfl (hb hby d11_79) rfl (l' := #[.val (.ref va), .val (.int (own_n qa)), .val (.int (own_n qb)), .val (.int (own_n qb)), .val (.int (own_n qa)), .val (.int (((2 : Int32) + (own_n qb)) * (1 : Int32))), .val (.int (((2 : Int32) + (own_n qa)) * (1 : Int32))), .val (.int (0 : Int32)), .val (.long (0 : Int64)), .second]) rfl ?_
      show Steps p.tables e below (T21.setTop (mkF m 81 #[.val (.ref va), .val (.int (own_n qa)), .val (.int (own_n qb)), .val (.int (own_n qb)), .val (.int (own_n qa)), .val (.int (((2 : Int32) + (own_n qb)) * (1 : Int32))), .val (.int (((2 : Int32) + (own_n qa)) * (1 : Int32))), .val (.int (0 : Int32)), .val (.long (0 : Int64)), .second] [])) tt
      refine XS.aloadN X21.here hx rfl (hb hby d11_81) rfl rfl ?_
      exact kk
    obtain ⟨T23, X23, e23, st23⟩ := getF X21 hx hZ hown (host := "") (Or.inl (hw _ (mw 39 rfl))) Via.refl e21 P15_5 (g := (mkF m 82 #[.val (.ref va), .val (.int (own_n qa)), .val (.int (own_n qb)), .val (.int (own_n qb)), .val (.int (own_n qa)), .val (.int (((2 : Int32) + (own_n qb)) * (1 : Int32))), .val (.int (((2 : Int32) + (own_n qa)) * (1 : Int32))), .val (.int (0 : Int32)), .val (.long (0 : Int64)), .second] [(.ref va)])) rfl rfl (hb hby d11_82)
    refine Goal.to (B := T23.setTop (mkF m 85 #[.val (.ref va), .val (.int (own_n qa)), .val (.int (own_n qb)), .val (.int (own_n qb)), .val (.int (own_n qa)), .val (.int (((2 : Int32) + (own_n qb)) * (1 : Int32))), .val (.int (((2 : Int32) + (own_n qa)) * (1 : Int32))), .val (.int (0 : Int32)), .val (.long (0 : Int64)), .second] [(.ref vr)])) st23 ?_
    refine Goal.to (B := T23.setTop (mkF m 91 #[.val (.ref va), .val (.int (own_n qa)), .val (.int (own_n qb)), .val (.int (own_n qb)), .val (.int (own_n qa)), .val (.int (((2 : Int32) + (own_n qb)) * (1 : Int32))), .val (.int (((2 : Int32) + (own_n qa)) * (1 : Int32))), .val (.int (0 : Int32)), .val (.long (0 : Int64)), .second] [(.int ((((2 : Int32) + (own_n qb)) * (1 : Int32)) + (0 : Int32))), (.ref vr), (.int ((((2 : Int32) + (own_n qb)) * (1 : Int32)) + (0 : Int32))), (.ref vr)])) (fun tt kk => ?_) ?_
    · show Steps p.tables e below (T23.setTop (mkF m 85 #[.val (.ref va), .val (.int (own_n qa)), .val (.int (own_n qb)), .val (.int (own_n qb)), .val (.int (own_n qa)), .val (.int (((2 : Int32) + (own_n qb)) * (1 : Int32))), .val (.int (((2 : Int32) + (own_n qa)) * (1 : Int32))), .val (.int (0 : Int32)), .val (.long (0 : Int64)), .second] [(.ref vr)])) tt
      refine XS.iload X23.here hx rfl (hb hby d11_85) rfl ?_
      show Steps p.tables e below (T23.setTop (mkF m 87 #[.val (.ref va), .val (.int (own_n qa)), .val (.int (own_n qb)), .val (.int (own_n qb)), .val (.int (own_n qa)), .val (.int (((2 : Int32) + (own_n qb)) * (1 : Int32))), .val (.int (((2 : Int32) + (own_n qa)) * (1 : Int32))), .val (.int (0 : Int32)), .val (.long (0 : Int64)), .second] [(.int (((2 : Int32) + (own_n qb)) * (1 : Int32))), (.ref vr)])) tt
      refine XS.iload X23.here hx rfl (hb hby d11_87) rfl ?_
      show Steps p.tables e below (T23.setTop (mkF m 89 #[.val (.ref va), .val (.int (own_n qa)), .val (.int (own_n qb)), .val (.int (own_n qb)), .val (.int (own_n qa)), .val (.int (((2 : Int32) + (own_n qb)) * (1 : Int32))), .val (.int (((2 : Int32) + (own_n qa)) * (1 : Int32))), .val (.int (0 : Int32)), .val (.long (0 : Int64)), .second] [(.int (0 : Int32)), (.int (((2 : Int32) + (own_n qb)) * (1 : Int32))), (.ref vr)])) tt
      refine XS.iadd X23.here hx rfl (hb hby d11_89) rfl ?_
      show Steps p.tables e below (T23.setTop (mkF m 90 #[.val (.ref va), .val (.int (own_n qa)), .val (.int (own_n qb)), .val (.int (own_n qb)), .val (.int (own_n qa)), .val (.int (((2 : Int32) + (own_n qb)) * (1 : Int32))), .val (.int (((2 : Int32) + (own_n qa)) * (1 : Int32))), .val (.int (0 : Int32)), .val (.long (0 : Int64)), .second] [(.int ((((2 : Int32) + (own_n qb)) * (1 : Int32)) + (0 : Int32))), (.ref vr)])) tt
      refine Jvm.Free.XT.dup2 X23.here hx rfl (hb hby d11_90) rfl rfl rfl ?_
      exact kk
    obtain ⟨cl24, Ar24, Sl24⟩ := id P15_8
    have hin24 := inA (cl := cl24) Sl24 (j := ((((2 : Int32) + (own_n qb)) * (1 : Int32)) + (0 : Int32))) (own_ixr qb).1 (by rw [(own_ixr qb).2, own_lenR]; have := own_lt qb; omega)
    have hat24 : cl24.slots[(((((2 : Int32) + (own_n qb)) * (1 : Int32)) + (0 : Int32))).toNatClampNeg]? = some (.long (0 : Int64)) := atA Sl24 (by rw [(own_ixr qb).2]; exact own_rowR na_15 rb qb)
    refine Goal.to (B := T23.setTop (mkF m 95 #[.val (.ref va), .val (.int (own_n qa)), .val (.int (own_n qb)), .val (.int (own_n qb)), .val (.int (own_n qa)), .val (.int (((2 : Int32) + (own_n qb)) * (1 : Int32))), .val (.int (((2 : Int32) + (own_n qa)) * (1 : Int32))), .val (.int (0 : Int32)), .val (.long (0 : Int64)), .second] [(.long (0 : Int64)), (.int ((((2 : Int32) + (own_n qb)) * (1 : Int32)) + (0 : Int32))), (.ref vr)])) (fun tt kk => ?_) ?_
    · show Steps p.tables e below (T23.setTop (mkF m 91 #[.val (.ref va), .val (.int (own_n qa)), .val (.int (own_n qb)), .val (.int (own_n qb)), .val (.int (own_n qa)), .val (.int (((2 : Int32) + (own_n qb)) * (1 : Int32))), .val (.int (((2 : Int32) + (own_n qa)) * (1 : Int32))), .val (.int (0 : Int32)), .val (.long (0 : Int64)), .second] [(.int ((((2 : Int32) + (own_n qb)) * (1 : Int32)) + (0 : Int32))), (.ref vr), (.int ((((2 : Int32) + (own_n qb)) * (1 : Int32)) + (0 : Int32))), (.ref vr)])) tt
      refine X23.laload hx (j := ((((2 : Int32) + (own_n qb)) * (1 : Int32)) + (0 : Int32))) (v := (.long (0 : Int64))) (by rw [e23]; exact Ar24.1) (State.isArrayOf_alike hZ.alike Ar24.2.1) Ar24.2.2 hin24 hat24 (g := (mkF m 91 #[.val (.ref va), .val (.int (own_n qa)), .val (.int (own_n qb)), .val (.int (own_n qb)), .val (.int (own_n qa)), .val (.int (((2 : Int32) + (own_n qb)) * (1 : Int32))), .val (.int (((2 : Int32) + (own_n qa)) * (1 : Int32))), .val (.int (0 : Int32)), .val (.long (0 : Int64)), .second] [(.int ((((2 : Int32) + (own_n qb)) * (1 : Int32)) + (0 : Int32))), (.ref vr), (.int ((((2 : Int32) + (own_n qb)) * (1 : Int32)) + (0 : Int32))), (.ref vr)])) rfl rfl (hb hby d11_91) _ ?_
      show Steps p.tables e below (T23.setTop (mkF m 92 #[.val (.ref va), .val (.int (own_n qa)), .val (.int (own_n qb)), .val (.int (own_n qb)), .val (.int (own_n qa)), .val (.int (((2 : Int32) + (own_n qb)) * (1 : Int32))), .val (.int (((2 : Int32) + (own_n qa)) * (1 : Int32))), .val (.int (0 : Int32)), .val (.long (0 : Int64)), .second] [(.long (0 : Int64)), (.int ((((2 : Int32) + (own_n qb)) * (1 : Int32)) + (0 : Int32))), (.ref vr)])) tt
      refine XS.lload X23.here hx rfl (hb hby d11_92) rfl ?_
      show Steps p.tables e below (T23.setTop (mkF m 94 #[.val (.ref va), .val (.int (own_n qa)), .val (.int (own_n qb)), .val (.int (own_n qb)), .val (.int (own_n qa)), .val (.int (((2 : Int32) + (own_n qb)) * (1 : Int32))), .val (.int (((2 : Int32) + (own_n qa)) * (1 : Int32))), .val (.int (0 : Int32)), .val (.long (0 : Int64)), .second] [(.long (0 : Int64)), (.long (0 : Int64)), (.int ((((2 : Int32) + (own_n qb)) * (1 : Int32)) + (0 : Int32))), (.ref vr)])) tt
      refine XS.lor X23.here hx rfl (hb hby d11_94) rfl ?_
      exact kk
    obtain ⟨cl25, Ar25, Sl25⟩ := id P15_8
    have hin25 := inA (cl := cl25) Sl25 (j := ((((2 : Int32) + (own_n qb)) * (1 : Int32)) + (0 : Int32))) (own_ixr qb).1 (by rw [(own_ixr qb).2, own_lenR]; have := own_lt qb; omega)
    obtain ⟨T25, h25, X25, e25, W25, st25⟩ := stJ X23 hx hZ e23 Ar25 (j := ((((2 : Int32) + (own_n qb)) * (1 : Int32)) + (0 : Int32))) hin25 (g := (mkF m 95 #[.val (.ref va), .val (.int (own_n qa)), .val (.int (own_n qb)), .val (.int (own_n qb)), .val (.int (own_n qa)), .val (.int (((2 : Int32) + (own_n qb)) * (1 : Int32))), .val (.int (((2 : Int32) + (own_n qa)) * (1 : Int32))), .val (.int (0 : Int32)), .val (.long (0 : Int64)), .second] [(.long (0 : Int64)), (.int ((((2 : Int32) + (own_n qb)) * (1 : Int32)) + (0 : Int32))), (.ref vr)])) rfl rfl (hb hby d11_95)
    have V25 : Ary Z h25 vr .long (((own_R na_15 rb)).set (2 + qb.val) (.long (0 : Int64))) := Ary.put Ar25 Sl25 W25 (own_ixr qb).2
    have N25 := Fr.snoc X25 N19 g_vr
    refine Goal.to (B := T25.setTop (mkF m 96 #[.val (.ref va), .val (.int (own_n qa)), .val (.int (own_n qb)), .val (.int (own_n qb)), .val (.int (own_n qa)), .val (.int (((2 : Int32) + (own_n qb)) * (1 : Int32))), .val (.int (((2 : Int32) + (own_n qa)) * (1 : Int32))), .val (.int (0 : Int32)), .val (.long (0 : Int64)), .second] [])) st25 ?_
    refine Goal.to (B := T25.setTop (mkF m 63 #[.val (.ref va), .val (.int (own_n qa)), .val (.int (own_n qb)), .val (.int (own_n qb)), .val (.int (own_n qa)), .val (.int (((2 : Int32) + (own_n qb)) * (1 : Int32))), .val (.int (((2 : Int32) + (own_n qa)) * (1 : Int32))), .val (.int (1 : Int32)), .val (.long (0 : Int64)), .second] [(.ref va), (.int (1 : Int32))])) (fun tt kk => ?_) ?_
    · show Steps p.tables e below (T25.setTop (mkF m 96 #[.val (.ref va), .val (.int (own_n qa)), .val (.int (own_n qb)), .val (.int (own_n qb)), .val (.int (own_n qa)), .val (.int (((2 : Int32) + (own_n qb)) * (1 : Int32))), .val (.int (((2 : Int32) + (own_n qa)) * (1 : Int32))), .val (.int (0 : Int32)), .val (.long (0 : Int64)), .second] [])) tt
      refine XS.lload X25.here hx rfl (hb hby d11_96) rfl ?_
      show Steps p.tables e below (T25.setTop (mkF m 98 #[.val (.ref va), .val (.int (own_n qa)), .val (.int (own_n qb)), .val (.int (own_n qb)), .val (.int (own_n qa)), .val (.int (((2 : Int32) + (own_n qb)) * (1 : Int32))), .val (.int (((2 : Int32) + (own_n qa)) * (1 : Int32))), .val (.int (0 : Int32)), .val (.long (0 : Int64)), .second] [(.long (0 : Int64))])) tt
      refine XS.lconst X25.here hx rfl (hb hby d11_98) ?_
      show Steps p.tables e below (T25.setTop (mkF m 99 #[.val (.ref va), .val (.int (own_n qa)), .val (.int (own_n qb)), .val (.int (own_n qb)), .val (.int (own_n qa)), .val (.int (((2 : Int32) + (own_n qb)) * (1 : Int32))), .val (.int (((2 : Int32) + (own_n qa)) * (1 : Int32))), .val (.int (0 : Int32)), .val (.long (0 : Int64)), .second] [(.long (0 : Int64)), (.long (0 : Int64))])) tt
      refine XS.lcmp X25.here hx rfl (hb hby d11_99) rfl ?_
      show Steps p.tables e below (T25.setTop (mkF m 100 #[.val (.ref va), .val (.int (own_n qa)), .val (.int (own_n qb)), .val (.int (own_n qb)), .val (.int (own_n qa)), .val (.int (((2 : Int32) + (own_n qb)) * (1 : Int32))), .val (.int (((2 : Int32) + (own_n qa)) * (1 : Int32))), .val (.int (0 : Int32)), .val (.long (0 : Int64)), .second] [(.int (lcmpW (0 : Int64) (0 : Int64)))])) tt
      refine XS.ifYes X25.here hx rfl (pc0 := 100) (pc' := 131) rfl (hb hby d11_100) rfl ((if0 _ _).trans (teq (by decide : (lcmpW (0 : Int64) (0 : Int64)) = (0 : Int32))).1) (by decide) (by decide) ?_
      show Steps p.tables e below (T25.setTop (mkF m 131 #[.val (.ref va), .val (.int (own_n qa)), .val (.int (own_n qb)), .val (.int (own_n qb)), .val (.int (own_n qa)), .val (.int (((2 : Int32) + (own_n qb)) * (1 : Int32))), .val (.int (((2 : Int32) + (own_n qa)) * (1 : Int32))), .val (.int (0 : Int32)), .val (.long (0 : Int64)), .second] [])) tt
      refine XS.iinc X25.here hx rfl (hb hby d11_131) rfl (l' := #[.val (.ref va), .val (.int (own_n qa)), .val (.int (own_n qb)), .val (.int (own_n qb)), .val (.int (own_n qa)), .val (.int (((2 : Int32) + (own_n qb)) * (1 : Int32))), .val (.int (((2 : Int32) + (own_n qa)) * (1 : Int32))), .val (.int (1 : Int32)), .val (.long (0 : Int64)), .second]) rfl ?_
      show Steps p.tables e below (T25.setTop (mkF m 134 #[.val (.ref va), .val (.int (own_n qa)), .val (.int (own_n qb)), .val (.int (own_n qb)), .val (.int (own_n qa)), .val (.int (((2 : Int32) + (own_n qb)) * (1 : Int32))), .val (.int (((2 : Int32) + (own_n qa)) * (1 : Int32))), .val (.int (1 : Int32)), .val (.long (0 : Int64)), .second] [])) tt
      refine XS.goto X25.here hx rfl (pc0 := 134) (pc' := 60) rfl (hb hby d11_134) (by decide) (by decide) ?_
      show Steps p.tables e below (T25.setTop (mkF m 60 #[.val (.ref va), .val (.int (own_n qa)), .val (.int (own_n qb)), .val (.int (own_n qb)), .val (.int (own_n qa)), .val (.int (((2 : Int32) + (own_n qb)) * (1 : Int32))), .val (.int (((2 : Int32) + (own_n qa)) * (1 : Int32))), .val (.int (1 : Int32)), .val (.long (0 : Int64)), .second] [])) tt
      refine XS.iload X25.here hx rfl (hb hby d11_60) rfl ?_
      show Steps p.tables e below (T25.setTop (mkF m 62 #[.val (.ref va), .val (.int (own_n qa)), .val (.int (own_n qb)), .val (.int (own_n qb)), .val (.int (own_n qa)), .val (.int (((2 : Int32) + (own_n qb)) * (1 : Int32))), .val (.int (((2 : Int32) + (own_n qa)) * (1 : Int32))), .val (.int (1 : Int32)), .val (.long (0 : Int64)), .second] [(.int (1 : Int32))])) tt
      refine XS.aloadN X25.here hx rfl (hb hby d11_62) rfl rfl ?_
      exact kk
    have f26 : Fld Z h25 va "com/example/deferra/deferra/engine/Identities" "words" "I" (.int (1 : Int32)) := (P15_0.other W25 (Or.inl ne_va_vr))
    obtain ⟨T27, X27, e27, st27⟩ := getF X25 hx hZ hown (host := "") (Or.inl (hw _ (mw 14 rfl))) Via.refl e25 f26 (g := (mkF m 63 #[.val (.ref va), .val (.int (own_n qa)), .val (.int (own_n qb)), .val (.int (own_n qb)), .val (.int (own_n qa)), .val (.int (((2 : Int32) + (own_n qb)) * (1 : Int32))), .val (.int (((2 : Int32) + (own_n qa)) * (1 : Int32))), .val (.int (1 : Int32)), .val (.long (0 : Int64)), .second] [(.ref va), (.int (1 : Int32))])) rfl rfl (hb hby d11_63)
    refine Goal.to (B := T27.setTop (mkF m 66 #[.val (.ref va), .val (.int (own_n qa)), .val (.int (own_n qb)), .val (.int (own_n qb)), .val (.int (own_n qa)), .val (.int (((2 : Int32) + (own_n qb)) * (1 : Int32))), .val (.int (((2 : Int32) + (own_n qa)) * (1 : Int32))), .val (.int (1 : Int32)), .val (.long (0 : Int64)), .second] [(.int (1 : Int32)), (.int (1 : Int32))])) st27 ?_
    refine Goal.to (B := T27.setTop (mkF m 137 #[.val (.ref va), .val (.int (own_n qa)), .val (.int (own_n qb)), .val (.int (own_n qb)), .val (.int (own_n qa)), .val (.int (((2 : Int32) + (own_n qb)) * (1 : Int32))), .val (.int (((2 : Int32) + (own_n qa)) * (1 : Int32))), .val (.int (1 : Int32)), .val (.long (0 : Int64)), .second] [])) (fun tt kk => ?_) ?_
    · show Steps p.tables e below (T27.setTop (mkF m 66 #[.val (.ref va), .val (.int (own_n qa)), .val (.int (own_n qb)), .val (.int (own_n qb)), .val (.int (own_n qa)), .val (.int (((2 : Int32) + (own_n qb)) * (1 : Int32))), .val (.int (((2 : Int32) + (own_n qa)) * (1 : Int32))), .val (.int (1 : Int32)), .val (.long (0 : Int64)), .second] [(.int (1 : Int32)), (.int (1 : Int32))])) tt
      refine XS.icmpYes X27.here hx rfl (pc0 := 66) (pc' := 137) rfl (hb hby d11_66) rfl (flt (Int32.lt_irrefl : ¬ ((1 : Int32) < (1 : Int32)))).2.1 (by decide) (by decide) ?_
      exact kk
    have f28 : Keep h0 h25 [va, vi, vr] := ((((Keep.refl h0 [va, vi, vr]).wr W3 (Or.inl (List.mem_of_getElem? (i := 1) rfl))).trans K15 (allS (Or.inl (List.mem_of_getElem? (i := 0) rfl)) (allS (Or.inl (List.mem_of_getElem? (i := 1) rfl)) (allS (Or.inl (List.mem_of_getElem? (i := 2) rfl)) all0)))).wr W25 (Or.inl (List.mem_of_getElem? (i := 2) rfl)))
    have f29 : Fld Z h25 va "com/example/deferra/deferra/engine/Identities" "ints" "[I" (.ref vi) := (P15_1.other W25 (Or.inl ne_va_vr))
    have f30 : Fld Z h25 va "com/example/deferra/deferra/engine/Identities" "numberAt" "I" (.int (16 : Int32)) := (P15_2.other W25 (Or.inl ne_va_vr))
    have f31 : Fld Z h25 va "com/example/deferra/deferra/engine/Identities" "colourAt" "I" (.int (32 : Int32)) := (P15_3.other W25 (Or.inl ne_va_vr))
    have f32 : Fld Z h25 va "com/example/deferra/deferra/engine/Identities" "holdersAt" "I" (.int (64 : Int32)) := (P15_4.other W25 (Or.inl ne_va_vr))
    have f33 : Fld Z h25 va "com/example/deferra/deferra/engine/Identities" "rows" "[J" (.ref vr) := (P15_5.other W25 (Or.inl ne_va_vr))
    have f34 : Fld Z h25 va "com/example/deferra/deferra/engine/Identities" "openCount" "I" (.int no_15) := (P15_6.other W25 (Or.inl ne_va_vr))
    have f35 : Ary Z h25 vi .int (own_I (own_u pp qa qb) nh_15) := (P15_7.other W25 ne_vi_vr)
    exact Goal.retN X27 hx Bd.returns (hb hby d11_137) hlk e27 ⟨na_15, nh_15, no_15, rfl, N25, f28, f26, f29, f30, f31, f32, f33, f34, (Ary.cast f35 (by first | exact own_setR _ _ _ | (unfold own_m; simp only [if_pos hk0]) : ((own_I (own_u pp qa qb) nh_15) : List Value) = (own_I (own_m pp qa qb) nh_15))), (Ary.cast V25 (by first | exact own_setR _ _ _ | (unfold own_m; simp only [if_pos hk0]) : ((((own_R na_15 rb)).set (2 + qb.val) (.long (0 : Int64))) : List Value) = (own_R na_15 rb)))⟩ (by decide) (by decide)
  · refine Goal.to (B := s₁.setTop (mkF m 2 #[.val (.ref va), .val (.int (own_n qa)), .val (.int (own_n qb)), .unset, .unset, .unset, .unset, .unset, .unset, .unset] [(.int (own_n qb)), (.ref va)])) (fun tt kk => ?_) ?_
    · show Steps p.tables e below (s₁.setTop (mkF m 0 #[.val (.ref va), .val (.int (own_n qa)), .val (.int (own_n qb)), .unset, .unset, .unset, .unset, .unset, .unset, .unset] [])) tt
      refine XS.aloadN X0.here hx rfl (hb hby d11_0) rfl rfl ?_
      show Steps p.tables e below (s₁.setTop (mkF m 1 #[.val (.ref va), .val (.int (own_n qa)), .val (.int (own_n qb)), .unset, .unset, .unset, .unset, .unset, .unset, .unset] [(.ref va)])) tt
      refine XS.iloadN X0.here hx rfl (hb hby d11_1) rfl ?_
      exact kk
    obtain ⟨cq36, kq36, q36a, q36b, q36c⟩ := isOf hZ e0 E_va
    obtain ⟨_, _, ⟨T36, L36, k36, n36⟩, -, X36, ⟨Lc36, hQ36, l36, y36, z36⟩, st36⟩ := X0.virtualBack hx (y := (⟨"com/example/deferra/deferra/engine/Identities", "number", "(I)I"⟩ : MethodName)) (z := (⟨"com/example/deferra/deferra/engine/Identities", "number", "(I)I"⟩ : MethodName)) hown (mvT hZ (hw _ (mw 76 rfl))) (mvT hZ (hw _ (mw 77 rfl))) (notFace_of_selects (args := #[]) (mvT hZ (hw _ (mw 79 rfl)))) (mvT hZ (hw _ (mw 79 rfl))) (mvT hZ (hw _ (mw 78 rfl))) (by decide) (backOf (W := 0) (rmnu l Z a0 hw [] va vi pp hd qb h0 n0 Z0 F_ints_va F_numberAt_va V_vi) hZ (hw _ (mw 80 rfl)) (hw _ (mw 2 rfl)) (by decide) (by decide)) q36a q36c (g := (mkF m 2 #[.val (.ref va), .val (.int (own_n qa)), .val (.int (own_n qb)), .unset, .unset, .unset, .unset, .unset, .unset, .unset] [(.int (own_n qb)), (.ref va)])) rfl (by rw [hml]; rfl) (Steps.refl _) (argsL := [(.int (own_n qb))]) (rest := []) (lenOf pd_2 rfl) rfl (by show 2 * 0 + _ ≤ _; exact Nat.le_of_eq rfl) (hb hby d11_2) (fun _ _ => ⟨rfl, e0, (by decide : 0 + 0 ≤ _), (by decide : 0 + 0 ≤ _)⟩)
    dsimp only [Pt.U, Pt.locs, Pt.cells, Pt.slots] at X36 l36 y36 z36 st36 hQ36
    subst l36 y36 z36
    obtain ⟨rfl, N36q, e36⟩ := hQ36
    have N36 := Fr.app N0 N36q
    refine Goal.tr (B := T36.setTop (mkF m 5 #[.val (.ref va), .val (.int (own_n qa)), .val (.int (own_n qb)), .unset, .unset, .unset, .unset, .unset, .unset, .unset] [(.int (if qb = 0 then (-1 : Int32) else (-2 : Int32)))])) st36 ?_
    refine Goal.to (B := T36.setTop (mkF m 29 #[.val (.ref va), .val (.int (own_n qa)), .val (.int (own_n qb)), .val (.int (own_n qa)), .val (.int (own_n qb)), .unset, .unset, .unset, .unset, .unset] [(.ref va)])) (fun tt kk => ?_) ?_
    · show Steps p.tables e below (T36.setTop (mkF m 5 #[.val (.ref va), .val (.int (own_n qa)), .val (.int (own_n qb)), .unset, .unset, .unset, .unset, .unset, .unset, .unset] [(.int (if qb = 0 then (-1 : Int32) else (-2 : Int32)))])) tt
      refine XS.bipush X36.here hx rfl (hb hby d11_5) ?_
      show Steps p.tables e below (T36.setTop (mkF m 7 #[.val (.ref va), .val (.int (own_n qa)), .val (.int (own_n qb)), .unset, .unset, .unset, .unset, .unset, .unset, .unset] [(.int (-2 : Int32)), (.int (if qb = 0 then (-1 : Int32) else (-2 : Int32)))])) tt
      refine XS.icmpYes X36.here hx rfl (pc0 := 7) (pc' := 14) rfl (hb hby d11_7) rfl (teq (if_neg hk0 : (if qb = 0 then (-1 : Int32) else (-2 : Int32)) = (-2 : Int32))).1 (by decide) (by decide) ?_
      show Steps p.tables e below (T36.setTop (mkF m 14 #[.val (.ref va), .val (.int (own_n qa)), .val (.int (own_n qb)), .unset, .unset, .unset, .unset, .unset, .unset, .unset] [])) tt
      refine XS.iloadN X36.here hx rfl (hb hby d11_14) rfl ?_
      show Steps p.tables e below (T36.setTop (mkF m 15 #[.val (.ref va), .val (.int (own_n qa)), .val (.int (own_n qb)), .unset, .unset, .unset, .unset, .unset, .unset, .unset] [(.int (own_n qa))])) tt
      refine XS.istoreN X36.here hx rfl (hb hby d11_15) rfl (l' := #[.val (.ref va), .val (.int (own_n qa)), .val (.int (own_n qb)), .val (.int (own_n qa)), .unset, .unset, .unset, .unset, .unset, .unset]) rfl ?_
      show Steps p.tables e below (T36.setTop (mkF m 16 #[.val (.ref va), .val (.int (own_n qa)), .val (.int (own_n qb)), .val (.int (own_n qa)), .unset, .unset, .unset, .unset, .unset, .unset] [])) tt
      refine XS.iloadN X36.here hx rfl (hb hby d11_16) rfl ?_
      show Steps p.tables e below (T36.setTop (mkF m 17 #[.val (.ref va), .val (.int (own_n qa)), .val (.int (own_n qb)), .val (.int (own_n qa)), .unset, .unset, .unset, .unset, .unset, .unset] [(.int (own_n qa))])) tt
      refine XS.iloadN X36.here hx rfl (hb hby d11_17) rfl ?_
      show Steps p.tables e below (T36.setTop (mkF m 18 #[.val (.ref va), .val (.int (own_n qa)), .val (.int (own_n qb)), .val (.int (own_n qa)), .unset, .unset, .unset, .unset, .unset, .unset] [(.int (own_n qa)), (.int (own_n qa))])) tt
      refine XS.icmpNo X36.here hx rfl (hb hby d11_18) rfl (teq rfl).2 ?_
      show Steps p.tables e below (T36.setTop (mkF m 21 #[.val (.ref va), .val (.int (own_n qa)), .val (.int (own_n qb)), .val (.int (own_n qa)), .unset, .unset, .unset, .unset, .unset, .unset] [])) tt
      refine XS.iloadN X36.here hx rfl (hb hby d11_21) rfl ?_
      show Steps p.tables e below (T36.setTop (mkF m 22 #[.val (.ref va), .val (.int (own_n qa)), .val (.int (own_n qb)), .val (.int (own_n qa)), .unset, .unset, .unset, .unset, .unset, .unset] [(.int (own_n qb))])) tt
      refine XS.goto X36.here hx rfl (pc0 := 22) (pc' := 26) rfl (hb hby d11_22) (by decide) (by decide) ?_
      show Steps p.tables e below (T36.setTop (mkF m 26 #[.val (.ref va), .val (.int (own_n qa)), .val (.int (own_n qb)), .val (.int (own_n qa)), .unset, .unset, .unset, .unset, .unset, .unset] [(.int (own_n qb))])) tt
      refine XS.istore X36.here hx rfl (hb hby d11_26) rfl (l' := #[.val (.ref va), .val (.int (own_n qa)), .val (.int (own_n qb)), .val (.int (own_n qa)), .val (.int (own_n qb)), .unset, .unset, .unset, .unset, .unset]) rfl ?_
      show Steps p.tables e below (T36.setTop (mkF m 28 #[.val (.ref va), .val (.int (own_n qa)), .val (.int (own_n qb)), .val (.int (own_n qa)), .val (.int (own_n qb)), .unset, .unset, .unset, .unset, .unset] [])) tt
      refine XS.aloadN X36.here hx rfl (hb hby d11_28) rfl rfl ?_
      exact kk
    obtain ⟨T37, X37, e37, st37⟩ := getF X36 hx hZ hown (host := "") (Or.inl (hw _ (mw 24 rfl))) Via.refl e36 F_ints_va (g := (mkF m 29 #[.val (.ref va), .val (.int (own_n qa)), .val (.int (own_n qb)), .val (.int (own_n qa)), .val (.int (own_n qb)), .unset, .unset, .unset, .unset, .unset] [(.ref va)])) rfl rfl (hb hby d11_29)
    refine Goal.to (B := T37.setTop (mkF m 32 #[.val (.ref va), .val (.int (own_n qa)), .val (.int (own_n qb)), .val (.int (own_n qa)), .val (.int (own_n qb)), .unset, .unset, .unset, .unset, .unset] [(.ref vi)])) st37 ?_
    refine Goal.to (B := T37.setTop (mkF m 35 #[.val (.ref va), .val (.int (own_n qa)), .val (.int (own_n qb)), .val (.int (own_n qa)), .val (.int (own_n qb)), .unset, .unset, .unset, .unset, .unset] [(.int (own_n qa)), (.int (own_n qb)), (.ref vi)])) (fun tt kk => ?_) ?_
    · show Steps p.tables e below (T37.setTop (mkF m 32 #[.val (.ref va), .val (.int (own_n qa)), .val (.int (own_n qb)), .val (.int (own_n qa)), .val (.int (own_n qb)), .unset, .unset, .unset, .unset, .unset] [(.ref vi)])) tt
      refine XS.iload X37.here hx rfl (hb hby d11_32) rfl ?_
      show Steps p.tables e below (T37.setTop (mkF m 34 #[.val (.ref va), .val (.int (own_n qa)), .val (.int (own_n qb)), .val (.int (own_n qa)), .val (.int (own_n qb)), .unset, .unset, .unset, .unset, .unset] [(.int (own_n qb)), (.ref vi)])) tt
      refine XS.iloadN X37.here hx rfl (hb hby d11_34) rfl ?_
      exact kk
    obtain ⟨cl38, Ar38, Sl38⟩ := id V_vi
    have hin38 := inA (cl := cl38) Sl38 (j := (own_n qb)) (own_ix qb).1 (by rw [(own_ix qb).2, own_lenI]; have := own_lt qb; omega)
    obtain ⟨T38, h38, X38, e38, W38, st38⟩ := stI X37 hx hZ e37 Ar38 (j := (own_n qb)) hin38 (g := (mkF m 35 #[.val (.ref va), .val (.int (own_n qa)), .val (.int (own_n qb)), .val (.int (own_n qa)), .val (.int (own_n qb)), .unset, .unset, .unset, .unset, .unset] [(.int (own_n qa)), (.int (own_n qb)), (.ref vi)])) rfl rfl (hb hby d11_35)
    have V38 : Ary Z h38 vi .int (((own_I pp hd)).set (qb.val) (.int (own_n qa))) := Ary.put Ar38 Sl38 W38 (own_ix qb).2
    have N38 := Fr.snoc X38 N36 g_vi
    refine Goal.to (B := T38.setTop (mkF m 36 #[.val (.ref va), .val (.int (own_n qa)), .val (.int (own_n qb)), .val (.int (own_n qa)), .val (.int (own_n qb)), .unset, .unset, .unset, .unset, .unset] [])) st38 ?_
    have V39 : Ary Z h38 vi .int (own_I (own_u pp qb qa) hd) := Ary.cast V38 (own_setI pp hd qa qb)
    refine Goal.to (B := T38.setTop (mkF m 39 #[.val (.ref va), .val (.int (own_n qa)), .val (.int (own_n qb)), .val (.int (own_n qa)), .val (.int (own_n qb)), .unset, .unset, .unset, .unset, .unset] [(.int (own_n qb)), (.ref va)])) (fun tt kk => ?_) ?_
    · show Steps p.tables e below (T38.setTop (mkF m 36 #[.val (.ref va), .val (.int (own_n qa)), .val (.int (own_n qb)), .val (.int (own_n qa)), .val (.int (own_n qb)), .unset, .unset, .unset, .unset, .unset] [])) tt
      refine XS.aloadN X38.here hx rfl (hb hby d11_36) rfl rfl ?_
      show Steps p.tables e below (T38.setTop (mkF m 37 #[.val (.ref va), .val (.int (own_n qa)), .val (.int (own_n qb)), .val (.int (own_n qa)), .val (.int (own_n qb)), .unset, .unset, .unset, .unset, .unset] [(.ref va)])) tt
      refine XS.iload X38.here hx rfl (hb hby d11_37) rfl ?_
      exact kk
    have f40 : Exa Z h38 va "com/example/deferra/deferra/engine/Identities" := (E_va.wr W38)
    have f41 : Fld Z h38 va "com/example/deferra/deferra/engine/Identities" "words" "I" (.int (1 : Int32)) := (F_words_va.other W38 (Or.inl ne_va_vi))
    have f42 : Fld Z h38 va "com/example/deferra/deferra/engine/Identities" "ints" "[I" (.ref vi) := (F_ints_va.other W38 (Or.inl ne_va_vi))
    have f43 : Fld Z h38 va "com/example/deferra/deferra/engine/Identities" "numberAt" "I" (.int (16 : Int32)) := (F_numberAt_va.other W38 (Or.inl ne_va_vi))
    have f44 : Fld Z h38 va "com/example/deferra/deferra/engine/Identities" "colourAt" "I" (.int (32 : Int32)) := (F_colourAt_va.other W38 (Or.inl ne_va_vi))
    have f45 : Fld Z h38 va "com/example/deferra/deferra/engine/Identities" "holdersAt" "I" (.int (64 : Int32)) := (F_holdersAt_va.other W38 (Or.inl ne_va_vi))
    have f46 : Fld Z h38 va "com/example/deferra/deferra/engine/Identities" "rows" "[J" (.ref vr) := (F_rows_va.other W38 (Or.inl ne_va_vi))
    have f47 : Fld Z h38 va "com/example/deferra/deferra/engine/Identities" "openCount" "I" (.int uo) := (F_openCount_va.other W38 (Or.inl ne_va_vi))
    have f48 : Ary Z h38 vr .long (own_R ra rb) := (V_vr.other W38 (Ne.symm ne_vi_vr))
    have f49 : n0 ≤ h38.size := (Nat.le_trans Z0 (Keep.of_wr W38).1)
    obtain ⟨cq50, q50, q50'⟩ := f40.cell
    obtain ⟨_, _, ⟨T50, L50, k50, n50⟩, -, X50, ⟨Lc50, hQ50, l50, y50, z50⟩, st50⟩ := X38.privateBack hx (y := (⟨"com/example/deferra/deferra/engine/Identities", "close", "(I)V"⟩ : MethodName)) hown (mvT hZ (hw _ (mw 81 rfl))) (mvT hZ (hw _ (mw 82 rfl))) (selP hZ (hw _ (mw 1 rfl)) (hw _ (mw 83 rfl)) (hw _ (mw 82 rfl)) (by decide)) (Cond.privateMethod_at (mvP hZ (hw _ (mw 83 rfl)) (args := #[]))) (mvT hZ (hw _ (mw 84 rfl))) (by decide) (backOf (W := 0) (rmcl l Z a0 hw [] va vi vr (own_u pp qb qa) hd ra rb uo qb h38 n0 f49 f40 f41 f42 f43 f44 f45 f46 f47 V39 f48 g_va g_vi g_vr ne_va_vi ne_va_vr ne_vi_vr) hZ (hw _ (mw 84 rfl)) (hw _ (mw 2 rfl)) (by decide) (by decide)) (g := (mkF m 39 #[.val (.ref va), .val (.int (own_n qa)), .val (.int (own_n qb)), .val (.int (own_n qa)), .val (.int (own_n qb)), .unset, .unset, .unset, .unset, .unset] [(.int (own_n qb)), (.ref va)])) rfl (by rw [hml]; rfl) (Steps.refl _) (a := va) (by rw [e38]; exact q50) q50' (argsL := [(.int (own_n qb))]) (rest := []) (lenOf pd_9 rfl) rfl (by show 2 * 0 + _ ≤ _; exact Nat.le_of_eq rfl) (hb hby d11_39) (fun _ _ => ⟨rfl, e38, (by decide : 0 + 0 ≤ _), (by decide : 0 + 0 ≤ _)⟩)
    dsimp only [Pt.U, Pt.locs, Pt.cells, Pt.slots] at X50 l50 y50 z50 st50 hQ50
    subst l50 y50 z50
    obtain ⟨na_50, nh_50, no_50, rfl, N50q, K50, P50_0, P50_1, P50_2, P50_3, P50_4, P50_5, P50_6, P50_7, P50_8⟩ := hQ50
    have N50 := Fr.app N38 N50q
    refine Goal.tr (B := T50.setTop (mkF m 42 #[.val (.ref va), .val (.int (own_n qa)), .val (.int (own_n qb)), .val (.int (own_n qa)), .val (.int (own_n qb)), .unset, .unset, .unset, .unset, .unset] [])) st50 ?_
    refine Goal.to (B := T50.setTop (mkF m 44 #[.val (.ref va), .val (.int (own_n qa)), .val (.int (own_n qb)), .val (.int (own_n qa)), .val (.int (own_n qb)), .unset, .unset, .unset, .unset, .unset] [(.int (own_n qa)), (.ref va)])) (fun tt kk => ?_) ?_
    · show Steps p.tables e below (T50.setTop (mkF m 42 #[.val (.ref va), .val (.int (own_n qa)), .val (.int (own_n qb)), .val (.int (own_n qa)), .val (.int (own_n qb)), .unset, .unset, .unset, .unset, .unset] [])) tt
      refine XS.aloadN X50.here hx rfl (hb hby d11_42) rfl rfl ?_
      show Steps p.tables e below (T50.setTop (mkF m 43 #[.val (.ref va), .val (.int (own_n qa)), .val (.int (own_n qb)), .val (.int (own_n qa)), .val (.int (own_n qb)), .unset, .unset, .unset, .unset, .unset] [(.ref va)])) tt
      refine XS.iloadN X50.here hx rfl (hb hby d11_43) rfl ?_
      exact kk
    have f51 : n0 ≤ T50.heap.size := (Nat.le_trans f49 K50.1)
    have f53 : Exa Z T50.heap va "com/example/deferra/deferra/engine/Identities" := (f40.keep K50)
    obtain ⟨cq52, q52, q52'⟩ := f53.cell
    obtain ⟨_, _, ⟨T52, L52, k52, n52⟩, -, X52, ⟨Lc52, hQ52, l52, y52, z52⟩, st52⟩ := X50.privateBack hx (y := (⟨"com/example/deferra/deferra/engine/Identities", "row", "(I)I"⟩ : MethodName)) hown (mvT hZ (hw _ (mw 86 rfl))) (mvT hZ (hw _ (mw 87 rfl))) (selP hZ (hw _ (mw 1 rfl)) (hw _ (mw 88 rfl)) (hw _ (mw 87 rfl)) (by decide)) (Cond.privateMethod_at (mvP hZ (hw _ (mw 88 rfl)) (args := #[]))) (mvT hZ (hw _ (mw 89 rfl))) (by decide) (backOf (W := 0) (rmro l Z a0 hw [] va qa T50.heap n0 f51 P50_0) hZ (hw _ (mw 89 rfl)) (hw _ (mw 2 rfl)) (by decide) (by decide)) (g := (mkF m 44 #[.val (.ref va), .val (.int (own_n qa)), .val (.int (own_n qb)), .val (.int (own_n qa)), .val (.int (own_n qb)), .unset, .unset, .unset, .unset, .unset] [(.int (own_n qa)), (.ref va)])) rfl (by rw [hml]; rfl) (Steps.refl _) (a := va) q52 q52' (argsL := [(.int (own_n qa))]) (rest := []) (lenOf pd_2 rfl) rfl (by show 2 * 0 + _ ≤ _; exact Nat.le_of_eq rfl) (hb hby d11_44) (fun _ _ => ⟨rfl, rfl, (by decide : 0 + 0 ≤ _), (by decide : 0 + 0 ≤ _)⟩)
    dsimp only [Pt.U, Pt.locs, Pt.cells, Pt.slots] at X52 l52 y52 z52 st52 hQ52
    subst l52 y52 z52
    obtain ⟨rfl, N52q, e52⟩ := hQ52
    have N52 := Fr.app N50 N52q
    refine Goal.tr (B := T52.setTop (mkF m 47 #[.val (.ref va), .val (.int (own_n qa)), .val (.int (own_n qb)), .val (.int (own_n qa)), .val (.int (own_n qb)), .unset, .unset, .unset, .unset, .unset] [(.int (((2 : Int32) + (own_n qa)) * (1 : Int32)))])) st52 ?_
    refine Goal.to (B := T52.setTop (mkF m 52 #[.val (.ref va), .val (.int (own_n qa)), .val (.int (own_n qb)), .val (.int (own_n qa)), .val (.int (own_n qb)), .val (.int (((2 : Int32) + (own_n qa)) * (1 : Int32))), .unset, .unset, .unset, .unset] [(.int (own_n qb)), (.ref va)])) (fun tt kk => ?_) ?_
    · show Steps p.tables e below (T52.setTop (mkF m 47 #[.val (.ref va), .val (.int (own_n qa)), .val (.int (own_n qb)), .val (.int (own_n qa)), .val (.int (own_n qb)), .unset, .unset, .unset, .unset, .unset] [(.int (((2 : Int32) + (own_n qa)) * (1 : Int32)))])) tt
      refine XS.istore X52.here hx rfl (hb hby d11_47) rfl (l' := #[.val (.ref va), .val (.int (own_n qa)), .val (.int (own_n qb)), .val (.int (own_n qa)), .val (.int (own_n qb)), .val (.int (((2 : Int32) + (own_n qa)) * (1 : Int32))), .unset, .unset, .unset, .unset]) rfl ?_
      show Steps p.tables e below (T52.setTop (mkF m 49 #[.val (.ref va), .val (.int (own_n qa)), .val (.int (own_n qb)), .val (.int (own_n qa)), .val (.int (own_n qb)), .val (.int (((2 : Int32) + (own_n qa)) * (1 : Int32))), .unset, .unset, .unset, .unset] [])) tt
      refine XS.aloadN X52.here hx rfl (hb hby d11_49) rfl rfl ?_
      show Steps p.tables e below (T52.setTop (mkF m 50 #[.val (.ref va), .val (.int (own_n qa)), .val (.int (own_n qb)), .val (.int (own_n qa)), .val (.int (own_n qb)), .val (.int (((2 : Int32) + (own_n qa)) * (1 : Int32))), .unset, .unset, .unset, .unset] [(.ref va)])) tt
      refine XS.iload X52.here hx rfl (hb hby d11_50) rfl ?_
      exact kk
    obtain ⟨cq54, q54, q54'⟩ := f53.cell
    obtain ⟨_, _, ⟨T54, L54, k54, n54⟩, -, X54, ⟨Lc54, hQ54, l54, y54, z54⟩, st54⟩ := X52.privateBack hx (y := (⟨"com/example/deferra/deferra/engine/Identities", "row", "(I)I"⟩ : MethodName)) hown (mvT hZ (hw _ (mw 86 rfl))) (mvT hZ (hw _ (mw 87 rfl))) (selP hZ (hw _ (mw 1 rfl)) (hw _ (mw 88 rfl)) (hw _ (mw 87 rfl)) (by decide)) (Cond.privateMethod_at (mvP hZ (hw _ (mw 88 rfl)) (args := #[]))) (mvT hZ (hw _ (mw 89 rfl))) (by decide) (backOf (W := 0) (rmro l Z a0 hw [] va qb T50.heap n0 f51 P50_0) hZ (hw _ (mw 89 rfl)) (hw _ (mw 2 rfl)) (by decide) (by decide)) (g := (mkF m 52 #[.val (.ref va), .val (.int (own_n qa)), .val (.int (own_n qb)), .val (.int (own_n qa)), .val (.int (own_n qb)), .val (.int (((2 : Int32) + (own_n qa)) * (1 : Int32))), .unset, .unset, .unset, .unset] [(.int (own_n qb)), (.ref va)])) rfl (by rw [hml]; rfl) (Steps.refl _) (a := va) (by rw [e52]; exact q54) q54' (argsL := [(.int (own_n qb))]) (rest := []) (lenOf pd_2 rfl) rfl (by show 2 * 0 + _ ≤ _; exact Nat.le_of_eq rfl) (hb hby d11_52) (fun _ _ => ⟨rfl, e52, (by decide : 0 + 0 ≤ _), (by decide : 0 + 0 ≤ _)⟩)
    dsimp only [Pt.U, Pt.locs, Pt.cells, Pt.slots] at X54 l54 y54 z54 st54 hQ54
    subst l54 y54 z54
    obtain ⟨rfl, N54q, e54⟩ := hQ54
    have N54 := Fr.app N52 N54q
    refine Goal.tr (B := T54.setTop (mkF m 55 #[.val (.ref va), .val (.int (own_n qa)), .val (.int (own_n qb)), .val (.int (own_n qa)), .val (.int (own_n qb)), .val (.int (((2 : Int32) + (own_n qa)) * (1 : Int32))), .unset, .unset, .unset, .unset] [(.int (((2 : Int32) + (own_n qb)) * (1 : Int32)))])) st54 ?_
    refine Goal.to (B := T54.setTop (mkF m 63 #[.val (.ref va), .val (.int (own_n qa)), .val (.int (own_n qb)), .val (.int (own_n qa)), .val (.int (own_n qb)), .val (.int (((2 : Int32) + (own_n qa)) * (1 : Int32))), .val (.int (((2 : Int32) + (own_n qb)) * (1 : Int32))), .val (.int (0 : Int32)), .unset, .unset] [(.ref va), (.int (0 : Int32))])) (fun tt kk => ?_) ?_
    · show Steps p.tables e below (T54.setTop (mkF m 55 #[.val (.ref va), .val (.int (own_n qa)), .val (.int (own_n qb)), .val (.int (own_n qa)), .val (.int (own_n qb)), .val (.int (((2 : Int32) + (own_n qa)) * (1 : Int32))), .unset, .unset, .unset, .unset] [(.int (((2 : Int32) + (own_n qb)) * (1 : Int32)))])) tt
      refine XS.istore X54.here hx rfl (hb hby d11_55) rfl (l' := #[.val (.ref va), .val (.int (own_n qa)), .val (.int (own_n qb)), .val (.int (own_n qa)), .val (.int (own_n qb)), .val (.int (((2 : Int32) + (own_n qa)) * (1 : Int32))), .val (.int (((2 : Int32) + (own_n qb)) * (1 : Int32))), .unset, .unset, .unset]) rfl ?_
      show Steps p.tables e below (T54.setTop (mkF m 57 #[.val (.ref va), .val (.int (own_n qa)), .val (.int (own_n qb)), .val (.int (own_n qa)), .val (.int (own_n qb)), .val (.int (((2 : Int32) + (own_n qa)) * (1 : Int32))), .val (.int (((2 : Int32) + (own_n qb)) * (1 : Int32))), .unset, .unset, .unset] [])) tt
      refine XS.iconst X54.here hx rfl (hb hby d11_57) ?_
      show Steps p.tables e below (T54.setTop (mkF m 58 #[.val (.ref va), .val (.int (own_n qa)), .val (.int (own_n qb)), .val (.int (own_n qa)), .val (.int (own_n qb)), .val (.int (((2 : Int32) + (own_n qa)) * (1 : Int32))), .val (.int (((2 : Int32) + (own_n qb)) * (1 : Int32))), .unset, .unset, .unset] [(.int (0 : Int32))])) tt
      refine XS.istore X54.here hx rfl (hb hby d11_58) rfl (l' := #[.val (.ref va), .val (.int (own_n qa)), .val (.int (own_n qb)), .val (.int (own_n qa)), .val (.int (own_n qb)), .val (.int (((2 : Int32) + (own_n qa)) * (1 : Int32))), .val (.int (((2 : Int32) + (own_n qb)) * (1 : Int32))), .val (.int (0 : Int32)), .unset, .unset]) rfl ?_
      show Steps p.tables e below (T54.setTop (mkF m 60 #[.val (.ref va), .val (.int (own_n qa)), .val (.int (own_n qb)), .val (.int (own_n qa)), .val (.int (own_n qb)), .val (.int (((2 : Int32) + (own_n qa)) * (1 : Int32))), .val (.int (((2 : Int32) + (own_n qb)) * (1 : Int32))), .val (.int (0 : Int32)), .unset, .unset] [])) tt
      refine XS.iload X54.here hx rfl (hb hby d11_60) rfl ?_
      show Steps p.tables e below (T54.setTop (mkF m 62 #[.val (.ref va), .val (.int (own_n qa)), .val (.int (own_n qb)), .val (.int (own_n qa)), .val (.int (own_n qb)), .val (.int (((2 : Int32) + (own_n qa)) * (1 : Int32))), .val (.int (((2 : Int32) + (own_n qb)) * (1 : Int32))), .val (.int (0 : Int32)), .unset, .unset] [(.int (0 : Int32))])) tt
      refine XS.aloadN X54.here hx rfl (hb hby d11_62) rfl rfl ?_
      exact kk
    obtain ⟨T55, X55, e55, st55⟩ := getF X54 hx hZ hown (host := "") (Or.inl (hw _ (mw 14 rfl))) Via.refl e54 P50_0 (g := (mkF m 63 #[.val (.ref va), .val (.int (own_n qa)), .val (.int (own_n qb)), .val (.int (own_n qa)), .val (.int (own_n qb)), .val (.int (((2 : Int32) + (own_n qa)) * (1 : Int32))), .val (.int (((2 : Int32) + (own_n qb)) * (1 : Int32))), .val (.int (0 : Int32)), .unset, .unset] [(.ref va), (.int (0 : Int32))])) rfl rfl (hb hby d11_63)
    refine Goal.to (B := T55.setTop (mkF m 66 #[.val (.ref va), .val (.int (own_n qa)), .val (.int (own_n qb)), .val (.int (own_n qa)), .val (.int (own_n qb)), .val (.int (((2 : Int32) + (own_n qa)) * (1 : Int32))), .val (.int (((2 : Int32) + (own_n qb)) * (1 : Int32))), .val (.int (0 : Int32)), .unset, .unset] [(.int (1 : Int32)), (.int (0 : Int32))])) st55 ?_
    refine Goal.to (B := T55.setTop (mkF m 70 #[.val (.ref va), .val (.int (own_n qa)), .val (.int (own_n qb)), .val (.int (own_n qa)), .val (.int (own_n qb)), .val (.int (((2 : Int32) + (own_n qa)) * (1 : Int32))), .val (.int (((2 : Int32) + (own_n qb)) * (1 : Int32))), .val (.int (0 : Int32)), .unset, .unset] [(.ref va)])) (fun tt kk => ?_) ?_
    · show Steps p.tables e below (T55.setTop (mkF m 66 #[.val (.ref va), .val (.int (own_n qa)), .val (.int (own_n qb)), .val (.int (own_n qa)), .val (.int (own_n qb)), .val (.int (((2 : Int32) + (own_n qa)) * (1 : Int32))), .val (.int (((2 : Int32) + (own_n qb)) * (1 : Int32))), .val (.int (0 : Int32)), .unset, .unset] [(.int (1 : Int32)), (.int (0 : Int32))])) tt
      refine XS.icmpNo X55.here hx rfl (hb hby d11_66) rfl (tlt ((by decide) : (0 : Int32) < (1 : Int32))).2.1 ?_
      show Steps p.tables e below (T55.setTop (mkF m 69 #[.val (.ref va), .val (.int (own_n qa)), .val (.int (own_n qb)), .val (.int (own_n qa)), .val (.int (own_n qb)), .val (.int (((2 : Int32) + (own_n qa)) * (1 : Int32))), .val (.int (((2 : Int32) + (own_n qb)) * (1 : Int32))), .val (.int (0 : Int32)), .unset, .unset] [])) tt
      refine XS.aloadN X55.here hx rfl (hb hby d11_69) rfl rfl ?_
      exact kk
    obtain ⟨T56, X56, e56, st56⟩ := getF X55 hx hZ hown (host := "") (Or.inl (hw _ (mw 39 rfl))) Via.refl e55 P50_5 (g := (mkF m 70 #[.val (.ref va), .val (.int (own_n qa)), .val (.int (own_n qb)), .val (.int (own_n qa)), .val (.int (own_n qb)), .val (.int (((2 : Int32) + (own_n qa)) * (1 : Int32))), .val (.int (((2 : Int32) + (own_n qb)) * (1 : Int32))), .val (.int (0 : Int32)), .unset, .unset] [(.ref va)])) rfl rfl (hb hby d11_70)
    refine Goal.to (B := T56.setTop (mkF m 73 #[.val (.ref va), .val (.int (own_n qa)), .val (.int (own_n qb)), .val (.int (own_n qa)), .val (.int (own_n qb)), .val (.int (((2 : Int32) + (own_n qa)) * (1 : Int32))), .val (.int (((2 : Int32) + (own_n qb)) * (1 : Int32))), .val (.int (0 : Int32)), .unset, .unset] [(.ref vr)])) st56 ?_
    refine Goal.to (B := T56.setTop (mkF m 78 #[.val (.ref va), .val (.int (own_n qa)), .val (.int (own_n qb)), .val (.int (own_n qa)), .val (.int (own_n qb)), .val (.int (((2 : Int32) + (own_n qa)) * (1 : Int32))), .val (.int (((2 : Int32) + (own_n qb)) * (1 : Int32))), .val (.int (0 : Int32)), .unset, .unset] [(.int ((((2 : Int32) + (own_n qb)) * (1 : Int32)) + (0 : Int32))), (.ref vr)])) (fun tt kk => ?_) ?_
    · show Steps p.tables e below (T56.setTop (mkF m 73 #[.val (.ref va), .val (.int (own_n qa)), .val (.int (own_n qb)), .val (.int (own_n qa)), .val (.int (own_n qb)), .val (.int (((2 : Int32) + (own_n qa)) * (1 : Int32))), .val (.int (((2 : Int32) + (own_n qb)) * (1 : Int32))), .val (.int (0 : Int32)), .unset, .unset] [(.ref vr)])) tt
      refine XS.iload X56.here hx rfl (hb hby d11_73) rfl ?_
      show Steps p.tables e below (T56.setTop (mkF m 75 #[.val (.ref va), .val (.int (own_n qa)), .val (.int (own_n qb)), .val (.int (own_n qa)), .val (.int (own_n qb)), .val (.int (((2 : Int32) + (own_n qa)) * (1 : Int32))), .val (.int (((2 : Int32) + (own_n qb)) * (1 : Int32))), .val (.int (0 : Int32)), .unset, .unset] [(.int (((2 : Int32) + (own_n qb)) * (1 : Int32))), (.ref vr)])) tt
      refine XS.iload X56.here hx rfl (hb hby d11_75) rfl ?_
      show Steps p.tables e below (T56.setTop (mkF m 77 #[.val (.ref va), .val (.int (own_n qa)), .val (.int (own_n qb)), .val (.int (own_n qa)), .val (.int (own_n qb)), .val (.int (((2 : Int32) + (own_n qa)) * (1 : Int32))), .val (.int (((2 : Int32) + (own_n qb)) * (1 : Int32))), .val (.int (0 : Int32)), .unset, .unset] [(.int (0 : Int32)), (.int (((2 : Int32) + (own_n qb)) * (1 : Int32))), (.ref vr)])) tt
      refine XS.iadd X56.here hx rfl (hb hby d11_77) rfl ?_
      exact kk
    obtain ⟨cl57, Ar57, Sl57⟩ := id P50_8
    have hin57 := inA (cl := cl57) Sl57 (j := ((((2 : Int32) + (own_n qb)) * (1 : Int32)) + (0 : Int32))) (own_ixr qb).1 (by rw [(own_ixr qb).2, own_lenR]; have := own_lt qb; omega)
    have hat57 : cl57.slots[(((((2 : Int32) + (own_n qb)) * (1 : Int32)) + (0 : Int32))).toNatClampNeg]? = some (.long (0 : Int64)) := atA Sl57 (by rw [(own_ixr qb).2]; exact own_rowR na_50 rb qb)
    refine Goal.to (B := T56.setTop (mkF m 82 #[.val (.ref va), .val (.int (own_n qa)), .val (.int (own_n qb)), .val (.int (own_n qa)), .val (.int (own_n qb)), .val (.int (((2 : Int32) + (own_n qa)) * (1 : Int32))), .val (.int (((2 : Int32) + (own_n qb)) * (1 : Int32))), .val (.int (0 : Int32)), .val (.long (0 : Int64)), .second] [(.ref va)])) (fun tt kk => ?_) ?_
    · show Steps p.tables e below (T56.setTop (mkF m 78 #[.val (.ref va), .val (.int (own_n qa)), .val (.int (own_n qb)), .val (.int (own_n qa)), .val (.int (own_n qb)), .val (.int (((2 : Int32) + (own_n qa)) * (1 : Int32))), .val (.int (((2 : Int32) + (own_n qb)) * (1 : Int32))), .val (.int (0 : Int32)), .unset, .unset] [(.int ((((2 : Int32) + (own_n qb)) * (1 : Int32)) + (0 : Int32))), (.ref vr)])) tt
      refine X56.laload hx (j := ((((2 : Int32) + (own_n qb)) * (1 : Int32)) + (0 : Int32))) (v := (.long (0 : Int64))) (by rw [e56]; exact Ar57.1) (State.isArrayOf_alike hZ.alike Ar57.2.1) Ar57.2.2 hin57 hat57 (g := (mkF m 78 #[.val (.ref va), .val (.int (own_n qa)), .val (.int (own_n qb)), .val (.int (own_n qa)), .val (.int (own_n qb)), .val (.int (((2 : Int32) + (own_n qa)) * (1 : Int32))), .val (.int (((2 : Int32) + (own_n qb)) * (1 : Int32))), .val (.int (0 : Int32)), .unset, .unset] [(.int ((((2 : Int32) + (own_n qb)) * (1 : Int32)) + (0 : Int32))), (.ref vr)])) rfl rfl (hb hby d11_78) _ ?_
      show Steps p.tables e below (T56.setTop (mkF m 79 #[.val (.ref va), .val (.int (own_n qa)), .val (.int (own_n qb)), .val (.int (own_n qa)), .val (.int (own_n qb)), .val (.int (((2 : Int32) + (own_n qa)) * (1 : Int32))), .val (.int (((2 : Int32) + (own_n qb)) * (1 : Int32))), .val (.int (0 : Int32)), .unset, .unset] [(.long (0 : Int64))])) tt
      refine XS.lstore X56.here hx rfl (hb hby d11_79) rfl (l' := #[.val (.ref va), .val (.int (own_n qa)), .val (.int (own_n qb)), .val (.int (own_n qa)), .val (.int (own_n qb)), .val (.int (((2 : Int32) + (own_n qa)) * (1 : Int32))), .val (.int (((2 : Int32) + (own_n qb)) * (1 : Int32))), .val (.int (0 : Int32)), .val (.long (0 : Int64)), .second]) rfl ?_
      show Steps p.tables e below (T56.setTop (mkF m 81 #[.val (.ref va), .val (.int (own_n qa)), .val (.int (own_n qb)), .val (.int (own_n qa)), .val (.int (own_n qb)), .val (.int (((2 : Int32) + (own_n qa)) * (1 : Int32))), .val (.int (((2 : Int32) + (own_n qb)) * (1 : Int32))), .val (.int (0 : Int32)), .val (.long (0 : Int64)), .second] [])) tt
      refine XS.aloadN X56.here hx rfl (hb hby d11_81) rfl rfl ?_
      exact kk
    obtain ⟨T58, X58, e58, st58⟩ := getF X56 hx hZ hown (host := "") (Or.inl (hw _ (mw 39 rfl))) Via.refl e56 P50_5 (g := (mkF m 82 #[.val (.ref va), .val (.int (own_n qa)), .val (.int (own_n qb)), .val (.int (own_n qa)), .val (.int (own_n qb)), .val (.int (((2 : Int32) + (own_n qa)) * (1 : Int32))), .val (.int (((2 : Int32) + (own_n qb)) * (1 : Int32))), .val (.int (0 : Int32)), .val (.long (0 : Int64)), .second] [(.ref va)])) rfl rfl (hb hby d11_82)
    refine Goal.to (B := T58.setTop (mkF m 85 #[.val (.ref va), .val (.int (own_n qa)), .val (.int (own_n qb)), .val (.int (own_n qa)), .val (.int (own_n qb)), .val (.int (((2 : Int32) + (own_n qa)) * (1 : Int32))), .val (.int (((2 : Int32) + (own_n qb)) * (1 : Int32))), .val (.int (0 : Int32)), .val (.long (0 : Int64)), .second] [(.ref vr)])) st58 ?_
    refine Goal.to (B := T58.setTop (mkF m 91 #[.val (.ref va), .val (.int (own_n qa)), .val (.int (own_n qb)), .val (.int (own_n qa)), .val (.int (own_n qb)), .val (.int (((2 : Int32) + (own_n qa)) * (1 : Int32))), .val (.int (((2 : Int32) + (own_n qb)) * (1 : Int32))), .val (.int (0 : Int32)), .val (.long (0 : Int64)), .second] [(.int ((((2 : Int32) + (own_n qa)) * (1 : Int32)) + (0 : Int32))), (.ref vr), (.int ((((2 : Int32) + (own_n qa)) * (1 : Int32)) + (0 : Int32))), (.ref vr)])) (fun tt kk => ?_) ?_
    · show Steps p.tables e below (T58.setTop (mkF m 85 #[.val (.ref va), .val (.int (own_n qa)), .val (.int (own_n qb)), .val (.int (own_n qa)), .val (.int (own_n qb)), .val (.int (((2 : Int32) + (own_n qa)) * (1 : Int32))), .val (.int (((2 : Int32) + (own_n qb)) * (1 : Int32))), .val (.int (0 : Int32)), .val (.long (0 : Int64)), .second] [(.ref vr)])) tt
      refine XS.iload X58.here hx rfl (hb hby d11_85) rfl ?_
      show Steps p.tables e below (T58.setTop (mkF m 87 #[.val (.ref va), .val (.int (own_n qa)), .val (.int (own_n qb)), .val (.int (own_n qa)), .val (.int (own_n qb)), .val (.int (((2 : Int32) + (own_n qa)) * (1 : Int32))), .val (.int (((2 : Int32) + (own_n qb)) * (1 : Int32))), .val (.int (0 : Int32)), .val (.long (0 : Int64)), .second] [(.int (((2 : Int32) + (own_n qa)) * (1 : Int32))), (.ref vr)])) tt
      refine XS.iload X58.here hx rfl (hb hby d11_87) rfl ?_
      show Steps p.tables e below (T58.setTop (mkF m 89 #[.val (.ref va), .val (.int (own_n qa)), .val (.int (own_n qb)), .val (.int (own_n qa)), .val (.int (own_n qb)), .val (.int (((2 : Int32) + (own_n qa)) * (1 : Int32))), .val (.int (((2 : Int32) + (own_n qb)) * (1 : Int32))), .val (.int (0 : Int32)), .val (.long (0 : Int64)), .second] [(.int (0 : Int32)), (.int (((2 : Int32) + (own_n qa)) * (1 : Int32))), (.ref vr)])) tt
      refine XS.iadd X58.here hx rfl (hb hby d11_89) rfl ?_
      show Steps p.tables e below (T58.setTop (mkF m 90 #[.val (.ref va), .val (.int (own_n qa)), .val (.int (own_n qb)), .val (.int (own_n qa)), .val (.int (own_n qb)), .val (.int (((2 : Int32) + (own_n qa)) * (1 : Int32))), .val (.int (((2 : Int32) + (own_n qb)) * (1 : Int32))), .val (.int (0 : Int32)), .val (.long (0 : Int64)), .second] [(.int ((((2 : Int32) + (own_n qa)) * (1 : Int32)) + (0 : Int32))), (.ref vr)])) tt
      refine Jvm.Free.XT.dup2 X58.here hx rfl (hb hby d11_90) rfl rfl rfl ?_
      exact kk
    obtain ⟨cl59, Ar59, Sl59⟩ := id P50_8
    have hin59 := inA (cl := cl59) Sl59 (j := ((((2 : Int32) + (own_n qa)) * (1 : Int32)) + (0 : Int32))) (own_ixr qa).1 (by rw [(own_ixr qa).2, own_lenR]; have := own_lt qa; omega)
    have hat59 : cl59.slots[(((((2 : Int32) + (own_n qa)) * (1 : Int32)) + (0 : Int32))).toNatClampNeg]? = some (.long (0 : Int64)) := atA Sl59 (by rw [(own_ixr qa).2]; exact own_rowR na_50 rb qa)
    refine Goal.to (B := T58.setTop (mkF m 95 #[.val (.ref va), .val (.int (own_n qa)), .val (.int (own_n qb)), .val (.int (own_n qa)), .val (.int (own_n qb)), .val (.int (((2 : Int32) + (own_n qa)) * (1 : Int32))), .val (.int (((2 : Int32) + (own_n qb)) * (1 : Int32))), .val (.int (0 : Int32)), .val (.long (0 : Int64)), .second] [(.long (0 : Int64)), (.int ((((2 : Int32) + (own_n qa)) * (1 : Int32)) + (0 : Int32))), (.ref vr)])) (fun tt kk => ?_) ?_
    · show Steps p.tables e below (T58.setTop (mkF m 91 #[.val (.ref va), .val (.int (own_n qa)), .val (.int (own_n qb)), .val (.int (own_n qa)), .val (.int (own_n qb)), .val (.int (((2 : Int32) + (own_n qa)) * (1 : Int32))), .val (.int (((2 : Int32) + (own_n qb)) * (1 : Int32))), .val (.int (0 : Int32)), .val (.long (0 : Int64)), .second] [(.int ((((2 : Int32) + (own_n qa)) * (1 : Int32)) + (0 : Int32))), (.ref vr), (.int ((((2 : Int32) + (own_n qa)) * (1 : Int32)) + (0 : Int32))), (.ref vr)])) tt
      refine X58.laload hx (j := ((((2 : Int32) + (own_n qa)) * (1 : Int32)) + (0 : Int32))) (v := (.long (0 : Int64))) (by rw [e58]; exact Ar59.1) (State.isArrayOf_alike hZ.alike Ar59.2.1) Ar59.2.2 hin59 hat59 (g := (mkF m 91 #[.val (.ref va), .val (.int (own_n qa)), .val (.int (own_n qb)), .val (.int (own_n qa)), .val (.int (own_n qb)), .val (.int (((2 : Int32) + (own_n qa)) * (1 : Int32))), .val (.int (((2 : Int32) + (own_n qb)) * (1 : Int32))), .val (.int (0 : Int32)), .val (.long (0 : Int64)), .second] [(.int ((((2 : Int32) + (own_n qa)) * (1 : Int32)) + (0 : Int32))), (.ref vr), (.int ((((2 : Int32) + (own_n qa)) * (1 : Int32)) + (0 : Int32))), (.ref vr)])) rfl rfl (hb hby d11_91) _ ?_
      show Steps p.tables e below (T58.setTop (mkF m 92 #[.val (.ref va), .val (.int (own_n qa)), .val (.int (own_n qb)), .val (.int (own_n qa)), .val (.int (own_n qb)), .val (.int (((2 : Int32) + (own_n qa)) * (1 : Int32))), .val (.int (((2 : Int32) + (own_n qb)) * (1 : Int32))), .val (.int (0 : Int32)), .val (.long (0 : Int64)), .second] [(.long (0 : Int64)), (.int ((((2 : Int32) + (own_n qa)) * (1 : Int32)) + (0 : Int32))), (.ref vr)])) tt
      refine XS.lload X58.here hx rfl (hb hby d11_92) rfl ?_
      show Steps p.tables e below (T58.setTop (mkF m 94 #[.val (.ref va), .val (.int (own_n qa)), .val (.int (own_n qb)), .val (.int (own_n qa)), .val (.int (own_n qb)), .val (.int (((2 : Int32) + (own_n qa)) * (1 : Int32))), .val (.int (((2 : Int32) + (own_n qb)) * (1 : Int32))), .val (.int (0 : Int32)), .val (.long (0 : Int64)), .second] [(.long (0 : Int64)), (.long (0 : Int64)), (.int ((((2 : Int32) + (own_n qa)) * (1 : Int32)) + (0 : Int32))), (.ref vr)])) tt
      refine XS.lor X58.here hx rfl (hb hby d11_94) rfl ?_
      exact kk
    obtain ⟨cl60, Ar60, Sl60⟩ := id P50_8
    have hin60 := inA (cl := cl60) Sl60 (j := ((((2 : Int32) + (own_n qa)) * (1 : Int32)) + (0 : Int32))) (own_ixr qa).1 (by rw [(own_ixr qa).2, own_lenR]; have := own_lt qa; omega)
    obtain ⟨T60, h60, X60, e60, W60, st60⟩ := stJ X58 hx hZ e58 Ar60 (j := ((((2 : Int32) + (own_n qa)) * (1 : Int32)) + (0 : Int32))) hin60 (g := (mkF m 95 #[.val (.ref va), .val (.int (own_n qa)), .val (.int (own_n qb)), .val (.int (own_n qa)), .val (.int (own_n qb)), .val (.int (((2 : Int32) + (own_n qa)) * (1 : Int32))), .val (.int (((2 : Int32) + (own_n qb)) * (1 : Int32))), .val (.int (0 : Int32)), .val (.long (0 : Int64)), .second] [(.long (0 : Int64)), (.int ((((2 : Int32) + (own_n qa)) * (1 : Int32)) + (0 : Int32))), (.ref vr)])) rfl rfl (hb hby d11_95)
    have V60 : Ary Z h60 vr .long (((own_R na_50 rb)).set (2 + qa.val) (.long (0 : Int64))) := Ary.put Ar60 Sl60 W60 (own_ixr qa).2
    have N60 := Fr.snoc X60 N54 g_vr
    refine Goal.to (B := T60.setTop (mkF m 96 #[.val (.ref va), .val (.int (own_n qa)), .val (.int (own_n qb)), .val (.int (own_n qa)), .val (.int (own_n qb)), .val (.int (((2 : Int32) + (own_n qa)) * (1 : Int32))), .val (.int (((2 : Int32) + (own_n qb)) * (1 : Int32))), .val (.int (0 : Int32)), .val (.long (0 : Int64)), .second] [])) st60 ?_
    refine Goal.to (B := T60.setTop (mkF m 63 #[.val (.ref va), .val (.int (own_n qa)), .val (.int (own_n qb)), .val (.int (own_n qa)), .val (.int (own_n qb)), .val (.int (((2 : Int32) + (own_n qa)) * (1 : Int32))), .val (.int (((2 : Int32) + (own_n qb)) * (1 : Int32))), .val (.int (1 : Int32)), .val (.long (0 : Int64)), .second] [(.ref va), (.int (1 : Int32))])) (fun tt kk => ?_) ?_
    · show Steps p.tables e below (T60.setTop (mkF m 96 #[.val (.ref va), .val (.int (own_n qa)), .val (.int (own_n qb)), .val (.int (own_n qa)), .val (.int (own_n qb)), .val (.int (((2 : Int32) + (own_n qa)) * (1 : Int32))), .val (.int (((2 : Int32) + (own_n qb)) * (1 : Int32))), .val (.int (0 : Int32)), .val (.long (0 : Int64)), .second] [])) tt
      refine XS.lload X60.here hx rfl (hb hby d11_96) rfl ?_
      show Steps p.tables e below (T60.setTop (mkF m 98 #[.val (.ref va), .val (.int (own_n qa)), .val (.int (own_n qb)), .val (.int (own_n qa)), .val (.int (own_n qb)), .val (.int (((2 : Int32) + (own_n qa)) * (1 : Int32))), .val (.int (((2 : Int32) + (own_n qb)) * (1 : Int32))), .val (.int (0 : Int32)), .val (.long (0 : Int64)), .second] [(.long (0 : Int64))])) tt
      refine XS.lconst X60.here hx rfl (hb hby d11_98) ?_
      show Steps p.tables e below (T60.setTop (mkF m 99 #[.val (.ref va), .val (.int (own_n qa)), .val (.int (own_n qb)), .val (.int (own_n qa)), .val (.int (own_n qb)), .val (.int (((2 : Int32) + (own_n qa)) * (1 : Int32))), .val (.int (((2 : Int32) + (own_n qb)) * (1 : Int32))), .val (.int (0 : Int32)), .val (.long (0 : Int64)), .second] [(.long (0 : Int64)), (.long (0 : Int64))])) tt
      refine XS.lcmp X60.here hx rfl (hb hby d11_99) rfl ?_
      show Steps p.tables e below (T60.setTop (mkF m 100 #[.val (.ref va), .val (.int (own_n qa)), .val (.int (own_n qb)), .val (.int (own_n qa)), .val (.int (own_n qb)), .val (.int (((2 : Int32) + (own_n qa)) * (1 : Int32))), .val (.int (((2 : Int32) + (own_n qb)) * (1 : Int32))), .val (.int (0 : Int32)), .val (.long (0 : Int64)), .second] [(.int (lcmpW (0 : Int64) (0 : Int64)))])) tt
      refine XS.ifYes X60.here hx rfl (pc0 := 100) (pc' := 131) rfl (hb hby d11_100) rfl ((if0 _ _).trans (teq (by decide : (lcmpW (0 : Int64) (0 : Int64)) = (0 : Int32))).1) (by decide) (by decide) ?_
      show Steps p.tables e below (T60.setTop (mkF m 131 #[.val (.ref va), .val (.int (own_n qa)), .val (.int (own_n qb)), .val (.int (own_n qa)), .val (.int (own_n qb)), .val (.int (((2 : Int32) + (own_n qa)) * (1 : Int32))), .val (.int (((2 : Int32) + (own_n qb)) * (1 : Int32))), .val (.int (0 : Int32)), .val (.long (0 : Int64)), .second] [])) tt
      refine XS.iinc X60.here hx rfl (hb hby d11_131) rfl (l' := #[.val (.ref va), .val (.int (own_n qa)), .val (.int (own_n qb)), .val (.int (own_n qa)), .val (.int (own_n qb)), .val (.int (((2 : Int32) + (own_n qa)) * (1 : Int32))), .val (.int (((2 : Int32) + (own_n qb)) * (1 : Int32))), .val (.int (1 : Int32)), .val (.long (0 : Int64)), .second]) rfl ?_
      show Steps p.tables e below (T60.setTop (mkF m 134 #[.val (.ref va), .val (.int (own_n qa)), .val (.int (own_n qb)), .val (.int (own_n qa)), .val (.int (own_n qb)), .val (.int (((2 : Int32) + (own_n qa)) * (1 : Int32))), .val (.int (((2 : Int32) + (own_n qb)) * (1 : Int32))), .val (.int (1 : Int32)), .val (.long (0 : Int64)), .second] [])) tt
      refine XS.goto X60.here hx rfl (pc0 := 134) (pc' := 60) rfl (hb hby d11_134) (by decide) (by decide) ?_
      show Steps p.tables e below (T60.setTop (mkF m 60 #[.val (.ref va), .val (.int (own_n qa)), .val (.int (own_n qb)), .val (.int (own_n qa)), .val (.int (own_n qb)), .val (.int (((2 : Int32) + (own_n qa)) * (1 : Int32))), .val (.int (((2 : Int32) + (own_n qb)) * (1 : Int32))), .val (.int (1 : Int32)), .val (.long (0 : Int64)), .second] [])) tt
      refine XS.iload X60.here hx rfl (hb hby d11_60) rfl ?_
      show Steps p.tables e below (T60.setTop (mkF m 62 #[.val (.ref va), .val (.int (own_n qa)), .val (.int (own_n qb)), .val (.int (own_n qa)), .val (.int (own_n qb)), .val (.int (((2 : Int32) + (own_n qa)) * (1 : Int32))), .val (.int (((2 : Int32) + (own_n qb)) * (1 : Int32))), .val (.int (1 : Int32)), .val (.long (0 : Int64)), .second] [(.int (1 : Int32))])) tt
      refine XS.aloadN X60.here hx rfl (hb hby d11_62) rfl rfl ?_
      exact kk
    have f61 : Fld Z h60 va "com/example/deferra/deferra/engine/Identities" "words" "I" (.int (1 : Int32)) := (P50_0.other W60 (Or.inl ne_va_vr))
    obtain ⟨T62, X62, e62, st62⟩ := getF X60 hx hZ hown (host := "") (Or.inl (hw _ (mw 14 rfl))) Via.refl e60 f61 (g := (mkF m 63 #[.val (.ref va), .val (.int (own_n qa)), .val (.int (own_n qb)), .val (.int (own_n qa)), .val (.int (own_n qb)), .val (.int (((2 : Int32) + (own_n qa)) * (1 : Int32))), .val (.int (((2 : Int32) + (own_n qb)) * (1 : Int32))), .val (.int (1 : Int32)), .val (.long (0 : Int64)), .second] [(.ref va), (.int (1 : Int32))])) rfl rfl (hb hby d11_63)
    refine Goal.to (B := T62.setTop (mkF m 66 #[.val (.ref va), .val (.int (own_n qa)), .val (.int (own_n qb)), .val (.int (own_n qa)), .val (.int (own_n qb)), .val (.int (((2 : Int32) + (own_n qa)) * (1 : Int32))), .val (.int (((2 : Int32) + (own_n qb)) * (1 : Int32))), .val (.int (1 : Int32)), .val (.long (0 : Int64)), .second] [(.int (1 : Int32)), (.int (1 : Int32))])) st62 ?_
    refine Goal.to (B := T62.setTop (mkF m 137 #[.val (.ref va), .val (.int (own_n qa)), .val (.int (own_n qb)), .val (.int (own_n qa)), .val (.int (own_n qb)), .val (.int (((2 : Int32) + (own_n qa)) * (1 : Int32))), .val (.int (((2 : Int32) + (own_n qb)) * (1 : Int32))), .val (.int (1 : Int32)), .val (.long (0 : Int64)), .second] [])) (fun tt kk => ?_) ?_
    · show Steps p.tables e below (T62.setTop (mkF m 66 #[.val (.ref va), .val (.int (own_n qa)), .val (.int (own_n qb)), .val (.int (own_n qa)), .val (.int (own_n qb)), .val (.int (((2 : Int32) + (own_n qa)) * (1 : Int32))), .val (.int (((2 : Int32) + (own_n qb)) * (1 : Int32))), .val (.int (1 : Int32)), .val (.long (0 : Int64)), .second] [(.int (1 : Int32)), (.int (1 : Int32))])) tt
      refine XS.icmpYes X62.here hx rfl (pc0 := 66) (pc' := 137) rfl (hb hby d11_66) rfl (flt (Int32.lt_irrefl : ¬ ((1 : Int32) < (1 : Int32)))).2.1 (by decide) (by decide) ?_
      exact kk
    have f63 : Keep h0 h60 [va, vi, vr] := ((((Keep.refl h0 [va, vi, vr]).wr W38 (Or.inl (List.mem_of_getElem? (i := 1) rfl))).trans K50 (allS (Or.inl (List.mem_of_getElem? (i := 0) rfl)) (allS (Or.inl (List.mem_of_getElem? (i := 1) rfl)) (allS (Or.inl (List.mem_of_getElem? (i := 2) rfl)) all0)))).wr W60 (Or.inl (List.mem_of_getElem? (i := 2) rfl)))
    have f64 : Fld Z h60 va "com/example/deferra/deferra/engine/Identities" "ints" "[I" (.ref vi) := (P50_1.other W60 (Or.inl ne_va_vr))
    have f65 : Fld Z h60 va "com/example/deferra/deferra/engine/Identities" "numberAt" "I" (.int (16 : Int32)) := (P50_2.other W60 (Or.inl ne_va_vr))
    have f66 : Fld Z h60 va "com/example/deferra/deferra/engine/Identities" "colourAt" "I" (.int (32 : Int32)) := (P50_3.other W60 (Or.inl ne_va_vr))
    have f67 : Fld Z h60 va "com/example/deferra/deferra/engine/Identities" "holdersAt" "I" (.int (64 : Int32)) := (P50_4.other W60 (Or.inl ne_va_vr))
    have f68 : Fld Z h60 va "com/example/deferra/deferra/engine/Identities" "rows" "[J" (.ref vr) := (P50_5.other W60 (Or.inl ne_va_vr))
    have f69 : Fld Z h60 va "com/example/deferra/deferra/engine/Identities" "openCount" "I" (.int no_50) := (P50_6.other W60 (Or.inl ne_va_vr))
    have f70 : Ary Z h60 vi .int (own_I (own_u pp qb qa) nh_50) := (P50_7.other W60 ne_vi_vr)
    exact Goal.retN X62 hx Bd.returns (hb hby d11_137) hlk e62 ⟨na_50, nh_50, no_50, rfl, N60, f63, f61, f64, f65, f66, f67, f68, f69, (Ary.cast f70 (by first | exact own_setR _ _ _ | (unfold own_m; simp only [if_neg hk0]) : ((own_I (own_u pp qb qa) nh_50) : List Value) = (own_I (own_m pp qa qb) nh_50))), (Ary.cast V60 (by first | exact own_setR _ _ _ | (unfold own_m; simp only [if_neg hk0]) : ((((own_R na_50 rb)).set (2 + qa.val) (.long (0 : Int64))) : List Value) = (own_R na_50 rb)))⟩ (by decide) (by decide)
theorem ef_9 (m : MethodId) (x0 : Addr) (x1 : Int32) (x2 : Int32) (x3 : Addr)  : entryFrame m #[(.ref x0), (.int x1), (.int x2), (.ref x3)] 5 = mkF m 0 #[.val (.ref x0), .val (.int x1), .val (.int x2), .val (.ref x3), .unset] [] := by first | (simp [entryFrame, mkF, argsToLocals, Value.category]; done) | rfl
theorem pn_9 : plainName "com/example/deferra/deferra/engine/Identities" = true := by first | (simp [plainName, overriddenIn]; done) | decide +kernel
theorem d9_0 : decode prog_18_method_20_code 0 = .ok (.aload_n 3, 1) := by decide +kernel
theorem d9_1 : decode prog_18_method_20_code 1 = .ok (.getstatic 113, 3) := by decide +kernel
theorem d9_4 : decode prog_18_method_20_code 4 = .ok (.if_acmp .ne 26, 3) := by decide +kernel
theorem d9_7 : decode prog_18_method_20_code 7 = .ok (.aload_n 0, 1) := by decide +kernel
theorem d9_8 : decode prog_18_method_20_code 8 = .ok (.iload_n 1, 1) := by decide +kernel
theorem d9_9 : decode prog_18_method_20_code 9 = .ok (.invokevirtual 136, 3) := by decide +kernel
theorem d9_12 : decode prog_18_method_20_code 12 = .ok (.aload_n 0, 1) := by decide +kernel
theorem d9_13 : decode prog_18_method_20_code 13 = .ok (.iload_n 2, 1) := by decide +kernel
theorem d9_14 : decode prog_18_method_20_code 14 = .ok (.invokevirtual 136, 3) := by decide +kernel
theorem d9_17 : decode prog_18_method_20_code 17 = .ok (.if_icmp .ne 7, 3) := by decide +kernel
theorem d9_20 : decode prog_18_method_20_code 20 = .ok (.iconst 1, 1) := by decide +kernel
theorem d9_21 : decode prog_18_method_20_code 21 = .ok (.goto 4, 3) := by decide +kernel
theorem d9_25 : decode prog_18_method_20_code 25 = .ok (.istore 4, 2) := by decide +kernel
theorem d9_27 : decode prog_18_method_20_code 27 = .ok (.goto 59, 3) := by decide +kernel
theorem d9_86 : decode prog_18_method_20_code 86 = .ok (.iload 4, 2) := by decide +kernel
theorem d9_88 : decode prog_18_method_20_code 88 = .ok (.ireturn, 1) := by decide +kernel
def Qho (Z : State) (va : Addr) (vi : Addr) (pp : Fin 4 → Fin 4) (hd : Int32) (qa : Fin 4) (qb : Fin 4) (asm : Addr) (h0 : Heap) (n0 : Nat) (v : Option Value) (h : Heap) (L : List Loc) : Prop := v = some (.int (1 : Int32)) ∧ Fr n0 L ∧ h = h0
set_option maxRecDepth 65536 in
set_option maxHeartbeats 40000000 in
theorem rmho (l : Launch) (Z : State) (a0 : Array Value) (hw : ∀ d ∈ tables_1, d.before a0 Z = true) (ws : List Jvm.Cond) (va : Addr) (vi : Addr) (pp : Fin 4 → Fin 4) (hd : Int32) (qa : Fin 4) (qb : Fin 4) (asm : Addr) (h0 : Heap) (n0 : Nat) (Z0 : n0 ≤ h0.size) (S_SAME : StaN Z n0 h0 "com/example/deferra/deferra/engine/Identities$Relation" "SAME" "Lcom/example/deferra/deferra/engine/Identities$Relation;" (.ref asm)) (E_va : Exa Z h0 va "com/example/deferra/deferra/engine/Identities") (F_ints_va : Fld Z h0 va "com/example/deferra/deferra/engine/Identities" "ints" "[I" (.ref vi)) (F_colourAt_va : Fld Z h0 va "com/example/deferra/deferra/engine/Identities" "colourAt" "I" (.int (32 : Int32))) (V_vi : Ary Z h0 vi .int (own_I pp hd)) :
    MetFree l (⟨"com/example/deferra/deferra/engine/Identities", "holds", "(IILcom/example/deferra/deferra/engine/Identities$Relation;)Z"⟩ : MethodName) (head1 (Jvm.Cond.code (⟨"com/example/deferra/deferra/engine/Identities", "holds", "(IILcom/example/deferra/deferra/engine/Identities$Relation;)Z"⟩ : MethodName) prog_18_method_20_code 5 (some .boolean) :: ws) ({ frames := 1, cells := 0, slots := 0, locals := 14 } : Room)) (fun a U => a = #[(.ref va), (.int (own_n qa)), (.int (own_n qb)), (.ref asm)] ∧ Z.Warmed39 U.vm ∧ U.heap = h0) (fun _ _ _ _ _ => True) (fun _ U o U' => ∃ v L, o = .returned v ∧ Qho Z va vi pp hd qa qb asm h0 n0 v U'.heap L ∧ FrameEnd U o U' L 0 0) := by
  refine MetFree.of_bodySF (plainFor_of_name pn_9) hisR ?_
  intro p e s m args below meth c s₁ Bd hml0 hP hK
  obtain ⟨rfl, hZ, hh⟩ := hP
  have hx := Bd.exec
  have hby := Bd.bytes
  have hml : c.maxLocals = 5 := hml0
  have hown : s.vm.findClass "com/example/deferra/deferra/engine/Identities" = some m.cls := findClass_of_methodNamed Bd.named
  have hnm := (name_of_methodNamed Bd.named Bd.method).1
  have X0 : Stand p l e ({ frames := 1, cells := 0, slots := 0, locals := 14 } : Room) s m #[(.ref va), (.int (own_n qa)), (.int (own_n qb)), (.ref asm)] below meth c s₁ [] 0 0 := Stand.of_body Bd
  have e0 : s₁.heap = h0 := by rw [← hh, Bd.state]; rfl
  have N0 := Fr.nil n0
  have hlk : meth.locks = false := BodyLoose.notSynchronized Bd
  show Goal p e below s (Qho Z va vi pp hd qa qb asm h0 n0) 0 0 (s₁.setTop (entryFrame m #[(.ref va), (.int (own_n qa)), (.int (own_n qb)), (.ref asm)] 5))
  refine Goal.to (B := s₁.setTop (mkF m 0 #[.val (.ref va), .val (.int (own_n qa)), .val (.int (own_n qb)), .val (.ref asm), .unset] [])) (fun tt kk => castTop (ef_9 m va (own_n qa) (own_n qb) asm ) kk) ?_
  refine Goal.to (B := s₁.setTop (mkF m 1 #[.val (.ref va), .val (.int (own_n qa)), .val (.int (own_n qb)), .val (.ref asm), .unset] [(.ref asm)])) (fun tt kk => ?_) ?_
  · show Steps p.tables e below (s₁.setTop (mkF m 0 #[.val (.ref va), .val (.int (own_n qa)), .val (.int (own_n qb)), .val (.ref asm), .unset] [])) tt
    refine XS.aloadN X0.here hx rfl (hb hby d9_0) rfl rfl ?_
    exact kk
  obtain ⟨T1, X1, e1, st1⟩ := getS2 X0 hx hZ hown (host := "") (Or.inl (hw _ (mw 57 rfl))) Via.refl e0 S_SAME.sta (g := (mkF m 1 #[.val (.ref va), .val (.int (own_n qa)), .val (.int (own_n qb)), .val (.ref asm), .unset] [(.ref asm)])) rfl (hb hby d9_1)
  refine Goal.to (B := T1.setTop (mkF m 4 #[.val (.ref va), .val (.int (own_n qa)), .val (.int (own_n qb)), .val (.ref asm), .unset] [(.ref asm), (.ref asm)])) st1 ?_
  refine Goal.to (B := T1.setTop (mkF m 9 #[.val (.ref va), .val (.int (own_n qa)), .val (.int (own_n qb)), .val (.ref asm), .unset] [(.int (own_n qa)), (.ref va)])) (fun tt kk => ?_) ?_
  · show Steps p.tables e below (T1.setTop (mkF m 4 #[.val (.ref va), .val (.int (own_n qa)), .val (.int (own_n qb)), .val (.ref asm), .unset] [(.ref asm), (.ref asm)])) tt
    refine Jvm.RoadKit.acmp (g := (mkF m 4 #[.val (.ref va), .val (.int (own_n qa)), .val (.int (own_n qb)), .val (.ref asm), .unset] [(.ref asm), (.ref asm)])) X1 hx rfl rfl rfl (pc0 := 4) (pc' := 7) (same := true) rfl (hb hby d9_4) rfl (decide_eq_true (congrArg Value.ref rfl)) (by decide) (by decide) ?_
    show Steps p.tables e below (T1.setTop (mkF m 7 #[.val (.ref va), .val (.int (own_n qa)), .val (.int (own_n qb)), .val (.ref asm), .unset] [])) tt
    refine XS.aloadN X1.here hx rfl (hb hby d9_7) rfl rfl ?_
    show Steps p.tables e below (T1.setTop (mkF m 8 #[.val (.ref va), .val (.int (own_n qa)), .val (.int (own_n qb)), .val (.ref asm), .unset] [(.ref va)])) tt
    refine XS.iloadN X1.here hx rfl (hb hby d9_8) rfl ?_
    exact kk
  obtain ⟨cq2, q2, q2'⟩ := E_va.cell
  obtain ⟨_, _, ⟨T2, L2, k2, n2⟩, -, X2, ⟨Lc2, hQ2, l2, y2, z2⟩, st2⟩ := X1.privateBack hx (y := (⟨"com/example/deferra/deferra/engine/Identities", "colour", "(I)I"⟩ : MethodName)) hown (mvT hZ (hw _ (mw 68 rfl))) (mvT hZ (hw _ (mw 69 rfl))) (selP hZ (hw _ (mw 1 rfl)) (hw _ (mw 70 rfl)) (hw _ (mw 69 rfl)) (by decide)) (Cond.privateMethod_at (mvP hZ (hw _ (mw 70 rfl)) (args := #[]))) (mvT hZ (hw _ (mw 71 rfl))) (by decide) (backOf (W := 0) (rmco l Z a0 hw [] va vi pp hd qa h0 n0 Z0 F_ints_va F_colourAt_va V_vi) hZ (hw _ (mw 71 rfl)) (hw _ (mw 2 rfl)) (by decide) (by decide)) (g := (mkF m 9 #[.val (.ref va), .val (.int (own_n qa)), .val (.int (own_n qb)), .val (.ref asm), .unset] [(.int (own_n qa)), (.ref va)])) rfl (by rw [hml]; rfl) (Steps.refl _) (a := va) (by rw [e1]; exact q2) q2' (argsL := [(.int (own_n qa))]) (rest := []) (lenOf pd_2 rfl) rfl (by show 2 * 0 + _ ≤ _; exact Nat.le_of_eq rfl) (hb hby d9_9) (fun _ _ => ⟨rfl, e1, (by decide : 0 + 0 ≤ _), (by decide : 0 + 0 ≤ _)⟩)
  dsimp only [Pt.U, Pt.locs, Pt.cells, Pt.slots] at X2 l2 y2 z2 st2 hQ2
  subst l2 y2 z2
  obtain ⟨rfl, N2q, e2⟩ := hQ2
  have N2 := Fr.app N0 N2q
  refine Goal.tr (B := T2.setTop (mkF m 12 #[.val (.ref va), .val (.int (own_n qa)), .val (.int (own_n qb)), .val (.ref asm), .unset] [(.int (-1 : Int32))])) st2 ?_
  refine Goal.to (B := T2.setTop (mkF m 14 #[.val (.ref va), .val (.int (own_n qa)), .val (.int (own_n qb)), .val (.ref asm), .unset] [(.int (own_n qb)), (.ref va), (.int (-1 : Int32))])) (fun tt kk => ?_) ?_
  · show Steps p.tables e below (T2.setTop (mkF m 12 #[.val (.ref va), .val (.int (own_n qa)), .val (.int (own_n qb)), .val (.ref asm), .unset] [(.int (-1 : Int32))])) tt
    refine XS.aloadN X2.here hx rfl (hb hby d9_12) rfl rfl ?_
    show Steps p.tables e below (T2.setTop (mkF m 13 #[.val (.ref va), .val (.int (own_n qa)), .val (.int (own_n qb)), .val (.ref asm), .unset] [(.ref va), (.int (-1 : Int32))])) tt
    refine XS.iloadN X2.here hx rfl (hb hby d9_13) rfl ?_
    exact kk
  obtain ⟨cq3, q3, q3'⟩ := E_va.cell
  obtain ⟨_, _, ⟨T3, L3, k3, n3⟩, -, X3, ⟨Lc3, hQ3, l3, y3, z3⟩, st3⟩ := X2.privateBack hx (y := (⟨"com/example/deferra/deferra/engine/Identities", "colour", "(I)I"⟩ : MethodName)) hown (mvT hZ (hw _ (mw 68 rfl))) (mvT hZ (hw _ (mw 69 rfl))) (selP hZ (hw _ (mw 1 rfl)) (hw _ (mw 70 rfl)) (hw _ (mw 69 rfl)) (by decide)) (Cond.privateMethod_at (mvP hZ (hw _ (mw 70 rfl)) (args := #[]))) (mvT hZ (hw _ (mw 71 rfl))) (by decide) (backOf (W := 1) (rmco l Z a0 hw [] va vi pp hd qb h0 n0 Z0 F_ints_va F_colourAt_va V_vi) hZ (hw _ (mw 71 rfl)) (hw _ (mw 2 rfl)) (by decide) (by decide)) (g := (mkF m 14 #[.val (.ref va), .val (.int (own_n qa)), .val (.int (own_n qb)), .val (.ref asm), .unset] [(.int (own_n qb)), (.ref va), (.int (-1 : Int32))])) rfl (by rw [hml]; rfl) (Steps.refl _) (a := va) (by rw [e2]; exact q3) q3' (argsL := [(.int (own_n qb))]) (rest := [(.int (-1 : Int32))]) (lenOf pd_2 rfl) rfl (by show 2 * 0 + _ ≤ _; exact Nat.le_of_eq rfl) (hb hby d9_14) (fun _ _ => ⟨rfl, e2, (by decide : 0 + 0 ≤ _), (by decide : 0 + 0 ≤ _)⟩)
  dsimp only [Pt.U, Pt.locs, Pt.cells, Pt.slots] at X3 l3 y3 z3 st3 hQ3
  subst l3 y3 z3
  obtain ⟨rfl, N3q, e3⟩ := hQ3
  have N3 := Fr.app N2 N3q
  refine Goal.tr (B := T3.setTop (mkF m 17 #[.val (.ref va), .val (.int (own_n qa)), .val (.int (own_n qb)), .val (.ref asm), .unset] [(.int (-1 : Int32)), (.int (-1 : Int32))])) st3 ?_
  refine Goal.to (B := T3.setTop (mkF m 88 #[.val (.ref va), .val (.int (own_n qa)), .val (.int (own_n qb)), .val (.ref asm), .val (.int (1 : Int32))] [(.int (1 : Int32))])) (fun tt kk => ?_) ?_
  · show Steps p.tables e below (T3.setTop (mkF m 17 #[.val (.ref va), .val (.int (own_n qa)), .val (.int (own_n qb)), .val (.ref asm), .unset] [(.int (-1 : Int32)), (.int (-1 : Int32))])) tt
    refine XS.icmpNo X3.here hx rfl (hb hby d9_17) rfl (teq (rfl : (-1 : Int32) = (-1 : Int32))).2 ?_
    show Steps p.tables e below (T3.setTop (mkF m 20 #[.val (.ref va), .val (.int (own_n qa)), .val (.int (own_n qb)), .val (.ref asm), .unset] [])) tt
    refine XS.iconst X3.here hx rfl (hb hby d9_20) ?_
    show Steps p.tables e below (T3.setTop (mkF m 21 #[.val (.ref va), .val (.int (own_n qa)), .val (.int (own_n qb)), .val (.ref asm), .unset] [(.int (1 : Int32))])) tt
    refine XS.goto X3.here hx rfl (pc0 := 21) (pc' := 25) rfl (hb hby d9_21) (by decide) (by decide) ?_
    show Steps p.tables e below (T3.setTop (mkF m 25 #[.val (.ref va), .val (.int (own_n qa)), .val (.int (own_n qb)), .val (.ref asm), .unset] [(.int (1 : Int32))])) tt
    refine XS.istore X3.here hx rfl (hb hby d9_25) rfl (l' := #[.val (.ref va), .val (.int (own_n qa)), .val (.int (own_n qb)), .val (.ref asm), .val (.int (1 : Int32))]) rfl ?_
    show Steps p.tables e below (T3.setTop (mkF m 27 #[.val (.ref va), .val (.int (own_n qa)), .val (.int (own_n qb)), .val (.ref asm), .val (.int (1 : Int32))] [])) tt
    refine XS.goto X3.here hx rfl (pc0 := 27) (pc' := 86) rfl (hb hby d9_27) (by decide) (by decide) ?_
    show Steps p.tables e below (T3.setTop (mkF m 86 #[.val (.ref va), .val (.int (own_n qa)), .val (.int (own_n qb)), .val (.ref asm), .val (.int (1 : Int32))] [])) tt
    refine XS.iload X3.here hx rfl (hb hby d9_86) rfl ?_
    exact kk
  exact Goal.retV X3 hx Bd.returns rfl (Or.inl ⟨rfl, Or.inr (Or.inl rfl), _, rfl⟩) (hb hby d9_88) hlk e3 ⟨rfl, N3, rfl⟩ (by decide) (by decide)
theorem ef_8 (m : MethodId) (x0 : Addr) (x1 : Int32) (x2 : Int32) (x3 : Addr)  : entryFrame m #[(.ref x0), (.int x1), (.int x2), (.ref x3)] 4 = mkF m 0 #[.val (.ref x0), .val (.int x1), .val (.int x2), .val (.ref x3)] [] := by first | (simp [entryFrame, mkF, argsToLocals, Value.category]; done) | rfl
theorem pn_8 : plainName "com/example/deferra/deferra/engine/Identities" = true := by first | (simp [plainName, overriddenIn]; done) | decide +kernel
theorem d8_0 : decode prog_18_method_18_code 0 = .ok (.aload_n 0, 1) := by decide +kernel
theorem d8_1 : decode prog_18_method_18_code 1 = .ok (.iload_n 1, 1) := by decide +kernel
theorem d8_2 : decode prog_18_method_18_code 2 = .ok (.iload_n 2, 1) := by decide +kernel
theorem d8_3 : decode prog_18_method_18_code 3 = .ok (.aload_n 3, 1) := by decide +kernel
theorem pd_7 : parseMethodDescriptor "(IILcom/example/deferra/deferra/engine/Identities$Relation;)Z" = some ⟨[.int, .int, (.object "com/example/deferra/deferra/engine/Identities$Relation")], some .boolean⟩ := by decide +kernel
theorem d8_4 : decode prog_18_method_18_code 4 = .ok (.invokevirtual 160, 3) := by decide +kernel
theorem d8_7 : decode prog_18_method_18_code 7 = .ok (.ifCond .ne 35, 3) := by decide +kernel
theorem d8_42 : decode prog_18_method_18_code 42 = .ok (.return_, 1) := by decide +kernel
def Qre (Z : State) (va : Addr) (vi : Addr) (pp : Fin 4 → Fin 4) (hd : Int32) (qa : Fin 4) (qb : Fin 4) (asm : Addr) (h0 : Heap) (n0 : Nat) (v : Option Value) (h : Heap) (L : List Loc) : Prop := v = none ∧ Fr n0 L ∧ h = h0
set_option maxRecDepth 65536 in
set_option maxHeartbeats 40000000 in
theorem rmre (l : Launch) (Z : State) (a0 : Array Value) (hw : ∀ d ∈ tables_1, d.before a0 Z = true) (ws : List Jvm.Cond) (va : Addr) (vi : Addr) (pp : Fin 4 → Fin 4) (hd : Int32) (qa : Fin 4) (qb : Fin 4) (asm : Addr) (h0 : Heap) (n0 : Nat) (Z0 : n0 ≤ h0.size) (S_SAME : StaN Z n0 h0 "com/example/deferra/deferra/engine/Identities$Relation" "SAME" "Lcom/example/deferra/deferra/engine/Identities$Relation;" (.ref asm)) (E_va : Exa Z h0 va "com/example/deferra/deferra/engine/Identities") (F_ints_va : Fld Z h0 va "com/example/deferra/deferra/engine/Identities" "ints" "[I" (.ref vi)) (F_colourAt_va : Fld Z h0 va "com/example/deferra/deferra/engine/Identities" "colourAt" "I" (.int (32 : Int32))) (V_vi : Ary Z h0 vi .int (own_I pp hd)) :
    MetFree l (⟨"com/example/deferra/deferra/engine/Identities", "realise", "(IILcom/example/deferra/deferra/engine/Identities$Relation;)V"⟩ : MethodName) (head1 (Jvm.Cond.code (⟨"com/example/deferra/deferra/engine/Identities", "realise", "(IILcom/example/deferra/deferra/engine/Identities$Relation;)V"⟩ : MethodName) prog_18_method_18_code 4 none :: ws) ({ frames := 2, cells := 0, slots := 0, locals := 30 } : Room)) (fun a U => a = #[(.ref va), (.int (own_n qa)), (.int (own_n qb)), (.ref asm)] ∧ Z.Warmed39 U.vm ∧ U.heap = h0) (fun _ _ _ _ _ => True) (fun _ U o U' => ∃ v L, o = .returned v ∧ Qre Z va vi pp hd qa qb asm h0 n0 v U'.heap L ∧ FrameEnd U o U' L 0 0) := by
  refine MetFree.of_bodySF (plainFor_of_name pn_8) hisR ?_
  intro p e s m args below meth c s₁ Bd hml0 hP hK
  obtain ⟨rfl, hZ, hh⟩ := hP
  have hx := Bd.exec
  have hby := Bd.bytes
  have hml : c.maxLocals = 4 := hml0
  have hown : s.vm.findClass "com/example/deferra/deferra/engine/Identities" = some m.cls := findClass_of_methodNamed Bd.named
  have hnm := (name_of_methodNamed Bd.named Bd.method).1
  have X0 : Stand p l e ({ frames := 2, cells := 0, slots := 0, locals := 30 } : Room) s m #[(.ref va), (.int (own_n qa)), (.int (own_n qb)), (.ref asm)] below meth c s₁ [] 0 0 := Stand.of_body Bd
  have e0 : s₁.heap = h0 := by rw [← hh, Bd.state]; rfl
  have N0 := Fr.nil n0
  have hlk : meth.locks = false := BodyLoose.notSynchronized Bd
  show Goal p e below s (Qre Z va vi pp hd qa qb asm h0 n0) 0 0 (s₁.setTop (entryFrame m #[(.ref va), (.int (own_n qa)), (.int (own_n qb)), (.ref asm)] 4))
  refine Goal.to (B := s₁.setTop (mkF m 0 #[.val (.ref va), .val (.int (own_n qa)), .val (.int (own_n qb)), .val (.ref asm)] [])) (fun tt kk => castTop (ef_8 m va (own_n qa) (own_n qb) asm ) kk) ?_
  refine Goal.to (B := s₁.setTop (mkF m 4 #[.val (.ref va), .val (.int (own_n qa)), .val (.int (own_n qb)), .val (.ref asm)] [(.ref asm), (.int (own_n qb)), (.int (own_n qa)), (.ref va)])) (fun tt kk => ?_) ?_
  · show Steps p.tables e below (s₁.setTop (mkF m 0 #[.val (.ref va), .val (.int (own_n qa)), .val (.int (own_n qb)), .val (.ref asm)] [])) tt
    refine XS.aloadN X0.here hx rfl (hb hby d8_0) rfl rfl ?_
    show Steps p.tables e below (s₁.setTop (mkF m 1 #[.val (.ref va), .val (.int (own_n qa)), .val (.int (own_n qb)), .val (.ref asm)] [(.ref va)])) tt
    refine XS.iloadN X0.here hx rfl (hb hby d8_1) rfl ?_
    show Steps p.tables e below (s₁.setTop (mkF m 2 #[.val (.ref va), .val (.int (own_n qa)), .val (.int (own_n qb)), .val (.ref asm)] [(.int (own_n qa)), (.ref va)])) tt
    refine XS.iloadN X0.here hx rfl (hb hby d8_2) rfl ?_
    show Steps p.tables e below (s₁.setTop (mkF m 3 #[.val (.ref va), .val (.int (own_n qa)), .val (.int (own_n qb)), .val (.ref asm)] [(.int (own_n qb)), (.int (own_n qa)), (.ref va)])) tt
    refine XS.aloadN X0.here hx rfl (hb hby d8_3) rfl rfl ?_
    exact kk
  obtain ⟨cq1, q1, q1'⟩ := E_va.cell
  obtain ⟨_, _, ⟨T1, L1, k1, n1⟩, -, X1, ⟨Lc1, hQ1, l1, y1, z1⟩, st1⟩ := X0.privateBack hx (y := (⟨"com/example/deferra/deferra/engine/Identities", "holds", "(IILcom/example/deferra/deferra/engine/Identities$Relation;)Z"⟩ : MethodName)) hown (mvT hZ (hw _ (mw 64 rfl))) (mvT hZ (hw _ (mw 65 rfl))) (selP hZ (hw _ (mw 1 rfl)) (hw _ (mw 66 rfl)) (hw _ (mw 65 rfl)) (by decide)) (Cond.privateMethod_at (mvP hZ (hw _ (mw 66 rfl)) (args := #[]))) (mvT hZ (hw _ (mw 67 rfl))) (by decide) (backOf (W := 0) (rmho l Z a0 hw [] va vi pp hd qa qb asm h0 n0 Z0 S_SAME E_va F_ints_va F_colourAt_va V_vi) hZ (hw _ (mw 67 rfl)) (hw _ (mw 2 rfl)) (by decide) (by decide)) (g := (mkF m 4 #[.val (.ref va), .val (.int (own_n qa)), .val (.int (own_n qb)), .val (.ref asm)] [(.ref asm), (.int (own_n qb)), (.int (own_n qa)), (.ref va)])) rfl (by rw [hml]; rfl) (Steps.refl _) (a := va) (by rw [e0]; exact q1) q1' (argsL := [(.int (own_n qa)), (.int (own_n qb)), (.ref asm)]) (rest := []) (lenOf pd_7 rfl) rfl (by show 2 * 0 + _ ≤ _; exact Nat.le_of_eq rfl) (hb hby d8_4) (fun _ _ => ⟨rfl, e0, (by decide : 0 + 0 ≤ _), (by decide : 0 + 0 ≤ _)⟩)
  dsimp only [Pt.U, Pt.locs, Pt.cells, Pt.slots] at X1 l1 y1 z1 st1 hQ1
  subst l1 y1 z1
  obtain ⟨rfl, N1q, e1⟩ := hQ1
  have N1 := Fr.app N0 N1q
  refine Goal.tr (B := T1.setTop (mkF m 7 #[.val (.ref va), .val (.int (own_n qa)), .val (.int (own_n qb)), .val (.ref asm)] [(.int (1 : Int32))])) st1 ?_
  refine Goal.to (B := T1.setTop (mkF m 42 #[.val (.ref va), .val (.int (own_n qa)), .val (.int (own_n qb)), .val (.ref asm)] [])) (fun tt kk => ?_) ?_
  · show Steps p.tables e below (T1.setTop (mkF m 7 #[.val (.ref va), .val (.int (own_n qa)), .val (.int (own_n qb)), .val (.ref asm)] [(.int (1 : Int32))])) tt
    refine XS.ifYes X1.here hx rfl (pc0 := 7) (pc' := 42) rfl (hb hby d8_7) rfl ((if0 _ _).trans (feq ((by decide) : ¬ ((1 : Int32) = (0 : Int32)))).2) (by decide) (by decide) ?_
    exact kk
  exact Goal.retN X1 hx Bd.returns (hb hby d8_42) hlk e1 ⟨rfl, N1, rfl⟩ (by decide) (by decide)
theorem ef_7 (m : MethodId) (x0 : Addr) (x1 : Int32) (x2 : Int32) (x3 : Int32)  : entryFrame m #[(.ref x0), (.int x1), (.int x2), (.int x3)] 4 = mkF m 0 #[.val (.ref x0), .val (.int x1), .val (.int x2), .val (.int x3)] [] := by first | (simp [entryFrame, mkF, argsToLocals, Value.category]; done) | rfl
theorem pn_7 : plainName "com/example/deferra/deferra/engine/Identities" = true := by first | (simp [plainName, overriddenIn]; done) | decide +kernel
theorem d7_0 : decode prog_18_method_13_code 0 = .ok (.aload_n 0, 1) := by decide +kernel
theorem d7_1 : decode prog_18_method_13_code 1 = .ok (.iload_n 1, 1) := by decide +kernel
theorem d7_2 : decode prog_18_method_13_code 2 = .ok (.iload_n 2, 1) := by decide +kernel
theorem d7_3 : decode prog_18_method_13_code 3 = .ok (.iload_n 3, 1) := by decide +kernel
theorem d7_4 : decode prog_18_method_13_code 4 = .ok (.ifCond .eq 9, 3) := by decide +kernel
theorem d7_7 : decode prog_18_method_13_code 7 = .ok (.getstatic 113, 3) := by decide +kernel
theorem d7_10 : decode prog_18_method_13_code 10 = .ok (.goto 6, 3) := by decide +kernel
theorem pd_6 : parseMethodDescriptor "(IILcom/example/deferra/deferra/engine/Identities$Relation;)V" = some ⟨[.int, .int, (.object "com/example/deferra/deferra/engine/Identities$Relation")], none⟩ := by decide +kernel
theorem d7_16 : decode prog_18_method_13_code 16 = .ok (.invokevirtual 129, 3) := by decide +kernel
theorem d7_19 : decode prog_18_method_13_code 19 = .ok (.iload_n 3, 1) := by decide +kernel
theorem d7_20 : decode prog_18_method_13_code 20 = .ok (.ifCond .eq 12, 3) := by decide +kernel
theorem d7_23 : decode prog_18_method_13_code 23 = .ok (.aload_n 0, 1) := by decide +kernel
theorem d7_24 : decode prog_18_method_13_code 24 = .ok (.iload_n 1, 1) := by decide +kernel
theorem d7_25 : decode prog_18_method_13_code 25 = .ok (.iload_n 2, 1) := by decide +kernel
theorem pd_8 : parseMethodDescriptor "(II)V" = some ⟨[.int, .int], none⟩ := by decide +kernel
theorem d7_26 : decode prog_18_method_13_code 26 = .ok (.invokevirtual 133, 3) := by decide +kernel
theorem d7_29 : decode prog_18_method_13_code 29 = .ok (.goto 9, 3) := by decide +kernel
theorem d7_38 : decode prog_18_method_13_code 38 = .ok (.return_, 1) := by decide +kernel
def Qde (Z : State) (va : Addr) (vi : Addr) (vr : Addr) (pp : Fin 4 → Fin 4) (hd : Int32) (ra : Int64) (rb : Int64) (uo : Int32) (qa : Fin 4) (qb : Fin 4) (asm : Addr) (h0 : Heap) (n0 : Nat) (v : Option Value) (h : Heap) (L : List Loc) : Prop := ∃ na : Int64, ∃ nh : Int32, ∃ no : Int32, v = none ∧ Fr n0 L ∧ Keep h0 h [va, vi, vr] ∧ Fld Z h va "com/example/deferra/deferra/engine/Identities" "words" "I" (.int (1 : Int32)) ∧ Fld Z h va "com/example/deferra/deferra/engine/Identities" "ints" "[I" (.ref vi) ∧ Fld Z h va "com/example/deferra/deferra/engine/Identities" "numberAt" "I" (.int (16 : Int32)) ∧ Fld Z h va "com/example/deferra/deferra/engine/Identities" "colourAt" "I" (.int (32 : Int32)) ∧ Fld Z h va "com/example/deferra/deferra/engine/Identities" "holdersAt" "I" (.int (64 : Int32)) ∧ Fld Z h va "com/example/deferra/deferra/engine/Identities" "rows" "[J" (.ref vr) ∧ Fld Z h va "com/example/deferra/deferra/engine/Identities" "openCount" "I" (.int no) ∧ Ary Z h vi .int (own_I (own_m pp qa qb) nh) ∧ Ary Z h vr .long (own_R na rb)
set_option maxRecDepth 65536 in
set_option maxHeartbeats 40000000 in
theorem rmde (l : Launch) (Z : State) (a0 : Array Value) (hw : ∀ d ∈ tables_1, d.before a0 Z = true) (ws : List Jvm.Cond) (va : Addr) (vi : Addr) (vr : Addr) (pp : Fin 4 → Fin 4) (hd : Int32) (ra : Int64) (rb : Int64) (uo : Int32) (qa : Fin 4) (qb : Fin 4) (asm : Addr) (h0 : Heap) (n0 : Nat) (Z0 : n0 ≤ h0.size) (S_SAME : StaN Z n0 h0 "com/example/deferra/deferra/engine/Identities$Relation" "SAME" "Lcom/example/deferra/deferra/engine/Identities$Relation;" (.ref asm)) (E_va : Exa Z h0 va "com/example/deferra/deferra/engine/Identities") (F_words_va : Fld Z h0 va "com/example/deferra/deferra/engine/Identities" "words" "I" (.int (1 : Int32))) (F_ints_va : Fld Z h0 va "com/example/deferra/deferra/engine/Identities" "ints" "[I" (.ref vi)) (F_numberAt_va : Fld Z h0 va "com/example/deferra/deferra/engine/Identities" "numberAt" "I" (.int (16 : Int32))) (F_colourAt_va : Fld Z h0 va "com/example/deferra/deferra/engine/Identities" "colourAt" "I" (.int (32 : Int32))) (F_holdersAt_va : Fld Z h0 va "com/example/deferra/deferra/engine/Identities" "holdersAt" "I" (.int (64 : Int32))) (F_rows_va : Fld Z h0 va "com/example/deferra/deferra/engine/Identities" "rows" "[J" (.ref vr)) (F_openCount_va : Fld Z h0 va "com/example/deferra/deferra/engine/Identities" "openCount" "I" (.int uo)) (V_vi : Ary Z h0 vi .int (own_I pp hd)) (V_vr : Ary Z h0 vr .long (own_R ra rb)) (g_va : n0 ≤ va) (g_vi : n0 ≤ vi) (g_vr : n0 ≤ vr) (ne_va_vi : va ≠ vi) (ne_va_vr : va ≠ vr) (ne_vi_vr : vi ≠ vr) (hne : qa ≠ qb) :
    MetFree l (⟨"com/example/deferra/deferra/engine/Identities", "decide", "(IIZ)V"⟩ : MethodName) (head1 (Jvm.Cond.code (⟨"com/example/deferra/deferra/engine/Identities", "decide", "(IIZ)V"⟩ : MethodName) prog_18_method_13_code 4 none :: ws) ({ frames := 3, cells := 0, slots := 0, locals := 49 } : Room)) (fun a U => a = #[(.ref va), (.int (own_n qa)), (.int (own_n qb)), (.int (1 : Int32))] ∧ Z.Warmed39 U.vm ∧ U.heap = h0) (fun _ _ _ _ _ => True) (fun _ U o U' => ∃ v L, o = .returned v ∧ Qde Z va vi vr pp hd ra rb uo qa qb asm h0 n0 v U'.heap L ∧ FrameEnd U o U' L 0 0) := by
  refine MetFree.of_bodySF (plainFor_of_name pn_7) hisR ?_
  intro p e s m args below meth c s₁ Bd hml0 hP hK
  obtain ⟨rfl, hZ, hh⟩ := hP
  have hx := Bd.exec
  have hby := Bd.bytes
  have hml : c.maxLocals = 4 := hml0
  have hown : s.vm.findClass "com/example/deferra/deferra/engine/Identities" = some m.cls := findClass_of_methodNamed Bd.named
  have hnm := (name_of_methodNamed Bd.named Bd.method).1
  have X0 : Stand p l e ({ frames := 3, cells := 0, slots := 0, locals := 49 } : Room) s m #[(.ref va), (.int (own_n qa)), (.int (own_n qb)), (.int (1 : Int32))] below meth c s₁ [] 0 0 := Stand.of_body Bd
  have e0 : s₁.heap = h0 := by rw [← hh, Bd.state]; rfl
  have N0 := Fr.nil n0
  have hlk : meth.locks = false := BodyLoose.notSynchronized Bd
  show Goal p e below s (Qde Z va vi vr pp hd ra rb uo qa qb asm h0 n0) 0 0 (s₁.setTop (entryFrame m #[(.ref va), (.int (own_n qa)), (.int (own_n qb)), (.int (1 : Int32))] 4))
  refine Goal.to (B := s₁.setTop (mkF m 0 #[.val (.ref va), .val (.int (own_n qa)), .val (.int (own_n qb)), .val (.int (1 : Int32))] [])) (fun tt kk => castTop (ef_7 m va (own_n qa) (own_n qb) (1 : Int32) ) kk) ?_
  refine Goal.to (B := s₁.setTop (mkF m 7 #[.val (.ref va), .val (.int (own_n qa)), .val (.int (own_n qb)), .val (.int (1 : Int32))] [(.int (own_n qb)), (.int (own_n qa)), (.ref va)])) (fun tt kk => ?_) ?_
  · show Steps p.tables e below (s₁.setTop (mkF m 0 #[.val (.ref va), .val (.int (own_n qa)), .val (.int (own_n qb)), .val (.int (1 : Int32))] [])) tt
    refine XS.aloadN X0.here hx rfl (hb hby d7_0) rfl rfl ?_
    show Steps p.tables e below (s₁.setTop (mkF m 1 #[.val (.ref va), .val (.int (own_n qa)), .val (.int (own_n qb)), .val (.int (1 : Int32))] [(.ref va)])) tt
    refine XS.iloadN X0.here hx rfl (hb hby d7_1) rfl ?_
    show Steps p.tables e below (s₁.setTop (mkF m 2 #[.val (.ref va), .val (.int (own_n qa)), .val (.int (own_n qb)), .val (.int (1 : Int32))] [(.int (own_n qa)), (.ref va)])) tt
    refine XS.iloadN X0.here hx rfl (hb hby d7_2) rfl ?_
    show Steps p.tables e below (s₁.setTop (mkF m 3 #[.val (.ref va), .val (.int (own_n qa)), .val (.int (own_n qb)), .val (.int (1 : Int32))] [(.int (own_n qb)), (.int (own_n qa)), (.ref va)])) tt
    refine XS.iloadN X0.here hx rfl (hb hby d7_3) rfl ?_
    show Steps p.tables e below (s₁.setTop (mkF m 4 #[.val (.ref va), .val (.int (own_n qa)), .val (.int (own_n qb)), .val (.int (1 : Int32))] [(.int (1 : Int32)), (.int (own_n qb)), (.int (own_n qa)), (.ref va)])) tt
    refine XS.ifNo X0.here hx rfl (hb hby d7_4) rfl ((if0 _ _).trans (feq ((by decide) : ¬ ((1 : Int32) = (0 : Int32)))).1) ?_
    exact kk
  obtain ⟨T1, X1, e1, st1⟩ := getS2 X0 hx hZ hown (host := "") (Or.inl (hw _ (mw 57 rfl))) Via.refl e0 S_SAME.sta (g := (mkF m 7 #[.val (.ref va), .val (.int (own_n qa)), .val (.int (own_n qb)), .val (.int (1 : Int32))] [(.int (own_n qb)), (.int (own_n qa)), (.ref va)])) rfl (hb hby d7_7)
  refine Goal.to (B := T1.setTop (mkF m 10 #[.val (.ref va), .val (.int (own_n qa)), .val (.int (own_n qb)), .val (.int (1 : Int32))] [(.ref asm), (.int (own_n qb)), (.int (own_n qa)), (.ref va)])) st1 ?_
  refine Goal.to (B := T1.setTop (mkF m 16 #[.val (.ref va), .val (.int (own_n qa)), .val (.int (own_n qb)), .val (.int (1 : Int32))] [(.ref asm), (.int (own_n qb)), (.int (own_n qa)), (.ref va)])) (fun tt kk => ?_) ?_
  · show Steps p.tables e below (T1.setTop (mkF m 10 #[.val (.ref va), .val (.int (own_n qa)), .val (.int (own_n qb)), .val (.int (1 : Int32))] [(.ref asm), (.int (own_n qb)), (.int (own_n qa)), (.ref va)])) tt
    refine XS.goto X1.here hx rfl (pc0 := 10) (pc' := 16) rfl (hb hby d7_10) (by decide) (by decide) ?_
    exact kk
  obtain ⟨cq2, q2, q2'⟩ := E_va.cell
  obtain ⟨_, _, ⟨T2, L2, k2, n2⟩, -, X2, ⟨Lc2, hQ2, l2, y2, z2⟩, st2⟩ := X1.privateBack hx (y := (⟨"com/example/deferra/deferra/engine/Identities", "realise", "(IILcom/example/deferra/deferra/engine/Identities$Relation;)V"⟩ : MethodName)) hown (mvT hZ (hw _ (mw 60 rfl))) (mvT hZ (hw _ (mw 61 rfl))) (selP hZ (hw _ (mw 1 rfl)) (hw _ (mw 62 rfl)) (hw _ (mw 61 rfl)) (by decide)) (Cond.privateMethod_at (mvP hZ (hw _ (mw 62 rfl)) (args := #[]))) (mvT hZ (hw _ (mw 63 rfl))) (by decide) (backOf (W := 0) (rmre l Z a0 hw [] va vi pp hd qa qb asm h0 n0 Z0 S_SAME E_va F_ints_va F_colourAt_va V_vi) hZ (hw _ (mw 63 rfl)) (hw _ (mw 2 rfl)) (by decide) (by decide)) (g := (mkF m 16 #[.val (.ref va), .val (.int (own_n qa)), .val (.int (own_n qb)), .val (.int (1 : Int32))] [(.ref asm), (.int (own_n qb)), (.int (own_n qa)), (.ref va)])) rfl (by rw [hml]; rfl) (Steps.refl _) (a := va) (by rw [e1]; exact q2) q2' (argsL := [(.int (own_n qa)), (.int (own_n qb)), (.ref asm)]) (rest := []) (lenOf pd_6 rfl) rfl (by show 2 * 0 + _ ≤ _; exact Nat.le_of_eq rfl) (hb hby d7_16) (fun _ _ => ⟨rfl, e1, (by decide : 0 + 0 ≤ _), (by decide : 0 + 0 ≤ _)⟩)
  dsimp only [Pt.U, Pt.locs, Pt.cells, Pt.slots] at X2 l2 y2 z2 st2 hQ2
  subst l2 y2 z2
  obtain ⟨rfl, N2q, e2⟩ := hQ2
  have N2 := Fr.app N0 N2q
  refine Goal.tr (B := T2.setTop (mkF m 19 #[.val (.ref va), .val (.int (own_n qa)), .val (.int (own_n qb)), .val (.int (1 : Int32))] [])) st2 ?_
  refine Goal.to (B := T2.setTop (mkF m 26 #[.val (.ref va), .val (.int (own_n qa)), .val (.int (own_n qb)), .val (.int (1 : Int32))] [(.int (own_n qb)), (.int (own_n qa)), (.ref va)])) (fun tt kk => ?_) ?_
  · show Steps p.tables e below (T2.setTop (mkF m 19 #[.val (.ref va), .val (.int (own_n qa)), .val (.int (own_n qb)), .val (.int (1 : Int32))] [])) tt
    refine XS.iloadN X2.here hx rfl (hb hby d7_19) rfl ?_
    show Steps p.tables e below (T2.setTop (mkF m 20 #[.val (.ref va), .val (.int (own_n qa)), .val (.int (own_n qb)), .val (.int (1 : Int32))] [(.int (1 : Int32))])) tt
    refine XS.ifNo X2.here hx rfl (hb hby d7_20) rfl ((if0 _ _).trans (feq ((by decide) : ¬ ((1 : Int32) = (0 : Int32)))).1) ?_
    show Steps p.tables e below (T2.setTop (mkF m 23 #[.val (.ref va), .val (.int (own_n qa)), .val (.int (own_n qb)), .val (.int (1 : Int32))] [])) tt
    refine XS.aloadN X2.here hx rfl (hb hby d7_23) rfl rfl ?_
    show Steps p.tables e below (T2.setTop (mkF m 24 #[.val (.ref va), .val (.int (own_n qa)), .val (.int (own_n qb)), .val (.int (1 : Int32))] [(.ref va)])) tt
    refine XS.iloadN X2.here hx rfl (hb hby d7_24) rfl ?_
    show Steps p.tables e below (T2.setTop (mkF m 25 #[.val (.ref va), .val (.int (own_n qa)), .val (.int (own_n qb)), .val (.int (1 : Int32))] [(.int (own_n qa)), (.ref va)])) tt
    refine XS.iloadN X2.here hx rfl (hb hby d7_25) rfl ?_
    exact kk
  obtain ⟨cq3, q3, q3'⟩ := E_va.cell
  obtain ⟨_, _, ⟨T3, L3, k3, n3⟩, -, X3, ⟨Lc3, hQ3, l3, y3, z3⟩, st3⟩ := X2.privateBack hx (y := (⟨"com/example/deferra/deferra/engine/Identities", "merge", "(II)V"⟩ : MethodName)) hown (mvT hZ (hw _ (mw 72 rfl))) (mvT hZ (hw _ (mw 73 rfl))) (selP hZ (hw _ (mw 1 rfl)) (hw _ (mw 74 rfl)) (hw _ (mw 73 rfl)) (by decide)) (Cond.privateMethod_at (mvP hZ (hw _ (mw 74 rfl)) (args := #[]))) (mvT hZ (hw _ (mw 75 rfl))) (by decide) (backOf (W := 0) (rmmg l Z a0 hw [] va vi vr pp hd ra rb uo qa qb h0 n0 Z0 E_va F_words_va F_ints_va F_numberAt_va F_colourAt_va F_holdersAt_va F_rows_va F_openCount_va V_vi V_vr g_va g_vi g_vr ne_va_vi ne_va_vr ne_vi_vr (by assumption)) hZ (hw _ (mw 75 rfl)) (hw _ (mw 2 rfl)) (by decide) (by decide)) (g := (mkF m 26 #[.val (.ref va), .val (.int (own_n qa)), .val (.int (own_n qb)), .val (.int (1 : Int32))] [(.int (own_n qb)), (.int (own_n qa)), (.ref va)])) rfl (by rw [hml]; rfl) (Steps.refl _) (a := va) (by rw [e2]; exact q3) q3' (argsL := [(.int (own_n qa)), (.int (own_n qb))]) (rest := []) (lenOf pd_8 rfl) rfl (by show 2 * 0 + _ ≤ _; exact Nat.le_of_eq rfl) (hb hby d7_26) (fun _ _ => ⟨rfl, e2, (by decide : 0 + 0 ≤ _), (by decide : 0 + 0 ≤ _)⟩)
  dsimp only [Pt.U, Pt.locs, Pt.cells, Pt.slots] at X3 l3 y3 z3 st3 hQ3
  subst l3 y3 z3
  obtain ⟨na_3, nh_3, no_3, rfl, N3q, K3, P3_0, P3_1, P3_2, P3_3, P3_4, P3_5, P3_6, P3_7, P3_8⟩ := hQ3
  have N3 := Fr.app N2 N3q
  refine Goal.tr (B := T3.setTop (mkF m 29 #[.val (.ref va), .val (.int (own_n qa)), .val (.int (own_n qb)), .val (.int (1 : Int32))] [])) st3 ?_
  refine Goal.to (B := T3.setTop (mkF m 38 #[.val (.ref va), .val (.int (own_n qa)), .val (.int (own_n qb)), .val (.int (1 : Int32))] [])) (fun tt kk => ?_) ?_
  · show Steps p.tables e below (T3.setTop (mkF m 29 #[.val (.ref va), .val (.int (own_n qa)), .val (.int (own_n qb)), .val (.int (1 : Int32))] [])) tt
    refine XS.goto X3.here hx rfl (pc0 := 29) (pc' := 38) rfl (hb hby d7_29) (by decide) (by decide) ?_
    exact kk
  have f4 : Keep h0 T3.heap [va, vi, vr] := ((Keep.refl h0 [va, vi, vr]).trans K3 (allS (Or.inl (List.mem_of_getElem? (i := 0) rfl)) (allS (Or.inl (List.mem_of_getElem? (i := 1) rfl)) (allS (Or.inl (List.mem_of_getElem? (i := 2) rfl)) all0))))
  exact Goal.retN X3 hx Bd.returns (hb hby d7_38) hlk rfl ⟨na_3, nh_3, no_3, rfl, N3, f4, P3_0, P3_1, P3_2, P3_3, P3_4, P3_5, P3_6, P3_7, P3_8⟩ (by decide) (by decide)
theorem ef_15 (m : MethodId) (x0 : Addr) (x1 : Int32) (x2 : Int32)  : entryFrame m #[(.ref x0), (.int x1), (.int x2)] 3 = mkF m 0 #[.val (.ref x0), .val (.int x1), .val (.int x2)] [] := by first | (simp [entryFrame, mkF, argsToLocals, Value.category]; done) | rfl
theorem pn_15 : plainName "com/example/deferra/deferra/engine/IdentitiesFindPinLaw" = true := by first | (simp [plainName, overriddenIn]; done) | decide +kernel
theorem d15_0 : decode method_2_code 0 = .ok (.aload_n 0, 1) := by decide +kernel
theorem d15_1 : decode method_2_code 1 = .ok (.iconst 0, 1) := by decide +kernel
theorem d15_2 : decode method_2_code 2 = .ok (.iaload, 1) := by decide +kernel
theorem d15_3 : decode method_2_code 3 = .ok (.iload_n 1, 1) := by decide +kernel
theorem d15_4 : decode method_2_code 4 = .ok (.if_icmp .ne 7, 3) := by decide +kernel
theorem d15_7 : decode method_2_code 7 = .ok (.aload_n 0, 1) := by decide +kernel
theorem d15_8 : decode method_2_code 8 = .ok (.iconst 0, 1) := by decide +kernel
theorem d15_9 : decode method_2_code 9 = .ok (.iload_n 2, 1) := by decide +kernel
theorem d15_10 : decode method_2_code 10 = .ok (.iastore, 1) := by decide +kernel
theorem d15_11 : decode method_2_code 11 = .ok (.aload_n 0, 1) := by decide +kernel
theorem d15_12 : decode method_2_code 12 = .ok (.iconst 1, 1) := by decide +kernel
theorem d15_13 : decode method_2_code 13 = .ok (.iaload, 1) := by decide +kernel
theorem d15_14 : decode method_2_code 14 = .ok (.iload_n 1, 1) := by decide +kernel
theorem d15_15 : decode method_2_code 15 = .ok (.if_icmp .ne 7, 3) := by decide +kernel
theorem d15_18 : decode method_2_code 18 = .ok (.aload_n 0, 1) := by decide +kernel
theorem d15_19 : decode method_2_code 19 = .ok (.iconst 1, 1) := by decide +kernel
theorem d15_20 : decode method_2_code 20 = .ok (.iload_n 2, 1) := by decide +kernel
theorem d15_21 : decode method_2_code 21 = .ok (.iastore, 1) := by decide +kernel
theorem d15_22 : decode method_2_code 22 = .ok (.aload_n 0, 1) := by decide +kernel
theorem d15_23 : decode method_2_code 23 = .ok (.iconst 2, 1) := by decide +kernel
theorem d15_24 : decode method_2_code 24 = .ok (.iaload, 1) := by decide +kernel
theorem d15_25 : decode method_2_code 25 = .ok (.iload_n 1, 1) := by decide +kernel
theorem d15_26 : decode method_2_code 26 = .ok (.if_icmp .ne 7, 3) := by decide +kernel
theorem d15_29 : decode method_2_code 29 = .ok (.aload_n 0, 1) := by decide +kernel
theorem d15_30 : decode method_2_code 30 = .ok (.iconst 2, 1) := by decide +kernel
theorem d15_31 : decode method_2_code 31 = .ok (.iload_n 2, 1) := by decide +kernel
theorem d15_32 : decode method_2_code 32 = .ok (.iastore, 1) := by decide +kernel
theorem d15_33 : decode method_2_code 33 = .ok (.aload_n 0, 1) := by decide +kernel
theorem d15_34 : decode method_2_code 34 = .ok (.iconst 3, 1) := by decide +kernel
theorem d15_35 : decode method_2_code 35 = .ok (.iaload, 1) := by decide +kernel
theorem d15_36 : decode method_2_code 36 = .ok (.iload_n 1, 1) := by decide +kernel
theorem d15_37 : decode method_2_code 37 = .ok (.if_icmp .ne 7, 3) := by decide +kernel
theorem d15_40 : decode method_2_code 40 = .ok (.aload_n 0, 1) := by decide +kernel
theorem d15_41 : decode method_2_code 41 = .ok (.iconst 3, 1) := by decide +kernel
theorem d15_42 : decode method_2_code 42 = .ok (.iload_n 2, 1) := by decide +kernel
theorem d15_43 : decode method_2_code 43 = .ok (.iastore, 1) := by decide +kernel
theorem d15_44 : decode method_2_code 44 = .ok (.return_, 1) := by decide +kernel
def Qrl (Z : State) (vt : Addr) (rr : Fin 4 → Fin 4) (qc : Fin 4) (qr : Fin 4) (h0 : Heap) (n0 : Nat) (v : Option Value) (h : Heap) (L : List Loc) : Prop := v = none ∧ Fr n0 L ∧ Keep h0 h [vt] ∧ Ary Z h vt .int [(.int (own_n ((own_rl rr qc qr) 0))), (.int (own_n ((own_rl rr qc qr) 1))), (.int (own_n ((own_rl rr qc qr) 2))), (.int (own_n ((own_rl rr qc qr) 3)))]
set_option maxRecDepth 65536 in
set_option maxHeartbeats 40000000 in
theorem rmrl (l : Launch) (Z : State) (a0 : Array Value) (hw : ∀ d ∈ tables_1, d.before a0 Z = true) (ws : List Jvm.Cond) (vt : Addr) (rr : Fin 4 → Fin 4) (qc : Fin 4) (qr : Fin 4) (h0 : Heap) (n0 : Nat) (Z0 : n0 ≤ h0.size) (V_vt : Ary Z h0 vt .int [(.int (own_n (rr 0))), (.int (own_n (rr 1))), (.int (own_n (rr 2))), (.int (own_n (rr 3)))]) (g_vt : n0 ≤ vt) :
    MetFree l (⟨"com/example/deferra/deferra/engine/IdentitiesFindPinLaw", "relabel", "([III)V"⟩ : MethodName) (head1 (Jvm.Cond.code (⟨"com/example/deferra/deferra/engine/IdentitiesFindPinLaw", "relabel", "([III)V"⟩ : MethodName) method_2_code 3 none :: ws) ({ frames := 0, cells := 0, slots := 0, locals := 0 } : Room)) (fun a U => a = #[(.ref vt), (.int (own_n qc)), (.int (own_n qr))] ∧ Z.Warmed39 U.vm ∧ U.heap = h0) (fun _ _ _ _ _ => True) (fun _ U o U' => ∃ v L, o = .returned v ∧ Qrl Z vt rr qc qr h0 n0 v U'.heap L ∧ FrameEnd U o U' L 0 0) := by
  refine MetFree.of_bodySF (plainFor_of_name pn_15) hisR ?_
  intro p e s m args below meth c s₁ Bd hml0 hP hK
  obtain ⟨rfl, hZ, hh⟩ := hP
  have hx := Bd.exec
  have hby := Bd.bytes
  have hml : c.maxLocals = 3 := hml0
  have hown : s.vm.findClass "com/example/deferra/deferra/engine/IdentitiesFindPinLaw" = some m.cls := findClass_of_methodNamed Bd.named
  have hnm := (name_of_methodNamed Bd.named Bd.method).1
  have X0 : Stand p l e ({ frames := 0, cells := 0, slots := 0, locals := 0 } : Room) s m #[(.ref vt), (.int (own_n qc)), (.int (own_n qr))] below meth c s₁ [] 0 0 := Stand.of_body Bd
  have e0 : s₁.heap = h0 := by rw [← hh, Bd.state]; rfl
  have N0 := Fr.nil n0
  have hlk : meth.locks = false := BodyLoose.notSynchronized Bd
  show Goal p e below s (Qrl Z vt rr qc qr h0 n0) 0 0 (s₁.setTop (entryFrame m #[(.ref vt), (.int (own_n qc)), (.int (own_n qr))] 3))
  refine Goal.to (B := s₁.setTop (mkF m 0 #[.val (.ref vt), .val (.int (own_n qc)), .val (.int (own_n qr))] [])) (fun tt kk => castTop (ef_15 m vt (own_n qc) (own_n qr) ) kk) ?_
  refine Goal.to (B := s₁.setTop (mkF m 2 #[.val (.ref vt), .val (.int (own_n qc)), .val (.int (own_n qr))] [(.int (0 : Int32)), (.ref vt)])) (fun tt kk => ?_) ?_
  · show Steps p.tables e below (s₁.setTop (mkF m 0 #[.val (.ref vt), .val (.int (own_n qc)), .val (.int (own_n qr))] [])) tt
    refine XS.aloadN X0.here hx rfl (hb hby d15_0) rfl rfl ?_
    show Steps p.tables e below (s₁.setTop (mkF m 1 #[.val (.ref vt), .val (.int (own_n qc)), .val (.int (own_n qr))] [(.ref vt)])) tt
    refine XS.iconst X0.here hx rfl (hb hby d15_1) ?_
    exact kk
  obtain ⟨cl1, Ar1, Sl1⟩ := id V_vt
  have hin1 := inA (cl := cl1) Sl1 (j := (0 : Int32)) (by decide) (Nat.le_of_ble_eq_true rfl)
  have hat1 : cl1.slots[((0 : Int32)).toNatClampNeg]? = some (.int (own_n (rr 0))) := atA Sl1 rfl
  refine Goal.to (B := s₁.setTop (mkF m 4 #[.val (.ref vt), .val (.int (own_n qc)), .val (.int (own_n qr))] [(.int (own_n qc)), (.int (own_n (rr 0)))])) (fun tt kk => ?_) ?_
  · show Steps p.tables e below (s₁.setTop (mkF m 2 #[.val (.ref vt), .val (.int (own_n qc)), .val (.int (own_n qr))] [(.int (0 : Int32)), (.ref vt)])) tt
    refine X0.iaload hx (j := (0 : Int32)) (v := (.int (own_n (rr 0)))) (by rw [e0]; exact Ar1.1) (State.isArrayOf_alike hZ.alike Ar1.2.1) Ar1.2.2 hin1 hat1 (g := (mkF m 2 #[.val (.ref vt), .val (.int (own_n qc)), .val (.int (own_n qr))] [(.int (0 : Int32)), (.ref vt)])) rfl rfl (hb hby d15_2) _ ?_
    show Steps p.tables e below (s₁.setTop (mkF m 3 #[.val (.ref vt), .val (.int (own_n qc)), .val (.int (own_n qr))] [(.int (own_n (rr 0)))])) tt
    refine XS.iloadN X0.here hx rfl (hb hby d15_3) rfl ?_
    exact kk
  by_cases hc2 : (own_n (rr 0)) = (own_n qc)
  · refine Goal.to (B := s₁.setTop (mkF m 10 #[.val (.ref vt), .val (.int (own_n qc)), .val (.int (own_n qr))] [(.int (own_n qr)), (.int (0 : Int32)), (.ref vt)])) (fun tt kk => ?_) ?_
    · show Steps p.tables e below (s₁.setTop (mkF m 4 #[.val (.ref vt), .val (.int (own_n qc)), .val (.int (own_n qr))] [(.int (own_n qc)), (.int (own_n (rr 0)))])) tt
      refine XS.icmpNo X0.here hx rfl (hb hby d15_4) rfl (teq hc2).2 ?_
      show Steps p.tables e below (s₁.setTop (mkF m 7 #[.val (.ref vt), .val (.int (own_n qc)), .val (.int (own_n qr))] [])) tt
      refine XS.aloadN X0.here hx rfl (hb hby d15_7) rfl rfl ?_
      show Steps p.tables e below (s₁.setTop (mkF m 8 #[.val (.ref vt), .val (.int (own_n qc)), .val (.int (own_n qr))] [(.ref vt)])) tt
      refine XS.iconst X0.here hx rfl (hb hby d15_8) ?_
      show Steps p.tables e below (s₁.setTop (mkF m 9 #[.val (.ref vt), .val (.int (own_n qc)), .val (.int (own_n qr))] [(.int (0 : Int32)), (.ref vt)])) tt
      refine XS.iloadN X0.here hx rfl (hb hby d15_9) rfl ?_
      exact kk
    obtain ⟨cl3, Ar3, Sl3⟩ := id V_vt
    have hin3 := inA (cl := cl3) Sl3 (j := (0 : Int32)) (by decide) (Nat.le_of_ble_eq_true rfl)
    obtain ⟨T3, h3, X3, e3, W3, st3⟩ := stI X0 hx hZ e0 Ar3 (j := (0 : Int32)) hin3 (g := (mkF m 10 #[.val (.ref vt), .val (.int (own_n qc)), .val (.int (own_n qr))] [(.int (own_n qr)), (.int (0 : Int32)), (.ref vt)])) rfl rfl (hb hby d15_10)
    have V3 : Ary Z h3 vt .int [(.int (own_n qr)), (.int (own_n (rr 1))), (.int (own_n (rr 2))), (.int (own_n (rr 3)))] := Ary.put Ar3 Sl3 W3 rfl
    have N3 := Fr.snoc X3 N0 g_vt
    refine Goal.to (B := T3.setTop (mkF m 11 #[.val (.ref vt), .val (.int (own_n qc)), .val (.int (own_n qr))] [])) st3 ?_
    refine Goal.to (B := T3.setTop (mkF m 13 #[.val (.ref vt), .val (.int (own_n qc)), .val (.int (own_n qr))] [(.int (1 : Int32)), (.ref vt)])) (fun tt kk => ?_) ?_
    · show Steps p.tables e below (T3.setTop (mkF m 11 #[.val (.ref vt), .val (.int (own_n qc)), .val (.int (own_n qr))] [])) tt
      refine XS.aloadN X3.here hx rfl (hb hby d15_11) rfl rfl ?_
      show Steps p.tables e below (T3.setTop (mkF m 12 #[.val (.ref vt), .val (.int (own_n qc)), .val (.int (own_n qr))] [(.ref vt)])) tt
      refine XS.iconst X3.here hx rfl (hb hby d15_12) ?_
      exact kk
    obtain ⟨cl4, Ar4, Sl4⟩ := id V3
    have hin4 := inA (cl := cl4) Sl4 (j := (1 : Int32)) (by decide) (Nat.le_of_ble_eq_true rfl)
    have hat4 : cl4.slots[((1 : Int32)).toNatClampNeg]? = some (.int (own_n (rr 1))) := atA Sl4 rfl
    refine Goal.to (B := T3.setTop (mkF m 15 #[.val (.ref vt), .val (.int (own_n qc)), .val (.int (own_n qr))] [(.int (own_n qc)), (.int (own_n (rr 1)))])) (fun tt kk => ?_) ?_
    · show Steps p.tables e below (T3.setTop (mkF m 13 #[.val (.ref vt), .val (.int (own_n qc)), .val (.int (own_n qr))] [(.int (1 : Int32)), (.ref vt)])) tt
      refine X3.iaload hx (j := (1 : Int32)) (v := (.int (own_n (rr 1)))) (by rw [e3]; exact Ar4.1) (State.isArrayOf_alike hZ.alike Ar4.2.1) Ar4.2.2 hin4 hat4 (g := (mkF m 13 #[.val (.ref vt), .val (.int (own_n qc)), .val (.int (own_n qr))] [(.int (1 : Int32)), (.ref vt)])) rfl rfl (hb hby d15_13) _ ?_
      show Steps p.tables e below (T3.setTop (mkF m 14 #[.val (.ref vt), .val (.int (own_n qc)), .val (.int (own_n qr))] [(.int (own_n (rr 1)))])) tt
      refine XS.iloadN X3.here hx rfl (hb hby d15_14) rfl ?_
      exact kk
    by_cases hc5 : (own_n (rr 1)) = (own_n qc)
    · refine Goal.to (B := T3.setTop (mkF m 21 #[.val (.ref vt), .val (.int (own_n qc)), .val (.int (own_n qr))] [(.int (own_n qr)), (.int (1 : Int32)), (.ref vt)])) (fun tt kk => ?_) ?_
      · show Steps p.tables e below (T3.setTop (mkF m 15 #[.val (.ref vt), .val (.int (own_n qc)), .val (.int (own_n qr))] [(.int (own_n qc)), (.int (own_n (rr 1)))])) tt
        refine XS.icmpNo X3.here hx rfl (hb hby d15_15) rfl (teq hc5).2 ?_
        show Steps p.tables e below (T3.setTop (mkF m 18 #[.val (.ref vt), .val (.int (own_n qc)), .val (.int (own_n qr))] [])) tt
        refine XS.aloadN X3.here hx rfl (hb hby d15_18) rfl rfl ?_
        show Steps p.tables e below (T3.setTop (mkF m 19 #[.val (.ref vt), .val (.int (own_n qc)), .val (.int (own_n qr))] [(.ref vt)])) tt
        refine XS.iconst X3.here hx rfl (hb hby d15_19) ?_
        show Steps p.tables e below (T3.setTop (mkF m 20 #[.val (.ref vt), .val (.int (own_n qc)), .val (.int (own_n qr))] [(.int (1 : Int32)), (.ref vt)])) tt
        refine XS.iloadN X3.here hx rfl (hb hby d15_20) rfl ?_
        exact kk
      obtain ⟨cl6, Ar6, Sl6⟩ := id V3
      have hin6 := inA (cl := cl6) Sl6 (j := (1 : Int32)) (by decide) (Nat.le_of_ble_eq_true rfl)
      obtain ⟨T6, h6, X6, e6, W6, st6⟩ := stI X3 hx hZ e3 Ar6 (j := (1 : Int32)) hin6 (g := (mkF m 21 #[.val (.ref vt), .val (.int (own_n qc)), .val (.int (own_n qr))] [(.int (own_n qr)), (.int (1 : Int32)), (.ref vt)])) rfl rfl (hb hby d15_21)
      have V6 : Ary Z h6 vt .int [(.int (own_n qr)), (.int (own_n qr)), (.int (own_n (rr 2))), (.int (own_n (rr 3)))] := Ary.put Ar6 Sl6 W6 rfl
      have N6 := Fr.snoc X6 N3 g_vt
      refine Goal.to (B := T6.setTop (mkF m 22 #[.val (.ref vt), .val (.int (own_n qc)), .val (.int (own_n qr))] [])) st6 ?_
      refine Goal.to (B := T6.setTop (mkF m 24 #[.val (.ref vt), .val (.int (own_n qc)), .val (.int (own_n qr))] [(.int (2 : Int32)), (.ref vt)])) (fun tt kk => ?_) ?_
      · show Steps p.tables e below (T6.setTop (mkF m 22 #[.val (.ref vt), .val (.int (own_n qc)), .val (.int (own_n qr))] [])) tt
        refine XS.aloadN X6.here hx rfl (hb hby d15_22) rfl rfl ?_
        show Steps p.tables e below (T6.setTop (mkF m 23 #[.val (.ref vt), .val (.int (own_n qc)), .val (.int (own_n qr))] [(.ref vt)])) tt
        refine XS.iconst X6.here hx rfl (hb hby d15_23) ?_
        exact kk
      obtain ⟨cl7, Ar7, Sl7⟩ := id V6
      have hin7 := inA (cl := cl7) Sl7 (j := (2 : Int32)) (by decide) (Nat.le_of_ble_eq_true rfl)
      have hat7 : cl7.slots[((2 : Int32)).toNatClampNeg]? = some (.int (own_n (rr 2))) := atA Sl7 rfl
      refine Goal.to (B := T6.setTop (mkF m 26 #[.val (.ref vt), .val (.int (own_n qc)), .val (.int (own_n qr))] [(.int (own_n qc)), (.int (own_n (rr 2)))])) (fun tt kk => ?_) ?_
      · show Steps p.tables e below (T6.setTop (mkF m 24 #[.val (.ref vt), .val (.int (own_n qc)), .val (.int (own_n qr))] [(.int (2 : Int32)), (.ref vt)])) tt
        refine X6.iaload hx (j := (2 : Int32)) (v := (.int (own_n (rr 2)))) (by rw [e6]; exact Ar7.1) (State.isArrayOf_alike hZ.alike Ar7.2.1) Ar7.2.2 hin7 hat7 (g := (mkF m 24 #[.val (.ref vt), .val (.int (own_n qc)), .val (.int (own_n qr))] [(.int (2 : Int32)), (.ref vt)])) rfl rfl (hb hby d15_24) _ ?_
        show Steps p.tables e below (T6.setTop (mkF m 25 #[.val (.ref vt), .val (.int (own_n qc)), .val (.int (own_n qr))] [(.int (own_n (rr 2)))])) tt
        refine XS.iloadN X6.here hx rfl (hb hby d15_25) rfl ?_
        exact kk
      by_cases hc8 : (own_n (rr 2)) = (own_n qc)
      · refine Goal.to (B := T6.setTop (mkF m 32 #[.val (.ref vt), .val (.int (own_n qc)), .val (.int (own_n qr))] [(.int (own_n qr)), (.int (2 : Int32)), (.ref vt)])) (fun tt kk => ?_) ?_
        · show Steps p.tables e below (T6.setTop (mkF m 26 #[.val (.ref vt), .val (.int (own_n qc)), .val (.int (own_n qr))] [(.int (own_n qc)), (.int (own_n (rr 2)))])) tt
          refine XS.icmpNo X6.here hx rfl (hb hby d15_26) rfl (teq hc8).2 ?_
          show Steps p.tables e below (T6.setTop (mkF m 29 #[.val (.ref vt), .val (.int (own_n qc)), .val (.int (own_n qr))] [])) tt
          refine XS.aloadN X6.here hx rfl (hb hby d15_29) rfl rfl ?_
          show Steps p.tables e below (T6.setTop (mkF m 30 #[.val (.ref vt), .val (.int (own_n qc)), .val (.int (own_n qr))] [(.ref vt)])) tt
          refine XS.iconst X6.here hx rfl (hb hby d15_30) ?_
          show Steps p.tables e below (T6.setTop (mkF m 31 #[.val (.ref vt), .val (.int (own_n qc)), .val (.int (own_n qr))] [(.int (2 : Int32)), (.ref vt)])) tt
          refine XS.iloadN X6.here hx rfl (hb hby d15_31) rfl ?_
          exact kk
        obtain ⟨cl9, Ar9, Sl9⟩ := id V6
        have hin9 := inA (cl := cl9) Sl9 (j := (2 : Int32)) (by decide) (Nat.le_of_ble_eq_true rfl)
        obtain ⟨T9, h9, X9, e9, W9, st9⟩ := stI X6 hx hZ e6 Ar9 (j := (2 : Int32)) hin9 (g := (mkF m 32 #[.val (.ref vt), .val (.int (own_n qc)), .val (.int (own_n qr))] [(.int (own_n qr)), (.int (2 : Int32)), (.ref vt)])) rfl rfl (hb hby d15_32)
        have V9 : Ary Z h9 vt .int [(.int (own_n qr)), (.int (own_n qr)), (.int (own_n qr)), (.int (own_n (rr 3)))] := Ary.put Ar9 Sl9 W9 rfl
        have N9 := Fr.snoc X9 N6 g_vt
        refine Goal.to (B := T9.setTop (mkF m 33 #[.val (.ref vt), .val (.int (own_n qc)), .val (.int (own_n qr))] [])) st9 ?_
        refine Goal.to (B := T9.setTop (mkF m 35 #[.val (.ref vt), .val (.int (own_n qc)), .val (.int (own_n qr))] [(.int (3 : Int32)), (.ref vt)])) (fun tt kk => ?_) ?_
        · show Steps p.tables e below (T9.setTop (mkF m 33 #[.val (.ref vt), .val (.int (own_n qc)), .val (.int (own_n qr))] [])) tt
          refine XS.aloadN X9.here hx rfl (hb hby d15_33) rfl rfl ?_
          show Steps p.tables e below (T9.setTop (mkF m 34 #[.val (.ref vt), .val (.int (own_n qc)), .val (.int (own_n qr))] [(.ref vt)])) tt
          refine XS.iconst X9.here hx rfl (hb hby d15_34) ?_
          exact kk
        obtain ⟨cl10, Ar10, Sl10⟩ := id V9
        have hin10 := inA (cl := cl10) Sl10 (j := (3 : Int32)) (by decide) (Nat.le_of_ble_eq_true rfl)
        have hat10 : cl10.slots[((3 : Int32)).toNatClampNeg]? = some (.int (own_n (rr 3))) := atA Sl10 rfl
        refine Goal.to (B := T9.setTop (mkF m 37 #[.val (.ref vt), .val (.int (own_n qc)), .val (.int (own_n qr))] [(.int (own_n qc)), (.int (own_n (rr 3)))])) (fun tt kk => ?_) ?_
        · show Steps p.tables e below (T9.setTop (mkF m 35 #[.val (.ref vt), .val (.int (own_n qc)), .val (.int (own_n qr))] [(.int (3 : Int32)), (.ref vt)])) tt
          refine X9.iaload hx (j := (3 : Int32)) (v := (.int (own_n (rr 3)))) (by rw [e9]; exact Ar10.1) (State.isArrayOf_alike hZ.alike Ar10.2.1) Ar10.2.2 hin10 hat10 (g := (mkF m 35 #[.val (.ref vt), .val (.int (own_n qc)), .val (.int (own_n qr))] [(.int (3 : Int32)), (.ref vt)])) rfl rfl (hb hby d15_35) _ ?_
          show Steps p.tables e below (T9.setTop (mkF m 36 #[.val (.ref vt), .val (.int (own_n qc)), .val (.int (own_n qr))] [(.int (own_n (rr 3)))])) tt
          refine XS.iloadN X9.here hx rfl (hb hby d15_36) rfl ?_
          exact kk
        by_cases hc11 : (own_n (rr 3)) = (own_n qc)
        · refine Goal.to (B := T9.setTop (mkF m 43 #[.val (.ref vt), .val (.int (own_n qc)), .val (.int (own_n qr))] [(.int (own_n qr)), (.int (3 : Int32)), (.ref vt)])) (fun tt kk => ?_) ?_
          · show Steps p.tables e below (T9.setTop (mkF m 37 #[.val (.ref vt), .val (.int (own_n qc)), .val (.int (own_n qr))] [(.int (own_n qc)), (.int (own_n (rr 3)))])) tt
            refine XS.icmpNo X9.here hx rfl (hb hby d15_37) rfl (teq hc11).2 ?_
            show Steps p.tables e below (T9.setTop (mkF m 40 #[.val (.ref vt), .val (.int (own_n qc)), .val (.int (own_n qr))] [])) tt
            refine XS.aloadN X9.here hx rfl (hb hby d15_40) rfl rfl ?_
            show Steps p.tables e below (T9.setTop (mkF m 41 #[.val (.ref vt), .val (.int (own_n qc)), .val (.int (own_n qr))] [(.ref vt)])) tt
            refine XS.iconst X9.here hx rfl (hb hby d15_41) ?_
            show Steps p.tables e below (T9.setTop (mkF m 42 #[.val (.ref vt), .val (.int (own_n qc)), .val (.int (own_n qr))] [(.int (3 : Int32)), (.ref vt)])) tt
            refine XS.iloadN X9.here hx rfl (hb hby d15_42) rfl ?_
            exact kk
          obtain ⟨cl12, Ar12, Sl12⟩ := id V9
          have hin12 := inA (cl := cl12) Sl12 (j := (3 : Int32)) (by decide) (Nat.le_of_ble_eq_true rfl)
          obtain ⟨T12, h12, X12, e12, W12, st12⟩ := stI X9 hx hZ e9 Ar12 (j := (3 : Int32)) hin12 (g := (mkF m 43 #[.val (.ref vt), .val (.int (own_n qc)), .val (.int (own_n qr))] [(.int (own_n qr)), (.int (3 : Int32)), (.ref vt)])) rfl rfl (hb hby d15_43)
          have V12 : Ary Z h12 vt .int [(.int (own_n qr)), (.int (own_n qr)), (.int (own_n qr)), (.int (own_n qr))] := Ary.put Ar12 Sl12 W12 rfl
          have N12 := Fr.snoc X12 N9 g_vt
          refine Goal.to (B := T12.setTop (mkF m 44 #[.val (.ref vt), .val (.int (own_n qc)), .val (.int (own_n qr))] [])) st12 ?_
          have f13 : Keep h0 h12 [vt] := (((((Keep.refl h0 [vt]).wr W3 (Or.inl (List.mem_of_getElem? (i := 0) rfl))).wr W6 (Or.inl (List.mem_of_getElem? (i := 0) rfl))).wr W9 (Or.inl (List.mem_of_getElem? (i := 0) rfl))).wr W12 (Or.inl (List.mem_of_getElem? (i := 0) rfl)))
          exact Goal.retN X12 hx Bd.returns (hb hby d15_44) hlk e12 ⟨rfl, N12, f13, (Ary.cast V12 (by simp only [own_rl, if_pos hc2, if_pos hc5, if_pos hc8, if_pos hc11] : ([(.int (own_n qr)), (.int (own_n qr)), (.int (own_n qr)), (.int (own_n qr))] : List Value) = [(.int (own_n ((own_rl rr qc qr) 0))), (.int (own_n ((own_rl rr qc qr) 1))), (.int (own_n ((own_rl rr qc qr) 2))), (.int (own_n ((own_rl rr qc qr) 3)))]))⟩ (by decide) (by decide)
        · refine Goal.to (B := T9.setTop (mkF m 44 #[.val (.ref vt), .val (.int (own_n qc)), .val (.int (own_n qr))] [])) (fun tt kk => ?_) ?_
          · show Steps p.tables e below (T9.setTop (mkF m 37 #[.val (.ref vt), .val (.int (own_n qc)), .val (.int (own_n qr))] [(.int (own_n qc)), (.int (own_n (rr 3)))])) tt
            refine XS.icmpYes X9.here hx rfl (pc0 := 37) (pc' := 44) rfl (hb hby d15_37) rfl (feq hc11).2 (by decide) (by decide) ?_
            exact kk
          have f14 : Keep h0 h9 [vt] := ((((Keep.refl h0 [vt]).wr W3 (Or.inl (List.mem_of_getElem? (i := 0) rfl))).wr W6 (Or.inl (List.mem_of_getElem? (i := 0) rfl))).wr W9 (Or.inl (List.mem_of_getElem? (i := 0) rfl)))
          exact Goal.retN X9 hx Bd.returns (hb hby d15_44) hlk e9 ⟨rfl, N9, f14, (Ary.cast V9 (by simp only [own_rl, if_pos hc2, if_pos hc5, if_pos hc8, if_neg hc11] : ([(.int (own_n qr)), (.int (own_n qr)), (.int (own_n qr)), (.int (own_n (rr 3)))] : List Value) = [(.int (own_n ((own_rl rr qc qr) 0))), (.int (own_n ((own_rl rr qc qr) 1))), (.int (own_n ((own_rl rr qc qr) 2))), (.int (own_n ((own_rl rr qc qr) 3)))]))⟩ (by decide) (by decide)
      · refine Goal.to (B := T6.setTop (mkF m 35 #[.val (.ref vt), .val (.int (own_n qc)), .val (.int (own_n qr))] [(.int (3 : Int32)), (.ref vt)])) (fun tt kk => ?_) ?_
        · show Steps p.tables e below (T6.setTop (mkF m 26 #[.val (.ref vt), .val (.int (own_n qc)), .val (.int (own_n qr))] [(.int (own_n qc)), (.int (own_n (rr 2)))])) tt
          refine XS.icmpYes X6.here hx rfl (pc0 := 26) (pc' := 33) rfl (hb hby d15_26) rfl (feq hc8).2 (by decide) (by decide) ?_
          show Steps p.tables e below (T6.setTop (mkF m 33 #[.val (.ref vt), .val (.int (own_n qc)), .val (.int (own_n qr))] [])) tt
          refine XS.aloadN X6.here hx rfl (hb hby d15_33) rfl rfl ?_
          show Steps p.tables e below (T6.setTop (mkF m 34 #[.val (.ref vt), .val (.int (own_n qc)), .val (.int (own_n qr))] [(.ref vt)])) tt
          refine XS.iconst X6.here hx rfl (hb hby d15_34) ?_
          exact kk
        obtain ⟨cl15, Ar15, Sl15⟩ := id V6
        have hin15 := inA (cl := cl15) Sl15 (j := (3 : Int32)) (by decide) (Nat.le_of_ble_eq_true rfl)
        have hat15 : cl15.slots[((3 : Int32)).toNatClampNeg]? = some (.int (own_n (rr 3))) := atA Sl15 rfl
        refine Goal.to (B := T6.setTop (mkF m 37 #[.val (.ref vt), .val (.int (own_n qc)), .val (.int (own_n qr))] [(.int (own_n qc)), (.int (own_n (rr 3)))])) (fun tt kk => ?_) ?_
        · show Steps p.tables e below (T6.setTop (mkF m 35 #[.val (.ref vt), .val (.int (own_n qc)), .val (.int (own_n qr))] [(.int (3 : Int32)), (.ref vt)])) tt
          refine X6.iaload hx (j := (3 : Int32)) (v := (.int (own_n (rr 3)))) (by rw [e6]; exact Ar15.1) (State.isArrayOf_alike hZ.alike Ar15.2.1) Ar15.2.2 hin15 hat15 (g := (mkF m 35 #[.val (.ref vt), .val (.int (own_n qc)), .val (.int (own_n qr))] [(.int (3 : Int32)), (.ref vt)])) rfl rfl (hb hby d15_35) _ ?_
          show Steps p.tables e below (T6.setTop (mkF m 36 #[.val (.ref vt), .val (.int (own_n qc)), .val (.int (own_n qr))] [(.int (own_n (rr 3)))])) tt
          refine XS.iloadN X6.here hx rfl (hb hby d15_36) rfl ?_
          exact kk
        by_cases hc16 : (own_n (rr 3)) = (own_n qc)
        · refine Goal.to (B := T6.setTop (mkF m 43 #[.val (.ref vt), .val (.int (own_n qc)), .val (.int (own_n qr))] [(.int (own_n qr)), (.int (3 : Int32)), (.ref vt)])) (fun tt kk => ?_) ?_
          · show Steps p.tables e below (T6.setTop (mkF m 37 #[.val (.ref vt), .val (.int (own_n qc)), .val (.int (own_n qr))] [(.int (own_n qc)), (.int (own_n (rr 3)))])) tt
            refine XS.icmpNo X6.here hx rfl (hb hby d15_37) rfl (teq hc16).2 ?_
            show Steps p.tables e below (T6.setTop (mkF m 40 #[.val (.ref vt), .val (.int (own_n qc)), .val (.int (own_n qr))] [])) tt
            refine XS.aloadN X6.here hx rfl (hb hby d15_40) rfl rfl ?_
            show Steps p.tables e below (T6.setTop (mkF m 41 #[.val (.ref vt), .val (.int (own_n qc)), .val (.int (own_n qr))] [(.ref vt)])) tt
            refine XS.iconst X6.here hx rfl (hb hby d15_41) ?_
            show Steps p.tables e below (T6.setTop (mkF m 42 #[.val (.ref vt), .val (.int (own_n qc)), .val (.int (own_n qr))] [(.int (3 : Int32)), (.ref vt)])) tt
            refine XS.iloadN X6.here hx rfl (hb hby d15_42) rfl ?_
            exact kk
          obtain ⟨cl17, Ar17, Sl17⟩ := id V6
          have hin17 := inA (cl := cl17) Sl17 (j := (3 : Int32)) (by decide) (Nat.le_of_ble_eq_true rfl)
          obtain ⟨T17, h17, X17, e17, W17, st17⟩ := stI X6 hx hZ e6 Ar17 (j := (3 : Int32)) hin17 (g := (mkF m 43 #[.val (.ref vt), .val (.int (own_n qc)), .val (.int (own_n qr))] [(.int (own_n qr)), (.int (3 : Int32)), (.ref vt)])) rfl rfl (hb hby d15_43)
          have V17 : Ary Z h17 vt .int [(.int (own_n qr)), (.int (own_n qr)), (.int (own_n (rr 2))), (.int (own_n qr))] := Ary.put Ar17 Sl17 W17 rfl
          have N17 := Fr.snoc X17 N6 g_vt
          refine Goal.to (B := T17.setTop (mkF m 44 #[.val (.ref vt), .val (.int (own_n qc)), .val (.int (own_n qr))] [])) st17 ?_
          have f18 : Keep h0 h17 [vt] := ((((Keep.refl h0 [vt]).wr W3 (Or.inl (List.mem_of_getElem? (i := 0) rfl))).wr W6 (Or.inl (List.mem_of_getElem? (i := 0) rfl))).wr W17 (Or.inl (List.mem_of_getElem? (i := 0) rfl)))
          exact Goal.retN X17 hx Bd.returns (hb hby d15_44) hlk e17 ⟨rfl, N17, f18, (Ary.cast V17 (by simp only [own_rl, if_pos hc2, if_pos hc5, if_neg hc8, if_pos hc16] : ([(.int (own_n qr)), (.int (own_n qr)), (.int (own_n (rr 2))), (.int (own_n qr))] : List Value) = [(.int (own_n ((own_rl rr qc qr) 0))), (.int (own_n ((own_rl rr qc qr) 1))), (.int (own_n ((own_rl rr qc qr) 2))), (.int (own_n ((own_rl rr qc qr) 3)))]))⟩ (by decide) (by decide)
        · refine Goal.to (B := T6.setTop (mkF m 44 #[.val (.ref vt), .val (.int (own_n qc)), .val (.int (own_n qr))] [])) (fun tt kk => ?_) ?_
          · show Steps p.tables e below (T6.setTop (mkF m 37 #[.val (.ref vt), .val (.int (own_n qc)), .val (.int (own_n qr))] [(.int (own_n qc)), (.int (own_n (rr 3)))])) tt
            refine XS.icmpYes X6.here hx rfl (pc0 := 37) (pc' := 44) rfl (hb hby d15_37) rfl (feq hc16).2 (by decide) (by decide) ?_
            exact kk
          have f19 : Keep h0 h6 [vt] := (((Keep.refl h0 [vt]).wr W3 (Or.inl (List.mem_of_getElem? (i := 0) rfl))).wr W6 (Or.inl (List.mem_of_getElem? (i := 0) rfl)))
          exact Goal.retN X6 hx Bd.returns (hb hby d15_44) hlk e6 ⟨rfl, N6, f19, (Ary.cast V6 (by simp only [own_rl, if_pos hc2, if_pos hc5, if_neg hc8, if_neg hc16] : ([(.int (own_n qr)), (.int (own_n qr)), (.int (own_n (rr 2))), (.int (own_n (rr 3)))] : List Value) = [(.int (own_n ((own_rl rr qc qr) 0))), (.int (own_n ((own_rl rr qc qr) 1))), (.int (own_n ((own_rl rr qc qr) 2))), (.int (own_n ((own_rl rr qc qr) 3)))]))⟩ (by decide) (by decide)
    · refine Goal.to (B := T3.setTop (mkF m 24 #[.val (.ref vt), .val (.int (own_n qc)), .val (.int (own_n qr))] [(.int (2 : Int32)), (.ref vt)])) (fun tt kk => ?_) ?_
      · show Steps p.tables e below (T3.setTop (mkF m 15 #[.val (.ref vt), .val (.int (own_n qc)), .val (.int (own_n qr))] [(.int (own_n qc)), (.int (own_n (rr 1)))])) tt
        refine XS.icmpYes X3.here hx rfl (pc0 := 15) (pc' := 22) rfl (hb hby d15_15) rfl (feq hc5).2 (by decide) (by decide) ?_
        show Steps p.tables e below (T3.setTop (mkF m 22 #[.val (.ref vt), .val (.int (own_n qc)), .val (.int (own_n qr))] [])) tt
        refine XS.aloadN X3.here hx rfl (hb hby d15_22) rfl rfl ?_
        show Steps p.tables e below (T3.setTop (mkF m 23 #[.val (.ref vt), .val (.int (own_n qc)), .val (.int (own_n qr))] [(.ref vt)])) tt
        refine XS.iconst X3.here hx rfl (hb hby d15_23) ?_
        exact kk
      obtain ⟨cl20, Ar20, Sl20⟩ := id V3
      have hin20 := inA (cl := cl20) Sl20 (j := (2 : Int32)) (by decide) (Nat.le_of_ble_eq_true rfl)
      have hat20 : cl20.slots[((2 : Int32)).toNatClampNeg]? = some (.int (own_n (rr 2))) := atA Sl20 rfl
      refine Goal.to (B := T3.setTop (mkF m 26 #[.val (.ref vt), .val (.int (own_n qc)), .val (.int (own_n qr))] [(.int (own_n qc)), (.int (own_n (rr 2)))])) (fun tt kk => ?_) ?_
      · show Steps p.tables e below (T3.setTop (mkF m 24 #[.val (.ref vt), .val (.int (own_n qc)), .val (.int (own_n qr))] [(.int (2 : Int32)), (.ref vt)])) tt
        refine X3.iaload hx (j := (2 : Int32)) (v := (.int (own_n (rr 2)))) (by rw [e3]; exact Ar20.1) (State.isArrayOf_alike hZ.alike Ar20.2.1) Ar20.2.2 hin20 hat20 (g := (mkF m 24 #[.val (.ref vt), .val (.int (own_n qc)), .val (.int (own_n qr))] [(.int (2 : Int32)), (.ref vt)])) rfl rfl (hb hby d15_24) _ ?_
        show Steps p.tables e below (T3.setTop (mkF m 25 #[.val (.ref vt), .val (.int (own_n qc)), .val (.int (own_n qr))] [(.int (own_n (rr 2)))])) tt
        refine XS.iloadN X3.here hx rfl (hb hby d15_25) rfl ?_
        exact kk
      by_cases hc21 : (own_n (rr 2)) = (own_n qc)
      · refine Goal.to (B := T3.setTop (mkF m 32 #[.val (.ref vt), .val (.int (own_n qc)), .val (.int (own_n qr))] [(.int (own_n qr)), (.int (2 : Int32)), (.ref vt)])) (fun tt kk => ?_) ?_
        · show Steps p.tables e below (T3.setTop (mkF m 26 #[.val (.ref vt), .val (.int (own_n qc)), .val (.int (own_n qr))] [(.int (own_n qc)), (.int (own_n (rr 2)))])) tt
          refine XS.icmpNo X3.here hx rfl (hb hby d15_26) rfl (teq hc21).2 ?_
          show Steps p.tables e below (T3.setTop (mkF m 29 #[.val (.ref vt), .val (.int (own_n qc)), .val (.int (own_n qr))] [])) tt
          refine XS.aloadN X3.here hx rfl (hb hby d15_29) rfl rfl ?_
          show Steps p.tables e below (T3.setTop (mkF m 30 #[.val (.ref vt), .val (.int (own_n qc)), .val (.int (own_n qr))] [(.ref vt)])) tt
          refine XS.iconst X3.here hx rfl (hb hby d15_30) ?_
          show Steps p.tables e below (T3.setTop (mkF m 31 #[.val (.ref vt), .val (.int (own_n qc)), .val (.int (own_n qr))] [(.int (2 : Int32)), (.ref vt)])) tt
          refine XS.iloadN X3.here hx rfl (hb hby d15_31) rfl ?_
          exact kk
        obtain ⟨cl22, Ar22, Sl22⟩ := id V3
        have hin22 := inA (cl := cl22) Sl22 (j := (2 : Int32)) (by decide) (Nat.le_of_ble_eq_true rfl)
        obtain ⟨T22, h22, X22, e22, W22, st22⟩ := stI X3 hx hZ e3 Ar22 (j := (2 : Int32)) hin22 (g := (mkF m 32 #[.val (.ref vt), .val (.int (own_n qc)), .val (.int (own_n qr))] [(.int (own_n qr)), (.int (2 : Int32)), (.ref vt)])) rfl rfl (hb hby d15_32)
        have V22 : Ary Z h22 vt .int [(.int (own_n qr)), (.int (own_n (rr 1))), (.int (own_n qr)), (.int (own_n (rr 3)))] := Ary.put Ar22 Sl22 W22 rfl
        have N22 := Fr.snoc X22 N3 g_vt
        refine Goal.to (B := T22.setTop (mkF m 33 #[.val (.ref vt), .val (.int (own_n qc)), .val (.int (own_n qr))] [])) st22 ?_
        refine Goal.to (B := T22.setTop (mkF m 35 #[.val (.ref vt), .val (.int (own_n qc)), .val (.int (own_n qr))] [(.int (3 : Int32)), (.ref vt)])) (fun tt kk => ?_) ?_
        · show Steps p.tables e below (T22.setTop (mkF m 33 #[.val (.ref vt), .val (.int (own_n qc)), .val (.int (own_n qr))] [])) tt
          refine XS.aloadN X22.here hx rfl (hb hby d15_33) rfl rfl ?_
          show Steps p.tables e below (T22.setTop (mkF m 34 #[.val (.ref vt), .val (.int (own_n qc)), .val (.int (own_n qr))] [(.ref vt)])) tt
          refine XS.iconst X22.here hx rfl (hb hby d15_34) ?_
          exact kk
        obtain ⟨cl23, Ar23, Sl23⟩ := id V22
        have hin23 := inA (cl := cl23) Sl23 (j := (3 : Int32)) (by decide) (Nat.le_of_ble_eq_true rfl)
        have hat23 : cl23.slots[((3 : Int32)).toNatClampNeg]? = some (.int (own_n (rr 3))) := atA Sl23 rfl
        refine Goal.to (B := T22.setTop (mkF m 37 #[.val (.ref vt), .val (.int (own_n qc)), .val (.int (own_n qr))] [(.int (own_n qc)), (.int (own_n (rr 3)))])) (fun tt kk => ?_) ?_
        · show Steps p.tables e below (T22.setTop (mkF m 35 #[.val (.ref vt), .val (.int (own_n qc)), .val (.int (own_n qr))] [(.int (3 : Int32)), (.ref vt)])) tt
          refine X22.iaload hx (j := (3 : Int32)) (v := (.int (own_n (rr 3)))) (by rw [e22]; exact Ar23.1) (State.isArrayOf_alike hZ.alike Ar23.2.1) Ar23.2.2 hin23 hat23 (g := (mkF m 35 #[.val (.ref vt), .val (.int (own_n qc)), .val (.int (own_n qr))] [(.int (3 : Int32)), (.ref vt)])) rfl rfl (hb hby d15_35) _ ?_
          show Steps p.tables e below (T22.setTop (mkF m 36 #[.val (.ref vt), .val (.int (own_n qc)), .val (.int (own_n qr))] [(.int (own_n (rr 3)))])) tt
          refine XS.iloadN X22.here hx rfl (hb hby d15_36) rfl ?_
          exact kk
        by_cases hc24 : (own_n (rr 3)) = (own_n qc)
        · refine Goal.to (B := T22.setTop (mkF m 43 #[.val (.ref vt), .val (.int (own_n qc)), .val (.int (own_n qr))] [(.int (own_n qr)), (.int (3 : Int32)), (.ref vt)])) (fun tt kk => ?_) ?_
          · show Steps p.tables e below (T22.setTop (mkF m 37 #[.val (.ref vt), .val (.int (own_n qc)), .val (.int (own_n qr))] [(.int (own_n qc)), (.int (own_n (rr 3)))])) tt
            refine XS.icmpNo X22.here hx rfl (hb hby d15_37) rfl (teq hc24).2 ?_
            show Steps p.tables e below (T22.setTop (mkF m 40 #[.val (.ref vt), .val (.int (own_n qc)), .val (.int (own_n qr))] [])) tt
            refine XS.aloadN X22.here hx rfl (hb hby d15_40) rfl rfl ?_
            show Steps p.tables e below (T22.setTop (mkF m 41 #[.val (.ref vt), .val (.int (own_n qc)), .val (.int (own_n qr))] [(.ref vt)])) tt
            refine XS.iconst X22.here hx rfl (hb hby d15_41) ?_
            show Steps p.tables e below (T22.setTop (mkF m 42 #[.val (.ref vt), .val (.int (own_n qc)), .val (.int (own_n qr))] [(.int (3 : Int32)), (.ref vt)])) tt
            refine XS.iloadN X22.here hx rfl (hb hby d15_42) rfl ?_
            exact kk
          obtain ⟨cl25, Ar25, Sl25⟩ := id V22
          have hin25 := inA (cl := cl25) Sl25 (j := (3 : Int32)) (by decide) (Nat.le_of_ble_eq_true rfl)
          obtain ⟨T25, h25, X25, e25, W25, st25⟩ := stI X22 hx hZ e22 Ar25 (j := (3 : Int32)) hin25 (g := (mkF m 43 #[.val (.ref vt), .val (.int (own_n qc)), .val (.int (own_n qr))] [(.int (own_n qr)), (.int (3 : Int32)), (.ref vt)])) rfl rfl (hb hby d15_43)
          have V25 : Ary Z h25 vt .int [(.int (own_n qr)), (.int (own_n (rr 1))), (.int (own_n qr)), (.int (own_n qr))] := Ary.put Ar25 Sl25 W25 rfl
          have N25 := Fr.snoc X25 N22 g_vt
          refine Goal.to (B := T25.setTop (mkF m 44 #[.val (.ref vt), .val (.int (own_n qc)), .val (.int (own_n qr))] [])) st25 ?_
          have f26 : Keep h0 h25 [vt] := ((((Keep.refl h0 [vt]).wr W3 (Or.inl (List.mem_of_getElem? (i := 0) rfl))).wr W22 (Or.inl (List.mem_of_getElem? (i := 0) rfl))).wr W25 (Or.inl (List.mem_of_getElem? (i := 0) rfl)))
          exact Goal.retN X25 hx Bd.returns (hb hby d15_44) hlk e25 ⟨rfl, N25, f26, (Ary.cast V25 (by simp only [own_rl, if_pos hc2, if_neg hc5, if_pos hc21, if_pos hc24] : ([(.int (own_n qr)), (.int (own_n (rr 1))), (.int (own_n qr)), (.int (own_n qr))] : List Value) = [(.int (own_n ((own_rl rr qc qr) 0))), (.int (own_n ((own_rl rr qc qr) 1))), (.int (own_n ((own_rl rr qc qr) 2))), (.int (own_n ((own_rl rr qc qr) 3)))]))⟩ (by decide) (by decide)
        · refine Goal.to (B := T22.setTop (mkF m 44 #[.val (.ref vt), .val (.int (own_n qc)), .val (.int (own_n qr))] [])) (fun tt kk => ?_) ?_
          · show Steps p.tables e below (T22.setTop (mkF m 37 #[.val (.ref vt), .val (.int (own_n qc)), .val (.int (own_n qr))] [(.int (own_n qc)), (.int (own_n (rr 3)))])) tt
            refine XS.icmpYes X22.here hx rfl (pc0 := 37) (pc' := 44) rfl (hb hby d15_37) rfl (feq hc24).2 (by decide) (by decide) ?_
            exact kk
          have f27 : Keep h0 h22 [vt] := (((Keep.refl h0 [vt]).wr W3 (Or.inl (List.mem_of_getElem? (i := 0) rfl))).wr W22 (Or.inl (List.mem_of_getElem? (i := 0) rfl)))
          exact Goal.retN X22 hx Bd.returns (hb hby d15_44) hlk e22 ⟨rfl, N22, f27, (Ary.cast V22 (by simp only [own_rl, if_pos hc2, if_neg hc5, if_pos hc21, if_neg hc24] : ([(.int (own_n qr)), (.int (own_n (rr 1))), (.int (own_n qr)), (.int (own_n (rr 3)))] : List Value) = [(.int (own_n ((own_rl rr qc qr) 0))), (.int (own_n ((own_rl rr qc qr) 1))), (.int (own_n ((own_rl rr qc qr) 2))), (.int (own_n ((own_rl rr qc qr) 3)))]))⟩ (by decide) (by decide)
      · refine Goal.to (B := T3.setTop (mkF m 35 #[.val (.ref vt), .val (.int (own_n qc)), .val (.int (own_n qr))] [(.int (3 : Int32)), (.ref vt)])) (fun tt kk => ?_) ?_
        · show Steps p.tables e below (T3.setTop (mkF m 26 #[.val (.ref vt), .val (.int (own_n qc)), .val (.int (own_n qr))] [(.int (own_n qc)), (.int (own_n (rr 2)))])) tt
          refine XS.icmpYes X3.here hx rfl (pc0 := 26) (pc' := 33) rfl (hb hby d15_26) rfl (feq hc21).2 (by decide) (by decide) ?_
          show Steps p.tables e below (T3.setTop (mkF m 33 #[.val (.ref vt), .val (.int (own_n qc)), .val (.int (own_n qr))] [])) tt
          refine XS.aloadN X3.here hx rfl (hb hby d15_33) rfl rfl ?_
          show Steps p.tables e below (T3.setTop (mkF m 34 #[.val (.ref vt), .val (.int (own_n qc)), .val (.int (own_n qr))] [(.ref vt)])) tt
          refine XS.iconst X3.here hx rfl (hb hby d15_34) ?_
          exact kk
        obtain ⟨cl28, Ar28, Sl28⟩ := id V3
        have hin28 := inA (cl := cl28) Sl28 (j := (3 : Int32)) (by decide) (Nat.le_of_ble_eq_true rfl)
        have hat28 : cl28.slots[((3 : Int32)).toNatClampNeg]? = some (.int (own_n (rr 3))) := atA Sl28 rfl
        refine Goal.to (B := T3.setTop (mkF m 37 #[.val (.ref vt), .val (.int (own_n qc)), .val (.int (own_n qr))] [(.int (own_n qc)), (.int (own_n (rr 3)))])) (fun tt kk => ?_) ?_
        · show Steps p.tables e below (T3.setTop (mkF m 35 #[.val (.ref vt), .val (.int (own_n qc)), .val (.int (own_n qr))] [(.int (3 : Int32)), (.ref vt)])) tt
          refine X3.iaload hx (j := (3 : Int32)) (v := (.int (own_n (rr 3)))) (by rw [e3]; exact Ar28.1) (State.isArrayOf_alike hZ.alike Ar28.2.1) Ar28.2.2 hin28 hat28 (g := (mkF m 35 #[.val (.ref vt), .val (.int (own_n qc)), .val (.int (own_n qr))] [(.int (3 : Int32)), (.ref vt)])) rfl rfl (hb hby d15_35) _ ?_
          show Steps p.tables e below (T3.setTop (mkF m 36 #[.val (.ref vt), .val (.int (own_n qc)), .val (.int (own_n qr))] [(.int (own_n (rr 3)))])) tt
          refine XS.iloadN X3.here hx rfl (hb hby d15_36) rfl ?_
          exact kk
        by_cases hc29 : (own_n (rr 3)) = (own_n qc)
        · refine Goal.to (B := T3.setTop (mkF m 43 #[.val (.ref vt), .val (.int (own_n qc)), .val (.int (own_n qr))] [(.int (own_n qr)), (.int (3 : Int32)), (.ref vt)])) (fun tt kk => ?_) ?_
          · show Steps p.tables e below (T3.setTop (mkF m 37 #[.val (.ref vt), .val (.int (own_n qc)), .val (.int (own_n qr))] [(.int (own_n qc)), (.int (own_n (rr 3)))])) tt
            refine XS.icmpNo X3.here hx rfl (hb hby d15_37) rfl (teq hc29).2 ?_
            show Steps p.tables e below (T3.setTop (mkF m 40 #[.val (.ref vt), .val (.int (own_n qc)), .val (.int (own_n qr))] [])) tt
            refine XS.aloadN X3.here hx rfl (hb hby d15_40) rfl rfl ?_
            show Steps p.tables e below (T3.setTop (mkF m 41 #[.val (.ref vt), .val (.int (own_n qc)), .val (.int (own_n qr))] [(.ref vt)])) tt
            refine XS.iconst X3.here hx rfl (hb hby d15_41) ?_
            show Steps p.tables e below (T3.setTop (mkF m 42 #[.val (.ref vt), .val (.int (own_n qc)), .val (.int (own_n qr))] [(.int (3 : Int32)), (.ref vt)])) tt
            refine XS.iloadN X3.here hx rfl (hb hby d15_42) rfl ?_
            exact kk
          obtain ⟨cl30, Ar30, Sl30⟩ := id V3
          have hin30 := inA (cl := cl30) Sl30 (j := (3 : Int32)) (by decide) (Nat.le_of_ble_eq_true rfl)
          obtain ⟨T30, h30, X30, e30, W30, st30⟩ := stI X3 hx hZ e3 Ar30 (j := (3 : Int32)) hin30 (g := (mkF m 43 #[.val (.ref vt), .val (.int (own_n qc)), .val (.int (own_n qr))] [(.int (own_n qr)), (.int (3 : Int32)), (.ref vt)])) rfl rfl (hb hby d15_43)
          have V30 : Ary Z h30 vt .int [(.int (own_n qr)), (.int (own_n (rr 1))), (.int (own_n (rr 2))), (.int (own_n qr))] := Ary.put Ar30 Sl30 W30 rfl
          have N30 := Fr.snoc X30 N3 g_vt
          refine Goal.to (B := T30.setTop (mkF m 44 #[.val (.ref vt), .val (.int (own_n qc)), .val (.int (own_n qr))] [])) st30 ?_
          have f31 : Keep h0 h30 [vt] := (((Keep.refl h0 [vt]).wr W3 (Or.inl (List.mem_of_getElem? (i := 0) rfl))).wr W30 (Or.inl (List.mem_of_getElem? (i := 0) rfl)))
          exact Goal.retN X30 hx Bd.returns (hb hby d15_44) hlk e30 ⟨rfl, N30, f31, (Ary.cast V30 (by simp only [own_rl, if_pos hc2, if_neg hc5, if_neg hc21, if_pos hc29] : ([(.int (own_n qr)), (.int (own_n (rr 1))), (.int (own_n (rr 2))), (.int (own_n qr))] : List Value) = [(.int (own_n ((own_rl rr qc qr) 0))), (.int (own_n ((own_rl rr qc qr) 1))), (.int (own_n ((own_rl rr qc qr) 2))), (.int (own_n ((own_rl rr qc qr) 3)))]))⟩ (by decide) (by decide)
        · refine Goal.to (B := T3.setTop (mkF m 44 #[.val (.ref vt), .val (.int (own_n qc)), .val (.int (own_n qr))] [])) (fun tt kk => ?_) ?_
          · show Steps p.tables e below (T3.setTop (mkF m 37 #[.val (.ref vt), .val (.int (own_n qc)), .val (.int (own_n qr))] [(.int (own_n qc)), (.int (own_n (rr 3)))])) tt
            refine XS.icmpYes X3.here hx rfl (pc0 := 37) (pc' := 44) rfl (hb hby d15_37) rfl (feq hc29).2 (by decide) (by decide) ?_
            exact kk
          have f32 : Keep h0 h3 [vt] := ((Keep.refl h0 [vt]).wr W3 (Or.inl (List.mem_of_getElem? (i := 0) rfl)))
          exact Goal.retN X3 hx Bd.returns (hb hby d15_44) hlk e3 ⟨rfl, N3, f32, (Ary.cast V3 (by simp only [own_rl, if_pos hc2, if_neg hc5, if_neg hc21, if_neg hc29] : ([(.int (own_n qr)), (.int (own_n (rr 1))), (.int (own_n (rr 2))), (.int (own_n (rr 3)))] : List Value) = [(.int (own_n ((own_rl rr qc qr) 0))), (.int (own_n ((own_rl rr qc qr) 1))), (.int (own_n ((own_rl rr qc qr) 2))), (.int (own_n ((own_rl rr qc qr) 3)))]))⟩ (by decide) (by decide)
  · refine Goal.to (B := s₁.setTop (mkF m 13 #[.val (.ref vt), .val (.int (own_n qc)), .val (.int (own_n qr))] [(.int (1 : Int32)), (.ref vt)])) (fun tt kk => ?_) ?_
    · show Steps p.tables e below (s₁.setTop (mkF m 4 #[.val (.ref vt), .val (.int (own_n qc)), .val (.int (own_n qr))] [(.int (own_n qc)), (.int (own_n (rr 0)))])) tt
      refine XS.icmpYes X0.here hx rfl (pc0 := 4) (pc' := 11) rfl (hb hby d15_4) rfl (feq hc2).2 (by decide) (by decide) ?_
      show Steps p.tables e below (s₁.setTop (mkF m 11 #[.val (.ref vt), .val (.int (own_n qc)), .val (.int (own_n qr))] [])) tt
      refine XS.aloadN X0.here hx rfl (hb hby d15_11) rfl rfl ?_
      show Steps p.tables e below (s₁.setTop (mkF m 12 #[.val (.ref vt), .val (.int (own_n qc)), .val (.int (own_n qr))] [(.ref vt)])) tt
      refine XS.iconst X0.here hx rfl (hb hby d15_12) ?_
      exact kk
    obtain ⟨cl33, Ar33, Sl33⟩ := id V_vt
    have hin33 := inA (cl := cl33) Sl33 (j := (1 : Int32)) (by decide) (Nat.le_of_ble_eq_true rfl)
    have hat33 : cl33.slots[((1 : Int32)).toNatClampNeg]? = some (.int (own_n (rr 1))) := atA Sl33 rfl
    refine Goal.to (B := s₁.setTop (mkF m 15 #[.val (.ref vt), .val (.int (own_n qc)), .val (.int (own_n qr))] [(.int (own_n qc)), (.int (own_n (rr 1)))])) (fun tt kk => ?_) ?_
    · show Steps p.tables e below (s₁.setTop (mkF m 13 #[.val (.ref vt), .val (.int (own_n qc)), .val (.int (own_n qr))] [(.int (1 : Int32)), (.ref vt)])) tt
      refine X0.iaload hx (j := (1 : Int32)) (v := (.int (own_n (rr 1)))) (by rw [e0]; exact Ar33.1) (State.isArrayOf_alike hZ.alike Ar33.2.1) Ar33.2.2 hin33 hat33 (g := (mkF m 13 #[.val (.ref vt), .val (.int (own_n qc)), .val (.int (own_n qr))] [(.int (1 : Int32)), (.ref vt)])) rfl rfl (hb hby d15_13) _ ?_
      show Steps p.tables e below (s₁.setTop (mkF m 14 #[.val (.ref vt), .val (.int (own_n qc)), .val (.int (own_n qr))] [(.int (own_n (rr 1)))])) tt
      refine XS.iloadN X0.here hx rfl (hb hby d15_14) rfl ?_
      exact kk
    by_cases hc34 : (own_n (rr 1)) = (own_n qc)
    · refine Goal.to (B := s₁.setTop (mkF m 21 #[.val (.ref vt), .val (.int (own_n qc)), .val (.int (own_n qr))] [(.int (own_n qr)), (.int (1 : Int32)), (.ref vt)])) (fun tt kk => ?_) ?_
      · show Steps p.tables e below (s₁.setTop (mkF m 15 #[.val (.ref vt), .val (.int (own_n qc)), .val (.int (own_n qr))] [(.int (own_n qc)), (.int (own_n (rr 1)))])) tt
        refine XS.icmpNo X0.here hx rfl (hb hby d15_15) rfl (teq hc34).2 ?_
        show Steps p.tables e below (s₁.setTop (mkF m 18 #[.val (.ref vt), .val (.int (own_n qc)), .val (.int (own_n qr))] [])) tt
        refine XS.aloadN X0.here hx rfl (hb hby d15_18) rfl rfl ?_
        show Steps p.tables e below (s₁.setTop (mkF m 19 #[.val (.ref vt), .val (.int (own_n qc)), .val (.int (own_n qr))] [(.ref vt)])) tt
        refine XS.iconst X0.here hx rfl (hb hby d15_19) ?_
        show Steps p.tables e below (s₁.setTop (mkF m 20 #[.val (.ref vt), .val (.int (own_n qc)), .val (.int (own_n qr))] [(.int (1 : Int32)), (.ref vt)])) tt
        refine XS.iloadN X0.here hx rfl (hb hby d15_20) rfl ?_
        exact kk
      obtain ⟨cl35, Ar35, Sl35⟩ := id V_vt
      have hin35 := inA (cl := cl35) Sl35 (j := (1 : Int32)) (by decide) (Nat.le_of_ble_eq_true rfl)
      obtain ⟨T35, h35, X35, e35, W35, st35⟩ := stI X0 hx hZ e0 Ar35 (j := (1 : Int32)) hin35 (g := (mkF m 21 #[.val (.ref vt), .val (.int (own_n qc)), .val (.int (own_n qr))] [(.int (own_n qr)), (.int (1 : Int32)), (.ref vt)])) rfl rfl (hb hby d15_21)
      have V35 : Ary Z h35 vt .int [(.int (own_n (rr 0))), (.int (own_n qr)), (.int (own_n (rr 2))), (.int (own_n (rr 3)))] := Ary.put Ar35 Sl35 W35 rfl
      have N35 := Fr.snoc X35 N0 g_vt
      refine Goal.to (B := T35.setTop (mkF m 22 #[.val (.ref vt), .val (.int (own_n qc)), .val (.int (own_n qr))] [])) st35 ?_
      refine Goal.to (B := T35.setTop (mkF m 24 #[.val (.ref vt), .val (.int (own_n qc)), .val (.int (own_n qr))] [(.int (2 : Int32)), (.ref vt)])) (fun tt kk => ?_) ?_
      · show Steps p.tables e below (T35.setTop (mkF m 22 #[.val (.ref vt), .val (.int (own_n qc)), .val (.int (own_n qr))] [])) tt
        refine XS.aloadN X35.here hx rfl (hb hby d15_22) rfl rfl ?_
        show Steps p.tables e below (T35.setTop (mkF m 23 #[.val (.ref vt), .val (.int (own_n qc)), .val (.int (own_n qr))] [(.ref vt)])) tt
        refine XS.iconst X35.here hx rfl (hb hby d15_23) ?_
        exact kk
      obtain ⟨cl36, Ar36, Sl36⟩ := id V35
      have hin36 := inA (cl := cl36) Sl36 (j := (2 : Int32)) (by decide) (Nat.le_of_ble_eq_true rfl)
      have hat36 : cl36.slots[((2 : Int32)).toNatClampNeg]? = some (.int (own_n (rr 2))) := atA Sl36 rfl
      refine Goal.to (B := T35.setTop (mkF m 26 #[.val (.ref vt), .val (.int (own_n qc)), .val (.int (own_n qr))] [(.int (own_n qc)), (.int (own_n (rr 2)))])) (fun tt kk => ?_) ?_
      · show Steps p.tables e below (T35.setTop (mkF m 24 #[.val (.ref vt), .val (.int (own_n qc)), .val (.int (own_n qr))] [(.int (2 : Int32)), (.ref vt)])) tt
        refine X35.iaload hx (j := (2 : Int32)) (v := (.int (own_n (rr 2)))) (by rw [e35]; exact Ar36.1) (State.isArrayOf_alike hZ.alike Ar36.2.1) Ar36.2.2 hin36 hat36 (g := (mkF m 24 #[.val (.ref vt), .val (.int (own_n qc)), .val (.int (own_n qr))] [(.int (2 : Int32)), (.ref vt)])) rfl rfl (hb hby d15_24) _ ?_
        show Steps p.tables e below (T35.setTop (mkF m 25 #[.val (.ref vt), .val (.int (own_n qc)), .val (.int (own_n qr))] [(.int (own_n (rr 2)))])) tt
        refine XS.iloadN X35.here hx rfl (hb hby d15_25) rfl ?_
        exact kk
      by_cases hc37 : (own_n (rr 2)) = (own_n qc)
      · refine Goal.to (B := T35.setTop (mkF m 32 #[.val (.ref vt), .val (.int (own_n qc)), .val (.int (own_n qr))] [(.int (own_n qr)), (.int (2 : Int32)), (.ref vt)])) (fun tt kk => ?_) ?_
        · show Steps p.tables e below (T35.setTop (mkF m 26 #[.val (.ref vt), .val (.int (own_n qc)), .val (.int (own_n qr))] [(.int (own_n qc)), (.int (own_n (rr 2)))])) tt
          refine XS.icmpNo X35.here hx rfl (hb hby d15_26) rfl (teq hc37).2 ?_
          show Steps p.tables e below (T35.setTop (mkF m 29 #[.val (.ref vt), .val (.int (own_n qc)), .val (.int (own_n qr))] [])) tt
          refine XS.aloadN X35.here hx rfl (hb hby d15_29) rfl rfl ?_
          show Steps p.tables e below (T35.setTop (mkF m 30 #[.val (.ref vt), .val (.int (own_n qc)), .val (.int (own_n qr))] [(.ref vt)])) tt
          refine XS.iconst X35.here hx rfl (hb hby d15_30) ?_
          show Steps p.tables e below (T35.setTop (mkF m 31 #[.val (.ref vt), .val (.int (own_n qc)), .val (.int (own_n qr))] [(.int (2 : Int32)), (.ref vt)])) tt
          refine XS.iloadN X35.here hx rfl (hb hby d15_31) rfl ?_
          exact kk
        obtain ⟨cl38, Ar38, Sl38⟩ := id V35
        have hin38 := inA (cl := cl38) Sl38 (j := (2 : Int32)) (by decide) (Nat.le_of_ble_eq_true rfl)
        obtain ⟨T38, h38, X38, e38, W38, st38⟩ := stI X35 hx hZ e35 Ar38 (j := (2 : Int32)) hin38 (g := (mkF m 32 #[.val (.ref vt), .val (.int (own_n qc)), .val (.int (own_n qr))] [(.int (own_n qr)), (.int (2 : Int32)), (.ref vt)])) rfl rfl (hb hby d15_32)
        have V38 : Ary Z h38 vt .int [(.int (own_n (rr 0))), (.int (own_n qr)), (.int (own_n qr)), (.int (own_n (rr 3)))] := Ary.put Ar38 Sl38 W38 rfl
        have N38 := Fr.snoc X38 N35 g_vt
        refine Goal.to (B := T38.setTop (mkF m 33 #[.val (.ref vt), .val (.int (own_n qc)), .val (.int (own_n qr))] [])) st38 ?_
        refine Goal.to (B := T38.setTop (mkF m 35 #[.val (.ref vt), .val (.int (own_n qc)), .val (.int (own_n qr))] [(.int (3 : Int32)), (.ref vt)])) (fun tt kk => ?_) ?_
        · show Steps p.tables e below (T38.setTop (mkF m 33 #[.val (.ref vt), .val (.int (own_n qc)), .val (.int (own_n qr))] [])) tt
          refine XS.aloadN X38.here hx rfl (hb hby d15_33) rfl rfl ?_
          show Steps p.tables e below (T38.setTop (mkF m 34 #[.val (.ref vt), .val (.int (own_n qc)), .val (.int (own_n qr))] [(.ref vt)])) tt
          refine XS.iconst X38.here hx rfl (hb hby d15_34) ?_
          exact kk
        obtain ⟨cl39, Ar39, Sl39⟩ := id V38
        have hin39 := inA (cl := cl39) Sl39 (j := (3 : Int32)) (by decide) (Nat.le_of_ble_eq_true rfl)
        have hat39 : cl39.slots[((3 : Int32)).toNatClampNeg]? = some (.int (own_n (rr 3))) := atA Sl39 rfl
        refine Goal.to (B := T38.setTop (mkF m 37 #[.val (.ref vt), .val (.int (own_n qc)), .val (.int (own_n qr))] [(.int (own_n qc)), (.int (own_n (rr 3)))])) (fun tt kk => ?_) ?_
        · show Steps p.tables e below (T38.setTop (mkF m 35 #[.val (.ref vt), .val (.int (own_n qc)), .val (.int (own_n qr))] [(.int (3 : Int32)), (.ref vt)])) tt
          refine X38.iaload hx (j := (3 : Int32)) (v := (.int (own_n (rr 3)))) (by rw [e38]; exact Ar39.1) (State.isArrayOf_alike hZ.alike Ar39.2.1) Ar39.2.2 hin39 hat39 (g := (mkF m 35 #[.val (.ref vt), .val (.int (own_n qc)), .val (.int (own_n qr))] [(.int (3 : Int32)), (.ref vt)])) rfl rfl (hb hby d15_35) _ ?_
          show Steps p.tables e below (T38.setTop (mkF m 36 #[.val (.ref vt), .val (.int (own_n qc)), .val (.int (own_n qr))] [(.int (own_n (rr 3)))])) tt
          refine XS.iloadN X38.here hx rfl (hb hby d15_36) rfl ?_
          exact kk
        by_cases hc40 : (own_n (rr 3)) = (own_n qc)
        · refine Goal.to (B := T38.setTop (mkF m 43 #[.val (.ref vt), .val (.int (own_n qc)), .val (.int (own_n qr))] [(.int (own_n qr)), (.int (3 : Int32)), (.ref vt)])) (fun tt kk => ?_) ?_
          · show Steps p.tables e below (T38.setTop (mkF m 37 #[.val (.ref vt), .val (.int (own_n qc)), .val (.int (own_n qr))] [(.int (own_n qc)), (.int (own_n (rr 3)))])) tt
            refine XS.icmpNo X38.here hx rfl (hb hby d15_37) rfl (teq hc40).2 ?_
            show Steps p.tables e below (T38.setTop (mkF m 40 #[.val (.ref vt), .val (.int (own_n qc)), .val (.int (own_n qr))] [])) tt
            refine XS.aloadN X38.here hx rfl (hb hby d15_40) rfl rfl ?_
            show Steps p.tables e below (T38.setTop (mkF m 41 #[.val (.ref vt), .val (.int (own_n qc)), .val (.int (own_n qr))] [(.ref vt)])) tt
            refine XS.iconst X38.here hx rfl (hb hby d15_41) ?_
            show Steps p.tables e below (T38.setTop (mkF m 42 #[.val (.ref vt), .val (.int (own_n qc)), .val (.int (own_n qr))] [(.int (3 : Int32)), (.ref vt)])) tt
            refine XS.iloadN X38.here hx rfl (hb hby d15_42) rfl ?_
            exact kk
          obtain ⟨cl41, Ar41, Sl41⟩ := id V38
          have hin41 := inA (cl := cl41) Sl41 (j := (3 : Int32)) (by decide) (Nat.le_of_ble_eq_true rfl)
          obtain ⟨T41, h41, X41, e41, W41, st41⟩ := stI X38 hx hZ e38 Ar41 (j := (3 : Int32)) hin41 (g := (mkF m 43 #[.val (.ref vt), .val (.int (own_n qc)), .val (.int (own_n qr))] [(.int (own_n qr)), (.int (3 : Int32)), (.ref vt)])) rfl rfl (hb hby d15_43)
          have V41 : Ary Z h41 vt .int [(.int (own_n (rr 0))), (.int (own_n qr)), (.int (own_n qr)), (.int (own_n qr))] := Ary.put Ar41 Sl41 W41 rfl
          have N41 := Fr.snoc X41 N38 g_vt
          refine Goal.to (B := T41.setTop (mkF m 44 #[.val (.ref vt), .val (.int (own_n qc)), .val (.int (own_n qr))] [])) st41 ?_
          have f42 : Keep h0 h41 [vt] := ((((Keep.refl h0 [vt]).wr W35 (Or.inl (List.mem_of_getElem? (i := 0) rfl))).wr W38 (Or.inl (List.mem_of_getElem? (i := 0) rfl))).wr W41 (Or.inl (List.mem_of_getElem? (i := 0) rfl)))
          exact Goal.retN X41 hx Bd.returns (hb hby d15_44) hlk e41 ⟨rfl, N41, f42, (Ary.cast V41 (by simp only [own_rl, if_neg hc2, if_pos hc34, if_pos hc37, if_pos hc40] : ([(.int (own_n (rr 0))), (.int (own_n qr)), (.int (own_n qr)), (.int (own_n qr))] : List Value) = [(.int (own_n ((own_rl rr qc qr) 0))), (.int (own_n ((own_rl rr qc qr) 1))), (.int (own_n ((own_rl rr qc qr) 2))), (.int (own_n ((own_rl rr qc qr) 3)))]))⟩ (by decide) (by decide)
        · refine Goal.to (B := T38.setTop (mkF m 44 #[.val (.ref vt), .val (.int (own_n qc)), .val (.int (own_n qr))] [])) (fun tt kk => ?_) ?_
          · show Steps p.tables e below (T38.setTop (mkF m 37 #[.val (.ref vt), .val (.int (own_n qc)), .val (.int (own_n qr))] [(.int (own_n qc)), (.int (own_n (rr 3)))])) tt
            refine XS.icmpYes X38.here hx rfl (pc0 := 37) (pc' := 44) rfl (hb hby d15_37) rfl (feq hc40).2 (by decide) (by decide) ?_
            exact kk
          have f43 : Keep h0 h38 [vt] := (((Keep.refl h0 [vt]).wr W35 (Or.inl (List.mem_of_getElem? (i := 0) rfl))).wr W38 (Or.inl (List.mem_of_getElem? (i := 0) rfl)))
          exact Goal.retN X38 hx Bd.returns (hb hby d15_44) hlk e38 ⟨rfl, N38, f43, (Ary.cast V38 (by simp only [own_rl, if_neg hc2, if_pos hc34, if_pos hc37, if_neg hc40] : ([(.int (own_n (rr 0))), (.int (own_n qr)), (.int (own_n qr)), (.int (own_n (rr 3)))] : List Value) = [(.int (own_n ((own_rl rr qc qr) 0))), (.int (own_n ((own_rl rr qc qr) 1))), (.int (own_n ((own_rl rr qc qr) 2))), (.int (own_n ((own_rl rr qc qr) 3)))]))⟩ (by decide) (by decide)
      · refine Goal.to (B := T35.setTop (mkF m 35 #[.val (.ref vt), .val (.int (own_n qc)), .val (.int (own_n qr))] [(.int (3 : Int32)), (.ref vt)])) (fun tt kk => ?_) ?_
        · show Steps p.tables e below (T35.setTop (mkF m 26 #[.val (.ref vt), .val (.int (own_n qc)), .val (.int (own_n qr))] [(.int (own_n qc)), (.int (own_n (rr 2)))])) tt
          refine XS.icmpYes X35.here hx rfl (pc0 := 26) (pc' := 33) rfl (hb hby d15_26) rfl (feq hc37).2 (by decide) (by decide) ?_
          show Steps p.tables e below (T35.setTop (mkF m 33 #[.val (.ref vt), .val (.int (own_n qc)), .val (.int (own_n qr))] [])) tt
          refine XS.aloadN X35.here hx rfl (hb hby d15_33) rfl rfl ?_
          show Steps p.tables e below (T35.setTop (mkF m 34 #[.val (.ref vt), .val (.int (own_n qc)), .val (.int (own_n qr))] [(.ref vt)])) tt
          refine XS.iconst X35.here hx rfl (hb hby d15_34) ?_
          exact kk
        obtain ⟨cl44, Ar44, Sl44⟩ := id V35
        have hin44 := inA (cl := cl44) Sl44 (j := (3 : Int32)) (by decide) (Nat.le_of_ble_eq_true rfl)
        have hat44 : cl44.slots[((3 : Int32)).toNatClampNeg]? = some (.int (own_n (rr 3))) := atA Sl44 rfl
        refine Goal.to (B := T35.setTop (mkF m 37 #[.val (.ref vt), .val (.int (own_n qc)), .val (.int (own_n qr))] [(.int (own_n qc)), (.int (own_n (rr 3)))])) (fun tt kk => ?_) ?_
        · show Steps p.tables e below (T35.setTop (mkF m 35 #[.val (.ref vt), .val (.int (own_n qc)), .val (.int (own_n qr))] [(.int (3 : Int32)), (.ref vt)])) tt
          refine X35.iaload hx (j := (3 : Int32)) (v := (.int (own_n (rr 3)))) (by rw [e35]; exact Ar44.1) (State.isArrayOf_alike hZ.alike Ar44.2.1) Ar44.2.2 hin44 hat44 (g := (mkF m 35 #[.val (.ref vt), .val (.int (own_n qc)), .val (.int (own_n qr))] [(.int (3 : Int32)), (.ref vt)])) rfl rfl (hb hby d15_35) _ ?_
          show Steps p.tables e below (T35.setTop (mkF m 36 #[.val (.ref vt), .val (.int (own_n qc)), .val (.int (own_n qr))] [(.int (own_n (rr 3)))])) tt
          refine XS.iloadN X35.here hx rfl (hb hby d15_36) rfl ?_
          exact kk
        by_cases hc45 : (own_n (rr 3)) = (own_n qc)
        · refine Goal.to (B := T35.setTop (mkF m 43 #[.val (.ref vt), .val (.int (own_n qc)), .val (.int (own_n qr))] [(.int (own_n qr)), (.int (3 : Int32)), (.ref vt)])) (fun tt kk => ?_) ?_
          · show Steps p.tables e below (T35.setTop (mkF m 37 #[.val (.ref vt), .val (.int (own_n qc)), .val (.int (own_n qr))] [(.int (own_n qc)), (.int (own_n (rr 3)))])) tt
            refine XS.icmpNo X35.here hx rfl (hb hby d15_37) rfl (teq hc45).2 ?_
            show Steps p.tables e below (T35.setTop (mkF m 40 #[.val (.ref vt), .val (.int (own_n qc)), .val (.int (own_n qr))] [])) tt
            refine XS.aloadN X35.here hx rfl (hb hby d15_40) rfl rfl ?_
            show Steps p.tables e below (T35.setTop (mkF m 41 #[.val (.ref vt), .val (.int (own_n qc)), .val (.int (own_n qr))] [(.ref vt)])) tt
            refine XS.iconst X35.here hx rfl (hb hby d15_41) ?_
            show Steps p.tables e below (T35.setTop (mkF m 42 #[.val (.ref vt), .val (.int (own_n qc)), .val (.int (own_n qr))] [(.int (3 : Int32)), (.ref vt)])) tt
            refine XS.iloadN X35.here hx rfl (hb hby d15_42) rfl ?_
            exact kk
          obtain ⟨cl46, Ar46, Sl46⟩ := id V35
          have hin46 := inA (cl := cl46) Sl46 (j := (3 : Int32)) (by decide) (Nat.le_of_ble_eq_true rfl)
          obtain ⟨T46, h46, X46, e46, W46, st46⟩ := stI X35 hx hZ e35 Ar46 (j := (3 : Int32)) hin46 (g := (mkF m 43 #[.val (.ref vt), .val (.int (own_n qc)), .val (.int (own_n qr))] [(.int (own_n qr)), (.int (3 : Int32)), (.ref vt)])) rfl rfl (hb hby d15_43)
          have V46 : Ary Z h46 vt .int [(.int (own_n (rr 0))), (.int (own_n qr)), (.int (own_n (rr 2))), (.int (own_n qr))] := Ary.put Ar46 Sl46 W46 rfl
          have N46 := Fr.snoc X46 N35 g_vt
          refine Goal.to (B := T46.setTop (mkF m 44 #[.val (.ref vt), .val (.int (own_n qc)), .val (.int (own_n qr))] [])) st46 ?_
          have f47 : Keep h0 h46 [vt] := (((Keep.refl h0 [vt]).wr W35 (Or.inl (List.mem_of_getElem? (i := 0) rfl))).wr W46 (Or.inl (List.mem_of_getElem? (i := 0) rfl)))
          exact Goal.retN X46 hx Bd.returns (hb hby d15_44) hlk e46 ⟨rfl, N46, f47, (Ary.cast V46 (by simp only [own_rl, if_neg hc2, if_pos hc34, if_neg hc37, if_pos hc45] : ([(.int (own_n (rr 0))), (.int (own_n qr)), (.int (own_n (rr 2))), (.int (own_n qr))] : List Value) = [(.int (own_n ((own_rl rr qc qr) 0))), (.int (own_n ((own_rl rr qc qr) 1))), (.int (own_n ((own_rl rr qc qr) 2))), (.int (own_n ((own_rl rr qc qr) 3)))]))⟩ (by decide) (by decide)
        · refine Goal.to (B := T35.setTop (mkF m 44 #[.val (.ref vt), .val (.int (own_n qc)), .val (.int (own_n qr))] [])) (fun tt kk => ?_) ?_
          · show Steps p.tables e below (T35.setTop (mkF m 37 #[.val (.ref vt), .val (.int (own_n qc)), .val (.int (own_n qr))] [(.int (own_n qc)), (.int (own_n (rr 3)))])) tt
            refine XS.icmpYes X35.here hx rfl (pc0 := 37) (pc' := 44) rfl (hb hby d15_37) rfl (feq hc45).2 (by decide) (by decide) ?_
            exact kk
          have f48 : Keep h0 h35 [vt] := ((Keep.refl h0 [vt]).wr W35 (Or.inl (List.mem_of_getElem? (i := 0) rfl)))
          exact Goal.retN X35 hx Bd.returns (hb hby d15_44) hlk e35 ⟨rfl, N35, f48, (Ary.cast V35 (by simp only [own_rl, if_neg hc2, if_pos hc34, if_neg hc37, if_neg hc45] : ([(.int (own_n (rr 0))), (.int (own_n qr)), (.int (own_n (rr 2))), (.int (own_n (rr 3)))] : List Value) = [(.int (own_n ((own_rl rr qc qr) 0))), (.int (own_n ((own_rl rr qc qr) 1))), (.int (own_n ((own_rl rr qc qr) 2))), (.int (own_n ((own_rl rr qc qr) 3)))]))⟩ (by decide) (by decide)
    · refine Goal.to (B := s₁.setTop (mkF m 24 #[.val (.ref vt), .val (.int (own_n qc)), .val (.int (own_n qr))] [(.int (2 : Int32)), (.ref vt)])) (fun tt kk => ?_) ?_
      · show Steps p.tables e below (s₁.setTop (mkF m 15 #[.val (.ref vt), .val (.int (own_n qc)), .val (.int (own_n qr))] [(.int (own_n qc)), (.int (own_n (rr 1)))])) tt
        refine XS.icmpYes X0.here hx rfl (pc0 := 15) (pc' := 22) rfl (hb hby d15_15) rfl (feq hc34).2 (by decide) (by decide) ?_
        show Steps p.tables e below (s₁.setTop (mkF m 22 #[.val (.ref vt), .val (.int (own_n qc)), .val (.int (own_n qr))] [])) tt
        refine XS.aloadN X0.here hx rfl (hb hby d15_22) rfl rfl ?_
        show Steps p.tables e below (s₁.setTop (mkF m 23 #[.val (.ref vt), .val (.int (own_n qc)), .val (.int (own_n qr))] [(.ref vt)])) tt
        refine XS.iconst X0.here hx rfl (hb hby d15_23) ?_
        exact kk
      obtain ⟨cl49, Ar49, Sl49⟩ := id V_vt
      have hin49 := inA (cl := cl49) Sl49 (j := (2 : Int32)) (by decide) (Nat.le_of_ble_eq_true rfl)
      have hat49 : cl49.slots[((2 : Int32)).toNatClampNeg]? = some (.int (own_n (rr 2))) := atA Sl49 rfl
      refine Goal.to (B := s₁.setTop (mkF m 26 #[.val (.ref vt), .val (.int (own_n qc)), .val (.int (own_n qr))] [(.int (own_n qc)), (.int (own_n (rr 2)))])) (fun tt kk => ?_) ?_
      · show Steps p.tables e below (s₁.setTop (mkF m 24 #[.val (.ref vt), .val (.int (own_n qc)), .val (.int (own_n qr))] [(.int (2 : Int32)), (.ref vt)])) tt
        refine X0.iaload hx (j := (2 : Int32)) (v := (.int (own_n (rr 2)))) (by rw [e0]; exact Ar49.1) (State.isArrayOf_alike hZ.alike Ar49.2.1) Ar49.2.2 hin49 hat49 (g := (mkF m 24 #[.val (.ref vt), .val (.int (own_n qc)), .val (.int (own_n qr))] [(.int (2 : Int32)), (.ref vt)])) rfl rfl (hb hby d15_24) _ ?_
        show Steps p.tables e below (s₁.setTop (mkF m 25 #[.val (.ref vt), .val (.int (own_n qc)), .val (.int (own_n qr))] [(.int (own_n (rr 2)))])) tt
        refine XS.iloadN X0.here hx rfl (hb hby d15_25) rfl ?_
        exact kk
      by_cases hc50 : (own_n (rr 2)) = (own_n qc)
      · refine Goal.to (B := s₁.setTop (mkF m 32 #[.val (.ref vt), .val (.int (own_n qc)), .val (.int (own_n qr))] [(.int (own_n qr)), (.int (2 : Int32)), (.ref vt)])) (fun tt kk => ?_) ?_
        · show Steps p.tables e below (s₁.setTop (mkF m 26 #[.val (.ref vt), .val (.int (own_n qc)), .val (.int (own_n qr))] [(.int (own_n qc)), (.int (own_n (rr 2)))])) tt
          refine XS.icmpNo X0.here hx rfl (hb hby d15_26) rfl (teq hc50).2 ?_
          show Steps p.tables e below (s₁.setTop (mkF m 29 #[.val (.ref vt), .val (.int (own_n qc)), .val (.int (own_n qr))] [])) tt
          refine XS.aloadN X0.here hx rfl (hb hby d15_29) rfl rfl ?_
          show Steps p.tables e below (s₁.setTop (mkF m 30 #[.val (.ref vt), .val (.int (own_n qc)), .val (.int (own_n qr))] [(.ref vt)])) tt
          refine XS.iconst X0.here hx rfl (hb hby d15_30) ?_
          show Steps p.tables e below (s₁.setTop (mkF m 31 #[.val (.ref vt), .val (.int (own_n qc)), .val (.int (own_n qr))] [(.int (2 : Int32)), (.ref vt)])) tt
          refine XS.iloadN X0.here hx rfl (hb hby d15_31) rfl ?_
          exact kk
        obtain ⟨cl51, Ar51, Sl51⟩ := id V_vt
        have hin51 := inA (cl := cl51) Sl51 (j := (2 : Int32)) (by decide) (Nat.le_of_ble_eq_true rfl)
        obtain ⟨T51, h51, X51, e51, W51, st51⟩ := stI X0 hx hZ e0 Ar51 (j := (2 : Int32)) hin51 (g := (mkF m 32 #[.val (.ref vt), .val (.int (own_n qc)), .val (.int (own_n qr))] [(.int (own_n qr)), (.int (2 : Int32)), (.ref vt)])) rfl rfl (hb hby d15_32)
        have V51 : Ary Z h51 vt .int [(.int (own_n (rr 0))), (.int (own_n (rr 1))), (.int (own_n qr)), (.int (own_n (rr 3)))] := Ary.put Ar51 Sl51 W51 rfl
        have N51 := Fr.snoc X51 N0 g_vt
        refine Goal.to (B := T51.setTop (mkF m 33 #[.val (.ref vt), .val (.int (own_n qc)), .val (.int (own_n qr))] [])) st51 ?_
        refine Goal.to (B := T51.setTop (mkF m 35 #[.val (.ref vt), .val (.int (own_n qc)), .val (.int (own_n qr))] [(.int (3 : Int32)), (.ref vt)])) (fun tt kk => ?_) ?_
        · show Steps p.tables e below (T51.setTop (mkF m 33 #[.val (.ref vt), .val (.int (own_n qc)), .val (.int (own_n qr))] [])) tt
          refine XS.aloadN X51.here hx rfl (hb hby d15_33) rfl rfl ?_
          show Steps p.tables e below (T51.setTop (mkF m 34 #[.val (.ref vt), .val (.int (own_n qc)), .val (.int (own_n qr))] [(.ref vt)])) tt
          refine XS.iconst X51.here hx rfl (hb hby d15_34) ?_
          exact kk
        obtain ⟨cl52, Ar52, Sl52⟩ := id V51
        have hin52 := inA (cl := cl52) Sl52 (j := (3 : Int32)) (by decide) (Nat.le_of_ble_eq_true rfl)
        have hat52 : cl52.slots[((3 : Int32)).toNatClampNeg]? = some (.int (own_n (rr 3))) := atA Sl52 rfl
        refine Goal.to (B := T51.setTop (mkF m 37 #[.val (.ref vt), .val (.int (own_n qc)), .val (.int (own_n qr))] [(.int (own_n qc)), (.int (own_n (rr 3)))])) (fun tt kk => ?_) ?_
        · show Steps p.tables e below (T51.setTop (mkF m 35 #[.val (.ref vt), .val (.int (own_n qc)), .val (.int (own_n qr))] [(.int (3 : Int32)), (.ref vt)])) tt
          refine X51.iaload hx (j := (3 : Int32)) (v := (.int (own_n (rr 3)))) (by rw [e51]; exact Ar52.1) (State.isArrayOf_alike hZ.alike Ar52.2.1) Ar52.2.2 hin52 hat52 (g := (mkF m 35 #[.val (.ref vt), .val (.int (own_n qc)), .val (.int (own_n qr))] [(.int (3 : Int32)), (.ref vt)])) rfl rfl (hb hby d15_35) _ ?_
          show Steps p.tables e below (T51.setTop (mkF m 36 #[.val (.ref vt), .val (.int (own_n qc)), .val (.int (own_n qr))] [(.int (own_n (rr 3)))])) tt
          refine XS.iloadN X51.here hx rfl (hb hby d15_36) rfl ?_
          exact kk
        by_cases hc53 : (own_n (rr 3)) = (own_n qc)
        · refine Goal.to (B := T51.setTop (mkF m 43 #[.val (.ref vt), .val (.int (own_n qc)), .val (.int (own_n qr))] [(.int (own_n qr)), (.int (3 : Int32)), (.ref vt)])) (fun tt kk => ?_) ?_
          · show Steps p.tables e below (T51.setTop (mkF m 37 #[.val (.ref vt), .val (.int (own_n qc)), .val (.int (own_n qr))] [(.int (own_n qc)), (.int (own_n (rr 3)))])) tt
            refine XS.icmpNo X51.here hx rfl (hb hby d15_37) rfl (teq hc53).2 ?_
            show Steps p.tables e below (T51.setTop (mkF m 40 #[.val (.ref vt), .val (.int (own_n qc)), .val (.int (own_n qr))] [])) tt
            refine XS.aloadN X51.here hx rfl (hb hby d15_40) rfl rfl ?_
            show Steps p.tables e below (T51.setTop (mkF m 41 #[.val (.ref vt), .val (.int (own_n qc)), .val (.int (own_n qr))] [(.ref vt)])) tt
            refine XS.iconst X51.here hx rfl (hb hby d15_41) ?_
            show Steps p.tables e below (T51.setTop (mkF m 42 #[.val (.ref vt), .val (.int (own_n qc)), .val (.int (own_n qr))] [(.int (3 : Int32)), (.ref vt)])) tt
            refine XS.iloadN X51.here hx rfl (hb hby d15_42) rfl ?_
            exact kk
          obtain ⟨cl54, Ar54, Sl54⟩ := id V51
          have hin54 := inA (cl := cl54) Sl54 (j := (3 : Int32)) (by decide) (Nat.le_of_ble_eq_true rfl)
          obtain ⟨T54, h54, X54, e54, W54, st54⟩ := stI X51 hx hZ e51 Ar54 (j := (3 : Int32)) hin54 (g := (mkF m 43 #[.val (.ref vt), .val (.int (own_n qc)), .val (.int (own_n qr))] [(.int (own_n qr)), (.int (3 : Int32)), (.ref vt)])) rfl rfl (hb hby d15_43)
          have V54 : Ary Z h54 vt .int [(.int (own_n (rr 0))), (.int (own_n (rr 1))), (.int (own_n qr)), (.int (own_n qr))] := Ary.put Ar54 Sl54 W54 rfl
          have N54 := Fr.snoc X54 N51 g_vt
          refine Goal.to (B := T54.setTop (mkF m 44 #[.val (.ref vt), .val (.int (own_n qc)), .val (.int (own_n qr))] [])) st54 ?_
          have f55 : Keep h0 h54 [vt] := (((Keep.refl h0 [vt]).wr W51 (Or.inl (List.mem_of_getElem? (i := 0) rfl))).wr W54 (Or.inl (List.mem_of_getElem? (i := 0) rfl)))
          exact Goal.retN X54 hx Bd.returns (hb hby d15_44) hlk e54 ⟨rfl, N54, f55, (Ary.cast V54 (by simp only [own_rl, if_neg hc2, if_neg hc34, if_pos hc50, if_pos hc53] : ([(.int (own_n (rr 0))), (.int (own_n (rr 1))), (.int (own_n qr)), (.int (own_n qr))] : List Value) = [(.int (own_n ((own_rl rr qc qr) 0))), (.int (own_n ((own_rl rr qc qr) 1))), (.int (own_n ((own_rl rr qc qr) 2))), (.int (own_n ((own_rl rr qc qr) 3)))]))⟩ (by decide) (by decide)
        · refine Goal.to (B := T51.setTop (mkF m 44 #[.val (.ref vt), .val (.int (own_n qc)), .val (.int (own_n qr))] [])) (fun tt kk => ?_) ?_
          · show Steps p.tables e below (T51.setTop (mkF m 37 #[.val (.ref vt), .val (.int (own_n qc)), .val (.int (own_n qr))] [(.int (own_n qc)), (.int (own_n (rr 3)))])) tt
            refine XS.icmpYes X51.here hx rfl (pc0 := 37) (pc' := 44) rfl (hb hby d15_37) rfl (feq hc53).2 (by decide) (by decide) ?_
            exact kk
          have f56 : Keep h0 h51 [vt] := ((Keep.refl h0 [vt]).wr W51 (Or.inl (List.mem_of_getElem? (i := 0) rfl)))
          exact Goal.retN X51 hx Bd.returns (hb hby d15_44) hlk e51 ⟨rfl, N51, f56, (Ary.cast V51 (by simp only [own_rl, if_neg hc2, if_neg hc34, if_pos hc50, if_neg hc53] : ([(.int (own_n (rr 0))), (.int (own_n (rr 1))), (.int (own_n qr)), (.int (own_n (rr 3)))] : List Value) = [(.int (own_n ((own_rl rr qc qr) 0))), (.int (own_n ((own_rl rr qc qr) 1))), (.int (own_n ((own_rl rr qc qr) 2))), (.int (own_n ((own_rl rr qc qr) 3)))]))⟩ (by decide) (by decide)
      · refine Goal.to (B := s₁.setTop (mkF m 35 #[.val (.ref vt), .val (.int (own_n qc)), .val (.int (own_n qr))] [(.int (3 : Int32)), (.ref vt)])) (fun tt kk => ?_) ?_
        · show Steps p.tables e below (s₁.setTop (mkF m 26 #[.val (.ref vt), .val (.int (own_n qc)), .val (.int (own_n qr))] [(.int (own_n qc)), (.int (own_n (rr 2)))])) tt
          refine XS.icmpYes X0.here hx rfl (pc0 := 26) (pc' := 33) rfl (hb hby d15_26) rfl (feq hc50).2 (by decide) (by decide) ?_
          show Steps p.tables e below (s₁.setTop (mkF m 33 #[.val (.ref vt), .val (.int (own_n qc)), .val (.int (own_n qr))] [])) tt
          refine XS.aloadN X0.here hx rfl (hb hby d15_33) rfl rfl ?_
          show Steps p.tables e below (s₁.setTop (mkF m 34 #[.val (.ref vt), .val (.int (own_n qc)), .val (.int (own_n qr))] [(.ref vt)])) tt
          refine XS.iconst X0.here hx rfl (hb hby d15_34) ?_
          exact kk
        obtain ⟨cl57, Ar57, Sl57⟩ := id V_vt
        have hin57 := inA (cl := cl57) Sl57 (j := (3 : Int32)) (by decide) (Nat.le_of_ble_eq_true rfl)
        have hat57 : cl57.slots[((3 : Int32)).toNatClampNeg]? = some (.int (own_n (rr 3))) := atA Sl57 rfl
        refine Goal.to (B := s₁.setTop (mkF m 37 #[.val (.ref vt), .val (.int (own_n qc)), .val (.int (own_n qr))] [(.int (own_n qc)), (.int (own_n (rr 3)))])) (fun tt kk => ?_) ?_
        · show Steps p.tables e below (s₁.setTop (mkF m 35 #[.val (.ref vt), .val (.int (own_n qc)), .val (.int (own_n qr))] [(.int (3 : Int32)), (.ref vt)])) tt
          refine X0.iaload hx (j := (3 : Int32)) (v := (.int (own_n (rr 3)))) (by rw [e0]; exact Ar57.1) (State.isArrayOf_alike hZ.alike Ar57.2.1) Ar57.2.2 hin57 hat57 (g := (mkF m 35 #[.val (.ref vt), .val (.int (own_n qc)), .val (.int (own_n qr))] [(.int (3 : Int32)), (.ref vt)])) rfl rfl (hb hby d15_35) _ ?_
          show Steps p.tables e below (s₁.setTop (mkF m 36 #[.val (.ref vt), .val (.int (own_n qc)), .val (.int (own_n qr))] [(.int (own_n (rr 3)))])) tt
          refine XS.iloadN X0.here hx rfl (hb hby d15_36) rfl ?_
          exact kk
        by_cases hc58 : (own_n (rr 3)) = (own_n qc)
        · refine Goal.to (B := s₁.setTop (mkF m 43 #[.val (.ref vt), .val (.int (own_n qc)), .val (.int (own_n qr))] [(.int (own_n qr)), (.int (3 : Int32)), (.ref vt)])) (fun tt kk => ?_) ?_
          · show Steps p.tables e below (s₁.setTop (mkF m 37 #[.val (.ref vt), .val (.int (own_n qc)), .val (.int (own_n qr))] [(.int (own_n qc)), (.int (own_n (rr 3)))])) tt
            refine XS.icmpNo X0.here hx rfl (hb hby d15_37) rfl (teq hc58).2 ?_
            show Steps p.tables e below (s₁.setTop (mkF m 40 #[.val (.ref vt), .val (.int (own_n qc)), .val (.int (own_n qr))] [])) tt
            refine XS.aloadN X0.here hx rfl (hb hby d15_40) rfl rfl ?_
            show Steps p.tables e below (s₁.setTop (mkF m 41 #[.val (.ref vt), .val (.int (own_n qc)), .val (.int (own_n qr))] [(.ref vt)])) tt
            refine XS.iconst X0.here hx rfl (hb hby d15_41) ?_
            show Steps p.tables e below (s₁.setTop (mkF m 42 #[.val (.ref vt), .val (.int (own_n qc)), .val (.int (own_n qr))] [(.int (3 : Int32)), (.ref vt)])) tt
            refine XS.iloadN X0.here hx rfl (hb hby d15_42) rfl ?_
            exact kk
          obtain ⟨cl59, Ar59, Sl59⟩ := id V_vt
          have hin59 := inA (cl := cl59) Sl59 (j := (3 : Int32)) (by decide) (Nat.le_of_ble_eq_true rfl)
          obtain ⟨T59, h59, X59, e59, W59, st59⟩ := stI X0 hx hZ e0 Ar59 (j := (3 : Int32)) hin59 (g := (mkF m 43 #[.val (.ref vt), .val (.int (own_n qc)), .val (.int (own_n qr))] [(.int (own_n qr)), (.int (3 : Int32)), (.ref vt)])) rfl rfl (hb hby d15_43)
          have V59 : Ary Z h59 vt .int [(.int (own_n (rr 0))), (.int (own_n (rr 1))), (.int (own_n (rr 2))), (.int (own_n qr))] := Ary.put Ar59 Sl59 W59 rfl
          have N59 := Fr.snoc X59 N0 g_vt
          refine Goal.to (B := T59.setTop (mkF m 44 #[.val (.ref vt), .val (.int (own_n qc)), .val (.int (own_n qr))] [])) st59 ?_
          have f60 : Keep h0 h59 [vt] := ((Keep.refl h0 [vt]).wr W59 (Or.inl (List.mem_of_getElem? (i := 0) rfl)))
          exact Goal.retN X59 hx Bd.returns (hb hby d15_44) hlk e59 ⟨rfl, N59, f60, (Ary.cast V59 (by simp only [own_rl, if_neg hc2, if_neg hc34, if_neg hc50, if_pos hc58] : ([(.int (own_n (rr 0))), (.int (own_n (rr 1))), (.int (own_n (rr 2))), (.int (own_n qr))] : List Value) = [(.int (own_n ((own_rl rr qc qr) 0))), (.int (own_n ((own_rl rr qc qr) 1))), (.int (own_n ((own_rl rr qc qr) 2))), (.int (own_n ((own_rl rr qc qr) 3)))]))⟩ (by decide) (by decide)
        · refine Goal.to (B := s₁.setTop (mkF m 44 #[.val (.ref vt), .val (.int (own_n qc)), .val (.int (own_n qr))] [])) (fun tt kk => ?_) ?_
          · show Steps p.tables e below (s₁.setTop (mkF m 37 #[.val (.ref vt), .val (.int (own_n qc)), .val (.int (own_n qr))] [(.int (own_n qc)), (.int (own_n (rr 3)))])) tt
            refine XS.icmpYes X0.here hx rfl (pc0 := 37) (pc' := 44) rfl (hb hby d15_37) rfl (feq hc58).2 (by decide) (by decide) ?_
            exact kk
          exact Goal.retN X0 hx Bd.returns (hb hby d15_44) hlk e0 ⟨rfl, N0, (Keep.refl h0 [vt]), (Ary.cast V_vt (by simp only [own_rl, if_neg hc2, if_neg hc34, if_neg hc50, if_neg hc58] : ([(.int (own_n (rr 0))), (.int (own_n (rr 1))), (.int (own_n (rr 2))), (.int (own_n (rr 3)))] : List Value) = [(.int (own_n ((own_rl rr qc qr) 0))), (.int (own_n ((own_rl rr qc qr) 1))), (.int (own_n ((own_rl rr qc qr) 2))), (.int (own_n ((own_rl rr qc qr) 3)))]))⟩ (by decide) (by decide)
theorem ef_6 (m : MethodId) (x0 : Addr) (x1 : Addr) (x2 : Int32)  : entryFrame m #[(.ref x0), (.ref x1), (.int x2)] 7 = mkF m 0 #[.val (.ref x0), .val (.ref x1), .val (.int x2), .unset, .unset, .unset, .unset] [] := by first | (simp [entryFrame, mkF, argsToLocals, Value.category]; done) | rfl
theorem pn_6 : plainName "com/example/deferra/deferra/engine/IdentitiesFindPinLaw" = true := by first | (simp [plainName, overriddenIn]; done) | decide +kernel
theorem d6_0 : decode method_3_code 0 = .ok (.aload_n 1, 1) := by decide +kernel
theorem d6_1 : decode method_3_code 1 = .ok (.iload_n 2, 1) := by decide +kernel
theorem d6_2 : decode method_3_code 2 = .ok (.iconst 3, 1) := by decide +kernel
theorem d6_3 : decode method_3_code 3 = .ok (.iand, 1) := by decide +kernel
theorem d6_4 : decode method_3_code 4 = .ok (.iaload, 1) := by decide +kernel
theorem d6_5 : decode method_3_code 5 = .ok (.istore_n 3, 1) := by decide +kernel
theorem d6_6 : decode method_3_code 6 = .ok (.aload_n 1, 1) := by decide +kernel
theorem d6_7 : decode method_3_code 7 = .ok (.iload_n 2, 1) := by decide +kernel
theorem d6_8 : decode method_3_code 8 = .ok (.iconst 2, 1) := by decide +kernel
theorem d6_9 : decode method_3_code 9 = .ok (.iushr, 1) := by decide +kernel
theorem d6_10 : decode method_3_code 10 = .ok (.iconst 3, 1) := by decide +kernel
theorem d6_11 : decode method_3_code 11 = .ok (.iand, 1) := by decide +kernel
theorem d6_12 : decode method_3_code 12 = .ok (.iaload, 1) := by decide +kernel
theorem d6_13 : decode method_3_code 13 = .ok (.istore 4, 2) := by decide +kernel
theorem d6_15 : decode method_3_code 15 = .ok (.iload_n 3, 1) := by decide +kernel
theorem d6_16 : decode method_3_code 16 = .ok (.iload 4, 2) := by decide +kernel
theorem d6_18 : decode method_3_code 18 = .ok (.if_icmp .eq 46, 3) := by decide +kernel
theorem d6_64 : decode method_3_code 64 = .ok (.return_, 1) := by decide +kernel
theorem d6_21 : decode method_3_code 21 = .ok (.aload_n 0, 1) := by decide +kernel
theorem d6_22 : decode method_3_code 22 = .ok (.iload_n 3, 1) := by decide +kernel
theorem d6_23 : decode method_3_code 23 = .ok (.iload 4, 2) := by decide +kernel
theorem d6_25 : decode method_3_code 25 = .ok (.iconst 1, 1) := by decide +kernel
theorem pd_5 : parseMethodDescriptor "(IIZ)V" = some ⟨[.int, .int, .boolean], none⟩ := by decide +kernel
theorem d6_26 : decode method_3_code 26 = .ok (.invokevirtual 7, 3) := by decide +kernel
theorem d6_29 : decode method_3_code 29 = .ok (.iload 4, 2) := by decide +kernel
theorem d6_31 : decode method_3_code 31 = .ok (.ifCond .ne 8, 3) := by decide +kernel
theorem d6_34 : decode method_3_code 34 = .ok (.iload 4, 2) := by decide +kernel
theorem d6_36 : decode method_3_code 36 = .ok (.goto 4, 3) := by decide +kernel
theorem d6_40 : decode method_3_code 40 = .ok (.istore 5, 2) := by decide +kernel
theorem d6_42 : decode method_3_code 42 = .ok (.iload 5, 2) := by decide +kernel
theorem d6_44 : decode method_3_code 44 = .ok (.iload_n 3, 1) := by decide +kernel
theorem d6_45 : decode method_3_code 45 = .ok (.if_icmp .ne 8, 3) := by decide +kernel
theorem d6_53 : decode method_3_code 53 = .ok (.iload_n 3, 1) := by decide +kernel
theorem d6_54 : decode method_3_code 54 = .ok (.istore 6, 2) := by decide +kernel
theorem d6_56 : decode method_3_code 56 = .ok (.aload_n 1, 1) := by decide +kernel
theorem d6_57 : decode method_3_code 57 = .ok (.iload 6, 2) := by decide +kernel
theorem d6_59 : decode method_3_code 59 = .ok (.iload 5, 2) := by decide +kernel
theorem pd_10 : parseMethodDescriptor "([III)V" = some ⟨[(.array .int), .int, .int], none⟩ := by decide +kernel
theorem d6_61 : decode method_3_code 61 = .ok (.invokestatic 13, 3) := by decide +kernel
theorem d6_39 : decode method_3_code 39 = .ok (.iload_n 3, 1) := by decide +kernel
theorem d6_48 : decode method_3_code 48 = .ok (.iload 4, 2) := by decide +kernel
theorem d6_50 : decode method_3_code 50 = .ok (.goto 4, 3) := by decide +kernel
def Qst (Z : State) (va : Addr) (vi : Addr) (vr : Addr) (pp : Fin 4 → Fin 4) (hd : Int32) (ra : Int64) (rb : Int64) (uo : Int32) (vt : Addr) (rr : Fin 4 → Fin 4) (u2 : Int32) (asm : Addr) (h0 : Heap) (n0 : Nat) (v : Option Value) (h : Heap) (L : List Loc) : Prop := ∃ np : Fin 4 → Fin 4, ∃ nr : Fin 4 → Fin 4, ∃ na : Int64, ∃ nh : Int32, ∃ no : Int32, v = none ∧ Fr n0 L ∧ Keep h0 h [va, vi, vr, vt] ∧ Fld Z h va "com/example/deferra/deferra/engine/Identities" "words" "I" (.int (1 : Int32)) ∧ Fld Z h va "com/example/deferra/deferra/engine/Identities" "ints" "[I" (.ref vi) ∧ Fld Z h va "com/example/deferra/deferra/engine/Identities" "numberAt" "I" (.int (16 : Int32)) ∧ Fld Z h va "com/example/deferra/deferra/engine/Identities" "colourAt" "I" (.int (32 : Int32)) ∧ Fld Z h va "com/example/deferra/deferra/engine/Identities" "holdersAt" "I" (.int (64 : Int32)) ∧ Fld Z h va "com/example/deferra/deferra/engine/Identities" "rows" "[J" (.ref vr) ∧ Fld Z h va "com/example/deferra/deferra/engine/Identities" "openCount" "I" (.int no) ∧ Ary Z h vi .int (own_I np nh) ∧ Ary Z h vr .long (own_R na rb) ∧ Ary Z h vt .int [(.int (own_n (nr 0))), (.int (own_n (nr 1))), (.int (own_n (nr 2))), (.int (own_n (nr 3)))] ∧ own_Inv np nr
set_option maxRecDepth 65536 in
set_option maxHeartbeats 40000000 in
theorem rmst (l : Launch) (Z : State) (a0 : Array Value) (hw : ∀ d ∈ tables_1, d.before a0 Z = true) (ws : List Jvm.Cond) (va : Addr) (vi : Addr) (vr : Addr) (pp : Fin 4 → Fin 4) (hd : Int32) (ra : Int64) (rb : Int64) (uo : Int32) (vt : Addr) (rr : Fin 4 → Fin 4) (u2 : Int32) (asm : Addr) (h0 : Heap) (n0 : Nat) (Z0 : n0 ≤ h0.size) (S_SAME : StaN Z n0 h0 "com/example/deferra/deferra/engine/Identities$Relation" "SAME" "Lcom/example/deferra/deferra/engine/Identities$Relation;" (.ref asm)) (E_va : Exa Z h0 va "com/example/deferra/deferra/engine/Identities") (F_words_va : Fld Z h0 va "com/example/deferra/deferra/engine/Identities" "words" "I" (.int (1 : Int32))) (F_ints_va : Fld Z h0 va "com/example/deferra/deferra/engine/Identities" "ints" "[I" (.ref vi)) (F_numberAt_va : Fld Z h0 va "com/example/deferra/deferra/engine/Identities" "numberAt" "I" (.int (16 : Int32))) (F_colourAt_va : Fld Z h0 va "com/example/deferra/deferra/engine/Identities" "colourAt" "I" (.int (32 : Int32))) (F_holdersAt_va : Fld Z h0 va "com/example/deferra/deferra/engine/Identities" "holdersAt" "I" (.int (64 : Int32))) (F_rows_va : Fld Z h0 va "com/example/deferra/deferra/engine/Identities" "rows" "[J" (.ref vr)) (F_openCount_va : Fld Z h0 va "com/example/deferra/deferra/engine/Identities" "openCount" "I" (.int uo)) (V_vi : Ary Z h0 vi .int (own_I pp hd)) (V_vr : Ary Z h0 vr .long (own_R ra rb)) (V_vt : Ary Z h0 vt .int [(.int (own_n (rr 0))), (.int (own_n (rr 1))), (.int (own_n (rr 2))), (.int (own_n (rr 3)))]) (g_va : n0 ≤ va) (g_vi : n0 ≤ vi) (g_vr : n0 ≤ vr) (g_vt : n0 ≤ vt) (ne_va_vi : va ≠ vi) (ne_va_vr : va ≠ vr) (ne_vi_vr : vi ≠ vr) (ne_va_vt : va ≠ vt) (ne_vi_vt : vi ≠ vt) (ne_vr_vt : vr ≠ vt) (hI : own_Inv pp rr) :
    MetFree l (⟨"com/example/deferra/deferra/engine/IdentitiesFindPinLaw", "step", "(Lcom/example/deferra/deferra/engine/Identities;[II)V"⟩ : MethodName) (head1 (Jvm.Cond.code (⟨"com/example/deferra/deferra/engine/IdentitiesFindPinLaw", "step", "(Lcom/example/deferra/deferra/engine/Identities;[II)V"⟩ : MethodName) method_3_code 7 none :: ws) ({ frames := 4, cells := 0, slots := 0, locals := 64 } : Room)) (fun a U => a = #[(.ref va), (.ref vt), (.int u2)] ∧ Z.Warmed39 U.vm ∧ U.heap = h0) (fun _ _ _ _ _ => True) (fun _ U o U' => ∃ v L, o = .returned v ∧ Qst Z va vi vr pp hd ra rb uo vt rr u2 asm h0 n0 v U'.heap L ∧ FrameEnd U o U' L 0 0) := by
  refine MetFree.of_bodySF (plainFor_of_name pn_6) hisR ?_
  intro p e s m args below meth c s₁ Bd hml0 hP hK
  obtain ⟨rfl, hZ, hh⟩ := hP
  have hx := Bd.exec
  have hby := Bd.bytes
  have hml : c.maxLocals = 7 := hml0
  have hown : s.vm.findClass "com/example/deferra/deferra/engine/IdentitiesFindPinLaw" = some m.cls := findClass_of_methodNamed Bd.named
  have hnm := (name_of_methodNamed Bd.named Bd.method).1
  have X0 : Stand p l e ({ frames := 4, cells := 0, slots := 0, locals := 64 } : Room) s m #[(.ref va), (.ref vt), (.int u2)] below meth c s₁ [] 0 0 := Stand.of_body Bd
  have e0 : s₁.heap = h0 := by rw [← hh, Bd.state]; rfl
  have N0 := Fr.nil n0
  have hlk : meth.locks = false := BodyLoose.notSynchronized Bd
  show Goal p e below s (Qst Z va vi vr pp hd ra rb uo vt rr u2 asm h0 n0) 0 0 (s₁.setTop (entryFrame m #[(.ref va), (.ref vt), (.int u2)] 7))
  refine Goal.to (B := s₁.setTop (mkF m 0 #[.val (.ref va), .val (.ref vt), .val (.int u2), .unset, .unset, .unset, .unset] [])) (fun tt kk => castTop (ef_6 m va vt u2 ) kk) ?_
  refine Goal.to (B := s₁.setTop (mkF m 4 #[.val (.ref va), .val (.ref vt), .val (.int u2), .unset, .unset, .unset, .unset] [(.int (u2 &&& (3 : Int32))), (.ref vt)])) (fun tt kk => ?_) ?_
  · show Steps p.tables e below (s₁.setTop (mkF m 0 #[.val (.ref va), .val (.ref vt), .val (.int u2), .unset, .unset, .unset, .unset] [])) tt
    refine XS.aloadN X0.here hx rfl (hb hby d6_0) rfl rfl ?_
    show Steps p.tables e below (s₁.setTop (mkF m 1 #[.val (.ref va), .val (.ref vt), .val (.int u2), .unset, .unset, .unset, .unset] [(.ref vt)])) tt
    refine XS.iloadN X0.here hx rfl (hb hby d6_1) rfl ?_
    show Steps p.tables e below (s₁.setTop (mkF m 2 #[.val (.ref va), .val (.ref vt), .val (.int u2), .unset, .unset, .unset, .unset] [(.int u2), (.ref vt)])) tt
    refine XS.iconst X0.here hx rfl (hb hby d6_2) ?_
    show Steps p.tables e below (s₁.setTop (mkF m 3 #[.val (.ref va), .val (.ref vt), .val (.int u2), .unset, .unset, .unset, .unset] [(.int (3 : Int32)), (.int u2), (.ref vt)])) tt
    refine XS.iand X0.here hx rfl (hb hby d6_3) rfl ?_
    exact kk
  obtain ⟨ia, hia⟩ := own_and u2
  rw [hia]
  obtain ⟨cl1, Ar1, Sl1⟩ := id V_vt
  have hin1 := inA (cl := cl1) Sl1 (j := (own_n ia)) (own_ix ia).1 (by rw [(own_ix ia).2]; exact own_lt ia)
  have hat1 : cl1.slots[((own_n ia)).toNatClampNeg]? = some (.int (own_n (rr ia))) := atA Sl1 (by rw [(own_ix ia).2]; exact own_getP rr ia)
  refine Goal.to (B := s₁.setTop (mkF m 12 #[.val (.ref va), .val (.ref vt), .val (.int u2), .val (.int (own_n (rr ia))), .unset, .unset, .unset] [(.int (((u2.toUInt32 >>> ((2 : Int32) &&& 31).toUInt32).toInt32) &&& (3 : Int32))), (.ref vt)])) (fun tt kk => ?_) ?_
  · show Steps p.tables e below (s₁.setTop (mkF m 4 #[.val (.ref va), .val (.ref vt), .val (.int u2), .unset, .unset, .unset, .unset] [(.int (own_n ia)), (.ref vt)])) tt
    refine X0.iaload hx (j := (own_n ia)) (v := (.int (own_n (rr ia)))) (by rw [e0]; exact Ar1.1) (State.isArrayOf_alike hZ.alike Ar1.2.1) Ar1.2.2 hin1 hat1 (g := (mkF m 4 #[.val (.ref va), .val (.ref vt), .val (.int u2), .unset, .unset, .unset, .unset] [(.int (own_n ia)), (.ref vt)])) rfl rfl (hb hby d6_4) _ ?_
    show Steps p.tables e below (s₁.setTop (mkF m 5 #[.val (.ref va), .val (.ref vt), .val (.int u2), .unset, .unset, .unset, .unset] [(.int (own_n (rr ia)))])) tt
    refine XS.istoreN X0.here hx rfl (hb hby d6_5) rfl (l' := #[.val (.ref va), .val (.ref vt), .val (.int u2), .val (.int (own_n (rr ia))), .unset, .unset, .unset]) rfl ?_
    show Steps p.tables e below (s₁.setTop (mkF m 6 #[.val (.ref va), .val (.ref vt), .val (.int u2), .val (.int (own_n (rr ia))), .unset, .unset, .unset] [])) tt
    refine XS.aloadN X0.here hx rfl (hb hby d6_6) rfl rfl ?_
    show Steps p.tables e below (s₁.setTop (mkF m 7 #[.val (.ref va), .val (.ref vt), .val (.int u2), .val (.int (own_n (rr ia))), .unset, .unset, .unset] [(.ref vt)])) tt
    refine XS.iloadN X0.here hx rfl (hb hby d6_7) rfl ?_
    show Steps p.tables e below (s₁.setTop (mkF m 8 #[.val (.ref va), .val (.ref vt), .val (.int u2), .val (.int (own_n (rr ia))), .unset, .unset, .unset] [(.int u2), (.ref vt)])) tt
    refine XS.iconst X0.here hx rfl (hb hby d6_8) ?_
    show Steps p.tables e below (s₁.setTop (mkF m 9 #[.val (.ref va), .val (.ref vt), .val (.int u2), .val (.int (own_n (rr ia))), .unset, .unset, .unset] [(.int (2 : Int32)), (.int u2), (.ref vt)])) tt
    refine XS.iushr X0.here hx rfl (hb hby d6_9) rfl ?_
    show Steps p.tables e below (s₁.setTop (mkF m 10 #[.val (.ref va), .val (.ref vt), .val (.int u2), .val (.int (own_n (rr ia))), .unset, .unset, .unset] [(.int ((u2.toUInt32 >>> ((2 : Int32) &&& 31).toUInt32).toInt32)), (.ref vt)])) tt
    refine XS.iconst X0.here hx rfl (hb hby d6_10) ?_
    show Steps p.tables e below (s₁.setTop (mkF m 11 #[.val (.ref va), .val (.ref vt), .val (.int u2), .val (.int (own_n (rr ia))), .unset, .unset, .unset] [(.int (3 : Int32)), (.int ((u2.toUInt32 >>> ((2 : Int32) &&& 31).toUInt32).toInt32)), (.ref vt)])) tt
    refine XS.iand X0.here hx rfl (hb hby d6_11) rfl ?_
    exact kk
  obtain ⟨ib, hib⟩ := own_and ((u2.toUInt32 >>> ((2 : Int32) &&& 31).toUInt32).toInt32)
  rw [hib]
  obtain ⟨cl2, Ar2, Sl2⟩ := id V_vt
  have hin2 := inA (cl := cl2) Sl2 (j := (own_n ib)) (own_ix ib).1 (by rw [(own_ix ib).2]; exact own_lt ib)
  have hat2 : cl2.slots[((own_n ib)).toNatClampNeg]? = some (.int (own_n (rr ib))) := atA Sl2 (by rw [(own_ix ib).2]; exact own_getP rr ib)
  refine Goal.to (B := s₁.setTop (mkF m 18 #[.val (.ref va), .val (.ref vt), .val (.int u2), .val (.int (own_n (rr ia))), .val (.int (own_n (rr ib))), .unset, .unset] [(.int (own_n (rr ib))), (.int (own_n (rr ia)))])) (fun tt kk => ?_) ?_
  · show Steps p.tables e below (s₁.setTop (mkF m 12 #[.val (.ref va), .val (.ref vt), .val (.int u2), .val (.int (own_n (rr ia))), .unset, .unset, .unset] [(.int (own_n ib)), (.ref vt)])) tt
    refine X0.iaload hx (j := (own_n ib)) (v := (.int (own_n (rr ib)))) (by rw [e0]; exact Ar2.1) (State.isArrayOf_alike hZ.alike Ar2.2.1) Ar2.2.2 hin2 hat2 (g := (mkF m 12 #[.val (.ref va), .val (.ref vt), .val (.int u2), .val (.int (own_n (rr ia))), .unset, .unset, .unset] [(.int (own_n ib)), (.ref vt)])) rfl rfl (hb hby d6_12) _ ?_
    show Steps p.tables e below (s₁.setTop (mkF m 13 #[.val (.ref va), .val (.ref vt), .val (.int u2), .val (.int (own_n (rr ia))), .unset, .unset, .unset] [(.int (own_n (rr ib)))])) tt
    refine XS.istore X0.here hx rfl (hb hby d6_13) rfl (l' := #[.val (.ref va), .val (.ref vt), .val (.int u2), .val (.int (own_n (rr ia))), .val (.int (own_n (rr ib))), .unset, .unset]) rfl ?_
    show Steps p.tables e below (s₁.setTop (mkF m 15 #[.val (.ref va), .val (.ref vt), .val (.int u2), .val (.int (own_n (rr ia))), .val (.int (own_n (rr ib))), .unset, .unset] [])) tt
    refine XS.iloadN X0.here hx rfl (hb hby d6_15) rfl ?_
    show Steps p.tables e below (s₁.setTop (mkF m 16 #[.val (.ref va), .val (.ref vt), .val (.int u2), .val (.int (own_n (rr ia))), .val (.int (own_n (rr ib))), .unset, .unset] [(.int (own_n (rr ia)))])) tt
    refine XS.iload X0.here hx rfl (hb hby d6_16) rfl ?_
    exact kk
  by_cases hse : (own_n (rr ia)) = (own_n (rr ib))
  · refine Goal.to (B := s₁.setTop (mkF m 64 #[.val (.ref va), .val (.ref vt), .val (.int u2), .val (.int (own_n (rr ia))), .val (.int (own_n (rr ib))), .unset, .unset] [])) (fun tt kk => ?_) ?_
    · show Steps p.tables e below (s₁.setTop (mkF m 18 #[.val (.ref va), .val (.ref vt), .val (.int u2), .val (.int (own_n (rr ia))), .val (.int (own_n (rr ib))), .unset, .unset] [(.int (own_n (rr ib))), (.int (own_n (rr ia)))])) tt
      refine XS.icmpYes X0.here hx rfl (pc0 := 18) (pc' := 64) rfl (hb hby d6_18) rfl (teq hse).1 (by decide) (by decide) ?_
      exact kk
    exact Goal.retN X0 hx Bd.returns (hb hby d6_64) hlk e0 ⟨pp, rr, ra, hd, uo, rfl, N0, (Keep.refl h0 [va, vi, vr, vt]), F_words_va, F_ints_va, F_numberAt_va, F_colourAt_va, F_holdersAt_va, F_rows_va, F_openCount_va, V_vi, V_vr, V_vt, hI⟩ (by decide) (by decide)
  · refine Goal.to (B := s₁.setTop (mkF m 26 #[.val (.ref va), .val (.ref vt), .val (.int u2), .val (.int (own_n (rr ia))), .val (.int (own_n (rr ib))), .unset, .unset] [(.int (1 : Int32)), (.int (own_n (rr ib))), (.int (own_n (rr ia))), (.ref va)])) (fun tt kk => ?_) ?_
    · show Steps p.tables e below (s₁.setTop (mkF m 18 #[.val (.ref va), .val (.ref vt), .val (.int u2), .val (.int (own_n (rr ia))), .val (.int (own_n (rr ib))), .unset, .unset] [(.int (own_n (rr ib))), (.int (own_n (rr ia)))])) tt
      refine XS.icmpNo X0.here hx rfl (hb hby d6_18) rfl (feq hse).1 ?_
      show Steps p.tables e below (s₁.setTop (mkF m 21 #[.val (.ref va), .val (.ref vt), .val (.int u2), .val (.int (own_n (rr ia))), .val (.int (own_n (rr ib))), .unset, .unset] [])) tt
      refine XS.aloadN X0.here hx rfl (hb hby d6_21) rfl rfl ?_
      show Steps p.tables e below (s₁.setTop (mkF m 22 #[.val (.ref va), .val (.ref vt), .val (.int u2), .val (.int (own_n (rr ia))), .val (.int (own_n (rr ib))), .unset, .unset] [(.ref va)])) tt
      refine XS.iloadN X0.here hx rfl (hb hby d6_22) rfl ?_
      show Steps p.tables e below (s₁.setTop (mkF m 23 #[.val (.ref va), .val (.ref vt), .val (.int u2), .val (.int (own_n (rr ia))), .val (.int (own_n (rr ib))), .unset, .unset] [(.int (own_n (rr ia))), (.ref va)])) tt
      refine XS.iload X0.here hx rfl (hb hby d6_23) rfl ?_
      show Steps p.tables e below (s₁.setTop (mkF m 25 #[.val (.ref va), .val (.ref vt), .val (.int u2), .val (.int (own_n (rr ia))), .val (.int (own_n (rr ib))), .unset, .unset] [(.int (own_n (rr ib))), (.int (own_n (rr ia))), (.ref va)])) tt
      refine XS.iconst X0.here hx rfl (hb hby d6_25) ?_
      exact kk
    obtain ⟨cq3, kq3, q3a, q3b, q3c⟩ := isOf hZ e0 E_va
    obtain ⟨_, _, ⟨T3, L3, k3, n3⟩, -, X3, ⟨Lc3, hQ3, l3, y3, z3⟩, st3⟩ := X0.virtualBack hx (y := (⟨"com/example/deferra/deferra/engine/Identities", "decide", "(IIZ)V"⟩ : MethodName)) (z := (⟨"com/example/deferra/deferra/engine/Identities", "decide", "(IIZ)V"⟩ : MethodName)) hown (mvT hZ (hw _ (mw 52 rfl))) (mvT hZ (hw _ (mw 53 rfl))) (notFace_of_selects (args := #[]) (mvT hZ (hw _ (mw 55 rfl)))) (mvT hZ (hw _ (mw 55 rfl))) (mvT hZ (hw _ (mw 54 rfl))) (by decide) (backOf (W := 0) (rmde l Z a0 hw [] va vi vr pp hd ra rb uo (rr ia) (rr ib) asm h0 n0 Z0 S_SAME E_va F_words_va F_ints_va F_numberAt_va F_colourAt_va F_holdersAt_va F_rows_va F_openCount_va V_vi V_vr g_va g_vi g_vr ne_va_vi ne_va_vr ne_vi_vr (fun e => hse (congrArg own_n e))) hZ (hw _ (mw 56 rfl)) (hw _ (mw 2 rfl)) (by decide) (by decide)) q3a q3c (g := (mkF m 26 #[.val (.ref va), .val (.ref vt), .val (.int u2), .val (.int (own_n (rr ia))), .val (.int (own_n (rr ib))), .unset, .unset] [(.int (1 : Int32)), (.int (own_n (rr ib))), (.int (own_n (rr ia))), (.ref va)])) rfl (by rw [hml]; rfl) (Steps.refl _) (argsL := [(.int (own_n (rr ia))), (.int (own_n (rr ib))), (.int (1 : Int32))]) (rest := []) (lenOf pd_5 rfl) rfl (by show 2 * 0 + _ ≤ _; exact Nat.le_of_eq rfl) (hb hby d6_26) (fun _ _ => ⟨rfl, e0, (by decide : 0 + 0 ≤ _), (by decide : 0 + 0 ≤ _)⟩)
    dsimp only [Pt.U, Pt.locs, Pt.cells, Pt.slots] at X3 l3 y3 z3 st3 hQ3
    subst l3 y3 z3
    obtain ⟨na_3, nh_3, no_3, rfl, N3q, K3, P3_0, P3_1, P3_2, P3_3, P3_4, P3_5, P3_6, P3_7, P3_8⟩ := hQ3
    have N3 := Fr.app N0 N3q
    refine Goal.tr (B := T3.setTop (mkF m 29 #[.val (.ref va), .val (.ref vt), .val (.int u2), .val (.int (own_n (rr ia))), .val (.int (own_n (rr ib))), .unset, .unset] [])) st3 ?_
    by_cases hz : rr ib = 0
    · refine Goal.to (B := T3.setTop (mkF m 61 #[.val (.ref va), .val (.ref vt), .val (.int u2), .val (.int (own_n (rr ia))), .val (.int (own_n (rr ib))), .val (.int (own_n (rr ib))), .val (.int (own_n (rr ia)))] [(.int (own_n (rr ib))), (.int (own_n (rr ia))), (.ref vt)])) (fun tt kk => ?_) ?_
      · show Steps p.tables e below (T3.setTop (mkF m 29 #[.val (.ref va), .val (.ref vt), .val (.int u2), .val (.int (own_n (rr ia))), .val (.int (own_n (rr ib))), .unset, .unset] [])) tt
        refine XS.iload X3.here hx rfl (hb hby d6_29) rfl ?_
        show Steps p.tables e below (T3.setTop (mkF m 31 #[.val (.ref va), .val (.ref vt), .val (.int u2), .val (.int (own_n (rr ia))), .val (.int (own_n (rr ib))), .unset, .unset] [(.int (own_n (rr ib)))])) tt
        refine XS.ifNo X3.here hx rfl (hb hby d6_31) rfl ((if0 _ _).trans (teq (by rw [hz]; rfl : (own_n (rr ib)) = (0 : Int32))).2) ?_
        show Steps p.tables e below (T3.setTop (mkF m 34 #[.val (.ref va), .val (.ref vt), .val (.int u2), .val (.int (own_n (rr ia))), .val (.int (own_n (rr ib))), .unset, .unset] [])) tt
        refine XS.iload X3.here hx rfl (hb hby d6_34) rfl ?_
        show Steps p.tables e below (T3.setTop (mkF m 36 #[.val (.ref va), .val (.ref vt), .val (.int u2), .val (.int (own_n (rr ia))), .val (.int (own_n (rr ib))), .unset, .unset] [(.int (own_n (rr ib)))])) tt
        refine XS.goto X3.here hx rfl (pc0 := 36) (pc' := 40) rfl (hb hby d6_36) (by decide) (by decide) ?_
        show Steps p.tables e below (T3.setTop (mkF m 40 #[.val (.ref va), .val (.ref vt), .val (.int u2), .val (.int (own_n (rr ia))), .val (.int (own_n (rr ib))), .unset, .unset] [(.int (own_n (rr ib)))])) tt
        refine XS.istore X3.here hx rfl (hb hby d6_40) rfl (l' := #[.val (.ref va), .val (.ref vt), .val (.int u2), .val (.int (own_n (rr ia))), .val (.int (own_n (rr ib))), .val (.int (own_n (rr ib))), .unset]) rfl ?_
        show Steps p.tables e below (T3.setTop (mkF m 42 #[.val (.ref va), .val (.ref vt), .val (.int u2), .val (.int (own_n (rr ia))), .val (.int (own_n (rr ib))), .val (.int (own_n (rr ib))), .unset] [])) tt
        refine XS.iload X3.here hx rfl (hb hby d6_42) rfl ?_
        show Steps p.tables e below (T3.setTop (mkF m 44 #[.val (.ref va), .val (.ref vt), .val (.int u2), .val (.int (own_n (rr ia))), .val (.int (own_n (rr ib))), .val (.int (own_n (rr ib))), .unset] [(.int (own_n (rr ib)))])) tt
        refine XS.iloadN X3.here hx rfl (hb hby d6_44) rfl ?_
        show Steps p.tables e below (T3.setTop (mkF m 45 #[.val (.ref va), .val (.ref vt), .val (.int u2), .val (.int (own_n (rr ia))), .val (.int (own_n (rr ib))), .val (.int (own_n (rr ib))), .unset] [(.int (own_n (rr ia))), (.int (own_n (rr ib)))])) tt
        refine XS.icmpYes X3.here hx rfl (pc0 := 45) (pc' := 53) rfl (hb hby d6_45) rfl (feq (fun e => hse e.symm : ¬ ((own_n (rr ib)) = (own_n (rr ia))))).2 (by decide) (by decide) ?_
        show Steps p.tables e below (T3.setTop (mkF m 53 #[.val (.ref va), .val (.ref vt), .val (.int u2), .val (.int (own_n (rr ia))), .val (.int (own_n (rr ib))), .val (.int (own_n (rr ib))), .unset] [])) tt
        refine XS.iloadN X3.here hx rfl (hb hby d6_53) rfl ?_
        show Steps p.tables e below (T3.setTop (mkF m 54 #[.val (.ref va), .val (.ref vt), .val (.int u2), .val (.int (own_n (rr ia))), .val (.int (own_n (rr ib))), .val (.int (own_n (rr ib))), .unset] [(.int (own_n (rr ia)))])) tt
        refine XS.istore X3.here hx rfl (hb hby d6_54) rfl (l' := #[.val (.ref va), .val (.ref vt), .val (.int u2), .val (.int (own_n (rr ia))), .val (.int (own_n (rr ib))), .val (.int (own_n (rr ib))), .val (.int (own_n (rr ia)))]) rfl ?_
        show Steps p.tables e below (T3.setTop (mkF m 56 #[.val (.ref va), .val (.ref vt), .val (.int u2), .val (.int (own_n (rr ia))), .val (.int (own_n (rr ib))), .val (.int (own_n (rr ib))), .val (.int (own_n (rr ia)))] [])) tt
        refine XS.aloadN X3.here hx rfl (hb hby d6_56) rfl rfl ?_
        show Steps p.tables e below (T3.setTop (mkF m 57 #[.val (.ref va), .val (.ref vt), .val (.int u2), .val (.int (own_n (rr ia))), .val (.int (own_n (rr ib))), .val (.int (own_n (rr ib))), .val (.int (own_n (rr ia)))] [(.ref vt)])) tt
        refine XS.iload X3.here hx rfl (hb hby d6_57) rfl ?_
        show Steps p.tables e below (T3.setTop (mkF m 59 #[.val (.ref va), .val (.ref vt), .val (.int u2), .val (.int (own_n (rr ia))), .val (.int (own_n (rr ib))), .val (.int (own_n (rr ib))), .val (.int (own_n (rr ia)))] [(.int (own_n (rr ia))), (.ref vt)])) tt
        refine XS.iload X3.here hx rfl (hb hby d6_59) rfl ?_
        exact kk
      have f4 : Ary Z T3.heap vt .int [(.int (own_n (rr 0))), (.int (own_n (rr 1))), (.int (own_n (rr 2))), (.int (own_n (rr 3)))] := (V_vt.keep K3 (ninS (Ne.symm ne_va_vt) (ninS (Ne.symm ne_vi_vt) (ninS (Ne.symm ne_vr_vt) nin0))))
      have f5 : n0 ≤ T3.heap.size := (Nat.le_trans Z0 K3.1)
      obtain ⟨_, _, ⟨T6, L6, k6, n6⟩, -, X6, ⟨Lc6, hQ6, l6, y6, z6⟩, st6⟩ := Jvm.LawKit.callS X3 hx (y := (⟨"com/example/deferra/deferra/engine/IdentitiesFindPinLaw", "relabel", "([III)V"⟩ : MethodName)) hown (mvT hZ (hw _ (mw 90 rfl))) (mvT hZ (hw _ (mw 91 rfl))) (mvT hZ (hw _ (mw 50 rfl))) (mvT hZ (hw _ (mw 92 rfl))) (by decide) (backOf (W := 0) (rmrl l Z a0 hw [] vt rr (rr ia) (rr ib) T3.heap n0 f5 f4 g_vt) hZ (hw _ (mw 92 rfl)) (hw _ (mw 50 rfl)) (by decide) (by decide)) (g := (mkF m 61 #[.val (.ref va), .val (.ref vt), .val (.int u2), .val (.int (own_n (rr ia))), .val (.int (own_n (rr ib))), .val (.int (own_n (rr ib))), .val (.int (own_n (rr ia)))] [(.int (own_n (rr ib))), (.int (own_n (rr ia))), (.ref vt)])) rfl (by rw [hml]; rfl) (argsL := [(.ref vt), (.int (own_n (rr ia))), (.int (own_n (rr ib)))]) (rest := []) (lenOf pd_10 rfl) rfl (by show 2 * 0 + _ ≤ _; exact Nat.le_of_eq rfl) (hb hby d6_61) (fun _ _ => ⟨rfl, rfl, (by decide : 0 + 0 ≤ _), (by decide : 0 + 0 ≤ _)⟩)
      dsimp only [Pt.U, Pt.locs, Pt.cells, Pt.slots] at X6 l6 y6 z6 st6 hQ6
      subst l6 y6 z6
      obtain ⟨rfl, N6q, K6, P6_0⟩ := hQ6
      have N6 := Fr.app N3 N6q
      refine Goal.to (B := T6.setTop (mkF m 64 #[.val (.ref va), .val (.ref vt), .val (.int u2), .val (.int (own_n (rr ia))), .val (.int (own_n (rr ib))), .val (.int (own_n (rr ib))), .val (.int (own_n (rr ia)))] [])) st6 ?_
      have f7 : Keep h0 T6.heap [va, vi, vr, vt] := (((Keep.refl h0 [va, vi, vr, vt]).trans K3 (allS (Or.inl (List.mem_of_getElem? (i := 0) rfl)) (allS (Or.inl (List.mem_of_getElem? (i := 1) rfl)) (allS (Or.inl (List.mem_of_getElem? (i := 2) rfl)) all0)))).trans K6 (allS (Or.inl (List.mem_of_getElem? (i := 3) rfl)) all0))
      have f8 : Fld Z T6.heap va "com/example/deferra/deferra/engine/Identities" "words" "I" (.int (1 : Int32)) := (P3_0.keep K6 (ninS ne_va_vt nin0))
      have f9 : Fld Z T6.heap va "com/example/deferra/deferra/engine/Identities" "ints" "[I" (.ref vi) := (P3_1.keep K6 (ninS ne_va_vt nin0))
      have f10 : Fld Z T6.heap va "com/example/deferra/deferra/engine/Identities" "numberAt" "I" (.int (16 : Int32)) := (P3_2.keep K6 (ninS ne_va_vt nin0))
      have f11 : Fld Z T6.heap va "com/example/deferra/deferra/engine/Identities" "colourAt" "I" (.int (32 : Int32)) := (P3_3.keep K6 (ninS ne_va_vt nin0))
      have f12 : Fld Z T6.heap va "com/example/deferra/deferra/engine/Identities" "holdersAt" "I" (.int (64 : Int32)) := (P3_4.keep K6 (ninS ne_va_vt nin0))
      have f13 : Fld Z T6.heap va "com/example/deferra/deferra/engine/Identities" "rows" "[J" (.ref vr) := (P3_5.keep K6 (ninS ne_va_vt nin0))
      have f14 : Fld Z T6.heap va "com/example/deferra/deferra/engine/Identities" "openCount" "I" (.int no_3) := (P3_6.keep K6 (ninS ne_va_vt nin0))
      have f15 : Ary Z T6.heap vi .int (own_I (own_m pp (rr ia) (rr ib)) nh_3) := (P3_7.keep K6 (ninS ne_vi_vt nin0))
      have f16 : Ary Z T6.heap vr .long (own_R na_3 rb) := (P3_8.keep K6 (ninS ne_vr_vt nin0))
      exact Goal.retN X6 hx Bd.returns (hb hby d6_64) hlk rfl ⟨(own_m pp (rr ia) (rr ib)), (own_rl rr (rr ia) (rr ib)), na_3, nh_3, no_3, rfl, N6, f7, f8, f9, f10, f11, f12, f13, f14, f15, f16, P6_0, (by have q := own_step hI (fun e => hse (congrArg own_n e)); simp only [if_pos hz] at q; exact q)⟩ (by decide) (by decide)
    · refine Goal.to (B := T3.setTop (mkF m 61 #[.val (.ref va), .val (.ref vt), .val (.int u2), .val (.int (own_n (rr ia))), .val (.int (own_n (rr ib))), .val (.int (own_n (rr ia))), .val (.int (own_n (rr ib)))] [(.int (own_n (rr ia))), (.int (own_n (rr ib))), (.ref vt)])) (fun tt kk => ?_) ?_
      · show Steps p.tables e below (T3.setTop (mkF m 29 #[.val (.ref va), .val (.ref vt), .val (.int u2), .val (.int (own_n (rr ia))), .val (.int (own_n (rr ib))), .unset, .unset] [])) tt
        refine XS.iload X3.here hx rfl (hb hby d6_29) rfl ?_
        show Steps p.tables e below (T3.setTop (mkF m 31 #[.val (.ref va), .val (.ref vt), .val (.int u2), .val (.int (own_n (rr ia))), .val (.int (own_n (rr ib))), .unset, .unset] [(.int (own_n (rr ib)))])) tt
        refine XS.ifYes X3.here hx rfl (pc0 := 31) (pc' := 39) rfl (hb hby d6_31) rfl ((if0 _ _).trans (feq (fun e => hz (own_zero _ e) : ¬ ((own_n (rr ib)) = (0 : Int32)))).2) (by decide) (by decide) ?_
        show Steps p.tables e below (T3.setTop (mkF m 39 #[.val (.ref va), .val (.ref vt), .val (.int u2), .val (.int (own_n (rr ia))), .val (.int (own_n (rr ib))), .unset, .unset] [])) tt
        refine XS.iloadN X3.here hx rfl (hb hby d6_39) rfl ?_
        show Steps p.tables e below (T3.setTop (mkF m 40 #[.val (.ref va), .val (.ref vt), .val (.int u2), .val (.int (own_n (rr ia))), .val (.int (own_n (rr ib))), .unset, .unset] [(.int (own_n (rr ia)))])) tt
        refine XS.istore X3.here hx rfl (hb hby d6_40) rfl (l' := #[.val (.ref va), .val (.ref vt), .val (.int u2), .val (.int (own_n (rr ia))), .val (.int (own_n (rr ib))), .val (.int (own_n (rr ia))), .unset]) rfl ?_
        show Steps p.tables e below (T3.setTop (mkF m 42 #[.val (.ref va), .val (.ref vt), .val (.int u2), .val (.int (own_n (rr ia))), .val (.int (own_n (rr ib))), .val (.int (own_n (rr ia))), .unset] [])) tt
        refine XS.iload X3.here hx rfl (hb hby d6_42) rfl ?_
        show Steps p.tables e below (T3.setTop (mkF m 44 #[.val (.ref va), .val (.ref vt), .val (.int u2), .val (.int (own_n (rr ia))), .val (.int (own_n (rr ib))), .val (.int (own_n (rr ia))), .unset] [(.int (own_n (rr ia)))])) tt
        refine XS.iloadN X3.here hx rfl (hb hby d6_44) rfl ?_
        show Steps p.tables e below (T3.setTop (mkF m 45 #[.val (.ref va), .val (.ref vt), .val (.int u2), .val (.int (own_n (rr ia))), .val (.int (own_n (rr ib))), .val (.int (own_n (rr ia))), .unset] [(.int (own_n (rr ia))), (.int (own_n (rr ia)))])) tt
        refine XS.icmpNo X3.here hx rfl (hb hby d6_45) rfl (teq rfl).2 ?_
        show Steps p.tables e below (T3.setTop (mkF m 48 #[.val (.ref va), .val (.ref vt), .val (.int u2), .val (.int (own_n (rr ia))), .val (.int (own_n (rr ib))), .val (.int (own_n (rr ia))), .unset] [])) tt
        refine XS.iload X3.here hx rfl (hb hby d6_48) rfl ?_
        show Steps p.tables e below (T3.setTop (mkF m 50 #[.val (.ref va), .val (.ref vt), .val (.int u2), .val (.int (own_n (rr ia))), .val (.int (own_n (rr ib))), .val (.int (own_n (rr ia))), .unset] [(.int (own_n (rr ib)))])) tt
        refine XS.goto X3.here hx rfl (pc0 := 50) (pc' := 54) rfl (hb hby d6_50) (by decide) (by decide) ?_
        show Steps p.tables e below (T3.setTop (mkF m 54 #[.val (.ref va), .val (.ref vt), .val (.int u2), .val (.int (own_n (rr ia))), .val (.int (own_n (rr ib))), .val (.int (own_n (rr ia))), .unset] [(.int (own_n (rr ib)))])) tt
        refine XS.istore X3.here hx rfl (hb hby d6_54) rfl (l' := #[.val (.ref va), .val (.ref vt), .val (.int u2), .val (.int (own_n (rr ia))), .val (.int (own_n (rr ib))), .val (.int (own_n (rr ia))), .val (.int (own_n (rr ib)))]) rfl ?_
        show Steps p.tables e below (T3.setTop (mkF m 56 #[.val (.ref va), .val (.ref vt), .val (.int u2), .val (.int (own_n (rr ia))), .val (.int (own_n (rr ib))), .val (.int (own_n (rr ia))), .val (.int (own_n (rr ib)))] [])) tt
        refine XS.aloadN X3.here hx rfl (hb hby d6_56) rfl rfl ?_
        show Steps p.tables e below (T3.setTop (mkF m 57 #[.val (.ref va), .val (.ref vt), .val (.int u2), .val (.int (own_n (rr ia))), .val (.int (own_n (rr ib))), .val (.int (own_n (rr ia))), .val (.int (own_n (rr ib)))] [(.ref vt)])) tt
        refine XS.iload X3.here hx rfl (hb hby d6_57) rfl ?_
        show Steps p.tables e below (T3.setTop (mkF m 59 #[.val (.ref va), .val (.ref vt), .val (.int u2), .val (.int (own_n (rr ia))), .val (.int (own_n (rr ib))), .val (.int (own_n (rr ia))), .val (.int (own_n (rr ib)))] [(.int (own_n (rr ib))), (.ref vt)])) tt
        refine XS.iload X3.here hx rfl (hb hby d6_59) rfl ?_
        exact kk
      have f17 : Ary Z T3.heap vt .int [(.int (own_n (rr 0))), (.int (own_n (rr 1))), (.int (own_n (rr 2))), (.int (own_n (rr 3)))] := (V_vt.keep K3 (ninS (Ne.symm ne_va_vt) (ninS (Ne.symm ne_vi_vt) (ninS (Ne.symm ne_vr_vt) nin0))))
      have f18 : n0 ≤ T3.heap.size := (Nat.le_trans Z0 K3.1)
      obtain ⟨_, _, ⟨T19, L19, k19, n19⟩, -, X19, ⟨Lc19, hQ19, l19, y19, z19⟩, st19⟩ := Jvm.LawKit.callS X3 hx (y := (⟨"com/example/deferra/deferra/engine/IdentitiesFindPinLaw", "relabel", "([III)V"⟩ : MethodName)) hown (mvT hZ (hw _ (mw 90 rfl))) (mvT hZ (hw _ (mw 91 rfl))) (mvT hZ (hw _ (mw 50 rfl))) (mvT hZ (hw _ (mw 92 rfl))) (by decide) (backOf (W := 0) (rmrl l Z a0 hw [] vt rr (rr ib) (rr ia) T3.heap n0 f18 f17 g_vt) hZ (hw _ (mw 92 rfl)) (hw _ (mw 50 rfl)) (by decide) (by decide)) (g := (mkF m 61 #[.val (.ref va), .val (.ref vt), .val (.int u2), .val (.int (own_n (rr ia))), .val (.int (own_n (rr ib))), .val (.int (own_n (rr ia))), .val (.int (own_n (rr ib)))] [(.int (own_n (rr ia))), (.int (own_n (rr ib))), (.ref vt)])) rfl (by rw [hml]; rfl) (argsL := [(.ref vt), (.int (own_n (rr ib))), (.int (own_n (rr ia)))]) (rest := []) (lenOf pd_10 rfl) rfl (by show 2 * 0 + _ ≤ _; exact Nat.le_of_eq rfl) (hb hby d6_61) (fun _ _ => ⟨rfl, rfl, (by decide : 0 + 0 ≤ _), (by decide : 0 + 0 ≤ _)⟩)
      dsimp only [Pt.U, Pt.locs, Pt.cells, Pt.slots] at X19 l19 y19 z19 st19 hQ19
      subst l19 y19 z19
      obtain ⟨rfl, N19q, K19, P19_0⟩ := hQ19
      have N19 := Fr.app N3 N19q
      refine Goal.to (B := T19.setTop (mkF m 64 #[.val (.ref va), .val (.ref vt), .val (.int u2), .val (.int (own_n (rr ia))), .val (.int (own_n (rr ib))), .val (.int (own_n (rr ia))), .val (.int (own_n (rr ib)))] [])) st19 ?_
      have f20 : Keep h0 T19.heap [va, vi, vr, vt] := (((Keep.refl h0 [va, vi, vr, vt]).trans K3 (allS (Or.inl (List.mem_of_getElem? (i := 0) rfl)) (allS (Or.inl (List.mem_of_getElem? (i := 1) rfl)) (allS (Or.inl (List.mem_of_getElem? (i := 2) rfl)) all0)))).trans K19 (allS (Or.inl (List.mem_of_getElem? (i := 3) rfl)) all0))
      have f21 : Fld Z T19.heap va "com/example/deferra/deferra/engine/Identities" "words" "I" (.int (1 : Int32)) := (P3_0.keep K19 (ninS ne_va_vt nin0))
      have f22 : Fld Z T19.heap va "com/example/deferra/deferra/engine/Identities" "ints" "[I" (.ref vi) := (P3_1.keep K19 (ninS ne_va_vt nin0))
      have f23 : Fld Z T19.heap va "com/example/deferra/deferra/engine/Identities" "numberAt" "I" (.int (16 : Int32)) := (P3_2.keep K19 (ninS ne_va_vt nin0))
      have f24 : Fld Z T19.heap va "com/example/deferra/deferra/engine/Identities" "colourAt" "I" (.int (32 : Int32)) := (P3_3.keep K19 (ninS ne_va_vt nin0))
      have f25 : Fld Z T19.heap va "com/example/deferra/deferra/engine/Identities" "holdersAt" "I" (.int (64 : Int32)) := (P3_4.keep K19 (ninS ne_va_vt nin0))
      have f26 : Fld Z T19.heap va "com/example/deferra/deferra/engine/Identities" "rows" "[J" (.ref vr) := (P3_5.keep K19 (ninS ne_va_vt nin0))
      have f27 : Fld Z T19.heap va "com/example/deferra/deferra/engine/Identities" "openCount" "I" (.int no_3) := (P3_6.keep K19 (ninS ne_va_vt nin0))
      have f28 : Ary Z T19.heap vi .int (own_I (own_m pp (rr ia) (rr ib)) nh_3) := (P3_7.keep K19 (ninS ne_vi_vt nin0))
      have f29 : Ary Z T19.heap vr .long (own_R na_3 rb) := (P3_8.keep K19 (ninS ne_vr_vt nin0))
      exact Goal.retN X19 hx Bd.returns (hb hby d6_64) hlk rfl ⟨(own_m pp (rr ia) (rr ib)), (own_rl rr (rr ib) (rr ia)), na_3, nh_3, no_3, rfl, N19, f20, f21, f22, f23, f24, f25, f26, f27, f28, f29, P19_0, (by have q := own_step hI (fun e => hse (congrArg own_n e)); simp only [if_neg hz] at q; exact q)⟩ (by decide) (by decide)
theorem ef_16 (m : MethodId) (x0 : Addr) (x1 : Int32)  : entryFrame m #[(.ref x0), (.int x1)] 3 = mkF m 0 #[.val (.ref x0), .val (.int x1), .unset] [] := by first | (simp [entryFrame, mkF, argsToLocals, Value.category]; done) | rfl
theorem pn_16 : plainName "com/example/deferra/deferra/engine/Identities" = true := by first | (simp [plainName, overriddenIn]; done) | decide +kernel
theorem d16_0 : decode prog_18_method_6_code 0 = .ok (.iload_n 1, 1) := by decide +kernel
theorem d16_1 : decode prog_18_method_6_code 1 = .ok (.istore_n 2, 1) := by decide +kernel
theorem d16_2 : decode prog_18_method_6_code 2 = .ok (.aload_n 0, 1) := by decide +kernel
theorem d16_3 : decode prog_18_method_6_code 3 = .ok (.getfield 30, 3) := by decide +kernel
theorem d16_6 : decode prog_18_method_6_code 6 = .ok (.iload_n 2, 1) := by decide +kernel
theorem d16_7 : decode prog_18_method_6_code 7 = .ok (.iaload, 1) := by decide +kernel
theorem d16_8 : decode prog_18_method_6_code 8 = .ok (.iload_n 2, 1) := by decide +kernel
theorem d16_9 : decode prog_18_method_6_code 9 = .ok (.if_icmp .eq 30, 3) := by decide +kernel
theorem d16_39 : decode prog_18_method_6_code 39 = .ok (.iload_n 2, 1) := by decide +kernel
theorem d16_40 : decode prog_18_method_6_code 40 = .ok (.ireturn, 1) := by decide +kernel
theorem d16_12 : decode prog_18_method_6_code 12 = .ok (.aload_n 0, 1) := by decide +kernel
theorem d16_13 : decode prog_18_method_6_code 13 = .ok (.getfield 30, 3) := by decide +kernel
theorem d16_16 : decode prog_18_method_6_code 16 = .ok (.iload_n 2, 1) := by decide +kernel
theorem d16_17 : decode prog_18_method_6_code 17 = .ok (.aload_n 0, 1) := by decide +kernel
theorem d16_18 : decode prog_18_method_6_code 18 = .ok (.getfield 30, 3) := by decide +kernel
theorem d16_21 : decode prog_18_method_6_code 21 = .ok (.aload_n 0, 1) := by decide +kernel
theorem d16_22 : decode prog_18_method_6_code 22 = .ok (.getfield 30, 3) := by decide +kernel
theorem d16_25 : decode prog_18_method_6_code 25 = .ok (.iload_n 2, 1) := by decide +kernel
theorem d16_26 : decode prog_18_method_6_code 26 = .ok (.iaload, 1) := by decide +kernel
theorem d16_27 : decode prog_18_method_6_code 27 = .ok (.iaload, 1) := by decide +kernel
theorem d16_28 : decode prog_18_method_6_code 28 = .ok (.iastore, 1) := by decide +kernel
theorem d16_29 : decode prog_18_method_6_code 29 = .ok (.aload_n 0, 1) := by decide +kernel
theorem d16_30 : decode prog_18_method_6_code 30 = .ok (.getfield 30, 3) := by decide +kernel
theorem d16_33 : decode prog_18_method_6_code 33 = .ok (.iload_n 2, 1) := by decide +kernel
theorem d16_34 : decode prog_18_method_6_code 34 = .ok (.iaload, 1) := by decide +kernel
theorem d16_35 : decode prog_18_method_6_code 35 = .ok (.istore_n 2, 1) := by decide +kernel
theorem d16_36 : decode prog_18_method_6_code 36 = .ok (.goto (-34), 3) := by decide +kernel
def Qfn (Z : State) (va : Addr) (vi : Addr) (pp : Fin 4 → Fin 4) (hd : Int32) (rr : Fin 4 → Fin 4) (q : Fin 4) (h0 : Heap) (n0 : Nat) (v : Option Value) (h : Heap) (L : List Loc) : Prop := ∃ np : Fin 4 → Fin 4, v = some (.int (own_n (rr q))) ∧ Fr n0 L ∧ Keep h0 h [vi] ∧ Ary Z h vi .int (own_I np hd) ∧ own_Inv np rr
set_option maxRecDepth 65536 in
set_option maxHeartbeats 40000000 in
theorem rmfn (l : Launch) (Z : State) (a0 : Array Value) (hw : ∀ d ∈ tables_1, d.before a0 Z = true) (ws : List Jvm.Cond) (va : Addr) (vi : Addr) (pp : Fin 4 → Fin 4) (hd : Int32) (rr : Fin 4 → Fin 4) (q : Fin 4) (h0 : Heap) (n0 : Nat) (Z0 : n0 ≤ h0.size) (E_va : Exa Z h0 va "com/example/deferra/deferra/engine/Identities") (F_ints_va : Fld Z h0 va "com/example/deferra/deferra/engine/Identities" "ints" "[I" (.ref vi)) (V_vi : Ary Z h0 vi .int (own_I pp hd)) (g_vi : n0 ≤ vi) (ne_va_vi : va ≠ vi) (hI : own_Inv pp rr) :
    MetFree l (⟨"com/example/deferra/deferra/engine/Identities", "find", "(I)I"⟩ : MethodName) (head1 (Jvm.Cond.code (⟨"com/example/deferra/deferra/engine/Identities", "find", "(I)I"⟩ : MethodName) prog_18_method_6_code 3 (some .int) :: ws) ({ frames := 0, cells := 0, slots := 0, locals := 0 } : Room)) (fun a U => a = #[(.ref va), (.int (own_n q))] ∧ Z.Warmed39 U.vm ∧ U.heap = h0) (fun _ _ _ _ _ => True) (fun _ U o U' => ∃ v L, o = .returned v ∧ Qfn Z va vi pp hd rr q h0 n0 v U'.heap L ∧ FrameEnd U o U' L 0 0) := by
  refine MetFree.of_bodySF (plainFor_of_name pn_16) hisR ?_
  intro p e s m args below meth c s₁ Bd hml0 hP hK
  obtain ⟨rfl, hZ, hh⟩ := hP
  have hx := Bd.exec
  have hby := Bd.bytes
  have hml : c.maxLocals = 3 := hml0
  have hown : s.vm.findClass "com/example/deferra/deferra/engine/Identities" = some m.cls := findClass_of_methodNamed Bd.named
  have hnm := (name_of_methodNamed Bd.named Bd.method).1
  have X0 : Stand p l e ({ frames := 0, cells := 0, slots := 0, locals := 0 } : Room) s m #[(.ref va), (.int (own_n q))] below meth c s₁ [] 0 0 := Stand.of_body Bd
  have e0 : s₁.heap = h0 := by rw [← hh, Bd.state]; rfl
  have N0 := Fr.nil n0
  have hlk : meth.locks = false := BodyLoose.notSynchronized Bd
  show Goal p e below s (Qfn Z va vi pp hd rr q h0 n0) 0 0 (s₁.setTop (entryFrame m #[(.ref va), (.int (own_n q))] 3))
  refine Goal.to (B := s₁.setTop (mkF m 0 #[.val (.ref va), .val (.int (own_n q)), .unset] [])) (fun tt kk => castTop (ef_16 m va (own_n q) ) kk) ?_
  refine Goal.to (B := s₁.setTop (mkF m 3 #[.val (.ref va), .val (.int (own_n q)), .val (.int (own_n q))] [(.ref va)])) (fun tt kk => ?_) ?_
  · show Steps p.tables e below (s₁.setTop (mkF m 0 #[.val (.ref va), .val (.int (own_n q)), .unset] [])) tt
    refine XS.iloadN X0.here hx rfl (hb hby d16_0) rfl ?_
    show Steps p.tables e below (s₁.setTop (mkF m 1 #[.val (.ref va), .val (.int (own_n q)), .unset] [(.int (own_n q))])) tt
    refine XS.istoreN X0.here hx rfl (hb hby d16_1) rfl (l' := #[.val (.ref va), .val (.int (own_n q)), .val (.int (own_n q))]) rfl ?_
    show Steps p.tables e below (s₁.setTop (mkF m 2 #[.val (.ref va), .val (.int (own_n q)), .val (.int (own_n q))] [])) tt
    refine XS.aloadN X0.here hx rfl (hb hby d16_2) rfl rfl ?_
    exact kk
  obtain ⟨T1, X1, e1, st1⟩ := getF X0 hx hZ hown (host := "") (Or.inl (hw _ (mw 24 rfl))) Via.refl e0 F_ints_va (g := (mkF m 3 #[.val (.ref va), .val (.int (own_n q)), .val (.int (own_n q))] [(.ref va)])) rfl rfl (hb hby d16_3)
  refine Goal.to (B := T1.setTop (mkF m 6 #[.val (.ref va), .val (.int (own_n q)), .val (.int (own_n q))] [(.ref vi)])) st1 ?_
  refine Goal.to (B := T1.setTop (mkF m 7 #[.val (.ref va), .val (.int (own_n q)), .val (.int (own_n q))] [(.int (own_n q)), (.ref vi)])) (fun tt kk => ?_) ?_
  · show Steps p.tables e below (T1.setTop (mkF m 6 #[.val (.ref va), .val (.int (own_n q)), .val (.int (own_n q))] [(.ref vi)])) tt
    refine XS.iloadN X1.here hx rfl (hb hby d16_6) rfl ?_
    exact kk
  obtain ⟨cl2, Ar2, Sl2⟩ := id V_vi
  have hin2 := inA (cl := cl2) Sl2 (j := (own_n q)) (own_ix q).1 (by rw [(own_ix q).2, own_lenI]; have := own_lt q; omega)
  have hat2 : cl2.slots[((own_n q)).toNatClampNeg]? = some (.int (own_n (pp q))) := atA Sl2 (by rw [(own_ix q).2]; exact own_getI pp hd q)
  refine Goal.to (B := T1.setTop (mkF m 9 #[.val (.ref va), .val (.int (own_n q)), .val (.int (own_n q))] [(.int (own_n q)), (.int (own_n (pp q)))])) (fun tt kk => ?_) ?_
  · show Steps p.tables e below (T1.setTop (mkF m 7 #[.val (.ref va), .val (.int (own_n q)), .val (.int (own_n q))] [(.int (own_n q)), (.ref vi)])) tt
    refine X1.iaload hx (j := (own_n q)) (v := (.int (own_n (pp q)))) (by rw [e1]; exact Ar2.1) (State.isArrayOf_alike hZ.alike Ar2.2.1) Ar2.2.2 hin2 hat2 (g := (mkF m 7 #[.val (.ref va), .val (.int (own_n q)), .val (.int (own_n q))] [(.int (own_n q)), (.ref vi)])) rfl rfl (hb hby d16_7) _ ?_
    show Steps p.tables e below (T1.setTop (mkF m 8 #[.val (.ref va), .val (.int (own_n q)), .val (.int (own_n q))] [(.int (own_n (pp q)))])) tt
    refine XS.iloadN X1.here hx rfl (hb hby d16_8) rfl ?_
    exact kk
  by_cases ht0 : (own_n (pp q)) = (own_n q)
  · refine Goal.to (B := T1.setTop (mkF m 40 #[.val (.ref va), .val (.int (own_n q)), .val (.int (own_n q))] [(.int (own_n q))])) (fun tt kk => ?_) ?_
    · show Steps p.tables e below (T1.setTop (mkF m 9 #[.val (.ref va), .val (.int (own_n q)), .val (.int (own_n q))] [(.int (own_n q)), (.int (own_n (pp q)))])) tt
      refine XS.icmpYes X1.here hx rfl (pc0 := 9) (pc' := 39) rfl (hb hby d16_9) rfl (teq ht0).1 (by decide) (by decide) ?_
      show Steps p.tables e below (T1.setTop (mkF m 39 #[.val (.ref va), .val (.int (own_n q)), .val (.int (own_n q))] [])) tt
      refine XS.iloadN X1.here hx rfl (hb hby d16_39) rfl ?_
      exact kk
    exact Goal.retV X1 hx Bd.returns rfl (Or.inl ⟨rfl, Or.inl rfl, _, rfl⟩) (hb hby d16_40) hlk e1 ⟨pp, (congrArg some (by rw [own_root hI (own_inj _ _ ht0)] : ((.int (own_n q)) : Value) = (.int (own_n (rr q))))), N0, (Keep.refl h0 [vi]), V_vi, hI⟩ (by decide) (by decide)
  · refine Goal.to (B := T1.setTop (mkF m 13 #[.val (.ref va), .val (.int (own_n q)), .val (.int (own_n q))] [(.ref va)])) (fun tt kk => ?_) ?_
    · show Steps p.tables e below (T1.setTop (mkF m 9 #[.val (.ref va), .val (.int (own_n q)), .val (.int (own_n q))] [(.int (own_n q)), (.int (own_n (pp q)))])) tt
      refine XS.icmpNo X1.here hx rfl (hb hby d16_9) rfl (feq ht0).1 ?_
      show Steps p.tables e below (T1.setTop (mkF m 12 #[.val (.ref va), .val (.int (own_n q)), .val (.int (own_n q))] [])) tt
      refine XS.aloadN X1.here hx rfl (hb hby d16_12) rfl rfl ?_
      exact kk
    obtain ⟨T3, X3, e3, st3⟩ := getF X1 hx hZ hown (host := "") (Or.inl (hw _ (mw 24 rfl))) Via.refl e1 F_ints_va (g := (mkF m 13 #[.val (.ref va), .val (.int (own_n q)), .val (.int (own_n q))] [(.ref va)])) rfl rfl (hb hby d16_13)
    refine Goal.to (B := T3.setTop (mkF m 16 #[.val (.ref va), .val (.int (own_n q)), .val (.int (own_n q))] [(.ref vi)])) st3 ?_
    refine Goal.to (B := T3.setTop (mkF m 18 #[.val (.ref va), .val (.int (own_n q)), .val (.int (own_n q))] [(.ref va), (.int (own_n q)), (.ref vi)])) (fun tt kk => ?_) ?_
    · show Steps p.tables e below (T3.setTop (mkF m 16 #[.val (.ref va), .val (.int (own_n q)), .val (.int (own_n q))] [(.ref vi)])) tt
      refine XS.iloadN X3.here hx rfl (hb hby d16_16) rfl ?_
      show Steps p.tables e below (T3.setTop (mkF m 17 #[.val (.ref va), .val (.int (own_n q)), .val (.int (own_n q))] [(.int (own_n q)), (.ref vi)])) tt
      refine XS.aloadN X3.here hx rfl (hb hby d16_17) rfl rfl ?_
      exact kk
    obtain ⟨T4, X4, e4, st4⟩ := getF X3 hx hZ hown (host := "") (Or.inl (hw _ (mw 24 rfl))) Via.refl e3 F_ints_va (g := (mkF m 18 #[.val (.ref va), .val (.int (own_n q)), .val (.int (own_n q))] [(.ref va), (.int (own_n q)), (.ref vi)])) rfl rfl (hb hby d16_18)
    refine Goal.to (B := T4.setTop (mkF m 21 #[.val (.ref va), .val (.int (own_n q)), .val (.int (own_n q))] [(.ref vi), (.int (own_n q)), (.ref vi)])) st4 ?_
    refine Goal.to (B := T4.setTop (mkF m 22 #[.val (.ref va), .val (.int (own_n q)), .val (.int (own_n q))] [(.ref va), (.ref vi), (.int (own_n q)), (.ref vi)])) (fun tt kk => ?_) ?_
    · show Steps p.tables e below (T4.setTop (mkF m 21 #[.val (.ref va), .val (.int (own_n q)), .val (.int (own_n q))] [(.ref vi), (.int (own_n q)), (.ref vi)])) tt
      refine XS.aloadN X4.here hx rfl (hb hby d16_21) rfl rfl ?_
      exact kk
    obtain ⟨T5, X5, e5, st5⟩ := getF X4 hx hZ hown (host := "") (Or.inl (hw _ (mw 24 rfl))) Via.refl e4 F_ints_va (g := (mkF m 22 #[.val (.ref va), .val (.int (own_n q)), .val (.int (own_n q))] [(.ref va), (.ref vi), (.int (own_n q)), (.ref vi)])) rfl rfl (hb hby d16_22)
    refine Goal.to (B := T5.setTop (mkF m 25 #[.val (.ref va), .val (.int (own_n q)), .val (.int (own_n q))] [(.ref vi), (.ref vi), (.int (own_n q)), (.ref vi)])) st5 ?_
    refine Goal.to (B := T5.setTop (mkF m 26 #[.val (.ref va), .val (.int (own_n q)), .val (.int (own_n q))] [(.int (own_n q)), (.ref vi), (.ref vi), (.int (own_n q)), (.ref vi)])) (fun tt kk => ?_) ?_
    · show Steps p.tables e below (T5.setTop (mkF m 25 #[.val (.ref va), .val (.int (own_n q)), .val (.int (own_n q))] [(.ref vi), (.ref vi), (.int (own_n q)), (.ref vi)])) tt
      refine XS.iloadN X5.here hx rfl (hb hby d16_25) rfl ?_
      exact kk
    obtain ⟨cl6, Ar6, Sl6⟩ := id V_vi
    have hin6 := inA (cl := cl6) Sl6 (j := (own_n q)) (own_ix q).1 (by rw [(own_ix q).2, own_lenI]; have := own_lt q; omega)
    have hat6 : cl6.slots[((own_n q)).toNatClampNeg]? = some (.int (own_n (pp q))) := atA Sl6 (by rw [(own_ix q).2]; exact own_getI pp hd q)
    refine Goal.to (B := T5.setTop (mkF m 27 #[.val (.ref va), .val (.int (own_n q)), .val (.int (own_n q))] [(.int (own_n (pp q))), (.ref vi), (.int (own_n q)), (.ref vi)])) (fun tt kk => ?_) ?_
    · show Steps p.tables e below (T5.setTop (mkF m 26 #[.val (.ref va), .val (.int (own_n q)), .val (.int (own_n q))] [(.int (own_n q)), (.ref vi), (.ref vi), (.int (own_n q)), (.ref vi)])) tt
      refine X5.iaload hx (j := (own_n q)) (v := (.int (own_n (pp q)))) (by rw [e5]; exact Ar6.1) (State.isArrayOf_alike hZ.alike Ar6.2.1) Ar6.2.2 hin6 hat6 (g := (mkF m 26 #[.val (.ref va), .val (.int (own_n q)), .val (.int (own_n q))] [(.int (own_n q)), (.ref vi), (.ref vi), (.int (own_n q)), (.ref vi)])) rfl rfl (hb hby d16_26) _ ?_
      exact kk
    obtain ⟨cl7, Ar7, Sl7⟩ := id V_vi
    have hin7 := inA (cl := cl7) Sl7 (j := (own_n (pp q))) (own_ix (pp q)).1 (by rw [(own_ix (pp q)).2, own_lenI]; have := own_lt (pp q); omega)
    have hat7 : cl7.slots[((own_n (pp q))).toNatClampNeg]? = some (.int (own_n (pp (pp q)))) := atA Sl7 (by rw [(own_ix (pp q)).2]; exact own_getI pp hd (pp q))
    refine Goal.to (B := T5.setTop (mkF m 28 #[.val (.ref va), .val (.int (own_n q)), .val (.int (own_n q))] [(.int (own_n (pp (pp q)))), (.int (own_n q)), (.ref vi)])) (fun tt kk => ?_) ?_
    · show Steps p.tables e below (T5.setTop (mkF m 27 #[.val (.ref va), .val (.int (own_n q)), .val (.int (own_n q))] [(.int (own_n (pp q))), (.ref vi), (.int (own_n q)), (.ref vi)])) tt
      refine X5.iaload hx (j := (own_n (pp q))) (v := (.int (own_n (pp (pp q))))) (by rw [e5]; exact Ar7.1) (State.isArrayOf_alike hZ.alike Ar7.2.1) Ar7.2.2 hin7 hat7 (g := (mkF m 27 #[.val (.ref va), .val (.int (own_n q)), .val (.int (own_n q))] [(.int (own_n (pp q))), (.ref vi), (.int (own_n q)), (.ref vi)])) rfl rfl (hb hby d16_27) _ ?_
      exact kk
    obtain ⟨cl8, Ar8, Sl8⟩ := id V_vi
    have hin8 := inA (cl := cl8) Sl8 (j := (own_n q)) (own_ix q).1 (by rw [(own_ix q).2, own_lenI]; have := own_lt q; omega)
    obtain ⟨T8, h8, X8, e8, W8, st8⟩ := stI X5 hx hZ e5 Ar8 (j := (own_n q)) hin8 (g := (mkF m 28 #[.val (.ref va), .val (.int (own_n q)), .val (.int (own_n q))] [(.int (own_n (pp (pp q)))), (.int (own_n q)), (.ref vi)])) rfl rfl (hb hby d16_28)
    have V8 : Ary Z h8 vi .int (((own_I pp hd)).set ((q).val) (.int (own_n (pp (pp q))))) := Ary.put Ar8 Sl8 W8 (own_ix q).2
    have N8 := Fr.snoc X8 N0 g_vi
    refine Goal.to (B := T8.setTop (mkF m 29 #[.val (.ref va), .val (.int (own_n q)), .val (.int (own_n q))] [])) st8 ?_
    have V9 : Ary Z h8 vi .int (own_I (own_h pp q) hd) := Ary.cast V8 (own_setI pp hd (pp (pp q)) q)
    refine Goal.to (B := T8.setTop (mkF m 30 #[.val (.ref va), .val (.int (own_n q)), .val (.int (own_n q))] [(.ref va)])) (fun tt kk => ?_) ?_
    · show Steps p.tables e below (T8.setTop (mkF m 29 #[.val (.ref va), .val (.int (own_n q)), .val (.int (own_n q))] [])) tt
      refine XS.aloadN X8.here hx rfl (hb hby d16_29) rfl rfl ?_
      exact kk
    have f10 : Fld Z h8 va "com/example/deferra/deferra/engine/Identities" "ints" "[I" (.ref vi) := (F_ints_va.other W8 (Or.inl ne_va_vi))
    obtain ⟨T11, X11, e11, st11⟩ := getF X8 hx hZ hown (host := "") (Or.inl (hw _ (mw 24 rfl))) Via.refl e8 f10 (g := (mkF m 30 #[.val (.ref va), .val (.int (own_n q)), .val (.int (own_n q))] [(.ref va)])) rfl rfl (hb hby d16_30)
    refine Goal.to (B := T11.setTop (mkF m 33 #[.val (.ref va), .val (.int (own_n q)), .val (.int (own_n q))] [(.ref vi)])) st11 ?_
    refine Goal.to (B := T11.setTop (mkF m 34 #[.val (.ref va), .val (.int (own_n q)), .val (.int (own_n q))] [(.int (own_n q)), (.ref vi)])) (fun tt kk => ?_) ?_
    · show Steps p.tables e below (T11.setTop (mkF m 33 #[.val (.ref va), .val (.int (own_n q)), .val (.int (own_n q))] [(.ref vi)])) tt
      refine XS.iloadN X11.here hx rfl (hb hby d16_33) rfl ?_
      exact kk
    obtain ⟨cl12, Ar12, Sl12⟩ := id V9
    have hin12 := inA (cl := cl12) Sl12 (j := (own_n q)) (own_ix q).1 (by rw [(own_ix q).2, own_lenI]; have := own_lt q; omega)
    have hat12 : cl12.slots[((own_n q)).toNatClampNeg]? = some (.int (own_n ((own_h pp q) q))) := atA Sl12 (by rw [(own_ix q).2]; exact own_getI (own_h pp q) hd q)
    refine Goal.to (B := T11.setTop (mkF m 35 #[.val (.ref va), .val (.int (own_n q)), .val (.int (own_n q))] [(.int (own_n ((own_h pp q) q)))])) (fun tt kk => ?_) ?_
    · show Steps p.tables e below (T11.setTop (mkF m 34 #[.val (.ref va), .val (.int (own_n q)), .val (.int (own_n q))] [(.int (own_n q)), (.ref vi)])) tt
      refine X11.iaload hx (j := (own_n q)) (v := (.int (own_n ((own_h pp q) q)))) (by rw [e11]; exact Ar12.1) (State.isArrayOf_alike hZ.alike Ar12.2.1) Ar12.2.2 hin12 hat12 (g := (mkF m 34 #[.val (.ref va), .val (.int (own_n q)), .val (.int (own_n q))] [(.int (own_n q)), (.ref vi)])) rfl rfl (hb hby d16_34) _ ?_
      exact kk
    rw [own_hat pp q]
    refine Goal.to (B := T11.setTop (mkF m 3 #[.val (.ref va), .val (.int (own_n q)), .val (.int (own_n (pp (pp q))))] [(.ref va)])) (fun tt kk => ?_) ?_
    · show Steps p.tables e below (T11.setTop (mkF m 35 #[.val (.ref va), .val (.int (own_n q)), .val (.int (own_n q))] [(.int (own_n (pp (pp q))))])) tt
      refine XS.istoreN X11.here hx rfl (hb hby d16_35) rfl (l' := #[.val (.ref va), .val (.int (own_n q)), .val (.int (own_n (pp (pp q))))]) rfl ?_
      show Steps p.tables e below (T11.setTop (mkF m 36 #[.val (.ref va), .val (.int (own_n q)), .val (.int (own_n (pp (pp q))))] [])) tt
      refine XS.goto X11.here hx rfl (pc0 := 36) (pc' := 2) rfl (hb hby d16_36) (by decide) (by decide) ?_
      show Steps p.tables e below (T11.setTop (mkF m 2 #[.val (.ref va), .val (.int (own_n q)), .val (.int (own_n (pp (pp q))))] [])) tt
      refine XS.aloadN X11.here hx rfl (hb hby d16_2) rfl rfl ?_
      exact kk
    obtain ⟨T13, X13, e13, st13⟩ := getF X11 hx hZ hown (host := "") (Or.inl (hw _ (mw 24 rfl))) Via.refl e11 f10 (g := (mkF m 3 #[.val (.ref va), .val (.int (own_n q)), .val (.int (own_n (pp (pp q))))] [(.ref va)])) rfl rfl (hb hby d16_3)
    refine Goal.to (B := T13.setTop (mkF m 6 #[.val (.ref va), .val (.int (own_n q)), .val (.int (own_n (pp (pp q))))] [(.ref vi)])) st13 ?_
    refine Goal.to (B := T13.setTop (mkF m 7 #[.val (.ref va), .val (.int (own_n q)), .val (.int (own_n (pp (pp q))))] [(.int (own_n (pp (pp q)))), (.ref vi)])) (fun tt kk => ?_) ?_
    · show Steps p.tables e below (T13.setTop (mkF m 6 #[.val (.ref va), .val (.int (own_n q)), .val (.int (own_n (pp (pp q))))] [(.ref vi)])) tt
      refine XS.iloadN X13.here hx rfl (hb hby d16_6) rfl ?_
      exact kk
    obtain ⟨cl14, Ar14, Sl14⟩ := id V9
    have hin14 := inA (cl := cl14) Sl14 (j := (own_n (pp (pp q)))) (own_ix (pp (pp q))).1 (by rw [(own_ix (pp (pp q))).2, own_lenI]; have := own_lt (pp (pp q)); omega)
    have hat14 : cl14.slots[((own_n (pp (pp q)))).toNatClampNeg]? = some (.int (own_n ((own_h pp q) (pp (pp q))))) := atA Sl14 (by rw [(own_ix (pp (pp q))).2]; exact own_getI (own_h pp q) hd (pp (pp q)))
    refine Goal.to (B := T13.setTop (mkF m 9 #[.val (.ref va), .val (.int (own_n q)), .val (.int (own_n (pp (pp q))))] [(.int (own_n (pp (pp q)))), (.int (own_n ((own_h pp q) (pp (pp q)))))])) (fun tt kk => ?_) ?_
    · show Steps p.tables e below (T13.setTop (mkF m 7 #[.val (.ref va), .val (.int (own_n q)), .val (.int (own_n (pp (pp q))))] [(.int (own_n (pp (pp q)))), (.ref vi)])) tt
      refine X13.iaload hx (j := (own_n (pp (pp q)))) (v := (.int (own_n ((own_h pp q) (pp (pp q)))))) (by rw [e13]; exact Ar14.1) (State.isArrayOf_alike hZ.alike Ar14.2.1) Ar14.2.2 hin14 hat14 (g := (mkF m 7 #[.val (.ref va), .val (.int (own_n q)), .val (.int (own_n (pp (pp q))))] [(.int (own_n (pp (pp q)))), (.ref vi)])) rfl rfl (hb hby d16_7) _ ?_
      show Steps p.tables e below (T13.setTop (mkF m 8 #[.val (.ref va), .val (.int (own_n q)), .val (.int (own_n (pp (pp q))))] [(.int (own_n ((own_h pp q) (pp (pp q)))))])) tt
      refine XS.iloadN X13.here hx rfl (hb hby d16_8) rfl ?_
      exact kk
    by_cases ht1 : (own_n ((own_h pp q) (pp (pp q)))) = (own_n (pp (pp q)))
    · refine Goal.to (B := T13.setTop (mkF m 40 #[.val (.ref va), .val (.int (own_n q)), .val (.int (own_n (pp (pp q))))] [(.int (own_n (pp (pp q))))])) (fun tt kk => ?_) ?_
      · show Steps p.tables e below (T13.setTop (mkF m 9 #[.val (.ref va), .val (.int (own_n q)), .val (.int (own_n (pp (pp q))))] [(.int (own_n (pp (pp q)))), (.int (own_n ((own_h pp q) (pp (pp q)))))])) tt
        refine XS.icmpYes X13.here hx rfl (pc0 := 9) (pc' := 39) rfl (hb hby d16_9) rfl (teq ht1).1 (by decide) (by decide) ?_
        show Steps p.tables e below (T13.setTop (mkF m 39 #[.val (.ref va), .val (.int (own_n q)), .val (.int (own_n (pp (pp q))))] [])) tt
        refine XS.iloadN X13.here hx rfl (hb hby d16_39) rfl ?_
        exact kk
      have f15 : Keep h0 h8 [vi] := ((Keep.refl h0 [vi]).wr W8 (Or.inl (List.mem_of_getElem? (i := 0) rfl)))
      exact Goal.retV X13 hx Bd.returns rfl (Or.inl ⟨rfl, Or.inl rfl, _, rfl⟩) (hb hby d16_40) hlk e13 ⟨(own_h pp q), (congrArg some (by rw [← own_root (own_find hI (fun e => ht0 (congrArg own_n e))).1 (own_inj _ _ ht1), own_up hI, own_up hI] : ((.int (own_n (pp (pp q)))) : Value) = (.int (own_n (rr q))))), N8, f15, V9, (own_find hI (fun e => ht0 (congrArg own_n e))).1⟩ (by decide) (by decide)
    · refine Goal.to (B := T13.setTop (mkF m 13 #[.val (.ref va), .val (.int (own_n q)), .val (.int (own_n (pp (pp q))))] [(.ref va)])) (fun tt kk => ?_) ?_
      · show Steps p.tables e below (T13.setTop (mkF m 9 #[.val (.ref va), .val (.int (own_n q)), .val (.int (own_n (pp (pp q))))] [(.int (own_n (pp (pp q)))), (.int (own_n ((own_h pp q) (pp (pp q)))))])) tt
        refine XS.icmpNo X13.here hx rfl (hb hby d16_9) rfl (feq ht1).1 ?_
        show Steps p.tables e below (T13.setTop (mkF m 12 #[.val (.ref va), .val (.int (own_n q)), .val (.int (own_n (pp (pp q))))] [])) tt
        refine XS.aloadN X13.here hx rfl (hb hby d16_12) rfl rfl ?_
        exact kk
      obtain ⟨T16, X16, e16, st16⟩ := getF X13 hx hZ hown (host := "") (Or.inl (hw _ (mw 24 rfl))) Via.refl e13 f10 (g := (mkF m 13 #[.val (.ref va), .val (.int (own_n q)), .val (.int (own_n (pp (pp q))))] [(.ref va)])) rfl rfl (hb hby d16_13)
      refine Goal.to (B := T16.setTop (mkF m 16 #[.val (.ref va), .val (.int (own_n q)), .val (.int (own_n (pp (pp q))))] [(.ref vi)])) st16 ?_
      refine Goal.to (B := T16.setTop (mkF m 18 #[.val (.ref va), .val (.int (own_n q)), .val (.int (own_n (pp (pp q))))] [(.ref va), (.int (own_n (pp (pp q)))), (.ref vi)])) (fun tt kk => ?_) ?_
      · show Steps p.tables e below (T16.setTop (mkF m 16 #[.val (.ref va), .val (.int (own_n q)), .val (.int (own_n (pp (pp q))))] [(.ref vi)])) tt
        refine XS.iloadN X16.here hx rfl (hb hby d16_16) rfl ?_
        show Steps p.tables e below (T16.setTop (mkF m 17 #[.val (.ref va), .val (.int (own_n q)), .val (.int (own_n (pp (pp q))))] [(.int (own_n (pp (pp q)))), (.ref vi)])) tt
        refine XS.aloadN X16.here hx rfl (hb hby d16_17) rfl rfl ?_
        exact kk
      obtain ⟨T17, X17, e17, st17⟩ := getF X16 hx hZ hown (host := "") (Or.inl (hw _ (mw 24 rfl))) Via.refl e16 f10 (g := (mkF m 18 #[.val (.ref va), .val (.int (own_n q)), .val (.int (own_n (pp (pp q))))] [(.ref va), (.int (own_n (pp (pp q)))), (.ref vi)])) rfl rfl (hb hby d16_18)
      refine Goal.to (B := T17.setTop (mkF m 21 #[.val (.ref va), .val (.int (own_n q)), .val (.int (own_n (pp (pp q))))] [(.ref vi), (.int (own_n (pp (pp q)))), (.ref vi)])) st17 ?_
      refine Goal.to (B := T17.setTop (mkF m 22 #[.val (.ref va), .val (.int (own_n q)), .val (.int (own_n (pp (pp q))))] [(.ref va), (.ref vi), (.int (own_n (pp (pp q)))), (.ref vi)])) (fun tt kk => ?_) ?_
      · show Steps p.tables e below (T17.setTop (mkF m 21 #[.val (.ref va), .val (.int (own_n q)), .val (.int (own_n (pp (pp q))))] [(.ref vi), (.int (own_n (pp (pp q)))), (.ref vi)])) tt
        refine XS.aloadN X17.here hx rfl (hb hby d16_21) rfl rfl ?_
        exact kk
      obtain ⟨T18, X18, e18, st18⟩ := getF X17 hx hZ hown (host := "") (Or.inl (hw _ (mw 24 rfl))) Via.refl e17 f10 (g := (mkF m 22 #[.val (.ref va), .val (.int (own_n q)), .val (.int (own_n (pp (pp q))))] [(.ref va), (.ref vi), (.int (own_n (pp (pp q)))), (.ref vi)])) rfl rfl (hb hby d16_22)
      refine Goal.to (B := T18.setTop (mkF m 25 #[.val (.ref va), .val (.int (own_n q)), .val (.int (own_n (pp (pp q))))] [(.ref vi), (.ref vi), (.int (own_n (pp (pp q)))), (.ref vi)])) st18 ?_
      refine Goal.to (B := T18.setTop (mkF m 26 #[.val (.ref va), .val (.int (own_n q)), .val (.int (own_n (pp (pp q))))] [(.int (own_n (pp (pp q)))), (.ref vi), (.ref vi), (.int (own_n (pp (pp q)))), (.ref vi)])) (fun tt kk => ?_) ?_
      · show Steps p.tables e below (T18.setTop (mkF m 25 #[.val (.ref va), .val (.int (own_n q)), .val (.int (own_n (pp (pp q))))] [(.ref vi), (.ref vi), (.int (own_n (pp (pp q)))), (.ref vi)])) tt
        refine XS.iloadN X18.here hx rfl (hb hby d16_25) rfl ?_
        exact kk
      obtain ⟨cl19, Ar19, Sl19⟩ := id V9
      have hin19 := inA (cl := cl19) Sl19 (j := (own_n (pp (pp q)))) (own_ix (pp (pp q))).1 (by rw [(own_ix (pp (pp q))).2, own_lenI]; have := own_lt (pp (pp q)); omega)
      have hat19 : cl19.slots[((own_n (pp (pp q)))).toNatClampNeg]? = some (.int (own_n ((own_h pp q) (pp (pp q))))) := atA Sl19 (by rw [(own_ix (pp (pp q))).2]; exact own_getI (own_h pp q) hd (pp (pp q)))
      refine Goal.to (B := T18.setTop (mkF m 27 #[.val (.ref va), .val (.int (own_n q)), .val (.int (own_n (pp (pp q))))] [(.int (own_n ((own_h pp q) (pp (pp q))))), (.ref vi), (.int (own_n (pp (pp q)))), (.ref vi)])) (fun tt kk => ?_) ?_
      · show Steps p.tables e below (T18.setTop (mkF m 26 #[.val (.ref va), .val (.int (own_n q)), .val (.int (own_n (pp (pp q))))] [(.int (own_n (pp (pp q)))), (.ref vi), (.ref vi), (.int (own_n (pp (pp q)))), (.ref vi)])) tt
        refine X18.iaload hx (j := (own_n (pp (pp q)))) (v := (.int (own_n ((own_h pp q) (pp (pp q)))))) (by rw [e18]; exact Ar19.1) (State.isArrayOf_alike hZ.alike Ar19.2.1) Ar19.2.2 hin19 hat19 (g := (mkF m 26 #[.val (.ref va), .val (.int (own_n q)), .val (.int (own_n (pp (pp q))))] [(.int (own_n (pp (pp q)))), (.ref vi), (.ref vi), (.int (own_n (pp (pp q)))), (.ref vi)])) rfl rfl (hb hby d16_26) _ ?_
        exact kk
      obtain ⟨cl20, Ar20, Sl20⟩ := id V9
      have hin20 := inA (cl := cl20) Sl20 (j := (own_n ((own_h pp q) (pp (pp q))))) (own_ix ((own_h pp q) (pp (pp q)))).1 (by rw [(own_ix ((own_h pp q) (pp (pp q)))).2, own_lenI]; have := own_lt ((own_h pp q) (pp (pp q))); omega)
      have hat20 : cl20.slots[((own_n ((own_h pp q) (pp (pp q))))).toNatClampNeg]? = some (.int (own_n ((own_h pp q) ((own_h pp q) (pp (pp q)))))) := atA Sl20 (by rw [(own_ix ((own_h pp q) (pp (pp q)))).2]; exact own_getI (own_h pp q) hd ((own_h pp q) (pp (pp q))))
      refine Goal.to (B := T18.setTop (mkF m 28 #[.val (.ref va), .val (.int (own_n q)), .val (.int (own_n (pp (pp q))))] [(.int (own_n ((own_h pp q) ((own_h pp q) (pp (pp q)))))), (.int (own_n (pp (pp q)))), (.ref vi)])) (fun tt kk => ?_) ?_
      · show Steps p.tables e below (T18.setTop (mkF m 27 #[.val (.ref va), .val (.int (own_n q)), .val (.int (own_n (pp (pp q))))] [(.int (own_n ((own_h pp q) (pp (pp q))))), (.ref vi), (.int (own_n (pp (pp q)))), (.ref vi)])) tt
        refine X18.iaload hx (j := (own_n ((own_h pp q) (pp (pp q))))) (v := (.int (own_n ((own_h pp q) ((own_h pp q) (pp (pp q))))))) (by rw [e18]; exact Ar20.1) (State.isArrayOf_alike hZ.alike Ar20.2.1) Ar20.2.2 hin20 hat20 (g := (mkF m 27 #[.val (.ref va), .val (.int (own_n q)), .val (.int (own_n (pp (pp q))))] [(.int (own_n ((own_h pp q) (pp (pp q))))), (.ref vi), (.int (own_n (pp (pp q)))), (.ref vi)])) rfl rfl (hb hby d16_27) _ ?_
        exact kk
      obtain ⟨cl21, Ar21, Sl21⟩ := id V9
      have hin21 := inA (cl := cl21) Sl21 (j := (own_n (pp (pp q)))) (own_ix (pp (pp q))).1 (by rw [(own_ix (pp (pp q))).2, own_lenI]; have := own_lt (pp (pp q)); omega)
      obtain ⟨T21, h21, X21, e21, W21, st21⟩ := stI X18 hx hZ e18 Ar21 (j := (own_n (pp (pp q)))) hin21 (g := (mkF m 28 #[.val (.ref va), .val (.int (own_n q)), .val (.int (own_n (pp (pp q))))] [(.int (own_n ((own_h pp q) ((own_h pp q) (pp (pp q)))))), (.int (own_n (pp (pp q)))), (.ref vi)])) rfl rfl (hb hby d16_28)
      have V21 : Ary Z h21 vi .int (((own_I (own_h pp q) hd)).set (((pp (pp q))).val) (.int (own_n ((own_h pp q) ((own_h pp q) (pp (pp q))))))) := Ary.put Ar21 Sl21 W21 (own_ix (pp (pp q))).2
      have N21 := Fr.snoc X21 N8 g_vi
      refine Goal.to (B := T21.setTop (mkF m 29 #[.val (.ref va), .val (.int (own_n q)), .val (.int (own_n (pp (pp q))))] [])) st21 ?_
      have V22 : Ary Z h21 vi .int (own_I (own_h (own_h pp q) (pp (pp q))) hd) := Ary.cast V21 (own_setI (own_h pp q) hd ((own_h pp q) ((own_h pp q) (pp (pp q)))) (pp (pp q)))
      refine Goal.to (B := T21.setTop (mkF m 30 #[.val (.ref va), .val (.int (own_n q)), .val (.int (own_n (pp (pp q))))] [(.ref va)])) (fun tt kk => ?_) ?_
      · show Steps p.tables e below (T21.setTop (mkF m 29 #[.val (.ref va), .val (.int (own_n q)), .val (.int (own_n (pp (pp q))))] [])) tt
        refine XS.aloadN X21.here hx rfl (hb hby d16_29) rfl rfl ?_
        exact kk
      have f23 : Fld Z h21 va "com/example/deferra/deferra/engine/Identities" "ints" "[I" (.ref vi) := (f10.other W21 (Or.inl ne_va_vi))
      obtain ⟨T24, X24, e24, st24⟩ := getF X21 hx hZ hown (host := "") (Or.inl (hw _ (mw 24 rfl))) Via.refl e21 f23 (g := (mkF m 30 #[.val (.ref va), .val (.int (own_n q)), .val (.int (own_n (pp (pp q))))] [(.ref va)])) rfl rfl (hb hby d16_30)
      refine Goal.to (B := T24.setTop (mkF m 33 #[.val (.ref va), .val (.int (own_n q)), .val (.int (own_n (pp (pp q))))] [(.ref vi)])) st24 ?_
      refine Goal.to (B := T24.setTop (mkF m 34 #[.val (.ref va), .val (.int (own_n q)), .val (.int (own_n (pp (pp q))))] [(.int (own_n (pp (pp q)))), (.ref vi)])) (fun tt kk => ?_) ?_
      · show Steps p.tables e below (T24.setTop (mkF m 33 #[.val (.ref va), .val (.int (own_n q)), .val (.int (own_n (pp (pp q))))] [(.ref vi)])) tt
        refine XS.iloadN X24.here hx rfl (hb hby d16_33) rfl ?_
        exact kk
      obtain ⟨cl25, Ar25, Sl25⟩ := id V22
      have hin25 := inA (cl := cl25) Sl25 (j := (own_n (pp (pp q)))) (own_ix (pp (pp q))).1 (by rw [(own_ix (pp (pp q))).2, own_lenI]; have := own_lt (pp (pp q)); omega)
      have hat25 : cl25.slots[((own_n (pp (pp q)))).toNatClampNeg]? = some (.int (own_n ((own_h (own_h pp q) (pp (pp q))) (pp (pp q))))) := atA Sl25 (by rw [(own_ix (pp (pp q))).2]; exact own_getI (own_h (own_h pp q) (pp (pp q))) hd (pp (pp q)))
      refine Goal.to (B := T24.setTop (mkF m 35 #[.val (.ref va), .val (.int (own_n q)), .val (.int (own_n (pp (pp q))))] [(.int (own_n ((own_h (own_h pp q) (pp (pp q))) (pp (pp q)))))])) (fun tt kk => ?_) ?_
      · show Steps p.tables e below (T24.setTop (mkF m 34 #[.val (.ref va), .val (.int (own_n q)), .val (.int (own_n (pp (pp q))))] [(.int (own_n (pp (pp q)))), (.ref vi)])) tt
        refine X24.iaload hx (j := (own_n (pp (pp q)))) (v := (.int (own_n ((own_h (own_h pp q) (pp (pp q))) (pp (pp q)))))) (by rw [e24]; exact Ar25.1) (State.isArrayOf_alike hZ.alike Ar25.2.1) Ar25.2.2 hin25 hat25 (g := (mkF m 34 #[.val (.ref va), .val (.int (own_n q)), .val (.int (own_n (pp (pp q))))] [(.int (own_n (pp (pp q)))), (.ref vi)])) rfl rfl (hb hby d16_34) _ ?_
        exact kk
      rw [own_hat (own_h pp q) (pp (pp q))]
      refine Goal.to (B := T24.setTop (mkF m 3 #[.val (.ref va), .val (.int (own_n q)), .val (.int (own_n ((own_h pp q) ((own_h pp q) (pp (pp q))))))] [(.ref va)])) (fun tt kk => ?_) ?_
      · show Steps p.tables e below (T24.setTop (mkF m 35 #[.val (.ref va), .val (.int (own_n q)), .val (.int (own_n (pp (pp q))))] [(.int (own_n ((own_h pp q) ((own_h pp q) (pp (pp q))))))])) tt
        refine XS.istoreN X24.here hx rfl (hb hby d16_35) rfl (l' := #[.val (.ref va), .val (.int (own_n q)), .val (.int (own_n ((own_h pp q) ((own_h pp q) (pp (pp q))))))]) rfl ?_
        show Steps p.tables e below (T24.setTop (mkF m 36 #[.val (.ref va), .val (.int (own_n q)), .val (.int (own_n ((own_h pp q) ((own_h pp q) (pp (pp q))))))] [])) tt
        refine XS.goto X24.here hx rfl (pc0 := 36) (pc' := 2) rfl (hb hby d16_36) (by decide) (by decide) ?_
        show Steps p.tables e below (T24.setTop (mkF m 2 #[.val (.ref va), .val (.int (own_n q)), .val (.int (own_n ((own_h pp q) ((own_h pp q) (pp (pp q))))))] [])) tt
        refine XS.aloadN X24.here hx rfl (hb hby d16_2) rfl rfl ?_
        exact kk
      obtain ⟨T26, X26, e26, st26⟩ := getF X24 hx hZ hown (host := "") (Or.inl (hw _ (mw 24 rfl))) Via.refl e24 f23 (g := (mkF m 3 #[.val (.ref va), .val (.int (own_n q)), .val (.int (own_n ((own_h pp q) ((own_h pp q) (pp (pp q))))))] [(.ref va)])) rfl rfl (hb hby d16_3)
      refine Goal.to (B := T26.setTop (mkF m 6 #[.val (.ref va), .val (.int (own_n q)), .val (.int (own_n ((own_h pp q) ((own_h pp q) (pp (pp q))))))] [(.ref vi)])) st26 ?_
      refine Goal.to (B := T26.setTop (mkF m 7 #[.val (.ref va), .val (.int (own_n q)), .val (.int (own_n ((own_h pp q) ((own_h pp q) (pp (pp q))))))] [(.int (own_n ((own_h pp q) ((own_h pp q) (pp (pp q)))))), (.ref vi)])) (fun tt kk => ?_) ?_
      · show Steps p.tables e below (T26.setTop (mkF m 6 #[.val (.ref va), .val (.int (own_n q)), .val (.int (own_n ((own_h pp q) ((own_h pp q) (pp (pp q))))))] [(.ref vi)])) tt
        refine XS.iloadN X26.here hx rfl (hb hby d16_6) rfl ?_
        exact kk
      obtain ⟨cl27, Ar27, Sl27⟩ := id V22
      have hin27 := inA (cl := cl27) Sl27 (j := (own_n ((own_h pp q) ((own_h pp q) (pp (pp q)))))) (own_ix ((own_h pp q) ((own_h pp q) (pp (pp q))))).1 (by rw [(own_ix ((own_h pp q) ((own_h pp q) (pp (pp q))))).2, own_lenI]; have := own_lt ((own_h pp q) ((own_h pp q) (pp (pp q)))); omega)
      have hat27 : cl27.slots[((own_n ((own_h pp q) ((own_h pp q) (pp (pp q)))))).toNatClampNeg]? = some (.int (own_n ((own_h (own_h pp q) (pp (pp q))) ((own_h pp q) ((own_h pp q) (pp (pp q))))))) := atA Sl27 (by rw [(own_ix ((own_h pp q) ((own_h pp q) (pp (pp q))))).2]; exact own_getI (own_h (own_h pp q) (pp (pp q))) hd ((own_h pp q) ((own_h pp q) (pp (pp q)))))
      refine Goal.to (B := T26.setTop (mkF m 40 #[.val (.ref va), .val (.int (own_n q)), .val (.int (own_n ((own_h pp q) ((own_h pp q) (pp (pp q))))))] [(.int (own_n ((own_h pp q) ((own_h pp q) (pp (pp q))))))])) (fun tt kk => ?_) ?_
      · show Steps p.tables e below (T26.setTop (mkF m 7 #[.val (.ref va), .val (.int (own_n q)), .val (.int (own_n ((own_h pp q) ((own_h pp q) (pp (pp q))))))] [(.int (own_n ((own_h pp q) ((own_h pp q) (pp (pp q)))))), (.ref vi)])) tt
        refine X26.iaload hx (j := (own_n ((own_h pp q) ((own_h pp q) (pp (pp q)))))) (v := (.int (own_n ((own_h (own_h pp q) (pp (pp q))) ((own_h pp q) ((own_h pp q) (pp (pp q)))))))) (by rw [e26]; exact Ar27.1) (State.isArrayOf_alike hZ.alike Ar27.2.1) Ar27.2.2 hin27 hat27 (g := (mkF m 7 #[.val (.ref va), .val (.int (own_n q)), .val (.int (own_n ((own_h pp q) ((own_h pp q) (pp (pp q))))))] [(.int (own_n ((own_h pp q) ((own_h pp q) (pp (pp q)))))), (.ref vi)])) rfl rfl (hb hby d16_7) _ ?_
        show Steps p.tables e below (T26.setTop (mkF m 8 #[.val (.ref va), .val (.int (own_n q)), .val (.int (own_n ((own_h pp q) ((own_h pp q) (pp (pp q))))))] [(.int (own_n ((own_h (own_h pp q) (pp (pp q))) ((own_h pp q) ((own_h pp q) (pp (pp q)))))))])) tt
        refine XS.iloadN X26.here hx rfl (hb hby d16_8) rfl ?_
        show Steps p.tables e below (T26.setTop (mkF m 9 #[.val (.ref va), .val (.int (own_n q)), .val (.int (own_n ((own_h pp q) ((own_h pp q) (pp (pp q))))))] [(.int (own_n ((own_h pp q) ((own_h pp q) (pp (pp q)))))), (.int (own_n ((own_h (own_h pp q) (pp (pp q))) ((own_h pp q) ((own_h pp q) (pp (pp q)))))))])) tt
        refine XS.icmpYes X26.here hx rfl (pc0 := 9) (pc' := 39) rfl (hb hby d16_9) rfl (teq (congrArg own_n ((own_find hI (fun e => ht0 (congrArg own_n e))).2 (fun e => ht1 (congrArg own_n e))) : (own_n ((own_h (own_h pp q) (pp (pp q))) ((own_h pp q) ((own_h pp q) (pp (pp q)))))) = (own_n ((own_h pp q) ((own_h pp q) (pp (pp q))))))).1 (by decide) (by decide) ?_
        show Steps p.tables e below (T26.setTop (mkF m 39 #[.val (.ref va), .val (.int (own_n q)), .val (.int (own_n ((own_h pp q) ((own_h pp q) (pp (pp q))))))] [])) tt
        refine XS.iloadN X26.here hx rfl (hb hby d16_39) rfl ?_
        exact kk
      have f28 : Keep h0 h21 [vi] := (((Keep.refl h0 [vi]).wr W8 (Or.inl (List.mem_of_getElem? (i := 0) rfl))).wr W21 (Or.inl (List.mem_of_getElem? (i := 0) rfl)))
      exact Goal.retV X26 hx Bd.returns rfl (Or.inl ⟨rfl, Or.inl rfl, _, rfl⟩) (hb hby d16_40) hlk e26 ⟨(own_h (own_h pp q) (pp (pp q))), (congrArg some (by rw [← own_root (own_find (own_find hI (fun e => ht0 (congrArg own_n e))).1 (fun e => ht1 (congrArg own_n e))).1 ((own_find hI (fun e => ht0 (congrArg own_n e))).2 (fun e => ht1 (congrArg own_n e))), own_up (own_find hI (fun e => ht0 (congrArg own_n e))).1, own_up (own_find hI (fun e => ht0 (congrArg own_n e))).1, own_up hI, own_up hI] : ((.int (own_n ((own_h pp q) ((own_h pp q) (pp (pp q)))))) : Value) = (.int (own_n (rr q))))), N21, f28, V22, (own_find (own_find hI (fun e => ht0 (congrArg own_n e))).1 (fun e => ht1 (congrArg own_n e))).1⟩ (by decide) (by decide)
theorem ef_0 (m : MethodId) (x0 : Int32) (x1 : Int32) (x2 : Int32) (x3 : Int32) (x4 : Int32)  : entryFrame m #[(.int x0), (.int x1), (.int x2), (.int x3), (.int x4)] maxLocals = mkF m 0 #[.val (.int x0), .val (.int x1), .val (.int x2), .val (.int x3), .val (.int x4), .unset, .unset, .unset, .unset, .unset] [] := by first | (simp [entryFrame, mkF, argsToLocals, Value.category, maxLocals]; done) | rfl
theorem pn_0 : plainName "com/example/deferra/deferra/engine/IdentitiesFindPinLaw" = true := by first | (simp [plainName, overriddenIn]; done) | decide +kernel
theorem pd_0 : parseMethodDescriptor "(IZ)V" = some ⟨[.int, .boolean], none⟩ := by decide +kernel
theorem pd_3 : parseMethodDescriptor "(Z)I" = some ⟨[.boolean], some .int⟩ := by decide +kernel
theorem pd_4 : parseMethodDescriptor "(Lcom/example/deferra/deferra/engine/Identities;[II)V" = some ⟨[(.object "com/example/deferra/deferra/engine/Identities"), (.array .int), .int], none⟩ := by decide +kernel
def Q0 (Z : State) (u0 : Int32) (u1 : Int32) (u2 : Int32) (u3 : Int32) (u4 : Int32) (asm : Addr) (h0 : Heap) (n0 : Nat) (v : Option Value) (h : Heap) (L : List Loc) : Prop := v = some (.int (1 : Int32)) ∧ Fr n0 L
set_option maxRecDepth 65536 in
set_option maxHeartbeats 40000000 in
theorem rm0 (l : Launch) (Z : State) (a0 : Array Value) (hw : ∀ d ∈ tables_1, d.before a0 Z = true) (ws : List Jvm.Cond) (u0 : Int32) (u1 : Int32) (u2 : Int32) (u3 : Int32) (u4 : Int32) (asm : Addr) (h0 : Heap) (n0 : Nat) (Z0 : n0 ≤ h0.size) (S_SAME : StaN Z n0 h0 "com/example/deferra/deferra/engine/Identities$Relation" "SAME" "Lcom/example/deferra/deferra/engine/Identities$Relation;" (.ref asm)) :
    MetFree l x (head1 (Jvm.Cond.code x code maxLocals ret :: ws) room_1) (fun a U => a = #[(.int u0), (.int u1), (.int u2), (.int u3), (.int u4)] ∧ Z.Warmed39 U.vm ∧ U.heap = h0) (fun _ _ _ _ _ => True) (fun _ U o U' => ∃ v L, o = .returned v ∧ Q0 Z u0 u1 u2 u3 u4 asm h0 n0 v U'.heap L ∧ FrameEnd U o U' L 16 320) := by
  refine MetFree.of_bodySF (plainFor_of_name pn_0) hisR ?_
  intro p e s m args below meth c s₁ Bd hml0 hP hK
  obtain ⟨rfl, hZ, hh⟩ := hP
  have hx := Bd.exec
  have hby := Bd.bytes
  have hml : c.maxLocals = 10 := hml0
  have hown : s.vm.findClass "com/example/deferra/deferra/engine/IdentitiesFindPinLaw" = some m.cls := findClass_of_methodNamed Bd.named
  have hnm := (name_of_methodNamed Bd.named Bd.method).1
  have X0 : Stand p l e room_1 s m #[(.int u0), (.int u1), (.int u2), (.int u3), (.int u4)] below meth c s₁ [] 0 0 := Stand.of_body Bd
  have e0 : s₁.heap = h0 := by rw [← hh, Bd.state]; rfl
  have N0 := Fr.nil n0
  have hlk : meth.locks = false := BodyLoose.notSynchronized Bd
  show Goal p e below s (Q0 Z u0 u1 u2 u3 u4 asm h0 n0) 16 320 (s₁.setTop (entryFrame m #[(.int u0), (.int u1), (.int u2), (.int u3), (.int u4)] maxLocals))
  refine Goal.to (B := s₁.setTop (mkF m 0 #[.val (.int u0), .val (.int u1), .val (.int u2), .val (.int u3), .val (.int u4), .unset, .unset, .unset, .unset, .unset] [])) (fun tt kk => castTop (ef_0 m u0 u1 u2 u3 u4 ) kk) ?_
  obtain ⟨T1, h1, X1, e1, E1, A1, D1, -, st1⟩ := newO X0 hx hZ hown (hw _ (mw 0 rfl)) (hw _ (mw 1 rfl)) (hw _ (mw 2 rfl)) e0 (g := (mkF m 0 #[.val (.int u0), .val (.int u1), .val (.int u2), .val (.int u3), .val (.int u4), .unset, .unset, .unset, .unset, .unset] [])) rfl (hb hby at_0) (by decide) (by decide)
  obtain ⟨b1, g1⟩ : ∃ z, z = h0.size := ⟨_, rfl⟩
  rw [← g1] at A1 D1 st1
  have g_b1 : n0 ≤ b1 := Nat.le_trans Z0 (Nat.le_of_eq g1.symm)
  have F_count_b1 : Fld Z h1 b1 "com/example/deferra/deferra/engine/Identities" "count" "I" (.int (0 : Int32)) := D1 (Or.inl (hw _ (mw 11 rfl))) (ty := .int) (by decide)
  have F_slots_b1 : Fld Z h1 b1 "com/example/deferra/deferra/engine/Identities" "slots" "I" (.int (0 : Int32)) := D1 (Or.inl (hw _ (mw 13 rfl))) (ty := .int) (by decide)
  have F_words_b1 : Fld Z h1 b1 "com/example/deferra/deferra/engine/Identities" "words" "I" (.int (0 : Int32)) := D1 (Or.inl (hw _ (mw 15 rfl))) (ty := .int) (by decide)
  have F_capacity_b1 : Fld Z h1 b1 "com/example/deferra/deferra/engine/Identities" "capacity" "I" (.int (0 : Int32)) := D1 (Or.inr (hw _ (mw 17 rfl))) (ty := .int) (by decide)
  have F_nullAllowed_b1 : Fld Z h1 b1 "com/example/deferra/deferra/engine/Identities" "nullAllowed" "Z" (.int (0 : Int32)) := D1 (Or.inr (hw _ (mw 19 rfl))) (ty := .boolean) (by decide)
  have F_ints_b1 : Fld Z h1 b1 "com/example/deferra/deferra/engine/Identities" "ints" "[I" .null := D1 (Or.inl (hw _ (mw 25 rfl))) (ty := (.array .int)) (by decide)
  have F_numberAt_b1 : Fld Z h1 b1 "com/example/deferra/deferra/engine/Identities" "numberAt" "I" (.int (0 : Int32)) := D1 (Or.inl (hw _ (mw 31 rfl))) (ty := .int) (by decide)
  have F_colourAt_b1 : Fld Z h1 b1 "com/example/deferra/deferra/engine/Identities" "colourAt" "I" (.int (0 : Int32)) := D1 (Or.inl (hw _ (mw 33 rfl))) (ty := .int) (by decide)
  have F_madeAt_b1 : Fld Z h1 b1 "com/example/deferra/deferra/engine/Identities" "madeAt" "I" (.int (0 : Int32)) := D1 (Or.inl (hw _ (mw 35 rfl))) (ty := .int) (by decide)
  have F_holdersAt_b1 : Fld Z h1 b1 "com/example/deferra/deferra/engine/Identities" "holdersAt" "I" (.int (0 : Int32)) := D1 (Or.inl (hw _ (mw 37 rfl))) (ty := .int) (by decide)
  have F_rows_b1 : Fld Z h1 b1 "com/example/deferra/deferra/engine/Identities" "rows" "[J" .null := D1 (Or.inl (hw _ (mw 40 rfl))) (ty := (.array .long)) (by decide)
  have F_openCount_b1 : Fld Z h1 b1 "com/example/deferra/deferra/engine/Identities" "openCount" "I" (.int (0 : Int32)) := D1 (Or.inl (hw _ (mw 47 rfl))) (ty := .int) (by decide)
  have F_madeCount_b1 : Fld Z h1 b1 "com/example/deferra/deferra/engine/Identities" "madeCount" "I" (.int (0 : Int32)) := D1 (Or.inl (hw _ (mw 99 rfl))) (ty := .int) (by decide)
  refine Goal.to (B := T1.setTop (mkF m 3 #[.val (.int u0), .val (.int u1), .val (.int u2), .val (.int u3), .val (.int u4), .unset, .unset, .unset, .unset, .unset] [(.ref b1)])) st1 ?_
  refine Goal.to (B := T1.setTop (mkF m 9 #[.val (.int u0), .val (.int u1), .val (.int u2), .val (.int u3), .val (.int u4), .unset, .unset, .unset, .unset, .unset] [(.int (1 : Int32)), (.int (u0 &&& (2147483647 : Int32))), (.ref b1), (.ref b1)])) (fun tt kk => ?_) ?_
  · show Steps p.tables e below (T1.setTop (mkF m 3 #[.val (.int u0), .val (.int u1), .val (.int u2), .val (.int u3), .val (.int u4), .unset, .unset, .unset, .unset, .unset] [(.ref b1)])) tt
    refine XS.dup X1.here hx rfl (hb hby at_3) rfl rfl ?_
    show Steps p.tables e below (T1.setTop (mkF m 4 #[.val (.int u0), .val (.int u1), .val (.int u2), .val (.int u3), .val (.int u4), .unset, .unset, .unset, .unset, .unset] [(.ref b1), (.ref b1)])) tt
    refine XS.iloadN X1.here hx rfl (hb hby at_4) rfl ?_
    show Steps p.tables e below (T1.setTop (mkF m 5 #[.val (.int u0), .val (.int u1), .val (.int u2), .val (.int u3), .val (.int u4), .unset, .unset, .unset, .unset, .unset] [(.int u0), (.ref b1), (.ref b1)])) tt
    refine X1.ldcInt hx hown (mvT hZ (hw _ (mw 3 rfl))) (g := (mkF m 5 #[.val (.int u0), .val (.int u1), .val (.int u2), .val (.int u3), .val (.int u4), .unset, .unset, .unset, .unset, .unset] [(.int u0), (.ref b1), (.ref b1)])) rfl (hb hby at_5) _ ?_
    show Steps p.tables e below (T1.setTop (mkF m 7 #[.val (.int u0), .val (.int u1), .val (.int u2), .val (.int u3), .val (.int u4), .unset, .unset, .unset, .unset, .unset] [(.int (2147483647 : Int32)), (.int u0), (.ref b1), (.ref b1)])) tt
    refine XS.iand X1.here hx rfl (hb hby at_7) rfl ?_
    show Steps p.tables e below (T1.setTop (mkF m 8 #[.val (.int u0), .val (.int u1), .val (.int u2), .val (.int u3), .val (.int u4), .unset, .unset, .unset, .unset, .unset] [(.int (u0 &&& (2147483647 : Int32))), (.ref b1), (.ref b1)])) tt
    refine XS.iconst X1.here hx rfl (hb hby at_8) ?_
    exact kk
  have f2 : n0 ≤ h1.size := (Nat.le_trans Z0 E1.1)
  obtain ⟨_, _, ⟨T3, L3, k3, n3⟩, -, X3, ⟨Lc3, hQ3, l3, y3, z3⟩, st3⟩ := X1.specialBack hx (y := (⟨"com/example/deferra/deferra/engine/Identities", "<init>", "(IZ)V"⟩ : MethodName)) rfl hown (mvT hZ (hw _ (mw 4 rfl))) (mvT hZ (hw _ (mw 5 rfl))) (mvT hZ (hw _ (mw 6 rfl))) (by decide) (backOf (W := 1) (rmN l Z a0 hw [] b1 (u0 &&& (2147483647 : Int32)) h1 n0 f2 A1 F_count_b1 F_slots_b1 F_words_b1 F_capacity_b1 F_nullAllowed_b1 F_ints_b1 F_numberAt_b1 F_colourAt_b1 F_madeAt_b1 F_holdersAt_b1 F_rows_b1 F_openCount_b1 g_b1) hZ (hw _ (mw 6 rfl)) (hw _ (mw 2 rfl)) (by decide) (by decide)) (g := (mkF m 9 #[.val (.int u0), .val (.int u1), .val (.int u2), .val (.int u3), .val (.int u4), .unset, .unset, .unset, .unset, .unset] [(.int (1 : Int32)), (.int (u0 &&& (2147483647 : Int32))), (.ref b1), (.ref b1)])) rfl (by rw [hml]; rfl) (Steps.refl _) (a := b1) (argsL := [(.int (u0 &&& (2147483647 : Int32))), (.int (1 : Int32))]) (rest := [(.ref b1)]) (lenOf pd_0 rfl) rfl (by show 2 * 0 + _ ≤ _; exact Nat.le_of_eq rfl) (hb hby at_9) (fun _ _ => ⟨rfl, e1, (by decide : 1 + 2 ≤ _), (by decide : 21 + 99 ≤ _)⟩)
  dsimp only [Pt.U, Pt.locs, Pt.cells, Pt.slots] at X3 l3 y3 z3 st3 hQ3
  subst l3 y3 z3
  obtain ⟨vi_3, vr_3, rfl, N3q, K3, sz3_vi, sz3_vr, ne3_vi_vr, P3_0, P3_1, P3_2, P3_3, P3_4, P3_5, P3_6, P3_7, P3_8, P3_9, P3_10, P3_11, P3_12, P3_13⟩ := hQ3
  have N3 := Fr.app N0 N3q
  have ne_b1_vi_3 : b1 ≠ vi_3 := Nat.ne_of_lt (Nat.lt_of_lt_of_le A1.lt sz3_vi)
  have g_vi_3 : n0 ≤ vi_3 := Nat.le_trans f2 sz3_vi
  have ne_b1_vr_3 : b1 ≠ vr_3 := Nat.ne_of_lt (Nat.lt_of_lt_of_le A1.lt sz3_vr)
  have g_vr_3 : n0 ≤ vr_3 := Nat.le_trans f2 sz3_vr
  refine Goal.tr (B := T3.setTop (mkF m 12 #[.val (.int u0), .val (.int u1), .val (.int u2), .val (.int u3), .val (.int u4), .unset, .unset, .unset, .unset, .unset] [(.ref b1)])) st3 ?_
  refine Goal.to (B := T3.setTop (mkF m 17 #[.val (.int u0), .val (.int u1), .val (.int u2), .val (.int u3), .val (.int u4), .val (.ref b1), .unset, .unset, .unset, .unset] [(.int (0 : Int32)), (.ref b1)])) (fun tt kk => ?_) ?_
  · show Steps p.tables e below (T3.setTop (mkF m 12 #[.val (.int u0), .val (.int u1), .val (.int u2), .val (.int u3), .val (.int u4), .unset, .unset, .unset, .unset, .unset] [(.ref b1)])) tt
    refine XS.astore X3.here hx rfl (hb hby at_12) rfl rfl (l' := #[.val (.int u0), .val (.int u1), .val (.int u2), .val (.int u3), .val (.int u4), .val (.ref b1), .unset, .unset, .unset, .unset]) rfl ?_
    show Steps p.tables e below (T3.setTop (mkF m 14 #[.val (.int u0), .val (.int u1), .val (.int u2), .val (.int u3), .val (.int u4), .val (.ref b1), .unset, .unset, .unset, .unset] [])) tt
    refine XS.aload X3.here hx rfl (hb hby at_14) rfl rfl ?_
    show Steps p.tables e below (T3.setTop (mkF m 16 #[.val (.int u0), .val (.int u1), .val (.int u2), .val (.int u3), .val (.int u4), .val (.ref b1), .unset, .unset, .unset, .unset] [(.ref b1)])) tt
    refine XS.iconst X3.here hx rfl (hb hby at_16) ?_
    exact kk
  have f4 : Exa Z T3.heap b1 "com/example/deferra/deferra/engine/Identities" := (A1.keep K3)
  have f5 : n0 ≤ T3.heap.size := (Nat.le_trans f2 K3.1)
  obtain ⟨cq6, kq6, q6a, q6b, q6c⟩ := isOf hZ rfl f4
  obtain ⟨_, _, ⟨T6, L6, k6, n6⟩, -, X6, ⟨Lc6, hQ6, l6, y6, z6⟩, st6⟩ := X3.virtualBack hx (y := (⟨"com/example/deferra/deferra/engine/Identities", "take", "(Z)I"⟩ : MethodName)) (z := (⟨"com/example/deferra/deferra/engine/Identities", "take", "(Z)I"⟩ : MethodName)) hown (mvT hZ (hw _ (mw 41 rfl))) (mvT hZ (hw _ (mw 42 rfl))) (notFace_of_selects (args := #[]) (mvT hZ (hw _ (mw 44 rfl)))) (mvT hZ (hw _ (mw 44 rfl))) (mvT hZ (hw _ (mw 43 rfl))) (by decide) (backOf (W := 0) (rmtk1 l Z a0 hw [] b1 vi_3 vr_3 (u0 &&& (2147483647 : Int32)) T3.heap n0 f5 f4 P3_0 P3_1 P3_2 P3_3 P3_4 P3_5 P3_6 P3_7 P3_8 P3_9 P3_10 P3_11 P3_12 P3_13 g_b1 g_vi_3 g_vr_3 ne_b1_vi_3 ne_b1_vr_3 ne3_vi_vr (own_cap u0)) hZ (hw _ (mw 45 rfl)) (hw _ (mw 2 rfl)) (by decide) (by decide)) q6a q6c (g := (mkF m 17 #[.val (.int u0), .val (.int u1), .val (.int u2), .val (.int u3), .val (.int u4), .val (.ref b1), .unset, .unset, .unset, .unset] [(.int (0 : Int32)), (.ref b1)])) rfl (by rw [hml]; rfl) (Steps.refl _) (argsL := [(.int (0 : Int32))]) (rest := []) (lenOf pd_3 rfl) rfl (by show 2 * 0 + _ ≤ _; exact Nat.le_of_eq rfl) (hb hby at_17) (fun _ _ => ⟨rfl, rfl, (by decide : 3 + 0 ≤ _), (by decide : 120 + 0 ≤ _)⟩)
  dsimp only [Pt.U, Pt.locs, Pt.cells, Pt.slots] at X6 l6 y6 z6 st6 hQ6
  subst l6 y6 z6
  obtain ⟨rfl, N6q, K6, P6_0, P6_1, P6_2, P6_3, P6_4, P6_5, P6_6, P6_7, P6_8, P6_9, P6_10, P6_11, P6_12, P6_13⟩ := hQ6
  have N6 := Fr.app N3 N6q
  refine Goal.tr (B := T6.setTop (mkF m 20 #[.val (.int u0), .val (.int u1), .val (.int u2), .val (.int u3), .val (.int u4), .val (.ref b1), .unset, .unset, .unset, .unset] [(.int (1 : Int32))])) st6 ?_
  refine Goal.to (B := T6.setTop (mkF m 24 #[.val (.int u0), .val (.int u1), .val (.int u2), .val (.int u3), .val (.int u4), .val (.ref b1), .unset, .unset, .unset, .unset] [(.int (0 : Int32)), (.ref b1)])) (fun tt kk => ?_) ?_
  · show Steps p.tables e below (T6.setTop (mkF m 20 #[.val (.int u0), .val (.int u1), .val (.int u2), .val (.int u3), .val (.int u4), .val (.ref b1), .unset, .unset, .unset, .unset] [(.int (1 : Int32))])) tt
    refine XS.pop X6.here hx rfl (hb hby at_20) rfl rfl ?_
    show Steps p.tables e below (T6.setTop (mkF m 21 #[.val (.int u0), .val (.int u1), .val (.int u2), .val (.int u3), .val (.int u4), .val (.ref b1), .unset, .unset, .unset, .unset] [])) tt
    refine XS.aload X6.here hx rfl (hb hby at_21) rfl rfl ?_
    show Steps p.tables e below (T6.setTop (mkF m 23 #[.val (.int u0), .val (.int u1), .val (.int u2), .val (.int u3), .val (.int u4), .val (.ref b1), .unset, .unset, .unset, .unset] [(.ref b1)])) tt
    refine XS.iconst X6.here hx rfl (hb hby at_23) ?_
    exact kk
  have f7 : Exa Z T6.heap b1 "com/example/deferra/deferra/engine/Identities" := (f4.keep K6)
  have f8 : n0 ≤ T6.heap.size := (Nat.le_trans f5 K6.1)
  obtain ⟨cq9, kq9, q9a, q9b, q9c⟩ := isOf hZ rfl f7
  obtain ⟨_, _, ⟨T9, L9, k9, n9⟩, -, X9, ⟨Lc9, hQ9, l9, y9, z9⟩, st9⟩ := X6.virtualBack hx (y := (⟨"com/example/deferra/deferra/engine/Identities", "take", "(Z)I"⟩ : MethodName)) (z := (⟨"com/example/deferra/deferra/engine/Identities", "take", "(Z)I"⟩ : MethodName)) hown (mvT hZ (hw _ (mw 41 rfl))) (mvT hZ (hw _ (mw 42 rfl))) (notFace_of_selects (args := #[]) (mvT hZ (hw _ (mw 44 rfl)))) (mvT hZ (hw _ (mw 44 rfl))) (mvT hZ (hw _ (mw 43 rfl))) (by decide) (backOf (W := 0) (rmtk2 l Z a0 hw [] b1 vi_3 vr_3 (u0 &&& (2147483647 : Int32)) T6.heap n0 f8 f7 P6_0 P6_1 P6_2 P6_3 P6_4 P6_5 P6_6 P6_7 P6_8 P6_9 P6_10 P6_11 P6_12 P6_13 g_b1 g_vi_3 g_vr_3 ne_b1_vi_3 ne_b1_vr_3 ne3_vi_vr (own_cap u0)) hZ (hw _ (mw 45 rfl)) (hw _ (mw 2 rfl)) (by decide) (by decide)) q9a q9c (g := (mkF m 24 #[.val (.int u0), .val (.int u1), .val (.int u2), .val (.int u3), .val (.int u4), .val (.ref b1), .unset, .unset, .unset, .unset] [(.int (0 : Int32)), (.ref b1)])) rfl (by rw [hml]; rfl) (Steps.refl _) (argsL := [(.int (0 : Int32))]) (rest := []) (lenOf pd_3 rfl) rfl (by show 2 * 0 + _ ≤ _; exact Nat.le_of_eq rfl) (hb hby at_24) (fun _ _ => ⟨rfl, rfl, (by decide : 3 + 0 ≤ _), (by decide : 120 + 0 ≤ _)⟩)
  dsimp only [Pt.U, Pt.locs, Pt.cells, Pt.slots] at X9 l9 y9 z9 st9 hQ9
  subst l9 y9 z9
  obtain ⟨rfl, N9q, K9, P9_0, P9_1, P9_2, P9_3, P9_4, P9_5, P9_6, P9_7, P9_8, P9_9, P9_10, P9_11, P9_12, P9_13⟩ := hQ9
  have N9 := Fr.app N6 N9q
  refine Goal.tr (B := T9.setTop (mkF m 27 #[.val (.int u0), .val (.int u1), .val (.int u2), .val (.int u3), .val (.int u4), .val (.ref b1), .unset, .unset, .unset, .unset] [(.int (2 : Int32))])) st9 ?_
  refine Goal.to (B := T9.setTop (mkF m 31 #[.val (.int u0), .val (.int u1), .val (.int u2), .val (.int u3), .val (.int u4), .val (.ref b1), .unset, .unset, .unset, .unset] [(.int (0 : Int32)), (.ref b1)])) (fun tt kk => ?_) ?_
  · show Steps p.tables e below (T9.setTop (mkF m 27 #[.val (.int u0), .val (.int u1), .val (.int u2), .val (.int u3), .val (.int u4), .val (.ref b1), .unset, .unset, .unset, .unset] [(.int (2 : Int32))])) tt
    refine XS.pop X9.here hx rfl (hb hby at_27) rfl rfl ?_
    show Steps p.tables e below (T9.setTop (mkF m 28 #[.val (.int u0), .val (.int u1), .val (.int u2), .val (.int u3), .val (.int u4), .val (.ref b1), .unset, .unset, .unset, .unset] [])) tt
    refine XS.aload X9.here hx rfl (hb hby at_28) rfl rfl ?_
    show Steps p.tables e below (T9.setTop (mkF m 30 #[.val (.int u0), .val (.int u1), .val (.int u2), .val (.int u3), .val (.int u4), .val (.ref b1), .unset, .unset, .unset, .unset] [(.ref b1)])) tt
    refine XS.iconst X9.here hx rfl (hb hby at_30) ?_
    exact kk
  have f10 : Exa Z T9.heap b1 "com/example/deferra/deferra/engine/Identities" := (f7.keep K9)
  have f11 : n0 ≤ T9.heap.size := (Nat.le_trans f8 K9.1)
  obtain ⟨cq12, kq12, q12a, q12b, q12c⟩ := isOf hZ rfl f10
  obtain ⟨_, _, ⟨T12, L12, k12, n12⟩, -, X12, ⟨Lc12, hQ12, l12, y12, z12⟩, st12⟩ := X9.virtualBack hx (y := (⟨"com/example/deferra/deferra/engine/Identities", "take", "(Z)I"⟩ : MethodName)) (z := (⟨"com/example/deferra/deferra/engine/Identities", "take", "(Z)I"⟩ : MethodName)) hown (mvT hZ (hw _ (mw 41 rfl))) (mvT hZ (hw _ (mw 42 rfl))) (notFace_of_selects (args := #[]) (mvT hZ (hw _ (mw 44 rfl)))) (mvT hZ (hw _ (mw 44 rfl))) (mvT hZ (hw _ (mw 43 rfl))) (by decide) (backOf (W := 0) (rmtk3 l Z a0 hw [] b1 vi_3 vr_3 (u0 &&& (2147483647 : Int32)) T9.heap n0 f11 f10 P9_0 P9_1 P9_2 P9_3 P9_4 P9_5 P9_6 P9_7 P9_8 P9_9 P9_10 P9_11 P9_12 P9_13 g_b1 g_vi_3 g_vr_3 ne_b1_vi_3 ne_b1_vr_3 ne3_vi_vr (own_cap u0)) hZ (hw _ (mw 45 rfl)) (hw _ (mw 2 rfl)) (by decide) (by decide)) q12a q12c (g := (mkF m 31 #[.val (.int u0), .val (.int u1), .val (.int u2), .val (.int u3), .val (.int u4), .val (.ref b1), .unset, .unset, .unset, .unset] [(.int (0 : Int32)), (.ref b1)])) rfl (by rw [hml]; rfl) (Steps.refl _) (argsL := [(.int (0 : Int32))]) (rest := []) (lenOf pd_3 rfl) rfl (by show 2 * 0 + _ ≤ _; exact Nat.le_of_eq rfl) (hb hby at_31) (fun _ _ => ⟨rfl, rfl, (by decide : 3 + 0 ≤ _), (by decide : 120 + 0 ≤ _)⟩)
  dsimp only [Pt.U, Pt.locs, Pt.cells, Pt.slots] at X12 l12 y12 z12 st12 hQ12
  subst l12 y12 z12
  obtain ⟨rfl, N12q, K12, P12_0, P12_1, P12_2, P12_3, P12_4, P12_5, P12_6, P12_7, P12_8, P12_9, P12_10, P12_11, P12_12, P12_13⟩ := hQ12
  have N12 := Fr.app N9 N12q
  refine Goal.tr (B := T12.setTop (mkF m 34 #[.val (.int u0), .val (.int u1), .val (.int u2), .val (.int u3), .val (.int u4), .val (.ref b1), .unset, .unset, .unset, .unset] [(.int (3 : Int32))])) st12 ?_
  refine Goal.to (B := T12.setTop (mkF m 36 #[.val (.int u0), .val (.int u1), .val (.int u2), .val (.int u3), .val (.int u4), .val (.ref b1), .unset, .unset, .unset, .unset] [(.int (4 : Int32))])) (fun tt kk => ?_) ?_
  · show Steps p.tables e below (T12.setTop (mkF m 34 #[.val (.int u0), .val (.int u1), .val (.int u2), .val (.int u3), .val (.int u4), .val (.ref b1), .unset, .unset, .unset, .unset] [(.int (3 : Int32))])) tt
    refine XS.pop X12.here hx rfl (hb hby at_34) rfl rfl ?_
    show Steps p.tables e below (T12.setTop (mkF m 35 #[.val (.int u0), .val (.int u1), .val (.int u2), .val (.int u3), .val (.int u4), .val (.ref b1), .unset, .unset, .unset, .unset] [])) tt
    refine XS.iconst X12.here hx rfl (hb hby at_35) ?_
    exact kk
  have f14 : Exa Z T12.heap b1 "com/example/deferra/deferra/engine/Identities" := (f10.keep K12)
  have f15 : n0 ≤ T12.heap.size := (Nat.le_trans f11 K12.1)
  obtain ⟨T13, h13, k13, X13, e13, E13, A13, st13⟩ := newP X12 hx hZ (hw _ (mw 23 rfl)) rfl (g := (mkF m 36 #[.val (.int u0), .val (.int u1), .val (.int u2), .val (.int u3), .val (.int u4), .val (.ref b1), .unset, .unset, .unset, .unset] [(.int (4 : Int32))])) rfl (hb hby at_36) rfl (by decide) (cap := 4) (by decide) (by decide) (by decide) (by decide)
  obtain ⟨b13, g13⟩ : ∃ z, z = T12.heap.size := ⟨_, rfl⟩
  rw [← g13] at A13 st13
  have ne_b1_b13 : b1 ≠ b13 := Nat.ne_of_lt (Nat.lt_of_lt_of_le f14.lt (Nat.le_of_eq g13.symm))
  have ne_vi_3_b13 : vi_3 ≠ b13 := Nat.ne_of_lt (Nat.lt_of_lt_of_le P12_12.lt (Nat.le_of_eq g13.symm))
  have ne_vr_3_b13 : vr_3 ≠ b13 := Nat.ne_of_lt (Nat.lt_of_lt_of_le P12_13.lt (Nat.le_of_eq g13.symm))
  have g_b13 : n0 ≤ b13 := Nat.le_trans f15 (Nat.le_of_eq g13.symm)
  have V13 : Ary Z h13 b13 .int [(.int (0 : Int32)), (.int (0 : Int32)), (.int (0 : Int32)), (.int (0 : Int32))] := Ary.new A13 rfl
  refine Goal.to (B := T13.setTop (mkF m 38 #[.val (.int u0), .val (.int u1), .val (.int u2), .val (.int u3), .val (.int u4), .val (.ref b1), .unset, .unset, .unset, .unset] [(.ref b13)])) st13 ?_
  refine Goal.to (B := T13.setTop (mkF m 41 #[.val (.int u0), .val (.int u1), .val (.int u2), .val (.int u3), .val (.int u4), .val (.ref b1), .unset, .unset, .unset, .unset] [(.int (0 : Int32)), (.int (0 : Int32)), (.ref b13), (.ref b13)])) (fun tt kk => ?_) ?_
  · show Steps p.tables e below (T13.setTop (mkF m 38 #[.val (.int u0), .val (.int u1), .val (.int u2), .val (.int u3), .val (.int u4), .val (.ref b1), .unset, .unset, .unset, .unset] [(.ref b13)])) tt
    refine XS.dup X13.here hx rfl (hb hby at_38) rfl rfl ?_
    show Steps p.tables e below (T13.setTop (mkF m 39 #[.val (.int u0), .val (.int u1), .val (.int u2), .val (.int u3), .val (.int u4), .val (.ref b1), .unset, .unset, .unset, .unset] [(.ref b13), (.ref b13)])) tt
    refine XS.iconst X13.here hx rfl (hb hby at_39) ?_
    show Steps p.tables e below (T13.setTop (mkF m 40 #[.val (.int u0), .val (.int u1), .val (.int u2), .val (.int u3), .val (.int u4), .val (.ref b1), .unset, .unset, .unset, .unset] [(.int (0 : Int32)), (.ref b13), (.ref b13)])) tt
    refine XS.iconst X13.here hx rfl (hb hby at_40) ?_
    exact kk
  obtain ⟨cl16, Ar16, Sl16⟩ := id V13
  have hin16 := inA (cl := cl16) Sl16 (j := (0 : Int32)) (by decide) (Nat.le_of_ble_eq_true rfl)
  obtain ⟨T16, h16, X16, e16, W16, st16⟩ := stI X13 hx hZ e13 Ar16 (j := (0 : Int32)) hin16 (g := (mkF m 41 #[.val (.int u0), .val (.int u1), .val (.int u2), .val (.int u3), .val (.int u4), .val (.ref b1), .unset, .unset, .unset, .unset] [(.int (0 : Int32)), (.int (0 : Int32)), (.ref b13), (.ref b13)])) rfl rfl (hb hby at_41)
  have V16 : Ary Z h16 b13 .int [(.int (0 : Int32)), (.int (0 : Int32)), (.int (0 : Int32)), (.int (0 : Int32))] := Ary.put Ar16 Sl16 W16 rfl
  have N16 := Fr.snoc X16 N12 g_b13
  refine Goal.to (B := T16.setTop (mkF m 42 #[.val (.int u0), .val (.int u1), .val (.int u2), .val (.int u3), .val (.int u4), .val (.ref b1), .unset, .unset, .unset, .unset] [(.ref b13)])) st16 ?_
  refine Goal.to (B := T16.setTop (mkF m 45 #[.val (.int u0), .val (.int u1), .val (.int u2), .val (.int u3), .val (.int u4), .val (.ref b1), .unset, .unset, .unset, .unset] [(.int (1 : Int32)), (.int (1 : Int32)), (.ref b13), (.ref b13)])) (fun tt kk => ?_) ?_
  · show Steps p.tables e below (T16.setTop (mkF m 42 #[.val (.int u0), .val (.int u1), .val (.int u2), .val (.int u3), .val (.int u4), .val (.ref b1), .unset, .unset, .unset, .unset] [(.ref b13)])) tt
    refine XS.dup X16.here hx rfl (hb hby at_42) rfl rfl ?_
    show Steps p.tables e below (T16.setTop (mkF m 43 #[.val (.int u0), .val (.int u1), .val (.int u2), .val (.int u3), .val (.int u4), .val (.ref b1), .unset, .unset, .unset, .unset] [(.ref b13), (.ref b13)])) tt
    refine XS.iconst X16.here hx rfl (hb hby at_43) ?_
    show Steps p.tables e below (T16.setTop (mkF m 44 #[.val (.int u0), .val (.int u1), .val (.int u2), .val (.int u3), .val (.int u4), .val (.ref b1), .unset, .unset, .unset, .unset] [(.int (1 : Int32)), (.ref b13), (.ref b13)])) tt
    refine XS.iconst X16.here hx rfl (hb hby at_44) ?_
    exact kk
  obtain ⟨cl17, Ar17, Sl17⟩ := id V16
  have hin17 := inA (cl := cl17) Sl17 (j := (1 : Int32)) (by decide) (Nat.le_of_ble_eq_true rfl)
  obtain ⟨T17, h17, X17, e17, W17, st17⟩ := stI X16 hx hZ e16 Ar17 (j := (1 : Int32)) hin17 (g := (mkF m 45 #[.val (.int u0), .val (.int u1), .val (.int u2), .val (.int u3), .val (.int u4), .val (.ref b1), .unset, .unset, .unset, .unset] [(.int (1 : Int32)), (.int (1 : Int32)), (.ref b13), (.ref b13)])) rfl rfl (hb hby at_45)
  have V17 : Ary Z h17 b13 .int [(.int (0 : Int32)), (.int (1 : Int32)), (.int (0 : Int32)), (.int (0 : Int32))] := Ary.put Ar17 Sl17 W17 rfl
  have N17 := Fr.snoc X17 N16 g_b13
  refine Goal.to (B := T17.setTop (mkF m 46 #[.val (.int u0), .val (.int u1), .val (.int u2), .val (.int u3), .val (.int u4), .val (.ref b1), .unset, .unset, .unset, .unset] [(.ref b13)])) st17 ?_
  refine Goal.to (B := T17.setTop (mkF m 49 #[.val (.int u0), .val (.int u1), .val (.int u2), .val (.int u3), .val (.int u4), .val (.ref b1), .unset, .unset, .unset, .unset] [(.int (2 : Int32)), (.int (2 : Int32)), (.ref b13), (.ref b13)])) (fun tt kk => ?_) ?_
  · show Steps p.tables e below (T17.setTop (mkF m 46 #[.val (.int u0), .val (.int u1), .val (.int u2), .val (.int u3), .val (.int u4), .val (.ref b1), .unset, .unset, .unset, .unset] [(.ref b13)])) tt
    refine XS.dup X17.here hx rfl (hb hby at_46) rfl rfl ?_
    show Steps p.tables e below (T17.setTop (mkF m 47 #[.val (.int u0), .val (.int u1), .val (.int u2), .val (.int u3), .val (.int u4), .val (.ref b1), .unset, .unset, .unset, .unset] [(.ref b13), (.ref b13)])) tt
    refine XS.iconst X17.here hx rfl (hb hby at_47) ?_
    show Steps p.tables e below (T17.setTop (mkF m 48 #[.val (.int u0), .val (.int u1), .val (.int u2), .val (.int u3), .val (.int u4), .val (.ref b1), .unset, .unset, .unset, .unset] [(.int (2 : Int32)), (.ref b13), (.ref b13)])) tt
    refine XS.iconst X17.here hx rfl (hb hby at_48) ?_
    exact kk
  obtain ⟨cl18, Ar18, Sl18⟩ := id V17
  have hin18 := inA (cl := cl18) Sl18 (j := (2 : Int32)) (by decide) (Nat.le_of_ble_eq_true rfl)
  obtain ⟨T18, h18, X18, e18, W18, st18⟩ := stI X17 hx hZ e17 Ar18 (j := (2 : Int32)) hin18 (g := (mkF m 49 #[.val (.int u0), .val (.int u1), .val (.int u2), .val (.int u3), .val (.int u4), .val (.ref b1), .unset, .unset, .unset, .unset] [(.int (2 : Int32)), (.int (2 : Int32)), (.ref b13), (.ref b13)])) rfl rfl (hb hby at_49)
  have V18 : Ary Z h18 b13 .int [(.int (0 : Int32)), (.int (1 : Int32)), (.int (2 : Int32)), (.int (0 : Int32))] := Ary.put Ar18 Sl18 W18 rfl
  have N18 := Fr.snoc X18 N17 g_b13
  refine Goal.to (B := T18.setTop (mkF m 50 #[.val (.int u0), .val (.int u1), .val (.int u2), .val (.int u3), .val (.int u4), .val (.ref b1), .unset, .unset, .unset, .unset] [(.ref b13)])) st18 ?_
  refine Goal.to (B := T18.setTop (mkF m 53 #[.val (.int u0), .val (.int u1), .val (.int u2), .val (.int u3), .val (.int u4), .val (.ref b1), .unset, .unset, .unset, .unset] [(.int (3 : Int32)), (.int (3 : Int32)), (.ref b13), (.ref b13)])) (fun tt kk => ?_) ?_
  · show Steps p.tables e below (T18.setTop (mkF m 50 #[.val (.int u0), .val (.int u1), .val (.int u2), .val (.int u3), .val (.int u4), .val (.ref b1), .unset, .unset, .unset, .unset] [(.ref b13)])) tt
    refine XS.dup X18.here hx rfl (hb hby at_50) rfl rfl ?_
    show Steps p.tables e below (T18.setTop (mkF m 51 #[.val (.int u0), .val (.int u1), .val (.int u2), .val (.int u3), .val (.int u4), .val (.ref b1), .unset, .unset, .unset, .unset] [(.ref b13), (.ref b13)])) tt
    refine XS.iconst X18.here hx rfl (hb hby at_51) ?_
    show Steps p.tables e below (T18.setTop (mkF m 52 #[.val (.int u0), .val (.int u1), .val (.int u2), .val (.int u3), .val (.int u4), .val (.ref b1), .unset, .unset, .unset, .unset] [(.int (3 : Int32)), (.ref b13), (.ref b13)])) tt
    refine XS.iconst X18.here hx rfl (hb hby at_52) ?_
    exact kk
  obtain ⟨cl19, Ar19, Sl19⟩ := id V18
  have hin19 := inA (cl := cl19) Sl19 (j := (3 : Int32)) (by decide) (Nat.le_of_ble_eq_true rfl)
  obtain ⟨T19, h19, X19, e19, W19, st19⟩ := stI X18 hx hZ e18 Ar19 (j := (3 : Int32)) hin19 (g := (mkF m 53 #[.val (.int u0), .val (.int u1), .val (.int u2), .val (.int u3), .val (.int u4), .val (.ref b1), .unset, .unset, .unset, .unset] [(.int (3 : Int32)), (.int (3 : Int32)), (.ref b13), (.ref b13)])) rfl rfl (hb hby at_53)
  have V19 : Ary Z h19 b13 .int [(.int (0 : Int32)), (.int (1 : Int32)), (.int (2 : Int32)), (.int (3 : Int32))] := Ary.put Ar19 Sl19 W19 rfl
  have N19 := Fr.snoc X19 N18 g_b13
  refine Goal.to (B := T19.setTop (mkF m 54 #[.val (.int u0), .val (.int u1), .val (.int u2), .val (.int u3), .val (.int u4), .val (.ref b1), .unset, .unset, .unset, .unset] [(.ref b13)])) st19 ?_
  refine Goal.to (B := T19.setTop (mkF m 56 #[.val (.int u0), .val (.int u1), .val (.int u2), .val (.int u3), .val (.int u4), .val (.ref b1), .val (.ref b13), .unset, .unset, .unset] [])) (fun tt kk => ?_) ?_
  · show Steps p.tables e below (T19.setTop (mkF m 54 #[.val (.int u0), .val (.int u1), .val (.int u2), .val (.int u3), .val (.int u4), .val (.ref b1), .unset, .unset, .unset, .unset] [(.ref b13)])) tt
    refine XS.astore X19.here hx rfl (hb hby at_54) rfl rfl (l' := #[.val (.int u0), .val (.int u1), .val (.int u2), .val (.int u3), .val (.int u4), .val (.ref b1), .val (.ref b13), .unset, .unset, .unset]) rfl ?_
    exact kk
  have f20 : Ary Z h19 vi_3 .int [(.int (0 : Int32)), (.int (1 : Int32)), (.int (2 : Int32)), (.int (3 : Int32)), (.int (0 : Int32)), (.int (0 : Int32)), (.int (0 : Int32)), (.int (0 : Int32)), (.int (0 : Int32)), (.int (0 : Int32)), (.int (0 : Int32)), (.int (0 : Int32)), (.int (0 : Int32)), (.int (0 : Int32)), (.int (0 : Int32)), (.int (0 : Int32)), (.int (-1 : Int32)), (.int (-2 : Int32)), (.int (-2 : Int32)), (.int (-2 : Int32)), (.int (0 : Int32)), (.int (0 : Int32)), (.int (0 : Int32)), (.int (0 : Int32)), (.int (0 : Int32)), (.int (0 : Int32)), (.int (0 : Int32)), (.int (0 : Int32)), (.int (0 : Int32)), (.int (0 : Int32)), (.int (0 : Int32)), (.int (0 : Int32)), (.int (-1 : Int32)), (.int (-1 : Int32)), (.int (-1 : Int32)), (.int (-1 : Int32)), (.int (0 : Int32)), (.int (0 : Int32)), (.int (0 : Int32)), (.int (0 : Int32)), (.int (0 : Int32)), (.int (0 : Int32)), (.int (0 : Int32)), (.int (0 : Int32)), (.int (0 : Int32)), (.int (0 : Int32)), (.int (0 : Int32)), (.int (0 : Int32)), (.int (0 : Int32)), (.int (0 : Int32)), (.int (0 : Int32)), (.int (0 : Int32)), (.int (0 : Int32)), (.int (0 : Int32)), (.int (0 : Int32)), (.int (0 : Int32)), (.int (0 : Int32)), (.int (0 : Int32)), (.int (0 : Int32)), (.int (0 : Int32)), (.int (0 : Int32)), (.int (0 : Int32)), (.int (0 : Int32)), (.int (0 : Int32)), (.int (3 : Int32)), (.int (0 : Int32)), (.int (0 : Int32)), (.int (0 : Int32)), (.int (0 : Int32)), (.int (0 : Int32)), (.int (0 : Int32)), (.int (0 : Int32)), (.int (0 : Int32)), (.int (0 : Int32)), (.int (0 : Int32)), (.int (0 : Int32)), (.int (0 : Int32)), (.int (0 : Int32)), (.int (0 : Int32)), (.int (0 : Int32)), (.int (0 : Int32))] := (((((P12_12.ext E13).other W16 ne_vi_3_b13).other W17 ne_vi_3_b13).other W18 ne_vi_3_b13).other W19 ne_vi_3_b13)
  have V21 : Ary Z h19 vi_3 .int (own_I (fun k => k) (3 : Int32)) := f20
  have f22 : Ary Z h19 vr_3 .long [(.long (14 : Int64)), (.long (0 : Int64)), (.long (0 : Int64)), (.long (0 : Int64)), (.long (0 : Int64)), (.long (0 : Int64)), (.long (0 : Int64)), (.long (0 : Int64)), (.long (0 : Int64)), (.long (0 : Int64)), (.long (0 : Int64)), (.long (0 : Int64)), (.long (0 : Int64)), (.long (0 : Int64)), (.long (0 : Int64)), (.long (0 : Int64)), (.long (0 : Int64)), (.long (0 : Int64))] := (((((P12_13.ext E13).other W16 ne_vr_3_b13).other W17 ne_vr_3_b13).other W18 ne_vr_3_b13).other W19 ne_vr_3_b13)
  have V23 : Ary Z h19 vr_3 .long (own_R (14 : Int64) (0 : Int64)) := f22
  have V24 : Ary Z h19 b13 .int [(.int (own_n ((fun k => k) 0))), (.int (own_n ((fun k => k) 1))), (.int (own_n ((fun k => k) 2))), (.int (own_n ((fun k => k) 3)))] := V19
  have hI0 := own_id0
  refine Goal.to (B := T19.setTop (mkF m 61 #[.val (.int u0), .val (.int u1), .val (.int u2), .val (.int u3), .val (.int u4), .val (.ref b1), .val (.ref b13), .unset, .unset, .unset] [(.int u1), (.ref b13), (.ref b1)])) (fun tt kk => ?_) ?_
  · show Steps p.tables e below (T19.setTop (mkF m 56 #[.val (.int u0), .val (.int u1), .val (.int u2), .val (.int u3), .val (.int u4), .val (.ref b1), .val (.ref b13), .unset, .unset, .unset] [])) tt
    refine XS.aload X19.here hx rfl (hb hby at_56) rfl rfl ?_
    show Steps p.tables e below (T19.setTop (mkF m 58 #[.val (.int u0), .val (.int u1), .val (.int u2), .val (.int u3), .val (.int u4), .val (.ref b1), .val (.ref b13), .unset, .unset, .unset] [(.ref b1)])) tt
    refine XS.aload X19.here hx rfl (hb hby at_58) rfl rfl ?_
    show Steps p.tables e below (T19.setTop (mkF m 60 #[.val (.int u0), .val (.int u1), .val (.int u2), .val (.int u3), .val (.int u4), .val (.ref b1), .val (.ref b13), .unset, .unset, .unset] [(.ref b13), (.ref b1)])) tt
    refine XS.iloadN X19.here hx rfl (hb hby at_60) rfl ?_
    exact kk
  have f25 : StaN Z n0 h19 "com/example/deferra/deferra/engine/Identities$Relation" "SAME" "Lcom/example/deferra/deferra/engine/Identities$Relation;" (.ref asm) := ((((((((((S_SAME.ext E1).keep K3 (allS g_b1 all0)).keep K6 (allS g_b1 (allS g_vi_3 (allS g_vr_3 all0)))).keep K9 (allS g_b1 (allS g_vi_3 (allS g_vr_3 all0)))).keep K12 (allS g_b1 (allS g_vi_3 (allS g_vr_3 all0)))).ext E13).wr W16).wr W17).wr W18).wr W19)
  have f26 : Exa Z h19 b1 "com/example/deferra/deferra/engine/Identities" := (((((f14.ext E13).wr W16).wr W17).wr W18).wr W19)
  have f27 : Fld Z h19 b1 "com/example/deferra/deferra/engine/Identities" "words" "I" (.int (1 : Int32)) := (((((P12_2.ext E13).other W16 (Or.inl ne_b1_b13)).other W17 (Or.inl ne_b1_b13)).other W18 (Or.inl ne_b1_b13)).other W19 (Or.inl ne_b1_b13))
  have f28 : Fld Z h19 b1 "com/example/deferra/deferra/engine/Identities" "ints" "[I" (.ref vi_3) := (((((P12_5.ext E13).other W16 (Or.inl ne_b1_b13)).other W17 (Or.inl ne_b1_b13)).other W18 (Or.inl ne_b1_b13)).other W19 (Or.inl ne_b1_b13))
  have f29 : Fld Z h19 b1 "com/example/deferra/deferra/engine/Identities" "numberAt" "I" (.int (16 : Int32)) := (((((P12_6.ext E13).other W16 (Or.inl ne_b1_b13)).other W17 (Or.inl ne_b1_b13)).other W18 (Or.inl ne_b1_b13)).other W19 (Or.inl ne_b1_b13))
  have f30 : Fld Z h19 b1 "com/example/deferra/deferra/engine/Identities" "colourAt" "I" (.int (32 : Int32)) := (((((P12_7.ext E13).other W16 (Or.inl ne_b1_b13)).other W17 (Or.inl ne_b1_b13)).other W18 (Or.inl ne_b1_b13)).other W19 (Or.inl ne_b1_b13))
  have f31 : Fld Z h19 b1 "com/example/deferra/deferra/engine/Identities" "holdersAt" "I" (.int (64 : Int32)) := (((((P12_9.ext E13).other W16 (Or.inl ne_b1_b13)).other W17 (Or.inl ne_b1_b13)).other W18 (Or.inl ne_b1_b13)).other W19 (Or.inl ne_b1_b13))
  have f32 : Fld Z h19 b1 "com/example/deferra/deferra/engine/Identities" "rows" "[J" (.ref vr_3) := (((((P12_10.ext E13).other W16 (Or.inl ne_b1_b13)).other W17 (Or.inl ne_b1_b13)).other W18 (Or.inl ne_b1_b13)).other W19 (Or.inl ne_b1_b13))
  have f33 : Fld Z h19 b1 "com/example/deferra/deferra/engine/Identities" "openCount" "I" (.int (3 : Int32)) := (((((P12_11.ext E13).other W16 (Or.inl ne_b1_b13)).other W17 (Or.inl ne_b1_b13)).other W18 (Or.inl ne_b1_b13)).other W19 (Or.inl ne_b1_b13))
  have f34 : n0 ≤ h19.size := (Nat.le_trans (Nat.le_trans (Nat.le_trans (Nat.le_trans (Nat.le_trans f15 E13.1) (Keep.of_wr W16).1) (Keep.of_wr W17).1) (Keep.of_wr W18).1) (Keep.of_wr W19).1)
  obtain ⟨_, _, ⟨T35, L35, k35, n35⟩, -, X35, ⟨Lc35, hQ35, l35, y35, z35⟩, st35⟩ := Jvm.LawKit.callS X19 hx (y := (⟨"com/example/deferra/deferra/engine/IdentitiesFindPinLaw", "step", "(Lcom/example/deferra/deferra/engine/Identities;[II)V"⟩ : MethodName)) hown (mvT hZ (hw _ (mw 48 rfl))) (mvT hZ (hw _ (mw 49 rfl))) (mvT hZ (hw _ (mw 50 rfl))) (mvT hZ (hw _ (mw 51 rfl))) (by decide) (backOf (W := 0) (rmst l Z a0 hw [] b1 vi_3 vr_3 (fun k => k) (3 : Int32) (14 : Int64) (0 : Int64) (3 : Int32) b13 (fun k => k) u1 asm h19 n0 f34 f25 f26 f27 f28 f29 f30 f31 f32 f33 V21 V23 V24 g_b1 g_vi_3 g_vr_3 g_b13 ne_b1_vi_3 ne_b1_vr_3 ne3_vi_vr ne_b1_b13 ne_vi_3_b13 ne_vr_3_b13 hI0) hZ (hw _ (mw 51 rfl)) (hw _ (mw 50 rfl)) (by decide) (by decide)) (g := (mkF m 61 #[.val (.int u0), .val (.int u1), .val (.int u2), .val (.int u3), .val (.int u4), .val (.ref b1), .val (.ref b13), .unset, .unset, .unset] [(.int u1), (.ref b13), (.ref b1)])) rfl (by rw [hml]; rfl) (argsL := [(.ref b1), (.ref b13), (.int u1)]) (rest := []) (lenOf pd_4 rfl) rfl (by show 2 * 0 + _ ≤ _; exact Nat.le_of_eq rfl) (hb hby at_61) (fun _ _ => ⟨rfl, e19, (by decide : 4 + 0 ≤ _), (by decide : 124 + 0 ≤ _)⟩)
  dsimp only [Pt.U, Pt.locs, Pt.cells, Pt.slots] at X35 l35 y35 z35 st35 hQ35
  subst l35 y35 z35
  obtain ⟨np_35, nr_35, na_35, nh_35, no_35, rfl, N35q, K35, P35_0, P35_1, P35_2, P35_3, P35_4, P35_5, P35_6, P35_7, P35_8, P35_9, hN_35⟩ := hQ35
  have N35 := Fr.app N19 N35q
  refine Goal.to (B := T35.setTop (mkF m 64 #[.val (.int u0), .val (.int u1), .val (.int u2), .val (.int u3), .val (.int u4), .val (.ref b1), .val (.ref b13), .unset, .unset, .unset] [])) st35 ?_
  refine Goal.to (B := T35.setTop (mkF m 69 #[.val (.int u0), .val (.int u1), .val (.int u2), .val (.int u3), .val (.int u4), .val (.ref b1), .val (.ref b13), .unset, .unset, .unset] [(.int u2), (.ref b13), (.ref b1)])) (fun tt kk => ?_) ?_
  · show Steps p.tables e below (T35.setTop (mkF m 64 #[.val (.int u0), .val (.int u1), .val (.int u2), .val (.int u3), .val (.int u4), .val (.ref b1), .val (.ref b13), .unset, .unset, .unset] [])) tt
    refine XS.aload X35.here hx rfl (hb hby at_64) rfl rfl ?_
    show Steps p.tables e below (T35.setTop (mkF m 66 #[.val (.int u0), .val (.int u1), .val (.int u2), .val (.int u3), .val (.int u4), .val (.ref b1), .val (.ref b13), .unset, .unset, .unset] [(.ref b1)])) tt
    refine XS.aload X35.here hx rfl (hb hby at_66) rfl rfl ?_
    show Steps p.tables e below (T35.setTop (mkF m 68 #[.val (.int u0), .val (.int u1), .val (.int u2), .val (.int u3), .val (.int u4), .val (.ref b1), .val (.ref b13), .unset, .unset, .unset] [(.ref b13), (.ref b1)])) tt
    refine XS.iloadN X35.here hx rfl (hb hby at_68) rfl ?_
    exact kk
  have f36 : StaN Z n0 T35.heap "com/example/deferra/deferra/engine/Identities$Relation" "SAME" "Lcom/example/deferra/deferra/engine/Identities$Relation;" (.ref asm) := (f25.keep K35 (allS g_b1 (allS g_vi_3 (allS g_vr_3 (allS g_b13 all0)))))
  have f37 : Exa Z T35.heap b1 "com/example/deferra/deferra/engine/Identities" := (f26.keep K35)
  have f38 : n0 ≤ T35.heap.size := (Nat.le_trans f34 K35.1)
  obtain ⟨_, _, ⟨T39, L39, k39, n39⟩, -, X39, ⟨Lc39, hQ39, l39, y39, z39⟩, st39⟩ := Jvm.LawKit.callS X35 hx (y := (⟨"com/example/deferra/deferra/engine/IdentitiesFindPinLaw", "step", "(Lcom/example/deferra/deferra/engine/Identities;[II)V"⟩ : MethodName)) hown (mvT hZ (hw _ (mw 48 rfl))) (mvT hZ (hw _ (mw 49 rfl))) (mvT hZ (hw _ (mw 50 rfl))) (mvT hZ (hw _ (mw 51 rfl))) (by decide) (backOf (W := 0) (rmst l Z a0 hw [] b1 vi_3 vr_3 np_35 nh_35 na_35 (0 : Int64) no_35 b13 nr_35 u2 asm T35.heap n0 f38 f36 f37 P35_0 P35_1 P35_2 P35_3 P35_4 P35_5 P35_6 P35_7 P35_8 P35_9 g_b1 g_vi_3 g_vr_3 g_b13 ne_b1_vi_3 ne_b1_vr_3 ne3_vi_vr ne_b1_b13 ne_vi_3_b13 ne_vr_3_b13 hN_35) hZ (hw _ (mw 51 rfl)) (hw _ (mw 50 rfl)) (by decide) (by decide)) (g := (mkF m 69 #[.val (.int u0), .val (.int u1), .val (.int u2), .val (.int u3), .val (.int u4), .val (.ref b1), .val (.ref b13), .unset, .unset, .unset] [(.int u2), (.ref b13), (.ref b1)])) rfl (by rw [hml]; rfl) (argsL := [(.ref b1), (.ref b13), (.int u2)]) (rest := []) (lenOf pd_4 rfl) rfl (by show 2 * 0 + _ ≤ _; exact Nat.le_of_eq rfl) (hb hby at_69) (fun _ _ => ⟨rfl, rfl, (by decide : 4 + 0 ≤ _), (by decide : 124 + 0 ≤ _)⟩)
  dsimp only [Pt.U, Pt.locs, Pt.cells, Pt.slots] at X39 l39 y39 z39 st39 hQ39
  subst l39 y39 z39
  obtain ⟨np_39, nr_39, na_39, nh_39, no_39, rfl, N39q, K39, P39_0, P39_1, P39_2, P39_3, P39_4, P39_5, P39_6, P39_7, P39_8, P39_9, hN_39⟩ := hQ39
  have N39 := Fr.app N35 N39q
  refine Goal.to (B := T39.setTop (mkF m 72 #[.val (.int u0), .val (.int u1), .val (.int u2), .val (.int u3), .val (.int u4), .val (.ref b1), .val (.ref b13), .unset, .unset, .unset] [])) st39 ?_
  refine Goal.to (B := T39.setTop (mkF m 77 #[.val (.int u0), .val (.int u1), .val (.int u2), .val (.int u3), .val (.int u4), .val (.ref b1), .val (.ref b13), .unset, .unset, .unset] [(.int u3), (.ref b13), (.ref b1)])) (fun tt kk => ?_) ?_
  · show Steps p.tables e below (T39.setTop (mkF m 72 #[.val (.int u0), .val (.int u1), .val (.int u2), .val (.int u3), .val (.int u4), .val (.ref b1), .val (.ref b13), .unset, .unset, .unset] [])) tt
    refine XS.aload X39.here hx rfl (hb hby at_72) rfl rfl ?_
    show Steps p.tables e below (T39.setTop (mkF m 74 #[.val (.int u0), .val (.int u1), .val (.int u2), .val (.int u3), .val (.int u4), .val (.ref b1), .val (.ref b13), .unset, .unset, .unset] [(.ref b1)])) tt
    refine XS.aload X39.here hx rfl (hb hby at_74) rfl rfl ?_
    show Steps p.tables e below (T39.setTop (mkF m 76 #[.val (.int u0), .val (.int u1), .val (.int u2), .val (.int u3), .val (.int u4), .val (.ref b1), .val (.ref b13), .unset, .unset, .unset] [(.ref b13), (.ref b1)])) tt
    refine XS.iloadN X39.here hx rfl (hb hby at_76) rfl ?_
    exact kk
  have f40 : StaN Z n0 T39.heap "com/example/deferra/deferra/engine/Identities$Relation" "SAME" "Lcom/example/deferra/deferra/engine/Identities$Relation;" (.ref asm) := (f36.keep K39 (allS g_b1 (allS g_vi_3 (allS g_vr_3 (allS g_b13 all0)))))
  have f41 : Exa Z T39.heap b1 "com/example/deferra/deferra/engine/Identities" := (f37.keep K39)
  have f42 : n0 ≤ T39.heap.size := (Nat.le_trans f38 K39.1)
  obtain ⟨_, _, ⟨T43, L43, k43, n43⟩, -, X43, ⟨Lc43, hQ43, l43, y43, z43⟩, st43⟩ := Jvm.LawKit.callS X39 hx (y := (⟨"com/example/deferra/deferra/engine/IdentitiesFindPinLaw", "step", "(Lcom/example/deferra/deferra/engine/Identities;[II)V"⟩ : MethodName)) hown (mvT hZ (hw _ (mw 48 rfl))) (mvT hZ (hw _ (mw 49 rfl))) (mvT hZ (hw _ (mw 50 rfl))) (mvT hZ (hw _ (mw 51 rfl))) (by decide) (backOf (W := 0) (rmst l Z a0 hw [] b1 vi_3 vr_3 np_39 nh_39 na_39 (0 : Int64) no_39 b13 nr_39 u3 asm T39.heap n0 f42 f40 f41 P39_0 P39_1 P39_2 P39_3 P39_4 P39_5 P39_6 P39_7 P39_8 P39_9 g_b1 g_vi_3 g_vr_3 g_b13 ne_b1_vi_3 ne_b1_vr_3 ne3_vi_vr ne_b1_b13 ne_vi_3_b13 ne_vr_3_b13 hN_39) hZ (hw _ (mw 51 rfl)) (hw _ (mw 50 rfl)) (by decide) (by decide)) (g := (mkF m 77 #[.val (.int u0), .val (.int u1), .val (.int u2), .val (.int u3), .val (.int u4), .val (.ref b1), .val (.ref b13), .unset, .unset, .unset] [(.int u3), (.ref b13), (.ref b1)])) rfl (by rw [hml]; rfl) (argsL := [(.ref b1), (.ref b13), (.int u3)]) (rest := []) (lenOf pd_4 rfl) rfl (by show 2 * 0 + _ ≤ _; exact Nat.le_of_eq rfl) (hb hby at_77) (fun _ _ => ⟨rfl, rfl, (by decide : 4 + 0 ≤ _), (by decide : 124 + 0 ≤ _)⟩)
  dsimp only [Pt.U, Pt.locs, Pt.cells, Pt.slots] at X43 l43 y43 z43 st43 hQ43
  subst l43 y43 z43
  obtain ⟨np_43, nr_43, na_43, nh_43, no_43, rfl, N43q, K43, P43_0, P43_1, P43_2, P43_3, P43_4, P43_5, P43_6, P43_7, P43_8, P43_9, hN_43⟩ := hQ43
  have N43 := Fr.app N39 N43q
  refine Goal.to (B := T43.setTop (mkF m 80 #[.val (.int u0), .val (.int u1), .val (.int u2), .val (.int u3), .val (.int u4), .val (.ref b1), .val (.ref b13), .unset, .unset, .unset] [])) st43 ?_
  refine Goal.to (B := T43.setTop (mkF m 84 #[.val (.int u0), .val (.int u1), .val (.int u2), .val (.int u3), .val (.int u4), .val (.ref b1), .val (.ref b13), .unset, .unset, .unset] [(.int (u4 &&& (3 : Int32)))])) (fun tt kk => ?_) ?_
  · show Steps p.tables e below (T43.setTop (mkF m 80 #[.val (.int u0), .val (.int u1), .val (.int u2), .val (.int u3), .val (.int u4), .val (.ref b1), .val (.ref b13), .unset, .unset, .unset] [])) tt
    refine XS.iload X43.here hx rfl (hb hby at_80) rfl ?_
    show Steps p.tables e below (T43.setTop (mkF m 82 #[.val (.int u0), .val (.int u1), .val (.int u2), .val (.int u3), .val (.int u4), .val (.ref b1), .val (.ref b13), .unset, .unset, .unset] [(.int u4)])) tt
    refine XS.iconst X43.here hx rfl (hb hby at_82) ?_
    show Steps p.tables e below (T43.setTop (mkF m 83 #[.val (.int u0), .val (.int u1), .val (.int u2), .val (.int u3), .val (.int u4), .val (.ref b1), .val (.ref b13), .unset, .unset, .unset] [(.int (3 : Int32)), (.int u4)])) tt
    refine XS.iand X43.here hx rfl (hb hby at_83) rfl ?_
    exact kk
  obtain ⟨qx, hqx⟩ := own_and u4
  rw [hqx]
  refine Goal.to (B := T43.setTop (mkF m 92 #[.val (.int u0), .val (.int u1), .val (.int u2), .val (.int u3), .val (.int u4), .val (.ref b1), .val (.ref b13), .val (.int (own_n qx)), .unset, .unset] [(.int (((u4.toUInt32 >>> ((2 : Int32) &&& 31).toUInt32).toInt32) &&& (3 : Int32)))])) (fun tt kk => ?_) ?_
  · show Steps p.tables e below (T43.setTop (mkF m 84 #[.val (.int u0), .val (.int u1), .val (.int u2), .val (.int u3), .val (.int u4), .val (.ref b1), .val (.ref b13), .unset, .unset, .unset] [(.int (own_n qx))])) tt
    refine XS.istore X43.here hx rfl (hb hby at_84) rfl (l' := #[.val (.int u0), .val (.int u1), .val (.int u2), .val (.int u3), .val (.int u4), .val (.ref b1), .val (.ref b13), .val (.int (own_n qx)), .unset, .unset]) rfl ?_
    show Steps p.tables e below (T43.setTop (mkF m 86 #[.val (.int u0), .val (.int u1), .val (.int u2), .val (.int u3), .val (.int u4), .val (.ref b1), .val (.ref b13), .val (.int (own_n qx)), .unset, .unset] [])) tt
    refine XS.iload X43.here hx rfl (hb hby at_86) rfl ?_
    show Steps p.tables e below (T43.setTop (mkF m 88 #[.val (.int u0), .val (.int u1), .val (.int u2), .val (.int u3), .val (.int u4), .val (.ref b1), .val (.ref b13), .val (.int (own_n qx)), .unset, .unset] [(.int u4)])) tt
    refine XS.iconst X43.here hx rfl (hb hby at_88) ?_
    show Steps p.tables e below (T43.setTop (mkF m 89 #[.val (.int u0), .val (.int u1), .val (.int u2), .val (.int u3), .val (.int u4), .val (.ref b1), .val (.ref b13), .val (.int (own_n qx)), .unset, .unset] [(.int (2 : Int32)), (.int u4)])) tt
    refine XS.iushr X43.here hx rfl (hb hby at_89) rfl ?_
    show Steps p.tables e below (T43.setTop (mkF m 90 #[.val (.int u0), .val (.int u1), .val (.int u2), .val (.int u3), .val (.int u4), .val (.ref b1), .val (.ref b13), .val (.int (own_n qx)), .unset, .unset] [(.int ((u4.toUInt32 >>> ((2 : Int32) &&& 31).toUInt32).toInt32))])) tt
    refine XS.iconst X43.here hx rfl (hb hby at_90) ?_
    show Steps p.tables e below (T43.setTop (mkF m 91 #[.val (.int u0), .val (.int u1), .val (.int u2), .val (.int u3), .val (.int u4), .val (.ref b1), .val (.ref b13), .val (.int (own_n qx)), .unset, .unset] [(.int (3 : Int32)), (.int ((u4.toUInt32 >>> ((2 : Int32) &&& 31).toUInt32).toInt32))])) tt
    refine XS.iand X43.here hx rfl (hb hby at_91) rfl ?_
    exact kk
  obtain ⟨qy, hqy⟩ := own_and ((u4.toUInt32 >>> ((2 : Int32) &&& 31).toUInt32).toInt32)
  rw [hqy]
  refine Goal.to (B := T43.setTop (mkF m 100 #[.val (.int u0), .val (.int u1), .val (.int u2), .val (.int u3), .val (.int u4), .val (.ref b1), .val (.ref b13), .val (.int (own_n qx)), .val (.int (own_n qy)), .unset] [(.int (((u4.toUInt32 >>> ((4 : Int32) &&& 31).toUInt32).toInt32) &&& (3 : Int32)))])) (fun tt kk => ?_) ?_
  · show Steps p.tables e below (T43.setTop (mkF m 92 #[.val (.int u0), .val (.int u1), .val (.int u2), .val (.int u3), .val (.int u4), .val (.ref b1), .val (.ref b13), .val (.int (own_n qx)), .unset, .unset] [(.int (own_n qy))])) tt
    refine XS.istore X43.here hx rfl (hb hby at_92) rfl (l' := #[.val (.int u0), .val (.int u1), .val (.int u2), .val (.int u3), .val (.int u4), .val (.ref b1), .val (.ref b13), .val (.int (own_n qx)), .val (.int (own_n qy)), .unset]) rfl ?_
    show Steps p.tables e below (T43.setTop (mkF m 94 #[.val (.int u0), .val (.int u1), .val (.int u2), .val (.int u3), .val (.int u4), .val (.ref b1), .val (.ref b13), .val (.int (own_n qx)), .val (.int (own_n qy)), .unset] [])) tt
    refine XS.iload X43.here hx rfl (hb hby at_94) rfl ?_
    show Steps p.tables e below (T43.setTop (mkF m 96 #[.val (.int u0), .val (.int u1), .val (.int u2), .val (.int u3), .val (.int u4), .val (.ref b1), .val (.ref b13), .val (.int (own_n qx)), .val (.int (own_n qy)), .unset] [(.int u4)])) tt
    refine XS.iconst X43.here hx rfl (hb hby at_96) ?_
    show Steps p.tables e below (T43.setTop (mkF m 97 #[.val (.int u0), .val (.int u1), .val (.int u2), .val (.int u3), .val (.int u4), .val (.ref b1), .val (.ref b13), .val (.int (own_n qx)), .val (.int (own_n qy)), .unset] [(.int (4 : Int32)), (.int u4)])) tt
    refine XS.iushr X43.here hx rfl (hb hby at_97) rfl ?_
    show Steps p.tables e below (T43.setTop (mkF m 98 #[.val (.int u0), .val (.int u1), .val (.int u2), .val (.int u3), .val (.int u4), .val (.ref b1), .val (.ref b13), .val (.int (own_n qx)), .val (.int (own_n qy)), .unset] [(.int ((u4.toUInt32 >>> ((4 : Int32) &&& 31).toUInt32).toInt32))])) tt
    refine XS.iconst X43.here hx rfl (hb hby at_98) ?_
    show Steps p.tables e below (T43.setTop (mkF m 99 #[.val (.int u0), .val (.int u1), .val (.int u2), .val (.int u3), .val (.int u4), .val (.ref b1), .val (.ref b13), .val (.int (own_n qx)), .val (.int (own_n qy)), .unset] [(.int (3 : Int32)), (.int ((u4.toUInt32 >>> ((4 : Int32) &&& 31).toUInt32).toInt32))])) tt
    refine XS.iand X43.here hx rfl (hb hby at_99) rfl ?_
    exact kk
  obtain ⟨qz, hqz⟩ := own_and ((u4.toUInt32 >>> ((4 : Int32) &&& 31).toUInt32).toInt32)
  rw [hqz]
  refine Goal.to (B := T43.setTop (mkF m 106 #[.val (.int u0), .val (.int u1), .val (.int u2), .val (.int u3), .val (.int u4), .val (.ref b1), .val (.ref b13), .val (.int (own_n qx)), .val (.int (own_n qy)), .val (.int (own_n qz))] [(.int (own_n qx)), (.ref b1)])) (fun tt kk => ?_) ?_
  · show Steps p.tables e below (T43.setTop (mkF m 100 #[.val (.int u0), .val (.int u1), .val (.int u2), .val (.int u3), .val (.int u4), .val (.ref b1), .val (.ref b13), .val (.int (own_n qx)), .val (.int (own_n qy)), .unset] [(.int (own_n qz))])) tt
    refine XS.istore X43.here hx rfl (hb hby at_100) rfl (l' := #[.val (.int u0), .val (.int u1), .val (.int u2), .val (.int u3), .val (.int u4), .val (.ref b1), .val (.ref b13), .val (.int (own_n qx)), .val (.int (own_n qy)), .val (.int (own_n qz))]) rfl ?_
    show Steps p.tables e below (T43.setTop (mkF m 102 #[.val (.int u0), .val (.int u1), .val (.int u2), .val (.int u3), .val (.int u4), .val (.ref b1), .val (.ref b13), .val (.int (own_n qx)), .val (.int (own_n qy)), .val (.int (own_n qz))] [])) tt
    refine XS.aload X43.here hx rfl (hb hby at_102) rfl rfl ?_
    show Steps p.tables e below (T43.setTop (mkF m 104 #[.val (.int u0), .val (.int u1), .val (.int u2), .val (.int u3), .val (.int u4), .val (.ref b1), .val (.ref b13), .val (.int (own_n qx)), .val (.int (own_n qy)), .val (.int (own_n qz))] [(.ref b1)])) tt
    refine XS.iload X43.here hx rfl (hb hby at_104) rfl ?_
    exact kk
  have f44 : Exa Z T43.heap b1 "com/example/deferra/deferra/engine/Identities" := (f41.keep K43)
  have f45 : n0 ≤ T43.heap.size := (Nat.le_trans f42 K43.1)
  obtain ⟨cq46, kq46, q46a, q46b, q46c⟩ := isOf hZ rfl f44
  obtain ⟨_, _, ⟨T46, L46, k46, n46⟩, -, X46, ⟨Lc46, hQ46, l46, y46, z46⟩, st46⟩ := X43.virtualBack hx (y := (⟨"com/example/deferra/deferra/engine/Identities", "find", "(I)I"⟩ : MethodName)) (z := (⟨"com/example/deferra/deferra/engine/Identities", "find", "(I)I"⟩ : MethodName)) hown (mvT hZ (hw _ (mw 93 rfl))) (mvT hZ (hw _ (mw 94 rfl))) (notFace_of_selects (args := #[]) (mvT hZ (hw _ (mw 96 rfl)))) (mvT hZ (hw _ (mw 96 rfl))) (mvT hZ (hw _ (mw 95 rfl))) (by decide) (backOf (W := 0) (rmfn l Z a0 hw [] b1 vi_3 np_43 nh_43 nr_43 qx T43.heap n0 f45 f44 P43_1 P43_7 g_vi_3 ne_b1_vi_3 hN_43) hZ (hw _ (mw 97 rfl)) (hw _ (mw 2 rfl)) (by decide) (by decide)) q46a q46c (g := (mkF m 106 #[.val (.int u0), .val (.int u1), .val (.int u2), .val (.int u3), .val (.int u4), .val (.ref b1), .val (.ref b13), .val (.int (own_n qx)), .val (.int (own_n qy)), .val (.int (own_n qz))] [(.int (own_n qx)), (.ref b1)])) rfl (by rw [hml]; rfl) (Steps.refl _) (argsL := [(.int (own_n qx))]) (rest := []) (lenOf pd_2 rfl) rfl (by show 2 * 0 + _ ≤ _; exact Nat.le_of_eq rfl) (hb hby at_106) (fun _ _ => ⟨rfl, rfl, (by decide : 4 + 0 ≤ _), (by decide : 124 + 0 ≤ _)⟩)
  dsimp only [Pt.U, Pt.locs, Pt.cells, Pt.slots] at X46 l46 y46 z46 st46 hQ46
  subst l46 y46 z46
  obtain ⟨np_46, rfl, N46q, K46, P46_0, hN_46⟩ := hQ46
  have N46 := Fr.app N43 N46q
  refine Goal.tr (B := T46.setTop (mkF m 109 #[.val (.int u0), .val (.int u1), .val (.int u2), .val (.int u3), .val (.int u4), .val (.ref b1), .val (.ref b13), .val (.int (own_n qx)), .val (.int (own_n qy)), .val (.int (own_n qz))] [(.int (own_n (nr_43 qx)))])) st46 ?_
  refine Goal.to (B := T46.setTop (mkF m 113 #[.val (.int u0), .val (.int u1), .val (.int u2), .val (.int u3), .val (.int u4), .val (.ref b1), .val (.ref b13), .val (.int (own_n qx)), .val (.int (own_n qy)), .val (.int (own_n qz))] [(.int (own_n qx)), (.ref b13), (.int (own_n (nr_43 qx)))])) (fun tt kk => ?_) ?_
  · show Steps p.tables e below (T46.setTop (mkF m 109 #[.val (.int u0), .val (.int u1), .val (.int u2), .val (.int u3), .val (.int u4), .val (.ref b1), .val (.ref b13), .val (.int (own_n qx)), .val (.int (own_n qy)), .val (.int (own_n qz))] [(.int (own_n (nr_43 qx)))])) tt
    refine XS.aload X46.here hx rfl (hb hby at_109) rfl rfl ?_
    show Steps p.tables e below (T46.setTop (mkF m 111 #[.val (.int u0), .val (.int u1), .val (.int u2), .val (.int u3), .val (.int u4), .val (.ref b1), .val (.ref b13), .val (.int (own_n qx)), .val (.int (own_n qy)), .val (.int (own_n qz))] [(.ref b13), (.int (own_n (nr_43 qx)))])) tt
    refine XS.iload X46.here hx rfl (hb hby at_111) rfl ?_
    exact kk
  have f47 : Ary Z T46.heap b13 .int [(.int (own_n (nr_43 0))), (.int (own_n (nr_43 1))), (.int (own_n (nr_43 2))), (.int (own_n (nr_43 3)))] := (P43_9.keep K46 (ninS (Ne.symm ne_vi_3_b13) nin0))
  obtain ⟨cl48, Ar48, Sl48⟩ := id f47
  have hin48 := inA (cl := cl48) Sl48 (j := (own_n qx)) (own_ix qx).1 (by rw [(own_ix qx).2]; exact own_lt qx)
  have hat48 : cl48.slots[((own_n qx)).toNatClampNeg]? = some (.int (own_n (nr_43 qx))) := atA Sl48 (by rw [(own_ix qx).2]; exact own_getP nr_43 qx)
  refine Goal.to (B := T46.setTop (mkF m 121 #[.val (.int u0), .val (.int u1), .val (.int u2), .val (.int u3), .val (.int u4), .val (.ref b1), .val (.ref b13), .val (.int (own_n qx)), .val (.int (own_n qy)), .val (.int (own_n qz))] [(.int (own_n qy)), (.ref b1)])) (fun tt kk => ?_) ?_
  · show Steps p.tables e below (T46.setTop (mkF m 113 #[.val (.int u0), .val (.int u1), .val (.int u2), .val (.int u3), .val (.int u4), .val (.ref b1), .val (.ref b13), .val (.int (own_n qx)), .val (.int (own_n qy)), .val (.int (own_n qz))] [(.int (own_n qx)), (.ref b13), (.int (own_n (nr_43 qx)))])) tt
    refine X46.iaload hx (j := (own_n qx)) (v := (.int (own_n (nr_43 qx)))) Ar48.1 (State.isArrayOf_alike hZ.alike Ar48.2.1) Ar48.2.2 hin48 hat48 (g := (mkF m 113 #[.val (.int u0), .val (.int u1), .val (.int u2), .val (.int u3), .val (.int u4), .val (.ref b1), .val (.ref b13), .val (.int (own_n qx)), .val (.int (own_n qy)), .val (.int (own_n qz))] [(.int (own_n qx)), (.ref b13), (.int (own_n (nr_43 qx)))])) rfl rfl (hb hby at_113) _ ?_
    show Steps p.tables e below (T46.setTop (mkF m 114 #[.val (.int u0), .val (.int u1), .val (.int u2), .val (.int u3), .val (.int u4), .val (.ref b1), .val (.ref b13), .val (.int (own_n qx)), .val (.int (own_n qy)), .val (.int (own_n qz))] [(.int (own_n (nr_43 qx))), (.int (own_n (nr_43 qx)))])) tt
    refine XS.icmpNo X46.here hx rfl (hb hby at_114) rfl (teq (rfl : (own_n (nr_43 qx)) = (own_n (nr_43 qx)))).2 ?_
    show Steps p.tables e below (T46.setTop (mkF m 117 #[.val (.int u0), .val (.int u1), .val (.int u2), .val (.int u3), .val (.int u4), .val (.ref b1), .val (.ref b13), .val (.int (own_n qx)), .val (.int (own_n qy)), .val (.int (own_n qz))] [])) tt
    refine XS.aload X46.here hx rfl (hb hby at_117) rfl rfl ?_
    show Steps p.tables e below (T46.setTop (mkF m 119 #[.val (.int u0), .val (.int u1), .val (.int u2), .val (.int u3), .val (.int u4), .val (.ref b1), .val (.ref b13), .val (.int (own_n qx)), .val (.int (own_n qy)), .val (.int (own_n qz))] [(.ref b1)])) tt
    refine XS.iload X46.here hx rfl (hb hby at_119) rfl ?_
    exact kk
  have f49 : Exa Z T46.heap b1 "com/example/deferra/deferra/engine/Identities" := (f44.keep K46)
  have f50 : Fld Z T46.heap b1 "com/example/deferra/deferra/engine/Identities" "ints" "[I" (.ref vi_3) := (P43_1.keep K46 (ninS ne_b1_vi_3 nin0))
  have f51 : n0 ≤ T46.heap.size := (Nat.le_trans f45 K46.1)
  obtain ⟨cq52, kq52, q52a, q52b, q52c⟩ := isOf hZ rfl f49
  obtain ⟨_, _, ⟨T52, L52, k52, n52⟩, -, X52, ⟨Lc52, hQ52, l52, y52, z52⟩, st52⟩ := X46.virtualBack hx (y := (⟨"com/example/deferra/deferra/engine/Identities", "find", "(I)I"⟩ : MethodName)) (z := (⟨"com/example/deferra/deferra/engine/Identities", "find", "(I)I"⟩ : MethodName)) hown (mvT hZ (hw _ (mw 93 rfl))) (mvT hZ (hw _ (mw 94 rfl))) (notFace_of_selects (args := #[]) (mvT hZ (hw _ (mw 96 rfl)))) (mvT hZ (hw _ (mw 96 rfl))) (mvT hZ (hw _ (mw 95 rfl))) (by decide) (backOf (W := 0) (rmfn l Z a0 hw [] b1 vi_3 np_46 nh_43 nr_43 qy T46.heap n0 f51 f49 f50 P46_0 g_vi_3 ne_b1_vi_3 hN_46) hZ (hw _ (mw 97 rfl)) (hw _ (mw 2 rfl)) (by decide) (by decide)) q52a q52c (g := (mkF m 121 #[.val (.int u0), .val (.int u1), .val (.int u2), .val (.int u3), .val (.int u4), .val (.ref b1), .val (.ref b13), .val (.int (own_n qx)), .val (.int (own_n qy)), .val (.int (own_n qz))] [(.int (own_n qy)), (.ref b1)])) rfl (by rw [hml]; rfl) (Steps.refl _) (argsL := [(.int (own_n qy))]) (rest := []) (lenOf pd_2 rfl) rfl (by show 2 * 0 + _ ≤ _; exact Nat.le_of_eq rfl) (hb hby at_121) (fun _ _ => ⟨rfl, rfl, (by decide : 4 + 0 ≤ _), (by decide : 124 + 0 ≤ _)⟩)
  dsimp only [Pt.U, Pt.locs, Pt.cells, Pt.slots] at X52 l52 y52 z52 st52 hQ52
  subst l52 y52 z52
  obtain ⟨np_52, rfl, N52q, K52, P52_0, hN_52⟩ := hQ52
  have N52 := Fr.app N46 N52q
  refine Goal.tr (B := T52.setTop (mkF m 124 #[.val (.int u0), .val (.int u1), .val (.int u2), .val (.int u3), .val (.int u4), .val (.ref b1), .val (.ref b13), .val (.int (own_n qx)), .val (.int (own_n qy)), .val (.int (own_n qz))] [(.int (own_n (nr_43 qy)))])) st52 ?_
  refine Goal.to (B := T52.setTop (mkF m 128 #[.val (.int u0), .val (.int u1), .val (.int u2), .val (.int u3), .val (.int u4), .val (.ref b1), .val (.ref b13), .val (.int (own_n qx)), .val (.int (own_n qy)), .val (.int (own_n qz))] [(.int (own_n qy)), (.ref b13), (.int (own_n (nr_43 qy)))])) (fun tt kk => ?_) ?_
  · show Steps p.tables e below (T52.setTop (mkF m 124 #[.val (.int u0), .val (.int u1), .val (.int u2), .val (.int u3), .val (.int u4), .val (.ref b1), .val (.ref b13), .val (.int (own_n qx)), .val (.int (own_n qy)), .val (.int (own_n qz))] [(.int (own_n (nr_43 qy)))])) tt
    refine XS.aload X52.here hx rfl (hb hby at_124) rfl rfl ?_
    show Steps p.tables e below (T52.setTop (mkF m 126 #[.val (.int u0), .val (.int u1), .val (.int u2), .val (.int u3), .val (.int u4), .val (.ref b1), .val (.ref b13), .val (.int (own_n qx)), .val (.int (own_n qy)), .val (.int (own_n qz))] [(.ref b13), (.int (own_n (nr_43 qy)))])) tt
    refine XS.iload X52.here hx rfl (hb hby at_126) rfl ?_
    exact kk
  have f53 : Ary Z T52.heap b13 .int [(.int (own_n (nr_43 0))), (.int (own_n (nr_43 1))), (.int (own_n (nr_43 2))), (.int (own_n (nr_43 3)))] := (f47.keep K52 (ninS (Ne.symm ne_vi_3_b13) nin0))
  obtain ⟨cl54, Ar54, Sl54⟩ := id f53
  have hin54 := inA (cl := cl54) Sl54 (j := (own_n qy)) (own_ix qy).1 (by rw [(own_ix qy).2]; exact own_lt qy)
  have hat54 : cl54.slots[((own_n qy)).toNatClampNeg]? = some (.int (own_n (nr_43 qy))) := atA Sl54 (by rw [(own_ix qy).2]; exact own_getP nr_43 qy)
  refine Goal.to (B := T52.setTop (mkF m 136 #[.val (.int u0), .val (.int u1), .val (.int u2), .val (.int u3), .val (.int u4), .val (.ref b1), .val (.ref b13), .val (.int (own_n qx)), .val (.int (own_n qy)), .val (.int (own_n qz))] [(.int (own_n qz)), (.ref b1)])) (fun tt kk => ?_) ?_
  · show Steps p.tables e below (T52.setTop (mkF m 128 #[.val (.int u0), .val (.int u1), .val (.int u2), .val (.int u3), .val (.int u4), .val (.ref b1), .val (.ref b13), .val (.int (own_n qx)), .val (.int (own_n qy)), .val (.int (own_n qz))] [(.int (own_n qy)), (.ref b13), (.int (own_n (nr_43 qy)))])) tt
    refine X52.iaload hx (j := (own_n qy)) (v := (.int (own_n (nr_43 qy)))) Ar54.1 (State.isArrayOf_alike hZ.alike Ar54.2.1) Ar54.2.2 hin54 hat54 (g := (mkF m 128 #[.val (.int u0), .val (.int u1), .val (.int u2), .val (.int u3), .val (.int u4), .val (.ref b1), .val (.ref b13), .val (.int (own_n qx)), .val (.int (own_n qy)), .val (.int (own_n qz))] [(.int (own_n qy)), (.ref b13), (.int (own_n (nr_43 qy)))])) rfl rfl (hb hby at_128) _ ?_
    show Steps p.tables e below (T52.setTop (mkF m 129 #[.val (.int u0), .val (.int u1), .val (.int u2), .val (.int u3), .val (.int u4), .val (.ref b1), .val (.ref b13), .val (.int (own_n qx)), .val (.int (own_n qy)), .val (.int (own_n qz))] [(.int (own_n (nr_43 qy))), (.int (own_n (nr_43 qy)))])) tt
    refine XS.icmpNo X52.here hx rfl (hb hby at_129) rfl (teq (rfl : (own_n (nr_43 qy)) = (own_n (nr_43 qy)))).2 ?_
    show Steps p.tables e below (T52.setTop (mkF m 132 #[.val (.int u0), .val (.int u1), .val (.int u2), .val (.int u3), .val (.int u4), .val (.ref b1), .val (.ref b13), .val (.int (own_n qx)), .val (.int (own_n qy)), .val (.int (own_n qz))] [])) tt
    refine XS.aload X52.here hx rfl (hb hby at_132) rfl rfl ?_
    show Steps p.tables e below (T52.setTop (mkF m 134 #[.val (.int u0), .val (.int u1), .val (.int u2), .val (.int u3), .val (.int u4), .val (.ref b1), .val (.ref b13), .val (.int (own_n qx)), .val (.int (own_n qy)), .val (.int (own_n qz))] [(.ref b1)])) tt
    refine XS.iload X52.here hx rfl (hb hby at_134) rfl ?_
    exact kk
  have f55 : Exa Z T52.heap b1 "com/example/deferra/deferra/engine/Identities" := (f49.keep K52)
  have f56 : Fld Z T52.heap b1 "com/example/deferra/deferra/engine/Identities" "ints" "[I" (.ref vi_3) := (f50.keep K52 (ninS ne_b1_vi_3 nin0))
  have f57 : n0 ≤ T52.heap.size := (Nat.le_trans f51 K52.1)
  obtain ⟨cq58, kq58, q58a, q58b, q58c⟩ := isOf hZ rfl f55
  obtain ⟨_, _, ⟨T58, L58, k58, n58⟩, -, X58, ⟨Lc58, hQ58, l58, y58, z58⟩, st58⟩ := X52.virtualBack hx (y := (⟨"com/example/deferra/deferra/engine/Identities", "find", "(I)I"⟩ : MethodName)) (z := (⟨"com/example/deferra/deferra/engine/Identities", "find", "(I)I"⟩ : MethodName)) hown (mvT hZ (hw _ (mw 93 rfl))) (mvT hZ (hw _ (mw 94 rfl))) (notFace_of_selects (args := #[]) (mvT hZ (hw _ (mw 96 rfl)))) (mvT hZ (hw _ (mw 96 rfl))) (mvT hZ (hw _ (mw 95 rfl))) (by decide) (backOf (W := 0) (rmfn l Z a0 hw [] b1 vi_3 np_52 nh_43 nr_43 qz T52.heap n0 f57 f55 f56 P52_0 g_vi_3 ne_b1_vi_3 hN_52) hZ (hw _ (mw 97 rfl)) (hw _ (mw 2 rfl)) (by decide) (by decide)) q58a q58c (g := (mkF m 136 #[.val (.int u0), .val (.int u1), .val (.int u2), .val (.int u3), .val (.int u4), .val (.ref b1), .val (.ref b13), .val (.int (own_n qx)), .val (.int (own_n qy)), .val (.int (own_n qz))] [(.int (own_n qz)), (.ref b1)])) rfl (by rw [hml]; rfl) (Steps.refl _) (argsL := [(.int (own_n qz))]) (rest := []) (lenOf pd_2 rfl) rfl (by show 2 * 0 + _ ≤ _; exact Nat.le_of_eq rfl) (hb hby at_136) (fun _ _ => ⟨rfl, rfl, (by decide : 4 + 0 ≤ _), (by decide : 124 + 0 ≤ _)⟩)
  dsimp only [Pt.U, Pt.locs, Pt.cells, Pt.slots] at X58 l58 y58 z58 st58 hQ58
  subst l58 y58 z58
  obtain ⟨np_58, rfl, N58q, K58, P58_0, hN_58⟩ := hQ58
  have N58 := Fr.app N52 N58q
  refine Goal.tr (B := T58.setTop (mkF m 139 #[.val (.int u0), .val (.int u1), .val (.int u2), .val (.int u3), .val (.int u4), .val (.ref b1), .val (.ref b13), .val (.int (own_n qx)), .val (.int (own_n qy)), .val (.int (own_n qz))] [(.int (own_n (nr_43 qz)))])) st58 ?_
  refine Goal.to (B := T58.setTop (mkF m 143 #[.val (.int u0), .val (.int u1), .val (.int u2), .val (.int u3), .val (.int u4), .val (.ref b1), .val (.ref b13), .val (.int (own_n qx)), .val (.int (own_n qy)), .val (.int (own_n qz))] [(.int (own_n qz)), (.ref b13), (.int (own_n (nr_43 qz)))])) (fun tt kk => ?_) ?_
  · show Steps p.tables e below (T58.setTop (mkF m 139 #[.val (.int u0), .val (.int u1), .val (.int u2), .val (.int u3), .val (.int u4), .val (.ref b1), .val (.ref b13), .val (.int (own_n qx)), .val (.int (own_n qy)), .val (.int (own_n qz))] [(.int (own_n (nr_43 qz)))])) tt
    refine XS.aload X58.here hx rfl (hb hby at_139) rfl rfl ?_
    show Steps p.tables e below (T58.setTop (mkF m 141 #[.val (.int u0), .val (.int u1), .val (.int u2), .val (.int u3), .val (.int u4), .val (.ref b1), .val (.ref b13), .val (.int (own_n qx)), .val (.int (own_n qy)), .val (.int (own_n qz))] [(.ref b13), (.int (own_n (nr_43 qz)))])) tt
    refine XS.iload X58.here hx rfl (hb hby at_141) rfl ?_
    exact kk
  have f59 : Ary Z T58.heap b13 .int [(.int (own_n (nr_43 0))), (.int (own_n (nr_43 1))), (.int (own_n (nr_43 2))), (.int (own_n (nr_43 3)))] := (f53.keep K58 (ninS (Ne.symm ne_vi_3_b13) nin0))
  obtain ⟨cl60, Ar60, Sl60⟩ := id f59
  have hin60 := inA (cl := cl60) Sl60 (j := (own_n qz)) (own_ix qz).1 (by rw [(own_ix qz).2]; exact own_lt qz)
  have hat60 : cl60.slots[((own_n qz)).toNatClampNeg]? = some (.int (own_n (nr_43 qz))) := atA Sl60 (by rw [(own_ix qz).2]; exact own_getP nr_43 qz)
  refine Goal.to (B := T58.setTop (mkF m 152 #[.val (.int u0), .val (.int u1), .val (.int u2), .val (.int u3), .val (.int u4), .val (.ref b1), .val (.ref b13), .val (.int (own_n qx)), .val (.int (own_n qy)), .val (.int (own_n qz))] [(.int (1 : Int32))])) (fun tt kk => ?_) ?_
  · show Steps p.tables e below (T58.setTop (mkF m 143 #[.val (.int u0), .val (.int u1), .val (.int u2), .val (.int u3), .val (.int u4), .val (.ref b1), .val (.ref b13), .val (.int (own_n qx)), .val (.int (own_n qy)), .val (.int (own_n qz))] [(.int (own_n qz)), (.ref b13), (.int (own_n (nr_43 qz)))])) tt
    refine X58.iaload hx (j := (own_n qz)) (v := (.int (own_n (nr_43 qz)))) Ar60.1 (State.isArrayOf_alike hZ.alike Ar60.2.1) Ar60.2.2 hin60 hat60 (g := (mkF m 143 #[.val (.int u0), .val (.int u1), .val (.int u2), .val (.int u3), .val (.int u4), .val (.ref b1), .val (.ref b13), .val (.int (own_n qx)), .val (.int (own_n qy)), .val (.int (own_n qz))] [(.int (own_n qz)), (.ref b13), (.int (own_n (nr_43 qz)))])) rfl rfl (hb hby at_143) _ ?_
    show Steps p.tables e below (T58.setTop (mkF m 144 #[.val (.int u0), .val (.int u1), .val (.int u2), .val (.int u3), .val (.int u4), .val (.ref b1), .val (.ref b13), .val (.int (own_n qx)), .val (.int (own_n qy)), .val (.int (own_n qz))] [(.int (own_n (nr_43 qz))), (.int (own_n (nr_43 qz)))])) tt
    refine XS.icmpNo X58.here hx rfl (hb hby at_144) rfl (teq (rfl : (own_n (nr_43 qz)) = (own_n (nr_43 qz)))).2 ?_
    show Steps p.tables e below (T58.setTop (mkF m 147 #[.val (.int u0), .val (.int u1), .val (.int u2), .val (.int u3), .val (.int u4), .val (.ref b1), .val (.ref b13), .val (.int (own_n qx)), .val (.int (own_n qy)), .val (.int (own_n qz))] [])) tt
    refine XS.iconst X58.here hx rfl (hb hby at_147) ?_
    show Steps p.tables e below (T58.setTop (mkF m 148 #[.val (.int u0), .val (.int u1), .val (.int u2), .val (.int u3), .val (.int u4), .val (.ref b1), .val (.ref b13), .val (.int (own_n qx)), .val (.int (own_n qy)), .val (.int (own_n qz))] [(.int (1 : Int32))])) tt
    refine XS.goto X58.here hx rfl (pc0 := 148) (pc' := 152) rfl (hb hby at_148) (by decide) (by decide) ?_
    exact kk
  exact Goal.retV X58 hx Bd.returns rfl (Or.inl ⟨rfl, Or.inr (Or.inl rfl), _, rfl⟩) (hb hby at_152) hlk rfl ⟨rfl, N58⟩ (by decide) (by decide)
set_option maxRecDepth 65536 in
set_option maxHeartbeats 40000000 in
theorem comes_1 {Post : Tables → Env → Array Value → State → Outcome → State → Prop} (hpost : ∀ tb e args s v u, (limb_1_1.after args s (.returned v) u = true ∧ limb_1_2.after args s (.returned v) u = true ∧ True) → FrameEnd s (.returned v) u (Jvm.fieldLocs frame_1_writes args s ++ Jvm.arrayLocs frame_1_arrays args s ++ Jvm.staticLocs frame_1_statics s) 16 320 → Post tb e args s (.returned v) u) :
    ArmFor flags0 classFile x code maxLocals ret World_1 tables_1 room_1 Calls_1 rest_1 Pre_1 Post := by
  intro l hfl _ _ p e ha hc hk s m args below hf hA hF happ hP
  obtain ⟨hcalls, hrest, hpre⟩ := hP
  obtain ⟨-, -, -, hnamed, -, -, -, hat⟩ := (Spec.applies_iff hf).mp happ
  obtain ⟨hg, hn⟩ := and_e (Cond.before_iff.mp (show (Jvm.Cond.and given_1 narrow_1).before args s = true from hpre))
  obtain ⟨u1, u2⟩ := and_e hg
  obtain ⟨u3, u4⟩ := and_e u2
  obtain ⟨u5, u6⟩ := and_e u4
  obtain ⟨u7, u8⟩ := and_e u6
  obtain ⟨u9, u10⟩ := and_e u8
  obtain ⟨w0, w1, w2, w3, w4, rfl⟩ : ∃ w0 w1 w2 w3 w4 : Value, args = #[w0, w1, w2, w3, w4] := by
    have hs : args.size = 5 := by simpa [Cond.value, given_1] using u1
    obtain ⟨L⟩ := args
    match L, hs with
    | [w0, w1, w2, w3, w4], _ => exact ⟨w0, w1, w2, w3, w4, rfl⟩
  have hw := fun d (hd : d ∈ tables_1) => atoms_spec (ws := Jvm.Cond.code x code maxLocals ret :: tables_1) hat d (List.mem_cons_of_mem _ hd)
  obtain ⟨i0, ei0⟩ := is_v u3
  obtain rfl : w0 = (.int i0) := Option.some.inj ei0
  obtain ⟨i1, ei1⟩ := is_v u5
  obtain rfl : w1 = (.int i1) := Option.some.inj ei1
  obtain ⟨i2, ei2⟩ := is_v u7
  obtain rfl : w2 = (.int i2) := Option.some.inj ei2
  obtain ⟨i3, ei3⟩ := is_v u9
  obtain rfl : w3 = (.int i3) := Option.some.inj ei3
  obtain ⟨i4, ei4⟩ := is_v u10
  obtain rfl : w4 = (.int i4) := Option.some.inj ei4
  obtain ⟨asm, v_asm⟩ := exa_v hn
  have S_asm := Sta.toN (Sta.start v_asm (Or.inr ⟨(hw _ (mw 58 rfl)), (hw _ (mw 59 rfl))⟩))
  obtain ⟨n, o, h1, h2, h3, _, L, rfl, ⟨rfl, N⟩, hq⟩ := rm0 l s _ hw tables_1 i0 i1 i2 i3 i4 asm s.heap s.heap.size (Nat.le_refl _) S_asm p e ha hc hk s m _ below hf ((Spec.applies_iff_loose hf).mp happ).1 ⟨rfl, State.Warmed39.refl s, rfl⟩ trivial
  refine ⟨n, _, h1, h2, h3, hpost _ _ _ _ _ _ ⟨Cond.after_iff.mpr rfl, Cond.after_iff.mpr (eq_i res_at (Term.int_eval (1)) rfl), trivial⟩ ⟨hq.1, hq.2.1, (hq.2.2.sift fun y hy => Or.inr (N y hy)).mono (by decide) (by decide)⟩⟩
theorem main_1_1 : Claimed_1_1 := comes_1 fun _ _ _ _ _ _ h hF => ⟨h.1, hF⟩
theorem main_1_2 : Claimed_1_2 := comes_1 fun _ _ _ _ _ _ h hF => ⟨h.2.1, hF⟩
end Jvm.Pilot.@@N@@
namespace Jvm.Pilot.@@N@@
open Jvm Jvm.ClassFile Sem Op Lib Jvm.Free Jvm.Stand Jvm.Pilot.@@N@@.Jvm.D
/-! MADE BY PROGRAM (witnessworld.py) out of the Statement's table words and the real class files: 15 classes; the members and pool entries that the words name. The judged class is class 1, her method 3. -/
namespace start1
open Jvm.ClassFile
def u (s : String) : CpInfo := .utf8 (stringToUtf16 s)
/-- a pool by its gaps: so many unusable entries, then the entry; so many at the end -/
def gap : Nat → List CpInfo → List CpInfo
  | 0, r => r
  | n + 1, r => .unusable :: gap n r
def poolList (es : List (Nat × CpInfo)) (last : Nat) : List CpInfo := es.foldr (fun e r => gap e.1 (e.2 :: r)) (gap last [])
def pool (es : List (Nat × CpInfo)) (last : Nat) : Array CpInfo := ⟨poolList es last⟩
def fileOf (pool : Array CpInfo) (this : Nat) (attrs : Array Attribute := #[]) (ms : Array MethodInfo := #[]) (fl : Nat := 33) (sup : Nat := 0) (ifs : Array Nat := #[]) (fds : Array FieldInfo := #[]) : ClassFile where
  minorVersion := 0
  majorVersion := 65
  constantPool := pool
  accessFlags := fl
  thisClass := this
  superClass := sup
  interfaces := ifs
  fields := fds
  methods := ms
  attributes := attrs
def plain (name : String) (sup : Option ClassId) : Class where
  name := name
  kind := .ordinary
  loader := none
  accessFlags := 33
  super := sup
  interfaces := #[]
  cf := none
  fields := #[]
  methods := #[]
  instanceTypes := #[]
  staticTypes := #[]
  resolved := #[]
  callSites := []
  init := .initialized
  statics := none
  mirror := none

def pool0 : Array CpInfo := pool [(5, u "<init>"), (0, u "()V"), (1, .class_ 10), (1, u "java/lang/Object")] 113

def k0c0 : Code := { maxStack := 0, maxLocals := 1, code := object_method_1_code, exceptionTable := #[], attributes := #[] }
def k0m0 : Method := { name := "<init>", desc := "()V", sig := { parameters := [], returnType := none }, accessFlags := 1, code := some k0c0 }
/-- java/lang/Object -/
def k0 : Class := { plain "java/lang/Object" none with
  accessFlags := 33
  interfaces := #[]
  cf := some (fileOf pool0 8 #[] #[{ accessFlags := 1, nameIndex := 5, descriptorIndex := 6, attributes := #[] }] 33 0 #[] #[])
  fields := #[]
  methods := #[k0m0]
  instanceTypes := #[]
  staticTypes := #[]
  resolved := Array.replicate 124 none
  statics := none }

def pool1 : Array CpInfo := pool [(2, .class_ 4), (1, u "java/lang/Object"), (0, u "<init>"), (0, u "()V"), (0, .methodref 8 9), (0, .class_ 10), (0, .nameAndType 11 12), (0, u "com/example/deferra/deferra/engine/Identities"), (0, u "decide"), (0, u "(IIZ)V"), (0, .methodref 14 15), (0, .class_ 16), (0, .nameAndType 17 18), (0, u "com/example/deferra/deferra/engine/IdentitiesFindPinLaw"), (0, u "relabel"), (0, u "([III)V"), (0, .integer 2147483647), (0, .methodref 8 21), (0, .nameAndType 5 22), (0, u "(IZ)V"), (0, .methodref 8 24), (0, .nameAndType 25 26), (0, u "take"), (0, u "(Z)I"), (0, .methodref 14 28), (0, .nameAndType 29 30), (0, u "step"), (0, u "(Lcom/example/deferra/deferra/engine/Identities;[II)V"), (0, .methodref 8 32), (0, .nameAndType 33 34), (0, u "find"), (0, u "(I)I"), (3, u "law"), (0, u "(IIIII)Z")] 4

def k1m0 : Method := { name := "<init>", desc := "()V", sig := { parameters := [], returnType := none }, accessFlags := 1, code := none }
def k1c1 : Code := { maxStack := 3, maxLocals := 3, code := method_2_code, exceptionTable := #[], attributes := #[] }
def k1m1 : Method := { name := "relabel", desc := "([III)V", sig := { parameters := [(.array .int), .int, .int], returnType := none }, accessFlags := 10, code := some k1c1 }
def k1c2 : Code := { maxStack := 4, maxLocals := 7, code := method_3_code, exceptionTable := #[], attributes := #[] }
def k1m2 : Method := { name := "step", desc := "(Lcom/example/deferra/deferra/engine/Identities;[II)V", sig := { parameters := [(.object "com/example/deferra/deferra/engine/Identities"), (.array .int), .int], returnType := none }, accessFlags := 10, code := some k1c2 }
def k1c3 : Code := { maxStack := 4, maxLocals := 10, code := code, exceptionTable := #[], attributes := #[] }
def k1m3 : Method := { name := "law", desc := "(IIIII)Z", sig := { parameters := [.int, .int, .int, .int, .int], returnType := some .boolean }, accessFlags := 9, code := some k1c3 }
/-- com/example/deferra/deferra/engine/IdentitiesFindPinLaw -/
def k1 : Class := { plain "com/example/deferra/deferra/engine/IdentitiesFindPinLaw" (some 0) with
  accessFlags := 49
  interfaces := #[]
  cf := some (fileOf pool1 14 #[] #[{ accessFlags := 1, nameIndex := 5, descriptorIndex := 6, attributes := #[] }, { accessFlags := 10, nameIndex := 17, descriptorIndex := 18, attributes := #[] }, { accessFlags := 10, nameIndex := 29, descriptorIndex := 30, attributes := #[] }, { accessFlags := 9, nameIndex := 38, descriptorIndex := 39, attributes := #[] }] 49 2 #[] #[])
  fields := #[]
  methods := #[k1m0, k1m1, k1m2, k1m3]
  instanceTypes := #[]
  staticTypes := #[]
  resolved := Array.replicate 44 none
  statics := none }

def pool2 : Array CpInfo := pool [(1, .methodref 2 3), (0, .class_ 4), (0, .nameAndType 5 6), (0, u "java/lang/Object"), (0, u "<init>"), (0, u "()V"), (0, .fieldref 8 9), (0, .class_ 10), (0, .nameAndType 11 12), (0, u "com/example/deferra/deferra/engine/Identities"), (0, u "count"), (0, u "I"), (0, .fieldref 8 14), (0, .nameAndType 15 12), (0, u "slots"), (0, .fieldref 8 17), (0, .nameAndType 18 12), (0, u "words"), (0, .fieldref 8 20), (0, .nameAndType 21 12), (0, u "capacity"), (0, .fieldref 8 23), (0, .nameAndType 24 25), (0, u "nullAllowed"), (0, u "Z"), (0, .methodref 8 27), (0, .nameAndType 28 29), (0, u "intsFor"), (0, u "(I)I"), (0, .fieldref 8 31), (0, .nameAndType 32 33), (0, u "ints"), (0, u "[I"), (0, .methodref 8 35), (0, .nameAndType 36 6), (0, u "placeInts"), (0, .fieldref 8 38), (0, .nameAndType 39 40), (0, u "rows"), (0, u "[J"), (0, .fieldref 8 42), (0, .nameAndType 43 12), (0, u "numberAt"), (0, .fieldref 8 45), (0, .nameAndType 46 12), (0, u "colourAt"), (7, .fieldref 8 55), (0, .nameAndType 56 12), (0, u "madeCount"), (0, .fieldref 8 58), (0, .nameAndType 59 12), (0, u "openCount"), (11, .methodref 8 72), (0, .nameAndType 73 29), (0, u "row"), (0, .long 18446744073709551615), (10, u "(II)V"), (7, .fieldref 8 94), (0, .nameAndType 95 12), (0, u "holdersAt"), (1, .class_ 99), (1, u "com/example/deferra/deferra/engine/Identities$Relation"), (1, u "Lcom/example/deferra/deferra/engine/Identities$Relation;"), (4, .fieldref 8 107), (0, .nameAndType 108 12), (0, u "madeAt"), (4, .fieldref 97 114), (0, .nameAndType 115 101), (0, u "SAME"), (6, u "(IILcom/example/deferra/deferra/engine/Identities$Relation;)Z"), (6, .methodref 8 130), (0, .nameAndType 131 132), (0, u "realise"), (0, u "(IILcom/example/deferra/deferra/engine/Identities$Relation;)V"), (0, .methodref 8 134), (0, .nameAndType 135 85), (0, u "merge"), (0, .methodref 8 137), (0, .nameAndType 138 29), (0, u "colour"), (3, .methodref 8 143), (0, .nameAndType 144 145), (0, u "close"), (0, u "(I)V"), (3, .methodref 8 150), (0, .nameAndType 151 29), (0, u "number"), (8, .methodref 8 161), (0, .nameAndType 162 122), (0, u "holds"), (34, u "regionSize"), (2, u "trial"), (14, u "region"), (2, u "placeOf"), (2, u "candidates"), (20, u "degree"), (2, u "peeled"), (5, u "core"), (32, u "NULL"), (2, u "NULL_COLOUR"), (1, u "UNBOUND"), (1, u "NO_ROOM"), (0, u "OPEN"), (0, u "MADE"), (1, u "IDENTITY_ROWS"), (1, u "OUTSIDE"), (0, u "INITIAL_IDENTITIES"), (1, u "(IZ)V"), (4, u "take"), (0, u "(Z)I"), (1, u "find"), (3, u "decide"), (0, u "(IIZ)V")] 6

def k2c0 : Code := { maxStack := 3, maxLocals := 3, code := prog_18_method_1_code, exceptionTable := #[], attributes := #[] }
def k2m0 : Method := { name := "<init>", desc := "(IZ)V", sig := { parameters := [.int, .boolean], returnType := none }, accessFlags := 0, code := some k2c0 }
def k2c1 : Code := { maxStack := 7, maxLocals := 6, code := prog_18_method_4_code, exceptionTable := #[], attributes := #[] }
def k2m1 : Method := { name := "take", desc := "(Z)I", sig := { parameters := [.boolean], returnType := some .int }, accessFlags := 0, code := some k2c1 }
def k2c2 : Code := { maxStack := 5, maxLocals := 3, code := prog_18_method_6_code, exceptionTable := #[], attributes := #[] }
def k2m2 : Method := { name := "find", desc := "(I)I", sig := { parameters := [.int], returnType := some .int }, accessFlags := 0, code := some k2c2 }
def k2c3 : Code := { maxStack := 3, maxLocals := 2, code := prog_18_method_7_code, exceptionTable := #[], attributes := #[] }
def k2m3 : Method := { name := "number", desc := "(I)I", sig := { parameters := [.int], returnType := some .int }, accessFlags := 0, code := some k2c3 }
def k2c4 : Code := { maxStack := 3, maxLocals := 2, code := prog_18_method_8_code, exceptionTable := #[], attributes := #[] }
def k2m4 : Method := { name := "colour", desc := "(I)I", sig := { parameters := [.int], returnType := some .int }, accessFlags := 2, code := some k2c4 }
def k2c5 : Code := { maxStack := 4, maxLocals := 4, code := prog_18_method_13_code, exceptionTable := #[], attributes := #[] }
def k2m5 : Method := { name := "decide", desc := "(IIZ)V", sig := { parameters := [.int, .int, .boolean], returnType := none }, accessFlags := 0, code := some k2c5 }
def k2c6 : Code := { maxStack := 6, maxLocals := 10, code := prog_18_method_16_code, exceptionTable := #[], attributes := #[] }
def k2m6 : Method := { name := "merge", desc := "(II)V", sig := { parameters := [.int, .int], returnType := none }, accessFlags := 2, code := some k2c6 }
def k2c7 : Code := { maxStack := 5, maxLocals := 4, code := prog_18_method_18_code, exceptionTable := #[], attributes := #[] }
def k2m7 : Method := { name := "realise", desc := "(IILcom/example/deferra/deferra/engine/Identities$Relation;)V", sig := { parameters := [.int, .int, (.object "com/example/deferra/deferra/engine/Identities$Relation")], returnType := none }, accessFlags := 2, code := some k2c7 }
def k2c8 : Code := { maxStack := 3, maxLocals := 5, code := prog_18_method_20_code, exceptionTable := #[], attributes := #[] }
def k2m8 : Method := { name := "holds", desc := "(IILcom/example/deferra/deferra/engine/Identities$Relation;)Z", sig := { parameters := [.int, .int, (.object "com/example/deferra/deferra/engine/Identities$Relation")], returnType := some .boolean }, accessFlags := 2, code := some k2c8 }
def k2c9 : Code := { maxStack := 8, maxLocals := 2, code := prog_18_method_40_code, exceptionTable := #[], attributes := #[] }
def k2m9 : Method := { name := "close", desc := "(I)V", sig := { parameters := [.int], returnType := none }, accessFlags := 2, code := some k2c9 }
def k2c10 : Code := { maxStack := 2, maxLocals := 2, code := prog_18_method_45_code, exceptionTable := #[], attributes := #[] }
def k2m10 : Method := { name := "row", desc := "(I)I", sig := { parameters := [.int], returnType := some .int }, accessFlags := 2, code := some k2c10 }
def k2c11 : Code := { maxStack := 2, maxLocals := 1, code := prog_18_method_46_code, exceptionTable := #[], attributes := #[] }
def k2m11 : Method := { name := "intsFor", desc := "(I)I", sig := { parameters := [.int], returnType := some .int }, accessFlags := 10, code := some k2c11 }
def k2c12 : Code := { maxStack := 3, maxLocals := 1, code := prog_18_method_47_code, exceptionTable := #[], attributes := #[] }
def k2m12 : Method := { name := "placeInts", desc := "()V", sig := { parameters := [], returnType := none }, accessFlags := 2, code := some k2c12 }
/-- com/example/deferra/deferra/engine/Identities -/
def k2 : Class := { plain "com/example/deferra/deferra/engine/Identities" (some 0) with
  accessFlags := 48
  interfaces := #[]
  cf := some (fileOf pool2 8 #[.nestMembers #[97]] #[{ accessFlags := 0, nameIndex := 5, descriptorIndex := 300, attributes := #[] }, { accessFlags := 0, nameIndex := 305, descriptorIndex := 306, attributes := #[] }, { accessFlags := 0, nameIndex := 308, descriptorIndex := 29, attributes := #[] }, { accessFlags := 0, nameIndex := 151, descriptorIndex := 29, attributes := #[] }, { accessFlags := 2, nameIndex := 138, descriptorIndex := 29, attributes := #[] }, { accessFlags := 0, nameIndex := 312, descriptorIndex := 313, attributes := #[] }, { accessFlags := 2, nameIndex := 135, descriptorIndex := 85, attributes := #[] }, { accessFlags := 2, nameIndex := 131, descriptorIndex := 132, attributes := #[] }, { accessFlags := 2, nameIndex := 162, descriptorIndex := 122, attributes := #[] }, { accessFlags := 2, nameIndex := 144, descriptorIndex := 145, attributes := #[] }, { accessFlags := 2, nameIndex := 73, descriptorIndex := 29, attributes := #[] }, { accessFlags := 10, nameIndex := 28, descriptorIndex := 29, attributes := #[] }, { accessFlags := 2, nameIndex := 36, descriptorIndex := 6, attributes := #[] }] 48 2 #[] #[{ accessFlags := 24, nameIndex := 284, descriptorIndex := 12, attributes := #[] }, { accessFlags := 24, nameIndex := 287, descriptorIndex := 12, attributes := #[] }, { accessFlags := 24, nameIndex := 289, descriptorIndex := 12, attributes := #[] }, { accessFlags := 24, nameIndex := 291, descriptorIndex := 12, attributes := #[] }, { accessFlags := 26, nameIndex := 292, descriptorIndex := 12, attributes := #[] }, { accessFlags := 26, nameIndex := 293, descriptorIndex := 12, attributes := #[] }, { accessFlags := 26, nameIndex := 295, descriptorIndex := 12, attributes := #[] }, { accessFlags := 26, nameIndex := 297, descriptorIndex := 12, attributes := #[] }, { accessFlags := 26, nameIndex := 298, descriptorIndex := 12, attributes := #[] }, { accessFlags := 18, nameIndex := 21, descriptorIndex := 12, attributes := #[] }, { accessFlags := 18, nameIndex := 24, descriptorIndex := 25, attributes := #[] }, { accessFlags := 2, nameIndex := 11, descriptorIndex := 12, attributes := #[] }, { accessFlags := 2, nameIndex := 15, descriptorIndex := 12, attributes := #[] }, { accessFlags := 2, nameIndex := 32, descriptorIndex := 33, attributes := #[] }, { accessFlags := 2, nameIndex := 43, descriptorIndex := 12, attributes := #[] }, { accessFlags := 2, nameIndex := 46, descriptorIndex := 12, attributes := #[] }, { accessFlags := 2, nameIndex := 108, descriptorIndex := 12, attributes := #[] }, { accessFlags := 2, nameIndex := 95, descriptorIndex := 12, attributes := #[] }, { accessFlags := 2, nameIndex := 18, descriptorIndex := 12, attributes := #[] }, { accessFlags := 2, nameIndex := 39, descriptorIndex := 40, attributes := #[] }, { accessFlags := 2, nameIndex := 56, descriptorIndex := 12, attributes := #[] }, { accessFlags := 2, nameIndex := 59, descriptorIndex := 12, attributes := #[] }, { accessFlags := 2, nameIndex := 215, descriptorIndex := 33, attributes := #[] }, { accessFlags := 2, nameIndex := 197, descriptorIndex := 12, attributes := #[] }, { accessFlags := 2, nameIndex := 218, descriptorIndex := 33, attributes := #[] }, { accessFlags := 2, nameIndex := 200, descriptorIndex := 33, attributes := #[] }, { accessFlags := 2, nameIndex := 221, descriptorIndex := 40, attributes := #[] }, { accessFlags := 2, nameIndex := 251, descriptorIndex := 40, attributes := #[] }, { accessFlags := 2, nameIndex := 242, descriptorIndex := 33, attributes := #[] }, { accessFlags := 2, nameIndex := 245, descriptorIndex := 33, attributes := #[] }])
  fields := #[{ name := "NULL", type := .int, accessFlags := 24, slot := 0, constantValue := 0 }, { name := "NULL_COLOUR", type := .int, accessFlags := 24, slot := 1, constantValue := 0 }, { name := "UNBOUND", type := .int, accessFlags := 24, slot := 2, constantValue := 0 }, { name := "NO_ROOM", type := .int, accessFlags := 24, slot := 3, constantValue := 0 }, { name := "OPEN", type := .int, accessFlags := 26, slot := 4, constantValue := 0 }, { name := "MADE", type := .int, accessFlags := 26, slot := 5, constantValue := 0 }, { name := "IDENTITY_ROWS", type := .int, accessFlags := 26, slot := 6, constantValue := 0 }, { name := "OUTSIDE", type := .int, accessFlags := 26, slot := 7, constantValue := 0 }, { name := "INITIAL_IDENTITIES", type := .int, accessFlags := 26, slot := 8, constantValue := 0 }, { name := "capacity", type := .int, accessFlags := 18, slot := 0, constantValue := 0 }, { name := "nullAllowed", type := .boolean, accessFlags := 18, slot := 1, constantValue := 0 }, { name := "count", type := .int, accessFlags := 2, slot := 2, constantValue := 0 }, { name := "slots", type := .int, accessFlags := 2, slot := 3, constantValue := 0 }, { name := "ints", type := (.array .int), accessFlags := 2, slot := 4, constantValue := 0 }, { name := "numberAt", type := .int, accessFlags := 2, slot := 5, constantValue := 0 }, { name := "colourAt", type := .int, accessFlags := 2, slot := 6, constantValue := 0 }, { name := "madeAt", type := .int, accessFlags := 2, slot := 7, constantValue := 0 }, { name := "holdersAt", type := .int, accessFlags := 2, slot := 8, constantValue := 0 }, { name := "words", type := .int, accessFlags := 2, slot := 9, constantValue := 0 }, { name := "rows", type := (.array .long), accessFlags := 2, slot := 10, constantValue := 0 }, { name := "madeCount", type := .int, accessFlags := 2, slot := 11, constantValue := 0 }, { name := "openCount", type := .int, accessFlags := 2, slot := 12, constantValue := 0 }, { name := "region", type := (.array .int), accessFlags := 2, slot := 13, constantValue := 0 }, { name := "regionSize", type := .int, accessFlags := 2, slot := 14, constantValue := 0 }, { name := "placeOf", type := (.array .int), accessFlags := 2, slot := 15, constantValue := 0 }, { name := "trial", type := (.array .int), accessFlags := 2, slot := 16, constantValue := 0 }, { name := "candidates", type := (.array .long), accessFlags := 2, slot := 17, constantValue := 0 }, { name := "core", type := (.array .long), accessFlags := 2, slot := 18, constantValue := 0 }, { name := "degree", type := (.array .int), accessFlags := 2, slot := 19, constantValue := 0 }, { name := "peeled", type := (.array .int), accessFlags := 2, slot := 20, constantValue := 0 }]
  methods := #[k2m0, k2m1, k2m2, k2m3, k2m4, k2m5, k2m6, k2m7, k2m8, k2m9, k2m10, k2m11, k2m12]
  instanceTypes := #[.int, .boolean, .int, .int, (.array .int), .int, .int, .int, .int, .int, (.array .long), .int, .int, (.array .int), .int, (.array .int), (.array .int), (.array .long), (.array .long), (.array .int), (.array .int)]
  staticTypes := #[.int, .int, .int, .int, .int, .int, .int, .int, .int]
  resolved := Array.replicate 320 none
  statics := none }

def pool3 : Array CpInfo := pool [(1, .class_ 2), (0, u "java/lang/constant/Constable"), (0, .class_ 4), (0, u "java/lang/Object")] 6

/-- java/lang/constant/Constable -/
def k3 : Class := { plain "java/lang/constant/Constable" (some 0) with
  accessFlags := 1537
  interfaces := #[]
  cf := some (fileOf pool3 1 #[] #[] 1537 3 #[] #[])
  fields := #[]
  methods := #[]
  instanceTypes := #[]
  staticTypes := #[]
  resolved := Array.replicate 11 none
  statics := none }

def pool4 : Array CpInfo := pool [(1, .class_ 2), (0, u "java/lang/Comparable"), (0, .class_ 4), (0, u "java/lang/Object")] 7

/-- java/lang/Comparable -/
def k4 : Class := { plain "java/lang/Comparable" (some 0) with
  accessFlags := 1537
  interfaces := #[]
  cf := some (fileOf pool4 1 #[] #[] 1537 3 #[] #[])
  fields := #[]
  methods := #[]
  instanceTypes := #[]
  staticTypes := #[]
  resolved := Array.replicate 12 none
  statics := none }

def pool5 : Array CpInfo := pool [(1, .class_ 2), (0, u "java/io/Serializable"), (0, .class_ 4), (0, u "java/lang/Object")] 2

/-- java/io/Serializable -/
def k5 : Class := { plain "java/io/Serializable" (some 0) with
  accessFlags := 1537
  interfaces := #[]
  cf := some (fileOf pool5 1 #[] #[] 1537 3 #[] #[])
  fields := #[]
  methods := #[]
  instanceTypes := #[]
  staticTypes := #[]
  resolved := Array.replicate 7 none
  statics := none }

def pool6 : Array CpInfo := pool [(2, .class_ 4), (1, u "java/lang/Enum"), (0, u "name"), (0, u "Ljava/lang/String;"), (2, u "ordinal"), (0, u "I"), (1, .class_ 14), (1, u "java/lang/Object"), (4, u "hash"), (86, .class_ 108), (1, u "java/lang/Enum$EnumDesc"), (2, .class_ 112), (0, u "java/lang/constant/Constable"), (0, .class_ 114), (0, u "java/lang/Comparable"), (0, .class_ 116), (0, u "java/io/Serializable")] 87

/-- java/lang/Enum -/
def k6 : Class := { plain "java/lang/Enum" (some 0) with
  accessFlags := 1057
  interfaces := #[3, 4, 5]
  cf := some (fileOf pool6 2 #[.nestMembers #[106]] #[] 1057 12 #[111, 113, 115] #[{ accessFlags := 18, nameIndex := 5, descriptorIndex := 6, attributes := #[] }, { accessFlags := 18, nameIndex := 9, descriptorIndex := 10, attributes := #[] }, { accessFlags := 2, nameIndex := 19, descriptorIndex := 10, attributes := #[] }])
  fields := #[{ name := "name", type := (.object "java/lang/String"), accessFlags := 18, slot := 0, constantValue := 0 }, { name := "ordinal", type := .int, accessFlags := 18, slot := 1, constantValue := 0 }, { name := "hash", type := .int, accessFlags := 2, slot := 2, constantValue := 0 }]
  methods := #[]
  instanceTypes := #[(.object "java/lang/String"), .int, .int]
  staticTypes := #[]
  resolved := Array.replicate 204 none
  statics := none }

def pool7 : Array CpInfo := pool [(1, .class_ 2), (0, u "com/example/deferra/deferra/engine/Identities$Relation"), (2, u "NOTHING"), (0, u "Lcom/example/deferra/deferra/engine/Identities$Relation;"), (2, u "SAME"), (2, u "DIFFERENT"), (2, u "NEW"), (2, u "$VALUES"), (0, u "[Lcom/example/deferra/deferra/engine/Identities$Relation;"), (6, .class_ 28), (1, u "java/lang/Enum"), (27, .class_ 57), (0, u "com/example/deferra/deferra/engine/Identities")] 2

/-- com/example/deferra/deferra/engine/Identities$Relation -/
def k7 : Class := { plain "com/example/deferra/deferra/engine/Identities$Relation" (some 6) with
  accessFlags := 16432
  interfaces := #[]
  cf := some (fileOf pool7 1 #[.nestHost 56] #[] 16432 26 #[] #[{ accessFlags := 16409, nameIndex := 5, descriptorIndex := 6, attributes := #[] }, { accessFlags := 16409, nameIndex := 9, descriptorIndex := 6, attributes := #[] }, { accessFlags := 16409, nameIndex := 12, descriptorIndex := 6, attributes := #[] }, { accessFlags := 16409, nameIndex := 15, descriptorIndex := 6, attributes := #[] }, { accessFlags := 4122, nameIndex := 18, descriptorIndex := 19, attributes := #[] }])
  fields := #[{ name := "NOTHING", type := (.object "com/example/deferra/deferra/engine/Identities$Relation"), accessFlags := 16409, slot := 0, constantValue := 0 }, { name := "SAME", type := (.object "com/example/deferra/deferra/engine/Identities$Relation"), accessFlags := 16409, slot := 1, constantValue := 0 }, { name := "DIFFERENT", type := (.object "com/example/deferra/deferra/engine/Identities$Relation"), accessFlags := 16409, slot := 2, constantValue := 0 }, { name := "NEW", type := (.object "com/example/deferra/deferra/engine/Identities$Relation"), accessFlags := 16409, slot := 3, constantValue := 0 }, { name := "$VALUES", type := (.array (.object "com/example/deferra/deferra/engine/Identities$Relation")), accessFlags := 4122, slot := 4, constantValue := 0 }]
  methods := #[]
  instanceTypes := #[(.object "java/lang/String"), .int, .int]
  staticTypes := #[(.object "com/example/deferra/deferra/engine/Identities$Relation"), (.object "com/example/deferra/deferra/engine/Identities$Relation"), (.object "com/example/deferra/deferra/engine/Identities$Relation"), (.object "com/example/deferra/deferra/engine/Identities$Relation"), (.array (.object "com/example/deferra/deferra/engine/Identities$Relation"))]
  resolved := Array.replicate 60 none
  statics := some 0 }

def pool8 : Array CpInfo := pool [(1, u "java/lang/Cloneable"), (0, .class_ 1), (0, u "java/lang/Object"), (0, .class_ 3)] 3

/-- java/lang/Cloneable -/
def k8 : Class := { plain "java/lang/Cloneable" (some 0) with
  accessFlags := 1537
  interfaces := #[]
  cf := some (fileOf pool8 2 #[] #[] 1537 4 #[] #[])
  fields := #[]
  methods := #[]
  instanceTypes := #[]
  staticTypes := #[]
  resolved := Array.replicate 8 none
  statics := none }

/-- the primitive byte -/
def k9 : Class := { plain "byte" none with kind := .primitive 'B', accessFlags := 0x411 }
/-- [B -/
def k10 : Class := { plain "[B" (some 0) with kind := .array 9 .byte, interfaces := #[8, 5], accessFlags := 1041 }

/-- the primitive int -/
def k11 : Class := { plain "int" none with kind := .primitive 'I', accessFlags := 0x411 }
/-- [I -/
def k12 : Class := { plain "[I" (some 0) with kind := .array 11 .int, interfaces := #[8, 5], accessFlags := 1041 }

/-- the primitive long -/
def k13 : Class := { plain "long" none with kind := .primitive 'J', accessFlags := 0x411 }
/-- [J -/
def k14 : Class := { plain "[J" (some 0) with kind := .array 13 .long, interfaces := #[8, 5], accessFlags := 1041 }

def heap : Heap := #[{ cls := 7, slots := #[.null, .ref 1, .null, .null, .null], vm := .statics 7 },
  { cls := 7, slots := #[.null, .int 0, .int 0], vm := .none }]
def classes : Array Class := #[k0, k1, k2, k3, k4, k5, k6, k7, k8, k9, k10, k11, k12, k13, k14]
def interned : List (Array UInt16 × Addr) := []
def slotsUsed : Nat := 8
def theMethod : MethodId := ⟨1, 3⟩
def args0 : Array Value := #[.int 5, .int 4, .int 9, .int 3, .int 6]
def aboutOver (below : List Frame) : State where
  vm := { classes := classes, interned := interned.toArray }
  heap := heap
  slotsUsed := slotsUsed
  threads := #[{ frames := .invoking theMethod args0 :: below }]
def below0 : List Frame := [.native { method := ⟨0, 0⟩, args := #[] }]
def about1 : State := aboutOver below0
def p0 : Program := .bare "" "" ""
def e0 : Env := launch0.env 0 0 0
theorem w_frames : about1.frames = Frame.invoking theMethod args0 :: below0 := rfl
set_option maxRecDepth 65536 in
theorem w_args : argsFit about1.vm theMethod args0 = true := by decide +kernel
set_option maxRecDepth 65536 in
theorem w_heap : heapFits about1 = true := by decide +kernel
set_option maxRecDepth 65536 in
theorem w_runnable : about1.curStatus? = some .runnable := by decide +kernel
set_option maxRecDepth 65536 in
theorem w_alone : about1.alone = true := by decide +kernel
set_option maxRecDepth 65536 in
theorem w_named : about1.methodNamed? x = some theMethod := by decide +kernel
set_option maxRecDepth 65536 in
theorem w_hears : about1.hears theMethod below0 = true := by decide +kernel
set_option maxRecDepth 65536 in
theorem w_ripe : about1.ripe theMethod args0 below0 = true := by decide +kernel
theorem w_running : about1.status = .running := rfl
set_option maxRecDepth 65536 in
theorem w_room : about1.hasRoom e0.platform room_1 = true :=
  launch0.hasRoom_least _ room_1 (by decide +kernel) (by decide +kernel) (by decide +kernel) (by decide +kernel) (by decide +kernel) (by decide +kernel)
theorem allAtoms_all (ts : List Jvm.Cond) (a : Array Jvm.Value) (st : Jvm.State) : (allAtoms ts).before a st = ts.all (fun c => c.before a st) := by
  induction ts with
  | nil => rfl
  | cons c t ih =>
    show (Jvm.Cond.and c (allAtoms t)).before a st = _
    rw [Jvm.Cond.before_and, ih, List.all_cons]
def words1 : List Jvm.Cond := Jvm.Cond.code x code maxLocals ret :: tables_1
/-- a 'code' word, met by the world's own term for the bytes: nothing is compared byte by byte -/
theorem code_word {y : MethodName} {bytes : ByteArray} {mx : Nat} {rt : Option FieldType} {a : Array Value} {s : State} {m : MethodId} {meth : Method} {c : Code} (h1 : s.methodNamed? y = some m) (h2 : s.vm.method? m = some meth) (h3 : meth.code = some c) (h4 : c.code = bytes)
    (h5 : (c.maxLocals == mx && c.exceptionTable.isEmpty && decide (c.maxStack ≤ mostOperands) && decide (meth.sig.returnType = rt) && !meth.locks && decide (parseMethodDescriptor y.desc = some meth.sig)) = true) : (Jvm.Cond.code y bytes mx rt).before a s = true := by
  simp only [Bool.and_eq_true, beq_iff_eq, Bool.not_eq_true', decide_eq_true_eq] at h5
  obtain ⟨⟨⟨⟨⟨g1, g2⟩, g3⟩, g4⟩, g5⟩, g6⟩ := h5
  simp [Cond.before, Cond.holds, Cond.value, h1, h2, h3, h4, g1, g2, g3, g4, g5, g6]
def isCode : Jvm.Cond → Bool
  | .code _ _ _ _ => true
  | _ => false
theorem all_split {L : List Jvm.Cond} {P : Jvm.Cond → Bool} (h1 : L.all (fun c => isCode c || P c) = true) (h2 : ∀ c ∈ L.filter isCode, P c = true) : L.all P = true := by
  refine List.all_eq_true.mpr fun c hc => ?_
  have h := List.all_eq_true.mp h1 c hc
  rcases Bool.eq_false_or_eq_true (isCode c) with hi | hi
  · exact h2 c (List.mem_filter.mpr ⟨hc, hi⟩)
  · simpa [hi] using h
set_option maxRecDepth 65536 in
theorem w_c0 : (Jvm.Cond.code x code maxLocals ret).before args0 about1 = true := code_word (m := ⟨1, 3⟩) (meth := k1m3) (c := k1c3) (by decide +kernel) rfl rfl rfl (by decide +kernel)
set_option maxRecDepth 65536 in
theorem w_c1 : (Jvm.Cond.code ({ cls := "com/example/deferra/deferra/engine/Identities", name := "<init>", desc := "(IZ)V" } : Jvm.MethodName) prog_18_method_1_code (3 : Nat) (Option.none : Option Jvm.ClassFile.FieldType)).before args0 about1 = true := code_word (m := ⟨2, 0⟩) (meth := k2m0) (c := k2c0) (by decide +kernel) rfl rfl rfl (by decide +kernel)
set_option maxRecDepth 65536 in
theorem w_c2 : (Jvm.Cond.code ({ cls := "java/lang/Object", name := "<init>", desc := "()V" } : Jvm.MethodName) object_method_1_code (1 : Nat) (Option.none : Option Jvm.ClassFile.FieldType)).before args0 about1 = true := code_word (m := ⟨0, 0⟩) (meth := k0m0) (c := k0c0) (by decide +kernel) rfl rfl rfl (by decide +kernel)
set_option maxRecDepth 65536 in
theorem w_c3 : (Jvm.Cond.code ({ cls := "com/example/deferra/deferra/engine/Identities", name := "intsFor", desc := "(I)I" } : Jvm.MethodName) prog_18_method_46_code (1 : Nat) (Option.some Jvm.ClassFile.FieldType.int)).before args0 about1 = true := code_word (m := ⟨2, 11⟩) (meth := k2m11) (c := k2c11) (by decide +kernel) rfl rfl rfl (by decide +kernel)
set_option maxRecDepth 65536 in
theorem w_c4 : (Jvm.Cond.code ({ cls := "com/example/deferra/deferra/engine/Identities", name := "placeInts", desc := "()V" } : Jvm.MethodName) prog_18_method_47_code (1 : Nat) (Option.none : Option Jvm.ClassFile.FieldType)).before args0 about1 = true := code_word (m := ⟨2, 12⟩) (meth := k2m12) (c := k2c12) (by decide +kernel) rfl rfl rfl (by decide +kernel)
set_option maxRecDepth 65536 in
theorem w_c5 : (Jvm.Cond.code ({ cls := "com/example/deferra/deferra/engine/Identities", name := "take", desc := "(Z)I" } : Jvm.MethodName) prog_18_method_4_code (6 : Nat) (Option.some Jvm.ClassFile.FieldType.int)).before args0 about1 = true := code_word (m := ⟨2, 1⟩) (meth := k2m1) (c := k2c1) (by decide +kernel) rfl rfl rfl (by decide +kernel)
set_option maxRecDepth 65536 in
theorem w_c6 : (Jvm.Cond.code ({ cls := "com/example/deferra/deferra/engine/IdentitiesFindPinLaw", name := "step", desc := "(Lcom/example/deferra/deferra/engine/Identities;[II)V" } : Jvm.MethodName) method_3_code (7 : Nat) (Option.none : Option Jvm.ClassFile.FieldType)).before args0 about1 = true := code_word (m := ⟨1, 2⟩) (meth := k1m2) (c := k1c2) (by decide +kernel) rfl rfl rfl (by decide +kernel)
set_option maxRecDepth 65536 in
theorem w_c7 : (Jvm.Cond.code ({ cls := "com/example/deferra/deferra/engine/Identities", name := "decide", desc := "(IIZ)V" } : Jvm.MethodName) prog_18_method_13_code (4 : Nat) (Option.none : Option Jvm.ClassFile.FieldType)).before args0 about1 = true := code_word (m := ⟨2, 5⟩) (meth := k2m5) (c := k2c5) (by decide +kernel) rfl rfl rfl (by decide +kernel)
set_option maxRecDepth 65536 in
theorem w_c8 : (Jvm.Cond.code ({ cls := "com/example/deferra/deferra/engine/Identities", name := "realise", desc := "(IILcom/example/deferra/deferra/engine/Identities$Relation;)V" } : Jvm.MethodName) prog_18_method_18_code (4 : Nat) (Option.none : Option Jvm.ClassFile.FieldType)).before args0 about1 = true := code_word (m := ⟨2, 7⟩) (meth := k2m7) (c := k2c7) (by decide +kernel) rfl rfl rfl (by decide +kernel)
set_option maxRecDepth 65536 in
theorem w_c9 : (Jvm.Cond.code ({ cls := "com/example/deferra/deferra/engine/Identities", name := "holds", desc := "(IILcom/example/deferra/deferra/engine/Identities$Relation;)Z" } : Jvm.MethodName) prog_18_method_20_code (5 : Nat) (Option.some Jvm.ClassFile.FieldType.boolean)).before args0 about1 = true := code_word (m := ⟨2, 8⟩) (meth := k2m8) (c := k2c8) (by decide +kernel) rfl rfl rfl (by decide +kernel)
set_option maxRecDepth 65536 in
theorem w_c10 : (Jvm.Cond.code ({ cls := "com/example/deferra/deferra/engine/Identities", name := "colour", desc := "(I)I" } : Jvm.MethodName) prog_18_method_8_code (2 : Nat) (Option.some Jvm.ClassFile.FieldType.int)).before args0 about1 = true := code_word (m := ⟨2, 4⟩) (meth := k2m4) (c := k2c4) (by decide +kernel) rfl rfl rfl (by decide +kernel)
set_option maxRecDepth 65536 in
theorem w_c11 : (Jvm.Cond.code ({ cls := "com/example/deferra/deferra/engine/Identities", name := "merge", desc := "(II)V" } : Jvm.MethodName) prog_18_method_16_code (10 : Nat) (Option.none : Option Jvm.ClassFile.FieldType)).before args0 about1 = true := code_word (m := ⟨2, 6⟩) (meth := k2m6) (c := k2c6) (by decide +kernel) rfl rfl rfl (by decide +kernel)
set_option maxRecDepth 65536 in
theorem w_c12 : (Jvm.Cond.code ({ cls := "com/example/deferra/deferra/engine/Identities", name := "number", desc := "(I)I" } : Jvm.MethodName) prog_18_method_7_code (2 : Nat) (Option.some Jvm.ClassFile.FieldType.int)).before args0 about1 = true := code_word (m := ⟨2, 3⟩) (meth := k2m3) (c := k2c3) (by decide +kernel) rfl rfl rfl (by decide +kernel)
set_option maxRecDepth 65536 in
theorem w_c13 : (Jvm.Cond.code ({ cls := "com/example/deferra/deferra/engine/Identities", name := "close", desc := "(I)V" } : Jvm.MethodName) prog_18_method_40_code (2 : Nat) (Option.none : Option Jvm.ClassFile.FieldType)).before args0 about1 = true := code_word (m := ⟨2, 9⟩) (meth := k2m9) (c := k2c9) (by decide +kernel) rfl rfl rfl (by decide +kernel)
set_option maxRecDepth 65536 in
theorem w_c14 : (Jvm.Cond.code ({ cls := "com/example/deferra/deferra/engine/Identities", name := "row", desc := "(I)I" } : Jvm.MethodName) prog_18_method_45_code (2 : Nat) (Option.some Jvm.ClassFile.FieldType.int)).before args0 about1 = true := code_word (m := ⟨2, 10⟩) (meth := k2m10) (c := k2c10) (by decide +kernel) rfl rfl rfl (by decide +kernel)
set_option maxRecDepth 65536 in
theorem w_c15 : (Jvm.Cond.code ({ cls := "com/example/deferra/deferra/engine/IdentitiesFindPinLaw", name := "relabel", desc := "([III)V" } : Jvm.MethodName) method_2_code (3 : Nat) (Option.none : Option Jvm.ClassFile.FieldType)).before args0 about1 = true := code_word (m := ⟨1, 1⟩) (meth := k1m1) (c := k1c1) (by decide +kernel) rfl rfl rfl (by decide +kernel)
set_option maxRecDepth 65536 in
theorem w_c16 : (Jvm.Cond.code ({ cls := "com/example/deferra/deferra/engine/Identities", name := "find", desc := "(I)I" } : Jvm.MethodName) prog_18_method_6_code (3 : Nat) (Option.some Jvm.ClassFile.FieldType.int)).before args0 about1 = true := code_word (m := ⟨2, 2⟩) (meth := k2m2) (c := k2c2) (by decide +kernel) rfl rfl rfl (by decide +kernel)
def codes1 : List Jvm.Cond := [Jvm.Cond.code x code maxLocals ret, Jvm.Cond.code ({ cls := "com/example/deferra/deferra/engine/Identities", name := "<init>", desc := "(IZ)V" } : Jvm.MethodName) prog_18_method_1_code (3 : Nat) (Option.none : Option Jvm.ClassFile.FieldType), Jvm.Cond.code ({ cls := "java/lang/Object", name := "<init>", desc := "()V" } : Jvm.MethodName) object_method_1_code (1 : Nat) (Option.none : Option Jvm.ClassFile.FieldType), Jvm.Cond.code ({ cls := "com/example/deferra/deferra/engine/Identities", name := "intsFor", desc := "(I)I" } : Jvm.MethodName) prog_18_method_46_code (1 : Nat) (Option.some Jvm.ClassFile.FieldType.int), Jvm.Cond.code ({ cls := "com/example/deferra/deferra/engine/Identities", name := "placeInts", desc := "()V" } : Jvm.MethodName) prog_18_method_47_code (1 : Nat) (Option.none : Option Jvm.ClassFile.FieldType), Jvm.Cond.code ({ cls := "com/example/deferra/deferra/engine/Identities", name := "take", desc := "(Z)I" } : Jvm.MethodName) prog_18_method_4_code (6 : Nat) (Option.some Jvm.ClassFile.FieldType.int), Jvm.Cond.code ({ cls := "com/example/deferra/deferra/engine/IdentitiesFindPinLaw", name := "step", desc := "(Lcom/example/deferra/deferra/engine/Identities;[II)V" } : Jvm.MethodName) method_3_code (7 : Nat) (Option.none : Option Jvm.ClassFile.FieldType), Jvm.Cond.code ({ cls := "com/example/deferra/deferra/engine/Identities", name := "decide", desc := "(IIZ)V" } : Jvm.MethodName) prog_18_method_13_code (4 : Nat) (Option.none : Option Jvm.ClassFile.FieldType), Jvm.Cond.code ({ cls := "com/example/deferra/deferra/engine/Identities", name := "realise", desc := "(IILcom/example/deferra/deferra/engine/Identities$Relation;)V" } : Jvm.MethodName) prog_18_method_18_code (4 : Nat) (Option.none : Option Jvm.ClassFile.FieldType), Jvm.Cond.code ({ cls := "com/example/deferra/deferra/engine/Identities", name := "holds", desc := "(IILcom/example/deferra/deferra/engine/Identities$Relation;)Z" } : Jvm.MethodName) prog_18_method_20_code (5 : Nat) (Option.some Jvm.ClassFile.FieldType.boolean), Jvm.Cond.code ({ cls := "com/example/deferra/deferra/engine/Identities", name := "colour", desc := "(I)I" } : Jvm.MethodName) prog_18_method_8_code (2 : Nat) (Option.some Jvm.ClassFile.FieldType.int), Jvm.Cond.code ({ cls := "com/example/deferra/deferra/engine/Identities", name := "merge", desc := "(II)V" } : Jvm.MethodName) prog_18_method_16_code (10 : Nat) (Option.none : Option Jvm.ClassFile.FieldType), Jvm.Cond.code ({ cls := "com/example/deferra/deferra/engine/Identities", name := "number", desc := "(I)I" } : Jvm.MethodName) prog_18_method_7_code (2 : Nat) (Option.some Jvm.ClassFile.FieldType.int), Jvm.Cond.code ({ cls := "com/example/deferra/deferra/engine/Identities", name := "close", desc := "(I)V" } : Jvm.MethodName) prog_18_method_40_code (2 : Nat) (Option.none : Option Jvm.ClassFile.FieldType), Jvm.Cond.code ({ cls := "com/example/deferra/deferra/engine/Identities", name := "row", desc := "(I)I" } : Jvm.MethodName) prog_18_method_45_code (2 : Nat) (Option.some Jvm.ClassFile.FieldType.int), Jvm.Cond.code ({ cls := "com/example/deferra/deferra/engine/IdentitiesFindPinLaw", name := "relabel", desc := "([III)V" } : Jvm.MethodName) method_2_code (3 : Nat) (Option.none : Option Jvm.ClassFile.FieldType), Jvm.Cond.code ({ cls := "com/example/deferra/deferra/engine/Identities", name := "find", desc := "(I)I" } : Jvm.MethodName) prog_18_method_6_code (3 : Nat) (Option.some Jvm.ClassFile.FieldType.int)]
set_option maxRecDepth 65536 in
theorem codes_eq : words1.filter isCode = codes1 := rfl
theorem w_codes : ∀ c ∈ words1.filter isCode, c.before args0 about1 = true := by
  rw [codes_eq]
  intro c hc
  simp only [codes1, List.mem_cons, List.not_mem_nil, or_false] at hc
  rcases hc with rfl | rfl | rfl | rfl | rfl | rfl | rfl | rfl | rfl | rfl | rfl | rfl | rfl | rfl | rfl | rfl | rfl
  · exact w_c0
  · exact w_c1
  · exact w_c2
  · exact w_c3
  · exact w_c4
  · exact w_c5
  · exact w_c6
  · exact w_c7
  · exact w_c8
  · exact w_c9
  · exact w_c10
  · exact w_c11
  · exact w_c12
  · exact w_c13
  · exact w_c14
  · exact w_c15
  · exact w_c16
set_option maxRecDepth 65536 in
theorem w_t1 : (words1.take 24).all (fun c => isCode c || c.before args0 about1) = true := by decide +kernel
set_option maxRecDepth 65536 in
theorem w_t2 : ((words1.drop 24).take 24).all (fun c => isCode c || c.before args0 about1) = true := by decide +kernel
set_option maxRecDepth 65536 in
theorem w_t3 : (((words1.drop 24).drop 24).take 24).all (fun c => isCode c || c.before args0 about1) = true := by decide +kernel
set_option maxRecDepth 65536 in
theorem w_t4 : ((((words1.drop 24).drop 24).drop 24).take 24).all (fun c => isCode c || c.before args0 about1) = true := by decide +kernel
set_option maxRecDepth 65536 in
theorem w_t5 : ((((words1.drop 24).drop 24).drop 24).drop 24).all (fun c => isCode c || c.before args0 about1) = true := by decide +kernel
theorem w_tables : (allAtoms (Jvm.Cond.code x code maxLocals ret :: tables_1)).before args0 about1 = true := by
  rw [allAtoms_all]
  show words1.all (fun c => c.before args0 about1) = true
  refine all_split ?_ w_codes
  rw [← List.take_append_drop 24 words1, List.all_append, w_t1, ← List.take_append_drop 24 (words1.drop 24), List.all_append, w_t2, ← List.take_append_drop 24 ((words1.drop 24).drop 24), List.all_append, w_t3, ← List.take_append_drop 24 (((words1.drop 24).drop 24).drop 24), List.all_append, w_t4, w_t5]
  rfl
set_option maxRecDepth 65536 in
theorem w_case : (Jvm.Cond.and given_1 narrow_1).before args0 about1 = true := by decide +kernel
theorem w_applies : (headSpec (Jvm.Cond.code x code maxLocals ret :: tables_1) room_1).applies x e0.platform about1 = true :=
  (Spec.applies_iff w_frames).mpr ⟨w_running, w_runnable, w_alone, w_named, w_hears, w_ripe, w_room, w_tables⟩
theorem atStart : AtStart classFile x code maxLocals ret World_1 tables_1 room_1 Calls_1 rest_1 Pre_1 launch0 p0 e0 about1 theMethod args0 below0 :=
  ⟨lists_1, trivial, launch0.admits_env _ _ _, launch0.least_env, fairChoices_fair.cas, fairChoices_fair.clock, w_frames, w_args, w_heap, w_applies, trivial, trivial, w_case⟩
end start1
theorem witness_1 : WitnessClaimed_1 := ⟨start1.p0, start1.e0, start1.about1, start1.theMethod, start1.args0, start1.below0, start1.atStart⟩
end Jvm.Pilot.@@N@@
