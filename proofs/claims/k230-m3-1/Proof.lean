import JvmDerived
import JvmDerived.Pilot.@@N@@Statement
import JvmDerived.Pilot.@@N@@Code
set_option linter.unusedVariables false
set_option linter.unusedSimpArgs false
@@BLOCK:NumsL.lean.txt@@
namespace Jvm.RoadKit
open Sem ClassFile Op Lib Jvm.Stand Jvm.Free Jvm.LawKit
section Own
variable {p : Program} {l : Launch} {e : Env} {R : Room} {s : State} {m : MethodId} {args : Array Value} {below : List Frame} {meth : Method} {c : Code} {T : State} {locs : List Loc} {cells slots : Nat} {Z : State} {h h' : Heap} {a b : Addr} {ty : FieldType} {vs : List Value} {cl : Cell} {sl : Nat} {v : Value} {ws : List Addr}
theorem mw {α : Type} {x : α} {L : List α} (i : Nat) (q : L[i]? = some x) : x ∈ L := List.mem_of_getElem? q
/-- from A the body comes to its end, and Q holds there -/
def Goal (p : Program) (e : Env) (below : List Frame) (s : State) (Q : Option Value → Heap → List Loc → Prop) (k n : Nat) (A : State) : Prop :=
  ∃ s₂ o, Steps p.tables e below A s₂ ∧ s₂.status = .running ∧ Ended s₂ below o ∧ ∃ v L, o = .returned v ∧ Q v s₂.heap L ∧ FrameEnd s o s₂ L k n
variable {Q : Option Value → Heap → List Loc → Prop} {k n : Nat} {A B : State}
theorem Goal.to (f : ∀ t, Steps p.tables e below B t → Steps p.tables e below A t) (g : Goal p e below s Q k n B) : Goal p e below s Q k n A := by
  obtain ⟨s₂, o, h1, r⟩ := g
  exact ⟨s₂, o, f _ h1, r⟩
theorem Goal.tr (f : Steps p.tables e below A B) (g : Goal p e below s Q k n B) : Goal p e below s Q k n A := Goal.to (fun t q => f.trans q) g
theorem Goal.retV (X : Stand p l e R s m args below meth c T locs cells slots) (hx : p.tables.exec = Jvm.exec) {pc : Nat} {Ls : Array Slot} {w : Value} {t : FieldType} {i : Instr} {rest : List Value} (hret : meth.sig.returnType = some t) (hn : narrow t w = w)
    (hi : (i = .ireturn ∧ (t = .int ∨ t = .boolean ∨ t = .byte ∨ t = .char ∨ t = .short) ∧ ∃ z, w = .int z) ∨ (i = .lreturn ∧ t = .long ∧ ∃ z, w = .long z) ∨ (i = .dreturn ∧ t = .double ∧ ∃ z, w = .double z) ∨ (i = .freturn ∧ t = .float ∧ ∃ z, w = .float z) ∨ (i = .areturn ∧ t.isReference = true ∧ w.isRef = true))
    (hd : decode c.code pc = .ok (i, 1)) (hlk : meth.locks = false) (eT : T.heap = h) (hq : Q (some w) h locs) (hc : cells ≤ k) (hs : slots ≤ n) : Goal p e below s Q k n (T.setTop (mkF m pc Ls (w :: rest))) := by
  obtain ⟨fs, hr, hrun, hended, hW, hsame⟩ := X.leave (v := some w) (fun h => by rw [hret] at h; cases h) hlk
  refine ⟨_, _, retOut X hx hret hn hi hd hr, hrun, hended, _, _, rfl, ?_, ⟨_, rfl⟩, hW, hsame.mono hc hs⟩
  show Q (some w) T.heap locs
  rw [eT]; exact hq
theorem Goal.retN (X : Stand p l e R s m args below meth c T locs cells slots) (hx : p.tables.exec = Jvm.exec) {pc : Nat} {Ls : Array Slot} (hret : meth.sig.returnType = none)
    (hd : decode c.code pc = .ok (.return_, 1)) (hlk : meth.locks = false) (eT : T.heap = h) (hq : Q none h locs) (hc : cells ≤ k) (hs : slots ≤ n) : Goal p e below s Q k n (T.setTop (mkF m pc Ls [])) := by
  obtain ⟨fs, hr, hrun, hended, hW, hsame⟩ := X.leave (v := none) (fun _ => rfl) hlk
  refine ⟨_, _, X.returnOut hx hret hd hr, hrun, hended, _, _, rfl, ?_, ⟨_, rfl⟩, hW, hsame.mono hc hs⟩
  show Q none T.heap locs
  rw [eT]; exact hq
/-- the same, with the wide end: texts may have been interned -/
def GoalW (p : Program) (e : Env) (below : List Frame) (s : State) (Q : Option Value → Heap → List Loc → Prop) (k n : Nat) (A : State) : Prop :=
  ∃ s₂ o, Steps p.tables e below A s₂ ∧ s₂.status = .running ∧ Ended s₂ below o ∧ ∃ v L, o = .returned v ∧ Q v s₂.heap L ∧ ReturnedEndW s o s₂ L k n
theorem GoalW.to (f : ∀ t, Steps p.tables e below B t → Steps p.tables e below A t) (g : GoalW p e below s Q k n B) : GoalW p e below s Q k n A := by
  obtain ⟨s₂, o, h1, r⟩ := g
  exact ⟨s₂, o, f _ h1, r⟩
theorem GoalW.tr (f : Steps p.tables e below A B) (g : GoalW p e below s Q k n B) : GoalW p e below s Q k n A := GoalW.to (fun t q => f.trans q) g
theorem GoalW.retV {vm0 : Vm} (X : Stand p l e R (s.setVm vm0) m args below meth c T locs cells slots) {k0 : Nat} (hS : s.Since vm0 k0) (hx : p.tables.exec = Jvm.exec) {pc : Nat} {Ls : Array Slot} {w : Value} {t : FieldType} {i : Instr} {rest : List Value} (hret : meth.sig.returnType = some t) (hn : narrow t w = w)
    (hi : (i = .ireturn ∧ (t = .int ∨ t = .boolean ∨ t = .byte ∨ t = .char ∨ t = .short) ∧ ∃ z, w = .int z) ∨ (i = .lreturn ∧ t = .long ∧ ∃ z, w = .long z) ∨ (i = .dreturn ∧ t = .double ∧ ∃ z, w = .double z) ∨ (i = .freturn ∧ t = .float ∧ ∃ z, w = .float z) ∨ (i = .areturn ∧ t.isReference = true ∧ w.isRef = true))
    (hd : decode c.code pc = .ok (i, 1)) (hlk : meth.locks = false) (eT : T.heap = h) (hk : k0 ≤ h.size) (hq : Q (some w) h locs) (hc : cells ≤ k) (hs : slots ≤ n) : GoalW p e below s Q k n (T.setTop (mkF m pc Ls (w :: rest))) := by
  obtain ⟨fs, hr, hrun, hended, e1, e2, e3, e4⟩ := X.leaveW hS (by rw [eT]; exact hk) (v := some w) (fun h => by rw [hret] at h; cases h) hlk
  refine ⟨_, _, retOut X hx hret hn hi hd hr, hrun, hended, _, _, rfl, ?_, e1, e2, e3, e4.mono hc hs⟩
  show Q (some w) T.heap locs
  rw [eT]; exact hq
theorem nar01 {z : Int32} (q : z = 0 ∨ z = 1) : narrow .boolean (.int z) = .int z := by rcases q with rfl | rfl <;> rfl
theorem catV {r : Value} (q : r.isRef = true) : r.category = 1 := by rcases ref_cases q with rfl | ⟨o, rfl⟩ <;> rfl
theorem catR {o : Addr} : (Value.ref o).category = 1 := rfl
theorem catI {z : Int32} : (Value.int z).category = 1 := rfl
theorem catJ {z : Int64} : (Value.long z).category = 2 := rfl
theorem catN : Value.null.category = 1 := rfl
theorem narV {r : Value} {C : String} (q : r.isRef = true) : narrow (.object C) r = r := by rcases ref_cases q with rfl | ⟨o, rfl⟩ <;> rfl
theorem fitV {r : Value} {C : String} (q : r.isRef = true) : fits (.object C) r = true := by rcases ref_cases q with rfl | ⟨o, rfl⟩ <;> rfl
theorem selP {a0 : Array Value} {y : MethodName} {n : Nat} (hZ : Z.Warmed39 s.vm) (hins : (Cond.instantiable y.cls n).before a0 Z = true) (hp : (Cond.privateMethod y).before a0 Z = true) (hi : (Cond.instanceMethod y).before a0 Z = true) (hy : y.cls ≠ "java/lang/invoke/MethodHandle" ∧ y.cls ≠ "java/lang/invoke/VarHandle") : (Cond.selects y.cls y y).before args s = true := by
  obtain ⟨c, k, hc, hk, -, hniab, -, -⟩ := Cond.instantiable_spec (mv (args := args) hZ hins)
  exact selects_self_of_private hc hk (Bool.or_eq_false_iff.mp hniab).1 (Cond.privateMethod_at (mvP (args := args) hZ hp)) (mv hZ hi) hy
theorem Fld.cast {C n d : String} {w : Value} (F : Fld Z h a C n d v) (q : v = w) : Fld Z h a C n d w := q ▸ F
/-- an array of the heap by the whole list of what it holds -/
def Ary (Z : State) (h : Heap) (a : Addr) (ty : FieldType) (vs : List Value) : Prop := ∃ cl : Cell, Arr Z h a cl ty ∧ cl.slots.toList = vs
theorem Ary.cast {ws : List Value} (F : Ary Z h a ty vs) (q : vs = ws) : Ary Z h a ty ws := q ▸ F
theorem Ary.lt (F : Ary Z h a ty vs) : a < h.size := by obtain ⟨cl, A, -⟩ := F; exact A.lt
theorem Ary.ext (F : Ary Z h a ty vs) (E : Ext h h') : Ary Z h' a ty vs := by obtain ⟨cl, A, r⟩ := F; exact ⟨cl, A.ext E, r⟩
theorem Ary.other (F : Ary Z h a ty vs) (W : Wr h h' b sl v) (q : a ≠ b) : Ary Z h' a ty vs := by obtain ⟨cl, A, r⟩ := F; exact ⟨cl, A.other W q, r⟩
theorem Ary.keep (F : Ary Z h a ty vs) (K : Keep h h' ws) (q : a ∉ ws) : Ary Z h' a ty vs := by obtain ⟨cl, A, r⟩ := F; exact ⟨cl, ⟨K.2.1 a cl A.1 q, A.2⟩, r⟩
theorem Ary.new {k : ClassId} {z : Int32} {N : Nat} (A : Arr Z h a (newA k ty z) ty) (hz : z.toNatClampNeg = N) : Ary Z h a ty (List.replicate N (defaultValue ty)) := ⟨_, A, by simp [newA, hz]⟩
theorem Ary.put {j : Nat} {N : Nat} (A : Arr Z h a cl ty) (S : cl.slots.toList = vs) (W : Wr h h' a j v) (q : j = N) : Ary Z h' a ty (vs.set N v) := ⟨_, A.same W, by subst q; simp [Cell.setSlot, S]⟩
theorem sizeA (S : cl.slots.toList = vs) : cl.slots.size = vs.length := by rw [← S]; simp
theorem inA {j : Int32} (S : cl.slots.toList = vs) (q : ¬ j < 0) (r : j.toNatClampNeg < vs.length) : ¬ (j < 0 ∨ cl.slots.size ≤ j.toNatClampNeg) := by rw [sizeA S]; intro u; rcases u with u | u; exact q u; exact absurd r (Nat.not_lt.mpr u)
theorem atA {j : Nat} (S : cl.slots.toList = vs) (q : vs[j]? = some v) : cl.slots[j]? = some v := by rw [← q, ← S]; simp
theorem lenA {z : Int32} (S : cl.slots.toList = vs) (q : vs.length.toInt32 = z) : cl.slots.size.toInt32 = z := by rw [sizeA S]; exact q
/-- a static that stood when the law began, and what it holds -/
def StaN (Z : State) (n0 : Nat) (h : Heap) (C n d : String) (v : Value) : Prop := ∃ (cf i : Nat) (k : Class) (f : Field) (st : Addr) (cell : Cell), Z.fieldFound? C n d = some (cf, k, i, f) ∧ f.isStatic = true ∧ k.init = .initialized ∧ k.statics = some st ∧ h[st]? = some cell ∧ cell.vm.isStatics = true ∧ cell.slots[f.slot]? = some v ∧ st < n0
section StaN
variable {C nm d : String} {n0 : Nat}
theorem StaN.sta (F : StaN Z n0 h C nm d v) : Sta Z h C nm d v := by obtain ⟨cf, i, k, f, st, cell, h1, h2, h3, h4, h5, h6, h7, -⟩ := F; exact ⟨cf, i, k, f, st, cell, h1, h2, h3, h4, h5, h6, h7⟩
theorem Sta.toN (F : Sta Z h C nm d v) : StaN Z h.size h C nm d v := by obtain ⟨cf, i, k, f, st, cell, h1, h2, h3, h4, h5, h6, h7⟩ := F; exact ⟨cf, i, k, f, st, cell, h1, h2, h3, h4, h5, h6, h7, (Array.getElem?_eq_some_iff.mp h5).1⟩
theorem StaN.ext (F : StaN Z n0 h C nm d v) (E : Ext h h') : StaN Z n0 h' C nm d v := by obtain ⟨cf, i, k, f, st, cell, h1, h2, h3, h4, h5, r⟩ := F; exact ⟨cf, i, k, f, st, cell, h1, h2, h3, h4, E.2 _ _ h5, r⟩
theorem StaN.keep (F : StaN Z n0 h C nm d v) (K : Keep h h' ws) (q : ∀ x ∈ ws, n0 ≤ x) : StaN Z n0 h' C nm d v := by
  obtain ⟨cf, i, k, f, st, cell, h1, h2, h3, h4, h5, h6, h7, h8⟩ := F
  exact ⟨cf, i, k, f, st, cell, h1, h2, h3, h4, K.2.1 _ _ h5 (fun z => absurd h8 (Nat.not_lt.mpr (q _ z))), h6, h7, h8⟩
theorem StaN.wr {w : Value} (F : StaN Z n0 h C nm d v) (W : Wr h h' a sl w) : StaN Z n0 h' C nm d v := by
  obtain ⟨cf, i, k, f, st, cell, h1, h2, h3, h4, h5, h6, h7, h8⟩ := F
  obtain ⟨c', e1, -, -, -, e5, -, e7⟩ := wr_at W h5
  have ne : st ≠ a := fun e => by rw [(e7 e).2.2] at h6; cases h6
  exact ⟨cf, i, k, f, st, cell, h1, h2, h3, h4, by rw [← e5 ne]; exact e1, h6, h7, h8⟩
end StaN
/-- what may lie in an array of objects of class C (of arrays of class C) -/
def OvrO (Z : State) (h : Heap) (a : Addr) (C : String) : Prop := ∃ cl : Cell, h[a]? = some cl ∧ Ovr Z cl.cls C
theorem OvrO.ext {C : String} (F : OvrO Z h a C) (E : Ext h h') : OvrO Z h' a C := by obtain ⟨cl, h1, r⟩ := F; exact ⟨cl, E.2 _ _ h1, r⟩
theorem OvrO.wr {C : String} (F : OvrO Z h a C) (W : Wr h h' b sl v) : OvrO Z h' a C := by obtain ⟨cl, h1, r⟩ := F; obtain ⟨c', e1, e2, -⟩ := wr_at W h1; exact ⟨c', e1, by rw [e2]; exact r⟩
theorem OvrO.keep {C : String} (F : OvrO Z h a C) (K : Keep h h' ws) : OvrO Z h' a C := by obtain ⟨cl, h1, r⟩ := F; obtain ⟨c', e1, e2, -⟩ := K.2.2 _ _ h1; exact ⟨c', e1, by rw [e2]; exact r⟩
theorem stoO {C : String} {y : Addr} (A : Arr Z h a cl ty) (O : OvrO Z h a C) (I : Ins Z h y C true) : Sto Z h a (.ref y) := by
  obtain ⟨c', h1, r⟩ := O
  cases A.1.symm.trans h1
  exact Sto.of A r I
def OvrB (Z : State) (h : Heap) (a : Addr) (C : String) : Prop := ∃ (cl : Cell) (t : FieldType), h[a]? = some cl ∧ OvrA Z cl.cls t C
theorem OvrB.ext {C : String} (F : OvrB Z h a C) (E : Ext h h') : OvrB Z h' a C := by obtain ⟨cl, t, h1, r⟩ := F; exact ⟨cl, t, E.2 _ _ h1, r⟩
theorem OvrB.wr {C : String} (F : OvrB Z h a C) (W : Wr h h' b sl v) : OvrB Z h' a C := by obtain ⟨cl, t, h1, r⟩ := F; obtain ⟨c', e1, e2, -⟩ := wr_at W h1; exact ⟨c', t, e1, by rw [e2]; exact r⟩
theorem OvrB.keep {C : String} (F : OvrB Z h a C) (K : Keep h h' ws) : OvrB Z h' a C := by obtain ⟨cl, t, h1, r⟩ := F; obtain ⟨c', e1, e2, -⟩ := K.2.2 _ _ h1; exact ⟨c', t, e1, by rw [e2]; exact r⟩
theorem stoB {C : String} {y : Addr} (A : Arr Z h a cl ty) (O : OvrB Z h a C) (I : Ins Z h y C true) : Sto Z h a (.ref y) := by
  obtain ⟨c', t, h1, r⟩ := O
  cases A.1.symm.trans h1
  exact Sto.ofVA A rfl r I
theorem fits_nil : ∀ w ∈ ([] : List Value), fits ty w = true := fun _ q => nomatch q
theorem fits_cons (q : fits ty v = true) (r : ∀ w ∈ vs, fits ty w = true) : ∀ w ∈ v :: vs, fits ty w = true := fun w z => (List.mem_cons.mp z).elim (fun u => u ▸ q) (r w)
theorem Ary.arv {dv : Value} {z : Int32} (F : Ary Z h a ty vs) (hz : z.toNatClampNeg = vs.length) (h0 : ¬ z < 0) (hf : ∀ w ∈ vs, fits ty w = true) : ∃ k, Arv Z h a k ty z vs dv := by
  obtain ⟨cl, A, S⟩ := F
  have sz : cl.slots.size = vs.length := sizeA S
  refine ⟨_, cl, A, rfl, sz.trans hz.symm, h0, fun i hi => ?_, fun i hi => ?_⟩
  · rw [sz] at hi
    refine atA S ?_
    rw [List.getD_eq_getElem?_getD, List.getElem?_eq_getElem hi]; rfl
  · rw [sz] at hi
    rw [List.getD_eq_getElem?_getD, List.getElem?_eq_getElem hi]
    exact hf _ (List.getElem_mem hi)
theorem Arv.ary {k : ClassId} {z : Int32} {dv : Value} (F : Arv Z h a k ty z vs dv) (hz : z.toNatClampNeg = vs.length) : Ary Z h a ty vs := by
  obtain ⟨cl, A, -, S, -, H, -⟩ := F
  refine ⟨cl, A, List.ext_getElem? fun i => ?_⟩
  by_cases hi : i < cl.slots.size
  · have q := H i hi
    have hv : i < vs.length := by omega
    rw [List.getD_eq_getElem?_getD, List.getElem?_eq_getElem hv] at q
    rw [List.getElem?_eq_getElem hv, Array.getElem?_toList]; exact q
  · rw [List.getElem?_eq_none (by simp; omega), List.getElem?_eq_none (by omega)]
theorem storeV {Ls : Array Slot} {i : Nat} {r : Value} {o : Slot} {l' : Array Slot} (q : r.isRef = true) (ho : o = .unset ∨ ∃ w, o = .val w ∧ w.category = 1) (hold : Ls[i]? = some o := by rfl) (hl : Ls.setIfInBounds i (.val r) = l' := by rfl) : storeLocals Ls i r = some l' := by
  rw [← hl]; exact XS.store1 hold ho (catV q)
end Own
end Jvm.RoadKit
namespace Jvm.Pilot.@@N@@
open Jvm Jvm.ClassFile Sem Op Lib Jvm.Free Jvm.Stand Jvm.LawKit Jvm.RoadKit Bundle Jvm.Pilot.@@N@@.Jvm.D
def own_one (b v : Int32) : Int32 := if b = (0 : Int32) then (0 : Int32) else if v = (-1 : Int32) then (0 : Int32) else (1 : Int32)
def own_add (n v : Int32) : Int32 := if v = (-1 : Int32) then n else (n + (1 : Int32))
theorem own_one0 (v : Int32) : own_one (0 : Int32) v = 0 := rfl
theorem own_addE (n v : Int32) : own_add n v = n + own_one (1 : Int32) v := by
  unfold own_add own_one
  by_cases h : v = (-1 : Int32)
  · rw [if_pos h, if_neg (by decide), if_pos h, Int32.add_zero]
  · rw [if_neg h, if_neg (by decide), if_neg h]
theorem own_ln {u n : Int32} (h : n = ((u &&& (7 : Int32)) % (6 : Int32))) : n = 0 ∨ n = 1 ∨ n = 2 ∨ n = 3 ∨ n = 4 ∨ n = 5 := by
  have q := Jvm.Kit.i32_mask u 7 (k := 3) (by decide) (by decide)
  have r := Jvm.Kit.i32_rem_nonneg (x := u &&& 7) (y := 6) (by omega)
  rw [← h, show (6 : Int32).toInt = 6 from rfl] at r
  have s : n.toInt = 0 ∨ n.toInt = 1 ∨ n.toInt = 2 ∨ n.toInt = 3 ∨ n.toInt = 4 ∨ n.toInt = 5 := by omega
  rcases s with s | s | s | s | s | s
  · have s := Int32.toInt_inj.mp (show n.toInt = (0 : Int32).toInt from s); exact Or.inl s
  · have s := Int32.toInt_inj.mp (show n.toInt = (1 : Int32).toInt from s); exact Or.inr (Or.inl s)
  · have s := Int32.toInt_inj.mp (show n.toInt = (2 : Int32).toInt from s); exact Or.inr (Or.inr (Or.inl s))
  · have s := Int32.toInt_inj.mp (show n.toInt = (3 : Int32).toInt from s); exact Or.inr (Or.inr (Or.inr (Or.inl s)))
  · have s := Int32.toInt_inj.mp (show n.toInt = (4 : Int32).toInt from s); exact Or.inr (Or.inr (Or.inr (Or.inr (Or.inl s))))
  · have s := Int32.toInt_inj.mp (show n.toInt = (5 : Int32).toInt from s); exact Or.inr (Or.inr (Or.inr (Or.inr (Or.inr s))))
theorem ef_1 (m : MethodId) (x0 : Int32) (x1 : Int32) (x2 : Int32)  : entryFrame m #[(.int x0), (.int x1), (.int x2)] 3 = mkF m 0 #[.val (.int x0), .val (.int x1), .val (.int x2)] [] := by first | (simp [entryFrame, mkF, argsToLocals, Value.category]; done) | rfl
theorem pn_1 : plainName "com/example/purloin/runner/PdfsReachedPinLaw" = true := by first | (simp [plainName, overriddenIn]; done) | decide +kernel
theorem d1_0 : decode method_3_code 0 = .ok (.iload_n 0, 1) := by decide +kernel
theorem d1_1 : decode method_3_code 1 = .ok (.iload_n 1, 1) := by decide +kernel
theorem d1_2 : decode method_3_code 2 = .ok (.iushr, 1) := by decide +kernel
theorem d1_3 : decode method_3_code 3 = .ok (.iconst 1, 1) := by decide +kernel
theorem d1_4 : decode method_3_code 4 = .ok (.iand, 1) := by decide +kernel
theorem d1_5 : decode method_3_code 5 = .ok (.ifCond .eq 7, 3) := by decide +kernel
theorem d1_12 : decode method_3_code 12 = .ok (.iload_n 2, 1) := by decide +kernel
theorem d1_8 : decode method_3_code 8 = .ok (.iconst (-1), 1) := by decide +kernel
theorem d1_9 : decode method_3_code 9 = .ok (.goto 4, 3) := by decide +kernel
theorem d1_13 : decode method_3_code 13 = .ok (.ireturn, 1) := by decide +kernel
def Qp (Z : State) (u0 : Int32) (u1 : Int32) (u2 : Int32) (h0 : Heap) (n0 : Nat) (v : Option Value) (h : Heap) (L : List Loc) : Prop := v = some (.int (if (((u0.toUInt32 >>> (u1 &&& 31).toUInt32).toInt32) &&& (1 : Int32)) = (0 : Int32) then u2 else (-1 : Int32))) ∧ Fr n0 L ∧ h = h0
set_option maxRecDepth 65536 in
set_option maxHeartbeats 40000000 in
theorem rmp (l : Launch) (Z : State) (a0 : Array Value) (hw : ∀ d ∈ tables_1, d.before a0 Z = true) (ws : List Jvm.Cond) (u0 : Int32) (u1 : Int32) (u2 : Int32) (h0 : Heap) (n0 : Nat) (Z0 : n0 ≤ h0.size) :
    MetFree l (⟨"com/example/purloin/runner/PdfsReachedPinLaw", "pick", "(III)I"⟩ : MethodName) (head1 (Jvm.Cond.code (⟨"com/example/purloin/runner/PdfsReachedPinLaw", "pick", "(III)I"⟩ : MethodName) method_3_code 3 (some .int) :: ws) ({ frames := 0, cells := 0, slots := 0, locals := 0 } : Room)) (fun a U => a = #[(.int u0), (.int u1), (.int u2)] ∧ Z.Warmed39 U.vm ∧ U.heap = h0) (fun _ _ _ _ _ => True) (fun _ U o U' => ∃ v L, o = .returned v ∧ Qp Z u0 u1 u2 h0 n0 v U'.heap L ∧ FrameEnd U o U' L 0 0) := by
  refine MetFree.of_bodySF (plainFor_of_name pn_1) hisR ?_
  intro p e s m args below meth c s₁ Bd hml0 hP hK
  obtain ⟨rfl, hZ, hh⟩ := hP
  have hx := Bd.exec
  have hby := Bd.bytes
  have hml : c.maxLocals = 3 := hml0
  have hown : s.vm.findClass "com/example/purloin/runner/PdfsReachedPinLaw" = some m.cls := findClass_of_methodNamed Bd.named
  have hnm := (name_of_methodNamed Bd.named Bd.method).1
  have X0 : Stand p l e ({ frames := 0, cells := 0, slots := 0, locals := 0 } : Room) s m #[(.int u0), (.int u1), (.int u2)] below meth c s₁ [] 0 0 := Stand.of_body Bd
  have e0 : s₁.heap = h0 := by rw [← hh, Bd.state]; rfl
  have N0 := Fr.nil n0
  have hlk : meth.locks = false := BodyLoose.notSynchronized Bd
  show Goal p e below s (Qp Z u0 u1 u2 h0 n0) 0 0 (s₁.setTop (entryFrame m #[(.int u0), (.int u1), (.int u2)] 3))
  refine Goal.to (B := s₁.setTop (mkF m 0 #[.val (.int u0), .val (.int u1), .val (.int u2)] [])) (fun tt kk => castTop (ef_1 m u0 u1 u2 ) kk) ?_
  refine Goal.to (B := s₁.setTop (mkF m 5 #[.val (.int u0), .val (.int u1), .val (.int u2)] [(.int (((u0.toUInt32 >>> (u1 &&& 31).toUInt32).toInt32) &&& (1 : Int32)))])) (fun tt kk => ?_) ?_
  · show Steps p.tables e below (s₁.setTop (mkF m 0 #[.val (.int u0), .val (.int u1), .val (.int u2)] [])) tt
    refine XS.iloadN X0.here hx rfl (hb hby d1_0) rfl ?_
    show Steps p.tables e below (s₁.setTop (mkF m 1 #[.val (.int u0), .val (.int u1), .val (.int u2)] [(.int u0)])) tt
    refine XS.iloadN X0.here hx rfl (hb hby d1_1) rfl ?_
    show Steps p.tables e below (s₁.setTop (mkF m 2 #[.val (.int u0), .val (.int u1), .val (.int u2)] [(.int u1), (.int u0)])) tt
    refine XS.iushr X0.here hx rfl (hb hby d1_2) rfl ?_
    show Steps p.tables e below (s₁.setTop (mkF m 3 #[.val (.int u0), .val (.int u1), .val (.int u2)] [(.int ((u0.toUInt32 >>> (u1 &&& 31).toUInt32).toInt32))])) tt
    refine XS.iconst X0.here hx rfl (hb hby d1_3) ?_
    show Steps p.tables e below (s₁.setTop (mkF m 4 #[.val (.int u0), .val (.int u1), .val (.int u2)] [(.int (1 : Int32)), (.int ((u0.toUInt32 >>> (u1 &&& 31).toUInt32).toInt32))])) tt
    refine XS.iand X0.here hx rfl (hb hby d1_4) rfl ?_
    exact kk
  obtain ⟨w2, hw2⟩ : ∃ z : Int32, z = if (((u0.toUInt32 >>> (u1 &&& 31).toUInt32).toInt32) &&& (1 : Int32)) = (0 : Int32) then u2 else (-1 : Int32) := ⟨_, rfl⟩
  refine Goal.to (B := s₁.setTop (mkF m 13 #[.val (.int u0), .val (.int u1), .val (.int u2)] [(.int w2)])) (fun tt kk => ?_) ?_
  · by_cases hc1 : (((u0.toUInt32 >>> (u1 &&& 31).toUInt32).toInt32) &&& (1 : Int32)) = (0 : Int32)
    · have qw2 : w2 = u2 := by rw [hw2, if_pos hc1]
      rw [qw2] at kk
      show Steps p.tables e below (s₁.setTop (mkF m 5 #[.val (.int u0), .val (.int u1), .val (.int u2)] [(.int (((u0.toUInt32 >>> (u1 &&& 31).toUInt32).toInt32) &&& (1 : Int32)))])) tt
      refine XS.ifYes X0.here hx rfl (pc0 := 5) (pc' := 12) rfl (hb hby d1_5) rfl ((if0 _ _).trans (teq hc1).1) (by decide) (by decide) ?_
      show Steps p.tables e below (s₁.setTop (mkF m 12 #[.val (.int u0), .val (.int u1), .val (.int u2)] [])) tt
      refine XS.iloadN X0.here hx rfl (hb hby d1_12) rfl ?_
      exact kk
    · have qw2 : w2 = (-1 : Int32) := by rw [hw2, if_neg hc1]
      rw [qw2] at kk
      show Steps p.tables e below (s₁.setTop (mkF m 5 #[.val (.int u0), .val (.int u1), .val (.int u2)] [(.int (((u0.toUInt32 >>> (u1 &&& 31).toUInt32).toInt32) &&& (1 : Int32)))])) tt
      refine XS.ifNo X0.here hx rfl (hb hby d1_5) rfl ((if0 _ _).trans (feq hc1).1) ?_
      show Steps p.tables e below (s₁.setTop (mkF m 8 #[.val (.int u0), .val (.int u1), .val (.int u2)] [])) tt
      refine XS.iconst X0.here hx rfl (hb hby d1_8) ?_
      show Steps p.tables e below (s₁.setTop (mkF m 9 #[.val (.int u0), .val (.int u1), .val (.int u2)] [(.int (-1 : Int32))])) tt
      refine XS.goto X0.here hx rfl (pc0 := 9) (pc' := 13) rfl (hb hby d1_9) (by decide) (by decide) ?_
      exact kk
  exact Goal.retV X0 hx Bd.returns rfl (Or.inl ⟨rfl, Or.inl rfl, _, rfl⟩) (hb hby d1_13) hlk e0 ⟨(congrArg some (by rw [hw2] : ((.int w2) : Value) = (.int (if (((u0.toUInt32 >>> (u1 &&& 31).toUInt32).toInt32) &&& (1 : Int32)) = (0 : Int32) then u2 else (-1 : Int32))))), N0, rfl⟩ (by decide) (by decide)
theorem ef_2 (m : MethodId) (x0 : Int32) (x1 : Int32)  : entryFrame m #[(.int x0), (.int x1)] 2 = mkF m 0 #[.val (.int x0), .val (.int x1)] [] := by first | (simp [entryFrame, mkF, argsToLocals, Value.category]; done) | rfl
theorem pn_2 : plainName "com/example/purloin/runner/PdfsReachedPinLaw" = true := by first | (simp [plainName, overriddenIn]; done) | decide +kernel
theorem d2_0 : decode method_4_code 0 = .ok (.iload_n 0, 1) := by decide +kernel
theorem d2_1 : decode method_4_code 1 = .ok (.ifCond .eq 12, 3) := by decide +kernel
theorem d2_13 : decode method_4_code 13 = .ok (.iconst 0, 1) := by decide +kernel
theorem d2_14 : decode method_4_code 14 = .ok (.ireturn, 1) := by decide +kernel
theorem d2_4 : decode method_4_code 4 = .ok (.iload_n 1, 1) := by decide +kernel
theorem d2_5 : decode method_4_code 5 = .ok (.iconst (-1), 1) := by decide +kernel
theorem d2_6 : decode method_4_code 6 = .ok (.if_icmp .eq 7, 3) := by decide +kernel
theorem d2_9 : decode method_4_code 9 = .ok (.iconst 1, 1) := by decide +kernel
theorem d2_10 : decode method_4_code 10 = .ok (.goto 4, 3) := by decide +kernel
def Qo (Z : State) (u0 : Int32) (u1 : Int32) (h0 : Heap) (n0 : Nat) (v : Option Value) (h : Heap) (L : List Loc) : Prop := v = some (.int (own_one u0 u1)) ∧ Fr n0 L ∧ h = h0
set_option maxRecDepth 65536 in
set_option maxHeartbeats 40000000 in
theorem rmo (l : Launch) (Z : State) (a0 : Array Value) (hw : ∀ d ∈ tables_1, d.before a0 Z = true) (ws : List Jvm.Cond) (u0 : Int32) (u1 : Int32) (h0 : Heap) (n0 : Nat) (Z0 : n0 ≤ h0.size) :
    MetFree l (⟨"com/example/purloin/runner/PdfsReachedPinLaw", "one", "(ZI)I"⟩ : MethodName) (head1 (Jvm.Cond.code (⟨"com/example/purloin/runner/PdfsReachedPinLaw", "one", "(ZI)I"⟩ : MethodName) method_4_code 2 (some .int) :: ws) ({ frames := 0, cells := 0, slots := 0, locals := 0 } : Room)) (fun a U => a = #[(.int u0), (.int u1)] ∧ Z.Warmed39 U.vm ∧ U.heap = h0) (fun _ _ _ _ _ => True) (fun _ U o U' => ∃ v L, o = .returned v ∧ Qo Z u0 u1 h0 n0 v U'.heap L ∧ FrameEnd U o U' L 0 0) := by
  refine MetFree.of_bodySF (plainFor_of_name pn_2) hisR ?_
  intro p e s m args below meth c s₁ Bd hml0 hP hK
  obtain ⟨rfl, hZ, hh⟩ := hP
  have hx := Bd.exec
  have hby := Bd.bytes
  have hml : c.maxLocals = 2 := hml0
  have hown : s.vm.findClass "com/example/purloin/runner/PdfsReachedPinLaw" = some m.cls := findClass_of_methodNamed Bd.named
  have hnm := (name_of_methodNamed Bd.named Bd.method).1
  have X0 : Stand p l e ({ frames := 0, cells := 0, slots := 0, locals := 0 } : Room) s m #[(.int u0), (.int u1)] below meth c s₁ [] 0 0 := Stand.of_body Bd
  have e0 : s₁.heap = h0 := by rw [← hh, Bd.state]; rfl
  have N0 := Fr.nil n0
  have hlk : meth.locks = false := BodyLoose.notSynchronized Bd
  show Goal p e below s (Qo Z u0 u1 h0 n0) 0 0 (s₁.setTop (entryFrame m #[(.int u0), (.int u1)] 2))
  refine Goal.to (B := s₁.setTop (mkF m 0 #[.val (.int u0), .val (.int u1)] [])) (fun tt kk => castTop (ef_2 m u0 u1 ) kk) ?_
  refine Goal.to (B := s₁.setTop (mkF m 1 #[.val (.int u0), .val (.int u1)] [(.int u0)])) (fun tt kk => ?_) ?_
  · show Steps p.tables e below (s₁.setTop (mkF m 0 #[.val (.int u0), .val (.int u1)] [])) tt
    refine XS.iloadN X0.here hx rfl (hb hby d2_0) rfl ?_
    exact kk
  by_cases hA : u0 = (0 : Int32)
  · refine Goal.to (B := s₁.setTop (mkF m 14 #[.val (.int u0), .val (.int u1)] [(.int (0 : Int32))])) (fun tt kk => ?_) ?_
    · show Steps p.tables e below (s₁.setTop (mkF m 1 #[.val (.int u0), .val (.int u1)] [(.int u0)])) tt
      refine XS.ifYes X0.here hx rfl (pc0 := 1) (pc' := 13) rfl (hb hby d2_1) rfl ((if0 _ _).trans (teq hA).1) (by decide) (by decide) ?_
      show Steps p.tables e below (s₁.setTop (mkF m 13 #[.val (.int u0), .val (.int u1)] [])) tt
      refine XS.iconst X0.here hx rfl (hb hby d2_13) ?_
      exact kk
    exact Goal.retV X0 hx Bd.returns rfl (Or.inl ⟨rfl, Or.inl rfl, _, rfl⟩) (hb hby d2_14) hlk e0 ⟨(congrArg some (by simp [own_one, hA] : ((.int (0 : Int32)) : Value) = (.int (own_one u0 u1)))), N0, rfl⟩ (by decide) (by decide)
  · refine Goal.to (B := s₁.setTop (mkF m 6 #[.val (.int u0), .val (.int u1)] [(.int (-1 : Int32)), (.int u1)])) (fun tt kk => ?_) ?_
    · show Steps p.tables e below (s₁.setTop (mkF m 1 #[.val (.int u0), .val (.int u1)] [(.int u0)])) tt
      refine XS.ifNo X0.here hx rfl (hb hby d2_1) rfl ((if0 _ _).trans (feq hA).1) ?_
      show Steps p.tables e below (s₁.setTop (mkF m 4 #[.val (.int u0), .val (.int u1)] [])) tt
      refine XS.iloadN X0.here hx rfl (hb hby d2_4) rfl ?_
      show Steps p.tables e below (s₁.setTop (mkF m 5 #[.val (.int u0), .val (.int u1)] [(.int u1)])) tt
      refine XS.iconst X0.here hx rfl (hb hby d2_5) ?_
      exact kk
    by_cases hB : u1 = (-1 : Int32)
    · refine Goal.to (B := s₁.setTop (mkF m 14 #[.val (.int u0), .val (.int u1)] [(.int (0 : Int32))])) (fun tt kk => ?_) ?_
      · show Steps p.tables e below (s₁.setTop (mkF m 6 #[.val (.int u0), .val (.int u1)] [(.int (-1 : Int32)), (.int u1)])) tt
        refine XS.icmpYes X0.here hx rfl (pc0 := 6) (pc' := 13) rfl (hb hby d2_6) rfl (teq hB).1 (by decide) (by decide) ?_
        show Steps p.tables e below (s₁.setTop (mkF m 13 #[.val (.int u0), .val (.int u1)] [])) tt
        refine XS.iconst X0.here hx rfl (hb hby d2_13) ?_
        exact kk
      exact Goal.retV X0 hx Bd.returns rfl (Or.inl ⟨rfl, Or.inl rfl, _, rfl⟩) (hb hby d2_14) hlk e0 ⟨(congrArg some (by simp [own_one, hA, hB] : ((.int (0 : Int32)) : Value) = (.int (own_one u0 u1)))), N0, rfl⟩ (by decide) (by decide)
    · refine Goal.to (B := s₁.setTop (mkF m 14 #[.val (.int u0), .val (.int u1)] [(.int (1 : Int32))])) (fun tt kk => ?_) ?_
      · show Steps p.tables e below (s₁.setTop (mkF m 6 #[.val (.int u0), .val (.int u1)] [(.int (-1 : Int32)), (.int u1)])) tt
        refine XS.icmpNo X0.here hx rfl (hb hby d2_6) rfl (feq hB).1 ?_
        show Steps p.tables e below (s₁.setTop (mkF m 9 #[.val (.int u0), .val (.int u1)] [])) tt
        refine XS.iconst X0.here hx rfl (hb hby d2_9) ?_
        show Steps p.tables e below (s₁.setTop (mkF m 10 #[.val (.int u0), .val (.int u1)] [(.int (1 : Int32))])) tt
        refine XS.goto X0.here hx rfl (pc0 := 10) (pc' := 14) rfl (hb hby d2_10) (by decide) (by decide) ?_
        exact kk
      exact Goal.retV X0 hx Bd.returns rfl (Or.inl ⟨rfl, Or.inl rfl, _, rfl⟩) (hb hby d2_14) hlk e0 ⟨(congrArg some (by simp [own_one, hA, hB] : ((.int (1 : Int32)) : Value) = (.int (own_one u0 u1)))), N0, rfl⟩ (by decide) (by decide)
theorem ef_3 (m : MethodId) (x0 : Addr)  : entryFrame m #[(.ref x0)] 6 = mkF m 0 #[.val (.ref x0), .unset, .unset, .unset, .unset, .unset] [] := by first | (simp [entryFrame, mkF, argsToLocals, Value.category]; done) | rfl
theorem pn_3 : plainName "com/example/purloin/runner/Pdfs" = true := by first | (simp [plainName, overriddenIn]; done) | decide +kernel
theorem d3_0 : decode prog_100_method_9_code 0 = .ok (.iconst 0, 1) := by decide +kernel
theorem d3_1 : decode prog_100_method_9_code 1 = .ok (.istore_n 1, 1) := by decide +kernel
theorem d3_2 : decode prog_100_method_9_code 2 = .ok (.aload_n 0, 1) := by decide +kernel
theorem d3_3 : decode prog_100_method_9_code 3 = .ok (.astore_n 2, 1) := by decide +kernel
theorem d3_4 : decode prog_100_method_9_code 4 = .ok (.aload_n 2, 1) := by decide +kernel
theorem d3_5 : decode prog_100_method_9_code 5 = .ok (.arraylength, 1) := by decide +kernel
theorem d3_6 : decode prog_100_method_9_code 6 = .ok (.istore_n 3, 1) := by decide +kernel
theorem d3_7 : decode prog_100_method_9_code 7 = .ok (.iconst 0, 1) := by decide +kernel
theorem d3_8 : decode prog_100_method_9_code 8 = .ok (.istore 4, 2) := by decide +kernel
theorem d3_10 : decode prog_100_method_9_code 10 = .ok (.iload 4, 2) := by decide +kernel
theorem d3_12 : decode prog_100_method_9_code 12 = .ok (.iload_n 3, 1) := by decide +kernel
theorem d3_13 : decode prog_100_method_9_code 13 = .ok (.if_icmp .ge 24, 3) := by decide +kernel
theorem d3_37 : decode prog_100_method_9_code 37 = .ok (.iload_n 1, 1) := by decide +kernel
theorem d3_38 : decode prog_100_method_9_code 38 = .ok (.ireturn, 1) := by decide +kernel
def Qr0 (Z : State) (va : Addr) (h0 : Heap) (n0 : Nat) (v : Option Value) (h : Heap) (L : List Loc) : Prop := v = some (.int (0 : Int32)) ∧ Fr n0 L ∧ h = h0
set_option maxRecDepth 65536 in
set_option maxHeartbeats 40000000 in
theorem rmr0 (l : Launch) (Z : State) (a0 : Array Value) (hw : ∀ d ∈ tables_1, d.before a0 Z = true) (ws : List Jvm.Cond) (va : Addr) (h0 : Heap) (n0 : Nat) (Z0 : n0 ≤ h0.size) (V_va : Ary Z h0 va .int []) :
    MetFree l (⟨"com/example/purloin/runner/Pdfs", "reached", "([I)I"⟩ : MethodName) (head1 (Jvm.Cond.code (⟨"com/example/purloin/runner/Pdfs", "reached", "([I)I"⟩ : MethodName) prog_100_method_9_code 6 (some .int) :: ws) ({ frames := 0, cells := 0, slots := 0, locals := 0 } : Room)) (fun a U => a = #[(.ref va)] ∧ Z.Warmed39 U.vm ∧ U.heap = h0) (fun _ _ _ _ _ => True) (fun _ U o U' => ∃ v L, o = .returned v ∧ Qr0 Z va h0 n0 v U'.heap L ∧ FrameEnd U o U' L 0 0) := by
  refine MetFree.of_bodySF (plainFor_of_name pn_3) hisR ?_
  intro p e s m args below meth c s₁ Bd hml0 hP hK
  obtain ⟨rfl, hZ, hh⟩ := hP
  have hx := Bd.exec
  have hby := Bd.bytes
  have hml : c.maxLocals = 6 := hml0
  have hown : s.vm.findClass "com/example/purloin/runner/Pdfs" = some m.cls := findClass_of_methodNamed Bd.named
  have hnm := (name_of_methodNamed Bd.named Bd.method).1
  have X0 : Stand p l e ({ frames := 0, cells := 0, slots := 0, locals := 0 } : Room) s m #[(.ref va)] below meth c s₁ [] 0 0 := Stand.of_body Bd
  have e0 : s₁.heap = h0 := by rw [← hh, Bd.state]; rfl
  have N0 := Fr.nil n0
  have hlk : meth.locks = false := BodyLoose.notSynchronized Bd
  show Goal p e below s (Qr0 Z va h0 n0) 0 0 (s₁.setTop (entryFrame m #[(.ref va)] 6))
  refine Goal.to (B := s₁.setTop (mkF m 0 #[.val (.ref va), .unset, .unset, .unset, .unset, .unset] [])) (fun tt kk => castTop (ef_3 m va ) kk) ?_
  refine Goal.to (B := s₁.setTop (mkF m 5 #[.val (.ref va), .val (.int (0 : Int32)), .val (.ref va), .unset, .unset, .unset] [(.ref va)])) (fun tt kk => ?_) ?_
  · show Steps p.tables e below (s₁.setTop (mkF m 0 #[.val (.ref va), .unset, .unset, .unset, .unset, .unset] [])) tt
    refine XS.iconst X0.here hx rfl (hb hby d3_0) ?_
    show Steps p.tables e below (s₁.setTop (mkF m 1 #[.val (.ref va), .unset, .unset, .unset, .unset, .unset] [(.int (0 : Int32))])) tt
    refine XS.istoreN X0.here hx rfl (hb hby d3_1) rfl (l' := #[.val (.ref va), .val (.int (0 : Int32)), .unset, .unset, .unset, .unset]) rfl ?_
    show Steps p.tables e below (s₁.setTop (mkF m 2 #[.val (.ref va), .val (.int (0 : Int32)), .unset, .unset, .unset, .unset] [])) tt
    refine XS.aloadN X0.here hx rfl (hb hby d3_2) rfl rfl ?_
    show Steps p.tables e below (s₁.setTop (mkF m 3 #[.val (.ref va), .val (.int (0 : Int32)), .unset, .unset, .unset, .unset] [(.ref va)])) tt
    refine XS.astoreN X0.here hx rfl (hb hby d3_3) rfl rfl (l' := #[.val (.ref va), .val (.int (0 : Int32)), .val (.ref va), .unset, .unset, .unset]) rfl ?_
    show Steps p.tables e below (s₁.setTop (mkF m 4 #[.val (.ref va), .val (.int (0 : Int32)), .val (.ref va), .unset, .unset, .unset] [])) tt
    refine XS.aloadN X0.here hx rfl (hb hby d3_4) rfl rfl ?_
    exact kk
  obtain ⟨cl1, Ar1, Sl1⟩ := id V_va
  have ln1 : cl1.slots.size.toInt32 = (0 : Int32) := lenA Sl1 rfl
  refine Goal.to (B := s₁.setTop (mkF m 38 #[.val (.ref va), .val (.int (0 : Int32)), .val (.ref va), .val (.int (0 : Int32)), .val (.int (0 : Int32)), .unset] [(.int (0 : Int32))])) (fun tt kk => ?_) ?_
  · show Steps p.tables e below (s₁.setTop (mkF m 5 #[.val (.ref va), .val (.int (0 : Int32)), .val (.ref va), .unset, .unset, .unset] [(.ref va)])) tt
    refine X0.arraylength hx (by rw [e0]; exact Ar1.1) (State.isArrayOf_alike hZ.alike Ar1.2.1) (g := (mkF m 5 #[.val (.ref va), .val (.int (0 : Int32)), .val (.ref va), .unset, .unset, .unset] [(.ref va)])) rfl rfl (hb hby d3_5) _ ?_
    rw [ln1]
    show Steps p.tables e below (s₁.setTop (mkF m 6 #[.val (.ref va), .val (.int (0 : Int32)), .val (.ref va), .unset, .unset, .unset] [(.int (0 : Int32))])) tt
    refine XS.istoreN X0.here hx rfl (hb hby d3_6) rfl (l' := #[.val (.ref va), .val (.int (0 : Int32)), .val (.ref va), .val (.int (0 : Int32)), .unset, .unset]) rfl ?_
    show Steps p.tables e below (s₁.setTop (mkF m 7 #[.val (.ref va), .val (.int (0 : Int32)), .val (.ref va), .val (.int (0 : Int32)), .unset, .unset] [])) tt
    refine XS.iconst X0.here hx rfl (hb hby d3_7) ?_
    show Steps p.tables e below (s₁.setTop (mkF m 8 #[.val (.ref va), .val (.int (0 : Int32)), .val (.ref va), .val (.int (0 : Int32)), .unset, .unset] [(.int (0 : Int32))])) tt
    refine XS.istore X0.here hx rfl (hb hby d3_8) rfl (l' := #[.val (.ref va), .val (.int (0 : Int32)), .val (.ref va), .val (.int (0 : Int32)), .val (.int (0 : Int32)), .unset]) rfl ?_
    show Steps p.tables e below (s₁.setTop (mkF m 10 #[.val (.ref va), .val (.int (0 : Int32)), .val (.ref va), .val (.int (0 : Int32)), .val (.int (0 : Int32)), .unset] [])) tt
    refine XS.iload X0.here hx rfl (hb hby d3_10) rfl ?_
    show Steps p.tables e below (s₁.setTop (mkF m 12 #[.val (.ref va), .val (.int (0 : Int32)), .val (.ref va), .val (.int (0 : Int32)), .val (.int (0 : Int32)), .unset] [(.int (0 : Int32))])) tt
    refine XS.iloadN X0.here hx rfl (hb hby d3_12) rfl ?_
    show Steps p.tables e below (s₁.setTop (mkF m 13 #[.val (.ref va), .val (.int (0 : Int32)), .val (.ref va), .val (.int (0 : Int32)), .val (.int (0 : Int32)), .unset] [(.int (0 : Int32)), (.int (0 : Int32))])) tt
    refine XS.icmpYes X0.here hx rfl (pc0 := 13) (pc' := 37) rfl (hb hby d3_13) rfl (flt (Int32.lt_irrefl : ¬ ((0 : Int32) < (0 : Int32)))).2.1 (by decide) (by decide) ?_
    show Steps p.tables e below (s₁.setTop (mkF m 37 #[.val (.ref va), .val (.int (0 : Int32)), .val (.ref va), .val (.int (0 : Int32)), .val (.int (0 : Int32)), .unset] [])) tt
    refine XS.iloadN X0.here hx rfl (hb hby d3_37) rfl ?_
    exact kk
  exact Goal.retV X0 hx Bd.returns rfl (Or.inl ⟨rfl, Or.inl rfl, _, rfl⟩) (hb hby d3_38) hlk e0 ⟨rfl, N0, rfl⟩ (by decide) (by decide)
theorem d3_16 : decode prog_100_method_9_code 16 = .ok (.aload_n 2, 1) := by decide +kernel
theorem d3_17 : decode prog_100_method_9_code 17 = .ok (.iload 4, 2) := by decide +kernel
theorem d3_19 : decode prog_100_method_9_code 19 = .ok (.iaload, 1) := by decide +kernel
theorem d3_20 : decode prog_100_method_9_code 20 = .ok (.istore 5, 2) := by decide +kernel
theorem d3_22 : decode prog_100_method_9_code 22 = .ok (.iload 5, 2) := by decide +kernel
theorem d3_24 : decode prog_100_method_9_code 24 = .ok (.iconst (-1), 1) := by decide +kernel
theorem d3_25 : decode prog_100_method_9_code 25 = .ok (.if_icmp .eq 6, 3) := by decide +kernel
theorem d3_28 : decode prog_100_method_9_code 28 = .ok (.iinc 1 1, 3) := by decide +kernel
theorem d3_31 : decode prog_100_method_9_code 31 = .ok (.iinc 4 1, 3) := by decide +kernel
theorem d3_34 : decode prog_100_method_9_code 34 = .ok (.goto (-24), 3) := by decide +kernel
def Qr1 (Z : State) (va : Addr) (x0 : Int32) (h0 : Heap) (n0 : Nat) (v : Option Value) (h : Heap) (L : List Loc) : Prop := v = some (.int (own_add (0 : Int32) x0)) ∧ Fr n0 L ∧ h = h0
set_option maxRecDepth 65536 in
set_option maxHeartbeats 40000000 in
theorem rmr1 (l : Launch) (Z : State) (a0 : Array Value) (hw : ∀ d ∈ tables_1, d.before a0 Z = true) (ws : List Jvm.Cond) (va : Addr) (x0 : Int32) (h0 : Heap) (n0 : Nat) (Z0 : n0 ≤ h0.size) (V_va : Ary Z h0 va .int [(.int x0)]) :
    MetFree l (⟨"com/example/purloin/runner/Pdfs", "reached", "([I)I"⟩ : MethodName) (head1 (Jvm.Cond.code (⟨"com/example/purloin/runner/Pdfs", "reached", "([I)I"⟩ : MethodName) prog_100_method_9_code 6 (some .int) :: ws) ({ frames := 0, cells := 0, slots := 0, locals := 0 } : Room)) (fun a U => a = #[(.ref va)] ∧ Z.Warmed39 U.vm ∧ U.heap = h0) (fun _ _ _ _ _ => True) (fun _ U o U' => ∃ v L, o = .returned v ∧ Qr1 Z va x0 h0 n0 v U'.heap L ∧ FrameEnd U o U' L 0 0) := by
  refine MetFree.of_bodySF (plainFor_of_name pn_3) hisR ?_
  intro p e s m args below meth c s₁ Bd hml0 hP hK
  obtain ⟨rfl, hZ, hh⟩ := hP
  have hx := Bd.exec
  have hby := Bd.bytes
  have hml : c.maxLocals = 6 := hml0
  have hown : s.vm.findClass "com/example/purloin/runner/Pdfs" = some m.cls := findClass_of_methodNamed Bd.named
  have hnm := (name_of_methodNamed Bd.named Bd.method).1
  have X0 : Stand p l e ({ frames := 0, cells := 0, slots := 0, locals := 0 } : Room) s m #[(.ref va)] below meth c s₁ [] 0 0 := Stand.of_body Bd
  have e0 : s₁.heap = h0 := by rw [← hh, Bd.state]; rfl
  have N0 := Fr.nil n0
  have hlk : meth.locks = false := BodyLoose.notSynchronized Bd
  show Goal p e below s (Qr1 Z va x0 h0 n0) 0 0 (s₁.setTop (entryFrame m #[(.ref va)] 6))
  refine Goal.to (B := s₁.setTop (mkF m 0 #[.val (.ref va), .unset, .unset, .unset, .unset, .unset] [])) (fun tt kk => castTop (ef_3 m va ) kk) ?_
  refine Goal.to (B := s₁.setTop (mkF m 5 #[.val (.ref va), .val (.int (0 : Int32)), .val (.ref va), .unset, .unset, .unset] [(.ref va)])) (fun tt kk => ?_) ?_
  · show Steps p.tables e below (s₁.setTop (mkF m 0 #[.val (.ref va), .unset, .unset, .unset, .unset, .unset] [])) tt
    refine XS.iconst X0.here hx rfl (hb hby d3_0) ?_
    show Steps p.tables e below (s₁.setTop (mkF m 1 #[.val (.ref va), .unset, .unset, .unset, .unset, .unset] [(.int (0 : Int32))])) tt
    refine XS.istoreN X0.here hx rfl (hb hby d3_1) rfl (l' := #[.val (.ref va), .val (.int (0 : Int32)), .unset, .unset, .unset, .unset]) rfl ?_
    show Steps p.tables e below (s₁.setTop (mkF m 2 #[.val (.ref va), .val (.int (0 : Int32)), .unset, .unset, .unset, .unset] [])) tt
    refine XS.aloadN X0.here hx rfl (hb hby d3_2) rfl rfl ?_
    show Steps p.tables e below (s₁.setTop (mkF m 3 #[.val (.ref va), .val (.int (0 : Int32)), .unset, .unset, .unset, .unset] [(.ref va)])) tt
    refine XS.astoreN X0.here hx rfl (hb hby d3_3) rfl rfl (l' := #[.val (.ref va), .val (.int (0 : Int32)), .val (.ref va), .unset, .unset, .unset]) rfl ?_
    show Steps p.tables e below (s₁.setTop (mkF m 4 #[.val (.ref va), .val (.int (0 : Int32)), .val (.ref va), .unset, .unset, .unset] [])) tt
    refine XS.aloadN X0.here hx rfl (hb hby d3_4) rfl rfl ?_
    exact kk
  obtain ⟨cl1, Ar1, Sl1⟩ := id V_va
  have ln1 : cl1.slots.size.toInt32 = (1 : Int32) := lenA Sl1 rfl
  refine Goal.to (B := s₁.setTop (mkF m 19 #[.val (.ref va), .val (.int (0 : Int32)), .val (.ref va), .val (.int (1 : Int32)), .val (.int (0 : Int32)), .unset] [(.int (0 : Int32)), (.ref va)])) (fun tt kk => ?_) ?_
  · show Steps p.tables e below (s₁.setTop (mkF m 5 #[.val (.ref va), .val (.int (0 : Int32)), .val (.ref va), .unset, .unset, .unset] [(.ref va)])) tt
    refine X0.arraylength hx (by rw [e0]; exact Ar1.1) (State.isArrayOf_alike hZ.alike Ar1.2.1) (g := (mkF m 5 #[.val (.ref va), .val (.int (0 : Int32)), .val (.ref va), .unset, .unset, .unset] [(.ref va)])) rfl rfl (hb hby d3_5) _ ?_
    rw [ln1]
    show Steps p.tables e below (s₁.setTop (mkF m 6 #[.val (.ref va), .val (.int (0 : Int32)), .val (.ref va), .unset, .unset, .unset] [(.int (1 : Int32))])) tt
    refine XS.istoreN X0.here hx rfl (hb hby d3_6) rfl (l' := #[.val (.ref va), .val (.int (0 : Int32)), .val (.ref va), .val (.int (1 : Int32)), .unset, .unset]) rfl ?_
    show Steps p.tables e below (s₁.setTop (mkF m 7 #[.val (.ref va), .val (.int (0 : Int32)), .val (.ref va), .val (.int (1 : Int32)), .unset, .unset] [])) tt
    refine XS.iconst X0.here hx rfl (hb hby d3_7) ?_
    show Steps p.tables e below (s₁.setTop (mkF m 8 #[.val (.ref va), .val (.int (0 : Int32)), .val (.ref va), .val (.int (1 : Int32)), .unset, .unset] [(.int (0 : Int32))])) tt
    refine XS.istore X0.here hx rfl (hb hby d3_8) rfl (l' := #[.val (.ref va), .val (.int (0 : Int32)), .val (.ref va), .val (.int (1 : Int32)), .val (.int (0 : Int32)), .unset]) rfl ?_
    show Steps p.tables e below (s₁.setTop (mkF m 10 #[.val (.ref va), .val (.int (0 : Int32)), .val (.ref va), .val (.int (1 : Int32)), .val (.int (0 : Int32)), .unset] [])) tt
    refine XS.iload X0.here hx rfl (hb hby d3_10) rfl ?_
    show Steps p.tables e below (s₁.setTop (mkF m 12 #[.val (.ref va), .val (.int (0 : Int32)), .val (.ref va), .val (.int (1 : Int32)), .val (.int (0 : Int32)), .unset] [(.int (0 : Int32))])) tt
    refine XS.iloadN X0.here hx rfl (hb hby d3_12) rfl ?_
    show Steps p.tables e below (s₁.setTop (mkF m 13 #[.val (.ref va), .val (.int (0 : Int32)), .val (.ref va), .val (.int (1 : Int32)), .val (.int (0 : Int32)), .unset] [(.int (1 : Int32)), (.int (0 : Int32))])) tt
    refine XS.icmpNo X0.here hx rfl (hb hby d3_13) rfl (tlt ((by decide) : (0 : Int32) < (1 : Int32))).2.1 ?_
    show Steps p.tables e below (s₁.setTop (mkF m 16 #[.val (.ref va), .val (.int (0 : Int32)), .val (.ref va), .val (.int (1 : Int32)), .val (.int (0 : Int32)), .unset] [])) tt
    refine XS.aloadN X0.here hx rfl (hb hby d3_16) rfl rfl ?_
    show Steps p.tables e below (s₁.setTop (mkF m 17 #[.val (.ref va), .val (.int (0 : Int32)), .val (.ref va), .val (.int (1 : Int32)), .val (.int (0 : Int32)), .unset] [(.ref va)])) tt
    refine XS.iload X0.here hx rfl (hb hby d3_17) rfl ?_
    exact kk
  obtain ⟨cl2, Ar2, Sl2⟩ := id V_va
  have hin2 := inA (cl := cl2) Sl2 (j := (0 : Int32)) (by decide) (Nat.le_of_ble_eq_true rfl)
  have hat2 : cl2.slots[((0 : Int32)).toNatClampNeg]? = some (.int x0) := atA Sl2 rfl
  refine Goal.to (B := s₁.setTop (mkF m 25 #[.val (.ref va), .val (.int (0 : Int32)), .val (.ref va), .val (.int (1 : Int32)), .val (.int (0 : Int32)), .val (.int x0)] [(.int (-1 : Int32)), (.int x0)])) (fun tt kk => ?_) ?_
  · show Steps p.tables e below (s₁.setTop (mkF m 19 #[.val (.ref va), .val (.int (0 : Int32)), .val (.ref va), .val (.int (1 : Int32)), .val (.int (0 : Int32)), .unset] [(.int (0 : Int32)), (.ref va)])) tt
    refine X0.iaload hx (j := (0 : Int32)) (v := (.int x0)) (by rw [e0]; exact Ar2.1) (State.isArrayOf_alike hZ.alike Ar2.2.1) Ar2.2.2 hin2 hat2 (g := (mkF m 19 #[.val (.ref va), .val (.int (0 : Int32)), .val (.ref va), .val (.int (1 : Int32)), .val (.int (0 : Int32)), .unset] [(.int (0 : Int32)), (.ref va)])) rfl rfl (hb hby d3_19) _ ?_
    show Steps p.tables e below (s₁.setTop (mkF m 20 #[.val (.ref va), .val (.int (0 : Int32)), .val (.ref va), .val (.int (1 : Int32)), .val (.int (0 : Int32)), .unset] [(.int x0)])) tt
    refine XS.istore X0.here hx rfl (hb hby d3_20) rfl (l' := #[.val (.ref va), .val (.int (0 : Int32)), .val (.ref va), .val (.int (1 : Int32)), .val (.int (0 : Int32)), .val (.int x0)]) rfl ?_
    show Steps p.tables e below (s₁.setTop (mkF m 22 #[.val (.ref va), .val (.int (0 : Int32)), .val (.ref va), .val (.int (1 : Int32)), .val (.int (0 : Int32)), .val (.int x0)] [])) tt
    refine XS.iload X0.here hx rfl (hb hby d3_22) rfl ?_
    show Steps p.tables e below (s₁.setTop (mkF m 24 #[.val (.ref va), .val (.int (0 : Int32)), .val (.ref va), .val (.int (1 : Int32)), .val (.int (0 : Int32)), .val (.int x0)] [(.int x0)])) tt
    refine XS.iconst X0.here hx rfl (hb hby d3_24) ?_
    exact kk
  obtain ⟨w4, hw4⟩ : ∃ z : Int32, z = if x0 = (-1 : Int32) then (0 : Int32) else (1 : Int32) := ⟨_, rfl⟩
  refine Goal.to (B := s₁.setTop (mkF m 31 #[.val (.ref va), .val (.int w4), .val (.ref va), .val (.int (1 : Int32)), .val (.int (0 : Int32)), .val (.int x0)] [])) (fun tt kk => ?_) ?_
  · by_cases hc3 : x0 = (-1 : Int32)
    · have qw4 : w4 = (0 : Int32) := by rw [hw4, if_pos hc3]
      rw [qw4] at kk
      show Steps p.tables e below (s₁.setTop (mkF m 25 #[.val (.ref va), .val (.int (0 : Int32)), .val (.ref va), .val (.int (1 : Int32)), .val (.int (0 : Int32)), .val (.int x0)] [(.int (-1 : Int32)), (.int x0)])) tt
      refine XS.icmpYes X0.here hx rfl (pc0 := 25) (pc' := 31) rfl (hb hby d3_25) rfl (teq hc3).1 (by decide) (by decide) ?_
      exact kk
    · have qw4 : w4 = (1 : Int32) := by rw [hw4, if_neg hc3]
      rw [qw4] at kk
      show Steps p.tables e below (s₁.setTop (mkF m 25 #[.val (.ref va), .val (.int (0 : Int32)), .val (.ref va), .val (.int (1 : Int32)), .val (.int (0 : Int32)), .val (.int x0)] [(.int (-1 : Int32)), (.int x0)])) tt
      refine XS.icmpNo X0.here hx rfl (hb hby d3_25) rfl (feq hc3).1 ?_
      show Steps p.tables e below (s₁.setTop (mkF m 28 #[.val (.ref va), .val (.int (0 : Int32)), .val (.ref va), .val (.int (1 : Int32)), .val (.int (0 : Int32)), .val (.int x0)] [])) tt
      refine XS.iinc X0.here hx rfl (hb hby d3_28) rfl (l' := #[.val (.ref va), .val (.int (1 : Int32)), .val (.ref va), .val (.int (1 : Int32)), .val (.int (0 : Int32)), .val (.int x0)]) rfl ?_
      exact kk
  refine Goal.to (B := s₁.setTop (mkF m 38 #[.val (.ref va), .val (.int w4), .val (.ref va), .val (.int (1 : Int32)), .val (.int (1 : Int32)), .val (.int x0)] [(.int w4)])) (fun tt kk => ?_) ?_
  · show Steps p.tables e below (s₁.setTop (mkF m 31 #[.val (.ref va), .val (.int w4), .val (.ref va), .val (.int (1 : Int32)), .val (.int (0 : Int32)), .val (.int x0)] [])) tt
    refine XS.iinc X0.here hx rfl (hb hby d3_31) rfl (l' := #[.val (.ref va), .val (.int w4), .val (.ref va), .val (.int (1 : Int32)), .val (.int (1 : Int32)), .val (.int x0)]) rfl ?_
    show Steps p.tables e below (s₁.setTop (mkF m 34 #[.val (.ref va), .val (.int w4), .val (.ref va), .val (.int (1 : Int32)), .val (.int (1 : Int32)), .val (.int x0)] [])) tt
    refine XS.goto X0.here hx rfl (pc0 := 34) (pc' := 10) rfl (hb hby d3_34) (by decide) (by decide) ?_
    show Steps p.tables e below (s₁.setTop (mkF m 10 #[.val (.ref va), .val (.int w4), .val (.ref va), .val (.int (1 : Int32)), .val (.int (1 : Int32)), .val (.int x0)] [])) tt
    refine XS.iload X0.here hx rfl (hb hby d3_10) rfl ?_
    show Steps p.tables e below (s₁.setTop (mkF m 12 #[.val (.ref va), .val (.int w4), .val (.ref va), .val (.int (1 : Int32)), .val (.int (1 : Int32)), .val (.int x0)] [(.int (1 : Int32))])) tt
    refine XS.iloadN X0.here hx rfl (hb hby d3_12) rfl ?_
    show Steps p.tables e below (s₁.setTop (mkF m 13 #[.val (.ref va), .val (.int w4), .val (.ref va), .val (.int (1 : Int32)), .val (.int (1 : Int32)), .val (.int x0)] [(.int (1 : Int32)), (.int (1 : Int32))])) tt
    refine XS.icmpYes X0.here hx rfl (pc0 := 13) (pc' := 37) rfl (hb hby d3_13) rfl (flt (Int32.lt_irrefl : ¬ ((1 : Int32) < (1 : Int32)))).2.1 (by decide) (by decide) ?_
    show Steps p.tables e below (s₁.setTop (mkF m 37 #[.val (.ref va), .val (.int w4), .val (.ref va), .val (.int (1 : Int32)), .val (.int (1 : Int32)), .val (.int x0)] [])) tt
    refine XS.iloadN X0.here hx rfl (hb hby d3_37) rfl ?_
    exact kk
  exact Goal.retV X0 hx Bd.returns rfl (Or.inl ⟨rfl, Or.inl rfl, _, rfl⟩) (hb hby d3_38) hlk e0 ⟨(congrArg some (by rw [hw4]; rfl : ((.int w4) : Value) = (.int (own_add (0 : Int32) x0)))), N0, rfl⟩ (by decide) (by decide)
def Qr2 (Z : State) (va : Addr) (x0 : Int32) (x1 : Int32) (h0 : Heap) (n0 : Nat) (v : Option Value) (h : Heap) (L : List Loc) : Prop := v = some (.int (own_add (own_add (0 : Int32) x0) x1)) ∧ Fr n0 L ∧ h = h0
set_option maxRecDepth 65536 in
set_option maxHeartbeats 40000000 in
theorem rmr2 (l : Launch) (Z : State) (a0 : Array Value) (hw : ∀ d ∈ tables_1, d.before a0 Z = true) (ws : List Jvm.Cond) (va : Addr) (x0 : Int32) (x1 : Int32) (h0 : Heap) (n0 : Nat) (Z0 : n0 ≤ h0.size) (V_va : Ary Z h0 va .int [(.int x0), (.int x1)]) :
    MetFree l (⟨"com/example/purloin/runner/Pdfs", "reached", "([I)I"⟩ : MethodName) (head1 (Jvm.Cond.code (⟨"com/example/purloin/runner/Pdfs", "reached", "([I)I"⟩ : MethodName) prog_100_method_9_code 6 (some .int) :: ws) ({ frames := 0, cells := 0, slots := 0, locals := 0 } : Room)) (fun a U => a = #[(.ref va)] ∧ Z.Warmed39 U.vm ∧ U.heap = h0) (fun _ _ _ _ _ => True) (fun _ U o U' => ∃ v L, o = .returned v ∧ Qr2 Z va x0 x1 h0 n0 v U'.heap L ∧ FrameEnd U o U' L 0 0) := by
  refine MetFree.of_bodySF (plainFor_of_name pn_3) hisR ?_
  intro p e s m args below meth c s₁ Bd hml0 hP hK
  obtain ⟨rfl, hZ, hh⟩ := hP
  have hx := Bd.exec
  have hby := Bd.bytes
  have hml : c.maxLocals = 6 := hml0
  have hown : s.vm.findClass "com/example/purloin/runner/Pdfs" = some m.cls := findClass_of_methodNamed Bd.named
  have hnm := (name_of_methodNamed Bd.named Bd.method).1
  have X0 : Stand p l e ({ frames := 0, cells := 0, slots := 0, locals := 0 } : Room) s m #[(.ref va)] below meth c s₁ [] 0 0 := Stand.of_body Bd
  have e0 : s₁.heap = h0 := by rw [← hh, Bd.state]; rfl
  have N0 := Fr.nil n0
  have hlk : meth.locks = false := BodyLoose.notSynchronized Bd
  show Goal p e below s (Qr2 Z va x0 x1 h0 n0) 0 0 (s₁.setTop (entryFrame m #[(.ref va)] 6))
  refine Goal.to (B := s₁.setTop (mkF m 0 #[.val (.ref va), .unset, .unset, .unset, .unset, .unset] [])) (fun tt kk => castTop (ef_3 m va ) kk) ?_
  refine Goal.to (B := s₁.setTop (mkF m 5 #[.val (.ref va), .val (.int (0 : Int32)), .val (.ref va), .unset, .unset, .unset] [(.ref va)])) (fun tt kk => ?_) ?_
  · show Steps p.tables e below (s₁.setTop (mkF m 0 #[.val (.ref va), .unset, .unset, .unset, .unset, .unset] [])) tt
    refine XS.iconst X0.here hx rfl (hb hby d3_0) ?_
    show Steps p.tables e below (s₁.setTop (mkF m 1 #[.val (.ref va), .unset, .unset, .unset, .unset, .unset] [(.int (0 : Int32))])) tt
    refine XS.istoreN X0.here hx rfl (hb hby d3_1) rfl (l' := #[.val (.ref va), .val (.int (0 : Int32)), .unset, .unset, .unset, .unset]) rfl ?_
    show Steps p.tables e below (s₁.setTop (mkF m 2 #[.val (.ref va), .val (.int (0 : Int32)), .unset, .unset, .unset, .unset] [])) tt
    refine XS.aloadN X0.here hx rfl (hb hby d3_2) rfl rfl ?_
    show Steps p.tables e below (s₁.setTop (mkF m 3 #[.val (.ref va), .val (.int (0 : Int32)), .unset, .unset, .unset, .unset] [(.ref va)])) tt
    refine XS.astoreN X0.here hx rfl (hb hby d3_3) rfl rfl (l' := #[.val (.ref va), .val (.int (0 : Int32)), .val (.ref va), .unset, .unset, .unset]) rfl ?_
    show Steps p.tables e below (s₁.setTop (mkF m 4 #[.val (.ref va), .val (.int (0 : Int32)), .val (.ref va), .unset, .unset, .unset] [])) tt
    refine XS.aloadN X0.here hx rfl (hb hby d3_4) rfl rfl ?_
    exact kk
  obtain ⟨cl1, Ar1, Sl1⟩ := id V_va
  have ln1 : cl1.slots.size.toInt32 = (2 : Int32) := lenA Sl1 rfl
  refine Goal.to (B := s₁.setTop (mkF m 19 #[.val (.ref va), .val (.int (0 : Int32)), .val (.ref va), .val (.int (2 : Int32)), .val (.int (0 : Int32)), .unset] [(.int (0 : Int32)), (.ref va)])) (fun tt kk => ?_) ?_
  · show Steps p.tables e below (s₁.setTop (mkF m 5 #[.val (.ref va), .val (.int (0 : Int32)), .val (.ref va), .unset, .unset, .unset] [(.ref va)])) tt
    refine X0.arraylength hx (by rw [e0]; exact Ar1.1) (State.isArrayOf_alike hZ.alike Ar1.2.1) (g := (mkF m 5 #[.val (.ref va), .val (.int (0 : Int32)), .val (.ref va), .unset, .unset, .unset] [(.ref va)])) rfl rfl (hb hby d3_5) _ ?_
    rw [ln1]
    show Steps p.tables e below (s₁.setTop (mkF m 6 #[.val (.ref va), .val (.int (0 : Int32)), .val (.ref va), .unset, .unset, .unset] [(.int (2 : Int32))])) tt
    refine XS.istoreN X0.here hx rfl (hb hby d3_6) rfl (l' := #[.val (.ref va), .val (.int (0 : Int32)), .val (.ref va), .val (.int (2 : Int32)), .unset, .unset]) rfl ?_
    show Steps p.tables e below (s₁.setTop (mkF m 7 #[.val (.ref va), .val (.int (0 : Int32)), .val (.ref va), .val (.int (2 : Int32)), .unset, .unset] [])) tt
    refine XS.iconst X0.here hx rfl (hb hby d3_7) ?_
    show Steps p.tables e below (s₁.setTop (mkF m 8 #[.val (.ref va), .val (.int (0 : Int32)), .val (.ref va), .val (.int (2 : Int32)), .unset, .unset] [(.int (0 : Int32))])) tt
    refine XS.istore X0.here hx rfl (hb hby d3_8) rfl (l' := #[.val (.ref va), .val (.int (0 : Int32)), .val (.ref va), .val (.int (2 : Int32)), .val (.int (0 : Int32)), .unset]) rfl ?_
    show Steps p.tables e below (s₁.setTop (mkF m 10 #[.val (.ref va), .val (.int (0 : Int32)), .val (.ref va), .val (.int (2 : Int32)), .val (.int (0 : Int32)), .unset] [])) tt
    refine XS.iload X0.here hx rfl (hb hby d3_10) rfl ?_
    show Steps p.tables e below (s₁.setTop (mkF m 12 #[.val (.ref va), .val (.int (0 : Int32)), .val (.ref va), .val (.int (2 : Int32)), .val (.int (0 : Int32)), .unset] [(.int (0 : Int32))])) tt
    refine XS.iloadN X0.here hx rfl (hb hby d3_12) rfl ?_
    show Steps p.tables e below (s₁.setTop (mkF m 13 #[.val (.ref va), .val (.int (0 : Int32)), .val (.ref va), .val (.int (2 : Int32)), .val (.int (0 : Int32)), .unset] [(.int (2 : Int32)), (.int (0 : Int32))])) tt
    refine XS.icmpNo X0.here hx rfl (hb hby d3_13) rfl (tlt ((by decide) : (0 : Int32) < (2 : Int32))).2.1 ?_
    show Steps p.tables e below (s₁.setTop (mkF m 16 #[.val (.ref va), .val (.int (0 : Int32)), .val (.ref va), .val (.int (2 : Int32)), .val (.int (0 : Int32)), .unset] [])) tt
    refine XS.aloadN X0.here hx rfl (hb hby d3_16) rfl rfl ?_
    show Steps p.tables e below (s₁.setTop (mkF m 17 #[.val (.ref va), .val (.int (0 : Int32)), .val (.ref va), .val (.int (2 : Int32)), .val (.int (0 : Int32)), .unset] [(.ref va)])) tt
    refine XS.iload X0.here hx rfl (hb hby d3_17) rfl ?_
    exact kk
  obtain ⟨cl2, Ar2, Sl2⟩ := id V_va
  have hin2 := inA (cl := cl2) Sl2 (j := (0 : Int32)) (by decide) (Nat.le_of_ble_eq_true rfl)
  have hat2 : cl2.slots[((0 : Int32)).toNatClampNeg]? = some (.int x0) := atA Sl2 rfl
  refine Goal.to (B := s₁.setTop (mkF m 25 #[.val (.ref va), .val (.int (0 : Int32)), .val (.ref va), .val (.int (2 : Int32)), .val (.int (0 : Int32)), .val (.int x0)] [(.int (-1 : Int32)), (.int x0)])) (fun tt kk => ?_) ?_
  · show Steps p.tables e below (s₁.setTop (mkF m 19 #[.val (.ref va), .val (.int (0 : Int32)), .val (.ref va), .val (.int (2 : Int32)), .val (.int (0 : Int32)), .unset] [(.int (0 : Int32)), (.ref va)])) tt
    refine X0.iaload hx (j := (0 : Int32)) (v := (.int x0)) (by rw [e0]; exact Ar2.1) (State.isArrayOf_alike hZ.alike Ar2.2.1) Ar2.2.2 hin2 hat2 (g := (mkF m 19 #[.val (.ref va), .val (.int (0 : Int32)), .val (.ref va), .val (.int (2 : Int32)), .val (.int (0 : Int32)), .unset] [(.int (0 : Int32)), (.ref va)])) rfl rfl (hb hby d3_19) _ ?_
    show Steps p.tables e below (s₁.setTop (mkF m 20 #[.val (.ref va), .val (.int (0 : Int32)), .val (.ref va), .val (.int (2 : Int32)), .val (.int (0 : Int32)), .unset] [(.int x0)])) tt
    refine XS.istore X0.here hx rfl (hb hby d3_20) rfl (l' := #[.val (.ref va), .val (.int (0 : Int32)), .val (.ref va), .val (.int (2 : Int32)), .val (.int (0 : Int32)), .val (.int x0)]) rfl ?_
    show Steps p.tables e below (s₁.setTop (mkF m 22 #[.val (.ref va), .val (.int (0 : Int32)), .val (.ref va), .val (.int (2 : Int32)), .val (.int (0 : Int32)), .val (.int x0)] [])) tt
    refine XS.iload X0.here hx rfl (hb hby d3_22) rfl ?_
    show Steps p.tables e below (s₁.setTop (mkF m 24 #[.val (.ref va), .val (.int (0 : Int32)), .val (.ref va), .val (.int (2 : Int32)), .val (.int (0 : Int32)), .val (.int x0)] [(.int x0)])) tt
    refine XS.iconst X0.here hx rfl (hb hby d3_24) ?_
    exact kk
  obtain ⟨w4, hw4⟩ : ∃ z : Int32, z = if x0 = (-1 : Int32) then (0 : Int32) else (1 : Int32) := ⟨_, rfl⟩
  refine Goal.to (B := s₁.setTop (mkF m 31 #[.val (.ref va), .val (.int w4), .val (.ref va), .val (.int (2 : Int32)), .val (.int (0 : Int32)), .val (.int x0)] [])) (fun tt kk => ?_) ?_
  · by_cases hc3 : x0 = (-1 : Int32)
    · have qw4 : w4 = (0 : Int32) := by rw [hw4, if_pos hc3]
      rw [qw4] at kk
      show Steps p.tables e below (s₁.setTop (mkF m 25 #[.val (.ref va), .val (.int (0 : Int32)), .val (.ref va), .val (.int (2 : Int32)), .val (.int (0 : Int32)), .val (.int x0)] [(.int (-1 : Int32)), (.int x0)])) tt
      refine XS.icmpYes X0.here hx rfl (pc0 := 25) (pc' := 31) rfl (hb hby d3_25) rfl (teq hc3).1 (by decide) (by decide) ?_
      exact kk
    · have qw4 : w4 = (1 : Int32) := by rw [hw4, if_neg hc3]
      rw [qw4] at kk
      show Steps p.tables e below (s₁.setTop (mkF m 25 #[.val (.ref va), .val (.int (0 : Int32)), .val (.ref va), .val (.int (2 : Int32)), .val (.int (0 : Int32)), .val (.int x0)] [(.int (-1 : Int32)), (.int x0)])) tt
      refine XS.icmpNo X0.here hx rfl (hb hby d3_25) rfl (feq hc3).1 ?_
      show Steps p.tables e below (s₁.setTop (mkF m 28 #[.val (.ref va), .val (.int (0 : Int32)), .val (.ref va), .val (.int (2 : Int32)), .val (.int (0 : Int32)), .val (.int x0)] [])) tt
      refine XS.iinc X0.here hx rfl (hb hby d3_28) rfl (l' := #[.val (.ref va), .val (.int (1 : Int32)), .val (.ref va), .val (.int (2 : Int32)), .val (.int (0 : Int32)), .val (.int x0)]) rfl ?_
      exact kk
  refine Goal.to (B := s₁.setTop (mkF m 19 #[.val (.ref va), .val (.int w4), .val (.ref va), .val (.int (2 : Int32)), .val (.int (1 : Int32)), .val (.int x0)] [(.int (1 : Int32)), (.ref va)])) (fun tt kk => ?_) ?_
  · show Steps p.tables e below (s₁.setTop (mkF m 31 #[.val (.ref va), .val (.int w4), .val (.ref va), .val (.int (2 : Int32)), .val (.int (0 : Int32)), .val (.int x0)] [])) tt
    refine XS.iinc X0.here hx rfl (hb hby d3_31) rfl (l' := #[.val (.ref va), .val (.int w4), .val (.ref va), .val (.int (2 : Int32)), .val (.int (1 : Int32)), .val (.int x0)]) rfl ?_
    show Steps p.tables e below (s₁.setTop (mkF m 34 #[.val (.ref va), .val (.int w4), .val (.ref va), .val (.int (2 : Int32)), .val (.int (1 : Int32)), .val (.int x0)] [])) tt
    refine XS.goto X0.here hx rfl (pc0 := 34) (pc' := 10) rfl (hb hby d3_34) (by decide) (by decide) ?_
    show Steps p.tables e below (s₁.setTop (mkF m 10 #[.val (.ref va), .val (.int w4), .val (.ref va), .val (.int (2 : Int32)), .val (.int (1 : Int32)), .val (.int x0)] [])) tt
    refine XS.iload X0.here hx rfl (hb hby d3_10) rfl ?_
    show Steps p.tables e below (s₁.setTop (mkF m 12 #[.val (.ref va), .val (.int w4), .val (.ref va), .val (.int (2 : Int32)), .val (.int (1 : Int32)), .val (.int x0)] [(.int (1 : Int32))])) tt
    refine XS.iloadN X0.here hx rfl (hb hby d3_12) rfl ?_
    show Steps p.tables e below (s₁.setTop (mkF m 13 #[.val (.ref va), .val (.int w4), .val (.ref va), .val (.int (2 : Int32)), .val (.int (1 : Int32)), .val (.int x0)] [(.int (2 : Int32)), (.int (1 : Int32))])) tt
    refine XS.icmpNo X0.here hx rfl (hb hby d3_13) rfl (tlt ((by decide) : (1 : Int32) < (2 : Int32))).2.1 ?_
    show Steps p.tables e below (s₁.setTop (mkF m 16 #[.val (.ref va), .val (.int w4), .val (.ref va), .val (.int (2 : Int32)), .val (.int (1 : Int32)), .val (.int x0)] [])) tt
    refine XS.aloadN X0.here hx rfl (hb hby d3_16) rfl rfl ?_
    show Steps p.tables e below (s₁.setTop (mkF m 17 #[.val (.ref va), .val (.int w4), .val (.ref va), .val (.int (2 : Int32)), .val (.int (1 : Int32)), .val (.int x0)] [(.ref va)])) tt
    refine XS.iload X0.here hx rfl (hb hby d3_17) rfl ?_
    exact kk
  obtain ⟨cl5, Ar5, Sl5⟩ := id V_va
  have hin5 := inA (cl := cl5) Sl5 (j := (1 : Int32)) (by decide) (Nat.le_of_ble_eq_true rfl)
  have hat5 : cl5.slots[((1 : Int32)).toNatClampNeg]? = some (.int x1) := atA Sl5 rfl
  refine Goal.to (B := s₁.setTop (mkF m 25 #[.val (.ref va), .val (.int w4), .val (.ref va), .val (.int (2 : Int32)), .val (.int (1 : Int32)), .val (.int x1)] [(.int (-1 : Int32)), (.int x1)])) (fun tt kk => ?_) ?_
  · show Steps p.tables e below (s₁.setTop (mkF m 19 #[.val (.ref va), .val (.int w4), .val (.ref va), .val (.int (2 : Int32)), .val (.int (1 : Int32)), .val (.int x0)] [(.int (1 : Int32)), (.ref va)])) tt
    refine X0.iaload hx (j := (1 : Int32)) (v := (.int x1)) (by rw [e0]; exact Ar5.1) (State.isArrayOf_alike hZ.alike Ar5.2.1) Ar5.2.2 hin5 hat5 (g := (mkF m 19 #[.val (.ref va), .val (.int w4), .val (.ref va), .val (.int (2 : Int32)), .val (.int (1 : Int32)), .val (.int x0)] [(.int (1 : Int32)), (.ref va)])) rfl rfl (hb hby d3_19) _ ?_
    show Steps p.tables e below (s₁.setTop (mkF m 20 #[.val (.ref va), .val (.int w4), .val (.ref va), .val (.int (2 : Int32)), .val (.int (1 : Int32)), .val (.int x0)] [(.int x1)])) tt
    refine XS.istore X0.here hx rfl (hb hby d3_20) rfl (l' := #[.val (.ref va), .val (.int w4), .val (.ref va), .val (.int (2 : Int32)), .val (.int (1 : Int32)), .val (.int x1)]) rfl ?_
    show Steps p.tables e below (s₁.setTop (mkF m 22 #[.val (.ref va), .val (.int w4), .val (.ref va), .val (.int (2 : Int32)), .val (.int (1 : Int32)), .val (.int x1)] [])) tt
    refine XS.iload X0.here hx rfl (hb hby d3_22) rfl ?_
    show Steps p.tables e below (s₁.setTop (mkF m 24 #[.val (.ref va), .val (.int w4), .val (.ref va), .val (.int (2 : Int32)), .val (.int (1 : Int32)), .val (.int x1)] [(.int x1)])) tt
    refine XS.iconst X0.here hx rfl (hb hby d3_24) ?_
    exact kk
  obtain ⟨w7, hw7⟩ : ∃ z : Int32, z = if x1 = (-1 : Int32) then w4 else (w4 + (1 : Int32)) := ⟨_, rfl⟩
  refine Goal.to (B := s₁.setTop (mkF m 31 #[.val (.ref va), .val (.int w7), .val (.ref va), .val (.int (2 : Int32)), .val (.int (1 : Int32)), .val (.int x1)] [])) (fun tt kk => ?_) ?_
  · by_cases hc6 : x1 = (-1 : Int32)
    · have qw7 : w7 = w4 := by rw [hw7, if_pos hc6]
      rw [qw7] at kk
      show Steps p.tables e below (s₁.setTop (mkF m 25 #[.val (.ref va), .val (.int w4), .val (.ref va), .val (.int (2 : Int32)), .val (.int (1 : Int32)), .val (.int x1)] [(.int (-1 : Int32)), (.int x1)])) tt
      refine XS.icmpYes X0.here hx rfl (pc0 := 25) (pc' := 31) rfl (hb hby d3_25) rfl (teq hc6).1 (by decide) (by decide) ?_
      exact kk
    · have qw7 : w7 = (w4 + (1 : Int32)) := by rw [hw7, if_neg hc6]
      rw [qw7] at kk
      show Steps p.tables e below (s₁.setTop (mkF m 25 #[.val (.ref va), .val (.int w4), .val (.ref va), .val (.int (2 : Int32)), .val (.int (1 : Int32)), .val (.int x1)] [(.int (-1 : Int32)), (.int x1)])) tt
      refine XS.icmpNo X0.here hx rfl (hb hby d3_25) rfl (feq hc6).1 ?_
      show Steps p.tables e below (s₁.setTop (mkF m 28 #[.val (.ref va), .val (.int w4), .val (.ref va), .val (.int (2 : Int32)), .val (.int (1 : Int32)), .val (.int x1)] [])) tt
      refine XS.iinc X0.here hx rfl (hb hby d3_28) rfl (l' := #[.val (.ref va), .val (.int (w4 + (1 : Int32))), .val (.ref va), .val (.int (2 : Int32)), .val (.int (1 : Int32)), .val (.int x1)]) rfl ?_
      exact kk
  refine Goal.to (B := s₁.setTop (mkF m 38 #[.val (.ref va), .val (.int w7), .val (.ref va), .val (.int (2 : Int32)), .val (.int (2 : Int32)), .val (.int x1)] [(.int w7)])) (fun tt kk => ?_) ?_
  · show Steps p.tables e below (s₁.setTop (mkF m 31 #[.val (.ref va), .val (.int w7), .val (.ref va), .val (.int (2 : Int32)), .val (.int (1 : Int32)), .val (.int x1)] [])) tt
    refine XS.iinc X0.here hx rfl (hb hby d3_31) rfl (l' := #[.val (.ref va), .val (.int w7), .val (.ref va), .val (.int (2 : Int32)), .val (.int (2 : Int32)), .val (.int x1)]) rfl ?_
    show Steps p.tables e below (s₁.setTop (mkF m 34 #[.val (.ref va), .val (.int w7), .val (.ref va), .val (.int (2 : Int32)), .val (.int (2 : Int32)), .val (.int x1)] [])) tt
    refine XS.goto X0.here hx rfl (pc0 := 34) (pc' := 10) rfl (hb hby d3_34) (by decide) (by decide) ?_
    show Steps p.tables e below (s₁.setTop (mkF m 10 #[.val (.ref va), .val (.int w7), .val (.ref va), .val (.int (2 : Int32)), .val (.int (2 : Int32)), .val (.int x1)] [])) tt
    refine XS.iload X0.here hx rfl (hb hby d3_10) rfl ?_
    show Steps p.tables e below (s₁.setTop (mkF m 12 #[.val (.ref va), .val (.int w7), .val (.ref va), .val (.int (2 : Int32)), .val (.int (2 : Int32)), .val (.int x1)] [(.int (2 : Int32))])) tt
    refine XS.iloadN X0.here hx rfl (hb hby d3_12) rfl ?_
    show Steps p.tables e below (s₁.setTop (mkF m 13 #[.val (.ref va), .val (.int w7), .val (.ref va), .val (.int (2 : Int32)), .val (.int (2 : Int32)), .val (.int x1)] [(.int (2 : Int32)), (.int (2 : Int32))])) tt
    refine XS.icmpYes X0.here hx rfl (pc0 := 13) (pc' := 37) rfl (hb hby d3_13) rfl (flt (Int32.lt_irrefl : ¬ ((2 : Int32) < (2 : Int32)))).2.1 (by decide) (by decide) ?_
    show Steps p.tables e below (s₁.setTop (mkF m 37 #[.val (.ref va), .val (.int w7), .val (.ref va), .val (.int (2 : Int32)), .val (.int (2 : Int32)), .val (.int x1)] [])) tt
    refine XS.iloadN X0.here hx rfl (hb hby d3_37) rfl ?_
    exact kk
  exact Goal.retV X0 hx Bd.returns rfl (Or.inl ⟨rfl, Or.inl rfl, _, rfl⟩) (hb hby d3_38) hlk e0 ⟨(congrArg some (by rw [hw7, hw4]; rfl : ((.int w7) : Value) = (.int (own_add (own_add (0 : Int32) x0) x1)))), N0, rfl⟩ (by decide) (by decide)
def Qr3 (Z : State) (va : Addr) (x0 : Int32) (x1 : Int32) (x2 : Int32) (h0 : Heap) (n0 : Nat) (v : Option Value) (h : Heap) (L : List Loc) : Prop := v = some (.int (own_add (own_add (own_add (0 : Int32) x0) x1) x2)) ∧ Fr n0 L ∧ h = h0
set_option maxRecDepth 65536 in
set_option maxHeartbeats 40000000 in
theorem rmr3 (l : Launch) (Z : State) (a0 : Array Value) (hw : ∀ d ∈ tables_1, d.before a0 Z = true) (ws : List Jvm.Cond) (va : Addr) (x0 : Int32) (x1 : Int32) (x2 : Int32) (h0 : Heap) (n0 : Nat) (Z0 : n0 ≤ h0.size) (V_va : Ary Z h0 va .int [(.int x0), (.int x1), (.int x2)]) :
    MetFree l (⟨"com/example/purloin/runner/Pdfs", "reached", "([I)I"⟩ : MethodName) (head1 (Jvm.Cond.code (⟨"com/example/purloin/runner/Pdfs", "reached", "([I)I"⟩ : MethodName) prog_100_method_9_code 6 (some .int) :: ws) ({ frames := 0, cells := 0, slots := 0, locals := 0 } : Room)) (fun a U => a = #[(.ref va)] ∧ Z.Warmed39 U.vm ∧ U.heap = h0) (fun _ _ _ _ _ => True) (fun _ U o U' => ∃ v L, o = .returned v ∧ Qr3 Z va x0 x1 x2 h0 n0 v U'.heap L ∧ FrameEnd U o U' L 0 0) := by
  refine MetFree.of_bodySF (plainFor_of_name pn_3) hisR ?_
  intro p e s m args below meth c s₁ Bd hml0 hP hK
  obtain ⟨rfl, hZ, hh⟩ := hP
  have hx := Bd.exec
  have hby := Bd.bytes
  have hml : c.maxLocals = 6 := hml0
  have hown : s.vm.findClass "com/example/purloin/runner/Pdfs" = some m.cls := findClass_of_methodNamed Bd.named
  have hnm := (name_of_methodNamed Bd.named Bd.method).1
  have X0 : Stand p l e ({ frames := 0, cells := 0, slots := 0, locals := 0 } : Room) s m #[(.ref va)] below meth c s₁ [] 0 0 := Stand.of_body Bd
  have e0 : s₁.heap = h0 := by rw [← hh, Bd.state]; rfl
  have N0 := Fr.nil n0
  have hlk : meth.locks = false := BodyLoose.notSynchronized Bd
  show Goal p e below s (Qr3 Z va x0 x1 x2 h0 n0) 0 0 (s₁.setTop (entryFrame m #[(.ref va)] 6))
  refine Goal.to (B := s₁.setTop (mkF m 0 #[.val (.ref va), .unset, .unset, .unset, .unset, .unset] [])) (fun tt kk => castTop (ef_3 m va ) kk) ?_
  refine Goal.to (B := s₁.setTop (mkF m 5 #[.val (.ref va), .val (.int (0 : Int32)), .val (.ref va), .unset, .unset, .unset] [(.ref va)])) (fun tt kk => ?_) ?_
  · show Steps p.tables e below (s₁.setTop (mkF m 0 #[.val (.ref va), .unset, .unset, .unset, .unset, .unset] [])) tt
    refine XS.iconst X0.here hx rfl (hb hby d3_0) ?_
    show Steps p.tables e below (s₁.setTop (mkF m 1 #[.val (.ref va), .unset, .unset, .unset, .unset, .unset] [(.int (0 : Int32))])) tt
    refine XS.istoreN X0.here hx rfl (hb hby d3_1) rfl (l' := #[.val (.ref va), .val (.int (0 : Int32)), .unset, .unset, .unset, .unset]) rfl ?_
    show Steps p.tables e below (s₁.setTop (mkF m 2 #[.val (.ref va), .val (.int (0 : Int32)), .unset, .unset, .unset, .unset] [])) tt
    refine XS.aloadN X0.here hx rfl (hb hby d3_2) rfl rfl ?_
    show Steps p.tables e below (s₁.setTop (mkF m 3 #[.val (.ref va), .val (.int (0 : Int32)), .unset, .unset, .unset, .unset] [(.ref va)])) tt
    refine XS.astoreN X0.here hx rfl (hb hby d3_3) rfl rfl (l' := #[.val (.ref va), .val (.int (0 : Int32)), .val (.ref va), .unset, .unset, .unset]) rfl ?_
    show Steps p.tables e below (s₁.setTop (mkF m 4 #[.val (.ref va), .val (.int (0 : Int32)), .val (.ref va), .unset, .unset, .unset] [])) tt
    refine XS.aloadN X0.here hx rfl (hb hby d3_4) rfl rfl ?_
    exact kk
  obtain ⟨cl1, Ar1, Sl1⟩ := id V_va
  have ln1 : cl1.slots.size.toInt32 = (3 : Int32) := lenA Sl1 rfl
  refine Goal.to (B := s₁.setTop (mkF m 19 #[.val (.ref va), .val (.int (0 : Int32)), .val (.ref va), .val (.int (3 : Int32)), .val (.int (0 : Int32)), .unset] [(.int (0 : Int32)), (.ref va)])) (fun tt kk => ?_) ?_
  · show Steps p.tables e below (s₁.setTop (mkF m 5 #[.val (.ref va), .val (.int (0 : Int32)), .val (.ref va), .unset, .unset, .unset] [(.ref va)])) tt
    refine X0.arraylength hx (by rw [e0]; exact Ar1.1) (State.isArrayOf_alike hZ.alike Ar1.2.1) (g := (mkF m 5 #[.val (.ref va), .val (.int (0 : Int32)), .val (.ref va), .unset, .unset, .unset] [(.ref va)])) rfl rfl (hb hby d3_5) _ ?_
    rw [ln1]
    show Steps p.tables e below (s₁.setTop (mkF m 6 #[.val (.ref va), .val (.int (0 : Int32)), .val (.ref va), .unset, .unset, .unset] [(.int (3 : Int32))])) tt
    refine XS.istoreN X0.here hx rfl (hb hby d3_6) rfl (l' := #[.val (.ref va), .val (.int (0 : Int32)), .val (.ref va), .val (.int (3 : Int32)), .unset, .unset]) rfl ?_
    show Steps p.tables e below (s₁.setTop (mkF m 7 #[.val (.ref va), .val (.int (0 : Int32)), .val (.ref va), .val (.int (3 : Int32)), .unset, .unset] [])) tt
    refine XS.iconst X0.here hx rfl (hb hby d3_7) ?_
    show Steps p.tables e below (s₁.setTop (mkF m 8 #[.val (.ref va), .val (.int (0 : Int32)), .val (.ref va), .val (.int (3 : Int32)), .unset, .unset] [(.int (0 : Int32))])) tt
    refine XS.istore X0.here hx rfl (hb hby d3_8) rfl (l' := #[.val (.ref va), .val (.int (0 : Int32)), .val (.ref va), .val (.int (3 : Int32)), .val (.int (0 : Int32)), .unset]) rfl ?_
    show Steps p.tables e below (s₁.setTop (mkF m 10 #[.val (.ref va), .val (.int (0 : Int32)), .val (.ref va), .val (.int (3 : Int32)), .val (.int (0 : Int32)), .unset] [])) tt
    refine XS.iload X0.here hx rfl (hb hby d3_10) rfl ?_
    show Steps p.tables e below (s₁.setTop (mkF m 12 #[.val (.ref va), .val (.int (0 : Int32)), .val (.ref va), .val (.int (3 : Int32)), .val (.int (0 : Int32)), .unset] [(.int (0 : Int32))])) tt
    refine XS.iloadN X0.here hx rfl (hb hby d3_12) rfl ?_
    show Steps p.tables e below (s₁.setTop (mkF m 13 #[.val (.ref va), .val (.int (0 : Int32)), .val (.ref va), .val (.int (3 : Int32)), .val (.int (0 : Int32)), .unset] [(.int (3 : Int32)), (.int (0 : Int32))])) tt
    refine XS.icmpNo X0.here hx rfl (hb hby d3_13) rfl (tlt ((by decide) : (0 : Int32) < (3 : Int32))).2.1 ?_
    show Steps p.tables e below (s₁.setTop (mkF m 16 #[.val (.ref va), .val (.int (0 : Int32)), .val (.ref va), .val (.int (3 : Int32)), .val (.int (0 : Int32)), .unset] [])) tt
    refine XS.aloadN X0.here hx rfl (hb hby d3_16) rfl rfl ?_
    show Steps p.tables e below (s₁.setTop (mkF m 17 #[.val (.ref va), .val (.int (0 : Int32)), .val (.ref va), .val (.int (3 : Int32)), .val (.int (0 : Int32)), .unset] [(.ref va)])) tt
    refine XS.iload X0.here hx rfl (hb hby d3_17) rfl ?_
    exact kk
  obtain ⟨cl2, Ar2, Sl2⟩ := id V_va
  have hin2 := inA (cl := cl2) Sl2 (j := (0 : Int32)) (by decide) (Nat.le_of_ble_eq_true rfl)
  have hat2 : cl2.slots[((0 : Int32)).toNatClampNeg]? = some (.int x0) := atA Sl2 rfl
  refine Goal.to (B := s₁.setTop (mkF m 25 #[.val (.ref va), .val (.int (0 : Int32)), .val (.ref va), .val (.int (3 : Int32)), .val (.int (0 : Int32)), .val (.int x0)] [(.int (-1 : Int32)), (.int x0)])) (fun tt kk => ?_) ?_
  · show Steps p.tables e below (s₁.setTop (mkF m 19 #[.val (.ref va), .val (.int (0 : Int32)), .val (.ref va), .val (.int (3 : Int32)), .val (.int (0 : Int32)), .unset] [(.int (0 : Int32)), (.ref va)])) tt
    refine X0.iaload hx (j := (0 : Int32)) (v := (.int x0)) (by rw [e0]; exact Ar2.1) (State.isArrayOf_alike hZ.alike Ar2.2.1) Ar2.2.2 hin2 hat2 (g := (mkF m 19 #[.val (.ref va), .val (.int (0 : Int32)), .val (.ref va), .val (.int (3 : Int32)), .val (.int (0 : Int32)), .unset] [(.int (0 : Int32)), (.ref va)])) rfl rfl (hb hby d3_19) _ ?_
    show Steps p.tables e below (s₁.setTop (mkF m 20 #[.val (.ref va), .val (.int (0 : Int32)), .val (.ref va), .val (.int (3 : Int32)), .val (.int (0 : Int32)), .unset] [(.int x0)])) tt
    refine XS.istore X0.here hx rfl (hb hby d3_20) rfl (l' := #[.val (.ref va), .val (.int (0 : Int32)), .val (.ref va), .val (.int (3 : Int32)), .val (.int (0 : Int32)), .val (.int x0)]) rfl ?_
    show Steps p.tables e below (s₁.setTop (mkF m 22 #[.val (.ref va), .val (.int (0 : Int32)), .val (.ref va), .val (.int (3 : Int32)), .val (.int (0 : Int32)), .val (.int x0)] [])) tt
    refine XS.iload X0.here hx rfl (hb hby d3_22) rfl ?_
    show Steps p.tables e below (s₁.setTop (mkF m 24 #[.val (.ref va), .val (.int (0 : Int32)), .val (.ref va), .val (.int (3 : Int32)), .val (.int (0 : Int32)), .val (.int x0)] [(.int x0)])) tt
    refine XS.iconst X0.here hx rfl (hb hby d3_24) ?_
    exact kk
  obtain ⟨w4, hw4⟩ : ∃ z : Int32, z = if x0 = (-1 : Int32) then (0 : Int32) else (1 : Int32) := ⟨_, rfl⟩
  refine Goal.to (B := s₁.setTop (mkF m 31 #[.val (.ref va), .val (.int w4), .val (.ref va), .val (.int (3 : Int32)), .val (.int (0 : Int32)), .val (.int x0)] [])) (fun tt kk => ?_) ?_
  · by_cases hc3 : x0 = (-1 : Int32)
    · have qw4 : w4 = (0 : Int32) := by rw [hw4, if_pos hc3]
      rw [qw4] at kk
      show Steps p.tables e below (s₁.setTop (mkF m 25 #[.val (.ref va), .val (.int (0 : Int32)), .val (.ref va), .val (.int (3 : Int32)), .val (.int (0 : Int32)), .val (.int x0)] [(.int (-1 : Int32)), (.int x0)])) tt
      refine XS.icmpYes X0.here hx rfl (pc0 := 25) (pc' := 31) rfl (hb hby d3_25) rfl (teq hc3).1 (by decide) (by decide) ?_
      exact kk
    · have qw4 : w4 = (1 : Int32) := by rw [hw4, if_neg hc3]
      rw [qw4] at kk
      show Steps p.tables e below (s₁.setTop (mkF m 25 #[.val (.ref va), .val (.int (0 : Int32)), .val (.ref va), .val (.int (3 : Int32)), .val (.int (0 : Int32)), .val (.int x0)] [(.int (-1 : Int32)), (.int x0)])) tt
      refine XS.icmpNo X0.here hx rfl (hb hby d3_25) rfl (feq hc3).1 ?_
      show Steps p.tables e below (s₁.setTop (mkF m 28 #[.val (.ref va), .val (.int (0 : Int32)), .val (.ref va), .val (.int (3 : Int32)), .val (.int (0 : Int32)), .val (.int x0)] [])) tt
      refine XS.iinc X0.here hx rfl (hb hby d3_28) rfl (l' := #[.val (.ref va), .val (.int (1 : Int32)), .val (.ref va), .val (.int (3 : Int32)), .val (.int (0 : Int32)), .val (.int x0)]) rfl ?_
      exact kk
  refine Goal.to (B := s₁.setTop (mkF m 19 #[.val (.ref va), .val (.int w4), .val (.ref va), .val (.int (3 : Int32)), .val (.int (1 : Int32)), .val (.int x0)] [(.int (1 : Int32)), (.ref va)])) (fun tt kk => ?_) ?_
  · show Steps p.tables e below (s₁.setTop (mkF m 31 #[.val (.ref va), .val (.int w4), .val (.ref va), .val (.int (3 : Int32)), .val (.int (0 : Int32)), .val (.int x0)] [])) tt
    refine XS.iinc X0.here hx rfl (hb hby d3_31) rfl (l' := #[.val (.ref va), .val (.int w4), .val (.ref va), .val (.int (3 : Int32)), .val (.int (1 : Int32)), .val (.int x0)]) rfl ?_
    show Steps p.tables e below (s₁.setTop (mkF m 34 #[.val (.ref va), .val (.int w4), .val (.ref va), .val (.int (3 : Int32)), .val (.int (1 : Int32)), .val (.int x0)] [])) tt
    refine XS.goto X0.here hx rfl (pc0 := 34) (pc' := 10) rfl (hb hby d3_34) (by decide) (by decide) ?_
    show Steps p.tables e below (s₁.setTop (mkF m 10 #[.val (.ref va), .val (.int w4), .val (.ref va), .val (.int (3 : Int32)), .val (.int (1 : Int32)), .val (.int x0)] [])) tt
    refine XS.iload X0.here hx rfl (hb hby d3_10) rfl ?_
    show Steps p.tables e below (s₁.setTop (mkF m 12 #[.val (.ref va), .val (.int w4), .val (.ref va), .val (.int (3 : Int32)), .val (.int (1 : Int32)), .val (.int x0)] [(.int (1 : Int32))])) tt
    refine XS.iloadN X0.here hx rfl (hb hby d3_12) rfl ?_
    show Steps p.tables e below (s₁.setTop (mkF m 13 #[.val (.ref va), .val (.int w4), .val (.ref va), .val (.int (3 : Int32)), .val (.int (1 : Int32)), .val (.int x0)] [(.int (3 : Int32)), (.int (1 : Int32))])) tt
    refine XS.icmpNo X0.here hx rfl (hb hby d3_13) rfl (tlt ((by decide) : (1 : Int32) < (3 : Int32))).2.1 ?_
    show Steps p.tables e below (s₁.setTop (mkF m 16 #[.val (.ref va), .val (.int w4), .val (.ref va), .val (.int (3 : Int32)), .val (.int (1 : Int32)), .val (.int x0)] [])) tt
    refine XS.aloadN X0.here hx rfl (hb hby d3_16) rfl rfl ?_
    show Steps p.tables e below (s₁.setTop (mkF m 17 #[.val (.ref va), .val (.int w4), .val (.ref va), .val (.int (3 : Int32)), .val (.int (1 : Int32)), .val (.int x0)] [(.ref va)])) tt
    refine XS.iload X0.here hx rfl (hb hby d3_17) rfl ?_
    exact kk
  obtain ⟨cl5, Ar5, Sl5⟩ := id V_va
  have hin5 := inA (cl := cl5) Sl5 (j := (1 : Int32)) (by decide) (Nat.le_of_ble_eq_true rfl)
  have hat5 : cl5.slots[((1 : Int32)).toNatClampNeg]? = some (.int x1) := atA Sl5 rfl
  refine Goal.to (B := s₁.setTop (mkF m 25 #[.val (.ref va), .val (.int w4), .val (.ref va), .val (.int (3 : Int32)), .val (.int (1 : Int32)), .val (.int x1)] [(.int (-1 : Int32)), (.int x1)])) (fun tt kk => ?_) ?_
  · show Steps p.tables e below (s₁.setTop (mkF m 19 #[.val (.ref va), .val (.int w4), .val (.ref va), .val (.int (3 : Int32)), .val (.int (1 : Int32)), .val (.int x0)] [(.int (1 : Int32)), (.ref va)])) tt
    refine X0.iaload hx (j := (1 : Int32)) (v := (.int x1)) (by rw [e0]; exact Ar5.1) (State.isArrayOf_alike hZ.alike Ar5.2.1) Ar5.2.2 hin5 hat5 (g := (mkF m 19 #[.val (.ref va), .val (.int w4), .val (.ref va), .val (.int (3 : Int32)), .val (.int (1 : Int32)), .val (.int x0)] [(.int (1 : Int32)), (.ref va)])) rfl rfl (hb hby d3_19) _ ?_
    show Steps p.tables e below (s₁.setTop (mkF m 20 #[.val (.ref va), .val (.int w4), .val (.ref va), .val (.int (3 : Int32)), .val (.int (1 : Int32)), .val (.int x0)] [(.int x1)])) tt
    refine XS.istore X0.here hx rfl (hb hby d3_20) rfl (l' := #[.val (.ref va), .val (.int w4), .val (.ref va), .val (.int (3 : Int32)), .val (.int (1 : Int32)), .val (.int x1)]) rfl ?_
    show Steps p.tables e below (s₁.setTop (mkF m 22 #[.val (.ref va), .val (.int w4), .val (.ref va), .val (.int (3 : Int32)), .val (.int (1 : Int32)), .val (.int x1)] [])) tt
    refine XS.iload X0.here hx rfl (hb hby d3_22) rfl ?_
    show Steps p.tables e below (s₁.setTop (mkF m 24 #[.val (.ref va), .val (.int w4), .val (.ref va), .val (.int (3 : Int32)), .val (.int (1 : Int32)), .val (.int x1)] [(.int x1)])) tt
    refine XS.iconst X0.here hx rfl (hb hby d3_24) ?_
    exact kk
  obtain ⟨w7, hw7⟩ : ∃ z : Int32, z = if x1 = (-1 : Int32) then w4 else (w4 + (1 : Int32)) := ⟨_, rfl⟩
  refine Goal.to (B := s₁.setTop (mkF m 31 #[.val (.ref va), .val (.int w7), .val (.ref va), .val (.int (3 : Int32)), .val (.int (1 : Int32)), .val (.int x1)] [])) (fun tt kk => ?_) ?_
  · by_cases hc6 : x1 = (-1 : Int32)
    · have qw7 : w7 = w4 := by rw [hw7, if_pos hc6]
      rw [qw7] at kk
      show Steps p.tables e below (s₁.setTop (mkF m 25 #[.val (.ref va), .val (.int w4), .val (.ref va), .val (.int (3 : Int32)), .val (.int (1 : Int32)), .val (.int x1)] [(.int (-1 : Int32)), (.int x1)])) tt
      refine XS.icmpYes X0.here hx rfl (pc0 := 25) (pc' := 31) rfl (hb hby d3_25) rfl (teq hc6).1 (by decide) (by decide) ?_
      exact kk
    · have qw7 : w7 = (w4 + (1 : Int32)) := by rw [hw7, if_neg hc6]
      rw [qw7] at kk
      show Steps p.tables e below (s₁.setTop (mkF m 25 #[.val (.ref va), .val (.int w4), .val (.ref va), .val (.int (3 : Int32)), .val (.int (1 : Int32)), .val (.int x1)] [(.int (-1 : Int32)), (.int x1)])) tt
      refine XS.icmpNo X0.here hx rfl (hb hby d3_25) rfl (feq hc6).1 ?_
      show Steps p.tables e below (s₁.setTop (mkF m 28 #[.val (.ref va), .val (.int w4), .val (.ref va), .val (.int (3 : Int32)), .val (.int (1 : Int32)), .val (.int x1)] [])) tt
      refine XS.iinc X0.here hx rfl (hb hby d3_28) rfl (l' := #[.val (.ref va), .val (.int (w4 + (1 : Int32))), .val (.ref va), .val (.int (3 : Int32)), .val (.int (1 : Int32)), .val (.int x1)]) rfl ?_
      exact kk
  refine Goal.to (B := s₁.setTop (mkF m 19 #[.val (.ref va), .val (.int w7), .val (.ref va), .val (.int (3 : Int32)), .val (.int (2 : Int32)), .val (.int x1)] [(.int (2 : Int32)), (.ref va)])) (fun tt kk => ?_) ?_
  · show Steps p.tables e below (s₁.setTop (mkF m 31 #[.val (.ref va), .val (.int w7), .val (.ref va), .val (.int (3 : Int32)), .val (.int (1 : Int32)), .val (.int x1)] [])) tt
    refine XS.iinc X0.here hx rfl (hb hby d3_31) rfl (l' := #[.val (.ref va), .val (.int w7), .val (.ref va), .val (.int (3 : Int32)), .val (.int (2 : Int32)), .val (.int x1)]) rfl ?_
    show Steps p.tables e below (s₁.setTop (mkF m 34 #[.val (.ref va), .val (.int w7), .val (.ref va), .val (.int (3 : Int32)), .val (.int (2 : Int32)), .val (.int x1)] [])) tt
    refine XS.goto X0.here hx rfl (pc0 := 34) (pc' := 10) rfl (hb hby d3_34) (by decide) (by decide) ?_
    show Steps p.tables e below (s₁.setTop (mkF m 10 #[.val (.ref va), .val (.int w7), .val (.ref va), .val (.int (3 : Int32)), .val (.int (2 : Int32)), .val (.int x1)] [])) tt
    refine XS.iload X0.here hx rfl (hb hby d3_10) rfl ?_
    show Steps p.tables e below (s₁.setTop (mkF m 12 #[.val (.ref va), .val (.int w7), .val (.ref va), .val (.int (3 : Int32)), .val (.int (2 : Int32)), .val (.int x1)] [(.int (2 : Int32))])) tt
    refine XS.iloadN X0.here hx rfl (hb hby d3_12) rfl ?_
    show Steps p.tables e below (s₁.setTop (mkF m 13 #[.val (.ref va), .val (.int w7), .val (.ref va), .val (.int (3 : Int32)), .val (.int (2 : Int32)), .val (.int x1)] [(.int (3 : Int32)), (.int (2 : Int32))])) tt
    refine XS.icmpNo X0.here hx rfl (hb hby d3_13) rfl (tlt ((by decide) : (2 : Int32) < (3 : Int32))).2.1 ?_
    show Steps p.tables e below (s₁.setTop (mkF m 16 #[.val (.ref va), .val (.int w7), .val (.ref va), .val (.int (3 : Int32)), .val (.int (2 : Int32)), .val (.int x1)] [])) tt
    refine XS.aloadN X0.here hx rfl (hb hby d3_16) rfl rfl ?_
    show Steps p.tables e below (s₁.setTop (mkF m 17 #[.val (.ref va), .val (.int w7), .val (.ref va), .val (.int (3 : Int32)), .val (.int (2 : Int32)), .val (.int x1)] [(.ref va)])) tt
    refine XS.iload X0.here hx rfl (hb hby d3_17) rfl ?_
    exact kk
  obtain ⟨cl8, Ar8, Sl8⟩ := id V_va
  have hin8 := inA (cl := cl8) Sl8 (j := (2 : Int32)) (by decide) (Nat.le_of_ble_eq_true rfl)
  have hat8 : cl8.slots[((2 : Int32)).toNatClampNeg]? = some (.int x2) := atA Sl8 rfl
  refine Goal.to (B := s₁.setTop (mkF m 25 #[.val (.ref va), .val (.int w7), .val (.ref va), .val (.int (3 : Int32)), .val (.int (2 : Int32)), .val (.int x2)] [(.int (-1 : Int32)), (.int x2)])) (fun tt kk => ?_) ?_
  · show Steps p.tables e below (s₁.setTop (mkF m 19 #[.val (.ref va), .val (.int w7), .val (.ref va), .val (.int (3 : Int32)), .val (.int (2 : Int32)), .val (.int x1)] [(.int (2 : Int32)), (.ref va)])) tt
    refine X0.iaload hx (j := (2 : Int32)) (v := (.int x2)) (by rw [e0]; exact Ar8.1) (State.isArrayOf_alike hZ.alike Ar8.2.1) Ar8.2.2 hin8 hat8 (g := (mkF m 19 #[.val (.ref va), .val (.int w7), .val (.ref va), .val (.int (3 : Int32)), .val (.int (2 : Int32)), .val (.int x1)] [(.int (2 : Int32)), (.ref va)])) rfl rfl (hb hby d3_19) _ ?_
    show Steps p.tables e below (s₁.setTop (mkF m 20 #[.val (.ref va), .val (.int w7), .val (.ref va), .val (.int (3 : Int32)), .val (.int (2 : Int32)), .val (.int x1)] [(.int x2)])) tt
    refine XS.istore X0.here hx rfl (hb hby d3_20) rfl (l' := #[.val (.ref va), .val (.int w7), .val (.ref va), .val (.int (3 : Int32)), .val (.int (2 : Int32)), .val (.int x2)]) rfl ?_
    show Steps p.tables e below (s₁.setTop (mkF m 22 #[.val (.ref va), .val (.int w7), .val (.ref va), .val (.int (3 : Int32)), .val (.int (2 : Int32)), .val (.int x2)] [])) tt
    refine XS.iload X0.here hx rfl (hb hby d3_22) rfl ?_
    show Steps p.tables e below (s₁.setTop (mkF m 24 #[.val (.ref va), .val (.int w7), .val (.ref va), .val (.int (3 : Int32)), .val (.int (2 : Int32)), .val (.int x2)] [(.int x2)])) tt
    refine XS.iconst X0.here hx rfl (hb hby d3_24) ?_
    exact kk
  obtain ⟨w10, hw10⟩ : ∃ z : Int32, z = if x2 = (-1 : Int32) then w7 else (w7 + (1 : Int32)) := ⟨_, rfl⟩
  refine Goal.to (B := s₁.setTop (mkF m 31 #[.val (.ref va), .val (.int w10), .val (.ref va), .val (.int (3 : Int32)), .val (.int (2 : Int32)), .val (.int x2)] [])) (fun tt kk => ?_) ?_
  · by_cases hc9 : x2 = (-1 : Int32)
    · have qw10 : w10 = w7 := by rw [hw10, if_pos hc9]
      rw [qw10] at kk
      show Steps p.tables e below (s₁.setTop (mkF m 25 #[.val (.ref va), .val (.int w7), .val (.ref va), .val (.int (3 : Int32)), .val (.int (2 : Int32)), .val (.int x2)] [(.int (-1 : Int32)), (.int x2)])) tt
      refine XS.icmpYes X0.here hx rfl (pc0 := 25) (pc' := 31) rfl (hb hby d3_25) rfl (teq hc9).1 (by decide) (by decide) ?_
      exact kk
    · have qw10 : w10 = (w7 + (1 : Int32)) := by rw [hw10, if_neg hc9]
      rw [qw10] at kk
      show Steps p.tables e below (s₁.setTop (mkF m 25 #[.val (.ref va), .val (.int w7), .val (.ref va), .val (.int (3 : Int32)), .val (.int (2 : Int32)), .val (.int x2)] [(.int (-1 : Int32)), (.int x2)])) tt
      refine XS.icmpNo X0.here hx rfl (hb hby d3_25) rfl (feq hc9).1 ?_
      show Steps p.tables e below (s₁.setTop (mkF m 28 #[.val (.ref va), .val (.int w7), .val (.ref va), .val (.int (3 : Int32)), .val (.int (2 : Int32)), .val (.int x2)] [])) tt
      refine XS.iinc X0.here hx rfl (hb hby d3_28) rfl (l' := #[.val (.ref va), .val (.int (w7 + (1 : Int32))), .val (.ref va), .val (.int (3 : Int32)), .val (.int (2 : Int32)), .val (.int x2)]) rfl ?_
      exact kk
  refine Goal.to (B := s₁.setTop (mkF m 38 #[.val (.ref va), .val (.int w10), .val (.ref va), .val (.int (3 : Int32)), .val (.int (3 : Int32)), .val (.int x2)] [(.int w10)])) (fun tt kk => ?_) ?_
  · show Steps p.tables e below (s₁.setTop (mkF m 31 #[.val (.ref va), .val (.int w10), .val (.ref va), .val (.int (3 : Int32)), .val (.int (2 : Int32)), .val (.int x2)] [])) tt
    refine XS.iinc X0.here hx rfl (hb hby d3_31) rfl (l' := #[.val (.ref va), .val (.int w10), .val (.ref va), .val (.int (3 : Int32)), .val (.int (3 : Int32)), .val (.int x2)]) rfl ?_
    show Steps p.tables e below (s₁.setTop (mkF m 34 #[.val (.ref va), .val (.int w10), .val (.ref va), .val (.int (3 : Int32)), .val (.int (3 : Int32)), .val (.int x2)] [])) tt
    refine XS.goto X0.here hx rfl (pc0 := 34) (pc' := 10) rfl (hb hby d3_34) (by decide) (by decide) ?_
    show Steps p.tables e below (s₁.setTop (mkF m 10 #[.val (.ref va), .val (.int w10), .val (.ref va), .val (.int (3 : Int32)), .val (.int (3 : Int32)), .val (.int x2)] [])) tt
    refine XS.iload X0.here hx rfl (hb hby d3_10) rfl ?_
    show Steps p.tables e below (s₁.setTop (mkF m 12 #[.val (.ref va), .val (.int w10), .val (.ref va), .val (.int (3 : Int32)), .val (.int (3 : Int32)), .val (.int x2)] [(.int (3 : Int32))])) tt
    refine XS.iloadN X0.here hx rfl (hb hby d3_12) rfl ?_
    show Steps p.tables e below (s₁.setTop (mkF m 13 #[.val (.ref va), .val (.int w10), .val (.ref va), .val (.int (3 : Int32)), .val (.int (3 : Int32)), .val (.int x2)] [(.int (3 : Int32)), (.int (3 : Int32))])) tt
    refine XS.icmpYes X0.here hx rfl (pc0 := 13) (pc' := 37) rfl (hb hby d3_13) rfl (flt (Int32.lt_irrefl : ¬ ((3 : Int32) < (3 : Int32)))).2.1 (by decide) (by decide) ?_
    show Steps p.tables e below (s₁.setTop (mkF m 37 #[.val (.ref va), .val (.int w10), .val (.ref va), .val (.int (3 : Int32)), .val (.int (3 : Int32)), .val (.int x2)] [])) tt
    refine XS.iloadN X0.here hx rfl (hb hby d3_37) rfl ?_
    exact kk
  exact Goal.retV X0 hx Bd.returns rfl (Or.inl ⟨rfl, Or.inl rfl, _, rfl⟩) (hb hby d3_38) hlk e0 ⟨(congrArg some (by rw [hw10, hw7, hw4]; rfl : ((.int w10) : Value) = (.int (own_add (own_add (own_add (0 : Int32) x0) x1) x2)))), N0, rfl⟩ (by decide) (by decide)
def Qr4 (Z : State) (va : Addr) (x0 : Int32) (x1 : Int32) (x2 : Int32) (x3 : Int32) (h0 : Heap) (n0 : Nat) (v : Option Value) (h : Heap) (L : List Loc) : Prop := v = some (.int (own_add (own_add (own_add (own_add (0 : Int32) x0) x1) x2) x3)) ∧ Fr n0 L ∧ h = h0
set_option maxRecDepth 65536 in
set_option maxHeartbeats 40000000 in
theorem rmr4 (l : Launch) (Z : State) (a0 : Array Value) (hw : ∀ d ∈ tables_1, d.before a0 Z = true) (ws : List Jvm.Cond) (va : Addr) (x0 : Int32) (x1 : Int32) (x2 : Int32) (x3 : Int32) (h0 : Heap) (n0 : Nat) (Z0 : n0 ≤ h0.size) (V_va : Ary Z h0 va .int [(.int x0), (.int x1), (.int x2), (.int x3)]) :
    MetFree l (⟨"com/example/purloin/runner/Pdfs", "reached", "([I)I"⟩ : MethodName) (head1 (Jvm.Cond.code (⟨"com/example/purloin/runner/Pdfs", "reached", "([I)I"⟩ : MethodName) prog_100_method_9_code 6 (some .int) :: ws) ({ frames := 0, cells := 0, slots := 0, locals := 0 } : Room)) (fun a U => a = #[(.ref va)] ∧ Z.Warmed39 U.vm ∧ U.heap = h0) (fun _ _ _ _ _ => True) (fun _ U o U' => ∃ v L, o = .returned v ∧ Qr4 Z va x0 x1 x2 x3 h0 n0 v U'.heap L ∧ FrameEnd U o U' L 0 0) := by
  refine MetFree.of_bodySF (plainFor_of_name pn_3) hisR ?_
  intro p e s m args below meth c s₁ Bd hml0 hP hK
  obtain ⟨rfl, hZ, hh⟩ := hP
  have hx := Bd.exec
  have hby := Bd.bytes
  have hml : c.maxLocals = 6 := hml0
  have hown : s.vm.findClass "com/example/purloin/runner/Pdfs" = some m.cls := findClass_of_methodNamed Bd.named
  have hnm := (name_of_methodNamed Bd.named Bd.method).1
  have X0 : Stand p l e ({ frames := 0, cells := 0, slots := 0, locals := 0 } : Room) s m #[(.ref va)] below meth c s₁ [] 0 0 := Stand.of_body Bd
  have e0 : s₁.heap = h0 := by rw [← hh, Bd.state]; rfl
  have N0 := Fr.nil n0
  have hlk : meth.locks = false := BodyLoose.notSynchronized Bd
  show Goal p e below s (Qr4 Z va x0 x1 x2 x3 h0 n0) 0 0 (s₁.setTop (entryFrame m #[(.ref va)] 6))
  refine Goal.to (B := s₁.setTop (mkF m 0 #[.val (.ref va), .unset, .unset, .unset, .unset, .unset] [])) (fun tt kk => castTop (ef_3 m va ) kk) ?_
  refine Goal.to (B := s₁.setTop (mkF m 5 #[.val (.ref va), .val (.int (0 : Int32)), .val (.ref va), .unset, .unset, .unset] [(.ref va)])) (fun tt kk => ?_) ?_
  · show Steps p.tables e below (s₁.setTop (mkF m 0 #[.val (.ref va), .unset, .unset, .unset, .unset, .unset] [])) tt
    refine XS.iconst X0.here hx rfl (hb hby d3_0) ?_
    show Steps p.tables e below (s₁.setTop (mkF m 1 #[.val (.ref va), .unset, .unset, .unset, .unset, .unset] [(.int (0 : Int32))])) tt
    refine XS.istoreN X0.here hx rfl (hb hby d3_1) rfl (l' := #[.val (.ref va), .val (.int (0 : Int32)), .unset, .unset, .unset, .unset]) rfl ?_
    show Steps p.tables e below (s₁.setTop (mkF m 2 #[.val (.ref va), .val (.int (0 : Int32)), .unset, .unset, .unset, .unset] [])) tt
    refine XS.aloadN X0.here hx rfl (hb hby d3_2) rfl rfl ?_
    show Steps p.tables e below (s₁.setTop (mkF m 3 #[.val (.ref va), .val (.int (0 : Int32)), .unset, .unset, .unset, .unset] [(.ref va)])) tt
    refine XS.astoreN X0.here hx rfl (hb hby d3_3) rfl rfl (l' := #[.val (.ref va), .val (.int (0 : Int32)), .val (.ref va), .unset, .unset, .unset]) rfl ?_
    show Steps p.tables e below (s₁.setTop (mkF m 4 #[.val (.ref va), .val (.int (0 : Int32)), .val (.ref va), .unset, .unset, .unset] [])) tt
    refine XS.aloadN X0.here hx rfl (hb hby d3_4) rfl rfl ?_
    exact kk
  obtain ⟨cl1, Ar1, Sl1⟩ := id V_va
  have ln1 : cl1.slots.size.toInt32 = (4 : Int32) := lenA Sl1 rfl
  refine Goal.to (B := s₁.setTop (mkF m 19 #[.val (.ref va), .val (.int (0 : Int32)), .val (.ref va), .val (.int (4 : Int32)), .val (.int (0 : Int32)), .unset] [(.int (0 : Int32)), (.ref va)])) (fun tt kk => ?_) ?_
  · show Steps p.tables e below (s₁.setTop (mkF m 5 #[.val (.ref va), .val (.int (0 : Int32)), .val (.ref va), .unset, .unset, .unset] [(.ref va)])) tt
    refine X0.arraylength hx (by rw [e0]; exact Ar1.1) (State.isArrayOf_alike hZ.alike Ar1.2.1) (g := (mkF m 5 #[.val (.ref va), .val (.int (0 : Int32)), .val (.ref va), .unset, .unset, .unset] [(.ref va)])) rfl rfl (hb hby d3_5) _ ?_
    rw [ln1]
    show Steps p.tables e below (s₁.setTop (mkF m 6 #[.val (.ref va), .val (.int (0 : Int32)), .val (.ref va), .unset, .unset, .unset] [(.int (4 : Int32))])) tt
    refine XS.istoreN X0.here hx rfl (hb hby d3_6) rfl (l' := #[.val (.ref va), .val (.int (0 : Int32)), .val (.ref va), .val (.int (4 : Int32)), .unset, .unset]) rfl ?_
    show Steps p.tables e below (s₁.setTop (mkF m 7 #[.val (.ref va), .val (.int (0 : Int32)), .val (.ref va), .val (.int (4 : Int32)), .unset, .unset] [])) tt
    refine XS.iconst X0.here hx rfl (hb hby d3_7) ?_
    show Steps p.tables e below (s₁.setTop (mkF m 8 #[.val (.ref va), .val (.int (0 : Int32)), .val (.ref va), .val (.int (4 : Int32)), .unset, .unset] [(.int (0 : Int32))])) tt
    refine XS.istore X0.here hx rfl (hb hby d3_8) rfl (l' := #[.val (.ref va), .val (.int (0 : Int32)), .val (.ref va), .val (.int (4 : Int32)), .val (.int (0 : Int32)), .unset]) rfl ?_
    show Steps p.tables e below (s₁.setTop (mkF m 10 #[.val (.ref va), .val (.int (0 : Int32)), .val (.ref va), .val (.int (4 : Int32)), .val (.int (0 : Int32)), .unset] [])) tt
    refine XS.iload X0.here hx rfl (hb hby d3_10) rfl ?_
    show Steps p.tables e below (s₁.setTop (mkF m 12 #[.val (.ref va), .val (.int (0 : Int32)), .val (.ref va), .val (.int (4 : Int32)), .val (.int (0 : Int32)), .unset] [(.int (0 : Int32))])) tt
    refine XS.iloadN X0.here hx rfl (hb hby d3_12) rfl ?_
    show Steps p.tables e below (s₁.setTop (mkF m 13 #[.val (.ref va), .val (.int (0 : Int32)), .val (.ref va), .val (.int (4 : Int32)), .val (.int (0 : Int32)), .unset] [(.int (4 : Int32)), (.int (0 : Int32))])) tt
    refine XS.icmpNo X0.here hx rfl (hb hby d3_13) rfl (tlt ((by decide) : (0 : Int32) < (4 : Int32))).2.1 ?_
    show Steps p.tables e below (s₁.setTop (mkF m 16 #[.val (.ref va), .val (.int (0 : Int32)), .val (.ref va), .val (.int (4 : Int32)), .val (.int (0 : Int32)), .unset] [])) tt
    refine XS.aloadN X0.here hx rfl (hb hby d3_16) rfl rfl ?_
    show Steps p.tables e below (s₁.setTop (mkF m 17 #[.val (.ref va), .val (.int (0 : Int32)), .val (.ref va), .val (.int (4 : Int32)), .val (.int (0 : Int32)), .unset] [(.ref va)])) tt
    refine XS.iload X0.here hx rfl (hb hby d3_17) rfl ?_
    exact kk
  obtain ⟨cl2, Ar2, Sl2⟩ := id V_va
  have hin2 := inA (cl := cl2) Sl2 (j := (0 : Int32)) (by decide) (Nat.le_of_ble_eq_true rfl)
  have hat2 : cl2.slots[((0 : Int32)).toNatClampNeg]? = some (.int x0) := atA Sl2 rfl
  refine Goal.to (B := s₁.setTop (mkF m 25 #[.val (.ref va), .val (.int (0 : Int32)), .val (.ref va), .val (.int (4 : Int32)), .val (.int (0 : Int32)), .val (.int x0)] [(.int (-1 : Int32)), (.int x0)])) (fun tt kk => ?_) ?_
  · show Steps p.tables e below (s₁.setTop (mkF m 19 #[.val (.ref va), .val (.int (0 : Int32)), .val (.ref va), .val (.int (4 : Int32)), .val (.int (0 : Int32)), .unset] [(.int (0 : Int32)), (.ref va)])) tt
    refine X0.iaload hx (j := (0 : Int32)) (v := (.int x0)) (by rw [e0]; exact Ar2.1) (State.isArrayOf_alike hZ.alike Ar2.2.1) Ar2.2.2 hin2 hat2 (g := (mkF m 19 #[.val (.ref va), .val (.int (0 : Int32)), .val (.ref va), .val (.int (4 : Int32)), .val (.int (0 : Int32)), .unset] [(.int (0 : Int32)), (.ref va)])) rfl rfl (hb hby d3_19) _ ?_
    show Steps p.tables e below (s₁.setTop (mkF m 20 #[.val (.ref va), .val (.int (0 : Int32)), .val (.ref va), .val (.int (4 : Int32)), .val (.int (0 : Int32)), .unset] [(.int x0)])) tt
    refine XS.istore X0.here hx rfl (hb hby d3_20) rfl (l' := #[.val (.ref va), .val (.int (0 : Int32)), .val (.ref va), .val (.int (4 : Int32)), .val (.int (0 : Int32)), .val (.int x0)]) rfl ?_
    show Steps p.tables e below (s₁.setTop (mkF m 22 #[.val (.ref va), .val (.int (0 : Int32)), .val (.ref va), .val (.int (4 : Int32)), .val (.int (0 : Int32)), .val (.int x0)] [])) tt
    refine XS.iload X0.here hx rfl (hb hby d3_22) rfl ?_
    show Steps p.tables e below (s₁.setTop (mkF m 24 #[.val (.ref va), .val (.int (0 : Int32)), .val (.ref va), .val (.int (4 : Int32)), .val (.int (0 : Int32)), .val (.int x0)] [(.int x0)])) tt
    refine XS.iconst X0.here hx rfl (hb hby d3_24) ?_
    exact kk
  obtain ⟨w4, hw4⟩ : ∃ z : Int32, z = if x0 = (-1 : Int32) then (0 : Int32) else (1 : Int32) := ⟨_, rfl⟩
  refine Goal.to (B := s₁.setTop (mkF m 31 #[.val (.ref va), .val (.int w4), .val (.ref va), .val (.int (4 : Int32)), .val (.int (0 : Int32)), .val (.int x0)] [])) (fun tt kk => ?_) ?_
  · by_cases hc3 : x0 = (-1 : Int32)
    · have qw4 : w4 = (0 : Int32) := by rw [hw4, if_pos hc3]
      rw [qw4] at kk
      show Steps p.tables e below (s₁.setTop (mkF m 25 #[.val (.ref va), .val (.int (0 : Int32)), .val (.ref va), .val (.int (4 : Int32)), .val (.int (0 : Int32)), .val (.int x0)] [(.int (-1 : Int32)), (.int x0)])) tt
      refine XS.icmpYes X0.here hx rfl (pc0 := 25) (pc' := 31) rfl (hb hby d3_25) rfl (teq hc3).1 (by decide) (by decide) ?_
      exact kk
    · have qw4 : w4 = (1 : Int32) := by rw [hw4, if_neg hc3]
      rw [qw4] at kk
      show Steps p.tables e below (s₁.setTop (mkF m 25 #[.val (.ref va), .val (.int (0 : Int32)), .val (.ref va), .val (.int (4 : Int32)), .val (.int (0 : Int32)), .val (.int x0)] [(.int (-1 : Int32)), (.int x0)])) tt
      refine XS.icmpNo X0.here hx rfl (hb hby d3_25) rfl (feq hc3).1 ?_
      show Steps p.tables e below (s₁.setTop (mkF m 28 #[.val (.ref va), .val (.int (0 : Int32)), .val (.ref va), .val (.int (4 : Int32)), .val (.int (0 : Int32)), .val (.int x0)] [])) tt
      refine XS.iinc X0.here hx rfl (hb hby d3_28) rfl (l' := #[.val (.ref va), .val (.int (1 : Int32)), .val (.ref va), .val (.int (4 : Int32)), .val (.int (0 : Int32)), .val (.int x0)]) rfl ?_
      exact kk
  refine Goal.to (B := s₁.setTop (mkF m 19 #[.val (.ref va), .val (.int w4), .val (.ref va), .val (.int (4 : Int32)), .val (.int (1 : Int32)), .val (.int x0)] [(.int (1 : Int32)), (.ref va)])) (fun tt kk => ?_) ?_
  · show Steps p.tables e below (s₁.setTop (mkF m 31 #[.val (.ref va), .val (.int w4), .val (.ref va), .val (.int (4 : Int32)), .val (.int (0 : Int32)), .val (.int x0)] [])) tt
    refine XS.iinc X0.here hx rfl (hb hby d3_31) rfl (l' := #[.val (.ref va), .val (.int w4), .val (.ref va), .val (.int (4 : Int32)), .val (.int (1 : Int32)), .val (.int x0)]) rfl ?_
    show Steps p.tables e below (s₁.setTop (mkF m 34 #[.val (.ref va), .val (.int w4), .val (.ref va), .val (.int (4 : Int32)), .val (.int (1 : Int32)), .val (.int x0)] [])) tt
    refine XS.goto X0.here hx rfl (pc0 := 34) (pc' := 10) rfl (hb hby d3_34) (by decide) (by decide) ?_
    show Steps p.tables e below (s₁.setTop (mkF m 10 #[.val (.ref va), .val (.int w4), .val (.ref va), .val (.int (4 : Int32)), .val (.int (1 : Int32)), .val (.int x0)] [])) tt
    refine XS.iload X0.here hx rfl (hb hby d3_10) rfl ?_
    show Steps p.tables e below (s₁.setTop (mkF m 12 #[.val (.ref va), .val (.int w4), .val (.ref va), .val (.int (4 : Int32)), .val (.int (1 : Int32)), .val (.int x0)] [(.int (1 : Int32))])) tt
    refine XS.iloadN X0.here hx rfl (hb hby d3_12) rfl ?_
    show Steps p.tables e below (s₁.setTop (mkF m 13 #[.val (.ref va), .val (.int w4), .val (.ref va), .val (.int (4 : Int32)), .val (.int (1 : Int32)), .val (.int x0)] [(.int (4 : Int32)), (.int (1 : Int32))])) tt
    refine XS.icmpNo X0.here hx rfl (hb hby d3_13) rfl (tlt ((by decide) : (1 : Int32) < (4 : Int32))).2.1 ?_
    show Steps p.tables e below (s₁.setTop (mkF m 16 #[.val (.ref va), .val (.int w4), .val (.ref va), .val (.int (4 : Int32)), .val (.int (1 : Int32)), .val (.int x0)] [])) tt
    refine XS.aloadN X0.here hx rfl (hb hby d3_16) rfl rfl ?_
    show Steps p.tables e below (s₁.setTop (mkF m 17 #[.val (.ref va), .val (.int w4), .val (.ref va), .val (.int (4 : Int32)), .val (.int (1 : Int32)), .val (.int x0)] [(.ref va)])) tt
    refine XS.iload X0.here hx rfl (hb hby d3_17) rfl ?_
    exact kk
  obtain ⟨cl5, Ar5, Sl5⟩ := id V_va
  have hin5 := inA (cl := cl5) Sl5 (j := (1 : Int32)) (by decide) (Nat.le_of_ble_eq_true rfl)
  have hat5 : cl5.slots[((1 : Int32)).toNatClampNeg]? = some (.int x1) := atA Sl5 rfl
  refine Goal.to (B := s₁.setTop (mkF m 25 #[.val (.ref va), .val (.int w4), .val (.ref va), .val (.int (4 : Int32)), .val (.int (1 : Int32)), .val (.int x1)] [(.int (-1 : Int32)), (.int x1)])) (fun tt kk => ?_) ?_
  · show Steps p.tables e below (s₁.setTop (mkF m 19 #[.val (.ref va), .val (.int w4), .val (.ref va), .val (.int (4 : Int32)), .val (.int (1 : Int32)), .val (.int x0)] [(.int (1 : Int32)), (.ref va)])) tt
    refine X0.iaload hx (j := (1 : Int32)) (v := (.int x1)) (by rw [e0]; exact Ar5.1) (State.isArrayOf_alike hZ.alike Ar5.2.1) Ar5.2.2 hin5 hat5 (g := (mkF m 19 #[.val (.ref va), .val (.int w4), .val (.ref va), .val (.int (4 : Int32)), .val (.int (1 : Int32)), .val (.int x0)] [(.int (1 : Int32)), (.ref va)])) rfl rfl (hb hby d3_19) _ ?_
    show Steps p.tables e below (s₁.setTop (mkF m 20 #[.val (.ref va), .val (.int w4), .val (.ref va), .val (.int (4 : Int32)), .val (.int (1 : Int32)), .val (.int x0)] [(.int x1)])) tt
    refine XS.istore X0.here hx rfl (hb hby d3_20) rfl (l' := #[.val (.ref va), .val (.int w4), .val (.ref va), .val (.int (4 : Int32)), .val (.int (1 : Int32)), .val (.int x1)]) rfl ?_
    show Steps p.tables e below (s₁.setTop (mkF m 22 #[.val (.ref va), .val (.int w4), .val (.ref va), .val (.int (4 : Int32)), .val (.int (1 : Int32)), .val (.int x1)] [])) tt
    refine XS.iload X0.here hx rfl (hb hby d3_22) rfl ?_
    show Steps p.tables e below (s₁.setTop (mkF m 24 #[.val (.ref va), .val (.int w4), .val (.ref va), .val (.int (4 : Int32)), .val (.int (1 : Int32)), .val (.int x1)] [(.int x1)])) tt
    refine XS.iconst X0.here hx rfl (hb hby d3_24) ?_
    exact kk
  obtain ⟨w7, hw7⟩ : ∃ z : Int32, z = if x1 = (-1 : Int32) then w4 else (w4 + (1 : Int32)) := ⟨_, rfl⟩
  refine Goal.to (B := s₁.setTop (mkF m 31 #[.val (.ref va), .val (.int w7), .val (.ref va), .val (.int (4 : Int32)), .val (.int (1 : Int32)), .val (.int x1)] [])) (fun tt kk => ?_) ?_
  · by_cases hc6 : x1 = (-1 : Int32)
    · have qw7 : w7 = w4 := by rw [hw7, if_pos hc6]
      rw [qw7] at kk
      show Steps p.tables e below (s₁.setTop (mkF m 25 #[.val (.ref va), .val (.int w4), .val (.ref va), .val (.int (4 : Int32)), .val (.int (1 : Int32)), .val (.int x1)] [(.int (-1 : Int32)), (.int x1)])) tt
      refine XS.icmpYes X0.here hx rfl (pc0 := 25) (pc' := 31) rfl (hb hby d3_25) rfl (teq hc6).1 (by decide) (by decide) ?_
      exact kk
    · have qw7 : w7 = (w4 + (1 : Int32)) := by rw [hw7, if_neg hc6]
      rw [qw7] at kk
      show Steps p.tables e below (s₁.setTop (mkF m 25 #[.val (.ref va), .val (.int w4), .val (.ref va), .val (.int (4 : Int32)), .val (.int (1 : Int32)), .val (.int x1)] [(.int (-1 : Int32)), (.int x1)])) tt
      refine XS.icmpNo X0.here hx rfl (hb hby d3_25) rfl (feq hc6).1 ?_
      show Steps p.tables e below (s₁.setTop (mkF m 28 #[.val (.ref va), .val (.int w4), .val (.ref va), .val (.int (4 : Int32)), .val (.int (1 : Int32)), .val (.int x1)] [])) tt
      refine XS.iinc X0.here hx rfl (hb hby d3_28) rfl (l' := #[.val (.ref va), .val (.int (w4 + (1 : Int32))), .val (.ref va), .val (.int (4 : Int32)), .val (.int (1 : Int32)), .val (.int x1)]) rfl ?_
      exact kk
  refine Goal.to (B := s₁.setTop (mkF m 19 #[.val (.ref va), .val (.int w7), .val (.ref va), .val (.int (4 : Int32)), .val (.int (2 : Int32)), .val (.int x1)] [(.int (2 : Int32)), (.ref va)])) (fun tt kk => ?_) ?_
  · show Steps p.tables e below (s₁.setTop (mkF m 31 #[.val (.ref va), .val (.int w7), .val (.ref va), .val (.int (4 : Int32)), .val (.int (1 : Int32)), .val (.int x1)] [])) tt
    refine XS.iinc X0.here hx rfl (hb hby d3_31) rfl (l' := #[.val (.ref va), .val (.int w7), .val (.ref va), .val (.int (4 : Int32)), .val (.int (2 : Int32)), .val (.int x1)]) rfl ?_
    show Steps p.tables e below (s₁.setTop (mkF m 34 #[.val (.ref va), .val (.int w7), .val (.ref va), .val (.int (4 : Int32)), .val (.int (2 : Int32)), .val (.int x1)] [])) tt
    refine XS.goto X0.here hx rfl (pc0 := 34) (pc' := 10) rfl (hb hby d3_34) (by decide) (by decide) ?_
    show Steps p.tables e below (s₁.setTop (mkF m 10 #[.val (.ref va), .val (.int w7), .val (.ref va), .val (.int (4 : Int32)), .val (.int (2 : Int32)), .val (.int x1)] [])) tt
    refine XS.iload X0.here hx rfl (hb hby d3_10) rfl ?_
    show Steps p.tables e below (s₁.setTop (mkF m 12 #[.val (.ref va), .val (.int w7), .val (.ref va), .val (.int (4 : Int32)), .val (.int (2 : Int32)), .val (.int x1)] [(.int (2 : Int32))])) tt
    refine XS.iloadN X0.here hx rfl (hb hby d3_12) rfl ?_
    show Steps p.tables e below (s₁.setTop (mkF m 13 #[.val (.ref va), .val (.int w7), .val (.ref va), .val (.int (4 : Int32)), .val (.int (2 : Int32)), .val (.int x1)] [(.int (4 : Int32)), (.int (2 : Int32))])) tt
    refine XS.icmpNo X0.here hx rfl (hb hby d3_13) rfl (tlt ((by decide) : (2 : Int32) < (4 : Int32))).2.1 ?_
    show Steps p.tables e below (s₁.setTop (mkF m 16 #[.val (.ref va), .val (.int w7), .val (.ref va), .val (.int (4 : Int32)), .val (.int (2 : Int32)), .val (.int x1)] [])) tt
    refine XS.aloadN X0.here hx rfl (hb hby d3_16) rfl rfl ?_
    show Steps p.tables e below (s₁.setTop (mkF m 17 #[.val (.ref va), .val (.int w7), .val (.ref va), .val (.int (4 : Int32)), .val (.int (2 : Int32)), .val (.int x1)] [(.ref va)])) tt
    refine XS.iload X0.here hx rfl (hb hby d3_17) rfl ?_
    exact kk
  obtain ⟨cl8, Ar8, Sl8⟩ := id V_va
  have hin8 := inA (cl := cl8) Sl8 (j := (2 : Int32)) (by decide) (Nat.le_of_ble_eq_true rfl)
  have hat8 : cl8.slots[((2 : Int32)).toNatClampNeg]? = some (.int x2) := atA Sl8 rfl
  refine Goal.to (B := s₁.setTop (mkF m 25 #[.val (.ref va), .val (.int w7), .val (.ref va), .val (.int (4 : Int32)), .val (.int (2 : Int32)), .val (.int x2)] [(.int (-1 : Int32)), (.int x2)])) (fun tt kk => ?_) ?_
  · show Steps p.tables e below (s₁.setTop (mkF m 19 #[.val (.ref va), .val (.int w7), .val (.ref va), .val (.int (4 : Int32)), .val (.int (2 : Int32)), .val (.int x1)] [(.int (2 : Int32)), (.ref va)])) tt
    refine X0.iaload hx (j := (2 : Int32)) (v := (.int x2)) (by rw [e0]; exact Ar8.1) (State.isArrayOf_alike hZ.alike Ar8.2.1) Ar8.2.2 hin8 hat8 (g := (mkF m 19 #[.val (.ref va), .val (.int w7), .val (.ref va), .val (.int (4 : Int32)), .val (.int (2 : Int32)), .val (.int x1)] [(.int (2 : Int32)), (.ref va)])) rfl rfl (hb hby d3_19) _ ?_
    show Steps p.tables e below (s₁.setTop (mkF m 20 #[.val (.ref va), .val (.int w7), .val (.ref va), .val (.int (4 : Int32)), .val (.int (2 : Int32)), .val (.int x1)] [(.int x2)])) tt
    refine XS.istore X0.here hx rfl (hb hby d3_20) rfl (l' := #[.val (.ref va), .val (.int w7), .val (.ref va), .val (.int (4 : Int32)), .val (.int (2 : Int32)), .val (.int x2)]) rfl ?_
    show Steps p.tables e below (s₁.setTop (mkF m 22 #[.val (.ref va), .val (.int w7), .val (.ref va), .val (.int (4 : Int32)), .val (.int (2 : Int32)), .val (.int x2)] [])) tt
    refine XS.iload X0.here hx rfl (hb hby d3_22) rfl ?_
    show Steps p.tables e below (s₁.setTop (mkF m 24 #[.val (.ref va), .val (.int w7), .val (.ref va), .val (.int (4 : Int32)), .val (.int (2 : Int32)), .val (.int x2)] [(.int x2)])) tt
    refine XS.iconst X0.here hx rfl (hb hby d3_24) ?_
    exact kk
  obtain ⟨w10, hw10⟩ : ∃ z : Int32, z = if x2 = (-1 : Int32) then w7 else (w7 + (1 : Int32)) := ⟨_, rfl⟩
  refine Goal.to (B := s₁.setTop (mkF m 31 #[.val (.ref va), .val (.int w10), .val (.ref va), .val (.int (4 : Int32)), .val (.int (2 : Int32)), .val (.int x2)] [])) (fun tt kk => ?_) ?_
  · by_cases hc9 : x2 = (-1 : Int32)
    · have qw10 : w10 = w7 := by rw [hw10, if_pos hc9]
      rw [qw10] at kk
      show Steps p.tables e below (s₁.setTop (mkF m 25 #[.val (.ref va), .val (.int w7), .val (.ref va), .val (.int (4 : Int32)), .val (.int (2 : Int32)), .val (.int x2)] [(.int (-1 : Int32)), (.int x2)])) tt
      refine XS.icmpYes X0.here hx rfl (pc0 := 25) (pc' := 31) rfl (hb hby d3_25) rfl (teq hc9).1 (by decide) (by decide) ?_
      exact kk
    · have qw10 : w10 = (w7 + (1 : Int32)) := by rw [hw10, if_neg hc9]
      rw [qw10] at kk
      show Steps p.tables e below (s₁.setTop (mkF m 25 #[.val (.ref va), .val (.int w7), .val (.ref va), .val (.int (4 : Int32)), .val (.int (2 : Int32)), .val (.int x2)] [(.int (-1 : Int32)), (.int x2)])) tt
      refine XS.icmpNo X0.here hx rfl (hb hby d3_25) rfl (feq hc9).1 ?_
      show Steps p.tables e below (s₁.setTop (mkF m 28 #[.val (.ref va), .val (.int w7), .val (.ref va), .val (.int (4 : Int32)), .val (.int (2 : Int32)), .val (.int x2)] [])) tt
      refine XS.iinc X0.here hx rfl (hb hby d3_28) rfl (l' := #[.val (.ref va), .val (.int (w7 + (1 : Int32))), .val (.ref va), .val (.int (4 : Int32)), .val (.int (2 : Int32)), .val (.int x2)]) rfl ?_
      exact kk
  refine Goal.to (B := s₁.setTop (mkF m 19 #[.val (.ref va), .val (.int w10), .val (.ref va), .val (.int (4 : Int32)), .val (.int (3 : Int32)), .val (.int x2)] [(.int (3 : Int32)), (.ref va)])) (fun tt kk => ?_) ?_
  · show Steps p.tables e below (s₁.setTop (mkF m 31 #[.val (.ref va), .val (.int w10), .val (.ref va), .val (.int (4 : Int32)), .val (.int (2 : Int32)), .val (.int x2)] [])) tt
    refine XS.iinc X0.here hx rfl (hb hby d3_31) rfl (l' := #[.val (.ref va), .val (.int w10), .val (.ref va), .val (.int (4 : Int32)), .val (.int (3 : Int32)), .val (.int x2)]) rfl ?_
    show Steps p.tables e below (s₁.setTop (mkF m 34 #[.val (.ref va), .val (.int w10), .val (.ref va), .val (.int (4 : Int32)), .val (.int (3 : Int32)), .val (.int x2)] [])) tt
    refine XS.goto X0.here hx rfl (pc0 := 34) (pc' := 10) rfl (hb hby d3_34) (by decide) (by decide) ?_
    show Steps p.tables e below (s₁.setTop (mkF m 10 #[.val (.ref va), .val (.int w10), .val (.ref va), .val (.int (4 : Int32)), .val (.int (3 : Int32)), .val (.int x2)] [])) tt
    refine XS.iload X0.here hx rfl (hb hby d3_10) rfl ?_
    show Steps p.tables e below (s₁.setTop (mkF m 12 #[.val (.ref va), .val (.int w10), .val (.ref va), .val (.int (4 : Int32)), .val (.int (3 : Int32)), .val (.int x2)] [(.int (3 : Int32))])) tt
    refine XS.iloadN X0.here hx rfl (hb hby d3_12) rfl ?_
    show Steps p.tables e below (s₁.setTop (mkF m 13 #[.val (.ref va), .val (.int w10), .val (.ref va), .val (.int (4 : Int32)), .val (.int (3 : Int32)), .val (.int x2)] [(.int (4 : Int32)), (.int (3 : Int32))])) tt
    refine XS.icmpNo X0.here hx rfl (hb hby d3_13) rfl (tlt ((by decide) : (3 : Int32) < (4 : Int32))).2.1 ?_
    show Steps p.tables e below (s₁.setTop (mkF m 16 #[.val (.ref va), .val (.int w10), .val (.ref va), .val (.int (4 : Int32)), .val (.int (3 : Int32)), .val (.int x2)] [])) tt
    refine XS.aloadN X0.here hx rfl (hb hby d3_16) rfl rfl ?_
    show Steps p.tables e below (s₁.setTop (mkF m 17 #[.val (.ref va), .val (.int w10), .val (.ref va), .val (.int (4 : Int32)), .val (.int (3 : Int32)), .val (.int x2)] [(.ref va)])) tt
    refine XS.iload X0.here hx rfl (hb hby d3_17) rfl ?_
    exact kk
  obtain ⟨cl11, Ar11, Sl11⟩ := id V_va
  have hin11 := inA (cl := cl11) Sl11 (j := (3 : Int32)) (by decide) (Nat.le_of_ble_eq_true rfl)
  have hat11 : cl11.slots[((3 : Int32)).toNatClampNeg]? = some (.int x3) := atA Sl11 rfl
  refine Goal.to (B := s₁.setTop (mkF m 25 #[.val (.ref va), .val (.int w10), .val (.ref va), .val (.int (4 : Int32)), .val (.int (3 : Int32)), .val (.int x3)] [(.int (-1 : Int32)), (.int x3)])) (fun tt kk => ?_) ?_
  · show Steps p.tables e below (s₁.setTop (mkF m 19 #[.val (.ref va), .val (.int w10), .val (.ref va), .val (.int (4 : Int32)), .val (.int (3 : Int32)), .val (.int x2)] [(.int (3 : Int32)), (.ref va)])) tt
    refine X0.iaload hx (j := (3 : Int32)) (v := (.int x3)) (by rw [e0]; exact Ar11.1) (State.isArrayOf_alike hZ.alike Ar11.2.1) Ar11.2.2 hin11 hat11 (g := (mkF m 19 #[.val (.ref va), .val (.int w10), .val (.ref va), .val (.int (4 : Int32)), .val (.int (3 : Int32)), .val (.int x2)] [(.int (3 : Int32)), (.ref va)])) rfl rfl (hb hby d3_19) _ ?_
    show Steps p.tables e below (s₁.setTop (mkF m 20 #[.val (.ref va), .val (.int w10), .val (.ref va), .val (.int (4 : Int32)), .val (.int (3 : Int32)), .val (.int x2)] [(.int x3)])) tt
    refine XS.istore X0.here hx rfl (hb hby d3_20) rfl (l' := #[.val (.ref va), .val (.int w10), .val (.ref va), .val (.int (4 : Int32)), .val (.int (3 : Int32)), .val (.int x3)]) rfl ?_
    show Steps p.tables e below (s₁.setTop (mkF m 22 #[.val (.ref va), .val (.int w10), .val (.ref va), .val (.int (4 : Int32)), .val (.int (3 : Int32)), .val (.int x3)] [])) tt
    refine XS.iload X0.here hx rfl (hb hby d3_22) rfl ?_
    show Steps p.tables e below (s₁.setTop (mkF m 24 #[.val (.ref va), .val (.int w10), .val (.ref va), .val (.int (4 : Int32)), .val (.int (3 : Int32)), .val (.int x3)] [(.int x3)])) tt
    refine XS.iconst X0.here hx rfl (hb hby d3_24) ?_
    exact kk
  obtain ⟨w13, hw13⟩ : ∃ z : Int32, z = if x3 = (-1 : Int32) then w10 else (w10 + (1 : Int32)) := ⟨_, rfl⟩
  refine Goal.to (B := s₁.setTop (mkF m 31 #[.val (.ref va), .val (.int w13), .val (.ref va), .val (.int (4 : Int32)), .val (.int (3 : Int32)), .val (.int x3)] [])) (fun tt kk => ?_) ?_
  · by_cases hc12 : x3 = (-1 : Int32)
    · have qw13 : w13 = w10 := by rw [hw13, if_pos hc12]
      rw [qw13] at kk
      show Steps p.tables e below (s₁.setTop (mkF m 25 #[.val (.ref va), .val (.int w10), .val (.ref va), .val (.int (4 : Int32)), .val (.int (3 : Int32)), .val (.int x3)] [(.int (-1 : Int32)), (.int x3)])) tt
      refine XS.icmpYes X0.here hx rfl (pc0 := 25) (pc' := 31) rfl (hb hby d3_25) rfl (teq hc12).1 (by decide) (by decide) ?_
      exact kk
    · have qw13 : w13 = (w10 + (1 : Int32)) := by rw [hw13, if_neg hc12]
      rw [qw13] at kk
      show Steps p.tables e below (s₁.setTop (mkF m 25 #[.val (.ref va), .val (.int w10), .val (.ref va), .val (.int (4 : Int32)), .val (.int (3 : Int32)), .val (.int x3)] [(.int (-1 : Int32)), (.int x3)])) tt
      refine XS.icmpNo X0.here hx rfl (hb hby d3_25) rfl (feq hc12).1 ?_
      show Steps p.tables e below (s₁.setTop (mkF m 28 #[.val (.ref va), .val (.int w10), .val (.ref va), .val (.int (4 : Int32)), .val (.int (3 : Int32)), .val (.int x3)] [])) tt
      refine XS.iinc X0.here hx rfl (hb hby d3_28) rfl (l' := #[.val (.ref va), .val (.int (w10 + (1 : Int32))), .val (.ref va), .val (.int (4 : Int32)), .val (.int (3 : Int32)), .val (.int x3)]) rfl ?_
      exact kk
  refine Goal.to (B := s₁.setTop (mkF m 38 #[.val (.ref va), .val (.int w13), .val (.ref va), .val (.int (4 : Int32)), .val (.int (4 : Int32)), .val (.int x3)] [(.int w13)])) (fun tt kk => ?_) ?_
  · show Steps p.tables e below (s₁.setTop (mkF m 31 #[.val (.ref va), .val (.int w13), .val (.ref va), .val (.int (4 : Int32)), .val (.int (3 : Int32)), .val (.int x3)] [])) tt
    refine XS.iinc X0.here hx rfl (hb hby d3_31) rfl (l' := #[.val (.ref va), .val (.int w13), .val (.ref va), .val (.int (4 : Int32)), .val (.int (4 : Int32)), .val (.int x3)]) rfl ?_
    show Steps p.tables e below (s₁.setTop (mkF m 34 #[.val (.ref va), .val (.int w13), .val (.ref va), .val (.int (4 : Int32)), .val (.int (4 : Int32)), .val (.int x3)] [])) tt
    refine XS.goto X0.here hx rfl (pc0 := 34) (pc' := 10) rfl (hb hby d3_34) (by decide) (by decide) ?_
    show Steps p.tables e below (s₁.setTop (mkF m 10 #[.val (.ref va), .val (.int w13), .val (.ref va), .val (.int (4 : Int32)), .val (.int (4 : Int32)), .val (.int x3)] [])) tt
    refine XS.iload X0.here hx rfl (hb hby d3_10) rfl ?_
    show Steps p.tables e below (s₁.setTop (mkF m 12 #[.val (.ref va), .val (.int w13), .val (.ref va), .val (.int (4 : Int32)), .val (.int (4 : Int32)), .val (.int x3)] [(.int (4 : Int32))])) tt
    refine XS.iloadN X0.here hx rfl (hb hby d3_12) rfl ?_
    show Steps p.tables e below (s₁.setTop (mkF m 13 #[.val (.ref va), .val (.int w13), .val (.ref va), .val (.int (4 : Int32)), .val (.int (4 : Int32)), .val (.int x3)] [(.int (4 : Int32)), (.int (4 : Int32))])) tt
    refine XS.icmpYes X0.here hx rfl (pc0 := 13) (pc' := 37) rfl (hb hby d3_13) rfl (flt (Int32.lt_irrefl : ¬ ((4 : Int32) < (4 : Int32)))).2.1 (by decide) (by decide) ?_
    show Steps p.tables e below (s₁.setTop (mkF m 37 #[.val (.ref va), .val (.int w13), .val (.ref va), .val (.int (4 : Int32)), .val (.int (4 : Int32)), .val (.int x3)] [])) tt
    refine XS.iloadN X0.here hx rfl (hb hby d3_37) rfl ?_
    exact kk
  exact Goal.retV X0 hx Bd.returns rfl (Or.inl ⟨rfl, Or.inl rfl, _, rfl⟩) (hb hby d3_38) hlk e0 ⟨(congrArg some (by rw [hw13, hw10, hw7, hw4]; rfl : ((.int w13) : Value) = (.int (own_add (own_add (own_add (own_add (0 : Int32) x0) x1) x2) x3)))), N0, rfl⟩ (by decide) (by decide)
def Qr5 (Z : State) (va : Addr) (x0 : Int32) (x1 : Int32) (x2 : Int32) (x3 : Int32) (x4 : Int32) (h0 : Heap) (n0 : Nat) (v : Option Value) (h : Heap) (L : List Loc) : Prop := v = some (.int (own_add (own_add (own_add (own_add (own_add (0 : Int32) x0) x1) x2) x3) x4)) ∧ Fr n0 L ∧ h = h0
set_option maxRecDepth 65536 in
set_option maxHeartbeats 40000000 in
theorem rmr5 (l : Launch) (Z : State) (a0 : Array Value) (hw : ∀ d ∈ tables_1, d.before a0 Z = true) (ws : List Jvm.Cond) (va : Addr) (x0 : Int32) (x1 : Int32) (x2 : Int32) (x3 : Int32) (x4 : Int32) (h0 : Heap) (n0 : Nat) (Z0 : n0 ≤ h0.size) (V_va : Ary Z h0 va .int [(.int x0), (.int x1), (.int x2), (.int x3), (.int x4)]) :
    MetFree l (⟨"com/example/purloin/runner/Pdfs", "reached", "([I)I"⟩ : MethodName) (head1 (Jvm.Cond.code (⟨"com/example/purloin/runner/Pdfs", "reached", "([I)I"⟩ : MethodName) prog_100_method_9_code 6 (some .int) :: ws) ({ frames := 0, cells := 0, slots := 0, locals := 0 } : Room)) (fun a U => a = #[(.ref va)] ∧ Z.Warmed39 U.vm ∧ U.heap = h0) (fun _ _ _ _ _ => True) (fun _ U o U' => ∃ v L, o = .returned v ∧ Qr5 Z va x0 x1 x2 x3 x4 h0 n0 v U'.heap L ∧ FrameEnd U o U' L 0 0) := by
  refine MetFree.of_bodySF (plainFor_of_name pn_3) hisR ?_
  intro p e s m args below meth c s₁ Bd hml0 hP hK
  obtain ⟨rfl, hZ, hh⟩ := hP
  have hx := Bd.exec
  have hby := Bd.bytes
  have hml : c.maxLocals = 6 := hml0
  have hown : s.vm.findClass "com/example/purloin/runner/Pdfs" = some m.cls := findClass_of_methodNamed Bd.named
  have hnm := (name_of_methodNamed Bd.named Bd.method).1
  have X0 : Stand p l e ({ frames := 0, cells := 0, slots := 0, locals := 0 } : Room) s m #[(.ref va)] below meth c s₁ [] 0 0 := Stand.of_body Bd
  have e0 : s₁.heap = h0 := by rw [← hh, Bd.state]; rfl
  have N0 := Fr.nil n0
  have hlk : meth.locks = false := BodyLoose.notSynchronized Bd
  show Goal p e below s (Qr5 Z va x0 x1 x2 x3 x4 h0 n0) 0 0 (s₁.setTop (entryFrame m #[(.ref va)] 6))
  refine Goal.to (B := s₁.setTop (mkF m 0 #[.val (.ref va), .unset, .unset, .unset, .unset, .unset] [])) (fun tt kk => castTop (ef_3 m va ) kk) ?_
  refine Goal.to (B := s₁.setTop (mkF m 5 #[.val (.ref va), .val (.int (0 : Int32)), .val (.ref va), .unset, .unset, .unset] [(.ref va)])) (fun tt kk => ?_) ?_
  · show Steps p.tables e below (s₁.setTop (mkF m 0 #[.val (.ref va), .unset, .unset, .unset, .unset, .unset] [])) tt
    refine XS.iconst X0.here hx rfl (hb hby d3_0) ?_
    show Steps p.tables e below (s₁.setTop (mkF m 1 #[.val (.ref va), .unset, .unset, .unset, .unset, .unset] [(.int (0 : Int32))])) tt
    refine XS.istoreN X0.here hx rfl (hb hby d3_1) rfl (l' := #[.val (.ref va), .val (.int (0 : Int32)), .unset, .unset, .unset, .unset]) rfl ?_
    show Steps p.tables e below (s₁.setTop (mkF m 2 #[.val (.ref va), .val (.int (0 : Int32)), .unset, .unset, .unset, .unset] [])) tt
    refine XS.aloadN X0.here hx rfl (hb hby d3_2) rfl rfl ?_
    show Steps p.tables e below (s₁.setTop (mkF m 3 #[.val (.ref va), .val (.int (0 : Int32)), .unset, .unset, .unset, .unset] [(.ref va)])) tt
    refine XS.astoreN X0.here hx rfl (hb hby d3_3) rfl rfl (l' := #[.val (.ref va), .val (.int (0 : Int32)), .val (.ref va), .unset, .unset, .unset]) rfl ?_
    show Steps p.tables e below (s₁.setTop (mkF m 4 #[.val (.ref va), .val (.int (0 : Int32)), .val (.ref va), .unset, .unset, .unset] [])) tt
    refine XS.aloadN X0.here hx rfl (hb hby d3_4) rfl rfl ?_
    exact kk
  obtain ⟨cl1, Ar1, Sl1⟩ := id V_va
  have ln1 : cl1.slots.size.toInt32 = (5 : Int32) := lenA Sl1 rfl
  refine Goal.to (B := s₁.setTop (mkF m 19 #[.val (.ref va), .val (.int (0 : Int32)), .val (.ref va), .val (.int (5 : Int32)), .val (.int (0 : Int32)), .unset] [(.int (0 : Int32)), (.ref va)])) (fun tt kk => ?_) ?_
  · show Steps p.tables e below (s₁.setTop (mkF m 5 #[.val (.ref va), .val (.int (0 : Int32)), .val (.ref va), .unset, .unset, .unset] [(.ref va)])) tt
    refine X0.arraylength hx (by rw [e0]; exact Ar1.1) (State.isArrayOf_alike hZ.alike Ar1.2.1) (g := (mkF m 5 #[.val (.ref va), .val (.int (0 : Int32)), .val (.ref va), .unset, .unset, .unset] [(.ref va)])) rfl rfl (hb hby d3_5) _ ?_
    rw [ln1]
    show Steps p.tables e below (s₁.setTop (mkF m 6 #[.val (.ref va), .val (.int (0 : Int32)), .val (.ref va), .unset, .unset, .unset] [(.int (5 : Int32))])) tt
    refine XS.istoreN X0.here hx rfl (hb hby d3_6) rfl (l' := #[.val (.ref va), .val (.int (0 : Int32)), .val (.ref va), .val (.int (5 : Int32)), .unset, .unset]) rfl ?_
    show Steps p.tables e below (s₁.setTop (mkF m 7 #[.val (.ref va), .val (.int (0 : Int32)), .val (.ref va), .val (.int (5 : Int32)), .unset, .unset] [])) tt
    refine XS.iconst X0.here hx rfl (hb hby d3_7) ?_
    show Steps p.tables e below (s₁.setTop (mkF m 8 #[.val (.ref va), .val (.int (0 : Int32)), .val (.ref va), .val (.int (5 : Int32)), .unset, .unset] [(.int (0 : Int32))])) tt
    refine XS.istore X0.here hx rfl (hb hby d3_8) rfl (l' := #[.val (.ref va), .val (.int (0 : Int32)), .val (.ref va), .val (.int (5 : Int32)), .val (.int (0 : Int32)), .unset]) rfl ?_
    show Steps p.tables e below (s₁.setTop (mkF m 10 #[.val (.ref va), .val (.int (0 : Int32)), .val (.ref va), .val (.int (5 : Int32)), .val (.int (0 : Int32)), .unset] [])) tt
    refine XS.iload X0.here hx rfl (hb hby d3_10) rfl ?_
    show Steps p.tables e below (s₁.setTop (mkF m 12 #[.val (.ref va), .val (.int (0 : Int32)), .val (.ref va), .val (.int (5 : Int32)), .val (.int (0 : Int32)), .unset] [(.int (0 : Int32))])) tt
    refine XS.iloadN X0.here hx rfl (hb hby d3_12) rfl ?_
    show Steps p.tables e below (s₁.setTop (mkF m 13 #[.val (.ref va), .val (.int (0 : Int32)), .val (.ref va), .val (.int (5 : Int32)), .val (.int (0 : Int32)), .unset] [(.int (5 : Int32)), (.int (0 : Int32))])) tt
    refine XS.icmpNo X0.here hx rfl (hb hby d3_13) rfl (tlt ((by decide) : (0 : Int32) < (5 : Int32))).2.1 ?_
    show Steps p.tables e below (s₁.setTop (mkF m 16 #[.val (.ref va), .val (.int (0 : Int32)), .val (.ref va), .val (.int (5 : Int32)), .val (.int (0 : Int32)), .unset] [])) tt
    refine XS.aloadN X0.here hx rfl (hb hby d3_16) rfl rfl ?_
    show Steps p.tables e below (s₁.setTop (mkF m 17 #[.val (.ref va), .val (.int (0 : Int32)), .val (.ref va), .val (.int (5 : Int32)), .val (.int (0 : Int32)), .unset] [(.ref va)])) tt
    refine XS.iload X0.here hx rfl (hb hby d3_17) rfl ?_
    exact kk
  obtain ⟨cl2, Ar2, Sl2⟩ := id V_va
  have hin2 := inA (cl := cl2) Sl2 (j := (0 : Int32)) (by decide) (Nat.le_of_ble_eq_true rfl)
  have hat2 : cl2.slots[((0 : Int32)).toNatClampNeg]? = some (.int x0) := atA Sl2 rfl
  refine Goal.to (B := s₁.setTop (mkF m 25 #[.val (.ref va), .val (.int (0 : Int32)), .val (.ref va), .val (.int (5 : Int32)), .val (.int (0 : Int32)), .val (.int x0)] [(.int (-1 : Int32)), (.int x0)])) (fun tt kk => ?_) ?_
  · show Steps p.tables e below (s₁.setTop (mkF m 19 #[.val (.ref va), .val (.int (0 : Int32)), .val (.ref va), .val (.int (5 : Int32)), .val (.int (0 : Int32)), .unset] [(.int (0 : Int32)), (.ref va)])) tt
    refine X0.iaload hx (j := (0 : Int32)) (v := (.int x0)) (by rw [e0]; exact Ar2.1) (State.isArrayOf_alike hZ.alike Ar2.2.1) Ar2.2.2 hin2 hat2 (g := (mkF m 19 #[.val (.ref va), .val (.int (0 : Int32)), .val (.ref va), .val (.int (5 : Int32)), .val (.int (0 : Int32)), .unset] [(.int (0 : Int32)), (.ref va)])) rfl rfl (hb hby d3_19) _ ?_
    show Steps p.tables e below (s₁.setTop (mkF m 20 #[.val (.ref va), .val (.int (0 : Int32)), .val (.ref va), .val (.int (5 : Int32)), .val (.int (0 : Int32)), .unset] [(.int x0)])) tt
    refine XS.istore X0.here hx rfl (hb hby d3_20) rfl (l' := #[.val (.ref va), .val (.int (0 : Int32)), .val (.ref va), .val (.int (5 : Int32)), .val (.int (0 : Int32)), .val (.int x0)]) rfl ?_
    show Steps p.tables e below (s₁.setTop (mkF m 22 #[.val (.ref va), .val (.int (0 : Int32)), .val (.ref va), .val (.int (5 : Int32)), .val (.int (0 : Int32)), .val (.int x0)] [])) tt
    refine XS.iload X0.here hx rfl (hb hby d3_22) rfl ?_
    show Steps p.tables e below (s₁.setTop (mkF m 24 #[.val (.ref va), .val (.int (0 : Int32)), .val (.ref va), .val (.int (5 : Int32)), .val (.int (0 : Int32)), .val (.int x0)] [(.int x0)])) tt
    refine XS.iconst X0.here hx rfl (hb hby d3_24) ?_
    exact kk
  obtain ⟨w4, hw4⟩ : ∃ z : Int32, z = if x0 = (-1 : Int32) then (0 : Int32) else (1 : Int32) := ⟨_, rfl⟩
  refine Goal.to (B := s₁.setTop (mkF m 31 #[.val (.ref va), .val (.int w4), .val (.ref va), .val (.int (5 : Int32)), .val (.int (0 : Int32)), .val (.int x0)] [])) (fun tt kk => ?_) ?_
  · by_cases hc3 : x0 = (-1 : Int32)
    · have qw4 : w4 = (0 : Int32) := by rw [hw4, if_pos hc3]
      rw [qw4] at kk
      show Steps p.tables e below (s₁.setTop (mkF m 25 #[.val (.ref va), .val (.int (0 : Int32)), .val (.ref va), .val (.int (5 : Int32)), .val (.int (0 : Int32)), .val (.int x0)] [(.int (-1 : Int32)), (.int x0)])) tt
      refine XS.icmpYes X0.here hx rfl (pc0 := 25) (pc' := 31) rfl (hb hby d3_25) rfl (teq hc3).1 (by decide) (by decide) ?_
      exact kk
    · have qw4 : w4 = (1 : Int32) := by rw [hw4, if_neg hc3]
      rw [qw4] at kk
      show Steps p.tables e below (s₁.setTop (mkF m 25 #[.val (.ref va), .val (.int (0 : Int32)), .val (.ref va), .val (.int (5 : Int32)), .val (.int (0 : Int32)), .val (.int x0)] [(.int (-1 : Int32)), (.int x0)])) tt
      refine XS.icmpNo X0.here hx rfl (hb hby d3_25) rfl (feq hc3).1 ?_
      show Steps p.tables e below (s₁.setTop (mkF m 28 #[.val (.ref va), .val (.int (0 : Int32)), .val (.ref va), .val (.int (5 : Int32)), .val (.int (0 : Int32)), .val (.int x0)] [])) tt
      refine XS.iinc X0.here hx rfl (hb hby d3_28) rfl (l' := #[.val (.ref va), .val (.int (1 : Int32)), .val (.ref va), .val (.int (5 : Int32)), .val (.int (0 : Int32)), .val (.int x0)]) rfl ?_
      exact kk
  refine Goal.to (B := s₁.setTop (mkF m 19 #[.val (.ref va), .val (.int w4), .val (.ref va), .val (.int (5 : Int32)), .val (.int (1 : Int32)), .val (.int x0)] [(.int (1 : Int32)), (.ref va)])) (fun tt kk => ?_) ?_
  · show Steps p.tables e below (s₁.setTop (mkF m 31 #[.val (.ref va), .val (.int w4), .val (.ref va), .val (.int (5 : Int32)), .val (.int (0 : Int32)), .val (.int x0)] [])) tt
    refine XS.iinc X0.here hx rfl (hb hby d3_31) rfl (l' := #[.val (.ref va), .val (.int w4), .val (.ref va), .val (.int (5 : Int32)), .val (.int (1 : Int32)), .val (.int x0)]) rfl ?_
    show Steps p.tables e below (s₁.setTop (mkF m 34 #[.val (.ref va), .val (.int w4), .val (.ref va), .val (.int (5 : Int32)), .val (.int (1 : Int32)), .val (.int x0)] [])) tt
    refine XS.goto X0.here hx rfl (pc0 := 34) (pc' := 10) rfl (hb hby d3_34) (by decide) (by decide) ?_
    show Steps p.tables e below (s₁.setTop (mkF m 10 #[.val (.ref va), .val (.int w4), .val (.ref va), .val (.int (5 : Int32)), .val (.int (1 : Int32)), .val (.int x0)] [])) tt
    refine XS.iload X0.here hx rfl (hb hby d3_10) rfl ?_
    show Steps p.tables e below (s₁.setTop (mkF m 12 #[.val (.ref va), .val (.int w4), .val (.ref va), .val (.int (5 : Int32)), .val (.int (1 : Int32)), .val (.int x0)] [(.int (1 : Int32))])) tt
    refine XS.iloadN X0.here hx rfl (hb hby d3_12) rfl ?_
    show Steps p.tables e below (s₁.setTop (mkF m 13 #[.val (.ref va), .val (.int w4), .val (.ref va), .val (.int (5 : Int32)), .val (.int (1 : Int32)), .val (.int x0)] [(.int (5 : Int32)), (.int (1 : Int32))])) tt
    refine XS.icmpNo X0.here hx rfl (hb hby d3_13) rfl (tlt ((by decide) : (1 : Int32) < (5 : Int32))).2.1 ?_
    show Steps p.tables e below (s₁.setTop (mkF m 16 #[.val (.ref va), .val (.int w4), .val (.ref va), .val (.int (5 : Int32)), .val (.int (1 : Int32)), .val (.int x0)] [])) tt
    refine XS.aloadN X0.here hx rfl (hb hby d3_16) rfl rfl ?_
    show Steps p.tables e below (s₁.setTop (mkF m 17 #[.val (.ref va), .val (.int w4), .val (.ref va), .val (.int (5 : Int32)), .val (.int (1 : Int32)), .val (.int x0)] [(.ref va)])) tt
    refine XS.iload X0.here hx rfl (hb hby d3_17) rfl ?_
    exact kk
  obtain ⟨cl5, Ar5, Sl5⟩ := id V_va
  have hin5 := inA (cl := cl5) Sl5 (j := (1 : Int32)) (by decide) (Nat.le_of_ble_eq_true rfl)
  have hat5 : cl5.slots[((1 : Int32)).toNatClampNeg]? = some (.int x1) := atA Sl5 rfl
  refine Goal.to (B := s₁.setTop (mkF m 25 #[.val (.ref va), .val (.int w4), .val (.ref va), .val (.int (5 : Int32)), .val (.int (1 : Int32)), .val (.int x1)] [(.int (-1 : Int32)), (.int x1)])) (fun tt kk => ?_) ?_
  · show Steps p.tables e below (s₁.setTop (mkF m 19 #[.val (.ref va), .val (.int w4), .val (.ref va), .val (.int (5 : Int32)), .val (.int (1 : Int32)), .val (.int x0)] [(.int (1 : Int32)), (.ref va)])) tt
    refine X0.iaload hx (j := (1 : Int32)) (v := (.int x1)) (by rw [e0]; exact Ar5.1) (State.isArrayOf_alike hZ.alike Ar5.2.1) Ar5.2.2 hin5 hat5 (g := (mkF m 19 #[.val (.ref va), .val (.int w4), .val (.ref va), .val (.int (5 : Int32)), .val (.int (1 : Int32)), .val (.int x0)] [(.int (1 : Int32)), (.ref va)])) rfl rfl (hb hby d3_19) _ ?_
    show Steps p.tables e below (s₁.setTop (mkF m 20 #[.val (.ref va), .val (.int w4), .val (.ref va), .val (.int (5 : Int32)), .val (.int (1 : Int32)), .val (.int x0)] [(.int x1)])) tt
    refine XS.istore X0.here hx rfl (hb hby d3_20) rfl (l' := #[.val (.ref va), .val (.int w4), .val (.ref va), .val (.int (5 : Int32)), .val (.int (1 : Int32)), .val (.int x1)]) rfl ?_
    show Steps p.tables e below (s₁.setTop (mkF m 22 #[.val (.ref va), .val (.int w4), .val (.ref va), .val (.int (5 : Int32)), .val (.int (1 : Int32)), .val (.int x1)] [])) tt
    refine XS.iload X0.here hx rfl (hb hby d3_22) rfl ?_
    show Steps p.tables e below (s₁.setTop (mkF m 24 #[.val (.ref va), .val (.int w4), .val (.ref va), .val (.int (5 : Int32)), .val (.int (1 : Int32)), .val (.int x1)] [(.int x1)])) tt
    refine XS.iconst X0.here hx rfl (hb hby d3_24) ?_
    exact kk
  obtain ⟨w7, hw7⟩ : ∃ z : Int32, z = if x1 = (-1 : Int32) then w4 else (w4 + (1 : Int32)) := ⟨_, rfl⟩
  refine Goal.to (B := s₁.setTop (mkF m 31 #[.val (.ref va), .val (.int w7), .val (.ref va), .val (.int (5 : Int32)), .val (.int (1 : Int32)), .val (.int x1)] [])) (fun tt kk => ?_) ?_
  · by_cases hc6 : x1 = (-1 : Int32)
    · have qw7 : w7 = w4 := by rw [hw7, if_pos hc6]
      rw [qw7] at kk
      show Steps p.tables e below (s₁.setTop (mkF m 25 #[.val (.ref va), .val (.int w4), .val (.ref va), .val (.int (5 : Int32)), .val (.int (1 : Int32)), .val (.int x1)] [(.int (-1 : Int32)), (.int x1)])) tt
      refine XS.icmpYes X0.here hx rfl (pc0 := 25) (pc' := 31) rfl (hb hby d3_25) rfl (teq hc6).1 (by decide) (by decide) ?_
      exact kk
    · have qw7 : w7 = (w4 + (1 : Int32)) := by rw [hw7, if_neg hc6]
      rw [qw7] at kk
      show Steps p.tables e below (s₁.setTop (mkF m 25 #[.val (.ref va), .val (.int w4), .val (.ref va), .val (.int (5 : Int32)), .val (.int (1 : Int32)), .val (.int x1)] [(.int (-1 : Int32)), (.int x1)])) tt
      refine XS.icmpNo X0.here hx rfl (hb hby d3_25) rfl (feq hc6).1 ?_
      show Steps p.tables e below (s₁.setTop (mkF m 28 #[.val (.ref va), .val (.int w4), .val (.ref va), .val (.int (5 : Int32)), .val (.int (1 : Int32)), .val (.int x1)] [])) tt
      refine XS.iinc X0.here hx rfl (hb hby d3_28) rfl (l' := #[.val (.ref va), .val (.int (w4 + (1 : Int32))), .val (.ref va), .val (.int (5 : Int32)), .val (.int (1 : Int32)), .val (.int x1)]) rfl ?_
      exact kk
  refine Goal.to (B := s₁.setTop (mkF m 19 #[.val (.ref va), .val (.int w7), .val (.ref va), .val (.int (5 : Int32)), .val (.int (2 : Int32)), .val (.int x1)] [(.int (2 : Int32)), (.ref va)])) (fun tt kk => ?_) ?_
  · show Steps p.tables e below (s₁.setTop (mkF m 31 #[.val (.ref va), .val (.int w7), .val (.ref va), .val (.int (5 : Int32)), .val (.int (1 : Int32)), .val (.int x1)] [])) tt
    refine XS.iinc X0.here hx rfl (hb hby d3_31) rfl (l' := #[.val (.ref va), .val (.int w7), .val (.ref va), .val (.int (5 : Int32)), .val (.int (2 : Int32)), .val (.int x1)]) rfl ?_
    show Steps p.tables e below (s₁.setTop (mkF m 34 #[.val (.ref va), .val (.int w7), .val (.ref va), .val (.int (5 : Int32)), .val (.int (2 : Int32)), .val (.int x1)] [])) tt
    refine XS.goto X0.here hx rfl (pc0 := 34) (pc' := 10) rfl (hb hby d3_34) (by decide) (by decide) ?_
    show Steps p.tables e below (s₁.setTop (mkF m 10 #[.val (.ref va), .val (.int w7), .val (.ref va), .val (.int (5 : Int32)), .val (.int (2 : Int32)), .val (.int x1)] [])) tt
    refine XS.iload X0.here hx rfl (hb hby d3_10) rfl ?_
    show Steps p.tables e below (s₁.setTop (mkF m 12 #[.val (.ref va), .val (.int w7), .val (.ref va), .val (.int (5 : Int32)), .val (.int (2 : Int32)), .val (.int x1)] [(.int (2 : Int32))])) tt
    refine XS.iloadN X0.here hx rfl (hb hby d3_12) rfl ?_
    show Steps p.tables e below (s₁.setTop (mkF m 13 #[.val (.ref va), .val (.int w7), .val (.ref va), .val (.int (5 : Int32)), .val (.int (2 : Int32)), .val (.int x1)] [(.int (5 : Int32)), (.int (2 : Int32))])) tt
    refine XS.icmpNo X0.here hx rfl (hb hby d3_13) rfl (tlt ((by decide) : (2 : Int32) < (5 : Int32))).2.1 ?_
    show Steps p.tables e below (s₁.setTop (mkF m 16 #[.val (.ref va), .val (.int w7), .val (.ref va), .val (.int (5 : Int32)), .val (.int (2 : Int32)), .val (.int x1)] [])) tt
    refine XS.aloadN X0.here hx rfl (hb hby d3_16) rfl rfl ?_
    show Steps p.tables e below (s₁.setTop (mkF m 17 #[.val (.ref va), .val (.int w7), .val (.ref va), .val (.int (5 : Int32)), .val (.int (2 : Int32)), .val (.int x1)] [(.ref va)])) tt
    refine XS.iload X0.here hx rfl (hb hby d3_17) rfl ?_
    exact kk
  obtain ⟨cl8, Ar8, Sl8⟩ := id V_va
  have hin8 := inA (cl := cl8) Sl8 (j := (2 : Int32)) (by decide) (Nat.le_of_ble_eq_true rfl)
  have hat8 : cl8.slots[((2 : Int32)).toNatClampNeg]? = some (.int x2) := atA Sl8 rfl
  refine Goal.to (B := s₁.setTop (mkF m 25 #[.val (.ref va), .val (.int w7), .val (.ref va), .val (.int (5 : Int32)), .val (.int (2 : Int32)), .val (.int x2)] [(.int (-1 : Int32)), (.int x2)])) (fun tt kk => ?_) ?_
  · show Steps p.tables e below (s₁.setTop (mkF m 19 #[.val (.ref va), .val (.int w7), .val (.ref va), .val (.int (5 : Int32)), .val (.int (2 : Int32)), .val (.int x1)] [(.int (2 : Int32)), (.ref va)])) tt
    refine X0.iaload hx (j := (2 : Int32)) (v := (.int x2)) (by rw [e0]; exact Ar8.1) (State.isArrayOf_alike hZ.alike Ar8.2.1) Ar8.2.2 hin8 hat8 (g := (mkF m 19 #[.val (.ref va), .val (.int w7), .val (.ref va), .val (.int (5 : Int32)), .val (.int (2 : Int32)), .val (.int x1)] [(.int (2 : Int32)), (.ref va)])) rfl rfl (hb hby d3_19) _ ?_
    show Steps p.tables e below (s₁.setTop (mkF m 20 #[.val (.ref va), .val (.int w7), .val (.ref va), .val (.int (5 : Int32)), .val (.int (2 : Int32)), .val (.int x1)] [(.int x2)])) tt
    refine XS.istore X0.here hx rfl (hb hby d3_20) rfl (l' := #[.val (.ref va), .val (.int w7), .val (.ref va), .val (.int (5 : Int32)), .val (.int (2 : Int32)), .val (.int x2)]) rfl ?_
    show Steps p.tables e below (s₁.setTop (mkF m 22 #[.val (.ref va), .val (.int w7), .val (.ref va), .val (.int (5 : Int32)), .val (.int (2 : Int32)), .val (.int x2)] [])) tt
    refine XS.iload X0.here hx rfl (hb hby d3_22) rfl ?_
    show Steps p.tables e below (s₁.setTop (mkF m 24 #[.val (.ref va), .val (.int w7), .val (.ref va), .val (.int (5 : Int32)), .val (.int (2 : Int32)), .val (.int x2)] [(.int x2)])) tt
    refine XS.iconst X0.here hx rfl (hb hby d3_24) ?_
    exact kk
  obtain ⟨w10, hw10⟩ : ∃ z : Int32, z = if x2 = (-1 : Int32) then w7 else (w7 + (1 : Int32)) := ⟨_, rfl⟩
  refine Goal.to (B := s₁.setTop (mkF m 31 #[.val (.ref va), .val (.int w10), .val (.ref va), .val (.int (5 : Int32)), .val (.int (2 : Int32)), .val (.int x2)] [])) (fun tt kk => ?_) ?_
  · by_cases hc9 : x2 = (-1 : Int32)
    · have qw10 : w10 = w7 := by rw [hw10, if_pos hc9]
      rw [qw10] at kk
      show Steps p.tables e below (s₁.setTop (mkF m 25 #[.val (.ref va), .val (.int w7), .val (.ref va), .val (.int (5 : Int32)), .val (.int (2 : Int32)), .val (.int x2)] [(.int (-1 : Int32)), (.int x2)])) tt
      refine XS.icmpYes X0.here hx rfl (pc0 := 25) (pc' := 31) rfl (hb hby d3_25) rfl (teq hc9).1 (by decide) (by decide) ?_
      exact kk
    · have qw10 : w10 = (w7 + (1 : Int32)) := by rw [hw10, if_neg hc9]
      rw [qw10] at kk
      show Steps p.tables e below (s₁.setTop (mkF m 25 #[.val (.ref va), .val (.int w7), .val (.ref va), .val (.int (5 : Int32)), .val (.int (2 : Int32)), .val (.int x2)] [(.int (-1 : Int32)), (.int x2)])) tt
      refine XS.icmpNo X0.here hx rfl (hb hby d3_25) rfl (feq hc9).1 ?_
      show Steps p.tables e below (s₁.setTop (mkF m 28 #[.val (.ref va), .val (.int w7), .val (.ref va), .val (.int (5 : Int32)), .val (.int (2 : Int32)), .val (.int x2)] [])) tt
      refine XS.iinc X0.here hx rfl (hb hby d3_28) rfl (l' := #[.val (.ref va), .val (.int (w7 + (1 : Int32))), .val (.ref va), .val (.int (5 : Int32)), .val (.int (2 : Int32)), .val (.int x2)]) rfl ?_
      exact kk
  refine Goal.to (B := s₁.setTop (mkF m 19 #[.val (.ref va), .val (.int w10), .val (.ref va), .val (.int (5 : Int32)), .val (.int (3 : Int32)), .val (.int x2)] [(.int (3 : Int32)), (.ref va)])) (fun tt kk => ?_) ?_
  · show Steps p.tables e below (s₁.setTop (mkF m 31 #[.val (.ref va), .val (.int w10), .val (.ref va), .val (.int (5 : Int32)), .val (.int (2 : Int32)), .val (.int x2)] [])) tt
    refine XS.iinc X0.here hx rfl (hb hby d3_31) rfl (l' := #[.val (.ref va), .val (.int w10), .val (.ref va), .val (.int (5 : Int32)), .val (.int (3 : Int32)), .val (.int x2)]) rfl ?_
    show Steps p.tables e below (s₁.setTop (mkF m 34 #[.val (.ref va), .val (.int w10), .val (.ref va), .val (.int (5 : Int32)), .val (.int (3 : Int32)), .val (.int x2)] [])) tt
    refine XS.goto X0.here hx rfl (pc0 := 34) (pc' := 10) rfl (hb hby d3_34) (by decide) (by decide) ?_
    show Steps p.tables e below (s₁.setTop (mkF m 10 #[.val (.ref va), .val (.int w10), .val (.ref va), .val (.int (5 : Int32)), .val (.int (3 : Int32)), .val (.int x2)] [])) tt
    refine XS.iload X0.here hx rfl (hb hby d3_10) rfl ?_
    show Steps p.tables e below (s₁.setTop (mkF m 12 #[.val (.ref va), .val (.int w10), .val (.ref va), .val (.int (5 : Int32)), .val (.int (3 : Int32)), .val (.int x2)] [(.int (3 : Int32))])) tt
    refine XS.iloadN X0.here hx rfl (hb hby d3_12) rfl ?_
    show Steps p.tables e below (s₁.setTop (mkF m 13 #[.val (.ref va), .val (.int w10), .val (.ref va), .val (.int (5 : Int32)), .val (.int (3 : Int32)), .val (.int x2)] [(.int (5 : Int32)), (.int (3 : Int32))])) tt
    refine XS.icmpNo X0.here hx rfl (hb hby d3_13) rfl (tlt ((by decide) : (3 : Int32) < (5 : Int32))).2.1 ?_
    show Steps p.tables e below (s₁.setTop (mkF m 16 #[.val (.ref va), .val (.int w10), .val (.ref va), .val (.int (5 : Int32)), .val (.int (3 : Int32)), .val (.int x2)] [])) tt
    refine XS.aloadN X0.here hx rfl (hb hby d3_16) rfl rfl ?_
    show Steps p.tables e below (s₁.setTop (mkF m 17 #[.val (.ref va), .val (.int w10), .val (.ref va), .val (.int (5 : Int32)), .val (.int (3 : Int32)), .val (.int x2)] [(.ref va)])) tt
    refine XS.iload X0.here hx rfl (hb hby d3_17) rfl ?_
    exact kk
  obtain ⟨cl11, Ar11, Sl11⟩ := id V_va
  have hin11 := inA (cl := cl11) Sl11 (j := (3 : Int32)) (by decide) (Nat.le_of_ble_eq_true rfl)
  have hat11 : cl11.slots[((3 : Int32)).toNatClampNeg]? = some (.int x3) := atA Sl11 rfl
  refine Goal.to (B := s₁.setTop (mkF m 25 #[.val (.ref va), .val (.int w10), .val (.ref va), .val (.int (5 : Int32)), .val (.int (3 : Int32)), .val (.int x3)] [(.int (-1 : Int32)), (.int x3)])) (fun tt kk => ?_) ?_
  · show Steps p.tables e below (s₁.setTop (mkF m 19 #[.val (.ref va), .val (.int w10), .val (.ref va), .val (.int (5 : Int32)), .val (.int (3 : Int32)), .val (.int x2)] [(.int (3 : Int32)), (.ref va)])) tt
    refine X0.iaload hx (j := (3 : Int32)) (v := (.int x3)) (by rw [e0]; exact Ar11.1) (State.isArrayOf_alike hZ.alike Ar11.2.1) Ar11.2.2 hin11 hat11 (g := (mkF m 19 #[.val (.ref va), .val (.int w10), .val (.ref va), .val (.int (5 : Int32)), .val (.int (3 : Int32)), .val (.int x2)] [(.int (3 : Int32)), (.ref va)])) rfl rfl (hb hby d3_19) _ ?_
    show Steps p.tables e below (s₁.setTop (mkF m 20 #[.val (.ref va), .val (.int w10), .val (.ref va), .val (.int (5 : Int32)), .val (.int (3 : Int32)), .val (.int x2)] [(.int x3)])) tt
    refine XS.istore X0.here hx rfl (hb hby d3_20) rfl (l' := #[.val (.ref va), .val (.int w10), .val (.ref va), .val (.int (5 : Int32)), .val (.int (3 : Int32)), .val (.int x3)]) rfl ?_
    show Steps p.tables e below (s₁.setTop (mkF m 22 #[.val (.ref va), .val (.int w10), .val (.ref va), .val (.int (5 : Int32)), .val (.int (3 : Int32)), .val (.int x3)] [])) tt
    refine XS.iload X0.here hx rfl (hb hby d3_22) rfl ?_
    show Steps p.tables e below (s₁.setTop (mkF m 24 #[.val (.ref va), .val (.int w10), .val (.ref va), .val (.int (5 : Int32)), .val (.int (3 : Int32)), .val (.int x3)] [(.int x3)])) tt
    refine XS.iconst X0.here hx rfl (hb hby d3_24) ?_
    exact kk
  obtain ⟨w13, hw13⟩ : ∃ z : Int32, z = if x3 = (-1 : Int32) then w10 else (w10 + (1 : Int32)) := ⟨_, rfl⟩
  refine Goal.to (B := s₁.setTop (mkF m 31 #[.val (.ref va), .val (.int w13), .val (.ref va), .val (.int (5 : Int32)), .val (.int (3 : Int32)), .val (.int x3)] [])) (fun tt kk => ?_) ?_
  · by_cases hc12 : x3 = (-1 : Int32)
    · have qw13 : w13 = w10 := by rw [hw13, if_pos hc12]
      rw [qw13] at kk
      show Steps p.tables e below (s₁.setTop (mkF m 25 #[.val (.ref va), .val (.int w10), .val (.ref va), .val (.int (5 : Int32)), .val (.int (3 : Int32)), .val (.int x3)] [(.int (-1 : Int32)), (.int x3)])) tt
      refine XS.icmpYes X0.here hx rfl (pc0 := 25) (pc' := 31) rfl (hb hby d3_25) rfl (teq hc12).1 (by decide) (by decide) ?_
      exact kk
    · have qw13 : w13 = (w10 + (1 : Int32)) := by rw [hw13, if_neg hc12]
      rw [qw13] at kk
      show Steps p.tables e below (s₁.setTop (mkF m 25 #[.val (.ref va), .val (.int w10), .val (.ref va), .val (.int (5 : Int32)), .val (.int (3 : Int32)), .val (.int x3)] [(.int (-1 : Int32)), (.int x3)])) tt
      refine XS.icmpNo X0.here hx rfl (hb hby d3_25) rfl (feq hc12).1 ?_
      show Steps p.tables e below (s₁.setTop (mkF m 28 #[.val (.ref va), .val (.int w10), .val (.ref va), .val (.int (5 : Int32)), .val (.int (3 : Int32)), .val (.int x3)] [])) tt
      refine XS.iinc X0.here hx rfl (hb hby d3_28) rfl (l' := #[.val (.ref va), .val (.int (w10 + (1 : Int32))), .val (.ref va), .val (.int (5 : Int32)), .val (.int (3 : Int32)), .val (.int x3)]) rfl ?_
      exact kk
  refine Goal.to (B := s₁.setTop (mkF m 19 #[.val (.ref va), .val (.int w13), .val (.ref va), .val (.int (5 : Int32)), .val (.int (4 : Int32)), .val (.int x3)] [(.int (4 : Int32)), (.ref va)])) (fun tt kk => ?_) ?_
  · show Steps p.tables e below (s₁.setTop (mkF m 31 #[.val (.ref va), .val (.int w13), .val (.ref va), .val (.int (5 : Int32)), .val (.int (3 : Int32)), .val (.int x3)] [])) tt
    refine XS.iinc X0.here hx rfl (hb hby d3_31) rfl (l' := #[.val (.ref va), .val (.int w13), .val (.ref va), .val (.int (5 : Int32)), .val (.int (4 : Int32)), .val (.int x3)]) rfl ?_
    show Steps p.tables e below (s₁.setTop (mkF m 34 #[.val (.ref va), .val (.int w13), .val (.ref va), .val (.int (5 : Int32)), .val (.int (4 : Int32)), .val (.int x3)] [])) tt
    refine XS.goto X0.here hx rfl (pc0 := 34) (pc' := 10) rfl (hb hby d3_34) (by decide) (by decide) ?_
    show Steps p.tables e below (s₁.setTop (mkF m 10 #[.val (.ref va), .val (.int w13), .val (.ref va), .val (.int (5 : Int32)), .val (.int (4 : Int32)), .val (.int x3)] [])) tt
    refine XS.iload X0.here hx rfl (hb hby d3_10) rfl ?_
    show Steps p.tables e below (s₁.setTop (mkF m 12 #[.val (.ref va), .val (.int w13), .val (.ref va), .val (.int (5 : Int32)), .val (.int (4 : Int32)), .val (.int x3)] [(.int (4 : Int32))])) tt
    refine XS.iloadN X0.here hx rfl (hb hby d3_12) rfl ?_
    show Steps p.tables e below (s₁.setTop (mkF m 13 #[.val (.ref va), .val (.int w13), .val (.ref va), .val (.int (5 : Int32)), .val (.int (4 : Int32)), .val (.int x3)] [(.int (5 : Int32)), (.int (4 : Int32))])) tt
    refine XS.icmpNo X0.here hx rfl (hb hby d3_13) rfl (tlt ((by decide) : (4 : Int32) < (5 : Int32))).2.1 ?_
    show Steps p.tables e below (s₁.setTop (mkF m 16 #[.val (.ref va), .val (.int w13), .val (.ref va), .val (.int (5 : Int32)), .val (.int (4 : Int32)), .val (.int x3)] [])) tt
    refine XS.aloadN X0.here hx rfl (hb hby d3_16) rfl rfl ?_
    show Steps p.tables e below (s₁.setTop (mkF m 17 #[.val (.ref va), .val (.int w13), .val (.ref va), .val (.int (5 : Int32)), .val (.int (4 : Int32)), .val (.int x3)] [(.ref va)])) tt
    refine XS.iload X0.here hx rfl (hb hby d3_17) rfl ?_
    exact kk
  obtain ⟨cl14, Ar14, Sl14⟩ := id V_va
  have hin14 := inA (cl := cl14) Sl14 (j := (4 : Int32)) (by decide) (Nat.le_of_ble_eq_true rfl)
  have hat14 : cl14.slots[((4 : Int32)).toNatClampNeg]? = some (.int x4) := atA Sl14 rfl
  refine Goal.to (B := s₁.setTop (mkF m 25 #[.val (.ref va), .val (.int w13), .val (.ref va), .val (.int (5 : Int32)), .val (.int (4 : Int32)), .val (.int x4)] [(.int (-1 : Int32)), (.int x4)])) (fun tt kk => ?_) ?_
  · show Steps p.tables e below (s₁.setTop (mkF m 19 #[.val (.ref va), .val (.int w13), .val (.ref va), .val (.int (5 : Int32)), .val (.int (4 : Int32)), .val (.int x3)] [(.int (4 : Int32)), (.ref va)])) tt
    refine X0.iaload hx (j := (4 : Int32)) (v := (.int x4)) (by rw [e0]; exact Ar14.1) (State.isArrayOf_alike hZ.alike Ar14.2.1) Ar14.2.2 hin14 hat14 (g := (mkF m 19 #[.val (.ref va), .val (.int w13), .val (.ref va), .val (.int (5 : Int32)), .val (.int (4 : Int32)), .val (.int x3)] [(.int (4 : Int32)), (.ref va)])) rfl rfl (hb hby d3_19) _ ?_
    show Steps p.tables e below (s₁.setTop (mkF m 20 #[.val (.ref va), .val (.int w13), .val (.ref va), .val (.int (5 : Int32)), .val (.int (4 : Int32)), .val (.int x3)] [(.int x4)])) tt
    refine XS.istore X0.here hx rfl (hb hby d3_20) rfl (l' := #[.val (.ref va), .val (.int w13), .val (.ref va), .val (.int (5 : Int32)), .val (.int (4 : Int32)), .val (.int x4)]) rfl ?_
    show Steps p.tables e below (s₁.setTop (mkF m 22 #[.val (.ref va), .val (.int w13), .val (.ref va), .val (.int (5 : Int32)), .val (.int (4 : Int32)), .val (.int x4)] [])) tt
    refine XS.iload X0.here hx rfl (hb hby d3_22) rfl ?_
    show Steps p.tables e below (s₁.setTop (mkF m 24 #[.val (.ref va), .val (.int w13), .val (.ref va), .val (.int (5 : Int32)), .val (.int (4 : Int32)), .val (.int x4)] [(.int x4)])) tt
    refine XS.iconst X0.here hx rfl (hb hby d3_24) ?_
    exact kk
  obtain ⟨w16, hw16⟩ : ∃ z : Int32, z = if x4 = (-1 : Int32) then w13 else (w13 + (1 : Int32)) := ⟨_, rfl⟩
  refine Goal.to (B := s₁.setTop (mkF m 31 #[.val (.ref va), .val (.int w16), .val (.ref va), .val (.int (5 : Int32)), .val (.int (4 : Int32)), .val (.int x4)] [])) (fun tt kk => ?_) ?_
  · by_cases hc15 : x4 = (-1 : Int32)
    · have qw16 : w16 = w13 := by rw [hw16, if_pos hc15]
      rw [qw16] at kk
      show Steps p.tables e below (s₁.setTop (mkF m 25 #[.val (.ref va), .val (.int w13), .val (.ref va), .val (.int (5 : Int32)), .val (.int (4 : Int32)), .val (.int x4)] [(.int (-1 : Int32)), (.int x4)])) tt
      refine XS.icmpYes X0.here hx rfl (pc0 := 25) (pc' := 31) rfl (hb hby d3_25) rfl (teq hc15).1 (by decide) (by decide) ?_
      exact kk
    · have qw16 : w16 = (w13 + (1 : Int32)) := by rw [hw16, if_neg hc15]
      rw [qw16] at kk
      show Steps p.tables e below (s₁.setTop (mkF m 25 #[.val (.ref va), .val (.int w13), .val (.ref va), .val (.int (5 : Int32)), .val (.int (4 : Int32)), .val (.int x4)] [(.int (-1 : Int32)), (.int x4)])) tt
      refine XS.icmpNo X0.here hx rfl (hb hby d3_25) rfl (feq hc15).1 ?_
      show Steps p.tables e below (s₁.setTop (mkF m 28 #[.val (.ref va), .val (.int w13), .val (.ref va), .val (.int (5 : Int32)), .val (.int (4 : Int32)), .val (.int x4)] [])) tt
      refine XS.iinc X0.here hx rfl (hb hby d3_28) rfl (l' := #[.val (.ref va), .val (.int (w13 + (1 : Int32))), .val (.ref va), .val (.int (5 : Int32)), .val (.int (4 : Int32)), .val (.int x4)]) rfl ?_
      exact kk
  refine Goal.to (B := s₁.setTop (mkF m 38 #[.val (.ref va), .val (.int w16), .val (.ref va), .val (.int (5 : Int32)), .val (.int (5 : Int32)), .val (.int x4)] [(.int w16)])) (fun tt kk => ?_) ?_
  · show Steps p.tables e below (s₁.setTop (mkF m 31 #[.val (.ref va), .val (.int w16), .val (.ref va), .val (.int (5 : Int32)), .val (.int (4 : Int32)), .val (.int x4)] [])) tt
    refine XS.iinc X0.here hx rfl (hb hby d3_31) rfl (l' := #[.val (.ref va), .val (.int w16), .val (.ref va), .val (.int (5 : Int32)), .val (.int (5 : Int32)), .val (.int x4)]) rfl ?_
    show Steps p.tables e below (s₁.setTop (mkF m 34 #[.val (.ref va), .val (.int w16), .val (.ref va), .val (.int (5 : Int32)), .val (.int (5 : Int32)), .val (.int x4)] [])) tt
    refine XS.goto X0.here hx rfl (pc0 := 34) (pc' := 10) rfl (hb hby d3_34) (by decide) (by decide) ?_
    show Steps p.tables e below (s₁.setTop (mkF m 10 #[.val (.ref va), .val (.int w16), .val (.ref va), .val (.int (5 : Int32)), .val (.int (5 : Int32)), .val (.int x4)] [])) tt
    refine XS.iload X0.here hx rfl (hb hby d3_10) rfl ?_
    show Steps p.tables e below (s₁.setTop (mkF m 12 #[.val (.ref va), .val (.int w16), .val (.ref va), .val (.int (5 : Int32)), .val (.int (5 : Int32)), .val (.int x4)] [(.int (5 : Int32))])) tt
    refine XS.iloadN X0.here hx rfl (hb hby d3_12) rfl ?_
    show Steps p.tables e below (s₁.setTop (mkF m 13 #[.val (.ref va), .val (.int w16), .val (.ref va), .val (.int (5 : Int32)), .val (.int (5 : Int32)), .val (.int x4)] [(.int (5 : Int32)), (.int (5 : Int32))])) tt
    refine XS.icmpYes X0.here hx rfl (pc0 := 13) (pc' := 37) rfl (hb hby d3_13) rfl (flt (Int32.lt_irrefl : ¬ ((5 : Int32) < (5 : Int32)))).2.1 (by decide) (by decide) ?_
    show Steps p.tables e below (s₁.setTop (mkF m 37 #[.val (.ref va), .val (.int w16), .val (.ref va), .val (.int (5 : Int32)), .val (.int (5 : Int32)), .val (.int x4)] [])) tt
    refine XS.iloadN X0.here hx rfl (hb hby d3_37) rfl ?_
    exact kk
  exact Goal.retV X0 hx Bd.returns rfl (Or.inl ⟨rfl, Or.inl rfl, _, rfl⟩) (hb hby d3_38) hlk e0 ⟨(congrArg some (by rw [hw16, hw13, hw10, hw7, hw4]; rfl : ((.int w16) : Value) = (.int (own_add (own_add (own_add (own_add (own_add (0 : Int32) x0) x1) x2) x3) x4)))), N0, rfl⟩ (by decide) (by decide)
theorem ef_0 (m : MethodId) (x0 : Int32) (x1 : Int32) (x2 : Int32) (x3 : Int32) (x4 : Int32) (x5 : Int32)  : entryFrame m #[(.int x0), (.int x1), (.int x2), (.int x3), (.int x4), (.int x5)] maxLocals = mkF m 0 #[.val (.int x0), .val (.int x1), .val (.int x2), .val (.int x3), .val (.int x4), .val (.int x5), .unset, .unset, .unset, .unset, .unset, .unset, .unset, .unset, .unset] [] := by first | (simp [entryFrame, mkF, argsToLocals, Value.category, maxLocals]; done) | rfl
theorem pn_0 : plainName "com/example/purloin/runner/PdfsReachedPinLaw" = true := by first | (simp [plainName, overriddenIn]; done) | decide +kernel
theorem pd_0 : parseMethodDescriptor "(III)I" = some ⟨[.int, .int, .int], some .int⟩ := by decide +kernel
theorem pd_1 : parseMethodDescriptor "(ZI)I" = some ⟨[.boolean, .int], some .int⟩ := by decide +kernel
theorem pd_2 : parseMethodDescriptor "([I)I" = some ⟨[(.array .int)], some .int⟩ := by decide +kernel
def Q0 (Z : State) (u0 : Int32) (u1 : Int32) (u2 : Int32) (u3 : Int32) (u4 : Int32) (u5 : Int32) (h0 : Heap) (n0 : Nat) (v : Option Value) (h : Heap) (L : List Loc) : Prop := v = some (.int (1 : Int32)) ∧ Fr n0 L
set_option maxRecDepth 65536 in
set_option maxHeartbeats 40000000 in
theorem rm0 (l : Launch) (Z : State) (a0 : Array Value) (hw : ∀ d ∈ tables_1, d.before a0 Z = true) (ws : List Jvm.Cond) (u0 : Int32) (u1 : Int32) (u2 : Int32) (u3 : Int32) (u4 : Int32) (u5 : Int32) (h0 : Heap) (n0 : Nat) (Z0 : n0 ≤ h0.size) :
    MetFree l x (head1 (Jvm.Cond.code x code maxLocals ret :: ws) room_1) (fun a U => a = #[(.int u0), (.int u1), (.int u2), (.int u3), (.int u4), (.int u5)] ∧ Z.Warmed39 U.vm ∧ U.heap = h0) (fun _ _ _ _ _ => True) (fun _ U o U' => ∃ v L, o = .returned v ∧ Q0 Z u0 u1 u2 u3 u4 u5 h0 n0 v U'.heap L ∧ FrameEnd U o U' L 16 128) := by
  refine MetFree.of_bodySF (plainFor_of_name pn_0) hisR ?_
  intro p e s m args below meth c s₁ Bd hml0 hP hK
  obtain ⟨rfl, hZ, hh⟩ := hP
  have hx := Bd.exec
  have hby := Bd.bytes
  have hml : c.maxLocals = 15 := hml0
  have hown : s.vm.findClass "com/example/purloin/runner/PdfsReachedPinLaw" = some m.cls := findClass_of_methodNamed Bd.named
  have hnm := (name_of_methodNamed Bd.named Bd.method).1
  have X0 : Stand p l e room_1 s m #[(.int u0), (.int u1), (.int u2), (.int u3), (.int u4), (.int u5)] below meth c s₁ [] 0 0 := Stand.of_body Bd
  have e0 : s₁.heap = h0 := by rw [← hh, Bd.state]; rfl
  have N0 := Fr.nil n0
  have hlk : meth.locks = false := BodyLoose.notSynchronized Bd
  show Goal p e below s (Q0 Z u0 u1 u2 u3 u4 u5 h0 n0) 16 128 (s₁.setTop (entryFrame m #[(.int u0), (.int u1), (.int u2), (.int u3), (.int u4), (.int u5)] maxLocals))
  refine Goal.to (B := s₁.setTop (mkF m 0 #[.val (.int u0), .val (.int u1), .val (.int u2), .val (.int u3), .val (.int u4), .val (.int u5), .unset, .unset, .unset, .unset, .unset, .unset, .unset, .unset, .unset] [])) (fun tt kk => castTop (ef_0 m u0 u1 u2 u3 u4 u5 ) kk) ?_
  obtain ⟨ln, hln⟩ : ∃ z : Int32, z = ((u0 &&& (7 : Int32)) % (6 : Int32)) := ⟨_, rfl⟩
  refine Goal.to (B := s₁.setTop (mkF m 9 #[.val (.int u0), .val (.int u1), .val (.int u2), .val (.int u3), .val (.int u4), .val (.int u5), .val (.int ln), .unset, .unset, .unset, .unset, .unset, .unset, .unset, .unset] [])) (fun tt kk => ?_) ?_
  · subst hln
    show Steps p.tables e below (s₁.setTop (mkF m 0 #[.val (.int u0), .val (.int u1), .val (.int u2), .val (.int u3), .val (.int u4), .val (.int u5), .unset, .unset, .unset, .unset, .unset, .unset, .unset, .unset, .unset] [])) tt
    refine XS.iloadN X0.here hx rfl (hb hby at_0) rfl ?_
    show Steps p.tables e below (s₁.setTop (mkF m 1 #[.val (.int u0), .val (.int u1), .val (.int u2), .val (.int u3), .val (.int u4), .val (.int u5), .unset, .unset, .unset, .unset, .unset, .unset, .unset, .unset, .unset] [(.int u0)])) tt
    refine XS.bipush X0.here hx rfl (hb hby at_1) ?_
    show Steps p.tables e below (s₁.setTop (mkF m 3 #[.val (.int u0), .val (.int u1), .val (.int u2), .val (.int u3), .val (.int u4), .val (.int u5), .unset, .unset, .unset, .unset, .unset, .unset, .unset, .unset, .unset] [(.int (7 : Int32)), (.int u0)])) tt
    refine XS.iand X0.here hx rfl (hb hby at_3) rfl ?_
    show Steps p.tables e below (s₁.setTop (mkF m 4 #[.val (.int u0), .val (.int u1), .val (.int u2), .val (.int u3), .val (.int u4), .val (.int u5), .unset, .unset, .unset, .unset, .unset, .unset, .unset, .unset, .unset] [(.int (u0 &&& (7 : Int32)))])) tt
    refine XS.bipush X0.here hx rfl (hb hby at_4) ?_
    show Steps p.tables e below (s₁.setTop (mkF m 6 #[.val (.int u0), .val (.int u1), .val (.int u2), .val (.int u3), .val (.int u4), .val (.int u5), .unset, .unset, .unset, .unset, .unset, .unset, .unset, .unset, .unset] [(.int (6 : Int32)), (.int (u0 &&& (7 : Int32)))])) tt
    refine iremM X0 hx rfl (hb hby at_6) rfl (by decide) ?_
    show Steps p.tables e below (s₁.setTop (mkF m 7 #[.val (.int u0), .val (.int u1), .val (.int u2), .val (.int u3), .val (.int u4), .val (.int u5), .unset, .unset, .unset, .unset, .unset, .unset, .unset, .unset, .unset] [(.int ((u0 &&& (7 : Int32)) % (6 : Int32)))])) tt
    refine XS.istore X0.here hx rfl (hb hby at_7) rfl (l' := #[.val (.int u0), .val (.int u1), .val (.int u2), .val (.int u3), .val (.int u4), .val (.int u5), .val (.int ((u0 &&& (7 : Int32)) % (6 : Int32))), .unset, .unset, .unset, .unset, .unset, .unset, .unset, .unset]) rfl ?_
    exact kk
  obtain ⟨fo, hfo⟩ : ∃ z : Int32, z = ((u0.toUInt32 >>> ((3 : Int32) &&& 31).toUInt32).toInt32) := ⟨_, rfl⟩
  refine Goal.to (B := s₁.setTop (mkF m 14 #[.val (.int u0), .val (.int u1), .val (.int u2), .val (.int u3), .val (.int u4), .val (.int u5), .val (.int ln), .val (.int fo), .unset, .unset, .unset, .unset, .unset, .unset, .unset] [])) (fun tt kk => ?_) ?_
  · subst hfo
    show Steps p.tables e below (s₁.setTop (mkF m 9 #[.val (.int u0), .val (.int u1), .val (.int u2), .val (.int u3), .val (.int u4), .val (.int u5), .val (.int ln), .unset, .unset, .unset, .unset, .unset, .unset, .unset, .unset] [])) tt
    refine XS.iloadN X0.here hx rfl (hb hby at_9) rfl ?_
    show Steps p.tables e below (s₁.setTop (mkF m 10 #[.val (.int u0), .val (.int u1), .val (.int u2), .val (.int u3), .val (.int u4), .val (.int u5), .val (.int ln), .unset, .unset, .unset, .unset, .unset, .unset, .unset, .unset] [(.int u0)])) tt
    refine XS.iconst X0.here hx rfl (hb hby at_10) ?_
    show Steps p.tables e below (s₁.setTop (mkF m 11 #[.val (.int u0), .val (.int u1), .val (.int u2), .val (.int u3), .val (.int u4), .val (.int u5), .val (.int ln), .unset, .unset, .unset, .unset, .unset, .unset, .unset, .unset] [(.int (3 : Int32)), (.int u0)])) tt
    refine XS.iushr X0.here hx rfl (hb hby at_11) rfl ?_
    show Steps p.tables e below (s₁.setTop (mkF m 12 #[.val (.int u0), .val (.int u1), .val (.int u2), .val (.int u3), .val (.int u4), .val (.int u5), .val (.int ln), .unset, .unset, .unset, .unset, .unset, .unset, .unset, .unset] [(.int ((u0.toUInt32 >>> ((3 : Int32) &&& 31).toUInt32).toInt32))])) tt
    refine XS.istore X0.here hx rfl (hb hby at_12) rfl (l' := #[.val (.int u0), .val (.int u1), .val (.int u2), .val (.int u3), .val (.int u4), .val (.int u5), .val (.int ln), .val (.int ((u0.toUInt32 >>> ((3 : Int32) &&& 31).toUInt32).toInt32)), .unset, .unset, .unset, .unset, .unset, .unset, .unset]) rfl ?_
    exact kk
  refine Goal.to (B := s₁.setTop (mkF m 18 #[.val (.int u0), .val (.int u1), .val (.int u2), .val (.int u3), .val (.int u4), .val (.int u5), .val (.int ln), .val (.int fo), .unset, .unset, .unset, .unset, .unset, .unset, .unset] [(.int u1), (.int (0 : Int32)), (.int fo)])) (fun tt kk => ?_) ?_
  · show Steps p.tables e below (s₁.setTop (mkF m 14 #[.val (.int u0), .val (.int u1), .val (.int u2), .val (.int u3), .val (.int u4), .val (.int u5), .val (.int ln), .val (.int fo), .unset, .unset, .unset, .unset, .unset, .unset, .unset] [])) tt
    refine XS.iload X0.here hx rfl (hb hby at_14) rfl ?_
    show Steps p.tables e below (s₁.setTop (mkF m 16 #[.val (.int u0), .val (.int u1), .val (.int u2), .val (.int u3), .val (.int u4), .val (.int u5), .val (.int ln), .val (.int fo), .unset, .unset, .unset, .unset, .unset, .unset, .unset] [(.int fo)])) tt
    refine XS.iconst X0.here hx rfl (hb hby at_16) ?_
    show Steps p.tables e below (s₁.setTop (mkF m 17 #[.val (.int u0), .val (.int u1), .val (.int u2), .val (.int u3), .val (.int u4), .val (.int u5), .val (.int ln), .val (.int fo), .unset, .unset, .unset, .unset, .unset, .unset, .unset] [(.int (0 : Int32)), (.int fo)])) tt
    refine XS.iloadN X0.here hx rfl (hb hby at_17) rfl ?_
    exact kk
  obtain ⟨_, _, ⟨T1, L1, k1, n1⟩, -, X1, ⟨Lc1, hQ1, l1, y1, z1⟩, st1⟩ := Jvm.LawKit.callS X0 hx (y := (⟨"com/example/purloin/runner/PdfsReachedPinLaw", "pick", "(III)I"⟩ : MethodName)) hown (mvT hZ (hw _ (mw 0 rfl))) (mvT hZ (hw _ (mw 1 rfl))) (mvT hZ (hw _ (mw 2 rfl))) (mvT hZ (hw _ (mw 3 rfl))) (by decide) (backOf (W := 0) (rmp l Z a0 hw [] fo (0 : Int32) u1 h0 n0 Z0 ) hZ (hw _ (mw 3 rfl)) (hw _ (mw 2 rfl)) (by decide) (by decide)) (g := (mkF m 18 #[.val (.int u0), .val (.int u1), .val (.int u2), .val (.int u3), .val (.int u4), .val (.int u5), .val (.int ln), .val (.int fo), .unset, .unset, .unset, .unset, .unset, .unset, .unset] [(.int u1), (.int (0 : Int32)), (.int fo)])) rfl (by rw [hml]; rfl) (argsL := [(.int fo), (.int (0 : Int32)), (.int u1)]) (rest := []) (lenOf pd_0 rfl) rfl (by show 2 * 0 + _ ≤ _; exact Nat.le_of_eq rfl) (hb hby at_18) (fun _ _ => ⟨rfl, e0, (by decide : 0 + 0 ≤ _), (by decide : 0 + 0 ≤ _)⟩)
  dsimp only [Pt.U, Pt.locs, Pt.cells, Pt.slots] at X1 l1 y1 z1 st1 hQ1
  subst l1 y1 z1
  obtain ⟨rfl, N1q, e1⟩ := hQ1
  have N1 := Fr.app N0 N1q
  refine Goal.to (B := T1.setTop (mkF m 21 #[.val (.int u0), .val (.int u1), .val (.int u2), .val (.int u3), .val (.int u4), .val (.int u5), .val (.int ln), .val (.int fo), .unset, .unset, .unset, .unset, .unset, .unset, .unset] [(.int (if (((fo.toUInt32 >>> ((0 : Int32) &&& 31).toUInt32).toInt32) &&& (1 : Int32)) = (0 : Int32) then u1 else (-1 : Int32)))])) st1 ?_
  obtain ⟨y0, hy0⟩ : ∃ z : Int32, z = (if (((fo.toUInt32 >>> ((0 : Int32) &&& 31).toUInt32).toInt32) &&& (1 : Int32)) = (0 : Int32) then u1 else (-1 : Int32)) := ⟨_, rfl⟩
  refine Goal.to (B := T1.setTop (mkF m 23 #[.val (.int u0), .val (.int u1), .val (.int u2), .val (.int u3), .val (.int u4), .val (.int u5), .val (.int ln), .val (.int fo), .val (.int y0), .unset, .unset, .unset, .unset, .unset, .unset] [])) (fun tt kk => ?_) ?_
  · subst hy0
    show Steps p.tables e below (T1.setTop (mkF m 21 #[.val (.int u0), .val (.int u1), .val (.int u2), .val (.int u3), .val (.int u4), .val (.int u5), .val (.int ln), .val (.int fo), .unset, .unset, .unset, .unset, .unset, .unset, .unset] [(.int (if (((fo.toUInt32 >>> ((0 : Int32) &&& 31).toUInt32).toInt32) &&& (1 : Int32)) = (0 : Int32) then u1 else (-1 : Int32)))])) tt
    refine XS.istore X1.here hx rfl (hb hby at_21) rfl (l' := #[.val (.int u0), .val (.int u1), .val (.int u2), .val (.int u3), .val (.int u4), .val (.int u5), .val (.int ln), .val (.int fo), .val (.int (if (((fo.toUInt32 >>> ((0 : Int32) &&& 31).toUInt32).toInt32) &&& (1 : Int32)) = (0 : Int32) then u1 else (-1 : Int32))), .unset, .unset, .unset, .unset, .unset, .unset]) rfl ?_
    exact kk
  refine Goal.to (B := T1.setTop (mkF m 27 #[.val (.int u0), .val (.int u1), .val (.int u2), .val (.int u3), .val (.int u4), .val (.int u5), .val (.int ln), .val (.int fo), .val (.int y0), .unset, .unset, .unset, .unset, .unset, .unset] [(.int u2), (.int (1 : Int32)), (.int fo)])) (fun tt kk => ?_) ?_
  · show Steps p.tables e below (T1.setTop (mkF m 23 #[.val (.int u0), .val (.int u1), .val (.int u2), .val (.int u3), .val (.int u4), .val (.int u5), .val (.int ln), .val (.int fo), .val (.int y0), .unset, .unset, .unset, .unset, .unset, .unset] [])) tt
    refine XS.iload X1.here hx rfl (hb hby at_23) rfl ?_
    show Steps p.tables e below (T1.setTop (mkF m 25 #[.val (.int u0), .val (.int u1), .val (.int u2), .val (.int u3), .val (.int u4), .val (.int u5), .val (.int ln), .val (.int fo), .val (.int y0), .unset, .unset, .unset, .unset, .unset, .unset] [(.int fo)])) tt
    refine XS.iconst X1.here hx rfl (hb hby at_25) ?_
    show Steps p.tables e below (T1.setTop (mkF m 26 #[.val (.int u0), .val (.int u1), .val (.int u2), .val (.int u3), .val (.int u4), .val (.int u5), .val (.int ln), .val (.int fo), .val (.int y0), .unset, .unset, .unset, .unset, .unset, .unset] [(.int (1 : Int32)), (.int fo)])) tt
    refine XS.iloadN X1.here hx rfl (hb hby at_26) rfl ?_
    exact kk
  obtain ⟨_, _, ⟨T2, L2, k2, n2⟩, -, X2, ⟨Lc2, hQ2, l2, y2, z2⟩, st2⟩ := Jvm.LawKit.callS X1 hx (y := (⟨"com/example/purloin/runner/PdfsReachedPinLaw", "pick", "(III)I"⟩ : MethodName)) hown (mvT hZ (hw _ (mw 0 rfl))) (mvT hZ (hw _ (mw 1 rfl))) (mvT hZ (hw _ (mw 2 rfl))) (mvT hZ (hw _ (mw 3 rfl))) (by decide) (backOf (W := 0) (rmp l Z a0 hw [] fo (1 : Int32) u2 h0 n0 Z0 ) hZ (hw _ (mw 3 rfl)) (hw _ (mw 2 rfl)) (by decide) (by decide)) (g := (mkF m 27 #[.val (.int u0), .val (.int u1), .val (.int u2), .val (.int u3), .val (.int u4), .val (.int u5), .val (.int ln), .val (.int fo), .val (.int y0), .unset, .unset, .unset, .unset, .unset, .unset] [(.int u2), (.int (1 : Int32)), (.int fo)])) rfl (by rw [hml]; rfl) (argsL := [(.int fo), (.int (1 : Int32)), (.int u2)]) (rest := []) (lenOf pd_0 rfl) rfl (by show 2 * 0 + _ ≤ _; exact Nat.le_of_eq rfl) (hb hby at_27) (fun _ _ => ⟨rfl, e1, (by decide : 0 + 0 ≤ _), (by decide : 0 + 0 ≤ _)⟩)
  dsimp only [Pt.U, Pt.locs, Pt.cells, Pt.slots] at X2 l2 y2 z2 st2 hQ2
  subst l2 y2 z2
  obtain ⟨rfl, N2q, e2⟩ := hQ2
  have N2 := Fr.app N1 N2q
  refine Goal.to (B := T2.setTop (mkF m 30 #[.val (.int u0), .val (.int u1), .val (.int u2), .val (.int u3), .val (.int u4), .val (.int u5), .val (.int ln), .val (.int fo), .val (.int y0), .unset, .unset, .unset, .unset, .unset, .unset] [(.int (if (((fo.toUInt32 >>> ((1 : Int32) &&& 31).toUInt32).toInt32) &&& (1 : Int32)) = (0 : Int32) then u2 else (-1 : Int32)))])) st2 ?_
  obtain ⟨y1, hy1⟩ : ∃ z : Int32, z = (if (((fo.toUInt32 >>> ((1 : Int32) &&& 31).toUInt32).toInt32) &&& (1 : Int32)) = (0 : Int32) then u2 else (-1 : Int32)) := ⟨_, rfl⟩
  refine Goal.to (B := T2.setTop (mkF m 32 #[.val (.int u0), .val (.int u1), .val (.int u2), .val (.int u3), .val (.int u4), .val (.int u5), .val (.int ln), .val (.int fo), .val (.int y0), .val (.int y1), .unset, .unset, .unset, .unset, .unset] [])) (fun tt kk => ?_) ?_
  · subst hy1
    show Steps p.tables e below (T2.setTop (mkF m 30 #[.val (.int u0), .val (.int u1), .val (.int u2), .val (.int u3), .val (.int u4), .val (.int u5), .val (.int ln), .val (.int fo), .val (.int y0), .unset, .unset, .unset, .unset, .unset, .unset] [(.int (if (((fo.toUInt32 >>> ((1 : Int32) &&& 31).toUInt32).toInt32) &&& (1 : Int32)) = (0 : Int32) then u2 else (-1 : Int32)))])) tt
    refine XS.istore X2.here hx rfl (hb hby at_30) rfl (l' := #[.val (.int u0), .val (.int u1), .val (.int u2), .val (.int u3), .val (.int u4), .val (.int u5), .val (.int ln), .val (.int fo), .val (.int y0), .val (.int (if (((fo.toUInt32 >>> ((1 : Int32) &&& 31).toUInt32).toInt32) &&& (1 : Int32)) = (0 : Int32) then u2 else (-1 : Int32))), .unset, .unset, .unset, .unset, .unset]) rfl ?_
    exact kk
  refine Goal.to (B := T2.setTop (mkF m 36 #[.val (.int u0), .val (.int u1), .val (.int u2), .val (.int u3), .val (.int u4), .val (.int u5), .val (.int ln), .val (.int fo), .val (.int y0), .val (.int y1), .unset, .unset, .unset, .unset, .unset] [(.int u3), (.int (2 : Int32)), (.int fo)])) (fun tt kk => ?_) ?_
  · show Steps p.tables e below (T2.setTop (mkF m 32 #[.val (.int u0), .val (.int u1), .val (.int u2), .val (.int u3), .val (.int u4), .val (.int u5), .val (.int ln), .val (.int fo), .val (.int y0), .val (.int y1), .unset, .unset, .unset, .unset, .unset] [])) tt
    refine XS.iload X2.here hx rfl (hb hby at_32) rfl ?_
    show Steps p.tables e below (T2.setTop (mkF m 34 #[.val (.int u0), .val (.int u1), .val (.int u2), .val (.int u3), .val (.int u4), .val (.int u5), .val (.int ln), .val (.int fo), .val (.int y0), .val (.int y1), .unset, .unset, .unset, .unset, .unset] [(.int fo)])) tt
    refine XS.iconst X2.here hx rfl (hb hby at_34) ?_
    show Steps p.tables e below (T2.setTop (mkF m 35 #[.val (.int u0), .val (.int u1), .val (.int u2), .val (.int u3), .val (.int u4), .val (.int u5), .val (.int ln), .val (.int fo), .val (.int y0), .val (.int y1), .unset, .unset, .unset, .unset, .unset] [(.int (2 : Int32)), (.int fo)])) tt
    refine XS.iloadN X2.here hx rfl (hb hby at_35) rfl ?_
    exact kk
  obtain ⟨_, _, ⟨T3, L3, k3, n3⟩, -, X3, ⟨Lc3, hQ3, l3, y3, z3⟩, st3⟩ := Jvm.LawKit.callS X2 hx (y := (⟨"com/example/purloin/runner/PdfsReachedPinLaw", "pick", "(III)I"⟩ : MethodName)) hown (mvT hZ (hw _ (mw 0 rfl))) (mvT hZ (hw _ (mw 1 rfl))) (mvT hZ (hw _ (mw 2 rfl))) (mvT hZ (hw _ (mw 3 rfl))) (by decide) (backOf (W := 0) (rmp l Z a0 hw [] fo (2 : Int32) u3 h0 n0 Z0 ) hZ (hw _ (mw 3 rfl)) (hw _ (mw 2 rfl)) (by decide) (by decide)) (g := (mkF m 36 #[.val (.int u0), .val (.int u1), .val (.int u2), .val (.int u3), .val (.int u4), .val (.int u5), .val (.int ln), .val (.int fo), .val (.int y0), .val (.int y1), .unset, .unset, .unset, .unset, .unset] [(.int u3), (.int (2 : Int32)), (.int fo)])) rfl (by rw [hml]; rfl) (argsL := [(.int fo), (.int (2 : Int32)), (.int u3)]) (rest := []) (lenOf pd_0 rfl) rfl (by show 2 * 0 + _ ≤ _; exact Nat.le_of_eq rfl) (hb hby at_36) (fun _ _ => ⟨rfl, e2, (by decide : 0 + 0 ≤ _), (by decide : 0 + 0 ≤ _)⟩)
  dsimp only [Pt.U, Pt.locs, Pt.cells, Pt.slots] at X3 l3 y3 z3 st3 hQ3
  subst l3 y3 z3
  obtain ⟨rfl, N3q, e3⟩ := hQ3
  have N3 := Fr.app N2 N3q
  refine Goal.to (B := T3.setTop (mkF m 39 #[.val (.int u0), .val (.int u1), .val (.int u2), .val (.int u3), .val (.int u4), .val (.int u5), .val (.int ln), .val (.int fo), .val (.int y0), .val (.int y1), .unset, .unset, .unset, .unset, .unset] [(.int (if (((fo.toUInt32 >>> ((2 : Int32) &&& 31).toUInt32).toInt32) &&& (1 : Int32)) = (0 : Int32) then u3 else (-1 : Int32)))])) st3 ?_
  obtain ⟨y2, hy2⟩ : ∃ z : Int32, z = (if (((fo.toUInt32 >>> ((2 : Int32) &&& 31).toUInt32).toInt32) &&& (1 : Int32)) = (0 : Int32) then u3 else (-1 : Int32)) := ⟨_, rfl⟩
  refine Goal.to (B := T3.setTop (mkF m 41 #[.val (.int u0), .val (.int u1), .val (.int u2), .val (.int u3), .val (.int u4), .val (.int u5), .val (.int ln), .val (.int fo), .val (.int y0), .val (.int y1), .val (.int y2), .unset, .unset, .unset, .unset] [])) (fun tt kk => ?_) ?_
  · subst hy2
    show Steps p.tables e below (T3.setTop (mkF m 39 #[.val (.int u0), .val (.int u1), .val (.int u2), .val (.int u3), .val (.int u4), .val (.int u5), .val (.int ln), .val (.int fo), .val (.int y0), .val (.int y1), .unset, .unset, .unset, .unset, .unset] [(.int (if (((fo.toUInt32 >>> ((2 : Int32) &&& 31).toUInt32).toInt32) &&& (1 : Int32)) = (0 : Int32) then u3 else (-1 : Int32)))])) tt
    refine XS.istore X3.here hx rfl (hb hby at_39) rfl (l' := #[.val (.int u0), .val (.int u1), .val (.int u2), .val (.int u3), .val (.int u4), .val (.int u5), .val (.int ln), .val (.int fo), .val (.int y0), .val (.int y1), .val (.int (if (((fo.toUInt32 >>> ((2 : Int32) &&& 31).toUInt32).toInt32) &&& (1 : Int32)) = (0 : Int32) then u3 else (-1 : Int32))), .unset, .unset, .unset, .unset]) rfl ?_
    exact kk
  refine Goal.to (B := T3.setTop (mkF m 46 #[.val (.int u0), .val (.int u1), .val (.int u2), .val (.int u3), .val (.int u4), .val (.int u5), .val (.int ln), .val (.int fo), .val (.int y0), .val (.int y1), .val (.int y2), .unset, .unset, .unset, .unset] [(.int u4), (.int (3 : Int32)), (.int fo)])) (fun tt kk => ?_) ?_
  · show Steps p.tables e below (T3.setTop (mkF m 41 #[.val (.int u0), .val (.int u1), .val (.int u2), .val (.int u3), .val (.int u4), .val (.int u5), .val (.int ln), .val (.int fo), .val (.int y0), .val (.int y1), .val (.int y2), .unset, .unset, .unset, .unset] [])) tt
    refine XS.iload X3.here hx rfl (hb hby at_41) rfl ?_
    show Steps p.tables e below (T3.setTop (mkF m 43 #[.val (.int u0), .val (.int u1), .val (.int u2), .val (.int u3), .val (.int u4), .val (.int u5), .val (.int ln), .val (.int fo), .val (.int y0), .val (.int y1), .val (.int y2), .unset, .unset, .unset, .unset] [(.int fo)])) tt
    refine XS.iconst X3.here hx rfl (hb hby at_43) ?_
    show Steps p.tables e below (T3.setTop (mkF m 44 #[.val (.int u0), .val (.int u1), .val (.int u2), .val (.int u3), .val (.int u4), .val (.int u5), .val (.int ln), .val (.int fo), .val (.int y0), .val (.int y1), .val (.int y2), .unset, .unset, .unset, .unset] [(.int (3 : Int32)), (.int fo)])) tt
    refine XS.iload X3.here hx rfl (hb hby at_44) rfl ?_
    exact kk
  obtain ⟨_, _, ⟨T4, L4, k4, n4⟩, -, X4, ⟨Lc4, hQ4, l4, y4, z4⟩, st4⟩ := Jvm.LawKit.callS X3 hx (y := (⟨"com/example/purloin/runner/PdfsReachedPinLaw", "pick", "(III)I"⟩ : MethodName)) hown (mvT hZ (hw _ (mw 0 rfl))) (mvT hZ (hw _ (mw 1 rfl))) (mvT hZ (hw _ (mw 2 rfl))) (mvT hZ (hw _ (mw 3 rfl))) (by decide) (backOf (W := 0) (rmp l Z a0 hw [] fo (3 : Int32) u4 h0 n0 Z0 ) hZ (hw _ (mw 3 rfl)) (hw _ (mw 2 rfl)) (by decide) (by decide)) (g := (mkF m 46 #[.val (.int u0), .val (.int u1), .val (.int u2), .val (.int u3), .val (.int u4), .val (.int u5), .val (.int ln), .val (.int fo), .val (.int y0), .val (.int y1), .val (.int y2), .unset, .unset, .unset, .unset] [(.int u4), (.int (3 : Int32)), (.int fo)])) rfl (by rw [hml]; rfl) (argsL := [(.int fo), (.int (3 : Int32)), (.int u4)]) (rest := []) (lenOf pd_0 rfl) rfl (by show 2 * 0 + _ ≤ _; exact Nat.le_of_eq rfl) (hb hby at_46) (fun _ _ => ⟨rfl, e3, (by decide : 0 + 0 ≤ _), (by decide : 0 + 0 ≤ _)⟩)
  dsimp only [Pt.U, Pt.locs, Pt.cells, Pt.slots] at X4 l4 y4 z4 st4 hQ4
  subst l4 y4 z4
  obtain ⟨rfl, N4q, e4⟩ := hQ4
  have N4 := Fr.app N3 N4q
  refine Goal.to (B := T4.setTop (mkF m 49 #[.val (.int u0), .val (.int u1), .val (.int u2), .val (.int u3), .val (.int u4), .val (.int u5), .val (.int ln), .val (.int fo), .val (.int y0), .val (.int y1), .val (.int y2), .unset, .unset, .unset, .unset] [(.int (if (((fo.toUInt32 >>> ((3 : Int32) &&& 31).toUInt32).toInt32) &&& (1 : Int32)) = (0 : Int32) then u4 else (-1 : Int32)))])) st4 ?_
  obtain ⟨y3, hy3⟩ : ∃ z : Int32, z = (if (((fo.toUInt32 >>> ((3 : Int32) &&& 31).toUInt32).toInt32) &&& (1 : Int32)) = (0 : Int32) then u4 else (-1 : Int32)) := ⟨_, rfl⟩
  refine Goal.to (B := T4.setTop (mkF m 51 #[.val (.int u0), .val (.int u1), .val (.int u2), .val (.int u3), .val (.int u4), .val (.int u5), .val (.int ln), .val (.int fo), .val (.int y0), .val (.int y1), .val (.int y2), .val (.int y3), .unset, .unset, .unset] [])) (fun tt kk => ?_) ?_
  · subst hy3
    show Steps p.tables e below (T4.setTop (mkF m 49 #[.val (.int u0), .val (.int u1), .val (.int u2), .val (.int u3), .val (.int u4), .val (.int u5), .val (.int ln), .val (.int fo), .val (.int y0), .val (.int y1), .val (.int y2), .unset, .unset, .unset, .unset] [(.int (if (((fo.toUInt32 >>> ((3 : Int32) &&& 31).toUInt32).toInt32) &&& (1 : Int32)) = (0 : Int32) then u4 else (-1 : Int32)))])) tt
    refine XS.istore X4.here hx rfl (hb hby at_49) rfl (l' := #[.val (.int u0), .val (.int u1), .val (.int u2), .val (.int u3), .val (.int u4), .val (.int u5), .val (.int ln), .val (.int fo), .val (.int y0), .val (.int y1), .val (.int y2), .val (.int (if (((fo.toUInt32 >>> ((3 : Int32) &&& 31).toUInt32).toInt32) &&& (1 : Int32)) = (0 : Int32) then u4 else (-1 : Int32))), .unset, .unset, .unset]) rfl ?_
    exact kk
  refine Goal.to (B := T4.setTop (mkF m 56 #[.val (.int u0), .val (.int u1), .val (.int u2), .val (.int u3), .val (.int u4), .val (.int u5), .val (.int ln), .val (.int fo), .val (.int y0), .val (.int y1), .val (.int y2), .val (.int y3), .unset, .unset, .unset] [(.int u5), (.int (4 : Int32)), (.int fo)])) (fun tt kk => ?_) ?_
  · show Steps p.tables e below (T4.setTop (mkF m 51 #[.val (.int u0), .val (.int u1), .val (.int u2), .val (.int u3), .val (.int u4), .val (.int u5), .val (.int ln), .val (.int fo), .val (.int y0), .val (.int y1), .val (.int y2), .val (.int y3), .unset, .unset, .unset] [])) tt
    refine XS.iload X4.here hx rfl (hb hby at_51) rfl ?_
    show Steps p.tables e below (T4.setTop (mkF m 53 #[.val (.int u0), .val (.int u1), .val (.int u2), .val (.int u3), .val (.int u4), .val (.int u5), .val (.int ln), .val (.int fo), .val (.int y0), .val (.int y1), .val (.int y2), .val (.int y3), .unset, .unset, .unset] [(.int fo)])) tt
    refine XS.iconst X4.here hx rfl (hb hby at_53) ?_
    show Steps p.tables e below (T4.setTop (mkF m 54 #[.val (.int u0), .val (.int u1), .val (.int u2), .val (.int u3), .val (.int u4), .val (.int u5), .val (.int ln), .val (.int fo), .val (.int y0), .val (.int y1), .val (.int y2), .val (.int y3), .unset, .unset, .unset] [(.int (4 : Int32)), (.int fo)])) tt
    refine XS.iload X4.here hx rfl (hb hby at_54) rfl ?_
    exact kk
  obtain ⟨_, _, ⟨T5, L5, k5, n5⟩, -, X5, ⟨Lc5, hQ5, l5, y5, z5⟩, st5⟩ := Jvm.LawKit.callS X4 hx (y := (⟨"com/example/purloin/runner/PdfsReachedPinLaw", "pick", "(III)I"⟩ : MethodName)) hown (mvT hZ (hw _ (mw 0 rfl))) (mvT hZ (hw _ (mw 1 rfl))) (mvT hZ (hw _ (mw 2 rfl))) (mvT hZ (hw _ (mw 3 rfl))) (by decide) (backOf (W := 0) (rmp l Z a0 hw [] fo (4 : Int32) u5 h0 n0 Z0 ) hZ (hw _ (mw 3 rfl)) (hw _ (mw 2 rfl)) (by decide) (by decide)) (g := (mkF m 56 #[.val (.int u0), .val (.int u1), .val (.int u2), .val (.int u3), .val (.int u4), .val (.int u5), .val (.int ln), .val (.int fo), .val (.int y0), .val (.int y1), .val (.int y2), .val (.int y3), .unset, .unset, .unset] [(.int u5), (.int (4 : Int32)), (.int fo)])) rfl (by rw [hml]; rfl) (argsL := [(.int fo), (.int (4 : Int32)), (.int u5)]) (rest := []) (lenOf pd_0 rfl) rfl (by show 2 * 0 + _ ≤ _; exact Nat.le_of_eq rfl) (hb hby at_56) (fun _ _ => ⟨rfl, e4, (by decide : 0 + 0 ≤ _), (by decide : 0 + 0 ≤ _)⟩)
  dsimp only [Pt.U, Pt.locs, Pt.cells, Pt.slots] at X5 l5 y5 z5 st5 hQ5
  subst l5 y5 z5
  obtain ⟨rfl, N5q, e5⟩ := hQ5
  have N5 := Fr.app N4 N5q
  refine Goal.to (B := T5.setTop (mkF m 59 #[.val (.int u0), .val (.int u1), .val (.int u2), .val (.int u3), .val (.int u4), .val (.int u5), .val (.int ln), .val (.int fo), .val (.int y0), .val (.int y1), .val (.int y2), .val (.int y3), .unset, .unset, .unset] [(.int (if (((fo.toUInt32 >>> ((4 : Int32) &&& 31).toUInt32).toInt32) &&& (1 : Int32)) = (0 : Int32) then u5 else (-1 : Int32)))])) st5 ?_
  obtain ⟨y4, hy4⟩ : ∃ z : Int32, z = (if (((fo.toUInt32 >>> ((4 : Int32) &&& 31).toUInt32).toInt32) &&& (1 : Int32)) = (0 : Int32) then u5 else (-1 : Int32)) := ⟨_, rfl⟩
  refine Goal.to (B := T5.setTop (mkF m 61 #[.val (.int u0), .val (.int u1), .val (.int u2), .val (.int u3), .val (.int u4), .val (.int u5), .val (.int ln), .val (.int fo), .val (.int y0), .val (.int y1), .val (.int y2), .val (.int y3), .val (.int y4), .unset, .unset] [])) (fun tt kk => ?_) ?_
  · subst hy4
    show Steps p.tables e below (T5.setTop (mkF m 59 #[.val (.int u0), .val (.int u1), .val (.int u2), .val (.int u3), .val (.int u4), .val (.int u5), .val (.int ln), .val (.int fo), .val (.int y0), .val (.int y1), .val (.int y2), .val (.int y3), .unset, .unset, .unset] [(.int (if (((fo.toUInt32 >>> ((4 : Int32) &&& 31).toUInt32).toInt32) &&& (1 : Int32)) = (0 : Int32) then u5 else (-1 : Int32)))])) tt
    refine XS.istore X5.here hx rfl (hb hby at_59) rfl (l' := #[.val (.int u0), .val (.int u1), .val (.int u2), .val (.int u3), .val (.int u4), .val (.int u5), .val (.int ln), .val (.int fo), .val (.int y0), .val (.int y1), .val (.int y2), .val (.int y3), .val (.int (if (((fo.toUInt32 >>> ((4 : Int32) &&& 31).toUInt32).toInt32) &&& (1 : Int32)) = (0 : Int32) then u5 else (-1 : Int32))), .unset, .unset]) rfl ?_
    exact kk
  refine Goal.to (B := T5.setTop (mkF m 63 #[.val (.int u0), .val (.int u1), .val (.int u2), .val (.int u3), .val (.int u4), .val (.int u5), .val (.int ln), .val (.int fo), .val (.int y0), .val (.int y1), .val (.int y2), .val (.int y3), .val (.int y4), .unset, .unset] [(.int ln)])) (fun tt kk => ?_) ?_
  · show Steps p.tables e below (T5.setTop (mkF m 61 #[.val (.int u0), .val (.int u1), .val (.int u2), .val (.int u3), .val (.int u4), .val (.int u5), .val (.int ln), .val (.int fo), .val (.int y0), .val (.int y1), .val (.int y2), .val (.int y3), .val (.int y4), .unset, .unset] [])) tt
    refine XS.iload X5.here hx rfl (hb hby at_61) rfl ?_
    exact kk
  rcases own_ln hln with rfl | rfl | rfl | rfl | rfl | rfl
  · obtain ⟨T6, h6, k6, X6, e6, E6, A6, st6⟩ := newP X5 hx hZ (hw _ (mw 4 rfl)) e5 (g := (mkF m 63 #[.val (.int u0), .val (.int u1), .val (.int u2), .val (.int u3), .val (.int u4), .val (.int u5), .val (.int (0 : Int32)), .val (.int fo), .val (.int y0), .val (.int y1), .val (.int y2), .val (.int y3), .val (.int y4), .unset, .unset] [(.int (0 : Int32))])) rfl (hb hby at_63) rfl (by decide) (cap := 0) (by decide) (by decide) (by decide) (by decide)
    obtain ⟨b6, g6⟩ : ∃ z, z = h0.size := ⟨_, rfl⟩
    rw [← g6] at A6 st6
    have g_b6 : n0 ≤ b6 := Nat.le_trans Z0 (Nat.le_of_eq g6.symm)
    have V6 : Ary Z h6 b6 .int [] := Ary.new A6 rfl
    refine Goal.to (B := T6.setTop (mkF m 65 #[.val (.int u0), .val (.int u1), .val (.int u2), .val (.int u3), .val (.int u4), .val (.int u5), .val (.int (0 : Int32)), .val (.int fo), .val (.int y0), .val (.int y1), .val (.int y2), .val (.int y3), .val (.int y4), .unset, .unset] [(.ref b6)])) st6 ?_
    refine Goal.to (B := T6.setTop (mkF m 138 #[.val (.int u0), .val (.int u1), .val (.int u2), .val (.int u3), .val (.int u4), .val (.int u5), .val (.int (0 : Int32)), .val (.int fo), .val (.int y0), .val (.int y1), .val (.int y2), .val (.int y3), .val (.int y4), .val (.ref b6), .unset] [(.int y0), (.int (0 : Int32))])) (fun tt kk => ?_) ?_
    · show Steps p.tables e below (T6.setTop (mkF m 65 #[.val (.int u0), .val (.int u1), .val (.int u2), .val (.int u3), .val (.int u4), .val (.int u5), .val (.int (0 : Int32)), .val (.int fo), .val (.int y0), .val (.int y1), .val (.int y2), .val (.int y3), .val (.int y4), .unset, .unset] [(.ref b6)])) tt
      refine XS.astore X6.here hx rfl (hb hby at_65) rfl rfl (l' := #[.val (.int u0), .val (.int u1), .val (.int u2), .val (.int u3), .val (.int u4), .val (.int u5), .val (.int (0 : Int32)), .val (.int fo), .val (.int y0), .val (.int y1), .val (.int y2), .val (.int y3), .val (.int y4), .val (.ref b6), .unset]) rfl ?_
      show Steps p.tables e below (T6.setTop (mkF m 67 #[.val (.int u0), .val (.int u1), .val (.int u2), .val (.int u3), .val (.int u4), .val (.int u5), .val (.int (0 : Int32)), .val (.int fo), .val (.int y0), .val (.int y1), .val (.int y2), .val (.int y3), .val (.int y4), .val (.ref b6), .unset] [])) tt
      refine XS.iload X6.here hx rfl (hb hby at_67) rfl ?_
      show Steps p.tables e below (T6.setTop (mkF m 69 #[.val (.int u0), .val (.int u1), .val (.int u2), .val (.int u3), .val (.int u4), .val (.int u5), .val (.int (0 : Int32)), .val (.int fo), .val (.int y0), .val (.int y1), .val (.int y2), .val (.int y3), .val (.int y4), .val (.ref b6), .unset] [(.int (0 : Int32))])) tt
      refine XS.ifYes X6.here hx rfl (pc0 := 69) (pc' := 78) rfl (hb hby at_69) rfl ((if0 _ _).trans (flt (Int32.lt_irrefl : ¬ ((0 : Int32) < (0 : Int32)))).2.2.2) (by decide) (by decide) ?_
      show Steps p.tables e below (T6.setTop (mkF m 78 #[.val (.int u0), .val (.int u1), .val (.int u2), .val (.int u3), .val (.int u4), .val (.int u5), .val (.int (0 : Int32)), .val (.int fo), .val (.int y0), .val (.int y1), .val (.int y2), .val (.int y3), .val (.int y4), .val (.ref b6), .unset] [])) tt
      refine XS.iload X6.here hx rfl (hb hby at_78) rfl ?_
      show Steps p.tables e below (T6.setTop (mkF m 80 #[.val (.int u0), .val (.int u1), .val (.int u2), .val (.int u3), .val (.int u4), .val (.int u5), .val (.int (0 : Int32)), .val (.int fo), .val (.int y0), .val (.int y1), .val (.int y2), .val (.int y3), .val (.int y4), .val (.ref b6), .unset] [(.int (0 : Int32))])) tt
      refine XS.iconst X6.here hx rfl (hb hby at_80) ?_
      show Steps p.tables e below (T6.setTop (mkF m 81 #[.val (.int u0), .val (.int u1), .val (.int u2), .val (.int u3), .val (.int u4), .val (.int u5), .val (.int (0 : Int32)), .val (.int fo), .val (.int y0), .val (.int y1), .val (.int y2), .val (.int y3), .val (.int y4), .val (.ref b6), .unset] [(.int (1 : Int32)), (.int (0 : Int32))])) tt
      refine XS.icmpYes X6.here hx rfl (pc0 := 81) (pc' := 90) rfl (hb hby at_81) rfl (flt ((by decide) : ¬ ((1 : Int32) < (0 : Int32)))).2.2.2 (by decide) (by decide) ?_
      show Steps p.tables e below (T6.setTop (mkF m 90 #[.val (.int u0), .val (.int u1), .val (.int u2), .val (.int u3), .val (.int u4), .val (.int u5), .val (.int (0 : Int32)), .val (.int fo), .val (.int y0), .val (.int y1), .val (.int y2), .val (.int y3), .val (.int y4), .val (.ref b6), .unset] [])) tt
      refine XS.iload X6.here hx rfl (hb hby at_90) rfl ?_
      show Steps p.tables e below (T6.setTop (mkF m 92 #[.val (.int u0), .val (.int u1), .val (.int u2), .val (.int u3), .val (.int u4), .val (.int u5), .val (.int (0 : Int32)), .val (.int fo), .val (.int y0), .val (.int y1), .val (.int y2), .val (.int y3), .val (.int y4), .val (.ref b6), .unset] [(.int (0 : Int32))])) tt
      refine XS.iconst X6.here hx rfl (hb hby at_92) ?_
      show Steps p.tables e below (T6.setTop (mkF m 93 #[.val (.int u0), .val (.int u1), .val (.int u2), .val (.int u3), .val (.int u4), .val (.int u5), .val (.int (0 : Int32)), .val (.int fo), .val (.int y0), .val (.int y1), .val (.int y2), .val (.int y3), .val (.int y4), .val (.ref b6), .unset] [(.int (2 : Int32)), (.int (0 : Int32))])) tt
      refine XS.icmpYes X6.here hx rfl (pc0 := 93) (pc' := 102) rfl (hb hby at_93) rfl (flt ((by decide) : ¬ ((2 : Int32) < (0 : Int32)))).2.2.2 (by decide) (by decide) ?_
      show Steps p.tables e below (T6.setTop (mkF m 102 #[.val (.int u0), .val (.int u1), .val (.int u2), .val (.int u3), .val (.int u4), .val (.int u5), .val (.int (0 : Int32)), .val (.int fo), .val (.int y0), .val (.int y1), .val (.int y2), .val (.int y3), .val (.int y4), .val (.ref b6), .unset] [])) tt
      refine XS.iload X6.here hx rfl (hb hby at_102) rfl ?_
      show Steps p.tables e below (T6.setTop (mkF m 104 #[.val (.int u0), .val (.int u1), .val (.int u2), .val (.int u3), .val (.int u4), .val (.int u5), .val (.int (0 : Int32)), .val (.int fo), .val (.int y0), .val (.int y1), .val (.int y2), .val (.int y3), .val (.int y4), .val (.ref b6), .unset] [(.int (0 : Int32))])) tt
      refine XS.iconst X6.here hx rfl (hb hby at_104) ?_
      show Steps p.tables e below (T6.setTop (mkF m 105 #[.val (.int u0), .val (.int u1), .val (.int u2), .val (.int u3), .val (.int u4), .val (.int u5), .val (.int (0 : Int32)), .val (.int fo), .val (.int y0), .val (.int y1), .val (.int y2), .val (.int y3), .val (.int y4), .val (.ref b6), .unset] [(.int (3 : Int32)), (.int (0 : Int32))])) tt
      refine XS.icmpYes X6.here hx rfl (pc0 := 105) (pc' := 114) rfl (hb hby at_105) rfl (flt ((by decide) : ¬ ((3 : Int32) < (0 : Int32)))).2.2.2 (by decide) (by decide) ?_
      show Steps p.tables e below (T6.setTop (mkF m 114 #[.val (.int u0), .val (.int u1), .val (.int u2), .val (.int u3), .val (.int u4), .val (.int u5), .val (.int (0 : Int32)), .val (.int fo), .val (.int y0), .val (.int y1), .val (.int y2), .val (.int y3), .val (.int y4), .val (.ref b6), .unset] [])) tt
      refine XS.iload X6.here hx rfl (hb hby at_114) rfl ?_
      show Steps p.tables e below (T6.setTop (mkF m 116 #[.val (.int u0), .val (.int u1), .val (.int u2), .val (.int u3), .val (.int u4), .val (.int u5), .val (.int (0 : Int32)), .val (.int fo), .val (.int y0), .val (.int y1), .val (.int y2), .val (.int y3), .val (.int y4), .val (.ref b6), .unset] [(.int (0 : Int32))])) tt
      refine XS.iconst X6.here hx rfl (hb hby at_116) ?_
      show Steps p.tables e below (T6.setTop (mkF m 117 #[.val (.int u0), .val (.int u1), .val (.int u2), .val (.int u3), .val (.int u4), .val (.int u5), .val (.int (0 : Int32)), .val (.int fo), .val (.int y0), .val (.int y1), .val (.int y2), .val (.int y3), .val (.int y4), .val (.ref b6), .unset] [(.int (4 : Int32)), (.int (0 : Int32))])) tt
      refine XS.icmpYes X6.here hx rfl (pc0 := 117) (pc' := 126) rfl (hb hby at_117) rfl (flt ((by decide) : ¬ ((4 : Int32) < (0 : Int32)))).2.2.2 (by decide) (by decide) ?_
      show Steps p.tables e below (T6.setTop (mkF m 126 #[.val (.int u0), .val (.int u1), .val (.int u2), .val (.int u3), .val (.int u4), .val (.int u5), .val (.int (0 : Int32)), .val (.int fo), .val (.int y0), .val (.int y1), .val (.int y2), .val (.int y3), .val (.int y4), .val (.ref b6), .unset] [])) tt
      refine XS.iload X6.here hx rfl (hb hby at_126) rfl ?_
      show Steps p.tables e below (T6.setTop (mkF m 128 #[.val (.int u0), .val (.int u1), .val (.int u2), .val (.int u3), .val (.int u4), .val (.int u5), .val (.int (0 : Int32)), .val (.int fo), .val (.int y0), .val (.int y1), .val (.int y2), .val (.int y3), .val (.int y4), .val (.ref b6), .unset] [(.int (0 : Int32))])) tt
      refine XS.ifYes X6.here hx rfl (pc0 := 128) (pc' := 135) rfl (hb hby at_128) rfl ((if0 _ _).trans (flt (Int32.lt_irrefl : ¬ ((0 : Int32) < (0 : Int32)))).2.2.2) (by decide) (by decide) ?_
      show Steps p.tables e below (T6.setTop (mkF m 135 #[.val (.int u0), .val (.int u1), .val (.int u2), .val (.int u3), .val (.int u4), .val (.int u5), .val (.int (0 : Int32)), .val (.int fo), .val (.int y0), .val (.int y1), .val (.int y2), .val (.int y3), .val (.int y4), .val (.ref b6), .unset] [])) tt
      refine XS.iconst X6.here hx rfl (hb hby at_135) ?_
      show Steps p.tables e below (T6.setTop (mkF m 136 #[.val (.int u0), .val (.int u1), .val (.int u2), .val (.int u3), .val (.int u4), .val (.int u5), .val (.int (0 : Int32)), .val (.int fo), .val (.int y0), .val (.int y1), .val (.int y2), .val (.int y3), .val (.int y4), .val (.ref b6), .unset] [(.int (0 : Int32))])) tt
      refine XS.iload X6.here hx rfl (hb hby at_136) rfl ?_
      exact kk
    have f7 : n0 ≤ h6.size := (Nat.le_trans Z0 E6.1)
    obtain ⟨_, _, ⟨T8, L8, k8, n8⟩, -, X8, ⟨Lc8, hQ8, l8, y8, z8⟩, st8⟩ := Jvm.LawKit.callS X6 hx (y := (⟨"com/example/purloin/runner/PdfsReachedPinLaw", "one", "(ZI)I"⟩ : MethodName)) hown (mvT hZ (hw _ (mw 5 rfl))) (mvT hZ (hw _ (mw 6 rfl))) (mvT hZ (hw _ (mw 2 rfl))) (mvT hZ (hw _ (mw 7 rfl))) (by decide) (backOf (W := 0) (rmo l Z a0 hw [] (0 : Int32) y0 h6 n0 f7 ) hZ (hw _ (mw 7 rfl)) (hw _ (mw 2 rfl)) (by decide) (by decide)) (g := (mkF m 138 #[.val (.int u0), .val (.int u1), .val (.int u2), .val (.int u3), .val (.int u4), .val (.int u5), .val (.int (0 : Int32)), .val (.int fo), .val (.int y0), .val (.int y1), .val (.int y2), .val (.int y3), .val (.int y4), .val (.ref b6), .unset] [(.int y0), (.int (0 : Int32))])) rfl (by rw [hml]; rfl) (argsL := [(.int (0 : Int32)), (.int y0)]) (rest := []) (lenOf pd_1 rfl) rfl (by show 2 * 0 + _ ≤ _; exact Nat.le_of_eq rfl) (hb hby at_138) (fun _ _ => ⟨rfl, e6, (by decide : 1 + 0 ≤ _), (by decide : 0 + 0 ≤ _)⟩)
    dsimp only [Pt.U, Pt.locs, Pt.cells, Pt.slots] at X8 l8 y8 z8 st8 hQ8
    subst l8 y8 z8
    obtain ⟨rfl, N8q, e8⟩ := hQ8
    have N8 := Fr.app N5 N8q
    refine Goal.to (B := T8.setTop (mkF m 141 #[.val (.int u0), .val (.int u1), .val (.int u2), .val (.int u3), .val (.int u4), .val (.int u5), .val (.int (0 : Int32)), .val (.int fo), .val (.int y0), .val (.int y1), .val (.int y2), .val (.int y3), .val (.int y4), .val (.ref b6), .unset] [(.int (own_one (0 : Int32) y0))])) st8 ?_
    refine Goal.to (B := T8.setTop (mkF m 154 #[.val (.int u0), .val (.int u1), .val (.int u2), .val (.int u3), .val (.int u4), .val (.int u5), .val (.int (0 : Int32)), .val (.int fo), .val (.int y0), .val (.int y1), .val (.int y2), .val (.int y3), .val (.int y4), .val (.ref b6), .unset] [(.int y1), (.int (0 : Int32)), (.int (own_one (0 : Int32) y0))])) (fun tt kk => ?_) ?_
    · show Steps p.tables e below (T8.setTop (mkF m 141 #[.val (.int u0), .val (.int u1), .val (.int u2), .val (.int u3), .val (.int u4), .val (.int u5), .val (.int (0 : Int32)), .val (.int fo), .val (.int y0), .val (.int y1), .val (.int y2), .val (.int y3), .val (.int y4), .val (.ref b6), .unset] [(.int (own_one (0 : Int32) y0))])) tt
      refine XS.iload X8.here hx rfl (hb hby at_141) rfl ?_
      show Steps p.tables e below (T8.setTop (mkF m 143 #[.val (.int u0), .val (.int u1), .val (.int u2), .val (.int u3), .val (.int u4), .val (.int u5), .val (.int (0 : Int32)), .val (.int fo), .val (.int y0), .val (.int y1), .val (.int y2), .val (.int y3), .val (.int y4), .val (.ref b6), .unset] [(.int (0 : Int32)), (.int (own_one (0 : Int32) y0))])) tt
      refine XS.iconst X8.here hx rfl (hb hby at_143) ?_
      show Steps p.tables e below (T8.setTop (mkF m 144 #[.val (.int u0), .val (.int u1), .val (.int u2), .val (.int u3), .val (.int u4), .val (.int u5), .val (.int (0 : Int32)), .val (.int fo), .val (.int y0), .val (.int y1), .val (.int y2), .val (.int y3), .val (.int y4), .val (.ref b6), .unset] [(.int (1 : Int32)), (.int (0 : Int32)), (.int (own_one (0 : Int32) y0))])) tt
      refine XS.icmpYes X8.here hx rfl (pc0 := 144) (pc' := 151) rfl (hb hby at_144) rfl (flt ((by decide) : ¬ ((1 : Int32) < (0 : Int32)))).2.2.2 (by decide) (by decide) ?_
      show Steps p.tables e below (T8.setTop (mkF m 151 #[.val (.int u0), .val (.int u1), .val (.int u2), .val (.int u3), .val (.int u4), .val (.int u5), .val (.int (0 : Int32)), .val (.int fo), .val (.int y0), .val (.int y1), .val (.int y2), .val (.int y3), .val (.int y4), .val (.ref b6), .unset] [(.int (own_one (0 : Int32) y0))])) tt
      refine XS.iconst X8.here hx rfl (hb hby at_151) ?_
      show Steps p.tables e below (T8.setTop (mkF m 152 #[.val (.int u0), .val (.int u1), .val (.int u2), .val (.int u3), .val (.int u4), .val (.int u5), .val (.int (0 : Int32)), .val (.int fo), .val (.int y0), .val (.int y1), .val (.int y2), .val (.int y3), .val (.int y4), .val (.ref b6), .unset] [(.int (0 : Int32)), (.int (own_one (0 : Int32) y0))])) tt
      refine XS.iload X8.here hx rfl (hb hby at_152) rfl ?_
      exact kk
    obtain ⟨_, _, ⟨T9, L9, k9, n9⟩, -, X9, ⟨Lc9, hQ9, l9, y9, z9⟩, st9⟩ := Jvm.LawKit.callS X8 hx (y := (⟨"com/example/purloin/runner/PdfsReachedPinLaw", "one", "(ZI)I"⟩ : MethodName)) hown (mvT hZ (hw _ (mw 5 rfl))) (mvT hZ (hw _ (mw 6 rfl))) (mvT hZ (hw _ (mw 2 rfl))) (mvT hZ (hw _ (mw 7 rfl))) (by decide) (backOf (W := 1) (rmo l Z a0 hw [] (0 : Int32) y1 h6 n0 f7 ) hZ (hw _ (mw 7 rfl)) (hw _ (mw 2 rfl)) (by decide) (by decide)) (g := (mkF m 154 #[.val (.int u0), .val (.int u1), .val (.int u2), .val (.int u3), .val (.int u4), .val (.int u5), .val (.int (0 : Int32)), .val (.int fo), .val (.int y0), .val (.int y1), .val (.int y2), .val (.int y3), .val (.int y4), .val (.ref b6), .unset] [(.int y1), (.int (0 : Int32)), (.int (own_one (0 : Int32) y0))])) rfl (by rw [hml]; rfl) (argsL := [(.int (0 : Int32)), (.int y1)]) (rest := [(.int (own_one (0 : Int32) y0))]) (lenOf pd_1 rfl) rfl (by show 2 * 0 + _ ≤ _; exact Nat.le_of_eq rfl) (hb hby at_154) (fun _ _ => ⟨rfl, e8, (by decide : 1 + 0 ≤ _), (by decide : 0 + 0 ≤ _)⟩)
    dsimp only [Pt.U, Pt.locs, Pt.cells, Pt.slots] at X9 l9 y9 z9 st9 hQ9
    subst l9 y9 z9
    obtain ⟨rfl, N9q, e9⟩ := hQ9
    have N9 := Fr.app N8 N9q
    refine Goal.to (B := T9.setTop (mkF m 157 #[.val (.int u0), .val (.int u1), .val (.int u2), .val (.int u3), .val (.int u4), .val (.int u5), .val (.int (0 : Int32)), .val (.int fo), .val (.int y0), .val (.int y1), .val (.int y2), .val (.int y3), .val (.int y4), .val (.ref b6), .unset] [(.int (own_one (0 : Int32) y1)), (.int (own_one (0 : Int32) y0))])) st9 ?_
    refine Goal.to (B := T9.setTop (mkF m 171 #[.val (.int u0), .val (.int u1), .val (.int u2), .val (.int u3), .val (.int u4), .val (.int u5), .val (.int (0 : Int32)), .val (.int fo), .val (.int y0), .val (.int y1), .val (.int y2), .val (.int y3), .val (.int y4), .val (.ref b6), .unset] [(.int y2), (.int (0 : Int32)), (.int ((own_one (0 : Int32) y0) + (own_one (0 : Int32) y1)))])) (fun tt kk => ?_) ?_
    · show Steps p.tables e below (T9.setTop (mkF m 157 #[.val (.int u0), .val (.int u1), .val (.int u2), .val (.int u3), .val (.int u4), .val (.int u5), .val (.int (0 : Int32)), .val (.int fo), .val (.int y0), .val (.int y1), .val (.int y2), .val (.int y3), .val (.int y4), .val (.ref b6), .unset] [(.int (own_one (0 : Int32) y1)), (.int (own_one (0 : Int32) y0))])) tt
      refine XS.iadd X9.here hx rfl (hb hby at_157) rfl ?_
      show Steps p.tables e below (T9.setTop (mkF m 158 #[.val (.int u0), .val (.int u1), .val (.int u2), .val (.int u3), .val (.int u4), .val (.int u5), .val (.int (0 : Int32)), .val (.int fo), .val (.int y0), .val (.int y1), .val (.int y2), .val (.int y3), .val (.int y4), .val (.ref b6), .unset] [(.int ((own_one (0 : Int32) y0) + (own_one (0 : Int32) y1)))])) tt
      refine XS.iload X9.here hx rfl (hb hby at_158) rfl ?_
      show Steps p.tables e below (T9.setTop (mkF m 160 #[.val (.int u0), .val (.int u1), .val (.int u2), .val (.int u3), .val (.int u4), .val (.int u5), .val (.int (0 : Int32)), .val (.int fo), .val (.int y0), .val (.int y1), .val (.int y2), .val (.int y3), .val (.int y4), .val (.ref b6), .unset] [(.int (0 : Int32)), (.int ((own_one (0 : Int32) y0) + (own_one (0 : Int32) y1)))])) tt
      refine XS.iconst X9.here hx rfl (hb hby at_160) ?_
      show Steps p.tables e below (T9.setTop (mkF m 161 #[.val (.int u0), .val (.int u1), .val (.int u2), .val (.int u3), .val (.int u4), .val (.int u5), .val (.int (0 : Int32)), .val (.int fo), .val (.int y0), .val (.int y1), .val (.int y2), .val (.int y3), .val (.int y4), .val (.ref b6), .unset] [(.int (2 : Int32)), (.int (0 : Int32)), (.int ((own_one (0 : Int32) y0) + (own_one (0 : Int32) y1)))])) tt
      refine XS.icmpYes X9.here hx rfl (pc0 := 161) (pc' := 168) rfl (hb hby at_161) rfl (flt ((by decide) : ¬ ((2 : Int32) < (0 : Int32)))).2.2.2 (by decide) (by decide) ?_
      show Steps p.tables e below (T9.setTop (mkF m 168 #[.val (.int u0), .val (.int u1), .val (.int u2), .val (.int u3), .val (.int u4), .val (.int u5), .val (.int (0 : Int32)), .val (.int fo), .val (.int y0), .val (.int y1), .val (.int y2), .val (.int y3), .val (.int y4), .val (.ref b6), .unset] [(.int ((own_one (0 : Int32) y0) + (own_one (0 : Int32) y1)))])) tt
      refine XS.iconst X9.here hx rfl (hb hby at_168) ?_
      show Steps p.tables e below (T9.setTop (mkF m 169 #[.val (.int u0), .val (.int u1), .val (.int u2), .val (.int u3), .val (.int u4), .val (.int u5), .val (.int (0 : Int32)), .val (.int fo), .val (.int y0), .val (.int y1), .val (.int y2), .val (.int y3), .val (.int y4), .val (.ref b6), .unset] [(.int (0 : Int32)), (.int ((own_one (0 : Int32) y0) + (own_one (0 : Int32) y1)))])) tt
      refine XS.iload X9.here hx rfl (hb hby at_169) rfl ?_
      exact kk
    obtain ⟨_, _, ⟨T10, L10, k10, n10⟩, -, X10, ⟨Lc10, hQ10, l10, y10, z10⟩, st10⟩ := Jvm.LawKit.callS X9 hx (y := (⟨"com/example/purloin/runner/PdfsReachedPinLaw", "one", "(ZI)I"⟩ : MethodName)) hown (mvT hZ (hw _ (mw 5 rfl))) (mvT hZ (hw _ (mw 6 rfl))) (mvT hZ (hw _ (mw 2 rfl))) (mvT hZ (hw _ (mw 7 rfl))) (by decide) (backOf (W := 1) (rmo l Z a0 hw [] (0 : Int32) y2 h6 n0 f7 ) hZ (hw _ (mw 7 rfl)) (hw _ (mw 2 rfl)) (by decide) (by decide)) (g := (mkF m 171 #[.val (.int u0), .val (.int u1), .val (.int u2), .val (.int u3), .val (.int u4), .val (.int u5), .val (.int (0 : Int32)), .val (.int fo), .val (.int y0), .val (.int y1), .val (.int y2), .val (.int y3), .val (.int y4), .val (.ref b6), .unset] [(.int y2), (.int (0 : Int32)), (.int ((own_one (0 : Int32) y0) + (own_one (0 : Int32) y1)))])) rfl (by rw [hml]; rfl) (argsL := [(.int (0 : Int32)), (.int y2)]) (rest := [(.int ((own_one (0 : Int32) y0) + (own_one (0 : Int32) y1)))]) (lenOf pd_1 rfl) rfl (by show 2 * 0 + _ ≤ _; exact Nat.le_of_eq rfl) (hb hby at_171) (fun _ _ => ⟨rfl, e9, (by decide : 1 + 0 ≤ _), (by decide : 0 + 0 ≤ _)⟩)
    dsimp only [Pt.U, Pt.locs, Pt.cells, Pt.slots] at X10 l10 y10 z10 st10 hQ10
    subst l10 y10 z10
    obtain ⟨rfl, N10q, e10⟩ := hQ10
    have N10 := Fr.app N9 N10q
    refine Goal.to (B := T10.setTop (mkF m 174 #[.val (.int u0), .val (.int u1), .val (.int u2), .val (.int u3), .val (.int u4), .val (.int u5), .val (.int (0 : Int32)), .val (.int fo), .val (.int y0), .val (.int y1), .val (.int y2), .val (.int y3), .val (.int y4), .val (.ref b6), .unset] [(.int (own_one (0 : Int32) y2)), (.int ((own_one (0 : Int32) y0) + (own_one (0 : Int32) y1)))])) st10 ?_
    refine Goal.to (B := T10.setTop (mkF m 188 #[.val (.int u0), .val (.int u1), .val (.int u2), .val (.int u3), .val (.int u4), .val (.int u5), .val (.int (0 : Int32)), .val (.int fo), .val (.int y0), .val (.int y1), .val (.int y2), .val (.int y3), .val (.int y4), .val (.ref b6), .unset] [(.int y3), (.int (0 : Int32)), (.int (((own_one (0 : Int32) y0) + (own_one (0 : Int32) y1)) + (own_one (0 : Int32) y2)))])) (fun tt kk => ?_) ?_
    · show Steps p.tables e below (T10.setTop (mkF m 174 #[.val (.int u0), .val (.int u1), .val (.int u2), .val (.int u3), .val (.int u4), .val (.int u5), .val (.int (0 : Int32)), .val (.int fo), .val (.int y0), .val (.int y1), .val (.int y2), .val (.int y3), .val (.int y4), .val (.ref b6), .unset] [(.int (own_one (0 : Int32) y2)), (.int ((own_one (0 : Int32) y0) + (own_one (0 : Int32) y1)))])) tt
      refine XS.iadd X10.here hx rfl (hb hby at_174) rfl ?_
      show Steps p.tables e below (T10.setTop (mkF m 175 #[.val (.int u0), .val (.int u1), .val (.int u2), .val (.int u3), .val (.int u4), .val (.int u5), .val (.int (0 : Int32)), .val (.int fo), .val (.int y0), .val (.int y1), .val (.int y2), .val (.int y3), .val (.int y4), .val (.ref b6), .unset] [(.int (((own_one (0 : Int32) y0) + (own_one (0 : Int32) y1)) + (own_one (0 : Int32) y2)))])) tt
      refine XS.iload X10.here hx rfl (hb hby at_175) rfl ?_
      show Steps p.tables e below (T10.setTop (mkF m 177 #[.val (.int u0), .val (.int u1), .val (.int u2), .val (.int u3), .val (.int u4), .val (.int u5), .val (.int (0 : Int32)), .val (.int fo), .val (.int y0), .val (.int y1), .val (.int y2), .val (.int y3), .val (.int y4), .val (.ref b6), .unset] [(.int (0 : Int32)), (.int (((own_one (0 : Int32) y0) + (own_one (0 : Int32) y1)) + (own_one (0 : Int32) y2)))])) tt
      refine XS.iconst X10.here hx rfl (hb hby at_177) ?_
      show Steps p.tables e below (T10.setTop (mkF m 178 #[.val (.int u0), .val (.int u1), .val (.int u2), .val (.int u3), .val (.int u4), .val (.int u5), .val (.int (0 : Int32)), .val (.int fo), .val (.int y0), .val (.int y1), .val (.int y2), .val (.int y3), .val (.int y4), .val (.ref b6), .unset] [(.int (3 : Int32)), (.int (0 : Int32)), (.int (((own_one (0 : Int32) y0) + (own_one (0 : Int32) y1)) + (own_one (0 : Int32) y2)))])) tt
      refine XS.icmpYes X10.here hx rfl (pc0 := 178) (pc' := 185) rfl (hb hby at_178) rfl (flt ((by decide) : ¬ ((3 : Int32) < (0 : Int32)))).2.2.2 (by decide) (by decide) ?_
      show Steps p.tables e below (T10.setTop (mkF m 185 #[.val (.int u0), .val (.int u1), .val (.int u2), .val (.int u3), .val (.int u4), .val (.int u5), .val (.int (0 : Int32)), .val (.int fo), .val (.int y0), .val (.int y1), .val (.int y2), .val (.int y3), .val (.int y4), .val (.ref b6), .unset] [(.int (((own_one (0 : Int32) y0) + (own_one (0 : Int32) y1)) + (own_one (0 : Int32) y2)))])) tt
      refine XS.iconst X10.here hx rfl (hb hby at_185) ?_
      show Steps p.tables e below (T10.setTop (mkF m 186 #[.val (.int u0), .val (.int u1), .val (.int u2), .val (.int u3), .val (.int u4), .val (.int u5), .val (.int (0 : Int32)), .val (.int fo), .val (.int y0), .val (.int y1), .val (.int y2), .val (.int y3), .val (.int y4), .val (.ref b6), .unset] [(.int (0 : Int32)), (.int (((own_one (0 : Int32) y0) + (own_one (0 : Int32) y1)) + (own_one (0 : Int32) y2)))])) tt
      refine XS.iload X10.here hx rfl (hb hby at_186) rfl ?_
      exact kk
    obtain ⟨_, _, ⟨T11, L11, k11, n11⟩, -, X11, ⟨Lc11, hQ11, l11, y11, z11⟩, st11⟩ := Jvm.LawKit.callS X10 hx (y := (⟨"com/example/purloin/runner/PdfsReachedPinLaw", "one", "(ZI)I"⟩ : MethodName)) hown (mvT hZ (hw _ (mw 5 rfl))) (mvT hZ (hw _ (mw 6 rfl))) (mvT hZ (hw _ (mw 2 rfl))) (mvT hZ (hw _ (mw 7 rfl))) (by decide) (backOf (W := 1) (rmo l Z a0 hw [] (0 : Int32) y3 h6 n0 f7 ) hZ (hw _ (mw 7 rfl)) (hw _ (mw 2 rfl)) (by decide) (by decide)) (g := (mkF m 188 #[.val (.int u0), .val (.int u1), .val (.int u2), .val (.int u3), .val (.int u4), .val (.int u5), .val (.int (0 : Int32)), .val (.int fo), .val (.int y0), .val (.int y1), .val (.int y2), .val (.int y3), .val (.int y4), .val (.ref b6), .unset] [(.int y3), (.int (0 : Int32)), (.int (((own_one (0 : Int32) y0) + (own_one (0 : Int32) y1)) + (own_one (0 : Int32) y2)))])) rfl (by rw [hml]; rfl) (argsL := [(.int (0 : Int32)), (.int y3)]) (rest := [(.int (((own_one (0 : Int32) y0) + (own_one (0 : Int32) y1)) + (own_one (0 : Int32) y2)))]) (lenOf pd_1 rfl) rfl (by show 2 * 0 + _ ≤ _; exact Nat.le_of_eq rfl) (hb hby at_188) (fun _ _ => ⟨rfl, e10, (by decide : 1 + 0 ≤ _), (by decide : 0 + 0 ≤ _)⟩)
    dsimp only [Pt.U, Pt.locs, Pt.cells, Pt.slots] at X11 l11 y11 z11 st11 hQ11
    subst l11 y11 z11
    obtain ⟨rfl, N11q, e11⟩ := hQ11
    have N11 := Fr.app N10 N11q
    refine Goal.to (B := T11.setTop (mkF m 191 #[.val (.int u0), .val (.int u1), .val (.int u2), .val (.int u3), .val (.int u4), .val (.int u5), .val (.int (0 : Int32)), .val (.int fo), .val (.int y0), .val (.int y1), .val (.int y2), .val (.int y3), .val (.int y4), .val (.ref b6), .unset] [(.int (own_one (0 : Int32) y3)), (.int (((own_one (0 : Int32) y0) + (own_one (0 : Int32) y1)) + (own_one (0 : Int32) y2)))])) st11 ?_
    refine Goal.to (B := T11.setTop (mkF m 205 #[.val (.int u0), .val (.int u1), .val (.int u2), .val (.int u3), .val (.int u4), .val (.int u5), .val (.int (0 : Int32)), .val (.int fo), .val (.int y0), .val (.int y1), .val (.int y2), .val (.int y3), .val (.int y4), .val (.ref b6), .unset] [(.int y4), (.int (0 : Int32)), (.int ((((own_one (0 : Int32) y0) + (own_one (0 : Int32) y1)) + (own_one (0 : Int32) y2)) + (own_one (0 : Int32) y3)))])) (fun tt kk => ?_) ?_
    · show Steps p.tables e below (T11.setTop (mkF m 191 #[.val (.int u0), .val (.int u1), .val (.int u2), .val (.int u3), .val (.int u4), .val (.int u5), .val (.int (0 : Int32)), .val (.int fo), .val (.int y0), .val (.int y1), .val (.int y2), .val (.int y3), .val (.int y4), .val (.ref b6), .unset] [(.int (own_one (0 : Int32) y3)), (.int (((own_one (0 : Int32) y0) + (own_one (0 : Int32) y1)) + (own_one (0 : Int32) y2)))])) tt
      refine XS.iadd X11.here hx rfl (hb hby at_191) rfl ?_
      show Steps p.tables e below (T11.setTop (mkF m 192 #[.val (.int u0), .val (.int u1), .val (.int u2), .val (.int u3), .val (.int u4), .val (.int u5), .val (.int (0 : Int32)), .val (.int fo), .val (.int y0), .val (.int y1), .val (.int y2), .val (.int y3), .val (.int y4), .val (.ref b6), .unset] [(.int ((((own_one (0 : Int32) y0) + (own_one (0 : Int32) y1)) + (own_one (0 : Int32) y2)) + (own_one (0 : Int32) y3)))])) tt
      refine XS.iload X11.here hx rfl (hb hby at_192) rfl ?_
      show Steps p.tables e below (T11.setTop (mkF m 194 #[.val (.int u0), .val (.int u1), .val (.int u2), .val (.int u3), .val (.int u4), .val (.int u5), .val (.int (0 : Int32)), .val (.int fo), .val (.int y0), .val (.int y1), .val (.int y2), .val (.int y3), .val (.int y4), .val (.ref b6), .unset] [(.int (0 : Int32)), (.int ((((own_one (0 : Int32) y0) + (own_one (0 : Int32) y1)) + (own_one (0 : Int32) y2)) + (own_one (0 : Int32) y3)))])) tt
      refine XS.iconst X11.here hx rfl (hb hby at_194) ?_
      show Steps p.tables e below (T11.setTop (mkF m 195 #[.val (.int u0), .val (.int u1), .val (.int u2), .val (.int u3), .val (.int u4), .val (.int u5), .val (.int (0 : Int32)), .val (.int fo), .val (.int y0), .val (.int y1), .val (.int y2), .val (.int y3), .val (.int y4), .val (.ref b6), .unset] [(.int (4 : Int32)), (.int (0 : Int32)), (.int ((((own_one (0 : Int32) y0) + (own_one (0 : Int32) y1)) + (own_one (0 : Int32) y2)) + (own_one (0 : Int32) y3)))])) tt
      refine XS.icmpYes X11.here hx rfl (pc0 := 195) (pc' := 202) rfl (hb hby at_195) rfl (flt ((by decide) : ¬ ((4 : Int32) < (0 : Int32)))).2.2.2 (by decide) (by decide) ?_
      show Steps p.tables e below (T11.setTop (mkF m 202 #[.val (.int u0), .val (.int u1), .val (.int u2), .val (.int u3), .val (.int u4), .val (.int u5), .val (.int (0 : Int32)), .val (.int fo), .val (.int y0), .val (.int y1), .val (.int y2), .val (.int y3), .val (.int y4), .val (.ref b6), .unset] [(.int ((((own_one (0 : Int32) y0) + (own_one (0 : Int32) y1)) + (own_one (0 : Int32) y2)) + (own_one (0 : Int32) y3)))])) tt
      refine XS.iconst X11.here hx rfl (hb hby at_202) ?_
      show Steps p.tables e below (T11.setTop (mkF m 203 #[.val (.int u0), .val (.int u1), .val (.int u2), .val (.int u3), .val (.int u4), .val (.int u5), .val (.int (0 : Int32)), .val (.int fo), .val (.int y0), .val (.int y1), .val (.int y2), .val (.int y3), .val (.int y4), .val (.ref b6), .unset] [(.int (0 : Int32)), (.int ((((own_one (0 : Int32) y0) + (own_one (0 : Int32) y1)) + (own_one (0 : Int32) y2)) + (own_one (0 : Int32) y3)))])) tt
      refine XS.iload X11.here hx rfl (hb hby at_203) rfl ?_
      exact kk
    obtain ⟨_, _, ⟨T12, L12, k12, n12⟩, -, X12, ⟨Lc12, hQ12, l12, y12, z12⟩, st12⟩ := Jvm.LawKit.callS X11 hx (y := (⟨"com/example/purloin/runner/PdfsReachedPinLaw", "one", "(ZI)I"⟩ : MethodName)) hown (mvT hZ (hw _ (mw 5 rfl))) (mvT hZ (hw _ (mw 6 rfl))) (mvT hZ (hw _ (mw 2 rfl))) (mvT hZ (hw _ (mw 7 rfl))) (by decide) (backOf (W := 1) (rmo l Z a0 hw [] (0 : Int32) y4 h6 n0 f7 ) hZ (hw _ (mw 7 rfl)) (hw _ (mw 2 rfl)) (by decide) (by decide)) (g := (mkF m 205 #[.val (.int u0), .val (.int u1), .val (.int u2), .val (.int u3), .val (.int u4), .val (.int u5), .val (.int (0 : Int32)), .val (.int fo), .val (.int y0), .val (.int y1), .val (.int y2), .val (.int y3), .val (.int y4), .val (.ref b6), .unset] [(.int y4), (.int (0 : Int32)), (.int ((((own_one (0 : Int32) y0) + (own_one (0 : Int32) y1)) + (own_one (0 : Int32) y2)) + (own_one (0 : Int32) y3)))])) rfl (by rw [hml]; rfl) (argsL := [(.int (0 : Int32)), (.int y4)]) (rest := [(.int ((((own_one (0 : Int32) y0) + (own_one (0 : Int32) y1)) + (own_one (0 : Int32) y2)) + (own_one (0 : Int32) y3)))]) (lenOf pd_1 rfl) rfl (by show 2 * 0 + _ ≤ _; exact Nat.le_of_eq rfl) (hb hby at_205) (fun _ _ => ⟨rfl, e11, (by decide : 1 + 0 ≤ _), (by decide : 0 + 0 ≤ _)⟩)
    dsimp only [Pt.U, Pt.locs, Pt.cells, Pt.slots] at X12 l12 y12 z12 st12 hQ12
    subst l12 y12 z12
    obtain ⟨rfl, N12q, e12⟩ := hQ12
    have N12 := Fr.app N11 N12q
    refine Goal.to (B := T12.setTop (mkF m 208 #[.val (.int u0), .val (.int u1), .val (.int u2), .val (.int u3), .val (.int u4), .val (.int u5), .val (.int (0 : Int32)), .val (.int fo), .val (.int y0), .val (.int y1), .val (.int y2), .val (.int y3), .val (.int y4), .val (.ref b6), .unset] [(.int (own_one (0 : Int32) y4)), (.int ((((own_one (0 : Int32) y0) + (own_one (0 : Int32) y1)) + (own_one (0 : Int32) y2)) + (own_one (0 : Int32) y3)))])) st12 ?_
    refine Goal.to (B := T12.setTop (mkF m 213 #[.val (.int u0), .val (.int u1), .val (.int u2), .val (.int u3), .val (.int u4), .val (.int u5), .val (.int (0 : Int32)), .val (.int fo), .val (.int y0), .val (.int y1), .val (.int y2), .val (.int y3), .val (.int y4), .val (.ref b6), .val (.int (((((own_one (0 : Int32) y0) + (own_one (0 : Int32) y1)) + (own_one (0 : Int32) y2)) + (own_one (0 : Int32) y3)) + (own_one (0 : Int32) y4)))] [(.ref b6)])) (fun tt kk => ?_) ?_
    · show Steps p.tables e below (T12.setTop (mkF m 208 #[.val (.int u0), .val (.int u1), .val (.int u2), .val (.int u3), .val (.int u4), .val (.int u5), .val (.int (0 : Int32)), .val (.int fo), .val (.int y0), .val (.int y1), .val (.int y2), .val (.int y3), .val (.int y4), .val (.ref b6), .unset] [(.int (own_one (0 : Int32) y4)), (.int ((((own_one (0 : Int32) y0) + (own_one (0 : Int32) y1)) + (own_one (0 : Int32) y2)) + (own_one (0 : Int32) y3)))])) tt
      refine XS.iadd X12.here hx rfl (hb hby at_208) rfl ?_
      show Steps p.tables e below (T12.setTop (mkF m 209 #[.val (.int u0), .val (.int u1), .val (.int u2), .val (.int u3), .val (.int u4), .val (.int u5), .val (.int (0 : Int32)), .val (.int fo), .val (.int y0), .val (.int y1), .val (.int y2), .val (.int y3), .val (.int y4), .val (.ref b6), .unset] [(.int (((((own_one (0 : Int32) y0) + (own_one (0 : Int32) y1)) + (own_one (0 : Int32) y2)) + (own_one (0 : Int32) y3)) + (own_one (0 : Int32) y4)))])) tt
      refine XS.istore X12.here hx rfl (hb hby at_209) rfl (l' := #[.val (.int u0), .val (.int u1), .val (.int u2), .val (.int u3), .val (.int u4), .val (.int u5), .val (.int (0 : Int32)), .val (.int fo), .val (.int y0), .val (.int y1), .val (.int y2), .val (.int y3), .val (.int y4), .val (.ref b6), .val (.int (((((own_one (0 : Int32) y0) + (own_one (0 : Int32) y1)) + (own_one (0 : Int32) y2)) + (own_one (0 : Int32) y3)) + (own_one (0 : Int32) y4)))]) rfl ?_
      show Steps p.tables e below (T12.setTop (mkF m 211 #[.val (.int u0), .val (.int u1), .val (.int u2), .val (.int u3), .val (.int u4), .val (.int u5), .val (.int (0 : Int32)), .val (.int fo), .val (.int y0), .val (.int y1), .val (.int y2), .val (.int y3), .val (.int y4), .val (.ref b6), .val (.int (((((own_one (0 : Int32) y0) + (own_one (0 : Int32) y1)) + (own_one (0 : Int32) y2)) + (own_one (0 : Int32) y3)) + (own_one (0 : Int32) y4)))] [])) tt
      refine XS.aload X12.here hx rfl (hb hby at_211) rfl rfl ?_
      exact kk
    obtain ⟨_, _, ⟨T13, L13, k13, n13⟩, -, X13, ⟨Lc13, hQ13, l13, y13, z13⟩, st13⟩ := Jvm.LawKit.callS X12 hx (y := (⟨"com/example/purloin/runner/Pdfs", "reached", "([I)I"⟩ : MethodName)) hown (mvT hZ (hw _ (mw 8 rfl))) (mvT hZ (hw _ (mw 9 rfl))) (mvT hZ (hw _ (mw 10 rfl))) (mvT hZ (hw _ (mw 11 rfl))) (by decide) (backOf (W := 0) (rmr0 l Z a0 hw [] b6 h6 n0 f7 V6) hZ (hw _ (mw 11 rfl)) (hw _ (mw 10 rfl)) (by decide) (by decide)) (g := (mkF m 213 #[.val (.int u0), .val (.int u1), .val (.int u2), .val (.int u3), .val (.int u4), .val (.int u5), .val (.int (0 : Int32)), .val (.int fo), .val (.int y0), .val (.int y1), .val (.int y2), .val (.int y3), .val (.int y4), .val (.ref b6), .val (.int (((((own_one (0 : Int32) y0) + (own_one (0 : Int32) y1)) + (own_one (0 : Int32) y2)) + (own_one (0 : Int32) y3)) + (own_one (0 : Int32) y4)))] [(.ref b6)])) rfl (by rw [hml]; rfl) (argsL := [(.ref b6)]) (rest := []) (lenOf pd_2 rfl) rfl (by show 2 * 0 + _ ≤ _; exact Nat.le_of_eq rfl) (hb hby at_213) (fun _ _ => ⟨rfl, e12, (by decide : 1 + 0 ≤ _), (by decide : 0 + 0 ≤ _)⟩)
    dsimp only [Pt.U, Pt.locs, Pt.cells, Pt.slots] at X13 l13 y13 z13 st13 hQ13
    subst l13 y13 z13
    obtain ⟨rfl, N13q, e13⟩ := hQ13
    have N13 := Fr.app N12 N13q
    refine Goal.to (B := T13.setTop (mkF m 216 #[.val (.int u0), .val (.int u1), .val (.int u2), .val (.int u3), .val (.int u4), .val (.int u5), .val (.int (0 : Int32)), .val (.int fo), .val (.int y0), .val (.int y1), .val (.int y2), .val (.int y3), .val (.int y4), .val (.ref b6), .val (.int (((((own_one (0 : Int32) y0) + (own_one (0 : Int32) y1)) + (own_one (0 : Int32) y2)) + (own_one (0 : Int32) y3)) + (own_one (0 : Int32) y4)))] [(.int (0 : Int32))])) st13 ?_
    refine Goal.to (B := T13.setTop (mkF m 226 #[.val (.int u0), .val (.int u1), .val (.int u2), .val (.int u3), .val (.int u4), .val (.int u5), .val (.int (0 : Int32)), .val (.int fo), .val (.int y0), .val (.int y1), .val (.int y2), .val (.int y3), .val (.int y4), .val (.ref b6), .val (.int (((((own_one (0 : Int32) y0) + (own_one (0 : Int32) y1)) + (own_one (0 : Int32) y2)) + (own_one (0 : Int32) y3)) + (own_one (0 : Int32) y4)))] [(.int (1 : Int32))])) (fun tt kk => ?_) ?_
    · show Steps p.tables e below (T13.setTop (mkF m 216 #[.val (.int u0), .val (.int u1), .val (.int u2), .val (.int u3), .val (.int u4), .val (.int u5), .val (.int (0 : Int32)), .val (.int fo), .val (.int y0), .val (.int y1), .val (.int y2), .val (.int y3), .val (.int y4), .val (.ref b6), .val (.int (((((own_one (0 : Int32) y0) + (own_one (0 : Int32) y1)) + (own_one (0 : Int32) y2)) + (own_one (0 : Int32) y3)) + (own_one (0 : Int32) y4)))] [(.int (0 : Int32))])) tt
      refine XS.iload X13.here hx rfl (hb hby at_216) rfl ?_
      show Steps p.tables e below (T13.setTop (mkF m 218 #[.val (.int u0), .val (.int u1), .val (.int u2), .val (.int u3), .val (.int u4), .val (.int u5), .val (.int (0 : Int32)), .val (.int fo), .val (.int y0), .val (.int y1), .val (.int y2), .val (.int y3), .val (.int y4), .val (.ref b6), .val (.int (((((own_one (0 : Int32) y0) + (own_one (0 : Int32) y1)) + (own_one (0 : Int32) y2)) + (own_one (0 : Int32) y3)) + (own_one (0 : Int32) y4)))] [(.int (((((own_one (0 : Int32) y0) + (own_one (0 : Int32) y1)) + (own_one (0 : Int32) y2)) + (own_one (0 : Int32) y3)) + (own_one (0 : Int32) y4))), (.int (0 : Int32))])) tt
      refine XS.icmpNo X13.here hx rfl (hb hby at_218) rfl (teq (by simp only [own_addE, own_one0, Int32.zero_add, Int32.add_zero] : (0 : Int32) = (((((own_one (0 : Int32) y0) + (own_one (0 : Int32) y1)) + (own_one (0 : Int32) y2)) + (own_one (0 : Int32) y3)) + (own_one (0 : Int32) y4)))).2 ?_
      show Steps p.tables e below (T13.setTop (mkF m 221 #[.val (.int u0), .val (.int u1), .val (.int u2), .val (.int u3), .val (.int u4), .val (.int u5), .val (.int (0 : Int32)), .val (.int fo), .val (.int y0), .val (.int y1), .val (.int y2), .val (.int y3), .val (.int y4), .val (.ref b6), .val (.int (((((own_one (0 : Int32) y0) + (own_one (0 : Int32) y1)) + (own_one (0 : Int32) y2)) + (own_one (0 : Int32) y3)) + (own_one (0 : Int32) y4)))] [])) tt
      refine XS.iconst X13.here hx rfl (hb hby at_221) ?_
      show Steps p.tables e below (T13.setTop (mkF m 222 #[.val (.int u0), .val (.int u1), .val (.int u2), .val (.int u3), .val (.int u4), .val (.int u5), .val (.int (0 : Int32)), .val (.int fo), .val (.int y0), .val (.int y1), .val (.int y2), .val (.int y3), .val (.int y4), .val (.ref b6), .val (.int (((((own_one (0 : Int32) y0) + (own_one (0 : Int32) y1)) + (own_one (0 : Int32) y2)) + (own_one (0 : Int32) y3)) + (own_one (0 : Int32) y4)))] [(.int (1 : Int32))])) tt
      refine XS.goto X13.here hx rfl (pc0 := 222) (pc' := 226) rfl (hb hby at_222) (by decide) (by decide) ?_
      exact kk
    exact Goal.retV X13 hx Bd.returns rfl (Or.inl ⟨rfl, Or.inr (Or.inl rfl), _, rfl⟩) (hb hby at_226) hlk e13 ⟨rfl, N13⟩ (by decide) (by decide)
  · obtain ⟨T14, h14, k14, X14, e14, E14, A14, st14⟩ := newP X5 hx hZ (hw _ (mw 4 rfl)) e5 (g := (mkF m 63 #[.val (.int u0), .val (.int u1), .val (.int u2), .val (.int u3), .val (.int u4), .val (.int u5), .val (.int (1 : Int32)), .val (.int fo), .val (.int y0), .val (.int y1), .val (.int y2), .val (.int y3), .val (.int y4), .unset, .unset] [(.int (1 : Int32))])) rfl (hb hby at_63) rfl (by decide) (cap := 1) (by decide) (by decide) (by decide) (by decide)
    obtain ⟨b14, g14⟩ : ∃ z, z = h0.size := ⟨_, rfl⟩
    rw [← g14] at A14 st14
    have g_b14 : n0 ≤ b14 := Nat.le_trans Z0 (Nat.le_of_eq g14.symm)
    have V14 : Ary Z h14 b14 .int [(.int (0 : Int32))] := Ary.new A14 rfl
    refine Goal.to (B := T14.setTop (mkF m 65 #[.val (.int u0), .val (.int u1), .val (.int u2), .val (.int u3), .val (.int u4), .val (.int u5), .val (.int (1 : Int32)), .val (.int fo), .val (.int y0), .val (.int y1), .val (.int y2), .val (.int y3), .val (.int y4), .unset, .unset] [(.ref b14)])) st14 ?_
    refine Goal.to (B := T14.setTop (mkF m 77 #[.val (.int u0), .val (.int u1), .val (.int u2), .val (.int u3), .val (.int u4), .val (.int u5), .val (.int (1 : Int32)), .val (.int fo), .val (.int y0), .val (.int y1), .val (.int y2), .val (.int y3), .val (.int y4), .val (.ref b14), .unset] [(.int y0), (.int (0 : Int32)), (.ref b14)])) (fun tt kk => ?_) ?_
    · show Steps p.tables e below (T14.setTop (mkF m 65 #[.val (.int u0), .val (.int u1), .val (.int u2), .val (.int u3), .val (.int u4), .val (.int u5), .val (.int (1 : Int32)), .val (.int fo), .val (.int y0), .val (.int y1), .val (.int y2), .val (.int y3), .val (.int y4), .unset, .unset] [(.ref b14)])) tt
      refine XS.astore X14.here hx rfl (hb hby at_65) rfl rfl (l' := #[.val (.int u0), .val (.int u1), .val (.int u2), .val (.int u3), .val (.int u4), .val (.int u5), .val (.int (1 : Int32)), .val (.int fo), .val (.int y0), .val (.int y1), .val (.int y2), .val (.int y3), .val (.int y4), .val (.ref b14), .unset]) rfl ?_
      show Steps p.tables e below (T14.setTop (mkF m 67 #[.val (.int u0), .val (.int u1), .val (.int u2), .val (.int u3), .val (.int u4), .val (.int u5), .val (.int (1 : Int32)), .val (.int fo), .val (.int y0), .val (.int y1), .val (.int y2), .val (.int y3), .val (.int y4), .val (.ref b14), .unset] [])) tt
      refine XS.iload X14.here hx rfl (hb hby at_67) rfl ?_
      show Steps p.tables e below (T14.setTop (mkF m 69 #[.val (.int u0), .val (.int u1), .val (.int u2), .val (.int u3), .val (.int u4), .val (.int u5), .val (.int (1 : Int32)), .val (.int fo), .val (.int y0), .val (.int y1), .val (.int y2), .val (.int y3), .val (.int y4), .val (.ref b14), .unset] [(.int (1 : Int32))])) tt
      refine XS.ifNo X14.here hx rfl (hb hby at_69) rfl ((if0 _ _).trans (tlt ((by decide) : (0 : Int32) < (1 : Int32))).2.2.2) ?_
      show Steps p.tables e below (T14.setTop (mkF m 72 #[.val (.int u0), .val (.int u1), .val (.int u2), .val (.int u3), .val (.int u4), .val (.int u5), .val (.int (1 : Int32)), .val (.int fo), .val (.int y0), .val (.int y1), .val (.int y2), .val (.int y3), .val (.int y4), .val (.ref b14), .unset] [])) tt
      refine XS.aload X14.here hx rfl (hb hby at_72) rfl rfl ?_
      show Steps p.tables e below (T14.setTop (mkF m 74 #[.val (.int u0), .val (.int u1), .val (.int u2), .val (.int u3), .val (.int u4), .val (.int u5), .val (.int (1 : Int32)), .val (.int fo), .val (.int y0), .val (.int y1), .val (.int y2), .val (.int y3), .val (.int y4), .val (.ref b14), .unset] [(.ref b14)])) tt
      refine XS.iconst X14.here hx rfl (hb hby at_74) ?_
      show Steps p.tables e below (T14.setTop (mkF m 75 #[.val (.int u0), .val (.int u1), .val (.int u2), .val (.int u3), .val (.int u4), .val (.int u5), .val (.int (1 : Int32)), .val (.int fo), .val (.int y0), .val (.int y1), .val (.int y2), .val (.int y3), .val (.int y4), .val (.ref b14), .unset] [(.int (0 : Int32)), (.ref b14)])) tt
      refine XS.iload X14.here hx rfl (hb hby at_75) rfl ?_
      exact kk
    obtain ⟨cl15, Ar15, Sl15⟩ := id V14
    have hin15 := inA (cl := cl15) Sl15 (j := (0 : Int32)) (by decide) (Nat.le_of_ble_eq_true rfl)
    obtain ⟨T15, h15, X15, e15, W15, st15⟩ := stI X14 hx hZ e14 Ar15 (j := (0 : Int32)) hin15 (g := (mkF m 77 #[.val (.int u0), .val (.int u1), .val (.int u2), .val (.int u3), .val (.int u4), .val (.int u5), .val (.int (1 : Int32)), .val (.int fo), .val (.int y0), .val (.int y1), .val (.int y2), .val (.int y3), .val (.int y4), .val (.ref b14), .unset] [(.int y0), (.int (0 : Int32)), (.ref b14)])) rfl rfl (hb hby at_77)
    have V15 : Ary Z h15 b14 .int [(.int y0)] := Ary.put Ar15 Sl15 W15 rfl
    have N15 := Fr.snoc X15 N5 g_b14
    refine Goal.to (B := T15.setTop (mkF m 78 #[.val (.int u0), .val (.int u1), .val (.int u2), .val (.int u3), .val (.int u4), .val (.int u5), .val (.int (1 : Int32)), .val (.int fo), .val (.int y0), .val (.int y1), .val (.int y2), .val (.int y3), .val (.int y4), .val (.ref b14), .unset] [])) st15 ?_
    refine Goal.to (B := T15.setTop (mkF m 138 #[.val (.int u0), .val (.int u1), .val (.int u2), .val (.int u3), .val (.int u4), .val (.int u5), .val (.int (1 : Int32)), .val (.int fo), .val (.int y0), .val (.int y1), .val (.int y2), .val (.int y3), .val (.int y4), .val (.ref b14), .unset] [(.int y0), (.int (1 : Int32))])) (fun tt kk => ?_) ?_
    · show Steps p.tables e below (T15.setTop (mkF m 78 #[.val (.int u0), .val (.int u1), .val (.int u2), .val (.int u3), .val (.int u4), .val (.int u5), .val (.int (1 : Int32)), .val (.int fo), .val (.int y0), .val (.int y1), .val (.int y2), .val (.int y3), .val (.int y4), .val (.ref b14), .unset] [])) tt
      refine XS.iload X15.here hx rfl (hb hby at_78) rfl ?_
      show Steps p.tables e below (T15.setTop (mkF m 80 #[.val (.int u0), .val (.int u1), .val (.int u2), .val (.int u3), .val (.int u4), .val (.int u5), .val (.int (1 : Int32)), .val (.int fo), .val (.int y0), .val (.int y1), .val (.int y2), .val (.int y3), .val (.int y4), .val (.ref b14), .unset] [(.int (1 : Int32))])) tt
      refine XS.iconst X15.here hx rfl (hb hby at_80) ?_
      show Steps p.tables e below (T15.setTop (mkF m 81 #[.val (.int u0), .val (.int u1), .val (.int u2), .val (.int u3), .val (.int u4), .val (.int u5), .val (.int (1 : Int32)), .val (.int fo), .val (.int y0), .val (.int y1), .val (.int y2), .val (.int y3), .val (.int y4), .val (.ref b14), .unset] [(.int (1 : Int32)), (.int (1 : Int32))])) tt
      refine XS.icmpYes X15.here hx rfl (pc0 := 81) (pc' := 90) rfl (hb hby at_81) rfl (flt (Int32.lt_irrefl : ¬ ((1 : Int32) < (1 : Int32)))).2.2.2 (by decide) (by decide) ?_
      show Steps p.tables e below (T15.setTop (mkF m 90 #[.val (.int u0), .val (.int u1), .val (.int u2), .val (.int u3), .val (.int u4), .val (.int u5), .val (.int (1 : Int32)), .val (.int fo), .val (.int y0), .val (.int y1), .val (.int y2), .val (.int y3), .val (.int y4), .val (.ref b14), .unset] [])) tt
      refine XS.iload X15.here hx rfl (hb hby at_90) rfl ?_
      show Steps p.tables e below (T15.setTop (mkF m 92 #[.val (.int u0), .val (.int u1), .val (.int u2), .val (.int u3), .val (.int u4), .val (.int u5), .val (.int (1 : Int32)), .val (.int fo), .val (.int y0), .val (.int y1), .val (.int y2), .val (.int y3), .val (.int y4), .val (.ref b14), .unset] [(.int (1 : Int32))])) tt
      refine XS.iconst X15.here hx rfl (hb hby at_92) ?_
      show Steps p.tables e below (T15.setTop (mkF m 93 #[.val (.int u0), .val (.int u1), .val (.int u2), .val (.int u3), .val (.int u4), .val (.int u5), .val (.int (1 : Int32)), .val (.int fo), .val (.int y0), .val (.int y1), .val (.int y2), .val (.int y3), .val (.int y4), .val (.ref b14), .unset] [(.int (2 : Int32)), (.int (1 : Int32))])) tt
      refine XS.icmpYes X15.here hx rfl (pc0 := 93) (pc' := 102) rfl (hb hby at_93) rfl (flt ((by decide) : ¬ ((2 : Int32) < (1 : Int32)))).2.2.2 (by decide) (by decide) ?_
      show Steps p.tables e below (T15.setTop (mkF m 102 #[.val (.int u0), .val (.int u1), .val (.int u2), .val (.int u3), .val (.int u4), .val (.int u5), .val (.int (1 : Int32)), .val (.int fo), .val (.int y0), .val (.int y1), .val (.int y2), .val (.int y3), .val (.int y4), .val (.ref b14), .unset] [])) tt
      refine XS.iload X15.here hx rfl (hb hby at_102) rfl ?_
      show Steps p.tables e below (T15.setTop (mkF m 104 #[.val (.int u0), .val (.int u1), .val (.int u2), .val (.int u3), .val (.int u4), .val (.int u5), .val (.int (1 : Int32)), .val (.int fo), .val (.int y0), .val (.int y1), .val (.int y2), .val (.int y3), .val (.int y4), .val (.ref b14), .unset] [(.int (1 : Int32))])) tt
      refine XS.iconst X15.here hx rfl (hb hby at_104) ?_
      show Steps p.tables e below (T15.setTop (mkF m 105 #[.val (.int u0), .val (.int u1), .val (.int u2), .val (.int u3), .val (.int u4), .val (.int u5), .val (.int (1 : Int32)), .val (.int fo), .val (.int y0), .val (.int y1), .val (.int y2), .val (.int y3), .val (.int y4), .val (.ref b14), .unset] [(.int (3 : Int32)), (.int (1 : Int32))])) tt
      refine XS.icmpYes X15.here hx rfl (pc0 := 105) (pc' := 114) rfl (hb hby at_105) rfl (flt ((by decide) : ¬ ((3 : Int32) < (1 : Int32)))).2.2.2 (by decide) (by decide) ?_
      show Steps p.tables e below (T15.setTop (mkF m 114 #[.val (.int u0), .val (.int u1), .val (.int u2), .val (.int u3), .val (.int u4), .val (.int u5), .val (.int (1 : Int32)), .val (.int fo), .val (.int y0), .val (.int y1), .val (.int y2), .val (.int y3), .val (.int y4), .val (.ref b14), .unset] [])) tt
      refine XS.iload X15.here hx rfl (hb hby at_114) rfl ?_
      show Steps p.tables e below (T15.setTop (mkF m 116 #[.val (.int u0), .val (.int u1), .val (.int u2), .val (.int u3), .val (.int u4), .val (.int u5), .val (.int (1 : Int32)), .val (.int fo), .val (.int y0), .val (.int y1), .val (.int y2), .val (.int y3), .val (.int y4), .val (.ref b14), .unset] [(.int (1 : Int32))])) tt
      refine XS.iconst X15.here hx rfl (hb hby at_116) ?_
      show Steps p.tables e below (T15.setTop (mkF m 117 #[.val (.int u0), .val (.int u1), .val (.int u2), .val (.int u3), .val (.int u4), .val (.int u5), .val (.int (1 : Int32)), .val (.int fo), .val (.int y0), .val (.int y1), .val (.int y2), .val (.int y3), .val (.int y4), .val (.ref b14), .unset] [(.int (4 : Int32)), (.int (1 : Int32))])) tt
      refine XS.icmpYes X15.here hx rfl (pc0 := 117) (pc' := 126) rfl (hb hby at_117) rfl (flt ((by decide) : ¬ ((4 : Int32) < (1 : Int32)))).2.2.2 (by decide) (by decide) ?_
      show Steps p.tables e below (T15.setTop (mkF m 126 #[.val (.int u0), .val (.int u1), .val (.int u2), .val (.int u3), .val (.int u4), .val (.int u5), .val (.int (1 : Int32)), .val (.int fo), .val (.int y0), .val (.int y1), .val (.int y2), .val (.int y3), .val (.int y4), .val (.ref b14), .unset] [])) tt
      refine XS.iload X15.here hx rfl (hb hby at_126) rfl ?_
      show Steps p.tables e below (T15.setTop (mkF m 128 #[.val (.int u0), .val (.int u1), .val (.int u2), .val (.int u3), .val (.int u4), .val (.int u5), .val (.int (1 : Int32)), .val (.int fo), .val (.int y0), .val (.int y1), .val (.int y2), .val (.int y3), .val (.int y4), .val (.ref b14), .unset] [(.int (1 : Int32))])) tt
      refine XS.ifNo X15.here hx rfl (hb hby at_128) rfl ((if0 _ _).trans (tlt ((by decide) : (0 : Int32) < (1 : Int32))).2.2.2) ?_
      show Steps p.tables e below (T15.setTop (mkF m 131 #[.val (.int u0), .val (.int u1), .val (.int u2), .val (.int u3), .val (.int u4), .val (.int u5), .val (.int (1 : Int32)), .val (.int fo), .val (.int y0), .val (.int y1), .val (.int y2), .val (.int y3), .val (.int y4), .val (.ref b14), .unset] [])) tt
      refine XS.iconst X15.here hx rfl (hb hby at_131) ?_
      show Steps p.tables e below (T15.setTop (mkF m 132 #[.val (.int u0), .val (.int u1), .val (.int u2), .val (.int u3), .val (.int u4), .val (.int u5), .val (.int (1 : Int32)), .val (.int fo), .val (.int y0), .val (.int y1), .val (.int y2), .val (.int y3), .val (.int y4), .val (.ref b14), .unset] [(.int (1 : Int32))])) tt
      refine XS.goto X15.here hx rfl (pc0 := 132) (pc' := 136) rfl (hb hby at_132) (by decide) (by decide) ?_
      show Steps p.tables e below (T15.setTop (mkF m 136 #[.val (.int u0), .val (.int u1), .val (.int u2), .val (.int u3), .val (.int u4), .val (.int u5), .val (.int (1 : Int32)), .val (.int fo), .val (.int y0), .val (.int y1), .val (.int y2), .val (.int y3), .val (.int y4), .val (.ref b14), .unset] [(.int (1 : Int32))])) tt
      refine XS.iload X15.here hx rfl (hb hby at_136) rfl ?_
      exact kk
    have f16 : n0 ≤ h15.size := (Nat.le_trans (Nat.le_trans Z0 E14.1) (Keep.of_wr W15).1)
    obtain ⟨_, _, ⟨T17, L17, k17, n17⟩, -, X17, ⟨Lc17, hQ17, l17, y17, z17⟩, st17⟩ := Jvm.LawKit.callS X15 hx (y := (⟨"com/example/purloin/runner/PdfsReachedPinLaw", "one", "(ZI)I"⟩ : MethodName)) hown (mvT hZ (hw _ (mw 5 rfl))) (mvT hZ (hw _ (mw 6 rfl))) (mvT hZ (hw _ (mw 2 rfl))) (mvT hZ (hw _ (mw 7 rfl))) (by decide) (backOf (W := 0) (rmo l Z a0 hw [] (1 : Int32) y0 h15 n0 f16 ) hZ (hw _ (mw 7 rfl)) (hw _ (mw 2 rfl)) (by decide) (by decide)) (g := (mkF m 138 #[.val (.int u0), .val (.int u1), .val (.int u2), .val (.int u3), .val (.int u4), .val (.int u5), .val (.int (1 : Int32)), .val (.int fo), .val (.int y0), .val (.int y1), .val (.int y2), .val (.int y3), .val (.int y4), .val (.ref b14), .unset] [(.int y0), (.int (1 : Int32))])) rfl (by rw [hml]; rfl) (argsL := [(.int (1 : Int32)), (.int y0)]) (rest := []) (lenOf pd_1 rfl) rfl (by show 2 * 0 + _ ≤ _; exact Nat.le_of_eq rfl) (hb hby at_138) (fun _ _ => ⟨rfl, e15, (by decide : 1 + 0 ≤ _), (by decide : 1 + 0 ≤ _)⟩)
    dsimp only [Pt.U, Pt.locs, Pt.cells, Pt.slots] at X17 l17 y17 z17 st17 hQ17
    subst l17 y17 z17
    obtain ⟨rfl, N17q, e17⟩ := hQ17
    have N17 := Fr.app N15 N17q
    refine Goal.to (B := T17.setTop (mkF m 141 #[.val (.int u0), .val (.int u1), .val (.int u2), .val (.int u3), .val (.int u4), .val (.int u5), .val (.int (1 : Int32)), .val (.int fo), .val (.int y0), .val (.int y1), .val (.int y2), .val (.int y3), .val (.int y4), .val (.ref b14), .unset] [(.int (own_one (1 : Int32) y0))])) st17 ?_
    refine Goal.to (B := T17.setTop (mkF m 154 #[.val (.int u0), .val (.int u1), .val (.int u2), .val (.int u3), .val (.int u4), .val (.int u5), .val (.int (1 : Int32)), .val (.int fo), .val (.int y0), .val (.int y1), .val (.int y2), .val (.int y3), .val (.int y4), .val (.ref b14), .unset] [(.int y1), (.int (0 : Int32)), (.int (own_one (1 : Int32) y0))])) (fun tt kk => ?_) ?_
    · show Steps p.tables e below (T17.setTop (mkF m 141 #[.val (.int u0), .val (.int u1), .val (.int u2), .val (.int u3), .val (.int u4), .val (.int u5), .val (.int (1 : Int32)), .val (.int fo), .val (.int y0), .val (.int y1), .val (.int y2), .val (.int y3), .val (.int y4), .val (.ref b14), .unset] [(.int (own_one (1 : Int32) y0))])) tt
      refine XS.iload X17.here hx rfl (hb hby at_141) rfl ?_
      show Steps p.tables e below (T17.setTop (mkF m 143 #[.val (.int u0), .val (.int u1), .val (.int u2), .val (.int u3), .val (.int u4), .val (.int u5), .val (.int (1 : Int32)), .val (.int fo), .val (.int y0), .val (.int y1), .val (.int y2), .val (.int y3), .val (.int y4), .val (.ref b14), .unset] [(.int (1 : Int32)), (.int (own_one (1 : Int32) y0))])) tt
      refine XS.iconst X17.here hx rfl (hb hby at_143) ?_
      show Steps p.tables e below (T17.setTop (mkF m 144 #[.val (.int u0), .val (.int u1), .val (.int u2), .val (.int u3), .val (.int u4), .val (.int u5), .val (.int (1 : Int32)), .val (.int fo), .val (.int y0), .val (.int y1), .val (.int y2), .val (.int y3), .val (.int y4), .val (.ref b14), .unset] [(.int (1 : Int32)), (.int (1 : Int32)), (.int (own_one (1 : Int32) y0))])) tt
      refine XS.icmpYes X17.here hx rfl (pc0 := 144) (pc' := 151) rfl (hb hby at_144) rfl (flt (Int32.lt_irrefl : ¬ ((1 : Int32) < (1 : Int32)))).2.2.2 (by decide) (by decide) ?_
      show Steps p.tables e below (T17.setTop (mkF m 151 #[.val (.int u0), .val (.int u1), .val (.int u2), .val (.int u3), .val (.int u4), .val (.int u5), .val (.int (1 : Int32)), .val (.int fo), .val (.int y0), .val (.int y1), .val (.int y2), .val (.int y3), .val (.int y4), .val (.ref b14), .unset] [(.int (own_one (1 : Int32) y0))])) tt
      refine XS.iconst X17.here hx rfl (hb hby at_151) ?_
      show Steps p.tables e below (T17.setTop (mkF m 152 #[.val (.int u0), .val (.int u1), .val (.int u2), .val (.int u3), .val (.int u4), .val (.int u5), .val (.int (1 : Int32)), .val (.int fo), .val (.int y0), .val (.int y1), .val (.int y2), .val (.int y3), .val (.int y4), .val (.ref b14), .unset] [(.int (0 : Int32)), (.int (own_one (1 : Int32) y0))])) tt
      refine XS.iload X17.here hx rfl (hb hby at_152) rfl ?_
      exact kk
    obtain ⟨_, _, ⟨T18, L18, k18, n18⟩, -, X18, ⟨Lc18, hQ18, l18, y18, z18⟩, st18⟩ := Jvm.LawKit.callS X17 hx (y := (⟨"com/example/purloin/runner/PdfsReachedPinLaw", "one", "(ZI)I"⟩ : MethodName)) hown (mvT hZ (hw _ (mw 5 rfl))) (mvT hZ (hw _ (mw 6 rfl))) (mvT hZ (hw _ (mw 2 rfl))) (mvT hZ (hw _ (mw 7 rfl))) (by decide) (backOf (W := 1) (rmo l Z a0 hw [] (0 : Int32) y1 h15 n0 f16 ) hZ (hw _ (mw 7 rfl)) (hw _ (mw 2 rfl)) (by decide) (by decide)) (g := (mkF m 154 #[.val (.int u0), .val (.int u1), .val (.int u2), .val (.int u3), .val (.int u4), .val (.int u5), .val (.int (1 : Int32)), .val (.int fo), .val (.int y0), .val (.int y1), .val (.int y2), .val (.int y3), .val (.int y4), .val (.ref b14), .unset] [(.int y1), (.int (0 : Int32)), (.int (own_one (1 : Int32) y0))])) rfl (by rw [hml]; rfl) (argsL := [(.int (0 : Int32)), (.int y1)]) (rest := [(.int (own_one (1 : Int32) y0))]) (lenOf pd_1 rfl) rfl (by show 2 * 0 + _ ≤ _; exact Nat.le_of_eq rfl) (hb hby at_154) (fun _ _ => ⟨rfl, e17, (by decide : 1 + 0 ≤ _), (by decide : 1 + 0 ≤ _)⟩)
    dsimp only [Pt.U, Pt.locs, Pt.cells, Pt.slots] at X18 l18 y18 z18 st18 hQ18
    subst l18 y18 z18
    obtain ⟨rfl, N18q, e18⟩ := hQ18
    have N18 := Fr.app N17 N18q
    refine Goal.to (B := T18.setTop (mkF m 157 #[.val (.int u0), .val (.int u1), .val (.int u2), .val (.int u3), .val (.int u4), .val (.int u5), .val (.int (1 : Int32)), .val (.int fo), .val (.int y0), .val (.int y1), .val (.int y2), .val (.int y3), .val (.int y4), .val (.ref b14), .unset] [(.int (own_one (0 : Int32) y1)), (.int (own_one (1 : Int32) y0))])) st18 ?_
    refine Goal.to (B := T18.setTop (mkF m 171 #[.val (.int u0), .val (.int u1), .val (.int u2), .val (.int u3), .val (.int u4), .val (.int u5), .val (.int (1 : Int32)), .val (.int fo), .val (.int y0), .val (.int y1), .val (.int y2), .val (.int y3), .val (.int y4), .val (.ref b14), .unset] [(.int y2), (.int (0 : Int32)), (.int ((own_one (1 : Int32) y0) + (own_one (0 : Int32) y1)))])) (fun tt kk => ?_) ?_
    · show Steps p.tables e below (T18.setTop (mkF m 157 #[.val (.int u0), .val (.int u1), .val (.int u2), .val (.int u3), .val (.int u4), .val (.int u5), .val (.int (1 : Int32)), .val (.int fo), .val (.int y0), .val (.int y1), .val (.int y2), .val (.int y3), .val (.int y4), .val (.ref b14), .unset] [(.int (own_one (0 : Int32) y1)), (.int (own_one (1 : Int32) y0))])) tt
      refine XS.iadd X18.here hx rfl (hb hby at_157) rfl ?_
      show Steps p.tables e below (T18.setTop (mkF m 158 #[.val (.int u0), .val (.int u1), .val (.int u2), .val (.int u3), .val (.int u4), .val (.int u5), .val (.int (1 : Int32)), .val (.int fo), .val (.int y0), .val (.int y1), .val (.int y2), .val (.int y3), .val (.int y4), .val (.ref b14), .unset] [(.int ((own_one (1 : Int32) y0) + (own_one (0 : Int32) y1)))])) tt
      refine XS.iload X18.here hx rfl (hb hby at_158) rfl ?_
      show Steps p.tables e below (T18.setTop (mkF m 160 #[.val (.int u0), .val (.int u1), .val (.int u2), .val (.int u3), .val (.int u4), .val (.int u5), .val (.int (1 : Int32)), .val (.int fo), .val (.int y0), .val (.int y1), .val (.int y2), .val (.int y3), .val (.int y4), .val (.ref b14), .unset] [(.int (1 : Int32)), (.int ((own_one (1 : Int32) y0) + (own_one (0 : Int32) y1)))])) tt
      refine XS.iconst X18.here hx rfl (hb hby at_160) ?_
      show Steps p.tables e below (T18.setTop (mkF m 161 #[.val (.int u0), .val (.int u1), .val (.int u2), .val (.int u3), .val (.int u4), .val (.int u5), .val (.int (1 : Int32)), .val (.int fo), .val (.int y0), .val (.int y1), .val (.int y2), .val (.int y3), .val (.int y4), .val (.ref b14), .unset] [(.int (2 : Int32)), (.int (1 : Int32)), (.int ((own_one (1 : Int32) y0) + (own_one (0 : Int32) y1)))])) tt
      refine XS.icmpYes X18.here hx rfl (pc0 := 161) (pc' := 168) rfl (hb hby at_161) rfl (flt ((by decide) : ¬ ((2 : Int32) < (1 : Int32)))).2.2.2 (by decide) (by decide) ?_
      show Steps p.tables e below (T18.setTop (mkF m 168 #[.val (.int u0), .val (.int u1), .val (.int u2), .val (.int u3), .val (.int u4), .val (.int u5), .val (.int (1 : Int32)), .val (.int fo), .val (.int y0), .val (.int y1), .val (.int y2), .val (.int y3), .val (.int y4), .val (.ref b14), .unset] [(.int ((own_one (1 : Int32) y0) + (own_one (0 : Int32) y1)))])) tt
      refine XS.iconst X18.here hx rfl (hb hby at_168) ?_
      show Steps p.tables e below (T18.setTop (mkF m 169 #[.val (.int u0), .val (.int u1), .val (.int u2), .val (.int u3), .val (.int u4), .val (.int u5), .val (.int (1 : Int32)), .val (.int fo), .val (.int y0), .val (.int y1), .val (.int y2), .val (.int y3), .val (.int y4), .val (.ref b14), .unset] [(.int (0 : Int32)), (.int ((own_one (1 : Int32) y0) + (own_one (0 : Int32) y1)))])) tt
      refine XS.iload X18.here hx rfl (hb hby at_169) rfl ?_
      exact kk
    obtain ⟨_, _, ⟨T19, L19, k19, n19⟩, -, X19, ⟨Lc19, hQ19, l19, y19, z19⟩, st19⟩ := Jvm.LawKit.callS X18 hx (y := (⟨"com/example/purloin/runner/PdfsReachedPinLaw", "one", "(ZI)I"⟩ : MethodName)) hown (mvT hZ (hw _ (mw 5 rfl))) (mvT hZ (hw _ (mw 6 rfl))) (mvT hZ (hw _ (mw 2 rfl))) (mvT hZ (hw _ (mw 7 rfl))) (by decide) (backOf (W := 1) (rmo l Z a0 hw [] (0 : Int32) y2 h15 n0 f16 ) hZ (hw _ (mw 7 rfl)) (hw _ (mw 2 rfl)) (by decide) (by decide)) (g := (mkF m 171 #[.val (.int u0), .val (.int u1), .val (.int u2), .val (.int u3), .val (.int u4), .val (.int u5), .val (.int (1 : Int32)), .val (.int fo), .val (.int y0), .val (.int y1), .val (.int y2), .val (.int y3), .val (.int y4), .val (.ref b14), .unset] [(.int y2), (.int (0 : Int32)), (.int ((own_one (1 : Int32) y0) + (own_one (0 : Int32) y1)))])) rfl (by rw [hml]; rfl) (argsL := [(.int (0 : Int32)), (.int y2)]) (rest := [(.int ((own_one (1 : Int32) y0) + (own_one (0 : Int32) y1)))]) (lenOf pd_1 rfl) rfl (by show 2 * 0 + _ ≤ _; exact Nat.le_of_eq rfl) (hb hby at_171) (fun _ _ => ⟨rfl, e18, (by decide : 1 + 0 ≤ _), (by decide : 1 + 0 ≤ _)⟩)
    dsimp only [Pt.U, Pt.locs, Pt.cells, Pt.slots] at X19 l19 y19 z19 st19 hQ19
    subst l19 y19 z19
    obtain ⟨rfl, N19q, e19⟩ := hQ19
    have N19 := Fr.app N18 N19q
    refine Goal.to (B := T19.setTop (mkF m 174 #[.val (.int u0), .val (.int u1), .val (.int u2), .val (.int u3), .val (.int u4), .val (.int u5), .val (.int (1 : Int32)), .val (.int fo), .val (.int y0), .val (.int y1), .val (.int y2), .val (.int y3), .val (.int y4), .val (.ref b14), .unset] [(.int (own_one (0 : Int32) y2)), (.int ((own_one (1 : Int32) y0) + (own_one (0 : Int32) y1)))])) st19 ?_
    refine Goal.to (B := T19.setTop (mkF m 188 #[.val (.int u0), .val (.int u1), .val (.int u2), .val (.int u3), .val (.int u4), .val (.int u5), .val (.int (1 : Int32)), .val (.int fo), .val (.int y0), .val (.int y1), .val (.int y2), .val (.int y3), .val (.int y4), .val (.ref b14), .unset] [(.int y3), (.int (0 : Int32)), (.int (((own_one (1 : Int32) y0) + (own_one (0 : Int32) y1)) + (own_one (0 : Int32) y2)))])) (fun tt kk => ?_) ?_
    · show Steps p.tables e below (T19.setTop (mkF m 174 #[.val (.int u0), .val (.int u1), .val (.int u2), .val (.int u3), .val (.int u4), .val (.int u5), .val (.int (1 : Int32)), .val (.int fo), .val (.int y0), .val (.int y1), .val (.int y2), .val (.int y3), .val (.int y4), .val (.ref b14), .unset] [(.int (own_one (0 : Int32) y2)), (.int ((own_one (1 : Int32) y0) + (own_one (0 : Int32) y1)))])) tt
      refine XS.iadd X19.here hx rfl (hb hby at_174) rfl ?_
      show Steps p.tables e below (T19.setTop (mkF m 175 #[.val (.int u0), .val (.int u1), .val (.int u2), .val (.int u3), .val (.int u4), .val (.int u5), .val (.int (1 : Int32)), .val (.int fo), .val (.int y0), .val (.int y1), .val (.int y2), .val (.int y3), .val (.int y4), .val (.ref b14), .unset] [(.int (((own_one (1 : Int32) y0) + (own_one (0 : Int32) y1)) + (own_one (0 : Int32) y2)))])) tt
      refine XS.iload X19.here hx rfl (hb hby at_175) rfl ?_
      show Steps p.tables e below (T19.setTop (mkF m 177 #[.val (.int u0), .val (.int u1), .val (.int u2), .val (.int u3), .val (.int u4), .val (.int u5), .val (.int (1 : Int32)), .val (.int fo), .val (.int y0), .val (.int y1), .val (.int y2), .val (.int y3), .val (.int y4), .val (.ref b14), .unset] [(.int (1 : Int32)), (.int (((own_one (1 : Int32) y0) + (own_one (0 : Int32) y1)) + (own_one (0 : Int32) y2)))])) tt
      refine XS.iconst X19.here hx rfl (hb hby at_177) ?_
      show Steps p.tables e below (T19.setTop (mkF m 178 #[.val (.int u0), .val (.int u1), .val (.int u2), .val (.int u3), .val (.int u4), .val (.int u5), .val (.int (1 : Int32)), .val (.int fo), .val (.int y0), .val (.int y1), .val (.int y2), .val (.int y3), .val (.int y4), .val (.ref b14), .unset] [(.int (3 : Int32)), (.int (1 : Int32)), (.int (((own_one (1 : Int32) y0) + (own_one (0 : Int32) y1)) + (own_one (0 : Int32) y2)))])) tt
      refine XS.icmpYes X19.here hx rfl (pc0 := 178) (pc' := 185) rfl (hb hby at_178) rfl (flt ((by decide) : ¬ ((3 : Int32) < (1 : Int32)))).2.2.2 (by decide) (by decide) ?_
      show Steps p.tables e below (T19.setTop (mkF m 185 #[.val (.int u0), .val (.int u1), .val (.int u2), .val (.int u3), .val (.int u4), .val (.int u5), .val (.int (1 : Int32)), .val (.int fo), .val (.int y0), .val (.int y1), .val (.int y2), .val (.int y3), .val (.int y4), .val (.ref b14), .unset] [(.int (((own_one (1 : Int32) y0) + (own_one (0 : Int32) y1)) + (own_one (0 : Int32) y2)))])) tt
      refine XS.iconst X19.here hx rfl (hb hby at_185) ?_
      show Steps p.tables e below (T19.setTop (mkF m 186 #[.val (.int u0), .val (.int u1), .val (.int u2), .val (.int u3), .val (.int u4), .val (.int u5), .val (.int (1 : Int32)), .val (.int fo), .val (.int y0), .val (.int y1), .val (.int y2), .val (.int y3), .val (.int y4), .val (.ref b14), .unset] [(.int (0 : Int32)), (.int (((own_one (1 : Int32) y0) + (own_one (0 : Int32) y1)) + (own_one (0 : Int32) y2)))])) tt
      refine XS.iload X19.here hx rfl (hb hby at_186) rfl ?_
      exact kk
    obtain ⟨_, _, ⟨T20, L20, k20, n20⟩, -, X20, ⟨Lc20, hQ20, l20, y20, z20⟩, st20⟩ := Jvm.LawKit.callS X19 hx (y := (⟨"com/example/purloin/runner/PdfsReachedPinLaw", "one", "(ZI)I"⟩ : MethodName)) hown (mvT hZ (hw _ (mw 5 rfl))) (mvT hZ (hw _ (mw 6 rfl))) (mvT hZ (hw _ (mw 2 rfl))) (mvT hZ (hw _ (mw 7 rfl))) (by decide) (backOf (W := 1) (rmo l Z a0 hw [] (0 : Int32) y3 h15 n0 f16 ) hZ (hw _ (mw 7 rfl)) (hw _ (mw 2 rfl)) (by decide) (by decide)) (g := (mkF m 188 #[.val (.int u0), .val (.int u1), .val (.int u2), .val (.int u3), .val (.int u4), .val (.int u5), .val (.int (1 : Int32)), .val (.int fo), .val (.int y0), .val (.int y1), .val (.int y2), .val (.int y3), .val (.int y4), .val (.ref b14), .unset] [(.int y3), (.int (0 : Int32)), (.int (((own_one (1 : Int32) y0) + (own_one (0 : Int32) y1)) + (own_one (0 : Int32) y2)))])) rfl (by rw [hml]; rfl) (argsL := [(.int (0 : Int32)), (.int y3)]) (rest := [(.int (((own_one (1 : Int32) y0) + (own_one (0 : Int32) y1)) + (own_one (0 : Int32) y2)))]) (lenOf pd_1 rfl) rfl (by show 2 * 0 + _ ≤ _; exact Nat.le_of_eq rfl) (hb hby at_188) (fun _ _ => ⟨rfl, e19, (by decide : 1 + 0 ≤ _), (by decide : 1 + 0 ≤ _)⟩)
    dsimp only [Pt.U, Pt.locs, Pt.cells, Pt.slots] at X20 l20 y20 z20 st20 hQ20
    subst l20 y20 z20
    obtain ⟨rfl, N20q, e20⟩ := hQ20
    have N20 := Fr.app N19 N20q
    refine Goal.to (B := T20.setTop (mkF m 191 #[.val (.int u0), .val (.int u1), .val (.int u2), .val (.int u3), .val (.int u4), .val (.int u5), .val (.int (1 : Int32)), .val (.int fo), .val (.int y0), .val (.int y1), .val (.int y2), .val (.int y3), .val (.int y4), .val (.ref b14), .unset] [(.int (own_one (0 : Int32) y3)), (.int (((own_one (1 : Int32) y0) + (own_one (0 : Int32) y1)) + (own_one (0 : Int32) y2)))])) st20 ?_
    refine Goal.to (B := T20.setTop (mkF m 205 #[.val (.int u0), .val (.int u1), .val (.int u2), .val (.int u3), .val (.int u4), .val (.int u5), .val (.int (1 : Int32)), .val (.int fo), .val (.int y0), .val (.int y1), .val (.int y2), .val (.int y3), .val (.int y4), .val (.ref b14), .unset] [(.int y4), (.int (0 : Int32)), (.int ((((own_one (1 : Int32) y0) + (own_one (0 : Int32) y1)) + (own_one (0 : Int32) y2)) + (own_one (0 : Int32) y3)))])) (fun tt kk => ?_) ?_
    · show Steps p.tables e below (T20.setTop (mkF m 191 #[.val (.int u0), .val (.int u1), .val (.int u2), .val (.int u3), .val (.int u4), .val (.int u5), .val (.int (1 : Int32)), .val (.int fo), .val (.int y0), .val (.int y1), .val (.int y2), .val (.int y3), .val (.int y4), .val (.ref b14), .unset] [(.int (own_one (0 : Int32) y3)), (.int (((own_one (1 : Int32) y0) + (own_one (0 : Int32) y1)) + (own_one (0 : Int32) y2)))])) tt
      refine XS.iadd X20.here hx rfl (hb hby at_191) rfl ?_
      show Steps p.tables e below (T20.setTop (mkF m 192 #[.val (.int u0), .val (.int u1), .val (.int u2), .val (.int u3), .val (.int u4), .val (.int u5), .val (.int (1 : Int32)), .val (.int fo), .val (.int y0), .val (.int y1), .val (.int y2), .val (.int y3), .val (.int y4), .val (.ref b14), .unset] [(.int ((((own_one (1 : Int32) y0) + (own_one (0 : Int32) y1)) + (own_one (0 : Int32) y2)) + (own_one (0 : Int32) y3)))])) tt
      refine XS.iload X20.here hx rfl (hb hby at_192) rfl ?_
      show Steps p.tables e below (T20.setTop (mkF m 194 #[.val (.int u0), .val (.int u1), .val (.int u2), .val (.int u3), .val (.int u4), .val (.int u5), .val (.int (1 : Int32)), .val (.int fo), .val (.int y0), .val (.int y1), .val (.int y2), .val (.int y3), .val (.int y4), .val (.ref b14), .unset] [(.int (1 : Int32)), (.int ((((own_one (1 : Int32) y0) + (own_one (0 : Int32) y1)) + (own_one (0 : Int32) y2)) + (own_one (0 : Int32) y3)))])) tt
      refine XS.iconst X20.here hx rfl (hb hby at_194) ?_
      show Steps p.tables e below (T20.setTop (mkF m 195 #[.val (.int u0), .val (.int u1), .val (.int u2), .val (.int u3), .val (.int u4), .val (.int u5), .val (.int (1 : Int32)), .val (.int fo), .val (.int y0), .val (.int y1), .val (.int y2), .val (.int y3), .val (.int y4), .val (.ref b14), .unset] [(.int (4 : Int32)), (.int (1 : Int32)), (.int ((((own_one (1 : Int32) y0) + (own_one (0 : Int32) y1)) + (own_one (0 : Int32) y2)) + (own_one (0 : Int32) y3)))])) tt
      refine XS.icmpYes X20.here hx rfl (pc0 := 195) (pc' := 202) rfl (hb hby at_195) rfl (flt ((by decide) : ¬ ((4 : Int32) < (1 : Int32)))).2.2.2 (by decide) (by decide) ?_
      show Steps p.tables e below (T20.setTop (mkF m 202 #[.val (.int u0), .val (.int u1), .val (.int u2), .val (.int u3), .val (.int u4), .val (.int u5), .val (.int (1 : Int32)), .val (.int fo), .val (.int y0), .val (.int y1), .val (.int y2), .val (.int y3), .val (.int y4), .val (.ref b14), .unset] [(.int ((((own_one (1 : Int32) y0) + (own_one (0 : Int32) y1)) + (own_one (0 : Int32) y2)) + (own_one (0 : Int32) y3)))])) tt
      refine XS.iconst X20.here hx rfl (hb hby at_202) ?_
      show Steps p.tables e below (T20.setTop (mkF m 203 #[.val (.int u0), .val (.int u1), .val (.int u2), .val (.int u3), .val (.int u4), .val (.int u5), .val (.int (1 : Int32)), .val (.int fo), .val (.int y0), .val (.int y1), .val (.int y2), .val (.int y3), .val (.int y4), .val (.ref b14), .unset] [(.int (0 : Int32)), (.int ((((own_one (1 : Int32) y0) + (own_one (0 : Int32) y1)) + (own_one (0 : Int32) y2)) + (own_one (0 : Int32) y3)))])) tt
      refine XS.iload X20.here hx rfl (hb hby at_203) rfl ?_
      exact kk
    obtain ⟨_, _, ⟨T21, L21, k21, n21⟩, -, X21, ⟨Lc21, hQ21, l21, y21, z21⟩, st21⟩ := Jvm.LawKit.callS X20 hx (y := (⟨"com/example/purloin/runner/PdfsReachedPinLaw", "one", "(ZI)I"⟩ : MethodName)) hown (mvT hZ (hw _ (mw 5 rfl))) (mvT hZ (hw _ (mw 6 rfl))) (mvT hZ (hw _ (mw 2 rfl))) (mvT hZ (hw _ (mw 7 rfl))) (by decide) (backOf (W := 1) (rmo l Z a0 hw [] (0 : Int32) y4 h15 n0 f16 ) hZ (hw _ (mw 7 rfl)) (hw _ (mw 2 rfl)) (by decide) (by decide)) (g := (mkF m 205 #[.val (.int u0), .val (.int u1), .val (.int u2), .val (.int u3), .val (.int u4), .val (.int u5), .val (.int (1 : Int32)), .val (.int fo), .val (.int y0), .val (.int y1), .val (.int y2), .val (.int y3), .val (.int y4), .val (.ref b14), .unset] [(.int y4), (.int (0 : Int32)), (.int ((((own_one (1 : Int32) y0) + (own_one (0 : Int32) y1)) + (own_one (0 : Int32) y2)) + (own_one (0 : Int32) y3)))])) rfl (by rw [hml]; rfl) (argsL := [(.int (0 : Int32)), (.int y4)]) (rest := [(.int ((((own_one (1 : Int32) y0) + (own_one (0 : Int32) y1)) + (own_one (0 : Int32) y2)) + (own_one (0 : Int32) y3)))]) (lenOf pd_1 rfl) rfl (by show 2 * 0 + _ ≤ _; exact Nat.le_of_eq rfl) (hb hby at_205) (fun _ _ => ⟨rfl, e20, (by decide : 1 + 0 ≤ _), (by decide : 1 + 0 ≤ _)⟩)
    dsimp only [Pt.U, Pt.locs, Pt.cells, Pt.slots] at X21 l21 y21 z21 st21 hQ21
    subst l21 y21 z21
    obtain ⟨rfl, N21q, e21⟩ := hQ21
    have N21 := Fr.app N20 N21q
    refine Goal.to (B := T21.setTop (mkF m 208 #[.val (.int u0), .val (.int u1), .val (.int u2), .val (.int u3), .val (.int u4), .val (.int u5), .val (.int (1 : Int32)), .val (.int fo), .val (.int y0), .val (.int y1), .val (.int y2), .val (.int y3), .val (.int y4), .val (.ref b14), .unset] [(.int (own_one (0 : Int32) y4)), (.int ((((own_one (1 : Int32) y0) + (own_one (0 : Int32) y1)) + (own_one (0 : Int32) y2)) + (own_one (0 : Int32) y3)))])) st21 ?_
    refine Goal.to (B := T21.setTop (mkF m 213 #[.val (.int u0), .val (.int u1), .val (.int u2), .val (.int u3), .val (.int u4), .val (.int u5), .val (.int (1 : Int32)), .val (.int fo), .val (.int y0), .val (.int y1), .val (.int y2), .val (.int y3), .val (.int y4), .val (.ref b14), .val (.int (((((own_one (1 : Int32) y0) + (own_one (0 : Int32) y1)) + (own_one (0 : Int32) y2)) + (own_one (0 : Int32) y3)) + (own_one (0 : Int32) y4)))] [(.ref b14)])) (fun tt kk => ?_) ?_
    · show Steps p.tables e below (T21.setTop (mkF m 208 #[.val (.int u0), .val (.int u1), .val (.int u2), .val (.int u3), .val (.int u4), .val (.int u5), .val (.int (1 : Int32)), .val (.int fo), .val (.int y0), .val (.int y1), .val (.int y2), .val (.int y3), .val (.int y4), .val (.ref b14), .unset] [(.int (own_one (0 : Int32) y4)), (.int ((((own_one (1 : Int32) y0) + (own_one (0 : Int32) y1)) + (own_one (0 : Int32) y2)) + (own_one (0 : Int32) y3)))])) tt
      refine XS.iadd X21.here hx rfl (hb hby at_208) rfl ?_
      show Steps p.tables e below (T21.setTop (mkF m 209 #[.val (.int u0), .val (.int u1), .val (.int u2), .val (.int u3), .val (.int u4), .val (.int u5), .val (.int (1 : Int32)), .val (.int fo), .val (.int y0), .val (.int y1), .val (.int y2), .val (.int y3), .val (.int y4), .val (.ref b14), .unset] [(.int (((((own_one (1 : Int32) y0) + (own_one (0 : Int32) y1)) + (own_one (0 : Int32) y2)) + (own_one (0 : Int32) y3)) + (own_one (0 : Int32) y4)))])) tt
      refine XS.istore X21.here hx rfl (hb hby at_209) rfl (l' := #[.val (.int u0), .val (.int u1), .val (.int u2), .val (.int u3), .val (.int u4), .val (.int u5), .val (.int (1 : Int32)), .val (.int fo), .val (.int y0), .val (.int y1), .val (.int y2), .val (.int y3), .val (.int y4), .val (.ref b14), .val (.int (((((own_one (1 : Int32) y0) + (own_one (0 : Int32) y1)) + (own_one (0 : Int32) y2)) + (own_one (0 : Int32) y3)) + (own_one (0 : Int32) y4)))]) rfl ?_
      show Steps p.tables e below (T21.setTop (mkF m 211 #[.val (.int u0), .val (.int u1), .val (.int u2), .val (.int u3), .val (.int u4), .val (.int u5), .val (.int (1 : Int32)), .val (.int fo), .val (.int y0), .val (.int y1), .val (.int y2), .val (.int y3), .val (.int y4), .val (.ref b14), .val (.int (((((own_one (1 : Int32) y0) + (own_one (0 : Int32) y1)) + (own_one (0 : Int32) y2)) + (own_one (0 : Int32) y3)) + (own_one (0 : Int32) y4)))] [])) tt
      refine XS.aload X21.here hx rfl (hb hby at_211) rfl rfl ?_
      exact kk
    obtain ⟨_, _, ⟨T22, L22, k22, n22⟩, -, X22, ⟨Lc22, hQ22, l22, y22, z22⟩, st22⟩ := Jvm.LawKit.callS X21 hx (y := (⟨"com/example/purloin/runner/Pdfs", "reached", "([I)I"⟩ : MethodName)) hown (mvT hZ (hw _ (mw 8 rfl))) (mvT hZ (hw _ (mw 9 rfl))) (mvT hZ (hw _ (mw 10 rfl))) (mvT hZ (hw _ (mw 11 rfl))) (by decide) (backOf (W := 0) (rmr1 l Z a0 hw [] b14 y0 h15 n0 f16 V15) hZ (hw _ (mw 11 rfl)) (hw _ (mw 10 rfl)) (by decide) (by decide)) (g := (mkF m 213 #[.val (.int u0), .val (.int u1), .val (.int u2), .val (.int u3), .val (.int u4), .val (.int u5), .val (.int (1 : Int32)), .val (.int fo), .val (.int y0), .val (.int y1), .val (.int y2), .val (.int y3), .val (.int y4), .val (.ref b14), .val (.int (((((own_one (1 : Int32) y0) + (own_one (0 : Int32) y1)) + (own_one (0 : Int32) y2)) + (own_one (0 : Int32) y3)) + (own_one (0 : Int32) y4)))] [(.ref b14)])) rfl (by rw [hml]; rfl) (argsL := [(.ref b14)]) (rest := []) (lenOf pd_2 rfl) rfl (by show 2 * 0 + _ ≤ _; exact Nat.le_of_eq rfl) (hb hby at_213) (fun _ _ => ⟨rfl, e21, (by decide : 1 + 0 ≤ _), (by decide : 1 + 0 ≤ _)⟩)
    dsimp only [Pt.U, Pt.locs, Pt.cells, Pt.slots] at X22 l22 y22 z22 st22 hQ22
    subst l22 y22 z22
    obtain ⟨rfl, N22q, e22⟩ := hQ22
    have N22 := Fr.app N21 N22q
    refine Goal.to (B := T22.setTop (mkF m 216 #[.val (.int u0), .val (.int u1), .val (.int u2), .val (.int u3), .val (.int u4), .val (.int u5), .val (.int (1 : Int32)), .val (.int fo), .val (.int y0), .val (.int y1), .val (.int y2), .val (.int y3), .val (.int y4), .val (.ref b14), .val (.int (((((own_one (1 : Int32) y0) + (own_one (0 : Int32) y1)) + (own_one (0 : Int32) y2)) + (own_one (0 : Int32) y3)) + (own_one (0 : Int32) y4)))] [(.int (own_add (0 : Int32) y0))])) st22 ?_
    refine Goal.to (B := T22.setTop (mkF m 226 #[.val (.int u0), .val (.int u1), .val (.int u2), .val (.int u3), .val (.int u4), .val (.int u5), .val (.int (1 : Int32)), .val (.int fo), .val (.int y0), .val (.int y1), .val (.int y2), .val (.int y3), .val (.int y4), .val (.ref b14), .val (.int (((((own_one (1 : Int32) y0) + (own_one (0 : Int32) y1)) + (own_one (0 : Int32) y2)) + (own_one (0 : Int32) y3)) + (own_one (0 : Int32) y4)))] [(.int (1 : Int32))])) (fun tt kk => ?_) ?_
    · show Steps p.tables e below (T22.setTop (mkF m 216 #[.val (.int u0), .val (.int u1), .val (.int u2), .val (.int u3), .val (.int u4), .val (.int u5), .val (.int (1 : Int32)), .val (.int fo), .val (.int y0), .val (.int y1), .val (.int y2), .val (.int y3), .val (.int y4), .val (.ref b14), .val (.int (((((own_one (1 : Int32) y0) + (own_one (0 : Int32) y1)) + (own_one (0 : Int32) y2)) + (own_one (0 : Int32) y3)) + (own_one (0 : Int32) y4)))] [(.int (own_add (0 : Int32) y0))])) tt
      refine XS.iload X22.here hx rfl (hb hby at_216) rfl ?_
      show Steps p.tables e below (T22.setTop (mkF m 218 #[.val (.int u0), .val (.int u1), .val (.int u2), .val (.int u3), .val (.int u4), .val (.int u5), .val (.int (1 : Int32)), .val (.int fo), .val (.int y0), .val (.int y1), .val (.int y2), .val (.int y3), .val (.int y4), .val (.ref b14), .val (.int (((((own_one (1 : Int32) y0) + (own_one (0 : Int32) y1)) + (own_one (0 : Int32) y2)) + (own_one (0 : Int32) y3)) + (own_one (0 : Int32) y4)))] [(.int (((((own_one (1 : Int32) y0) + (own_one (0 : Int32) y1)) + (own_one (0 : Int32) y2)) + (own_one (0 : Int32) y3)) + (own_one (0 : Int32) y4))), (.int (own_add (0 : Int32) y0))])) tt
      refine XS.icmpNo X22.here hx rfl (hb hby at_218) rfl (teq (by simp only [own_addE, own_one0, Int32.zero_add, Int32.add_zero] : (own_add (0 : Int32) y0) = (((((own_one (1 : Int32) y0) + (own_one (0 : Int32) y1)) + (own_one (0 : Int32) y2)) + (own_one (0 : Int32) y3)) + (own_one (0 : Int32) y4)))).2 ?_
      show Steps p.tables e below (T22.setTop (mkF m 221 #[.val (.int u0), .val (.int u1), .val (.int u2), .val (.int u3), .val (.int u4), .val (.int u5), .val (.int (1 : Int32)), .val (.int fo), .val (.int y0), .val (.int y1), .val (.int y2), .val (.int y3), .val (.int y4), .val (.ref b14), .val (.int (((((own_one (1 : Int32) y0) + (own_one (0 : Int32) y1)) + (own_one (0 : Int32) y2)) + (own_one (0 : Int32) y3)) + (own_one (0 : Int32) y4)))] [])) tt
      refine XS.iconst X22.here hx rfl (hb hby at_221) ?_
      show Steps p.tables e below (T22.setTop (mkF m 222 #[.val (.int u0), .val (.int u1), .val (.int u2), .val (.int u3), .val (.int u4), .val (.int u5), .val (.int (1 : Int32)), .val (.int fo), .val (.int y0), .val (.int y1), .val (.int y2), .val (.int y3), .val (.int y4), .val (.ref b14), .val (.int (((((own_one (1 : Int32) y0) + (own_one (0 : Int32) y1)) + (own_one (0 : Int32) y2)) + (own_one (0 : Int32) y3)) + (own_one (0 : Int32) y4)))] [(.int (1 : Int32))])) tt
      refine XS.goto X22.here hx rfl (pc0 := 222) (pc' := 226) rfl (hb hby at_222) (by decide) (by decide) ?_
      exact kk
    exact Goal.retV X22 hx Bd.returns rfl (Or.inl ⟨rfl, Or.inr (Or.inl rfl), _, rfl⟩) (hb hby at_226) hlk e22 ⟨rfl, N22⟩ (by decide) (by decide)
  · obtain ⟨T23, h23, k23, X23, e23, E23, A23, st23⟩ := newP X5 hx hZ (hw _ (mw 4 rfl)) e5 (g := (mkF m 63 #[.val (.int u0), .val (.int u1), .val (.int u2), .val (.int u3), .val (.int u4), .val (.int u5), .val (.int (2 : Int32)), .val (.int fo), .val (.int y0), .val (.int y1), .val (.int y2), .val (.int y3), .val (.int y4), .unset, .unset] [(.int (2 : Int32))])) rfl (hb hby at_63) rfl (by decide) (cap := 2) (by decide) (by decide) (by decide) (by decide)
    obtain ⟨b23, g23⟩ : ∃ z, z = h0.size := ⟨_, rfl⟩
    rw [← g23] at A23 st23
    have g_b23 : n0 ≤ b23 := Nat.le_trans Z0 (Nat.le_of_eq g23.symm)
    have V23 : Ary Z h23 b23 .int [(.int (0 : Int32)), (.int (0 : Int32))] := Ary.new A23 rfl
    refine Goal.to (B := T23.setTop (mkF m 65 #[.val (.int u0), .val (.int u1), .val (.int u2), .val (.int u3), .val (.int u4), .val (.int u5), .val (.int (2 : Int32)), .val (.int fo), .val (.int y0), .val (.int y1), .val (.int y2), .val (.int y3), .val (.int y4), .unset, .unset] [(.ref b23)])) st23 ?_
    refine Goal.to (B := T23.setTop (mkF m 77 #[.val (.int u0), .val (.int u1), .val (.int u2), .val (.int u3), .val (.int u4), .val (.int u5), .val (.int (2 : Int32)), .val (.int fo), .val (.int y0), .val (.int y1), .val (.int y2), .val (.int y3), .val (.int y4), .val (.ref b23), .unset] [(.int y0), (.int (0 : Int32)), (.ref b23)])) (fun tt kk => ?_) ?_
    · show Steps p.tables e below (T23.setTop (mkF m 65 #[.val (.int u0), .val (.int u1), .val (.int u2), .val (.int u3), .val (.int u4), .val (.int u5), .val (.int (2 : Int32)), .val (.int fo), .val (.int y0), .val (.int y1), .val (.int y2), .val (.int y3), .val (.int y4), .unset, .unset] [(.ref b23)])) tt
      refine XS.astore X23.here hx rfl (hb hby at_65) rfl rfl (l' := #[.val (.int u0), .val (.int u1), .val (.int u2), .val (.int u3), .val (.int u4), .val (.int u5), .val (.int (2 : Int32)), .val (.int fo), .val (.int y0), .val (.int y1), .val (.int y2), .val (.int y3), .val (.int y4), .val (.ref b23), .unset]) rfl ?_
      show Steps p.tables e below (T23.setTop (mkF m 67 #[.val (.int u0), .val (.int u1), .val (.int u2), .val (.int u3), .val (.int u4), .val (.int u5), .val (.int (2 : Int32)), .val (.int fo), .val (.int y0), .val (.int y1), .val (.int y2), .val (.int y3), .val (.int y4), .val (.ref b23), .unset] [])) tt
      refine XS.iload X23.here hx rfl (hb hby at_67) rfl ?_
      show Steps p.tables e below (T23.setTop (mkF m 69 #[.val (.int u0), .val (.int u1), .val (.int u2), .val (.int u3), .val (.int u4), .val (.int u5), .val (.int (2 : Int32)), .val (.int fo), .val (.int y0), .val (.int y1), .val (.int y2), .val (.int y3), .val (.int y4), .val (.ref b23), .unset] [(.int (2 : Int32))])) tt
      refine XS.ifNo X23.here hx rfl (hb hby at_69) rfl ((if0 _ _).trans (tlt ((by decide) : (0 : Int32) < (2 : Int32))).2.2.2) ?_
      show Steps p.tables e below (T23.setTop (mkF m 72 #[.val (.int u0), .val (.int u1), .val (.int u2), .val (.int u3), .val (.int u4), .val (.int u5), .val (.int (2 : Int32)), .val (.int fo), .val (.int y0), .val (.int y1), .val (.int y2), .val (.int y3), .val (.int y4), .val (.ref b23), .unset] [])) tt
      refine XS.aload X23.here hx rfl (hb hby at_72) rfl rfl ?_
      show Steps p.tables e below (T23.setTop (mkF m 74 #[.val (.int u0), .val (.int u1), .val (.int u2), .val (.int u3), .val (.int u4), .val (.int u5), .val (.int (2 : Int32)), .val (.int fo), .val (.int y0), .val (.int y1), .val (.int y2), .val (.int y3), .val (.int y4), .val (.ref b23), .unset] [(.ref b23)])) tt
      refine XS.iconst X23.here hx rfl (hb hby at_74) ?_
      show Steps p.tables e below (T23.setTop (mkF m 75 #[.val (.int u0), .val (.int u1), .val (.int u2), .val (.int u3), .val (.int u4), .val (.int u5), .val (.int (2 : Int32)), .val (.int fo), .val (.int y0), .val (.int y1), .val (.int y2), .val (.int y3), .val (.int y4), .val (.ref b23), .unset] [(.int (0 : Int32)), (.ref b23)])) tt
      refine XS.iload X23.here hx rfl (hb hby at_75) rfl ?_
      exact kk
    obtain ⟨cl24, Ar24, Sl24⟩ := id V23
    have hin24 := inA (cl := cl24) Sl24 (j := (0 : Int32)) (by decide) (Nat.le_of_ble_eq_true rfl)
    obtain ⟨T24, h24, X24, e24, W24, st24⟩ := stI X23 hx hZ e23 Ar24 (j := (0 : Int32)) hin24 (g := (mkF m 77 #[.val (.int u0), .val (.int u1), .val (.int u2), .val (.int u3), .val (.int u4), .val (.int u5), .val (.int (2 : Int32)), .val (.int fo), .val (.int y0), .val (.int y1), .val (.int y2), .val (.int y3), .val (.int y4), .val (.ref b23), .unset] [(.int y0), (.int (0 : Int32)), (.ref b23)])) rfl rfl (hb hby at_77)
    have V24 : Ary Z h24 b23 .int [(.int y0), (.int (0 : Int32))] := Ary.put Ar24 Sl24 W24 rfl
    have N24 := Fr.snoc X24 N5 g_b23
    refine Goal.to (B := T24.setTop (mkF m 78 #[.val (.int u0), .val (.int u1), .val (.int u2), .val (.int u3), .val (.int u4), .val (.int u5), .val (.int (2 : Int32)), .val (.int fo), .val (.int y0), .val (.int y1), .val (.int y2), .val (.int y3), .val (.int y4), .val (.ref b23), .unset] [])) st24 ?_
    refine Goal.to (B := T24.setTop (mkF m 89 #[.val (.int u0), .val (.int u1), .val (.int u2), .val (.int u3), .val (.int u4), .val (.int u5), .val (.int (2 : Int32)), .val (.int fo), .val (.int y0), .val (.int y1), .val (.int y2), .val (.int y3), .val (.int y4), .val (.ref b23), .unset] [(.int y1), (.int (1 : Int32)), (.ref b23)])) (fun tt kk => ?_) ?_
    · show Steps p.tables e below (T24.setTop (mkF m 78 #[.val (.int u0), .val (.int u1), .val (.int u2), .val (.int u3), .val (.int u4), .val (.int u5), .val (.int (2 : Int32)), .val (.int fo), .val (.int y0), .val (.int y1), .val (.int y2), .val (.int y3), .val (.int y4), .val (.ref b23), .unset] [])) tt
      refine XS.iload X24.here hx rfl (hb hby at_78) rfl ?_
      show Steps p.tables e below (T24.setTop (mkF m 80 #[.val (.int u0), .val (.int u1), .val (.int u2), .val (.int u3), .val (.int u4), .val (.int u5), .val (.int (2 : Int32)), .val (.int fo), .val (.int y0), .val (.int y1), .val (.int y2), .val (.int y3), .val (.int y4), .val (.ref b23), .unset] [(.int (2 : Int32))])) tt
      refine XS.iconst X24.here hx rfl (hb hby at_80) ?_
      show Steps p.tables e below (T24.setTop (mkF m 81 #[.val (.int u0), .val (.int u1), .val (.int u2), .val (.int u3), .val (.int u4), .val (.int u5), .val (.int (2 : Int32)), .val (.int fo), .val (.int y0), .val (.int y1), .val (.int y2), .val (.int y3), .val (.int y4), .val (.ref b23), .unset] [(.int (1 : Int32)), (.int (2 : Int32))])) tt
      refine XS.icmpNo X24.here hx rfl (hb hby at_81) rfl (tlt ((by decide) : (1 : Int32) < (2 : Int32))).2.2.2 ?_
      show Steps p.tables e below (T24.setTop (mkF m 84 #[.val (.int u0), .val (.int u1), .val (.int u2), .val (.int u3), .val (.int u4), .val (.int u5), .val (.int (2 : Int32)), .val (.int fo), .val (.int y0), .val (.int y1), .val (.int y2), .val (.int y3), .val (.int y4), .val (.ref b23), .unset] [])) tt
      refine XS.aload X24.here hx rfl (hb hby at_84) rfl rfl ?_
      show Steps p.tables e below (T24.setTop (mkF m 86 #[.val (.int u0), .val (.int u1), .val (.int u2), .val (.int u3), .val (.int u4), .val (.int u5), .val (.int (2 : Int32)), .val (.int fo), .val (.int y0), .val (.int y1), .val (.int y2), .val (.int y3), .val (.int y4), .val (.ref b23), .unset] [(.ref b23)])) tt
      refine XS.iconst X24.here hx rfl (hb hby at_86) ?_
      show Steps p.tables e below (T24.setTop (mkF m 87 #[.val (.int u0), .val (.int u1), .val (.int u2), .val (.int u3), .val (.int u4), .val (.int u5), .val (.int (2 : Int32)), .val (.int fo), .val (.int y0), .val (.int y1), .val (.int y2), .val (.int y3), .val (.int y4), .val (.ref b23), .unset] [(.int (1 : Int32)), (.ref b23)])) tt
      refine XS.iload X24.here hx rfl (hb hby at_87) rfl ?_
      exact kk
    obtain ⟨cl25, Ar25, Sl25⟩ := id V24
    have hin25 := inA (cl := cl25) Sl25 (j := (1 : Int32)) (by decide) (Nat.le_of_ble_eq_true rfl)
    obtain ⟨T25, h25, X25, e25, W25, st25⟩ := stI X24 hx hZ e24 Ar25 (j := (1 : Int32)) hin25 (g := (mkF m 89 #[.val (.int u0), .val (.int u1), .val (.int u2), .val (.int u3), .val (.int u4), .val (.int u5), .val (.int (2 : Int32)), .val (.int fo), .val (.int y0), .val (.int y1), .val (.int y2), .val (.int y3), .val (.int y4), .val (.ref b23), .unset] [(.int y1), (.int (1 : Int32)), (.ref b23)])) rfl rfl (hb hby at_89)
    have V25 : Ary Z h25 b23 .int [(.int y0), (.int y1)] := Ary.put Ar25 Sl25 W25 rfl
    have N25 := Fr.snoc X25 N24 g_b23
    refine Goal.to (B := T25.setTop (mkF m 90 #[.val (.int u0), .val (.int u1), .val (.int u2), .val (.int u3), .val (.int u4), .val (.int u5), .val (.int (2 : Int32)), .val (.int fo), .val (.int y0), .val (.int y1), .val (.int y2), .val (.int y3), .val (.int y4), .val (.ref b23), .unset] [])) st25 ?_
    refine Goal.to (B := T25.setTop (mkF m 138 #[.val (.int u0), .val (.int u1), .val (.int u2), .val (.int u3), .val (.int u4), .val (.int u5), .val (.int (2 : Int32)), .val (.int fo), .val (.int y0), .val (.int y1), .val (.int y2), .val (.int y3), .val (.int y4), .val (.ref b23), .unset] [(.int y0), (.int (1 : Int32))])) (fun tt kk => ?_) ?_
    · show Steps p.tables e below (T25.setTop (mkF m 90 #[.val (.int u0), .val (.int u1), .val (.int u2), .val (.int u3), .val (.int u4), .val (.int u5), .val (.int (2 : Int32)), .val (.int fo), .val (.int y0), .val (.int y1), .val (.int y2), .val (.int y3), .val (.int y4), .val (.ref b23), .unset] [])) tt
      refine XS.iload X25.here hx rfl (hb hby at_90) rfl ?_
      show Steps p.tables e below (T25.setTop (mkF m 92 #[.val (.int u0), .val (.int u1), .val (.int u2), .val (.int u3), .val (.int u4), .val (.int u5), .val (.int (2 : Int32)), .val (.int fo), .val (.int y0), .val (.int y1), .val (.int y2), .val (.int y3), .val (.int y4), .val (.ref b23), .unset] [(.int (2 : Int32))])) tt
      refine XS.iconst X25.here hx rfl (hb hby at_92) ?_
      show Steps p.tables e below (T25.setTop (mkF m 93 #[.val (.int u0), .val (.int u1), .val (.int u2), .val (.int u3), .val (.int u4), .val (.int u5), .val (.int (2 : Int32)), .val (.int fo), .val (.int y0), .val (.int y1), .val (.int y2), .val (.int y3), .val (.int y4), .val (.ref b23), .unset] [(.int (2 : Int32)), (.int (2 : Int32))])) tt
      refine XS.icmpYes X25.here hx rfl (pc0 := 93) (pc' := 102) rfl (hb hby at_93) rfl (flt (Int32.lt_irrefl : ¬ ((2 : Int32) < (2 : Int32)))).2.2.2 (by decide) (by decide) ?_
      show Steps p.tables e below (T25.setTop (mkF m 102 #[.val (.int u0), .val (.int u1), .val (.int u2), .val (.int u3), .val (.int u4), .val (.int u5), .val (.int (2 : Int32)), .val (.int fo), .val (.int y0), .val (.int y1), .val (.int y2), .val (.int y3), .val (.int y4), .val (.ref b23), .unset] [])) tt
      refine XS.iload X25.here hx rfl (hb hby at_102) rfl ?_
      show Steps p.tables e below (T25.setTop (mkF m 104 #[.val (.int u0), .val (.int u1), .val (.int u2), .val (.int u3), .val (.int u4), .val (.int u5), .val (.int (2 : Int32)), .val (.int fo), .val (.int y0), .val (.int y1), .val (.int y2), .val (.int y3), .val (.int y4), .val (.ref b23), .unset] [(.int (2 : Int32))])) tt
      refine XS.iconst X25.here hx rfl (hb hby at_104) ?_
      show Steps p.tables e below (T25.setTop (mkF m 105 #[.val (.int u0), .val (.int u1), .val (.int u2), .val (.int u3), .val (.int u4), .val (.int u5), .val (.int (2 : Int32)), .val (.int fo), .val (.int y0), .val (.int y1), .val (.int y2), .val (.int y3), .val (.int y4), .val (.ref b23), .unset] [(.int (3 : Int32)), (.int (2 : Int32))])) tt
      refine XS.icmpYes X25.here hx rfl (pc0 := 105) (pc' := 114) rfl (hb hby at_105) rfl (flt ((by decide) : ¬ ((3 : Int32) < (2 : Int32)))).2.2.2 (by decide) (by decide) ?_
      show Steps p.tables e below (T25.setTop (mkF m 114 #[.val (.int u0), .val (.int u1), .val (.int u2), .val (.int u3), .val (.int u4), .val (.int u5), .val (.int (2 : Int32)), .val (.int fo), .val (.int y0), .val (.int y1), .val (.int y2), .val (.int y3), .val (.int y4), .val (.ref b23), .unset] [])) tt
      refine XS.iload X25.here hx rfl (hb hby at_114) rfl ?_
      show Steps p.tables e below (T25.setTop (mkF m 116 #[.val (.int u0), .val (.int u1), .val (.int u2), .val (.int u3), .val (.int u4), .val (.int u5), .val (.int (2 : Int32)), .val (.int fo), .val (.int y0), .val (.int y1), .val (.int y2), .val (.int y3), .val (.int y4), .val (.ref b23), .unset] [(.int (2 : Int32))])) tt
      refine XS.iconst X25.here hx rfl (hb hby at_116) ?_
      show Steps p.tables e below (T25.setTop (mkF m 117 #[.val (.int u0), .val (.int u1), .val (.int u2), .val (.int u3), .val (.int u4), .val (.int u5), .val (.int (2 : Int32)), .val (.int fo), .val (.int y0), .val (.int y1), .val (.int y2), .val (.int y3), .val (.int y4), .val (.ref b23), .unset] [(.int (4 : Int32)), (.int (2 : Int32))])) tt
      refine XS.icmpYes X25.here hx rfl (pc0 := 117) (pc' := 126) rfl (hb hby at_117) rfl (flt ((by decide) : ¬ ((4 : Int32) < (2 : Int32)))).2.2.2 (by decide) (by decide) ?_
      show Steps p.tables e below (T25.setTop (mkF m 126 #[.val (.int u0), .val (.int u1), .val (.int u2), .val (.int u3), .val (.int u4), .val (.int u5), .val (.int (2 : Int32)), .val (.int fo), .val (.int y0), .val (.int y1), .val (.int y2), .val (.int y3), .val (.int y4), .val (.ref b23), .unset] [])) tt
      refine XS.iload X25.here hx rfl (hb hby at_126) rfl ?_
      show Steps p.tables e below (T25.setTop (mkF m 128 #[.val (.int u0), .val (.int u1), .val (.int u2), .val (.int u3), .val (.int u4), .val (.int u5), .val (.int (2 : Int32)), .val (.int fo), .val (.int y0), .val (.int y1), .val (.int y2), .val (.int y3), .val (.int y4), .val (.ref b23), .unset] [(.int (2 : Int32))])) tt
      refine XS.ifNo X25.here hx rfl (hb hby at_128) rfl ((if0 _ _).trans (tlt ((by decide) : (0 : Int32) < (2 : Int32))).2.2.2) ?_
      show Steps p.tables e below (T25.setTop (mkF m 131 #[.val (.int u0), .val (.int u1), .val (.int u2), .val (.int u3), .val (.int u4), .val (.int u5), .val (.int (2 : Int32)), .val (.int fo), .val (.int y0), .val (.int y1), .val (.int y2), .val (.int y3), .val (.int y4), .val (.ref b23), .unset] [])) tt
      refine XS.iconst X25.here hx rfl (hb hby at_131) ?_
      show Steps p.tables e below (T25.setTop (mkF m 132 #[.val (.int u0), .val (.int u1), .val (.int u2), .val (.int u3), .val (.int u4), .val (.int u5), .val (.int (2 : Int32)), .val (.int fo), .val (.int y0), .val (.int y1), .val (.int y2), .val (.int y3), .val (.int y4), .val (.ref b23), .unset] [(.int (1 : Int32))])) tt
      refine XS.goto X25.here hx rfl (pc0 := 132) (pc' := 136) rfl (hb hby at_132) (by decide) (by decide) ?_
      show Steps p.tables e below (T25.setTop (mkF m 136 #[.val (.int u0), .val (.int u1), .val (.int u2), .val (.int u3), .val (.int u4), .val (.int u5), .val (.int (2 : Int32)), .val (.int fo), .val (.int y0), .val (.int y1), .val (.int y2), .val (.int y3), .val (.int y4), .val (.ref b23), .unset] [(.int (1 : Int32))])) tt
      refine XS.iload X25.here hx rfl (hb hby at_136) rfl ?_
      exact kk
    have f26 : n0 ≤ h25.size := (Nat.le_trans (Nat.le_trans (Nat.le_trans Z0 E23.1) (Keep.of_wr W24).1) (Keep.of_wr W25).1)
    obtain ⟨_, _, ⟨T27, L27, k27, n27⟩, -, X27, ⟨Lc27, hQ27, l27, y27, z27⟩, st27⟩ := Jvm.LawKit.callS X25 hx (y := (⟨"com/example/purloin/runner/PdfsReachedPinLaw", "one", "(ZI)I"⟩ : MethodName)) hown (mvT hZ (hw _ (mw 5 rfl))) (mvT hZ (hw _ (mw 6 rfl))) (mvT hZ (hw _ (mw 2 rfl))) (mvT hZ (hw _ (mw 7 rfl))) (by decide) (backOf (W := 0) (rmo l Z a0 hw [] (1 : Int32) y0 h25 n0 f26 ) hZ (hw _ (mw 7 rfl)) (hw _ (mw 2 rfl)) (by decide) (by decide)) (g := (mkF m 138 #[.val (.int u0), .val (.int u1), .val (.int u2), .val (.int u3), .val (.int u4), .val (.int u5), .val (.int (2 : Int32)), .val (.int fo), .val (.int y0), .val (.int y1), .val (.int y2), .val (.int y3), .val (.int y4), .val (.ref b23), .unset] [(.int y0), (.int (1 : Int32))])) rfl (by rw [hml]; rfl) (argsL := [(.int (1 : Int32)), (.int y0)]) (rest := []) (lenOf pd_1 rfl) rfl (by show 2 * 0 + _ ≤ _; exact Nat.le_of_eq rfl) (hb hby at_138) (fun _ _ => ⟨rfl, e25, (by decide : 1 + 0 ≤ _), (by decide : 2 + 0 ≤ _)⟩)
    dsimp only [Pt.U, Pt.locs, Pt.cells, Pt.slots] at X27 l27 y27 z27 st27 hQ27
    subst l27 y27 z27
    obtain ⟨rfl, N27q, e27⟩ := hQ27
    have N27 := Fr.app N25 N27q
    refine Goal.to (B := T27.setTop (mkF m 141 #[.val (.int u0), .val (.int u1), .val (.int u2), .val (.int u3), .val (.int u4), .val (.int u5), .val (.int (2 : Int32)), .val (.int fo), .val (.int y0), .val (.int y1), .val (.int y2), .val (.int y3), .val (.int y4), .val (.ref b23), .unset] [(.int (own_one (1 : Int32) y0))])) st27 ?_
    refine Goal.to (B := T27.setTop (mkF m 154 #[.val (.int u0), .val (.int u1), .val (.int u2), .val (.int u3), .val (.int u4), .val (.int u5), .val (.int (2 : Int32)), .val (.int fo), .val (.int y0), .val (.int y1), .val (.int y2), .val (.int y3), .val (.int y4), .val (.ref b23), .unset] [(.int y1), (.int (1 : Int32)), (.int (own_one (1 : Int32) y0))])) (fun tt kk => ?_) ?_
    · show Steps p.tables e below (T27.setTop (mkF m 141 #[.val (.int u0), .val (.int u1), .val (.int u2), .val (.int u3), .val (.int u4), .val (.int u5), .val (.int (2 : Int32)), .val (.int fo), .val (.int y0), .val (.int y1), .val (.int y2), .val (.int y3), .val (.int y4), .val (.ref b23), .unset] [(.int (own_one (1 : Int32) y0))])) tt
      refine XS.iload X27.here hx rfl (hb hby at_141) rfl ?_
      show Steps p.tables e below (T27.setTop (mkF m 143 #[.val (.int u0), .val (.int u1), .val (.int u2), .val (.int u3), .val (.int u4), .val (.int u5), .val (.int (2 : Int32)), .val (.int fo), .val (.int y0), .val (.int y1), .val (.int y2), .val (.int y3), .val (.int y4), .val (.ref b23), .unset] [(.int (2 : Int32)), (.int (own_one (1 : Int32) y0))])) tt
      refine XS.iconst X27.here hx rfl (hb hby at_143) ?_
      show Steps p.tables e below (T27.setTop (mkF m 144 #[.val (.int u0), .val (.int u1), .val (.int u2), .val (.int u3), .val (.int u4), .val (.int u5), .val (.int (2 : Int32)), .val (.int fo), .val (.int y0), .val (.int y1), .val (.int y2), .val (.int y3), .val (.int y4), .val (.ref b23), .unset] [(.int (1 : Int32)), (.int (2 : Int32)), (.int (own_one (1 : Int32) y0))])) tt
      refine XS.icmpNo X27.here hx rfl (hb hby at_144) rfl (tlt ((by decide) : (1 : Int32) < (2 : Int32))).2.2.2 ?_
      show Steps p.tables e below (T27.setTop (mkF m 147 #[.val (.int u0), .val (.int u1), .val (.int u2), .val (.int u3), .val (.int u4), .val (.int u5), .val (.int (2 : Int32)), .val (.int fo), .val (.int y0), .val (.int y1), .val (.int y2), .val (.int y3), .val (.int y4), .val (.ref b23), .unset] [(.int (own_one (1 : Int32) y0))])) tt
      refine XS.iconst X27.here hx rfl (hb hby at_147) ?_
      show Steps p.tables e below (T27.setTop (mkF m 148 #[.val (.int u0), .val (.int u1), .val (.int u2), .val (.int u3), .val (.int u4), .val (.int u5), .val (.int (2 : Int32)), .val (.int fo), .val (.int y0), .val (.int y1), .val (.int y2), .val (.int y3), .val (.int y4), .val (.ref b23), .unset] [(.int (1 : Int32)), (.int (own_one (1 : Int32) y0))])) tt
      refine XS.goto X27.here hx rfl (pc0 := 148) (pc' := 152) rfl (hb hby at_148) (by decide) (by decide) ?_
      show Steps p.tables e below (T27.setTop (mkF m 152 #[.val (.int u0), .val (.int u1), .val (.int u2), .val (.int u3), .val (.int u4), .val (.int u5), .val (.int (2 : Int32)), .val (.int fo), .val (.int y0), .val (.int y1), .val (.int y2), .val (.int y3), .val (.int y4), .val (.ref b23), .unset] [(.int (1 : Int32)), (.int (own_one (1 : Int32) y0))])) tt
      refine XS.iload X27.here hx rfl (hb hby at_152) rfl ?_
      exact kk
    obtain ⟨_, _, ⟨T28, L28, k28, n28⟩, -, X28, ⟨Lc28, hQ28, l28, y28, z28⟩, st28⟩ := Jvm.LawKit.callS X27 hx (y := (⟨"com/example/purloin/runner/PdfsReachedPinLaw", "one", "(ZI)I"⟩ : MethodName)) hown (mvT hZ (hw _ (mw 5 rfl))) (mvT hZ (hw _ (mw 6 rfl))) (mvT hZ (hw _ (mw 2 rfl))) (mvT hZ (hw _ (mw 7 rfl))) (by decide) (backOf (W := 1) (rmo l Z a0 hw [] (1 : Int32) y1 h25 n0 f26 ) hZ (hw _ (mw 7 rfl)) (hw _ (mw 2 rfl)) (by decide) (by decide)) (g := (mkF m 154 #[.val (.int u0), .val (.int u1), .val (.int u2), .val (.int u3), .val (.int u4), .val (.int u5), .val (.int (2 : Int32)), .val (.int fo), .val (.int y0), .val (.int y1), .val (.int y2), .val (.int y3), .val (.int y4), .val (.ref b23), .unset] [(.int y1), (.int (1 : Int32)), (.int (own_one (1 : Int32) y0))])) rfl (by rw [hml]; rfl) (argsL := [(.int (1 : Int32)), (.int y1)]) (rest := [(.int (own_one (1 : Int32) y0))]) (lenOf pd_1 rfl) rfl (by show 2 * 0 + _ ≤ _; exact Nat.le_of_eq rfl) (hb hby at_154) (fun _ _ => ⟨rfl, e27, (by decide : 1 + 0 ≤ _), (by decide : 2 + 0 ≤ _)⟩)
    dsimp only [Pt.U, Pt.locs, Pt.cells, Pt.slots] at X28 l28 y28 z28 st28 hQ28
    subst l28 y28 z28
    obtain ⟨rfl, N28q, e28⟩ := hQ28
    have N28 := Fr.app N27 N28q
    refine Goal.to (B := T28.setTop (mkF m 157 #[.val (.int u0), .val (.int u1), .val (.int u2), .val (.int u3), .val (.int u4), .val (.int u5), .val (.int (2 : Int32)), .val (.int fo), .val (.int y0), .val (.int y1), .val (.int y2), .val (.int y3), .val (.int y4), .val (.ref b23), .unset] [(.int (own_one (1 : Int32) y1)), (.int (own_one (1 : Int32) y0))])) st28 ?_
    refine Goal.to (B := T28.setTop (mkF m 171 #[.val (.int u0), .val (.int u1), .val (.int u2), .val (.int u3), .val (.int u4), .val (.int u5), .val (.int (2 : Int32)), .val (.int fo), .val (.int y0), .val (.int y1), .val (.int y2), .val (.int y3), .val (.int y4), .val (.ref b23), .unset] [(.int y2), (.int (0 : Int32)), (.int ((own_one (1 : Int32) y0) + (own_one (1 : Int32) y1)))])) (fun tt kk => ?_) ?_
    · show Steps p.tables e below (T28.setTop (mkF m 157 #[.val (.int u0), .val (.int u1), .val (.int u2), .val (.int u3), .val (.int u4), .val (.int u5), .val (.int (2 : Int32)), .val (.int fo), .val (.int y0), .val (.int y1), .val (.int y2), .val (.int y3), .val (.int y4), .val (.ref b23), .unset] [(.int (own_one (1 : Int32) y1)), (.int (own_one (1 : Int32) y0))])) tt
      refine XS.iadd X28.here hx rfl (hb hby at_157) rfl ?_
      show Steps p.tables e below (T28.setTop (mkF m 158 #[.val (.int u0), .val (.int u1), .val (.int u2), .val (.int u3), .val (.int u4), .val (.int u5), .val (.int (2 : Int32)), .val (.int fo), .val (.int y0), .val (.int y1), .val (.int y2), .val (.int y3), .val (.int y4), .val (.ref b23), .unset] [(.int ((own_one (1 : Int32) y0) + (own_one (1 : Int32) y1)))])) tt
      refine XS.iload X28.here hx rfl (hb hby at_158) rfl ?_
      show Steps p.tables e below (T28.setTop (mkF m 160 #[.val (.int u0), .val (.int u1), .val (.int u2), .val (.int u3), .val (.int u4), .val (.int u5), .val (.int (2 : Int32)), .val (.int fo), .val (.int y0), .val (.int y1), .val (.int y2), .val (.int y3), .val (.int y4), .val (.ref b23), .unset] [(.int (2 : Int32)), (.int ((own_one (1 : Int32) y0) + (own_one (1 : Int32) y1)))])) tt
      refine XS.iconst X28.here hx rfl (hb hby at_160) ?_
      show Steps p.tables e below (T28.setTop (mkF m 161 #[.val (.int u0), .val (.int u1), .val (.int u2), .val (.int u3), .val (.int u4), .val (.int u5), .val (.int (2 : Int32)), .val (.int fo), .val (.int y0), .val (.int y1), .val (.int y2), .val (.int y3), .val (.int y4), .val (.ref b23), .unset] [(.int (2 : Int32)), (.int (2 : Int32)), (.int ((own_one (1 : Int32) y0) + (own_one (1 : Int32) y1)))])) tt
      refine XS.icmpYes X28.here hx rfl (pc0 := 161) (pc' := 168) rfl (hb hby at_161) rfl (flt (Int32.lt_irrefl : ¬ ((2 : Int32) < (2 : Int32)))).2.2.2 (by decide) (by decide) ?_
      show Steps p.tables e below (T28.setTop (mkF m 168 #[.val (.int u0), .val (.int u1), .val (.int u2), .val (.int u3), .val (.int u4), .val (.int u5), .val (.int (2 : Int32)), .val (.int fo), .val (.int y0), .val (.int y1), .val (.int y2), .val (.int y3), .val (.int y4), .val (.ref b23), .unset] [(.int ((own_one (1 : Int32) y0) + (own_one (1 : Int32) y1)))])) tt
      refine XS.iconst X28.here hx rfl (hb hby at_168) ?_
      show Steps p.tables e below (T28.setTop (mkF m 169 #[.val (.int u0), .val (.int u1), .val (.int u2), .val (.int u3), .val (.int u4), .val (.int u5), .val (.int (2 : Int32)), .val (.int fo), .val (.int y0), .val (.int y1), .val (.int y2), .val (.int y3), .val (.int y4), .val (.ref b23), .unset] [(.int (0 : Int32)), (.int ((own_one (1 : Int32) y0) + (own_one (1 : Int32) y1)))])) tt
      refine XS.iload X28.here hx rfl (hb hby at_169) rfl ?_
      exact kk
    obtain ⟨_, _, ⟨T29, L29, k29, n29⟩, -, X29, ⟨Lc29, hQ29, l29, y29, z29⟩, st29⟩ := Jvm.LawKit.callS X28 hx (y := (⟨"com/example/purloin/runner/PdfsReachedPinLaw", "one", "(ZI)I"⟩ : MethodName)) hown (mvT hZ (hw _ (mw 5 rfl))) (mvT hZ (hw _ (mw 6 rfl))) (mvT hZ (hw _ (mw 2 rfl))) (mvT hZ (hw _ (mw 7 rfl))) (by decide) (backOf (W := 1) (rmo l Z a0 hw [] (0 : Int32) y2 h25 n0 f26 ) hZ (hw _ (mw 7 rfl)) (hw _ (mw 2 rfl)) (by decide) (by decide)) (g := (mkF m 171 #[.val (.int u0), .val (.int u1), .val (.int u2), .val (.int u3), .val (.int u4), .val (.int u5), .val (.int (2 : Int32)), .val (.int fo), .val (.int y0), .val (.int y1), .val (.int y2), .val (.int y3), .val (.int y4), .val (.ref b23), .unset] [(.int y2), (.int (0 : Int32)), (.int ((own_one (1 : Int32) y0) + (own_one (1 : Int32) y1)))])) rfl (by rw [hml]; rfl) (argsL := [(.int (0 : Int32)), (.int y2)]) (rest := [(.int ((own_one (1 : Int32) y0) + (own_one (1 : Int32) y1)))]) (lenOf pd_1 rfl) rfl (by show 2 * 0 + _ ≤ _; exact Nat.le_of_eq rfl) (hb hby at_171) (fun _ _ => ⟨rfl, e28, (by decide : 1 + 0 ≤ _), (by decide : 2 + 0 ≤ _)⟩)
    dsimp only [Pt.U, Pt.locs, Pt.cells, Pt.slots] at X29 l29 y29 z29 st29 hQ29
    subst l29 y29 z29
    obtain ⟨rfl, N29q, e29⟩ := hQ29
    have N29 := Fr.app N28 N29q
    refine Goal.to (B := T29.setTop (mkF m 174 #[.val (.int u0), .val (.int u1), .val (.int u2), .val (.int u3), .val (.int u4), .val (.int u5), .val (.int (2 : Int32)), .val (.int fo), .val (.int y0), .val (.int y1), .val (.int y2), .val (.int y3), .val (.int y4), .val (.ref b23), .unset] [(.int (own_one (0 : Int32) y2)), (.int ((own_one (1 : Int32) y0) + (own_one (1 : Int32) y1)))])) st29 ?_
    refine Goal.to (B := T29.setTop (mkF m 188 #[.val (.int u0), .val (.int u1), .val (.int u2), .val (.int u3), .val (.int u4), .val (.int u5), .val (.int (2 : Int32)), .val (.int fo), .val (.int y0), .val (.int y1), .val (.int y2), .val (.int y3), .val (.int y4), .val (.ref b23), .unset] [(.int y3), (.int (0 : Int32)), (.int (((own_one (1 : Int32) y0) + (own_one (1 : Int32) y1)) + (own_one (0 : Int32) y2)))])) (fun tt kk => ?_) ?_
    · show Steps p.tables e below (T29.setTop (mkF m 174 #[.val (.int u0), .val (.int u1), .val (.int u2), .val (.int u3), .val (.int u4), .val (.int u5), .val (.int (2 : Int32)), .val (.int fo), .val (.int y0), .val (.int y1), .val (.int y2), .val (.int y3), .val (.int y4), .val (.ref b23), .unset] [(.int (own_one (0 : Int32) y2)), (.int ((own_one (1 : Int32) y0) + (own_one (1 : Int32) y1)))])) tt
      refine XS.iadd X29.here hx rfl (hb hby at_174) rfl ?_
      show Steps p.tables e below (T29.setTop (mkF m 175 #[.val (.int u0), .val (.int u1), .val (.int u2), .val (.int u3), .val (.int u4), .val (.int u5), .val (.int (2 : Int32)), .val (.int fo), .val (.int y0), .val (.int y1), .val (.int y2), .val (.int y3), .val (.int y4), .val (.ref b23), .unset] [(.int (((own_one (1 : Int32) y0) + (own_one (1 : Int32) y1)) + (own_one (0 : Int32) y2)))])) tt
      refine XS.iload X29.here hx rfl (hb hby at_175) rfl ?_
      show Steps p.tables e below (T29.setTop (mkF m 177 #[.val (.int u0), .val (.int u1), .val (.int u2), .val (.int u3), .val (.int u4), .val (.int u5), .val (.int (2 : Int32)), .val (.int fo), .val (.int y0), .val (.int y1), .val (.int y2), .val (.int y3), .val (.int y4), .val (.ref b23), .unset] [(.int (2 : Int32)), (.int (((own_one (1 : Int32) y0) + (own_one (1 : Int32) y1)) + (own_one (0 : Int32) y2)))])) tt
      refine XS.iconst X29.here hx rfl (hb hby at_177) ?_
      show Steps p.tables e below (T29.setTop (mkF m 178 #[.val (.int u0), .val (.int u1), .val (.int u2), .val (.int u3), .val (.int u4), .val (.int u5), .val (.int (2 : Int32)), .val (.int fo), .val (.int y0), .val (.int y1), .val (.int y2), .val (.int y3), .val (.int y4), .val (.ref b23), .unset] [(.int (3 : Int32)), (.int (2 : Int32)), (.int (((own_one (1 : Int32) y0) + (own_one (1 : Int32) y1)) + (own_one (0 : Int32) y2)))])) tt
      refine XS.icmpYes X29.here hx rfl (pc0 := 178) (pc' := 185) rfl (hb hby at_178) rfl (flt ((by decide) : ¬ ((3 : Int32) < (2 : Int32)))).2.2.2 (by decide) (by decide) ?_
      show Steps p.tables e below (T29.setTop (mkF m 185 #[.val (.int u0), .val (.int u1), .val (.int u2), .val (.int u3), .val (.int u4), .val (.int u5), .val (.int (2 : Int32)), .val (.int fo), .val (.int y0), .val (.int y1), .val (.int y2), .val (.int y3), .val (.int y4), .val (.ref b23), .unset] [(.int (((own_one (1 : Int32) y0) + (own_one (1 : Int32) y1)) + (own_one (0 : Int32) y2)))])) tt
      refine XS.iconst X29.here hx rfl (hb hby at_185) ?_
      show Steps p.tables e below (T29.setTop (mkF m 186 #[.val (.int u0), .val (.int u1), .val (.int u2), .val (.int u3), .val (.int u4), .val (.int u5), .val (.int (2 : Int32)), .val (.int fo), .val (.int y0), .val (.int y1), .val (.int y2), .val (.int y3), .val (.int y4), .val (.ref b23), .unset] [(.int (0 : Int32)), (.int (((own_one (1 : Int32) y0) + (own_one (1 : Int32) y1)) + (own_one (0 : Int32) y2)))])) tt
      refine XS.iload X29.here hx rfl (hb hby at_186) rfl ?_
      exact kk
    obtain ⟨_, _, ⟨T30, L30, k30, n30⟩, -, X30, ⟨Lc30, hQ30, l30, y30, z30⟩, st30⟩ := Jvm.LawKit.callS X29 hx (y := (⟨"com/example/purloin/runner/PdfsReachedPinLaw", "one", "(ZI)I"⟩ : MethodName)) hown (mvT hZ (hw _ (mw 5 rfl))) (mvT hZ (hw _ (mw 6 rfl))) (mvT hZ (hw _ (mw 2 rfl))) (mvT hZ (hw _ (mw 7 rfl))) (by decide) (backOf (W := 1) (rmo l Z a0 hw [] (0 : Int32) y3 h25 n0 f26 ) hZ (hw _ (mw 7 rfl)) (hw _ (mw 2 rfl)) (by decide) (by decide)) (g := (mkF m 188 #[.val (.int u0), .val (.int u1), .val (.int u2), .val (.int u3), .val (.int u4), .val (.int u5), .val (.int (2 : Int32)), .val (.int fo), .val (.int y0), .val (.int y1), .val (.int y2), .val (.int y3), .val (.int y4), .val (.ref b23), .unset] [(.int y3), (.int (0 : Int32)), (.int (((own_one (1 : Int32) y0) + (own_one (1 : Int32) y1)) + (own_one (0 : Int32) y2)))])) rfl (by rw [hml]; rfl) (argsL := [(.int (0 : Int32)), (.int y3)]) (rest := [(.int (((own_one (1 : Int32) y0) + (own_one (1 : Int32) y1)) + (own_one (0 : Int32) y2)))]) (lenOf pd_1 rfl) rfl (by show 2 * 0 + _ ≤ _; exact Nat.le_of_eq rfl) (hb hby at_188) (fun _ _ => ⟨rfl, e29, (by decide : 1 + 0 ≤ _), (by decide : 2 + 0 ≤ _)⟩)
    dsimp only [Pt.U, Pt.locs, Pt.cells, Pt.slots] at X30 l30 y30 z30 st30 hQ30
    subst l30 y30 z30
    obtain ⟨rfl, N30q, e30⟩ := hQ30
    have N30 := Fr.app N29 N30q
    refine Goal.to (B := T30.setTop (mkF m 191 #[.val (.int u0), .val (.int u1), .val (.int u2), .val (.int u3), .val (.int u4), .val (.int u5), .val (.int (2 : Int32)), .val (.int fo), .val (.int y0), .val (.int y1), .val (.int y2), .val (.int y3), .val (.int y4), .val (.ref b23), .unset] [(.int (own_one (0 : Int32) y3)), (.int (((own_one (1 : Int32) y0) + (own_one (1 : Int32) y1)) + (own_one (0 : Int32) y2)))])) st30 ?_
    refine Goal.to (B := T30.setTop (mkF m 205 #[.val (.int u0), .val (.int u1), .val (.int u2), .val (.int u3), .val (.int u4), .val (.int u5), .val (.int (2 : Int32)), .val (.int fo), .val (.int y0), .val (.int y1), .val (.int y2), .val (.int y3), .val (.int y4), .val (.ref b23), .unset] [(.int y4), (.int (0 : Int32)), (.int ((((own_one (1 : Int32) y0) + (own_one (1 : Int32) y1)) + (own_one (0 : Int32) y2)) + (own_one (0 : Int32) y3)))])) (fun tt kk => ?_) ?_
    · show Steps p.tables e below (T30.setTop (mkF m 191 #[.val (.int u0), .val (.int u1), .val (.int u2), .val (.int u3), .val (.int u4), .val (.int u5), .val (.int (2 : Int32)), .val (.int fo), .val (.int y0), .val (.int y1), .val (.int y2), .val (.int y3), .val (.int y4), .val (.ref b23), .unset] [(.int (own_one (0 : Int32) y3)), (.int (((own_one (1 : Int32) y0) + (own_one (1 : Int32) y1)) + (own_one (0 : Int32) y2)))])) tt
      refine XS.iadd X30.here hx rfl (hb hby at_191) rfl ?_
      show Steps p.tables e below (T30.setTop (mkF m 192 #[.val (.int u0), .val (.int u1), .val (.int u2), .val (.int u3), .val (.int u4), .val (.int u5), .val (.int (2 : Int32)), .val (.int fo), .val (.int y0), .val (.int y1), .val (.int y2), .val (.int y3), .val (.int y4), .val (.ref b23), .unset] [(.int ((((own_one (1 : Int32) y0) + (own_one (1 : Int32) y1)) + (own_one (0 : Int32) y2)) + (own_one (0 : Int32) y3)))])) tt
      refine XS.iload X30.here hx rfl (hb hby at_192) rfl ?_
      show Steps p.tables e below (T30.setTop (mkF m 194 #[.val (.int u0), .val (.int u1), .val (.int u2), .val (.int u3), .val (.int u4), .val (.int u5), .val (.int (2 : Int32)), .val (.int fo), .val (.int y0), .val (.int y1), .val (.int y2), .val (.int y3), .val (.int y4), .val (.ref b23), .unset] [(.int (2 : Int32)), (.int ((((own_one (1 : Int32) y0) + (own_one (1 : Int32) y1)) + (own_one (0 : Int32) y2)) + (own_one (0 : Int32) y3)))])) tt
      refine XS.iconst X30.here hx rfl (hb hby at_194) ?_
      show Steps p.tables e below (T30.setTop (mkF m 195 #[.val (.int u0), .val (.int u1), .val (.int u2), .val (.int u3), .val (.int u4), .val (.int u5), .val (.int (2 : Int32)), .val (.int fo), .val (.int y0), .val (.int y1), .val (.int y2), .val (.int y3), .val (.int y4), .val (.ref b23), .unset] [(.int (4 : Int32)), (.int (2 : Int32)), (.int ((((own_one (1 : Int32) y0) + (own_one (1 : Int32) y1)) + (own_one (0 : Int32) y2)) + (own_one (0 : Int32) y3)))])) tt
      refine XS.icmpYes X30.here hx rfl (pc0 := 195) (pc' := 202) rfl (hb hby at_195) rfl (flt ((by decide) : ¬ ((4 : Int32) < (2 : Int32)))).2.2.2 (by decide) (by decide) ?_
      show Steps p.tables e below (T30.setTop (mkF m 202 #[.val (.int u0), .val (.int u1), .val (.int u2), .val (.int u3), .val (.int u4), .val (.int u5), .val (.int (2 : Int32)), .val (.int fo), .val (.int y0), .val (.int y1), .val (.int y2), .val (.int y3), .val (.int y4), .val (.ref b23), .unset] [(.int ((((own_one (1 : Int32) y0) + (own_one (1 : Int32) y1)) + (own_one (0 : Int32) y2)) + (own_one (0 : Int32) y3)))])) tt
      refine XS.iconst X30.here hx rfl (hb hby at_202) ?_
      show Steps p.tables e below (T30.setTop (mkF m 203 #[.val (.int u0), .val (.int u1), .val (.int u2), .val (.int u3), .val (.int u4), .val (.int u5), .val (.int (2 : Int32)), .val (.int fo), .val (.int y0), .val (.int y1), .val (.int y2), .val (.int y3), .val (.int y4), .val (.ref b23), .unset] [(.int (0 : Int32)), (.int ((((own_one (1 : Int32) y0) + (own_one (1 : Int32) y1)) + (own_one (0 : Int32) y2)) + (own_one (0 : Int32) y3)))])) tt
      refine XS.iload X30.here hx rfl (hb hby at_203) rfl ?_
      exact kk
    obtain ⟨_, _, ⟨T31, L31, k31, n31⟩, -, X31, ⟨Lc31, hQ31, l31, y31, z31⟩, st31⟩ := Jvm.LawKit.callS X30 hx (y := (⟨"com/example/purloin/runner/PdfsReachedPinLaw", "one", "(ZI)I"⟩ : MethodName)) hown (mvT hZ (hw _ (mw 5 rfl))) (mvT hZ (hw _ (mw 6 rfl))) (mvT hZ (hw _ (mw 2 rfl))) (mvT hZ (hw _ (mw 7 rfl))) (by decide) (backOf (W := 1) (rmo l Z a0 hw [] (0 : Int32) y4 h25 n0 f26 ) hZ (hw _ (mw 7 rfl)) (hw _ (mw 2 rfl)) (by decide) (by decide)) (g := (mkF m 205 #[.val (.int u0), .val (.int u1), .val (.int u2), .val (.int u3), .val (.int u4), .val (.int u5), .val (.int (2 : Int32)), .val (.int fo), .val (.int y0), .val (.int y1), .val (.int y2), .val (.int y3), .val (.int y4), .val (.ref b23), .unset] [(.int y4), (.int (0 : Int32)), (.int ((((own_one (1 : Int32) y0) + (own_one (1 : Int32) y1)) + (own_one (0 : Int32) y2)) + (own_one (0 : Int32) y3)))])) rfl (by rw [hml]; rfl) (argsL := [(.int (0 : Int32)), (.int y4)]) (rest := [(.int ((((own_one (1 : Int32) y0) + (own_one (1 : Int32) y1)) + (own_one (0 : Int32) y2)) + (own_one (0 : Int32) y3)))]) (lenOf pd_1 rfl) rfl (by show 2 * 0 + _ ≤ _; exact Nat.le_of_eq rfl) (hb hby at_205) (fun _ _ => ⟨rfl, e30, (by decide : 1 + 0 ≤ _), (by decide : 2 + 0 ≤ _)⟩)
    dsimp only [Pt.U, Pt.locs, Pt.cells, Pt.slots] at X31 l31 y31 z31 st31 hQ31
    subst l31 y31 z31
    obtain ⟨rfl, N31q, e31⟩ := hQ31
    have N31 := Fr.app N30 N31q
    refine Goal.to (B := T31.setTop (mkF m 208 #[.val (.int u0), .val (.int u1), .val (.int u2), .val (.int u3), .val (.int u4), .val (.int u5), .val (.int (2 : Int32)), .val (.int fo), .val (.int y0), .val (.int y1), .val (.int y2), .val (.int y3), .val (.int y4), .val (.ref b23), .unset] [(.int (own_one (0 : Int32) y4)), (.int ((((own_one (1 : Int32) y0) + (own_one (1 : Int32) y1)) + (own_one (0 : Int32) y2)) + (own_one (0 : Int32) y3)))])) st31 ?_
    refine Goal.to (B := T31.setTop (mkF m 213 #[.val (.int u0), .val (.int u1), .val (.int u2), .val (.int u3), .val (.int u4), .val (.int u5), .val (.int (2 : Int32)), .val (.int fo), .val (.int y0), .val (.int y1), .val (.int y2), .val (.int y3), .val (.int y4), .val (.ref b23), .val (.int (((((own_one (1 : Int32) y0) + (own_one (1 : Int32) y1)) + (own_one (0 : Int32) y2)) + (own_one (0 : Int32) y3)) + (own_one (0 : Int32) y4)))] [(.ref b23)])) (fun tt kk => ?_) ?_
    · show Steps p.tables e below (T31.setTop (mkF m 208 #[.val (.int u0), .val (.int u1), .val (.int u2), .val (.int u3), .val (.int u4), .val (.int u5), .val (.int (2 : Int32)), .val (.int fo), .val (.int y0), .val (.int y1), .val (.int y2), .val (.int y3), .val (.int y4), .val (.ref b23), .unset] [(.int (own_one (0 : Int32) y4)), (.int ((((own_one (1 : Int32) y0) + (own_one (1 : Int32) y1)) + (own_one (0 : Int32) y2)) + (own_one (0 : Int32) y3)))])) tt
      refine XS.iadd X31.here hx rfl (hb hby at_208) rfl ?_
      show Steps p.tables e below (T31.setTop (mkF m 209 #[.val (.int u0), .val (.int u1), .val (.int u2), .val (.int u3), .val (.int u4), .val (.int u5), .val (.int (2 : Int32)), .val (.int fo), .val (.int y0), .val (.int y1), .val (.int y2), .val (.int y3), .val (.int y4), .val (.ref b23), .unset] [(.int (((((own_one (1 : Int32) y0) + (own_one (1 : Int32) y1)) + (own_one (0 : Int32) y2)) + (own_one (0 : Int32) y3)) + (own_one (0 : Int32) y4)))])) tt
      refine XS.istore X31.here hx rfl (hb hby at_209) rfl (l' := #[.val (.int u0), .val (.int u1), .val (.int u2), .val (.int u3), .val (.int u4), .val (.int u5), .val (.int (2 : Int32)), .val (.int fo), .val (.int y0), .val (.int y1), .val (.int y2), .val (.int y3), .val (.int y4), .val (.ref b23), .val (.int (((((own_one (1 : Int32) y0) + (own_one (1 : Int32) y1)) + (own_one (0 : Int32) y2)) + (own_one (0 : Int32) y3)) + (own_one (0 : Int32) y4)))]) rfl ?_
      show Steps p.tables e below (T31.setTop (mkF m 211 #[.val (.int u0), .val (.int u1), .val (.int u2), .val (.int u3), .val (.int u4), .val (.int u5), .val (.int (2 : Int32)), .val (.int fo), .val (.int y0), .val (.int y1), .val (.int y2), .val (.int y3), .val (.int y4), .val (.ref b23), .val (.int (((((own_one (1 : Int32) y0) + (own_one (1 : Int32) y1)) + (own_one (0 : Int32) y2)) + (own_one (0 : Int32) y3)) + (own_one (0 : Int32) y4)))] [])) tt
      refine XS.aload X31.here hx rfl (hb hby at_211) rfl rfl ?_
      exact kk
    obtain ⟨_, _, ⟨T32, L32, k32, n32⟩, -, X32, ⟨Lc32, hQ32, l32, y32, z32⟩, st32⟩ := Jvm.LawKit.callS X31 hx (y := (⟨"com/example/purloin/runner/Pdfs", "reached", "([I)I"⟩ : MethodName)) hown (mvT hZ (hw _ (mw 8 rfl))) (mvT hZ (hw _ (mw 9 rfl))) (mvT hZ (hw _ (mw 10 rfl))) (mvT hZ (hw _ (mw 11 rfl))) (by decide) (backOf (W := 0) (rmr2 l Z a0 hw [] b23 y0 y1 h25 n0 f26 V25) hZ (hw _ (mw 11 rfl)) (hw _ (mw 10 rfl)) (by decide) (by decide)) (g := (mkF m 213 #[.val (.int u0), .val (.int u1), .val (.int u2), .val (.int u3), .val (.int u4), .val (.int u5), .val (.int (2 : Int32)), .val (.int fo), .val (.int y0), .val (.int y1), .val (.int y2), .val (.int y3), .val (.int y4), .val (.ref b23), .val (.int (((((own_one (1 : Int32) y0) + (own_one (1 : Int32) y1)) + (own_one (0 : Int32) y2)) + (own_one (0 : Int32) y3)) + (own_one (0 : Int32) y4)))] [(.ref b23)])) rfl (by rw [hml]; rfl) (argsL := [(.ref b23)]) (rest := []) (lenOf pd_2 rfl) rfl (by show 2 * 0 + _ ≤ _; exact Nat.le_of_eq rfl) (hb hby at_213) (fun _ _ => ⟨rfl, e31, (by decide : 1 + 0 ≤ _), (by decide : 2 + 0 ≤ _)⟩)
    dsimp only [Pt.U, Pt.locs, Pt.cells, Pt.slots] at X32 l32 y32 z32 st32 hQ32
    subst l32 y32 z32
    obtain ⟨rfl, N32q, e32⟩ := hQ32
    have N32 := Fr.app N31 N32q
    refine Goal.to (B := T32.setTop (mkF m 216 #[.val (.int u0), .val (.int u1), .val (.int u2), .val (.int u3), .val (.int u4), .val (.int u5), .val (.int (2 : Int32)), .val (.int fo), .val (.int y0), .val (.int y1), .val (.int y2), .val (.int y3), .val (.int y4), .val (.ref b23), .val (.int (((((own_one (1 : Int32) y0) + (own_one (1 : Int32) y1)) + (own_one (0 : Int32) y2)) + (own_one (0 : Int32) y3)) + (own_one (0 : Int32) y4)))] [(.int (own_add (own_add (0 : Int32) y0) y1))])) st32 ?_
    refine Goal.to (B := T32.setTop (mkF m 226 #[.val (.int u0), .val (.int u1), .val (.int u2), .val (.int u3), .val (.int u4), .val (.int u5), .val (.int (2 : Int32)), .val (.int fo), .val (.int y0), .val (.int y1), .val (.int y2), .val (.int y3), .val (.int y4), .val (.ref b23), .val (.int (((((own_one (1 : Int32) y0) + (own_one (1 : Int32) y1)) + (own_one (0 : Int32) y2)) + (own_one (0 : Int32) y3)) + (own_one (0 : Int32) y4)))] [(.int (1 : Int32))])) (fun tt kk => ?_) ?_
    · show Steps p.tables e below (T32.setTop (mkF m 216 #[.val (.int u0), .val (.int u1), .val (.int u2), .val (.int u3), .val (.int u4), .val (.int u5), .val (.int (2 : Int32)), .val (.int fo), .val (.int y0), .val (.int y1), .val (.int y2), .val (.int y3), .val (.int y4), .val (.ref b23), .val (.int (((((own_one (1 : Int32) y0) + (own_one (1 : Int32) y1)) + (own_one (0 : Int32) y2)) + (own_one (0 : Int32) y3)) + (own_one (0 : Int32) y4)))] [(.int (own_add (own_add (0 : Int32) y0) y1))])) tt
      refine XS.iload X32.here hx rfl (hb hby at_216) rfl ?_
      show Steps p.tables e below (T32.setTop (mkF m 218 #[.val (.int u0), .val (.int u1), .val (.int u2), .val (.int u3), .val (.int u4), .val (.int u5), .val (.int (2 : Int32)), .val (.int fo), .val (.int y0), .val (.int y1), .val (.int y2), .val (.int y3), .val (.int y4), .val (.ref b23), .val (.int (((((own_one (1 : Int32) y0) + (own_one (1 : Int32) y1)) + (own_one (0 : Int32) y2)) + (own_one (0 : Int32) y3)) + (own_one (0 : Int32) y4)))] [(.int (((((own_one (1 : Int32) y0) + (own_one (1 : Int32) y1)) + (own_one (0 : Int32) y2)) + (own_one (0 : Int32) y3)) + (own_one (0 : Int32) y4))), (.int (own_add (own_add (0 : Int32) y0) y1))])) tt
      refine XS.icmpNo X32.here hx rfl (hb hby at_218) rfl (teq (by simp only [own_addE, own_one0, Int32.zero_add, Int32.add_zero] : (own_add (own_add (0 : Int32) y0) y1) = (((((own_one (1 : Int32) y0) + (own_one (1 : Int32) y1)) + (own_one (0 : Int32) y2)) + (own_one (0 : Int32) y3)) + (own_one (0 : Int32) y4)))).2 ?_
      show Steps p.tables e below (T32.setTop (mkF m 221 #[.val (.int u0), .val (.int u1), .val (.int u2), .val (.int u3), .val (.int u4), .val (.int u5), .val (.int (2 : Int32)), .val (.int fo), .val (.int y0), .val (.int y1), .val (.int y2), .val (.int y3), .val (.int y4), .val (.ref b23), .val (.int (((((own_one (1 : Int32) y0) + (own_one (1 : Int32) y1)) + (own_one (0 : Int32) y2)) + (own_one (0 : Int32) y3)) + (own_one (0 : Int32) y4)))] [])) tt
      refine XS.iconst X32.here hx rfl (hb hby at_221) ?_
      show Steps p.tables e below (T32.setTop (mkF m 222 #[.val (.int u0), .val (.int u1), .val (.int u2), .val (.int u3), .val (.int u4), .val (.int u5), .val (.int (2 : Int32)), .val (.int fo), .val (.int y0), .val (.int y1), .val (.int y2), .val (.int y3), .val (.int y4), .val (.ref b23), .val (.int (((((own_one (1 : Int32) y0) + (own_one (1 : Int32) y1)) + (own_one (0 : Int32) y2)) + (own_one (0 : Int32) y3)) + (own_one (0 : Int32) y4)))] [(.int (1 : Int32))])) tt
      refine XS.goto X32.here hx rfl (pc0 := 222) (pc' := 226) rfl (hb hby at_222) (by decide) (by decide) ?_
      exact kk
    exact Goal.retV X32 hx Bd.returns rfl (Or.inl ⟨rfl, Or.inr (Or.inl rfl), _, rfl⟩) (hb hby at_226) hlk e32 ⟨rfl, N32⟩ (by decide) (by decide)
  · obtain ⟨T33, h33, k33, X33, e33, E33, A33, st33⟩ := newP X5 hx hZ (hw _ (mw 4 rfl)) e5 (g := (mkF m 63 #[.val (.int u0), .val (.int u1), .val (.int u2), .val (.int u3), .val (.int u4), .val (.int u5), .val (.int (3 : Int32)), .val (.int fo), .val (.int y0), .val (.int y1), .val (.int y2), .val (.int y3), .val (.int y4), .unset, .unset] [(.int (3 : Int32))])) rfl (hb hby at_63) rfl (by decide) (cap := 3) (by decide) (by decide) (by decide) (by decide)
    obtain ⟨b33, g33⟩ : ∃ z, z = h0.size := ⟨_, rfl⟩
    rw [← g33] at A33 st33
    have g_b33 : n0 ≤ b33 := Nat.le_trans Z0 (Nat.le_of_eq g33.symm)
    have V33 : Ary Z h33 b33 .int [(.int (0 : Int32)), (.int (0 : Int32)), (.int (0 : Int32))] := Ary.new A33 rfl
    refine Goal.to (B := T33.setTop (mkF m 65 #[.val (.int u0), .val (.int u1), .val (.int u2), .val (.int u3), .val (.int u4), .val (.int u5), .val (.int (3 : Int32)), .val (.int fo), .val (.int y0), .val (.int y1), .val (.int y2), .val (.int y3), .val (.int y4), .unset, .unset] [(.ref b33)])) st33 ?_
    refine Goal.to (B := T33.setTop (mkF m 77 #[.val (.int u0), .val (.int u1), .val (.int u2), .val (.int u3), .val (.int u4), .val (.int u5), .val (.int (3 : Int32)), .val (.int fo), .val (.int y0), .val (.int y1), .val (.int y2), .val (.int y3), .val (.int y4), .val (.ref b33), .unset] [(.int y0), (.int (0 : Int32)), (.ref b33)])) (fun tt kk => ?_) ?_
    · show Steps p.tables e below (T33.setTop (mkF m 65 #[.val (.int u0), .val (.int u1), .val (.int u2), .val (.int u3), .val (.int u4), .val (.int u5), .val (.int (3 : Int32)), .val (.int fo), .val (.int y0), .val (.int y1), .val (.int y2), .val (.int y3), .val (.int y4), .unset, .unset] [(.ref b33)])) tt
      refine XS.astore X33.here hx rfl (hb hby at_65) rfl rfl (l' := #[.val (.int u0), .val (.int u1), .val (.int u2), .val (.int u3), .val (.int u4), .val (.int u5), .val (.int (3 : Int32)), .val (.int fo), .val (.int y0), .val (.int y1), .val (.int y2), .val (.int y3), .val (.int y4), .val (.ref b33), .unset]) rfl ?_
      show Steps p.tables e below (T33.setTop (mkF m 67 #[.val (.int u0), .val (.int u1), .val (.int u2), .val (.int u3), .val (.int u4), .val (.int u5), .val (.int (3 : Int32)), .val (.int fo), .val (.int y0), .val (.int y1), .val (.int y2), .val (.int y3), .val (.int y4), .val (.ref b33), .unset] [])) tt
      refine XS.iload X33.here hx rfl (hb hby at_67) rfl ?_
      show Steps p.tables e below (T33.setTop (mkF m 69 #[.val (.int u0), .val (.int u1), .val (.int u2), .val (.int u3), .val (.int u4), .val (.int u5), .val (.int (3 : Int32)), .val (.int fo), .val (.int y0), .val (.int y1), .val (.int y2), .val (.int y3), .val (.int y4), .val (.ref b33), .unset] [(.int (3 : Int32))])) tt
      refine XS.ifNo X33.here hx rfl (hb hby at_69) rfl ((if0 _ _).trans (tlt ((by decide) : (0 : Int32) < (3 : Int32))).2.2.2) ?_
      show Steps p.tables e below (T33.setTop (mkF m 72 #[.val (.int u0), .val (.int u1), .val (.int u2), .val (.int u3), .val (.int u4), .val (.int u5), .val (.int (3 : Int32)), .val (.int fo), .val (.int y0), .val (.int y1), .val (.int y2), .val (.int y3), .val (.int y4), .val (.ref b33), .unset] [])) tt
      refine XS.aload X33.here hx rfl (hb hby at_72) rfl rfl ?_
      show Steps p.tables e below (T33.setTop (mkF m 74 #[.val (.int u0), .val (.int u1), .val (.int u2), .val (.int u3), .val (.int u4), .val (.int u5), .val (.int (3 : Int32)), .val (.int fo), .val (.int y0), .val (.int y1), .val (.int y2), .val (.int y3), .val (.int y4), .val (.ref b33), .unset] [(.ref b33)])) tt
      refine XS.iconst X33.here hx rfl (hb hby at_74) ?_
      show Steps p.tables e below (T33.setTop (mkF m 75 #[.val (.int u0), .val (.int u1), .val (.int u2), .val (.int u3), .val (.int u4), .val (.int u5), .val (.int (3 : Int32)), .val (.int fo), .val (.int y0), .val (.int y1), .val (.int y2), .val (.int y3), .val (.int y4), .val (.ref b33), .unset] [(.int (0 : Int32)), (.ref b33)])) tt
      refine XS.iload X33.here hx rfl (hb hby at_75) rfl ?_
      exact kk
    obtain ⟨cl34, Ar34, Sl34⟩ := id V33
    have hin34 := inA (cl := cl34) Sl34 (j := (0 : Int32)) (by decide) (Nat.le_of_ble_eq_true rfl)
    obtain ⟨T34, h34, X34, e34, W34, st34⟩ := stI X33 hx hZ e33 Ar34 (j := (0 : Int32)) hin34 (g := (mkF m 77 #[.val (.int u0), .val (.int u1), .val (.int u2), .val (.int u3), .val (.int u4), .val (.int u5), .val (.int (3 : Int32)), .val (.int fo), .val (.int y0), .val (.int y1), .val (.int y2), .val (.int y3), .val (.int y4), .val (.ref b33), .unset] [(.int y0), (.int (0 : Int32)), (.ref b33)])) rfl rfl (hb hby at_77)
    have V34 : Ary Z h34 b33 .int [(.int y0), (.int (0 : Int32)), (.int (0 : Int32))] := Ary.put Ar34 Sl34 W34 rfl
    have N34 := Fr.snoc X34 N5 g_b33
    refine Goal.to (B := T34.setTop (mkF m 78 #[.val (.int u0), .val (.int u1), .val (.int u2), .val (.int u3), .val (.int u4), .val (.int u5), .val (.int (3 : Int32)), .val (.int fo), .val (.int y0), .val (.int y1), .val (.int y2), .val (.int y3), .val (.int y4), .val (.ref b33), .unset] [])) st34 ?_
    refine Goal.to (B := T34.setTop (mkF m 89 #[.val (.int u0), .val (.int u1), .val (.int u2), .val (.int u3), .val (.int u4), .val (.int u5), .val (.int (3 : Int32)), .val (.int fo), .val (.int y0), .val (.int y1), .val (.int y2), .val (.int y3), .val (.int y4), .val (.ref b33), .unset] [(.int y1), (.int (1 : Int32)), (.ref b33)])) (fun tt kk => ?_) ?_
    · show Steps p.tables e below (T34.setTop (mkF m 78 #[.val (.int u0), .val (.int u1), .val (.int u2), .val (.int u3), .val (.int u4), .val (.int u5), .val (.int (3 : Int32)), .val (.int fo), .val (.int y0), .val (.int y1), .val (.int y2), .val (.int y3), .val (.int y4), .val (.ref b33), .unset] [])) tt
      refine XS.iload X34.here hx rfl (hb hby at_78) rfl ?_
      show Steps p.tables e below (T34.setTop (mkF m 80 #[.val (.int u0), .val (.int u1), .val (.int u2), .val (.int u3), .val (.int u4), .val (.int u5), .val (.int (3 : Int32)), .val (.int fo), .val (.int y0), .val (.int y1), .val (.int y2), .val (.int y3), .val (.int y4), .val (.ref b33), .unset] [(.int (3 : Int32))])) tt
      refine XS.iconst X34.here hx rfl (hb hby at_80) ?_
      show Steps p.tables e below (T34.setTop (mkF m 81 #[.val (.int u0), .val (.int u1), .val (.int u2), .val (.int u3), .val (.int u4), .val (.int u5), .val (.int (3 : Int32)), .val (.int fo), .val (.int y0), .val (.int y1), .val (.int y2), .val (.int y3), .val (.int y4), .val (.ref b33), .unset] [(.int (1 : Int32)), (.int (3 : Int32))])) tt
      refine XS.icmpNo X34.here hx rfl (hb hby at_81) rfl (tlt ((by decide) : (1 : Int32) < (3 : Int32))).2.2.2 ?_
      show Steps p.tables e below (T34.setTop (mkF m 84 #[.val (.int u0), .val (.int u1), .val (.int u2), .val (.int u3), .val (.int u4), .val (.int u5), .val (.int (3 : Int32)), .val (.int fo), .val (.int y0), .val (.int y1), .val (.int y2), .val (.int y3), .val (.int y4), .val (.ref b33), .unset] [])) tt
      refine XS.aload X34.here hx rfl (hb hby at_84) rfl rfl ?_
      show Steps p.tables e below (T34.setTop (mkF m 86 #[.val (.int u0), .val (.int u1), .val (.int u2), .val (.int u3), .val (.int u4), .val (.int u5), .val (.int (3 : Int32)), .val (.int fo), .val (.int y0), .val (.int y1), .val (.int y2), .val (.int y3), .val (.int y4), .val (.ref b33), .unset] [(.ref b33)])) tt
      refine XS.iconst X34.here hx rfl (hb hby at_86) ?_
      show Steps p.tables e below (T34.setTop (mkF m 87 #[.val (.int u0), .val (.int u1), .val (.int u2), .val (.int u3), .val (.int u4), .val (.int u5), .val (.int (3 : Int32)), .val (.int fo), .val (.int y0), .val (.int y1), .val (.int y2), .val (.int y3), .val (.int y4), .val (.ref b33), .unset] [(.int (1 : Int32)), (.ref b33)])) tt
      refine XS.iload X34.here hx rfl (hb hby at_87) rfl ?_
      exact kk
    obtain ⟨cl35, Ar35, Sl35⟩ := id V34
    have hin35 := inA (cl := cl35) Sl35 (j := (1 : Int32)) (by decide) (Nat.le_of_ble_eq_true rfl)
    obtain ⟨T35, h35, X35, e35, W35, st35⟩ := stI X34 hx hZ e34 Ar35 (j := (1 : Int32)) hin35 (g := (mkF m 89 #[.val (.int u0), .val (.int u1), .val (.int u2), .val (.int u3), .val (.int u4), .val (.int u5), .val (.int (3 : Int32)), .val (.int fo), .val (.int y0), .val (.int y1), .val (.int y2), .val (.int y3), .val (.int y4), .val (.ref b33), .unset] [(.int y1), (.int (1 : Int32)), (.ref b33)])) rfl rfl (hb hby at_89)
    have V35 : Ary Z h35 b33 .int [(.int y0), (.int y1), (.int (0 : Int32))] := Ary.put Ar35 Sl35 W35 rfl
    have N35 := Fr.snoc X35 N34 g_b33
    refine Goal.to (B := T35.setTop (mkF m 90 #[.val (.int u0), .val (.int u1), .val (.int u2), .val (.int u3), .val (.int u4), .val (.int u5), .val (.int (3 : Int32)), .val (.int fo), .val (.int y0), .val (.int y1), .val (.int y2), .val (.int y3), .val (.int y4), .val (.ref b33), .unset] [])) st35 ?_
    refine Goal.to (B := T35.setTop (mkF m 101 #[.val (.int u0), .val (.int u1), .val (.int u2), .val (.int u3), .val (.int u4), .val (.int u5), .val (.int (3 : Int32)), .val (.int fo), .val (.int y0), .val (.int y1), .val (.int y2), .val (.int y3), .val (.int y4), .val (.ref b33), .unset] [(.int y2), (.int (2 : Int32)), (.ref b33)])) (fun tt kk => ?_) ?_
    · show Steps p.tables e below (T35.setTop (mkF m 90 #[.val (.int u0), .val (.int u1), .val (.int u2), .val (.int u3), .val (.int u4), .val (.int u5), .val (.int (3 : Int32)), .val (.int fo), .val (.int y0), .val (.int y1), .val (.int y2), .val (.int y3), .val (.int y4), .val (.ref b33), .unset] [])) tt
      refine XS.iload X35.here hx rfl (hb hby at_90) rfl ?_
      show Steps p.tables e below (T35.setTop (mkF m 92 #[.val (.int u0), .val (.int u1), .val (.int u2), .val (.int u3), .val (.int u4), .val (.int u5), .val (.int (3 : Int32)), .val (.int fo), .val (.int y0), .val (.int y1), .val (.int y2), .val (.int y3), .val (.int y4), .val (.ref b33), .unset] [(.int (3 : Int32))])) tt
      refine XS.iconst X35.here hx rfl (hb hby at_92) ?_
      show Steps p.tables e below (T35.setTop (mkF m 93 #[.val (.int u0), .val (.int u1), .val (.int u2), .val (.int u3), .val (.int u4), .val (.int u5), .val (.int (3 : Int32)), .val (.int fo), .val (.int y0), .val (.int y1), .val (.int y2), .val (.int y3), .val (.int y4), .val (.ref b33), .unset] [(.int (2 : Int32)), (.int (3 : Int32))])) tt
      refine XS.icmpNo X35.here hx rfl (hb hby at_93) rfl (tlt ((by decide) : (2 : Int32) < (3 : Int32))).2.2.2 ?_
      show Steps p.tables e below (T35.setTop (mkF m 96 #[.val (.int u0), .val (.int u1), .val (.int u2), .val (.int u3), .val (.int u4), .val (.int u5), .val (.int (3 : Int32)), .val (.int fo), .val (.int y0), .val (.int y1), .val (.int y2), .val (.int y3), .val (.int y4), .val (.ref b33), .unset] [])) tt
      refine XS.aload X35.here hx rfl (hb hby at_96) rfl rfl ?_
      show Steps p.tables e below (T35.setTop (mkF m 98 #[.val (.int u0), .val (.int u1), .val (.int u2), .val (.int u3), .val (.int u4), .val (.int u5), .val (.int (3 : Int32)), .val (.int fo), .val (.int y0), .val (.int y1), .val (.int y2), .val (.int y3), .val (.int y4), .val (.ref b33), .unset] [(.ref b33)])) tt
      refine XS.iconst X35.here hx rfl (hb hby at_98) ?_
      show Steps p.tables e below (T35.setTop (mkF m 99 #[.val (.int u0), .val (.int u1), .val (.int u2), .val (.int u3), .val (.int u4), .val (.int u5), .val (.int (3 : Int32)), .val (.int fo), .val (.int y0), .val (.int y1), .val (.int y2), .val (.int y3), .val (.int y4), .val (.ref b33), .unset] [(.int (2 : Int32)), (.ref b33)])) tt
      refine XS.iload X35.here hx rfl (hb hby at_99) rfl ?_
      exact kk
    obtain ⟨cl36, Ar36, Sl36⟩ := id V35
    have hin36 := inA (cl := cl36) Sl36 (j := (2 : Int32)) (by decide) (Nat.le_of_ble_eq_true rfl)
    obtain ⟨T36, h36, X36, e36, W36, st36⟩ := stI X35 hx hZ e35 Ar36 (j := (2 : Int32)) hin36 (g := (mkF m 101 #[.val (.int u0), .val (.int u1), .val (.int u2), .val (.int u3), .val (.int u4), .val (.int u5), .val (.int (3 : Int32)), .val (.int fo), .val (.int y0), .val (.int y1), .val (.int y2), .val (.int y3), .val (.int y4), .val (.ref b33), .unset] [(.int y2), (.int (2 : Int32)), (.ref b33)])) rfl rfl (hb hby at_101)
    have V36 : Ary Z h36 b33 .int [(.int y0), (.int y1), (.int y2)] := Ary.put Ar36 Sl36 W36 rfl
    have N36 := Fr.snoc X36 N35 g_b33
    refine Goal.to (B := T36.setTop (mkF m 102 #[.val (.int u0), .val (.int u1), .val (.int u2), .val (.int u3), .val (.int u4), .val (.int u5), .val (.int (3 : Int32)), .val (.int fo), .val (.int y0), .val (.int y1), .val (.int y2), .val (.int y3), .val (.int y4), .val (.ref b33), .unset] [])) st36 ?_
    refine Goal.to (B := T36.setTop (mkF m 138 #[.val (.int u0), .val (.int u1), .val (.int u2), .val (.int u3), .val (.int u4), .val (.int u5), .val (.int (3 : Int32)), .val (.int fo), .val (.int y0), .val (.int y1), .val (.int y2), .val (.int y3), .val (.int y4), .val (.ref b33), .unset] [(.int y0), (.int (1 : Int32))])) (fun tt kk => ?_) ?_
    · show Steps p.tables e below (T36.setTop (mkF m 102 #[.val (.int u0), .val (.int u1), .val (.int u2), .val (.int u3), .val (.int u4), .val (.int u5), .val (.int (3 : Int32)), .val (.int fo), .val (.int y0), .val (.int y1), .val (.int y2), .val (.int y3), .val (.int y4), .val (.ref b33), .unset] [])) tt
      refine XS.iload X36.here hx rfl (hb hby at_102) rfl ?_
      show Steps p.tables e below (T36.setTop (mkF m 104 #[.val (.int u0), .val (.int u1), .val (.int u2), .val (.int u3), .val (.int u4), .val (.int u5), .val (.int (3 : Int32)), .val (.int fo), .val (.int y0), .val (.int y1), .val (.int y2), .val (.int y3), .val (.int y4), .val (.ref b33), .unset] [(.int (3 : Int32))])) tt
      refine XS.iconst X36.here hx rfl (hb hby at_104) ?_
      show Steps p.tables e below (T36.setTop (mkF m 105 #[.val (.int u0), .val (.int u1), .val (.int u2), .val (.int u3), .val (.int u4), .val (.int u5), .val (.int (3 : Int32)), .val (.int fo), .val (.int y0), .val (.int y1), .val (.int y2), .val (.int y3), .val (.int y4), .val (.ref b33), .unset] [(.int (3 : Int32)), (.int (3 : Int32))])) tt
      refine XS.icmpYes X36.here hx rfl (pc0 := 105) (pc' := 114) rfl (hb hby at_105) rfl (flt (Int32.lt_irrefl : ¬ ((3 : Int32) < (3 : Int32)))).2.2.2 (by decide) (by decide) ?_
      show Steps p.tables e below (T36.setTop (mkF m 114 #[.val (.int u0), .val (.int u1), .val (.int u2), .val (.int u3), .val (.int u4), .val (.int u5), .val (.int (3 : Int32)), .val (.int fo), .val (.int y0), .val (.int y1), .val (.int y2), .val (.int y3), .val (.int y4), .val (.ref b33), .unset] [])) tt
      refine XS.iload X36.here hx rfl (hb hby at_114) rfl ?_
      show Steps p.tables e below (T36.setTop (mkF m 116 #[.val (.int u0), .val (.int u1), .val (.int u2), .val (.int u3), .val (.int u4), .val (.int u5), .val (.int (3 : Int32)), .val (.int fo), .val (.int y0), .val (.int y1), .val (.int y2), .val (.int y3), .val (.int y4), .val (.ref b33), .unset] [(.int (3 : Int32))])) tt
      refine XS.iconst X36.here hx rfl (hb hby at_116) ?_
      show Steps p.tables e below (T36.setTop (mkF m 117 #[.val (.int u0), .val (.int u1), .val (.int u2), .val (.int u3), .val (.int u4), .val (.int u5), .val (.int (3 : Int32)), .val (.int fo), .val (.int y0), .val (.int y1), .val (.int y2), .val (.int y3), .val (.int y4), .val (.ref b33), .unset] [(.int (4 : Int32)), (.int (3 : Int32))])) tt
      refine XS.icmpYes X36.here hx rfl (pc0 := 117) (pc' := 126) rfl (hb hby at_117) rfl (flt ((by decide) : ¬ ((4 : Int32) < (3 : Int32)))).2.2.2 (by decide) (by decide) ?_
      show Steps p.tables e below (T36.setTop (mkF m 126 #[.val (.int u0), .val (.int u1), .val (.int u2), .val (.int u3), .val (.int u4), .val (.int u5), .val (.int (3 : Int32)), .val (.int fo), .val (.int y0), .val (.int y1), .val (.int y2), .val (.int y3), .val (.int y4), .val (.ref b33), .unset] [])) tt
      refine XS.iload X36.here hx rfl (hb hby at_126) rfl ?_
      show Steps p.tables e below (T36.setTop (mkF m 128 #[.val (.int u0), .val (.int u1), .val (.int u2), .val (.int u3), .val (.int u4), .val (.int u5), .val (.int (3 : Int32)), .val (.int fo), .val (.int y0), .val (.int y1), .val (.int y2), .val (.int y3), .val (.int y4), .val (.ref b33), .unset] [(.int (3 : Int32))])) tt
      refine XS.ifNo X36.here hx rfl (hb hby at_128) rfl ((if0 _ _).trans (tlt ((by decide) : (0 : Int32) < (3 : Int32))).2.2.2) ?_
      show Steps p.tables e below (T36.setTop (mkF m 131 #[.val (.int u0), .val (.int u1), .val (.int u2), .val (.int u3), .val (.int u4), .val (.int u5), .val (.int (3 : Int32)), .val (.int fo), .val (.int y0), .val (.int y1), .val (.int y2), .val (.int y3), .val (.int y4), .val (.ref b33), .unset] [])) tt
      refine XS.iconst X36.here hx rfl (hb hby at_131) ?_
      show Steps p.tables e below (T36.setTop (mkF m 132 #[.val (.int u0), .val (.int u1), .val (.int u2), .val (.int u3), .val (.int u4), .val (.int u5), .val (.int (3 : Int32)), .val (.int fo), .val (.int y0), .val (.int y1), .val (.int y2), .val (.int y3), .val (.int y4), .val (.ref b33), .unset] [(.int (1 : Int32))])) tt
      refine XS.goto X36.here hx rfl (pc0 := 132) (pc' := 136) rfl (hb hby at_132) (by decide) (by decide) ?_
      show Steps p.tables e below (T36.setTop (mkF m 136 #[.val (.int u0), .val (.int u1), .val (.int u2), .val (.int u3), .val (.int u4), .val (.int u5), .val (.int (3 : Int32)), .val (.int fo), .val (.int y0), .val (.int y1), .val (.int y2), .val (.int y3), .val (.int y4), .val (.ref b33), .unset] [(.int (1 : Int32))])) tt
      refine XS.iload X36.here hx rfl (hb hby at_136) rfl ?_
      exact kk
    have f37 : n0 ≤ h36.size := (Nat.le_trans (Nat.le_trans (Nat.le_trans (Nat.le_trans Z0 E33.1) (Keep.of_wr W34).1) (Keep.of_wr W35).1) (Keep.of_wr W36).1)
    obtain ⟨_, _, ⟨T38, L38, k38, n38⟩, -, X38, ⟨Lc38, hQ38, l38, y38, z38⟩, st38⟩ := Jvm.LawKit.callS X36 hx (y := (⟨"com/example/purloin/runner/PdfsReachedPinLaw", "one", "(ZI)I"⟩ : MethodName)) hown (mvT hZ (hw _ (mw 5 rfl))) (mvT hZ (hw _ (mw 6 rfl))) (mvT hZ (hw _ (mw 2 rfl))) (mvT hZ (hw _ (mw 7 rfl))) (by decide) (backOf (W := 0) (rmo l Z a0 hw [] (1 : Int32) y0 h36 n0 f37 ) hZ (hw _ (mw 7 rfl)) (hw _ (mw 2 rfl)) (by decide) (by decide)) (g := (mkF m 138 #[.val (.int u0), .val (.int u1), .val (.int u2), .val (.int u3), .val (.int u4), .val (.int u5), .val (.int (3 : Int32)), .val (.int fo), .val (.int y0), .val (.int y1), .val (.int y2), .val (.int y3), .val (.int y4), .val (.ref b33), .unset] [(.int y0), (.int (1 : Int32))])) rfl (by rw [hml]; rfl) (argsL := [(.int (1 : Int32)), (.int y0)]) (rest := []) (lenOf pd_1 rfl) rfl (by show 2 * 0 + _ ≤ _; exact Nat.le_of_eq rfl) (hb hby at_138) (fun _ _ => ⟨rfl, e36, (by decide : 1 + 0 ≤ _), (by decide : 3 + 0 ≤ _)⟩)
    dsimp only [Pt.U, Pt.locs, Pt.cells, Pt.slots] at X38 l38 y38 z38 st38 hQ38
    subst l38 y38 z38
    obtain ⟨rfl, N38q, e38⟩ := hQ38
    have N38 := Fr.app N36 N38q
    refine Goal.to (B := T38.setTop (mkF m 141 #[.val (.int u0), .val (.int u1), .val (.int u2), .val (.int u3), .val (.int u4), .val (.int u5), .val (.int (3 : Int32)), .val (.int fo), .val (.int y0), .val (.int y1), .val (.int y2), .val (.int y3), .val (.int y4), .val (.ref b33), .unset] [(.int (own_one (1 : Int32) y0))])) st38 ?_
    refine Goal.to (B := T38.setTop (mkF m 154 #[.val (.int u0), .val (.int u1), .val (.int u2), .val (.int u3), .val (.int u4), .val (.int u5), .val (.int (3 : Int32)), .val (.int fo), .val (.int y0), .val (.int y1), .val (.int y2), .val (.int y3), .val (.int y4), .val (.ref b33), .unset] [(.int y1), (.int (1 : Int32)), (.int (own_one (1 : Int32) y0))])) (fun tt kk => ?_) ?_
    · show Steps p.tables e below (T38.setTop (mkF m 141 #[.val (.int u0), .val (.int u1), .val (.int u2), .val (.int u3), .val (.int u4), .val (.int u5), .val (.int (3 : Int32)), .val (.int fo), .val (.int y0), .val (.int y1), .val (.int y2), .val (.int y3), .val (.int y4), .val (.ref b33), .unset] [(.int (own_one (1 : Int32) y0))])) tt
      refine XS.iload X38.here hx rfl (hb hby at_141) rfl ?_
      show Steps p.tables e below (T38.setTop (mkF m 143 #[.val (.int u0), .val (.int u1), .val (.int u2), .val (.int u3), .val (.int u4), .val (.int u5), .val (.int (3 : Int32)), .val (.int fo), .val (.int y0), .val (.int y1), .val (.int y2), .val (.int y3), .val (.int y4), .val (.ref b33), .unset] [(.int (3 : Int32)), (.int (own_one (1 : Int32) y0))])) tt
      refine XS.iconst X38.here hx rfl (hb hby at_143) ?_
      show Steps p.tables e below (T38.setTop (mkF m 144 #[.val (.int u0), .val (.int u1), .val (.int u2), .val (.int u3), .val (.int u4), .val (.int u5), .val (.int (3 : Int32)), .val (.int fo), .val (.int y0), .val (.int y1), .val (.int y2), .val (.int y3), .val (.int y4), .val (.ref b33), .unset] [(.int (1 : Int32)), (.int (3 : Int32)), (.int (own_one (1 : Int32) y0))])) tt
      refine XS.icmpNo X38.here hx rfl (hb hby at_144) rfl (tlt ((by decide) : (1 : Int32) < (3 : Int32))).2.2.2 ?_
      show Steps p.tables e below (T38.setTop (mkF m 147 #[.val (.int u0), .val (.int u1), .val (.int u2), .val (.int u3), .val (.int u4), .val (.int u5), .val (.int (3 : Int32)), .val (.int fo), .val (.int y0), .val (.int y1), .val (.int y2), .val (.int y3), .val (.int y4), .val (.ref b33), .unset] [(.int (own_one (1 : Int32) y0))])) tt
      refine XS.iconst X38.here hx rfl (hb hby at_147) ?_
      show Steps p.tables e below (T38.setTop (mkF m 148 #[.val (.int u0), .val (.int u1), .val (.int u2), .val (.int u3), .val (.int u4), .val (.int u5), .val (.int (3 : Int32)), .val (.int fo), .val (.int y0), .val (.int y1), .val (.int y2), .val (.int y3), .val (.int y4), .val (.ref b33), .unset] [(.int (1 : Int32)), (.int (own_one (1 : Int32) y0))])) tt
      refine XS.goto X38.here hx rfl (pc0 := 148) (pc' := 152) rfl (hb hby at_148) (by decide) (by decide) ?_
      show Steps p.tables e below (T38.setTop (mkF m 152 #[.val (.int u0), .val (.int u1), .val (.int u2), .val (.int u3), .val (.int u4), .val (.int u5), .val (.int (3 : Int32)), .val (.int fo), .val (.int y0), .val (.int y1), .val (.int y2), .val (.int y3), .val (.int y4), .val (.ref b33), .unset] [(.int (1 : Int32)), (.int (own_one (1 : Int32) y0))])) tt
      refine XS.iload X38.here hx rfl (hb hby at_152) rfl ?_
      exact kk
    obtain ⟨_, _, ⟨T39, L39, k39, n39⟩, -, X39, ⟨Lc39, hQ39, l39, y39, z39⟩, st39⟩ := Jvm.LawKit.callS X38 hx (y := (⟨"com/example/purloin/runner/PdfsReachedPinLaw", "one", "(ZI)I"⟩ : MethodName)) hown (mvT hZ (hw _ (mw 5 rfl))) (mvT hZ (hw _ (mw 6 rfl))) (mvT hZ (hw _ (mw 2 rfl))) (mvT hZ (hw _ (mw 7 rfl))) (by decide) (backOf (W := 1) (rmo l Z a0 hw [] (1 : Int32) y1 h36 n0 f37 ) hZ (hw _ (mw 7 rfl)) (hw _ (mw 2 rfl)) (by decide) (by decide)) (g := (mkF m 154 #[.val (.int u0), .val (.int u1), .val (.int u2), .val (.int u3), .val (.int u4), .val (.int u5), .val (.int (3 : Int32)), .val (.int fo), .val (.int y0), .val (.int y1), .val (.int y2), .val (.int y3), .val (.int y4), .val (.ref b33), .unset] [(.int y1), (.int (1 : Int32)), (.int (own_one (1 : Int32) y0))])) rfl (by rw [hml]; rfl) (argsL := [(.int (1 : Int32)), (.int y1)]) (rest := [(.int (own_one (1 : Int32) y0))]) (lenOf pd_1 rfl) rfl (by show 2 * 0 + _ ≤ _; exact Nat.le_of_eq rfl) (hb hby at_154) (fun _ _ => ⟨rfl, e38, (by decide : 1 + 0 ≤ _), (by decide : 3 + 0 ≤ _)⟩)
    dsimp only [Pt.U, Pt.locs, Pt.cells, Pt.slots] at X39 l39 y39 z39 st39 hQ39
    subst l39 y39 z39
    obtain ⟨rfl, N39q, e39⟩ := hQ39
    have N39 := Fr.app N38 N39q
    refine Goal.to (B := T39.setTop (mkF m 157 #[.val (.int u0), .val (.int u1), .val (.int u2), .val (.int u3), .val (.int u4), .val (.int u5), .val (.int (3 : Int32)), .val (.int fo), .val (.int y0), .val (.int y1), .val (.int y2), .val (.int y3), .val (.int y4), .val (.ref b33), .unset] [(.int (own_one (1 : Int32) y1)), (.int (own_one (1 : Int32) y0))])) st39 ?_
    refine Goal.to (B := T39.setTop (mkF m 171 #[.val (.int u0), .val (.int u1), .val (.int u2), .val (.int u3), .val (.int u4), .val (.int u5), .val (.int (3 : Int32)), .val (.int fo), .val (.int y0), .val (.int y1), .val (.int y2), .val (.int y3), .val (.int y4), .val (.ref b33), .unset] [(.int y2), (.int (1 : Int32)), (.int ((own_one (1 : Int32) y0) + (own_one (1 : Int32) y1)))])) (fun tt kk => ?_) ?_
    · show Steps p.tables e below (T39.setTop (mkF m 157 #[.val (.int u0), .val (.int u1), .val (.int u2), .val (.int u3), .val (.int u4), .val (.int u5), .val (.int (3 : Int32)), .val (.int fo), .val (.int y0), .val (.int y1), .val (.int y2), .val (.int y3), .val (.int y4), .val (.ref b33), .unset] [(.int (own_one (1 : Int32) y1)), (.int (own_one (1 : Int32) y0))])) tt
      refine XS.iadd X39.here hx rfl (hb hby at_157) rfl ?_
      show Steps p.tables e below (T39.setTop (mkF m 158 #[.val (.int u0), .val (.int u1), .val (.int u2), .val (.int u3), .val (.int u4), .val (.int u5), .val (.int (3 : Int32)), .val (.int fo), .val (.int y0), .val (.int y1), .val (.int y2), .val (.int y3), .val (.int y4), .val (.ref b33), .unset] [(.int ((own_one (1 : Int32) y0) + (own_one (1 : Int32) y1)))])) tt
      refine XS.iload X39.here hx rfl (hb hby at_158) rfl ?_
      show Steps p.tables e below (T39.setTop (mkF m 160 #[.val (.int u0), .val (.int u1), .val (.int u2), .val (.int u3), .val (.int u4), .val (.int u5), .val (.int (3 : Int32)), .val (.int fo), .val (.int y0), .val (.int y1), .val (.int y2), .val (.int y3), .val (.int y4), .val (.ref b33), .unset] [(.int (3 : Int32)), (.int ((own_one (1 : Int32) y0) + (own_one (1 : Int32) y1)))])) tt
      refine XS.iconst X39.here hx rfl (hb hby at_160) ?_
      show Steps p.tables e below (T39.setTop (mkF m 161 #[.val (.int u0), .val (.int u1), .val (.int u2), .val (.int u3), .val (.int u4), .val (.int u5), .val (.int (3 : Int32)), .val (.int fo), .val (.int y0), .val (.int y1), .val (.int y2), .val (.int y3), .val (.int y4), .val (.ref b33), .unset] [(.int (2 : Int32)), (.int (3 : Int32)), (.int ((own_one (1 : Int32) y0) + (own_one (1 : Int32) y1)))])) tt
      refine XS.icmpNo X39.here hx rfl (hb hby at_161) rfl (tlt ((by decide) : (2 : Int32) < (3 : Int32))).2.2.2 ?_
      show Steps p.tables e below (T39.setTop (mkF m 164 #[.val (.int u0), .val (.int u1), .val (.int u2), .val (.int u3), .val (.int u4), .val (.int u5), .val (.int (3 : Int32)), .val (.int fo), .val (.int y0), .val (.int y1), .val (.int y2), .val (.int y3), .val (.int y4), .val (.ref b33), .unset] [(.int ((own_one (1 : Int32) y0) + (own_one (1 : Int32) y1)))])) tt
      refine XS.iconst X39.here hx rfl (hb hby at_164) ?_
      show Steps p.tables e below (T39.setTop (mkF m 165 #[.val (.int u0), .val (.int u1), .val (.int u2), .val (.int u3), .val (.int u4), .val (.int u5), .val (.int (3 : Int32)), .val (.int fo), .val (.int y0), .val (.int y1), .val (.int y2), .val (.int y3), .val (.int y4), .val (.ref b33), .unset] [(.int (1 : Int32)), (.int ((own_one (1 : Int32) y0) + (own_one (1 : Int32) y1)))])) tt
      refine XS.goto X39.here hx rfl (pc0 := 165) (pc' := 169) rfl (hb hby at_165) (by decide) (by decide) ?_
      show Steps p.tables e below (T39.setTop (mkF m 169 #[.val (.int u0), .val (.int u1), .val (.int u2), .val (.int u3), .val (.int u4), .val (.int u5), .val (.int (3 : Int32)), .val (.int fo), .val (.int y0), .val (.int y1), .val (.int y2), .val (.int y3), .val (.int y4), .val (.ref b33), .unset] [(.int (1 : Int32)), (.int ((own_one (1 : Int32) y0) + (own_one (1 : Int32) y1)))])) tt
      refine XS.iload X39.here hx rfl (hb hby at_169) rfl ?_
      exact kk
    obtain ⟨_, _, ⟨T40, L40, k40, n40⟩, -, X40, ⟨Lc40, hQ40, l40, y40, z40⟩, st40⟩ := Jvm.LawKit.callS X39 hx (y := (⟨"com/example/purloin/runner/PdfsReachedPinLaw", "one", "(ZI)I"⟩ : MethodName)) hown (mvT hZ (hw _ (mw 5 rfl))) (mvT hZ (hw _ (mw 6 rfl))) (mvT hZ (hw _ (mw 2 rfl))) (mvT hZ (hw _ (mw 7 rfl))) (by decide) (backOf (W := 1) (rmo l Z a0 hw [] (1 : Int32) y2 h36 n0 f37 ) hZ (hw _ (mw 7 rfl)) (hw _ (mw 2 rfl)) (by decide) (by decide)) (g := (mkF m 171 #[.val (.int u0), .val (.int u1), .val (.int u2), .val (.int u3), .val (.int u4), .val (.int u5), .val (.int (3 : Int32)), .val (.int fo), .val (.int y0), .val (.int y1), .val (.int y2), .val (.int y3), .val (.int y4), .val (.ref b33), .unset] [(.int y2), (.int (1 : Int32)), (.int ((own_one (1 : Int32) y0) + (own_one (1 : Int32) y1)))])) rfl (by rw [hml]; rfl) (argsL := [(.int (1 : Int32)), (.int y2)]) (rest := [(.int ((own_one (1 : Int32) y0) + (own_one (1 : Int32) y1)))]) (lenOf pd_1 rfl) rfl (by show 2 * 0 + _ ≤ _; exact Nat.le_of_eq rfl) (hb hby at_171) (fun _ _ => ⟨rfl, e39, (by decide : 1 + 0 ≤ _), (by decide : 3 + 0 ≤ _)⟩)
    dsimp only [Pt.U, Pt.locs, Pt.cells, Pt.slots] at X40 l40 y40 z40 st40 hQ40
    subst l40 y40 z40
    obtain ⟨rfl, N40q, e40⟩ := hQ40
    have N40 := Fr.app N39 N40q
    refine Goal.to (B := T40.setTop (mkF m 174 #[.val (.int u0), .val (.int u1), .val (.int u2), .val (.int u3), .val (.int u4), .val (.int u5), .val (.int (3 : Int32)), .val (.int fo), .val (.int y0), .val (.int y1), .val (.int y2), .val (.int y3), .val (.int y4), .val (.ref b33), .unset] [(.int (own_one (1 : Int32) y2)), (.int ((own_one (1 : Int32) y0) + (own_one (1 : Int32) y1)))])) st40 ?_
    refine Goal.to (B := T40.setTop (mkF m 188 #[.val (.int u0), .val (.int u1), .val (.int u2), .val (.int u3), .val (.int u4), .val (.int u5), .val (.int (3 : Int32)), .val (.int fo), .val (.int y0), .val (.int y1), .val (.int y2), .val (.int y3), .val (.int y4), .val (.ref b33), .unset] [(.int y3), (.int (0 : Int32)), (.int (((own_one (1 : Int32) y0) + (own_one (1 : Int32) y1)) + (own_one (1 : Int32) y2)))])) (fun tt kk => ?_) ?_
    · show Steps p.tables e below (T40.setTop (mkF m 174 #[.val (.int u0), .val (.int u1), .val (.int u2), .val (.int u3), .val (.int u4), .val (.int u5), .val (.int (3 : Int32)), .val (.int fo), .val (.int y0), .val (.int y1), .val (.int y2), .val (.int y3), .val (.int y4), .val (.ref b33), .unset] [(.int (own_one (1 : Int32) y2)), (.int ((own_one (1 : Int32) y0) + (own_one (1 : Int32) y1)))])) tt
      refine XS.iadd X40.here hx rfl (hb hby at_174) rfl ?_
      show Steps p.tables e below (T40.setTop (mkF m 175 #[.val (.int u0), .val (.int u1), .val (.int u2), .val (.int u3), .val (.int u4), .val (.int u5), .val (.int (3 : Int32)), .val (.int fo), .val (.int y0), .val (.int y1), .val (.int y2), .val (.int y3), .val (.int y4), .val (.ref b33), .unset] [(.int (((own_one (1 : Int32) y0) + (own_one (1 : Int32) y1)) + (own_one (1 : Int32) y2)))])) tt
      refine XS.iload X40.here hx rfl (hb hby at_175) rfl ?_
      show Steps p.tables e below (T40.setTop (mkF m 177 #[.val (.int u0), .val (.int u1), .val (.int u2), .val (.int u3), .val (.int u4), .val (.int u5), .val (.int (3 : Int32)), .val (.int fo), .val (.int y0), .val (.int y1), .val (.int y2), .val (.int y3), .val (.int y4), .val (.ref b33), .unset] [(.int (3 : Int32)), (.int (((own_one (1 : Int32) y0) + (own_one (1 : Int32) y1)) + (own_one (1 : Int32) y2)))])) tt
      refine XS.iconst X40.here hx rfl (hb hby at_177) ?_
      show Steps p.tables e below (T40.setTop (mkF m 178 #[.val (.int u0), .val (.int u1), .val (.int u2), .val (.int u3), .val (.int u4), .val (.int u5), .val (.int (3 : Int32)), .val (.int fo), .val (.int y0), .val (.int y1), .val (.int y2), .val (.int y3), .val (.int y4), .val (.ref b33), .unset] [(.int (3 : Int32)), (.int (3 : Int32)), (.int (((own_one (1 : Int32) y0) + (own_one (1 : Int32) y1)) + (own_one (1 : Int32) y2)))])) tt
      refine XS.icmpYes X40.here hx rfl (pc0 := 178) (pc' := 185) rfl (hb hby at_178) rfl (flt (Int32.lt_irrefl : ¬ ((3 : Int32) < (3 : Int32)))).2.2.2 (by decide) (by decide) ?_
      show Steps p.tables e below (T40.setTop (mkF m 185 #[.val (.int u0), .val (.int u1), .val (.int u2), .val (.int u3), .val (.int u4), .val (.int u5), .val (.int (3 : Int32)), .val (.int fo), .val (.int y0), .val (.int y1), .val (.int y2), .val (.int y3), .val (.int y4), .val (.ref b33), .unset] [(.int (((own_one (1 : Int32) y0) + (own_one (1 : Int32) y1)) + (own_one (1 : Int32) y2)))])) tt
      refine XS.iconst X40.here hx rfl (hb hby at_185) ?_
      show Steps p.tables e below (T40.setTop (mkF m 186 #[.val (.int u0), .val (.int u1), .val (.int u2), .val (.int u3), .val (.int u4), .val (.int u5), .val (.int (3 : Int32)), .val (.int fo), .val (.int y0), .val (.int y1), .val (.int y2), .val (.int y3), .val (.int y4), .val (.ref b33), .unset] [(.int (0 : Int32)), (.int (((own_one (1 : Int32) y0) + (own_one (1 : Int32) y1)) + (own_one (1 : Int32) y2)))])) tt
      refine XS.iload X40.here hx rfl (hb hby at_186) rfl ?_
      exact kk
    obtain ⟨_, _, ⟨T41, L41, k41, n41⟩, -, X41, ⟨Lc41, hQ41, l41, y41, z41⟩, st41⟩ := Jvm.LawKit.callS X40 hx (y := (⟨"com/example/purloin/runner/PdfsReachedPinLaw", "one", "(ZI)I"⟩ : MethodName)) hown (mvT hZ (hw _ (mw 5 rfl))) (mvT hZ (hw _ (mw 6 rfl))) (mvT hZ (hw _ (mw 2 rfl))) (mvT hZ (hw _ (mw 7 rfl))) (by decide) (backOf (W := 1) (rmo l Z a0 hw [] (0 : Int32) y3 h36 n0 f37 ) hZ (hw _ (mw 7 rfl)) (hw _ (mw 2 rfl)) (by decide) (by decide)) (g := (mkF m 188 #[.val (.int u0), .val (.int u1), .val (.int u2), .val (.int u3), .val (.int u4), .val (.int u5), .val (.int (3 : Int32)), .val (.int fo), .val (.int y0), .val (.int y1), .val (.int y2), .val (.int y3), .val (.int y4), .val (.ref b33), .unset] [(.int y3), (.int (0 : Int32)), (.int (((own_one (1 : Int32) y0) + (own_one (1 : Int32) y1)) + (own_one (1 : Int32) y2)))])) rfl (by rw [hml]; rfl) (argsL := [(.int (0 : Int32)), (.int y3)]) (rest := [(.int (((own_one (1 : Int32) y0) + (own_one (1 : Int32) y1)) + (own_one (1 : Int32) y2)))]) (lenOf pd_1 rfl) rfl (by show 2 * 0 + _ ≤ _; exact Nat.le_of_eq rfl) (hb hby at_188) (fun _ _ => ⟨rfl, e40, (by decide : 1 + 0 ≤ _), (by decide : 3 + 0 ≤ _)⟩)
    dsimp only [Pt.U, Pt.locs, Pt.cells, Pt.slots] at X41 l41 y41 z41 st41 hQ41
    subst l41 y41 z41
    obtain ⟨rfl, N41q, e41⟩ := hQ41
    have N41 := Fr.app N40 N41q
    refine Goal.to (B := T41.setTop (mkF m 191 #[.val (.int u0), .val (.int u1), .val (.int u2), .val (.int u3), .val (.int u4), .val (.int u5), .val (.int (3 : Int32)), .val (.int fo), .val (.int y0), .val (.int y1), .val (.int y2), .val (.int y3), .val (.int y4), .val (.ref b33), .unset] [(.int (own_one (0 : Int32) y3)), (.int (((own_one (1 : Int32) y0) + (own_one (1 : Int32) y1)) + (own_one (1 : Int32) y2)))])) st41 ?_
    refine Goal.to (B := T41.setTop (mkF m 205 #[.val (.int u0), .val (.int u1), .val (.int u2), .val (.int u3), .val (.int u4), .val (.int u5), .val (.int (3 : Int32)), .val (.int fo), .val (.int y0), .val (.int y1), .val (.int y2), .val (.int y3), .val (.int y4), .val (.ref b33), .unset] [(.int y4), (.int (0 : Int32)), (.int ((((own_one (1 : Int32) y0) + (own_one (1 : Int32) y1)) + (own_one (1 : Int32) y2)) + (own_one (0 : Int32) y3)))])) (fun tt kk => ?_) ?_
    · show Steps p.tables e below (T41.setTop (mkF m 191 #[.val (.int u0), .val (.int u1), .val (.int u2), .val (.int u3), .val (.int u4), .val (.int u5), .val (.int (3 : Int32)), .val (.int fo), .val (.int y0), .val (.int y1), .val (.int y2), .val (.int y3), .val (.int y4), .val (.ref b33), .unset] [(.int (own_one (0 : Int32) y3)), (.int (((own_one (1 : Int32) y0) + (own_one (1 : Int32) y1)) + (own_one (1 : Int32) y2)))])) tt
      refine XS.iadd X41.here hx rfl (hb hby at_191) rfl ?_
      show Steps p.tables e below (T41.setTop (mkF m 192 #[.val (.int u0), .val (.int u1), .val (.int u2), .val (.int u3), .val (.int u4), .val (.int u5), .val (.int (3 : Int32)), .val (.int fo), .val (.int y0), .val (.int y1), .val (.int y2), .val (.int y3), .val (.int y4), .val (.ref b33), .unset] [(.int ((((own_one (1 : Int32) y0) + (own_one (1 : Int32) y1)) + (own_one (1 : Int32) y2)) + (own_one (0 : Int32) y3)))])) tt
      refine XS.iload X41.here hx rfl (hb hby at_192) rfl ?_
      show Steps p.tables e below (T41.setTop (mkF m 194 #[.val (.int u0), .val (.int u1), .val (.int u2), .val (.int u3), .val (.int u4), .val (.int u5), .val (.int (3 : Int32)), .val (.int fo), .val (.int y0), .val (.int y1), .val (.int y2), .val (.int y3), .val (.int y4), .val (.ref b33), .unset] [(.int (3 : Int32)), (.int ((((own_one (1 : Int32) y0) + (own_one (1 : Int32) y1)) + (own_one (1 : Int32) y2)) + (own_one (0 : Int32) y3)))])) tt
      refine XS.iconst X41.here hx rfl (hb hby at_194) ?_
      show Steps p.tables e below (T41.setTop (mkF m 195 #[.val (.int u0), .val (.int u1), .val (.int u2), .val (.int u3), .val (.int u4), .val (.int u5), .val (.int (3 : Int32)), .val (.int fo), .val (.int y0), .val (.int y1), .val (.int y2), .val (.int y3), .val (.int y4), .val (.ref b33), .unset] [(.int (4 : Int32)), (.int (3 : Int32)), (.int ((((own_one (1 : Int32) y0) + (own_one (1 : Int32) y1)) + (own_one (1 : Int32) y2)) + (own_one (0 : Int32) y3)))])) tt
      refine XS.icmpYes X41.here hx rfl (pc0 := 195) (pc' := 202) rfl (hb hby at_195) rfl (flt ((by decide) : ¬ ((4 : Int32) < (3 : Int32)))).2.2.2 (by decide) (by decide) ?_
      show Steps p.tables e below (T41.setTop (mkF m 202 #[.val (.int u0), .val (.int u1), .val (.int u2), .val (.int u3), .val (.int u4), .val (.int u5), .val (.int (3 : Int32)), .val (.int fo), .val (.int y0), .val (.int y1), .val (.int y2), .val (.int y3), .val (.int y4), .val (.ref b33), .unset] [(.int ((((own_one (1 : Int32) y0) + (own_one (1 : Int32) y1)) + (own_one (1 : Int32) y2)) + (own_one (0 : Int32) y3)))])) tt
      refine XS.iconst X41.here hx rfl (hb hby at_202) ?_
      show Steps p.tables e below (T41.setTop (mkF m 203 #[.val (.int u0), .val (.int u1), .val (.int u2), .val (.int u3), .val (.int u4), .val (.int u5), .val (.int (3 : Int32)), .val (.int fo), .val (.int y0), .val (.int y1), .val (.int y2), .val (.int y3), .val (.int y4), .val (.ref b33), .unset] [(.int (0 : Int32)), (.int ((((own_one (1 : Int32) y0) + (own_one (1 : Int32) y1)) + (own_one (1 : Int32) y2)) + (own_one (0 : Int32) y3)))])) tt
      refine XS.iload X41.here hx rfl (hb hby at_203) rfl ?_
      exact kk
    obtain ⟨_, _, ⟨T42, L42, k42, n42⟩, -, X42, ⟨Lc42, hQ42, l42, y42, z42⟩, st42⟩ := Jvm.LawKit.callS X41 hx (y := (⟨"com/example/purloin/runner/PdfsReachedPinLaw", "one", "(ZI)I"⟩ : MethodName)) hown (mvT hZ (hw _ (mw 5 rfl))) (mvT hZ (hw _ (mw 6 rfl))) (mvT hZ (hw _ (mw 2 rfl))) (mvT hZ (hw _ (mw 7 rfl))) (by decide) (backOf (W := 1) (rmo l Z a0 hw [] (0 : Int32) y4 h36 n0 f37 ) hZ (hw _ (mw 7 rfl)) (hw _ (mw 2 rfl)) (by decide) (by decide)) (g := (mkF m 205 #[.val (.int u0), .val (.int u1), .val (.int u2), .val (.int u3), .val (.int u4), .val (.int u5), .val (.int (3 : Int32)), .val (.int fo), .val (.int y0), .val (.int y1), .val (.int y2), .val (.int y3), .val (.int y4), .val (.ref b33), .unset] [(.int y4), (.int (0 : Int32)), (.int ((((own_one (1 : Int32) y0) + (own_one (1 : Int32) y1)) + (own_one (1 : Int32) y2)) + (own_one (0 : Int32) y3)))])) rfl (by rw [hml]; rfl) (argsL := [(.int (0 : Int32)), (.int y4)]) (rest := [(.int ((((own_one (1 : Int32) y0) + (own_one (1 : Int32) y1)) + (own_one (1 : Int32) y2)) + (own_one (0 : Int32) y3)))]) (lenOf pd_1 rfl) rfl (by show 2 * 0 + _ ≤ _; exact Nat.le_of_eq rfl) (hb hby at_205) (fun _ _ => ⟨rfl, e41, (by decide : 1 + 0 ≤ _), (by decide : 3 + 0 ≤ _)⟩)
    dsimp only [Pt.U, Pt.locs, Pt.cells, Pt.slots] at X42 l42 y42 z42 st42 hQ42
    subst l42 y42 z42
    obtain ⟨rfl, N42q, e42⟩ := hQ42
    have N42 := Fr.app N41 N42q
    refine Goal.to (B := T42.setTop (mkF m 208 #[.val (.int u0), .val (.int u1), .val (.int u2), .val (.int u3), .val (.int u4), .val (.int u5), .val (.int (3 : Int32)), .val (.int fo), .val (.int y0), .val (.int y1), .val (.int y2), .val (.int y3), .val (.int y4), .val (.ref b33), .unset] [(.int (own_one (0 : Int32) y4)), (.int ((((own_one (1 : Int32) y0) + (own_one (1 : Int32) y1)) + (own_one (1 : Int32) y2)) + (own_one (0 : Int32) y3)))])) st42 ?_
    refine Goal.to (B := T42.setTop (mkF m 213 #[.val (.int u0), .val (.int u1), .val (.int u2), .val (.int u3), .val (.int u4), .val (.int u5), .val (.int (3 : Int32)), .val (.int fo), .val (.int y0), .val (.int y1), .val (.int y2), .val (.int y3), .val (.int y4), .val (.ref b33), .val (.int (((((own_one (1 : Int32) y0) + (own_one (1 : Int32) y1)) + (own_one (1 : Int32) y2)) + (own_one (0 : Int32) y3)) + (own_one (0 : Int32) y4)))] [(.ref b33)])) (fun tt kk => ?_) ?_
    · show Steps p.tables e below (T42.setTop (mkF m 208 #[.val (.int u0), .val (.int u1), .val (.int u2), .val (.int u3), .val (.int u4), .val (.int u5), .val (.int (3 : Int32)), .val (.int fo), .val (.int y0), .val (.int y1), .val (.int y2), .val (.int y3), .val (.int y4), .val (.ref b33), .unset] [(.int (own_one (0 : Int32) y4)), (.int ((((own_one (1 : Int32) y0) + (own_one (1 : Int32) y1)) + (own_one (1 : Int32) y2)) + (own_one (0 : Int32) y3)))])) tt
      refine XS.iadd X42.here hx rfl (hb hby at_208) rfl ?_
      show Steps p.tables e below (T42.setTop (mkF m 209 #[.val (.int u0), .val (.int u1), .val (.int u2), .val (.int u3), .val (.int u4), .val (.int u5), .val (.int (3 : Int32)), .val (.int fo), .val (.int y0), .val (.int y1), .val (.int y2), .val (.int y3), .val (.int y4), .val (.ref b33), .unset] [(.int (((((own_one (1 : Int32) y0) + (own_one (1 : Int32) y1)) + (own_one (1 : Int32) y2)) + (own_one (0 : Int32) y3)) + (own_one (0 : Int32) y4)))])) tt
      refine XS.istore X42.here hx rfl (hb hby at_209) rfl (l' := #[.val (.int u0), .val (.int u1), .val (.int u2), .val (.int u3), .val (.int u4), .val (.int u5), .val (.int (3 : Int32)), .val (.int fo), .val (.int y0), .val (.int y1), .val (.int y2), .val (.int y3), .val (.int y4), .val (.ref b33), .val (.int (((((own_one (1 : Int32) y0) + (own_one (1 : Int32) y1)) + (own_one (1 : Int32) y2)) + (own_one (0 : Int32) y3)) + (own_one (0 : Int32) y4)))]) rfl ?_
      show Steps p.tables e below (T42.setTop (mkF m 211 #[.val (.int u0), .val (.int u1), .val (.int u2), .val (.int u3), .val (.int u4), .val (.int u5), .val (.int (3 : Int32)), .val (.int fo), .val (.int y0), .val (.int y1), .val (.int y2), .val (.int y3), .val (.int y4), .val (.ref b33), .val (.int (((((own_one (1 : Int32) y0) + (own_one (1 : Int32) y1)) + (own_one (1 : Int32) y2)) + (own_one (0 : Int32) y3)) + (own_one (0 : Int32) y4)))] [])) tt
      refine XS.aload X42.here hx rfl (hb hby at_211) rfl rfl ?_
      exact kk
    obtain ⟨_, _, ⟨T43, L43, k43, n43⟩, -, X43, ⟨Lc43, hQ43, l43, y43, z43⟩, st43⟩ := Jvm.LawKit.callS X42 hx (y := (⟨"com/example/purloin/runner/Pdfs", "reached", "([I)I"⟩ : MethodName)) hown (mvT hZ (hw _ (mw 8 rfl))) (mvT hZ (hw _ (mw 9 rfl))) (mvT hZ (hw _ (mw 10 rfl))) (mvT hZ (hw _ (mw 11 rfl))) (by decide) (backOf (W := 0) (rmr3 l Z a0 hw [] b33 y0 y1 y2 h36 n0 f37 V36) hZ (hw _ (mw 11 rfl)) (hw _ (mw 10 rfl)) (by decide) (by decide)) (g := (mkF m 213 #[.val (.int u0), .val (.int u1), .val (.int u2), .val (.int u3), .val (.int u4), .val (.int u5), .val (.int (3 : Int32)), .val (.int fo), .val (.int y0), .val (.int y1), .val (.int y2), .val (.int y3), .val (.int y4), .val (.ref b33), .val (.int (((((own_one (1 : Int32) y0) + (own_one (1 : Int32) y1)) + (own_one (1 : Int32) y2)) + (own_one (0 : Int32) y3)) + (own_one (0 : Int32) y4)))] [(.ref b33)])) rfl (by rw [hml]; rfl) (argsL := [(.ref b33)]) (rest := []) (lenOf pd_2 rfl) rfl (by show 2 * 0 + _ ≤ _; exact Nat.le_of_eq rfl) (hb hby at_213) (fun _ _ => ⟨rfl, e42, (by decide : 1 + 0 ≤ _), (by decide : 3 + 0 ≤ _)⟩)
    dsimp only [Pt.U, Pt.locs, Pt.cells, Pt.slots] at X43 l43 y43 z43 st43 hQ43
    subst l43 y43 z43
    obtain ⟨rfl, N43q, e43⟩ := hQ43
    have N43 := Fr.app N42 N43q
    refine Goal.to (B := T43.setTop (mkF m 216 #[.val (.int u0), .val (.int u1), .val (.int u2), .val (.int u3), .val (.int u4), .val (.int u5), .val (.int (3 : Int32)), .val (.int fo), .val (.int y0), .val (.int y1), .val (.int y2), .val (.int y3), .val (.int y4), .val (.ref b33), .val (.int (((((own_one (1 : Int32) y0) + (own_one (1 : Int32) y1)) + (own_one (1 : Int32) y2)) + (own_one (0 : Int32) y3)) + (own_one (0 : Int32) y4)))] [(.int (own_add (own_add (own_add (0 : Int32) y0) y1) y2))])) st43 ?_
    refine Goal.to (B := T43.setTop (mkF m 226 #[.val (.int u0), .val (.int u1), .val (.int u2), .val (.int u3), .val (.int u4), .val (.int u5), .val (.int (3 : Int32)), .val (.int fo), .val (.int y0), .val (.int y1), .val (.int y2), .val (.int y3), .val (.int y4), .val (.ref b33), .val (.int (((((own_one (1 : Int32) y0) + (own_one (1 : Int32) y1)) + (own_one (1 : Int32) y2)) + (own_one (0 : Int32) y3)) + (own_one (0 : Int32) y4)))] [(.int (1 : Int32))])) (fun tt kk => ?_) ?_
    · show Steps p.tables e below (T43.setTop (mkF m 216 #[.val (.int u0), .val (.int u1), .val (.int u2), .val (.int u3), .val (.int u4), .val (.int u5), .val (.int (3 : Int32)), .val (.int fo), .val (.int y0), .val (.int y1), .val (.int y2), .val (.int y3), .val (.int y4), .val (.ref b33), .val (.int (((((own_one (1 : Int32) y0) + (own_one (1 : Int32) y1)) + (own_one (1 : Int32) y2)) + (own_one (0 : Int32) y3)) + (own_one (0 : Int32) y4)))] [(.int (own_add (own_add (own_add (0 : Int32) y0) y1) y2))])) tt
      refine XS.iload X43.here hx rfl (hb hby at_216) rfl ?_
      show Steps p.tables e below (T43.setTop (mkF m 218 #[.val (.int u0), .val (.int u1), .val (.int u2), .val (.int u3), .val (.int u4), .val (.int u5), .val (.int (3 : Int32)), .val (.int fo), .val (.int y0), .val (.int y1), .val (.int y2), .val (.int y3), .val (.int y4), .val (.ref b33), .val (.int (((((own_one (1 : Int32) y0) + (own_one (1 : Int32) y1)) + (own_one (1 : Int32) y2)) + (own_one (0 : Int32) y3)) + (own_one (0 : Int32) y4)))] [(.int (((((own_one (1 : Int32) y0) + (own_one (1 : Int32) y1)) + (own_one (1 : Int32) y2)) + (own_one (0 : Int32) y3)) + (own_one (0 : Int32) y4))), (.int (own_add (own_add (own_add (0 : Int32) y0) y1) y2))])) tt
      refine XS.icmpNo X43.here hx rfl (hb hby at_218) rfl (teq (by simp only [own_addE, own_one0, Int32.zero_add, Int32.add_zero] : (own_add (own_add (own_add (0 : Int32) y0) y1) y2) = (((((own_one (1 : Int32) y0) + (own_one (1 : Int32) y1)) + (own_one (1 : Int32) y2)) + (own_one (0 : Int32) y3)) + (own_one (0 : Int32) y4)))).2 ?_
      show Steps p.tables e below (T43.setTop (mkF m 221 #[.val (.int u0), .val (.int u1), .val (.int u2), .val (.int u3), .val (.int u4), .val (.int u5), .val (.int (3 : Int32)), .val (.int fo), .val (.int y0), .val (.int y1), .val (.int y2), .val (.int y3), .val (.int y4), .val (.ref b33), .val (.int (((((own_one (1 : Int32) y0) + (own_one (1 : Int32) y1)) + (own_one (1 : Int32) y2)) + (own_one (0 : Int32) y3)) + (own_one (0 : Int32) y4)))] [])) tt
      refine XS.iconst X43.here hx rfl (hb hby at_221) ?_
      show Steps p.tables e below (T43.setTop (mkF m 222 #[.val (.int u0), .val (.int u1), .val (.int u2), .val (.int u3), .val (.int u4), .val (.int u5), .val (.int (3 : Int32)), .val (.int fo), .val (.int y0), .val (.int y1), .val (.int y2), .val (.int y3), .val (.int y4), .val (.ref b33), .val (.int (((((own_one (1 : Int32) y0) + (own_one (1 : Int32) y1)) + (own_one (1 : Int32) y2)) + (own_one (0 : Int32) y3)) + (own_one (0 : Int32) y4)))] [(.int (1 : Int32))])) tt
      refine XS.goto X43.here hx rfl (pc0 := 222) (pc' := 226) rfl (hb hby at_222) (by decide) (by decide) ?_
      exact kk
    exact Goal.retV X43 hx Bd.returns rfl (Or.inl ⟨rfl, Or.inr (Or.inl rfl), _, rfl⟩) (hb hby at_226) hlk e43 ⟨rfl, N43⟩ (by decide) (by decide)
  · obtain ⟨T44, h44, k44, X44, e44, E44, A44, st44⟩ := newP X5 hx hZ (hw _ (mw 4 rfl)) e5 (g := (mkF m 63 #[.val (.int u0), .val (.int u1), .val (.int u2), .val (.int u3), .val (.int u4), .val (.int u5), .val (.int (4 : Int32)), .val (.int fo), .val (.int y0), .val (.int y1), .val (.int y2), .val (.int y3), .val (.int y4), .unset, .unset] [(.int (4 : Int32))])) rfl (hb hby at_63) rfl (by decide) (cap := 4) (by decide) (by decide) (by decide) (by decide)
    obtain ⟨b44, g44⟩ : ∃ z, z = h0.size := ⟨_, rfl⟩
    rw [← g44] at A44 st44
    have g_b44 : n0 ≤ b44 := Nat.le_trans Z0 (Nat.le_of_eq g44.symm)
    have V44 : Ary Z h44 b44 .int [(.int (0 : Int32)), (.int (0 : Int32)), (.int (0 : Int32)), (.int (0 : Int32))] := Ary.new A44 rfl
    refine Goal.to (B := T44.setTop (mkF m 65 #[.val (.int u0), .val (.int u1), .val (.int u2), .val (.int u3), .val (.int u4), .val (.int u5), .val (.int (4 : Int32)), .val (.int fo), .val (.int y0), .val (.int y1), .val (.int y2), .val (.int y3), .val (.int y4), .unset, .unset] [(.ref b44)])) st44 ?_
    refine Goal.to (B := T44.setTop (mkF m 77 #[.val (.int u0), .val (.int u1), .val (.int u2), .val (.int u3), .val (.int u4), .val (.int u5), .val (.int (4 : Int32)), .val (.int fo), .val (.int y0), .val (.int y1), .val (.int y2), .val (.int y3), .val (.int y4), .val (.ref b44), .unset] [(.int y0), (.int (0 : Int32)), (.ref b44)])) (fun tt kk => ?_) ?_
    · show Steps p.tables e below (T44.setTop (mkF m 65 #[.val (.int u0), .val (.int u1), .val (.int u2), .val (.int u3), .val (.int u4), .val (.int u5), .val (.int (4 : Int32)), .val (.int fo), .val (.int y0), .val (.int y1), .val (.int y2), .val (.int y3), .val (.int y4), .unset, .unset] [(.ref b44)])) tt
      refine XS.astore X44.here hx rfl (hb hby at_65) rfl rfl (l' := #[.val (.int u0), .val (.int u1), .val (.int u2), .val (.int u3), .val (.int u4), .val (.int u5), .val (.int (4 : Int32)), .val (.int fo), .val (.int y0), .val (.int y1), .val (.int y2), .val (.int y3), .val (.int y4), .val (.ref b44), .unset]) rfl ?_
      show Steps p.tables e below (T44.setTop (mkF m 67 #[.val (.int u0), .val (.int u1), .val (.int u2), .val (.int u3), .val (.int u4), .val (.int u5), .val (.int (4 : Int32)), .val (.int fo), .val (.int y0), .val (.int y1), .val (.int y2), .val (.int y3), .val (.int y4), .val (.ref b44), .unset] [])) tt
      refine XS.iload X44.here hx rfl (hb hby at_67) rfl ?_
      show Steps p.tables e below (T44.setTop (mkF m 69 #[.val (.int u0), .val (.int u1), .val (.int u2), .val (.int u3), .val (.int u4), .val (.int u5), .val (.int (4 : Int32)), .val (.int fo), .val (.int y0), .val (.int y1), .val (.int y2), .val (.int y3), .val (.int y4), .val (.ref b44), .unset] [(.int (4 : Int32))])) tt
      refine XS.ifNo X44.here hx rfl (hb hby at_69) rfl ((if0 _ _).trans (tlt ((by decide) : (0 : Int32) < (4 : Int32))).2.2.2) ?_
      show Steps p.tables e below (T44.setTop (mkF m 72 #[.val (.int u0), .val (.int u1), .val (.int u2), .val (.int u3), .val (.int u4), .val (.int u5), .val (.int (4 : Int32)), .val (.int fo), .val (.int y0), .val (.int y1), .val (.int y2), .val (.int y3), .val (.int y4), .val (.ref b44), .unset] [])) tt
      refine XS.aload X44.here hx rfl (hb hby at_72) rfl rfl ?_
      show Steps p.tables e below (T44.setTop (mkF m 74 #[.val (.int u0), .val (.int u1), .val (.int u2), .val (.int u3), .val (.int u4), .val (.int u5), .val (.int (4 : Int32)), .val (.int fo), .val (.int y0), .val (.int y1), .val (.int y2), .val (.int y3), .val (.int y4), .val (.ref b44), .unset] [(.ref b44)])) tt
      refine XS.iconst X44.here hx rfl (hb hby at_74) ?_
      show Steps p.tables e below (T44.setTop (mkF m 75 #[.val (.int u0), .val (.int u1), .val (.int u2), .val (.int u3), .val (.int u4), .val (.int u5), .val (.int (4 : Int32)), .val (.int fo), .val (.int y0), .val (.int y1), .val (.int y2), .val (.int y3), .val (.int y4), .val (.ref b44), .unset] [(.int (0 : Int32)), (.ref b44)])) tt
      refine XS.iload X44.here hx rfl (hb hby at_75) rfl ?_
      exact kk
    obtain ⟨cl45, Ar45, Sl45⟩ := id V44
    have hin45 := inA (cl := cl45) Sl45 (j := (0 : Int32)) (by decide) (Nat.le_of_ble_eq_true rfl)
    obtain ⟨T45, h45, X45, e45, W45, st45⟩ := stI X44 hx hZ e44 Ar45 (j := (0 : Int32)) hin45 (g := (mkF m 77 #[.val (.int u0), .val (.int u1), .val (.int u2), .val (.int u3), .val (.int u4), .val (.int u5), .val (.int (4 : Int32)), .val (.int fo), .val (.int y0), .val (.int y1), .val (.int y2), .val (.int y3), .val (.int y4), .val (.ref b44), .unset] [(.int y0), (.int (0 : Int32)), (.ref b44)])) rfl rfl (hb hby at_77)
    have V45 : Ary Z h45 b44 .int [(.int y0), (.int (0 : Int32)), (.int (0 : Int32)), (.int (0 : Int32))] := Ary.put Ar45 Sl45 W45 rfl
    have N45 := Fr.snoc X45 N5 g_b44
    refine Goal.to (B := T45.setTop (mkF m 78 #[.val (.int u0), .val (.int u1), .val (.int u2), .val (.int u3), .val (.int u4), .val (.int u5), .val (.int (4 : Int32)), .val (.int fo), .val (.int y0), .val (.int y1), .val (.int y2), .val (.int y3), .val (.int y4), .val (.ref b44), .unset] [])) st45 ?_
    refine Goal.to (B := T45.setTop (mkF m 89 #[.val (.int u0), .val (.int u1), .val (.int u2), .val (.int u3), .val (.int u4), .val (.int u5), .val (.int (4 : Int32)), .val (.int fo), .val (.int y0), .val (.int y1), .val (.int y2), .val (.int y3), .val (.int y4), .val (.ref b44), .unset] [(.int y1), (.int (1 : Int32)), (.ref b44)])) (fun tt kk => ?_) ?_
    · show Steps p.tables e below (T45.setTop (mkF m 78 #[.val (.int u0), .val (.int u1), .val (.int u2), .val (.int u3), .val (.int u4), .val (.int u5), .val (.int (4 : Int32)), .val (.int fo), .val (.int y0), .val (.int y1), .val (.int y2), .val (.int y3), .val (.int y4), .val (.ref b44), .unset] [])) tt
      refine XS.iload X45.here hx rfl (hb hby at_78) rfl ?_
      show Steps p.tables e below (T45.setTop (mkF m 80 #[.val (.int u0), .val (.int u1), .val (.int u2), .val (.int u3), .val (.int u4), .val (.int u5), .val (.int (4 : Int32)), .val (.int fo), .val (.int y0), .val (.int y1), .val (.int y2), .val (.int y3), .val (.int y4), .val (.ref b44), .unset] [(.int (4 : Int32))])) tt
      refine XS.iconst X45.here hx rfl (hb hby at_80) ?_
      show Steps p.tables e below (T45.setTop (mkF m 81 #[.val (.int u0), .val (.int u1), .val (.int u2), .val (.int u3), .val (.int u4), .val (.int u5), .val (.int (4 : Int32)), .val (.int fo), .val (.int y0), .val (.int y1), .val (.int y2), .val (.int y3), .val (.int y4), .val (.ref b44), .unset] [(.int (1 : Int32)), (.int (4 : Int32))])) tt
      refine XS.icmpNo X45.here hx rfl (hb hby at_81) rfl (tlt ((by decide) : (1 : Int32) < (4 : Int32))).2.2.2 ?_
      show Steps p.tables e below (T45.setTop (mkF m 84 #[.val (.int u0), .val (.int u1), .val (.int u2), .val (.int u3), .val (.int u4), .val (.int u5), .val (.int (4 : Int32)), .val (.int fo), .val (.int y0), .val (.int y1), .val (.int y2), .val (.int y3), .val (.int y4), .val (.ref b44), .unset] [])) tt
      refine XS.aload X45.here hx rfl (hb hby at_84) rfl rfl ?_
      show Steps p.tables e below (T45.setTop (mkF m 86 #[.val (.int u0), .val (.int u1), .val (.int u2), .val (.int u3), .val (.int u4), .val (.int u5), .val (.int (4 : Int32)), .val (.int fo), .val (.int y0), .val (.int y1), .val (.int y2), .val (.int y3), .val (.int y4), .val (.ref b44), .unset] [(.ref b44)])) tt
      refine XS.iconst X45.here hx rfl (hb hby at_86) ?_
      show Steps p.tables e below (T45.setTop (mkF m 87 #[.val (.int u0), .val (.int u1), .val (.int u2), .val (.int u3), .val (.int u4), .val (.int u5), .val (.int (4 : Int32)), .val (.int fo), .val (.int y0), .val (.int y1), .val (.int y2), .val (.int y3), .val (.int y4), .val (.ref b44), .unset] [(.int (1 : Int32)), (.ref b44)])) tt
      refine XS.iload X45.here hx rfl (hb hby at_87) rfl ?_
      exact kk
    obtain ⟨cl46, Ar46, Sl46⟩ := id V45
    have hin46 := inA (cl := cl46) Sl46 (j := (1 : Int32)) (by decide) (Nat.le_of_ble_eq_true rfl)
    obtain ⟨T46, h46, X46, e46, W46, st46⟩ := stI X45 hx hZ e45 Ar46 (j := (1 : Int32)) hin46 (g := (mkF m 89 #[.val (.int u0), .val (.int u1), .val (.int u2), .val (.int u3), .val (.int u4), .val (.int u5), .val (.int (4 : Int32)), .val (.int fo), .val (.int y0), .val (.int y1), .val (.int y2), .val (.int y3), .val (.int y4), .val (.ref b44), .unset] [(.int y1), (.int (1 : Int32)), (.ref b44)])) rfl rfl (hb hby at_89)
    have V46 : Ary Z h46 b44 .int [(.int y0), (.int y1), (.int (0 : Int32)), (.int (0 : Int32))] := Ary.put Ar46 Sl46 W46 rfl
    have N46 := Fr.snoc X46 N45 g_b44
    refine Goal.to (B := T46.setTop (mkF m 90 #[.val (.int u0), .val (.int u1), .val (.int u2), .val (.int u3), .val (.int u4), .val (.int u5), .val (.int (4 : Int32)), .val (.int fo), .val (.int y0), .val (.int y1), .val (.int y2), .val (.int y3), .val (.int y4), .val (.ref b44), .unset] [])) st46 ?_
    refine Goal.to (B := T46.setTop (mkF m 101 #[.val (.int u0), .val (.int u1), .val (.int u2), .val (.int u3), .val (.int u4), .val (.int u5), .val (.int (4 : Int32)), .val (.int fo), .val (.int y0), .val (.int y1), .val (.int y2), .val (.int y3), .val (.int y4), .val (.ref b44), .unset] [(.int y2), (.int (2 : Int32)), (.ref b44)])) (fun tt kk => ?_) ?_
    · show Steps p.tables e below (T46.setTop (mkF m 90 #[.val (.int u0), .val (.int u1), .val (.int u2), .val (.int u3), .val (.int u4), .val (.int u5), .val (.int (4 : Int32)), .val (.int fo), .val (.int y0), .val (.int y1), .val (.int y2), .val (.int y3), .val (.int y4), .val (.ref b44), .unset] [])) tt
      refine XS.iload X46.here hx rfl (hb hby at_90) rfl ?_
      show Steps p.tables e below (T46.setTop (mkF m 92 #[.val (.int u0), .val (.int u1), .val (.int u2), .val (.int u3), .val (.int u4), .val (.int u5), .val (.int (4 : Int32)), .val (.int fo), .val (.int y0), .val (.int y1), .val (.int y2), .val (.int y3), .val (.int y4), .val (.ref b44), .unset] [(.int (4 : Int32))])) tt
      refine XS.iconst X46.here hx rfl (hb hby at_92) ?_
      show Steps p.tables e below (T46.setTop (mkF m 93 #[.val (.int u0), .val (.int u1), .val (.int u2), .val (.int u3), .val (.int u4), .val (.int u5), .val (.int (4 : Int32)), .val (.int fo), .val (.int y0), .val (.int y1), .val (.int y2), .val (.int y3), .val (.int y4), .val (.ref b44), .unset] [(.int (2 : Int32)), (.int (4 : Int32))])) tt
      refine XS.icmpNo X46.here hx rfl (hb hby at_93) rfl (tlt ((by decide) : (2 : Int32) < (4 : Int32))).2.2.2 ?_
      show Steps p.tables e below (T46.setTop (mkF m 96 #[.val (.int u0), .val (.int u1), .val (.int u2), .val (.int u3), .val (.int u4), .val (.int u5), .val (.int (4 : Int32)), .val (.int fo), .val (.int y0), .val (.int y1), .val (.int y2), .val (.int y3), .val (.int y4), .val (.ref b44), .unset] [])) tt
      refine XS.aload X46.here hx rfl (hb hby at_96) rfl rfl ?_
      show Steps p.tables e below (T46.setTop (mkF m 98 #[.val (.int u0), .val (.int u1), .val (.int u2), .val (.int u3), .val (.int u4), .val (.int u5), .val (.int (4 : Int32)), .val (.int fo), .val (.int y0), .val (.int y1), .val (.int y2), .val (.int y3), .val (.int y4), .val (.ref b44), .unset] [(.ref b44)])) tt
      refine XS.iconst X46.here hx rfl (hb hby at_98) ?_
      show Steps p.tables e below (T46.setTop (mkF m 99 #[.val (.int u0), .val (.int u1), .val (.int u2), .val (.int u3), .val (.int u4), .val (.int u5), .val (.int (4 : Int32)), .val (.int fo), .val (.int y0), .val (.int y1), .val (.int y2), .val (.int y3), .val (.int y4), .val (.ref b44), .unset] [(.int (2 : Int32)), (.ref b44)])) tt
      refine XS.iload X46.here hx rfl (hb hby at_99) rfl ?_
      exact kk
    obtain ⟨cl47, Ar47, Sl47⟩ := id V46
    have hin47 := inA (cl := cl47) Sl47 (j := (2 : Int32)) (by decide) (Nat.le_of_ble_eq_true rfl)
    obtain ⟨T47, h47, X47, e47, W47, st47⟩ := stI X46 hx hZ e46 Ar47 (j := (2 : Int32)) hin47 (g := (mkF m 101 #[.val (.int u0), .val (.int u1), .val (.int u2), .val (.int u3), .val (.int u4), .val (.int u5), .val (.int (4 : Int32)), .val (.int fo), .val (.int y0), .val (.int y1), .val (.int y2), .val (.int y3), .val (.int y4), .val (.ref b44), .unset] [(.int y2), (.int (2 : Int32)), (.ref b44)])) rfl rfl (hb hby at_101)
    have V47 : Ary Z h47 b44 .int [(.int y0), (.int y1), (.int y2), (.int (0 : Int32))] := Ary.put Ar47 Sl47 W47 rfl
    have N47 := Fr.snoc X47 N46 g_b44
    refine Goal.to (B := T47.setTop (mkF m 102 #[.val (.int u0), .val (.int u1), .val (.int u2), .val (.int u3), .val (.int u4), .val (.int u5), .val (.int (4 : Int32)), .val (.int fo), .val (.int y0), .val (.int y1), .val (.int y2), .val (.int y3), .val (.int y4), .val (.ref b44), .unset] [])) st47 ?_
    refine Goal.to (B := T47.setTop (mkF m 113 #[.val (.int u0), .val (.int u1), .val (.int u2), .val (.int u3), .val (.int u4), .val (.int u5), .val (.int (4 : Int32)), .val (.int fo), .val (.int y0), .val (.int y1), .val (.int y2), .val (.int y3), .val (.int y4), .val (.ref b44), .unset] [(.int y3), (.int (3 : Int32)), (.ref b44)])) (fun tt kk => ?_) ?_
    · show Steps p.tables e below (T47.setTop (mkF m 102 #[.val (.int u0), .val (.int u1), .val (.int u2), .val (.int u3), .val (.int u4), .val (.int u5), .val (.int (4 : Int32)), .val (.int fo), .val (.int y0), .val (.int y1), .val (.int y2), .val (.int y3), .val (.int y4), .val (.ref b44), .unset] [])) tt
      refine XS.iload X47.here hx rfl (hb hby at_102) rfl ?_
      show Steps p.tables e below (T47.setTop (mkF m 104 #[.val (.int u0), .val (.int u1), .val (.int u2), .val (.int u3), .val (.int u4), .val (.int u5), .val (.int (4 : Int32)), .val (.int fo), .val (.int y0), .val (.int y1), .val (.int y2), .val (.int y3), .val (.int y4), .val (.ref b44), .unset] [(.int (4 : Int32))])) tt
      refine XS.iconst X47.here hx rfl (hb hby at_104) ?_
      show Steps p.tables e below (T47.setTop (mkF m 105 #[.val (.int u0), .val (.int u1), .val (.int u2), .val (.int u3), .val (.int u4), .val (.int u5), .val (.int (4 : Int32)), .val (.int fo), .val (.int y0), .val (.int y1), .val (.int y2), .val (.int y3), .val (.int y4), .val (.ref b44), .unset] [(.int (3 : Int32)), (.int (4 : Int32))])) tt
      refine XS.icmpNo X47.here hx rfl (hb hby at_105) rfl (tlt ((by decide) : (3 : Int32) < (4 : Int32))).2.2.2 ?_
      show Steps p.tables e below (T47.setTop (mkF m 108 #[.val (.int u0), .val (.int u1), .val (.int u2), .val (.int u3), .val (.int u4), .val (.int u5), .val (.int (4 : Int32)), .val (.int fo), .val (.int y0), .val (.int y1), .val (.int y2), .val (.int y3), .val (.int y4), .val (.ref b44), .unset] [])) tt
      refine XS.aload X47.here hx rfl (hb hby at_108) rfl rfl ?_
      show Steps p.tables e below (T47.setTop (mkF m 110 #[.val (.int u0), .val (.int u1), .val (.int u2), .val (.int u3), .val (.int u4), .val (.int u5), .val (.int (4 : Int32)), .val (.int fo), .val (.int y0), .val (.int y1), .val (.int y2), .val (.int y3), .val (.int y4), .val (.ref b44), .unset] [(.ref b44)])) tt
      refine XS.iconst X47.here hx rfl (hb hby at_110) ?_
      show Steps p.tables e below (T47.setTop (mkF m 111 #[.val (.int u0), .val (.int u1), .val (.int u2), .val (.int u3), .val (.int u4), .val (.int u5), .val (.int (4 : Int32)), .val (.int fo), .val (.int y0), .val (.int y1), .val (.int y2), .val (.int y3), .val (.int y4), .val (.ref b44), .unset] [(.int (3 : Int32)), (.ref b44)])) tt
      refine XS.iload X47.here hx rfl (hb hby at_111) rfl ?_
      exact kk
    obtain ⟨cl48, Ar48, Sl48⟩ := id V47
    have hin48 := inA (cl := cl48) Sl48 (j := (3 : Int32)) (by decide) (Nat.le_of_ble_eq_true rfl)
    obtain ⟨T48, h48, X48, e48, W48, st48⟩ := stI X47 hx hZ e47 Ar48 (j := (3 : Int32)) hin48 (g := (mkF m 113 #[.val (.int u0), .val (.int u1), .val (.int u2), .val (.int u3), .val (.int u4), .val (.int u5), .val (.int (4 : Int32)), .val (.int fo), .val (.int y0), .val (.int y1), .val (.int y2), .val (.int y3), .val (.int y4), .val (.ref b44), .unset] [(.int y3), (.int (3 : Int32)), (.ref b44)])) rfl rfl (hb hby at_113)
    have V48 : Ary Z h48 b44 .int [(.int y0), (.int y1), (.int y2), (.int y3)] := Ary.put Ar48 Sl48 W48 rfl
    have N48 := Fr.snoc X48 N47 g_b44
    refine Goal.to (B := T48.setTop (mkF m 114 #[.val (.int u0), .val (.int u1), .val (.int u2), .val (.int u3), .val (.int u4), .val (.int u5), .val (.int (4 : Int32)), .val (.int fo), .val (.int y0), .val (.int y1), .val (.int y2), .val (.int y3), .val (.int y4), .val (.ref b44), .unset] [])) st48 ?_
    refine Goal.to (B := T48.setTop (mkF m 138 #[.val (.int u0), .val (.int u1), .val (.int u2), .val (.int u3), .val (.int u4), .val (.int u5), .val (.int (4 : Int32)), .val (.int fo), .val (.int y0), .val (.int y1), .val (.int y2), .val (.int y3), .val (.int y4), .val (.ref b44), .unset] [(.int y0), (.int (1 : Int32))])) (fun tt kk => ?_) ?_
    · show Steps p.tables e below (T48.setTop (mkF m 114 #[.val (.int u0), .val (.int u1), .val (.int u2), .val (.int u3), .val (.int u4), .val (.int u5), .val (.int (4 : Int32)), .val (.int fo), .val (.int y0), .val (.int y1), .val (.int y2), .val (.int y3), .val (.int y4), .val (.ref b44), .unset] [])) tt
      refine XS.iload X48.here hx rfl (hb hby at_114) rfl ?_
      show Steps p.tables e below (T48.setTop (mkF m 116 #[.val (.int u0), .val (.int u1), .val (.int u2), .val (.int u3), .val (.int u4), .val (.int u5), .val (.int (4 : Int32)), .val (.int fo), .val (.int y0), .val (.int y1), .val (.int y2), .val (.int y3), .val (.int y4), .val (.ref b44), .unset] [(.int (4 : Int32))])) tt
      refine XS.iconst X48.here hx rfl (hb hby at_116) ?_
      show Steps p.tables e below (T48.setTop (mkF m 117 #[.val (.int u0), .val (.int u1), .val (.int u2), .val (.int u3), .val (.int u4), .val (.int u5), .val (.int (4 : Int32)), .val (.int fo), .val (.int y0), .val (.int y1), .val (.int y2), .val (.int y3), .val (.int y4), .val (.ref b44), .unset] [(.int (4 : Int32)), (.int (4 : Int32))])) tt
      refine XS.icmpYes X48.here hx rfl (pc0 := 117) (pc' := 126) rfl (hb hby at_117) rfl (flt (Int32.lt_irrefl : ¬ ((4 : Int32) < (4 : Int32)))).2.2.2 (by decide) (by decide) ?_
      show Steps p.tables e below (T48.setTop (mkF m 126 #[.val (.int u0), .val (.int u1), .val (.int u2), .val (.int u3), .val (.int u4), .val (.int u5), .val (.int (4 : Int32)), .val (.int fo), .val (.int y0), .val (.int y1), .val (.int y2), .val (.int y3), .val (.int y4), .val (.ref b44), .unset] [])) tt
      refine XS.iload X48.here hx rfl (hb hby at_126) rfl ?_
      show Steps p.tables e below (T48.setTop (mkF m 128 #[.val (.int u0), .val (.int u1), .val (.int u2), .val (.int u3), .val (.int u4), .val (.int u5), .val (.int (4 : Int32)), .val (.int fo), .val (.int y0), .val (.int y1), .val (.int y2), .val (.int y3), .val (.int y4), .val (.ref b44), .unset] [(.int (4 : Int32))])) tt
      refine XS.ifNo X48.here hx rfl (hb hby at_128) rfl ((if0 _ _).trans (tlt ((by decide) : (0 : Int32) < (4 : Int32))).2.2.2) ?_
      show Steps p.tables e below (T48.setTop (mkF m 131 #[.val (.int u0), .val (.int u1), .val (.int u2), .val (.int u3), .val (.int u4), .val (.int u5), .val (.int (4 : Int32)), .val (.int fo), .val (.int y0), .val (.int y1), .val (.int y2), .val (.int y3), .val (.int y4), .val (.ref b44), .unset] [])) tt
      refine XS.iconst X48.here hx rfl (hb hby at_131) ?_
      show Steps p.tables e below (T48.setTop (mkF m 132 #[.val (.int u0), .val (.int u1), .val (.int u2), .val (.int u3), .val (.int u4), .val (.int u5), .val (.int (4 : Int32)), .val (.int fo), .val (.int y0), .val (.int y1), .val (.int y2), .val (.int y3), .val (.int y4), .val (.ref b44), .unset] [(.int (1 : Int32))])) tt
      refine XS.goto X48.here hx rfl (pc0 := 132) (pc' := 136) rfl (hb hby at_132) (by decide) (by decide) ?_
      show Steps p.tables e below (T48.setTop (mkF m 136 #[.val (.int u0), .val (.int u1), .val (.int u2), .val (.int u3), .val (.int u4), .val (.int u5), .val (.int (4 : Int32)), .val (.int fo), .val (.int y0), .val (.int y1), .val (.int y2), .val (.int y3), .val (.int y4), .val (.ref b44), .unset] [(.int (1 : Int32))])) tt
      refine XS.iload X48.here hx rfl (hb hby at_136) rfl ?_
      exact kk
    have f49 : n0 ≤ h48.size := (Nat.le_trans (Nat.le_trans (Nat.le_trans (Nat.le_trans (Nat.le_trans Z0 E44.1) (Keep.of_wr W45).1) (Keep.of_wr W46).1) (Keep.of_wr W47).1) (Keep.of_wr W48).1)
    obtain ⟨_, _, ⟨T50, L50, k50, n50⟩, -, X50, ⟨Lc50, hQ50, l50, y50, z50⟩, st50⟩ := Jvm.LawKit.callS X48 hx (y := (⟨"com/example/purloin/runner/PdfsReachedPinLaw", "one", "(ZI)I"⟩ : MethodName)) hown (mvT hZ (hw _ (mw 5 rfl))) (mvT hZ (hw _ (mw 6 rfl))) (mvT hZ (hw _ (mw 2 rfl))) (mvT hZ (hw _ (mw 7 rfl))) (by decide) (backOf (W := 0) (rmo l Z a0 hw [] (1 : Int32) y0 h48 n0 f49 ) hZ (hw _ (mw 7 rfl)) (hw _ (mw 2 rfl)) (by decide) (by decide)) (g := (mkF m 138 #[.val (.int u0), .val (.int u1), .val (.int u2), .val (.int u3), .val (.int u4), .val (.int u5), .val (.int (4 : Int32)), .val (.int fo), .val (.int y0), .val (.int y1), .val (.int y2), .val (.int y3), .val (.int y4), .val (.ref b44), .unset] [(.int y0), (.int (1 : Int32))])) rfl (by rw [hml]; rfl) (argsL := [(.int (1 : Int32)), (.int y0)]) (rest := []) (lenOf pd_1 rfl) rfl (by show 2 * 0 + _ ≤ _; exact Nat.le_of_eq rfl) (hb hby at_138) (fun _ _ => ⟨rfl, e48, (by decide : 1 + 0 ≤ _), (by decide : 4 + 0 ≤ _)⟩)
    dsimp only [Pt.U, Pt.locs, Pt.cells, Pt.slots] at X50 l50 y50 z50 st50 hQ50
    subst l50 y50 z50
    obtain ⟨rfl, N50q, e50⟩ := hQ50
    have N50 := Fr.app N48 N50q
    refine Goal.to (B := T50.setTop (mkF m 141 #[.val (.int u0), .val (.int u1), .val (.int u2), .val (.int u3), .val (.int u4), .val (.int u5), .val (.int (4 : Int32)), .val (.int fo), .val (.int y0), .val (.int y1), .val (.int y2), .val (.int y3), .val (.int y4), .val (.ref b44), .unset] [(.int (own_one (1 : Int32) y0))])) st50 ?_
    refine Goal.to (B := T50.setTop (mkF m 154 #[.val (.int u0), .val (.int u1), .val (.int u2), .val (.int u3), .val (.int u4), .val (.int u5), .val (.int (4 : Int32)), .val (.int fo), .val (.int y0), .val (.int y1), .val (.int y2), .val (.int y3), .val (.int y4), .val (.ref b44), .unset] [(.int y1), (.int (1 : Int32)), (.int (own_one (1 : Int32) y0))])) (fun tt kk => ?_) ?_
    · show Steps p.tables e below (T50.setTop (mkF m 141 #[.val (.int u0), .val (.int u1), .val (.int u2), .val (.int u3), .val (.int u4), .val (.int u5), .val (.int (4 : Int32)), .val (.int fo), .val (.int y0), .val (.int y1), .val (.int y2), .val (.int y3), .val (.int y4), .val (.ref b44), .unset] [(.int (own_one (1 : Int32) y0))])) tt
      refine XS.iload X50.here hx rfl (hb hby at_141) rfl ?_
      show Steps p.tables e below (T50.setTop (mkF m 143 #[.val (.int u0), .val (.int u1), .val (.int u2), .val (.int u3), .val (.int u4), .val (.int u5), .val (.int (4 : Int32)), .val (.int fo), .val (.int y0), .val (.int y1), .val (.int y2), .val (.int y3), .val (.int y4), .val (.ref b44), .unset] [(.int (4 : Int32)), (.int (own_one (1 : Int32) y0))])) tt
      refine XS.iconst X50.here hx rfl (hb hby at_143) ?_
      show Steps p.tables e below (T50.setTop (mkF m 144 #[.val (.int u0), .val (.int u1), .val (.int u2), .val (.int u3), .val (.int u4), .val (.int u5), .val (.int (4 : Int32)), .val (.int fo), .val (.int y0), .val (.int y1), .val (.int y2), .val (.int y3), .val (.int y4), .val (.ref b44), .unset] [(.int (1 : Int32)), (.int (4 : Int32)), (.int (own_one (1 : Int32) y0))])) tt
      refine XS.icmpNo X50.here hx rfl (hb hby at_144) rfl (tlt ((by decide) : (1 : Int32) < (4 : Int32))).2.2.2 ?_
      show Steps p.tables e below (T50.setTop (mkF m 147 #[.val (.int u0), .val (.int u1), .val (.int u2), .val (.int u3), .val (.int u4), .val (.int u5), .val (.int (4 : Int32)), .val (.int fo), .val (.int y0), .val (.int y1), .val (.int y2), .val (.int y3), .val (.int y4), .val (.ref b44), .unset] [(.int (own_one (1 : Int32) y0))])) tt
      refine XS.iconst X50.here hx rfl (hb hby at_147) ?_
      show Steps p.tables e below (T50.setTop (mkF m 148 #[.val (.int u0), .val (.int u1), .val (.int u2), .val (.int u3), .val (.int u4), .val (.int u5), .val (.int (4 : Int32)), .val (.int fo), .val (.int y0), .val (.int y1), .val (.int y2), .val (.int y3), .val (.int y4), .val (.ref b44), .unset] [(.int (1 : Int32)), (.int (own_one (1 : Int32) y0))])) tt
      refine XS.goto X50.here hx rfl (pc0 := 148) (pc' := 152) rfl (hb hby at_148) (by decide) (by decide) ?_
      show Steps p.tables e below (T50.setTop (mkF m 152 #[.val (.int u0), .val (.int u1), .val (.int u2), .val (.int u3), .val (.int u4), .val (.int u5), .val (.int (4 : Int32)), .val (.int fo), .val (.int y0), .val (.int y1), .val (.int y2), .val (.int y3), .val (.int y4), .val (.ref b44), .unset] [(.int (1 : Int32)), (.int (own_one (1 : Int32) y0))])) tt
      refine XS.iload X50.here hx rfl (hb hby at_152) rfl ?_
      exact kk
    obtain ⟨_, _, ⟨T51, L51, k51, n51⟩, -, X51, ⟨Lc51, hQ51, l51, y51, z51⟩, st51⟩ := Jvm.LawKit.callS X50 hx (y := (⟨"com/example/purloin/runner/PdfsReachedPinLaw", "one", "(ZI)I"⟩ : MethodName)) hown (mvT hZ (hw _ (mw 5 rfl))) (mvT hZ (hw _ (mw 6 rfl))) (mvT hZ (hw _ (mw 2 rfl))) (mvT hZ (hw _ (mw 7 rfl))) (by decide) (backOf (W := 1) (rmo l Z a0 hw [] (1 : Int32) y1 h48 n0 f49 ) hZ (hw _ (mw 7 rfl)) (hw _ (mw 2 rfl)) (by decide) (by decide)) (g := (mkF m 154 #[.val (.int u0), .val (.int u1), .val (.int u2), .val (.int u3), .val (.int u4), .val (.int u5), .val (.int (4 : Int32)), .val (.int fo), .val (.int y0), .val (.int y1), .val (.int y2), .val (.int y3), .val (.int y4), .val (.ref b44), .unset] [(.int y1), (.int (1 : Int32)), (.int (own_one (1 : Int32) y0))])) rfl (by rw [hml]; rfl) (argsL := [(.int (1 : Int32)), (.int y1)]) (rest := [(.int (own_one (1 : Int32) y0))]) (lenOf pd_1 rfl) rfl (by show 2 * 0 + _ ≤ _; exact Nat.le_of_eq rfl) (hb hby at_154) (fun _ _ => ⟨rfl, e50, (by decide : 1 + 0 ≤ _), (by decide : 4 + 0 ≤ _)⟩)
    dsimp only [Pt.U, Pt.locs, Pt.cells, Pt.slots] at X51 l51 y51 z51 st51 hQ51
    subst l51 y51 z51
    obtain ⟨rfl, N51q, e51⟩ := hQ51
    have N51 := Fr.app N50 N51q
    refine Goal.to (B := T51.setTop (mkF m 157 #[.val (.int u0), .val (.int u1), .val (.int u2), .val (.int u3), .val (.int u4), .val (.int u5), .val (.int (4 : Int32)), .val (.int fo), .val (.int y0), .val (.int y1), .val (.int y2), .val (.int y3), .val (.int y4), .val (.ref b44), .unset] [(.int (own_one (1 : Int32) y1)), (.int (own_one (1 : Int32) y0))])) st51 ?_
    refine Goal.to (B := T51.setTop (mkF m 171 #[.val (.int u0), .val (.int u1), .val (.int u2), .val (.int u3), .val (.int u4), .val (.int u5), .val (.int (4 : Int32)), .val (.int fo), .val (.int y0), .val (.int y1), .val (.int y2), .val (.int y3), .val (.int y4), .val (.ref b44), .unset] [(.int y2), (.int (1 : Int32)), (.int ((own_one (1 : Int32) y0) + (own_one (1 : Int32) y1)))])) (fun tt kk => ?_) ?_
    · show Steps p.tables e below (T51.setTop (mkF m 157 #[.val (.int u0), .val (.int u1), .val (.int u2), .val (.int u3), .val (.int u4), .val (.int u5), .val (.int (4 : Int32)), .val (.int fo), .val (.int y0), .val (.int y1), .val (.int y2), .val (.int y3), .val (.int y4), .val (.ref b44), .unset] [(.int (own_one (1 : Int32) y1)), (.int (own_one (1 : Int32) y0))])) tt
      refine XS.iadd X51.here hx rfl (hb hby at_157) rfl ?_
      show Steps p.tables e below (T51.setTop (mkF m 158 #[.val (.int u0), .val (.int u1), .val (.int u2), .val (.int u3), .val (.int u4), .val (.int u5), .val (.int (4 : Int32)), .val (.int fo), .val (.int y0), .val (.int y1), .val (.int y2), .val (.int y3), .val (.int y4), .val (.ref b44), .unset] [(.int ((own_one (1 : Int32) y0) + (own_one (1 : Int32) y1)))])) tt
      refine XS.iload X51.here hx rfl (hb hby at_158) rfl ?_
      show Steps p.tables e below (T51.setTop (mkF m 160 #[.val (.int u0), .val (.int u1), .val (.int u2), .val (.int u3), .val (.int u4), .val (.int u5), .val (.int (4 : Int32)), .val (.int fo), .val (.int y0), .val (.int y1), .val (.int y2), .val (.int y3), .val (.int y4), .val (.ref b44), .unset] [(.int (4 : Int32)), (.int ((own_one (1 : Int32) y0) + (own_one (1 : Int32) y1)))])) tt
      refine XS.iconst X51.here hx rfl (hb hby at_160) ?_
      show Steps p.tables e below (T51.setTop (mkF m 161 #[.val (.int u0), .val (.int u1), .val (.int u2), .val (.int u3), .val (.int u4), .val (.int u5), .val (.int (4 : Int32)), .val (.int fo), .val (.int y0), .val (.int y1), .val (.int y2), .val (.int y3), .val (.int y4), .val (.ref b44), .unset] [(.int (2 : Int32)), (.int (4 : Int32)), (.int ((own_one (1 : Int32) y0) + (own_one (1 : Int32) y1)))])) tt
      refine XS.icmpNo X51.here hx rfl (hb hby at_161) rfl (tlt ((by decide) : (2 : Int32) < (4 : Int32))).2.2.2 ?_
      show Steps p.tables e below (T51.setTop (mkF m 164 #[.val (.int u0), .val (.int u1), .val (.int u2), .val (.int u3), .val (.int u4), .val (.int u5), .val (.int (4 : Int32)), .val (.int fo), .val (.int y0), .val (.int y1), .val (.int y2), .val (.int y3), .val (.int y4), .val (.ref b44), .unset] [(.int ((own_one (1 : Int32) y0) + (own_one (1 : Int32) y1)))])) tt
      refine XS.iconst X51.here hx rfl (hb hby at_164) ?_
      show Steps p.tables e below (T51.setTop (mkF m 165 #[.val (.int u0), .val (.int u1), .val (.int u2), .val (.int u3), .val (.int u4), .val (.int u5), .val (.int (4 : Int32)), .val (.int fo), .val (.int y0), .val (.int y1), .val (.int y2), .val (.int y3), .val (.int y4), .val (.ref b44), .unset] [(.int (1 : Int32)), (.int ((own_one (1 : Int32) y0) + (own_one (1 : Int32) y1)))])) tt
      refine XS.goto X51.here hx rfl (pc0 := 165) (pc' := 169) rfl (hb hby at_165) (by decide) (by decide) ?_
      show Steps p.tables e below (T51.setTop (mkF m 169 #[.val (.int u0), .val (.int u1), .val (.int u2), .val (.int u3), .val (.int u4), .val (.int u5), .val (.int (4 : Int32)), .val (.int fo), .val (.int y0), .val (.int y1), .val (.int y2), .val (.int y3), .val (.int y4), .val (.ref b44), .unset] [(.int (1 : Int32)), (.int ((own_one (1 : Int32) y0) + (own_one (1 : Int32) y1)))])) tt
      refine XS.iload X51.here hx rfl (hb hby at_169) rfl ?_
      exact kk
    obtain ⟨_, _, ⟨T52, L52, k52, n52⟩, -, X52, ⟨Lc52, hQ52, l52, y52, z52⟩, st52⟩ := Jvm.LawKit.callS X51 hx (y := (⟨"com/example/purloin/runner/PdfsReachedPinLaw", "one", "(ZI)I"⟩ : MethodName)) hown (mvT hZ (hw _ (mw 5 rfl))) (mvT hZ (hw _ (mw 6 rfl))) (mvT hZ (hw _ (mw 2 rfl))) (mvT hZ (hw _ (mw 7 rfl))) (by decide) (backOf (W := 1) (rmo l Z a0 hw [] (1 : Int32) y2 h48 n0 f49 ) hZ (hw _ (mw 7 rfl)) (hw _ (mw 2 rfl)) (by decide) (by decide)) (g := (mkF m 171 #[.val (.int u0), .val (.int u1), .val (.int u2), .val (.int u3), .val (.int u4), .val (.int u5), .val (.int (4 : Int32)), .val (.int fo), .val (.int y0), .val (.int y1), .val (.int y2), .val (.int y3), .val (.int y4), .val (.ref b44), .unset] [(.int y2), (.int (1 : Int32)), (.int ((own_one (1 : Int32) y0) + (own_one (1 : Int32) y1)))])) rfl (by rw [hml]; rfl) (argsL := [(.int (1 : Int32)), (.int y2)]) (rest := [(.int ((own_one (1 : Int32) y0) + (own_one (1 : Int32) y1)))]) (lenOf pd_1 rfl) rfl (by show 2 * 0 + _ ≤ _; exact Nat.le_of_eq rfl) (hb hby at_171) (fun _ _ => ⟨rfl, e51, (by decide : 1 + 0 ≤ _), (by decide : 4 + 0 ≤ _)⟩)
    dsimp only [Pt.U, Pt.locs, Pt.cells, Pt.slots] at X52 l52 y52 z52 st52 hQ52
    subst l52 y52 z52
    obtain ⟨rfl, N52q, e52⟩ := hQ52
    have N52 := Fr.app N51 N52q
    refine Goal.to (B := T52.setTop (mkF m 174 #[.val (.int u0), .val (.int u1), .val (.int u2), .val (.int u3), .val (.int u4), .val (.int u5), .val (.int (4 : Int32)), .val (.int fo), .val (.int y0), .val (.int y1), .val (.int y2), .val (.int y3), .val (.int y4), .val (.ref b44), .unset] [(.int (own_one (1 : Int32) y2)), (.int ((own_one (1 : Int32) y0) + (own_one (1 : Int32) y1)))])) st52 ?_
    refine Goal.to (B := T52.setTop (mkF m 188 #[.val (.int u0), .val (.int u1), .val (.int u2), .val (.int u3), .val (.int u4), .val (.int u5), .val (.int (4 : Int32)), .val (.int fo), .val (.int y0), .val (.int y1), .val (.int y2), .val (.int y3), .val (.int y4), .val (.ref b44), .unset] [(.int y3), (.int (1 : Int32)), (.int (((own_one (1 : Int32) y0) + (own_one (1 : Int32) y1)) + (own_one (1 : Int32) y2)))])) (fun tt kk => ?_) ?_
    · show Steps p.tables e below (T52.setTop (mkF m 174 #[.val (.int u0), .val (.int u1), .val (.int u2), .val (.int u3), .val (.int u4), .val (.int u5), .val (.int (4 : Int32)), .val (.int fo), .val (.int y0), .val (.int y1), .val (.int y2), .val (.int y3), .val (.int y4), .val (.ref b44), .unset] [(.int (own_one (1 : Int32) y2)), (.int ((own_one (1 : Int32) y0) + (own_one (1 : Int32) y1)))])) tt
      refine XS.iadd X52.here hx rfl (hb hby at_174) rfl ?_
      show Steps p.tables e below (T52.setTop (mkF m 175 #[.val (.int u0), .val (.int u1), .val (.int u2), .val (.int u3), .val (.int u4), .val (.int u5), .val (.int (4 : Int32)), .val (.int fo), .val (.int y0), .val (.int y1), .val (.int y2), .val (.int y3), .val (.int y4), .val (.ref b44), .unset] [(.int (((own_one (1 : Int32) y0) + (own_one (1 : Int32) y1)) + (own_one (1 : Int32) y2)))])) tt
      refine XS.iload X52.here hx rfl (hb hby at_175) rfl ?_
      show Steps p.tables e below (T52.setTop (mkF m 177 #[.val (.int u0), .val (.int u1), .val (.int u2), .val (.int u3), .val (.int u4), .val (.int u5), .val (.int (4 : Int32)), .val (.int fo), .val (.int y0), .val (.int y1), .val (.int y2), .val (.int y3), .val (.int y4), .val (.ref b44), .unset] [(.int (4 : Int32)), (.int (((own_one (1 : Int32) y0) + (own_one (1 : Int32) y1)) + (own_one (1 : Int32) y2)))])) tt
      refine XS.iconst X52.here hx rfl (hb hby at_177) ?_
      show Steps p.tables e below (T52.setTop (mkF m 178 #[.val (.int u0), .val (.int u1), .val (.int u2), .val (.int u3), .val (.int u4), .val (.int u5), .val (.int (4 : Int32)), .val (.int fo), .val (.int y0), .val (.int y1), .val (.int y2), .val (.int y3), .val (.int y4), .val (.ref b44), .unset] [(.int (3 : Int32)), (.int (4 : Int32)), (.int (((own_one (1 : Int32) y0) + (own_one (1 : Int32) y1)) + (own_one (1 : Int32) y2)))])) tt
      refine XS.icmpNo X52.here hx rfl (hb hby at_178) rfl (tlt ((by decide) : (3 : Int32) < (4 : Int32))).2.2.2 ?_
      show Steps p.tables e below (T52.setTop (mkF m 181 #[.val (.int u0), .val (.int u1), .val (.int u2), .val (.int u3), .val (.int u4), .val (.int u5), .val (.int (4 : Int32)), .val (.int fo), .val (.int y0), .val (.int y1), .val (.int y2), .val (.int y3), .val (.int y4), .val (.ref b44), .unset] [(.int (((own_one (1 : Int32) y0) + (own_one (1 : Int32) y1)) + (own_one (1 : Int32) y2)))])) tt
      refine XS.iconst X52.here hx rfl (hb hby at_181) ?_
      show Steps p.tables e below (T52.setTop (mkF m 182 #[.val (.int u0), .val (.int u1), .val (.int u2), .val (.int u3), .val (.int u4), .val (.int u5), .val (.int (4 : Int32)), .val (.int fo), .val (.int y0), .val (.int y1), .val (.int y2), .val (.int y3), .val (.int y4), .val (.ref b44), .unset] [(.int (1 : Int32)), (.int (((own_one (1 : Int32) y0) + (own_one (1 : Int32) y1)) + (own_one (1 : Int32) y2)))])) tt
      refine XS.goto X52.here hx rfl (pc0 := 182) (pc' := 186) rfl (hb hby at_182) (by decide) (by decide) ?_
      show Steps p.tables e below (T52.setTop (mkF m 186 #[.val (.int u0), .val (.int u1), .val (.int u2), .val (.int u3), .val (.int u4), .val (.int u5), .val (.int (4 : Int32)), .val (.int fo), .val (.int y0), .val (.int y1), .val (.int y2), .val (.int y3), .val (.int y4), .val (.ref b44), .unset] [(.int (1 : Int32)), (.int (((own_one (1 : Int32) y0) + (own_one (1 : Int32) y1)) + (own_one (1 : Int32) y2)))])) tt
      refine XS.iload X52.here hx rfl (hb hby at_186) rfl ?_
      exact kk
    obtain ⟨_, _, ⟨T53, L53, k53, n53⟩, -, X53, ⟨Lc53, hQ53, l53, y53, z53⟩, st53⟩ := Jvm.LawKit.callS X52 hx (y := (⟨"com/example/purloin/runner/PdfsReachedPinLaw", "one", "(ZI)I"⟩ : MethodName)) hown (mvT hZ (hw _ (mw 5 rfl))) (mvT hZ (hw _ (mw 6 rfl))) (mvT hZ (hw _ (mw 2 rfl))) (mvT hZ (hw _ (mw 7 rfl))) (by decide) (backOf (W := 1) (rmo l Z a0 hw [] (1 : Int32) y3 h48 n0 f49 ) hZ (hw _ (mw 7 rfl)) (hw _ (mw 2 rfl)) (by decide) (by decide)) (g := (mkF m 188 #[.val (.int u0), .val (.int u1), .val (.int u2), .val (.int u3), .val (.int u4), .val (.int u5), .val (.int (4 : Int32)), .val (.int fo), .val (.int y0), .val (.int y1), .val (.int y2), .val (.int y3), .val (.int y4), .val (.ref b44), .unset] [(.int y3), (.int (1 : Int32)), (.int (((own_one (1 : Int32) y0) + (own_one (1 : Int32) y1)) + (own_one (1 : Int32) y2)))])) rfl (by rw [hml]; rfl) (argsL := [(.int (1 : Int32)), (.int y3)]) (rest := [(.int (((own_one (1 : Int32) y0) + (own_one (1 : Int32) y1)) + (own_one (1 : Int32) y2)))]) (lenOf pd_1 rfl) rfl (by show 2 * 0 + _ ≤ _; exact Nat.le_of_eq rfl) (hb hby at_188) (fun _ _ => ⟨rfl, e52, (by decide : 1 + 0 ≤ _), (by decide : 4 + 0 ≤ _)⟩)
    dsimp only [Pt.U, Pt.locs, Pt.cells, Pt.slots] at X53 l53 y53 z53 st53 hQ53
    subst l53 y53 z53
    obtain ⟨rfl, N53q, e53⟩ := hQ53
    have N53 := Fr.app N52 N53q
    refine Goal.to (B := T53.setTop (mkF m 191 #[.val (.int u0), .val (.int u1), .val (.int u2), .val (.int u3), .val (.int u4), .val (.int u5), .val (.int (4 : Int32)), .val (.int fo), .val (.int y0), .val (.int y1), .val (.int y2), .val (.int y3), .val (.int y4), .val (.ref b44), .unset] [(.int (own_one (1 : Int32) y3)), (.int (((own_one (1 : Int32) y0) + (own_one (1 : Int32) y1)) + (own_one (1 : Int32) y2)))])) st53 ?_
    refine Goal.to (B := T53.setTop (mkF m 205 #[.val (.int u0), .val (.int u1), .val (.int u2), .val (.int u3), .val (.int u4), .val (.int u5), .val (.int (4 : Int32)), .val (.int fo), .val (.int y0), .val (.int y1), .val (.int y2), .val (.int y3), .val (.int y4), .val (.ref b44), .unset] [(.int y4), (.int (0 : Int32)), (.int ((((own_one (1 : Int32) y0) + (own_one (1 : Int32) y1)) + (own_one (1 : Int32) y2)) + (own_one (1 : Int32) y3)))])) (fun tt kk => ?_) ?_
    · show Steps p.tables e below (T53.setTop (mkF m 191 #[.val (.int u0), .val (.int u1), .val (.int u2), .val (.int u3), .val (.int u4), .val (.int u5), .val (.int (4 : Int32)), .val (.int fo), .val (.int y0), .val (.int y1), .val (.int y2), .val (.int y3), .val (.int y4), .val (.ref b44), .unset] [(.int (own_one (1 : Int32) y3)), (.int (((own_one (1 : Int32) y0) + (own_one (1 : Int32) y1)) + (own_one (1 : Int32) y2)))])) tt
      refine XS.iadd X53.here hx rfl (hb hby at_191) rfl ?_
      show Steps p.tables e below (T53.setTop (mkF m 192 #[.val (.int u0), .val (.int u1), .val (.int u2), .val (.int u3), .val (.int u4), .val (.int u5), .val (.int (4 : Int32)), .val (.int fo), .val (.int y0), .val (.int y1), .val (.int y2), .val (.int y3), .val (.int y4), .val (.ref b44), .unset] [(.int ((((own_one (1 : Int32) y0) + (own_one (1 : Int32) y1)) + (own_one (1 : Int32) y2)) + (own_one (1 : Int32) y3)))])) tt
      refine XS.iload X53.here hx rfl (hb hby at_192) rfl ?_
      show Steps p.tables e below (T53.setTop (mkF m 194 #[.val (.int u0), .val (.int u1), .val (.int u2), .val (.int u3), .val (.int u4), .val (.int u5), .val (.int (4 : Int32)), .val (.int fo), .val (.int y0), .val (.int y1), .val (.int y2), .val (.int y3), .val (.int y4), .val (.ref b44), .unset] [(.int (4 : Int32)), (.int ((((own_one (1 : Int32) y0) + (own_one (1 : Int32) y1)) + (own_one (1 : Int32) y2)) + (own_one (1 : Int32) y3)))])) tt
      refine XS.iconst X53.here hx rfl (hb hby at_194) ?_
      show Steps p.tables e below (T53.setTop (mkF m 195 #[.val (.int u0), .val (.int u1), .val (.int u2), .val (.int u3), .val (.int u4), .val (.int u5), .val (.int (4 : Int32)), .val (.int fo), .val (.int y0), .val (.int y1), .val (.int y2), .val (.int y3), .val (.int y4), .val (.ref b44), .unset] [(.int (4 : Int32)), (.int (4 : Int32)), (.int ((((own_one (1 : Int32) y0) + (own_one (1 : Int32) y1)) + (own_one (1 : Int32) y2)) + (own_one (1 : Int32) y3)))])) tt
      refine XS.icmpYes X53.here hx rfl (pc0 := 195) (pc' := 202) rfl (hb hby at_195) rfl (flt (Int32.lt_irrefl : ¬ ((4 : Int32) < (4 : Int32)))).2.2.2 (by decide) (by decide) ?_
      show Steps p.tables e below (T53.setTop (mkF m 202 #[.val (.int u0), .val (.int u1), .val (.int u2), .val (.int u3), .val (.int u4), .val (.int u5), .val (.int (4 : Int32)), .val (.int fo), .val (.int y0), .val (.int y1), .val (.int y2), .val (.int y3), .val (.int y4), .val (.ref b44), .unset] [(.int ((((own_one (1 : Int32) y0) + (own_one (1 : Int32) y1)) + (own_one (1 : Int32) y2)) + (own_one (1 : Int32) y3)))])) tt
      refine XS.iconst X53.here hx rfl (hb hby at_202) ?_
      show Steps p.tables e below (T53.setTop (mkF m 203 #[.val (.int u0), .val (.int u1), .val (.int u2), .val (.int u3), .val (.int u4), .val (.int u5), .val (.int (4 : Int32)), .val (.int fo), .val (.int y0), .val (.int y1), .val (.int y2), .val (.int y3), .val (.int y4), .val (.ref b44), .unset] [(.int (0 : Int32)), (.int ((((own_one (1 : Int32) y0) + (own_one (1 : Int32) y1)) + (own_one (1 : Int32) y2)) + (own_one (1 : Int32) y3)))])) tt
      refine XS.iload X53.here hx rfl (hb hby at_203) rfl ?_
      exact kk
    obtain ⟨_, _, ⟨T54, L54, k54, n54⟩, -, X54, ⟨Lc54, hQ54, l54, y54, z54⟩, st54⟩ := Jvm.LawKit.callS X53 hx (y := (⟨"com/example/purloin/runner/PdfsReachedPinLaw", "one", "(ZI)I"⟩ : MethodName)) hown (mvT hZ (hw _ (mw 5 rfl))) (mvT hZ (hw _ (mw 6 rfl))) (mvT hZ (hw _ (mw 2 rfl))) (mvT hZ (hw _ (mw 7 rfl))) (by decide) (backOf (W := 1) (rmo l Z a0 hw [] (0 : Int32) y4 h48 n0 f49 ) hZ (hw _ (mw 7 rfl)) (hw _ (mw 2 rfl)) (by decide) (by decide)) (g := (mkF m 205 #[.val (.int u0), .val (.int u1), .val (.int u2), .val (.int u3), .val (.int u4), .val (.int u5), .val (.int (4 : Int32)), .val (.int fo), .val (.int y0), .val (.int y1), .val (.int y2), .val (.int y3), .val (.int y4), .val (.ref b44), .unset] [(.int y4), (.int (0 : Int32)), (.int ((((own_one (1 : Int32) y0) + (own_one (1 : Int32) y1)) + (own_one (1 : Int32) y2)) + (own_one (1 : Int32) y3)))])) rfl (by rw [hml]; rfl) (argsL := [(.int (0 : Int32)), (.int y4)]) (rest := [(.int ((((own_one (1 : Int32) y0) + (own_one (1 : Int32) y1)) + (own_one (1 : Int32) y2)) + (own_one (1 : Int32) y3)))]) (lenOf pd_1 rfl) rfl (by show 2 * 0 + _ ≤ _; exact Nat.le_of_eq rfl) (hb hby at_205) (fun _ _ => ⟨rfl, e53, (by decide : 1 + 0 ≤ _), (by decide : 4 + 0 ≤ _)⟩)
    dsimp only [Pt.U, Pt.locs, Pt.cells, Pt.slots] at X54 l54 y54 z54 st54 hQ54
    subst l54 y54 z54
    obtain ⟨rfl, N54q, e54⟩ := hQ54
    have N54 := Fr.app N53 N54q
    refine Goal.to (B := T54.setTop (mkF m 208 #[.val (.int u0), .val (.int u1), .val (.int u2), .val (.int u3), .val (.int u4), .val (.int u5), .val (.int (4 : Int32)), .val (.int fo), .val (.int y0), .val (.int y1), .val (.int y2), .val (.int y3), .val (.int y4), .val (.ref b44), .unset] [(.int (own_one (0 : Int32) y4)), (.int ((((own_one (1 : Int32) y0) + (own_one (1 : Int32) y1)) + (own_one (1 : Int32) y2)) + (own_one (1 : Int32) y3)))])) st54 ?_
    refine Goal.to (B := T54.setTop (mkF m 213 #[.val (.int u0), .val (.int u1), .val (.int u2), .val (.int u3), .val (.int u4), .val (.int u5), .val (.int (4 : Int32)), .val (.int fo), .val (.int y0), .val (.int y1), .val (.int y2), .val (.int y3), .val (.int y4), .val (.ref b44), .val (.int (((((own_one (1 : Int32) y0) + (own_one (1 : Int32) y1)) + (own_one (1 : Int32) y2)) + (own_one (1 : Int32) y3)) + (own_one (0 : Int32) y4)))] [(.ref b44)])) (fun tt kk => ?_) ?_
    · show Steps p.tables e below (T54.setTop (mkF m 208 #[.val (.int u0), .val (.int u1), .val (.int u2), .val (.int u3), .val (.int u4), .val (.int u5), .val (.int (4 : Int32)), .val (.int fo), .val (.int y0), .val (.int y1), .val (.int y2), .val (.int y3), .val (.int y4), .val (.ref b44), .unset] [(.int (own_one (0 : Int32) y4)), (.int ((((own_one (1 : Int32) y0) + (own_one (1 : Int32) y1)) + (own_one (1 : Int32) y2)) + (own_one (1 : Int32) y3)))])) tt
      refine XS.iadd X54.here hx rfl (hb hby at_208) rfl ?_
      show Steps p.tables e below (T54.setTop (mkF m 209 #[.val (.int u0), .val (.int u1), .val (.int u2), .val (.int u3), .val (.int u4), .val (.int u5), .val (.int (4 : Int32)), .val (.int fo), .val (.int y0), .val (.int y1), .val (.int y2), .val (.int y3), .val (.int y4), .val (.ref b44), .unset] [(.int (((((own_one (1 : Int32) y0) + (own_one (1 : Int32) y1)) + (own_one (1 : Int32) y2)) + (own_one (1 : Int32) y3)) + (own_one (0 : Int32) y4)))])) tt
      refine XS.istore X54.here hx rfl (hb hby at_209) rfl (l' := #[.val (.int u0), .val (.int u1), .val (.int u2), .val (.int u3), .val (.int u4), .val (.int u5), .val (.int (4 : Int32)), .val (.int fo), .val (.int y0), .val (.int y1), .val (.int y2), .val (.int y3), .val (.int y4), .val (.ref b44), .val (.int (((((own_one (1 : Int32) y0) + (own_one (1 : Int32) y1)) + (own_one (1 : Int32) y2)) + (own_one (1 : Int32) y3)) + (own_one (0 : Int32) y4)))]) rfl ?_
      show Steps p.tables e below (T54.setTop (mkF m 211 #[.val (.int u0), .val (.int u1), .val (.int u2), .val (.int u3), .val (.int u4), .val (.int u5), .val (.int (4 : Int32)), .val (.int fo), .val (.int y0), .val (.int y1), .val (.int y2), .val (.int y3), .val (.int y4), .val (.ref b44), .val (.int (((((own_one (1 : Int32) y0) + (own_one (1 : Int32) y1)) + (own_one (1 : Int32) y2)) + (own_one (1 : Int32) y3)) + (own_one (0 : Int32) y4)))] [])) tt
      refine XS.aload X54.here hx rfl (hb hby at_211) rfl rfl ?_
      exact kk
    obtain ⟨_, _, ⟨T55, L55, k55, n55⟩, -, X55, ⟨Lc55, hQ55, l55, y55, z55⟩, st55⟩ := Jvm.LawKit.callS X54 hx (y := (⟨"com/example/purloin/runner/Pdfs", "reached", "([I)I"⟩ : MethodName)) hown (mvT hZ (hw _ (mw 8 rfl))) (mvT hZ (hw _ (mw 9 rfl))) (mvT hZ (hw _ (mw 10 rfl))) (mvT hZ (hw _ (mw 11 rfl))) (by decide) (backOf (W := 0) (rmr4 l Z a0 hw [] b44 y0 y1 y2 y3 h48 n0 f49 V48) hZ (hw _ (mw 11 rfl)) (hw _ (mw 10 rfl)) (by decide) (by decide)) (g := (mkF m 213 #[.val (.int u0), .val (.int u1), .val (.int u2), .val (.int u3), .val (.int u4), .val (.int u5), .val (.int (4 : Int32)), .val (.int fo), .val (.int y0), .val (.int y1), .val (.int y2), .val (.int y3), .val (.int y4), .val (.ref b44), .val (.int (((((own_one (1 : Int32) y0) + (own_one (1 : Int32) y1)) + (own_one (1 : Int32) y2)) + (own_one (1 : Int32) y3)) + (own_one (0 : Int32) y4)))] [(.ref b44)])) rfl (by rw [hml]; rfl) (argsL := [(.ref b44)]) (rest := []) (lenOf pd_2 rfl) rfl (by show 2 * 0 + _ ≤ _; exact Nat.le_of_eq rfl) (hb hby at_213) (fun _ _ => ⟨rfl, e54, (by decide : 1 + 0 ≤ _), (by decide : 4 + 0 ≤ _)⟩)
    dsimp only [Pt.U, Pt.locs, Pt.cells, Pt.slots] at X55 l55 y55 z55 st55 hQ55
    subst l55 y55 z55
    obtain ⟨rfl, N55q, e55⟩ := hQ55
    have N55 := Fr.app N54 N55q
    refine Goal.to (B := T55.setTop (mkF m 216 #[.val (.int u0), .val (.int u1), .val (.int u2), .val (.int u3), .val (.int u4), .val (.int u5), .val (.int (4 : Int32)), .val (.int fo), .val (.int y0), .val (.int y1), .val (.int y2), .val (.int y3), .val (.int y4), .val (.ref b44), .val (.int (((((own_one (1 : Int32) y0) + (own_one (1 : Int32) y1)) + (own_one (1 : Int32) y2)) + (own_one (1 : Int32) y3)) + (own_one (0 : Int32) y4)))] [(.int (own_add (own_add (own_add (own_add (0 : Int32) y0) y1) y2) y3))])) st55 ?_
    refine Goal.to (B := T55.setTop (mkF m 226 #[.val (.int u0), .val (.int u1), .val (.int u2), .val (.int u3), .val (.int u4), .val (.int u5), .val (.int (4 : Int32)), .val (.int fo), .val (.int y0), .val (.int y1), .val (.int y2), .val (.int y3), .val (.int y4), .val (.ref b44), .val (.int (((((own_one (1 : Int32) y0) + (own_one (1 : Int32) y1)) + (own_one (1 : Int32) y2)) + (own_one (1 : Int32) y3)) + (own_one (0 : Int32) y4)))] [(.int (1 : Int32))])) (fun tt kk => ?_) ?_
    · show Steps p.tables e below (T55.setTop (mkF m 216 #[.val (.int u0), .val (.int u1), .val (.int u2), .val (.int u3), .val (.int u4), .val (.int u5), .val (.int (4 : Int32)), .val (.int fo), .val (.int y0), .val (.int y1), .val (.int y2), .val (.int y3), .val (.int y4), .val (.ref b44), .val (.int (((((own_one (1 : Int32) y0) + (own_one (1 : Int32) y1)) + (own_one (1 : Int32) y2)) + (own_one (1 : Int32) y3)) + (own_one (0 : Int32) y4)))] [(.int (own_add (own_add (own_add (own_add (0 : Int32) y0) y1) y2) y3))])) tt
      refine XS.iload X55.here hx rfl (hb hby at_216) rfl ?_
      show Steps p.tables e below (T55.setTop (mkF m 218 #[.val (.int u0), .val (.int u1), .val (.int u2), .val (.int u3), .val (.int u4), .val (.int u5), .val (.int (4 : Int32)), .val (.int fo), .val (.int y0), .val (.int y1), .val (.int y2), .val (.int y3), .val (.int y4), .val (.ref b44), .val (.int (((((own_one (1 : Int32) y0) + (own_one (1 : Int32) y1)) + (own_one (1 : Int32) y2)) + (own_one (1 : Int32) y3)) + (own_one (0 : Int32) y4)))] [(.int (((((own_one (1 : Int32) y0) + (own_one (1 : Int32) y1)) + (own_one (1 : Int32) y2)) + (own_one (1 : Int32) y3)) + (own_one (0 : Int32) y4))), (.int (own_add (own_add (own_add (own_add (0 : Int32) y0) y1) y2) y3))])) tt
      refine XS.icmpNo X55.here hx rfl (hb hby at_218) rfl (teq (by simp only [own_addE, own_one0, Int32.zero_add, Int32.add_zero] : (own_add (own_add (own_add (own_add (0 : Int32) y0) y1) y2) y3) = (((((own_one (1 : Int32) y0) + (own_one (1 : Int32) y1)) + (own_one (1 : Int32) y2)) + (own_one (1 : Int32) y3)) + (own_one (0 : Int32) y4)))).2 ?_
      show Steps p.tables e below (T55.setTop (mkF m 221 #[.val (.int u0), .val (.int u1), .val (.int u2), .val (.int u3), .val (.int u4), .val (.int u5), .val (.int (4 : Int32)), .val (.int fo), .val (.int y0), .val (.int y1), .val (.int y2), .val (.int y3), .val (.int y4), .val (.ref b44), .val (.int (((((own_one (1 : Int32) y0) + (own_one (1 : Int32) y1)) + (own_one (1 : Int32) y2)) + (own_one (1 : Int32) y3)) + (own_one (0 : Int32) y4)))] [])) tt
      refine XS.iconst X55.here hx rfl (hb hby at_221) ?_
      show Steps p.tables e below (T55.setTop (mkF m 222 #[.val (.int u0), .val (.int u1), .val (.int u2), .val (.int u3), .val (.int u4), .val (.int u5), .val (.int (4 : Int32)), .val (.int fo), .val (.int y0), .val (.int y1), .val (.int y2), .val (.int y3), .val (.int y4), .val (.ref b44), .val (.int (((((own_one (1 : Int32) y0) + (own_one (1 : Int32) y1)) + (own_one (1 : Int32) y2)) + (own_one (1 : Int32) y3)) + (own_one (0 : Int32) y4)))] [(.int (1 : Int32))])) tt
      refine XS.goto X55.here hx rfl (pc0 := 222) (pc' := 226) rfl (hb hby at_222) (by decide) (by decide) ?_
      exact kk
    exact Goal.retV X55 hx Bd.returns rfl (Or.inl ⟨rfl, Or.inr (Or.inl rfl), _, rfl⟩) (hb hby at_226) hlk e55 ⟨rfl, N55⟩ (by decide) (by decide)
  · obtain ⟨T56, h56, k56, X56, e56, E56, A56, st56⟩ := newP X5 hx hZ (hw _ (mw 4 rfl)) e5 (g := (mkF m 63 #[.val (.int u0), .val (.int u1), .val (.int u2), .val (.int u3), .val (.int u4), .val (.int u5), .val (.int (5 : Int32)), .val (.int fo), .val (.int y0), .val (.int y1), .val (.int y2), .val (.int y3), .val (.int y4), .unset, .unset] [(.int (5 : Int32))])) rfl (hb hby at_63) rfl (by decide) (cap := 5) (by decide) (by decide) (by decide) (by decide)
    obtain ⟨b56, g56⟩ : ∃ z, z = h0.size := ⟨_, rfl⟩
    rw [← g56] at A56 st56
    have g_b56 : n0 ≤ b56 := Nat.le_trans Z0 (Nat.le_of_eq g56.symm)
    have V56 : Ary Z h56 b56 .int [(.int (0 : Int32)), (.int (0 : Int32)), (.int (0 : Int32)), (.int (0 : Int32)), (.int (0 : Int32))] := Ary.new A56 rfl
    refine Goal.to (B := T56.setTop (mkF m 65 #[.val (.int u0), .val (.int u1), .val (.int u2), .val (.int u3), .val (.int u4), .val (.int u5), .val (.int (5 : Int32)), .val (.int fo), .val (.int y0), .val (.int y1), .val (.int y2), .val (.int y3), .val (.int y4), .unset, .unset] [(.ref b56)])) st56 ?_
    refine Goal.to (B := T56.setTop (mkF m 77 #[.val (.int u0), .val (.int u1), .val (.int u2), .val (.int u3), .val (.int u4), .val (.int u5), .val (.int (5 : Int32)), .val (.int fo), .val (.int y0), .val (.int y1), .val (.int y2), .val (.int y3), .val (.int y4), .val (.ref b56), .unset] [(.int y0), (.int (0 : Int32)), (.ref b56)])) (fun tt kk => ?_) ?_
    · show Steps p.tables e below (T56.setTop (mkF m 65 #[.val (.int u0), .val (.int u1), .val (.int u2), .val (.int u3), .val (.int u4), .val (.int u5), .val (.int (5 : Int32)), .val (.int fo), .val (.int y0), .val (.int y1), .val (.int y2), .val (.int y3), .val (.int y4), .unset, .unset] [(.ref b56)])) tt
      refine XS.astore X56.here hx rfl (hb hby at_65) rfl rfl (l' := #[.val (.int u0), .val (.int u1), .val (.int u2), .val (.int u3), .val (.int u4), .val (.int u5), .val (.int (5 : Int32)), .val (.int fo), .val (.int y0), .val (.int y1), .val (.int y2), .val (.int y3), .val (.int y4), .val (.ref b56), .unset]) rfl ?_
      show Steps p.tables e below (T56.setTop (mkF m 67 #[.val (.int u0), .val (.int u1), .val (.int u2), .val (.int u3), .val (.int u4), .val (.int u5), .val (.int (5 : Int32)), .val (.int fo), .val (.int y0), .val (.int y1), .val (.int y2), .val (.int y3), .val (.int y4), .val (.ref b56), .unset] [])) tt
      refine XS.iload X56.here hx rfl (hb hby at_67) rfl ?_
      show Steps p.tables e below (T56.setTop (mkF m 69 #[.val (.int u0), .val (.int u1), .val (.int u2), .val (.int u3), .val (.int u4), .val (.int u5), .val (.int (5 : Int32)), .val (.int fo), .val (.int y0), .val (.int y1), .val (.int y2), .val (.int y3), .val (.int y4), .val (.ref b56), .unset] [(.int (5 : Int32))])) tt
      refine XS.ifNo X56.here hx rfl (hb hby at_69) rfl ((if0 _ _).trans (tlt ((by decide) : (0 : Int32) < (5 : Int32))).2.2.2) ?_
      show Steps p.tables e below (T56.setTop (mkF m 72 #[.val (.int u0), .val (.int u1), .val (.int u2), .val (.int u3), .val (.int u4), .val (.int u5), .val (.int (5 : Int32)), .val (.int fo), .val (.int y0), .val (.int y1), .val (.int y2), .val (.int y3), .val (.int y4), .val (.ref b56), .unset] [])) tt
      refine XS.aload X56.here hx rfl (hb hby at_72) rfl rfl ?_
      show Steps p.tables e below (T56.setTop (mkF m 74 #[.val (.int u0), .val (.int u1), .val (.int u2), .val (.int u3), .val (.int u4), .val (.int u5), .val (.int (5 : Int32)), .val (.int fo), .val (.int y0), .val (.int y1), .val (.int y2), .val (.int y3), .val (.int y4), .val (.ref b56), .unset] [(.ref b56)])) tt
      refine XS.iconst X56.here hx rfl (hb hby at_74) ?_
      show Steps p.tables e below (T56.setTop (mkF m 75 #[.val (.int u0), .val (.int u1), .val (.int u2), .val (.int u3), .val (.int u4), .val (.int u5), .val (.int (5 : Int32)), .val (.int fo), .val (.int y0), .val (.int y1), .val (.int y2), .val (.int y3), .val (.int y4), .val (.ref b56), .unset] [(.int (0 : Int32)), (.ref b56)])) tt
      refine XS.iload X56.here hx rfl (hb hby at_75) rfl ?_
      exact kk
    obtain ⟨cl57, Ar57, Sl57⟩ := id V56
    have hin57 := inA (cl := cl57) Sl57 (j := (0 : Int32)) (by decide) (Nat.le_of_ble_eq_true rfl)
    obtain ⟨T57, h57, X57, e57, W57, st57⟩ := stI X56 hx hZ e56 Ar57 (j := (0 : Int32)) hin57 (g := (mkF m 77 #[.val (.int u0), .val (.int u1), .val (.int u2), .val (.int u3), .val (.int u4), .val (.int u5), .val (.int (5 : Int32)), .val (.int fo), .val (.int y0), .val (.int y1), .val (.int y2), .val (.int y3), .val (.int y4), .val (.ref b56), .unset] [(.int y0), (.int (0 : Int32)), (.ref b56)])) rfl rfl (hb hby at_77)
    have V57 : Ary Z h57 b56 .int [(.int y0), (.int (0 : Int32)), (.int (0 : Int32)), (.int (0 : Int32)), (.int (0 : Int32))] := Ary.put Ar57 Sl57 W57 rfl
    have N57 := Fr.snoc X57 N5 g_b56
    refine Goal.to (B := T57.setTop (mkF m 78 #[.val (.int u0), .val (.int u1), .val (.int u2), .val (.int u3), .val (.int u4), .val (.int u5), .val (.int (5 : Int32)), .val (.int fo), .val (.int y0), .val (.int y1), .val (.int y2), .val (.int y3), .val (.int y4), .val (.ref b56), .unset] [])) st57 ?_
    refine Goal.to (B := T57.setTop (mkF m 89 #[.val (.int u0), .val (.int u1), .val (.int u2), .val (.int u3), .val (.int u4), .val (.int u5), .val (.int (5 : Int32)), .val (.int fo), .val (.int y0), .val (.int y1), .val (.int y2), .val (.int y3), .val (.int y4), .val (.ref b56), .unset] [(.int y1), (.int (1 : Int32)), (.ref b56)])) (fun tt kk => ?_) ?_
    · show Steps p.tables e below (T57.setTop (mkF m 78 #[.val (.int u0), .val (.int u1), .val (.int u2), .val (.int u3), .val (.int u4), .val (.int u5), .val (.int (5 : Int32)), .val (.int fo), .val (.int y0), .val (.int y1), .val (.int y2), .val (.int y3), .val (.int y4), .val (.ref b56), .unset] [])) tt
      refine XS.iload X57.here hx rfl (hb hby at_78) rfl ?_
      show Steps p.tables e below (T57.setTop (mkF m 80 #[.val (.int u0), .val (.int u1), .val (.int u2), .val (.int u3), .val (.int u4), .val (.int u5), .val (.int (5 : Int32)), .val (.int fo), .val (.int y0), .val (.int y1), .val (.int y2), .val (.int y3), .val (.int y4), .val (.ref b56), .unset] [(.int (5 : Int32))])) tt
      refine XS.iconst X57.here hx rfl (hb hby at_80) ?_
      show Steps p.tables e below (T57.setTop (mkF m 81 #[.val (.int u0), .val (.int u1), .val (.int u2), .val (.int u3), .val (.int u4), .val (.int u5), .val (.int (5 : Int32)), .val (.int fo), .val (.int y0), .val (.int y1), .val (.int y2), .val (.int y3), .val (.int y4), .val (.ref b56), .unset] [(.int (1 : Int32)), (.int (5 : Int32))])) tt
      refine XS.icmpNo X57.here hx rfl (hb hby at_81) rfl (tlt ((by decide) : (1 : Int32) < (5 : Int32))).2.2.2 ?_
      show Steps p.tables e below (T57.setTop (mkF m 84 #[.val (.int u0), .val (.int u1), .val (.int u2), .val (.int u3), .val (.int u4), .val (.int u5), .val (.int (5 : Int32)), .val (.int fo), .val (.int y0), .val (.int y1), .val (.int y2), .val (.int y3), .val (.int y4), .val (.ref b56), .unset] [])) tt
      refine XS.aload X57.here hx rfl (hb hby at_84) rfl rfl ?_
      show Steps p.tables e below (T57.setTop (mkF m 86 #[.val (.int u0), .val (.int u1), .val (.int u2), .val (.int u3), .val (.int u4), .val (.int u5), .val (.int (5 : Int32)), .val (.int fo), .val (.int y0), .val (.int y1), .val (.int y2), .val (.int y3), .val (.int y4), .val (.ref b56), .unset] [(.ref b56)])) tt
      refine XS.iconst X57.here hx rfl (hb hby at_86) ?_
      show Steps p.tables e below (T57.setTop (mkF m 87 #[.val (.int u0), .val (.int u1), .val (.int u2), .val (.int u3), .val (.int u4), .val (.int u5), .val (.int (5 : Int32)), .val (.int fo), .val (.int y0), .val (.int y1), .val (.int y2), .val (.int y3), .val (.int y4), .val (.ref b56), .unset] [(.int (1 : Int32)), (.ref b56)])) tt
      refine XS.iload X57.here hx rfl (hb hby at_87) rfl ?_
      exact kk
    obtain ⟨cl58, Ar58, Sl58⟩ := id V57
    have hin58 := inA (cl := cl58) Sl58 (j := (1 : Int32)) (by decide) (Nat.le_of_ble_eq_true rfl)
    obtain ⟨T58, h58, X58, e58, W58, st58⟩ := stI X57 hx hZ e57 Ar58 (j := (1 : Int32)) hin58 (g := (mkF m 89 #[.val (.int u0), .val (.int u1), .val (.int u2), .val (.int u3), .val (.int u4), .val (.int u5), .val (.int (5 : Int32)), .val (.int fo), .val (.int y0), .val (.int y1), .val (.int y2), .val (.int y3), .val (.int y4), .val (.ref b56), .unset] [(.int y1), (.int (1 : Int32)), (.ref b56)])) rfl rfl (hb hby at_89)
    have V58 : Ary Z h58 b56 .int [(.int y0), (.int y1), (.int (0 : Int32)), (.int (0 : Int32)), (.int (0 : Int32))] := Ary.put Ar58 Sl58 W58 rfl
    have N58 := Fr.snoc X58 N57 g_b56
    refine Goal.to (B := T58.setTop (mkF m 90 #[.val (.int u0), .val (.int u1), .val (.int u2), .val (.int u3), .val (.int u4), .val (.int u5), .val (.int (5 : Int32)), .val (.int fo), .val (.int y0), .val (.int y1), .val (.int y2), .val (.int y3), .val (.int y4), .val (.ref b56), .unset] [])) st58 ?_
    refine Goal.to (B := T58.setTop (mkF m 101 #[.val (.int u0), .val (.int u1), .val (.int u2), .val (.int u3), .val (.int u4), .val (.int u5), .val (.int (5 : Int32)), .val (.int fo), .val (.int y0), .val (.int y1), .val (.int y2), .val (.int y3), .val (.int y4), .val (.ref b56), .unset] [(.int y2), (.int (2 : Int32)), (.ref b56)])) (fun tt kk => ?_) ?_
    · show Steps p.tables e below (T58.setTop (mkF m 90 #[.val (.int u0), .val (.int u1), .val (.int u2), .val (.int u3), .val (.int u4), .val (.int u5), .val (.int (5 : Int32)), .val (.int fo), .val (.int y0), .val (.int y1), .val (.int y2), .val (.int y3), .val (.int y4), .val (.ref b56), .unset] [])) tt
      refine XS.iload X58.here hx rfl (hb hby at_90) rfl ?_
      show Steps p.tables e below (T58.setTop (mkF m 92 #[.val (.int u0), .val (.int u1), .val (.int u2), .val (.int u3), .val (.int u4), .val (.int u5), .val (.int (5 : Int32)), .val (.int fo), .val (.int y0), .val (.int y1), .val (.int y2), .val (.int y3), .val (.int y4), .val (.ref b56), .unset] [(.int (5 : Int32))])) tt
      refine XS.iconst X58.here hx rfl (hb hby at_92) ?_
      show Steps p.tables e below (T58.setTop (mkF m 93 #[.val (.int u0), .val (.int u1), .val (.int u2), .val (.int u3), .val (.int u4), .val (.int u5), .val (.int (5 : Int32)), .val (.int fo), .val (.int y0), .val (.int y1), .val (.int y2), .val (.int y3), .val (.int y4), .val (.ref b56), .unset] [(.int (2 : Int32)), (.int (5 : Int32))])) tt
      refine XS.icmpNo X58.here hx rfl (hb hby at_93) rfl (tlt ((by decide) : (2 : Int32) < (5 : Int32))).2.2.2 ?_
      show Steps p.tables e below (T58.setTop (mkF m 96 #[.val (.int u0), .val (.int u1), .val (.int u2), .val (.int u3), .val (.int u4), .val (.int u5), .val (.int (5 : Int32)), .val (.int fo), .val (.int y0), .val (.int y1), .val (.int y2), .val (.int y3), .val (.int y4), .val (.ref b56), .unset] [])) tt
      refine XS.aload X58.here hx rfl (hb hby at_96) rfl rfl ?_
      show Steps p.tables e below (T58.setTop (mkF m 98 #[.val (.int u0), .val (.int u1), .val (.int u2), .val (.int u3), .val (.int u4), .val (.int u5), .val (.int (5 : Int32)), .val (.int fo), .val (.int y0), .val (.int y1), .val (.int y2), .val (.int y3), .val (.int y4), .val (.ref b56), .unset] [(.ref b56)])) tt
      refine XS.iconst X58.here hx rfl (hb hby at_98) ?_
      show Steps p.tables e below (T58.setTop (mkF m 99 #[.val (.int u0), .val (.int u1), .val (.int u2), .val (.int u3), .val (.int u4), .val (.int u5), .val (.int (5 : Int32)), .val (.int fo), .val (.int y0), .val (.int y1), .val (.int y2), .val (.int y3), .val (.int y4), .val (.ref b56), .unset] [(.int (2 : Int32)), (.ref b56)])) tt
      refine XS.iload X58.here hx rfl (hb hby at_99) rfl ?_
      exact kk
    obtain ⟨cl59, Ar59, Sl59⟩ := id V58
    have hin59 := inA (cl := cl59) Sl59 (j := (2 : Int32)) (by decide) (Nat.le_of_ble_eq_true rfl)
    obtain ⟨T59, h59, X59, e59, W59, st59⟩ := stI X58 hx hZ e58 Ar59 (j := (2 : Int32)) hin59 (g := (mkF m 101 #[.val (.int u0), .val (.int u1), .val (.int u2), .val (.int u3), .val (.int u4), .val (.int u5), .val (.int (5 : Int32)), .val (.int fo), .val (.int y0), .val (.int y1), .val (.int y2), .val (.int y3), .val (.int y4), .val (.ref b56), .unset] [(.int y2), (.int (2 : Int32)), (.ref b56)])) rfl rfl (hb hby at_101)
    have V59 : Ary Z h59 b56 .int [(.int y0), (.int y1), (.int y2), (.int (0 : Int32)), (.int (0 : Int32))] := Ary.put Ar59 Sl59 W59 rfl
    have N59 := Fr.snoc X59 N58 g_b56
    refine Goal.to (B := T59.setTop (mkF m 102 #[.val (.int u0), .val (.int u1), .val (.int u2), .val (.int u3), .val (.int u4), .val (.int u5), .val (.int (5 : Int32)), .val (.int fo), .val (.int y0), .val (.int y1), .val (.int y2), .val (.int y3), .val (.int y4), .val (.ref b56), .unset] [])) st59 ?_
    refine Goal.to (B := T59.setTop (mkF m 113 #[.val (.int u0), .val (.int u1), .val (.int u2), .val (.int u3), .val (.int u4), .val (.int u5), .val (.int (5 : Int32)), .val (.int fo), .val (.int y0), .val (.int y1), .val (.int y2), .val (.int y3), .val (.int y4), .val (.ref b56), .unset] [(.int y3), (.int (3 : Int32)), (.ref b56)])) (fun tt kk => ?_) ?_
    · show Steps p.tables e below (T59.setTop (mkF m 102 #[.val (.int u0), .val (.int u1), .val (.int u2), .val (.int u3), .val (.int u4), .val (.int u5), .val (.int (5 : Int32)), .val (.int fo), .val (.int y0), .val (.int y1), .val (.int y2), .val (.int y3), .val (.int y4), .val (.ref b56), .unset] [])) tt
      refine XS.iload X59.here hx rfl (hb hby at_102) rfl ?_
      show Steps p.tables e below (T59.setTop (mkF m 104 #[.val (.int u0), .val (.int u1), .val (.int u2), .val (.int u3), .val (.int u4), .val (.int u5), .val (.int (5 : Int32)), .val (.int fo), .val (.int y0), .val (.int y1), .val (.int y2), .val (.int y3), .val (.int y4), .val (.ref b56), .unset] [(.int (5 : Int32))])) tt
      refine XS.iconst X59.here hx rfl (hb hby at_104) ?_
      show Steps p.tables e below (T59.setTop (mkF m 105 #[.val (.int u0), .val (.int u1), .val (.int u2), .val (.int u3), .val (.int u4), .val (.int u5), .val (.int (5 : Int32)), .val (.int fo), .val (.int y0), .val (.int y1), .val (.int y2), .val (.int y3), .val (.int y4), .val (.ref b56), .unset] [(.int (3 : Int32)), (.int (5 : Int32))])) tt
      refine XS.icmpNo X59.here hx rfl (hb hby at_105) rfl (tlt ((by decide) : (3 : Int32) < (5 : Int32))).2.2.2 ?_
      show Steps p.tables e below (T59.setTop (mkF m 108 #[.val (.int u0), .val (.int u1), .val (.int u2), .val (.int u3), .val (.int u4), .val (.int u5), .val (.int (5 : Int32)), .val (.int fo), .val (.int y0), .val (.int y1), .val (.int y2), .val (.int y3), .val (.int y4), .val (.ref b56), .unset] [])) tt
      refine XS.aload X59.here hx rfl (hb hby at_108) rfl rfl ?_
      show Steps p.tables e below (T59.setTop (mkF m 110 #[.val (.int u0), .val (.int u1), .val (.int u2), .val (.int u3), .val (.int u4), .val (.int u5), .val (.int (5 : Int32)), .val (.int fo), .val (.int y0), .val (.int y1), .val (.int y2), .val (.int y3), .val (.int y4), .val (.ref b56), .unset] [(.ref b56)])) tt
      refine XS.iconst X59.here hx rfl (hb hby at_110) ?_
      show Steps p.tables e below (T59.setTop (mkF m 111 #[.val (.int u0), .val (.int u1), .val (.int u2), .val (.int u3), .val (.int u4), .val (.int u5), .val (.int (5 : Int32)), .val (.int fo), .val (.int y0), .val (.int y1), .val (.int y2), .val (.int y3), .val (.int y4), .val (.ref b56), .unset] [(.int (3 : Int32)), (.ref b56)])) tt
      refine XS.iload X59.here hx rfl (hb hby at_111) rfl ?_
      exact kk
    obtain ⟨cl60, Ar60, Sl60⟩ := id V59
    have hin60 := inA (cl := cl60) Sl60 (j := (3 : Int32)) (by decide) (Nat.le_of_ble_eq_true rfl)
    obtain ⟨T60, h60, X60, e60, W60, st60⟩ := stI X59 hx hZ e59 Ar60 (j := (3 : Int32)) hin60 (g := (mkF m 113 #[.val (.int u0), .val (.int u1), .val (.int u2), .val (.int u3), .val (.int u4), .val (.int u5), .val (.int (5 : Int32)), .val (.int fo), .val (.int y0), .val (.int y1), .val (.int y2), .val (.int y3), .val (.int y4), .val (.ref b56), .unset] [(.int y3), (.int (3 : Int32)), (.ref b56)])) rfl rfl (hb hby at_113)
    have V60 : Ary Z h60 b56 .int [(.int y0), (.int y1), (.int y2), (.int y3), (.int (0 : Int32))] := Ary.put Ar60 Sl60 W60 rfl
    have N60 := Fr.snoc X60 N59 g_b56
    refine Goal.to (B := T60.setTop (mkF m 114 #[.val (.int u0), .val (.int u1), .val (.int u2), .val (.int u3), .val (.int u4), .val (.int u5), .val (.int (5 : Int32)), .val (.int fo), .val (.int y0), .val (.int y1), .val (.int y2), .val (.int y3), .val (.int y4), .val (.ref b56), .unset] [])) st60 ?_
    refine Goal.to (B := T60.setTop (mkF m 125 #[.val (.int u0), .val (.int u1), .val (.int u2), .val (.int u3), .val (.int u4), .val (.int u5), .val (.int (5 : Int32)), .val (.int fo), .val (.int y0), .val (.int y1), .val (.int y2), .val (.int y3), .val (.int y4), .val (.ref b56), .unset] [(.int y4), (.int (4 : Int32)), (.ref b56)])) (fun tt kk => ?_) ?_
    · show Steps p.tables e below (T60.setTop (mkF m 114 #[.val (.int u0), .val (.int u1), .val (.int u2), .val (.int u3), .val (.int u4), .val (.int u5), .val (.int (5 : Int32)), .val (.int fo), .val (.int y0), .val (.int y1), .val (.int y2), .val (.int y3), .val (.int y4), .val (.ref b56), .unset] [])) tt
      refine XS.iload X60.here hx rfl (hb hby at_114) rfl ?_
      show Steps p.tables e below (T60.setTop (mkF m 116 #[.val (.int u0), .val (.int u1), .val (.int u2), .val (.int u3), .val (.int u4), .val (.int u5), .val (.int (5 : Int32)), .val (.int fo), .val (.int y0), .val (.int y1), .val (.int y2), .val (.int y3), .val (.int y4), .val (.ref b56), .unset] [(.int (5 : Int32))])) tt
      refine XS.iconst X60.here hx rfl (hb hby at_116) ?_
      show Steps p.tables e below (T60.setTop (mkF m 117 #[.val (.int u0), .val (.int u1), .val (.int u2), .val (.int u3), .val (.int u4), .val (.int u5), .val (.int (5 : Int32)), .val (.int fo), .val (.int y0), .val (.int y1), .val (.int y2), .val (.int y3), .val (.int y4), .val (.ref b56), .unset] [(.int (4 : Int32)), (.int (5 : Int32))])) tt
      refine XS.icmpNo X60.here hx rfl (hb hby at_117) rfl (tlt ((by decide) : (4 : Int32) < (5 : Int32))).2.2.2 ?_
      show Steps p.tables e below (T60.setTop (mkF m 120 #[.val (.int u0), .val (.int u1), .val (.int u2), .val (.int u3), .val (.int u4), .val (.int u5), .val (.int (5 : Int32)), .val (.int fo), .val (.int y0), .val (.int y1), .val (.int y2), .val (.int y3), .val (.int y4), .val (.ref b56), .unset] [])) tt
      refine XS.aload X60.here hx rfl (hb hby at_120) rfl rfl ?_
      show Steps p.tables e below (T60.setTop (mkF m 122 #[.val (.int u0), .val (.int u1), .val (.int u2), .val (.int u3), .val (.int u4), .val (.int u5), .val (.int (5 : Int32)), .val (.int fo), .val (.int y0), .val (.int y1), .val (.int y2), .val (.int y3), .val (.int y4), .val (.ref b56), .unset] [(.ref b56)])) tt
      refine XS.iconst X60.here hx rfl (hb hby at_122) ?_
      show Steps p.tables e below (T60.setTop (mkF m 123 #[.val (.int u0), .val (.int u1), .val (.int u2), .val (.int u3), .val (.int u4), .val (.int u5), .val (.int (5 : Int32)), .val (.int fo), .val (.int y0), .val (.int y1), .val (.int y2), .val (.int y3), .val (.int y4), .val (.ref b56), .unset] [(.int (4 : Int32)), (.ref b56)])) tt
      refine XS.iload X60.here hx rfl (hb hby at_123) rfl ?_
      exact kk
    obtain ⟨cl61, Ar61, Sl61⟩ := id V60
    have hin61 := inA (cl := cl61) Sl61 (j := (4 : Int32)) (by decide) (Nat.le_of_ble_eq_true rfl)
    obtain ⟨T61, h61, X61, e61, W61, st61⟩ := stI X60 hx hZ e60 Ar61 (j := (4 : Int32)) hin61 (g := (mkF m 125 #[.val (.int u0), .val (.int u1), .val (.int u2), .val (.int u3), .val (.int u4), .val (.int u5), .val (.int (5 : Int32)), .val (.int fo), .val (.int y0), .val (.int y1), .val (.int y2), .val (.int y3), .val (.int y4), .val (.ref b56), .unset] [(.int y4), (.int (4 : Int32)), (.ref b56)])) rfl rfl (hb hby at_125)
    have V61 : Ary Z h61 b56 .int [(.int y0), (.int y1), (.int y2), (.int y3), (.int y4)] := Ary.put Ar61 Sl61 W61 rfl
    have N61 := Fr.snoc X61 N60 g_b56
    refine Goal.to (B := T61.setTop (mkF m 126 #[.val (.int u0), .val (.int u1), .val (.int u2), .val (.int u3), .val (.int u4), .val (.int u5), .val (.int (5 : Int32)), .val (.int fo), .val (.int y0), .val (.int y1), .val (.int y2), .val (.int y3), .val (.int y4), .val (.ref b56), .unset] [])) st61 ?_
    refine Goal.to (B := T61.setTop (mkF m 138 #[.val (.int u0), .val (.int u1), .val (.int u2), .val (.int u3), .val (.int u4), .val (.int u5), .val (.int (5 : Int32)), .val (.int fo), .val (.int y0), .val (.int y1), .val (.int y2), .val (.int y3), .val (.int y4), .val (.ref b56), .unset] [(.int y0), (.int (1 : Int32))])) (fun tt kk => ?_) ?_
    · show Steps p.tables e below (T61.setTop (mkF m 126 #[.val (.int u0), .val (.int u1), .val (.int u2), .val (.int u3), .val (.int u4), .val (.int u5), .val (.int (5 : Int32)), .val (.int fo), .val (.int y0), .val (.int y1), .val (.int y2), .val (.int y3), .val (.int y4), .val (.ref b56), .unset] [])) tt
      refine XS.iload X61.here hx rfl (hb hby at_126) rfl ?_
      show Steps p.tables e below (T61.setTop (mkF m 128 #[.val (.int u0), .val (.int u1), .val (.int u2), .val (.int u3), .val (.int u4), .val (.int u5), .val (.int (5 : Int32)), .val (.int fo), .val (.int y0), .val (.int y1), .val (.int y2), .val (.int y3), .val (.int y4), .val (.ref b56), .unset] [(.int (5 : Int32))])) tt
      refine XS.ifNo X61.here hx rfl (hb hby at_128) rfl ((if0 _ _).trans (tlt ((by decide) : (0 : Int32) < (5 : Int32))).2.2.2) ?_
      show Steps p.tables e below (T61.setTop (mkF m 131 #[.val (.int u0), .val (.int u1), .val (.int u2), .val (.int u3), .val (.int u4), .val (.int u5), .val (.int (5 : Int32)), .val (.int fo), .val (.int y0), .val (.int y1), .val (.int y2), .val (.int y3), .val (.int y4), .val (.ref b56), .unset] [])) tt
      refine XS.iconst X61.here hx rfl (hb hby at_131) ?_
      show Steps p.tables e below (T61.setTop (mkF m 132 #[.val (.int u0), .val (.int u1), .val (.int u2), .val (.int u3), .val (.int u4), .val (.int u5), .val (.int (5 : Int32)), .val (.int fo), .val (.int y0), .val (.int y1), .val (.int y2), .val (.int y3), .val (.int y4), .val (.ref b56), .unset] [(.int (1 : Int32))])) tt
      refine XS.goto X61.here hx rfl (pc0 := 132) (pc' := 136) rfl (hb hby at_132) (by decide) (by decide) ?_
      show Steps p.tables e below (T61.setTop (mkF m 136 #[.val (.int u0), .val (.int u1), .val (.int u2), .val (.int u3), .val (.int u4), .val (.int u5), .val (.int (5 : Int32)), .val (.int fo), .val (.int y0), .val (.int y1), .val (.int y2), .val (.int y3), .val (.int y4), .val (.ref b56), .unset] [(.int (1 : Int32))])) tt
      refine XS.iload X61.here hx rfl (hb hby at_136) rfl ?_
      exact kk
    have f62 : n0 ≤ h61.size := (Nat.le_trans (Nat.le_trans (Nat.le_trans (Nat.le_trans (Nat.le_trans (Nat.le_trans Z0 E56.1) (Keep.of_wr W57).1) (Keep.of_wr W58).1) (Keep.of_wr W59).1) (Keep.of_wr W60).1) (Keep.of_wr W61).1)
    obtain ⟨_, _, ⟨T63, L63, k63, n63⟩, -, X63, ⟨Lc63, hQ63, l63, y63, z63⟩, st63⟩ := Jvm.LawKit.callS X61 hx (y := (⟨"com/example/purloin/runner/PdfsReachedPinLaw", "one", "(ZI)I"⟩ : MethodName)) hown (mvT hZ (hw _ (mw 5 rfl))) (mvT hZ (hw _ (mw 6 rfl))) (mvT hZ (hw _ (mw 2 rfl))) (mvT hZ (hw _ (mw 7 rfl))) (by decide) (backOf (W := 0) (rmo l Z a0 hw [] (1 : Int32) y0 h61 n0 f62 ) hZ (hw _ (mw 7 rfl)) (hw _ (mw 2 rfl)) (by decide) (by decide)) (g := (mkF m 138 #[.val (.int u0), .val (.int u1), .val (.int u2), .val (.int u3), .val (.int u4), .val (.int u5), .val (.int (5 : Int32)), .val (.int fo), .val (.int y0), .val (.int y1), .val (.int y2), .val (.int y3), .val (.int y4), .val (.ref b56), .unset] [(.int y0), (.int (1 : Int32))])) rfl (by rw [hml]; rfl) (argsL := [(.int (1 : Int32)), (.int y0)]) (rest := []) (lenOf pd_1 rfl) rfl (by show 2 * 0 + _ ≤ _; exact Nat.le_of_eq rfl) (hb hby at_138) (fun _ _ => ⟨rfl, e61, (by decide : 1 + 0 ≤ _), (by decide : 5 + 0 ≤ _)⟩)
    dsimp only [Pt.U, Pt.locs, Pt.cells, Pt.slots] at X63 l63 y63 z63 st63 hQ63
    subst l63 y63 z63
    obtain ⟨rfl, N63q, e63⟩ := hQ63
    have N63 := Fr.app N61 N63q
    refine Goal.to (B := T63.setTop (mkF m 141 #[.val (.int u0), .val (.int u1), .val (.int u2), .val (.int u3), .val (.int u4), .val (.int u5), .val (.int (5 : Int32)), .val (.int fo), .val (.int y0), .val (.int y1), .val (.int y2), .val (.int y3), .val (.int y4), .val (.ref b56), .unset] [(.int (own_one (1 : Int32) y0))])) st63 ?_
    refine Goal.to (B := T63.setTop (mkF m 154 #[.val (.int u0), .val (.int u1), .val (.int u2), .val (.int u3), .val (.int u4), .val (.int u5), .val (.int (5 : Int32)), .val (.int fo), .val (.int y0), .val (.int y1), .val (.int y2), .val (.int y3), .val (.int y4), .val (.ref b56), .unset] [(.int y1), (.int (1 : Int32)), (.int (own_one (1 : Int32) y0))])) (fun tt kk => ?_) ?_
    · show Steps p.tables e below (T63.setTop (mkF m 141 #[.val (.int u0), .val (.int u1), .val (.int u2), .val (.int u3), .val (.int u4), .val (.int u5), .val (.int (5 : Int32)), .val (.int fo), .val (.int y0), .val (.int y1), .val (.int y2), .val (.int y3), .val (.int y4), .val (.ref b56), .unset] [(.int (own_one (1 : Int32) y0))])) tt
      refine XS.iload X63.here hx rfl (hb hby at_141) rfl ?_
      show Steps p.tables e below (T63.setTop (mkF m 143 #[.val (.int u0), .val (.int u1), .val (.int u2), .val (.int u3), .val (.int u4), .val (.int u5), .val (.int (5 : Int32)), .val (.int fo), .val (.int y0), .val (.int y1), .val (.int y2), .val (.int y3), .val (.int y4), .val (.ref b56), .unset] [(.int (5 : Int32)), (.int (own_one (1 : Int32) y0))])) tt
      refine XS.iconst X63.here hx rfl (hb hby at_143) ?_
      show Steps p.tables e below (T63.setTop (mkF m 144 #[.val (.int u0), .val (.int u1), .val (.int u2), .val (.int u3), .val (.int u4), .val (.int u5), .val (.int (5 : Int32)), .val (.int fo), .val (.int y0), .val (.int y1), .val (.int y2), .val (.int y3), .val (.int y4), .val (.ref b56), .unset] [(.int (1 : Int32)), (.int (5 : Int32)), (.int (own_one (1 : Int32) y0))])) tt
      refine XS.icmpNo X63.here hx rfl (hb hby at_144) rfl (tlt ((by decide) : (1 : Int32) < (5 : Int32))).2.2.2 ?_
      show Steps p.tables e below (T63.setTop (mkF m 147 #[.val (.int u0), .val (.int u1), .val (.int u2), .val (.int u3), .val (.int u4), .val (.int u5), .val (.int (5 : Int32)), .val (.int fo), .val (.int y0), .val (.int y1), .val (.int y2), .val (.int y3), .val (.int y4), .val (.ref b56), .unset] [(.int (own_one (1 : Int32) y0))])) tt
      refine XS.iconst X63.here hx rfl (hb hby at_147) ?_
      show Steps p.tables e below (T63.setTop (mkF m 148 #[.val (.int u0), .val (.int u1), .val (.int u2), .val (.int u3), .val (.int u4), .val (.int u5), .val (.int (5 : Int32)), .val (.int fo), .val (.int y0), .val (.int y1), .val (.int y2), .val (.int y3), .val (.int y4), .val (.ref b56), .unset] [(.int (1 : Int32)), (.int (own_one (1 : Int32) y0))])) tt
      refine XS.goto X63.here hx rfl (pc0 := 148) (pc' := 152) rfl (hb hby at_148) (by decide) (by decide) ?_
      show Steps p.tables e below (T63.setTop (mkF m 152 #[.val (.int u0), .val (.int u1), .val (.int u2), .val (.int u3), .val (.int u4), .val (.int u5), .val (.int (5 : Int32)), .val (.int fo), .val (.int y0), .val (.int y1), .val (.int y2), .val (.int y3), .val (.int y4), .val (.ref b56), .unset] [(.int (1 : Int32)), (.int (own_one (1 : Int32) y0))])) tt
      refine XS.iload X63.here hx rfl (hb hby at_152) rfl ?_
      exact kk
    obtain ⟨_, _, ⟨T64, L64, k64, n64⟩, -, X64, ⟨Lc64, hQ64, l64, y64, z64⟩, st64⟩ := Jvm.LawKit.callS X63 hx (y := (⟨"com/example/purloin/runner/PdfsReachedPinLaw", "one", "(ZI)I"⟩ : MethodName)) hown (mvT hZ (hw _ (mw 5 rfl))) (mvT hZ (hw _ (mw 6 rfl))) (mvT hZ (hw _ (mw 2 rfl))) (mvT hZ (hw _ (mw 7 rfl))) (by decide) (backOf (W := 1) (rmo l Z a0 hw [] (1 : Int32) y1 h61 n0 f62 ) hZ (hw _ (mw 7 rfl)) (hw _ (mw 2 rfl)) (by decide) (by decide)) (g := (mkF m 154 #[.val (.int u0), .val (.int u1), .val (.int u2), .val (.int u3), .val (.int u4), .val (.int u5), .val (.int (5 : Int32)), .val (.int fo), .val (.int y0), .val (.int y1), .val (.int y2), .val (.int y3), .val (.int y4), .val (.ref b56), .unset] [(.int y1), (.int (1 : Int32)), (.int (own_one (1 : Int32) y0))])) rfl (by rw [hml]; rfl) (argsL := [(.int (1 : Int32)), (.int y1)]) (rest := [(.int (own_one (1 : Int32) y0))]) (lenOf pd_1 rfl) rfl (by show 2 * 0 + _ ≤ _; exact Nat.le_of_eq rfl) (hb hby at_154) (fun _ _ => ⟨rfl, e63, (by decide : 1 + 0 ≤ _), (by decide : 5 + 0 ≤ _)⟩)
    dsimp only [Pt.U, Pt.locs, Pt.cells, Pt.slots] at X64 l64 y64 z64 st64 hQ64
    subst l64 y64 z64
    obtain ⟨rfl, N64q, e64⟩ := hQ64
    have N64 := Fr.app N63 N64q
    refine Goal.to (B := T64.setTop (mkF m 157 #[.val (.int u0), .val (.int u1), .val (.int u2), .val (.int u3), .val (.int u4), .val (.int u5), .val (.int (5 : Int32)), .val (.int fo), .val (.int y0), .val (.int y1), .val (.int y2), .val (.int y3), .val (.int y4), .val (.ref b56), .unset] [(.int (own_one (1 : Int32) y1)), (.int (own_one (1 : Int32) y0))])) st64 ?_
    refine Goal.to (B := T64.setTop (mkF m 171 #[.val (.int u0), .val (.int u1), .val (.int u2), .val (.int u3), .val (.int u4), .val (.int u5), .val (.int (5 : Int32)), .val (.int fo), .val (.int y0), .val (.int y1), .val (.int y2), .val (.int y3), .val (.int y4), .val (.ref b56), .unset] [(.int y2), (.int (1 : Int32)), (.int ((own_one (1 : Int32) y0) + (own_one (1 : Int32) y1)))])) (fun tt kk => ?_) ?_
    · show Steps p.tables e below (T64.setTop (mkF m 157 #[.val (.int u0), .val (.int u1), .val (.int u2), .val (.int u3), .val (.int u4), .val (.int u5), .val (.int (5 : Int32)), .val (.int fo), .val (.int y0), .val (.int y1), .val (.int y2), .val (.int y3), .val (.int y4), .val (.ref b56), .unset] [(.int (own_one (1 : Int32) y1)), (.int (own_one (1 : Int32) y0))])) tt
      refine XS.iadd X64.here hx rfl (hb hby at_157) rfl ?_
      show Steps p.tables e below (T64.setTop (mkF m 158 #[.val (.int u0), .val (.int u1), .val (.int u2), .val (.int u3), .val (.int u4), .val (.int u5), .val (.int (5 : Int32)), .val (.int fo), .val (.int y0), .val (.int y1), .val (.int y2), .val (.int y3), .val (.int y4), .val (.ref b56), .unset] [(.int ((own_one (1 : Int32) y0) + (own_one (1 : Int32) y1)))])) tt
      refine XS.iload X64.here hx rfl (hb hby at_158) rfl ?_
      show Steps p.tables e below (T64.setTop (mkF m 160 #[.val (.int u0), .val (.int u1), .val (.int u2), .val (.int u3), .val (.int u4), .val (.int u5), .val (.int (5 : Int32)), .val (.int fo), .val (.int y0), .val (.int y1), .val (.int y2), .val (.int y3), .val (.int y4), .val (.ref b56), .unset] [(.int (5 : Int32)), (.int ((own_one (1 : Int32) y0) + (own_one (1 : Int32) y1)))])) tt
      refine XS.iconst X64.here hx rfl (hb hby at_160) ?_
      show Steps p.tables e below (T64.setTop (mkF m 161 #[.val (.int u0), .val (.int u1), .val (.int u2), .val (.int u3), .val (.int u4), .val (.int u5), .val (.int (5 : Int32)), .val (.int fo), .val (.int y0), .val (.int y1), .val (.int y2), .val (.int y3), .val (.int y4), .val (.ref b56), .unset] [(.int (2 : Int32)), (.int (5 : Int32)), (.int ((own_one (1 : Int32) y0) + (own_one (1 : Int32) y1)))])) tt
      refine XS.icmpNo X64.here hx rfl (hb hby at_161) rfl (tlt ((by decide) : (2 : Int32) < (5 : Int32))).2.2.2 ?_
      show Steps p.tables e below (T64.setTop (mkF m 164 #[.val (.int u0), .val (.int u1), .val (.int u2), .val (.int u3), .val (.int u4), .val (.int u5), .val (.int (5 : Int32)), .val (.int fo), .val (.int y0), .val (.int y1), .val (.int y2), .val (.int y3), .val (.int y4), .val (.ref b56), .unset] [(.int ((own_one (1 : Int32) y0) + (own_one (1 : Int32) y1)))])) tt
      refine XS.iconst X64.here hx rfl (hb hby at_164) ?_
      show Steps p.tables e below (T64.setTop (mkF m 165 #[.val (.int u0), .val (.int u1), .val (.int u2), .val (.int u3), .val (.int u4), .val (.int u5), .val (.int (5 : Int32)), .val (.int fo), .val (.int y0), .val (.int y1), .val (.int y2), .val (.int y3), .val (.int y4), .val (.ref b56), .unset] [(.int (1 : Int32)), (.int ((own_one (1 : Int32) y0) + (own_one (1 : Int32) y1)))])) tt
      refine XS.goto X64.here hx rfl (pc0 := 165) (pc' := 169) rfl (hb hby at_165) (by decide) (by decide) ?_
      show Steps p.tables e below (T64.setTop (mkF m 169 #[.val (.int u0), .val (.int u1), .val (.int u2), .val (.int u3), .val (.int u4), .val (.int u5), .val (.int (5 : Int32)), .val (.int fo), .val (.int y0), .val (.int y1), .val (.int y2), .val (.int y3), .val (.int y4), .val (.ref b56), .unset] [(.int (1 : Int32)), (.int ((own_one (1 : Int32) y0) + (own_one (1 : Int32) y1)))])) tt
      refine XS.iload X64.here hx rfl (hb hby at_169) rfl ?_
      exact kk
    obtain ⟨_, _, ⟨T65, L65, k65, n65⟩, -, X65, ⟨Lc65, hQ65, l65, y65, z65⟩, st65⟩ := Jvm.LawKit.callS X64 hx (y := (⟨"com/example/purloin/runner/PdfsReachedPinLaw", "one", "(ZI)I"⟩ : MethodName)) hown (mvT hZ (hw _ (mw 5 rfl))) (mvT hZ (hw _ (mw 6 rfl))) (mvT hZ (hw _ (mw 2 rfl))) (mvT hZ (hw _ (mw 7 rfl))) (by decide) (backOf (W := 1) (rmo l Z a0 hw [] (1 : Int32) y2 h61 n0 f62 ) hZ (hw _ (mw 7 rfl)) (hw _ (mw 2 rfl)) (by decide) (by decide)) (g := (mkF m 171 #[.val (.int u0), .val (.int u1), .val (.int u2), .val (.int u3), .val (.int u4), .val (.int u5), .val (.int (5 : Int32)), .val (.int fo), .val (.int y0), .val (.int y1), .val (.int y2), .val (.int y3), .val (.int y4), .val (.ref b56), .unset] [(.int y2), (.int (1 : Int32)), (.int ((own_one (1 : Int32) y0) + (own_one (1 : Int32) y1)))])) rfl (by rw [hml]; rfl) (argsL := [(.int (1 : Int32)), (.int y2)]) (rest := [(.int ((own_one (1 : Int32) y0) + (own_one (1 : Int32) y1)))]) (lenOf pd_1 rfl) rfl (by show 2 * 0 + _ ≤ _; exact Nat.le_of_eq rfl) (hb hby at_171) (fun _ _ => ⟨rfl, e64, (by decide : 1 + 0 ≤ _), (by decide : 5 + 0 ≤ _)⟩)
    dsimp only [Pt.U, Pt.locs, Pt.cells, Pt.slots] at X65 l65 y65 z65 st65 hQ65
    subst l65 y65 z65
    obtain ⟨rfl, N65q, e65⟩ := hQ65
    have N65 := Fr.app N64 N65q
    refine Goal.to (B := T65.setTop (mkF m 174 #[.val (.int u0), .val (.int u1), .val (.int u2), .val (.int u3), .val (.int u4), .val (.int u5), .val (.int (5 : Int32)), .val (.int fo), .val (.int y0), .val (.int y1), .val (.int y2), .val (.int y3), .val (.int y4), .val (.ref b56), .unset] [(.int (own_one (1 : Int32) y2)), (.int ((own_one (1 : Int32) y0) + (own_one (1 : Int32) y1)))])) st65 ?_
    refine Goal.to (B := T65.setTop (mkF m 188 #[.val (.int u0), .val (.int u1), .val (.int u2), .val (.int u3), .val (.int u4), .val (.int u5), .val (.int (5 : Int32)), .val (.int fo), .val (.int y0), .val (.int y1), .val (.int y2), .val (.int y3), .val (.int y4), .val (.ref b56), .unset] [(.int y3), (.int (1 : Int32)), (.int (((own_one (1 : Int32) y0) + (own_one (1 : Int32) y1)) + (own_one (1 : Int32) y2)))])) (fun tt kk => ?_) ?_
    · show Steps p.tables e below (T65.setTop (mkF m 174 #[.val (.int u0), .val (.int u1), .val (.int u2), .val (.int u3), .val (.int u4), .val (.int u5), .val (.int (5 : Int32)), .val (.int fo), .val (.int y0), .val (.int y1), .val (.int y2), .val (.int y3), .val (.int y4), .val (.ref b56), .unset] [(.int (own_one (1 : Int32) y2)), (.int ((own_one (1 : Int32) y0) + (own_one (1 : Int32) y1)))])) tt
      refine XS.iadd X65.here hx rfl (hb hby at_174) rfl ?_
      show Steps p.tables e below (T65.setTop (mkF m 175 #[.val (.int u0), .val (.int u1), .val (.int u2), .val (.int u3), .val (.int u4), .val (.int u5), .val (.int (5 : Int32)), .val (.int fo), .val (.int y0), .val (.int y1), .val (.int y2), .val (.int y3), .val (.int y4), .val (.ref b56), .unset] [(.int (((own_one (1 : Int32) y0) + (own_one (1 : Int32) y1)) + (own_one (1 : Int32) y2)))])) tt
      refine XS.iload X65.here hx rfl (hb hby at_175) rfl ?_
      show Steps p.tables e below (T65.setTop (mkF m 177 #[.val (.int u0), .val (.int u1), .val (.int u2), .val (.int u3), .val (.int u4), .val (.int u5), .val (.int (5 : Int32)), .val (.int fo), .val (.int y0), .val (.int y1), .val (.int y2), .val (.int y3), .val (.int y4), .val (.ref b56), .unset] [(.int (5 : Int32)), (.int (((own_one (1 : Int32) y0) + (own_one (1 : Int32) y1)) + (own_one (1 : Int32) y2)))])) tt
      refine XS.iconst X65.here hx rfl (hb hby at_177) ?_
      show Steps p.tables e below (T65.setTop (mkF m 178 #[.val (.int u0), .val (.int u1), .val (.int u2), .val (.int u3), .val (.int u4), .val (.int u5), .val (.int (5 : Int32)), .val (.int fo), .val (.int y0), .val (.int y1), .val (.int y2), .val (.int y3), .val (.int y4), .val (.ref b56), .unset] [(.int (3 : Int32)), (.int (5 : Int32)), (.int (((own_one (1 : Int32) y0) + (own_one (1 : Int32) y1)) + (own_one (1 : Int32) y2)))])) tt
      refine XS.icmpNo X65.here hx rfl (hb hby at_178) rfl (tlt ((by decide) : (3 : Int32) < (5 : Int32))).2.2.2 ?_
      show Steps p.tables e below (T65.setTop (mkF m 181 #[.val (.int u0), .val (.int u1), .val (.int u2), .val (.int u3), .val (.int u4), .val (.int u5), .val (.int (5 : Int32)), .val (.int fo), .val (.int y0), .val (.int y1), .val (.int y2), .val (.int y3), .val (.int y4), .val (.ref b56), .unset] [(.int (((own_one (1 : Int32) y0) + (own_one (1 : Int32) y1)) + (own_one (1 : Int32) y2)))])) tt
      refine XS.iconst X65.here hx rfl (hb hby at_181) ?_
      show Steps p.tables e below (T65.setTop (mkF m 182 #[.val (.int u0), .val (.int u1), .val (.int u2), .val (.int u3), .val (.int u4), .val (.int u5), .val (.int (5 : Int32)), .val (.int fo), .val (.int y0), .val (.int y1), .val (.int y2), .val (.int y3), .val (.int y4), .val (.ref b56), .unset] [(.int (1 : Int32)), (.int (((own_one (1 : Int32) y0) + (own_one (1 : Int32) y1)) + (own_one (1 : Int32) y2)))])) tt
      refine XS.goto X65.here hx rfl (pc0 := 182) (pc' := 186) rfl (hb hby at_182) (by decide) (by decide) ?_
      show Steps p.tables e below (T65.setTop (mkF m 186 #[.val (.int u0), .val (.int u1), .val (.int u2), .val (.int u3), .val (.int u4), .val (.int u5), .val (.int (5 : Int32)), .val (.int fo), .val (.int y0), .val (.int y1), .val (.int y2), .val (.int y3), .val (.int y4), .val (.ref b56), .unset] [(.int (1 : Int32)), (.int (((own_one (1 : Int32) y0) + (own_one (1 : Int32) y1)) + (own_one (1 : Int32) y2)))])) tt
      refine XS.iload X65.here hx rfl (hb hby at_186) rfl ?_
      exact kk
    obtain ⟨_, _, ⟨T66, L66, k66, n66⟩, -, X66, ⟨Lc66, hQ66, l66, y66, z66⟩, st66⟩ := Jvm.LawKit.callS X65 hx (y := (⟨"com/example/purloin/runner/PdfsReachedPinLaw", "one", "(ZI)I"⟩ : MethodName)) hown (mvT hZ (hw _ (mw 5 rfl))) (mvT hZ (hw _ (mw 6 rfl))) (mvT hZ (hw _ (mw 2 rfl))) (mvT hZ (hw _ (mw 7 rfl))) (by decide) (backOf (W := 1) (rmo l Z a0 hw [] (1 : Int32) y3 h61 n0 f62 ) hZ (hw _ (mw 7 rfl)) (hw _ (mw 2 rfl)) (by decide) (by decide)) (g := (mkF m 188 #[.val (.int u0), .val (.int u1), .val (.int u2), .val (.int u3), .val (.int u4), .val (.int u5), .val (.int (5 : Int32)), .val (.int fo), .val (.int y0), .val (.int y1), .val (.int y2), .val (.int y3), .val (.int y4), .val (.ref b56), .unset] [(.int y3), (.int (1 : Int32)), (.int (((own_one (1 : Int32) y0) + (own_one (1 : Int32) y1)) + (own_one (1 : Int32) y2)))])) rfl (by rw [hml]; rfl) (argsL := [(.int (1 : Int32)), (.int y3)]) (rest := [(.int (((own_one (1 : Int32) y0) + (own_one (1 : Int32) y1)) + (own_one (1 : Int32) y2)))]) (lenOf pd_1 rfl) rfl (by show 2 * 0 + _ ≤ _; exact Nat.le_of_eq rfl) (hb hby at_188) (fun _ _ => ⟨rfl, e65, (by decide : 1 + 0 ≤ _), (by decide : 5 + 0 ≤ _)⟩)
    dsimp only [Pt.U, Pt.locs, Pt.cells, Pt.slots] at X66 l66 y66 z66 st66 hQ66
    subst l66 y66 z66
    obtain ⟨rfl, N66q, e66⟩ := hQ66
    have N66 := Fr.app N65 N66q
    refine Goal.to (B := T66.setTop (mkF m 191 #[.val (.int u0), .val (.int u1), .val (.int u2), .val (.int u3), .val (.int u4), .val (.int u5), .val (.int (5 : Int32)), .val (.int fo), .val (.int y0), .val (.int y1), .val (.int y2), .val (.int y3), .val (.int y4), .val (.ref b56), .unset] [(.int (own_one (1 : Int32) y3)), (.int (((own_one (1 : Int32) y0) + (own_one (1 : Int32) y1)) + (own_one (1 : Int32) y2)))])) st66 ?_
    refine Goal.to (B := T66.setTop (mkF m 205 #[.val (.int u0), .val (.int u1), .val (.int u2), .val (.int u3), .val (.int u4), .val (.int u5), .val (.int (5 : Int32)), .val (.int fo), .val (.int y0), .val (.int y1), .val (.int y2), .val (.int y3), .val (.int y4), .val (.ref b56), .unset] [(.int y4), (.int (1 : Int32)), (.int ((((own_one (1 : Int32) y0) + (own_one (1 : Int32) y1)) + (own_one (1 : Int32) y2)) + (own_one (1 : Int32) y3)))])) (fun tt kk => ?_) ?_
    · show Steps p.tables e below (T66.setTop (mkF m 191 #[.val (.int u0), .val (.int u1), .val (.int u2), .val (.int u3), .val (.int u4), .val (.int u5), .val (.int (5 : Int32)), .val (.int fo), .val (.int y0), .val (.int y1), .val (.int y2), .val (.int y3), .val (.int y4), .val (.ref b56), .unset] [(.int (own_one (1 : Int32) y3)), (.int (((own_one (1 : Int32) y0) + (own_one (1 : Int32) y1)) + (own_one (1 : Int32) y2)))])) tt
      refine XS.iadd X66.here hx rfl (hb hby at_191) rfl ?_
      show Steps p.tables e below (T66.setTop (mkF m 192 #[.val (.int u0), .val (.int u1), .val (.int u2), .val (.int u3), .val (.int u4), .val (.int u5), .val (.int (5 : Int32)), .val (.int fo), .val (.int y0), .val (.int y1), .val (.int y2), .val (.int y3), .val (.int y4), .val (.ref b56), .unset] [(.int ((((own_one (1 : Int32) y0) + (own_one (1 : Int32) y1)) + (own_one (1 : Int32) y2)) + (own_one (1 : Int32) y3)))])) tt
      refine XS.iload X66.here hx rfl (hb hby at_192) rfl ?_
      show Steps p.tables e below (T66.setTop (mkF m 194 #[.val (.int u0), .val (.int u1), .val (.int u2), .val (.int u3), .val (.int u4), .val (.int u5), .val (.int (5 : Int32)), .val (.int fo), .val (.int y0), .val (.int y1), .val (.int y2), .val (.int y3), .val (.int y4), .val (.ref b56), .unset] [(.int (5 : Int32)), (.int ((((own_one (1 : Int32) y0) + (own_one (1 : Int32) y1)) + (own_one (1 : Int32) y2)) + (own_one (1 : Int32) y3)))])) tt
      refine XS.iconst X66.here hx rfl (hb hby at_194) ?_
      show Steps p.tables e below (T66.setTop (mkF m 195 #[.val (.int u0), .val (.int u1), .val (.int u2), .val (.int u3), .val (.int u4), .val (.int u5), .val (.int (5 : Int32)), .val (.int fo), .val (.int y0), .val (.int y1), .val (.int y2), .val (.int y3), .val (.int y4), .val (.ref b56), .unset] [(.int (4 : Int32)), (.int (5 : Int32)), (.int ((((own_one (1 : Int32) y0) + (own_one (1 : Int32) y1)) + (own_one (1 : Int32) y2)) + (own_one (1 : Int32) y3)))])) tt
      refine XS.icmpNo X66.here hx rfl (hb hby at_195) rfl (tlt ((by decide) : (4 : Int32) < (5 : Int32))).2.2.2 ?_
      show Steps p.tables e below (T66.setTop (mkF m 198 #[.val (.int u0), .val (.int u1), .val (.int u2), .val (.int u3), .val (.int u4), .val (.int u5), .val (.int (5 : Int32)), .val (.int fo), .val (.int y0), .val (.int y1), .val (.int y2), .val (.int y3), .val (.int y4), .val (.ref b56), .unset] [(.int ((((own_one (1 : Int32) y0) + (own_one (1 : Int32) y1)) + (own_one (1 : Int32) y2)) + (own_one (1 : Int32) y3)))])) tt
      refine XS.iconst X66.here hx rfl (hb hby at_198) ?_
      show Steps p.tables e below (T66.setTop (mkF m 199 #[.val (.int u0), .val (.int u1), .val (.int u2), .val (.int u3), .val (.int u4), .val (.int u5), .val (.int (5 : Int32)), .val (.int fo), .val (.int y0), .val (.int y1), .val (.int y2), .val (.int y3), .val (.int y4), .val (.ref b56), .unset] [(.int (1 : Int32)), (.int ((((own_one (1 : Int32) y0) + (own_one (1 : Int32) y1)) + (own_one (1 : Int32) y2)) + (own_one (1 : Int32) y3)))])) tt
      refine XS.goto X66.here hx rfl (pc0 := 199) (pc' := 203) rfl (hb hby at_199) (by decide) (by decide) ?_
      show Steps p.tables e below (T66.setTop (mkF m 203 #[.val (.int u0), .val (.int u1), .val (.int u2), .val (.int u3), .val (.int u4), .val (.int u5), .val (.int (5 : Int32)), .val (.int fo), .val (.int y0), .val (.int y1), .val (.int y2), .val (.int y3), .val (.int y4), .val (.ref b56), .unset] [(.int (1 : Int32)), (.int ((((own_one (1 : Int32) y0) + (own_one (1 : Int32) y1)) + (own_one (1 : Int32) y2)) + (own_one (1 : Int32) y3)))])) tt
      refine XS.iload X66.here hx rfl (hb hby at_203) rfl ?_
      exact kk
    obtain ⟨_, _, ⟨T67, L67, k67, n67⟩, -, X67, ⟨Lc67, hQ67, l67, y67, z67⟩, st67⟩ := Jvm.LawKit.callS X66 hx (y := (⟨"com/example/purloin/runner/PdfsReachedPinLaw", "one", "(ZI)I"⟩ : MethodName)) hown (mvT hZ (hw _ (mw 5 rfl))) (mvT hZ (hw _ (mw 6 rfl))) (mvT hZ (hw _ (mw 2 rfl))) (mvT hZ (hw _ (mw 7 rfl))) (by decide) (backOf (W := 1) (rmo l Z a0 hw [] (1 : Int32) y4 h61 n0 f62 ) hZ (hw _ (mw 7 rfl)) (hw _ (mw 2 rfl)) (by decide) (by decide)) (g := (mkF m 205 #[.val (.int u0), .val (.int u1), .val (.int u2), .val (.int u3), .val (.int u4), .val (.int u5), .val (.int (5 : Int32)), .val (.int fo), .val (.int y0), .val (.int y1), .val (.int y2), .val (.int y3), .val (.int y4), .val (.ref b56), .unset] [(.int y4), (.int (1 : Int32)), (.int ((((own_one (1 : Int32) y0) + (own_one (1 : Int32) y1)) + (own_one (1 : Int32) y2)) + (own_one (1 : Int32) y3)))])) rfl (by rw [hml]; rfl) (argsL := [(.int (1 : Int32)), (.int y4)]) (rest := [(.int ((((own_one (1 : Int32) y0) + (own_one (1 : Int32) y1)) + (own_one (1 : Int32) y2)) + (own_one (1 : Int32) y3)))]) (lenOf pd_1 rfl) rfl (by show 2 * 0 + _ ≤ _; exact Nat.le_of_eq rfl) (hb hby at_205) (fun _ _ => ⟨rfl, e66, (by decide : 1 + 0 ≤ _), (by decide : 5 + 0 ≤ _)⟩)
    dsimp only [Pt.U, Pt.locs, Pt.cells, Pt.slots] at X67 l67 y67 z67 st67 hQ67
    subst l67 y67 z67
    obtain ⟨rfl, N67q, e67⟩ := hQ67
    have N67 := Fr.app N66 N67q
    refine Goal.to (B := T67.setTop (mkF m 208 #[.val (.int u0), .val (.int u1), .val (.int u2), .val (.int u3), .val (.int u4), .val (.int u5), .val (.int (5 : Int32)), .val (.int fo), .val (.int y0), .val (.int y1), .val (.int y2), .val (.int y3), .val (.int y4), .val (.ref b56), .unset] [(.int (own_one (1 : Int32) y4)), (.int ((((own_one (1 : Int32) y0) + (own_one (1 : Int32) y1)) + (own_one (1 : Int32) y2)) + (own_one (1 : Int32) y3)))])) st67 ?_
    refine Goal.to (B := T67.setTop (mkF m 213 #[.val (.int u0), .val (.int u1), .val (.int u2), .val (.int u3), .val (.int u4), .val (.int u5), .val (.int (5 : Int32)), .val (.int fo), .val (.int y0), .val (.int y1), .val (.int y2), .val (.int y3), .val (.int y4), .val (.ref b56), .val (.int (((((own_one (1 : Int32) y0) + (own_one (1 : Int32) y1)) + (own_one (1 : Int32) y2)) + (own_one (1 : Int32) y3)) + (own_one (1 : Int32) y4)))] [(.ref b56)])) (fun tt kk => ?_) ?_
    · show Steps p.tables e below (T67.setTop (mkF m 208 #[.val (.int u0), .val (.int u1), .val (.int u2), .val (.int u3), .val (.int u4), .val (.int u5), .val (.int (5 : Int32)), .val (.int fo), .val (.int y0), .val (.int y1), .val (.int y2), .val (.int y3), .val (.int y4), .val (.ref b56), .unset] [(.int (own_one (1 : Int32) y4)), (.int ((((own_one (1 : Int32) y0) + (own_one (1 : Int32) y1)) + (own_one (1 : Int32) y2)) + (own_one (1 : Int32) y3)))])) tt
      refine XS.iadd X67.here hx rfl (hb hby at_208) rfl ?_
      show Steps p.tables e below (T67.setTop (mkF m 209 #[.val (.int u0), .val (.int u1), .val (.int u2), .val (.int u3), .val (.int u4), .val (.int u5), .val (.int (5 : Int32)), .val (.int fo), .val (.int y0), .val (.int y1), .val (.int y2), .val (.int y3), .val (.int y4), .val (.ref b56), .unset] [(.int (((((own_one (1 : Int32) y0) + (own_one (1 : Int32) y1)) + (own_one (1 : Int32) y2)) + (own_one (1 : Int32) y3)) + (own_one (1 : Int32) y4)))])) tt
      refine XS.istore X67.here hx rfl (hb hby at_209) rfl (l' := #[.val (.int u0), .val (.int u1), .val (.int u2), .val (.int u3), .val (.int u4), .val (.int u5), .val (.int (5 : Int32)), .val (.int fo), .val (.int y0), .val (.int y1), .val (.int y2), .val (.int y3), .val (.int y4), .val (.ref b56), .val (.int (((((own_one (1 : Int32) y0) + (own_one (1 : Int32) y1)) + (own_one (1 : Int32) y2)) + (own_one (1 : Int32) y3)) + (own_one (1 : Int32) y4)))]) rfl ?_
      show Steps p.tables e below (T67.setTop (mkF m 211 #[.val (.int u0), .val (.int u1), .val (.int u2), .val (.int u3), .val (.int u4), .val (.int u5), .val (.int (5 : Int32)), .val (.int fo), .val (.int y0), .val (.int y1), .val (.int y2), .val (.int y3), .val (.int y4), .val (.ref b56), .val (.int (((((own_one (1 : Int32) y0) + (own_one (1 : Int32) y1)) + (own_one (1 : Int32) y2)) + (own_one (1 : Int32) y3)) + (own_one (1 : Int32) y4)))] [])) tt
      refine XS.aload X67.here hx rfl (hb hby at_211) rfl rfl ?_
      exact kk
    obtain ⟨_, _, ⟨T68, L68, k68, n68⟩, -, X68, ⟨Lc68, hQ68, l68, y68, z68⟩, st68⟩ := Jvm.LawKit.callS X67 hx (y := (⟨"com/example/purloin/runner/Pdfs", "reached", "([I)I"⟩ : MethodName)) hown (mvT hZ (hw _ (mw 8 rfl))) (mvT hZ (hw _ (mw 9 rfl))) (mvT hZ (hw _ (mw 10 rfl))) (mvT hZ (hw _ (mw 11 rfl))) (by decide) (backOf (W := 0) (rmr5 l Z a0 hw [] b56 y0 y1 y2 y3 y4 h61 n0 f62 V61) hZ (hw _ (mw 11 rfl)) (hw _ (mw 10 rfl)) (by decide) (by decide)) (g := (mkF m 213 #[.val (.int u0), .val (.int u1), .val (.int u2), .val (.int u3), .val (.int u4), .val (.int u5), .val (.int (5 : Int32)), .val (.int fo), .val (.int y0), .val (.int y1), .val (.int y2), .val (.int y3), .val (.int y4), .val (.ref b56), .val (.int (((((own_one (1 : Int32) y0) + (own_one (1 : Int32) y1)) + (own_one (1 : Int32) y2)) + (own_one (1 : Int32) y3)) + (own_one (1 : Int32) y4)))] [(.ref b56)])) rfl (by rw [hml]; rfl) (argsL := [(.ref b56)]) (rest := []) (lenOf pd_2 rfl) rfl (by show 2 * 0 + _ ≤ _; exact Nat.le_of_eq rfl) (hb hby at_213) (fun _ _ => ⟨rfl, e67, (by decide : 1 + 0 ≤ _), (by decide : 5 + 0 ≤ _)⟩)
    dsimp only [Pt.U, Pt.locs, Pt.cells, Pt.slots] at X68 l68 y68 z68 st68 hQ68
    subst l68 y68 z68
    obtain ⟨rfl, N68q, e68⟩ := hQ68
    have N68 := Fr.app N67 N68q
    refine Goal.to (B := T68.setTop (mkF m 216 #[.val (.int u0), .val (.int u1), .val (.int u2), .val (.int u3), .val (.int u4), .val (.int u5), .val (.int (5 : Int32)), .val (.int fo), .val (.int y0), .val (.int y1), .val (.int y2), .val (.int y3), .val (.int y4), .val (.ref b56), .val (.int (((((own_one (1 : Int32) y0) + (own_one (1 : Int32) y1)) + (own_one (1 : Int32) y2)) + (own_one (1 : Int32) y3)) + (own_one (1 : Int32) y4)))] [(.int (own_add (own_add (own_add (own_add (own_add (0 : Int32) y0) y1) y2) y3) y4))])) st68 ?_
    refine Goal.to (B := T68.setTop (mkF m 226 #[.val (.int u0), .val (.int u1), .val (.int u2), .val (.int u3), .val (.int u4), .val (.int u5), .val (.int (5 : Int32)), .val (.int fo), .val (.int y0), .val (.int y1), .val (.int y2), .val (.int y3), .val (.int y4), .val (.ref b56), .val (.int (((((own_one (1 : Int32) y0) + (own_one (1 : Int32) y1)) + (own_one (1 : Int32) y2)) + (own_one (1 : Int32) y3)) + (own_one (1 : Int32) y4)))] [(.int (1 : Int32))])) (fun tt kk => ?_) ?_
    · show Steps p.tables e below (T68.setTop (mkF m 216 #[.val (.int u0), .val (.int u1), .val (.int u2), .val (.int u3), .val (.int u4), .val (.int u5), .val (.int (5 : Int32)), .val (.int fo), .val (.int y0), .val (.int y1), .val (.int y2), .val (.int y3), .val (.int y4), .val (.ref b56), .val (.int (((((own_one (1 : Int32) y0) + (own_one (1 : Int32) y1)) + (own_one (1 : Int32) y2)) + (own_one (1 : Int32) y3)) + (own_one (1 : Int32) y4)))] [(.int (own_add (own_add (own_add (own_add (own_add (0 : Int32) y0) y1) y2) y3) y4))])) tt
      refine XS.iload X68.here hx rfl (hb hby at_216) rfl ?_
      show Steps p.tables e below (T68.setTop (mkF m 218 #[.val (.int u0), .val (.int u1), .val (.int u2), .val (.int u3), .val (.int u4), .val (.int u5), .val (.int (5 : Int32)), .val (.int fo), .val (.int y0), .val (.int y1), .val (.int y2), .val (.int y3), .val (.int y4), .val (.ref b56), .val (.int (((((own_one (1 : Int32) y0) + (own_one (1 : Int32) y1)) + (own_one (1 : Int32) y2)) + (own_one (1 : Int32) y3)) + (own_one (1 : Int32) y4)))] [(.int (((((own_one (1 : Int32) y0) + (own_one (1 : Int32) y1)) + (own_one (1 : Int32) y2)) + (own_one (1 : Int32) y3)) + (own_one (1 : Int32) y4))), (.int (own_add (own_add (own_add (own_add (own_add (0 : Int32) y0) y1) y2) y3) y4))])) tt
      refine XS.icmpNo X68.here hx rfl (hb hby at_218) rfl (teq (by simp only [own_addE, own_one0, Int32.zero_add, Int32.add_zero] : (own_add (own_add (own_add (own_add (own_add (0 : Int32) y0) y1) y2) y3) y4) = (((((own_one (1 : Int32) y0) + (own_one (1 : Int32) y1)) + (own_one (1 : Int32) y2)) + (own_one (1 : Int32) y3)) + (own_one (1 : Int32) y4)))).2 ?_
      show Steps p.tables e below (T68.setTop (mkF m 221 #[.val (.int u0), .val (.int u1), .val (.int u2), .val (.int u3), .val (.int u4), .val (.int u5), .val (.int (5 : Int32)), .val (.int fo), .val (.int y0), .val (.int y1), .val (.int y2), .val (.int y3), .val (.int y4), .val (.ref b56), .val (.int (((((own_one (1 : Int32) y0) + (own_one (1 : Int32) y1)) + (own_one (1 : Int32) y2)) + (own_one (1 : Int32) y3)) + (own_one (1 : Int32) y4)))] [])) tt
      refine XS.iconst X68.here hx rfl (hb hby at_221) ?_
      show Steps p.tables e below (T68.setTop (mkF m 222 #[.val (.int u0), .val (.int u1), .val (.int u2), .val (.int u3), .val (.int u4), .val (.int u5), .val (.int (5 : Int32)), .val (.int fo), .val (.int y0), .val (.int y1), .val (.int y2), .val (.int y3), .val (.int y4), .val (.ref b56), .val (.int (((((own_one (1 : Int32) y0) + (own_one (1 : Int32) y1)) + (own_one (1 : Int32) y2)) + (own_one (1 : Int32) y3)) + (own_one (1 : Int32) y4)))] [(.int (1 : Int32))])) tt
      refine XS.goto X68.here hx rfl (pc0 := 222) (pc' := 226) rfl (hb hby at_222) (by decide) (by decide) ?_
      exact kk
    exact Goal.retV X68 hx Bd.returns rfl (Or.inl ⟨rfl, Or.inr (Or.inl rfl), _, rfl⟩) (hb hby at_226) hlk e68 ⟨rfl, N68⟩ (by decide) (by decide)
set_option maxRecDepth 65536 in
set_option maxHeartbeats 40000000 in
theorem comes_1 {Post : Tables → Env → Array Value → State → Outcome → State → Prop} (hpost : ∀ tb e args s v u, (limb_1_1.after args s (.returned v) u = true ∧ limb_1_2.after args s (.returned v) u = true ∧ True) → FrameEnd s (.returned v) u (Jvm.fieldLocs frame_1_writes args s ++ Jvm.arrayLocs frame_1_arrays args s ++ Jvm.staticLocs frame_1_statics s) 16 128 → Post tb e args s (.returned v) u) :
    ArmFor flags0 classFile x code maxLocals ret World_1 tables_1 room_1 Calls_1 rest_1 Pre_1 Post := by
  intro l hfl _ _ p e ha hc hk s m args below hf hA hF happ hP
  obtain ⟨hcalls, hrest, hpre⟩ := hP
  obtain ⟨-, -, -, hnamed, -, -, -, hat⟩ := (Spec.applies_iff hf).mp happ
  obtain ⟨hg, hn⟩ := and_e (Cond.before_iff.mp (show (Jvm.Cond.and given_1 narrow_1).before args s = true from hpre))
  obtain ⟨u1, u2⟩ := and_e hg
  obtain ⟨u3, u4⟩ := and_e u2
  obtain ⟨u5, u6⟩ := and_e u4
  obtain ⟨u7, u8⟩ := and_e u6
  obtain ⟨u9, u10⟩ := and_e u8
  obtain ⟨u11, u12⟩ := and_e u10
  obtain ⟨w0, w1, w2, w3, w4, w5, rfl⟩ : ∃ w0 w1 w2 w3 w4 w5 : Value, args = #[w0, w1, w2, w3, w4, w5] := by
    have hs : args.size = 6 := by simpa [Cond.value, given_1] using u1
    obtain ⟨L⟩ := args
    match L, hs with
    | [w0, w1, w2, w3, w4, w5], _ => exact ⟨w0, w1, w2, w3, w4, w5, rfl⟩
  have hw := fun d (hd : d ∈ tables_1) => atoms_spec (ws := Jvm.Cond.code x code maxLocals ret :: tables_1) hat d (List.mem_cons_of_mem _ hd)
  obtain ⟨i0, ei0⟩ := is_v u3
  obtain rfl : w0 = (.int i0) := Option.some.inj ei0
  obtain ⟨i1, ei1⟩ := is_v u5
  obtain rfl : w1 = (.int i1) := Option.some.inj ei1
  obtain ⟨i2, ei2⟩ := is_v u7
  obtain rfl : w2 = (.int i2) := Option.some.inj ei2
  obtain ⟨i3, ei3⟩ := is_v u9
  obtain rfl : w3 = (.int i3) := Option.some.inj ei3
  obtain ⟨i4, ei4⟩ := is_v u11
  obtain rfl : w4 = (.int i4) := Option.some.inj ei4
  obtain ⟨i5, ei5⟩ := is_v u12
  obtain rfl : w5 = (.int i5) := Option.some.inj ei5
  obtain ⟨n, o, h1, h2, h3, _, L, rfl, ⟨rfl, N⟩, hq⟩ := rm0 l s _ hw tables_1 i0 i1 i2 i3 i4 i5 s.heap s.heap.size (Nat.le_refl _)  p e ha hc hk s m _ below hf ((Spec.applies_iff_loose hf).mp happ).1 ⟨rfl, State.Warmed39.refl s, rfl⟩ trivial
  refine ⟨n, _, h1, h2, h3, hpost _ _ _ _ _ _ ⟨Cond.after_iff.mpr rfl, Cond.after_iff.mpr (eq_i res_at (Term.int_eval (1)) rfl), trivial⟩ ⟨hq.1, hq.2.1, (hq.2.2.sift fun y hy => Or.inr (N y hy)).mono (by decide) (by decide)⟩⟩
theorem main_1_1 : Claimed_1_1 := comes_1 fun _ _ _ _ _ _ h hF => ⟨h.1, hF⟩
theorem main_1_2 : Claimed_1_2 := comes_1 fun _ _ _ _ _ _ h hF => ⟨h.2.1, hF⟩
end Jvm.Pilot.@@N@@
namespace Jvm.Pilot.@@N@@
open Jvm Jvm.ClassFile Sem Op Lib Jvm.Free Jvm.Stand Jvm.Pilot.@@N@@.Jvm.D
/-! MADE BY PROGRAM (witnessworld.py) out of the Statement's table words and the real class files: 9 classes; the members and pool entries that the words name. The judged class is class 1, her method 1. -/
namespace start1
open Jvm.ClassFile
def u (s : String) : CpInfo := .utf8 (stringToUtf16 s)
/-- a pool by its gaps: so many unusable entries, then the entry; so many at the end -/
def gap : Nat → List CpInfo → List CpInfo
  | 0, r => r
  | n + 1, r => .unusable :: gap n r
def poolList (es : List (Nat × CpInfo)) (last : Nat) : List CpInfo := es.foldr (fun e r => gap e.1 (e.2 :: r)) (gap last [])
def pool (es : List (Nat × CpInfo)) (last : Nat) : Array CpInfo := ⟨poolList es last⟩
def fileOf (pool : Array CpInfo) (this : Nat) (attrs : Array Attribute := #[]) (ms : Array MethodInfo := #[]) (fl : Nat := 33) (sup : Nat := 0) (ifs : Array Nat := #[]) (fds : Array FieldInfo := #[]) : ClassFile where
  minorVersion := 0
  majorVersion := 65
  constantPool := pool
  accessFlags := fl
  thisClass := this
  superClass := sup
  interfaces := ifs
  fields := fds
  methods := ms
  attributes := attrs
def plain (name : String) (sup : Option ClassId) : Class where
  name := name
  kind := .ordinary
  loader := none
  accessFlags := 33
  super := sup
  interfaces := #[]
  cf := none
  fields := #[]
  methods := #[]
  instanceTypes := #[]
  staticTypes := #[]
  resolved := #[]
  callSites := []
  init := .initialized
  statics := none
  mirror := none

def pool0 : Array CpInfo := pool [(5, u "<init>"), (0, u "()V"), (1, .class_ 10), (1, u "java/lang/Object")] 113

def k0m0 : Method := { name := "<init>", desc := "()V", sig := { parameters := [], returnType := none }, accessFlags := 1, code := none }
/-- java/lang/Object -/
def k0 : Class := { plain "java/lang/Object" none with
  accessFlags := 33
  interfaces := #[]
  cf := some (fileOf pool0 8 #[] #[{ accessFlags := 1, nameIndex := 5, descriptorIndex := 6, attributes := #[] }] 33 0 #[] #[])
  fields := #[]
  methods := #[k0m0]
  instanceTypes := #[]
  staticTypes := #[]
  resolved := Array.replicate 124 none
  statics := none }

def pool1 : Array CpInfo := pool [(2, .class_ 4), (1, u "java/lang/Object"), (0, u "<init>"), (0, u "()V"), (0, .methodref 8 9), (0, .class_ 10), (0, .nameAndType 11 12), (0, u "com/example/purloin/runner/PdfsReachedPinLaw"), (0, u "pick"), (0, u "(III)I"), (0, .methodref 8 14), (0, .nameAndType 15 16), (0, u "one"), (0, u "(ZI)I"), (0, .methodref 18 19), (0, .class_ 20), (0, .nameAndType 21 22), (0, u "com/example/purloin/runner/Pdfs"), (0, u "reached"), (0, u "([I)I"), (2, u "law"), (0, u "(IIIIII)Z")] 5

def k1m0 : Method := { name := "<init>", desc := "()V", sig := { parameters := [], returnType := none }, accessFlags := 1, code := none }
def k1c1 : Code := { maxStack := 3, maxLocals := 15, code := code, exceptionTable := #[], attributes := #[] }
def k1m1 : Method := { name := "law", desc := "(IIIIII)Z", sig := { parameters := [.int, .int, .int, .int, .int, .int], returnType := some .boolean }, accessFlags := 9, code := some k1c1 }
def k1c2 : Code := { maxStack := 2, maxLocals := 3, code := method_3_code, exceptionTable := #[], attributes := #[] }
def k1m2 : Method := { name := "pick", desc := "(III)I", sig := { parameters := [.int, .int, .int], returnType := some .int }, accessFlags := 10, code := some k1c2 }
def k1c3 : Code := { maxStack := 2, maxLocals := 2, code := method_4_code, exceptionTable := #[], attributes := #[] }
def k1m3 : Method := { name := "one", desc := "(ZI)I", sig := { parameters := [.boolean, .int], returnType := some .int }, accessFlags := 10, code := some k1c3 }
/-- com/example/purloin/runner/PdfsReachedPinLaw -/
def k1 : Class := { plain "com/example/purloin/runner/PdfsReachedPinLaw" (some 0) with
  accessFlags := 49
  interfaces := #[]
  cf := some (fileOf pool1 8 #[] #[{ accessFlags := 1, nameIndex := 5, descriptorIndex := 6, attributes := #[] }, { accessFlags := 9, nameIndex := 25, descriptorIndex := 26, attributes := #[] }, { accessFlags := 10, nameIndex := 11, descriptorIndex := 12, attributes := #[] }, { accessFlags := 10, nameIndex := 15, descriptorIndex := 16, attributes := #[] }] 49 2 #[] #[])
  fields := #[]
  methods := #[k1m0, k1m1, k1m2, k1m3]
  instanceTypes := #[]
  staticTypes := #[]
  resolved := Array.replicate 32 none
  statics := none }

def pool2 : Array CpInfo := pool [(4, .class_ 6), (1, u "java/lang/Object"), (3, .class_ 12), (1, u "com/example/purloin/runner/Pdfs"), (0, u "runtime"), (0, u "Lcom/example/purloin/PurloinRuntime;"), (2, u "graph"), (0, u "Lcom/example/purloin/runner/Graph;"), (2, u "root"), (0, u "I"), (2, u "trace"), (0, u "Lcom/example/purloin/runner/Trace;"), (6, u "parents"), (0, u "[I"), (18, u "END_NAMES"), (0, u "Ljava/util/List;"), (12, u "POOLS"), (0, u "Ljava/util/Set;"), (14, u "USAGE"), (0, u "Ljava/lang/String;"), (61, .class_ 147), (0, u "com/example/purloin/runner/Pdfs$JdkSearch"), (55, u "reached"), (0, u "([I)I"), (84, u "END"), (1, u "BY_QUIESCENCE"), (3, u "NONE")] 119

def k2c0 : Code := { maxStack := 2, maxLocals := 6, code := prog_100_method_9_code, exceptionTable := #[], attributes := #[] }
def k2m0 : Method := { name := "reached", desc := "([I)I", sig := { parameters := [(.array .int)], returnType := some .int }, accessFlags := 8, code := some k2c0 }
/-- com/example/purloin/runner/Pdfs -/
def k2 : Class := { plain "com/example/purloin/runner/Pdfs" (some 0) with
  accessFlags := 48
  interfaces := #[]
  cf := some (fileOf pool2 10 #[.nestMembers #[146]] #[{ accessFlags := 8, nameIndex := 203, descriptorIndex := 204, attributes := #[] }] 48 4 #[] #[{ accessFlags := 26, nameIndex := 289, descriptorIndex := 84, attributes := #[] }, { accessFlags := 26, nameIndex := 291, descriptorIndex := 84, attributes := #[] }, { accessFlags := 26, nameIndex := 53, descriptorIndex := 54, attributes := #[] }, { accessFlags := 26, nameIndex := 67, descriptorIndex := 68, attributes := #[] }, { accessFlags := 26, nameIndex := 83, descriptorIndex := 84, attributes := #[] }, { accessFlags := 24, nameIndex := 295, descriptorIndex := 22, attributes := #[] }, { accessFlags := 18, nameIndex := 13, descriptorIndex := 14, attributes := #[] }, { accessFlags := 18, nameIndex := 17, descriptorIndex := 18, attributes := #[] }, { accessFlags := 18, nameIndex := 21, descriptorIndex := 22, attributes := #[] }, { accessFlags := 18, nameIndex := 25, descriptorIndex := 26, attributes := #[] }, { accessFlags := 18, nameIndex := 33, descriptorIndex := 34, attributes := #[] }])
  fields := #[{ name := "END", type := (.object "java/lang/String"), accessFlags := 26, slot := 0, constantValue := 0 }, { name := "BY_QUIESCENCE", type := (.object "java/lang/String"), accessFlags := 26, slot := 1, constantValue := 0 }, { name := "END_NAMES", type := (.object "java/util/List"), accessFlags := 26, slot := 2, constantValue := 0 }, { name := "POOLS", type := (.object "java/util/Set"), accessFlags := 26, slot := 3, constantValue := 0 }, { name := "USAGE", type := (.object "java/lang/String"), accessFlags := 26, slot := 4, constantValue := 0 }, { name := "NONE", type := .int, accessFlags := 24, slot := 5, constantValue := 0 }, { name := "runtime", type := (.object "com/example/purloin/PurloinRuntime"), accessFlags := 18, slot := 0, constantValue := 0 }, { name := "graph", type := (.object "com/example/purloin/runner/Graph"), accessFlags := 18, slot := 1, constantValue := 0 }, { name := "root", type := .int, accessFlags := 18, slot := 2, constantValue := 0 }, { name := "trace", type := (.object "com/example/purloin/runner/Trace"), accessFlags := 18, slot := 3, constantValue := 0 }, { name := "parents", type := (.array .int), accessFlags := 18, slot := 4, constantValue := 0 }]
  methods := #[k2m0]
  instanceTypes := #[(.object "com/example/purloin/PurloinRuntime"), (.object "com/example/purloin/runner/Graph"), .int, (.object "com/example/purloin/runner/Trace"), (.array .int)]
  staticTypes := #[(.object "java/lang/String"), (.object "java/lang/String"), (.object "java/util/List"), (.object "java/util/Set"), (.object "java/lang/String"), .int]
  resolved := Array.replicate 415 none
  statics := none }

def pool3 : Array CpInfo := pool [(1, u "java/lang/Cloneable"), (0, .class_ 1), (0, u "java/lang/Object"), (0, .class_ 3)] 3

/-- java/lang/Cloneable -/
def k3 : Class := { plain "java/lang/Cloneable" (some 0) with
  accessFlags := 1537
  interfaces := #[]
  cf := some (fileOf pool3 2 #[] #[] 1537 4 #[] #[])
  fields := #[]
  methods := #[]
  instanceTypes := #[]
  staticTypes := #[]
  resolved := Array.replicate 8 none
  statics := none }

def pool4 : Array CpInfo := pool [(1, u "java/io/Serializable"), (0, .class_ 1), (0, u "java/lang/Object"), (0, .class_ 3)] 3

/-- java/io/Serializable -/
def k4 : Class := { plain "java/io/Serializable" (some 0) with
  accessFlags := 1537
  interfaces := #[]
  cf := some (fileOf pool4 2 #[] #[] 1537 4 #[] #[])
  fields := #[]
  methods := #[]
  instanceTypes := #[]
  staticTypes := #[]
  resolved := Array.replicate 8 none
  statics := none }

/-- the primitive byte -/
def k5 : Class := { plain "byte" none with kind := .primitive 'B', accessFlags := 0x411 }
/-- [B -/
def k6 : Class := { plain "[B" (some 0) with kind := .array 5 .byte, interfaces := #[3, 4], accessFlags := 1041 }

/-- the primitive int -/
def k7 : Class := { plain "int" none with kind := .primitive 'I', accessFlags := 0x411 }
/-- [I -/
def k8 : Class := { plain "[I" (some 0) with kind := .array 7 .int, interfaces := #[3, 4], accessFlags := 1041 }

def heap : Heap := #[]
def classes : Array Class := #[k0, k1, k2, k3, k4, k5, k6, k7, k8]
def interned : List (Array UInt16 × Addr) := []
def slotsUsed : Nat := 0
def theMethod : MethodId := ⟨1, 1⟩
def args0 : Array Value := #[.int 3, .int 1, .int 2, .int 3, .int 4, .int 5]
def aboutOver (below : List Frame) : State where
  vm := { classes := classes, interned := interned.toArray }
  heap := heap
  slotsUsed := slotsUsed
  threads := #[{ frames := .invoking theMethod args0 :: below }]
def below0 : List Frame := [.native { method := ⟨0, 0⟩, args := #[] }]
def about1 : State := aboutOver below0
def p0 : Program := .bare "" "" ""
def e0 : Env := launch0.env 0 0 0
theorem w_frames : about1.frames = Frame.invoking theMethod args0 :: below0 := rfl
set_option maxRecDepth 65536 in
theorem w_args : argsFit about1.vm theMethod args0 = true := by decide +kernel
set_option maxRecDepth 65536 in
theorem w_heap : heapFits about1 = true := by decide +kernel
set_option maxRecDepth 65536 in
theorem w_runnable : about1.curStatus? = some .runnable := by decide +kernel
set_option maxRecDepth 65536 in
theorem w_alone : about1.alone = true := by decide +kernel
set_option maxRecDepth 65536 in
theorem w_named : about1.methodNamed? x = some theMethod := by decide +kernel
set_option maxRecDepth 65536 in
theorem w_hears : about1.hears theMethod below0 = true := by decide +kernel
set_option maxRecDepth 65536 in
theorem w_ripe : about1.ripe theMethod args0 below0 = true := by decide +kernel
theorem w_running : about1.status = .running := rfl
set_option maxRecDepth 65536 in
theorem w_room : about1.hasRoom e0.platform room_1 = true :=
  launch0.hasRoom_least _ room_1 (by decide +kernel) (by decide +kernel) (by decide +kernel) (by decide +kernel) (by decide +kernel) (by decide +kernel)
theorem allAtoms_all (ts : List Jvm.Cond) (a : Array Jvm.Value) (st : Jvm.State) : (allAtoms ts).before a st = ts.all (fun c => c.before a st) := by
  induction ts with
  | nil => rfl
  | cons c t ih =>
    show (Jvm.Cond.and c (allAtoms t)).before a st = _
    rw [Jvm.Cond.before_and, ih, List.all_cons]
def words1 : List Jvm.Cond := Jvm.Cond.code x code maxLocals ret :: tables_1
/-- a 'code' word, met by the world's own term for the bytes: nothing is compared byte by byte -/
theorem code_word {y : MethodName} {bytes : ByteArray} {mx : Nat} {rt : Option FieldType} {a : Array Value} {s : State} {m : MethodId} {meth : Method} {c : Code} (h1 : s.methodNamed? y = some m) (h2 : s.vm.method? m = some meth) (h3 : meth.code = some c) (h4 : c.code = bytes)
    (h5 : (c.maxLocals == mx && c.exceptionTable.isEmpty && decide (c.maxStack ≤ mostOperands) && decide (meth.sig.returnType = rt) && !meth.locks && decide (parseMethodDescriptor y.desc = some meth.sig)) = true) : (Jvm.Cond.code y bytes mx rt).before a s = true := by
  simp only [Bool.and_eq_true, beq_iff_eq, Bool.not_eq_true', decide_eq_true_eq] at h5
  obtain ⟨⟨⟨⟨⟨g1, g2⟩, g3⟩, g4⟩, g5⟩, g6⟩ := h5
  simp [Cond.before, Cond.holds, Cond.value, h1, h2, h3, h4, g1, g2, g3, g4, g5, g6]
def isCode : Jvm.Cond → Bool
  | .code _ _ _ _ => true
  | _ => false
theorem all_split {L : List Jvm.Cond} {P : Jvm.Cond → Bool} (h1 : L.all (fun c => isCode c || P c) = true) (h2 : ∀ c ∈ L.filter isCode, P c = true) : L.all P = true := by
  refine List.all_eq_true.mpr fun c hc => ?_
  have h := List.all_eq_true.mp h1 c hc
  rcases Bool.eq_false_or_eq_true (isCode c) with hi | hi
  · exact h2 c (List.mem_filter.mpr ⟨hc, hi⟩)
  · simpa [hi] using h
set_option maxRecDepth 65536 in
theorem w_c0 : (Jvm.Cond.code x code maxLocals ret).before args0 about1 = true := code_word (m := ⟨1, 1⟩) (meth := k1m1) (c := k1c1) (by decide +kernel) rfl rfl rfl (by decide +kernel)
set_option maxRecDepth 65536 in
theorem w_c1 : (Jvm.Cond.code ({ cls := "com/example/purloin/runner/PdfsReachedPinLaw", name := "pick", desc := "(III)I" } : Jvm.MethodName) method_3_code (3 : Nat) (Option.some Jvm.ClassFile.FieldType.int)).before args0 about1 = true := code_word (m := ⟨1, 2⟩) (meth := k1m2) (c := k1c2) (by decide +kernel) rfl rfl rfl (by decide +kernel)
set_option maxRecDepth 65536 in
theorem w_c2 : (Jvm.Cond.code ({ cls := "com/example/purloin/runner/PdfsReachedPinLaw", name := "one", desc := "(ZI)I" } : Jvm.MethodName) method_4_code (2 : Nat) (Option.some Jvm.ClassFile.FieldType.int)).before args0 about1 = true := code_word (m := ⟨1, 3⟩) (meth := k1m3) (c := k1c3) (by decide +kernel) rfl rfl rfl (by decide +kernel)
set_option maxRecDepth 65536 in
theorem w_c3 : (Jvm.Cond.code ({ cls := "com/example/purloin/runner/Pdfs", name := "reached", desc := "([I)I" } : Jvm.MethodName) prog_100_method_9_code (6 : Nat) (Option.some Jvm.ClassFile.FieldType.int)).before args0 about1 = true := code_word (m := ⟨2, 0⟩) (meth := k2m0) (c := k2c0) (by decide +kernel) rfl rfl rfl (by decide +kernel)
def codes1 : List Jvm.Cond := [Jvm.Cond.code x code maxLocals ret, Jvm.Cond.code ({ cls := "com/example/purloin/runner/PdfsReachedPinLaw", name := "pick", desc := "(III)I" } : Jvm.MethodName) method_3_code (3 : Nat) (Option.some Jvm.ClassFile.FieldType.int), Jvm.Cond.code ({ cls := "com/example/purloin/runner/PdfsReachedPinLaw", name := "one", desc := "(ZI)I" } : Jvm.MethodName) method_4_code (2 : Nat) (Option.some Jvm.ClassFile.FieldType.int), Jvm.Cond.code ({ cls := "com/example/purloin/runner/Pdfs", name := "reached", desc := "([I)I" } : Jvm.MethodName) prog_100_method_9_code (6 : Nat) (Option.some Jvm.ClassFile.FieldType.int)]
set_option maxRecDepth 65536 in
theorem codes_eq : words1.filter isCode = codes1 := rfl
theorem w_codes : ∀ c ∈ words1.filter isCode, c.before args0 about1 = true := by
  rw [codes_eq]
  intro c hc
  simp only [codes1, List.mem_cons, List.not_mem_nil, or_false] at hc
  rcases hc with rfl | rfl | rfl | rfl
  · exact w_c0
  · exact w_c1
  · exact w_c2
  · exact w_c3
set_option maxRecDepth 65536 in
theorem w_t1 : words1.all (fun c => isCode c || c.before args0 about1) = true := by decide +kernel
theorem w_tables : (allAtoms (Jvm.Cond.code x code maxLocals ret :: tables_1)).before args0 about1 = true := by
  rw [allAtoms_all]
  show words1.all (fun c => c.before args0 about1) = true
  refine all_split ?_ w_codes
  rw [w_t1]
set_option maxRecDepth 65536 in
theorem w_case : (Jvm.Cond.and given_1 narrow_1).before args0 about1 = true := by decide +kernel
theorem w_applies : (headSpec (Jvm.Cond.code x code maxLocals ret :: tables_1) room_1).applies x e0.platform about1 = true :=
  (Spec.applies_iff w_frames).mpr ⟨w_running, w_runnable, w_alone, w_named, w_hears, w_ripe, w_room, w_tables⟩
theorem atStart : AtStart classFile x code maxLocals ret World_1 tables_1 room_1 Calls_1 rest_1 Pre_1 launch0 p0 e0 about1 theMethod args0 below0 :=
  ⟨lists_1, trivial, launch0.admits_env _ _ _, launch0.least_env, fairChoices_fair.cas, fairChoices_fair.clock, w_frames, w_args, w_heap, w_applies, trivial, trivial, w_case⟩
end start1
theorem witness_1 : WitnessClaimed_1 := ⟨start1.p0, start1.e0, start1.about1, start1.theMethod, start1.args0, start1.below0, start1.atStart⟩
end Jvm.Pilot.@@N@@
