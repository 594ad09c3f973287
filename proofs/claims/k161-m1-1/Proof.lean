import JvmDerived
import JvmDerived.Pilot.@@N@@Statement
import JvmDerived.Pilot.@@N@@Code
set_option linter.unusedVariables false
set_option linter.unusedSimpArgs false
@@BLOCK:NumsL.lean.txt@@
namespace Jvm.RoadKit
open Sem ClassFile Op Lib Jvm.Stand Jvm.Free Jvm.LawKit
section Own
variable {p : Program} {l : Launch} {e : Env} {R : Room} {s : State} {m : MethodId} {args : Array Value} {below : List Frame} {meth : Method} {c : Code} {T : State} {locs : List Loc} {cells slots : Nat} {Z : State} {h h' : Heap} {a b : Addr} {ty : FieldType} {vs : List Value} {cl : Cell} {sl : Nat} {v : Value} {ws : List Addr}
theorem mw {α : Type} {x : α} {L : List α} (i : Nat) (q : L[i]? = some x) : x ∈ L := List.mem_of_getElem? q
/-- from A the body comes to its end, and Q holds there -/
def Goal (p : Program) (e : Env) (below : List Frame) (s : State) (Q : Option Value → Heap → List Loc → Prop) (k n : Nat) (A : State) : Prop :=
  ∃ s₂ o, Steps p.tables e below A s₂ ∧ s₂.status = .running ∧ Ended s₂ below o ∧ ∃ v L, o = .returned v ∧ Q v s₂.heap L ∧ FrameEnd s o s₂ L k n
variable {Q : Option Value → Heap → List Loc → Prop} {k n : Nat} {A B : State}
theorem Goal.to (f : ∀ t, Steps p.tables e below B t → Steps p.tables e below A t) (g : Goal p e below s Q k n B) : Goal p e below s Q k n A := by
  obtain ⟨s₂, o, h1, r⟩ := g
  exact ⟨s₂, o, f _ h1, r⟩
theorem Goal.tr (f : Steps p.tables e below A B) (g : Goal p e below s Q k n B) : Goal p e below s Q k n A := Goal.to (fun t q => f.trans q) g
theorem Goal.retV (X : Stand p l e R s m args below meth c T locs cells slots) (hx : p.tables.exec = Jvm.exec) {pc : Nat} {Ls : Array Slot} {w : Value} {t : FieldType} {i : Instr} {rest : List Value} (hret : meth.sig.returnType = some t) (hn : narrow t w = w)
    (hi : (i = .ireturn ∧ (t = .int ∨ t = .boolean ∨ t = .byte ∨ t = .char ∨ t = .short) ∧ ∃ z, w = .int z) ∨ (i = .lreturn ∧ t = .long ∧ ∃ z, w = .long z) ∨ (i = .dreturn ∧ t = .double ∧ ∃ z, w = .double z) ∨ (i = .freturn ∧ t = .float ∧ ∃ z, w = .float z) ∨ (i = .areturn ∧ t.isReference = true ∧ w.isRef = true))
    (hd : decode c.code pc = .ok (i, 1)) (hlk : meth.locks = false) (eT : T.heap = h) (hq : Q (some w) h locs) (hc : cells ≤ k) (hs : slots ≤ n) : Goal p e below s Q k n (T.setTop (mkF m pc Ls (w :: rest))) := by
  obtain ⟨fs, hr, hrun, hended, hW, hsame⟩ := X.leave (v := some w) (fun h => by rw [hret] at h; cases h) hlk
  refine ⟨_, _, retOut X hx hret hn hi hd hr, hrun, hended, _, _, rfl, ?_, ⟨_, rfl⟩, hW, hsame.mono hc hs⟩
  show Q (some w) T.heap locs
  rw [eT]; exact hq
theorem Goal.retN (X : Stand p l e R s m args below meth c T locs cells slots) (hx : p.tables.exec = Jvm.exec) {pc : Nat} {Ls : Array Slot} (hret : meth.sig.returnType = none)
    (hd : decode c.code pc = .ok (.return_, 1)) (hlk : meth.locks = false) (eT : T.heap = h) (hq : Q none h locs) (hc : cells ≤ k) (hs : slots ≤ n) : Goal p e below s Q k n (T.setTop (mkF m pc Ls [])) := by
  obtain ⟨fs, hr, hrun, hended, hW, hsame⟩ := X.leave (v := none) (fun _ => rfl) hlk
  refine ⟨_, _, X.returnOut hx hret hd hr, hrun, hended, _, _, rfl, ?_, ⟨_, rfl⟩, hW, hsame.mono hc hs⟩
  show Q none T.heap locs
  rw [eT]; exact hq
/-- the same, with the wide end: texts may have been interned -/
def GoalW (p : Program) (e : Env) (below : List Frame) (s : State) (Q : Option Value → Heap → List Loc → Prop) (k n : Nat) (A : State) : Prop :=
  ∃ s₂ o, Steps p.tables e below A s₂ ∧ s₂.status = .running ∧ Ended s₂ below o ∧ ∃ v L, o = .returned v ∧ Q v s₂.heap L ∧ ReturnedEndW s o s₂ L k n
theorem GoalW.to (f : ∀ t, Steps p.tables e below B t → Steps p.tables e below A t) (g : GoalW p e below s Q k n B) : GoalW p e below s Q k n A := by
  obtain ⟨s₂, o, h1, r⟩ := g
  exact ⟨s₂, o, f _ h1, r⟩
theorem GoalW.tr (f : Steps p.tables e below A B) (g : GoalW p e below s Q k n B) : GoalW p e below s Q k n A := GoalW.to (fun t q => f.trans q) g
theorem GoalW.retV {vm0 : Vm} (X : Stand p l e R (s.setVm vm0) m args below meth c T locs cells slots) {k0 : Nat} (hS : s.Since vm0 k0) (hx : p.tables.exec = Jvm.exec) {pc : Nat} {Ls : Array Slot} {w : Value} {t : FieldType} {i : Instr} {rest : List Value} (hret : meth.sig.returnType = some t) (hn : narrow t w = w)
    (hi : (i = .ireturn ∧ (t = .int ∨ t = .boolean ∨ t = .byte ∨ t = .char ∨ t = .short) ∧ ∃ z, w = .int z) ∨ (i = .lreturn ∧ t = .long ∧ ∃ z, w = .long z) ∨ (i = .dreturn ∧ t = .double ∧ ∃ z, w = .double z) ∨ (i = .freturn ∧ t = .float ∧ ∃ z, w = .float z) ∨ (i = .areturn ∧ t.isReference = true ∧ w.isRef = true))
    (hd : decode c.code pc = .ok (i, 1)) (hlk : meth.locks = false) (eT : T.heap = h) (hk : k0 ≤ h.size) (hq : Q (some w) h locs) (hc : cells ≤ k) (hs : slots ≤ n) : GoalW p e below s Q k n (T.setTop (mkF m pc Ls (w :: rest))) := by
  obtain ⟨fs, hr, hrun, hended, e1, e2, e3, e4⟩ := X.leaveW hS (by rw [eT]; exact hk) (v := some w) (fun h => by rw [hret] at h; cases h) hlk
  refine ⟨_, _, retOut X hx hret hn hi hd hr, hrun, hended, _, _, rfl, ?_, e1, e2, e3, e4.mono hc hs⟩
  show Q (some w) T.heap locs
  rw [eT]; exact hq
theorem nar01 {z : Int32} (q : z = 0 ∨ z = 1) : narrow .boolean (.int z) = .int z := by rcases q with rfl | rfl <;> rfl
theorem catV {r : Value} (q : r.isRef = true) : r.category = 1 := by rcases ref_cases q with rfl | ⟨o, rfl⟩ <;> rfl
theorem catR {o : Addr} : (Value.ref o).category = 1 := rfl
theorem catI {z : Int32} : (Value.int z).category = 1 := rfl
theorem catJ {z : Int64} : (Value.long z).category = 2 := rfl
theorem catN : Value.null.category = 1 := rfl
theorem narV {r : Value} {C : String} (q : r.isRef = true) : narrow (.object C) r = r := by rcases ref_cases q with rfl | ⟨o, rfl⟩ <;> rfl
theorem fitV {r : Value} {C : String} (q : r.isRef = true) : fits (.object C) r = true := by rcases ref_cases q with rfl | ⟨o, rfl⟩ <;> rfl
theorem selP {a0 : Array Value} {y : MethodName} {n : Nat} (hZ : Z.Warmed39 s.vm) (hins : (Cond.instantiable y.cls n).before a0 Z = true) (hp : (Cond.privateMethod y).before a0 Z = true) (hi : (Cond.instanceMethod y).before a0 Z = true) (hy : y.cls ≠ "java/lang/invoke/MethodHandle" ∧ y.cls ≠ "java/lang/invoke/VarHandle") : (Cond.selects y.cls y y).before args s = true := by
  obtain ⟨c, k, hc, hk, -, hniab, -, -⟩ := Cond.instantiable_spec (mv (args := args) hZ hins)
  exact selects_self_of_private hc hk (Bool.or_eq_false_iff.mp hniab).1 (Cond.privateMethod_at (mvP (args := args) hZ hp)) (mv hZ hi) hy
theorem Fld.cast {C n d : String} {w : Value} (F : Fld Z h a C n d v) (q : v = w) : Fld Z h a C n d w := q ▸ F
/-- an array of the heap by the whole list of what it holds -/
def Ary (Z : State) (h : Heap) (a : Addr) (ty : FieldType) (vs : List Value) : Prop := ∃ cl : Cell, Arr Z h a cl ty ∧ cl.slots.toList = vs
theorem Ary.cast {ws : List Value} (F : Ary Z h a ty vs) (q : vs = ws) : Ary Z h a ty ws := q ▸ F
theorem Ary.lt (F : Ary Z h a ty vs) : a < h.size := by obtain ⟨cl, A, -⟩ := F; exact A.lt
theorem Ary.ext (F : Ary Z h a ty vs) (E : Ext h h') : Ary Z h' a ty vs := by obtain ⟨cl, A, r⟩ := F; exact ⟨cl, A.ext E, r⟩
theorem Ary.other (F : Ary Z h a ty vs) (W : Wr h h' b sl v) (q : a ≠ b) : Ary Z h' a ty vs := by obtain ⟨cl, A, r⟩ := F; exact ⟨cl, A.other W q, r⟩
theorem Ary.keep (F : Ary Z h a ty vs) (K : Keep h h' ws) (q : a ∉ ws) : Ary Z h' a ty vs := by obtain ⟨cl, A, r⟩ := F; exact ⟨cl, ⟨K.2.1 a cl A.1 q, A.2⟩, r⟩
theorem Ary.new {k : ClassId} {z : Int32} {N : Nat} (A : Arr Z h a (newA k ty z) ty) (hz : z.toNatClampNeg = N) : Ary Z h a ty (List.replicate N (defaultValue ty)) := ⟨_, A, by simp [newA, hz]⟩
theorem Ary.put {j : Nat} {N : Nat} (A : Arr Z h a cl ty) (S : cl.slots.toList = vs) (W : Wr h h' a j v) (q : j = N) : Ary Z h' a ty (vs.set N v) := ⟨_, A.same W, by subst q; simp [Cell.setSlot, S]⟩
theorem sizeA (S : cl.slots.toList = vs) : cl.slots.size = vs.length := by rw [← S]; simp
theorem inA {j : Int32} (S : cl.slots.toList = vs) (q : ¬ j < 0) (r : j.toNatClampNeg < vs.length) : ¬ (j < 0 ∨ cl.slots.size ≤ j.toNatClampNeg) := by rw [sizeA S]; intro u; rcases u with u | u; exact q u; exact absurd r (Nat.not_lt.mpr u)
theorem atA {j : Nat} (S : cl.slots.toList = vs) (q : vs[j]? = some v) : cl.slots[j]? = some v := by rw [← q, ← S]; simp
theorem lenA {z : Int32} (S : cl.slots.toList = vs) (q : vs.length.toInt32 = z) : cl.slots.size.toInt32 = z := by rw [sizeA S]; exact q
/-- a static that stood when the law began, and what it holds -/
def StaN (Z : State) (n0 : Nat) (h : Heap) (C n d : String) (v : Value) : Prop := ∃ (cf i : Nat) (k : Class) (f : Field) (st : Addr) (cell : Cell), Z.fieldFound? C n d = some (cf, k, i, f) ∧ f.isStatic = true ∧ k.init = .initialized ∧ k.statics = some st ∧ h[st]? = some cell ∧ cell.vm.isStatics = true ∧ cell.slots[f.slot]? = some v ∧ st < n0
section StaN
variable {C nm d : String} {n0 : Nat}
theorem StaN.sta (F : StaN Z n0 h C nm d v) : Sta Z h C nm d v := by obtain ⟨cf, i, k, f, st, cell, h1, h2, h3, h4, h5, h6, h7, -⟩ := F; exact ⟨cf, i, k, f, st, cell, h1, h2, h3, h4, h5, h6, h7⟩
theorem Sta.toN (F : Sta Z h C nm d v) : StaN Z h.size h C nm d v := by obtain ⟨cf, i, k, f, st, cell, h1, h2, h3, h4, h5, h6, h7⟩ := F; exact ⟨cf, i, k, f, st, cell, h1, h2, h3, h4, h5, h6, h7, (Array.getElem?_eq_some_iff.mp h5).1⟩
theorem StaN.ext (F : StaN Z n0 h C nm d v) (E : Ext h h') : StaN Z n0 h' C nm d v := by obtain ⟨cf, i, k, f, st, cell, h1, h2, h3, h4, h5, r⟩ := F; exact ⟨cf, i, k, f, st, cell, h1, h2, h3, h4, E.2 _ _ h5, r⟩
theorem StaN.keep (F : StaN Z n0 h C nm d v) (K : Keep h h' ws) (q : ∀ x ∈ ws, n0 ≤ x) : StaN Z n0 h' C nm d v := by
  obtain ⟨cf, i, k, f, st, cell, h1, h2, h3, h4, h5, h6, h7, h8⟩ := F
  exact ⟨cf, i, k, f, st, cell, h1, h2, h3, h4, K.2.1 _ _ h5 (fun z => absurd h8 (Nat.not_lt.mpr (q _ z))), h6, h7, h8⟩
theorem StaN.wr {w : Value} (F : StaN Z n0 h C nm d v) (W : Wr h h' a sl w) : StaN Z n0 h' C nm d v := by
  obtain ⟨cf, i, k, f, st, cell, h1, h2, h3, h4, h5, h6, h7, h8⟩ := F
  obtain ⟨c', e1, -, -, -, e5, -, e7⟩ := wr_at W h5
  have ne : st ≠ a := fun e => by rw [(e7 e).2.2] at h6; cases h6
  exact ⟨cf, i, k, f, st, cell, h1, h2, h3, h4, by rw [← e5 ne]; exact e1, h6, h7, h8⟩
end StaN
/-- what may lie in an array of objects of class C (of arrays of class C) -/
def OvrO (Z : State) (h : Heap) (a : Addr) (C : String) : Prop := ∃ cl : Cell, h[a]? = some cl ∧ Ovr Z cl.cls C
theorem OvrO.ext {C : String} (F : OvrO Z h a C) (E : Ext h h') : OvrO Z h' a C := by obtain ⟨cl, h1, r⟩ := F; exact ⟨cl, E.2 _ _ h1, r⟩
theorem OvrO.wr {C : String} (F : OvrO Z h a C) (W : Wr h h' b sl v) : OvrO Z h' a C := by obtain ⟨cl, h1, r⟩ := F; obtain ⟨c', e1, e2, -⟩ := wr_at W h1; exact ⟨c', e1, by rw [e2]; exact r⟩
theorem OvrO.keep {C : String} (F : OvrO Z h a C) (K : Keep h h' ws) : OvrO Z h' a C := by obtain ⟨cl, h1, r⟩ := F; obtain ⟨c', e1, e2, -⟩ := K.2.2 _ _ h1; exact ⟨c', e1, by rw [e2]; exact r⟩
theorem stoO {C : String} {y : Addr} (A : Arr Z h a cl ty) (O : OvrO Z h a C) (I : Ins Z h y C true) : Sto Z h a (.ref y) := by
  obtain ⟨c', h1, r⟩ := O
  cases A.1.symm.trans h1
  exact Sto.of A r I
def OvrB (Z : State) (h : Heap) (a : Addr) (C : String) : Prop := ∃ (cl : Cell) (t : FieldType), h[a]? = some cl ∧ OvrA Z cl.cls t C
theorem OvrB.ext {C : String} (F : OvrB Z h a C) (E : Ext h h') : OvrB Z h' a C := by obtain ⟨cl, t, h1, r⟩ := F; exact ⟨cl, t, E.2 _ _ h1, r⟩
theorem OvrB.wr {C : String} (F : OvrB Z h a C) (W : Wr h h' b sl v) : OvrB Z h' a C := by obtain ⟨cl, t, h1, r⟩ := F; obtain ⟨c', e1, e2, -⟩ := wr_at W h1; exact ⟨c', t, e1, by rw [e2]; exact r⟩
theorem OvrB.keep {C : String} (F : OvrB Z h a C) (K : Keep h h' ws) : OvrB Z h' a C := by obtain ⟨cl, t, h1, r⟩ := F; obtain ⟨c', e1, e2, -⟩ := K.2.2 _ _ h1; exact ⟨c', t, e1, by rw [e2]; exact r⟩
theorem stoB {C : String} {y : Addr} (A : Arr Z h a cl ty) (O : OvrB Z h a C) (I : Ins Z h y C true) : Sto Z h a (.ref y) := by
  obtain ⟨c', t, h1, r⟩ := O
  cases A.1.symm.trans h1
  exact Sto.ofVA A rfl r I
theorem fits_nil : ∀ w ∈ ([] : List Value), fits ty w = true := fun _ q => nomatch q
theorem fits_cons (q : fits ty v = true) (r : ∀ w ∈ vs, fits ty w = true) : ∀ w ∈ v :: vs, fits ty w = true := fun w z => (List.mem_cons.mp z).elim (fun u => u ▸ q) (r w)
theorem Ary.arv {dv : Value} {z : Int32} (F : Ary Z h a ty vs) (hz : z.toNatClampNeg = vs.length) (h0 : ¬ z < 0) (hf : ∀ w ∈ vs, fits ty w = true) : ∃ k, Arv Z h a k ty z vs dv := by
  obtain ⟨cl, A, S⟩ := F
  have sz : cl.slots.size = vs.length := sizeA S
  refine ⟨_, cl, A, rfl, sz.trans hz.symm, h0, fun i hi => ?_, fun i hi => ?_⟩
  · rw [sz] at hi
    refine atA S ?_
    rw [List.getD_eq_getElem?_getD, List.getElem?_eq_getElem hi]; rfl
  · rw [sz] at hi
    rw [List.getD_eq_getElem?_getD, List.getElem?_eq_getElem hi]
    exact hf _ (List.getElem_mem hi)
theorem Arv.ary {k : ClassId} {z : Int32} {dv : Value} (F : Arv Z h a k ty z vs dv) (hz : z.toNatClampNeg = vs.length) : Ary Z h a ty vs := by
  obtain ⟨cl, A, -, S, -, H, -⟩ := F
  refine ⟨cl, A, List.ext_getElem? fun i => ?_⟩
  by_cases hi : i < cl.slots.size
  · have q := H i hi
    have hv : i < vs.length := by omega
    rw [List.getD_eq_getElem?_getD, List.getElem?_eq_getElem hv] at q
    rw [List.getElem?_eq_getElem hv, Array.getElem?_toList]; exact q
  · rw [List.getElem?_eq_none (by simp; omega), List.getElem?_eq_none (by omega)]
theorem storeV {Ls : Array Slot} {i : Nat} {r : Value} {o : Slot} {l' : Array Slot} (q : r.isRef = true) (ho : o = .unset ∨ ∃ w, o = .val w ∧ w.category = 1) (hold : Ls[i]? = some o := by rfl) (hl : Ls.setIfInBounds i (.val r) = l' := by rfl) : storeLocals Ls i r = some l' := by
  rw [← hl]; exact XS.store1 hold ho (catV q)
end Own
end Jvm.RoadKit
namespace Jvm.Pilot.@@N@@
open Jvm Jvm.ClassFile Sem Op Lib Jvm.Free Jvm.Stand Jvm.LawKit Jvm.RoadKit Bundle Jvm.Pilot.@@N@@.Jvm.D
theorem own_n {u n : Int32} (h : n = ((u &&& (2147483647 : Int32)) % (5 : Int32))) : n = 0 ∨ n = 1 ∨ n = 2 ∨ n = 3 ∨ n = 4 := by
  have q := Jvm.Kit.i32_mask u 2147483647 (k := 31) (by decide) (by decide)
  have r := Jvm.Kit.i32_rem_nonneg (x := u &&& 2147483647) (y := 5) (by omega)
  rw [← h, show (5 : Int32).toInt = 5 from rfl] at r
  have s : n.toInt = 0 ∨ n.toInt = 1 ∨ n.toInt = 2 ∨ n.toInt = 3 ∨ n.toInt = 4 := by omega
  rcases s with s | s | s | s | s
  · have s := Int32.toInt_inj.mp (show n.toInt = (0 : Int32).toInt from s); exact Or.inl s
  · have s := Int32.toInt_inj.mp (show n.toInt = (1 : Int32).toInt from s); exact Or.inr (Or.inl s)
  · have s := Int32.toInt_inj.mp (show n.toInt = (2 : Int32).toInt from s); exact Or.inr (Or.inr (Or.inl s))
  · have s := Int32.toInt_inj.mp (show n.toInt = (3 : Int32).toInt from s); exact Or.inr (Or.inr (Or.inr (Or.inl s)))
  · have s := Int32.toInt_inj.mp (show n.toInt = (4 : Int32).toInt from s); exact Or.inr (Or.inr (Or.inr (Or.inr s)))
theorem ef_1 (m : MethodId) (x0 : Addr)  : entryFrame m #[(.ref x0)] 1 = mkF m 0 #[.val (.ref x0)] [] := by first | (simp [entryFrame, mkF, argsToLocals, Value.category]; done) | rfl
theorem pn_1 : plainName "com/example/enodia/enodia/routing/RouteBuffer" = true := by first | (simp [plainName, overriddenIn]; done) | decide +kernel
theorem d1_0 : decode prog_66_method_1_code 0 = .ok (.aload_n 0, 1) := by decide +kernel
theorem d1_1 : decode prog_66_method_1_code 1 = .ok (.invokespecial 1, 3) := by decide +kernel
theorem d1_4 : decode prog_66_method_1_code 4 = .ok (.aload_n 0, 1) := by decide +kernel
theorem d1_5 : decode prog_66_method_1_code 5 = .ok (.bipush 16, 2) := by decide +kernel
theorem d1_7 : decode prog_66_method_1_code 7 = .ok (.newarray .int, 2) := by decide +kernel
theorem d1_9 : decode prog_66_method_1_code 9 = .ok (.putfield 7, 3) := by decide +kernel
theorem d1_12 : decode prog_66_method_1_code 12 = .ok (.return_, 1) := by decide +kernel
def QN (Z : State) (va : Addr) (h0 : Heap) (n0 : Nat) (v : Option Value) (h : Heap) (L : List Loc) : Prop := ∃ vb : Addr, v = none ∧ Fr n0 L ∧ Keep h0 h [va] ∧ h0.size ≤ vb ∧ Fld Z h va "com/example/enodia/enodia/routing/RouteBuffer" "links" "[I" (.ref vb) ∧ Fld Z h va "com/example/enodia/enodia/routing/RouteBuffer" "linkCount" "I" (.int (0 : Int32)) ∧ Ary Z h vb .int [(.int (0 : Int32)), (.int (0 : Int32)), (.int (0 : Int32)), (.int (0 : Int32)), (.int (0 : Int32)), (.int (0 : Int32)), (.int (0 : Int32)), (.int (0 : Int32)), (.int (0 : Int32)), (.int (0 : Int32)), (.int (0 : Int32)), (.int (0 : Int32)), (.int (0 : Int32)), (.int (0 : Int32)), (.int (0 : Int32)), (.int (0 : Int32))]
set_option maxRecDepth 65536 in
set_option maxHeartbeats 40000000 in
theorem rmN (l : Launch) (Z : State) (a0 : Array Value) (hw : ∀ d ∈ tables_1, d.before a0 Z = true) (ws : List Jvm.Cond) (va : Addr) (h0 : Heap) (n0 : Nat) (Z0 : n0 ≤ h0.size) (E_va : Exa Z h0 va "com/example/enodia/enodia/routing/RouteBuffer") (F_links_va : Fld Z h0 va "com/example/enodia/enodia/routing/RouteBuffer" "links" "[I" .null) (F_linkCount_va : Fld Z h0 va "com/example/enodia/enodia/routing/RouteBuffer" "linkCount" "I" (.int (0 : Int32))) (g_va : n0 ≤ va) :
    MetFree l (⟨"com/example/enodia/enodia/routing/RouteBuffer", "<init>", "()V"⟩ : MethodName) (head1 (Jvm.Cond.code (⟨"com/example/enodia/enodia/routing/RouteBuffer", "<init>", "()V"⟩ : MethodName) prog_66_method_1_code 1 none :: ws) ({ frames := 1, cells := 1, slots := 16, locals := 12 } : Room)) (fun a U => a = #[(.ref va)] ∧ Z.Warmed39 U.vm ∧ U.heap = h0) (fun _ _ _ _ _ => True) (fun _ U o U' => ∃ v L, o = .returned v ∧ QN Z va h0 n0 v U'.heap L ∧ FrameEnd U o U' L 1 16) := by
  refine MetFree.of_bodySF (plainFor_of_name pn_1) hisR ?_
  intro p e s m args below meth c s₁ Bd hml0 hP hK
  obtain ⟨rfl, hZ, hh⟩ := hP
  have hx := Bd.exec
  have hby := Bd.bytes
  have hml : c.maxLocals = 1 := hml0
  have hown : s.vm.findClass "com/example/enodia/enodia/routing/RouteBuffer" = some m.cls := findClass_of_methodNamed Bd.named
  have hnm := (name_of_methodNamed Bd.named Bd.method).1
  have X0 : Stand p l e ({ frames := 1, cells := 1, slots := 16, locals := 12 } : Room) s m #[(.ref va)] below meth c s₁ [] 0 0 := Stand.of_body Bd
  have e0 : s₁.heap = h0 := by rw [← hh, Bd.state]; rfl
  have N0 := Fr.nil n0
  have hlk : meth.locks = false := BodyLoose.notSynchronized Bd
  show Goal p e below s (QN Z va h0 n0) 1 16 (s₁.setTop (entryFrame m #[(.ref va)] 1))
  refine Goal.to (B := s₁.setTop (mkF m 0 #[.val (.ref va)] [])) (fun tt kk => castTop (ef_1 m va ) kk) ?_
  refine Goal.to (B := s₁.setTop (mkF m 1 #[.val (.ref va)] [(.ref va)])) (fun tt kk => ?_) ?_
  · show Steps p.tables e below (s₁.setTop (mkF m 0 #[.val (.ref va)] [])) tt
    refine XS.aloadN X0.here hx rfl (hb hby d1_0) rfl rfl ?_
    exact kk
  obtain ⟨T1, X1, e1, st1⟩ := initO X0 hx hZ hown (hw _ (mw 8 rfl)) (hw _ (mw 9 rfl)) (hw _ (mw 10 rfl)) e0 (g := (mkF m 1 #[.val (.ref va)] [(.ref va)])) rfl (by rw [hml]; rfl) rfl (hb hby d1_1) (by decide) (W := 0) (by show 2 * 0 + _ ≤ _; exact Nat.le_of_eq rfl) (by decide)
  refine Goal.to (B := T1.setTop (mkF m 4 #[.val (.ref va)] [])) st1 ?_
  refine Goal.to (B := T1.setTop (mkF m 7 #[.val (.ref va)] [(.int (16 : Int32)), (.ref va)])) (fun tt kk => ?_) ?_
  · show Steps p.tables e below (T1.setTop (mkF m 4 #[.val (.ref va)] [])) tt
    refine XS.aloadN X1.here hx rfl (hb hby d1_4) rfl rfl ?_
    show Steps p.tables e below (T1.setTop (mkF m 5 #[.val (.ref va)] [(.ref va)])) tt
    refine XS.bipush X1.here hx rfl (hb hby d1_5) ?_
    exact kk
  obtain ⟨T2, h2, k2, X2, e2, E2, A2, st2⟩ := newP X1 hx hZ (hw _ (mw 1 rfl)) e1 (g := (mkF m 7 #[.val (.ref va)] [(.int (16 : Int32)), (.ref va)])) rfl (hb hby d1_7) rfl (by decide) (cap := 16) (by decide) (by decide) (by decide) (by decide)
  obtain ⟨b2, g2⟩ : ∃ z, z = h0.size := ⟨_, rfl⟩
  rw [← g2] at A2 st2
  have ne_va_b2 : va ≠ b2 := Nat.ne_of_lt (Nat.lt_of_lt_of_le E_va.lt (Nat.le_of_eq g2.symm))
  have g_b2 : n0 ≤ b2 := Nat.le_trans Z0 (Nat.le_of_eq g2.symm)
  have sz_b2 : h0.size ≤ b2 := Nat.le_trans (Keep.refl h0 [va]).1 (Nat.le_of_eq g2.symm)
  have V2 : Ary Z h2 b2 .int [(.int (0 : Int32)), (.int (0 : Int32)), (.int (0 : Int32)), (.int (0 : Int32)), (.int (0 : Int32)), (.int (0 : Int32)), (.int (0 : Int32)), (.int (0 : Int32)), (.int (0 : Int32)), (.int (0 : Int32)), (.int (0 : Int32)), (.int (0 : Int32)), (.int (0 : Int32)), (.int (0 : Int32)), (.int (0 : Int32)), (.int (0 : Int32))] := Ary.new A2 rfl
  refine Goal.to (B := T2.setTop (mkF m 9 #[.val (.ref va)] [(.ref b2), (.ref va)])) st2 ?_
  have f3 : Fld Z h2 va "com/example/enodia/enodia/routing/RouteBuffer" "links" "[I" .null := (F_links_va.ext E2)
  have f4 : Exa Z h2 va "com/example/enodia/enodia/routing/RouteBuffer" := (E_va.ext E2)
  obtain ⟨T5, h5, X5, e5, W5, st5⟩ := putF X2 hx hZ hown (host := "") (Or.inl (hw _ (mw 11 rfl))) Via.refl e2 f3 f4 (Or.inl (hw _ (mw 12 rfl))) (hw _ (mw 3 rfl)) (ty := (.array .int)) (by decide) rfl rfl (g := (mkF m 9 #[.val (.ref va)] [(.ref b2), (.ref va)])) rfl rfl (hb hby d1_9)
  have Fw5 : Fld Z h5 va "com/example/enodia/enodia/routing/RouteBuffer" "links" "[I" (.ref b2) := f3.same W5
  have N5 := Fr.snoc X5 N0 g_va
  refine Goal.to (B := T5.setTop (mkF m 12 #[.val (.ref va)] [])) st5 ?_
  have f6 : Keep h0 h5 [va] := (((Keep.refl h0 [va]).ext E2).wr W5 (Or.inl (List.mem_of_getElem? (i := 0) rfl)))
  have f7 : Fld Z h5 va "com/example/enodia/enodia/routing/RouteBuffer" "linkCount" "I" (.int (0 : Int32)) := ((F_linkCount_va.ext E2).other W5 (Or.inr (slot_ne (Or.inl (hw _ (mw 19 rfl))) (Or.inl (hw _ (mw 12 rfl))) (by decide) (t := .int) (t' := (.array .int)) (by decide) (by decide))))
  have f8 : Ary Z h5 b2 .int [(.int (0 : Int32)), (.int (0 : Int32)), (.int (0 : Int32)), (.int (0 : Int32)), (.int (0 : Int32)), (.int (0 : Int32)), (.int (0 : Int32)), (.int (0 : Int32)), (.int (0 : Int32)), (.int (0 : Int32)), (.int (0 : Int32)), (.int (0 : Int32)), (.int (0 : Int32)), (.int (0 : Int32)), (.int (0 : Int32)), (.int (0 : Int32))] := (V2.other W5 (Ne.symm ne_va_b2))
  exact Goal.retN X5 hx Bd.returns (hb hby d1_12) hlk e5 ⟨b2, rfl, N5, f6, sz_b2, Fw5, f7, f8⟩ (by decide) (by decide)
theorem ef_6 (m : MethodId) (x0 : Addr) (x1 : Int32)  : entryFrame m #[(.ref x0), (.int x1)] 2 = mkF m 0 #[.val (.ref x0), .val (.int x1)] [] := by first | (simp [entryFrame, mkF, argsToLocals, Value.category]; done) | rfl
theorem pn_6 : plainName "com/example/enodia/enodia/routing/RouteBuffer" = true := by first | (simp [plainName, overriddenIn]; done) | decide +kernel
theorem d6_0 : decode prog_66_method_6_code 0 = .ok (.aload_n 0, 1) := by decide +kernel
theorem d6_1 : decode prog_66_method_6_code 1 = .ok (.getfield 13, 3) := by decide +kernel
theorem d6_4 : decode prog_66_method_6_code 4 = .ok (.aload_n 0, 1) := by decide +kernel
theorem d6_5 : decode prog_66_method_6_code 5 = .ok (.getfield 7, 3) := by decide +kernel
theorem d6_8 : decode prog_66_method_6_code 8 = .ok (.arraylength, 1) := by decide +kernel
theorem d6_9 : decode prog_66_method_6_code 9 = .ok (.if_icmp .ne 20, 3) := by decide +kernel
theorem d6_29 : decode prog_66_method_6_code 29 = .ok (.aload_n 0, 1) := by decide +kernel
theorem d6_30 : decode prog_66_method_6_code 30 = .ok (.getfield 7, 3) := by decide +kernel
theorem d6_33 : decode prog_66_method_6_code 33 = .ok (.aload_n 0, 1) := by decide +kernel
theorem d6_34 : decode prog_66_method_6_code 34 = .ok (.getfield 13, 3) := by decide +kernel
theorem d6_37 : decode prog_66_method_6_code 37 = .ok (.iload_n 1, 1) := by decide +kernel
theorem d6_38 : decode prog_66_method_6_code 38 = .ok (.iastore, 1) := by decide +kernel
theorem d6_39 : decode prog_66_method_6_code 39 = .ok (.aload_n 0, 1) := by decide +kernel
theorem d6_40 : decode prog_66_method_6_code 40 = .ok (.dup, 1) := by decide +kernel
theorem d6_41 : decode prog_66_method_6_code 41 = .ok (.getfield 13, 3) := by decide +kernel
theorem d6_44 : decode prog_66_method_6_code 44 = .ok (.iconst 1, 1) := by decide +kernel
theorem d6_45 : decode prog_66_method_6_code 45 = .ok (.iadd, 1) := by decide +kernel
theorem d6_46 : decode prog_66_method_6_code 46 = .ok (.putfield 13, 3) := by decide +kernel
theorem d6_49 : decode prog_66_method_6_code 49 = .ok (.return_, 1) := by decide +kernel
def QA0 (Z : State) (va : Addr) (vl : Addr) (u0 : Int32) (h0 : Heap) (n0 : Nat) (v : Option Value) (h : Heap) (L : List Loc) : Prop := v = none ∧ Fr n0 L ∧ Keep h0 h [va, vl] ∧ Fld Z h va "com/example/enodia/enodia/routing/RouteBuffer" "linkCount" "I" (.int (1 : Int32)) ∧ Fld Z h va "com/example/enodia/enodia/routing/RouteBuffer" "links" "[I" (.ref vl) ∧ Ary Z h vl .int [(.int u0), (.int (0 : Int32)), (.int (0 : Int32)), (.int (0 : Int32)), (.int (0 : Int32)), (.int (0 : Int32)), (.int (0 : Int32)), (.int (0 : Int32)), (.int (0 : Int32)), (.int (0 : Int32)), (.int (0 : Int32)), (.int (0 : Int32)), (.int (0 : Int32)), (.int (0 : Int32)), (.int (0 : Int32)), (.int (0 : Int32))]
set_option maxRecDepth 65536 in
set_option maxHeartbeats 40000000 in
theorem rmA0 (l : Launch) (Z : State) (a0 : Array Value) (hw : ∀ d ∈ tables_1, d.before a0 Z = true) (ws : List Jvm.Cond) (va : Addr) (vl : Addr) (u0 : Int32) (h0 : Heap) (n0 : Nat) (Z0 : n0 ≤ h0.size) (E_va : Exa Z h0 va "com/example/enodia/enodia/routing/RouteBuffer") (F_linkCount_va : Fld Z h0 va "com/example/enodia/enodia/routing/RouteBuffer" "linkCount" "I" (.int (0 : Int32))) (F_links_va : Fld Z h0 va "com/example/enodia/enodia/routing/RouteBuffer" "links" "[I" (.ref vl)) (V_vl : Ary Z h0 vl .int [(.int (0 : Int32)), (.int (0 : Int32)), (.int (0 : Int32)), (.int (0 : Int32)), (.int (0 : Int32)), (.int (0 : Int32)), (.int (0 : Int32)), (.int (0 : Int32)), (.int (0 : Int32)), (.int (0 : Int32)), (.int (0 : Int32)), (.int (0 : Int32)), (.int (0 : Int32)), (.int (0 : Int32)), (.int (0 : Int32)), (.int (0 : Int32))]) (g_va : n0 ≤ va) (g_vl : n0 ≤ vl) (ne_va_vl : va ≠ vl) :
    MetFree l (⟨"com/example/enodia/enodia/routing/RouteBuffer", "add", "(I)V"⟩ : MethodName) (head1 (Jvm.Cond.code (⟨"com/example/enodia/enodia/routing/RouteBuffer", "add", "(I)V"⟩ : MethodName) prog_66_method_6_code 2 none :: ws) ({ frames := 0, cells := 0, slots := 0, locals := 0 } : Room)) (fun a U => a = #[(.ref va), (.int u0)] ∧ Z.Warmed39 U.vm ∧ U.heap = h0) (fun _ _ _ _ _ => True) (fun _ U o U' => ∃ v L, o = .returned v ∧ QA0 Z va vl u0 h0 n0 v U'.heap L ∧ FrameEnd U o U' L 0 0) := by
  refine MetFree.of_bodySF (plainFor_of_name pn_6) hisR ?_
  intro p e s m args below meth c s₁ Bd hml0 hP hK
  obtain ⟨rfl, hZ, hh⟩ := hP
  have hx := Bd.exec
  have hby := Bd.bytes
  have hml : c.maxLocals = 2 := hml0
  have hown : s.vm.findClass "com/example/enodia/enodia/routing/RouteBuffer" = some m.cls := findClass_of_methodNamed Bd.named
  have hnm := (name_of_methodNamed Bd.named Bd.method).1
  have X0 : Stand p l e ({ frames := 0, cells := 0, slots := 0, locals := 0 } : Room) s m #[(.ref va), (.int u0)] below meth c s₁ [] 0 0 := Stand.of_body Bd
  have e0 : s₁.heap = h0 := by rw [← hh, Bd.state]; rfl
  have N0 := Fr.nil n0
  have hlk : meth.locks = false := BodyLoose.notSynchronized Bd
  show Goal p e below s (QA0 Z va vl u0 h0 n0) 0 0 (s₁.setTop (entryFrame m #[(.ref va), (.int u0)] 2))
  refine Goal.to (B := s₁.setTop (mkF m 0 #[.val (.ref va), .val (.int u0)] [])) (fun tt kk => castTop (ef_6 m va u0 ) kk) ?_
  refine Goal.to (B := s₁.setTop (mkF m 1 #[.val (.ref va), .val (.int u0)] [(.ref va)])) (fun tt kk => ?_) ?_
  · show Steps p.tables e below (s₁.setTop (mkF m 0 #[.val (.ref va), .val (.int u0)] [])) tt
    refine XS.aloadN X0.here hx rfl (hb hby d6_0) rfl rfl ?_
    exact kk
  obtain ⟨T1, X1, e1, st1⟩ := getF X0 hx hZ hown (host := "") (Or.inl (hw _ (mw 18 rfl))) Via.refl e0 F_linkCount_va (g := (mkF m 1 #[.val (.ref va), .val (.int u0)] [(.ref va)])) rfl rfl (hb hby d6_1)
  refine Goal.to (B := T1.setTop (mkF m 4 #[.val (.ref va), .val (.int u0)] [(.int (0 : Int32))])) st1 ?_
  refine Goal.to (B := T1.setTop (mkF m 5 #[.val (.ref va), .val (.int u0)] [(.ref va), (.int (0 : Int32))])) (fun tt kk => ?_) ?_
  · show Steps p.tables e below (T1.setTop (mkF m 4 #[.val (.ref va), .val (.int u0)] [(.int (0 : Int32))])) tt
    refine XS.aloadN X1.here hx rfl (hb hby d6_4) rfl rfl ?_
    exact kk
  obtain ⟨T2, X2, e2, st2⟩ := getF X1 hx hZ hown (host := "") (Or.inl (hw _ (mw 11 rfl))) Via.refl e1 F_links_va (g := (mkF m 5 #[.val (.ref va), .val (.int u0)] [(.ref va), (.int (0 : Int32))])) rfl rfl (hb hby d6_5)
  refine Goal.to (B := T2.setTop (mkF m 8 #[.val (.ref va), .val (.int u0)] [(.ref vl), (.int (0 : Int32))])) st2 ?_
  obtain ⟨cl3, Ar3, Sl3⟩ := id V_vl
  have ln3 : cl3.slots.size.toInt32 = (16 : Int32) := lenA Sl3 rfl
  refine Goal.to (B := T2.setTop (mkF m 30 #[.val (.ref va), .val (.int u0)] [(.ref va)])) (fun tt kk => ?_) ?_
  · show Steps p.tables e below (T2.setTop (mkF m 8 #[.val (.ref va), .val (.int u0)] [(.ref vl), (.int (0 : Int32))])) tt
    refine X2.arraylength hx (by rw [e2]; exact Ar3.1) (State.isArrayOf_alike hZ.alike Ar3.2.1) (g := (mkF m 8 #[.val (.ref va), .val (.int u0)] [(.ref vl), (.int (0 : Int32))])) rfl rfl (hb hby d6_8) _ ?_
    rw [ln3]
    show Steps p.tables e below (T2.setTop (mkF m 9 #[.val (.ref va), .val (.int u0)] [(.int (16 : Int32)), (.int (0 : Int32))])) tt
    refine XS.icmpYes X2.here hx rfl (pc0 := 9) (pc' := 29) rfl (hb hby d6_9) rfl (feq ((by decide) : ¬ ((0 : Int32) = (16 : Int32)))).2 (by decide) (by decide) ?_
    show Steps p.tables e below (T2.setTop (mkF m 29 #[.val (.ref va), .val (.int u0)] [])) tt
    refine XS.aloadN X2.here hx rfl (hb hby d6_29) rfl rfl ?_
    exact kk
  obtain ⟨T4, X4, e4, st4⟩ := getF X2 hx hZ hown (host := "") (Or.inl (hw _ (mw 11 rfl))) Via.refl e2 F_links_va (g := (mkF m 30 #[.val (.ref va), .val (.int u0)] [(.ref va)])) rfl rfl (hb hby d6_30)
  refine Goal.to (B := T4.setTop (mkF m 33 #[.val (.ref va), .val (.int u0)] [(.ref vl)])) st4 ?_
  refine Goal.to (B := T4.setTop (mkF m 34 #[.val (.ref va), .val (.int u0)] [(.ref va), (.ref vl)])) (fun tt kk => ?_) ?_
  · show Steps p.tables e below (T4.setTop (mkF m 33 #[.val (.ref va), .val (.int u0)] [(.ref vl)])) tt
    refine XS.aloadN X4.here hx rfl (hb hby d6_33) rfl rfl ?_
    exact kk
  obtain ⟨T5, X5, e5, st5⟩ := getF X4 hx hZ hown (host := "") (Or.inl (hw _ (mw 18 rfl))) Via.refl e4 F_linkCount_va (g := (mkF m 34 #[.val (.ref va), .val (.int u0)] [(.ref va), (.ref vl)])) rfl rfl (hb hby d6_34)
  refine Goal.to (B := T5.setTop (mkF m 37 #[.val (.ref va), .val (.int u0)] [(.int (0 : Int32)), (.ref vl)])) st5 ?_
  refine Goal.to (B := T5.setTop (mkF m 38 #[.val (.ref va), .val (.int u0)] [(.int u0), (.int (0 : Int32)), (.ref vl)])) (fun tt kk => ?_) ?_
  · show Steps p.tables e below (T5.setTop (mkF m 37 #[.val (.ref va), .val (.int u0)] [(.int (0 : Int32)), (.ref vl)])) tt
    refine XS.iloadN X5.here hx rfl (hb hby d6_37) rfl ?_
    exact kk
  obtain ⟨cl6, Ar6, Sl6⟩ := id V_vl
  have hin6 := inA (cl := cl6) Sl6 (j := (0 : Int32)) (by decide) (Nat.le_of_ble_eq_true rfl)
  obtain ⟨T6, h6, X6, e6, W6, st6⟩ := stI X5 hx hZ e5 Ar6 (j := (0 : Int32)) hin6 (g := (mkF m 38 #[.val (.ref va), .val (.int u0)] [(.int u0), (.int (0 : Int32)), (.ref vl)])) rfl rfl (hb hby d6_38)
  have V6 : Ary Z h6 vl .int [(.int u0), (.int (0 : Int32)), (.int (0 : Int32)), (.int (0 : Int32)), (.int (0 : Int32)), (.int (0 : Int32)), (.int (0 : Int32)), (.int (0 : Int32)), (.int (0 : Int32)), (.int (0 : Int32)), (.int (0 : Int32)), (.int (0 : Int32)), (.int (0 : Int32)), (.int (0 : Int32)), (.int (0 : Int32)), (.int (0 : Int32))] := Ary.put Ar6 Sl6 W6 rfl
  have N6 := Fr.snoc X6 N0 g_vl
  refine Goal.to (B := T6.setTop (mkF m 39 #[.val (.ref va), .val (.int u0)] [])) st6 ?_
  refine Goal.to (B := T6.setTop (mkF m 41 #[.val (.ref va), .val (.int u0)] [(.ref va), (.ref va)])) (fun tt kk => ?_) ?_
  · show Steps p.tables e below (T6.setTop (mkF m 39 #[.val (.ref va), .val (.int u0)] [])) tt
    refine XS.aloadN X6.here hx rfl (hb hby d6_39) rfl rfl ?_
    show Steps p.tables e below (T6.setTop (mkF m 40 #[.val (.ref va), .val (.int u0)] [(.ref va)])) tt
    refine XS.dup X6.here hx rfl (hb hby d6_40) rfl rfl ?_
    exact kk
  have f7 : Fld Z h6 va "com/example/enodia/enodia/routing/RouteBuffer" "linkCount" "I" (.int (0 : Int32)) := (F_linkCount_va.other W6 (Or.inl ne_va_vl))
  obtain ⟨T8, X8, e8, st8⟩ := getF X6 hx hZ hown (host := "") (Or.inl (hw _ (mw 18 rfl))) Via.refl e6 f7 (g := (mkF m 41 #[.val (.ref va), .val (.int u0)] [(.ref va), (.ref va)])) rfl rfl (hb hby d6_41)
  refine Goal.to (B := T8.setTop (mkF m 44 #[.val (.ref va), .val (.int u0)] [(.int (0 : Int32)), (.ref va)])) st8 ?_
  refine Goal.to (B := T8.setTop (mkF m 46 #[.val (.ref va), .val (.int u0)] [(.int (1 : Int32)), (.ref va)])) (fun tt kk => ?_) ?_
  · show Steps p.tables e below (T8.setTop (mkF m 44 #[.val (.ref va), .val (.int u0)] [(.int (0 : Int32)), (.ref va)])) tt
    refine XS.iconst X8.here hx rfl (hb hby d6_44) ?_
    show Steps p.tables e below (T8.setTop (mkF m 45 #[.val (.ref va), .val (.int u0)] [(.int (1 : Int32)), (.int (0 : Int32)), (.ref va)])) tt
    refine XS.iadd X8.here hx rfl (hb hby d6_45) rfl ?_
    exact kk
  have f9 : Exa Z h6 va "com/example/enodia/enodia/routing/RouteBuffer" := (E_va.wr W6)
  obtain ⟨T10, h10, X10, e10, W10, st10⟩ := putF X8 hx hZ hown (host := "") (Or.inl (hw _ (mw 18 rfl))) Via.refl e8 f7 f9 (Or.inl (hw _ (mw 19 rfl))) (hw _ (mw 3 rfl)) (ty := .int) (by decide) rfl rfl (g := (mkF m 46 #[.val (.ref va), .val (.int u0)] [(.int (1 : Int32)), (.ref va)])) rfl rfl (hb hby d6_46)
  have Fw10 : Fld Z h10 va "com/example/enodia/enodia/routing/RouteBuffer" "linkCount" "I" (.int (1 : Int32)) := f7.same W10
  have N10 := Fr.snoc X10 N6 g_va
  refine Goal.to (B := T10.setTop (mkF m 49 #[.val (.ref va), .val (.int u0)] [])) st10 ?_
  have f11 : Keep h0 h10 [va, vl] := (((Keep.refl h0 [va, vl]).wr W6 (Or.inl (List.mem_of_getElem? (i := 1) rfl))).wr W10 (Or.inl (List.mem_of_getElem? (i := 0) rfl)))
  have f12 : Fld Z h10 va "com/example/enodia/enodia/routing/RouteBuffer" "links" "[I" (.ref vl) := ((F_links_va.other W6 (Or.inl ne_va_vl)).other W10 (Or.inr (slot_ne (Or.inl (hw _ (mw 12 rfl))) (Or.inl (hw _ (mw 19 rfl))) (by decide) (t := (.array .int)) (t' := .int) (by decide) (by decide))))
  have f13 : Ary Z h10 vl .int [(.int u0), (.int (0 : Int32)), (.int (0 : Int32)), (.int (0 : Int32)), (.int (0 : Int32)), (.int (0 : Int32)), (.int (0 : Int32)), (.int (0 : Int32)), (.int (0 : Int32)), (.int (0 : Int32)), (.int (0 : Int32)), (.int (0 : Int32)), (.int (0 : Int32)), (.int (0 : Int32)), (.int (0 : Int32)), (.int (0 : Int32))] := (V6.other W10 (Ne.symm ne_va_vl))
  exact Goal.retN X10 hx Bd.returns (hb hby d6_49) hlk e10 ⟨rfl, N10, f11, Fw10, f12, f13⟩ (by decide) (by decide)
def QA1 (Z : State) (va : Addr) (vl : Addr) (y0 : Int32) (u0 : Int32) (h0 : Heap) (n0 : Nat) (v : Option Value) (h : Heap) (L : List Loc) : Prop := v = none ∧ Fr n0 L ∧ Keep h0 h [va, vl] ∧ Fld Z h va "com/example/enodia/enodia/routing/RouteBuffer" "linkCount" "I" (.int (2 : Int32)) ∧ Fld Z h va "com/example/enodia/enodia/routing/RouteBuffer" "links" "[I" (.ref vl) ∧ Ary Z h vl .int [(.int y0), (.int u0), (.int (0 : Int32)), (.int (0 : Int32)), (.int (0 : Int32)), (.int (0 : Int32)), (.int (0 : Int32)), (.int (0 : Int32)), (.int (0 : Int32)), (.int (0 : Int32)), (.int (0 : Int32)), (.int (0 : Int32)), (.int (0 : Int32)), (.int (0 : Int32)), (.int (0 : Int32)), (.int (0 : Int32))]
set_option maxRecDepth 65536 in
set_option maxHeartbeats 40000000 in
theorem rmA1 (l : Launch) (Z : State) (a0 : Array Value) (hw : ∀ d ∈ tables_1, d.before a0 Z = true) (ws : List Jvm.Cond) (va : Addr) (vl : Addr) (y0 : Int32) (u0 : Int32) (h0 : Heap) (n0 : Nat) (Z0 : n0 ≤ h0.size) (E_va : Exa Z h0 va "com/example/enodia/enodia/routing/RouteBuffer") (F_linkCount_va : Fld Z h0 va "com/example/enodia/enodia/routing/RouteBuffer" "linkCount" "I" (.int (1 : Int32))) (F_links_va : Fld Z h0 va "com/example/enodia/enodia/routing/RouteBuffer" "links" "[I" (.ref vl)) (V_vl : Ary Z h0 vl .int [(.int y0), (.int (0 : Int32)), (.int (0 : Int32)), (.int (0 : Int32)), (.int (0 : Int32)), (.int (0 : Int32)), (.int (0 : Int32)), (.int (0 : Int32)), (.int (0 : Int32)), (.int (0 : Int32)), (.int (0 : Int32)), (.int (0 : Int32)), (.int (0 : Int32)), (.int (0 : Int32)), (.int (0 : Int32)), (.int (0 : Int32))]) (g_va : n0 ≤ va) (g_vl : n0 ≤ vl) (ne_va_vl : va ≠ vl) :
    MetFree l (⟨"com/example/enodia/enodia/routing/RouteBuffer", "add", "(I)V"⟩ : MethodName) (head1 (Jvm.Cond.code (⟨"com/example/enodia/enodia/routing/RouteBuffer", "add", "(I)V"⟩ : MethodName) prog_66_method_6_code 2 none :: ws) ({ frames := 0, cells := 0, slots := 0, locals := 0 } : Room)) (fun a U => a = #[(.ref va), (.int u0)] ∧ Z.Warmed39 U.vm ∧ U.heap = h0) (fun _ _ _ _ _ => True) (fun _ U o U' => ∃ v L, o = .returned v ∧ QA1 Z va vl y0 u0 h0 n0 v U'.heap L ∧ FrameEnd U o U' L 0 0) := by
  refine MetFree.of_bodySF (plainFor_of_name pn_6) hisR ?_
  intro p e s m args below meth c s₁ Bd hml0 hP hK
  obtain ⟨rfl, hZ, hh⟩ := hP
  have hx := Bd.exec
  have hby := Bd.bytes
  have hml : c.maxLocals = 2 := hml0
  have hown : s.vm.findClass "com/example/enodia/enodia/routing/RouteBuffer" = some m.cls := findClass_of_methodNamed Bd.named
  have hnm := (name_of_methodNamed Bd.named Bd.method).1
  have X0 : Stand p l e ({ frames := 0, cells := 0, slots := 0, locals := 0 } : Room) s m #[(.ref va), (.int u0)] below meth c s₁ [] 0 0 := Stand.of_body Bd
  have e0 : s₁.heap = h0 := by rw [← hh, Bd.state]; rfl
  have N0 := Fr.nil n0
  have hlk : meth.locks = false := BodyLoose.notSynchronized Bd
  show Goal p e below s (QA1 Z va vl y0 u0 h0 n0) 0 0 (s₁.setTop (entryFrame m #[(.ref va), (.int u0)] 2))
  refine Goal.to (B := s₁.setTop (mkF m 0 #[.val (.ref va), .val (.int u0)] [])) (fun tt kk => castTop (ef_6 m va u0 ) kk) ?_
  refine Goal.to (B := s₁.setTop (mkF m 1 #[.val (.ref va), .val (.int u0)] [(.ref va)])) (fun tt kk => ?_) ?_
  · show Steps p.tables e below (s₁.setTop (mkF m 0 #[.val (.ref va), .val (.int u0)] [])) tt
    refine XS.aloadN X0.here hx rfl (hb hby d6_0) rfl rfl ?_
    exact kk
  obtain ⟨T1, X1, e1, st1⟩ := getF X0 hx hZ hown (host := "") (Or.inl (hw _ (mw 18 rfl))) Via.refl e0 F_linkCount_va (g := (mkF m 1 #[.val (.ref va), .val (.int u0)] [(.ref va)])) rfl rfl (hb hby d6_1)
  refine Goal.to (B := T1.setTop (mkF m 4 #[.val (.ref va), .val (.int u0)] [(.int (1 : Int32))])) st1 ?_
  refine Goal.to (B := T1.setTop (mkF m 5 #[.val (.ref va), .val (.int u0)] [(.ref va), (.int (1 : Int32))])) (fun tt kk => ?_) ?_
  · show Steps p.tables e below (T1.setTop (mkF m 4 #[.val (.ref va), .val (.int u0)] [(.int (1 : Int32))])) tt
    refine XS.aloadN X1.here hx rfl (hb hby d6_4) rfl rfl ?_
    exact kk
  obtain ⟨T2, X2, e2, st2⟩ := getF X1 hx hZ hown (host := "") (Or.inl (hw _ (mw 11 rfl))) Via.refl e1 F_links_va (g := (mkF m 5 #[.val (.ref va), .val (.int u0)] [(.ref va), (.int (1 : Int32))])) rfl rfl (hb hby d6_5)
  refine Goal.to (B := T2.setTop (mkF m 8 #[.val (.ref va), .val (.int u0)] [(.ref vl), (.int (1 : Int32))])) st2 ?_
  obtain ⟨cl3, Ar3, Sl3⟩ := id V_vl
  have ln3 : cl3.slots.size.toInt32 = (16 : Int32) := lenA Sl3 rfl
  refine Goal.to (B := T2.setTop (mkF m 30 #[.val (.ref va), .val (.int u0)] [(.ref va)])) (fun tt kk => ?_) ?_
  · show Steps p.tables e below (T2.setTop (mkF m 8 #[.val (.ref va), .val (.int u0)] [(.ref vl), (.int (1 : Int32))])) tt
    refine X2.arraylength hx (by rw [e2]; exact Ar3.1) (State.isArrayOf_alike hZ.alike Ar3.2.1) (g := (mkF m 8 #[.val (.ref va), .val (.int u0)] [(.ref vl), (.int (1 : Int32))])) rfl rfl (hb hby d6_8) _ ?_
    rw [ln3]
    show Steps p.tables e below (T2.setTop (mkF m 9 #[.val (.ref va), .val (.int u0)] [(.int (16 : Int32)), (.int (1 : Int32))])) tt
    refine XS.icmpYes X2.here hx rfl (pc0 := 9) (pc' := 29) rfl (hb hby d6_9) rfl (feq ((by decide) : ¬ ((1 : Int32) = (16 : Int32)))).2 (by decide) (by decide) ?_
    show Steps p.tables e below (T2.setTop (mkF m 29 #[.val (.ref va), .val (.int u0)] [])) tt
    refine XS.aloadN X2.here hx rfl (hb hby d6_29) rfl rfl ?_
    exact kk
  obtain ⟨T4, X4, e4, st4⟩ := getF X2 hx hZ hown (host := "") (Or.inl (hw _ (mw 11 rfl))) Via.refl e2 F_links_va (g := (mkF m 30 #[.val (.ref va), .val (.int u0)] [(.ref va)])) rfl rfl (hb hby d6_30)
  refine Goal.to (B := T4.setTop (mkF m 33 #[.val (.ref va), .val (.int u0)] [(.ref vl)])) st4 ?_
  refine Goal.to (B := T4.setTop (mkF m 34 #[.val (.ref va), .val (.int u0)] [(.ref va), (.ref vl)])) (fun tt kk => ?_) ?_
  · show Steps p.tables e below (T4.setTop (mkF m 33 #[.val (.ref va), .val (.int u0)] [(.ref vl)])) tt
    refine XS.aloadN X4.here hx rfl (hb hby d6_33) rfl rfl ?_
    exact kk
  obtain ⟨T5, X5, e5, st5⟩ := getF X4 hx hZ hown (host := "") (Or.inl (hw _ (mw 18 rfl))) Via.refl e4 F_linkCount_va (g := (mkF m 34 #[.val (.ref va), .val (.int u0)] [(.ref va), (.ref vl)])) rfl rfl (hb hby d6_34)
  refine Goal.to (B := T5.setTop (mkF m 37 #[.val (.ref va), .val (.int u0)] [(.int (1 : Int32)), (.ref vl)])) st5 ?_
  refine Goal.to (B := T5.setTop (mkF m 38 #[.val (.ref va), .val (.int u0)] [(.int u0), (.int (1 : Int32)), (.ref vl)])) (fun tt kk => ?_) ?_
  · show Steps p.tables e below (T5.setTop (mkF m 37 #[.val (.ref va), .val (.int u0)] [(.int (1 : Int32)), (.ref vl)])) tt
    refine XS.iloadN X5.here hx rfl (hb hby d6_37) rfl ?_
    exact kk
  obtain ⟨cl6, Ar6, Sl6⟩ := id V_vl
  have hin6 := inA (cl := cl6) Sl6 (j := (1 : Int32)) (by decide) (Nat.le_of_ble_eq_true rfl)
  obtain ⟨T6, h6, X6, e6, W6, st6⟩ := stI X5 hx hZ e5 Ar6 (j := (1 : Int32)) hin6 (g := (mkF m 38 #[.val (.ref va), .val (.int u0)] [(.int u0), (.int (1 : Int32)), (.ref vl)])) rfl rfl (hb hby d6_38)
  have V6 : Ary Z h6 vl .int [(.int y0), (.int u0), (.int (0 : Int32)), (.int (0 : Int32)), (.int (0 : Int32)), (.int (0 : Int32)), (.int (0 : Int32)), (.int (0 : Int32)), (.int (0 : Int32)), (.int (0 : Int32)), (.int (0 : Int32)), (.int (0 : Int32)), (.int (0 : Int32)), (.int (0 : Int32)), (.int (0 : Int32)), (.int (0 : Int32))] := Ary.put Ar6 Sl6 W6 rfl
  have N6 := Fr.snoc X6 N0 g_vl
  refine Goal.to (B := T6.setTop (mkF m 39 #[.val (.ref va), .val (.int u0)] [])) st6 ?_
  refine Goal.to (B := T6.setTop (mkF m 41 #[.val (.ref va), .val (.int u0)] [(.ref va), (.ref va)])) (fun tt kk => ?_) ?_
  · show Steps p.tables e below (T6.setTop (mkF m 39 #[.val (.ref va), .val (.int u0)] [])) tt
    refine XS.aloadN X6.here hx rfl (hb hby d6_39) rfl rfl ?_
    show Steps p.tables e below (T6.setTop (mkF m 40 #[.val (.ref va), .val (.int u0)] [(.ref va)])) tt
    refine XS.dup X6.here hx rfl (hb hby d6_40) rfl rfl ?_
    exact kk
  have f7 : Fld Z h6 va "com/example/enodia/enodia/routing/RouteBuffer" "linkCount" "I" (.int (1 : Int32)) := (F_linkCount_va.other W6 (Or.inl ne_va_vl))
  obtain ⟨T8, X8, e8, st8⟩ := getF X6 hx hZ hown (host := "") (Or.inl (hw _ (mw 18 rfl))) Via.refl e6 f7 (g := (mkF m 41 #[.val (.ref va), .val (.int u0)] [(.ref va), (.ref va)])) rfl rfl (hb hby d6_41)
  refine Goal.to (B := T8.setTop (mkF m 44 #[.val (.ref va), .val (.int u0)] [(.int (1 : Int32)), (.ref va)])) st8 ?_
  refine Goal.to (B := T8.setTop (mkF m 46 #[.val (.ref va), .val (.int u0)] [(.int (2 : Int32)), (.ref va)])) (fun tt kk => ?_) ?_
  · show Steps p.tables e below (T8.setTop (mkF m 44 #[.val (.ref va), .val (.int u0)] [(.int (1 : Int32)), (.ref va)])) tt
    refine XS.iconst X8.here hx rfl (hb hby d6_44) ?_
    show Steps p.tables e below (T8.setTop (mkF m 45 #[.val (.ref va), .val (.int u0)] [(.int (1 : Int32)), (.int (1 : Int32)), (.ref va)])) tt
    refine XS.iadd X8.here hx rfl (hb hby d6_45) rfl ?_
    exact kk
  have f9 : Exa Z h6 va "com/example/enodia/enodia/routing/RouteBuffer" := (E_va.wr W6)
  obtain ⟨T10, h10, X10, e10, W10, st10⟩ := putF X8 hx hZ hown (host := "") (Or.inl (hw _ (mw 18 rfl))) Via.refl e8 f7 f9 (Or.inl (hw _ (mw 19 rfl))) (hw _ (mw 3 rfl)) (ty := .int) (by decide) rfl rfl (g := (mkF m 46 #[.val (.ref va), .val (.int u0)] [(.int (2 : Int32)), (.ref va)])) rfl rfl (hb hby d6_46)
  have Fw10 : Fld Z h10 va "com/example/enodia/enodia/routing/RouteBuffer" "linkCount" "I" (.int (2 : Int32)) := f7.same W10
  have N10 := Fr.snoc X10 N6 g_va
  refine Goal.to (B := T10.setTop (mkF m 49 #[.val (.ref va), .val (.int u0)] [])) st10 ?_
  have f11 : Keep h0 h10 [va, vl] := (((Keep.refl h0 [va, vl]).wr W6 (Or.inl (List.mem_of_getElem? (i := 1) rfl))).wr W10 (Or.inl (List.mem_of_getElem? (i := 0) rfl)))
  have f12 : Fld Z h10 va "com/example/enodia/enodia/routing/RouteBuffer" "links" "[I" (.ref vl) := ((F_links_va.other W6 (Or.inl ne_va_vl)).other W10 (Or.inr (slot_ne (Or.inl (hw _ (mw 12 rfl))) (Or.inl (hw _ (mw 19 rfl))) (by decide) (t := (.array .int)) (t' := .int) (by decide) (by decide))))
  have f13 : Ary Z h10 vl .int [(.int y0), (.int u0), (.int (0 : Int32)), (.int (0 : Int32)), (.int (0 : Int32)), (.int (0 : Int32)), (.int (0 : Int32)), (.int (0 : Int32)), (.int (0 : Int32)), (.int (0 : Int32)), (.int (0 : Int32)), (.int (0 : Int32)), (.int (0 : Int32)), (.int (0 : Int32)), (.int (0 : Int32)), (.int (0 : Int32))] := (V6.other W10 (Ne.symm ne_va_vl))
  exact Goal.retN X10 hx Bd.returns (hb hby d6_49) hlk e10 ⟨rfl, N10, f11, Fw10, f12, f13⟩ (by decide) (by decide)
def QA2 (Z : State) (va : Addr) (vl : Addr) (y0 : Int32) (y1 : Int32) (u0 : Int32) (h0 : Heap) (n0 : Nat) (v : Option Value) (h : Heap) (L : List Loc) : Prop := v = none ∧ Fr n0 L ∧ Keep h0 h [va, vl] ∧ Fld Z h va "com/example/enodia/enodia/routing/RouteBuffer" "linkCount" "I" (.int (3 : Int32)) ∧ Fld Z h va "com/example/enodia/enodia/routing/RouteBuffer" "links" "[I" (.ref vl) ∧ Ary Z h vl .int [(.int y0), (.int y1), (.int u0), (.int (0 : Int32)), (.int (0 : Int32)), (.int (0 : Int32)), (.int (0 : Int32)), (.int (0 : Int32)), (.int (0 : Int32)), (.int (0 : Int32)), (.int (0 : Int32)), (.int (0 : Int32)), (.int (0 : Int32)), (.int (0 : Int32)), (.int (0 : Int32)), (.int (0 : Int32))]
set_option maxRecDepth 65536 in
set_option maxHeartbeats 40000000 in
theorem rmA2 (l : Launch) (Z : State) (a0 : Array Value) (hw : ∀ d ∈ tables_1, d.before a0 Z = true) (ws : List Jvm.Cond) (va : Addr) (vl : Addr) (y0 : Int32) (y1 : Int32) (u0 : Int32) (h0 : Heap) (n0 : Nat) (Z0 : n0 ≤ h0.size) (E_va : Exa Z h0 va "com/example/enodia/enodia/routing/RouteBuffer") (F_linkCount_va : Fld Z h0 va "com/example/enodia/enodia/routing/RouteBuffer" "linkCount" "I" (.int (2 : Int32))) (F_links_va : Fld Z h0 va "com/example/enodia/enodia/routing/RouteBuffer" "links" "[I" (.ref vl)) (V_vl : Ary Z h0 vl .int [(.int y0), (.int y1), (.int (0 : Int32)), (.int (0 : Int32)), (.int (0 : Int32)), (.int (0 : Int32)), (.int (0 : Int32)), (.int (0 : Int32)), (.int (0 : Int32)), (.int (0 : Int32)), (.int (0 : Int32)), (.int (0 : Int32)), (.int (0 : Int32)), (.int (0 : Int32)), (.int (0 : Int32)), (.int (0 : Int32))]) (g_va : n0 ≤ va) (g_vl : n0 ≤ vl) (ne_va_vl : va ≠ vl) :
    MetFree l (⟨"com/example/enodia/enodia/routing/RouteBuffer", "add", "(I)V"⟩ : MethodName) (head1 (Jvm.Cond.code (⟨"com/example/enodia/enodia/routing/RouteBuffer", "add", "(I)V"⟩ : MethodName) prog_66_method_6_code 2 none :: ws) ({ frames := 0, cells := 0, slots := 0, locals := 0 } : Room)) (fun a U => a = #[(.ref va), (.int u0)] ∧ Z.Warmed39 U.vm ∧ U.heap = h0) (fun _ _ _ _ _ => True) (fun _ U o U' => ∃ v L, o = .returned v ∧ QA2 Z va vl y0 y1 u0 h0 n0 v U'.heap L ∧ FrameEnd U o U' L 0 0) := by
  refine MetFree.of_bodySF (plainFor_of_name pn_6) hisR ?_
  intro p e s m args below meth c s₁ Bd hml0 hP hK
  obtain ⟨rfl, hZ, hh⟩ := hP
  have hx := Bd.exec
  have hby := Bd.bytes
  have hml : c.maxLocals = 2 := hml0
  have hown : s.vm.findClass "com/example/enodia/enodia/routing/RouteBuffer" = some m.cls := findClass_of_methodNamed Bd.named
  have hnm := (name_of_methodNamed Bd.named Bd.method).1
  have X0 : Stand p l e ({ frames := 0, cells := 0, slots := 0, locals := 0 } : Room) s m #[(.ref va), (.int u0)] below meth c s₁ [] 0 0 := Stand.of_body Bd
  have e0 : s₁.heap = h0 := by rw [← hh, Bd.state]; rfl
  have N0 := Fr.nil n0
  have hlk : meth.locks = false := BodyLoose.notSynchronized Bd
  show Goal p e below s (QA2 Z va vl y0 y1 u0 h0 n0) 0 0 (s₁.setTop (entryFrame m #[(.ref va), (.int u0)] 2))
  refine Goal.to (B := s₁.setTop (mkF m 0 #[.val (.ref va), .val (.int u0)] [])) (fun tt kk => castTop (ef_6 m va u0 ) kk) ?_
  refine Goal.to (B := s₁.setTop (mkF m 1 #[.val (.ref va), .val (.int u0)] [(.ref va)])) (fun tt kk => ?_) ?_
  · show Steps p.tables e below (s₁.setTop (mkF m 0 #[.val (.ref va), .val (.int u0)] [])) tt
    refine XS.aloadN X0.here hx rfl (hb hby d6_0) rfl rfl ?_
    exact kk
  obtain ⟨T1, X1, e1, st1⟩ := getF X0 hx hZ hown (host := "") (Or.inl (hw _ (mw 18 rfl))) Via.refl e0 F_linkCount_va (g := (mkF m 1 #[.val (.ref va), .val (.int u0)] [(.ref va)])) rfl rfl (hb hby d6_1)
  refine Goal.to (B := T1.setTop (mkF m 4 #[.val (.ref va), .val (.int u0)] [(.int (2 : Int32))])) st1 ?_
  refine Goal.to (B := T1.setTop (mkF m 5 #[.val (.ref va), .val (.int u0)] [(.ref va), (.int (2 : Int32))])) (fun tt kk => ?_) ?_
  · show Steps p.tables e below (T1.setTop (mkF m 4 #[.val (.ref va), .val (.int u0)] [(.int (2 : Int32))])) tt
    refine XS.aloadN X1.here hx rfl (hb hby d6_4) rfl rfl ?_
    exact kk
  obtain ⟨T2, X2, e2, st2⟩ := getF X1 hx hZ hown (host := "") (Or.inl (hw _ (mw 11 rfl))) Via.refl e1 F_links_va (g := (mkF m 5 #[.val (.ref va), .val (.int u0)] [(.ref va), (.int (2 : Int32))])) rfl rfl (hb hby d6_5)
  refine Goal.to (B := T2.setTop (mkF m 8 #[.val (.ref va), .val (.int u0)] [(.ref vl), (.int (2 : Int32))])) st2 ?_
  obtain ⟨cl3, Ar3, Sl3⟩ := id V_vl
  have ln3 : cl3.slots.size.toInt32 = (16 : Int32) := lenA Sl3 rfl
  refine Goal.to (B := T2.setTop (mkF m 30 #[.val (.ref va), .val (.int u0)] [(.ref va)])) (fun tt kk => ?_) ?_
  · show Steps p.tables e below (T2.setTop (mkF m 8 #[.val (.ref va), .val (.int u0)] [(.ref vl), (.int (2 : Int32))])) tt
    refine X2.arraylength hx (by rw [e2]; exact Ar3.1) (State.isArrayOf_alike hZ.alike Ar3.2.1) (g := (mkF m 8 #[.val (.ref va), .val (.int u0)] [(.ref vl), (.int (2 : Int32))])) rfl rfl (hb hby d6_8) _ ?_
    rw [ln3]
    show Steps p.tables e below (T2.setTop (mkF m 9 #[.val (.ref va), .val (.int u0)] [(.int (16 : Int32)), (.int (2 : Int32))])) tt
    refine XS.icmpYes X2.here hx rfl (pc0 := 9) (pc' := 29) rfl (hb hby d6_9) rfl (feq ((by decide) : ¬ ((2 : Int32) = (16 : Int32)))).2 (by decide) (by decide) ?_
    show Steps p.tables e below (T2.setTop (mkF m 29 #[.val (.ref va), .val (.int u0)] [])) tt
    refine XS.aloadN X2.here hx rfl (hb hby d6_29) rfl rfl ?_
    exact kk
  obtain ⟨T4, X4, e4, st4⟩ := getF X2 hx hZ hown (host := "") (Or.inl (hw _ (mw 11 rfl))) Via.refl e2 F_links_va (g := (mkF m 30 #[.val (.ref va), .val (.int u0)] [(.ref va)])) rfl rfl (hb hby d6_30)
  refine Goal.to (B := T4.setTop (mkF m 33 #[.val (.ref va), .val (.int u0)] [(.ref vl)])) st4 ?_
  refine Goal.to (B := T4.setTop (mkF m 34 #[.val (.ref va), .val (.int u0)] [(.ref va), (.ref vl)])) (fun tt kk => ?_) ?_
  · show Steps p.tables e below (T4.setTop (mkF m 33 #[.val (.ref va), .val (.int u0)] [(.ref vl)])) tt
    refine XS.aloadN X4.here hx rfl (hb hby d6_33) rfl rfl ?_
    exact kk
  obtain ⟨T5, X5, e5, st5⟩ := getF X4 hx hZ hown (host := "") (Or.inl (hw _ (mw 18 rfl))) Via.refl e4 F_linkCount_va (g := (mkF m 34 #[.val (.ref va), .val (.int u0)] [(.ref va), (.ref vl)])) rfl rfl (hb hby d6_34)
  refine Goal.to (B := T5.setTop (mkF m 37 #[.val (.ref va), .val (.int u0)] [(.int (2 : Int32)), (.ref vl)])) st5 ?_
  refine Goal.to (B := T5.setTop (mkF m 38 #[.val (.ref va), .val (.int u0)] [(.int u0), (.int (2 : Int32)), (.ref vl)])) (fun tt kk => ?_) ?_
  · show Steps p.tables e below (T5.setTop (mkF m 37 #[.val (.ref va), .val (.int u0)] [(.int (2 : Int32)), (.ref vl)])) tt
    refine XS.iloadN X5.here hx rfl (hb hby d6_37) rfl ?_
    exact kk
  obtain ⟨cl6, Ar6, Sl6⟩ := id V_vl
  have hin6 := inA (cl := cl6) Sl6 (j := (2 : Int32)) (by decide) (Nat.le_of_ble_eq_true rfl)
  obtain ⟨T6, h6, X6, e6, W6, st6⟩ := stI X5 hx hZ e5 Ar6 (j := (2 : Int32)) hin6 (g := (mkF m 38 #[.val (.ref va), .val (.int u0)] [(.int u0), (.int (2 : Int32)), (.ref vl)])) rfl rfl (hb hby d6_38)
  have V6 : Ary Z h6 vl .int [(.int y0), (.int y1), (.int u0), (.int (0 : Int32)), (.int (0 : Int32)), (.int (0 : Int32)), (.int (0 : Int32)), (.int (0 : Int32)), (.int (0 : Int32)), (.int (0 : Int32)), (.int (0 : Int32)), (.int (0 : Int32)), (.int (0 : Int32)), (.int (0 : Int32)), (.int (0 : Int32)), (.int (0 : Int32))] := Ary.put Ar6 Sl6 W6 rfl
  have N6 := Fr.snoc X6 N0 g_vl
  refine Goal.to (B := T6.setTop (mkF m 39 #[.val (.ref va), .val (.int u0)] [])) st6 ?_
  refine Goal.to (B := T6.setTop (mkF m 41 #[.val (.ref va), .val (.int u0)] [(.ref va), (.ref va)])) (fun tt kk => ?_) ?_
  · show Steps p.tables e below (T6.setTop (mkF m 39 #[.val (.ref va), .val (.int u0)] [])) tt
    refine XS.aloadN X6.here hx rfl (hb hby d6_39) rfl rfl ?_
    show Steps p.tables e below (T6.setTop (mkF m 40 #[.val (.ref va), .val (.int u0)] [(.ref va)])) tt
    refine XS.dup X6.here hx rfl (hb hby d6_40) rfl rfl ?_
    exact kk
  have f7 : Fld Z h6 va "com/example/enodia/enodia/routing/RouteBuffer" "linkCount" "I" (.int (2 : Int32)) := (F_linkCount_va.other W6 (Or.inl ne_va_vl))
  obtain ⟨T8, X8, e8, st8⟩ := getF X6 hx hZ hown (host := "") (Or.inl (hw _ (mw 18 rfl))) Via.refl e6 f7 (g := (mkF m 41 #[.val (.ref va), .val (.int u0)] [(.ref va), (.ref va)])) rfl rfl (hb hby d6_41)
  refine Goal.to (B := T8.setTop (mkF m 44 #[.val (.ref va), .val (.int u0)] [(.int (2 : Int32)), (.ref va)])) st8 ?_
  refine Goal.to (B := T8.setTop (mkF m 46 #[.val (.ref va), .val (.int u0)] [(.int (3 : Int32)), (.ref va)])) (fun tt kk => ?_) ?_
  · show Steps p.tables e below (T8.setTop (mkF m 44 #[.val (.ref va), .val (.int u0)] [(.int (2 : Int32)), (.ref va)])) tt
    refine XS.iconst X8.here hx rfl (hb hby d6_44) ?_
    show Steps p.tables e below (T8.setTop (mkF m 45 #[.val (.ref va), .val (.int u0)] [(.int (1 : Int32)), (.int (2 : Int32)), (.ref va)])) tt
    refine XS.iadd X8.here hx rfl (hb hby d6_45) rfl ?_
    exact kk
  have f9 : Exa Z h6 va "com/example/enodia/enodia/routing/RouteBuffer" := (E_va.wr W6)
  obtain ⟨T10, h10, X10, e10, W10, st10⟩ := putF X8 hx hZ hown (host := "") (Or.inl (hw _ (mw 18 rfl))) Via.refl e8 f7 f9 (Or.inl (hw _ (mw 19 rfl))) (hw _ (mw 3 rfl)) (ty := .int) (by decide) rfl rfl (g := (mkF m 46 #[.val (.ref va), .val (.int u0)] [(.int (3 : Int32)), (.ref va)])) rfl rfl (hb hby d6_46)
  have Fw10 : Fld Z h10 va "com/example/enodia/enodia/routing/RouteBuffer" "linkCount" "I" (.int (3 : Int32)) := f7.same W10
  have N10 := Fr.snoc X10 N6 g_va
  refine Goal.to (B := T10.setTop (mkF m 49 #[.val (.ref va), .val (.int u0)] [])) st10 ?_
  have f11 : Keep h0 h10 [va, vl] := (((Keep.refl h0 [va, vl]).wr W6 (Or.inl (List.mem_of_getElem? (i := 1) rfl))).wr W10 (Or.inl (List.mem_of_getElem? (i := 0) rfl)))
  have f12 : Fld Z h10 va "com/example/enodia/enodia/routing/RouteBuffer" "links" "[I" (.ref vl) := ((F_links_va.other W6 (Or.inl ne_va_vl)).other W10 (Or.inr (slot_ne (Or.inl (hw _ (mw 12 rfl))) (Or.inl (hw _ (mw 19 rfl))) (by decide) (t := (.array .int)) (t' := .int) (by decide) (by decide))))
  have f13 : Ary Z h10 vl .int [(.int y0), (.int y1), (.int u0), (.int (0 : Int32)), (.int (0 : Int32)), (.int (0 : Int32)), (.int (0 : Int32)), (.int (0 : Int32)), (.int (0 : Int32)), (.int (0 : Int32)), (.int (0 : Int32)), (.int (0 : Int32)), (.int (0 : Int32)), (.int (0 : Int32)), (.int (0 : Int32)), (.int (0 : Int32))] := (V6.other W10 (Ne.symm ne_va_vl))
  exact Goal.retN X10 hx Bd.returns (hb hby d6_49) hlk e10 ⟨rfl, N10, f11, Fw10, f12, f13⟩ (by decide) (by decide)
def QA3 (Z : State) (va : Addr) (vl : Addr) (y0 : Int32) (y1 : Int32) (y2 : Int32) (u0 : Int32) (h0 : Heap) (n0 : Nat) (v : Option Value) (h : Heap) (L : List Loc) : Prop := v = none ∧ Fr n0 L ∧ Keep h0 h [va, vl] ∧ Fld Z h va "com/example/enodia/enodia/routing/RouteBuffer" "linkCount" "I" (.int (4 : Int32)) ∧ Fld Z h va "com/example/enodia/enodia/routing/RouteBuffer" "links" "[I" (.ref vl) ∧ Ary Z h vl .int [(.int y0), (.int y1), (.int y2), (.int u0), (.int (0 : Int32)), (.int (0 : Int32)), (.int (0 : Int32)), (.int (0 : Int32)), (.int (0 : Int32)), (.int (0 : Int32)), (.int (0 : Int32)), (.int (0 : Int32)), (.int (0 : Int32)), (.int (0 : Int32)), (.int (0 : Int32)), (.int (0 : Int32))]
set_option maxRecDepth 65536 in
set_option maxHeartbeats 40000000 in
theorem rmA3 (l : Launch) (Z : State) (a0 : Array Value) (hw : ∀ d ∈ tables_1, d.before a0 Z = true) (ws : List Jvm.Cond) (va : Addr) (vl : Addr) (y0 : Int32) (y1 : Int32) (y2 : Int32) (u0 : Int32) (h0 : Heap) (n0 : Nat) (Z0 : n0 ≤ h0.size) (E_va : Exa Z h0 va "com/example/enodia/enodia/routing/RouteBuffer") (F_linkCount_va : Fld Z h0 va "com/example/enodia/enodia/routing/RouteBuffer" "linkCount" "I" (.int (3 : Int32))) (F_links_va : Fld Z h0 va "com/example/enodia/enodia/routing/RouteBuffer" "links" "[I" (.ref vl)) (V_vl : Ary Z h0 vl .int [(.int y0), (.int y1), (.int y2), (.int (0 : Int32)), (.int (0 : Int32)), (.int (0 : Int32)), (.int (0 : Int32)), (.int (0 : Int32)), (.int (0 : Int32)), (.int (0 : Int32)), (.int (0 : Int32)), (.int (0 : Int32)), (.int (0 : Int32)), (.int (0 : Int32)), (.int (0 : Int32)), (.int (0 : Int32))]) (g_va : n0 ≤ va) (g_vl : n0 ≤ vl) (ne_va_vl : va ≠ vl) :
    MetFree l (⟨"com/example/enodia/enodia/routing/RouteBuffer", "add", "(I)V"⟩ : MethodName) (head1 (Jvm.Cond.code (⟨"com/example/enodia/enodia/routing/RouteBuffer", "add", "(I)V"⟩ : MethodName) prog_66_method_6_code 2 none :: ws) ({ frames := 0, cells := 0, slots := 0, locals := 0 } : Room)) (fun a U => a = #[(.ref va), (.int u0)] ∧ Z.Warmed39 U.vm ∧ U.heap = h0) (fun _ _ _ _ _ => True) (fun _ U o U' => ∃ v L, o = .returned v ∧ QA3 Z va vl y0 y1 y2 u0 h0 n0 v U'.heap L ∧ FrameEnd U o U' L 0 0) := by
  refine MetFree.of_bodySF (plainFor_of_name pn_6) hisR ?_
  intro p e s m args below meth c s₁ Bd hml0 hP hK
  obtain ⟨rfl, hZ, hh⟩ := hP
  have hx := Bd.exec
  have hby := Bd.bytes
  have hml : c.maxLocals = 2 := hml0
  have hown : s.vm.findClass "com/example/enodia/enodia/routing/RouteBuffer" = some m.cls := findClass_of_methodNamed Bd.named
  have hnm := (name_of_methodNamed Bd.named Bd.method).1
  have X0 : Stand p l e ({ frames := 0, cells := 0, slots := 0, locals := 0 } : Room) s m #[(.ref va), (.int u0)] below meth c s₁ [] 0 0 := Stand.of_body Bd
  have e0 : s₁.heap = h0 := by rw [← hh, Bd.state]; rfl
  have N0 := Fr.nil n0
  have hlk : meth.locks = false := BodyLoose.notSynchronized Bd
  show Goal p e below s (QA3 Z va vl y0 y1 y2 u0 h0 n0) 0 0 (s₁.setTop (entryFrame m #[(.ref va), (.int u0)] 2))
  refine Goal.to (B := s₁.setTop (mkF m 0 #[.val (.ref va), .val (.int u0)] [])) (fun tt kk => castTop (ef_6 m va u0 ) kk) ?_
  refine Goal.to (B := s₁.setTop (mkF m 1 #[.val (.ref va), .val (.int u0)] [(.ref va)])) (fun tt kk => ?_) ?_
  · show Steps p.tables e below (s₁.setTop (mkF m 0 #[.val (.ref va), .val (.int u0)] [])) tt
    refine XS.aloadN X0.here hx rfl (hb hby d6_0) rfl rfl ?_
    exact kk
  obtain ⟨T1, X1, e1, st1⟩ := getF X0 hx hZ hown (host := "") (Or.inl (hw _ (mw 18 rfl))) Via.refl e0 F_linkCount_va (g := (mkF m 1 #[.val (.ref va), .val (.int u0)] [(.ref va)])) rfl rfl (hb hby d6_1)
  refine Goal.to (B := T1.setTop (mkF m 4 #[.val (.ref va), .val (.int u0)] [(.int (3 : Int32))])) st1 ?_
  refine Goal.to (B := T1.setTop (mkF m 5 #[.val (.ref va), .val (.int u0)] [(.ref va), (.int (3 : Int32))])) (fun tt kk => ?_) ?_
  · show Steps p.tables e below (T1.setTop (mkF m 4 #[.val (.ref va), .val (.int u0)] [(.int (3 : Int32))])) tt
    refine XS.aloadN X1.here hx rfl (hb hby d6_4) rfl rfl ?_
    exact kk
  obtain ⟨T2, X2, e2, st2⟩ := getF X1 hx hZ hown (host := "") (Or.inl (hw _ (mw 11 rfl))) Via.refl e1 F_links_va (g := (mkF m 5 #[.val (.ref va), .val (.int u0)] [(.ref va), (.int (3 : Int32))])) rfl rfl (hb hby d6_5)
  refine Goal.to (B := T2.setTop (mkF m 8 #[.val (.ref va), .val (.int u0)] [(.ref vl), (.int (3 : Int32))])) st2 ?_
  obtain ⟨cl3, Ar3, Sl3⟩ := id V_vl
  have ln3 : cl3.slots.size.toInt32 = (16 : Int32) := lenA Sl3 rfl
  refine Goal.to (B := T2.setTop (mkF m 30 #[.val (.ref va), .val (.int u0)] [(.ref va)])) (fun tt kk => ?_) ?_
  · show Steps p.tables e below (T2.setTop (mkF m 8 #[.val (.ref va), .val (.int u0)] [(.ref vl), (.int (3 : Int32))])) tt
    refine X2.arraylength hx (by rw [e2]; exact Ar3.1) (State.isArrayOf_alike hZ.alike Ar3.2.1) (g := (mkF m 8 #[.val (.ref va), .val (.int u0)] [(.ref vl), (.int (3 : Int32))])) rfl rfl (hb hby d6_8) _ ?_
    rw [ln3]
    show Steps p.tables e below (T2.setTop (mkF m 9 #[.val (.ref va), .val (.int u0)] [(.int (16 : Int32)), (.int (3 : Int32))])) tt
    refine XS.icmpYes X2.here hx rfl (pc0 := 9) (pc' := 29) rfl (hb hby d6_9) rfl (feq ((by decide) : ¬ ((3 : Int32) = (16 : Int32)))).2 (by decide) (by decide) ?_
    show Steps p.tables e below (T2.setTop (mkF m 29 #[.val (.ref va), .val (.int u0)] [])) tt
    refine XS.aloadN X2.here hx rfl (hb hby d6_29) rfl rfl ?_
    exact kk
  obtain ⟨T4, X4, e4, st4⟩ := getF X2 hx hZ hown (host := "") (Or.inl (hw _ (mw 11 rfl))) Via.refl e2 F_links_va (g := (mkF m 30 #[.val (.ref va), .val (.int u0)] [(.ref va)])) rfl rfl (hb hby d6_30)
  refine Goal.to (B := T4.setTop (mkF m 33 #[.val (.ref va), .val (.int u0)] [(.ref vl)])) st4 ?_
  refine Goal.to (B := T4.setTop (mkF m 34 #[.val (.ref va), .val (.int u0)] [(.ref va), (.ref vl)])) (fun tt kk => ?_) ?_
  · show Steps p.tables e below (T4.setTop (mkF m 33 #[.val (.ref va), .val (.int u0)] [(.ref vl)])) tt
    refine XS.aloadN X4.here hx rfl (hb hby d6_33) rfl rfl ?_
    exact kk
  obtain ⟨T5, X5, e5, st5⟩ := getF X4 hx hZ hown (host := "") (Or.inl (hw _ (mw 18 rfl))) Via.refl e4 F_linkCount_va (g := (mkF m 34 #[.val (.ref va), .val (.int u0)] [(.ref va), (.ref vl)])) rfl rfl (hb hby d6_34)
  refine Goal.to (B := T5.setTop (mkF m 37 #[.val (.ref va), .val (.int u0)] [(.int (3 : Int32)), (.ref vl)])) st5 ?_
  refine Goal.to (B := T5.setTop (mkF m 38 #[.val (.ref va), .val (.int u0)] [(.int u0), (.int (3 : Int32)), (.ref vl)])) (fun tt kk => ?_) ?_
  · show Steps p.tables e below (T5.setTop (mkF m 37 #[.val (.ref va), .val (.int u0)] [(.int (3 : Int32)), (.ref vl)])) tt
    refine XS.iloadN X5.here hx rfl (hb hby d6_37) rfl ?_
    exact kk
  obtain ⟨cl6, Ar6, Sl6⟩ := id V_vl
  have hin6 := inA (cl := cl6) Sl6 (j := (3 : Int32)) (by decide) (Nat.le_of_ble_eq_true rfl)
  obtain ⟨T6, h6, X6, e6, W6, st6⟩ := stI X5 hx hZ e5 Ar6 (j := (3 : Int32)) hin6 (g := (mkF m 38 #[.val (.ref va), .val (.int u0)] [(.int u0), (.int (3 : Int32)), (.ref vl)])) rfl rfl (hb hby d6_38)
  have V6 : Ary Z h6 vl .int [(.int y0), (.int y1), (.int y2), (.int u0), (.int (0 : Int32)), (.int (0 : Int32)), (.int (0 : Int32)), (.int (0 : Int32)), (.int (0 : Int32)), (.int (0 : Int32)), (.int (0 : Int32)), (.int (0 : Int32)), (.int (0 : Int32)), (.int (0 : Int32)), (.int (0 : Int32)), (.int (0 : Int32))] := Ary.put Ar6 Sl6 W6 rfl
  have N6 := Fr.snoc X6 N0 g_vl
  refine Goal.to (B := T6.setTop (mkF m 39 #[.val (.ref va), .val (.int u0)] [])) st6 ?_
  refine Goal.to (B := T6.setTop (mkF m 41 #[.val (.ref va), .val (.int u0)] [(.ref va), (.ref va)])) (fun tt kk => ?_) ?_
  · show Steps p.tables e below (T6.setTop (mkF m 39 #[.val (.ref va), .val (.int u0)] [])) tt
    refine XS.aloadN X6.here hx rfl (hb hby d6_39) rfl rfl ?_
    show Steps p.tables e below (T6.setTop (mkF m 40 #[.val (.ref va), .val (.int u0)] [(.ref va)])) tt
    refine XS.dup X6.here hx rfl (hb hby d6_40) rfl rfl ?_
    exact kk
  have f7 : Fld Z h6 va "com/example/enodia/enodia/routing/RouteBuffer" "linkCount" "I" (.int (3 : Int32)) := (F_linkCount_va.other W6 (Or.inl ne_va_vl))
  obtain ⟨T8, X8, e8, st8⟩ := getF X6 hx hZ hown (host := "") (Or.inl (hw _ (mw 18 rfl))) Via.refl e6 f7 (g := (mkF m 41 #[.val (.ref va), .val (.int u0)] [(.ref va), (.ref va)])) rfl rfl (hb hby d6_41)
  refine Goal.to (B := T8.setTop (mkF m 44 #[.val (.ref va), .val (.int u0)] [(.int (3 : Int32)), (.ref va)])) st8 ?_
  refine Goal.to (B := T8.setTop (mkF m 46 #[.val (.ref va), .val (.int u0)] [(.int (4 : Int32)), (.ref va)])) (fun tt kk => ?_) ?_
  · show Steps p.tables e below (T8.setTop (mkF m 44 #[.val (.ref va), .val (.int u0)] [(.int (3 : Int32)), (.ref va)])) tt
    refine XS.iconst X8.here hx rfl (hb hby d6_44) ?_
    show Steps p.tables e below (T8.setTop (mkF m 45 #[.val (.ref va), .val (.int u0)] [(.int (1 : Int32)), (.int (3 : Int32)), (.ref va)])) tt
    refine XS.iadd X8.here hx rfl (hb hby d6_45) rfl ?_
    exact kk
  have f9 : Exa Z h6 va "com/example/enodia/enodia/routing/RouteBuffer" := (E_va.wr W6)
  obtain ⟨T10, h10, X10, e10, W10, st10⟩ := putF X8 hx hZ hown (host := "") (Or.inl (hw _ (mw 18 rfl))) Via.refl e8 f7 f9 (Or.inl (hw _ (mw 19 rfl))) (hw _ (mw 3 rfl)) (ty := .int) (by decide) rfl rfl (g := (mkF m 46 #[.val (.ref va), .val (.int u0)] [(.int (4 : Int32)), (.ref va)])) rfl rfl (hb hby d6_46)
  have Fw10 : Fld Z h10 va "com/example/enodia/enodia/routing/RouteBuffer" "linkCount" "I" (.int (4 : Int32)) := f7.same W10
  have N10 := Fr.snoc X10 N6 g_va
  refine Goal.to (B := T10.setTop (mkF m 49 #[.val (.ref va), .val (.int u0)] [])) st10 ?_
  have f11 : Keep h0 h10 [va, vl] := (((Keep.refl h0 [va, vl]).wr W6 (Or.inl (List.mem_of_getElem? (i := 1) rfl))).wr W10 (Or.inl (List.mem_of_getElem? (i := 0) rfl)))
  have f12 : Fld Z h10 va "com/example/enodia/enodia/routing/RouteBuffer" "links" "[I" (.ref vl) := ((F_links_va.other W6 (Or.inl ne_va_vl)).other W10 (Or.inr (slot_ne (Or.inl (hw _ (mw 12 rfl))) (Or.inl (hw _ (mw 19 rfl))) (by decide) (t := (.array .int)) (t' := .int) (by decide) (by decide))))
  have f13 : Ary Z h10 vl .int [(.int y0), (.int y1), (.int y2), (.int u0), (.int (0 : Int32)), (.int (0 : Int32)), (.int (0 : Int32)), (.int (0 : Int32)), (.int (0 : Int32)), (.int (0 : Int32)), (.int (0 : Int32)), (.int (0 : Int32)), (.int (0 : Int32)), (.int (0 : Int32)), (.int (0 : Int32)), (.int (0 : Int32))] := (V6.other W10 (Ne.symm ne_va_vl))
  exact Goal.retN X10 hx Bd.returns (hb hby d6_49) hlk e10 ⟨rfl, N10, f11, Fw10, f12, f13⟩ (by decide) (by decide)
theorem ef_3 (m : MethodId) (x0 : Addr)  : entryFrame m #[(.ref x0)] 4 = mkF m 0 #[.val (.ref x0), .unset, .unset, .unset] [] := by first | (simp [entryFrame, mkF, argsToLocals, Value.category]; done) | rfl
theorem pn_3 : plainName "com/example/enodia/enodia/routing/RouteBuffer" = true := by first | (simp [plainName, overriddenIn]; done) | decide +kernel
theorem d3_0 : decode prog_66_method_7_code 0 = .ok (.iconst 0, 1) := by decide +kernel
theorem d3_1 : decode prog_66_method_7_code 1 = .ok (.istore_n 1, 1) := by decide +kernel
theorem d3_2 : decode prog_66_method_7_code 2 = .ok (.iload_n 1, 1) := by decide +kernel
theorem d3_3 : decode prog_66_method_7_code 3 = .ok (.aload_n 0, 1) := by decide +kernel
theorem d3_4 : decode prog_66_method_7_code 4 = .ok (.getfield 13, 3) := by decide +kernel
theorem d3_7 : decode prog_66_method_7_code 7 = .ok (.iconst 2, 1) := by decide +kernel
theorem d3_8 : decode prog_66_method_7_code 8 = .ok (.idiv, 1) := by decide +kernel
theorem d3_9 : decode prog_66_method_7_code 9 = .ok (.if_icmp .ge 44, 3) := by decide +kernel
theorem d3_53 : decode prog_66_method_7_code 53 = .ok (.return_, 1) := by decide +kernel
def QR0 (Z : State) (va : Addr) (vl : Addr) (h0 : Heap) (n0 : Nat) (v : Option Value) (h : Heap) (L : List Loc) : Prop := v = none ∧ Fr n0 L ∧ Keep h0 h [vl] ∧ Ary Z h vl .int [(.int (0 : Int32)), (.int (0 : Int32)), (.int (0 : Int32)), (.int (0 : Int32)), (.int (0 : Int32)), (.int (0 : Int32)), (.int (0 : Int32)), (.int (0 : Int32)), (.int (0 : Int32)), (.int (0 : Int32)), (.int (0 : Int32)), (.int (0 : Int32)), (.int (0 : Int32)), (.int (0 : Int32)), (.int (0 : Int32)), (.int (0 : Int32))]
set_option maxRecDepth 65536 in
set_option maxHeartbeats 40000000 in
theorem rmR0 (l : Launch) (Z : State) (a0 : Array Value) (hw : ∀ d ∈ tables_1, d.before a0 Z = true) (ws : List Jvm.Cond) (va : Addr) (vl : Addr) (h0 : Heap) (n0 : Nat) (Z0 : n0 ≤ h0.size) (F_linkCount_va : Fld Z h0 va "com/example/enodia/enodia/routing/RouteBuffer" "linkCount" "I" (.int (0 : Int32))) (F_links_va : Fld Z h0 va "com/example/enodia/enodia/routing/RouteBuffer" "links" "[I" (.ref vl)) (V_vl : Ary Z h0 vl .int [(.int (0 : Int32)), (.int (0 : Int32)), (.int (0 : Int32)), (.int (0 : Int32)), (.int (0 : Int32)), (.int (0 : Int32)), (.int (0 : Int32)), (.int (0 : Int32)), (.int (0 : Int32)), (.int (0 : Int32)), (.int (0 : Int32)), (.int (0 : Int32)), (.int (0 : Int32)), (.int (0 : Int32)), (.int (0 : Int32)), (.int (0 : Int32))]) (g_vl : n0 ≤ vl) (ne_va_vl : va ≠ vl) :
    MetFree l (⟨"com/example/enodia/enodia/routing/RouteBuffer", "reverse", "()V"⟩ : MethodName) (head1 (Jvm.Cond.code (⟨"com/example/enodia/enodia/routing/RouteBuffer", "reverse", "()V"⟩ : MethodName) prog_66_method_7_code 4 none :: ws) ({ frames := 0, cells := 0, slots := 0, locals := 0 } : Room)) (fun a U => a = #[(.ref va)] ∧ Z.Warmed39 U.vm ∧ U.heap = h0) (fun _ _ _ _ _ => True) (fun _ U o U' => ∃ v L, o = .returned v ∧ QR0 Z va vl h0 n0 v U'.heap L ∧ FrameEnd U o U' L 0 0) := by
  refine MetFree.of_bodySF (plainFor_of_name pn_3) hisR ?_
  intro p e s m args below meth c s₁ Bd hml0 hP hK
  obtain ⟨rfl, hZ, hh⟩ := hP
  have hx := Bd.exec
  have hby := Bd.bytes
  have hml : c.maxLocals = 4 := hml0
  have hown : s.vm.findClass "com/example/enodia/enodia/routing/RouteBuffer" = some m.cls := findClass_of_methodNamed Bd.named
  have hnm := (name_of_methodNamed Bd.named Bd.method).1
  have X0 : Stand p l e ({ frames := 0, cells := 0, slots := 0, locals := 0 } : Room) s m #[(.ref va)] below meth c s₁ [] 0 0 := Stand.of_body Bd
  have e0 : s₁.heap = h0 := by rw [← hh, Bd.state]; rfl
  have N0 := Fr.nil n0
  have hlk : meth.locks = false := BodyLoose.notSynchronized Bd
  show Goal p e below s (QR0 Z va vl h0 n0) 0 0 (s₁.setTop (entryFrame m #[(.ref va)] 4))
  refine Goal.to (B := s₁.setTop (mkF m 0 #[.val (.ref va), .unset, .unset, .unset] [])) (fun tt kk => castTop (ef_3 m va ) kk) ?_
  refine Goal.to (B := s₁.setTop (mkF m 4 #[.val (.ref va), .val (.int (0 : Int32)), .unset, .unset] [(.ref va), (.int (0 : Int32))])) (fun tt kk => ?_) ?_
  · show Steps p.tables e below (s₁.setTop (mkF m 0 #[.val (.ref va), .unset, .unset, .unset] [])) tt
    refine XS.iconst X0.here hx rfl (hb hby d3_0) ?_
    show Steps p.tables e below (s₁.setTop (mkF m 1 #[.val (.ref va), .unset, .unset, .unset] [(.int (0 : Int32))])) tt
    refine XS.istoreN X0.here hx rfl (hb hby d3_1) rfl (l' := #[.val (.ref va), .val (.int (0 : Int32)), .unset, .unset]) rfl ?_
    show Steps p.tables e below (s₁.setTop (mkF m 2 #[.val (.ref va), .val (.int (0 : Int32)), .unset, .unset] [])) tt
    refine XS.iloadN X0.here hx rfl (hb hby d3_2) rfl ?_
    show Steps p.tables e below (s₁.setTop (mkF m 3 #[.val (.ref va), .val (.int (0 : Int32)), .unset, .unset] [(.int (0 : Int32))])) tt
    refine XS.aloadN X0.here hx rfl (hb hby d3_3) rfl rfl ?_
    exact kk
  obtain ⟨T1, X1, e1, st1⟩ := getF X0 hx hZ hown (host := "") (Or.inl (hw _ (mw 18 rfl))) Via.refl e0 F_linkCount_va (g := (mkF m 4 #[.val (.ref va), .val (.int (0 : Int32)), .unset, .unset] [(.ref va), (.int (0 : Int32))])) rfl rfl (hb hby d3_4)
  refine Goal.to (B := T1.setTop (mkF m 7 #[.val (.ref va), .val (.int (0 : Int32)), .unset, .unset] [(.int (0 : Int32)), (.int (0 : Int32))])) st1 ?_
  refine Goal.to (B := T1.setTop (mkF m 53 #[.val (.ref va), .val (.int (0 : Int32)), .unset, .unset] [])) (fun tt kk => ?_) ?_
  · show Steps p.tables e below (T1.setTop (mkF m 7 #[.val (.ref va), .val (.int (0 : Int32)), .unset, .unset] [(.int (0 : Int32)), (.int (0 : Int32))])) tt
    refine XS.iconst X1.here hx rfl (hb hby d3_7) ?_
    show Steps p.tables e below (T1.setTop (mkF m 8 #[.val (.ref va), .val (.int (0 : Int32)), .unset, .unset] [(.int (2 : Int32)), (.int (0 : Int32)), (.int (0 : Int32))])) tt
    refine XS.idiv X1.here hx rfl (hb hby d3_8) rfl (by decide) ?_
    show Steps p.tables e below (T1.setTop (mkF m 9 #[.val (.ref va), .val (.int (0 : Int32)), .unset, .unset] [(.int (0 : Int32)), (.int (0 : Int32))])) tt
    refine XS.icmpYes X1.here hx rfl (pc0 := 9) (pc' := 53) rfl (hb hby d3_9) rfl (flt (Int32.lt_irrefl : ¬ ((0 : Int32) < (0 : Int32)))).2.1 (by decide) (by decide) ?_
    exact kk
  exact Goal.retN X1 hx Bd.returns (hb hby d3_53) hlk e1 ⟨rfl, N0, (Keep.refl h0 [vl]), V_vl⟩ (by decide) (by decide)
def QR1 (Z : State) (va : Addr) (vl : Addr) (y0 : Int32) (h0 : Heap) (n0 : Nat) (v : Option Value) (h : Heap) (L : List Loc) : Prop := v = none ∧ Fr n0 L ∧ Keep h0 h [vl] ∧ Ary Z h vl .int [(.int y0), (.int (0 : Int32)), (.int (0 : Int32)), (.int (0 : Int32)), (.int (0 : Int32)), (.int (0 : Int32)), (.int (0 : Int32)), (.int (0 : Int32)), (.int (0 : Int32)), (.int (0 : Int32)), (.int (0 : Int32)), (.int (0 : Int32)), (.int (0 : Int32)), (.int (0 : Int32)), (.int (0 : Int32)), (.int (0 : Int32))]
set_option maxRecDepth 65536 in
set_option maxHeartbeats 40000000 in
theorem rmR1 (l : Launch) (Z : State) (a0 : Array Value) (hw : ∀ d ∈ tables_1, d.before a0 Z = true) (ws : List Jvm.Cond) (va : Addr) (vl : Addr) (y0 : Int32) (h0 : Heap) (n0 : Nat) (Z0 : n0 ≤ h0.size) (F_linkCount_va : Fld Z h0 va "com/example/enodia/enodia/routing/RouteBuffer" "linkCount" "I" (.int (1 : Int32))) (F_links_va : Fld Z h0 va "com/example/enodia/enodia/routing/RouteBuffer" "links" "[I" (.ref vl)) (V_vl : Ary Z h0 vl .int [(.int y0), (.int (0 : Int32)), (.int (0 : Int32)), (.int (0 : Int32)), (.int (0 : Int32)), (.int (0 : Int32)), (.int (0 : Int32)), (.int (0 : Int32)), (.int (0 : Int32)), (.int (0 : Int32)), (.int (0 : Int32)), (.int (0 : Int32)), (.int (0 : Int32)), (.int (0 : Int32)), (.int (0 : Int32)), (.int (0 : Int32))]) (g_vl : n0 ≤ vl) (ne_va_vl : va ≠ vl) :
    MetFree l (⟨"com/example/enodia/enodia/routing/RouteBuffer", "reverse", "()V"⟩ : MethodName) (head1 (Jvm.Cond.code (⟨"com/example/enodia/enodia/routing/RouteBuffer", "reverse", "()V"⟩ : MethodName) prog_66_method_7_code 4 none :: ws) ({ frames := 0, cells := 0, slots := 0, locals := 0 } : Room)) (fun a U => a = #[(.ref va)] ∧ Z.Warmed39 U.vm ∧ U.heap = h0) (fun _ _ _ _ _ => True) (fun _ U o U' => ∃ v L, o = .returned v ∧ QR1 Z va vl y0 h0 n0 v U'.heap L ∧ FrameEnd U o U' L 0 0) := by
  refine MetFree.of_bodySF (plainFor_of_name pn_3) hisR ?_
  intro p e s m args below meth c s₁ Bd hml0 hP hK
  obtain ⟨rfl, hZ, hh⟩ := hP
  have hx := Bd.exec
  have hby := Bd.bytes
  have hml : c.maxLocals = 4 := hml0
  have hown : s.vm.findClass "com/example/enodia/enodia/routing/RouteBuffer" = some m.cls := findClass_of_methodNamed Bd.named
  have hnm := (name_of_methodNamed Bd.named Bd.method).1
  have X0 : Stand p l e ({ frames := 0, cells := 0, slots := 0, locals := 0 } : Room) s m #[(.ref va)] below meth c s₁ [] 0 0 := Stand.of_body Bd
  have e0 : s₁.heap = h0 := by rw [← hh, Bd.state]; rfl
  have N0 := Fr.nil n0
  have hlk : meth.locks = false := BodyLoose.notSynchronized Bd
  show Goal p e below s (QR1 Z va vl y0 h0 n0) 0 0 (s₁.setTop (entryFrame m #[(.ref va)] 4))
  refine Goal.to (B := s₁.setTop (mkF m 0 #[.val (.ref va), .unset, .unset, .unset] [])) (fun tt kk => castTop (ef_3 m va ) kk) ?_
  refine Goal.to (B := s₁.setTop (mkF m 4 #[.val (.ref va), .val (.int (0 : Int32)), .unset, .unset] [(.ref va), (.int (0 : Int32))])) (fun tt kk => ?_) ?_
  · show Steps p.tables e below (s₁.setTop (mkF m 0 #[.val (.ref va), .unset, .unset, .unset] [])) tt
    refine XS.iconst X0.here hx rfl (hb hby d3_0) ?_
    show Steps p.tables e below (s₁.setTop (mkF m 1 #[.val (.ref va), .unset, .unset, .unset] [(.int (0 : Int32))])) tt
    refine XS.istoreN X0.here hx rfl (hb hby d3_1) rfl (l' := #[.val (.ref va), .val (.int (0 : Int32)), .unset, .unset]) rfl ?_
    show Steps p.tables e below (s₁.setTop (mkF m 2 #[.val (.ref va), .val (.int (0 : Int32)), .unset, .unset] [])) tt
    refine XS.iloadN X0.here hx rfl (hb hby d3_2) rfl ?_
    show Steps p.tables e below (s₁.setTop (mkF m 3 #[.val (.ref va), .val (.int (0 : Int32)), .unset, .unset] [(.int (0 : Int32))])) tt
    refine XS.aloadN X0.here hx rfl (hb hby d3_3) rfl rfl ?_
    exact kk
  obtain ⟨T1, X1, e1, st1⟩ := getF X0 hx hZ hown (host := "") (Or.inl (hw _ (mw 18 rfl))) Via.refl e0 F_linkCount_va (g := (mkF m 4 #[.val (.ref va), .val (.int (0 : Int32)), .unset, .unset] [(.ref va), (.int (0 : Int32))])) rfl rfl (hb hby d3_4)
  refine Goal.to (B := T1.setTop (mkF m 7 #[.val (.ref va), .val (.int (0 : Int32)), .unset, .unset] [(.int (1 : Int32)), (.int (0 : Int32))])) st1 ?_
  refine Goal.to (B := T1.setTop (mkF m 53 #[.val (.ref va), .val (.int (0 : Int32)), .unset, .unset] [])) (fun tt kk => ?_) ?_
  · show Steps p.tables e below (T1.setTop (mkF m 7 #[.val (.ref va), .val (.int (0 : Int32)), .unset, .unset] [(.int (1 : Int32)), (.int (0 : Int32))])) tt
    refine XS.iconst X1.here hx rfl (hb hby d3_7) ?_
    show Steps p.tables e below (T1.setTop (mkF m 8 #[.val (.ref va), .val (.int (0 : Int32)), .unset, .unset] [(.int (2 : Int32)), (.int (1 : Int32)), (.int (0 : Int32))])) tt
    refine XS.idiv X1.here hx rfl (hb hby d3_8) rfl (by decide) ?_
    show Steps p.tables e below (T1.setTop (mkF m 9 #[.val (.ref va), .val (.int (0 : Int32)), .unset, .unset] [(.int (0 : Int32)), (.int (0 : Int32))])) tt
    refine XS.icmpYes X1.here hx rfl (pc0 := 9) (pc' := 53) rfl (hb hby d3_9) rfl (flt (Int32.lt_irrefl : ¬ ((0 : Int32) < (0 : Int32)))).2.1 (by decide) (by decide) ?_
    exact kk
  exact Goal.retN X1 hx Bd.returns (hb hby d3_53) hlk e1 ⟨rfl, N0, (Keep.refl h0 [vl]), V_vl⟩ (by decide) (by decide)
theorem d3_12 : decode prog_66_method_7_code 12 = .ok (.aload_n 0, 1) := by decide +kernel
theorem d3_13 : decode prog_66_method_7_code 13 = .ok (.getfield 13, 3) := by decide +kernel
theorem d3_16 : decode prog_66_method_7_code 16 = .ok (.iconst 1, 1) := by decide +kernel
theorem d3_17 : decode prog_66_method_7_code 17 = .ok (.isub, 1) := by decide +kernel
theorem d3_18 : decode prog_66_method_7_code 18 = .ok (.iload_n 1, 1) := by decide +kernel
theorem d3_19 : decode prog_66_method_7_code 19 = .ok (.isub, 1) := by decide +kernel
theorem d3_20 : decode prog_66_method_7_code 20 = .ok (.istore_n 2, 1) := by decide +kernel
theorem d3_21 : decode prog_66_method_7_code 21 = .ok (.aload_n 0, 1) := by decide +kernel
theorem d3_22 : decode prog_66_method_7_code 22 = .ok (.getfield 7, 3) := by decide +kernel
theorem d3_25 : decode prog_66_method_7_code 25 = .ok (.iload_n 1, 1) := by decide +kernel
theorem d3_26 : decode prog_66_method_7_code 26 = .ok (.iaload, 1) := by decide +kernel
theorem d3_27 : decode prog_66_method_7_code 27 = .ok (.istore_n 3, 1) := by decide +kernel
theorem d3_28 : decode prog_66_method_7_code 28 = .ok (.aload_n 0, 1) := by decide +kernel
theorem d3_29 : decode prog_66_method_7_code 29 = .ok (.getfield 7, 3) := by decide +kernel
theorem d3_32 : decode prog_66_method_7_code 32 = .ok (.iload_n 1, 1) := by decide +kernel
theorem d3_33 : decode prog_66_method_7_code 33 = .ok (.aload_n 0, 1) := by decide +kernel
theorem d3_34 : decode prog_66_method_7_code 34 = .ok (.getfield 7, 3) := by decide +kernel
theorem d3_37 : decode prog_66_method_7_code 37 = .ok (.iload_n 2, 1) := by decide +kernel
theorem d3_38 : decode prog_66_method_7_code 38 = .ok (.iaload, 1) := by decide +kernel
theorem d3_39 : decode prog_66_method_7_code 39 = .ok (.iastore, 1) := by decide +kernel
theorem d3_40 : decode prog_66_method_7_code 40 = .ok (.aload_n 0, 1) := by decide +kernel
theorem d3_41 : decode prog_66_method_7_code 41 = .ok (.getfield 7, 3) := by decide +kernel
theorem d3_44 : decode prog_66_method_7_code 44 = .ok (.iload_n 2, 1) := by decide +kernel
theorem d3_45 : decode prog_66_method_7_code 45 = .ok (.iload_n 3, 1) := by decide +kernel
theorem d3_46 : decode prog_66_method_7_code 46 = .ok (.iastore, 1) := by decide +kernel
theorem d3_47 : decode prog_66_method_7_code 47 = .ok (.iinc 1 1, 3) := by decide +kernel
theorem d3_50 : decode prog_66_method_7_code 50 = .ok (.goto (-48), 3) := by decide +kernel
def QR2 (Z : State) (va : Addr) (vl : Addr) (y0 : Int32) (y1 : Int32) (h0 : Heap) (n0 : Nat) (v : Option Value) (h : Heap) (L : List Loc) : Prop := v = none ∧ Fr n0 L ∧ Keep h0 h [vl] ∧ Ary Z h vl .int [(.int y1), (.int y0), (.int (0 : Int32)), (.int (0 : Int32)), (.int (0 : Int32)), (.int (0 : Int32)), (.int (0 : Int32)), (.int (0 : Int32)), (.int (0 : Int32)), (.int (0 : Int32)), (.int (0 : Int32)), (.int (0 : Int32)), (.int (0 : Int32)), (.int (0 : Int32)), (.int (0 : Int32)), (.int (0 : Int32))]
set_option maxRecDepth 65536 in
set_option maxHeartbeats 40000000 in
theorem rmR2 (l : Launch) (Z : State) (a0 : Array Value) (hw : ∀ d ∈ tables_1, d.before a0 Z = true) (ws : List Jvm.Cond) (va : Addr) (vl : Addr) (y0 : Int32) (y1 : Int32) (h0 : Heap) (n0 : Nat) (Z0 : n0 ≤ h0.size) (F_linkCount_va : Fld Z h0 va "com/example/enodia/enodia/routing/RouteBuffer" "linkCount" "I" (.int (2 : Int32))) (F_links_va : Fld Z h0 va "com/example/enodia/enodia/routing/RouteBuffer" "links" "[I" (.ref vl)) (V_vl : Ary Z h0 vl .int [(.int y0), (.int y1), (.int (0 : Int32)), (.int (0 : Int32)), (.int (0 : Int32)), (.int (0 : Int32)), (.int (0 : Int32)), (.int (0 : Int32)), (.int (0 : Int32)), (.int (0 : Int32)), (.int (0 : Int32)), (.int (0 : Int32)), (.int (0 : Int32)), (.int (0 : Int32)), (.int (0 : Int32)), (.int (0 : Int32))]) (g_vl : n0 ≤ vl) (ne_va_vl : va ≠ vl) :
    MetFree l (⟨"com/example/enodia/enodia/routing/RouteBuffer", "reverse", "()V"⟩ : MethodName) (head1 (Jvm.Cond.code (⟨"com/example/enodia/enodia/routing/RouteBuffer", "reverse", "()V"⟩ : MethodName) prog_66_method_7_code 4 none :: ws) ({ frames := 0, cells := 0, slots := 0, locals := 0 } : Room)) (fun a U => a = #[(.ref va)] ∧ Z.Warmed39 U.vm ∧ U.heap = h0) (fun _ _ _ _ _ => True) (fun _ U o U' => ∃ v L, o = .returned v ∧ QR2 Z va vl y0 y1 h0 n0 v U'.heap L ∧ FrameEnd U o U' L 0 0) := by
  refine MetFree.of_bodySF (plainFor_of_name pn_3) hisR ?_
  intro p e s m args below meth c s₁ Bd hml0 hP hK
  obtain ⟨rfl, hZ, hh⟩ := hP
  have hx := Bd.exec
  have hby := Bd.bytes
  have hml : c.maxLocals = 4 := hml0
  have hown : s.vm.findClass "com/example/enodia/enodia/routing/RouteBuffer" = some m.cls := findClass_of_methodNamed Bd.named
  have hnm := (name_of_methodNamed Bd.named Bd.method).1
  have X0 : Stand p l e ({ frames := 0, cells := 0, slots := 0, locals := 0 } : Room) s m #[(.ref va)] below meth c s₁ [] 0 0 := Stand.of_body Bd
  have e0 : s₁.heap = h0 := by rw [← hh, Bd.state]; rfl
  have N0 := Fr.nil n0
  have hlk : meth.locks = false := BodyLoose.notSynchronized Bd
  show Goal p e below s (QR2 Z va vl y0 y1 h0 n0) 0 0 (s₁.setTop (entryFrame m #[(.ref va)] 4))
  refine Goal.to (B := s₁.setTop (mkF m 0 #[.val (.ref va), .unset, .unset, .unset] [])) (fun tt kk => castTop (ef_3 m va ) kk) ?_
  refine Goal.to (B := s₁.setTop (mkF m 4 #[.val (.ref va), .val (.int (0 : Int32)), .unset, .unset] [(.ref va), (.int (0 : Int32))])) (fun tt kk => ?_) ?_
  · show Steps p.tables e below (s₁.setTop (mkF m 0 #[.val (.ref va), .unset, .unset, .unset] [])) tt
    refine XS.iconst X0.here hx rfl (hb hby d3_0) ?_
    show Steps p.tables e below (s₁.setTop (mkF m 1 #[.val (.ref va), .unset, .unset, .unset] [(.int (0 : Int32))])) tt
    refine XS.istoreN X0.here hx rfl (hb hby d3_1) rfl (l' := #[.val (.ref va), .val (.int (0 : Int32)), .unset, .unset]) rfl ?_
    show Steps p.tables e below (s₁.setTop (mkF m 2 #[.val (.ref va), .val (.int (0 : Int32)), .unset, .unset] [])) tt
    refine XS.iloadN X0.here hx rfl (hb hby d3_2) rfl ?_
    show Steps p.tables e below (s₁.setTop (mkF m 3 #[.val (.ref va), .val (.int (0 : Int32)), .unset, .unset] [(.int (0 : Int32))])) tt
    refine XS.aloadN X0.here hx rfl (hb hby d3_3) rfl rfl ?_
    exact kk
  obtain ⟨T1, X1, e1, st1⟩ := getF X0 hx hZ hown (host := "") (Or.inl (hw _ (mw 18 rfl))) Via.refl e0 F_linkCount_va (g := (mkF m 4 #[.val (.ref va), .val (.int (0 : Int32)), .unset, .unset] [(.ref va), (.int (0 : Int32))])) rfl rfl (hb hby d3_4)
  refine Goal.to (B := T1.setTop (mkF m 7 #[.val (.ref va), .val (.int (0 : Int32)), .unset, .unset] [(.int (2 : Int32)), (.int (0 : Int32))])) st1 ?_
  refine Goal.to (B := T1.setTop (mkF m 13 #[.val (.ref va), .val (.int (0 : Int32)), .unset, .unset] [(.ref va)])) (fun tt kk => ?_) ?_
  · show Steps p.tables e below (T1.setTop (mkF m 7 #[.val (.ref va), .val (.int (0 : Int32)), .unset, .unset] [(.int (2 : Int32)), (.int (0 : Int32))])) tt
    refine XS.iconst X1.here hx rfl (hb hby d3_7) ?_
    show Steps p.tables e below (T1.setTop (mkF m 8 #[.val (.ref va), .val (.int (0 : Int32)), .unset, .unset] [(.int (2 : Int32)), (.int (2 : Int32)), (.int (0 : Int32))])) tt
    refine XS.idiv X1.here hx rfl (hb hby d3_8) rfl (by decide) ?_
    show Steps p.tables e below (T1.setTop (mkF m 9 #[.val (.ref va), .val (.int (0 : Int32)), .unset, .unset] [(.int (1 : Int32)), (.int (0 : Int32))])) tt
    refine XS.icmpNo X1.here hx rfl (hb hby d3_9) rfl (tlt ((by decide) : (0 : Int32) < (1 : Int32))).2.1 ?_
    show Steps p.tables e below (T1.setTop (mkF m 12 #[.val (.ref va), .val (.int (0 : Int32)), .unset, .unset] [])) tt
    refine XS.aloadN X1.here hx rfl (hb hby d3_12) rfl rfl ?_
    exact kk
  obtain ⟨T2, X2, e2, st2⟩ := getF X1 hx hZ hown (host := "") (Or.inl (hw _ (mw 18 rfl))) Via.refl e1 F_linkCount_va (g := (mkF m 13 #[.val (.ref va), .val (.int (0 : Int32)), .unset, .unset] [(.ref va)])) rfl rfl (hb hby d3_13)
  refine Goal.to (B := T2.setTop (mkF m 16 #[.val (.ref va), .val (.int (0 : Int32)), .unset, .unset] [(.int (2 : Int32))])) st2 ?_
  refine Goal.to (B := T2.setTop (mkF m 22 #[.val (.ref va), .val (.int (0 : Int32)), .val (.int (1 : Int32)), .unset] [(.ref va)])) (fun tt kk => ?_) ?_
  · show Steps p.tables e below (T2.setTop (mkF m 16 #[.val (.ref va), .val (.int (0 : Int32)), .unset, .unset] [(.int (2 : Int32))])) tt
    refine XS.iconst X2.here hx rfl (hb hby d3_16) ?_
    show Steps p.tables e below (T2.setTop (mkF m 17 #[.val (.ref va), .val (.int (0 : Int32)), .unset, .unset] [(.int (1 : Int32)), (.int (2 : Int32))])) tt
    refine XS.isub X2.here hx rfl (hb hby d3_17) rfl ?_
    show Steps p.tables e below (T2.setTop (mkF m 18 #[.val (.ref va), .val (.int (0 : Int32)), .unset, .unset] [(.int (1 : Int32))])) tt
    refine XS.iloadN X2.here hx rfl (hb hby d3_18) rfl ?_
    show Steps p.tables e below (T2.setTop (mkF m 19 #[.val (.ref va), .val (.int (0 : Int32)), .unset, .unset] [(.int (0 : Int32)), (.int (1 : Int32))])) tt
    refine XS.isub X2.here hx rfl (hb hby d3_19) rfl ?_
    show Steps p.tables e below (T2.setTop (mkF m 20 #[.val (.ref va), .val (.int (0 : Int32)), .unset, .unset] [(.int (1 : Int32))])) tt
    refine XS.istoreN X2.here hx rfl (hb hby d3_20) rfl (l' := #[.val (.ref va), .val (.int (0 : Int32)), .val (.int (1 : Int32)), .unset]) rfl ?_
    show Steps p.tables e below (T2.setTop (mkF m 21 #[.val (.ref va), .val (.int (0 : Int32)), .val (.int (1 : Int32)), .unset] [])) tt
    refine XS.aloadN X2.here hx rfl (hb hby d3_21) rfl rfl ?_
    exact kk
  obtain ⟨T3, X3, e3, st3⟩ := getF X2 hx hZ hown (host := "") (Or.inl (hw _ (mw 11 rfl))) Via.refl e2 F_links_va (g := (mkF m 22 #[.val (.ref va), .val (.int (0 : Int32)), .val (.int (1 : Int32)), .unset] [(.ref va)])) rfl rfl (hb hby d3_22)
  refine Goal.to (B := T3.setTop (mkF m 25 #[.val (.ref va), .val (.int (0 : Int32)), .val (.int (1 : Int32)), .unset] [(.ref vl)])) st3 ?_
  refine Goal.to (B := T3.setTop (mkF m 26 #[.val (.ref va), .val (.int (0 : Int32)), .val (.int (1 : Int32)), .unset] [(.int (0 : Int32)), (.ref vl)])) (fun tt kk => ?_) ?_
  · show Steps p.tables e below (T3.setTop (mkF m 25 #[.val (.ref va), .val (.int (0 : Int32)), .val (.int (1 : Int32)), .unset] [(.ref vl)])) tt
    refine XS.iloadN X3.here hx rfl (hb hby d3_25) rfl ?_
    exact kk
  obtain ⟨cl4, Ar4, Sl4⟩ := id V_vl
  have hin4 := inA (cl := cl4) Sl4 (j := (0 : Int32)) (by decide) (Nat.le_of_ble_eq_true rfl)
  have hat4 : cl4.slots[((0 : Int32)).toNatClampNeg]? = some (.int y0) := atA Sl4 rfl
  refine Goal.to (B := T3.setTop (mkF m 29 #[.val (.ref va), .val (.int (0 : Int32)), .val (.int (1 : Int32)), .val (.int y0)] [(.ref va)])) (fun tt kk => ?_) ?_
  · show Steps p.tables e below (T3.setTop (mkF m 26 #[.val (.ref va), .val (.int (0 : Int32)), .val (.int (1 : Int32)), .unset] [(.int (0 : Int32)), (.ref vl)])) tt
    refine X3.iaload hx (j := (0 : Int32)) (v := (.int y0)) (by rw [e3]; exact Ar4.1) (State.isArrayOf_alike hZ.alike Ar4.2.1) Ar4.2.2 hin4 hat4 (g := (mkF m 26 #[.val (.ref va), .val (.int (0 : Int32)), .val (.int (1 : Int32)), .unset] [(.int (0 : Int32)), (.ref vl)])) rfl rfl (hb hby d3_26) _ ?_
    show Steps p.tables e below (T3.setTop (mkF m 27 #[.val (.ref va), .val (.int (0 : Int32)), .val (.int (1 : Int32)), .unset] [(.int y0)])) tt
    refine XS.istoreN X3.here hx rfl (hb hby d3_27) rfl (l' := #[.val (.ref va), .val (.int (0 : Int32)), .val (.int (1 : Int32)), .val (.int y0)]) rfl ?_
    show Steps p.tables e below (T3.setTop (mkF m 28 #[.val (.ref va), .val (.int (0 : Int32)), .val (.int (1 : Int32)), .val (.int y0)] [])) tt
    refine XS.aloadN X3.here hx rfl (hb hby d3_28) rfl rfl ?_
    exact kk
  obtain ⟨T5, X5, e5, st5⟩ := getF X3 hx hZ hown (host := "") (Or.inl (hw _ (mw 11 rfl))) Via.refl e3 F_links_va (g := (mkF m 29 #[.val (.ref va), .val (.int (0 : Int32)), .val (.int (1 : Int32)), .val (.int y0)] [(.ref va)])) rfl rfl (hb hby d3_29)
  refine Goal.to (B := T5.setTop (mkF m 32 #[.val (.ref va), .val (.int (0 : Int32)), .val (.int (1 : Int32)), .val (.int y0)] [(.ref vl)])) st5 ?_
  refine Goal.to (B := T5.setTop (mkF m 34 #[.val (.ref va), .val (.int (0 : Int32)), .val (.int (1 : Int32)), .val (.int y0)] [(.ref va), (.int (0 : Int32)), (.ref vl)])) (fun tt kk => ?_) ?_
  · show Steps p.tables e below (T5.setTop (mkF m 32 #[.val (.ref va), .val (.int (0 : Int32)), .val (.int (1 : Int32)), .val (.int y0)] [(.ref vl)])) tt
    refine XS.iloadN X5.here hx rfl (hb hby d3_32) rfl ?_
    show Steps p.tables e below (T5.setTop (mkF m 33 #[.val (.ref va), .val (.int (0 : Int32)), .val (.int (1 : Int32)), .val (.int y0)] [(.int (0 : Int32)), (.ref vl)])) tt
    refine XS.aloadN X5.here hx rfl (hb hby d3_33) rfl rfl ?_
    exact kk
  obtain ⟨T6, X6, e6, st6⟩ := getF X5 hx hZ hown (host := "") (Or.inl (hw _ (mw 11 rfl))) Via.refl e5 F_links_va (g := (mkF m 34 #[.val (.ref va), .val (.int (0 : Int32)), .val (.int (1 : Int32)), .val (.int y0)] [(.ref va), (.int (0 : Int32)), (.ref vl)])) rfl rfl (hb hby d3_34)
  refine Goal.to (B := T6.setTop (mkF m 37 #[.val (.ref va), .val (.int (0 : Int32)), .val (.int (1 : Int32)), .val (.int y0)] [(.ref vl), (.int (0 : Int32)), (.ref vl)])) st6 ?_
  refine Goal.to (B := T6.setTop (mkF m 38 #[.val (.ref va), .val (.int (0 : Int32)), .val (.int (1 : Int32)), .val (.int y0)] [(.int (1 : Int32)), (.ref vl), (.int (0 : Int32)), (.ref vl)])) (fun tt kk => ?_) ?_
  · show Steps p.tables e below (T6.setTop (mkF m 37 #[.val (.ref va), .val (.int (0 : Int32)), .val (.int (1 : Int32)), .val (.int y0)] [(.ref vl), (.int (0 : Int32)), (.ref vl)])) tt
    refine XS.iloadN X6.here hx rfl (hb hby d3_37) rfl ?_
    exact kk
  obtain ⟨cl7, Ar7, Sl7⟩ := id V_vl
  have hin7 := inA (cl := cl7) Sl7 (j := (1 : Int32)) (by decide) (Nat.le_of_ble_eq_true rfl)
  have hat7 : cl7.slots[((1 : Int32)).toNatClampNeg]? = some (.int y1) := atA Sl7 rfl
  refine Goal.to (B := T6.setTop (mkF m 39 #[.val (.ref va), .val (.int (0 : Int32)), .val (.int (1 : Int32)), .val (.int y0)] [(.int y1), (.int (0 : Int32)), (.ref vl)])) (fun tt kk => ?_) ?_
  · show Steps p.tables e below (T6.setTop (mkF m 38 #[.val (.ref va), .val (.int (0 : Int32)), .val (.int (1 : Int32)), .val (.int y0)] [(.int (1 : Int32)), (.ref vl), (.int (0 : Int32)), (.ref vl)])) tt
    refine X6.iaload hx (j := (1 : Int32)) (v := (.int y1)) (by rw [e6]; exact Ar7.1) (State.isArrayOf_alike hZ.alike Ar7.2.1) Ar7.2.2 hin7 hat7 (g := (mkF m 38 #[.val (.ref va), .val (.int (0 : Int32)), .val (.int (1 : Int32)), .val (.int y0)] [(.int (1 : Int32)), (.ref vl), (.int (0 : Int32)), (.ref vl)])) rfl rfl (hb hby d3_38) _ ?_
    exact kk
  obtain ⟨cl8, Ar8, Sl8⟩ := id V_vl
  have hin8 := inA (cl := cl8) Sl8 (j := (0 : Int32)) (by decide) (Nat.le_of_ble_eq_true rfl)
  obtain ⟨T8, h8, X8, e8, W8, st8⟩ := stI X6 hx hZ e6 Ar8 (j := (0 : Int32)) hin8 (g := (mkF m 39 #[.val (.ref va), .val (.int (0 : Int32)), .val (.int (1 : Int32)), .val (.int y0)] [(.int y1), (.int (0 : Int32)), (.ref vl)])) rfl rfl (hb hby d3_39)
  have V8 : Ary Z h8 vl .int [(.int y1), (.int y1), (.int (0 : Int32)), (.int (0 : Int32)), (.int (0 : Int32)), (.int (0 : Int32)), (.int (0 : Int32)), (.int (0 : Int32)), (.int (0 : Int32)), (.int (0 : Int32)), (.int (0 : Int32)), (.int (0 : Int32)), (.int (0 : Int32)), (.int (0 : Int32)), (.int (0 : Int32)), (.int (0 : Int32))] := Ary.put Ar8 Sl8 W8 rfl
  have N8 := Fr.snoc X8 N0 g_vl
  refine Goal.to (B := T8.setTop (mkF m 40 #[.val (.ref va), .val (.int (0 : Int32)), .val (.int (1 : Int32)), .val (.int y0)] [])) st8 ?_
  refine Goal.to (B := T8.setTop (mkF m 41 #[.val (.ref va), .val (.int (0 : Int32)), .val (.int (1 : Int32)), .val (.int y0)] [(.ref va)])) (fun tt kk => ?_) ?_
  · show Steps p.tables e below (T8.setTop (mkF m 40 #[.val (.ref va), .val (.int (0 : Int32)), .val (.int (1 : Int32)), .val (.int y0)] [])) tt
    refine XS.aloadN X8.here hx rfl (hb hby d3_40) rfl rfl ?_
    exact kk
  have f9 : Fld Z h8 va "com/example/enodia/enodia/routing/RouteBuffer" "links" "[I" (.ref vl) := (F_links_va.other W8 (Or.inl ne_va_vl))
  obtain ⟨T10, X10, e10, st10⟩ := getF X8 hx hZ hown (host := "") (Or.inl (hw _ (mw 11 rfl))) Via.refl e8 f9 (g := (mkF m 41 #[.val (.ref va), .val (.int (0 : Int32)), .val (.int (1 : Int32)), .val (.int y0)] [(.ref va)])) rfl rfl (hb hby d3_41)
  refine Goal.to (B := T10.setTop (mkF m 44 #[.val (.ref va), .val (.int (0 : Int32)), .val (.int (1 : Int32)), .val (.int y0)] [(.ref vl)])) st10 ?_
  refine Goal.to (B := T10.setTop (mkF m 46 #[.val (.ref va), .val (.int (0 : Int32)), .val (.int (1 : Int32)), .val (.int y0)] [(.int y0), (.int (1 : Int32)), (.ref vl)])) (fun tt kk => ?_) ?_
  · show Steps p.tables e below (T10.setTop (mkF m 44 #[.val (.ref va), .val (.int (0 : Int32)), .val (.int (1 : Int32)), .val (.int y0)] [(.ref vl)])) tt
    refine XS.iloadN X10.here hx rfl (hb hby d3_44) rfl ?_
    show Steps p.tables e below (T10.setTop (mkF m 45 #[.val (.ref va), .val (.int (0 : Int32)), .val (.int (1 : Int32)), .val (.int y0)] [(.int (1 : Int32)), (.ref vl)])) tt
    refine XS.iloadN X10.here hx rfl (hb hby d3_45) rfl ?_
    exact kk
  obtain ⟨cl11, Ar11, Sl11⟩ := id V8
  have hin11 := inA (cl := cl11) Sl11 (j := (1 : Int32)) (by decide) (Nat.le_of_ble_eq_true rfl)
  obtain ⟨T11, h11, X11, e11, W11, st11⟩ := stI X10 hx hZ e10 Ar11 (j := (1 : Int32)) hin11 (g := (mkF m 46 #[.val (.ref va), .val (.int (0 : Int32)), .val (.int (1 : Int32)), .val (.int y0)] [(.int y0), (.int (1 : Int32)), (.ref vl)])) rfl rfl (hb hby d3_46)
  have V11 : Ary Z h11 vl .int [(.int y1), (.int y0), (.int (0 : Int32)), (.int (0 : Int32)), (.int (0 : Int32)), (.int (0 : Int32)), (.int (0 : Int32)), (.int (0 : Int32)), (.int (0 : Int32)), (.int (0 : Int32)), (.int (0 : Int32)), (.int (0 : Int32)), (.int (0 : Int32)), (.int (0 : Int32)), (.int (0 : Int32)), (.int (0 : Int32))] := Ary.put Ar11 Sl11 W11 rfl
  have N11 := Fr.snoc X11 N8 g_vl
  refine Goal.to (B := T11.setTop (mkF m 47 #[.val (.ref va), .val (.int (0 : Int32)), .val (.int (1 : Int32)), .val (.int y0)] [])) st11 ?_
  refine Goal.to (B := T11.setTop (mkF m 4 #[.val (.ref va), .val (.int (1 : Int32)), .val (.int (1 : Int32)), .val (.int y0)] [(.ref va), (.int (1 : Int32))])) (fun tt kk => ?_) ?_
  · show Steps p.tables e below (T11.setTop (mkF m 47 #[.val (.ref va), .val (.int (0 : Int32)), .val (.int (1 : Int32)), .val (.int y0)] [])) tt
    refine XS.iinc X11.here hx rfl (hb hby d3_47) rfl (l' := #[.val (.ref va), .val (.int (1 : Int32)), .val (.int (1 : Int32)), .val (.int y0)]) rfl ?_
    show Steps p.tables e below (T11.setTop (mkF m 50 #[.val (.ref va), .val (.int (1 : Int32)), .val (.int (1 : Int32)), .val (.int y0)] [])) tt
    refine XS.goto X11.here hx rfl (pc0 := 50) (pc' := 2) rfl (hb hby d3_50) (by decide) (by decide) ?_
    show Steps p.tables e below (T11.setTop (mkF m 2 #[.val (.ref va), .val (.int (1 : Int32)), .val (.int (1 : Int32)), .val (.int y0)] [])) tt
    refine XS.iloadN X11.here hx rfl (hb hby d3_2) rfl ?_
    show Steps p.tables e below (T11.setTop (mkF m 3 #[.val (.ref va), .val (.int (1 : Int32)), .val (.int (1 : Int32)), .val (.int y0)] [(.int (1 : Int32))])) tt
    refine XS.aloadN X11.here hx rfl (hb hby d3_3) rfl rfl ?_
    exact kk
  have f12 : Fld Z h11 va "com/example/enodia/enodia/routing/RouteBuffer" "linkCount" "I" (.int (2 : Int32)) := ((F_linkCount_va.other W8 (Or.inl ne_va_vl)).other W11 (Or.inl ne_va_vl))
  obtain ⟨T13, X13, e13, st13⟩ := getF X11 hx hZ hown (host := "") (Or.inl (hw _ (mw 18 rfl))) Via.refl e11 f12 (g := (mkF m 4 #[.val (.ref va), .val (.int (1 : Int32)), .val (.int (1 : Int32)), .val (.int y0)] [(.ref va), (.int (1 : Int32))])) rfl rfl (hb hby d3_4)
  refine Goal.to (B := T13.setTop (mkF m 7 #[.val (.ref va), .val (.int (1 : Int32)), .val (.int (1 : Int32)), .val (.int y0)] [(.int (2 : Int32)), (.int (1 : Int32))])) st13 ?_
  refine Goal.to (B := T13.setTop (mkF m 53 #[.val (.ref va), .val (.int (1 : Int32)), .val (.int (1 : Int32)), .val (.int y0)] [])) (fun tt kk => ?_) ?_
  · show Steps p.tables e below (T13.setTop (mkF m 7 #[.val (.ref va), .val (.int (1 : Int32)), .val (.int (1 : Int32)), .val (.int y0)] [(.int (2 : Int32)), (.int (1 : Int32))])) tt
    refine XS.iconst X13.here hx rfl (hb hby d3_7) ?_
    show Steps p.tables e below (T13.setTop (mkF m 8 #[.val (.ref va), .val (.int (1 : Int32)), .val (.int (1 : Int32)), .val (.int y0)] [(.int (2 : Int32)), (.int (2 : Int32)), (.int (1 : Int32))])) tt
    refine XS.idiv X13.here hx rfl (hb hby d3_8) rfl (by decide) ?_
    show Steps p.tables e below (T13.setTop (mkF m 9 #[.val (.ref va), .val (.int (1 : Int32)), .val (.int (1 : Int32)), .val (.int y0)] [(.int (1 : Int32)), (.int (1 : Int32))])) tt
    refine XS.icmpYes X13.here hx rfl (pc0 := 9) (pc' := 53) rfl (hb hby d3_9) rfl (flt (Int32.lt_irrefl : ¬ ((1 : Int32) < (1 : Int32)))).2.1 (by decide) (by decide) ?_
    exact kk
  have f14 : Keep h0 h11 [vl] := (((Keep.refl h0 [vl]).wr W8 (Or.inl (List.mem_of_getElem? (i := 0) rfl))).wr W11 (Or.inl (List.mem_of_getElem? (i := 0) rfl)))
  exact Goal.retN X13 hx Bd.returns (hb hby d3_53) hlk e13 ⟨rfl, N11, f14, V11⟩ (by decide) (by decide)
def QR3 (Z : State) (va : Addr) (vl : Addr) (y0 : Int32) (y1 : Int32) (y2 : Int32) (h0 : Heap) (n0 : Nat) (v : Option Value) (h : Heap) (L : List Loc) : Prop := v = none ∧ Fr n0 L ∧ Keep h0 h [vl] ∧ Ary Z h vl .int [(.int y2), (.int y1), (.int y0), (.int (0 : Int32)), (.int (0 : Int32)), (.int (0 : Int32)), (.int (0 : Int32)), (.int (0 : Int32)), (.int (0 : Int32)), (.int (0 : Int32)), (.int (0 : Int32)), (.int (0 : Int32)), (.int (0 : Int32)), (.int (0 : Int32)), (.int (0 : Int32)), (.int (0 : Int32))]
set_option maxRecDepth 65536 in
set_option maxHeartbeats 40000000 in
theorem rmR3 (l : Launch) (Z : State) (a0 : Array Value) (hw : ∀ d ∈ tables_1, d.before a0 Z = true) (ws : List Jvm.Cond) (va : Addr) (vl : Addr) (y0 : Int32) (y1 : Int32) (y2 : Int32) (h0 : Heap) (n0 : Nat) (Z0 : n0 ≤ h0.size) (F_linkCount_va : Fld Z h0 va "com/example/enodia/enodia/routing/RouteBuffer" "linkCount" "I" (.int (3 : Int32))) (F_links_va : Fld Z h0 va "com/example/enodia/enodia/routing/RouteBuffer" "links" "[I" (.ref vl)) (V_vl : Ary Z h0 vl .int [(.int y0), (.int y1), (.int y2), (.int (0 : Int32)), (.int (0 : Int32)), (.int (0 : Int32)), (.int (0 : Int32)), (.int (0 : Int32)), (.int (0 : Int32)), (.int (0 : Int32)), (.int (0 : Int32)), (.int (0 : Int32)), (.int (0 : Int32)), (.int (0 : Int32)), (.int (0 : Int32)), (.int (0 : Int32))]) (g_vl : n0 ≤ vl) (ne_va_vl : va ≠ vl) :
    MetFree l (⟨"com/example/enodia/enodia/routing/RouteBuffer", "reverse", "()V"⟩ : MethodName) (head1 (Jvm.Cond.code (⟨"com/example/enodia/enodia/routing/RouteBuffer", "reverse", "()V"⟩ : MethodName) prog_66_method_7_code 4 none :: ws) ({ frames := 0, cells := 0, slots := 0, locals := 0 } : Room)) (fun a U => a = #[(.ref va)] ∧ Z.Warmed39 U.vm ∧ U.heap = h0) (fun _ _ _ _ _ => True) (fun _ U o U' => ∃ v L, o = .returned v ∧ QR3 Z va vl y0 y1 y2 h0 n0 v U'.heap L ∧ FrameEnd U o U' L 0 0) := by
  refine MetFree.of_bodySF (plainFor_of_name pn_3) hisR ?_
  intro p e s m args below meth c s₁ Bd hml0 hP hK
  obtain ⟨rfl, hZ, hh⟩ := hP
  have hx := Bd.exec
  have hby := Bd.bytes
  have hml : c.maxLocals = 4 := hml0
  have hown : s.vm.findClass "com/example/enodia/enodia/routing/RouteBuffer" = some m.cls := findClass_of_methodNamed Bd.named
  have hnm := (name_of_methodNamed Bd.named Bd.method).1
  have X0 : Stand p l e ({ frames := 0, cells := 0, slots := 0, locals := 0 } : Room) s m #[(.ref va)] below meth c s₁ [] 0 0 := Stand.of_body Bd
  have e0 : s₁.heap = h0 := by rw [← hh, Bd.state]; rfl
  have N0 := Fr.nil n0
  have hlk : meth.locks = false := BodyLoose.notSynchronized Bd
  show Goal p e below s (QR3 Z va vl y0 y1 y2 h0 n0) 0 0 (s₁.setTop (entryFrame m #[(.ref va)] 4))
  refine Goal.to (B := s₁.setTop (mkF m 0 #[.val (.ref va), .unset, .unset, .unset] [])) (fun tt kk => castTop (ef_3 m va ) kk) ?_
  refine Goal.to (B := s₁.setTop (mkF m 4 #[.val (.ref va), .val (.int (0 : Int32)), .unset, .unset] [(.ref va), (.int (0 : Int32))])) (fun tt kk => ?_) ?_
  · show Steps p.tables e below (s₁.setTop (mkF m 0 #[.val (.ref va), .unset, .unset, .unset] [])) tt
    refine XS.iconst X0.here hx rfl (hb hby d3_0) ?_
    show Steps p.tables e below (s₁.setTop (mkF m 1 #[.val (.ref va), .unset, .unset, .unset] [(.int (0 : Int32))])) tt
    refine XS.istoreN X0.here hx rfl (hb hby d3_1) rfl (l' := #[.val (.ref va), .val (.int (0 : Int32)), .unset, .unset]) rfl ?_
    show Steps p.tables e below (s₁.setTop (mkF m 2 #[.val (.ref va), .val (.int (0 : Int32)), .unset, .unset] [])) tt
    refine XS.iloadN X0.here hx rfl (hb hby d3_2) rfl ?_
    show Steps p.tables e below (s₁.setTop (mkF m 3 #[.val (.ref va), .val (.int (0 : Int32)), .unset, .unset] [(.int (0 : Int32))])) tt
    refine XS.aloadN X0.here hx rfl (hb hby d3_3) rfl rfl ?_
    exact kk
  obtain ⟨T1, X1, e1, st1⟩ := getF X0 hx hZ hown (host := "") (Or.inl (hw _ (mw 18 rfl))) Via.refl e0 F_linkCount_va (g := (mkF m 4 #[.val (.ref va), .val (.int (0 : Int32)), .unset, .unset] [(.ref va), (.int (0 : Int32))])) rfl rfl (hb hby d3_4)
  refine Goal.to (B := T1.setTop (mkF m 7 #[.val (.ref va), .val (.int (0 : Int32)), .unset, .unset] [(.int (3 : Int32)), (.int (0 : Int32))])) st1 ?_
  refine Goal.to (B := T1.setTop (mkF m 13 #[.val (.ref va), .val (.int (0 : Int32)), .unset, .unset] [(.ref va)])) (fun tt kk => ?_) ?_
  · show Steps p.tables e below (T1.setTop (mkF m 7 #[.val (.ref va), .val (.int (0 : Int32)), .unset, .unset] [(.int (3 : Int32)), (.int (0 : Int32))])) tt
    refine XS.iconst X1.here hx rfl (hb hby d3_7) ?_
    show Steps p.tables e below (T1.setTop (mkF m 8 #[.val (.ref va), .val (.int (0 : Int32)), .unset, .unset] [(.int (2 : Int32)), (.int (3 : Int32)), (.int (0 : Int32))])) tt
    refine XS.idiv X1.here hx rfl (hb hby d3_8) rfl (by decide) ?_
    show Steps p.tables e below (T1.setTop (mkF m 9 #[.val (.ref va), .val (.int (0 : Int32)), .unset, .unset] [(.int (1 : Int32)), (.int (0 : Int32))])) tt
    refine XS.icmpNo X1.here hx rfl (hb hby d3_9) rfl (tlt ((by decide) : (0 : Int32) < (1 : Int32))).2.1 ?_
    show Steps p.tables e below (T1.setTop (mkF m 12 #[.val (.ref va), .val (.int (0 : Int32)), .unset, .unset] [])) tt
    refine XS.aloadN X1.here hx rfl (hb hby d3_12) rfl rfl ?_
    exact kk
  obtain ⟨T2, X2, e2, st2⟩ := getF X1 hx hZ hown (host := "") (Or.inl (hw _ (mw 18 rfl))) Via.refl e1 F_linkCount_va (g := (mkF m 13 #[.val (.ref va), .val (.int (0 : Int32)), .unset, .unset] [(.ref va)])) rfl rfl (hb hby d3_13)
  refine Goal.to (B := T2.setTop (mkF m 16 #[.val (.ref va), .val (.int (0 : Int32)), .unset, .unset] [(.int (3 : Int32))])) st2 ?_
  refine Goal.to (B := T2.setTop (mkF m 22 #[.val (.ref va), .val (.int (0 : Int32)), .val (.int (2 : Int32)), .unset] [(.ref va)])) (fun tt kk => ?_) ?_
  · show Steps p.tables e below (T2.setTop (mkF m 16 #[.val (.ref va), .val (.int (0 : Int32)), .unset, .unset] [(.int (3 : Int32))])) tt
    refine XS.iconst X2.here hx rfl (hb hby d3_16) ?_
    show Steps p.tables e below (T2.setTop (mkF m 17 #[.val (.ref va), .val (.int (0 : Int32)), .unset, .unset] [(.int (1 : Int32)), (.int (3 : Int32))])) tt
    refine XS.isub X2.here hx rfl (hb hby d3_17) rfl ?_
    show Steps p.tables e below (T2.setTop (mkF m 18 #[.val (.ref va), .val (.int (0 : Int32)), .unset, .unset] [(.int (2 : Int32))])) tt
    refine XS.iloadN X2.here hx rfl (hb hby d3_18) rfl ?_
    show Steps p.tables e below (T2.setTop (mkF m 19 #[.val (.ref va), .val (.int (0 : Int32)), .unset, .unset] [(.int (0 : Int32)), (.int (2 : Int32))])) tt
    refine XS.isub X2.here hx rfl (hb hby d3_19) rfl ?_
    show Steps p.tables e below (T2.setTop (mkF m 20 #[.val (.ref va), .val (.int (0 : Int32)), .unset, .unset] [(.int (2 : Int32))])) tt
    refine XS.istoreN X2.here hx rfl (hb hby d3_20) rfl (l' := #[.val (.ref va), .val (.int (0 : Int32)), .val (.int (2 : Int32)), .unset]) rfl ?_
    show Steps p.tables e below (T2.setTop (mkF m 21 #[.val (.ref va), .val (.int (0 : Int32)), .val (.int (2 : Int32)), .unset] [])) tt
    refine XS.aloadN X2.here hx rfl (hb hby d3_21) rfl rfl ?_
    exact kk
  obtain ⟨T3, X3, e3, st3⟩ := getF X2 hx hZ hown (host := "") (Or.inl (hw _ (mw 11 rfl))) Via.refl e2 F_links_va (g := (mkF m 22 #[.val (.ref va), .val (.int (0 : Int32)), .val (.int (2 : Int32)), .unset] [(.ref va)])) rfl rfl (hb hby d3_22)
  refine Goal.to (B := T3.setTop (mkF m 25 #[.val (.ref va), .val (.int (0 : Int32)), .val (.int (2 : Int32)), .unset] [(.ref vl)])) st3 ?_
  refine Goal.to (B := T3.setTop (mkF m 26 #[.val (.ref va), .val (.int (0 : Int32)), .val (.int (2 : Int32)), .unset] [(.int (0 : Int32)), (.ref vl)])) (fun tt kk => ?_) ?_
  · show Steps p.tables e below (T3.setTop (mkF m 25 #[.val (.ref va), .val (.int (0 : Int32)), .val (.int (2 : Int32)), .unset] [(.ref vl)])) tt
    refine XS.iloadN X3.here hx rfl (hb hby d3_25) rfl ?_
    exact kk
  obtain ⟨cl4, Ar4, Sl4⟩ := id V_vl
  have hin4 := inA (cl := cl4) Sl4 (j := (0 : Int32)) (by decide) (Nat.le_of_ble_eq_true rfl)
  have hat4 : cl4.slots[((0 : Int32)).toNatClampNeg]? = some (.int y0) := atA Sl4 rfl
  refine Goal.to (B := T3.setTop (mkF m 29 #[.val (.ref va), .val (.int (0 : Int32)), .val (.int (2 : Int32)), .val (.int y0)] [(.ref va)])) (fun tt kk => ?_) ?_
  · show Steps p.tables e below (T3.setTop (mkF m 26 #[.val (.ref va), .val (.int (0 : Int32)), .val (.int (2 : Int32)), .unset] [(.int (0 : Int32)), (.ref vl)])) tt
    refine X3.iaload hx (j := (0 : Int32)) (v := (.int y0)) (by rw [e3]; exact Ar4.1) (State.isArrayOf_alike hZ.alike Ar4.2.1) Ar4.2.2 hin4 hat4 (g := (mkF m 26 #[.val (.ref va), .val (.int (0 : Int32)), .val (.int (2 : Int32)), .unset] [(.int (0 : Int32)), (.ref vl)])) rfl rfl (hb hby d3_26) _ ?_
    show Steps p.tables e below (T3.setTop (mkF m 27 #[.val (.ref va), .val (.int (0 : Int32)), .val (.int (2 : Int32)), .unset] [(.int y0)])) tt
    refine XS.istoreN X3.here hx rfl (hb hby d3_27) rfl (l' := #[.val (.ref va), .val (.int (0 : Int32)), .val (.int (2 : Int32)), .val (.int y0)]) rfl ?_
    show Steps p.tables e below (T3.setTop (mkF m 28 #[.val (.ref va), .val (.int (0 : Int32)), .val (.int (2 : Int32)), .val (.int y0)] [])) tt
    refine XS.aloadN X3.here hx rfl (hb hby d3_28) rfl rfl ?_
    exact kk
  obtain ⟨T5, X5, e5, st5⟩ := getF X3 hx hZ hown (host := "") (Or.inl (hw _ (mw 11 rfl))) Via.refl e3 F_links_va (g := (mkF m 29 #[.val (.ref va), .val (.int (0 : Int32)), .val (.int (2 : Int32)), .val (.int y0)] [(.ref va)])) rfl rfl (hb hby d3_29)
  refine Goal.to (B := T5.setTop (mkF m 32 #[.val (.ref va), .val (.int (0 : Int32)), .val (.int (2 : Int32)), .val (.int y0)] [(.ref vl)])) st5 ?_
  refine Goal.to (B := T5.setTop (mkF m 34 #[.val (.ref va), .val (.int (0 : Int32)), .val (.int (2 : Int32)), .val (.int y0)] [(.ref va), (.int (0 : Int32)), (.ref vl)])) (fun tt kk => ?_) ?_
  · show Steps p.tables e below (T5.setTop (mkF m 32 #[.val (.ref va), .val (.int (0 : Int32)), .val (.int (2 : Int32)), .val (.int y0)] [(.ref vl)])) tt
    refine XS.iloadN X5.here hx rfl (hb hby d3_32) rfl ?_
    show Steps p.tables e below (T5.setTop (mkF m 33 #[.val (.ref va), .val (.int (0 : Int32)), .val (.int (2 : Int32)), .val (.int y0)] [(.int (0 : Int32)), (.ref vl)])) tt
    refine XS.aloadN X5.here hx rfl (hb hby d3_33) rfl rfl ?_
    exact kk
  obtain ⟨T6, X6, e6, st6⟩ := getF X5 hx hZ hown (host := "") (Or.inl (hw _ (mw 11 rfl))) Via.refl e5 F_links_va (g := (mkF m 34 #[.val (.ref va), .val (.int (0 : Int32)), .val (.int (2 : Int32)), .val (.int y0)] [(.ref va), (.int (0 : Int32)), (.ref vl)])) rfl rfl (hb hby d3_34)
  refine Goal.to (B := T6.setTop (mkF m 37 #[.val (.ref va), .val (.int (0 : Int32)), .val (.int (2 : Int32)), .val (.int y0)] [(.ref vl), (.int (0 : Int32)), (.ref vl)])) st6 ?_
  refine Goal.to (B := T6.setTop (mkF m 38 #[.val (.ref va), .val (.int (0 : Int32)), .val (.int (2 : Int32)), .val (.int y0)] [(.int (2 : Int32)), (.ref vl), (.int (0 : Int32)), (.ref vl)])) (fun tt kk => ?_) ?_
  · show Steps p.tables e below (T6.setTop (mkF m 37 #[.val (.ref va), .val (.int (0 : Int32)), .val (.int (2 : Int32)), .val (.int y0)] [(.ref vl), (.int (0 : Int32)), (.ref vl)])) tt
    refine XS.iloadN X6.here hx rfl (hb hby d3_37) rfl ?_
    exact kk
  obtain ⟨cl7, Ar7, Sl7⟩ := id V_vl
  have hin7 := inA (cl := cl7) Sl7 (j := (2 : Int32)) (by decide) (Nat.le_of_ble_eq_true rfl)
  have hat7 : cl7.slots[((2 : Int32)).toNatClampNeg]? = some (.int y2) := atA Sl7 rfl
  refine Goal.to (B := T6.setTop (mkF m 39 #[.val (.ref va), .val (.int (0 : Int32)), .val (.int (2 : Int32)), .val (.int y0)] [(.int y2), (.int (0 : Int32)), (.ref vl)])) (fun tt kk => ?_) ?_
  · show Steps p.tables e below (T6.setTop (mkF m 38 #[.val (.ref va), .val (.int (0 : Int32)), .val (.int (2 : Int32)), .val (.int y0)] [(.int (2 : Int32)), (.ref vl), (.int (0 : Int32)), (.ref vl)])) tt
    refine X6.iaload hx (j := (2 : Int32)) (v := (.int y2)) (by rw [e6]; exact Ar7.1) (State.isArrayOf_alike hZ.alike Ar7.2.1) Ar7.2.2 hin7 hat7 (g := (mkF m 38 #[.val (.ref va), .val (.int (0 : Int32)), .val (.int (2 : Int32)), .val (.int y0)] [(.int (2 : Int32)), (.ref vl), (.int (0 : Int32)), (.ref vl)])) rfl rfl (hb hby d3_38) _ ?_
    exact kk
  obtain ⟨cl8, Ar8, Sl8⟩ := id V_vl
  have hin8 := inA (cl := cl8) Sl8 (j := (0 : Int32)) (by decide) (Nat.le_of_ble_eq_true rfl)
  obtain ⟨T8, h8, X8, e8, W8, st8⟩ := stI X6 hx hZ e6 Ar8 (j := (0 : Int32)) hin8 (g := (mkF m 39 #[.val (.ref va), .val (.int (0 : Int32)), .val (.int (2 : Int32)), .val (.int y0)] [(.int y2), (.int (0 : Int32)), (.ref vl)])) rfl rfl (hb hby d3_39)
  have V8 : Ary Z h8 vl .int [(.int y2), (.int y1), (.int y2), (.int (0 : Int32)), (.int (0 : Int32)), (.int (0 : Int32)), (.int (0 : Int32)), (.int (0 : Int32)), (.int (0 : Int32)), (.int (0 : Int32)), (.int (0 : Int32)), (.int (0 : Int32)), (.int (0 : Int32)), (.int (0 : Int32)), (.int (0 : Int32)), (.int (0 : Int32))] := Ary.put Ar8 Sl8 W8 rfl
  have N8 := Fr.snoc X8 N0 g_vl
  refine Goal.to (B := T8.setTop (mkF m 40 #[.val (.ref va), .val (.int (0 : Int32)), .val (.int (2 : Int32)), .val (.int y0)] [])) st8 ?_
  refine Goal.to (B := T8.setTop (mkF m 41 #[.val (.ref va), .val (.int (0 : Int32)), .val (.int (2 : Int32)), .val (.int y0)] [(.ref va)])) (fun tt kk => ?_) ?_
  · show Steps p.tables e below (T8.setTop (mkF m 40 #[.val (.ref va), .val (.int (0 : Int32)), .val (.int (2 : Int32)), .val (.int y0)] [])) tt
    refine XS.aloadN X8.here hx rfl (hb hby d3_40) rfl rfl ?_
    exact kk
  have f9 : Fld Z h8 va "com/example/enodia/enodia/routing/RouteBuffer" "links" "[I" (.ref vl) := (F_links_va.other W8 (Or.inl ne_va_vl))
  obtain ⟨T10, X10, e10, st10⟩ := getF X8 hx hZ hown (host := "") (Or.inl (hw _ (mw 11 rfl))) Via.refl e8 f9 (g := (mkF m 41 #[.val (.ref va), .val (.int (0 : Int32)), .val (.int (2 : Int32)), .val (.int y0)] [(.ref va)])) rfl rfl (hb hby d3_41)
  refine Goal.to (B := T10.setTop (mkF m 44 #[.val (.ref va), .val (.int (0 : Int32)), .val (.int (2 : Int32)), .val (.int y0)] [(.ref vl)])) st10 ?_
  refine Goal.to (B := T10.setTop (mkF m 46 #[.val (.ref va), .val (.int (0 : Int32)), .val (.int (2 : Int32)), .val (.int y0)] [(.int y0), (.int (2 : Int32)), (.ref vl)])) (fun tt kk => ?_) ?_
  · show Steps p.tables e below (T10.setTop (mkF m 44 #[.val (.ref va), .val (.int (0 : Int32)), .val (.int (2 : Int32)), .val (.int y0)] [(.ref vl)])) tt
    refine XS.iloadN X10.here hx rfl (hb hby d3_44) rfl ?_
    show Steps p.tables e below (T10.setTop (mkF m 45 #[.val (.ref va), .val (.int (0 : Int32)), .val (.int (2 : Int32)), .val (.int y0)] [(.int (2 : Int32)), (.ref vl)])) tt
    refine XS.iloadN X10.here hx rfl (hb hby d3_45) rfl ?_
    exact kk
  obtain ⟨cl11, Ar11, Sl11⟩ := id V8
  have hin11 := inA (cl := cl11) Sl11 (j := (2 : Int32)) (by decide) (Nat.le_of_ble_eq_true rfl)
  obtain ⟨T11, h11, X11, e11, W11, st11⟩ := stI X10 hx hZ e10 Ar11 (j := (2 : Int32)) hin11 (g := (mkF m 46 #[.val (.ref va), .val (.int (0 : Int32)), .val (.int (2 : Int32)), .val (.int y0)] [(.int y0), (.int (2 : Int32)), (.ref vl)])) rfl rfl (hb hby d3_46)
  have V11 : Ary Z h11 vl .int [(.int y2), (.int y1), (.int y0), (.int (0 : Int32)), (.int (0 : Int32)), (.int (0 : Int32)), (.int (0 : Int32)), (.int (0 : Int32)), (.int (0 : Int32)), (.int (0 : Int32)), (.int (0 : Int32)), (.int (0 : Int32)), (.int (0 : Int32)), (.int (0 : Int32)), (.int (0 : Int32)), (.int (0 : Int32))] := Ary.put Ar11 Sl11 W11 rfl
  have N11 := Fr.snoc X11 N8 g_vl
  refine Goal.to (B := T11.setTop (mkF m 47 #[.val (.ref va), .val (.int (0 : Int32)), .val (.int (2 : Int32)), .val (.int y0)] [])) st11 ?_
  refine Goal.to (B := T11.setTop (mkF m 4 #[.val (.ref va), .val (.int (1 : Int32)), .val (.int (2 : Int32)), .val (.int y0)] [(.ref va), (.int (1 : Int32))])) (fun tt kk => ?_) ?_
  · show Steps p.tables e below (T11.setTop (mkF m 47 #[.val (.ref va), .val (.int (0 : Int32)), .val (.int (2 : Int32)), .val (.int y0)] [])) tt
    refine XS.iinc X11.here hx rfl (hb hby d3_47) rfl (l' := #[.val (.ref va), .val (.int (1 : Int32)), .val (.int (2 : Int32)), .val (.int y0)]) rfl ?_
    show Steps p.tables e below (T11.setTop (mkF m 50 #[.val (.ref va), .val (.int (1 : Int32)), .val (.int (2 : Int32)), .val (.int y0)] [])) tt
    refine XS.goto X11.here hx rfl (pc0 := 50) (pc' := 2) rfl (hb hby d3_50) (by decide) (by decide) ?_
    show Steps p.tables e below (T11.setTop (mkF m 2 #[.val (.ref va), .val (.int (1 : Int32)), .val (.int (2 : Int32)), .val (.int y0)] [])) tt
    refine XS.iloadN X11.here hx rfl (hb hby d3_2) rfl ?_
    show Steps p.tables e below (T11.setTop (mkF m 3 #[.val (.ref va), .val (.int (1 : Int32)), .val (.int (2 : Int32)), .val (.int y0)] [(.int (1 : Int32))])) tt
    refine XS.aloadN X11.here hx rfl (hb hby d3_3) rfl rfl ?_
    exact kk
  have f12 : Fld Z h11 va "com/example/enodia/enodia/routing/RouteBuffer" "linkCount" "I" (.int (3 : Int32)) := ((F_linkCount_va.other W8 (Or.inl ne_va_vl)).other W11 (Or.inl ne_va_vl))
  obtain ⟨T13, X13, e13, st13⟩ := getF X11 hx hZ hown (host := "") (Or.inl (hw _ (mw 18 rfl))) Via.refl e11 f12 (g := (mkF m 4 #[.val (.ref va), .val (.int (1 : Int32)), .val (.int (2 : Int32)), .val (.int y0)] [(.ref va), (.int (1 : Int32))])) rfl rfl (hb hby d3_4)
  refine Goal.to (B := T13.setTop (mkF m 7 #[.val (.ref va), .val (.int (1 : Int32)), .val (.int (2 : Int32)), .val (.int y0)] [(.int (3 : Int32)), (.int (1 : Int32))])) st13 ?_
  refine Goal.to (B := T13.setTop (mkF m 53 #[.val (.ref va), .val (.int (1 : Int32)), .val (.int (2 : Int32)), .val (.int y0)] [])) (fun tt kk => ?_) ?_
  · show Steps p.tables e below (T13.setTop (mkF m 7 #[.val (.ref va), .val (.int (1 : Int32)), .val (.int (2 : Int32)), .val (.int y0)] [(.int (3 : Int32)), (.int (1 : Int32))])) tt
    refine XS.iconst X13.here hx rfl (hb hby d3_7) ?_
    show Steps p.tables e below (T13.setTop (mkF m 8 #[.val (.ref va), .val (.int (1 : Int32)), .val (.int (2 : Int32)), .val (.int y0)] [(.int (2 : Int32)), (.int (3 : Int32)), (.int (1 : Int32))])) tt
    refine XS.idiv X13.here hx rfl (hb hby d3_8) rfl (by decide) ?_
    show Steps p.tables e below (T13.setTop (mkF m 9 #[.val (.ref va), .val (.int (1 : Int32)), .val (.int (2 : Int32)), .val (.int y0)] [(.int (1 : Int32)), (.int (1 : Int32))])) tt
    refine XS.icmpYes X13.here hx rfl (pc0 := 9) (pc' := 53) rfl (hb hby d3_9) rfl (flt (Int32.lt_irrefl : ¬ ((1 : Int32) < (1 : Int32)))).2.1 (by decide) (by decide) ?_
    exact kk
  have f14 : Keep h0 h11 [vl] := (((Keep.refl h0 [vl]).wr W8 (Or.inl (List.mem_of_getElem? (i := 0) rfl))).wr W11 (Or.inl (List.mem_of_getElem? (i := 0) rfl)))
  exact Goal.retN X13 hx Bd.returns (hb hby d3_53) hlk e13 ⟨rfl, N11, f14, V11⟩ (by decide) (by decide)
def QR4 (Z : State) (va : Addr) (vl : Addr) (y0 : Int32) (y1 : Int32) (y2 : Int32) (y3 : Int32) (h0 : Heap) (n0 : Nat) (v : Option Value) (h : Heap) (L : List Loc) : Prop := v = none ∧ Fr n0 L ∧ Keep h0 h [vl] ∧ Ary Z h vl .int [(.int y3), (.int y2), (.int y1), (.int y0), (.int (0 : Int32)), (.int (0 : Int32)), (.int (0 : Int32)), (.int (0 : Int32)), (.int (0 : Int32)), (.int (0 : Int32)), (.int (0 : Int32)), (.int (0 : Int32)), (.int (0 : Int32)), (.int (0 : Int32)), (.int (0 : Int32)), (.int (0 : Int32))]
set_option maxRecDepth 65536 in
set_option maxHeartbeats 40000000 in
theorem rmR4 (l : Launch) (Z : State) (a0 : Array Value) (hw : ∀ d ∈ tables_1, d.before a0 Z = true) (ws : List Jvm.Cond) (va : Addr) (vl : Addr) (y0 : Int32) (y1 : Int32) (y2 : Int32) (y3 : Int32) (h0 : Heap) (n0 : Nat) (Z0 : n0 ≤ h0.size) (F_linkCount_va : Fld Z h0 va "com/example/enodia/enodia/routing/RouteBuffer" "linkCount" "I" (.int (4 : Int32))) (F_links_va : Fld Z h0 va "com/example/enodia/enodia/routing/RouteBuffer" "links" "[I" (.ref vl)) (V_vl : Ary Z h0 vl .int [(.int y0), (.int y1), (.int y2), (.int y3), (.int (0 : Int32)), (.int (0 : Int32)), (.int (0 : Int32)), (.int (0 : Int32)), (.int (0 : Int32)), (.int (0 : Int32)), (.int (0 : Int32)), (.int (0 : Int32)), (.int (0 : Int32)), (.int (0 : Int32)), (.int (0 : Int32)), (.int (0 : Int32))]) (g_vl : n0 ≤ vl) (ne_va_vl : va ≠ vl) :
    MetFree l (⟨"com/example/enodia/enodia/routing/RouteBuffer", "reverse", "()V"⟩ : MethodName) (head1 (Jvm.Cond.code (⟨"com/example/enodia/enodia/routing/RouteBuffer", "reverse", "()V"⟩ : MethodName) prog_66_method_7_code 4 none :: ws) ({ frames := 0, cells := 0, slots := 0, locals := 0 } : Room)) (fun a U => a = #[(.ref va)] ∧ Z.Warmed39 U.vm ∧ U.heap = h0) (fun _ _ _ _ _ => True) (fun _ U o U' => ∃ v L, o = .returned v ∧ QR4 Z va vl y0 y1 y2 y3 h0 n0 v U'.heap L ∧ FrameEnd U o U' L 0 0) := by
  refine MetFree.of_bodySF (plainFor_of_name pn_3) hisR ?_
  intro p e s m args below meth c s₁ Bd hml0 hP hK
  obtain ⟨rfl, hZ, hh⟩ := hP
  have hx := Bd.exec
  have hby := Bd.bytes
  have hml : c.maxLocals = 4 := hml0
  have hown : s.vm.findClass "com/example/enodia/enodia/routing/RouteBuffer" = some m.cls := findClass_of_methodNamed Bd.named
  have hnm := (name_of_methodNamed Bd.named Bd.method).1
  have X0 : Stand p l e ({ frames := 0, cells := 0, slots := 0, locals := 0 } : Room) s m #[(.ref va)] below meth c s₁ [] 0 0 := Stand.of_body Bd
  have e0 : s₁.heap = h0 := by rw [← hh, Bd.state]; rfl
  have N0 := Fr.nil n0
  have hlk : meth.locks = false := BodyLoose.notSynchronized Bd
  show Goal p e below s (QR4 Z va vl y0 y1 y2 y3 h0 n0) 0 0 (s₁.setTop (entryFrame m #[(.ref va)] 4))
  refine Goal.to (B := s₁.setTop (mkF m 0 #[.val (.ref va), .unset, .unset, .unset] [])) (fun tt kk => castTop (ef_3 m va ) kk) ?_
  refine Goal.to (B := s₁.setTop (mkF m 4 #[.val (.ref va), .val (.int (0 : Int32)), .unset, .unset] [(.ref va), (.int (0 : Int32))])) (fun tt kk => ?_) ?_
  · show Steps p.tables e below (s₁.setTop (mkF m 0 #[.val (.ref va), .unset, .unset, .unset] [])) tt
    refine XS.iconst X0.here hx rfl (hb hby d3_0) ?_
    show Steps p.tables e below (s₁.setTop (mkF m 1 #[.val (.ref va), .unset, .unset, .unset] [(.int (0 : Int32))])) tt
    refine XS.istoreN X0.here hx rfl (hb hby d3_1) rfl (l' := #[.val (.ref va), .val (.int (0 : Int32)), .unset, .unset]) rfl ?_
    show Steps p.tables e below (s₁.setTop (mkF m 2 #[.val (.ref va), .val (.int (0 : Int32)), .unset, .unset] [])) tt
    refine XS.iloadN X0.here hx rfl (hb hby d3_2) rfl ?_
    show Steps p.tables e below (s₁.setTop (mkF m 3 #[.val (.ref va), .val (.int (0 : Int32)), .unset, .unset] [(.int (0 : Int32))])) tt
    refine XS.aloadN X0.here hx rfl (hb hby d3_3) rfl rfl ?_
    exact kk
  obtain ⟨T1, X1, e1, st1⟩ := getF X0 hx hZ hown (host := "") (Or.inl (hw _ (mw 18 rfl))) Via.refl e0 F_linkCount_va (g := (mkF m 4 #[.val (.ref va), .val (.int (0 : Int32)), .unset, .unset] [(.ref va), (.int (0 : Int32))])) rfl rfl (hb hby d3_4)
  refine Goal.to (B := T1.setTop (mkF m 7 #[.val (.ref va), .val (.int (0 : Int32)), .unset, .unset] [(.int (4 : Int32)), (.int (0 : Int32))])) st1 ?_
  refine Goal.to (B := T1.setTop (mkF m 13 #[.val (.ref va), .val (.int (0 : Int32)), .unset, .unset] [(.ref va)])) (fun tt kk => ?_) ?_
  · show Steps p.tables e below (T1.setTop (mkF m 7 #[.val (.ref va), .val (.int (0 : Int32)), .unset, .unset] [(.int (4 : Int32)), (.int (0 : Int32))])) tt
    refine XS.iconst X1.here hx rfl (hb hby d3_7) ?_
    show Steps p.tables e below (T1.setTop (mkF m 8 #[.val (.ref va), .val (.int (0 : Int32)), .unset, .unset] [(.int (2 : Int32)), (.int (4 : Int32)), (.int (0 : Int32))])) tt
    refine XS.idiv X1.here hx rfl (hb hby d3_8) rfl (by decide) ?_
    show Steps p.tables e below (T1.setTop (mkF m 9 #[.val (.ref va), .val (.int (0 : Int32)), .unset, .unset] [(.int (2 : Int32)), (.int (0 : Int32))])) tt
    refine XS.icmpNo X1.here hx rfl (hb hby d3_9) rfl (tlt ((by decide) : (0 : Int32) < (2 : Int32))).2.1 ?_
    show Steps p.tables e below (T1.setTop (mkF m 12 #[.val (.ref va), .val (.int (0 : Int32)), .unset, .unset] [])) tt
    refine XS.aloadN X1.here hx rfl (hb hby d3_12) rfl rfl ?_
    exact kk
  obtain ⟨T2, X2, e2, st2⟩ := getF X1 hx hZ hown (host := "") (Or.inl (hw _ (mw 18 rfl))) Via.refl e1 F_linkCount_va (g := (mkF m 13 #[.val (.ref va), .val (.int (0 : Int32)), .unset, .unset] [(.ref va)])) rfl rfl (hb hby d3_13)
  refine Goal.to (B := T2.setTop (mkF m 16 #[.val (.ref va), .val (.int (0 : Int32)), .unset, .unset] [(.int (4 : Int32))])) st2 ?_
  refine Goal.to (B := T2.setTop (mkF m 22 #[.val (.ref va), .val (.int (0 : Int32)), .val (.int (3 : Int32)), .unset] [(.ref va)])) (fun tt kk => ?_) ?_
  · show Steps p.tables e below (T2.setTop (mkF m 16 #[.val (.ref va), .val (.int (0 : Int32)), .unset, .unset] [(.int (4 : Int32))])) tt
    refine XS.iconst X2.here hx rfl (hb hby d3_16) ?_
    show Steps p.tables e below (T2.setTop (mkF m 17 #[.val (.ref va), .val (.int (0 : Int32)), .unset, .unset] [(.int (1 : Int32)), (.int (4 : Int32))])) tt
    refine XS.isub X2.here hx rfl (hb hby d3_17) rfl ?_
    show Steps p.tables e below (T2.setTop (mkF m 18 #[.val (.ref va), .val (.int (0 : Int32)), .unset, .unset] [(.int (3 : Int32))])) tt
    refine XS.iloadN X2.here hx rfl (hb hby d3_18) rfl ?_
    show Steps p.tables e below (T2.setTop (mkF m 19 #[.val (.ref va), .val (.int (0 : Int32)), .unset, .unset] [(.int (0 : Int32)), (.int (3 : Int32))])) tt
    refine XS.isub X2.here hx rfl (hb hby d3_19) rfl ?_
    show Steps p.tables e below (T2.setTop (mkF m 20 #[.val (.ref va), .val (.int (0 : Int32)), .unset, .unset] [(.int (3 : Int32))])) tt
    refine XS.istoreN X2.here hx rfl (hb hby d3_20) rfl (l' := #[.val (.ref va), .val (.int (0 : Int32)), .val (.int (3 : Int32)), .unset]) rfl ?_
    show Steps p.tables e below (T2.setTop (mkF m 21 #[.val (.ref va), .val (.int (0 : Int32)), .val (.int (3 : Int32)), .unset] [])) tt
    refine XS.aloadN X2.here hx rfl (hb hby d3_21) rfl rfl ?_
    exact kk
  obtain ⟨T3, X3, e3, st3⟩ := getF X2 hx hZ hown (host := "") (Or.inl (hw _ (mw 11 rfl))) Via.refl e2 F_links_va (g := (mkF m 22 #[.val (.ref va), .val (.int (0 : Int32)), .val (.int (3 : Int32)), .unset] [(.ref va)])) rfl rfl (hb hby d3_22)
  refine Goal.to (B := T3.setTop (mkF m 25 #[.val (.ref va), .val (.int (0 : Int32)), .val (.int (3 : Int32)), .unset] [(.ref vl)])) st3 ?_
  refine Goal.to (B := T3.setTop (mkF m 26 #[.val (.ref va), .val (.int (0 : Int32)), .val (.int (3 : Int32)), .unset] [(.int (0 : Int32)), (.ref vl)])) (fun tt kk => ?_) ?_
  · show Steps p.tables e below (T3.setTop (mkF m 25 #[.val (.ref va), .val (.int (0 : Int32)), .val (.int (3 : Int32)), .unset] [(.ref vl)])) tt
    refine XS.iloadN X3.here hx rfl (hb hby d3_25) rfl ?_
    exact kk
  obtain ⟨cl4, Ar4, Sl4⟩ := id V_vl
  have hin4 := inA (cl := cl4) Sl4 (j := (0 : Int32)) (by decide) (Nat.le_of_ble_eq_true rfl)
  have hat4 : cl4.slots[((0 : Int32)).toNatClampNeg]? = some (.int y0) := atA Sl4 rfl
  refine Goal.to (B := T3.setTop (mkF m 29 #[.val (.ref va), .val (.int (0 : Int32)), .val (.int (3 : Int32)), .val (.int y0)] [(.ref va)])) (fun tt kk => ?_) ?_
  · show Steps p.tables e below (T3.setTop (mkF m 26 #[.val (.ref va), .val (.int (0 : Int32)), .val (.int (3 : Int32)), .unset] [(.int (0 : Int32)), (.ref vl)])) tt
    refine X3.iaload hx (j := (0 : Int32)) (v := (.int y0)) (by rw [e3]; exact Ar4.1) (State.isArrayOf_alike hZ.alike Ar4.2.1) Ar4.2.2 hin4 hat4 (g := (mkF m 26 #[.val (.ref va), .val (.int (0 : Int32)), .val (.int (3 : Int32)), .unset] [(.int (0 : Int32)), (.ref vl)])) rfl rfl (hb hby d3_26) _ ?_
    show Steps p.tables e below (T3.setTop (mkF m 27 #[.val (.ref va), .val (.int (0 : Int32)), .val (.int (3 : Int32)), .unset] [(.int y0)])) tt
    refine XS.istoreN X3.here hx rfl (hb hby d3_27) rfl (l' := #[.val (.ref va), .val (.int (0 : Int32)), .val (.int (3 : Int32)), .val (.int y0)]) rfl ?_
    show Steps p.tables e below (T3.setTop (mkF m 28 #[.val (.ref va), .val (.int (0 : Int32)), .val (.int (3 : Int32)), .val (.int y0)] [])) tt
    refine XS.aloadN X3.here hx rfl (hb hby d3_28) rfl rfl ?_
    exact kk
  obtain ⟨T5, X5, e5, st5⟩ := getF X3 hx hZ hown (host := "") (Or.inl (hw _ (mw 11 rfl))) Via.refl e3 F_links_va (g := (mkF m 29 #[.val (.ref va), .val (.int (0 : Int32)), .val (.int (3 : Int32)), .val (.int y0)] [(.ref va)])) rfl rfl (hb hby d3_29)
  refine Goal.to (B := T5.setTop (mkF m 32 #[.val (.ref va), .val (.int (0 : Int32)), .val (.int (3 : Int32)), .val (.int y0)] [(.ref vl)])) st5 ?_
  refine Goal.to (B := T5.setTop (mkF m 34 #[.val (.ref va), .val (.int (0 : Int32)), .val (.int (3 : Int32)), .val (.int y0)] [(.ref va), (.int (0 : Int32)), (.ref vl)])) (fun tt kk => ?_) ?_
  · show Steps p.tables e below (T5.setTop (mkF m 32 #[.val (.ref va), .val (.int (0 : Int32)), .val (.int (3 : Int32)), .val (.int y0)] [(.ref vl)])) tt
    refine XS.iloadN X5.here hx rfl (hb hby d3_32) rfl ?_
    show Steps p.tables e below (T5.setTop (mkF m 33 #[.val (.ref va), .val (.int (0 : Int32)), .val (.int (3 : Int32)), .val (.int y0)] [(.int (0 : Int32)), (.ref vl)])) tt
    refine XS.aloadN X5.here hx rfl (hb hby d3_33) rfl rfl ?_
    exact kk
  obtain ⟨T6, X6, e6, st6⟩ := getF X5 hx hZ hown (host := "") (Or.inl (hw _ (mw 11 rfl))) Via.refl e5 F_links_va (g := (mkF m 34 #[.val (.ref va), .val (.int (0 : Int32)), .val (.int (3 : Int32)), .val (.int y0)] [(.ref va), (.int (0 : Int32)), (.ref vl)])) rfl rfl (hb hby d3_34)
  refine Goal.to (B := T6.setTop (mkF m 37 #[.val (.ref va), .val (.int (0 : Int32)), .val (.int (3 : Int32)), .val (.int y0)] [(.ref vl), (.int (0 : Int32)), (.ref vl)])) st6 ?_
  refine Goal.to (B := T6.setTop (mkF m 38 #[.val (.ref va), .val (.int (0 : Int32)), .val (.int (3 : Int32)), .val (.int y0)] [(.int (3 : Int32)), (.ref vl), (.int (0 : Int32)), (.ref vl)])) (fun tt kk => ?_) ?_
  · show Steps p.tables e below (T6.setTop (mkF m 37 #[.val (.ref va), .val (.int (0 : Int32)), .val (.int (3 : Int32)), .val (.int y0)] [(.ref vl), (.int (0 : Int32)), (.ref vl)])) tt
    refine XS.iloadN X6.here hx rfl (hb hby d3_37) rfl ?_
    exact kk
  obtain ⟨cl7, Ar7, Sl7⟩ := id V_vl
  have hin7 := inA (cl := cl7) Sl7 (j := (3 : Int32)) (by decide) (Nat.le_of_ble_eq_true rfl)
  have hat7 : cl7.slots[((3 : Int32)).toNatClampNeg]? = some (.int y3) := atA Sl7 rfl
  refine Goal.to (B := T6.setTop (mkF m 39 #[.val (.ref va), .val (.int (0 : Int32)), .val (.int (3 : Int32)), .val (.int y0)] [(.int y3), (.int (0 : Int32)), (.ref vl)])) (fun tt kk => ?_) ?_
  · show Steps p.tables e below (T6.setTop (mkF m 38 #[.val (.ref va), .val (.int (0 : Int32)), .val (.int (3 : Int32)), .val (.int y0)] [(.int (3 : Int32)), (.ref vl), (.int (0 : Int32)), (.ref vl)])) tt
    refine X6.iaload hx (j := (3 : Int32)) (v := (.int y3)) (by rw [e6]; exact Ar7.1) (State.isArrayOf_alike hZ.alike Ar7.2.1) Ar7.2.2 hin7 hat7 (g := (mkF m 38 #[.val (.ref va), .val (.int (0 : Int32)), .val (.int (3 : Int32)), .val (.int y0)] [(.int (3 : Int32)), (.ref vl), (.int (0 : Int32)), (.ref vl)])) rfl rfl (hb hby d3_38) _ ?_
    exact kk
  obtain ⟨cl8, Ar8, Sl8⟩ := id V_vl
  have hin8 := inA (cl := cl8) Sl8 (j := (0 : Int32)) (by decide) (Nat.le_of_ble_eq_true rfl)
  obtain ⟨T8, h8, X8, e8, W8, st8⟩ := stI X6 hx hZ e6 Ar8 (j := (0 : Int32)) hin8 (g := (mkF m 39 #[.val (.ref va), .val (.int (0 : Int32)), .val (.int (3 : Int32)), .val (.int y0)] [(.int y3), (.int (0 : Int32)), (.ref vl)])) rfl rfl (hb hby d3_39)
  have V8 : Ary Z h8 vl .int [(.int y3), (.int y1), (.int y2), (.int y3), (.int (0 : Int32)), (.int (0 : Int32)), (.int (0 : Int32)), (.int (0 : Int32)), (.int (0 : Int32)), (.int (0 : Int32)), (.int (0 : Int32)), (.int (0 : Int32)), (.int (0 : Int32)), (.int (0 : Int32)), (.int (0 : Int32)), (.int (0 : Int32))] := Ary.put Ar8 Sl8 W8 rfl
  have N8 := Fr.snoc X8 N0 g_vl
  refine Goal.to (B := T8.setTop (mkF m 40 #[.val (.ref va), .val (.int (0 : Int32)), .val (.int (3 : Int32)), .val (.int y0)] [])) st8 ?_
  refine Goal.to (B := T8.setTop (mkF m 41 #[.val (.ref va), .val (.int (0 : Int32)), .val (.int (3 : Int32)), .val (.int y0)] [(.ref va)])) (fun tt kk => ?_) ?_
  · show Steps p.tables e below (T8.setTop (mkF m 40 #[.val (.ref va), .val (.int (0 : Int32)), .val (.int (3 : Int32)), .val (.int y0)] [])) tt
    refine XS.aloadN X8.here hx rfl (hb hby d3_40) rfl rfl ?_
    exact kk
  have f9 : Fld Z h8 va "com/example/enodia/enodia/routing/RouteBuffer" "links" "[I" (.ref vl) := (F_links_va.other W8 (Or.inl ne_va_vl))
  obtain ⟨T10, X10, e10, st10⟩ := getF X8 hx hZ hown (host := "") (Or.inl (hw _ (mw 11 rfl))) Via.refl e8 f9 (g := (mkF m 41 #[.val (.ref va), .val (.int (0 : Int32)), .val (.int (3 : Int32)), .val (.int y0)] [(.ref va)])) rfl rfl (hb hby d3_41)
  refine Goal.to (B := T10.setTop (mkF m 44 #[.val (.ref va), .val (.int (0 : Int32)), .val (.int (3 : Int32)), .val (.int y0)] [(.ref vl)])) st10 ?_
  refine Goal.to (B := T10.setTop (mkF m 46 #[.val (.ref va), .val (.int (0 : Int32)), .val (.int (3 : Int32)), .val (.int y0)] [(.int y0), (.int (3 : Int32)), (.ref vl)])) (fun tt kk => ?_) ?_
  · show Steps p.tables e below (T10.setTop (mkF m 44 #[.val (.ref va), .val (.int (0 : Int32)), .val (.int (3 : Int32)), .val (.int y0)] [(.ref vl)])) tt
    refine XS.iloadN X10.here hx rfl (hb hby d3_44) rfl ?_
    show Steps p.tables e below (T10.setTop (mkF m 45 #[.val (.ref va), .val (.int (0 : Int32)), .val (.int (3 : Int32)), .val (.int y0)] [(.int (3 : Int32)), (.ref vl)])) tt
    refine XS.iloadN X10.here hx rfl (hb hby d3_45) rfl ?_
    exact kk
  obtain ⟨cl11, Ar11, Sl11⟩ := id V8
  have hin11 := inA (cl := cl11) Sl11 (j := (3 : Int32)) (by decide) (Nat.le_of_ble_eq_true rfl)
  obtain ⟨T11, h11, X11, e11, W11, st11⟩ := stI X10 hx hZ e10 Ar11 (j := (3 : Int32)) hin11 (g := (mkF m 46 #[.val (.ref va), .val (.int (0 : Int32)), .val (.int (3 : Int32)), .val (.int y0)] [(.int y0), (.int (3 : Int32)), (.ref vl)])) rfl rfl (hb hby d3_46)
  have V11 : Ary Z h11 vl .int [(.int y3), (.int y1), (.int y2), (.int y0), (.int (0 : Int32)), (.int (0 : Int32)), (.int (0 : Int32)), (.int (0 : Int32)), (.int (0 : Int32)), (.int (0 : Int32)), (.int (0 : Int32)), (.int (0 : Int32)), (.int (0 : Int32)), (.int (0 : Int32)), (.int (0 : Int32)), (.int (0 : Int32))] := Ary.put Ar11 Sl11 W11 rfl
  have N11 := Fr.snoc X11 N8 g_vl
  refine Goal.to (B := T11.setTop (mkF m 47 #[.val (.ref va), .val (.int (0 : Int32)), .val (.int (3 : Int32)), .val (.int y0)] [])) st11 ?_
  refine Goal.to (B := T11.setTop (mkF m 4 #[.val (.ref va), .val (.int (1 : Int32)), .val (.int (3 : Int32)), .val (.int y0)] [(.ref va), (.int (1 : Int32))])) (fun tt kk => ?_) ?_
  · show Steps p.tables e below (T11.setTop (mkF m 47 #[.val (.ref va), .val (.int (0 : Int32)), .val (.int (3 : Int32)), .val (.int y0)] [])) tt
    refine XS.iinc X11.here hx rfl (hb hby d3_47) rfl (l' := #[.val (.ref va), .val (.int (1 : Int32)), .val (.int (3 : Int32)), .val (.int y0)]) rfl ?_
    show Steps p.tables e below (T11.setTop (mkF m 50 #[.val (.ref va), .val (.int (1 : Int32)), .val (.int (3 : Int32)), .val (.int y0)] [])) tt
    refine XS.goto X11.here hx rfl (pc0 := 50) (pc' := 2) rfl (hb hby d3_50) (by decide) (by decide) ?_
    show Steps p.tables e below (T11.setTop (mkF m 2 #[.val (.ref va), .val (.int (1 : Int32)), .val (.int (3 : Int32)), .val (.int y0)] [])) tt
    refine XS.iloadN X11.here hx rfl (hb hby d3_2) rfl ?_
    show Steps p.tables e below (T11.setTop (mkF m 3 #[.val (.ref va), .val (.int (1 : Int32)), .val (.int (3 : Int32)), .val (.int y0)] [(.int (1 : Int32))])) tt
    refine XS.aloadN X11.here hx rfl (hb hby d3_3) rfl rfl ?_
    exact kk
  have f12 : Fld Z h11 va "com/example/enodia/enodia/routing/RouteBuffer" "linkCount" "I" (.int (4 : Int32)) := ((F_linkCount_va.other W8 (Or.inl ne_va_vl)).other W11 (Or.inl ne_va_vl))
  obtain ⟨T13, X13, e13, st13⟩ := getF X11 hx hZ hown (host := "") (Or.inl (hw _ (mw 18 rfl))) Via.refl e11 f12 (g := (mkF m 4 #[.val (.ref va), .val (.int (1 : Int32)), .val (.int (3 : Int32)), .val (.int y0)] [(.ref va), (.int (1 : Int32))])) rfl rfl (hb hby d3_4)
  refine Goal.to (B := T13.setTop (mkF m 7 #[.val (.ref va), .val (.int (1 : Int32)), .val (.int (3 : Int32)), .val (.int y0)] [(.int (4 : Int32)), (.int (1 : Int32))])) st13 ?_
  refine Goal.to (B := T13.setTop (mkF m 13 #[.val (.ref va), .val (.int (1 : Int32)), .val (.int (3 : Int32)), .val (.int y0)] [(.ref va)])) (fun tt kk => ?_) ?_
  · show Steps p.tables e below (T13.setTop (mkF m 7 #[.val (.ref va), .val (.int (1 : Int32)), .val (.int (3 : Int32)), .val (.int y0)] [(.int (4 : Int32)), (.int (1 : Int32))])) tt
    refine XS.iconst X13.here hx rfl (hb hby d3_7) ?_
    show Steps p.tables e below (T13.setTop (mkF m 8 #[.val (.ref va), .val (.int (1 : Int32)), .val (.int (3 : Int32)), .val (.int y0)] [(.int (2 : Int32)), (.int (4 : Int32)), (.int (1 : Int32))])) tt
    refine XS.idiv X13.here hx rfl (hb hby d3_8) rfl (by decide) ?_
    show Steps p.tables e below (T13.setTop (mkF m 9 #[.val (.ref va), .val (.int (1 : Int32)), .val (.int (3 : Int32)), .val (.int y0)] [(.int (2 : Int32)), (.int (1 : Int32))])) tt
    refine XS.icmpNo X13.here hx rfl (hb hby d3_9) rfl (tlt ((by decide) : (1 : Int32) < (2 : Int32))).2.1 ?_
    show Steps p.tables e below (T13.setTop (mkF m 12 #[.val (.ref va), .val (.int (1 : Int32)), .val (.int (3 : Int32)), .val (.int y0)] [])) tt
    refine XS.aloadN X13.here hx rfl (hb hby d3_12) rfl rfl ?_
    exact kk
  obtain ⟨T14, X14, e14, st14⟩ := getF X13 hx hZ hown (host := "") (Or.inl (hw _ (mw 18 rfl))) Via.refl e13 f12 (g := (mkF m 13 #[.val (.ref va), .val (.int (1 : Int32)), .val (.int (3 : Int32)), .val (.int y0)] [(.ref va)])) rfl rfl (hb hby d3_13)
  refine Goal.to (B := T14.setTop (mkF m 16 #[.val (.ref va), .val (.int (1 : Int32)), .val (.int (3 : Int32)), .val (.int y0)] [(.int (4 : Int32))])) st14 ?_
  refine Goal.to (B := T14.setTop (mkF m 22 #[.val (.ref va), .val (.int (1 : Int32)), .val (.int (2 : Int32)), .val (.int y0)] [(.ref va)])) (fun tt kk => ?_) ?_
  · show Steps p.tables e below (T14.setTop (mkF m 16 #[.val (.ref va), .val (.int (1 : Int32)), .val (.int (3 : Int32)), .val (.int y0)] [(.int (4 : Int32))])) tt
    refine XS.iconst X14.here hx rfl (hb hby d3_16) ?_
    show Steps p.tables e below (T14.setTop (mkF m 17 #[.val (.ref va), .val (.int (1 : Int32)), .val (.int (3 : Int32)), .val (.int y0)] [(.int (1 : Int32)), (.int (4 : Int32))])) tt
    refine XS.isub X14.here hx rfl (hb hby d3_17) rfl ?_
    show Steps p.tables e below (T14.setTop (mkF m 18 #[.val (.ref va), .val (.int (1 : Int32)), .val (.int (3 : Int32)), .val (.int y0)] [(.int (3 : Int32))])) tt
    refine XS.iloadN X14.here hx rfl (hb hby d3_18) rfl ?_
    show Steps p.tables e below (T14.setTop (mkF m 19 #[.val (.ref va), .val (.int (1 : Int32)), .val (.int (3 : Int32)), .val (.int y0)] [(.int (1 : Int32)), (.int (3 : Int32))])) tt
    refine XS.isub X14.here hx rfl (hb hby d3_19) rfl ?_
    show Steps p.tables e below (T14.setTop (mkF m 20 #[.val (.ref va), .val (.int (1 : Int32)), .val (.int (3 : Int32)), .val (.int y0)] [(.int (2 : Int32))])) tt
    refine XS.istoreN X14.here hx rfl (hb hby d3_20) rfl (l' := #[.val (.ref va), .val (.int (1 : Int32)), .val (.int (2 : Int32)), .val (.int y0)]) rfl ?_
    show Steps p.tables e below (T14.setTop (mkF m 21 #[.val (.ref va), .val (.int (1 : Int32)), .val (.int (2 : Int32)), .val (.int y0)] [])) tt
    refine XS.aloadN X14.here hx rfl (hb hby d3_21) rfl rfl ?_
    exact kk
  have f15 : Fld Z h11 va "com/example/enodia/enodia/routing/RouteBuffer" "links" "[I" (.ref vl) := (f9.other W11 (Or.inl ne_va_vl))
  obtain ⟨T16, X16, e16, st16⟩ := getF X14 hx hZ hown (host := "") (Or.inl (hw _ (mw 11 rfl))) Via.refl e14 f15 (g := (mkF m 22 #[.val (.ref va), .val (.int (1 : Int32)), .val (.int (2 : Int32)), .val (.int y0)] [(.ref va)])) rfl rfl (hb hby d3_22)
  refine Goal.to (B := T16.setTop (mkF m 25 #[.val (.ref va), .val (.int (1 : Int32)), .val (.int (2 : Int32)), .val (.int y0)] [(.ref vl)])) st16 ?_
  refine Goal.to (B := T16.setTop (mkF m 26 #[.val (.ref va), .val (.int (1 : Int32)), .val (.int (2 : Int32)), .val (.int y0)] [(.int (1 : Int32)), (.ref vl)])) (fun tt kk => ?_) ?_
  · show Steps p.tables e below (T16.setTop (mkF m 25 #[.val (.ref va), .val (.int (1 : Int32)), .val (.int (2 : Int32)), .val (.int y0)] [(.ref vl)])) tt
    refine XS.iloadN X16.here hx rfl (hb hby d3_25) rfl ?_
    exact kk
  obtain ⟨cl17, Ar17, Sl17⟩ := id V11
  have hin17 := inA (cl := cl17) Sl17 (j := (1 : Int32)) (by decide) (Nat.le_of_ble_eq_true rfl)
  have hat17 : cl17.slots[((1 : Int32)).toNatClampNeg]? = some (.int y1) := atA Sl17 rfl
  refine Goal.to (B := T16.setTop (mkF m 29 #[.val (.ref va), .val (.int (1 : Int32)), .val (.int (2 : Int32)), .val (.int y1)] [(.ref va)])) (fun tt kk => ?_) ?_
  · show Steps p.tables e below (T16.setTop (mkF m 26 #[.val (.ref va), .val (.int (1 : Int32)), .val (.int (2 : Int32)), .val (.int y0)] [(.int (1 : Int32)), (.ref vl)])) tt
    refine X16.iaload hx (j := (1 : Int32)) (v := (.int y1)) (by rw [e16]; exact Ar17.1) (State.isArrayOf_alike hZ.alike Ar17.2.1) Ar17.2.2 hin17 hat17 (g := (mkF m 26 #[.val (.ref va), .val (.int (1 : Int32)), .val (.int (2 : Int32)), .val (.int y0)] [(.int (1 : Int32)), (.ref vl)])) rfl rfl (hb hby d3_26) _ ?_
    show Steps p.tables e below (T16.setTop (mkF m 27 #[.val (.ref va), .val (.int (1 : Int32)), .val (.int (2 : Int32)), .val (.int y0)] [(.int y1)])) tt
    refine XS.istoreN X16.here hx rfl (hb hby d3_27) rfl (l' := #[.val (.ref va), .val (.int (1 : Int32)), .val (.int (2 : Int32)), .val (.int y1)]) rfl ?_
    show Steps p.tables e below (T16.setTop (mkF m 28 #[.val (.ref va), .val (.int (1 : Int32)), .val (.int (2 : Int32)), .val (.int y1)] [])) tt
    refine XS.aloadN X16.here hx rfl (hb hby d3_28) rfl rfl ?_
    exact kk
  obtain ⟨T18, X18, e18, st18⟩ := getF X16 hx hZ hown (host := "") (Or.inl (hw _ (mw 11 rfl))) Via.refl e16 f15 (g := (mkF m 29 #[.val (.ref va), .val (.int (1 : Int32)), .val (.int (2 : Int32)), .val (.int y1)] [(.ref va)])) rfl rfl (hb hby d3_29)
  refine Goal.to (B := T18.setTop (mkF m 32 #[.val (.ref va), .val (.int (1 : Int32)), .val (.int (2 : Int32)), .val (.int y1)] [(.ref vl)])) st18 ?_
  refine Goal.to (B := T18.setTop (mkF m 34 #[.val (.ref va), .val (.int (1 : Int32)), .val (.int (2 : Int32)), .val (.int y1)] [(.ref va), (.int (1 : Int32)), (.ref vl)])) (fun tt kk => ?_) ?_
  · show Steps p.tables e below (T18.setTop (mkF m 32 #[.val (.ref va), .val (.int (1 : Int32)), .val (.int (2 : Int32)), .val (.int y1)] [(.ref vl)])) tt
    refine XS.iloadN X18.here hx rfl (hb hby d3_32) rfl ?_
    show Steps p.tables e below (T18.setTop (mkF m 33 #[.val (.ref va), .val (.int (1 : Int32)), .val (.int (2 : Int32)), .val (.int y1)] [(.int (1 : Int32)), (.ref vl)])) tt
    refine XS.aloadN X18.here hx rfl (hb hby d3_33) rfl rfl ?_
    exact kk
  obtain ⟨T19, X19, e19, st19⟩ := getF X18 hx hZ hown (host := "") (Or.inl (hw _ (mw 11 rfl))) Via.refl e18 f15 (g := (mkF m 34 #[.val (.ref va), .val (.int (1 : Int32)), .val (.int (2 : Int32)), .val (.int y1)] [(.ref va), (.int (1 : Int32)), (.ref vl)])) rfl rfl (hb hby d3_34)
  refine Goal.to (B := T19.setTop (mkF m 37 #[.val (.ref va), .val (.int (1 : Int32)), .val (.int (2 : Int32)), .val (.int y1)] [(.ref vl), (.int (1 : Int32)), (.ref vl)])) st19 ?_
  refine Goal.to (B := T19.setTop (mkF m 38 #[.val (.ref va), .val (.int (1 : Int32)), .val (.int (2 : Int32)), .val (.int y1)] [(.int (2 : Int32)), (.ref vl), (.int (1 : Int32)), (.ref vl)])) (fun tt kk => ?_) ?_
  · show Steps p.tables e below (T19.setTop (mkF m 37 #[.val (.ref va), .val (.int (1 : Int32)), .val (.int (2 : Int32)), .val (.int y1)] [(.ref vl), (.int (1 : Int32)), (.ref vl)])) tt
    refine XS.iloadN X19.here hx rfl (hb hby d3_37) rfl ?_
    exact kk
  obtain ⟨cl20, Ar20, Sl20⟩ := id V11
  have hin20 := inA (cl := cl20) Sl20 (j := (2 : Int32)) (by decide) (Nat.le_of_ble_eq_true rfl)
  have hat20 : cl20.slots[((2 : Int32)).toNatClampNeg]? = some (.int y2) := atA Sl20 rfl
  refine Goal.to (B := T19.setTop (mkF m 39 #[.val (.ref va), .val (.int (1 : Int32)), .val (.int (2 : Int32)), .val (.int y1)] [(.int y2), (.int (1 : Int32)), (.ref vl)])) (fun tt kk => ?_) ?_
  · show Steps p.tables e below (T19.setTop (mkF m 38 #[.val (.ref va), .val (.int (1 : Int32)), .val (.int (2 : Int32)), .val (.int y1)] [(.int (2 : Int32)), (.ref vl), (.int (1 : Int32)), (.ref vl)])) tt
    refine X19.iaload hx (j := (2 : Int32)) (v := (.int y2)) (by rw [e19]; exact Ar20.1) (State.isArrayOf_alike hZ.alike Ar20.2.1) Ar20.2.2 hin20 hat20 (g := (mkF m 38 #[.val (.ref va), .val (.int (1 : Int32)), .val (.int (2 : Int32)), .val (.int y1)] [(.int (2 : Int32)), (.ref vl), (.int (1 : Int32)), (.ref vl)])) rfl rfl (hb hby d3_38) _ ?_
    exact kk
  obtain ⟨cl21, Ar21, Sl21⟩ := id V11
  have hin21 := inA (cl := cl21) Sl21 (j := (1 : Int32)) (by decide) (Nat.le_of_ble_eq_true rfl)
  obtain ⟨T21, h21, X21, e21, W21, st21⟩ := stI X19 hx hZ e19 Ar21 (j := (1 : Int32)) hin21 (g := (mkF m 39 #[.val (.ref va), .val (.int (1 : Int32)), .val (.int (2 : Int32)), .val (.int y1)] [(.int y2), (.int (1 : Int32)), (.ref vl)])) rfl rfl (hb hby d3_39)
  have V21 : Ary Z h21 vl .int [(.int y3), (.int y2), (.int y2), (.int y0), (.int (0 : Int32)), (.int (0 : Int32)), (.int (0 : Int32)), (.int (0 : Int32)), (.int (0 : Int32)), (.int (0 : Int32)), (.int (0 : Int32)), (.int (0 : Int32)), (.int (0 : Int32)), (.int (0 : Int32)), (.int (0 : Int32)), (.int (0 : Int32))] := Ary.put Ar21 Sl21 W21 rfl
  have N21 := Fr.snoc X21 N11 g_vl
  refine Goal.to (B := T21.setTop (mkF m 40 #[.val (.ref va), .val (.int (1 : Int32)), .val (.int (2 : Int32)), .val (.int y1)] [])) st21 ?_
  refine Goal.to (B := T21.setTop (mkF m 41 #[.val (.ref va), .val (.int (1 : Int32)), .val (.int (2 : Int32)), .val (.int y1)] [(.ref va)])) (fun tt kk => ?_) ?_
  · show Steps p.tables e below (T21.setTop (mkF m 40 #[.val (.ref va), .val (.int (1 : Int32)), .val (.int (2 : Int32)), .val (.int y1)] [])) tt
    refine XS.aloadN X21.here hx rfl (hb hby d3_40) rfl rfl ?_
    exact kk
  have f22 : Fld Z h21 va "com/example/enodia/enodia/routing/RouteBuffer" "links" "[I" (.ref vl) := (f15.other W21 (Or.inl ne_va_vl))
  obtain ⟨T23, X23, e23, st23⟩ := getF X21 hx hZ hown (host := "") (Or.inl (hw _ (mw 11 rfl))) Via.refl e21 f22 (g := (mkF m 41 #[.val (.ref va), .val (.int (1 : Int32)), .val (.int (2 : Int32)), .val (.int y1)] [(.ref va)])) rfl rfl (hb hby d3_41)
  refine Goal.to (B := T23.setTop (mkF m 44 #[.val (.ref va), .val (.int (1 : Int32)), .val (.int (2 : Int32)), .val (.int y1)] [(.ref vl)])) st23 ?_
  refine Goal.to (B := T23.setTop (mkF m 46 #[.val (.ref va), .val (.int (1 : Int32)), .val (.int (2 : Int32)), .val (.int y1)] [(.int y1), (.int (2 : Int32)), (.ref vl)])) (fun tt kk => ?_) ?_
  · show Steps p.tables e below (T23.setTop (mkF m 44 #[.val (.ref va), .val (.int (1 : Int32)), .val (.int (2 : Int32)), .val (.int y1)] [(.ref vl)])) tt
    refine XS.iloadN X23.here hx rfl (hb hby d3_44) rfl ?_
    show Steps p.tables e below (T23.setTop (mkF m 45 #[.val (.ref va), .val (.int (1 : Int32)), .val (.int (2 : Int32)), .val (.int y1)] [(.int (2 : Int32)), (.ref vl)])) tt
    refine XS.iloadN X23.here hx rfl (hb hby d3_45) rfl ?_
    exact kk
  obtain ⟨cl24, Ar24, Sl24⟩ := id V21
  have hin24 := inA (cl := cl24) Sl24 (j := (2 : Int32)) (by decide) (Nat.le_of_ble_eq_true rfl)
  obtain ⟨T24, h24, X24, e24, W24, st24⟩ := stI X23 hx hZ e23 Ar24 (j := (2 : Int32)) hin24 (g := (mkF m 46 #[.val (.ref va), .val (.int (1 : Int32)), .val (.int (2 : Int32)), .val (.int y1)] [(.int y1), (.int (2 : Int32)), (.ref vl)])) rfl rfl (hb hby d3_46)
  have V24 : Ary Z h24 vl .int [(.int y3), (.int y2), (.int y1), (.int y0), (.int (0 : Int32)), (.int (0 : Int32)), (.int (0 : Int32)), (.int (0 : Int32)), (.int (0 : Int32)), (.int (0 : Int32)), (.int (0 : Int32)), (.int (0 : Int32)), (.int (0 : Int32)), (.int (0 : Int32)), (.int (0 : Int32)), (.int (0 : Int32))] := Ary.put Ar24 Sl24 W24 rfl
  have N24 := Fr.snoc X24 N21 g_vl
  refine Goal.to (B := T24.setTop (mkF m 47 #[.val (.ref va), .val (.int (1 : Int32)), .val (.int (2 : Int32)), .val (.int y1)] [])) st24 ?_
  refine Goal.to (B := T24.setTop (mkF m 4 #[.val (.ref va), .val (.int (2 : Int32)), .val (.int (2 : Int32)), .val (.int y1)] [(.ref va), (.int (2 : Int32))])) (fun tt kk => ?_) ?_
  · show Steps p.tables e below (T24.setTop (mkF m 47 #[.val (.ref va), .val (.int (1 : Int32)), .val (.int (2 : Int32)), .val (.int y1)] [])) tt
    refine XS.iinc X24.here hx rfl (hb hby d3_47) rfl (l' := #[.val (.ref va), .val (.int (2 : Int32)), .val (.int (2 : Int32)), .val (.int y1)]) rfl ?_
    show Steps p.tables e below (T24.setTop (mkF m 50 #[.val (.ref va), .val (.int (2 : Int32)), .val (.int (2 : Int32)), .val (.int y1)] [])) tt
    refine XS.goto X24.here hx rfl (pc0 := 50) (pc' := 2) rfl (hb hby d3_50) (by decide) (by decide) ?_
    show Steps p.tables e below (T24.setTop (mkF m 2 #[.val (.ref va), .val (.int (2 : Int32)), .val (.int (2 : Int32)), .val (.int y1)] [])) tt
    refine XS.iloadN X24.here hx rfl (hb hby d3_2) rfl ?_
    show Steps p.tables e below (T24.setTop (mkF m 3 #[.val (.ref va), .val (.int (2 : Int32)), .val (.int (2 : Int32)), .val (.int y1)] [(.int (2 : Int32))])) tt
    refine XS.aloadN X24.here hx rfl (hb hby d3_3) rfl rfl ?_
    exact kk
  have f25 : Fld Z h24 va "com/example/enodia/enodia/routing/RouteBuffer" "linkCount" "I" (.int (4 : Int32)) := ((f12.other W21 (Or.inl ne_va_vl)).other W24 (Or.inl ne_va_vl))
  obtain ⟨T26, X26, e26, st26⟩ := getF X24 hx hZ hown (host := "") (Or.inl (hw _ (mw 18 rfl))) Via.refl e24 f25 (g := (mkF m 4 #[.val (.ref va), .val (.int (2 : Int32)), .val (.int (2 : Int32)), .val (.int y1)] [(.ref va), (.int (2 : Int32))])) rfl rfl (hb hby d3_4)
  refine Goal.to (B := T26.setTop (mkF m 7 #[.val (.ref va), .val (.int (2 : Int32)), .val (.int (2 : Int32)), .val (.int y1)] [(.int (4 : Int32)), (.int (2 : Int32))])) st26 ?_
  refine Goal.to (B := T26.setTop (mkF m 53 #[.val (.ref va), .val (.int (2 : Int32)), .val (.int (2 : Int32)), .val (.int y1)] [])) (fun tt kk => ?_) ?_
  · show Steps p.tables e below (T26.setTop (mkF m 7 #[.val (.ref va), .val (.int (2 : Int32)), .val (.int (2 : Int32)), .val (.int y1)] [(.int (4 : Int32)), (.int (2 : Int32))])) tt
    refine XS.iconst X26.here hx rfl (hb hby d3_7) ?_
    show Steps p.tables e below (T26.setTop (mkF m 8 #[.val (.ref va), .val (.int (2 : Int32)), .val (.int (2 : Int32)), .val (.int y1)] [(.int (2 : Int32)), (.int (4 : Int32)), (.int (2 : Int32))])) tt
    refine XS.idiv X26.here hx rfl (hb hby d3_8) rfl (by decide) ?_
    show Steps p.tables e below (T26.setTop (mkF m 9 #[.val (.ref va), .val (.int (2 : Int32)), .val (.int (2 : Int32)), .val (.int y1)] [(.int (2 : Int32)), (.int (2 : Int32))])) tt
    refine XS.icmpYes X26.here hx rfl (pc0 := 9) (pc' := 53) rfl (hb hby d3_9) rfl (flt (Int32.lt_irrefl : ¬ ((2 : Int32) < (2 : Int32)))).2.1 (by decide) (by decide) ?_
    exact kk
  have f27 : Keep h0 h24 [vl] := (((((Keep.refl h0 [vl]).wr W8 (Or.inl (List.mem_of_getElem? (i := 0) rfl))).wr W11 (Or.inl (List.mem_of_getElem? (i := 0) rfl))).wr W21 (Or.inl (List.mem_of_getElem? (i := 0) rfl))).wr W24 (Or.inl (List.mem_of_getElem? (i := 0) rfl)))
  exact Goal.retN X26 hx Bd.returns (hb hby d3_53) hlk e26 ⟨rfl, N24, f27, V24⟩ (by decide) (by decide)
theorem ef_4 (m : MethodId) (x0 : Addr)  : entryFrame m #[(.ref x0)] 1 = mkF m 0 #[.val (.ref x0)] [] := by first | (simp [entryFrame, mkF, argsToLocals, Value.category]; done) | rfl
theorem pn_4 : plainName "com/example/enodia/enodia/routing/RouteBuffer" = true := by first | (simp [plainName, overriddenIn]; done) | decide +kernel
theorem d4_0 : decode prog_66_method_2_code 0 = .ok (.aload_n 0, 1) := by decide +kernel
theorem d4_1 : decode prog_66_method_2_code 1 = .ok (.getfield 13, 3) := by decide +kernel
theorem d4_4 : decode prog_66_method_2_code 4 = .ok (.ireturn, 1) := by decide +kernel
def QC (Z : State) (va : Addr) (u0 : Int32) (h0 : Heap) (n0 : Nat) (v : Option Value) (h : Heap) (L : List Loc) : Prop := v = some (.int u0) ∧ Fr n0 L ∧ h = h0
set_option maxRecDepth 65536 in
set_option maxHeartbeats 40000000 in
theorem rmC (l : Launch) (Z : State) (a0 : Array Value) (hw : ∀ d ∈ tables_1, d.before a0 Z = true) (ws : List Jvm.Cond) (va : Addr) (u0 : Int32) (h0 : Heap) (n0 : Nat) (Z0 : n0 ≤ h0.size) (F_linkCount_va : Fld Z h0 va "com/example/enodia/enodia/routing/RouteBuffer" "linkCount" "I" (.int u0)) :
    MetFree l (⟨"com/example/enodia/enodia/routing/RouteBuffer", "getLinkCount", "()I"⟩ : MethodName) (head1 (Jvm.Cond.code (⟨"com/example/enodia/enodia/routing/RouteBuffer", "getLinkCount", "()I"⟩ : MethodName) prog_66_method_2_code 1 (some .int) :: ws) ({ frames := 0, cells := 0, slots := 0, locals := 0 } : Room)) (fun a U => a = #[(.ref va)] ∧ Z.Warmed39 U.vm ∧ U.heap = h0) (fun _ _ _ _ _ => True) (fun _ U o U' => ∃ v L, o = .returned v ∧ QC Z va u0 h0 n0 v U'.heap L ∧ FrameEnd U o U' L 0 0) := by
  refine MetFree.of_bodySF (plainFor_of_name pn_4) hisR ?_
  intro p e s m args below meth c s₁ Bd hml0 hP hK
  obtain ⟨rfl, hZ, hh⟩ := hP
  have hx := Bd.exec
  have hby := Bd.bytes
  have hml : c.maxLocals = 1 := hml0
  have hown : s.vm.findClass "com/example/enodia/enodia/routing/RouteBuffer" = some m.cls := findClass_of_methodNamed Bd.named
  have hnm := (name_of_methodNamed Bd.named Bd.method).1
  have X0 : Stand p l e ({ frames := 0, cells := 0, slots := 0, locals := 0 } : Room) s m #[(.ref va)] below meth c s₁ [] 0 0 := Stand.of_body Bd
  have e0 : s₁.heap = h0 := by rw [← hh, Bd.state]; rfl
  have N0 := Fr.nil n0
  have hlk : meth.locks = false := BodyLoose.notSynchronized Bd
  show Goal p e below s (QC Z va u0 h0 n0) 0 0 (s₁.setTop (entryFrame m #[(.ref va)] 1))
  refine Goal.to (B := s₁.setTop (mkF m 0 #[.val (.ref va)] [])) (fun tt kk => castTop (ef_4 m va ) kk) ?_
  refine Goal.to (B := s₁.setTop (mkF m 1 #[.val (.ref va)] [(.ref va)])) (fun tt kk => ?_) ?_
  · show Steps p.tables e below (s₁.setTop (mkF m 0 #[.val (.ref va)] [])) tt
    refine XS.aloadN X0.here hx rfl (hb hby d4_0) rfl rfl ?_
    exact kk
  obtain ⟨T1, X1, e1, st1⟩ := getF X0 hx hZ hown (host := "") (Or.inl (hw _ (mw 18 rfl))) Via.refl e0 F_linkCount_va (g := (mkF m 1 #[.val (.ref va)] [(.ref va)])) rfl rfl (hb hby d4_1)
  refine Goal.to (B := T1.setTop (mkF m 4 #[.val (.ref va)] [(.int u0)])) st1 ?_
  exact Goal.retV X1 hx Bd.returns rfl (Or.inl ⟨rfl, Or.inl rfl, _, rfl⟩) (hb hby d4_4) hlk e1 ⟨rfl, N0, rfl⟩ (by decide) (by decide)
theorem ef_7 (m : MethodId) (x0 : Addr) (x1 : Int32)  : entryFrame m #[(.ref x0), (.int x1)] 2 = mkF m 0 #[.val (.ref x0), .val (.int x1)] [] := by first | (simp [entryFrame, mkF, argsToLocals, Value.category]; done) | rfl
theorem pn_7 : plainName "com/example/enodia/enodia/routing/RouteBuffer" = true := by first | (simp [plainName, overriddenIn]; done) | decide +kernel
theorem d7_0 : decode prog_66_method_3_code 0 = .ok (.iload_n 1, 1) := by decide +kernel
theorem d7_1 : decode prog_66_method_3_code 1 = .ok (.ifCond .lt 11, 3) := by decide +kernel
theorem d7_4 : decode prog_66_method_3_code 4 = .ok (.iload_n 1, 1) := by decide +kernel
theorem d7_5 : decode prog_66_method_3_code 5 = .ok (.aload_n 0, 1) := by decide +kernel
theorem d7_6 : decode prog_66_method_3_code 6 = .ok (.getfield 13, 3) := by decide +kernel
theorem d7_9 : decode prog_66_method_3_code 9 = .ok (.if_icmp .lt 21, 3) := by decide +kernel
theorem d7_30 : decode prog_66_method_3_code 30 = .ok (.aload_n 0, 1) := by decide +kernel
theorem d7_31 : decode prog_66_method_3_code 31 = .ok (.getfield 7, 3) := by decide +kernel
theorem d7_34 : decode prog_66_method_3_code 34 = .ok (.iload_n 1, 1) := by decide +kernel
theorem d7_35 : decode prog_66_method_3_code 35 = .ok (.iaload, 1) := by decide +kernel
theorem d7_36 : decode prog_66_method_3_code 36 = .ok (.ireturn, 1) := by decide +kernel
def QG1_0 (Z : State) (va : Addr) (vl : Addr) (y0 : Int32) (h0 : Heap) (n0 : Nat) (v : Option Value) (h : Heap) (L : List Loc) : Prop := v = some (.int y0) ∧ Fr n0 L ∧ h = h0
set_option maxRecDepth 65536 in
set_option maxHeartbeats 40000000 in
theorem rmG1_0 (l : Launch) (Z : State) (a0 : Array Value) (hw : ∀ d ∈ tables_1, d.before a0 Z = true) (ws : List Jvm.Cond) (va : Addr) (vl : Addr) (y0 : Int32) (h0 : Heap) (n0 : Nat) (Z0 : n0 ≤ h0.size) (F_linkCount_va : Fld Z h0 va "com/example/enodia/enodia/routing/RouteBuffer" "linkCount" "I" (.int (1 : Int32))) (F_links_va : Fld Z h0 va "com/example/enodia/enodia/routing/RouteBuffer" "links" "[I" (.ref vl)) (V_vl : Ary Z h0 vl .int [(.int y0), (.int (0 : Int32)), (.int (0 : Int32)), (.int (0 : Int32)), (.int (0 : Int32)), (.int (0 : Int32)), (.int (0 : Int32)), (.int (0 : Int32)), (.int (0 : Int32)), (.int (0 : Int32)), (.int (0 : Int32)), (.int (0 : Int32)), (.int (0 : Int32)), (.int (0 : Int32)), (.int (0 : Int32)), (.int (0 : Int32))]) :
    MetFree l (⟨"com/example/enodia/enodia/routing/RouteBuffer", "getLink", "(I)I"⟩ : MethodName) (head1 (Jvm.Cond.code (⟨"com/example/enodia/enodia/routing/RouteBuffer", "getLink", "(I)I"⟩ : MethodName) prog_66_method_3_code 2 (some .int) :: ws) ({ frames := 0, cells := 0, slots := 0, locals := 0 } : Room)) (fun a U => a = #[(.ref va), (.int (0 : Int32))] ∧ Z.Warmed39 U.vm ∧ U.heap = h0) (fun _ _ _ _ _ => True) (fun _ U o U' => ∃ v L, o = .returned v ∧ QG1_0 Z va vl y0 h0 n0 v U'.heap L ∧ FrameEnd U o U' L 0 0) := by
  refine MetFree.of_bodySF (plainFor_of_name pn_7) hisR ?_
  intro p e s m args below meth c s₁ Bd hml0 hP hK
  obtain ⟨rfl, hZ, hh⟩ := hP
  have hx := Bd.exec
  have hby := Bd.bytes
  have hml : c.maxLocals = 2 := hml0
  have hown : s.vm.findClass "com/example/enodia/enodia/routing/RouteBuffer" = some m.cls := findClass_of_methodNamed Bd.named
  have hnm := (name_of_methodNamed Bd.named Bd.method).1
  have X0 : Stand p l e ({ frames := 0, cells := 0, slots := 0, locals := 0 } : Room) s m #[(.ref va), (.int (0 : Int32))] below meth c s₁ [] 0 0 := Stand.of_body Bd
  have e0 : s₁.heap = h0 := by rw [← hh, Bd.state]; rfl
  have N0 := Fr.nil n0
  have hlk : meth.locks = false := BodyLoose.notSynchronized Bd
  show Goal p e below s (QG1_0 Z va vl y0 h0 n0) 0 0 (s₁.setTop (entryFrame m #[(.ref va), (.int (0 : Int32))] 2))
  refine Goal.to (B := s₁.setTop (mkF m 0 #[.val (.ref va), .val (.int (0 : Int32))] [])) (fun tt kk => castTop (ef_7 m va (0 : Int32) ) kk) ?_
  refine Goal.to (B := s₁.setTop (mkF m 6 #[.val (.ref va), .val (.int (0 : Int32))] [(.ref va), (.int (0 : Int32))])) (fun tt kk => ?_) ?_
  · show Steps p.tables e below (s₁.setTop (mkF m 0 #[.val (.ref va), .val (.int (0 : Int32))] [])) tt
    refine XS.iloadN X0.here hx rfl (hb hby d7_0) rfl ?_
    show Steps p.tables e below (s₁.setTop (mkF m 1 #[.val (.ref va), .val (.int (0 : Int32))] [(.int (0 : Int32))])) tt
    refine XS.ifNo X0.here hx rfl (hb hby d7_1) rfl ((if0 _ _).trans (flt (Int32.lt_irrefl : ¬ ((0 : Int32) < (0 : Int32)))).1) ?_
    show Steps p.tables e below (s₁.setTop (mkF m 4 #[.val (.ref va), .val (.int (0 : Int32))] [])) tt
    refine XS.iloadN X0.here hx rfl (hb hby d7_4) rfl ?_
    show Steps p.tables e below (s₁.setTop (mkF m 5 #[.val (.ref va), .val (.int (0 : Int32))] [(.int (0 : Int32))])) tt
    refine XS.aloadN X0.here hx rfl (hb hby d7_5) rfl rfl ?_
    exact kk
  obtain ⟨T1, X1, e1, st1⟩ := getF X0 hx hZ hown (host := "") (Or.inl (hw _ (mw 18 rfl))) Via.refl e0 F_linkCount_va (g := (mkF m 6 #[.val (.ref va), .val (.int (0 : Int32))] [(.ref va), (.int (0 : Int32))])) rfl rfl (hb hby d7_6)
  refine Goal.to (B := T1.setTop (mkF m 9 #[.val (.ref va), .val (.int (0 : Int32))] [(.int (1 : Int32)), (.int (0 : Int32))])) st1 ?_
  refine Goal.to (B := T1.setTop (mkF m 31 #[.val (.ref va), .val (.int (0 : Int32))] [(.ref va)])) (fun tt kk => ?_) ?_
  · show Steps p.tables e below (T1.setTop (mkF m 9 #[.val (.ref va), .val (.int (0 : Int32))] [(.int (1 : Int32)), (.int (0 : Int32))])) tt
    refine XS.icmpYes X1.here hx rfl (pc0 := 9) (pc' := 30) rfl (hb hby d7_9) rfl (tlt ((by decide) : (0 : Int32) < (1 : Int32))).1 (by decide) (by decide) ?_
    show Steps p.tables e below (T1.setTop (mkF m 30 #[.val (.ref va), .val (.int (0 : Int32))] [])) tt
    refine XS.aloadN X1.here hx rfl (hb hby d7_30) rfl rfl ?_
    exact kk
  obtain ⟨T2, X2, e2, st2⟩ := getF X1 hx hZ hown (host := "") (Or.inl (hw _ (mw 11 rfl))) Via.refl e1 F_links_va (g := (mkF m 31 #[.val (.ref va), .val (.int (0 : Int32))] [(.ref va)])) rfl rfl (hb hby d7_31)
  refine Goal.to (B := T2.setTop (mkF m 34 #[.val (.ref va), .val (.int (0 : Int32))] [(.ref vl)])) st2 ?_
  refine Goal.to (B := T2.setTop (mkF m 35 #[.val (.ref va), .val (.int (0 : Int32))] [(.int (0 : Int32)), (.ref vl)])) (fun tt kk => ?_) ?_
  · show Steps p.tables e below (T2.setTop (mkF m 34 #[.val (.ref va), .val (.int (0 : Int32))] [(.ref vl)])) tt
    refine XS.iloadN X2.here hx rfl (hb hby d7_34) rfl ?_
    exact kk
  obtain ⟨cl3, Ar3, Sl3⟩ := id V_vl
  have hin3 := inA (cl := cl3) Sl3 (j := (0 : Int32)) (by decide) (Nat.le_of_ble_eq_true rfl)
  have hat3 : cl3.slots[((0 : Int32)).toNatClampNeg]? = some (.int y0) := atA Sl3 rfl
  refine Goal.to (B := T2.setTop (mkF m 36 #[.val (.ref va), .val (.int (0 : Int32))] [(.int y0)])) (fun tt kk => ?_) ?_
  · show Steps p.tables e below (T2.setTop (mkF m 35 #[.val (.ref va), .val (.int (0 : Int32))] [(.int (0 : Int32)), (.ref vl)])) tt
    refine X2.iaload hx (j := (0 : Int32)) (v := (.int y0)) (by rw [e2]; exact Ar3.1) (State.isArrayOf_alike hZ.alike Ar3.2.1) Ar3.2.2 hin3 hat3 (g := (mkF m 35 #[.val (.ref va), .val (.int (0 : Int32))] [(.int (0 : Int32)), (.ref vl)])) rfl rfl (hb hby d7_35) _ ?_
    exact kk
  exact Goal.retV X2 hx Bd.returns rfl (Or.inl ⟨rfl, Or.inl rfl, _, rfl⟩) (hb hby d7_36) hlk e2 ⟨rfl, N0, rfl⟩ (by decide) (by decide)
theorem ef_5 (m : MethodId) (x0 : Addr) (x1 : Addr) (x2 : Int32) (x3 : Int32)  : entryFrame m #[(.ref x0), (.ref x1), (.int x2), (.int x3)] 4 = mkF m 0 #[.val (.ref x0), .val (.ref x1), .val (.int x2), .val (.int x3)] [] := by first | (simp [entryFrame, mkF, argsToLocals, Value.category]; done) | rfl
theorem pn_5 : plainName "com/example/enodia/enodia/routing/RouteBufferReversePinLaw" = true := by first | (simp [plainName, overriddenIn]; done) | decide +kernel
theorem d5_0 : decode method_2_code 0 = .ok (.iload_n 3, 1) := by decide +kernel
theorem d5_1 : decode method_2_code 1 = .ok (.iload_n 2, 1) := by decide +kernel
theorem d5_2 : decode method_2_code 2 = .ok (.if_icmp .lt 5, 3) := by decide +kernel
theorem d5_7 : decode method_2_code 7 = .ok (.aload_n 0, 1) := by decide +kernel
theorem d5_8 : decode method_2_code 8 = .ok (.iload_n 3, 1) := by decide +kernel
theorem pd_4 : parseMethodDescriptor "(I)I" = some ⟨[.int], some .int⟩ := by decide +kernel
theorem d5_9 : decode method_2_code 9 = .ok (.invokevirtual 7, 3) := by decide +kernel
theorem d5_12 : decode method_2_code 12 = .ok (.aload_n 1, 1) := by decide +kernel
theorem d5_13 : decode method_2_code 13 = .ok (.iload_n 2, 1) := by decide +kernel
theorem d5_14 : decode method_2_code 14 = .ok (.iconst 1, 1) := by decide +kernel
theorem d5_15 : decode method_2_code 15 = .ok (.isub, 1) := by decide +kernel
theorem d5_16 : decode method_2_code 16 = .ok (.iload_n 3, 1) := by decide +kernel
theorem d5_17 : decode method_2_code 17 = .ok (.isub, 1) := by decide +kernel
theorem d5_18 : decode method_2_code 18 = .ok (.iaload, 1) := by decide +kernel
theorem d5_19 : decode method_2_code 19 = .ok (.if_icmp .ne 7, 3) := by decide +kernel
theorem d5_22 : decode method_2_code 22 = .ok (.iconst 1, 1) := by decide +kernel
theorem d5_23 : decode method_2_code 23 = .ok (.goto 4, 3) := by decide +kernel
theorem d5_27 : decode method_2_code 27 = .ok (.ireturn, 1) := by decide +kernel
def QT1_0 (Z : State) (va : Addr) (vl : Addr) (vt : Addr) (y0 : Int32) (z1 : Int32) (z2 : Int32) (z3 : Int32) (h0 : Heap) (n0 : Nat) (v : Option Value) (h : Heap) (L : List Loc) : Prop := v = some (.int (1 : Int32)) ∧ Fr n0 L ∧ h = h0
set_option maxRecDepth 65536 in
set_option maxHeartbeats 40000000 in
theorem rmT1_0 (l : Launch) (Z : State) (a0 : Array Value) (hw : ∀ d ∈ tables_1, d.before a0 Z = true) (ws : List Jvm.Cond) (va : Addr) (vl : Addr) (vt : Addr) (y0 : Int32) (z1 : Int32) (z2 : Int32) (z3 : Int32) (h0 : Heap) (n0 : Nat) (Z0 : n0 ≤ h0.size) (E_va : Exa Z h0 va "com/example/enodia/enodia/routing/RouteBuffer") (F_linkCount_va : Fld Z h0 va "com/example/enodia/enodia/routing/RouteBuffer" "linkCount" "I" (.int (1 : Int32))) (F_links_va : Fld Z h0 va "com/example/enodia/enodia/routing/RouteBuffer" "links" "[I" (.ref vl)) (V_vl : Ary Z h0 vl .int [(.int y0), (.int (0 : Int32)), (.int (0 : Int32)), (.int (0 : Int32)), (.int (0 : Int32)), (.int (0 : Int32)), (.int (0 : Int32)), (.int (0 : Int32)), (.int (0 : Int32)), (.int (0 : Int32)), (.int (0 : Int32)), (.int (0 : Int32)), (.int (0 : Int32)), (.int (0 : Int32)), (.int (0 : Int32)), (.int (0 : Int32))]) (V_vt : Ary Z h0 vt .int [(.int y0), (.int z1), (.int z2), (.int z3)]) :
    MetFree l (⟨"com/example/enodia/enodia/routing/RouteBufferReversePinLaw", "at", "(Lcom/example/enodia/enodia/routing/RouteBuffer;[III)Z"⟩ : MethodName) (head1 (Jvm.Cond.code (⟨"com/example/enodia/enodia/routing/RouteBufferReversePinLaw", "at", "(Lcom/example/enodia/enodia/routing/RouteBuffer;[III)Z"⟩ : MethodName) method_2_code 4 (some .boolean) :: ws) ({ frames := 1, cells := 0, slots := 0, locals := 13 } : Room)) (fun a U => a = #[(.ref va), (.ref vt), (.int (1 : Int32)), (.int (0 : Int32))] ∧ Z.Warmed39 U.vm ∧ U.heap = h0) (fun _ _ _ _ _ => True) (fun _ U o U' => ∃ v L, o = .returned v ∧ QT1_0 Z va vl vt y0 z1 z2 z3 h0 n0 v U'.heap L ∧ FrameEnd U o U' L 0 0) := by
  refine MetFree.of_bodySF (plainFor_of_name pn_5) hisR ?_
  intro p e s m args below meth c s₁ Bd hml0 hP hK
  obtain ⟨rfl, hZ, hh⟩ := hP
  have hx := Bd.exec
  have hby := Bd.bytes
  have hml : c.maxLocals = 4 := hml0
  have hown : s.vm.findClass "com/example/enodia/enodia/routing/RouteBufferReversePinLaw" = some m.cls := findClass_of_methodNamed Bd.named
  have hnm := (name_of_methodNamed Bd.named Bd.method).1
  have X0 : Stand p l e ({ frames := 1, cells := 0, slots := 0, locals := 13 } : Room) s m #[(.ref va), (.ref vt), (.int (1 : Int32)), (.int (0 : Int32))] below meth c s₁ [] 0 0 := Stand.of_body Bd
  have e0 : s₁.heap = h0 := by rw [← hh, Bd.state]; rfl
  have N0 := Fr.nil n0
  have hlk : meth.locks = false := BodyLoose.notSynchronized Bd
  show Goal p e below s (QT1_0 Z va vl vt y0 z1 z2 z3 h0 n0) 0 0 (s₁.setTop (entryFrame m #[(.ref va), (.ref vt), (.int (1 : Int32)), (.int (0 : Int32))] 4))
  refine Goal.to (B := s₁.setTop (mkF m 0 #[.val (.ref va), .val (.ref vt), .val (.int (1 : Int32)), .val (.int (0 : Int32))] [])) (fun tt kk => castTop (ef_5 m va vt (1 : Int32) (0 : Int32) ) kk) ?_
  refine Goal.to (B := s₁.setTop (mkF m 9 #[.val (.ref va), .val (.ref vt), .val (.int (1 : Int32)), .val (.int (0 : Int32))] [(.int (0 : Int32)), (.ref va)])) (fun tt kk => ?_) ?_
  · show Steps p.tables e below (s₁.setTop (mkF m 0 #[.val (.ref va), .val (.ref vt), .val (.int (1 : Int32)), .val (.int (0 : Int32))] [])) tt
    refine XS.iloadN X0.here hx rfl (hb hby d5_0) rfl ?_
    show Steps p.tables e below (s₁.setTop (mkF m 1 #[.val (.ref va), .val (.ref vt), .val (.int (1 : Int32)), .val (.int (0 : Int32))] [(.int (0 : Int32))])) tt
    refine XS.iloadN X0.here hx rfl (hb hby d5_1) rfl ?_
    show Steps p.tables e below (s₁.setTop (mkF m 2 #[.val (.ref va), .val (.ref vt), .val (.int (1 : Int32)), .val (.int (0 : Int32))] [(.int (1 : Int32)), (.int (0 : Int32))])) tt
    refine XS.icmpYes X0.here hx rfl (pc0 := 2) (pc' := 7) rfl (hb hby d5_2) rfl (tlt ((by decide) : (0 : Int32) < (1 : Int32))).1 (by decide) (by decide) ?_
    show Steps p.tables e below (s₁.setTop (mkF m 7 #[.val (.ref va), .val (.ref vt), .val (.int (1 : Int32)), .val (.int (0 : Int32))] [])) tt
    refine XS.aloadN X0.here hx rfl (hb hby d5_7) rfl rfl ?_
    show Steps p.tables e below (s₁.setTop (mkF m 8 #[.val (.ref va), .val (.ref vt), .val (.int (1 : Int32)), .val (.int (0 : Int32))] [(.ref va)])) tt
    refine XS.iloadN X0.here hx rfl (hb hby d5_8) rfl ?_
    exact kk
  obtain ⟨cq1, kq1, q1a, q1b, q1c⟩ := isOf hZ e0 E_va
  obtain ⟨_, _, ⟨T1, L1, k1, n1⟩, -, X1, ⟨Lc1, hQ1, l1, y1, z1⟩, st1⟩ := X0.virtualBack hx (y := (⟨"com/example/enodia/enodia/routing/RouteBuffer", "getLink", "(I)I"⟩ : MethodName)) (z := (⟨"com/example/enodia/enodia/routing/RouteBuffer", "getLink", "(I)I"⟩ : MethodName)) hown (mvT hZ (hw _ (mw 34 rfl))) (mvT hZ (hw _ (mw 35 rfl))) (notFace_of_selects (args := #[]) (mvT hZ (hw _ (mw 37 rfl)))) (mvT hZ (hw _ (mw 37 rfl))) (mvT hZ (hw _ (mw 36 rfl))) (by decide) (backOf (W := 0) (rmG1_0 l Z a0 hw [] va vl y0 h0 n0 Z0 F_linkCount_va F_links_va V_vl) hZ (hw _ (mw 38 rfl)) (hw _ (mw 4 rfl)) (by decide) (by decide)) q1a q1c (g := (mkF m 9 #[.val (.ref va), .val (.ref vt), .val (.int (1 : Int32)), .val (.int (0 : Int32))] [(.int (0 : Int32)), (.ref va)])) rfl (by rw [hml]; rfl) (Steps.refl _) (argsL := [(.int (0 : Int32))]) (rest := []) (lenOf pd_4 rfl) rfl (by show 2 * 0 + _ ≤ _; exact Nat.le_of_eq rfl) (hb hby d5_9) (fun _ _ => ⟨rfl, e0, (by decide : 0 + 0 ≤ _), (by decide : 0 + 0 ≤ _)⟩)
  dsimp only [Pt.U, Pt.locs, Pt.cells, Pt.slots] at X1 l1 y1 z1 st1 hQ1
  subst l1 y1 z1
  obtain ⟨rfl, N1q, e1⟩ := hQ1
  have N1 := Fr.app N0 N1q
  refine Goal.tr (B := T1.setTop (mkF m 12 #[.val (.ref va), .val (.ref vt), .val (.int (1 : Int32)), .val (.int (0 : Int32))] [(.int y0)])) st1 ?_
  refine Goal.to (B := T1.setTop (mkF m 18 #[.val (.ref va), .val (.ref vt), .val (.int (1 : Int32)), .val (.int (0 : Int32))] [(.int (0 : Int32)), (.ref vt), (.int y0)])) (fun tt kk => ?_) ?_
  · show Steps p.tables e below (T1.setTop (mkF m 12 #[.val (.ref va), .val (.ref vt), .val (.int (1 : Int32)), .val (.int (0 : Int32))] [(.int y0)])) tt
    refine XS.aloadN X1.here hx rfl (hb hby d5_12) rfl rfl ?_
    show Steps p.tables e below (T1.setTop (mkF m 13 #[.val (.ref va), .val (.ref vt), .val (.int (1 : Int32)), .val (.int (0 : Int32))] [(.ref vt), (.int y0)])) tt
    refine XS.iloadN X1.here hx rfl (hb hby d5_13) rfl ?_
    show Steps p.tables e below (T1.setTop (mkF m 14 #[.val (.ref va), .val (.ref vt), .val (.int (1 : Int32)), .val (.int (0 : Int32))] [(.int (1 : Int32)), (.ref vt), (.int y0)])) tt
    refine XS.iconst X1.here hx rfl (hb hby d5_14) ?_
    show Steps p.tables e below (T1.setTop (mkF m 15 #[.val (.ref va), .val (.ref vt), .val (.int (1 : Int32)), .val (.int (0 : Int32))] [(.int (1 : Int32)), (.int (1 : Int32)), (.ref vt), (.int y0)])) tt
    refine XS.isub X1.here hx rfl (hb hby d5_15) rfl ?_
    show Steps p.tables e below (T1.setTop (mkF m 16 #[.val (.ref va), .val (.ref vt), .val (.int (1 : Int32)), .val (.int (0 : Int32))] [(.int (0 : Int32)), (.ref vt), (.int y0)])) tt
    refine XS.iloadN X1.here hx rfl (hb hby d5_16) rfl ?_
    show Steps p.tables e below (T1.setTop (mkF m 17 #[.val (.ref va), .val (.ref vt), .val (.int (1 : Int32)), .val (.int (0 : Int32))] [(.int (0 : Int32)), (.int (0 : Int32)), (.ref vt), (.int y0)])) tt
    refine XS.isub X1.here hx rfl (hb hby d5_17) rfl ?_
    exact kk
  obtain ⟨cl2, Ar2, Sl2⟩ := id V_vt
  have hin2 := inA (cl := cl2) Sl2 (j := (0 : Int32)) (by decide) (Nat.le_of_ble_eq_true rfl)
  have hat2 : cl2.slots[((0 : Int32)).toNatClampNeg]? = some (.int y0) := atA Sl2 rfl
  refine Goal.to (B := T1.setTop (mkF m 27 #[.val (.ref va), .val (.ref vt), .val (.int (1 : Int32)), .val (.int (0 : Int32))] [(.int (1 : Int32))])) (fun tt kk => ?_) ?_
  · show Steps p.tables e below (T1.setTop (mkF m 18 #[.val (.ref va), .val (.ref vt), .val (.int (1 : Int32)), .val (.int (0 : Int32))] [(.int (0 : Int32)), (.ref vt), (.int y0)])) tt
    refine X1.iaload hx (j := (0 : Int32)) (v := (.int y0)) (by rw [e1]; exact Ar2.1) (State.isArrayOf_alike hZ.alike Ar2.2.1) Ar2.2.2 hin2 hat2 (g := (mkF m 18 #[.val (.ref va), .val (.ref vt), .val (.int (1 : Int32)), .val (.int (0 : Int32))] [(.int (0 : Int32)), (.ref vt), (.int y0)])) rfl rfl (hb hby d5_18) _ ?_
    show Steps p.tables e below (T1.setTop (mkF m 19 #[.val (.ref va), .val (.ref vt), .val (.int (1 : Int32)), .val (.int (0 : Int32))] [(.int y0), (.int y0)])) tt
    refine XS.icmpNo X1.here hx rfl (hb hby d5_19) rfl (teq (rfl : y0 = y0)).2 ?_
    show Steps p.tables e below (T1.setTop (mkF m 22 #[.val (.ref va), .val (.ref vt), .val (.int (1 : Int32)), .val (.int (0 : Int32))] [])) tt
    refine XS.iconst X1.here hx rfl (hb hby d5_22) ?_
    show Steps p.tables e below (T1.setTop (mkF m 23 #[.val (.ref va), .val (.ref vt), .val (.int (1 : Int32)), .val (.int (0 : Int32))] [(.int (1 : Int32))])) tt
    refine XS.goto X1.here hx rfl (pc0 := 23) (pc' := 27) rfl (hb hby d5_23) (by decide) (by decide) ?_
    exact kk
  exact Goal.retV X1 hx Bd.returns rfl (Or.inl ⟨rfl, Or.inr (Or.inl rfl), _, rfl⟩) (hb hby d5_27) hlk e1 ⟨rfl, N1, rfl⟩ (by decide) (by decide)
def QG2_0 (Z : State) (va : Addr) (vl : Addr) (y0 : Int32) (y1 : Int32) (h0 : Heap) (n0 : Nat) (v : Option Value) (h : Heap) (L : List Loc) : Prop := v = some (.int y0) ∧ Fr n0 L ∧ h = h0
set_option maxRecDepth 65536 in
set_option maxHeartbeats 40000000 in
theorem rmG2_0 (l : Launch) (Z : State) (a0 : Array Value) (hw : ∀ d ∈ tables_1, d.before a0 Z = true) (ws : List Jvm.Cond) (va : Addr) (vl : Addr) (y0 : Int32) (y1 : Int32) (h0 : Heap) (n0 : Nat) (Z0 : n0 ≤ h0.size) (F_linkCount_va : Fld Z h0 va "com/example/enodia/enodia/routing/RouteBuffer" "linkCount" "I" (.int (2 : Int32))) (F_links_va : Fld Z h0 va "com/example/enodia/enodia/routing/RouteBuffer" "links" "[I" (.ref vl)) (V_vl : Ary Z h0 vl .int [(.int y0), (.int y1), (.int (0 : Int32)), (.int (0 : Int32)), (.int (0 : Int32)), (.int (0 : Int32)), (.int (0 : Int32)), (.int (0 : Int32)), (.int (0 : Int32)), (.int (0 : Int32)), (.int (0 : Int32)), (.int (0 : Int32)), (.int (0 : Int32)), (.int (0 : Int32)), (.int (0 : Int32)), (.int (0 : Int32))]) :
    MetFree l (⟨"com/example/enodia/enodia/routing/RouteBuffer", "getLink", "(I)I"⟩ : MethodName) (head1 (Jvm.Cond.code (⟨"com/example/enodia/enodia/routing/RouteBuffer", "getLink", "(I)I"⟩ : MethodName) prog_66_method_3_code 2 (some .int) :: ws) ({ frames := 0, cells := 0, slots := 0, locals := 0 } : Room)) (fun a U => a = #[(.ref va), (.int (0 : Int32))] ∧ Z.Warmed39 U.vm ∧ U.heap = h0) (fun _ _ _ _ _ => True) (fun _ U o U' => ∃ v L, o = .returned v ∧ QG2_0 Z va vl y0 y1 h0 n0 v U'.heap L ∧ FrameEnd U o U' L 0 0) := by
  refine MetFree.of_bodySF (plainFor_of_name pn_7) hisR ?_
  intro p e s m args below meth c s₁ Bd hml0 hP hK
  obtain ⟨rfl, hZ, hh⟩ := hP
  have hx := Bd.exec
  have hby := Bd.bytes
  have hml : c.maxLocals = 2 := hml0
  have hown : s.vm.findClass "com/example/enodia/enodia/routing/RouteBuffer" = some m.cls := findClass_of_methodNamed Bd.named
  have hnm := (name_of_methodNamed Bd.named Bd.method).1
  have X0 : Stand p l e ({ frames := 0, cells := 0, slots := 0, locals := 0 } : Room) s m #[(.ref va), (.int (0 : Int32))] below meth c s₁ [] 0 0 := Stand.of_body Bd
  have e0 : s₁.heap = h0 := by rw [← hh, Bd.state]; rfl
  have N0 := Fr.nil n0
  have hlk : meth.locks = false := BodyLoose.notSynchronized Bd
  show Goal p e below s (QG2_0 Z va vl y0 y1 h0 n0) 0 0 (s₁.setTop (entryFrame m #[(.ref va), (.int (0 : Int32))] 2))
  refine Goal.to (B := s₁.setTop (mkF m 0 #[.val (.ref va), .val (.int (0 : Int32))] [])) (fun tt kk => castTop (ef_7 m va (0 : Int32) ) kk) ?_
  refine Goal.to (B := s₁.setTop (mkF m 6 #[.val (.ref va), .val (.int (0 : Int32))] [(.ref va), (.int (0 : Int32))])) (fun tt kk => ?_) ?_
  · show Steps p.tables e below (s₁.setTop (mkF m 0 #[.val (.ref va), .val (.int (0 : Int32))] [])) tt
    refine XS.iloadN X0.here hx rfl (hb hby d7_0) rfl ?_
    show Steps p.tables e below (s₁.setTop (mkF m 1 #[.val (.ref va), .val (.int (0 : Int32))] [(.int (0 : Int32))])) tt
    refine XS.ifNo X0.here hx rfl (hb hby d7_1) rfl ((if0 _ _).trans (flt (Int32.lt_irrefl : ¬ ((0 : Int32) < (0 : Int32)))).1) ?_
    show Steps p.tables e below (s₁.setTop (mkF m 4 #[.val (.ref va), .val (.int (0 : Int32))] [])) tt
    refine XS.iloadN X0.here hx rfl (hb hby d7_4) rfl ?_
    show Steps p.tables e below (s₁.setTop (mkF m 5 #[.val (.ref va), .val (.int (0 : Int32))] [(.int (0 : Int32))])) tt
    refine XS.aloadN X0.here hx rfl (hb hby d7_5) rfl rfl ?_
    exact kk
  obtain ⟨T1, X1, e1, st1⟩ := getF X0 hx hZ hown (host := "") (Or.inl (hw _ (mw 18 rfl))) Via.refl e0 F_linkCount_va (g := (mkF m 6 #[.val (.ref va), .val (.int (0 : Int32))] [(.ref va), (.int (0 : Int32))])) rfl rfl (hb hby d7_6)
  refine Goal.to (B := T1.setTop (mkF m 9 #[.val (.ref va), .val (.int (0 : Int32))] [(.int (2 : Int32)), (.int (0 : Int32))])) st1 ?_
  refine Goal.to (B := T1.setTop (mkF m 31 #[.val (.ref va), .val (.int (0 : Int32))] [(.ref va)])) (fun tt kk => ?_) ?_
  · show Steps p.tables e below (T1.setTop (mkF m 9 #[.val (.ref va), .val (.int (0 : Int32))] [(.int (2 : Int32)), (.int (0 : Int32))])) tt
    refine XS.icmpYes X1.here hx rfl (pc0 := 9) (pc' := 30) rfl (hb hby d7_9) rfl (tlt ((by decide) : (0 : Int32) < (2 : Int32))).1 (by decide) (by decide) ?_
    show Steps p.tables e below (T1.setTop (mkF m 30 #[.val (.ref va), .val (.int (0 : Int32))] [])) tt
    refine XS.aloadN X1.here hx rfl (hb hby d7_30) rfl rfl ?_
    exact kk
  obtain ⟨T2, X2, e2, st2⟩ := getF X1 hx hZ hown (host := "") (Or.inl (hw _ (mw 11 rfl))) Via.refl e1 F_links_va (g := (mkF m 31 #[.val (.ref va), .val (.int (0 : Int32))] [(.ref va)])) rfl rfl (hb hby d7_31)
  refine Goal.to (B := T2.setTop (mkF m 34 #[.val (.ref va), .val (.int (0 : Int32))] [(.ref vl)])) st2 ?_
  refine Goal.to (B := T2.setTop (mkF m 35 #[.val (.ref va), .val (.int (0 : Int32))] [(.int (0 : Int32)), (.ref vl)])) (fun tt kk => ?_) ?_
  · show Steps p.tables e below (T2.setTop (mkF m 34 #[.val (.ref va), .val (.int (0 : Int32))] [(.ref vl)])) tt
    refine XS.iloadN X2.here hx rfl (hb hby d7_34) rfl ?_
    exact kk
  obtain ⟨cl3, Ar3, Sl3⟩ := id V_vl
  have hin3 := inA (cl := cl3) Sl3 (j := (0 : Int32)) (by decide) (Nat.le_of_ble_eq_true rfl)
  have hat3 : cl3.slots[((0 : Int32)).toNatClampNeg]? = some (.int y0) := atA Sl3 rfl
  refine Goal.to (B := T2.setTop (mkF m 36 #[.val (.ref va), .val (.int (0 : Int32))] [(.int y0)])) (fun tt kk => ?_) ?_
  · show Steps p.tables e below (T2.setTop (mkF m 35 #[.val (.ref va), .val (.int (0 : Int32))] [(.int (0 : Int32)), (.ref vl)])) tt
    refine X2.iaload hx (j := (0 : Int32)) (v := (.int y0)) (by rw [e2]; exact Ar3.1) (State.isArrayOf_alike hZ.alike Ar3.2.1) Ar3.2.2 hin3 hat3 (g := (mkF m 35 #[.val (.ref va), .val (.int (0 : Int32))] [(.int (0 : Int32)), (.ref vl)])) rfl rfl (hb hby d7_35) _ ?_
    exact kk
  exact Goal.retV X2 hx Bd.returns rfl (Or.inl ⟨rfl, Or.inl rfl, _, rfl⟩) (hb hby d7_36) hlk e2 ⟨rfl, N0, rfl⟩ (by decide) (by decide)
def QT2_0 (Z : State) (va : Addr) (vl : Addr) (vt : Addr) (y0 : Int32) (y1 : Int32) (z0 : Int32) (z2 : Int32) (z3 : Int32) (h0 : Heap) (n0 : Nat) (v : Option Value) (h : Heap) (L : List Loc) : Prop := v = some (.int (1 : Int32)) ∧ Fr n0 L ∧ h = h0
set_option maxRecDepth 65536 in
set_option maxHeartbeats 40000000 in
theorem rmT2_0 (l : Launch) (Z : State) (a0 : Array Value) (hw : ∀ d ∈ tables_1, d.before a0 Z = true) (ws : List Jvm.Cond) (va : Addr) (vl : Addr) (vt : Addr) (y0 : Int32) (y1 : Int32) (z0 : Int32) (z2 : Int32) (z3 : Int32) (h0 : Heap) (n0 : Nat) (Z0 : n0 ≤ h0.size) (E_va : Exa Z h0 va "com/example/enodia/enodia/routing/RouteBuffer") (F_linkCount_va : Fld Z h0 va "com/example/enodia/enodia/routing/RouteBuffer" "linkCount" "I" (.int (2 : Int32))) (F_links_va : Fld Z h0 va "com/example/enodia/enodia/routing/RouteBuffer" "links" "[I" (.ref vl)) (V_vl : Ary Z h0 vl .int [(.int y0), (.int y1), (.int (0 : Int32)), (.int (0 : Int32)), (.int (0 : Int32)), (.int (0 : Int32)), (.int (0 : Int32)), (.int (0 : Int32)), (.int (0 : Int32)), (.int (0 : Int32)), (.int (0 : Int32)), (.int (0 : Int32)), (.int (0 : Int32)), (.int (0 : Int32)), (.int (0 : Int32)), (.int (0 : Int32))]) (V_vt : Ary Z h0 vt .int [(.int z0), (.int y0), (.int z2), (.int z3)]) :
    MetFree l (⟨"com/example/enodia/enodia/routing/RouteBufferReversePinLaw", "at", "(Lcom/example/enodia/enodia/routing/RouteBuffer;[III)Z"⟩ : MethodName) (head1 (Jvm.Cond.code (⟨"com/example/enodia/enodia/routing/RouteBufferReversePinLaw", "at", "(Lcom/example/enodia/enodia/routing/RouteBuffer;[III)Z"⟩ : MethodName) method_2_code 4 (some .boolean) :: ws) ({ frames := 1, cells := 0, slots := 0, locals := 13 } : Room)) (fun a U => a = #[(.ref va), (.ref vt), (.int (2 : Int32)), (.int (0 : Int32))] ∧ Z.Warmed39 U.vm ∧ U.heap = h0) (fun _ _ _ _ _ => True) (fun _ U o U' => ∃ v L, o = .returned v ∧ QT2_0 Z va vl vt y0 y1 z0 z2 z3 h0 n0 v U'.heap L ∧ FrameEnd U o U' L 0 0) := by
  refine MetFree.of_bodySF (plainFor_of_name pn_5) hisR ?_
  intro p e s m args below meth c s₁ Bd hml0 hP hK
  obtain ⟨rfl, hZ, hh⟩ := hP
  have hx := Bd.exec
  have hby := Bd.bytes
  have hml : c.maxLocals = 4 := hml0
  have hown : s.vm.findClass "com/example/enodia/enodia/routing/RouteBufferReversePinLaw" = some m.cls := findClass_of_methodNamed Bd.named
  have hnm := (name_of_methodNamed Bd.named Bd.method).1
  have X0 : Stand p l e ({ frames := 1, cells := 0, slots := 0, locals := 13 } : Room) s m #[(.ref va), (.ref vt), (.int (2 : Int32)), (.int (0 : Int32))] below meth c s₁ [] 0 0 := Stand.of_body Bd
  have e0 : s₁.heap = h0 := by rw [← hh, Bd.state]; rfl
  have N0 := Fr.nil n0
  have hlk : meth.locks = false := BodyLoose.notSynchronized Bd
  show Goal p e below s (QT2_0 Z va vl vt y0 y1 z0 z2 z3 h0 n0) 0 0 (s₁.setTop (entryFrame m #[(.ref va), (.ref vt), (.int (2 : Int32)), (.int (0 : Int32))] 4))
  refine Goal.to (B := s₁.setTop (mkF m 0 #[.val (.ref va), .val (.ref vt), .val (.int (2 : Int32)), .val (.int (0 : Int32))] [])) (fun tt kk => castTop (ef_5 m va vt (2 : Int32) (0 : Int32) ) kk) ?_
  refine Goal.to (B := s₁.setTop (mkF m 9 #[.val (.ref va), .val (.ref vt), .val (.int (2 : Int32)), .val (.int (0 : Int32))] [(.int (0 : Int32)), (.ref va)])) (fun tt kk => ?_) ?_
  · show Steps p.tables e below (s₁.setTop (mkF m 0 #[.val (.ref va), .val (.ref vt), .val (.int (2 : Int32)), .val (.int (0 : Int32))] [])) tt
    refine XS.iloadN X0.here hx rfl (hb hby d5_0) rfl ?_
    show Steps p.tables e below (s₁.setTop (mkF m 1 #[.val (.ref va), .val (.ref vt), .val (.int (2 : Int32)), .val (.int (0 : Int32))] [(.int (0 : Int32))])) tt
    refine XS.iloadN X0.here hx rfl (hb hby d5_1) rfl ?_
    show Steps p.tables e below (s₁.setTop (mkF m 2 #[.val (.ref va), .val (.ref vt), .val (.int (2 : Int32)), .val (.int (0 : Int32))] [(.int (2 : Int32)), (.int (0 : Int32))])) tt
    refine XS.icmpYes X0.here hx rfl (pc0 := 2) (pc' := 7) rfl (hb hby d5_2) rfl (tlt ((by decide) : (0 : Int32) < (2 : Int32))).1 (by decide) (by decide) ?_
    show Steps p.tables e below (s₁.setTop (mkF m 7 #[.val (.ref va), .val (.ref vt), .val (.int (2 : Int32)), .val (.int (0 : Int32))] [])) tt
    refine XS.aloadN X0.here hx rfl (hb hby d5_7) rfl rfl ?_
    show Steps p.tables e below (s₁.setTop (mkF m 8 #[.val (.ref va), .val (.ref vt), .val (.int (2 : Int32)), .val (.int (0 : Int32))] [(.ref va)])) tt
    refine XS.iloadN X0.here hx rfl (hb hby d5_8) rfl ?_
    exact kk
  obtain ⟨cq1, kq1, q1a, q1b, q1c⟩ := isOf hZ e0 E_va
  obtain ⟨_, _, ⟨T1, L1, k1, n1⟩, -, X1, ⟨Lc1, hQ1, l1, y1, z1⟩, st1⟩ := X0.virtualBack hx (y := (⟨"com/example/enodia/enodia/routing/RouteBuffer", "getLink", "(I)I"⟩ : MethodName)) (z := (⟨"com/example/enodia/enodia/routing/RouteBuffer", "getLink", "(I)I"⟩ : MethodName)) hown (mvT hZ (hw _ (mw 34 rfl))) (mvT hZ (hw _ (mw 35 rfl))) (notFace_of_selects (args := #[]) (mvT hZ (hw _ (mw 37 rfl)))) (mvT hZ (hw _ (mw 37 rfl))) (mvT hZ (hw _ (mw 36 rfl))) (by decide) (backOf (W := 0) (rmG2_0 l Z a0 hw [] va vl y0 y1 h0 n0 Z0 F_linkCount_va F_links_va V_vl) hZ (hw _ (mw 38 rfl)) (hw _ (mw 4 rfl)) (by decide) (by decide)) q1a q1c (g := (mkF m 9 #[.val (.ref va), .val (.ref vt), .val (.int (2 : Int32)), .val (.int (0 : Int32))] [(.int (0 : Int32)), (.ref va)])) rfl (by rw [hml]; rfl) (Steps.refl _) (argsL := [(.int (0 : Int32))]) (rest := []) (lenOf pd_4 rfl) rfl (by show 2 * 0 + _ ≤ _; exact Nat.le_of_eq rfl) (hb hby d5_9) (fun _ _ => ⟨rfl, e0, (by decide : 0 + 0 ≤ _), (by decide : 0 + 0 ≤ _)⟩)
  dsimp only [Pt.U, Pt.locs, Pt.cells, Pt.slots] at X1 l1 y1 z1 st1 hQ1
  subst l1 y1 z1
  obtain ⟨rfl, N1q, e1⟩ := hQ1
  have N1 := Fr.app N0 N1q
  refine Goal.tr (B := T1.setTop (mkF m 12 #[.val (.ref va), .val (.ref vt), .val (.int (2 : Int32)), .val (.int (0 : Int32))] [(.int y0)])) st1 ?_
  refine Goal.to (B := T1.setTop (mkF m 18 #[.val (.ref va), .val (.ref vt), .val (.int (2 : Int32)), .val (.int (0 : Int32))] [(.int (1 : Int32)), (.ref vt), (.int y0)])) (fun tt kk => ?_) ?_
  · show Steps p.tables e below (T1.setTop (mkF m 12 #[.val (.ref va), .val (.ref vt), .val (.int (2 : Int32)), .val (.int (0 : Int32))] [(.int y0)])) tt
    refine XS.aloadN X1.here hx rfl (hb hby d5_12) rfl rfl ?_
    show Steps p.tables e below (T1.setTop (mkF m 13 #[.val (.ref va), .val (.ref vt), .val (.int (2 : Int32)), .val (.int (0 : Int32))] [(.ref vt), (.int y0)])) tt
    refine XS.iloadN X1.here hx rfl (hb hby d5_13) rfl ?_
    show Steps p.tables e below (T1.setTop (mkF m 14 #[.val (.ref va), .val (.ref vt), .val (.int (2 : Int32)), .val (.int (0 : Int32))] [(.int (2 : Int32)), (.ref vt), (.int y0)])) tt
    refine XS.iconst X1.here hx rfl (hb hby d5_14) ?_
    show Steps p.tables e below (T1.setTop (mkF m 15 #[.val (.ref va), .val (.ref vt), .val (.int (2 : Int32)), .val (.int (0 : Int32))] [(.int (1 : Int32)), (.int (2 : Int32)), (.ref vt), (.int y0)])) tt
    refine XS.isub X1.here hx rfl (hb hby d5_15) rfl ?_
    show Steps p.tables e below (T1.setTop (mkF m 16 #[.val (.ref va), .val (.ref vt), .val (.int (2 : Int32)), .val (.int (0 : Int32))] [(.int (1 : Int32)), (.ref vt), (.int y0)])) tt
    refine XS.iloadN X1.here hx rfl (hb hby d5_16) rfl ?_
    show Steps p.tables e below (T1.setTop (mkF m 17 #[.val (.ref va), .val (.ref vt), .val (.int (2 : Int32)), .val (.int (0 : Int32))] [(.int (0 : Int32)), (.int (1 : Int32)), (.ref vt), (.int y0)])) tt
    refine XS.isub X1.here hx rfl (hb hby d5_17) rfl ?_
    exact kk
  obtain ⟨cl2, Ar2, Sl2⟩ := id V_vt
  have hin2 := inA (cl := cl2) Sl2 (j := (1 : Int32)) (by decide) (Nat.le_of_ble_eq_true rfl)
  have hat2 : cl2.slots[((1 : Int32)).toNatClampNeg]? = some (.int y0) := atA Sl2 rfl
  refine Goal.to (B := T1.setTop (mkF m 27 #[.val (.ref va), .val (.ref vt), .val (.int (2 : Int32)), .val (.int (0 : Int32))] [(.int (1 : Int32))])) (fun tt kk => ?_) ?_
  · show Steps p.tables e below (T1.setTop (mkF m 18 #[.val (.ref va), .val (.ref vt), .val (.int (2 : Int32)), .val (.int (0 : Int32))] [(.int (1 : Int32)), (.ref vt), (.int y0)])) tt
    refine X1.iaload hx (j := (1 : Int32)) (v := (.int y0)) (by rw [e1]; exact Ar2.1) (State.isArrayOf_alike hZ.alike Ar2.2.1) Ar2.2.2 hin2 hat2 (g := (mkF m 18 #[.val (.ref va), .val (.ref vt), .val (.int (2 : Int32)), .val (.int (0 : Int32))] [(.int (1 : Int32)), (.ref vt), (.int y0)])) rfl rfl (hb hby d5_18) _ ?_
    show Steps p.tables e below (T1.setTop (mkF m 19 #[.val (.ref va), .val (.ref vt), .val (.int (2 : Int32)), .val (.int (0 : Int32))] [(.int y0), (.int y0)])) tt
    refine XS.icmpNo X1.here hx rfl (hb hby d5_19) rfl (teq (rfl : y0 = y0)).2 ?_
    show Steps p.tables e below (T1.setTop (mkF m 22 #[.val (.ref va), .val (.ref vt), .val (.int (2 : Int32)), .val (.int (0 : Int32))] [])) tt
    refine XS.iconst X1.here hx rfl (hb hby d5_22) ?_
    show Steps p.tables e below (T1.setTop (mkF m 23 #[.val (.ref va), .val (.ref vt), .val (.int (2 : Int32)), .val (.int (0 : Int32))] [(.int (1 : Int32))])) tt
    refine XS.goto X1.here hx rfl (pc0 := 23) (pc' := 27) rfl (hb hby d5_23) (by decide) (by decide) ?_
    exact kk
  exact Goal.retV X1 hx Bd.returns rfl (Or.inl ⟨rfl, Or.inr (Or.inl rfl), _, rfl⟩) (hb hby d5_27) hlk e1 ⟨rfl, N1, rfl⟩ (by decide) (by decide)
def QG2_1 (Z : State) (va : Addr) (vl : Addr) (y0 : Int32) (y1 : Int32) (h0 : Heap) (n0 : Nat) (v : Option Value) (h : Heap) (L : List Loc) : Prop := v = some (.int y1) ∧ Fr n0 L ∧ h = h0
set_option maxRecDepth 65536 in
set_option maxHeartbeats 40000000 in
theorem rmG2_1 (l : Launch) (Z : State) (a0 : Array Value) (hw : ∀ d ∈ tables_1, d.before a0 Z = true) (ws : List Jvm.Cond) (va : Addr) (vl : Addr) (y0 : Int32) (y1 : Int32) (h0 : Heap) (n0 : Nat) (Z0 : n0 ≤ h0.size) (F_linkCount_va : Fld Z h0 va "com/example/enodia/enodia/routing/RouteBuffer" "linkCount" "I" (.int (2 : Int32))) (F_links_va : Fld Z h0 va "com/example/enodia/enodia/routing/RouteBuffer" "links" "[I" (.ref vl)) (V_vl : Ary Z h0 vl .int [(.int y0), (.int y1), (.int (0 : Int32)), (.int (0 : Int32)), (.int (0 : Int32)), (.int (0 : Int32)), (.int (0 : Int32)), (.int (0 : Int32)), (.int (0 : Int32)), (.int (0 : Int32)), (.int (0 : Int32)), (.int (0 : Int32)), (.int (0 : Int32)), (.int (0 : Int32)), (.int (0 : Int32)), (.int (0 : Int32))]) :
    MetFree l (⟨"com/example/enodia/enodia/routing/RouteBuffer", "getLink", "(I)I"⟩ : MethodName) (head1 (Jvm.Cond.code (⟨"com/example/enodia/enodia/routing/RouteBuffer", "getLink", "(I)I"⟩ : MethodName) prog_66_method_3_code 2 (some .int) :: ws) ({ frames := 0, cells := 0, slots := 0, locals := 0 } : Room)) (fun a U => a = #[(.ref va), (.int (1 : Int32))] ∧ Z.Warmed39 U.vm ∧ U.heap = h0) (fun _ _ _ _ _ => True) (fun _ U o U' => ∃ v L, o = .returned v ∧ QG2_1 Z va vl y0 y1 h0 n0 v U'.heap L ∧ FrameEnd U o U' L 0 0) := by
  refine MetFree.of_bodySF (plainFor_of_name pn_7) hisR ?_
  intro p e s m args below meth c s₁ Bd hml0 hP hK
  obtain ⟨rfl, hZ, hh⟩ := hP
  have hx := Bd.exec
  have hby := Bd.bytes
  have hml : c.maxLocals = 2 := hml0
  have hown : s.vm.findClass "com/example/enodia/enodia/routing/RouteBuffer" = some m.cls := findClass_of_methodNamed Bd.named
  have hnm := (name_of_methodNamed Bd.named Bd.method).1
  have X0 : Stand p l e ({ frames := 0, cells := 0, slots := 0, locals := 0 } : Room) s m #[(.ref va), (.int (1 : Int32))] below meth c s₁ [] 0 0 := Stand.of_body Bd
  have e0 : s₁.heap = h0 := by rw [← hh, Bd.state]; rfl
  have N0 := Fr.nil n0
  have hlk : meth.locks = false := BodyLoose.notSynchronized Bd
  show Goal p e below s (QG2_1 Z va vl y0 y1 h0 n0) 0 0 (s₁.setTop (entryFrame m #[(.ref va), (.int (1 : Int32))] 2))
  refine Goal.to (B := s₁.setTop (mkF m 0 #[.val (.ref va), .val (.int (1 : Int32))] [])) (fun tt kk => castTop (ef_7 m va (1 : Int32) ) kk) ?_
  refine Goal.to (B := s₁.setTop (mkF m 6 #[.val (.ref va), .val (.int (1 : Int32))] [(.ref va), (.int (1 : Int32))])) (fun tt kk => ?_) ?_
  · show Steps p.tables e below (s₁.setTop (mkF m 0 #[.val (.ref va), .val (.int (1 : Int32))] [])) tt
    refine XS.iloadN X0.here hx rfl (hb hby d7_0) rfl ?_
    show Steps p.tables e below (s₁.setTop (mkF m 1 #[.val (.ref va), .val (.int (1 : Int32))] [(.int (1 : Int32))])) tt
    refine XS.ifNo X0.here hx rfl (hb hby d7_1) rfl ((if0 _ _).trans (flt ((by decide) : ¬ ((1 : Int32) < (0 : Int32)))).1) ?_
    show Steps p.tables e below (s₁.setTop (mkF m 4 #[.val (.ref va), .val (.int (1 : Int32))] [])) tt
    refine XS.iloadN X0.here hx rfl (hb hby d7_4) rfl ?_
    show Steps p.tables e below (s₁.setTop (mkF m 5 #[.val (.ref va), .val (.int (1 : Int32))] [(.int (1 : Int32))])) tt
    refine XS.aloadN X0.here hx rfl (hb hby d7_5) rfl rfl ?_
    exact kk
  obtain ⟨T1, X1, e1, st1⟩ := getF X0 hx hZ hown (host := "") (Or.inl (hw _ (mw 18 rfl))) Via.refl e0 F_linkCount_va (g := (mkF m 6 #[.val (.ref va), .val (.int (1 : Int32))] [(.ref va), (.int (1 : Int32))])) rfl rfl (hb hby d7_6)
  refine Goal.to (B := T1.setTop (mkF m 9 #[.val (.ref va), .val (.int (1 : Int32))] [(.int (2 : Int32)), (.int (1 : Int32))])) st1 ?_
  refine Goal.to (B := T1.setTop (mkF m 31 #[.val (.ref va), .val (.int (1 : Int32))] [(.ref va)])) (fun tt kk => ?_) ?_
  · show Steps p.tables e below (T1.setTop (mkF m 9 #[.val (.ref va), .val (.int (1 : Int32))] [(.int (2 : Int32)), (.int (1 : Int32))])) tt
    refine XS.icmpYes X1.here hx rfl (pc0 := 9) (pc' := 30) rfl (hb hby d7_9) rfl (tlt ((by decide) : (1 : Int32) < (2 : Int32))).1 (by decide) (by decide) ?_
    show Steps p.tables e below (T1.setTop (mkF m 30 #[.val (.ref va), .val (.int (1 : Int32))] [])) tt
    refine XS.aloadN X1.here hx rfl (hb hby d7_30) rfl rfl ?_
    exact kk
  obtain ⟨T2, X2, e2, st2⟩ := getF X1 hx hZ hown (host := "") (Or.inl (hw _ (mw 11 rfl))) Via.refl e1 F_links_va (g := (mkF m 31 #[.val (.ref va), .val (.int (1 : Int32))] [(.ref va)])) rfl rfl (hb hby d7_31)
  refine Goal.to (B := T2.setTop (mkF m 34 #[.val (.ref va), .val (.int (1 : Int32))] [(.ref vl)])) st2 ?_
  refine Goal.to (B := T2.setTop (mkF m 35 #[.val (.ref va), .val (.int (1 : Int32))] [(.int (1 : Int32)), (.ref vl)])) (fun tt kk => ?_) ?_
  · show Steps p.tables e below (T2.setTop (mkF m 34 #[.val (.ref va), .val (.int (1 : Int32))] [(.ref vl)])) tt
    refine XS.iloadN X2.here hx rfl (hb hby d7_34) rfl ?_
    exact kk
  obtain ⟨cl3, Ar3, Sl3⟩ := id V_vl
  have hin3 := inA (cl := cl3) Sl3 (j := (1 : Int32)) (by decide) (Nat.le_of_ble_eq_true rfl)
  have hat3 : cl3.slots[((1 : Int32)).toNatClampNeg]? = some (.int y1) := atA Sl3 rfl
  refine Goal.to (B := T2.setTop (mkF m 36 #[.val (.ref va), .val (.int (1 : Int32))] [(.int y1)])) (fun tt kk => ?_) ?_
  · show Steps p.tables e below (T2.setTop (mkF m 35 #[.val (.ref va), .val (.int (1 : Int32))] [(.int (1 : Int32)), (.ref vl)])) tt
    refine X2.iaload hx (j := (1 : Int32)) (v := (.int y1)) (by rw [e2]; exact Ar3.1) (State.isArrayOf_alike hZ.alike Ar3.2.1) Ar3.2.2 hin3 hat3 (g := (mkF m 35 #[.val (.ref va), .val (.int (1 : Int32))] [(.int (1 : Int32)), (.ref vl)])) rfl rfl (hb hby d7_35) _ ?_
    exact kk
  exact Goal.retV X2 hx Bd.returns rfl (Or.inl ⟨rfl, Or.inl rfl, _, rfl⟩) (hb hby d7_36) hlk e2 ⟨rfl, N0, rfl⟩ (by decide) (by decide)
def QT2_1 (Z : State) (va : Addr) (vl : Addr) (vt : Addr) (y0 : Int32) (y1 : Int32) (z1 : Int32) (z2 : Int32) (z3 : Int32) (h0 : Heap) (n0 : Nat) (v : Option Value) (h : Heap) (L : List Loc) : Prop := v = some (.int (1 : Int32)) ∧ Fr n0 L ∧ h = h0
set_option maxRecDepth 65536 in
set_option maxHeartbeats 40000000 in
theorem rmT2_1 (l : Launch) (Z : State) (a0 : Array Value) (hw : ∀ d ∈ tables_1, d.before a0 Z = true) (ws : List Jvm.Cond) (va : Addr) (vl : Addr) (vt : Addr) (y0 : Int32) (y1 : Int32) (z1 : Int32) (z2 : Int32) (z3 : Int32) (h0 : Heap) (n0 : Nat) (Z0 : n0 ≤ h0.size) (E_va : Exa Z h0 va "com/example/enodia/enodia/routing/RouteBuffer") (F_linkCount_va : Fld Z h0 va "com/example/enodia/enodia/routing/RouteBuffer" "linkCount" "I" (.int (2 : Int32))) (F_links_va : Fld Z h0 va "com/example/enodia/enodia/routing/RouteBuffer" "links" "[I" (.ref vl)) (V_vl : Ary Z h0 vl .int [(.int y0), (.int y1), (.int (0 : Int32)), (.int (0 : Int32)), (.int (0 : Int32)), (.int (0 : Int32)), (.int (0 : Int32)), (.int (0 : Int32)), (.int (0 : Int32)), (.int (0 : Int32)), (.int (0 : Int32)), (.int (0 : Int32)), (.int (0 : Int32)), (.int (0 : Int32)), (.int (0 : Int32)), (.int (0 : Int32))]) (V_vt : Ary Z h0 vt .int [(.int y1), (.int z1), (.int z2), (.int z3)]) :
    MetFree l (⟨"com/example/enodia/enodia/routing/RouteBufferReversePinLaw", "at", "(Lcom/example/enodia/enodia/routing/RouteBuffer;[III)Z"⟩ : MethodName) (head1 (Jvm.Cond.code (⟨"com/example/enodia/enodia/routing/RouteBufferReversePinLaw", "at", "(Lcom/example/enodia/enodia/routing/RouteBuffer;[III)Z"⟩ : MethodName) method_2_code 4 (some .boolean) :: ws) ({ frames := 1, cells := 0, slots := 0, locals := 13 } : Room)) (fun a U => a = #[(.ref va), (.ref vt), (.int (2 : Int32)), (.int (1 : Int32))] ∧ Z.Warmed39 U.vm ∧ U.heap = h0) (fun _ _ _ _ _ => True) (fun _ U o U' => ∃ v L, o = .returned v ∧ QT2_1 Z va vl vt y0 y1 z1 z2 z3 h0 n0 v U'.heap L ∧ FrameEnd U o U' L 0 0) := by
  refine MetFree.of_bodySF (plainFor_of_name pn_5) hisR ?_
  intro p e s m args below meth c s₁ Bd hml0 hP hK
  obtain ⟨rfl, hZ, hh⟩ := hP
  have hx := Bd.exec
  have hby := Bd.bytes
  have hml : c.maxLocals = 4 := hml0
  have hown : s.vm.findClass "com/example/enodia/enodia/routing/RouteBufferReversePinLaw" = some m.cls := findClass_of_methodNamed Bd.named
  have hnm := (name_of_methodNamed Bd.named Bd.method).1
  have X0 : Stand p l e ({ frames := 1, cells := 0, slots := 0, locals := 13 } : Room) s m #[(.ref va), (.ref vt), (.int (2 : Int32)), (.int (1 : Int32))] below meth c s₁ [] 0 0 := Stand.of_body Bd
  have e0 : s₁.heap = h0 := by rw [← hh, Bd.state]; rfl
  have N0 := Fr.nil n0
  have hlk : meth.locks = false := BodyLoose.notSynchronized Bd
  show Goal p e below s (QT2_1 Z va vl vt y0 y1 z1 z2 z3 h0 n0) 0 0 (s₁.setTop (entryFrame m #[(.ref va), (.ref vt), (.int (2 : Int32)), (.int (1 : Int32))] 4))
  refine Goal.to (B := s₁.setTop (mkF m 0 #[.val (.ref va), .val (.ref vt), .val (.int (2 : Int32)), .val (.int (1 : Int32))] [])) (fun tt kk => castTop (ef_5 m va vt (2 : Int32) (1 : Int32) ) kk) ?_
  refine Goal.to (B := s₁.setTop (mkF m 9 #[.val (.ref va), .val (.ref vt), .val (.int (2 : Int32)), .val (.int (1 : Int32))] [(.int (1 : Int32)), (.ref va)])) (fun tt kk => ?_) ?_
  · show Steps p.tables e below (s₁.setTop (mkF m 0 #[.val (.ref va), .val (.ref vt), .val (.int (2 : Int32)), .val (.int (1 : Int32))] [])) tt
    refine XS.iloadN X0.here hx rfl (hb hby d5_0) rfl ?_
    show Steps p.tables e below (s₁.setTop (mkF m 1 #[.val (.ref va), .val (.ref vt), .val (.int (2 : Int32)), .val (.int (1 : Int32))] [(.int (1 : Int32))])) tt
    refine XS.iloadN X0.here hx rfl (hb hby d5_1) rfl ?_
    show Steps p.tables e below (s₁.setTop (mkF m 2 #[.val (.ref va), .val (.ref vt), .val (.int (2 : Int32)), .val (.int (1 : Int32))] [(.int (2 : Int32)), (.int (1 : Int32))])) tt
    refine XS.icmpYes X0.here hx rfl (pc0 := 2) (pc' := 7) rfl (hb hby d5_2) rfl (tlt ((by decide) : (1 : Int32) < (2 : Int32))).1 (by decide) (by decide) ?_
    show Steps p.tables e below (s₁.setTop (mkF m 7 #[.val (.ref va), .val (.ref vt), .val (.int (2 : Int32)), .val (.int (1 : Int32))] [])) tt
    refine XS.aloadN X0.here hx rfl (hb hby d5_7) rfl rfl ?_
    show Steps p.tables e below (s₁.setTop (mkF m 8 #[.val (.ref va), .val (.ref vt), .val (.int (2 : Int32)), .val (.int (1 : Int32))] [(.ref va)])) tt
    refine XS.iloadN X0.here hx rfl (hb hby d5_8) rfl ?_
    exact kk
  obtain ⟨cq1, kq1, q1a, q1b, q1c⟩ := isOf hZ e0 E_va
  obtain ⟨_, _, ⟨T1, L1, k1, n1⟩, -, X1, ⟨Lc1, hQ1, l1, y1, z1⟩, st1⟩ := X0.virtualBack hx (y := (⟨"com/example/enodia/enodia/routing/RouteBuffer", "getLink", "(I)I"⟩ : MethodName)) (z := (⟨"com/example/enodia/enodia/routing/RouteBuffer", "getLink", "(I)I"⟩ : MethodName)) hown (mvT hZ (hw _ (mw 34 rfl))) (mvT hZ (hw _ (mw 35 rfl))) (notFace_of_selects (args := #[]) (mvT hZ (hw _ (mw 37 rfl)))) (mvT hZ (hw _ (mw 37 rfl))) (mvT hZ (hw _ (mw 36 rfl))) (by decide) (backOf (W := 0) (rmG2_1 l Z a0 hw [] va vl y0 y1 h0 n0 Z0 F_linkCount_va F_links_va V_vl) hZ (hw _ (mw 38 rfl)) (hw _ (mw 4 rfl)) (by decide) (by decide)) q1a q1c (g := (mkF m 9 #[.val (.ref va), .val (.ref vt), .val (.int (2 : Int32)), .val (.int (1 : Int32))] [(.int (1 : Int32)), (.ref va)])) rfl (by rw [hml]; rfl) (Steps.refl _) (argsL := [(.int (1 : Int32))]) (rest := []) (lenOf pd_4 rfl) rfl (by show 2 * 0 + _ ≤ _; exact Nat.le_of_eq rfl) (hb hby d5_9) (fun _ _ => ⟨rfl, e0, (by decide : 0 + 0 ≤ _), (by decide : 0 + 0 ≤ _)⟩)
  dsimp only [Pt.U, Pt.locs, Pt.cells, Pt.slots] at X1 l1 y1 z1 st1 hQ1
  subst l1 y1 z1
  obtain ⟨rfl, N1q, e1⟩ := hQ1
  have N1 := Fr.app N0 N1q
  refine Goal.tr (B := T1.setTop (mkF m 12 #[.val (.ref va), .val (.ref vt), .val (.int (2 : Int32)), .val (.int (1 : Int32))] [(.int y1)])) st1 ?_
  refine Goal.to (B := T1.setTop (mkF m 18 #[.val (.ref va), .val (.ref vt), .val (.int (2 : Int32)), .val (.int (1 : Int32))] [(.int (0 : Int32)), (.ref vt), (.int y1)])) (fun tt kk => ?_) ?_
  · show Steps p.tables e below (T1.setTop (mkF m 12 #[.val (.ref va), .val (.ref vt), .val (.int (2 : Int32)), .val (.int (1 : Int32))] [(.int y1)])) tt
    refine XS.aloadN X1.here hx rfl (hb hby d5_12) rfl rfl ?_
    show Steps p.tables e below (T1.setTop (mkF m 13 #[.val (.ref va), .val (.ref vt), .val (.int (2 : Int32)), .val (.int (1 : Int32))] [(.ref vt), (.int y1)])) tt
    refine XS.iloadN X1.here hx rfl (hb hby d5_13) rfl ?_
    show Steps p.tables e below (T1.setTop (mkF m 14 #[.val (.ref va), .val (.ref vt), .val (.int (2 : Int32)), .val (.int (1 : Int32))] [(.int (2 : Int32)), (.ref vt), (.int y1)])) tt
    refine XS.iconst X1.here hx rfl (hb hby d5_14) ?_
    show Steps p.tables e below (T1.setTop (mkF m 15 #[.val (.ref va), .val (.ref vt), .val (.int (2 : Int32)), .val (.int (1 : Int32))] [(.int (1 : Int32)), (.int (2 : Int32)), (.ref vt), (.int y1)])) tt
    refine XS.isub X1.here hx rfl (hb hby d5_15) rfl ?_
    show Steps p.tables e below (T1.setTop (mkF m 16 #[.val (.ref va), .val (.ref vt), .val (.int (2 : Int32)), .val (.int (1 : Int32))] [(.int (1 : Int32)), (.ref vt), (.int y1)])) tt
    refine XS.iloadN X1.here hx rfl (hb hby d5_16) rfl ?_
    show Steps p.tables e below (T1.setTop (mkF m 17 #[.val (.ref va), .val (.ref vt), .val (.int (2 : Int32)), .val (.int (1 : Int32))] [(.int (1 : Int32)), (.int (1 : Int32)), (.ref vt), (.int y1)])) tt
    refine XS.isub X1.here hx rfl (hb hby d5_17) rfl ?_
    exact kk
  obtain ⟨cl2, Ar2, Sl2⟩ := id V_vt
  have hin2 := inA (cl := cl2) Sl2 (j := (0 : Int32)) (by decide) (Nat.le_of_ble_eq_true rfl)
  have hat2 : cl2.slots[((0 : Int32)).toNatClampNeg]? = some (.int y1) := atA Sl2 rfl
  refine Goal.to (B := T1.setTop (mkF m 27 #[.val (.ref va), .val (.ref vt), .val (.int (2 : Int32)), .val (.int (1 : Int32))] [(.int (1 : Int32))])) (fun tt kk => ?_) ?_
  · show Steps p.tables e below (T1.setTop (mkF m 18 #[.val (.ref va), .val (.ref vt), .val (.int (2 : Int32)), .val (.int (1 : Int32))] [(.int (0 : Int32)), (.ref vt), (.int y1)])) tt
    refine X1.iaload hx (j := (0 : Int32)) (v := (.int y1)) (by rw [e1]; exact Ar2.1) (State.isArrayOf_alike hZ.alike Ar2.2.1) Ar2.2.2 hin2 hat2 (g := (mkF m 18 #[.val (.ref va), .val (.ref vt), .val (.int (2 : Int32)), .val (.int (1 : Int32))] [(.int (0 : Int32)), (.ref vt), (.int y1)])) rfl rfl (hb hby d5_18) _ ?_
    show Steps p.tables e below (T1.setTop (mkF m 19 #[.val (.ref va), .val (.ref vt), .val (.int (2 : Int32)), .val (.int (1 : Int32))] [(.int y1), (.int y1)])) tt
    refine XS.icmpNo X1.here hx rfl (hb hby d5_19) rfl (teq (rfl : y1 = y1)).2 ?_
    show Steps p.tables e below (T1.setTop (mkF m 22 #[.val (.ref va), .val (.ref vt), .val (.int (2 : Int32)), .val (.int (1 : Int32))] [])) tt
    refine XS.iconst X1.here hx rfl (hb hby d5_22) ?_
    show Steps p.tables e below (T1.setTop (mkF m 23 #[.val (.ref va), .val (.ref vt), .val (.int (2 : Int32)), .val (.int (1 : Int32))] [(.int (1 : Int32))])) tt
    refine XS.goto X1.here hx rfl (pc0 := 23) (pc' := 27) rfl (hb hby d5_23) (by decide) (by decide) ?_
    exact kk
  exact Goal.retV X1 hx Bd.returns rfl (Or.inl ⟨rfl, Or.inr (Or.inl rfl), _, rfl⟩) (hb hby d5_27) hlk e1 ⟨rfl, N1, rfl⟩ (by decide) (by decide)
def QG3_0 (Z : State) (va : Addr) (vl : Addr) (y0 : Int32) (y1 : Int32) (y2 : Int32) (h0 : Heap) (n0 : Nat) (v : Option Value) (h : Heap) (L : List Loc) : Prop := v = some (.int y0) ∧ Fr n0 L ∧ h = h0
set_option maxRecDepth 65536 in
set_option maxHeartbeats 40000000 in
theorem rmG3_0 (l : Launch) (Z : State) (a0 : Array Value) (hw : ∀ d ∈ tables_1, d.before a0 Z = true) (ws : List Jvm.Cond) (va : Addr) (vl : Addr) (y0 : Int32) (y1 : Int32) (y2 : Int32) (h0 : Heap) (n0 : Nat) (Z0 : n0 ≤ h0.size) (F_linkCount_va : Fld Z h0 va "com/example/enodia/enodia/routing/RouteBuffer" "linkCount" "I" (.int (3 : Int32))) (F_links_va : Fld Z h0 va "com/example/enodia/enodia/routing/RouteBuffer" "links" "[I" (.ref vl)) (V_vl : Ary Z h0 vl .int [(.int y0), (.int y1), (.int y2), (.int (0 : Int32)), (.int (0 : Int32)), (.int (0 : Int32)), (.int (0 : Int32)), (.int (0 : Int32)), (.int (0 : Int32)), (.int (0 : Int32)), (.int (0 : Int32)), (.int (0 : Int32)), (.int (0 : Int32)), (.int (0 : Int32)), (.int (0 : Int32)), (.int (0 : Int32))]) :
    MetFree l (⟨"com/example/enodia/enodia/routing/RouteBuffer", "getLink", "(I)I"⟩ : MethodName) (head1 (Jvm.Cond.code (⟨"com/example/enodia/enodia/routing/RouteBuffer", "getLink", "(I)I"⟩ : MethodName) prog_66_method_3_code 2 (some .int) :: ws) ({ frames := 0, cells := 0, slots := 0, locals := 0 } : Room)) (fun a U => a = #[(.ref va), (.int (0 : Int32))] ∧ Z.Warmed39 U.vm ∧ U.heap = h0) (fun _ _ _ _ _ => True) (fun _ U o U' => ∃ v L, o = .returned v ∧ QG3_0 Z va vl y0 y1 y2 h0 n0 v U'.heap L ∧ FrameEnd U o U' L 0 0) := by
  refine MetFree.of_bodySF (plainFor_of_name pn_7) hisR ?_
  intro p e s m args below meth c s₁ Bd hml0 hP hK
  obtain ⟨rfl, hZ, hh⟩ := hP
  have hx := Bd.exec
  have hby := Bd.bytes
  have hml : c.maxLocals = 2 := hml0
  have hown : s.vm.findClass "com/example/enodia/enodia/routing/RouteBuffer" = some m.cls := findClass_of_methodNamed Bd.named
  have hnm := (name_of_methodNamed Bd.named Bd.method).1
  have X0 : Stand p l e ({ frames := 0, cells := 0, slots := 0, locals := 0 } : Room) s m #[(.ref va), (.int (0 : Int32))] below meth c s₁ [] 0 0 := Stand.of_body Bd
  have e0 : s₁.heap = h0 := by rw [← hh, Bd.state]; rfl
  have N0 := Fr.nil n0
  have hlk : meth.locks = false := BodyLoose.notSynchronized Bd
  show Goal p e below s (QG3_0 Z va vl y0 y1 y2 h0 n0) 0 0 (s₁.setTop (entryFrame m #[(.ref va), (.int (0 : Int32))] 2))
  refine Goal.to (B := s₁.setTop (mkF m 0 #[.val (.ref va), .val (.int (0 : Int32))] [])) (fun tt kk => castTop (ef_7 m va (0 : Int32) ) kk) ?_
  refine Goal.to (B := s₁.setTop (mkF m 6 #[.val (.ref va), .val (.int (0 : Int32))] [(.ref va), (.int (0 : Int32))])) (fun tt kk => ?_) ?_
  · show Steps p.tables e below (s₁.setTop (mkF m 0 #[.val (.ref va), .val (.int (0 : Int32))] [])) tt
    refine XS.iloadN X0.here hx rfl (hb hby d7_0) rfl ?_
    show Steps p.tables e below (s₁.setTop (mkF m 1 #[.val (.ref va), .val (.int (0 : Int32))] [(.int (0 : Int32))])) tt
    refine XS.ifNo X0.here hx rfl (hb hby d7_1) rfl ((if0 _ _).trans (flt (Int32.lt_irrefl : ¬ ((0 : Int32) < (0 : Int32)))).1) ?_
    show Steps p.tables e below (s₁.setTop (mkF m 4 #[.val (.ref va), .val (.int (0 : Int32))] [])) tt
    refine XS.iloadN X0.here hx rfl (hb hby d7_4) rfl ?_
    show Steps p.tables e below (s₁.setTop (mkF m 5 #[.val (.ref va), .val (.int (0 : Int32))] [(.int (0 : Int32))])) tt
    refine XS.aloadN X0.here hx rfl (hb hby d7_5) rfl rfl ?_
    exact kk
  obtain ⟨T1, X1, e1, st1⟩ := getF X0 hx hZ hown (host := "") (Or.inl (hw _ (mw 18 rfl))) Via.refl e0 F_linkCount_va (g := (mkF m 6 #[.val (.ref va), .val (.int (0 : Int32))] [(.ref va), (.int (0 : Int32))])) rfl rfl (hb hby d7_6)
  refine Goal.to (B := T1.setTop (mkF m 9 #[.val (.ref va), .val (.int (0 : Int32))] [(.int (3 : Int32)), (.int (0 : Int32))])) st1 ?_
  refine Goal.to (B := T1.setTop (mkF m 31 #[.val (.ref va), .val (.int (0 : Int32))] [(.ref va)])) (fun tt kk => ?_) ?_
  · show Steps p.tables e below (T1.setTop (mkF m 9 #[.val (.ref va), .val (.int (0 : Int32))] [(.int (3 : Int32)), (.int (0 : Int32))])) tt
    refine XS.icmpYes X1.here hx rfl (pc0 := 9) (pc' := 30) rfl (hb hby d7_9) rfl (tlt ((by decide) : (0 : Int32) < (3 : Int32))).1 (by decide) (by decide) ?_
    show Steps p.tables e below (T1.setTop (mkF m 30 #[.val (.ref va), .val (.int (0 : Int32))] [])) tt
    refine XS.aloadN X1.here hx rfl (hb hby d7_30) rfl rfl ?_
    exact kk
  obtain ⟨T2, X2, e2, st2⟩ := getF X1 hx hZ hown (host := "") (Or.inl (hw _ (mw 11 rfl))) Via.refl e1 F_links_va (g := (mkF m 31 #[.val (.ref va), .val (.int (0 : Int32))] [(.ref va)])) rfl rfl (hb hby d7_31)
  refine Goal.to (B := T2.setTop (mkF m 34 #[.val (.ref va), .val (.int (0 : Int32))] [(.ref vl)])) st2 ?_
  refine Goal.to (B := T2.setTop (mkF m 35 #[.val (.ref va), .val (.int (0 : Int32))] [(.int (0 : Int32)), (.ref vl)])) (fun tt kk => ?_) ?_
  · show Steps p.tables e below (T2.setTop (mkF m 34 #[.val (.ref va), .val (.int (0 : Int32))] [(.ref vl)])) tt
    refine XS.iloadN X2.here hx rfl (hb hby d7_34) rfl ?_
    exact kk
  obtain ⟨cl3, Ar3, Sl3⟩ := id V_vl
  have hin3 := inA (cl := cl3) Sl3 (j := (0 : Int32)) (by decide) (Nat.le_of_ble_eq_true rfl)
  have hat3 : cl3.slots[((0 : Int32)).toNatClampNeg]? = some (.int y0) := atA Sl3 rfl
  refine Goal.to (B := T2.setTop (mkF m 36 #[.val (.ref va), .val (.int (0 : Int32))] [(.int y0)])) (fun tt kk => ?_) ?_
  · show Steps p.tables e below (T2.setTop (mkF m 35 #[.val (.ref va), .val (.int (0 : Int32))] [(.int (0 : Int32)), (.ref vl)])) tt
    refine X2.iaload hx (j := (0 : Int32)) (v := (.int y0)) (by rw [e2]; exact Ar3.1) (State.isArrayOf_alike hZ.alike Ar3.2.1) Ar3.2.2 hin3 hat3 (g := (mkF m 35 #[.val (.ref va), .val (.int (0 : Int32))] [(.int (0 : Int32)), (.ref vl)])) rfl rfl (hb hby d7_35) _ ?_
    exact kk
  exact Goal.retV X2 hx Bd.returns rfl (Or.inl ⟨rfl, Or.inl rfl, _, rfl⟩) (hb hby d7_36) hlk e2 ⟨rfl, N0, rfl⟩ (by decide) (by decide)
def QT3_0 (Z : State) (va : Addr) (vl : Addr) (vt : Addr) (y0 : Int32) (y1 : Int32) (y2 : Int32) (z0 : Int32) (z1 : Int32) (z3 : Int32) (h0 : Heap) (n0 : Nat) (v : Option Value) (h : Heap) (L : List Loc) : Prop := v = some (.int (1 : Int32)) ∧ Fr n0 L ∧ h = h0
set_option maxRecDepth 65536 in
set_option maxHeartbeats 40000000 in
theorem rmT3_0 (l : Launch) (Z : State) (a0 : Array Value) (hw : ∀ d ∈ tables_1, d.before a0 Z = true) (ws : List Jvm.Cond) (va : Addr) (vl : Addr) (vt : Addr) (y0 : Int32) (y1 : Int32) (y2 : Int32) (z0 : Int32) (z1 : Int32) (z3 : Int32) (h0 : Heap) (n0 : Nat) (Z0 : n0 ≤ h0.size) (E_va : Exa Z h0 va "com/example/enodia/enodia/routing/RouteBuffer") (F_linkCount_va : Fld Z h0 va "com/example/enodia/enodia/routing/RouteBuffer" "linkCount" "I" (.int (3 : Int32))) (F_links_va : Fld Z h0 va "com/example/enodia/enodia/routing/RouteBuffer" "links" "[I" (.ref vl)) (V_vl : Ary Z h0 vl .int [(.int y0), (.int y1), (.int y2), (.int (0 : Int32)), (.int (0 : Int32)), (.int (0 : Int32)), (.int (0 : Int32)), (.int (0 : Int32)), (.int (0 : Int32)), (.int (0 : Int32)), (.int (0 : Int32)), (.int (0 : Int32)), (.int (0 : Int32)), (.int (0 : Int32)), (.int (0 : Int32)), (.int (0 : Int32))]) (V_vt : Ary Z h0 vt .int [(.int z0), (.int z1), (.int y0), (.int z3)]) :
    MetFree l (⟨"com/example/enodia/enodia/routing/RouteBufferReversePinLaw", "at", "(Lcom/example/enodia/enodia/routing/RouteBuffer;[III)Z"⟩ : MethodName) (head1 (Jvm.Cond.code (⟨"com/example/enodia/enodia/routing/RouteBufferReversePinLaw", "at", "(Lcom/example/enodia/enodia/routing/RouteBuffer;[III)Z"⟩ : MethodName) method_2_code 4 (some .boolean) :: ws) ({ frames := 1, cells := 0, slots := 0, locals := 13 } : Room)) (fun a U => a = #[(.ref va), (.ref vt), (.int (3 : Int32)), (.int (0 : Int32))] ∧ Z.Warmed39 U.vm ∧ U.heap = h0) (fun _ _ _ _ _ => True) (fun _ U o U' => ∃ v L, o = .returned v ∧ QT3_0 Z va vl vt y0 y1 y2 z0 z1 z3 h0 n0 v U'.heap L ∧ FrameEnd U o U' L 0 0) := by
  refine MetFree.of_bodySF (plainFor_of_name pn_5) hisR ?_
  intro p e s m args below meth c s₁ Bd hml0 hP hK
  obtain ⟨rfl, hZ, hh⟩ := hP
  have hx := Bd.exec
  have hby := Bd.bytes
  have hml : c.maxLocals = 4 := hml0
  have hown : s.vm.findClass "com/example/enodia/enodia/routing/RouteBufferReversePinLaw" = some m.cls := findClass_of_methodNamed Bd.named
  have hnm := (name_of_methodNamed Bd.named Bd.method).1
  have X0 : Stand p l e ({ frames := 1, cells := 0, slots := 0, locals := 13 } : Room) s m #[(.ref va), (.ref vt), (.int (3 : Int32)), (.int (0 : Int32))] below meth c s₁ [] 0 0 := Stand.of_body Bd
  have e0 : s₁.heap = h0 := by rw [← hh, Bd.state]; rfl
  have N0 := Fr.nil n0
  have hlk : meth.locks = false := BodyLoose.notSynchronized Bd
  show Goal p e below s (QT3_0 Z va vl vt y0 y1 y2 z0 z1 z3 h0 n0) 0 0 (s₁.setTop (entryFrame m #[(.ref va), (.ref vt), (.int (3 : Int32)), (.int (0 : Int32))] 4))
  refine Goal.to (B := s₁.setTop (mkF m 0 #[.val (.ref va), .val (.ref vt), .val (.int (3 : Int32)), .val (.int (0 : Int32))] [])) (fun tt kk => castTop (ef_5 m va vt (3 : Int32) (0 : Int32) ) kk) ?_
  refine Goal.to (B := s₁.setTop (mkF m 9 #[.val (.ref va), .val (.ref vt), .val (.int (3 : Int32)), .val (.int (0 : Int32))] [(.int (0 : Int32)), (.ref va)])) (fun tt kk => ?_) ?_
  · show Steps p.tables e below (s₁.setTop (mkF m 0 #[.val (.ref va), .val (.ref vt), .val (.int (3 : Int32)), .val (.int (0 : Int32))] [])) tt
    refine XS.iloadN X0.here hx rfl (hb hby d5_0) rfl ?_
    show Steps p.tables e below (s₁.setTop (mkF m 1 #[.val (.ref va), .val (.ref vt), .val (.int (3 : Int32)), .val (.int (0 : Int32))] [(.int (0 : Int32))])) tt
    refine XS.iloadN X0.here hx rfl (hb hby d5_1) rfl ?_
    show Steps p.tables e below (s₁.setTop (mkF m 2 #[.val (.ref va), .val (.ref vt), .val (.int (3 : Int32)), .val (.int (0 : Int32))] [(.int (3 : Int32)), (.int (0 : Int32))])) tt
    refine XS.icmpYes X0.here hx rfl (pc0 := 2) (pc' := 7) rfl (hb hby d5_2) rfl (tlt ((by decide) : (0 : Int32) < (3 : Int32))).1 (by decide) (by decide) ?_
    show Steps p.tables e below (s₁.setTop (mkF m 7 #[.val (.ref va), .val (.ref vt), .val (.int (3 : Int32)), .val (.int (0 : Int32))] [])) tt
    refine XS.aloadN X0.here hx rfl (hb hby d5_7) rfl rfl ?_
    show Steps p.tables e below (s₁.setTop (mkF m 8 #[.val (.ref va), .val (.ref vt), .val (.int (3 : Int32)), .val (.int (0 : Int32))] [(.ref va)])) tt
    refine XS.iloadN X0.here hx rfl (hb hby d5_8) rfl ?_
    exact kk
  obtain ⟨cq1, kq1, q1a, q1b, q1c⟩ := isOf hZ e0 E_va
  obtain ⟨_, _, ⟨T1, L1, k1, n1⟩, -, X1, ⟨Lc1, hQ1, l1, y1, z1⟩, st1⟩ := X0.virtualBack hx (y := (⟨"com/example/enodia/enodia/routing/RouteBuffer", "getLink", "(I)I"⟩ : MethodName)) (z := (⟨"com/example/enodia/enodia/routing/RouteBuffer", "getLink", "(I)I"⟩ : MethodName)) hown (mvT hZ (hw _ (mw 34 rfl))) (mvT hZ (hw _ (mw 35 rfl))) (notFace_of_selects (args := #[]) (mvT hZ (hw _ (mw 37 rfl)))) (mvT hZ (hw _ (mw 37 rfl))) (mvT hZ (hw _ (mw 36 rfl))) (by decide) (backOf (W := 0) (rmG3_0 l Z a0 hw [] va vl y0 y1 y2 h0 n0 Z0 F_linkCount_va F_links_va V_vl) hZ (hw _ (mw 38 rfl)) (hw _ (mw 4 rfl)) (by decide) (by decide)) q1a q1c (g := (mkF m 9 #[.val (.ref va), .val (.ref vt), .val (.int (3 : Int32)), .val (.int (0 : Int32))] [(.int (0 : Int32)), (.ref va)])) rfl (by rw [hml]; rfl) (Steps.refl _) (argsL := [(.int (0 : Int32))]) (rest := []) (lenOf pd_4 rfl) rfl (by show 2 * 0 + _ ≤ _; exact Nat.le_of_eq rfl) (hb hby d5_9) (fun _ _ => ⟨rfl, e0, (by decide : 0 + 0 ≤ _), (by decide : 0 + 0 ≤ _)⟩)
  dsimp only [Pt.U, Pt.locs, Pt.cells, Pt.slots] at X1 l1 y1 z1 st1 hQ1
  subst l1 y1 z1
  obtain ⟨rfl, N1q, e1⟩ := hQ1
  have N1 := Fr.app N0 N1q
  refine Goal.tr (B := T1.setTop (mkF m 12 #[.val (.ref va), .val (.ref vt), .val (.int (3 : Int32)), .val (.int (0 : Int32))] [(.int y0)])) st1 ?_
  refine Goal.to (B := T1.setTop (mkF m 18 #[.val (.ref va), .val (.ref vt), .val (.int (3 : Int32)), .val (.int (0 : Int32))] [(.int (2 : Int32)), (.ref vt), (.int y0)])) (fun tt kk => ?_) ?_
  · show Steps p.tables e below (T1.setTop (mkF m 12 #[.val (.ref va), .val (.ref vt), .val (.int (3 : Int32)), .val (.int (0 : Int32))] [(.int y0)])) tt
    refine XS.aloadN X1.here hx rfl (hb hby d5_12) rfl rfl ?_
    show Steps p.tables e below (T1.setTop (mkF m 13 #[.val (.ref va), .val (.ref vt), .val (.int (3 : Int32)), .val (.int (0 : Int32))] [(.ref vt), (.int y0)])) tt
    refine XS.iloadN X1.here hx rfl (hb hby d5_13) rfl ?_
    show Steps p.tables e below (T1.setTop (mkF m 14 #[.val (.ref va), .val (.ref vt), .val (.int (3 : Int32)), .val (.int (0 : Int32))] [(.int (3 : Int32)), (.ref vt), (.int y0)])) tt
    refine XS.iconst X1.here hx rfl (hb hby d5_14) ?_
    show Steps p.tables e below (T1.setTop (mkF m 15 #[.val (.ref va), .val (.ref vt), .val (.int (3 : Int32)), .val (.int (0 : Int32))] [(.int (1 : Int32)), (.int (3 : Int32)), (.ref vt), (.int y0)])) tt
    refine XS.isub X1.here hx rfl (hb hby d5_15) rfl ?_
    show Steps p.tables e below (T1.setTop (mkF m 16 #[.val (.ref va), .val (.ref vt), .val (.int (3 : Int32)), .val (.int (0 : Int32))] [(.int (2 : Int32)), (.ref vt), (.int y0)])) tt
    refine XS.iloadN X1.here hx rfl (hb hby d5_16) rfl ?_
    show Steps p.tables e below (T1.setTop (mkF m 17 #[.val (.ref va), .val (.ref vt), .val (.int (3 : Int32)), .val (.int (0 : Int32))] [(.int (0 : Int32)), (.int (2 : Int32)), (.ref vt), (.int y0)])) tt
    refine XS.isub X1.here hx rfl (hb hby d5_17) rfl ?_
    exact kk
  obtain ⟨cl2, Ar2, Sl2⟩ := id V_vt
  have hin2 := inA (cl := cl2) Sl2 (j := (2 : Int32)) (by decide) (Nat.le_of_ble_eq_true rfl)
  have hat2 : cl2.slots[((2 : Int32)).toNatClampNeg]? = some (.int y0) := atA Sl2 rfl
  refine Goal.to (B := T1.setTop (mkF m 27 #[.val (.ref va), .val (.ref vt), .val (.int (3 : Int32)), .val (.int (0 : Int32))] [(.int (1 : Int32))])) (fun tt kk => ?_) ?_
  · show Steps p.tables e below (T1.setTop (mkF m 18 #[.val (.ref va), .val (.ref vt), .val (.int (3 : Int32)), .val (.int (0 : Int32))] [(.int (2 : Int32)), (.ref vt), (.int y0)])) tt
    refine X1.iaload hx (j := (2 : Int32)) (v := (.int y0)) (by rw [e1]; exact Ar2.1) (State.isArrayOf_alike hZ.alike Ar2.2.1) Ar2.2.2 hin2 hat2 (g := (mkF m 18 #[.val (.ref va), .val (.ref vt), .val (.int (3 : Int32)), .val (.int (0 : Int32))] [(.int (2 : Int32)), (.ref vt), (.int y0)])) rfl rfl (hb hby d5_18) _ ?_
    show Steps p.tables e below (T1.setTop (mkF m 19 #[.val (.ref va), .val (.ref vt), .val (.int (3 : Int32)), .val (.int (0 : Int32))] [(.int y0), (.int y0)])) tt
    refine XS.icmpNo X1.here hx rfl (hb hby d5_19) rfl (teq (rfl : y0 = y0)).2 ?_
    show Steps p.tables e below (T1.setTop (mkF m 22 #[.val (.ref va), .val (.ref vt), .val (.int (3 : Int32)), .val (.int (0 : Int32))] [])) tt
    refine XS.iconst X1.here hx rfl (hb hby d5_22) ?_
    show Steps p.tables e below (T1.setTop (mkF m 23 #[.val (.ref va), .val (.ref vt), .val (.int (3 : Int32)), .val (.int (0 : Int32))] [(.int (1 : Int32))])) tt
    refine XS.goto X1.here hx rfl (pc0 := 23) (pc' := 27) rfl (hb hby d5_23) (by decide) (by decide) ?_
    exact kk
  exact Goal.retV X1 hx Bd.returns rfl (Or.inl ⟨rfl, Or.inr (Or.inl rfl), _, rfl⟩) (hb hby d5_27) hlk e1 ⟨rfl, N1, rfl⟩ (by decide) (by decide)
def QG3_1 (Z : State) (va : Addr) (vl : Addr) (y0 : Int32) (y1 : Int32) (y2 : Int32) (h0 : Heap) (n0 : Nat) (v : Option Value) (h : Heap) (L : List Loc) : Prop := v = some (.int y1) ∧ Fr n0 L ∧ h = h0
set_option maxRecDepth 65536 in
set_option maxHeartbeats 40000000 in
theorem rmG3_1 (l : Launch) (Z : State) (a0 : Array Value) (hw : ∀ d ∈ tables_1, d.before a0 Z = true) (ws : List Jvm.Cond) (va : Addr) (vl : Addr) (y0 : Int32) (y1 : Int32) (y2 : Int32) (h0 : Heap) (n0 : Nat) (Z0 : n0 ≤ h0.size) (F_linkCount_va : Fld Z h0 va "com/example/enodia/enodia/routing/RouteBuffer" "linkCount" "I" (.int (3 : Int32))) (F_links_va : Fld Z h0 va "com/example/enodia/enodia/routing/RouteBuffer" "links" "[I" (.ref vl)) (V_vl : Ary Z h0 vl .int [(.int y0), (.int y1), (.int y2), (.int (0 : Int32)), (.int (0 : Int32)), (.int (0 : Int32)), (.int (0 : Int32)), (.int (0 : Int32)), (.int (0 : Int32)), (.int (0 : Int32)), (.int (0 : Int32)), (.int (0 : Int32)), (.int (0 : Int32)), (.int (0 : Int32)), (.int (0 : Int32)), (.int (0 : Int32))]) :
    MetFree l (⟨"com/example/enodia/enodia/routing/RouteBuffer", "getLink", "(I)I"⟩ : MethodName) (head1 (Jvm.Cond.code (⟨"com/example/enodia/enodia/routing/RouteBuffer", "getLink", "(I)I"⟩ : MethodName) prog_66_method_3_code 2 (some .int) :: ws) ({ frames := 0, cells := 0, slots := 0, locals := 0 } : Room)) (fun a U => a = #[(.ref va), (.int (1 : Int32))] ∧ Z.Warmed39 U.vm ∧ U.heap = h0) (fun _ _ _ _ _ => True) (fun _ U o U' => ∃ v L, o = .returned v ∧ QG3_1 Z va vl y0 y1 y2 h0 n0 v U'.heap L ∧ FrameEnd U o U' L 0 0) := by
  refine MetFree.of_bodySF (plainFor_of_name pn_7) hisR ?_
  intro p e s m args below meth c s₁ Bd hml0 hP hK
  obtain ⟨rfl, hZ, hh⟩ := hP
  have hx := Bd.exec
  have hby := Bd.bytes
  have hml : c.maxLocals = 2 := hml0
  have hown : s.vm.findClass "com/example/enodia/enodia/routing/RouteBuffer" = some m.cls := findClass_of_methodNamed Bd.named
  have hnm := (name_of_methodNamed Bd.named Bd.method).1
  have X0 : Stand p l e ({ frames := 0, cells := 0, slots := 0, locals := 0 } : Room) s m #[(.ref va), (.int (1 : Int32))] below meth c s₁ [] 0 0 := Stand.of_body Bd
  have e0 : s₁.heap = h0 := by rw [← hh, Bd.state]; rfl
  have N0 := Fr.nil n0
  have hlk : meth.locks = false := BodyLoose.notSynchronized Bd
  show Goal p e below s (QG3_1 Z va vl y0 y1 y2 h0 n0) 0 0 (s₁.setTop (entryFrame m #[(.ref va), (.int (1 : Int32))] 2))
  refine Goal.to (B := s₁.setTop (mkF m 0 #[.val (.ref va), .val (.int (1 : Int32))] [])) (fun tt kk => castTop (ef_7 m va (1 : Int32) ) kk) ?_
  refine Goal.to (B := s₁.setTop (mkF m 6 #[.val (.ref va), .val (.int (1 : Int32))] [(.ref va), (.int (1 : Int32))])) (fun tt kk => ?_) ?_
  · show Steps p.tables e below (s₁.setTop (mkF m 0 #[.val (.ref va), .val (.int (1 : Int32))] [])) tt
    refine XS.iloadN X0.here hx rfl (hb hby d7_0) rfl ?_
    show Steps p.tables e below (s₁.setTop (mkF m 1 #[.val (.ref va), .val (.int (1 : Int32))] [(.int (1 : Int32))])) tt
    refine XS.ifNo X0.here hx rfl (hb hby d7_1) rfl ((if0 _ _).trans (flt ((by decide) : ¬ ((1 : Int32) < (0 : Int32)))).1) ?_
    show Steps p.tables e below (s₁.setTop (mkF m 4 #[.val (.ref va), .val (.int (1 : Int32))] [])) tt
    refine XS.iloadN X0.here hx rfl (hb hby d7_4) rfl ?_
    show Steps p.tables e below (s₁.setTop (mkF m 5 #[.val (.ref va), .val (.int (1 : Int32))] [(.int (1 : Int32))])) tt
    refine XS.aloadN X0.here hx rfl (hb hby d7_5) rfl rfl ?_
    exact kk
  obtain ⟨T1, X1, e1, st1⟩ := getF X0 hx hZ hown (host := "") (Or.inl (hw _ (mw 18 rfl))) Via.refl e0 F_linkCount_va (g := (mkF m 6 #[.val (.ref va), .val (.int (1 : Int32))] [(.ref va), (.int (1 : Int32))])) rfl rfl (hb hby d7_6)
  refine Goal.to (B := T1.setTop (mkF m 9 #[.val (.ref va), .val (.int (1 : Int32))] [(.int (3 : Int32)), (.int (1 : Int32))])) st1 ?_
  refine Goal.to (B := T1.setTop (mkF m 31 #[.val (.ref va), .val (.int (1 : Int32))] [(.ref va)])) (fun tt kk => ?_) ?_
  · show Steps p.tables e below (T1.setTop (mkF m 9 #[.val (.ref va), .val (.int (1 : Int32))] [(.int (3 : Int32)), (.int (1 : Int32))])) tt
    refine XS.icmpYes X1.here hx rfl (pc0 := 9) (pc' := 30) rfl (hb hby d7_9) rfl (tlt ((by decide) : (1 : Int32) < (3 : Int32))).1 (by decide) (by decide) ?_
    show Steps p.tables e below (T1.setTop (mkF m 30 #[.val (.ref va), .val (.int (1 : Int32))] [])) tt
    refine XS.aloadN X1.here hx rfl (hb hby d7_30) rfl rfl ?_
    exact kk
  obtain ⟨T2, X2, e2, st2⟩ := getF X1 hx hZ hown (host := "") (Or.inl (hw _ (mw 11 rfl))) Via.refl e1 F_links_va (g := (mkF m 31 #[.val (.ref va), .val (.int (1 : Int32))] [(.ref va)])) rfl rfl (hb hby d7_31)
  refine Goal.to (B := T2.setTop (mkF m 34 #[.val (.ref va), .val (.int (1 : Int32))] [(.ref vl)])) st2 ?_
  refine Goal.to (B := T2.setTop (mkF m 35 #[.val (.ref va), .val (.int (1 : Int32))] [(.int (1 : Int32)), (.ref vl)])) (fun tt kk => ?_) ?_
  · show Steps p.tables e below (T2.setTop (mkF m 34 #[.val (.ref va), .val (.int (1 : Int32))] [(.ref vl)])) tt
    refine XS.iloadN X2.here hx rfl (hb hby d7_34) rfl ?_
    exact kk
  obtain ⟨cl3, Ar3, Sl3⟩ := id V_vl
  have hin3 := inA (cl := cl3) Sl3 (j := (1 : Int32)) (by decide) (Nat.le_of_ble_eq_true rfl)
  have hat3 : cl3.slots[((1 : Int32)).toNatClampNeg]? = some (.int y1) := atA Sl3 rfl
  refine Goal.to (B := T2.setTop (mkF m 36 #[.val (.ref va), .val (.int (1 : Int32))] [(.int y1)])) (fun tt kk => ?_) ?_
  · show Steps p.tables e below (T2.setTop (mkF m 35 #[.val (.ref va), .val (.int (1 : Int32))] [(.int (1 : Int32)), (.ref vl)])) tt
    refine X2.iaload hx (j := (1 : Int32)) (v := (.int y1)) (by rw [e2]; exact Ar3.1) (State.isArrayOf_alike hZ.alike Ar3.2.1) Ar3.2.2 hin3 hat3 (g := (mkF m 35 #[.val (.ref va), .val (.int (1 : Int32))] [(.int (1 : Int32)), (.ref vl)])) rfl rfl (hb hby d7_35) _ ?_
    exact kk
  exact Goal.retV X2 hx Bd.returns rfl (Or.inl ⟨rfl, Or.inl rfl, _, rfl⟩) (hb hby d7_36) hlk e2 ⟨rfl, N0, rfl⟩ (by decide) (by decide)
def QT3_1 (Z : State) (va : Addr) (vl : Addr) (vt : Addr) (y0 : Int32) (y1 : Int32) (y2 : Int32) (z0 : Int32) (z2 : Int32) (z3 : Int32) (h0 : Heap) (n0 : Nat) (v : Option Value) (h : Heap) (L : List Loc) : Prop := v = some (.int (1 : Int32)) ∧ Fr n0 L ∧ h = h0
set_option maxRecDepth 65536 in
set_option maxHeartbeats 40000000 in
theorem rmT3_1 (l : Launch) (Z : State) (a0 : Array Value) (hw : ∀ d ∈ tables_1, d.before a0 Z = true) (ws : List Jvm.Cond) (va : Addr) (vl : Addr) (vt : Addr) (y0 : Int32) (y1 : Int32) (y2 : Int32) (z0 : Int32) (z2 : Int32) (z3 : Int32) (h0 : Heap) (n0 : Nat) (Z0 : n0 ≤ h0.size) (E_va : Exa Z h0 va "com/example/enodia/enodia/routing/RouteBuffer") (F_linkCount_va : Fld Z h0 va "com/example/enodia/enodia/routing/RouteBuffer" "linkCount" "I" (.int (3 : Int32))) (F_links_va : Fld Z h0 va "com/example/enodia/enodia/routing/RouteBuffer" "links" "[I" (.ref vl)) (V_vl : Ary Z h0 vl .int [(.int y0), (.int y1), (.int y2), (.int (0 : Int32)), (.int (0 : Int32)), (.int (0 : Int32)), (.int (0 : Int32)), (.int (0 : Int32)), (.int (0 : Int32)), (.int (0 : Int32)), (.int (0 : Int32)), (.int (0 : Int32)), (.int (0 : Int32)), (.int (0 : Int32)), (.int (0 : Int32)), (.int (0 : Int32))]) (V_vt : Ary Z h0 vt .int [(.int z0), (.int y1), (.int z2), (.int z3)]) :
    MetFree l (⟨"com/example/enodia/enodia/routing/RouteBufferReversePinLaw", "at", "(Lcom/example/enodia/enodia/routing/RouteBuffer;[III)Z"⟩ : MethodName) (head1 (Jvm.Cond.code (⟨"com/example/enodia/enodia/routing/RouteBufferReversePinLaw", "at", "(Lcom/example/enodia/enodia/routing/RouteBuffer;[III)Z"⟩ : MethodName) method_2_code 4 (some .boolean) :: ws) ({ frames := 1, cells := 0, slots := 0, locals := 13 } : Room)) (fun a U => a = #[(.ref va), (.ref vt), (.int (3 : Int32)), (.int (1 : Int32))] ∧ Z.Warmed39 U.vm ∧ U.heap = h0) (fun _ _ _ _ _ => True) (fun _ U o U' => ∃ v L, o = .returned v ∧ QT3_1 Z va vl vt y0 y1 y2 z0 z2 z3 h0 n0 v U'.heap L ∧ FrameEnd U o U' L 0 0) := by
  refine MetFree.of_bodySF (plainFor_of_name pn_5) hisR ?_
  intro p e s m args below meth c s₁ Bd hml0 hP hK
  obtain ⟨rfl, hZ, hh⟩ := hP
  have hx := Bd.exec
  have hby := Bd.bytes
  have hml : c.maxLocals = 4 := hml0
  have hown : s.vm.findClass "com/example/enodia/enodia/routing/RouteBufferReversePinLaw" = some m.cls := findClass_of_methodNamed Bd.named
  have hnm := (name_of_methodNamed Bd.named Bd.method).1
  have X0 : Stand p l e ({ frames := 1, cells := 0, slots := 0, locals := 13 } : Room) s m #[(.ref va), (.ref vt), (.int (3 : Int32)), (.int (1 : Int32))] below meth c s₁ [] 0 0 := Stand.of_body Bd
  have e0 : s₁.heap = h0 := by rw [← hh, Bd.state]; rfl
  have N0 := Fr.nil n0
  have hlk : meth.locks = false := BodyLoose.notSynchronized Bd
  show Goal p e below s (QT3_1 Z va vl vt y0 y1 y2 z0 z2 z3 h0 n0) 0 0 (s₁.setTop (entryFrame m #[(.ref va), (.ref vt), (.int (3 : Int32)), (.int (1 : Int32))] 4))
  refine Goal.to (B := s₁.setTop (mkF m 0 #[.val (.ref va), .val (.ref vt), .val (.int (3 : Int32)), .val (.int (1 : Int32))] [])) (fun tt kk => castTop (ef_5 m va vt (3 : Int32) (1 : Int32) ) kk) ?_
  refine Goal.to (B := s₁.setTop (mkF m 9 #[.val (.ref va), .val (.ref vt), .val (.int (3 : Int32)), .val (.int (1 : Int32))] [(.int (1 : Int32)), (.ref va)])) (fun tt kk => ?_) ?_
  · show Steps p.tables e below (s₁.setTop (mkF m 0 #[.val (.ref va), .val (.ref vt), .val (.int (3 : Int32)), .val (.int (1 : Int32))] [])) tt
    refine XS.iloadN X0.here hx rfl (hb hby d5_0) rfl ?_
    show Steps p.tables e below (s₁.setTop (mkF m 1 #[.val (.ref va), .val (.ref vt), .val (.int (3 : Int32)), .val (.int (1 : Int32))] [(.int (1 : Int32))])) tt
    refine XS.iloadN X0.here hx rfl (hb hby d5_1) rfl ?_
    show Steps p.tables e below (s₁.setTop (mkF m 2 #[.val (.ref va), .val (.ref vt), .val (.int (3 : Int32)), .val (.int (1 : Int32))] [(.int (3 : Int32)), (.int (1 : Int32))])) tt
    refine XS.icmpYes X0.here hx rfl (pc0 := 2) (pc' := 7) rfl (hb hby d5_2) rfl (tlt ((by decide) : (1 : Int32) < (3 : Int32))).1 (by decide) (by decide) ?_
    show Steps p.tables e below (s₁.setTop (mkF m 7 #[.val (.ref va), .val (.ref vt), .val (.int (3 : Int32)), .val (.int (1 : Int32))] [])) tt
    refine XS.aloadN X0.here hx rfl (hb hby d5_7) rfl rfl ?_
    show Steps p.tables e below (s₁.setTop (mkF m 8 #[.val (.ref va), .val (.ref vt), .val (.int (3 : Int32)), .val (.int (1 : Int32))] [(.ref va)])) tt
    refine XS.iloadN X0.here hx rfl (hb hby d5_8) rfl ?_
    exact kk
  obtain ⟨cq1, kq1, q1a, q1b, q1c⟩ := isOf hZ e0 E_va
  obtain ⟨_, _, ⟨T1, L1, k1, n1⟩, -, X1, ⟨Lc1, hQ1, l1, y1, z1⟩, st1⟩ := X0.virtualBack hx (y := (⟨"com/example/enodia/enodia/routing/RouteBuffer", "getLink", "(I)I"⟩ : MethodName)) (z := (⟨"com/example/enodia/enodia/routing/RouteBuffer", "getLink", "(I)I"⟩ : MethodName)) hown (mvT hZ (hw _ (mw 34 rfl))) (mvT hZ (hw _ (mw 35 rfl))) (notFace_of_selects (args := #[]) (mvT hZ (hw _ (mw 37 rfl)))) (mvT hZ (hw _ (mw 37 rfl))) (mvT hZ (hw _ (mw 36 rfl))) (by decide) (backOf (W := 0) (rmG3_1 l Z a0 hw [] va vl y0 y1 y2 h0 n0 Z0 F_linkCount_va F_links_va V_vl) hZ (hw _ (mw 38 rfl)) (hw _ (mw 4 rfl)) (by decide) (by decide)) q1a q1c (g := (mkF m 9 #[.val (.ref va), .val (.ref vt), .val (.int (3 : Int32)), .val (.int (1 : Int32))] [(.int (1 : Int32)), (.ref va)])) rfl (by rw [hml]; rfl) (Steps.refl _) (argsL := [(.int (1 : Int32))]) (rest := []) (lenOf pd_4 rfl) rfl (by show 2 * 0 + _ ≤ _; exact Nat.le_of_eq rfl) (hb hby d5_9) (fun _ _ => ⟨rfl, e0, (by decide : 0 + 0 ≤ _), (by decide : 0 + 0 ≤ _)⟩)
  dsimp only [Pt.U, Pt.locs, Pt.cells, Pt.slots] at X1 l1 y1 z1 st1 hQ1
  subst l1 y1 z1
  obtain ⟨rfl, N1q, e1⟩ := hQ1
  have N1 := Fr.app N0 N1q
  refine Goal.tr (B := T1.setTop (mkF m 12 #[.val (.ref va), .val (.ref vt), .val (.int (3 : Int32)), .val (.int (1 : Int32))] [(.int y1)])) st1 ?_
  refine Goal.to (B := T1.setTop (mkF m 18 #[.val (.ref va), .val (.ref vt), .val (.int (3 : Int32)), .val (.int (1 : Int32))] [(.int (1 : Int32)), (.ref vt), (.int y1)])) (fun tt kk => ?_) ?_
  · show Steps p.tables e below (T1.setTop (mkF m 12 #[.val (.ref va), .val (.ref vt), .val (.int (3 : Int32)), .val (.int (1 : Int32))] [(.int y1)])) tt
    refine XS.aloadN X1.here hx rfl (hb hby d5_12) rfl rfl ?_
    show Steps p.tables e below (T1.setTop (mkF m 13 #[.val (.ref va), .val (.ref vt), .val (.int (3 : Int32)), .val (.int (1 : Int32))] [(.ref vt), (.int y1)])) tt
    refine XS.iloadN X1.here hx rfl (hb hby d5_13) rfl ?_
    show Steps p.tables e below (T1.setTop (mkF m 14 #[.val (.ref va), .val (.ref vt), .val (.int (3 : Int32)), .val (.int (1 : Int32))] [(.int (3 : Int32)), (.ref vt), (.int y1)])) tt
    refine XS.iconst X1.here hx rfl (hb hby d5_14) ?_
    show Steps p.tables e below (T1.setTop (mkF m 15 #[.val (.ref va), .val (.ref vt), .val (.int (3 : Int32)), .val (.int (1 : Int32))] [(.int (1 : Int32)), (.int (3 : Int32)), (.ref vt), (.int y1)])) tt
    refine XS.isub X1.here hx rfl (hb hby d5_15) rfl ?_
    show Steps p.tables e below (T1.setTop (mkF m 16 #[.val (.ref va), .val (.ref vt), .val (.int (3 : Int32)), .val (.int (1 : Int32))] [(.int (2 : Int32)), (.ref vt), (.int y1)])) tt
    refine XS.iloadN X1.here hx rfl (hb hby d5_16) rfl ?_
    show Steps p.tables e below (T1.setTop (mkF m 17 #[.val (.ref va), .val (.ref vt), .val (.int (3 : Int32)), .val (.int (1 : Int32))] [(.int (1 : Int32)), (.int (2 : Int32)), (.ref vt), (.int y1)])) tt
    refine XS.isub X1.here hx rfl (hb hby d5_17) rfl ?_
    exact kk
  obtain ⟨cl2, Ar2, Sl2⟩ := id V_vt
  have hin2 := inA (cl := cl2) Sl2 (j := (1 : Int32)) (by decide) (Nat.le_of_ble_eq_true rfl)
  have hat2 : cl2.slots[((1 : Int32)).toNatClampNeg]? = some (.int y1) := atA Sl2 rfl
  refine Goal.to (B := T1.setTop (mkF m 27 #[.val (.ref va), .val (.ref vt), .val (.int (3 : Int32)), .val (.int (1 : Int32))] [(.int (1 : Int32))])) (fun tt kk => ?_) ?_
  · show Steps p.tables e below (T1.setTop (mkF m 18 #[.val (.ref va), .val (.ref vt), .val (.int (3 : Int32)), .val (.int (1 : Int32))] [(.int (1 : Int32)), (.ref vt), (.int y1)])) tt
    refine X1.iaload hx (j := (1 : Int32)) (v := (.int y1)) (by rw [e1]; exact Ar2.1) (State.isArrayOf_alike hZ.alike Ar2.2.1) Ar2.2.2 hin2 hat2 (g := (mkF m 18 #[.val (.ref va), .val (.ref vt), .val (.int (3 : Int32)), .val (.int (1 : Int32))] [(.int (1 : Int32)), (.ref vt), (.int y1)])) rfl rfl (hb hby d5_18) _ ?_
    show Steps p.tables e below (T1.setTop (mkF m 19 #[.val (.ref va), .val (.ref vt), .val (.int (3 : Int32)), .val (.int (1 : Int32))] [(.int y1), (.int y1)])) tt
    refine XS.icmpNo X1.here hx rfl (hb hby d5_19) rfl (teq (rfl : y1 = y1)).2 ?_
    show Steps p.tables e below (T1.setTop (mkF m 22 #[.val (.ref va), .val (.ref vt), .val (.int (3 : Int32)), .val (.int (1 : Int32))] [])) tt
    refine XS.iconst X1.here hx rfl (hb hby d5_22) ?_
    show Steps p.tables e below (T1.setTop (mkF m 23 #[.val (.ref va), .val (.ref vt), .val (.int (3 : Int32)), .val (.int (1 : Int32))] [(.int (1 : Int32))])) tt
    refine XS.goto X1.here hx rfl (pc0 := 23) (pc' := 27) rfl (hb hby d5_23) (by decide) (by decide) ?_
    exact kk
  exact Goal.retV X1 hx Bd.returns rfl (Or.inl ⟨rfl, Or.inr (Or.inl rfl), _, rfl⟩) (hb hby d5_27) hlk e1 ⟨rfl, N1, rfl⟩ (by decide) (by decide)
def QG3_2 (Z : State) (va : Addr) (vl : Addr) (y0 : Int32) (y1 : Int32) (y2 : Int32) (h0 : Heap) (n0 : Nat) (v : Option Value) (h : Heap) (L : List Loc) : Prop := v = some (.int y2) ∧ Fr n0 L ∧ h = h0
set_option maxRecDepth 65536 in
set_option maxHeartbeats 40000000 in
theorem rmG3_2 (l : Launch) (Z : State) (a0 : Array Value) (hw : ∀ d ∈ tables_1, d.before a0 Z = true) (ws : List Jvm.Cond) (va : Addr) (vl : Addr) (y0 : Int32) (y1 : Int32) (y2 : Int32) (h0 : Heap) (n0 : Nat) (Z0 : n0 ≤ h0.size) (F_linkCount_va : Fld Z h0 va "com/example/enodia/enodia/routing/RouteBuffer" "linkCount" "I" (.int (3 : Int32))) (F_links_va : Fld Z h0 va "com/example/enodia/enodia/routing/RouteBuffer" "links" "[I" (.ref vl)) (V_vl : Ary Z h0 vl .int [(.int y0), (.int y1), (.int y2), (.int (0 : Int32)), (.int (0 : Int32)), (.int (0 : Int32)), (.int (0 : Int32)), (.int (0 : Int32)), (.int (0 : Int32)), (.int (0 : Int32)), (.int (0 : Int32)), (.int (0 : Int32)), (.int (0 : Int32)), (.int (0 : Int32)), (.int (0 : Int32)), (.int (0 : Int32))]) :
    MetFree l (⟨"com/example/enodia/enodia/routing/RouteBuffer", "getLink", "(I)I"⟩ : MethodName) (head1 (Jvm.Cond.code (⟨"com/example/enodia/enodia/routing/RouteBuffer", "getLink", "(I)I"⟩ : MethodName) prog_66_method_3_code 2 (some .int) :: ws) ({ frames := 0, cells := 0, slots := 0, locals := 0 } : Room)) (fun a U => a = #[(.ref va), (.int (2 : Int32))] ∧ Z.Warmed39 U.vm ∧ U.heap = h0) (fun _ _ _ _ _ => True) (fun _ U o U' => ∃ v L, o = .returned v ∧ QG3_2 Z va vl y0 y1 y2 h0 n0 v U'.heap L ∧ FrameEnd U o U' L 0 0) := by
  refine MetFree.of_bodySF (plainFor_of_name pn_7) hisR ?_
  intro p e s m args below meth c s₁ Bd hml0 hP hK
  obtain ⟨rfl, hZ, hh⟩ := hP
  have hx := Bd.exec
  have hby := Bd.bytes
  have hml : c.maxLocals = 2 := hml0
  have hown : s.vm.findClass "com/example/enodia/enodia/routing/RouteBuffer" = some m.cls := findClass_of_methodNamed Bd.named
  have hnm := (name_of_methodNamed Bd.named Bd.method).1
  have X0 : Stand p l e ({ frames := 0, cells := 0, slots := 0, locals := 0 } : Room) s m #[(.ref va), (.int (2 : Int32))] below meth c s₁ [] 0 0 := Stand.of_body Bd
  have e0 : s₁.heap = h0 := by rw [← hh, Bd.state]; rfl
  have N0 := Fr.nil n0
  have hlk : meth.locks = false := BodyLoose.notSynchronized Bd
  show Goal p e below s (QG3_2 Z va vl y0 y1 y2 h0 n0) 0 0 (s₁.setTop (entryFrame m #[(.ref va), (.int (2 : Int32))] 2))
  refine Goal.to (B := s₁.setTop (mkF m 0 #[.val (.ref va), .val (.int (2 : Int32))] [])) (fun tt kk => castTop (ef_7 m va (2 : Int32) ) kk) ?_
  refine Goal.to (B := s₁.setTop (mkF m 6 #[.val (.ref va), .val (.int (2 : Int32))] [(.ref va), (.int (2 : Int32))])) (fun tt kk => ?_) ?_
  · show Steps p.tables e below (s₁.setTop (mkF m 0 #[.val (.ref va), .val (.int (2 : Int32))] [])) tt
    refine XS.iloadN X0.here hx rfl (hb hby d7_0) rfl ?_
    show Steps p.tables e below (s₁.setTop (mkF m 1 #[.val (.ref va), .val (.int (2 : Int32))] [(.int (2 : Int32))])) tt
    refine XS.ifNo X0.here hx rfl (hb hby d7_1) rfl ((if0 _ _).trans (flt ((by decide) : ¬ ((2 : Int32) < (0 : Int32)))).1) ?_
    show Steps p.tables e below (s₁.setTop (mkF m 4 #[.val (.ref va), .val (.int (2 : Int32))] [])) tt
    refine XS.iloadN X0.here hx rfl (hb hby d7_4) rfl ?_
    show Steps p.tables e below (s₁.setTop (mkF m 5 #[.val (.ref va), .val (.int (2 : Int32))] [(.int (2 : Int32))])) tt
    refine XS.aloadN X0.here hx rfl (hb hby d7_5) rfl rfl ?_
    exact kk
  obtain ⟨T1, X1, e1, st1⟩ := getF X0 hx hZ hown (host := "") (Or.inl (hw _ (mw 18 rfl))) Via.refl e0 F_linkCount_va (g := (mkF m 6 #[.val (.ref va), .val (.int (2 : Int32))] [(.ref va), (.int (2 : Int32))])) rfl rfl (hb hby d7_6)
  refine Goal.to (B := T1.setTop (mkF m 9 #[.val (.ref va), .val (.int (2 : Int32))] [(.int (3 : Int32)), (.int (2 : Int32))])) st1 ?_
  refine Goal.to (B := T1.setTop (mkF m 31 #[.val (.ref va), .val (.int (2 : Int32))] [(.ref va)])) (fun tt kk => ?_) ?_
  · show Steps p.tables e below (T1.setTop (mkF m 9 #[.val (.ref va), .val (.int (2 : Int32))] [(.int (3 : Int32)), (.int (2 : Int32))])) tt
    refine XS.icmpYes X1.here hx rfl (pc0 := 9) (pc' := 30) rfl (hb hby d7_9) rfl (tlt ((by decide) : (2 : Int32) < (3 : Int32))).1 (by decide) (by decide) ?_
    show Steps p.tables e below (T1.setTop (mkF m 30 #[.val (.ref va), .val (.int (2 : Int32))] [])) tt
    refine XS.aloadN X1.here hx rfl (hb hby d7_30) rfl rfl ?_
    exact kk
  obtain ⟨T2, X2, e2, st2⟩ := getF X1 hx hZ hown (host := "") (Or.inl (hw _ (mw 11 rfl))) Via.refl e1 F_links_va (g := (mkF m 31 #[.val (.ref va), .val (.int (2 : Int32))] [(.ref va)])) rfl rfl (hb hby d7_31)
  refine Goal.to (B := T2.setTop (mkF m 34 #[.val (.ref va), .val (.int (2 : Int32))] [(.ref vl)])) st2 ?_
  refine Goal.to (B := T2.setTop (mkF m 35 #[.val (.ref va), .val (.int (2 : Int32))] [(.int (2 : Int32)), (.ref vl)])) (fun tt kk => ?_) ?_
  · show Steps p.tables e below (T2.setTop (mkF m 34 #[.val (.ref va), .val (.int (2 : Int32))] [(.ref vl)])) tt
    refine XS.iloadN X2.here hx rfl (hb hby d7_34) rfl ?_
    exact kk
  obtain ⟨cl3, Ar3, Sl3⟩ := id V_vl
  have hin3 := inA (cl := cl3) Sl3 (j := (2 : Int32)) (by decide) (Nat.le_of_ble_eq_true rfl)
  have hat3 : cl3.slots[((2 : Int32)).toNatClampNeg]? = some (.int y2) := atA Sl3 rfl
  refine Goal.to (B := T2.setTop (mkF m 36 #[.val (.ref va), .val (.int (2 : Int32))] [(.int y2)])) (fun tt kk => ?_) ?_
  · show Steps p.tables e below (T2.setTop (mkF m 35 #[.val (.ref va), .val (.int (2 : Int32))] [(.int (2 : Int32)), (.ref vl)])) tt
    refine X2.iaload hx (j := (2 : Int32)) (v := (.int y2)) (by rw [e2]; exact Ar3.1) (State.isArrayOf_alike hZ.alike Ar3.2.1) Ar3.2.2 hin3 hat3 (g := (mkF m 35 #[.val (.ref va), .val (.int (2 : Int32))] [(.int (2 : Int32)), (.ref vl)])) rfl rfl (hb hby d7_35) _ ?_
    exact kk
  exact Goal.retV X2 hx Bd.returns rfl (Or.inl ⟨rfl, Or.inl rfl, _, rfl⟩) (hb hby d7_36) hlk e2 ⟨rfl, N0, rfl⟩ (by decide) (by decide)
def QT3_2 (Z : State) (va : Addr) (vl : Addr) (vt : Addr) (y0 : Int32) (y1 : Int32) (y2 : Int32) (z1 : Int32) (z2 : Int32) (z3 : Int32) (h0 : Heap) (n0 : Nat) (v : Option Value) (h : Heap) (L : List Loc) : Prop := v = some (.int (1 : Int32)) ∧ Fr n0 L ∧ h = h0
set_option maxRecDepth 65536 in
set_option maxHeartbeats 40000000 in
theorem rmT3_2 (l : Launch) (Z : State) (a0 : Array Value) (hw : ∀ d ∈ tables_1, d.before a0 Z = true) (ws : List Jvm.Cond) (va : Addr) (vl : Addr) (vt : Addr) (y0 : Int32) (y1 : Int32) (y2 : Int32) (z1 : Int32) (z2 : Int32) (z3 : Int32) (h0 : Heap) (n0 : Nat) (Z0 : n0 ≤ h0.size) (E_va : Exa Z h0 va "com/example/enodia/enodia/routing/RouteBuffer") (F_linkCount_va : Fld Z h0 va "com/example/enodia/enodia/routing/RouteBuffer" "linkCount" "I" (.int (3 : Int32))) (F_links_va : Fld Z h0 va "com/example/enodia/enodia/routing/RouteBuffer" "links" "[I" (.ref vl)) (V_vl : Ary Z h0 vl .int [(.int y0), (.int y1), (.int y2), (.int (0 : Int32)), (.int (0 : Int32)), (.int (0 : Int32)), (.int (0 : Int32)), (.int (0 : Int32)), (.int (0 : Int32)), (.int (0 : Int32)), (.int (0 : Int32)), (.int (0 : Int32)), (.int (0 : Int32)), (.int (0 : Int32)), (.int (0 : Int32)), (.int (0 : Int32))]) (V_vt : Ary Z h0 vt .int [(.int y2), (.int z1), (.int z2), (.int z3)]) :
    MetFree l (⟨"com/example/enodia/enodia/routing/RouteBufferReversePinLaw", "at", "(Lcom/example/enodia/enodia/routing/RouteBuffer;[III)Z"⟩ : MethodName) (head1 (Jvm.Cond.code (⟨"com/example/enodia/enodia/routing/RouteBufferReversePinLaw", "at", "(Lcom/example/enodia/enodia/routing/RouteBuffer;[III)Z"⟩ : MethodName) method_2_code 4 (some .boolean) :: ws) ({ frames := 1, cells := 0, slots := 0, locals := 13 } : Room)) (fun a U => a = #[(.ref va), (.ref vt), (.int (3 : Int32)), (.int (2 : Int32))] ∧ Z.Warmed39 U.vm ∧ U.heap = h0) (fun _ _ _ _ _ => True) (fun _ U o U' => ∃ v L, o = .returned v ∧ QT3_2 Z va vl vt y0 y1 y2 z1 z2 z3 h0 n0 v U'.heap L ∧ FrameEnd U o U' L 0 0) := by
  refine MetFree.of_bodySF (plainFor_of_name pn_5) hisR ?_
  intro p e s m args below meth c s₁ Bd hml0 hP hK
  obtain ⟨rfl, hZ, hh⟩ := hP
  have hx := Bd.exec
  have hby := Bd.bytes
  have hml : c.maxLocals = 4 := hml0
  have hown : s.vm.findClass "com/example/enodia/enodia/routing/RouteBufferReversePinLaw" = some m.cls := findClass_of_methodNamed Bd.named
  have hnm := (name_of_methodNamed Bd.named Bd.method).1
  have X0 : Stand p l e ({ frames := 1, cells := 0, slots := 0, locals := 13 } : Room) s m #[(.ref va), (.ref vt), (.int (3 : Int32)), (.int (2 : Int32))] below meth c s₁ [] 0 0 := Stand.of_body Bd
  have e0 : s₁.heap = h0 := by rw [← hh, Bd.state]; rfl
  have N0 := Fr.nil n0
  have hlk : meth.locks = false := BodyLoose.notSynchronized Bd
  show Goal p e below s (QT3_2 Z va vl vt y0 y1 y2 z1 z2 z3 h0 n0) 0 0 (s₁.setTop (entryFrame m #[(.ref va), (.ref vt), (.int (3 : Int32)), (.int (2 : Int32))] 4))
  refine Goal.to (B := s₁.setTop (mkF m 0 #[.val (.ref va), .val (.ref vt), .val (.int (3 : Int32)), .val (.int (2 : Int32))] [])) (fun tt kk => castTop (ef_5 m va vt (3 : Int32) (2 : Int32) ) kk) ?_
  refine Goal.to (B := s₁.setTop (mkF m 9 #[.val (.ref va), .val (.ref vt), .val (.int (3 : Int32)), .val (.int (2 : Int32))] [(.int (2 : Int32)), (.ref va)])) (fun tt kk => ?_) ?_
  · show Steps p.tables e below (s₁.setTop (mkF m 0 #[.val (.ref va), .val (.ref vt), .val (.int (3 : Int32)), .val (.int (2 : Int32))] [])) tt
    refine XS.iloadN X0.here hx rfl (hb hby d5_0) rfl ?_
    show Steps p.tables e below (s₁.setTop (mkF m 1 #[.val (.ref va), .val (.ref vt), .val (.int (3 : Int32)), .val (.int (2 : Int32))] [(.int (2 : Int32))])) tt
    refine XS.iloadN X0.here hx rfl (hb hby d5_1) rfl ?_
    show Steps p.tables e below (s₁.setTop (mkF m 2 #[.val (.ref va), .val (.ref vt), .val (.int (3 : Int32)), .val (.int (2 : Int32))] [(.int (3 : Int32)), (.int (2 : Int32))])) tt
    refine XS.icmpYes X0.here hx rfl (pc0 := 2) (pc' := 7) rfl (hb hby d5_2) rfl (tlt ((by decide) : (2 : Int32) < (3 : Int32))).1 (by decide) (by decide) ?_
    show Steps p.tables e below (s₁.setTop (mkF m 7 #[.val (.ref va), .val (.ref vt), .val (.int (3 : Int32)), .val (.int (2 : Int32))] [])) tt
    refine XS.aloadN X0.here hx rfl (hb hby d5_7) rfl rfl ?_
    show Steps p.tables e below (s₁.setTop (mkF m 8 #[.val (.ref va), .val (.ref vt), .val (.int (3 : Int32)), .val (.int (2 : Int32))] [(.ref va)])) tt
    refine XS.iloadN X0.here hx rfl (hb hby d5_8) rfl ?_
    exact kk
  obtain ⟨cq1, kq1, q1a, q1b, q1c⟩ := isOf hZ e0 E_va
  obtain ⟨_, _, ⟨T1, L1, k1, n1⟩, -, X1, ⟨Lc1, hQ1, l1, y1, z1⟩, st1⟩ := X0.virtualBack hx (y := (⟨"com/example/enodia/enodia/routing/RouteBuffer", "getLink", "(I)I"⟩ : MethodName)) (z := (⟨"com/example/enodia/enodia/routing/RouteBuffer", "getLink", "(I)I"⟩ : MethodName)) hown (mvT hZ (hw _ (mw 34 rfl))) (mvT hZ (hw _ (mw 35 rfl))) (notFace_of_selects (args := #[]) (mvT hZ (hw _ (mw 37 rfl)))) (mvT hZ (hw _ (mw 37 rfl))) (mvT hZ (hw _ (mw 36 rfl))) (by decide) (backOf (W := 0) (rmG3_2 l Z a0 hw [] va vl y0 y1 y2 h0 n0 Z0 F_linkCount_va F_links_va V_vl) hZ (hw _ (mw 38 rfl)) (hw _ (mw 4 rfl)) (by decide) (by decide)) q1a q1c (g := (mkF m 9 #[.val (.ref va), .val (.ref vt), .val (.int (3 : Int32)), .val (.int (2 : Int32))] [(.int (2 : Int32)), (.ref va)])) rfl (by rw [hml]; rfl) (Steps.refl _) (argsL := [(.int (2 : Int32))]) (rest := []) (lenOf pd_4 rfl) rfl (by show 2 * 0 + _ ≤ _; exact Nat.le_of_eq rfl) (hb hby d5_9) (fun _ _ => ⟨rfl, e0, (by decide : 0 + 0 ≤ _), (by decide : 0 + 0 ≤ _)⟩)
  dsimp only [Pt.U, Pt.locs, Pt.cells, Pt.slots] at X1 l1 y1 z1 st1 hQ1
  subst l1 y1 z1
  obtain ⟨rfl, N1q, e1⟩ := hQ1
  have N1 := Fr.app N0 N1q
  refine Goal.tr (B := T1.setTop (mkF m 12 #[.val (.ref va), .val (.ref vt), .val (.int (3 : Int32)), .val (.int (2 : Int32))] [(.int y2)])) st1 ?_
  refine Goal.to (B := T1.setTop (mkF m 18 #[.val (.ref va), .val (.ref vt), .val (.int (3 : Int32)), .val (.int (2 : Int32))] [(.int (0 : Int32)), (.ref vt), (.int y2)])) (fun tt kk => ?_) ?_
  · show Steps p.tables e below (T1.setTop (mkF m 12 #[.val (.ref va), .val (.ref vt), .val (.int (3 : Int32)), .val (.int (2 : Int32))] [(.int y2)])) tt
    refine XS.aloadN X1.here hx rfl (hb hby d5_12) rfl rfl ?_
    show Steps p.tables e below (T1.setTop (mkF m 13 #[.val (.ref va), .val (.ref vt), .val (.int (3 : Int32)), .val (.int (2 : Int32))] [(.ref vt), (.int y2)])) tt
    refine XS.iloadN X1.here hx rfl (hb hby d5_13) rfl ?_
    show Steps p.tables e below (T1.setTop (mkF m 14 #[.val (.ref va), .val (.ref vt), .val (.int (3 : Int32)), .val (.int (2 : Int32))] [(.int (3 : Int32)), (.ref vt), (.int y2)])) tt
    refine XS.iconst X1.here hx rfl (hb hby d5_14) ?_
    show Steps p.tables e below (T1.setTop (mkF m 15 #[.val (.ref va), .val (.ref vt), .val (.int (3 : Int32)), .val (.int (2 : Int32))] [(.int (1 : Int32)), (.int (3 : Int32)), (.ref vt), (.int y2)])) tt
    refine XS.isub X1.here hx rfl (hb hby d5_15) rfl ?_
    show Steps p.tables e below (T1.setTop (mkF m 16 #[.val (.ref va), .val (.ref vt), .val (.int (3 : Int32)), .val (.int (2 : Int32))] [(.int (2 : Int32)), (.ref vt), (.int y2)])) tt
    refine XS.iloadN X1.here hx rfl (hb hby d5_16) rfl ?_
    show Steps p.tables e below (T1.setTop (mkF m 17 #[.val (.ref va), .val (.ref vt), .val (.int (3 : Int32)), .val (.int (2 : Int32))] [(.int (2 : Int32)), (.int (2 : Int32)), (.ref vt), (.int y2)])) tt
    refine XS.isub X1.here hx rfl (hb hby d5_17) rfl ?_
    exact kk
  obtain ⟨cl2, Ar2, Sl2⟩ := id V_vt
  have hin2 := inA (cl := cl2) Sl2 (j := (0 : Int32)) (by decide) (Nat.le_of_ble_eq_true rfl)
  have hat2 : cl2.slots[((0 : Int32)).toNatClampNeg]? = some (.int y2) := atA Sl2 rfl
  refine Goal.to (B := T1.setTop (mkF m 27 #[.val (.ref va), .val (.ref vt), .val (.int (3 : Int32)), .val (.int (2 : Int32))] [(.int (1 : Int32))])) (fun tt kk => ?_) ?_
  · show Steps p.tables e below (T1.setTop (mkF m 18 #[.val (.ref va), .val (.ref vt), .val (.int (3 : Int32)), .val (.int (2 : Int32))] [(.int (0 : Int32)), (.ref vt), (.int y2)])) tt
    refine X1.iaload hx (j := (0 : Int32)) (v := (.int y2)) (by rw [e1]; exact Ar2.1) (State.isArrayOf_alike hZ.alike Ar2.2.1) Ar2.2.2 hin2 hat2 (g := (mkF m 18 #[.val (.ref va), .val (.ref vt), .val (.int (3 : Int32)), .val (.int (2 : Int32))] [(.int (0 : Int32)), (.ref vt), (.int y2)])) rfl rfl (hb hby d5_18) _ ?_
    show Steps p.tables e below (T1.setTop (mkF m 19 #[.val (.ref va), .val (.ref vt), .val (.int (3 : Int32)), .val (.int (2 : Int32))] [(.int y2), (.int y2)])) tt
    refine XS.icmpNo X1.here hx rfl (hb hby d5_19) rfl (teq (rfl : y2 = y2)).2 ?_
    show Steps p.tables e below (T1.setTop (mkF m 22 #[.val (.ref va), .val (.ref vt), .val (.int (3 : Int32)), .val (.int (2 : Int32))] [])) tt
    refine XS.iconst X1.here hx rfl (hb hby d5_22) ?_
    show Steps p.tables e below (T1.setTop (mkF m 23 #[.val (.ref va), .val (.ref vt), .val (.int (3 : Int32)), .val (.int (2 : Int32))] [(.int (1 : Int32))])) tt
    refine XS.goto X1.here hx rfl (pc0 := 23) (pc' := 27) rfl (hb hby d5_23) (by decide) (by decide) ?_
    exact kk
  exact Goal.retV X1 hx Bd.returns rfl (Or.inl ⟨rfl, Or.inr (Or.inl rfl), _, rfl⟩) (hb hby d5_27) hlk e1 ⟨rfl, N1, rfl⟩ (by decide) (by decide)
def QG4_0 (Z : State) (va : Addr) (vl : Addr) (y0 : Int32) (y1 : Int32) (y2 : Int32) (y3 : Int32) (h0 : Heap) (n0 : Nat) (v : Option Value) (h : Heap) (L : List Loc) : Prop := v = some (.int y0) ∧ Fr n0 L ∧ h = h0
set_option maxRecDepth 65536 in
set_option maxHeartbeats 40000000 in
theorem rmG4_0 (l : Launch) (Z : State) (a0 : Array Value) (hw : ∀ d ∈ tables_1, d.before a0 Z = true) (ws : List Jvm.Cond) (va : Addr) (vl : Addr) (y0 : Int32) (y1 : Int32) (y2 : Int32) (y3 : Int32) (h0 : Heap) (n0 : Nat) (Z0 : n0 ≤ h0.size) (F_linkCount_va : Fld Z h0 va "com/example/enodia/enodia/routing/RouteBuffer" "linkCount" "I" (.int (4 : Int32))) (F_links_va : Fld Z h0 va "com/example/enodia/enodia/routing/RouteBuffer" "links" "[I" (.ref vl)) (V_vl : Ary Z h0 vl .int [(.int y0), (.int y1), (.int y2), (.int y3), (.int (0 : Int32)), (.int (0 : Int32)), (.int (0 : Int32)), (.int (0 : Int32)), (.int (0 : Int32)), (.int (0 : Int32)), (.int (0 : Int32)), (.int (0 : Int32)), (.int (0 : Int32)), (.int (0 : Int32)), (.int (0 : Int32)), (.int (0 : Int32))]) :
    MetFree l (⟨"com/example/enodia/enodia/routing/RouteBuffer", "getLink", "(I)I"⟩ : MethodName) (head1 (Jvm.Cond.code (⟨"com/example/enodia/enodia/routing/RouteBuffer", "getLink", "(I)I"⟩ : MethodName) prog_66_method_3_code 2 (some .int) :: ws) ({ frames := 0, cells := 0, slots := 0, locals := 0 } : Room)) (fun a U => a = #[(.ref va), (.int (0 : Int32))] ∧ Z.Warmed39 U.vm ∧ U.heap = h0) (fun _ _ _ _ _ => True) (fun _ U o U' => ∃ v L, o = .returned v ∧ QG4_0 Z va vl y0 y1 y2 y3 h0 n0 v U'.heap L ∧ FrameEnd U o U' L 0 0) := by
  refine MetFree.of_bodySF (plainFor_of_name pn_7) hisR ?_
  intro p e s m args below meth c s₁ Bd hml0 hP hK
  obtain ⟨rfl, hZ, hh⟩ := hP
  have hx := Bd.exec
  have hby := Bd.bytes
  have hml : c.maxLocals = 2 := hml0
  have hown : s.vm.findClass "com/example/enodia/enodia/routing/RouteBuffer" = some m.cls := findClass_of_methodNamed Bd.named
  have hnm := (name_of_methodNamed Bd.named Bd.method).1
  have X0 : Stand p l e ({ frames := 0, cells := 0, slots := 0, locals := 0 } : Room) s m #[(.ref va), (.int (0 : Int32))] below meth c s₁ [] 0 0 := Stand.of_body Bd
  have e0 : s₁.heap = h0 := by rw [← hh, Bd.state]; rfl
  have N0 := Fr.nil n0
  have hlk : meth.locks = false := BodyLoose.notSynchronized Bd
  show Goal p e below s (QG4_0 Z va vl y0 y1 y2 y3 h0 n0) 0 0 (s₁.setTop (entryFrame m #[(.ref va), (.int (0 : Int32))] 2))
  refine Goal.to (B := s₁.setTop (mkF m 0 #[.val (.ref va), .val (.int (0 : Int32))] [])) (fun tt kk => castTop (ef_7 m va (0 : Int32) ) kk) ?_
  refine Goal.to (B := s₁.setTop (mkF m 6 #[.val (.ref va), .val (.int (0 : Int32))] [(.ref va), (.int (0 : Int32))])) (fun tt kk => ?_) ?_
  · show Steps p.tables e below (s₁.setTop (mkF m 0 #[.val (.ref va), .val (.int (0 : Int32))] [])) tt
    refine XS.iloadN X0.here hx rfl (hb hby d7_0) rfl ?_
    show Steps p.tables e below (s₁.setTop (mkF m 1 #[.val (.ref va), .val (.int (0 : Int32))] [(.int (0 : Int32))])) tt
    refine XS.ifNo X0.here hx rfl (hb hby d7_1) rfl ((if0 _ _).trans (flt (Int32.lt_irrefl : ¬ ((0 : Int32) < (0 : Int32)))).1) ?_
    show Steps p.tables e below (s₁.setTop (mkF m 4 #[.val (.ref va), .val (.int (0 : Int32))] [])) tt
    refine XS.iloadN X0.here hx rfl (hb hby d7_4) rfl ?_
    show Steps p.tables e below (s₁.setTop (mkF m 5 #[.val (.ref va), .val (.int (0 : Int32))] [(.int (0 : Int32))])) tt
    refine XS.aloadN X0.here hx rfl (hb hby d7_5) rfl rfl ?_
    exact kk
  obtain ⟨T1, X1, e1, st1⟩ := getF X0 hx hZ hown (host := "") (Or.inl (hw _ (mw 18 rfl))) Via.refl e0 F_linkCount_va (g := (mkF m 6 #[.val (.ref va), .val (.int (0 : Int32))] [(.ref va), (.int (0 : Int32))])) rfl rfl (hb hby d7_6)
  refine Goal.to (B := T1.setTop (mkF m 9 #[.val (.ref va), .val (.int (0 : Int32))] [(.int (4 : Int32)), (.int (0 : Int32))])) st1 ?_
  refine Goal.to (B := T1.setTop (mkF m 31 #[.val (.ref va), .val (.int (0 : Int32))] [(.ref va)])) (fun tt kk => ?_) ?_
  · show Steps p.tables e below (T1.setTop (mkF m 9 #[.val (.ref va), .val (.int (0 : Int32))] [(.int (4 : Int32)), (.int (0 : Int32))])) tt
    refine XS.icmpYes X1.here hx rfl (pc0 := 9) (pc' := 30) rfl (hb hby d7_9) rfl (tlt ((by decide) : (0 : Int32) < (4 : Int32))).1 (by decide) (by decide) ?_
    show Steps p.tables e below (T1.setTop (mkF m 30 #[.val (.ref va), .val (.int (0 : Int32))] [])) tt
    refine XS.aloadN X1.here hx rfl (hb hby d7_30) rfl rfl ?_
    exact kk
  obtain ⟨T2, X2, e2, st2⟩ := getF X1 hx hZ hown (host := "") (Or.inl (hw _ (mw 11 rfl))) Via.refl e1 F_links_va (g := (mkF m 31 #[.val (.ref va), .val (.int (0 : Int32))] [(.ref va)])) rfl rfl (hb hby d7_31)
  refine Goal.to (B := T2.setTop (mkF m 34 #[.val (.ref va), .val (.int (0 : Int32))] [(.ref vl)])) st2 ?_
  refine Goal.to (B := T2.setTop (mkF m 35 #[.val (.ref va), .val (.int (0 : Int32))] [(.int (0 : Int32)), (.ref vl)])) (fun tt kk => ?_) ?_
  · show Steps p.tables e below (T2.setTop (mkF m 34 #[.val (.ref va), .val (.int (0 : Int32))] [(.ref vl)])) tt
    refine XS.iloadN X2.here hx rfl (hb hby d7_34) rfl ?_
    exact kk
  obtain ⟨cl3, Ar3, Sl3⟩ := id V_vl
  have hin3 := inA (cl := cl3) Sl3 (j := (0 : Int32)) (by decide) (Nat.le_of_ble_eq_true rfl)
  have hat3 : cl3.slots[((0 : Int32)).toNatClampNeg]? = some (.int y0) := atA Sl3 rfl
  refine Goal.to (B := T2.setTop (mkF m 36 #[.val (.ref va), .val (.int (0 : Int32))] [(.int y0)])) (fun tt kk => ?_) ?_
  · show Steps p.tables e below (T2.setTop (mkF m 35 #[.val (.ref va), .val (.int (0 : Int32))] [(.int (0 : Int32)), (.ref vl)])) tt
    refine X2.iaload hx (j := (0 : Int32)) (v := (.int y0)) (by rw [e2]; exact Ar3.1) (State.isArrayOf_alike hZ.alike Ar3.2.1) Ar3.2.2 hin3 hat3 (g := (mkF m 35 #[.val (.ref va), .val (.int (0 : Int32))] [(.int (0 : Int32)), (.ref vl)])) rfl rfl (hb hby d7_35) _ ?_
    exact kk
  exact Goal.retV X2 hx Bd.returns rfl (Or.inl ⟨rfl, Or.inl rfl, _, rfl⟩) (hb hby d7_36) hlk e2 ⟨rfl, N0, rfl⟩ (by decide) (by decide)
def QT4_0 (Z : State) (va : Addr) (vl : Addr) (vt : Addr) (y0 : Int32) (y1 : Int32) (y2 : Int32) (y3 : Int32) (z0 : Int32) (z1 : Int32) (z2 : Int32) (h0 : Heap) (n0 : Nat) (v : Option Value) (h : Heap) (L : List Loc) : Prop := v = some (.int (1 : Int32)) ∧ Fr n0 L ∧ h = h0
set_option maxRecDepth 65536 in
set_option maxHeartbeats 40000000 in
theorem rmT4_0 (l : Launch) (Z : State) (a0 : Array Value) (hw : ∀ d ∈ tables_1, d.before a0 Z = true) (ws : List Jvm.Cond) (va : Addr) (vl : Addr) (vt : Addr) (y0 : Int32) (y1 : Int32) (y2 : Int32) (y3 : Int32) (z0 : Int32) (z1 : Int32) (z2 : Int32) (h0 : Heap) (n0 : Nat) (Z0 : n0 ≤ h0.size) (E_va : Exa Z h0 va "com/example/enodia/enodia/routing/RouteBuffer") (F_linkCount_va : Fld Z h0 va "com/example/enodia/enodia/routing/RouteBuffer" "linkCount" "I" (.int (4 : Int32))) (F_links_va : Fld Z h0 va "com/example/enodia/enodia/routing/RouteBuffer" "links" "[I" (.ref vl)) (V_vl : Ary Z h0 vl .int [(.int y0), (.int y1), (.int y2), (.int y3), (.int (0 : Int32)), (.int (0 : Int32)), (.int (0 : Int32)), (.int (0 : Int32)), (.int (0 : Int32)), (.int (0 : Int32)), (.int (0 : Int32)), (.int (0 : Int32)), (.int (0 : Int32)), (.int (0 : Int32)), (.int (0 : Int32)), (.int (0 : Int32))]) (V_vt : Ary Z h0 vt .int [(.int z0), (.int z1), (.int z2), (.int y0)]) :
    MetFree l (⟨"com/example/enodia/enodia/routing/RouteBufferReversePinLaw", "at", "(Lcom/example/enodia/enodia/routing/RouteBuffer;[III)Z"⟩ : MethodName) (head1 (Jvm.Cond.code (⟨"com/example/enodia/enodia/routing/RouteBufferReversePinLaw", "at", "(Lcom/example/enodia/enodia/routing/RouteBuffer;[III)Z"⟩ : MethodName) method_2_code 4 (some .boolean) :: ws) ({ frames := 1, cells := 0, slots := 0, locals := 13 } : Room)) (fun a U => a = #[(.ref va), (.ref vt), (.int (4 : Int32)), (.int (0 : Int32))] ∧ Z.Warmed39 U.vm ∧ U.heap = h0) (fun _ _ _ _ _ => True) (fun _ U o U' => ∃ v L, o = .returned v ∧ QT4_0 Z va vl vt y0 y1 y2 y3 z0 z1 z2 h0 n0 v U'.heap L ∧ FrameEnd U o U' L 0 0) := by
  refine MetFree.of_bodySF (plainFor_of_name pn_5) hisR ?_
  intro p e s m args below meth c s₁ Bd hml0 hP hK
  obtain ⟨rfl, hZ, hh⟩ := hP
  have hx := Bd.exec
  have hby := Bd.bytes
  have hml : c.maxLocals = 4 := hml0
  have hown : s.vm.findClass "com/example/enodia/enodia/routing/RouteBufferReversePinLaw" = some m.cls := findClass_of_methodNamed Bd.named
  have hnm := (name_of_methodNamed Bd.named Bd.method).1
  have X0 : Stand p l e ({ frames := 1, cells := 0, slots := 0, locals := 13 } : Room) s m #[(.ref va), (.ref vt), (.int (4 : Int32)), (.int (0 : Int32))] below meth c s₁ [] 0 0 := Stand.of_body Bd
  have e0 : s₁.heap = h0 := by rw [← hh, Bd.state]; rfl
  have N0 := Fr.nil n0
  have hlk : meth.locks = false := BodyLoose.notSynchronized Bd
  show Goal p e below s (QT4_0 Z va vl vt y0 y1 y2 y3 z0 z1 z2 h0 n0) 0 0 (s₁.setTop (entryFrame m #[(.ref va), (.ref vt), (.int (4 : Int32)), (.int (0 : Int32))] 4))
  refine Goal.to (B := s₁.setTop (mkF m 0 #[.val (.ref va), .val (.ref vt), .val (.int (4 : Int32)), .val (.int (0 : Int32))] [])) (fun tt kk => castTop (ef_5 m va vt (4 : Int32) (0 : Int32) ) kk) ?_
  refine Goal.to (B := s₁.setTop (mkF m 9 #[.val (.ref va), .val (.ref vt), .val (.int (4 : Int32)), .val (.int (0 : Int32))] [(.int (0 : Int32)), (.ref va)])) (fun tt kk => ?_) ?_
  · show Steps p.tables e below (s₁.setTop (mkF m 0 #[.val (.ref va), .val (.ref vt), .val (.int (4 : Int32)), .val (.int (0 : Int32))] [])) tt
    refine XS.iloadN X0.here hx rfl (hb hby d5_0) rfl ?_
    show Steps p.tables e below (s₁.setTop (mkF m 1 #[.val (.ref va), .val (.ref vt), .val (.int (4 : Int32)), .val (.int (0 : Int32))] [(.int (0 : Int32))])) tt
    refine XS.iloadN X0.here hx rfl (hb hby d5_1) rfl ?_
    show Steps p.tables e below (s₁.setTop (mkF m 2 #[.val (.ref va), .val (.ref vt), .val (.int (4 : Int32)), .val (.int (0 : Int32))] [(.int (4 : Int32)), (.int (0 : Int32))])) tt
    refine XS.icmpYes X0.here hx rfl (pc0 := 2) (pc' := 7) rfl (hb hby d5_2) rfl (tlt ((by decide) : (0 : Int32) < (4 : Int32))).1 (by decide) (by decide) ?_
    show Steps p.tables e below (s₁.setTop (mkF m 7 #[.val (.ref va), .val (.ref vt), .val (.int (4 : Int32)), .val (.int (0 : Int32))] [])) tt
    refine XS.aloadN X0.here hx rfl (hb hby d5_7) rfl rfl ?_
    show Steps p.tables e below (s₁.setTop (mkF m 8 #[.val (.ref va), .val (.ref vt), .val (.int (4 : Int32)), .val (.int (0 : Int32))] [(.ref va)])) tt
    refine XS.iloadN X0.here hx rfl (hb hby d5_8) rfl ?_
    exact kk
  obtain ⟨cq1, kq1, q1a, q1b, q1c⟩ := isOf hZ e0 E_va
  obtain ⟨_, _, ⟨T1, L1, k1, n1⟩, -, X1, ⟨Lc1, hQ1, l1, y1, z1⟩, st1⟩ := X0.virtualBack hx (y := (⟨"com/example/enodia/enodia/routing/RouteBuffer", "getLink", "(I)I"⟩ : MethodName)) (z := (⟨"com/example/enodia/enodia/routing/RouteBuffer", "getLink", "(I)I"⟩ : MethodName)) hown (mvT hZ (hw _ (mw 34 rfl))) (mvT hZ (hw _ (mw 35 rfl))) (notFace_of_selects (args := #[]) (mvT hZ (hw _ (mw 37 rfl)))) (mvT hZ (hw _ (mw 37 rfl))) (mvT hZ (hw _ (mw 36 rfl))) (by decide) (backOf (W := 0) (rmG4_0 l Z a0 hw [] va vl y0 y1 y2 y3 h0 n0 Z0 F_linkCount_va F_links_va V_vl) hZ (hw _ (mw 38 rfl)) (hw _ (mw 4 rfl)) (by decide) (by decide)) q1a q1c (g := (mkF m 9 #[.val (.ref va), .val (.ref vt), .val (.int (4 : Int32)), .val (.int (0 : Int32))] [(.int (0 : Int32)), (.ref va)])) rfl (by rw [hml]; rfl) (Steps.refl _) (argsL := [(.int (0 : Int32))]) (rest := []) (lenOf pd_4 rfl) rfl (by show 2 * 0 + _ ≤ _; exact Nat.le_of_eq rfl) (hb hby d5_9) (fun _ _ => ⟨rfl, e0, (by decide : 0 + 0 ≤ _), (by decide : 0 + 0 ≤ _)⟩)
  dsimp only [Pt.U, Pt.locs, Pt.cells, Pt.slots] at X1 l1 y1 z1 st1 hQ1
  subst l1 y1 z1
  obtain ⟨rfl, N1q, e1⟩ := hQ1
  have N1 := Fr.app N0 N1q
  refine Goal.tr (B := T1.setTop (mkF m 12 #[.val (.ref va), .val (.ref vt), .val (.int (4 : Int32)), .val (.int (0 : Int32))] [(.int y0)])) st1 ?_
  refine Goal.to (B := T1.setTop (mkF m 18 #[.val (.ref va), .val (.ref vt), .val (.int (4 : Int32)), .val (.int (0 : Int32))] [(.int (3 : Int32)), (.ref vt), (.int y0)])) (fun tt kk => ?_) ?_
  · show Steps p.tables e below (T1.setTop (mkF m 12 #[.val (.ref va), .val (.ref vt), .val (.int (4 : Int32)), .val (.int (0 : Int32))] [(.int y0)])) tt
    refine XS.aloadN X1.here hx rfl (hb hby d5_12) rfl rfl ?_
    show Steps p.tables e below (T1.setTop (mkF m 13 #[.val (.ref va), .val (.ref vt), .val (.int (4 : Int32)), .val (.int (0 : Int32))] [(.ref vt), (.int y0)])) tt
    refine XS.iloadN X1.here hx rfl (hb hby d5_13) rfl ?_
    show Steps p.tables e below (T1.setTop (mkF m 14 #[.val (.ref va), .val (.ref vt), .val (.int (4 : Int32)), .val (.int (0 : Int32))] [(.int (4 : Int32)), (.ref vt), (.int y0)])) tt
    refine XS.iconst X1.here hx rfl (hb hby d5_14) ?_
    show Steps p.tables e below (T1.setTop (mkF m 15 #[.val (.ref va), .val (.ref vt), .val (.int (4 : Int32)), .val (.int (0 : Int32))] [(.int (1 : Int32)), (.int (4 : Int32)), (.ref vt), (.int y0)])) tt
    refine XS.isub X1.here hx rfl (hb hby d5_15) rfl ?_
    show Steps p.tables e below (T1.setTop (mkF m 16 #[.val (.ref va), .val (.ref vt), .val (.int (4 : Int32)), .val (.int (0 : Int32))] [(.int (3 : Int32)), (.ref vt), (.int y0)])) tt
    refine XS.iloadN X1.here hx rfl (hb hby d5_16) rfl ?_
    show Steps p.tables e below (T1.setTop (mkF m 17 #[.val (.ref va), .val (.ref vt), .val (.int (4 : Int32)), .val (.int (0 : Int32))] [(.int (0 : Int32)), (.int (3 : Int32)), (.ref vt), (.int y0)])) tt
    refine XS.isub X1.here hx rfl (hb hby d5_17) rfl ?_
    exact kk
  obtain ⟨cl2, Ar2, Sl2⟩ := id V_vt
  have hin2 := inA (cl := cl2) Sl2 (j := (3 : Int32)) (by decide) (Nat.le_of_ble_eq_true rfl)
  have hat2 : cl2.slots[((3 : Int32)).toNatClampNeg]? = some (.int y0) := atA Sl2 rfl
  refine Goal.to (B := T1.setTop (mkF m 27 #[.val (.ref va), .val (.ref vt), .val (.int (4 : Int32)), .val (.int (0 : Int32))] [(.int (1 : Int32))])) (fun tt kk => ?_) ?_
  · show Steps p.tables e below (T1.setTop (mkF m 18 #[.val (.ref va), .val (.ref vt), .val (.int (4 : Int32)), .val (.int (0 : Int32))] [(.int (3 : Int32)), (.ref vt), (.int y0)])) tt
    refine X1.iaload hx (j := (3 : Int32)) (v := (.int y0)) (by rw [e1]; exact Ar2.1) (State.isArrayOf_alike hZ.alike Ar2.2.1) Ar2.2.2 hin2 hat2 (g := (mkF m 18 #[.val (.ref va), .val (.ref vt), .val (.int (4 : Int32)), .val (.int (0 : Int32))] [(.int (3 : Int32)), (.ref vt), (.int y0)])) rfl rfl (hb hby d5_18) _ ?_
    show Steps p.tables e below (T1.setTop (mkF m 19 #[.val (.ref va), .val (.ref vt), .val (.int (4 : Int32)), .val (.int (0 : Int32))] [(.int y0), (.int y0)])) tt
    refine XS.icmpNo X1.here hx rfl (hb hby d5_19) rfl (teq (rfl : y0 = y0)).2 ?_
    show Steps p.tables e below (T1.setTop (mkF m 22 #[.val (.ref va), .val (.ref vt), .val (.int (4 : Int32)), .val (.int (0 : Int32))] [])) tt
    refine XS.iconst X1.here hx rfl (hb hby d5_22) ?_
    show Steps p.tables e below (T1.setTop (mkF m 23 #[.val (.ref va), .val (.ref vt), .val (.int (4 : Int32)), .val (.int (0 : Int32))] [(.int (1 : Int32))])) tt
    refine XS.goto X1.here hx rfl (pc0 := 23) (pc' := 27) rfl (hb hby d5_23) (by decide) (by decide) ?_
    exact kk
  exact Goal.retV X1 hx Bd.returns rfl (Or.inl ⟨rfl, Or.inr (Or.inl rfl), _, rfl⟩) (hb hby d5_27) hlk e1 ⟨rfl, N1, rfl⟩ (by decide) (by decide)
def QG4_1 (Z : State) (va : Addr) (vl : Addr) (y0 : Int32) (y1 : Int32) (y2 : Int32) (y3 : Int32) (h0 : Heap) (n0 : Nat) (v : Option Value) (h : Heap) (L : List Loc) : Prop := v = some (.int y1) ∧ Fr n0 L ∧ h = h0
set_option maxRecDepth 65536 in
set_option maxHeartbeats 40000000 in
theorem rmG4_1 (l : Launch) (Z : State) (a0 : Array Value) (hw : ∀ d ∈ tables_1, d.before a0 Z = true) (ws : List Jvm.Cond) (va : Addr) (vl : Addr) (y0 : Int32) (y1 : Int32) (y2 : Int32) (y3 : Int32) (h0 : Heap) (n0 : Nat) (Z0 : n0 ≤ h0.size) (F_linkCount_va : Fld Z h0 va "com/example/enodia/enodia/routing/RouteBuffer" "linkCount" "I" (.int (4 : Int32))) (F_links_va : Fld Z h0 va "com/example/enodia/enodia/routing/RouteBuffer" "links" "[I" (.ref vl)) (V_vl : Ary Z h0 vl .int [(.int y0), (.int y1), (.int y2), (.int y3), (.int (0 : Int32)), (.int (0 : Int32)), (.int (0 : Int32)), (.int (0 : Int32)), (.int (0 : Int32)), (.int (0 : Int32)), (.int (0 : Int32)), (.int (0 : Int32)), (.int (0 : Int32)), (.int (0 : Int32)), (.int (0 : Int32)), (.int (0 : Int32))]) :
    MetFree l (⟨"com/example/enodia/enodia/routing/RouteBuffer", "getLink", "(I)I"⟩ : MethodName) (head1 (Jvm.Cond.code (⟨"com/example/enodia/enodia/routing/RouteBuffer", "getLink", "(I)I"⟩ : MethodName) prog_66_method_3_code 2 (some .int) :: ws) ({ frames := 0, cells := 0, slots := 0, locals := 0 } : Room)) (fun a U => a = #[(.ref va), (.int (1 : Int32))] ∧ Z.Warmed39 U.vm ∧ U.heap = h0) (fun _ _ _ _ _ => True) (fun _ U o U' => ∃ v L, o = .returned v ∧ QG4_1 Z va vl y0 y1 y2 y3 h0 n0 v U'.heap L ∧ FrameEnd U o U' L 0 0) := by
  refine MetFree.of_bodySF (plainFor_of_name pn_7) hisR ?_
  intro p e s m args below meth c s₁ Bd hml0 hP hK
  obtain ⟨rfl, hZ, hh⟩ := hP
  have hx := Bd.exec
  have hby := Bd.bytes
  have hml : c.maxLocals = 2 := hml0
  have hown : s.vm.findClass "com/example/enodia/enodia/routing/RouteBuffer" = some m.cls := findClass_of_methodNamed Bd.named
  have hnm := (name_of_methodNamed Bd.named Bd.method).1
  have X0 : Stand p l e ({ frames := 0, cells := 0, slots := 0, locals := 0 } : Room) s m #[(.ref va), (.int (1 : Int32))] below meth c s₁ [] 0 0 := Stand.of_body Bd
  have e0 : s₁.heap = h0 := by rw [← hh, Bd.state]; rfl
  have N0 := Fr.nil n0
  have hlk : meth.locks = false := BodyLoose.notSynchronized Bd
  show Goal p e below s (QG4_1 Z va vl y0 y1 y2 y3 h0 n0) 0 0 (s₁.setTop (entryFrame m #[(.ref va), (.int (1 : Int32))] 2))
  refine Goal.to (B := s₁.setTop (mkF m 0 #[.val (.ref va), .val (.int (1 : Int32))] [])) (fun tt kk => castTop (ef_7 m va (1 : Int32) ) kk) ?_
  refine Goal.to (B := s₁.setTop (mkF m 6 #[.val (.ref va), .val (.int (1 : Int32))] [(.ref va), (.int (1 : Int32))])) (fun tt kk => ?_) ?_
  · show Steps p.tables e below (s₁.setTop (mkF m 0 #[.val (.ref va), .val (.int (1 : Int32))] [])) tt
    refine XS.iloadN X0.here hx rfl (hb hby d7_0) rfl ?_
    show Steps p.tables e below (s₁.setTop (mkF m 1 #[.val (.ref va), .val (.int (1 : Int32))] [(.int (1 : Int32))])) tt
    refine XS.ifNo X0.here hx rfl (hb hby d7_1) rfl ((if0 _ _).trans (flt ((by decide) : ¬ ((1 : Int32) < (0 : Int32)))).1) ?_
    show Steps p.tables e below (s₁.setTop (mkF m 4 #[.val (.ref va), .val (.int (1 : Int32))] [])) tt
    refine XS.iloadN X0.here hx rfl (hb hby d7_4) rfl ?_
    show Steps p.tables e below (s₁.setTop (mkF m 5 #[.val (.ref va), .val (.int (1 : Int32))] [(.int (1 : Int32))])) tt
    refine XS.aloadN X0.here hx rfl (hb hby d7_5) rfl rfl ?_
    exact kk
  obtain ⟨T1, X1, e1, st1⟩ := getF X0 hx hZ hown (host := "") (Or.inl (hw _ (mw 18 rfl))) Via.refl e0 F_linkCount_va (g := (mkF m 6 #[.val (.ref va), .val (.int (1 : Int32))] [(.ref va), (.int (1 : Int32))])) rfl rfl (hb hby d7_6)
  refine Goal.to (B := T1.setTop (mkF m 9 #[.val (.ref va), .val (.int (1 : Int32))] [(.int (4 : Int32)), (.int (1 : Int32))])) st1 ?_
  refine Goal.to (B := T1.setTop (mkF m 31 #[.val (.ref va), .val (.int (1 : Int32))] [(.ref va)])) (fun tt kk => ?_) ?_
  · show Steps p.tables e below (T1.setTop (mkF m 9 #[.val (.ref va), .val (.int (1 : Int32))] [(.int (4 : Int32)), (.int (1 : Int32))])) tt
    refine XS.icmpYes X1.here hx rfl (pc0 := 9) (pc' := 30) rfl (hb hby d7_9) rfl (tlt ((by decide) : (1 : Int32) < (4 : Int32))).1 (by decide) (by decide) ?_
    show Steps p.tables e below (T1.setTop (mkF m 30 #[.val (.ref va), .val (.int (1 : Int32))] [])) tt
    refine XS.aloadN X1.here hx rfl (hb hby d7_30) rfl rfl ?_
    exact kk
  obtain ⟨T2, X2, e2, st2⟩ := getF X1 hx hZ hown (host := "") (Or.inl (hw _ (mw 11 rfl))) Via.refl e1 F_links_va (g := (mkF m 31 #[.val (.ref va), .val (.int (1 : Int32))] [(.ref va)])) rfl rfl (hb hby d7_31)
  refine Goal.to (B := T2.setTop (mkF m 34 #[.val (.ref va), .val (.int (1 : Int32))] [(.ref vl)])) st2 ?_
  refine Goal.to (B := T2.setTop (mkF m 35 #[.val (.ref va), .val (.int (1 : Int32))] [(.int (1 : Int32)), (.ref vl)])) (fun tt kk => ?_) ?_
  · show Steps p.tables e below (T2.setTop (mkF m 34 #[.val (.ref va), .val (.int (1 : Int32))] [(.ref vl)])) tt
    refine XS.iloadN X2.here hx rfl (hb hby d7_34) rfl ?_
    exact kk
  obtain ⟨cl3, Ar3, Sl3⟩ := id V_vl
  have hin3 := inA (cl := cl3) Sl3 (j := (1 : Int32)) (by decide) (Nat.le_of_ble_eq_true rfl)
  have hat3 : cl3.slots[((1 : Int32)).toNatClampNeg]? = some (.int y1) := atA Sl3 rfl
  refine Goal.to (B := T2.setTop (mkF m 36 #[.val (.ref va), .val (.int (1 : Int32))] [(.int y1)])) (fun tt kk => ?_) ?_
  · show Steps p.tables e below (T2.setTop (mkF m 35 #[.val (.ref va), .val (.int (1 : Int32))] [(.int (1 : Int32)), (.ref vl)])) tt
    refine X2.iaload hx (j := (1 : Int32)) (v := (.int y1)) (by rw [e2]; exact Ar3.1) (State.isArrayOf_alike hZ.alike Ar3.2.1) Ar3.2.2 hin3 hat3 (g := (mkF m 35 #[.val (.ref va), .val (.int (1 : Int32))] [(.int (1 : Int32)), (.ref vl)])) rfl rfl (hb hby d7_35) _ ?_
    exact kk
  exact Goal.retV X2 hx Bd.returns rfl (Or.inl ⟨rfl, Or.inl rfl, _, rfl⟩) (hb hby d7_36) hlk e2 ⟨rfl, N0, rfl⟩ (by decide) (by decide)
def QT4_1 (Z : State) (va : Addr) (vl : Addr) (vt : Addr) (y0 : Int32) (y1 : Int32) (y2 : Int32) (y3 : Int32) (z0 : Int32) (z1 : Int32) (z3 : Int32) (h0 : Heap) (n0 : Nat) (v : Option Value) (h : Heap) (L : List Loc) : Prop := v = some (.int (1 : Int32)) ∧ Fr n0 L ∧ h = h0
set_option maxRecDepth 65536 in
set_option maxHeartbeats 40000000 in
theorem rmT4_1 (l : Launch) (Z : State) (a0 : Array Value) (hw : ∀ d ∈ tables_1, d.before a0 Z = true) (ws : List Jvm.Cond) (va : Addr) (vl : Addr) (vt : Addr) (y0 : Int32) (y1 : Int32) (y2 : Int32) (y3 : Int32) (z0 : Int32) (z1 : Int32) (z3 : Int32) (h0 : Heap) (n0 : Nat) (Z0 : n0 ≤ h0.size) (E_va : Exa Z h0 va "com/example/enodia/enodia/routing/RouteBuffer") (F_linkCount_va : Fld Z h0 va "com/example/enodia/enodia/routing/RouteBuffer" "linkCount" "I" (.int (4 : Int32))) (F_links_va : Fld Z h0 va "com/example/enodia/enodia/routing/RouteBuffer" "links" "[I" (.ref vl)) (V_vl : Ary Z h0 vl .int [(.int y0), (.int y1), (.int y2), (.int y3), (.int (0 : Int32)), (.int (0 : Int32)), (.int (0 : Int32)), (.int (0 : Int32)), (.int (0 : Int32)), (.int (0 : Int32)), (.int (0 : Int32)), (.int (0 : Int32)), (.int (0 : Int32)), (.int (0 : Int32)), (.int (0 : Int32)), (.int (0 : Int32))]) (V_vt : Ary Z h0 vt .int [(.int z0), (.int z1), (.int y1), (.int z3)]) :
    MetFree l (⟨"com/example/enodia/enodia/routing/RouteBufferReversePinLaw", "at", "(Lcom/example/enodia/enodia/routing/RouteBuffer;[III)Z"⟩ : MethodName) (head1 (Jvm.Cond.code (⟨"com/example/enodia/enodia/routing/RouteBufferReversePinLaw", "at", "(Lcom/example/enodia/enodia/routing/RouteBuffer;[III)Z"⟩ : MethodName) method_2_code 4 (some .boolean) :: ws) ({ frames := 1, cells := 0, slots := 0, locals := 13 } : Room)) (fun a U => a = #[(.ref va), (.ref vt), (.int (4 : Int32)), (.int (1 : Int32))] ∧ Z.Warmed39 U.vm ∧ U.heap = h0) (fun _ _ _ _ _ => True) (fun _ U o U' => ∃ v L, o = .returned v ∧ QT4_1 Z va vl vt y0 y1 y2 y3 z0 z1 z3 h0 n0 v U'.heap L ∧ FrameEnd U o U' L 0 0) := by
  refine MetFree.of_bodySF (plainFor_of_name pn_5) hisR ?_
  intro p e s m args below meth c s₁ Bd hml0 hP hK
  obtain ⟨rfl, hZ, hh⟩ := hP
  have hx := Bd.exec
  have hby := Bd.bytes
  have hml : c.maxLocals = 4 := hml0
  have hown : s.vm.findClass "com/example/enodia/enodia/routing/RouteBufferReversePinLaw" = some m.cls := findClass_of_methodNamed Bd.named
  have hnm := (name_of_methodNamed Bd.named Bd.method).1
  have X0 : Stand p l e ({ frames := 1, cells := 0, slots := 0, locals := 13 } : Room) s m #[(.ref va), (.ref vt), (.int (4 : Int32)), (.int (1 : Int32))] below meth c s₁ [] 0 0 := Stand.of_body Bd
  have e0 : s₁.heap = h0 := by rw [← hh, Bd.state]; rfl
  have N0 := Fr.nil n0
  have hlk : meth.locks = false := BodyLoose.notSynchronized Bd
  show Goal p e below s (QT4_1 Z va vl vt y0 y1 y2 y3 z0 z1 z3 h0 n0) 0 0 (s₁.setTop (entryFrame m #[(.ref va), (.ref vt), (.int (4 : Int32)), (.int (1 : Int32))] 4))
  refine Goal.to (B := s₁.setTop (mkF m 0 #[.val (.ref va), .val (.ref vt), .val (.int (4 : Int32)), .val (.int (1 : Int32))] [])) (fun tt kk => castTop (ef_5 m va vt (4 : Int32) (1 : Int32) ) kk) ?_
  refine Goal.to (B := s₁.setTop (mkF m 9 #[.val (.ref va), .val (.ref vt), .val (.int (4 : Int32)), .val (.int (1 : Int32))] [(.int (1 : Int32)), (.ref va)])) (fun tt kk => ?_) ?_
  · show Steps p.tables e below (s₁.setTop (mkF m 0 #[.val (.ref va), .val (.ref vt), .val (.int (4 : Int32)), .val (.int (1 : Int32))] [])) tt
    refine XS.iloadN X0.here hx rfl (hb hby d5_0) rfl ?_
    show Steps p.tables e below (s₁.setTop (mkF m 1 #[.val (.ref va), .val (.ref vt), .val (.int (4 : Int32)), .val (.int (1 : Int32))] [(.int (1 : Int32))])) tt
    refine XS.iloadN X0.here hx rfl (hb hby d5_1) rfl ?_
    show Steps p.tables e below (s₁.setTop (mkF m 2 #[.val (.ref va), .val (.ref vt), .val (.int (4 : Int32)), .val (.int (1 : Int32))] [(.int (4 : Int32)), (.int (1 : Int32))])) tt
    refine XS.icmpYes X0.here hx rfl (pc0 := 2) (pc' := 7) rfl (hb hby d5_2) rfl (tlt ((by decide) : (1 : Int32) < (4 : Int32))).1 (by decide) (by decide) ?_
    show Steps p.tables e below (s₁.setTop (mkF m 7 #[.val (.ref va), .val (.ref vt), .val (.int (4 : Int32)), .val (.int (1 : Int32))] [])) tt
    refine XS.aloadN X0.here hx rfl (hb hby d5_7) rfl rfl ?_
    show Steps p.tables e below (s₁.setTop (mkF m 8 #[.val (.ref va), .val (.ref vt), .val (.int (4 : Int32)), .val (.int (1 : Int32))] [(.ref va)])) tt
    refine XS.iloadN X0.here hx rfl (hb hby d5_8) rfl ?_
    exact kk
  obtain ⟨cq1, kq1, q1a, q1b, q1c⟩ := isOf hZ e0 E_va
  obtain ⟨_, _, ⟨T1, L1, k1, n1⟩, -, X1, ⟨Lc1, hQ1, l1, y1, z1⟩, st1⟩ := X0.virtualBack hx (y := (⟨"com/example/enodia/enodia/routing/RouteBuffer", "getLink", "(I)I"⟩ : MethodName)) (z := (⟨"com/example/enodia/enodia/routing/RouteBuffer", "getLink", "(I)I"⟩ : MethodName)) hown (mvT hZ (hw _ (mw 34 rfl))) (mvT hZ (hw _ (mw 35 rfl))) (notFace_of_selects (args := #[]) (mvT hZ (hw _ (mw 37 rfl)))) (mvT hZ (hw _ (mw 37 rfl))) (mvT hZ (hw _ (mw 36 rfl))) (by decide) (backOf (W := 0) (rmG4_1 l Z a0 hw [] va vl y0 y1 y2 y3 h0 n0 Z0 F_linkCount_va F_links_va V_vl) hZ (hw _ (mw 38 rfl)) (hw _ (mw 4 rfl)) (by decide) (by decide)) q1a q1c (g := (mkF m 9 #[.val (.ref va), .val (.ref vt), .val (.int (4 : Int32)), .val (.int (1 : Int32))] [(.int (1 : Int32)), (.ref va)])) rfl (by rw [hml]; rfl) (Steps.refl _) (argsL := [(.int (1 : Int32))]) (rest := []) (lenOf pd_4 rfl) rfl (by show 2 * 0 + _ ≤ _; exact Nat.le_of_eq rfl) (hb hby d5_9) (fun _ _ => ⟨rfl, e0, (by decide : 0 + 0 ≤ _), (by decide : 0 + 0 ≤ _)⟩)
  dsimp only [Pt.U, Pt.locs, Pt.cells, Pt.slots] at X1 l1 y1 z1 st1 hQ1
  subst l1 y1 z1
  obtain ⟨rfl, N1q, e1⟩ := hQ1
  have N1 := Fr.app N0 N1q
  refine Goal.tr (B := T1.setTop (mkF m 12 #[.val (.ref va), .val (.ref vt), .val (.int (4 : Int32)), .val (.int (1 : Int32))] [(.int y1)])) st1 ?_
  refine Goal.to (B := T1.setTop (mkF m 18 #[.val (.ref va), .val (.ref vt), .val (.int (4 : Int32)), .val (.int (1 : Int32))] [(.int (2 : Int32)), (.ref vt), (.int y1)])) (fun tt kk => ?_) ?_
  · show Steps p.tables e below (T1.setTop (mkF m 12 #[.val (.ref va), .val (.ref vt), .val (.int (4 : Int32)), .val (.int (1 : Int32))] [(.int y1)])) tt
    refine XS.aloadN X1.here hx rfl (hb hby d5_12) rfl rfl ?_
    show Steps p.tables e below (T1.setTop (mkF m 13 #[.val (.ref va), .val (.ref vt), .val (.int (4 : Int32)), .val (.int (1 : Int32))] [(.ref vt), (.int y1)])) tt
    refine XS.iloadN X1.here hx rfl (hb hby d5_13) rfl ?_
    show Steps p.tables e below (T1.setTop (mkF m 14 #[.val (.ref va), .val (.ref vt), .val (.int (4 : Int32)), .val (.int (1 : Int32))] [(.int (4 : Int32)), (.ref vt), (.int y1)])) tt
    refine XS.iconst X1.here hx rfl (hb hby d5_14) ?_
    show Steps p.tables e below (T1.setTop (mkF m 15 #[.val (.ref va), .val (.ref vt), .val (.int (4 : Int32)), .val (.int (1 : Int32))] [(.int (1 : Int32)), (.int (4 : Int32)), (.ref vt), (.int y1)])) tt
    refine XS.isub X1.here hx rfl (hb hby d5_15) rfl ?_
    show Steps p.tables e below (T1.setTop (mkF m 16 #[.val (.ref va), .val (.ref vt), .val (.int (4 : Int32)), .val (.int (1 : Int32))] [(.int (3 : Int32)), (.ref vt), (.int y1)])) tt
    refine XS.iloadN X1.here hx rfl (hb hby d5_16) rfl ?_
    show Steps p.tables e below (T1.setTop (mkF m 17 #[.val (.ref va), .val (.ref vt), .val (.int (4 : Int32)), .val (.int (1 : Int32))] [(.int (1 : Int32)), (.int (3 : Int32)), (.ref vt), (.int y1)])) tt
    refine XS.isub X1.here hx rfl (hb hby d5_17) rfl ?_
    exact kk
  obtain ⟨cl2, Ar2, Sl2⟩ := id V_vt
  have hin2 := inA (cl := cl2) Sl2 (j := (2 : Int32)) (by decide) (Nat.le_of_ble_eq_true rfl)
  have hat2 : cl2.slots[((2 : Int32)).toNatClampNeg]? = some (.int y1) := atA Sl2 rfl
  refine Goal.to (B := T1.setTop (mkF m 27 #[.val (.ref va), .val (.ref vt), .val (.int (4 : Int32)), .val (.int (1 : Int32))] [(.int (1 : Int32))])) (fun tt kk => ?_) ?_
  · show Steps p.tables e below (T1.setTop (mkF m 18 #[.val (.ref va), .val (.ref vt), .val (.int (4 : Int32)), .val (.int (1 : Int32))] [(.int (2 : Int32)), (.ref vt), (.int y1)])) tt
    refine X1.iaload hx (j := (2 : Int32)) (v := (.int y1)) (by rw [e1]; exact Ar2.1) (State.isArrayOf_alike hZ.alike Ar2.2.1) Ar2.2.2 hin2 hat2 (g := (mkF m 18 #[.val (.ref va), .val (.ref vt), .val (.int (4 : Int32)), .val (.int (1 : Int32))] [(.int (2 : Int32)), (.ref vt), (.int y1)])) rfl rfl (hb hby d5_18) _ ?_
    show Steps p.tables e below (T1.setTop (mkF m 19 #[.val (.ref va), .val (.ref vt), .val (.int (4 : Int32)), .val (.int (1 : Int32))] [(.int y1), (.int y1)])) tt
    refine XS.icmpNo X1.here hx rfl (hb hby d5_19) rfl (teq (rfl : y1 = y1)).2 ?_
    show Steps p.tables e below (T1.setTop (mkF m 22 #[.val (.ref va), .val (.ref vt), .val (.int (4 : Int32)), .val (.int (1 : Int32))] [])) tt
    refine XS.iconst X1.here hx rfl (hb hby d5_22) ?_
    show Steps p.tables e below (T1.setTop (mkF m 23 #[.val (.ref va), .val (.ref vt), .val (.int (4 : Int32)), .val (.int (1 : Int32))] [(.int (1 : Int32))])) tt
    refine XS.goto X1.here hx rfl (pc0 := 23) (pc' := 27) rfl (hb hby d5_23) (by decide) (by decide) ?_
    exact kk
  exact Goal.retV X1 hx Bd.returns rfl (Or.inl ⟨rfl, Or.inr (Or.inl rfl), _, rfl⟩) (hb hby d5_27) hlk e1 ⟨rfl, N1, rfl⟩ (by decide) (by decide)
def QG4_2 (Z : State) (va : Addr) (vl : Addr) (y0 : Int32) (y1 : Int32) (y2 : Int32) (y3 : Int32) (h0 : Heap) (n0 : Nat) (v : Option Value) (h : Heap) (L : List Loc) : Prop := v = some (.int y2) ∧ Fr n0 L ∧ h = h0
set_option maxRecDepth 65536 in
set_option maxHeartbeats 40000000 in
theorem rmG4_2 (l : Launch) (Z : State) (a0 : Array Value) (hw : ∀ d ∈ tables_1, d.before a0 Z = true) (ws : List Jvm.Cond) (va : Addr) (vl : Addr) (y0 : Int32) (y1 : Int32) (y2 : Int32) (y3 : Int32) (h0 : Heap) (n0 : Nat) (Z0 : n0 ≤ h0.size) (F_linkCount_va : Fld Z h0 va "com/example/enodia/enodia/routing/RouteBuffer" "linkCount" "I" (.int (4 : Int32))) (F_links_va : Fld Z h0 va "com/example/enodia/enodia/routing/RouteBuffer" "links" "[I" (.ref vl)) (V_vl : Ary Z h0 vl .int [(.int y0), (.int y1), (.int y2), (.int y3), (.int (0 : Int32)), (.int (0 : Int32)), (.int (0 : Int32)), (.int (0 : Int32)), (.int (0 : Int32)), (.int (0 : Int32)), (.int (0 : Int32)), (.int (0 : Int32)), (.int (0 : Int32)), (.int (0 : Int32)), (.int (0 : Int32)), (.int (0 : Int32))]) :
    MetFree l (⟨"com/example/enodia/enodia/routing/RouteBuffer", "getLink", "(I)I"⟩ : MethodName) (head1 (Jvm.Cond.code (⟨"com/example/enodia/enodia/routing/RouteBuffer", "getLink", "(I)I"⟩ : MethodName) prog_66_method_3_code 2 (some .int) :: ws) ({ frames := 0, cells := 0, slots := 0, locals := 0 } : Room)) (fun a U => a = #[(.ref va), (.int (2 : Int32))] ∧ Z.Warmed39 U.vm ∧ U.heap = h0) (fun _ _ _ _ _ => True) (fun _ U o U' => ∃ v L, o = .returned v ∧ QG4_2 Z va vl y0 y1 y2 y3 h0 n0 v U'.heap L ∧ FrameEnd U o U' L 0 0) := by
  refine MetFree.of_bodySF (plainFor_of_name pn_7) hisR ?_
  intro p e s m args below meth c s₁ Bd hml0 hP hK
  obtain ⟨rfl, hZ, hh⟩ := hP
  have hx := Bd.exec
  have hby := Bd.bytes
  have hml : c.maxLocals = 2 := hml0
  have hown : s.vm.findClass "com/example/enodia/enodia/routing/RouteBuffer" = some m.cls := findClass_of_methodNamed Bd.named
  have hnm := (name_of_methodNamed Bd.named Bd.method).1
  have X0 : Stand p l e ({ frames := 0, cells := 0, slots := 0, locals := 0 } : Room) s m #[(.ref va), (.int (2 : Int32))] below meth c s₁ [] 0 0 := Stand.of_body Bd
  have e0 : s₁.heap = h0 := by rw [← hh, Bd.state]; rfl
  have N0 := Fr.nil n0
  have hlk : meth.locks = false := BodyLoose.notSynchronized Bd
  show Goal p e below s (QG4_2 Z va vl y0 y1 y2 y3 h0 n0) 0 0 (s₁.setTop (entryFrame m #[(.ref va), (.int (2 : Int32))] 2))
  refine Goal.to (B := s₁.setTop (mkF m 0 #[.val (.ref va), .val (.int (2 : Int32))] [])) (fun tt kk => castTop (ef_7 m va (2 : Int32) ) kk) ?_
  refine Goal.to (B := s₁.setTop (mkF m 6 #[.val (.ref va), .val (.int (2 : Int32))] [(.ref va), (.int (2 : Int32))])) (fun tt kk => ?_) ?_
  · show Steps p.tables e below (s₁.setTop (mkF m 0 #[.val (.ref va), .val (.int (2 : Int32))] [])) tt
    refine XS.iloadN X0.here hx rfl (hb hby d7_0) rfl ?_
    show Steps p.tables e below (s₁.setTop (mkF m 1 #[.val (.ref va), .val (.int (2 : Int32))] [(.int (2 : Int32))])) tt
    refine XS.ifNo X0.here hx rfl (hb hby d7_1) rfl ((if0 _ _).trans (flt ((by decide) : ¬ ((2 : Int32) < (0 : Int32)))).1) ?_
    show Steps p.tables e below (s₁.setTop (mkF m 4 #[.val (.ref va), .val (.int (2 : Int32))] [])) tt
    refine XS.iloadN X0.here hx rfl (hb hby d7_4) rfl ?_
    show Steps p.tables e below (s₁.setTop (mkF m 5 #[.val (.ref va), .val (.int (2 : Int32))] [(.int (2 : Int32))])) tt
    refine XS.aloadN X0.here hx rfl (hb hby d7_5) rfl rfl ?_
    exact kk
  obtain ⟨T1, X1, e1, st1⟩ := getF X0 hx hZ hown (host := "") (Or.inl (hw _ (mw 18 rfl))) Via.refl e0 F_linkCount_va (g := (mkF m 6 #[.val (.ref va), .val (.int (2 : Int32))] [(.ref va), (.int (2 : Int32))])) rfl rfl (hb hby d7_6)
  refine Goal.to (B := T1.setTop (mkF m 9 #[.val (.ref va), .val (.int (2 : Int32))] [(.int (4 : Int32)), (.int (2 : Int32))])) st1 ?_
  refine Goal.to (B := T1.setTop (mkF m 31 #[.val (.ref va), .val (.int (2 : Int32))] [(.ref va)])) (fun tt kk => ?_) ?_
  · show Steps p.tables e below (T1.setTop (mkF m 9 #[.val (.ref va), .val (.int (2 : Int32))] [(.int (4 : Int32)), (.int (2 : Int32))])) tt
    refine XS.icmpYes X1.here hx rfl (pc0 := 9) (pc' := 30) rfl (hb hby d7_9) rfl (tlt ((by decide) : (2 : Int32) < (4 : Int32))).1 (by decide) (by decide) ?_
    show Steps p.tables e below (T1.setTop (mkF m 30 #[.val (.ref va), .val (.int (2 : Int32))] [])) tt
    refine XS.aloadN X1.here hx rfl (hb hby d7_30) rfl rfl ?_
    exact kk
  obtain ⟨T2, X2, e2, st2⟩ := getF X1 hx hZ hown (host := "") (Or.inl (hw _ (mw 11 rfl))) Via.refl e1 F_links_va (g := (mkF m 31 #[.val (.ref va), .val (.int (2 : Int32))] [(.ref va)])) rfl rfl (hb hby d7_31)
  refine Goal.to (B := T2.setTop (mkF m 34 #[.val (.ref va), .val (.int (2 : Int32))] [(.ref vl)])) st2 ?_
  refine Goal.to (B := T2.setTop (mkF m 35 #[.val (.ref va), .val (.int (2 : Int32))] [(.int (2 : Int32)), (.ref vl)])) (fun tt kk => ?_) ?_
  · show Steps p.tables e below (T2.setTop (mkF m 34 #[.val (.ref va), .val (.int (2 : Int32))] [(.ref vl)])) tt
    refine XS.iloadN X2.here hx rfl (hb hby d7_34) rfl ?_
    exact kk
  obtain ⟨cl3, Ar3, Sl3⟩ := id V_vl
  have hin3 := inA (cl := cl3) Sl3 (j := (2 : Int32)) (by decide) (Nat.le_of_ble_eq_true rfl)
  have hat3 : cl3.slots[((2 : Int32)).toNatClampNeg]? = some (.int y2) := atA Sl3 rfl
  refine Goal.to (B := T2.setTop (mkF m 36 #[.val (.ref va), .val (.int (2 : Int32))] [(.int y2)])) (fun tt kk => ?_) ?_
  · show Steps p.tables e below (T2.setTop (mkF m 35 #[.val (.ref va), .val (.int (2 : Int32))] [(.int (2 : Int32)), (.ref vl)])) tt
    refine X2.iaload hx (j := (2 : Int32)) (v := (.int y2)) (by rw [e2]; exact Ar3.1) (State.isArrayOf_alike hZ.alike Ar3.2.1) Ar3.2.2 hin3 hat3 (g := (mkF m 35 #[.val (.ref va), .val (.int (2 : Int32))] [(.int (2 : Int32)), (.ref vl)])) rfl rfl (hb hby d7_35) _ ?_
    exact kk
  exact Goal.retV X2 hx Bd.returns rfl (Or.inl ⟨rfl, Or.inl rfl, _, rfl⟩) (hb hby d7_36) hlk e2 ⟨rfl, N0, rfl⟩ (by decide) (by decide)
def QT4_2 (Z : State) (va : Addr) (vl : Addr) (vt : Addr) (y0 : Int32) (y1 : Int32) (y2 : Int32) (y3 : Int32) (z0 : Int32) (z2 : Int32) (z3 : Int32) (h0 : Heap) (n0 : Nat) (v : Option Value) (h : Heap) (L : List Loc) : Prop := v = some (.int (1 : Int32)) ∧ Fr n0 L ∧ h = h0
set_option maxRecDepth 65536 in
set_option maxHeartbeats 40000000 in
theorem rmT4_2 (l : Launch) (Z : State) (a0 : Array Value) (hw : ∀ d ∈ tables_1, d.before a0 Z = true) (ws : List Jvm.Cond) (va : Addr) (vl : Addr) (vt : Addr) (y0 : Int32) (y1 : Int32) (y2 : Int32) (y3 : Int32) (z0 : Int32) (z2 : Int32) (z3 : Int32) (h0 : Heap) (n0 : Nat) (Z0 : n0 ≤ h0.size) (E_va : Exa Z h0 va "com/example/enodia/enodia/routing/RouteBuffer") (F_linkCount_va : Fld Z h0 va "com/example/enodia/enodia/routing/RouteBuffer" "linkCount" "I" (.int (4 : Int32))) (F_links_va : Fld Z h0 va "com/example/enodia/enodia/routing/RouteBuffer" "links" "[I" (.ref vl)) (V_vl : Ary Z h0 vl .int [(.int y0), (.int y1), (.int y2), (.int y3), (.int (0 : Int32)), (.int (0 : Int32)), (.int (0 : Int32)), (.int (0 : Int32)), (.int (0 : Int32)), (.int (0 : Int32)), (.int (0 : Int32)), (.int (0 : Int32)), (.int (0 : Int32)), (.int (0 : Int32)), (.int (0 : Int32)), (.int (0 : Int32))]) (V_vt : Ary Z h0 vt .int [(.int z0), (.int y2), (.int z2), (.int z3)]) :
    MetFree l (⟨"com/example/enodia/enodia/routing/RouteBufferReversePinLaw", "at", "(Lcom/example/enodia/enodia/routing/RouteBuffer;[III)Z"⟩ : MethodName) (head1 (Jvm.Cond.code (⟨"com/example/enodia/enodia/routing/RouteBufferReversePinLaw", "at", "(Lcom/example/enodia/enodia/routing/RouteBuffer;[III)Z"⟩ : MethodName) method_2_code 4 (some .boolean) :: ws) ({ frames := 1, cells := 0, slots := 0, locals := 13 } : Room)) (fun a U => a = #[(.ref va), (.ref vt), (.int (4 : Int32)), (.int (2 : Int32))] ∧ Z.Warmed39 U.vm ∧ U.heap = h0) (fun _ _ _ _ _ => True) (fun _ U o U' => ∃ v L, o = .returned v ∧ QT4_2 Z va vl vt y0 y1 y2 y3 z0 z2 z3 h0 n0 v U'.heap L ∧ FrameEnd U o U' L 0 0) := by
  refine MetFree.of_bodySF (plainFor_of_name pn_5) hisR ?_
  intro p e s m args below meth c s₁ Bd hml0 hP hK
  obtain ⟨rfl, hZ, hh⟩ := hP
  have hx := Bd.exec
  have hby := Bd.bytes
  have hml : c.maxLocals = 4 := hml0
  have hown : s.vm.findClass "com/example/enodia/enodia/routing/RouteBufferReversePinLaw" = some m.cls := findClass_of_methodNamed Bd.named
  have hnm := (name_of_methodNamed Bd.named Bd.method).1
  have X0 : Stand p l e ({ frames := 1, cells := 0, slots := 0, locals := 13 } : Room) s m #[(.ref va), (.ref vt), (.int (4 : Int32)), (.int (2 : Int32))] below meth c s₁ [] 0 0 := Stand.of_body Bd
  have e0 : s₁.heap = h0 := by rw [← hh, Bd.state]; rfl
  have N0 := Fr.nil n0
  have hlk : meth.locks = false := BodyLoose.notSynchronized Bd
  show Goal p e below s (QT4_2 Z va vl vt y0 y1 y2 y3 z0 z2 z3 h0 n0) 0 0 (s₁.setTop (entryFrame m #[(.ref va), (.ref vt), (.int (4 : Int32)), (.int (2 : Int32))] 4))
  refine Goal.to (B := s₁.setTop (mkF m 0 #[.val (.ref va), .val (.ref vt), .val (.int (4 : Int32)), .val (.int (2 : Int32))] [])) (fun tt kk => castTop (ef_5 m va vt (4 : Int32) (2 : Int32) ) kk) ?_
  refine Goal.to (B := s₁.setTop (mkF m 9 #[.val (.ref va), .val (.ref vt), .val (.int (4 : Int32)), .val (.int (2 : Int32))] [(.int (2 : Int32)), (.ref va)])) (fun tt kk => ?_) ?_
  · show Steps p.tables e below (s₁.setTop (mkF m 0 #[.val (.ref va), .val (.ref vt), .val (.int (4 : Int32)), .val (.int (2 : Int32))] [])) tt
    refine XS.iloadN X0.here hx rfl (hb hby d5_0) rfl ?_
    show Steps p.tables e below (s₁.setTop (mkF m 1 #[.val (.ref va), .val (.ref vt), .val (.int (4 : Int32)), .val (.int (2 : Int32))] [(.int (2 : Int32))])) tt
    refine XS.iloadN X0.here hx rfl (hb hby d5_1) rfl ?_
    show Steps p.tables e below (s₁.setTop (mkF m 2 #[.val (.ref va), .val (.ref vt), .val (.int (4 : Int32)), .val (.int (2 : Int32))] [(.int (4 : Int32)), (.int (2 : Int32))])) tt
    refine XS.icmpYes X0.here hx rfl (pc0 := 2) (pc' := 7) rfl (hb hby d5_2) rfl (tlt ((by decide) : (2 : Int32) < (4 : Int32))).1 (by decide) (by decide) ?_
    show Steps p.tables e below (s₁.setTop (mkF m 7 #[.val (.ref va), .val (.ref vt), .val (.int (4 : Int32)), .val (.int (2 : Int32))] [])) tt
    refine XS.aloadN X0.here hx rfl (hb hby d5_7) rfl rfl ?_
    show Steps p.tables e below (s₁.setTop (mkF m 8 #[.val (.ref va), .val (.ref vt), .val (.int (4 : Int32)), .val (.int (2 : Int32))] [(.ref va)])) tt
    refine XS.iloadN X0.here hx rfl (hb hby d5_8) rfl ?_
    exact kk
  obtain ⟨cq1, kq1, q1a, q1b, q1c⟩ := isOf hZ e0 E_va
  obtain ⟨_, _, ⟨T1, L1, k1, n1⟩, -, X1, ⟨Lc1, hQ1, l1, y1, z1⟩, st1⟩ := X0.virtualBack hx (y := (⟨"com/example/enodia/enodia/routing/RouteBuffer", "getLink", "(I)I"⟩ : MethodName)) (z := (⟨"com/example/enodia/enodia/routing/RouteBuffer", "getLink", "(I)I"⟩ : MethodName)) hown (mvT hZ (hw _ (mw 34 rfl))) (mvT hZ (hw _ (mw 35 rfl))) (notFace_of_selects (args := #[]) (mvT hZ (hw _ (mw 37 rfl)))) (mvT hZ (hw _ (mw 37 rfl))) (mvT hZ (hw _ (mw 36 rfl))) (by decide) (backOf (W := 0) (rmG4_2 l Z a0 hw [] va vl y0 y1 y2 y3 h0 n0 Z0 F_linkCount_va F_links_va V_vl) hZ (hw _ (mw 38 rfl)) (hw _ (mw 4 rfl)) (by decide) (by decide)) q1a q1c (g := (mkF m 9 #[.val (.ref va), .val (.ref vt), .val (.int (4 : Int32)), .val (.int (2 : Int32))] [(.int (2 : Int32)), (.ref va)])) rfl (by rw [hml]; rfl) (Steps.refl _) (argsL := [(.int (2 : Int32))]) (rest := []) (lenOf pd_4 rfl) rfl (by show 2 * 0 + _ ≤ _; exact Nat.le_of_eq rfl) (hb hby d5_9) (fun _ _ => ⟨rfl, e0, (by decide : 0 + 0 ≤ _), (by decide : 0 + 0 ≤ _)⟩)
  dsimp only [Pt.U, Pt.locs, Pt.cells, Pt.slots] at X1 l1 y1 z1 st1 hQ1
  subst l1 y1 z1
  obtain ⟨rfl, N1q, e1⟩ := hQ1
  have N1 := Fr.app N0 N1q
  refine Goal.tr (B := T1.setTop (mkF m 12 #[.val (.ref va), .val (.ref vt), .val (.int (4 : Int32)), .val (.int (2 : Int32))] [(.int y2)])) st1 ?_
  refine Goal.to (B := T1.setTop (mkF m 18 #[.val (.ref va), .val (.ref vt), .val (.int (4 : Int32)), .val (.int (2 : Int32))] [(.int (1 : Int32)), (.ref vt), (.int y2)])) (fun tt kk => ?_) ?_
  · show Steps p.tables e below (T1.setTop (mkF m 12 #[.val (.ref va), .val (.ref vt), .val (.int (4 : Int32)), .val (.int (2 : Int32))] [(.int y2)])) tt
    refine XS.aloadN X1.here hx rfl (hb hby d5_12) rfl rfl ?_
    show Steps p.tables e below (T1.setTop (mkF m 13 #[.val (.ref va), .val (.ref vt), .val (.int (4 : Int32)), .val (.int (2 : Int32))] [(.ref vt), (.int y2)])) tt
    refine XS.iloadN X1.here hx rfl (hb hby d5_13) rfl ?_
    show Steps p.tables e below (T1.setTop (mkF m 14 #[.val (.ref va), .val (.ref vt), .val (.int (4 : Int32)), .val (.int (2 : Int32))] [(.int (4 : Int32)), (.ref vt), (.int y2)])) tt
    refine XS.iconst X1.here hx rfl (hb hby d5_14) ?_
    show Steps p.tables e below (T1.setTop (mkF m 15 #[.val (.ref va), .val (.ref vt), .val (.int (4 : Int32)), .val (.int (2 : Int32))] [(.int (1 : Int32)), (.int (4 : Int32)), (.ref vt), (.int y2)])) tt
    refine XS.isub X1.here hx rfl (hb hby d5_15) rfl ?_
    show Steps p.tables e below (T1.setTop (mkF m 16 #[.val (.ref va), .val (.ref vt), .val (.int (4 : Int32)), .val (.int (2 : Int32))] [(.int (3 : Int32)), (.ref vt), (.int y2)])) tt
    refine XS.iloadN X1.here hx rfl (hb hby d5_16) rfl ?_
    show Steps p.tables e below (T1.setTop (mkF m 17 #[.val (.ref va), .val (.ref vt), .val (.int (4 : Int32)), .val (.int (2 : Int32))] [(.int (2 : Int32)), (.int (3 : Int32)), (.ref vt), (.int y2)])) tt
    refine XS.isub X1.here hx rfl (hb hby d5_17) rfl ?_
    exact kk
  obtain ⟨cl2, Ar2, Sl2⟩ := id V_vt
  have hin2 := inA (cl := cl2) Sl2 (j := (1 : Int32)) (by decide) (Nat.le_of_ble_eq_true rfl)
  have hat2 : cl2.slots[((1 : Int32)).toNatClampNeg]? = some (.int y2) := atA Sl2 rfl
  refine Goal.to (B := T1.setTop (mkF m 27 #[.val (.ref va), .val (.ref vt), .val (.int (4 : Int32)), .val (.int (2 : Int32))] [(.int (1 : Int32))])) (fun tt kk => ?_) ?_
  · show Steps p.tables e below (T1.setTop (mkF m 18 #[.val (.ref va), .val (.ref vt), .val (.int (4 : Int32)), .val (.int (2 : Int32))] [(.int (1 : Int32)), (.ref vt), (.int y2)])) tt
    refine X1.iaload hx (j := (1 : Int32)) (v := (.int y2)) (by rw [e1]; exact Ar2.1) (State.isArrayOf_alike hZ.alike Ar2.2.1) Ar2.2.2 hin2 hat2 (g := (mkF m 18 #[.val (.ref va), .val (.ref vt), .val (.int (4 : Int32)), .val (.int (2 : Int32))] [(.int (1 : Int32)), (.ref vt), (.int y2)])) rfl rfl (hb hby d5_18) _ ?_
    show Steps p.tables e below (T1.setTop (mkF m 19 #[.val (.ref va), .val (.ref vt), .val (.int (4 : Int32)), .val (.int (2 : Int32))] [(.int y2), (.int y2)])) tt
    refine XS.icmpNo X1.here hx rfl (hb hby d5_19) rfl (teq (rfl : y2 = y2)).2 ?_
    show Steps p.tables e below (T1.setTop (mkF m 22 #[.val (.ref va), .val (.ref vt), .val (.int (4 : Int32)), .val (.int (2 : Int32))] [])) tt
    refine XS.iconst X1.here hx rfl (hb hby d5_22) ?_
    show Steps p.tables e below (T1.setTop (mkF m 23 #[.val (.ref va), .val (.ref vt), .val (.int (4 : Int32)), .val (.int (2 : Int32))] [(.int (1 : Int32))])) tt
    refine XS.goto X1.here hx rfl (pc0 := 23) (pc' := 27) rfl (hb hby d5_23) (by decide) (by decide) ?_
    exact kk
  exact Goal.retV X1 hx Bd.returns rfl (Or.inl ⟨rfl, Or.inr (Or.inl rfl), _, rfl⟩) (hb hby d5_27) hlk e1 ⟨rfl, N1, rfl⟩ (by decide) (by decide)
def QG4_3 (Z : State) (va : Addr) (vl : Addr) (y0 : Int32) (y1 : Int32) (y2 : Int32) (y3 : Int32) (h0 : Heap) (n0 : Nat) (v : Option Value) (h : Heap) (L : List Loc) : Prop := v = some (.int y3) ∧ Fr n0 L ∧ h = h0
set_option maxRecDepth 65536 in
set_option maxHeartbeats 40000000 in
theorem rmG4_3 (l : Launch) (Z : State) (a0 : Array Value) (hw : ∀ d ∈ tables_1, d.before a0 Z = true) (ws : List Jvm.Cond) (va : Addr) (vl : Addr) (y0 : Int32) (y1 : Int32) (y2 : Int32) (y3 : Int32) (h0 : Heap) (n0 : Nat) (Z0 : n0 ≤ h0.size) (F_linkCount_va : Fld Z h0 va "com/example/enodia/enodia/routing/RouteBuffer" "linkCount" "I" (.int (4 : Int32))) (F_links_va : Fld Z h0 va "com/example/enodia/enodia/routing/RouteBuffer" "links" "[I" (.ref vl)) (V_vl : Ary Z h0 vl .int [(.int y0), (.int y1), (.int y2), (.int y3), (.int (0 : Int32)), (.int (0 : Int32)), (.int (0 : Int32)), (.int (0 : Int32)), (.int (0 : Int32)), (.int (0 : Int32)), (.int (0 : Int32)), (.int (0 : Int32)), (.int (0 : Int32)), (.int (0 : Int32)), (.int (0 : Int32)), (.int (0 : Int32))]) :
    MetFree l (⟨"com/example/enodia/enodia/routing/RouteBuffer", "getLink", "(I)I"⟩ : MethodName) (head1 (Jvm.Cond.code (⟨"com/example/enodia/enodia/routing/RouteBuffer", "getLink", "(I)I"⟩ : MethodName) prog_66_method_3_code 2 (some .int) :: ws) ({ frames := 0, cells := 0, slots := 0, locals := 0 } : Room)) (fun a U => a = #[(.ref va), (.int (3 : Int32))] ∧ Z.Warmed39 U.vm ∧ U.heap = h0) (fun _ _ _ _ _ => True) (fun _ U o U' => ∃ v L, o = .returned v ∧ QG4_3 Z va vl y0 y1 y2 y3 h0 n0 v U'.heap L ∧ FrameEnd U o U' L 0 0) := by
  refine MetFree.of_bodySF (plainFor_of_name pn_7) hisR ?_
  intro p e s m args below meth c s₁ Bd hml0 hP hK
  obtain ⟨rfl, hZ, hh⟩ := hP
  have hx := Bd.exec
  have hby := Bd.bytes
  have hml : c.maxLocals = 2 := hml0
  have hown : s.vm.findClass "com/example/enodia/enodia/routing/RouteBuffer" = some m.cls := findClass_of_methodNamed Bd.named
  have hnm := (name_of_methodNamed Bd.named Bd.method).1
  have X0 : Stand p l e ({ frames := 0, cells := 0, slots := 0, locals := 0 } : Room) s m #[(.ref va), (.int (3 : Int32))] below meth c s₁ [] 0 0 := Stand.of_body Bd
  have e0 : s₁.heap = h0 := by rw [← hh, Bd.state]; rfl
  have N0 := Fr.nil n0
  have hlk : meth.locks = false := BodyLoose.notSynchronized Bd
  show Goal p e below s (QG4_3 Z va vl y0 y1 y2 y3 h0 n0) 0 0 (s₁.setTop (entryFrame m #[(.ref va), (.int (3 : Int32))] 2))
  refine Goal.to (B := s₁.setTop (mkF m 0 #[.val (.ref va), .val (.int (3 : Int32))] [])) (fun tt kk => castTop (ef_7 m va (3 : Int32) ) kk) ?_
  refine Goal.to (B := s₁.setTop (mkF m 6 #[.val (.ref va), .val (.int (3 : Int32))] [(.ref va), (.int (3 : Int32))])) (fun tt kk => ?_) ?_
  · show Steps p.tables e below (s₁.setTop (mkF m 0 #[.val (.ref va), .val (.int (3 : Int32))] [])) tt
    refine XS.iloadN X0.here hx rfl (hb hby d7_0) rfl ?_
    show Steps p.tables e below (s₁.setTop (mkF m 1 #[.val (.ref va), .val (.int (3 : Int32))] [(.int (3 : Int32))])) tt
    refine XS.ifNo X0.here hx rfl (hb hby d7_1) rfl ((if0 _ _).trans (flt ((by decide) : ¬ ((3 : Int32) < (0 : Int32)))).1) ?_
    show Steps p.tables e below (s₁.setTop (mkF m 4 #[.val (.ref va), .val (.int (3 : Int32))] [])) tt
    refine XS.iloadN X0.here hx rfl (hb hby d7_4) rfl ?_
    show Steps p.tables e below (s₁.setTop (mkF m 5 #[.val (.ref va), .val (.int (3 : Int32))] [(.int (3 : Int32))])) tt
    refine XS.aloadN X0.here hx rfl (hb hby d7_5) rfl rfl ?_
    exact kk
  obtain ⟨T1, X1, e1, st1⟩ := getF X0 hx hZ hown (host := "") (Or.inl (hw _ (mw 18 rfl))) Via.refl e0 F_linkCount_va (g := (mkF m 6 #[.val (.ref va), .val (.int (3 : Int32))] [(.ref va), (.int (3 : Int32))])) rfl rfl (hb hby d7_6)
  refine Goal.to (B := T1.setTop (mkF m 9 #[.val (.ref va), .val (.int (3 : Int32))] [(.int (4 : Int32)), (.int (3 : Int32))])) st1 ?_
  refine Goal.to (B := T1.setTop (mkF m 31 #[.val (.ref va), .val (.int (3 : Int32))] [(.ref va)])) (fun tt kk => ?_) ?_
  · show Steps p.tables e below (T1.setTop (mkF m 9 #[.val (.ref va), .val (.int (3 : Int32))] [(.int (4 : Int32)), (.int (3 : Int32))])) tt
    refine XS.icmpYes X1.here hx rfl (pc0 := 9) (pc' := 30) rfl (hb hby d7_9) rfl (tlt ((by decide) : (3 : Int32) < (4 : Int32))).1 (by decide) (by decide) ?_
    show Steps p.tables e below (T1.setTop (mkF m 30 #[.val (.ref va), .val (.int (3 : Int32))] [])) tt
    refine XS.aloadN X1.here hx rfl (hb hby d7_30) rfl rfl ?_
    exact kk
  obtain ⟨T2, X2, e2, st2⟩ := getF X1 hx hZ hown (host := "") (Or.inl (hw _ (mw 11 rfl))) Via.refl e1 F_links_va (g := (mkF m 31 #[.val (.ref va), .val (.int (3 : Int32))] [(.ref va)])) rfl rfl (hb hby d7_31)
  refine Goal.to (B := T2.setTop (mkF m 34 #[.val (.ref va), .val (.int (3 : Int32))] [(.ref vl)])) st2 ?_
  refine Goal.to (B := T2.setTop (mkF m 35 #[.val (.ref va), .val (.int (3 : Int32))] [(.int (3 : Int32)), (.ref vl)])) (fun tt kk => ?_) ?_
  · show Steps p.tables e below (T2.setTop (mkF m 34 #[.val (.ref va), .val (.int (3 : Int32))] [(.ref vl)])) tt
    refine XS.iloadN X2.here hx rfl (hb hby d7_34) rfl ?_
    exact kk
  obtain ⟨cl3, Ar3, Sl3⟩ := id V_vl
  have hin3 := inA (cl := cl3) Sl3 (j := (3 : Int32)) (by decide) (Nat.le_of_ble_eq_true rfl)
  have hat3 : cl3.slots[((3 : Int32)).toNatClampNeg]? = some (.int y3) := atA Sl3 rfl
  refine Goal.to (B := T2.setTop (mkF m 36 #[.val (.ref va), .val (.int (3 : Int32))] [(.int y3)])) (fun tt kk => ?_) ?_
  · show Steps p.tables e below (T2.setTop (mkF m 35 #[.val (.ref va), .val (.int (3 : Int32))] [(.int (3 : Int32)), (.ref vl)])) tt
    refine X2.iaload hx (j := (3 : Int32)) (v := (.int y3)) (by rw [e2]; exact Ar3.1) (State.isArrayOf_alike hZ.alike Ar3.2.1) Ar3.2.2 hin3 hat3 (g := (mkF m 35 #[.val (.ref va), .val (.int (3 : Int32))] [(.int (3 : Int32)), (.ref vl)])) rfl rfl (hb hby d7_35) _ ?_
    exact kk
  exact Goal.retV X2 hx Bd.returns rfl (Or.inl ⟨rfl, Or.inl rfl, _, rfl⟩) (hb hby d7_36) hlk e2 ⟨rfl, N0, rfl⟩ (by decide) (by decide)
def QT4_3 (Z : State) (va : Addr) (vl : Addr) (vt : Addr) (y0 : Int32) (y1 : Int32) (y2 : Int32) (y3 : Int32) (z1 : Int32) (z2 : Int32) (z3 : Int32) (h0 : Heap) (n0 : Nat) (v : Option Value) (h : Heap) (L : List Loc) : Prop := v = some (.int (1 : Int32)) ∧ Fr n0 L ∧ h = h0
set_option maxRecDepth 65536 in
set_option maxHeartbeats 40000000 in
theorem rmT4_3 (l : Launch) (Z : State) (a0 : Array Value) (hw : ∀ d ∈ tables_1, d.before a0 Z = true) (ws : List Jvm.Cond) (va : Addr) (vl : Addr) (vt : Addr) (y0 : Int32) (y1 : Int32) (y2 : Int32) (y3 : Int32) (z1 : Int32) (z2 : Int32) (z3 : Int32) (h0 : Heap) (n0 : Nat) (Z0 : n0 ≤ h0.size) (E_va : Exa Z h0 va "com/example/enodia/enodia/routing/RouteBuffer") (F_linkCount_va : Fld Z h0 va "com/example/enodia/enodia/routing/RouteBuffer" "linkCount" "I" (.int (4 : Int32))) (F_links_va : Fld Z h0 va "com/example/enodia/enodia/routing/RouteBuffer" "links" "[I" (.ref vl)) (V_vl : Ary Z h0 vl .int [(.int y0), (.int y1), (.int y2), (.int y3), (.int (0 : Int32)), (.int (0 : Int32)), (.int (0 : Int32)), (.int (0 : Int32)), (.int (0 : Int32)), (.int (0 : Int32)), (.int (0 : Int32)), (.int (0 : Int32)), (.int (0 : Int32)), (.int (0 : Int32)), (.int (0 : Int32)), (.int (0 : Int32))]) (V_vt : Ary Z h0 vt .int [(.int y3), (.int z1), (.int z2), (.int z3)]) :
    MetFree l (⟨"com/example/enodia/enodia/routing/RouteBufferReversePinLaw", "at", "(Lcom/example/enodia/enodia/routing/RouteBuffer;[III)Z"⟩ : MethodName) (head1 (Jvm.Cond.code (⟨"com/example/enodia/enodia/routing/RouteBufferReversePinLaw", "at", "(Lcom/example/enodia/enodia/routing/RouteBuffer;[III)Z"⟩ : MethodName) method_2_code 4 (some .boolean) :: ws) ({ frames := 1, cells := 0, slots := 0, locals := 13 } : Room)) (fun a U => a = #[(.ref va), (.ref vt), (.int (4 : Int32)), (.int (3 : Int32))] ∧ Z.Warmed39 U.vm ∧ U.heap = h0) (fun _ _ _ _ _ => True) (fun _ U o U' => ∃ v L, o = .returned v ∧ QT4_3 Z va vl vt y0 y1 y2 y3 z1 z2 z3 h0 n0 v U'.heap L ∧ FrameEnd U o U' L 0 0) := by
  refine MetFree.of_bodySF (plainFor_of_name pn_5) hisR ?_
  intro p e s m args below meth c s₁ Bd hml0 hP hK
  obtain ⟨rfl, hZ, hh⟩ := hP
  have hx := Bd.exec
  have hby := Bd.bytes
  have hml : c.maxLocals = 4 := hml0
  have hown : s.vm.findClass "com/example/enodia/enodia/routing/RouteBufferReversePinLaw" = some m.cls := findClass_of_methodNamed Bd.named
  have hnm := (name_of_methodNamed Bd.named Bd.method).1
  have X0 : Stand p l e ({ frames := 1, cells := 0, slots := 0, locals := 13 } : Room) s m #[(.ref va), (.ref vt), (.int (4 : Int32)), (.int (3 : Int32))] below meth c s₁ [] 0 0 := Stand.of_body Bd
  have e0 : s₁.heap = h0 := by rw [← hh, Bd.state]; rfl
  have N0 := Fr.nil n0
  have hlk : meth.locks = false := BodyLoose.notSynchronized Bd
  show Goal p e below s (QT4_3 Z va vl vt y0 y1 y2 y3 z1 z2 z3 h0 n0) 0 0 (s₁.setTop (entryFrame m #[(.ref va), (.ref vt), (.int (4 : Int32)), (.int (3 : Int32))] 4))
  refine Goal.to (B := s₁.setTop (mkF m 0 #[.val (.ref va), .val (.ref vt), .val (.int (4 : Int32)), .val (.int (3 : Int32))] [])) (fun tt kk => castTop (ef_5 m va vt (4 : Int32) (3 : Int32) ) kk) ?_
  refine Goal.to (B := s₁.setTop (mkF m 9 #[.val (.ref va), .val (.ref vt), .val (.int (4 : Int32)), .val (.int (3 : Int32))] [(.int (3 : Int32)), (.ref va)])) (fun tt kk => ?_) ?_
  · show Steps p.tables e below (s₁.setTop (mkF m 0 #[.val (.ref va), .val (.ref vt), .val (.int (4 : Int32)), .val (.int (3 : Int32))] [])) tt
    refine XS.iloadN X0.here hx rfl (hb hby d5_0) rfl ?_
    show Steps p.tables e below (s₁.setTop (mkF m 1 #[.val (.ref va), .val (.ref vt), .val (.int (4 : Int32)), .val (.int (3 : Int32))] [(.int (3 : Int32))])) tt
    refine XS.iloadN X0.here hx rfl (hb hby d5_1) rfl ?_
    show Steps p.tables e below (s₁.setTop (mkF m 2 #[.val (.ref va), .val (.ref vt), .val (.int (4 : Int32)), .val (.int (3 : Int32))] [(.int (4 : Int32)), (.int (3 : Int32))])) tt
    refine XS.icmpYes X0.here hx rfl (pc0 := 2) (pc' := 7) rfl (hb hby d5_2) rfl (tlt ((by decide) : (3 : Int32) < (4 : Int32))).1 (by decide) (by decide) ?_
    show Steps p.tables e below (s₁.setTop (mkF m 7 #[.val (.ref va), .val (.ref vt), .val (.int (4 : Int32)), .val (.int (3 : Int32))] [])) tt
    refine XS.aloadN X0.here hx rfl (hb hby d5_7) rfl rfl ?_
    show Steps p.tables e below (s₁.setTop (mkF m 8 #[.val (.ref va), .val (.ref vt), .val (.int (4 : Int32)), .val (.int (3 : Int32))] [(.ref va)])) tt
    refine XS.iloadN X0.here hx rfl (hb hby d5_8) rfl ?_
    exact kk
  obtain ⟨cq1, kq1, q1a, q1b, q1c⟩ := isOf hZ e0 E_va
  obtain ⟨_, _, ⟨T1, L1, k1, n1⟩, -, X1, ⟨Lc1, hQ1, l1, y1, z1⟩, st1⟩ := X0.virtualBack hx (y := (⟨"com/example/enodia/enodia/routing/RouteBuffer", "getLink", "(I)I"⟩ : MethodName)) (z := (⟨"com/example/enodia/enodia/routing/RouteBuffer", "getLink", "(I)I"⟩ : MethodName)) hown (mvT hZ (hw _ (mw 34 rfl))) (mvT hZ (hw _ (mw 35 rfl))) (notFace_of_selects (args := #[]) (mvT hZ (hw _ (mw 37 rfl)))) (mvT hZ (hw _ (mw 37 rfl))) (mvT hZ (hw _ (mw 36 rfl))) (by decide) (backOf (W := 0) (rmG4_3 l Z a0 hw [] va vl y0 y1 y2 y3 h0 n0 Z0 F_linkCount_va F_links_va V_vl) hZ (hw _ (mw 38 rfl)) (hw _ (mw 4 rfl)) (by decide) (by decide)) q1a q1c (g := (mkF m 9 #[.val (.ref va), .val (.ref vt), .val (.int (4 : Int32)), .val (.int (3 : Int32))] [(.int (3 : Int32)), (.ref va)])) rfl (by rw [hml]; rfl) (Steps.refl _) (argsL := [(.int (3 : Int32))]) (rest := []) (lenOf pd_4 rfl) rfl (by show 2 * 0 + _ ≤ _; exact Nat.le_of_eq rfl) (hb hby d5_9) (fun _ _ => ⟨rfl, e0, (by decide : 0 + 0 ≤ _), (by decide : 0 + 0 ≤ _)⟩)
  dsimp only [Pt.U, Pt.locs, Pt.cells, Pt.slots] at X1 l1 y1 z1 st1 hQ1
  subst l1 y1 z1
  obtain ⟨rfl, N1q, e1⟩ := hQ1
  have N1 := Fr.app N0 N1q
  refine Goal.tr (B := T1.setTop (mkF m 12 #[.val (.ref va), .val (.ref vt), .val (.int (4 : Int32)), .val (.int (3 : Int32))] [(.int y3)])) st1 ?_
  refine Goal.to (B := T1.setTop (mkF m 18 #[.val (.ref va), .val (.ref vt), .val (.int (4 : Int32)), .val (.int (3 : Int32))] [(.int (0 : Int32)), (.ref vt), (.int y3)])) (fun tt kk => ?_) ?_
  · show Steps p.tables e below (T1.setTop (mkF m 12 #[.val (.ref va), .val (.ref vt), .val (.int (4 : Int32)), .val (.int (3 : Int32))] [(.int y3)])) tt
    refine XS.aloadN X1.here hx rfl (hb hby d5_12) rfl rfl ?_
    show Steps p.tables e below (T1.setTop (mkF m 13 #[.val (.ref va), .val (.ref vt), .val (.int (4 : Int32)), .val (.int (3 : Int32))] [(.ref vt), (.int y3)])) tt
    refine XS.iloadN X1.here hx rfl (hb hby d5_13) rfl ?_
    show Steps p.tables e below (T1.setTop (mkF m 14 #[.val (.ref va), .val (.ref vt), .val (.int (4 : Int32)), .val (.int (3 : Int32))] [(.int (4 : Int32)), (.ref vt), (.int y3)])) tt
    refine XS.iconst X1.here hx rfl (hb hby d5_14) ?_
    show Steps p.tables e below (T1.setTop (mkF m 15 #[.val (.ref va), .val (.ref vt), .val (.int (4 : Int32)), .val (.int (3 : Int32))] [(.int (1 : Int32)), (.int (4 : Int32)), (.ref vt), (.int y3)])) tt
    refine XS.isub X1.here hx rfl (hb hby d5_15) rfl ?_
    show Steps p.tables e below (T1.setTop (mkF m 16 #[.val (.ref va), .val (.ref vt), .val (.int (4 : Int32)), .val (.int (3 : Int32))] [(.int (3 : Int32)), (.ref vt), (.int y3)])) tt
    refine XS.iloadN X1.here hx rfl (hb hby d5_16) rfl ?_
    show Steps p.tables e below (T1.setTop (mkF m 17 #[.val (.ref va), .val (.ref vt), .val (.int (4 : Int32)), .val (.int (3 : Int32))] [(.int (3 : Int32)), (.int (3 : Int32)), (.ref vt), (.int y3)])) tt
    refine XS.isub X1.here hx rfl (hb hby d5_17) rfl ?_
    exact kk
  obtain ⟨cl2, Ar2, Sl2⟩ := id V_vt
  have hin2 := inA (cl := cl2) Sl2 (j := (0 : Int32)) (by decide) (Nat.le_of_ble_eq_true rfl)
  have hat2 : cl2.slots[((0 : Int32)).toNatClampNeg]? = some (.int y3) := atA Sl2 rfl
  refine Goal.to (B := T1.setTop (mkF m 27 #[.val (.ref va), .val (.ref vt), .val (.int (4 : Int32)), .val (.int (3 : Int32))] [(.int (1 : Int32))])) (fun tt kk => ?_) ?_
  · show Steps p.tables e below (T1.setTop (mkF m 18 #[.val (.ref va), .val (.ref vt), .val (.int (4 : Int32)), .val (.int (3 : Int32))] [(.int (0 : Int32)), (.ref vt), (.int y3)])) tt
    refine X1.iaload hx (j := (0 : Int32)) (v := (.int y3)) (by rw [e1]; exact Ar2.1) (State.isArrayOf_alike hZ.alike Ar2.2.1) Ar2.2.2 hin2 hat2 (g := (mkF m 18 #[.val (.ref va), .val (.ref vt), .val (.int (4 : Int32)), .val (.int (3 : Int32))] [(.int (0 : Int32)), (.ref vt), (.int y3)])) rfl rfl (hb hby d5_18) _ ?_
    show Steps p.tables e below (T1.setTop (mkF m 19 #[.val (.ref va), .val (.ref vt), .val (.int (4 : Int32)), .val (.int (3 : Int32))] [(.int y3), (.int y3)])) tt
    refine XS.icmpNo X1.here hx rfl (hb hby d5_19) rfl (teq (rfl : y3 = y3)).2 ?_
    show Steps p.tables e below (T1.setTop (mkF m 22 #[.val (.ref va), .val (.ref vt), .val (.int (4 : Int32)), .val (.int (3 : Int32))] [])) tt
    refine XS.iconst X1.here hx rfl (hb hby d5_22) ?_
    show Steps p.tables e below (T1.setTop (mkF m 23 #[.val (.ref va), .val (.ref vt), .val (.int (4 : Int32)), .val (.int (3 : Int32))] [(.int (1 : Int32))])) tt
    refine XS.goto X1.here hx rfl (pc0 := 23) (pc' := 27) rfl (hb hby d5_23) (by decide) (by decide) ?_
    exact kk
  exact Goal.retV X1 hx Bd.returns rfl (Or.inl ⟨rfl, Or.inr (Or.inl rfl), _, rfl⟩) (hb hby d5_27) hlk e1 ⟨rfl, N1, rfl⟩ (by decide) (by decide)
theorem d5_5 : decode method_2_code 5 = .ok (.iconst 1, 1) := by decide +kernel
theorem d5_6 : decode method_2_code 6 = .ok (.ireturn, 1) := by decide +kernel
def QTB (Z : State) (va : Addr) (vt : Addr) (u0 : Int32) (u1 : Int32) (h0 : Heap) (n0 : Nat) (v : Option Value) (h : Heap) (L : List Loc) : Prop := v = some (.int (1 : Int32)) ∧ Fr n0 L ∧ h = h0
set_option maxRecDepth 65536 in
set_option maxHeartbeats 40000000 in
theorem rmTB (l : Launch) (Z : State) (a0 : Array Value) (hw : ∀ d ∈ tables_1, d.before a0 Z = true) (ws : List Jvm.Cond) (va : Addr) (vt : Addr) (u0 : Int32) (u1 : Int32) (h0 : Heap) (n0 : Nat) (Z0 : n0 ≤ h0.size) (hbig : ¬ (u1 < u0)) :
    MetFree l (⟨"com/example/enodia/enodia/routing/RouteBufferReversePinLaw", "at", "(Lcom/example/enodia/enodia/routing/RouteBuffer;[III)Z"⟩ : MethodName) (head1 (Jvm.Cond.code (⟨"com/example/enodia/enodia/routing/RouteBufferReversePinLaw", "at", "(Lcom/example/enodia/enodia/routing/RouteBuffer;[III)Z"⟩ : MethodName) method_2_code 4 (some .boolean) :: ws) ({ frames := 0, cells := 0, slots := 0, locals := 0 } : Room)) (fun a U => a = #[(.ref va), (.ref vt), (.int u0), (.int u1)] ∧ Z.Warmed39 U.vm ∧ U.heap = h0) (fun _ _ _ _ _ => True) (fun _ U o U' => ∃ v L, o = .returned v ∧ QTB Z va vt u0 u1 h0 n0 v U'.heap L ∧ FrameEnd U o U' L 0 0) := by
  refine MetFree.of_bodySF (plainFor_of_name pn_5) hisR ?_
  intro p e s m args below meth c s₁ Bd hml0 hP hK
  obtain ⟨rfl, hZ, hh⟩ := hP
  have hx := Bd.exec
  have hby := Bd.bytes
  have hml : c.maxLocals = 4 := hml0
  have hown : s.vm.findClass "com/example/enodia/enodia/routing/RouteBufferReversePinLaw" = some m.cls := findClass_of_methodNamed Bd.named
  have hnm := (name_of_methodNamed Bd.named Bd.method).1
  have X0 : Stand p l e ({ frames := 0, cells := 0, slots := 0, locals := 0 } : Room) s m #[(.ref va), (.ref vt), (.int u0), (.int u1)] below meth c s₁ [] 0 0 := Stand.of_body Bd
  have e0 : s₁.heap = h0 := by rw [← hh, Bd.state]; rfl
  have N0 := Fr.nil n0
  have hlk : meth.locks = false := BodyLoose.notSynchronized Bd
  show Goal p e below s (QTB Z va vt u0 u1 h0 n0) 0 0 (s₁.setTop (entryFrame m #[(.ref va), (.ref vt), (.int u0), (.int u1)] 4))
  refine Goal.to (B := s₁.setTop (mkF m 0 #[.val (.ref va), .val (.ref vt), .val (.int u0), .val (.int u1)] [])) (fun tt kk => castTop (ef_5 m va vt u0 u1 ) kk) ?_
  refine Goal.to (B := s₁.setTop (mkF m 6 #[.val (.ref va), .val (.ref vt), .val (.int u0), .val (.int u1)] [(.int (1 : Int32))])) (fun tt kk => ?_) ?_
  · show Steps p.tables e below (s₁.setTop (mkF m 0 #[.val (.ref va), .val (.ref vt), .val (.int u0), .val (.int u1)] [])) tt
    refine XS.iloadN X0.here hx rfl (hb hby d5_0) rfl ?_
    show Steps p.tables e below (s₁.setTop (mkF m 1 #[.val (.ref va), .val (.ref vt), .val (.int u0), .val (.int u1)] [(.int u1)])) tt
    refine XS.iloadN X0.here hx rfl (hb hby d5_1) rfl ?_
    show Steps p.tables e below (s₁.setTop (mkF m 2 #[.val (.ref va), .val (.ref vt), .val (.int u0), .val (.int u1)] [(.int u0), (.int u1)])) tt
    refine XS.icmpNo X0.here hx rfl (hb hby d5_2) rfl (flt hbig).1 ?_
    show Steps p.tables e below (s₁.setTop (mkF m 5 #[.val (.ref va), .val (.ref vt), .val (.int u0), .val (.int u1)] [])) tt
    refine XS.iconst X0.here hx rfl (hb hby d5_5) ?_
    exact kk
  exact Goal.retV X0 hx Bd.returns rfl (Or.inl ⟨rfl, Or.inr (Or.inl rfl), _, rfl⟩) (hb hby d5_6) hlk e0 ⟨rfl, N0, rfl⟩ (by decide) (by decide)
theorem ef_0 (m : MethodId) (x0 : Int32) (x1 : Int32) (x2 : Int32) (x3 : Int32) (x4 : Int32)  : entryFrame m #[(.int x0), (.int x1), (.int x2), (.int x3), (.int x4)] maxLocals = mkF m 0 #[.val (.int x0), .val (.int x1), .val (.int x2), .val (.int x3), .val (.int x4), .unset, .unset, .unset] [] := by first | (simp [entryFrame, mkF, argsToLocals, Value.category, maxLocals]; done) | rfl
theorem pn_0 : plainName "com/example/enodia/enodia/routing/RouteBufferReversePinLaw" = true := by first | (simp [plainName, overriddenIn]; done) | decide +kernel
theorem pd_0 : parseMethodDescriptor "()V" = some ⟨[], none⟩ := by decide +kernel
theorem pd_1 : parseMethodDescriptor "()I" = some ⟨[], some .int⟩ := by decide +kernel
theorem pd_2 : parseMethodDescriptor "(Lcom/example/enodia/enodia/routing/RouteBuffer;[III)Z" = some ⟨[(.object "com/example/enodia/enodia/routing/RouteBuffer"), (.array .int), .int, .int], some .boolean⟩ := by decide +kernel
theorem pd_3 : parseMethodDescriptor "(I)V" = some ⟨[.int], none⟩ := by decide +kernel
def Q0 (Z : State) (u0 : Int32) (u1 : Int32) (u2 : Int32) (u3 : Int32) (u4 : Int32) (h0 : Heap) (n0 : Nat) (v : Option Value) (h : Heap) (L : List Loc) : Prop := v = some (.int (1 : Int32)) ∧ Fr n0 L
set_option maxRecDepth 65536 in
set_option maxHeartbeats 40000000 in
theorem rm0 (l : Launch) (Z : State) (a0 : Array Value) (hw : ∀ d ∈ tables_1, d.before a0 Z = true) (ws : List Jvm.Cond) (u0 : Int32) (u1 : Int32) (u2 : Int32) (u3 : Int32) (u4 : Int32) (h0 : Heap) (n0 : Nat) (Z0 : n0 ≤ h0.size) :
    MetFree l x (head1 (Jvm.Cond.code x code maxLocals ret :: ws) room_1) (fun a U => a = #[(.int u0), (.int u1), (.int u2), (.int u3), (.int u4)] ∧ Z.Warmed39 U.vm ∧ U.heap = h0) (fun _ _ _ _ _ => True) (fun _ U o U' => ∃ v L, o = .returned v ∧ Q0 Z u0 u1 u2 u3 u4 h0 n0 v U'.heap L ∧ FrameEnd U o U' L 16 128) := by
  refine MetFree.of_bodySF (plainFor_of_name pn_0) hisR ?_
  intro p e s m args below meth c s₁ Bd hml0 hP hK
  obtain ⟨rfl, hZ, hh⟩ := hP
  have hx := Bd.exec
  have hby := Bd.bytes
  have hml : c.maxLocals = 8 := hml0
  have hown : s.vm.findClass "com/example/enodia/enodia/routing/RouteBufferReversePinLaw" = some m.cls := findClass_of_methodNamed Bd.named
  have hnm := (name_of_methodNamed Bd.named Bd.method).1
  have X0 : Stand p l e room_1 s m #[(.int u0), (.int u1), (.int u2), (.int u3), (.int u4)] below meth c s₁ [] 0 0 := Stand.of_body Bd
  have e0 : s₁.heap = h0 := by rw [← hh, Bd.state]; rfl
  have N0 := Fr.nil n0
  have hlk : meth.locks = false := BodyLoose.notSynchronized Bd
  show Goal p e below s (Q0 Z u0 u1 u2 u3 u4 h0 n0) 16 128 (s₁.setTop (entryFrame m #[(.int u0), (.int u1), (.int u2), (.int u3), (.int u4)] maxLocals))
  refine Goal.to (B := s₁.setTop (mkF m 0 #[.val (.int u0), .val (.int u1), .val (.int u2), .val (.int u3), .val (.int u4), .unset, .unset, .unset] [])) (fun tt kk => castTop (ef_0 m u0 u1 u2 u3 u4 ) kk) ?_
  obtain ⟨nn, hnn⟩ : ∃ z : Int32, z = ((u0 &&& (2147483647 : Int32)) % (5 : Int32)) := ⟨_, rfl⟩
  refine Goal.to (B := s₁.setTop (mkF m 8 #[.val (.int u0), .val (.int u1), .val (.int u2), .val (.int u3), .val (.int u4), .val (.int nn), .unset, .unset] [])) (fun tt kk => ?_) ?_
  · subst hnn
    show Steps p.tables e below (s₁.setTop (mkF m 0 #[.val (.int u0), .val (.int u1), .val (.int u2), .val (.int u3), .val (.int u4), .unset, .unset, .unset] [])) tt
    refine XS.iloadN X0.here hx rfl (hb hby at_0) rfl ?_
    show Steps p.tables e below (s₁.setTop (mkF m 1 #[.val (.int u0), .val (.int u1), .val (.int u2), .val (.int u3), .val (.int u4), .unset, .unset, .unset] [(.int u0)])) tt
    refine X0.ldcInt hx hown (mvT hZ (hw _ (mw 0 rfl))) (g := (mkF m 1 #[.val (.int u0), .val (.int u1), .val (.int u2), .val (.int u3), .val (.int u4), .unset, .unset, .unset] [(.int u0)])) rfl (hb hby at_1) _ ?_
    show Steps p.tables e below (s₁.setTop (mkF m 3 #[.val (.int u0), .val (.int u1), .val (.int u2), .val (.int u3), .val (.int u4), .unset, .unset, .unset] [(.int (2147483647 : Int32)), (.int u0)])) tt
    refine XS.iand X0.here hx rfl (hb hby at_3) rfl ?_
    show Steps p.tables e below (s₁.setTop (mkF m 4 #[.val (.int u0), .val (.int u1), .val (.int u2), .val (.int u3), .val (.int u4), .unset, .unset, .unset] [(.int (u0 &&& (2147483647 : Int32)))])) tt
    refine XS.iconst X0.here hx rfl (hb hby at_4) ?_
    show Steps p.tables e below (s₁.setTop (mkF m 5 #[.val (.int u0), .val (.int u1), .val (.int u2), .val (.int u3), .val (.int u4), .unset, .unset, .unset] [(.int (5 : Int32)), (.int (u0 &&& (2147483647 : Int32)))])) tt
    refine iremM X0 hx rfl (hb hby at_5) rfl (by decide) ?_
    show Steps p.tables e below (s₁.setTop (mkF m 6 #[.val (.int u0), .val (.int u1), .val (.int u2), .val (.int u3), .val (.int u4), .unset, .unset, .unset] [(.int ((u0 &&& (2147483647 : Int32)) % (5 : Int32)))])) tt
    refine XS.istore X0.here hx rfl (hb hby at_6) rfl (l' := #[.val (.int u0), .val (.int u1), .val (.int u2), .val (.int u3), .val (.int u4), .val (.int ((u0 &&& (2147483647 : Int32)) % (5 : Int32))), .unset, .unset]) rfl ?_
    exact kk
  refine Goal.to (B := s₁.setTop (mkF m 9 #[.val (.int u0), .val (.int u1), .val (.int u2), .val (.int u3), .val (.int u4), .val (.int nn), .unset, .unset] [(.int (4 : Int32))])) (fun tt kk => ?_) ?_
  · show Steps p.tables e below (s₁.setTop (mkF m 8 #[.val (.int u0), .val (.int u1), .val (.int u2), .val (.int u3), .val (.int u4), .val (.int nn), .unset, .unset] [])) tt
    refine XS.iconst X0.here hx rfl (hb hby at_8) ?_
    exact kk
  obtain ⟨T1, h1, k1, X1, e1, E1, A1, st1⟩ := newP X0 hx hZ (hw _ (mw 1 rfl)) e0 (g := (mkF m 9 #[.val (.int u0), .val (.int u1), .val (.int u2), .val (.int u3), .val (.int u4), .val (.int nn), .unset, .unset] [(.int (4 : Int32))])) rfl (hb hby at_9) rfl (by decide) (cap := 4) (by decide) (by decide) (by decide) (by decide)
  obtain ⟨b1, g1⟩ : ∃ z, z = h0.size := ⟨_, rfl⟩
  rw [← g1] at A1 st1
  have g_b1 : n0 ≤ b1 := Nat.le_trans Z0 (Nat.le_of_eq g1.symm)
  have V1 : Ary Z h1 b1 .int [(.int (0 : Int32)), (.int (0 : Int32)), (.int (0 : Int32)), (.int (0 : Int32))] := Ary.new A1 rfl
  refine Goal.to (B := T1.setTop (mkF m 11 #[.val (.int u0), .val (.int u1), .val (.int u2), .val (.int u3), .val (.int u4), .val (.int nn), .unset, .unset] [(.ref b1)])) st1 ?_
  refine Goal.to (B := T1.setTop (mkF m 14 #[.val (.int u0), .val (.int u1), .val (.int u2), .val (.int u3), .val (.int u4), .val (.int nn), .unset, .unset] [(.int u1), (.int (0 : Int32)), (.ref b1), (.ref b1)])) (fun tt kk => ?_) ?_
  · show Steps p.tables e below (T1.setTop (mkF m 11 #[.val (.int u0), .val (.int u1), .val (.int u2), .val (.int u3), .val (.int u4), .val (.int nn), .unset, .unset] [(.ref b1)])) tt
    refine XS.dup X1.here hx rfl (hb hby at_11) rfl rfl ?_
    show Steps p.tables e below (T1.setTop (mkF m 12 #[.val (.int u0), .val (.int u1), .val (.int u2), .val (.int u3), .val (.int u4), .val (.int nn), .unset, .unset] [(.ref b1), (.ref b1)])) tt
    refine XS.iconst X1.here hx rfl (hb hby at_12) ?_
    show Steps p.tables e below (T1.setTop (mkF m 13 #[.val (.int u0), .val (.int u1), .val (.int u2), .val (.int u3), .val (.int u4), .val (.int nn), .unset, .unset] [(.int (0 : Int32)), (.ref b1), (.ref b1)])) tt
    refine XS.iloadN X1.here hx rfl (hb hby at_13) rfl ?_
    exact kk
  obtain ⟨cl2, Ar2, Sl2⟩ := id V1
  have hin2 := inA (cl := cl2) Sl2 (j := (0 : Int32)) (by decide) (Nat.le_of_ble_eq_true rfl)
  obtain ⟨T2, h2, X2, e2, W2, st2⟩ := stI X1 hx hZ e1 Ar2 (j := (0 : Int32)) hin2 (g := (mkF m 14 #[.val (.int u0), .val (.int u1), .val (.int u2), .val (.int u3), .val (.int u4), .val (.int nn), .unset, .unset] [(.int u1), (.int (0 : Int32)), (.ref b1), (.ref b1)])) rfl rfl (hb hby at_14)
  have V2 : Ary Z h2 b1 .int [(.int u1), (.int (0 : Int32)), (.int (0 : Int32)), (.int (0 : Int32))] := Ary.put Ar2 Sl2 W2 rfl
  have N2 := Fr.snoc X2 N0 g_b1
  refine Goal.to (B := T2.setTop (mkF m 15 #[.val (.int u0), .val (.int u1), .val (.int u2), .val (.int u3), .val (.int u4), .val (.int nn), .unset, .unset] [(.ref b1)])) st2 ?_
  refine Goal.to (B := T2.setTop (mkF m 18 #[.val (.int u0), .val (.int u1), .val (.int u2), .val (.int u3), .val (.int u4), .val (.int nn), .unset, .unset] [(.int u2), (.int (1 : Int32)), (.ref b1), (.ref b1)])) (fun tt kk => ?_) ?_
  · show Steps p.tables e below (T2.setTop (mkF m 15 #[.val (.int u0), .val (.int u1), .val (.int u2), .val (.int u3), .val (.int u4), .val (.int nn), .unset, .unset] [(.ref b1)])) tt
    refine XS.dup X2.here hx rfl (hb hby at_15) rfl rfl ?_
    show Steps p.tables e below (T2.setTop (mkF m 16 #[.val (.int u0), .val (.int u1), .val (.int u2), .val (.int u3), .val (.int u4), .val (.int nn), .unset, .unset] [(.ref b1), (.ref b1)])) tt
    refine XS.iconst X2.here hx rfl (hb hby at_16) ?_
    show Steps p.tables e below (T2.setTop (mkF m 17 #[.val (.int u0), .val (.int u1), .val (.int u2), .val (.int u3), .val (.int u4), .val (.int nn), .unset, .unset] [(.int (1 : Int32)), (.ref b1), (.ref b1)])) tt
    refine XS.iloadN X2.here hx rfl (hb hby at_17) rfl ?_
    exact kk
  obtain ⟨cl3, Ar3, Sl3⟩ := id V2
  have hin3 := inA (cl := cl3) Sl3 (j := (1 : Int32)) (by decide) (Nat.le_of_ble_eq_true rfl)
  obtain ⟨T3, h3, X3, e3, W3, st3⟩ := stI X2 hx hZ e2 Ar3 (j := (1 : Int32)) hin3 (g := (mkF m 18 #[.val (.int u0), .val (.int u1), .val (.int u2), .val (.int u3), .val (.int u4), .val (.int nn), .unset, .unset] [(.int u2), (.int (1 : Int32)), (.ref b1), (.ref b1)])) rfl rfl (hb hby at_18)
  have V3 : Ary Z h3 b1 .int [(.int u1), (.int u2), (.int (0 : Int32)), (.int (0 : Int32))] := Ary.put Ar3 Sl3 W3 rfl
  have N3 := Fr.snoc X3 N2 g_b1
  refine Goal.to (B := T3.setTop (mkF m 19 #[.val (.int u0), .val (.int u1), .val (.int u2), .val (.int u3), .val (.int u4), .val (.int nn), .unset, .unset] [(.ref b1)])) st3 ?_
  refine Goal.to (B := T3.setTop (mkF m 22 #[.val (.int u0), .val (.int u1), .val (.int u2), .val (.int u3), .val (.int u4), .val (.int nn), .unset, .unset] [(.int u3), (.int (2 : Int32)), (.ref b1), (.ref b1)])) (fun tt kk => ?_) ?_
  · show Steps p.tables e below (T3.setTop (mkF m 19 #[.val (.int u0), .val (.int u1), .val (.int u2), .val (.int u3), .val (.int u4), .val (.int nn), .unset, .unset] [(.ref b1)])) tt
    refine XS.dup X3.here hx rfl (hb hby at_19) rfl rfl ?_
    show Steps p.tables e below (T3.setTop (mkF m 20 #[.val (.int u0), .val (.int u1), .val (.int u2), .val (.int u3), .val (.int u4), .val (.int nn), .unset, .unset] [(.ref b1), (.ref b1)])) tt
    refine XS.iconst X3.here hx rfl (hb hby at_20) ?_
    show Steps p.tables e below (T3.setTop (mkF m 21 #[.val (.int u0), .val (.int u1), .val (.int u2), .val (.int u3), .val (.int u4), .val (.int nn), .unset, .unset] [(.int (2 : Int32)), (.ref b1), (.ref b1)])) tt
    refine XS.iloadN X3.here hx rfl (hb hby at_21) rfl ?_
    exact kk
  obtain ⟨cl4, Ar4, Sl4⟩ := id V3
  have hin4 := inA (cl := cl4) Sl4 (j := (2 : Int32)) (by decide) (Nat.le_of_ble_eq_true rfl)
  obtain ⟨T4, h4, X4, e4, W4, st4⟩ := stI X3 hx hZ e3 Ar4 (j := (2 : Int32)) hin4 (g := (mkF m 22 #[.val (.int u0), .val (.int u1), .val (.int u2), .val (.int u3), .val (.int u4), .val (.int nn), .unset, .unset] [(.int u3), (.int (2 : Int32)), (.ref b1), (.ref b1)])) rfl rfl (hb hby at_22)
  have V4 : Ary Z h4 b1 .int [(.int u1), (.int u2), (.int u3), (.int (0 : Int32))] := Ary.put Ar4 Sl4 W4 rfl
  have N4 := Fr.snoc X4 N3 g_b1
  refine Goal.to (B := T4.setTop (mkF m 23 #[.val (.int u0), .val (.int u1), .val (.int u2), .val (.int u3), .val (.int u4), .val (.int nn), .unset, .unset] [(.ref b1)])) st4 ?_
  refine Goal.to (B := T4.setTop (mkF m 27 #[.val (.int u0), .val (.int u1), .val (.int u2), .val (.int u3), .val (.int u4), .val (.int nn), .unset, .unset] [(.int u4), (.int (3 : Int32)), (.ref b1), (.ref b1)])) (fun tt kk => ?_) ?_
  · show Steps p.tables e below (T4.setTop (mkF m 23 #[.val (.int u0), .val (.int u1), .val (.int u2), .val (.int u3), .val (.int u4), .val (.int nn), .unset, .unset] [(.ref b1)])) tt
    refine XS.dup X4.here hx rfl (hb hby at_23) rfl rfl ?_
    show Steps p.tables e below (T4.setTop (mkF m 24 #[.val (.int u0), .val (.int u1), .val (.int u2), .val (.int u3), .val (.int u4), .val (.int nn), .unset, .unset] [(.ref b1), (.ref b1)])) tt
    refine XS.iconst X4.here hx rfl (hb hby at_24) ?_
    show Steps p.tables e below (T4.setTop (mkF m 25 #[.val (.int u0), .val (.int u1), .val (.int u2), .val (.int u3), .val (.int u4), .val (.int nn), .unset, .unset] [(.int (3 : Int32)), (.ref b1), (.ref b1)])) tt
    refine XS.iload X4.here hx rfl (hb hby at_25) rfl ?_
    exact kk
  obtain ⟨cl5, Ar5, Sl5⟩ := id V4
  have hin5 := inA (cl := cl5) Sl5 (j := (3 : Int32)) (by decide) (Nat.le_of_ble_eq_true rfl)
  obtain ⟨T5, h5, X5, e5, W5, st5⟩ := stI X4 hx hZ e4 Ar5 (j := (3 : Int32)) hin5 (g := (mkF m 27 #[.val (.int u0), .val (.int u1), .val (.int u2), .val (.int u3), .val (.int u4), .val (.int nn), .unset, .unset] [(.int u4), (.int (3 : Int32)), (.ref b1), (.ref b1)])) rfl rfl (hb hby at_27)
  have V5 : Ary Z h5 b1 .int [(.int u1), (.int u2), (.int u3), (.int u4)] := Ary.put Ar5 Sl5 W5 rfl
  have N5 := Fr.snoc X5 N4 g_b1
  refine Goal.to (B := T5.setTop (mkF m 28 #[.val (.int u0), .val (.int u1), .val (.int u2), .val (.int u3), .val (.int u4), .val (.int nn), .unset, .unset] [(.ref b1)])) st5 ?_
  refine Goal.to (B := T5.setTop (mkF m 30 #[.val (.int u0), .val (.int u1), .val (.int u2), .val (.int u3), .val (.int u4), .val (.int nn), .val (.ref b1), .unset] [])) (fun tt kk => ?_) ?_
  · show Steps p.tables e below (T5.setTop (mkF m 28 #[.val (.int u0), .val (.int u1), .val (.int u2), .val (.int u3), .val (.int u4), .val (.int nn), .unset, .unset] [(.ref b1)])) tt
    refine XS.astore X5.here hx rfl (hb hby at_28) rfl rfl (l' := #[.val (.int u0), .val (.int u1), .val (.int u2), .val (.int u3), .val (.int u4), .val (.int nn), .val (.ref b1), .unset]) rfl ?_
    exact kk
  have f7 : n0 ≤ h5.size := (Nat.le_trans (Nat.le_trans (Nat.le_trans (Nat.le_trans (Nat.le_trans Z0 E1.1) (Keep.of_wr W2).1) (Keep.of_wr W3).1) (Keep.of_wr W4).1) (Keep.of_wr W5).1)
  obtain ⟨T6, h6, X6, e6, E6, A6, D6, -, st6⟩ := newO X5 hx hZ hown (hw _ (mw 2 rfl)) (hw _ (mw 3 rfl)) (hw _ (mw 4 rfl)) e5 (g := (mkF m 30 #[.val (.int u0), .val (.int u1), .val (.int u2), .val (.int u3), .val (.int u4), .val (.int nn), .val (.ref b1), .unset] [])) rfl (hb hby at_30) (by decide) (by decide)
  obtain ⟨b6, g6⟩ : ∃ z, z = h5.size := ⟨_, rfl⟩
  rw [← g6] at A6 D6 st6
  have ne_b1_b6 : b1 ≠ b6 := Nat.ne_of_lt (Nat.lt_of_lt_of_le V5.lt (Nat.le_of_eq g6.symm))
  have g_b6 : n0 ≤ b6 := Nat.le_trans f7 (Nat.le_of_eq g6.symm)
  have F_links_b6 : Fld Z h6 b6 "com/example/enodia/enodia/routing/RouteBuffer" "links" "[I" .null := D6 (Or.inl (hw _ (mw 12 rfl))) (ty := (.array .int)) (by decide)
  have F_linkCount_b6 : Fld Z h6 b6 "com/example/enodia/enodia/routing/RouteBuffer" "linkCount" "I" (.int (0 : Int32)) := D6 (Or.inl (hw _ (mw 19 rfl))) (ty := .int) (by decide)
  refine Goal.to (B := T6.setTop (mkF m 33 #[.val (.int u0), .val (.int u1), .val (.int u2), .val (.int u3), .val (.int u4), .val (.int nn), .val (.ref b1), .unset] [(.ref b6)])) st6 ?_
  refine Goal.to (B := T6.setTop (mkF m 34 #[.val (.int u0), .val (.int u1), .val (.int u2), .val (.int u3), .val (.int u4), .val (.int nn), .val (.ref b1), .unset] [(.ref b6), (.ref b6)])) (fun tt kk => ?_) ?_
  · show Steps p.tables e below (T6.setTop (mkF m 33 #[.val (.int u0), .val (.int u1), .val (.int u2), .val (.int u3), .val (.int u4), .val (.int nn), .val (.ref b1), .unset] [(.ref b6)])) tt
    refine XS.dup X6.here hx rfl (hb hby at_33) rfl rfl ?_
    exact kk
  have f8 : n0 ≤ h6.size := (Nat.le_trans f7 E6.1)
  have f10 : Ary Z h6 b1 .int [(.int u1), (.int u2), (.int u3), (.int u4)] := (V5.ext E6)
  obtain ⟨_, _, ⟨T9, L9, k9, n9⟩, -, X9, ⟨Lc9, hQ9, l9, y9, z9⟩, st9⟩ := X6.specialBack hx (y := (⟨"com/example/enodia/enodia/routing/RouteBuffer", "<init>", "()V"⟩ : MethodName)) rfl hown (mvT hZ (hw _ (mw 5 rfl))) (mvT hZ (hw _ (mw 6 rfl))) (mvT hZ (hw _ (mw 7 rfl))) (by decide) (backOf (W := 1) (rmN l Z a0 hw [] b6 h6 n0 f8 A6 F_links_b6 F_linkCount_b6 g_b6) hZ (hw _ (mw 7 rfl)) (hw _ (mw 4 rfl)) (by decide) (by decide)) (g := (mkF m 34 #[.val (.int u0), .val (.int u1), .val (.int u2), .val (.int u3), .val (.int u4), .val (.int nn), .val (.ref b1), .unset] [(.ref b6), (.ref b6)])) rfl (by rw [hml]; rfl) (Steps.refl _) (a := b6) (argsL := []) (rest := [(.ref b6)]) (lenOf pd_0 rfl) rfl (by show 2 * 0 + _ ≤ _; exact Nat.le_of_eq rfl) (hb hby at_34) (fun _ _ => ⟨rfl, e6, (by decide : 2 + 1 ≤ _), (by decide : 7 + 16 ≤ _)⟩)
  dsimp only [Pt.U, Pt.locs, Pt.cells, Pt.slots] at X9 l9 y9 z9 st9 hQ9
  subst l9 y9 z9
  obtain ⟨vb_9, rfl, N9q, K9, sz9_vb, P9_0, P9_1, P9_2⟩ := hQ9
  have N9 := Fr.app N5 N9q
  have ne_b1_vb_9 : b1 ≠ vb_9 := Nat.ne_of_lt (Nat.lt_of_lt_of_le f10.lt sz9_vb)
  have ne_b6_vb_9 : b6 ≠ vb_9 := Nat.ne_of_lt (Nat.lt_of_lt_of_le A6.lt sz9_vb)
  have g_vb_9 : n0 ≤ vb_9 := Nat.le_trans f8 sz9_vb
  refine Goal.tr (B := T9.setTop (mkF m 37 #[.val (.int u0), .val (.int u1), .val (.int u2), .val (.int u3), .val (.int u4), .val (.int nn), .val (.ref b1), .unset] [(.ref b6)])) st9 ?_
  refine Goal.to (B := T9.setTop (mkF m 39 #[.val (.int u0), .val (.int u1), .val (.int u2), .val (.int u3), .val (.int u4), .val (.int nn), .val (.ref b1), .val (.ref b6)] [])) (fun tt kk => ?_) ?_
  · show Steps p.tables e below (T9.setTop (mkF m 37 #[.val (.int u0), .val (.int u1), .val (.int u2), .val (.int u3), .val (.int u4), .val (.int nn), .val (.ref b1), .unset] [(.ref b6)])) tt
    refine XS.astore X9.here hx rfl (hb hby at_37) rfl rfl (l' := #[.val (.int u0), .val (.int u1), .val (.int u2), .val (.int u3), .val (.int u4), .val (.int nn), .val (.ref b1), .val (.ref b6)]) rfl ?_
    exact kk
  rcases own_n hnn with rfl | rfl | rfl | rfl | rfl
  · refine Goal.to (B := T9.setTop (mkF m 89 #[.val (.int u0), .val (.int u1), .val (.int u2), .val (.int u3), .val (.int u4), .val (.int (0 : Int32)), .val (.ref b1), .val (.ref b6)] [(.ref b6)])) (fun tt kk => ?_) ?_
    · show Steps p.tables e below (T9.setTop (mkF m 39 #[.val (.int u0), .val (.int u1), .val (.int u2), .val (.int u3), .val (.int u4), .val (.int (0 : Int32)), .val (.ref b1), .val (.ref b6)] [])) tt
      refine XS.iload X9.here hx rfl (hb hby at_39) rfl ?_
      show Steps p.tables e below (T9.setTop (mkF m 41 #[.val (.int u0), .val (.int u1), .val (.int u2), .val (.int u3), .val (.int u4), .val (.int (0 : Int32)), .val (.ref b1), .val (.ref b6)] [(.int (0 : Int32))])) tt
      refine XS.ifYes X9.here hx rfl (pc0 := 41) (pc' := 50) rfl (hb hby at_41) rfl ((if0 _ _).trans (flt (Int32.lt_irrefl : ¬ ((0 : Int32) < (0 : Int32)))).2.2.2) (by decide) (by decide) ?_
      show Steps p.tables e below (T9.setTop (mkF m 50 #[.val (.int u0), .val (.int u1), .val (.int u2), .val (.int u3), .val (.int u4), .val (.int (0 : Int32)), .val (.ref b1), .val (.ref b6)] [])) tt
      refine XS.iload X9.here hx rfl (hb hby at_50) rfl ?_
      show Steps p.tables e below (T9.setTop (mkF m 52 #[.val (.int u0), .val (.int u1), .val (.int u2), .val (.int u3), .val (.int u4), .val (.int (0 : Int32)), .val (.ref b1), .val (.ref b6)] [(.int (0 : Int32))])) tt
      refine XS.iconst X9.here hx rfl (hb hby at_52) ?_
      show Steps p.tables e below (T9.setTop (mkF m 53 #[.val (.int u0), .val (.int u1), .val (.int u2), .val (.int u3), .val (.int u4), .val (.int (0 : Int32)), .val (.ref b1), .val (.ref b6)] [(.int (1 : Int32)), (.int (0 : Int32))])) tt
      refine XS.icmpYes X9.here hx rfl (pc0 := 53) (pc' := 62) rfl (hb hby at_53) rfl (flt ((by decide) : ¬ ((1 : Int32) < (0 : Int32)))).2.2.2 (by decide) (by decide) ?_
      show Steps p.tables e below (T9.setTop (mkF m 62 #[.val (.int u0), .val (.int u1), .val (.int u2), .val (.int u3), .val (.int u4), .val (.int (0 : Int32)), .val (.ref b1), .val (.ref b6)] [])) tt
      refine XS.iload X9.here hx rfl (hb hby at_62) rfl ?_
      show Steps p.tables e below (T9.setTop (mkF m 64 #[.val (.int u0), .val (.int u1), .val (.int u2), .val (.int u3), .val (.int u4), .val (.int (0 : Int32)), .val (.ref b1), .val (.ref b6)] [(.int (0 : Int32))])) tt
      refine XS.iconst X9.here hx rfl (hb hby at_64) ?_
      show Steps p.tables e below (T9.setTop (mkF m 65 #[.val (.int u0), .val (.int u1), .val (.int u2), .val (.int u3), .val (.int u4), .val (.int (0 : Int32)), .val (.ref b1), .val (.ref b6)] [(.int (2 : Int32)), (.int (0 : Int32))])) tt
      refine XS.icmpYes X9.here hx rfl (pc0 := 65) (pc' := 74) rfl (hb hby at_65) rfl (flt ((by decide) : ¬ ((2 : Int32) < (0 : Int32)))).2.2.2 (by decide) (by decide) ?_
      show Steps p.tables e below (T9.setTop (mkF m 74 #[.val (.int u0), .val (.int u1), .val (.int u2), .val (.int u3), .val (.int u4), .val (.int (0 : Int32)), .val (.ref b1), .val (.ref b6)] [])) tt
      refine XS.iload X9.here hx rfl (hb hby at_74) rfl ?_
      show Steps p.tables e below (T9.setTop (mkF m 76 #[.val (.int u0), .val (.int u1), .val (.int u2), .val (.int u3), .val (.int u4), .val (.int (0 : Int32)), .val (.ref b1), .val (.ref b6)] [(.int (0 : Int32))])) tt
      refine XS.iconst X9.here hx rfl (hb hby at_76) ?_
      show Steps p.tables e below (T9.setTop (mkF m 77 #[.val (.int u0), .val (.int u1), .val (.int u2), .val (.int u3), .val (.int u4), .val (.int (0 : Int32)), .val (.ref b1), .val (.ref b6)] [(.int (3 : Int32)), (.int (0 : Int32))])) tt
      refine XS.icmpYes X9.here hx rfl (pc0 := 77) (pc' := 87) rfl (hb hby at_77) rfl (flt ((by decide) : ¬ ((3 : Int32) < (0 : Int32)))).2.2.2 (by decide) (by decide) ?_
      show Steps p.tables e below (T9.setTop (mkF m 87 #[.val (.int u0), .val (.int u1), .val (.int u2), .val (.int u3), .val (.int u4), .val (.int (0 : Int32)), .val (.ref b1), .val (.ref b6)] [])) tt
      refine XS.aload X9.here hx rfl (hb hby at_87) rfl rfl ?_
      exact kk
    have f11 : n0 ≤ T9.heap.size := (Nat.le_trans f8 K9.1)
    have f13 : Exa Z T9.heap b6 "com/example/enodia/enodia/routing/RouteBuffer" := (A6.keep K9)
    obtain ⟨cq12, kq12, q12a, q12b, q12c⟩ := isOf hZ rfl f13
    obtain ⟨_, _, ⟨T12, L12, k12, n12⟩, -, X12, ⟨Lc12, hQ12, l12, y12, z12⟩, st12⟩ := X9.virtualBack hx (y := (⟨"com/example/enodia/enodia/routing/RouteBuffer", "reverse", "()V"⟩ : MethodName)) (z := (⟨"com/example/enodia/enodia/routing/RouteBuffer", "reverse", "()V"⟩ : MethodName)) hown (mvT hZ (hw _ (mw 13 rfl))) (mvT hZ (hw _ (mw 14 rfl))) (notFace_of_selects (args := #[]) (mvT hZ (hw _ (mw 16 rfl)))) (mvT hZ (hw _ (mw 16 rfl))) (mvT hZ (hw _ (mw 15 rfl))) (by decide) (backOf (W := 0) (rmR0 l Z a0 hw [] b6 vb_9 T9.heap n0 f11 P9_1 P9_0 P9_2 g_vb_9 ne_b6_vb_9) hZ (hw _ (mw 17 rfl)) (hw _ (mw 4 rfl)) (by decide) (by decide)) q12a q12c (g := (mkF m 89 #[.val (.int u0), .val (.int u1), .val (.int u2), .val (.int u3), .val (.int u4), .val (.int (0 : Int32)), .val (.ref b1), .val (.ref b6)] [(.ref b6)])) rfl (by rw [hml]; rfl) (Steps.refl _) (argsL := []) (rest := []) (lenOf pd_0 rfl) rfl (by show 2 * 0 + _ ≤ _; exact Nat.le_of_eq rfl) (hb hby at_89) (fun _ _ => ⟨rfl, rfl, (by decide : 3 + 0 ≤ _), (by decide : 23 + 0 ≤ _)⟩)
    dsimp only [Pt.U, Pt.locs, Pt.cells, Pt.slots] at X12 l12 y12 z12 st12 hQ12
    subst l12 y12 z12
    obtain ⟨rfl, N12q, K12, P12_0⟩ := hQ12
    have N12 := Fr.app N9 N12q
    refine Goal.tr (B := T12.setTop (mkF m 92 #[.val (.int u0), .val (.int u1), .val (.int u2), .val (.int u3), .val (.int u4), .val (.int (0 : Int32)), .val (.ref b1), .val (.ref b6)] [])) st12 ?_
    refine Goal.to (B := T12.setTop (mkF m 94 #[.val (.int u0), .val (.int u1), .val (.int u2), .val (.int u3), .val (.int u4), .val (.int (0 : Int32)), .val (.ref b1), .val (.ref b6)] [(.ref b6)])) (fun tt kk => ?_) ?_
    · show Steps p.tables e below (T12.setTop (mkF m 92 #[.val (.int u0), .val (.int u1), .val (.int u2), .val (.int u3), .val (.int u4), .val (.int (0 : Int32)), .val (.ref b1), .val (.ref b6)] [])) tt
      refine XS.aload X12.here hx rfl (hb hby at_92) rfl rfl ?_
      exact kk
    have f14 : Fld Z T12.heap b6 "com/example/enodia/enodia/routing/RouteBuffer" "linkCount" "I" (.int (0 : Int32)) := (P9_1.keep K12 (ninS ne_b6_vb_9 nin0))
    have f15 : n0 ≤ T12.heap.size := (Nat.le_trans f11 K12.1)
    have f17 : Exa Z T12.heap b6 "com/example/enodia/enodia/routing/RouteBuffer" := (f13.keep K12)
    obtain ⟨cq16, kq16, q16a, q16b, q16c⟩ := isOf hZ rfl f17
    obtain ⟨_, _, ⟨T16, L16, k16, n16⟩, -, X16, ⟨Lc16, hQ16, l16, y16, z16⟩, st16⟩ := X12.virtualBack hx (y := (⟨"com/example/enodia/enodia/routing/RouteBuffer", "getLinkCount", "()I"⟩ : MethodName)) (z := (⟨"com/example/enodia/enodia/routing/RouteBuffer", "getLinkCount", "()I"⟩ : MethodName)) hown (mvT hZ (hw _ (mw 20 rfl))) (mvT hZ (hw _ (mw 21 rfl))) (notFace_of_selects (args := #[]) (mvT hZ (hw _ (mw 23 rfl)))) (mvT hZ (hw _ (mw 23 rfl))) (mvT hZ (hw _ (mw 22 rfl))) (by decide) (backOf (W := 0) (rmC l Z a0 hw [] b6 (0 : Int32) T12.heap n0 f15 f14) hZ (hw _ (mw 24 rfl)) (hw _ (mw 4 rfl)) (by decide) (by decide)) q16a q16c (g := (mkF m 94 #[.val (.int u0), .val (.int u1), .val (.int u2), .val (.int u3), .val (.int u4), .val (.int (0 : Int32)), .val (.ref b1), .val (.ref b6)] [(.ref b6)])) rfl (by rw [hml]; rfl) (Steps.refl _) (argsL := []) (rest := []) (lenOf pd_1 rfl) rfl (by show 2 * 0 + _ ≤ _; exact Nat.le_of_eq rfl) (hb hby at_94) (fun _ _ => ⟨rfl, rfl, (by decide : 3 + 0 ≤ _), (by decide : 23 + 0 ≤ _)⟩)
    dsimp only [Pt.U, Pt.locs, Pt.cells, Pt.slots] at X16 l16 y16 z16 st16 hQ16
    subst l16 y16 z16
    obtain ⟨rfl, N16q, e16⟩ := hQ16
    have N16 := Fr.app N12 N16q
    refine Goal.tr (B := T16.setTop (mkF m 97 #[.val (.int u0), .val (.int u1), .val (.int u2), .val (.int u3), .val (.int u4), .val (.int (0 : Int32)), .val (.ref b1), .val (.ref b6)] [(.int (0 : Int32))])) st16 ?_
    refine Goal.to (B := T16.setTop (mkF m 111 #[.val (.int u0), .val (.int u1), .val (.int u2), .val (.int u3), .val (.int u4), .val (.int (0 : Int32)), .val (.ref b1), .val (.ref b6)] [(.int (0 : Int32)), (.int (0 : Int32)), (.ref b1), (.ref b6)])) (fun tt kk => ?_) ?_
    · show Steps p.tables e below (T16.setTop (mkF m 97 #[.val (.int u0), .val (.int u1), .val (.int u2), .val (.int u3), .val (.int u4), .val (.int (0 : Int32)), .val (.ref b1), .val (.ref b6)] [(.int (0 : Int32))])) tt
      refine XS.iload X16.here hx rfl (hb hby at_97) rfl ?_
      show Steps p.tables e below (T16.setTop (mkF m 99 #[.val (.int u0), .val (.int u1), .val (.int u2), .val (.int u3), .val (.int u4), .val (.int (0 : Int32)), .val (.ref b1), .val (.ref b6)] [(.int (0 : Int32)), (.int (0 : Int32))])) tt
      refine XS.icmpYes X16.here hx rfl (pc0 := 99) (pc' := 104) rfl (hb hby at_99) rfl (teq (rfl : (0 : Int32) = (0 : Int32))).1 (by decide) (by decide) ?_
      show Steps p.tables e below (T16.setTop (mkF m 104 #[.val (.int u0), .val (.int u1), .val (.int u2), .val (.int u3), .val (.int u4), .val (.int (0 : Int32)), .val (.ref b1), .val (.ref b6)] [])) tt
      refine XS.aload X16.here hx rfl (hb hby at_104) rfl rfl ?_
      show Steps p.tables e below (T16.setTop (mkF m 106 #[.val (.int u0), .val (.int u1), .val (.int u2), .val (.int u3), .val (.int u4), .val (.int (0 : Int32)), .val (.ref b1), .val (.ref b6)] [(.ref b6)])) tt
      refine XS.aload X16.here hx rfl (hb hby at_106) rfl rfl ?_
      show Steps p.tables e below (T16.setTop (mkF m 108 #[.val (.int u0), .val (.int u1), .val (.int u2), .val (.int u3), .val (.int u4), .val (.int (0 : Int32)), .val (.ref b1), .val (.ref b6)] [(.ref b1), (.ref b6)])) tt
      refine XS.iload X16.here hx rfl (hb hby at_108) rfl ?_
      show Steps p.tables e below (T16.setTop (mkF m 110 #[.val (.int u0), .val (.int u1), .val (.int u2), .val (.int u3), .val (.int u4), .val (.int (0 : Int32)), .val (.ref b1), .val (.ref b6)] [(.int (0 : Int32)), (.ref b1), (.ref b6)])) tt
      refine XS.iconst X16.here hx rfl (hb hby at_110) ?_
      exact kk
    obtain ⟨_, _, ⟨T18, L18, k18, n18⟩, -, X18, ⟨Lc18, hQ18, l18, y18, z18⟩, st18⟩ := Jvm.LawKit.callS X16 hx (y := (⟨"com/example/enodia/enodia/routing/RouteBufferReversePinLaw", "at", "(Lcom/example/enodia/enodia/routing/RouteBuffer;[III)Z"⟩ : MethodName)) hown (mvT hZ (hw _ (mw 25 rfl))) (mvT hZ (hw _ (mw 26 rfl))) (mvT hZ (hw _ (mw 27 rfl))) (mvT hZ (hw _ (mw 28 rfl))) (by decide) (backOf (W := 0) (rmTB l Z a0 hw [] b6 b1 (0 : Int32) (0 : Int32) T12.heap n0 f15 (by decide)) hZ (hw _ (mw 28 rfl)) (hw _ (mw 27 rfl)) (by decide) (by decide)) (g := (mkF m 111 #[.val (.int u0), .val (.int u1), .val (.int u2), .val (.int u3), .val (.int u4), .val (.int (0 : Int32)), .val (.ref b1), .val (.ref b6)] [(.int (0 : Int32)), (.int (0 : Int32)), (.ref b1), (.ref b6)])) rfl (by rw [hml]; rfl) (argsL := [(.ref b6), (.ref b1), (.int (0 : Int32)), (.int (0 : Int32))]) (rest := []) (lenOf pd_2 rfl) rfl (by show 2 * 0 + _ ≤ _; exact Nat.le_of_eq rfl) (hb hby at_111) (fun _ _ => ⟨rfl, e16, (by decide : 3 + 0 ≤ _), (by decide : 23 + 0 ≤ _)⟩)
    dsimp only [Pt.U, Pt.locs, Pt.cells, Pt.slots] at X18 l18 y18 z18 st18 hQ18
    subst l18 y18 z18
    obtain ⟨rfl, N18q, e18⟩ := hQ18
    have N18 := Fr.app N16 N18q
    refine Goal.to (B := T18.setTop (mkF m 114 #[.val (.int u0), .val (.int u1), .val (.int u2), .val (.int u3), .val (.int u4), .val (.int (0 : Int32)), .val (.ref b1), .val (.ref b6)] [(.int (1 : Int32))])) st18 ?_
    refine Goal.to (B := T18.setTop (mkF m 124 #[.val (.int u0), .val (.int u1), .val (.int u2), .val (.int u3), .val (.int u4), .val (.int (0 : Int32)), .val (.ref b1), .val (.ref b6)] [(.int (1 : Int32)), (.int (0 : Int32)), (.ref b1), (.ref b6)])) (fun tt kk => ?_) ?_
    · show Steps p.tables e below (T18.setTop (mkF m 114 #[.val (.int u0), .val (.int u1), .val (.int u2), .val (.int u3), .val (.int u4), .val (.int (0 : Int32)), .val (.ref b1), .val (.ref b6)] [(.int (1 : Int32))])) tt
      refine XS.ifNo X18.here hx rfl (hb hby at_114) rfl ((if0 _ _).trans (feq ((by decide) : ¬ ((1 : Int32) = (0 : Int32)))).1) ?_
      show Steps p.tables e below (T18.setTop (mkF m 117 #[.val (.int u0), .val (.int u1), .val (.int u2), .val (.int u3), .val (.int u4), .val (.int (0 : Int32)), .val (.ref b1), .val (.ref b6)] [])) tt
      refine XS.aload X18.here hx rfl (hb hby at_117) rfl rfl ?_
      show Steps p.tables e below (T18.setTop (mkF m 119 #[.val (.int u0), .val (.int u1), .val (.int u2), .val (.int u3), .val (.int u4), .val (.int (0 : Int32)), .val (.ref b1), .val (.ref b6)] [(.ref b6)])) tt
      refine XS.aload X18.here hx rfl (hb hby at_119) rfl rfl ?_
      show Steps p.tables e below (T18.setTop (mkF m 121 #[.val (.int u0), .val (.int u1), .val (.int u2), .val (.int u3), .val (.int u4), .val (.int (0 : Int32)), .val (.ref b1), .val (.ref b6)] [(.ref b1), (.ref b6)])) tt
      refine XS.iload X18.here hx rfl (hb hby at_121) rfl ?_
      show Steps p.tables e below (T18.setTop (mkF m 123 #[.val (.int u0), .val (.int u1), .val (.int u2), .val (.int u3), .val (.int u4), .val (.int (0 : Int32)), .val (.ref b1), .val (.ref b6)] [(.int (0 : Int32)), (.ref b1), (.ref b6)])) tt
      refine XS.iconst X18.here hx rfl (hb hby at_123) ?_
      exact kk
    obtain ⟨_, _, ⟨T19, L19, k19, n19⟩, -, X19, ⟨Lc19, hQ19, l19, y19, z19⟩, st19⟩ := Jvm.LawKit.callS X18 hx (y := (⟨"com/example/enodia/enodia/routing/RouteBufferReversePinLaw", "at", "(Lcom/example/enodia/enodia/routing/RouteBuffer;[III)Z"⟩ : MethodName)) hown (mvT hZ (hw _ (mw 25 rfl))) (mvT hZ (hw _ (mw 26 rfl))) (mvT hZ (hw _ (mw 27 rfl))) (mvT hZ (hw _ (mw 28 rfl))) (by decide) (backOf (W := 0) (rmTB l Z a0 hw [] b6 b1 (0 : Int32) (1 : Int32) T12.heap n0 f15 (by decide)) hZ (hw _ (mw 28 rfl)) (hw _ (mw 27 rfl)) (by decide) (by decide)) (g := (mkF m 124 #[.val (.int u0), .val (.int u1), .val (.int u2), .val (.int u3), .val (.int u4), .val (.int (0 : Int32)), .val (.ref b1), .val (.ref b6)] [(.int (1 : Int32)), (.int (0 : Int32)), (.ref b1), (.ref b6)])) rfl (by rw [hml]; rfl) (argsL := [(.ref b6), (.ref b1), (.int (0 : Int32)), (.int (1 : Int32))]) (rest := []) (lenOf pd_2 rfl) rfl (by show 2 * 0 + _ ≤ _; exact Nat.le_of_eq rfl) (hb hby at_124) (fun _ _ => ⟨rfl, e18, (by decide : 3 + 0 ≤ _), (by decide : 23 + 0 ≤ _)⟩)
    dsimp only [Pt.U, Pt.locs, Pt.cells, Pt.slots] at X19 l19 y19 z19 st19 hQ19
    subst l19 y19 z19
    obtain ⟨rfl, N19q, e19⟩ := hQ19
    have N19 := Fr.app N18 N19q
    refine Goal.to (B := T19.setTop (mkF m 127 #[.val (.int u0), .val (.int u1), .val (.int u2), .val (.int u3), .val (.int u4), .val (.int (0 : Int32)), .val (.ref b1), .val (.ref b6)] [(.int (1 : Int32))])) st19 ?_
    refine Goal.to (B := T19.setTop (mkF m 137 #[.val (.int u0), .val (.int u1), .val (.int u2), .val (.int u3), .val (.int u4), .val (.int (0 : Int32)), .val (.ref b1), .val (.ref b6)] [(.int (2 : Int32)), (.int (0 : Int32)), (.ref b1), (.ref b6)])) (fun tt kk => ?_) ?_
    · show Steps p.tables e below (T19.setTop (mkF m 127 #[.val (.int u0), .val (.int u1), .val (.int u2), .val (.int u3), .val (.int u4), .val (.int (0 : Int32)), .val (.ref b1), .val (.ref b6)] [(.int (1 : Int32))])) tt
      refine XS.ifNo X19.here hx rfl (hb hby at_127) rfl ((if0 _ _).trans (feq ((by decide) : ¬ ((1 : Int32) = (0 : Int32)))).1) ?_
      show Steps p.tables e below (T19.setTop (mkF m 130 #[.val (.int u0), .val (.int u1), .val (.int u2), .val (.int u3), .val (.int u4), .val (.int (0 : Int32)), .val (.ref b1), .val (.ref b6)] [])) tt
      refine XS.aload X19.here hx rfl (hb hby at_130) rfl rfl ?_
      show Steps p.tables e below (T19.setTop (mkF m 132 #[.val (.int u0), .val (.int u1), .val (.int u2), .val (.int u3), .val (.int u4), .val (.int (0 : Int32)), .val (.ref b1), .val (.ref b6)] [(.ref b6)])) tt
      refine XS.aload X19.here hx rfl (hb hby at_132) rfl rfl ?_
      show Steps p.tables e below (T19.setTop (mkF m 134 #[.val (.int u0), .val (.int u1), .val (.int u2), .val (.int u3), .val (.int u4), .val (.int (0 : Int32)), .val (.ref b1), .val (.ref b6)] [(.ref b1), (.ref b6)])) tt
      refine XS.iload X19.here hx rfl (hb hby at_134) rfl ?_
      show Steps p.tables e below (T19.setTop (mkF m 136 #[.val (.int u0), .val (.int u1), .val (.int u2), .val (.int u3), .val (.int u4), .val (.int (0 : Int32)), .val (.ref b1), .val (.ref b6)] [(.int (0 : Int32)), (.ref b1), (.ref b6)])) tt
      refine XS.iconst X19.here hx rfl (hb hby at_136) ?_
      exact kk
    obtain ⟨_, _, ⟨T20, L20, k20, n20⟩, -, X20, ⟨Lc20, hQ20, l20, y20, z20⟩, st20⟩ := Jvm.LawKit.callS X19 hx (y := (⟨"com/example/enodia/enodia/routing/RouteBufferReversePinLaw", "at", "(Lcom/example/enodia/enodia/routing/RouteBuffer;[III)Z"⟩ : MethodName)) hown (mvT hZ (hw _ (mw 25 rfl))) (mvT hZ (hw _ (mw 26 rfl))) (mvT hZ (hw _ (mw 27 rfl))) (mvT hZ (hw _ (mw 28 rfl))) (by decide) (backOf (W := 0) (rmTB l Z a0 hw [] b6 b1 (0 : Int32) (2 : Int32) T12.heap n0 f15 (by decide)) hZ (hw _ (mw 28 rfl)) (hw _ (mw 27 rfl)) (by decide) (by decide)) (g := (mkF m 137 #[.val (.int u0), .val (.int u1), .val (.int u2), .val (.int u3), .val (.int u4), .val (.int (0 : Int32)), .val (.ref b1), .val (.ref b6)] [(.int (2 : Int32)), (.int (0 : Int32)), (.ref b1), (.ref b6)])) rfl (by rw [hml]; rfl) (argsL := [(.ref b6), (.ref b1), (.int (0 : Int32)), (.int (2 : Int32))]) (rest := []) (lenOf pd_2 rfl) rfl (by show 2 * 0 + _ ≤ _; exact Nat.le_of_eq rfl) (hb hby at_137) (fun _ _ => ⟨rfl, e19, (by decide : 3 + 0 ≤ _), (by decide : 23 + 0 ≤ _)⟩)
    dsimp only [Pt.U, Pt.locs, Pt.cells, Pt.slots] at X20 l20 y20 z20 st20 hQ20
    subst l20 y20 z20
    obtain ⟨rfl, N20q, e20⟩ := hQ20
    have N20 := Fr.app N19 N20q
    refine Goal.to (B := T20.setTop (mkF m 140 #[.val (.int u0), .val (.int u1), .val (.int u2), .val (.int u3), .val (.int u4), .val (.int (0 : Int32)), .val (.ref b1), .val (.ref b6)] [(.int (1 : Int32))])) st20 ?_
    refine Goal.to (B := T20.setTop (mkF m 150 #[.val (.int u0), .val (.int u1), .val (.int u2), .val (.int u3), .val (.int u4), .val (.int (0 : Int32)), .val (.ref b1), .val (.ref b6)] [(.int (3 : Int32)), (.int (0 : Int32)), (.ref b1), (.ref b6)])) (fun tt kk => ?_) ?_
    · show Steps p.tables e below (T20.setTop (mkF m 140 #[.val (.int u0), .val (.int u1), .val (.int u2), .val (.int u3), .val (.int u4), .val (.int (0 : Int32)), .val (.ref b1), .val (.ref b6)] [(.int (1 : Int32))])) tt
      refine XS.ifNo X20.here hx rfl (hb hby at_140) rfl ((if0 _ _).trans (feq ((by decide) : ¬ ((1 : Int32) = (0 : Int32)))).1) ?_
      show Steps p.tables e below (T20.setTop (mkF m 143 #[.val (.int u0), .val (.int u1), .val (.int u2), .val (.int u3), .val (.int u4), .val (.int (0 : Int32)), .val (.ref b1), .val (.ref b6)] [])) tt
      refine XS.aload X20.here hx rfl (hb hby at_143) rfl rfl ?_
      show Steps p.tables e below (T20.setTop (mkF m 145 #[.val (.int u0), .val (.int u1), .val (.int u2), .val (.int u3), .val (.int u4), .val (.int (0 : Int32)), .val (.ref b1), .val (.ref b6)] [(.ref b6)])) tt
      refine XS.aload X20.here hx rfl (hb hby at_145) rfl rfl ?_
      show Steps p.tables e below (T20.setTop (mkF m 147 #[.val (.int u0), .val (.int u1), .val (.int u2), .val (.int u3), .val (.int u4), .val (.int (0 : Int32)), .val (.ref b1), .val (.ref b6)] [(.ref b1), (.ref b6)])) tt
      refine XS.iload X20.here hx rfl (hb hby at_147) rfl ?_
      show Steps p.tables e below (T20.setTop (mkF m 149 #[.val (.int u0), .val (.int u1), .val (.int u2), .val (.int u3), .val (.int u4), .val (.int (0 : Int32)), .val (.ref b1), .val (.ref b6)] [(.int (0 : Int32)), (.ref b1), (.ref b6)])) tt
      refine XS.iconst X20.here hx rfl (hb hby at_149) ?_
      exact kk
    obtain ⟨_, _, ⟨T21, L21, k21, n21⟩, -, X21, ⟨Lc21, hQ21, l21, y21, z21⟩, st21⟩ := Jvm.LawKit.callS X20 hx (y := (⟨"com/example/enodia/enodia/routing/RouteBufferReversePinLaw", "at", "(Lcom/example/enodia/enodia/routing/RouteBuffer;[III)Z"⟩ : MethodName)) hown (mvT hZ (hw _ (mw 25 rfl))) (mvT hZ (hw _ (mw 26 rfl))) (mvT hZ (hw _ (mw 27 rfl))) (mvT hZ (hw _ (mw 28 rfl))) (by decide) (backOf (W := 0) (rmTB l Z a0 hw [] b6 b1 (0 : Int32) (3 : Int32) T12.heap n0 f15 (by decide)) hZ (hw _ (mw 28 rfl)) (hw _ (mw 27 rfl)) (by decide) (by decide)) (g := (mkF m 150 #[.val (.int u0), .val (.int u1), .val (.int u2), .val (.int u3), .val (.int u4), .val (.int (0 : Int32)), .val (.ref b1), .val (.ref b6)] [(.int (3 : Int32)), (.int (0 : Int32)), (.ref b1), (.ref b6)])) rfl (by rw [hml]; rfl) (argsL := [(.ref b6), (.ref b1), (.int (0 : Int32)), (.int (3 : Int32))]) (rest := []) (lenOf pd_2 rfl) rfl (by show 2 * 0 + _ ≤ _; exact Nat.le_of_eq rfl) (hb hby at_150) (fun _ _ => ⟨rfl, e20, (by decide : 3 + 0 ≤ _), (by decide : 23 + 0 ≤ _)⟩)
    dsimp only [Pt.U, Pt.locs, Pt.cells, Pt.slots] at X21 l21 y21 z21 st21 hQ21
    subst l21 y21 z21
    obtain ⟨rfl, N21q, e21⟩ := hQ21
    have N21 := Fr.app N20 N21q
    refine Goal.to (B := T21.setTop (mkF m 153 #[.val (.int u0), .val (.int u1), .val (.int u2), .val (.int u3), .val (.int u4), .val (.int (0 : Int32)), .val (.ref b1), .val (.ref b6)] [(.int (1 : Int32))])) st21 ?_
    refine Goal.to (B := T21.setTop (mkF m 161 #[.val (.int u0), .val (.int u1), .val (.int u2), .val (.int u3), .val (.int u4), .val (.int (0 : Int32)), .val (.ref b1), .val (.ref b6)] [(.int (1 : Int32))])) (fun tt kk => ?_) ?_
    · show Steps p.tables e below (T21.setTop (mkF m 153 #[.val (.int u0), .val (.int u1), .val (.int u2), .val (.int u3), .val (.int u4), .val (.int (0 : Int32)), .val (.ref b1), .val (.ref b6)] [(.int (1 : Int32))])) tt
      refine XS.ifNo X21.here hx rfl (hb hby at_153) rfl ((if0 _ _).trans (feq ((by decide) : ¬ ((1 : Int32) = (0 : Int32)))).1) ?_
      show Steps p.tables e below (T21.setTop (mkF m 156 #[.val (.int u0), .val (.int u1), .val (.int u2), .val (.int u3), .val (.int u4), .val (.int (0 : Int32)), .val (.ref b1), .val (.ref b6)] [])) tt
      refine XS.iconst X21.here hx rfl (hb hby at_156) ?_
      show Steps p.tables e below (T21.setTop (mkF m 157 #[.val (.int u0), .val (.int u1), .val (.int u2), .val (.int u3), .val (.int u4), .val (.int (0 : Int32)), .val (.ref b1), .val (.ref b6)] [(.int (1 : Int32))])) tt
      refine XS.goto X21.here hx rfl (pc0 := 157) (pc' := 161) rfl (hb hby at_157) (by decide) (by decide) ?_
      exact kk
    exact Goal.retV X21 hx Bd.returns rfl (Or.inl ⟨rfl, Or.inr (Or.inl rfl), _, rfl⟩) (hb hby at_161) hlk e21 ⟨rfl, N21⟩ (by decide) (by decide)
  · refine Goal.to (B := T9.setTop (mkF m 47 #[.val (.int u0), .val (.int u1), .val (.int u2), .val (.int u3), .val (.int u4), .val (.int (1 : Int32)), .val (.ref b1), .val (.ref b6)] [(.int u1), (.ref b6)])) (fun tt kk => ?_) ?_
    · show Steps p.tables e below (T9.setTop (mkF m 39 #[.val (.int u0), .val (.int u1), .val (.int u2), .val (.int u3), .val (.int u4), .val (.int (1 : Int32)), .val (.ref b1), .val (.ref b6)] [])) tt
      refine XS.iload X9.here hx rfl (hb hby at_39) rfl ?_
      show Steps p.tables e below (T9.setTop (mkF m 41 #[.val (.int u0), .val (.int u1), .val (.int u2), .val (.int u3), .val (.int u4), .val (.int (1 : Int32)), .val (.ref b1), .val (.ref b6)] [(.int (1 : Int32))])) tt
      refine XS.ifNo X9.here hx rfl (hb hby at_41) rfl ((if0 _ _).trans (tlt ((by decide) : (0 : Int32) < (1 : Int32))).2.2.2) ?_
      show Steps p.tables e below (T9.setTop (mkF m 44 #[.val (.int u0), .val (.int u1), .val (.int u2), .val (.int u3), .val (.int u4), .val (.int (1 : Int32)), .val (.ref b1), .val (.ref b6)] [])) tt
      refine XS.aload X9.here hx rfl (hb hby at_44) rfl rfl ?_
      show Steps p.tables e below (T9.setTop (mkF m 46 #[.val (.int u0), .val (.int u1), .val (.int u2), .val (.int u3), .val (.int u4), .val (.int (1 : Int32)), .val (.ref b1), .val (.ref b6)] [(.ref b6)])) tt
      refine XS.iloadN X9.here hx rfl (hb hby at_46) rfl ?_
      exact kk
    have f22 : Exa Z T9.heap b6 "com/example/enodia/enodia/routing/RouteBuffer" := (A6.keep K9)
    have f23 : n0 ≤ T9.heap.size := (Nat.le_trans f8 K9.1)
    obtain ⟨cq24, kq24, q24a, q24b, q24c⟩ := isOf hZ rfl f22
    obtain ⟨_, _, ⟨T24, L24, k24, n24⟩, -, X24, ⟨Lc24, hQ24, l24, y24, z24⟩, st24⟩ := X9.virtualBack hx (y := (⟨"com/example/enodia/enodia/routing/RouteBuffer", "add", "(I)V"⟩ : MethodName)) (z := (⟨"com/example/enodia/enodia/routing/RouteBuffer", "add", "(I)V"⟩ : MethodName)) hown (mvT hZ (hw _ (mw 29 rfl))) (mvT hZ (hw _ (mw 30 rfl))) (notFace_of_selects (args := #[]) (mvT hZ (hw _ (mw 32 rfl)))) (mvT hZ (hw _ (mw 32 rfl))) (mvT hZ (hw _ (mw 31 rfl))) (by decide) (backOf (W := 0) (rmA0 l Z a0 hw [] b6 vb_9 u1 T9.heap n0 f23 f22 P9_1 P9_0 P9_2 g_b6 g_vb_9 ne_b6_vb_9) hZ (hw _ (mw 33 rfl)) (hw _ (mw 4 rfl)) (by decide) (by decide)) q24a q24c (g := (mkF m 47 #[.val (.int u0), .val (.int u1), .val (.int u2), .val (.int u3), .val (.int u4), .val (.int (1 : Int32)), .val (.ref b1), .val (.ref b6)] [(.int u1), (.ref b6)])) rfl (by rw [hml]; rfl) (Steps.refl _) (argsL := [(.int u1)]) (rest := []) (lenOf pd_3 rfl) rfl (by show 2 * 0 + _ ≤ _; exact Nat.le_of_eq rfl) (hb hby at_47) (fun _ _ => ⟨rfl, rfl, (by decide : 3 + 0 ≤ _), (by decide : 23 + 0 ≤ _)⟩)
    dsimp only [Pt.U, Pt.locs, Pt.cells, Pt.slots] at X24 l24 y24 z24 st24 hQ24
    subst l24 y24 z24
    obtain ⟨rfl, N24q, K24, P24_0, P24_1, P24_2⟩ := hQ24
    have N24 := Fr.app N9 N24q
    refine Goal.tr (B := T24.setTop (mkF m 50 #[.val (.int u0), .val (.int u1), .val (.int u2), .val (.int u3), .val (.int u4), .val (.int (1 : Int32)), .val (.ref b1), .val (.ref b6)] [])) st24 ?_
    refine Goal.to (B := T24.setTop (mkF m 89 #[.val (.int u0), .val (.int u1), .val (.int u2), .val (.int u3), .val (.int u4), .val (.int (1 : Int32)), .val (.ref b1), .val (.ref b6)] [(.ref b6)])) (fun tt kk => ?_) ?_
    · show Steps p.tables e below (T24.setTop (mkF m 50 #[.val (.int u0), .val (.int u1), .val (.int u2), .val (.int u3), .val (.int u4), .val (.int (1 : Int32)), .val (.ref b1), .val (.ref b6)] [])) tt
      refine XS.iload X24.here hx rfl (hb hby at_50) rfl ?_
      show Steps p.tables e below (T24.setTop (mkF m 52 #[.val (.int u0), .val (.int u1), .val (.int u2), .val (.int u3), .val (.int u4), .val (.int (1 : Int32)), .val (.ref b1), .val (.ref b6)] [(.int (1 : Int32))])) tt
      refine XS.iconst X24.here hx rfl (hb hby at_52) ?_
      show Steps p.tables e below (T24.setTop (mkF m 53 #[.val (.int u0), .val (.int u1), .val (.int u2), .val (.int u3), .val (.int u4), .val (.int (1 : Int32)), .val (.ref b1), .val (.ref b6)] [(.int (1 : Int32)), (.int (1 : Int32))])) tt
      refine XS.icmpYes X24.here hx rfl (pc0 := 53) (pc' := 62) rfl (hb hby at_53) rfl (flt (Int32.lt_irrefl : ¬ ((1 : Int32) < (1 : Int32)))).2.2.2 (by decide) (by decide) ?_
      show Steps p.tables e below (T24.setTop (mkF m 62 #[.val (.int u0), .val (.int u1), .val (.int u2), .val (.int u3), .val (.int u4), .val (.int (1 : Int32)), .val (.ref b1), .val (.ref b6)] [])) tt
      refine XS.iload X24.here hx rfl (hb hby at_62) rfl ?_
      show Steps p.tables e below (T24.setTop (mkF m 64 #[.val (.int u0), .val (.int u1), .val (.int u2), .val (.int u3), .val (.int u4), .val (.int (1 : Int32)), .val (.ref b1), .val (.ref b6)] [(.int (1 : Int32))])) tt
      refine XS.iconst X24.here hx rfl (hb hby at_64) ?_
      show Steps p.tables e below (T24.setTop (mkF m 65 #[.val (.int u0), .val (.int u1), .val (.int u2), .val (.int u3), .val (.int u4), .val (.int (1 : Int32)), .val (.ref b1), .val (.ref b6)] [(.int (2 : Int32)), (.int (1 : Int32))])) tt
      refine XS.icmpYes X24.here hx rfl (pc0 := 65) (pc' := 74) rfl (hb hby at_65) rfl (flt ((by decide) : ¬ ((2 : Int32) < (1 : Int32)))).2.2.2 (by decide) (by decide) ?_
      show Steps p.tables e below (T24.setTop (mkF m 74 #[.val (.int u0), .val (.int u1), .val (.int u2), .val (.int u3), .val (.int u4), .val (.int (1 : Int32)), .val (.ref b1), .val (.ref b6)] [])) tt
      refine XS.iload X24.here hx rfl (hb hby at_74) rfl ?_
      show Steps p.tables e below (T24.setTop (mkF m 76 #[.val (.int u0), .val (.int u1), .val (.int u2), .val (.int u3), .val (.int u4), .val (.int (1 : Int32)), .val (.ref b1), .val (.ref b6)] [(.int (1 : Int32))])) tt
      refine XS.iconst X24.here hx rfl (hb hby at_76) ?_
      show Steps p.tables e below (T24.setTop (mkF m 77 #[.val (.int u0), .val (.int u1), .val (.int u2), .val (.int u3), .val (.int u4), .val (.int (1 : Int32)), .val (.ref b1), .val (.ref b6)] [(.int (3 : Int32)), (.int (1 : Int32))])) tt
      refine XS.icmpYes X24.here hx rfl (pc0 := 77) (pc' := 87) rfl (hb hby at_77) rfl (flt ((by decide) : ¬ ((3 : Int32) < (1 : Int32)))).2.2.2 (by decide) (by decide) ?_
      show Steps p.tables e below (T24.setTop (mkF m 87 #[.val (.int u0), .val (.int u1), .val (.int u2), .val (.int u3), .val (.int u4), .val (.int (1 : Int32)), .val (.ref b1), .val (.ref b6)] [])) tt
      refine XS.aload X24.here hx rfl (hb hby at_87) rfl rfl ?_
      exact kk
    have f25 : n0 ≤ T24.heap.size := (Nat.le_trans f23 K24.1)
    have f27 : Exa Z T24.heap b6 "com/example/enodia/enodia/routing/RouteBuffer" := (f22.keep K24)
    obtain ⟨cq26, kq26, q26a, q26b, q26c⟩ := isOf hZ rfl f27
    obtain ⟨_, _, ⟨T26, L26, k26, n26⟩, -, X26, ⟨Lc26, hQ26, l26, y26, z26⟩, st26⟩ := X24.virtualBack hx (y := (⟨"com/example/enodia/enodia/routing/RouteBuffer", "reverse", "()V"⟩ : MethodName)) (z := (⟨"com/example/enodia/enodia/routing/RouteBuffer", "reverse", "()V"⟩ : MethodName)) hown (mvT hZ (hw _ (mw 13 rfl))) (mvT hZ (hw _ (mw 14 rfl))) (notFace_of_selects (args := #[]) (mvT hZ (hw _ (mw 16 rfl)))) (mvT hZ (hw _ (mw 16 rfl))) (mvT hZ (hw _ (mw 15 rfl))) (by decide) (backOf (W := 0) (rmR1 l Z a0 hw [] b6 vb_9 u1 T24.heap n0 f25 P24_0 P24_1 P24_2 g_vb_9 ne_b6_vb_9) hZ (hw _ (mw 17 rfl)) (hw _ (mw 4 rfl)) (by decide) (by decide)) q26a q26c (g := (mkF m 89 #[.val (.int u0), .val (.int u1), .val (.int u2), .val (.int u3), .val (.int u4), .val (.int (1 : Int32)), .val (.ref b1), .val (.ref b6)] [(.ref b6)])) rfl (by rw [hml]; rfl) (Steps.refl _) (argsL := []) (rest := []) (lenOf pd_0 rfl) rfl (by show 2 * 0 + _ ≤ _; exact Nat.le_of_eq rfl) (hb hby at_89) (fun _ _ => ⟨rfl, rfl, (by decide : 3 + 0 ≤ _), (by decide : 23 + 0 ≤ _)⟩)
    dsimp only [Pt.U, Pt.locs, Pt.cells, Pt.slots] at X26 l26 y26 z26 st26 hQ26
    subst l26 y26 z26
    obtain ⟨rfl, N26q, K26, P26_0⟩ := hQ26
    have N26 := Fr.app N24 N26q
    refine Goal.tr (B := T26.setTop (mkF m 92 #[.val (.int u0), .val (.int u1), .val (.int u2), .val (.int u3), .val (.int u4), .val (.int (1 : Int32)), .val (.ref b1), .val (.ref b6)] [])) st26 ?_
    refine Goal.to (B := T26.setTop (mkF m 94 #[.val (.int u0), .val (.int u1), .val (.int u2), .val (.int u3), .val (.int u4), .val (.int (1 : Int32)), .val (.ref b1), .val (.ref b6)] [(.ref b6)])) (fun tt kk => ?_) ?_
    · show Steps p.tables e below (T26.setTop (mkF m 92 #[.val (.int u0), .val (.int u1), .val (.int u2), .val (.int u3), .val (.int u4), .val (.int (1 : Int32)), .val (.ref b1), .val (.ref b6)] [])) tt
      refine XS.aload X26.here hx rfl (hb hby at_92) rfl rfl ?_
      exact kk
    have f28 : Fld Z T26.heap b6 "com/example/enodia/enodia/routing/RouteBuffer" "linkCount" "I" (.int (1 : Int32)) := (P24_0.keep K26 (ninS ne_b6_vb_9 nin0))
    have f29 : n0 ≤ T26.heap.size := (Nat.le_trans f25 K26.1)
    have f31 : Exa Z T26.heap b6 "com/example/enodia/enodia/routing/RouteBuffer" := (f27.keep K26)
    obtain ⟨cq30, kq30, q30a, q30b, q30c⟩ := isOf hZ rfl f31
    obtain ⟨_, _, ⟨T30, L30, k30, n30⟩, -, X30, ⟨Lc30, hQ30, l30, y30, z30⟩, st30⟩ := X26.virtualBack hx (y := (⟨"com/example/enodia/enodia/routing/RouteBuffer", "getLinkCount", "()I"⟩ : MethodName)) (z := (⟨"com/example/enodia/enodia/routing/RouteBuffer", "getLinkCount", "()I"⟩ : MethodName)) hown (mvT hZ (hw _ (mw 20 rfl))) (mvT hZ (hw _ (mw 21 rfl))) (notFace_of_selects (args := #[]) (mvT hZ (hw _ (mw 23 rfl)))) (mvT hZ (hw _ (mw 23 rfl))) (mvT hZ (hw _ (mw 22 rfl))) (by decide) (backOf (W := 0) (rmC l Z a0 hw [] b6 (1 : Int32) T26.heap n0 f29 f28) hZ (hw _ (mw 24 rfl)) (hw _ (mw 4 rfl)) (by decide) (by decide)) q30a q30c (g := (mkF m 94 #[.val (.int u0), .val (.int u1), .val (.int u2), .val (.int u3), .val (.int u4), .val (.int (1 : Int32)), .val (.ref b1), .val (.ref b6)] [(.ref b6)])) rfl (by rw [hml]; rfl) (Steps.refl _) (argsL := []) (rest := []) (lenOf pd_1 rfl) rfl (by show 2 * 0 + _ ≤ _; exact Nat.le_of_eq rfl) (hb hby at_94) (fun _ _ => ⟨rfl, rfl, (by decide : 3 + 0 ≤ _), (by decide : 23 + 0 ≤ _)⟩)
    dsimp only [Pt.U, Pt.locs, Pt.cells, Pt.slots] at X30 l30 y30 z30 st30 hQ30
    subst l30 y30 z30
    obtain ⟨rfl, N30q, e30⟩ := hQ30
    have N30 := Fr.app N26 N30q
    refine Goal.tr (B := T30.setTop (mkF m 97 #[.val (.int u0), .val (.int u1), .val (.int u2), .val (.int u3), .val (.int u4), .val (.int (1 : Int32)), .val (.ref b1), .val (.ref b6)] [(.int (1 : Int32))])) st30 ?_
    refine Goal.to (B := T30.setTop (mkF m 111 #[.val (.int u0), .val (.int u1), .val (.int u2), .val (.int u3), .val (.int u4), .val (.int (1 : Int32)), .val (.ref b1), .val (.ref b6)] [(.int (0 : Int32)), (.int (1 : Int32)), (.ref b1), (.ref b6)])) (fun tt kk => ?_) ?_
    · show Steps p.tables e below (T30.setTop (mkF m 97 #[.val (.int u0), .val (.int u1), .val (.int u2), .val (.int u3), .val (.int u4), .val (.int (1 : Int32)), .val (.ref b1), .val (.ref b6)] [(.int (1 : Int32))])) tt
      refine XS.iload X30.here hx rfl (hb hby at_97) rfl ?_
      show Steps p.tables e below (T30.setTop (mkF m 99 #[.val (.int u0), .val (.int u1), .val (.int u2), .val (.int u3), .val (.int u4), .val (.int (1 : Int32)), .val (.ref b1), .val (.ref b6)] [(.int (1 : Int32)), (.int (1 : Int32))])) tt
      refine XS.icmpYes X30.here hx rfl (pc0 := 99) (pc' := 104) rfl (hb hby at_99) rfl (teq (rfl : (1 : Int32) = (1 : Int32))).1 (by decide) (by decide) ?_
      show Steps p.tables e below (T30.setTop (mkF m 104 #[.val (.int u0), .val (.int u1), .val (.int u2), .val (.int u3), .val (.int u4), .val (.int (1 : Int32)), .val (.ref b1), .val (.ref b6)] [])) tt
      refine XS.aload X30.here hx rfl (hb hby at_104) rfl rfl ?_
      show Steps p.tables e below (T30.setTop (mkF m 106 #[.val (.int u0), .val (.int u1), .val (.int u2), .val (.int u3), .val (.int u4), .val (.int (1 : Int32)), .val (.ref b1), .val (.ref b6)] [(.ref b6)])) tt
      refine XS.aload X30.here hx rfl (hb hby at_106) rfl rfl ?_
      show Steps p.tables e below (T30.setTop (mkF m 108 #[.val (.int u0), .val (.int u1), .val (.int u2), .val (.int u3), .val (.int u4), .val (.int (1 : Int32)), .val (.ref b1), .val (.ref b6)] [(.ref b1), (.ref b6)])) tt
      refine XS.iload X30.here hx rfl (hb hby at_108) rfl ?_
      show Steps p.tables e below (T30.setTop (mkF m 110 #[.val (.int u0), .val (.int u1), .val (.int u2), .val (.int u3), .val (.int u4), .val (.int (1 : Int32)), .val (.ref b1), .val (.ref b6)] [(.int (1 : Int32)), (.ref b1), (.ref b6)])) tt
      refine XS.iconst X30.here hx rfl (hb hby at_110) ?_
      exact kk
    have f32 : Fld Z T26.heap b6 "com/example/enodia/enodia/routing/RouteBuffer" "links" "[I" (.ref vb_9) := (P24_1.keep K26 (ninS ne_b6_vb_9 nin0))
    have f33 : Ary Z T26.heap b1 .int [(.int u1), (.int u2), (.int u3), (.int u4)] := (((f10.keep K9 (ninS ne_b1_b6 nin0)).keep K24 (ninS ne_b1_b6 (ninS ne_b1_vb_9 nin0))).keep K26 (ninS ne_b1_vb_9 nin0))
    obtain ⟨_, _, ⟨T34, L34, k34, n34⟩, -, X34, ⟨Lc34, hQ34, l34, y34, z34⟩, st34⟩ := Jvm.LawKit.callS X30 hx (y := (⟨"com/example/enodia/enodia/routing/RouteBufferReversePinLaw", "at", "(Lcom/example/enodia/enodia/routing/RouteBuffer;[III)Z"⟩ : MethodName)) hown (mvT hZ (hw _ (mw 25 rfl))) (mvT hZ (hw _ (mw 26 rfl))) (mvT hZ (hw _ (mw 27 rfl))) (mvT hZ (hw _ (mw 28 rfl))) (by decide) (backOf (W := 0) (rmT1_0 l Z a0 hw [] b6 vb_9 b1 u1 u2 u3 u4 T26.heap n0 f29 f31 f28 f32 P26_0 f33) hZ (hw _ (mw 28 rfl)) (hw _ (mw 27 rfl)) (by decide) (by decide)) (g := (mkF m 111 #[.val (.int u0), .val (.int u1), .val (.int u2), .val (.int u3), .val (.int u4), .val (.int (1 : Int32)), .val (.ref b1), .val (.ref b6)] [(.int (0 : Int32)), (.int (1 : Int32)), (.ref b1), (.ref b6)])) rfl (by rw [hml]; rfl) (argsL := [(.ref b6), (.ref b1), (.int (1 : Int32)), (.int (0 : Int32))]) (rest := []) (lenOf pd_2 rfl) rfl (by show 2 * 0 + _ ≤ _; exact Nat.le_of_eq rfl) (hb hby at_111) (fun _ _ => ⟨rfl, e30, (by decide : 3 + 0 ≤ _), (by decide : 23 + 0 ≤ _)⟩)
    dsimp only [Pt.U, Pt.locs, Pt.cells, Pt.slots] at X34 l34 y34 z34 st34 hQ34
    subst l34 y34 z34
    obtain ⟨rfl, N34q, e34⟩ := hQ34
    have N34 := Fr.app N30 N34q
    refine Goal.to (B := T34.setTop (mkF m 114 #[.val (.int u0), .val (.int u1), .val (.int u2), .val (.int u3), .val (.int u4), .val (.int (1 : Int32)), .val (.ref b1), .val (.ref b6)] [(.int (1 : Int32))])) st34 ?_
    refine Goal.to (B := T34.setTop (mkF m 124 #[.val (.int u0), .val (.int u1), .val (.int u2), .val (.int u3), .val (.int u4), .val (.int (1 : Int32)), .val (.ref b1), .val (.ref b6)] [(.int (1 : Int32)), (.int (1 : Int32)), (.ref b1), (.ref b6)])) (fun tt kk => ?_) ?_
    · show Steps p.tables e below (T34.setTop (mkF m 114 #[.val (.int u0), .val (.int u1), .val (.int u2), .val (.int u3), .val (.int u4), .val (.int (1 : Int32)), .val (.ref b1), .val (.ref b6)] [(.int (1 : Int32))])) tt
      refine XS.ifNo X34.here hx rfl (hb hby at_114) rfl ((if0 _ _).trans (feq ((by decide) : ¬ ((1 : Int32) = (0 : Int32)))).1) ?_
      show Steps p.tables e below (T34.setTop (mkF m 117 #[.val (.int u0), .val (.int u1), .val (.int u2), .val (.int u3), .val (.int u4), .val (.int (1 : Int32)), .val (.ref b1), .val (.ref b6)] [])) tt
      refine XS.aload X34.here hx rfl (hb hby at_117) rfl rfl ?_
      show Steps p.tables e below (T34.setTop (mkF m 119 #[.val (.int u0), .val (.int u1), .val (.int u2), .val (.int u3), .val (.int u4), .val (.int (1 : Int32)), .val (.ref b1), .val (.ref b6)] [(.ref b6)])) tt
      refine XS.aload X34.here hx rfl (hb hby at_119) rfl rfl ?_
      show Steps p.tables e below (T34.setTop (mkF m 121 #[.val (.int u0), .val (.int u1), .val (.int u2), .val (.int u3), .val (.int u4), .val (.int (1 : Int32)), .val (.ref b1), .val (.ref b6)] [(.ref b1), (.ref b6)])) tt
      refine XS.iload X34.here hx rfl (hb hby at_121) rfl ?_
      show Steps p.tables e below (T34.setTop (mkF m 123 #[.val (.int u0), .val (.int u1), .val (.int u2), .val (.int u3), .val (.int u4), .val (.int (1 : Int32)), .val (.ref b1), .val (.ref b6)] [(.int (1 : Int32)), (.ref b1), (.ref b6)])) tt
      refine XS.iconst X34.here hx rfl (hb hby at_123) ?_
      exact kk
    obtain ⟨_, _, ⟨T35, L35, k35, n35⟩, -, X35, ⟨Lc35, hQ35, l35, y35, z35⟩, st35⟩ := Jvm.LawKit.callS X34 hx (y := (⟨"com/example/enodia/enodia/routing/RouteBufferReversePinLaw", "at", "(Lcom/example/enodia/enodia/routing/RouteBuffer;[III)Z"⟩ : MethodName)) hown (mvT hZ (hw _ (mw 25 rfl))) (mvT hZ (hw _ (mw 26 rfl))) (mvT hZ (hw _ (mw 27 rfl))) (mvT hZ (hw _ (mw 28 rfl))) (by decide) (backOf (W := 0) (rmTB l Z a0 hw [] b6 b1 (1 : Int32) (1 : Int32) T26.heap n0 f29 (by decide)) hZ (hw _ (mw 28 rfl)) (hw _ (mw 27 rfl)) (by decide) (by decide)) (g := (mkF m 124 #[.val (.int u0), .val (.int u1), .val (.int u2), .val (.int u3), .val (.int u4), .val (.int (1 : Int32)), .val (.ref b1), .val (.ref b6)] [(.int (1 : Int32)), (.int (1 : Int32)), (.ref b1), (.ref b6)])) rfl (by rw [hml]; rfl) (argsL := [(.ref b6), (.ref b1), (.int (1 : Int32)), (.int (1 : Int32))]) (rest := []) (lenOf pd_2 rfl) rfl (by show 2 * 0 + _ ≤ _; exact Nat.le_of_eq rfl) (hb hby at_124) (fun _ _ => ⟨rfl, e34, (by decide : 3 + 0 ≤ _), (by decide : 23 + 0 ≤ _)⟩)
    dsimp only [Pt.U, Pt.locs, Pt.cells, Pt.slots] at X35 l35 y35 z35 st35 hQ35
    subst l35 y35 z35
    obtain ⟨rfl, N35q, e35⟩ := hQ35
    have N35 := Fr.app N34 N35q
    refine Goal.to (B := T35.setTop (mkF m 127 #[.val (.int u0), .val (.int u1), .val (.int u2), .val (.int u3), .val (.int u4), .val (.int (1 : Int32)), .val (.ref b1), .val (.ref b6)] [(.int (1 : Int32))])) st35 ?_
    refine Goal.to (B := T35.setTop (mkF m 137 #[.val (.int u0), .val (.int u1), .val (.int u2), .val (.int u3), .val (.int u4), .val (.int (1 : Int32)), .val (.ref b1), .val (.ref b6)] [(.int (2 : Int32)), (.int (1 : Int32)), (.ref b1), (.ref b6)])) (fun tt kk => ?_) ?_
    · show Steps p.tables e below (T35.setTop (mkF m 127 #[.val (.int u0), .val (.int u1), .val (.int u2), .val (.int u3), .val (.int u4), .val (.int (1 : Int32)), .val (.ref b1), .val (.ref b6)] [(.int (1 : Int32))])) tt
      refine XS.ifNo X35.here hx rfl (hb hby at_127) rfl ((if0 _ _).trans (feq ((by decide) : ¬ ((1 : Int32) = (0 : Int32)))).1) ?_
      show Steps p.tables e below (T35.setTop (mkF m 130 #[.val (.int u0), .val (.int u1), .val (.int u2), .val (.int u3), .val (.int u4), .val (.int (1 : Int32)), .val (.ref b1), .val (.ref b6)] [])) tt
      refine XS.aload X35.here hx rfl (hb hby at_130) rfl rfl ?_
      show Steps p.tables e below (T35.setTop (mkF m 132 #[.val (.int u0), .val (.int u1), .val (.int u2), .val (.int u3), .val (.int u4), .val (.int (1 : Int32)), .val (.ref b1), .val (.ref b6)] [(.ref b6)])) tt
      refine XS.aload X35.here hx rfl (hb hby at_132) rfl rfl ?_
      show Steps p.tables e below (T35.setTop (mkF m 134 #[.val (.int u0), .val (.int u1), .val (.int u2), .val (.int u3), .val (.int u4), .val (.int (1 : Int32)), .val (.ref b1), .val (.ref b6)] [(.ref b1), (.ref b6)])) tt
      refine XS.iload X35.here hx rfl (hb hby at_134) rfl ?_
      show Steps p.tables e below (T35.setTop (mkF m 136 #[.val (.int u0), .val (.int u1), .val (.int u2), .val (.int u3), .val (.int u4), .val (.int (1 : Int32)), .val (.ref b1), .val (.ref b6)] [(.int (1 : Int32)), (.ref b1), (.ref b6)])) tt
      refine XS.iconst X35.here hx rfl (hb hby at_136) ?_
      exact kk
    obtain ⟨_, _, ⟨T36, L36, k36, n36⟩, -, X36, ⟨Lc36, hQ36, l36, y36, z36⟩, st36⟩ := Jvm.LawKit.callS X35 hx (y := (⟨"com/example/enodia/enodia/routing/RouteBufferReversePinLaw", "at", "(Lcom/example/enodia/enodia/routing/RouteBuffer;[III)Z"⟩ : MethodName)) hown (mvT hZ (hw _ (mw 25 rfl))) (mvT hZ (hw _ (mw 26 rfl))) (mvT hZ (hw _ (mw 27 rfl))) (mvT hZ (hw _ (mw 28 rfl))) (by decide) (backOf (W := 0) (rmTB l Z a0 hw [] b6 b1 (1 : Int32) (2 : Int32) T26.heap n0 f29 (by decide)) hZ (hw _ (mw 28 rfl)) (hw _ (mw 27 rfl)) (by decide) (by decide)) (g := (mkF m 137 #[.val (.int u0), .val (.int u1), .val (.int u2), .val (.int u3), .val (.int u4), .val (.int (1 : Int32)), .val (.ref b1), .val (.ref b6)] [(.int (2 : Int32)), (.int (1 : Int32)), (.ref b1), (.ref b6)])) rfl (by rw [hml]; rfl) (argsL := [(.ref b6), (.ref b1), (.int (1 : Int32)), (.int (2 : Int32))]) (rest := []) (lenOf pd_2 rfl) rfl (by show 2 * 0 + _ ≤ _; exact Nat.le_of_eq rfl) (hb hby at_137) (fun _ _ => ⟨rfl, e35, (by decide : 3 + 0 ≤ _), (by decide : 23 + 0 ≤ _)⟩)
    dsimp only [Pt.U, Pt.locs, Pt.cells, Pt.slots] at X36 l36 y36 z36 st36 hQ36
    subst l36 y36 z36
    obtain ⟨rfl, N36q, e36⟩ := hQ36
    have N36 := Fr.app N35 N36q
    refine Goal.to (B := T36.setTop (mkF m 140 #[.val (.int u0), .val (.int u1), .val (.int u2), .val (.int u3), .val (.int u4), .val (.int (1 : Int32)), .val (.ref b1), .val (.ref b6)] [(.int (1 : Int32))])) st36 ?_
    refine Goal.to (B := T36.setTop (mkF m 150 #[.val (.int u0), .val (.int u1), .val (.int u2), .val (.int u3), .val (.int u4), .val (.int (1 : Int32)), .val (.ref b1), .val (.ref b6)] [(.int (3 : Int32)), (.int (1 : Int32)), (.ref b1), (.ref b6)])) (fun tt kk => ?_) ?_
    · show Steps p.tables e below (T36.setTop (mkF m 140 #[.val (.int u0), .val (.int u1), .val (.int u2), .val (.int u3), .val (.int u4), .val (.int (1 : Int32)), .val (.ref b1), .val (.ref b6)] [(.int (1 : Int32))])) tt
      refine XS.ifNo X36.here hx rfl (hb hby at_140) rfl ((if0 _ _).trans (feq ((by decide) : ¬ ((1 : Int32) = (0 : Int32)))).1) ?_
      show Steps p.tables e below (T36.setTop (mkF m 143 #[.val (.int u0), .val (.int u1), .val (.int u2), .val (.int u3), .val (.int u4), .val (.int (1 : Int32)), .val (.ref b1), .val (.ref b6)] [])) tt
      refine XS.aload X36.here hx rfl (hb hby at_143) rfl rfl ?_
      show Steps p.tables e below (T36.setTop (mkF m 145 #[.val (.int u0), .val (.int u1), .val (.int u2), .val (.int u3), .val (.int u4), .val (.int (1 : Int32)), .val (.ref b1), .val (.ref b6)] [(.ref b6)])) tt
      refine XS.aload X36.here hx rfl (hb hby at_145) rfl rfl ?_
      show Steps p.tables e below (T36.setTop (mkF m 147 #[.val (.int u0), .val (.int u1), .val (.int u2), .val (.int u3), .val (.int u4), .val (.int (1 : Int32)), .val (.ref b1), .val (.ref b6)] [(.ref b1), (.ref b6)])) tt
      refine XS.iload X36.here hx rfl (hb hby at_147) rfl ?_
      show Steps p.tables e below (T36.setTop (mkF m 149 #[.val (.int u0), .val (.int u1), .val (.int u2), .val (.int u3), .val (.int u4), .val (.int (1 : Int32)), .val (.ref b1), .val (.ref b6)] [(.int (1 : Int32)), (.ref b1), (.ref b6)])) tt
      refine XS.iconst X36.here hx rfl (hb hby at_149) ?_
      exact kk
    obtain ⟨_, _, ⟨T37, L37, k37, n37⟩, -, X37, ⟨Lc37, hQ37, l37, y37, z37⟩, st37⟩ := Jvm.LawKit.callS X36 hx (y := (⟨"com/example/enodia/enodia/routing/RouteBufferReversePinLaw", "at", "(Lcom/example/enodia/enodia/routing/RouteBuffer;[III)Z"⟩ : MethodName)) hown (mvT hZ (hw _ (mw 25 rfl))) (mvT hZ (hw _ (mw 26 rfl))) (mvT hZ (hw _ (mw 27 rfl))) (mvT hZ (hw _ (mw 28 rfl))) (by decide) (backOf (W := 0) (rmTB l Z a0 hw [] b6 b1 (1 : Int32) (3 : Int32) T26.heap n0 f29 (by decide)) hZ (hw _ (mw 28 rfl)) (hw _ (mw 27 rfl)) (by decide) (by decide)) (g := (mkF m 150 #[.val (.int u0), .val (.int u1), .val (.int u2), .val (.int u3), .val (.int u4), .val (.int (1 : Int32)), .val (.ref b1), .val (.ref b6)] [(.int (3 : Int32)), (.int (1 : Int32)), (.ref b1), (.ref b6)])) rfl (by rw [hml]; rfl) (argsL := [(.ref b6), (.ref b1), (.int (1 : Int32)), (.int (3 : Int32))]) (rest := []) (lenOf pd_2 rfl) rfl (by show 2 * 0 + _ ≤ _; exact Nat.le_of_eq rfl) (hb hby at_150) (fun _ _ => ⟨rfl, e36, (by decide : 3 + 0 ≤ _), (by decide : 23 + 0 ≤ _)⟩)
    dsimp only [Pt.U, Pt.locs, Pt.cells, Pt.slots] at X37 l37 y37 z37 st37 hQ37
    subst l37 y37 z37
    obtain ⟨rfl, N37q, e37⟩ := hQ37
    have N37 := Fr.app N36 N37q
    refine Goal.to (B := T37.setTop (mkF m 153 #[.val (.int u0), .val (.int u1), .val (.int u2), .val (.int u3), .val (.int u4), .val (.int (1 : Int32)), .val (.ref b1), .val (.ref b6)] [(.int (1 : Int32))])) st37 ?_
    refine Goal.to (B := T37.setTop (mkF m 161 #[.val (.int u0), .val (.int u1), .val (.int u2), .val (.int u3), .val (.int u4), .val (.int (1 : Int32)), .val (.ref b1), .val (.ref b6)] [(.int (1 : Int32))])) (fun tt kk => ?_) ?_
    · show Steps p.tables e below (T37.setTop (mkF m 153 #[.val (.int u0), .val (.int u1), .val (.int u2), .val (.int u3), .val (.int u4), .val (.int (1 : Int32)), .val (.ref b1), .val (.ref b6)] [(.int (1 : Int32))])) tt
      refine XS.ifNo X37.here hx rfl (hb hby at_153) rfl ((if0 _ _).trans (feq ((by decide) : ¬ ((1 : Int32) = (0 : Int32)))).1) ?_
      show Steps p.tables e below (T37.setTop (mkF m 156 #[.val (.int u0), .val (.int u1), .val (.int u2), .val (.int u3), .val (.int u4), .val (.int (1 : Int32)), .val (.ref b1), .val (.ref b6)] [])) tt
      refine XS.iconst X37.here hx rfl (hb hby at_156) ?_
      show Steps p.tables e below (T37.setTop (mkF m 157 #[.val (.int u0), .val (.int u1), .val (.int u2), .val (.int u3), .val (.int u4), .val (.int (1 : Int32)), .val (.ref b1), .val (.ref b6)] [(.int (1 : Int32))])) tt
      refine XS.goto X37.here hx rfl (pc0 := 157) (pc' := 161) rfl (hb hby at_157) (by decide) (by decide) ?_
      exact kk
    exact Goal.retV X37 hx Bd.returns rfl (Or.inl ⟨rfl, Or.inr (Or.inl rfl), _, rfl⟩) (hb hby at_161) hlk e37 ⟨rfl, N37⟩ (by decide) (by decide)
  · refine Goal.to (B := T9.setTop (mkF m 47 #[.val (.int u0), .val (.int u1), .val (.int u2), .val (.int u3), .val (.int u4), .val (.int (2 : Int32)), .val (.ref b1), .val (.ref b6)] [(.int u1), (.ref b6)])) (fun tt kk => ?_) ?_
    · show Steps p.tables e below (T9.setTop (mkF m 39 #[.val (.int u0), .val (.int u1), .val (.int u2), .val (.int u3), .val (.int u4), .val (.int (2 : Int32)), .val (.ref b1), .val (.ref b6)] [])) tt
      refine XS.iload X9.here hx rfl (hb hby at_39) rfl ?_
      show Steps p.tables e below (T9.setTop (mkF m 41 #[.val (.int u0), .val (.int u1), .val (.int u2), .val (.int u3), .val (.int u4), .val (.int (2 : Int32)), .val (.ref b1), .val (.ref b6)] [(.int (2 : Int32))])) tt
      refine XS.ifNo X9.here hx rfl (hb hby at_41) rfl ((if0 _ _).trans (tlt ((by decide) : (0 : Int32) < (2 : Int32))).2.2.2) ?_
      show Steps p.tables e below (T9.setTop (mkF m 44 #[.val (.int u0), .val (.int u1), .val (.int u2), .val (.int u3), .val (.int u4), .val (.int (2 : Int32)), .val (.ref b1), .val (.ref b6)] [])) tt
      refine XS.aload X9.here hx rfl (hb hby at_44) rfl rfl ?_
      show Steps p.tables e below (T9.setTop (mkF m 46 #[.val (.int u0), .val (.int u1), .val (.int u2), .val (.int u3), .val (.int u4), .val (.int (2 : Int32)), .val (.ref b1), .val (.ref b6)] [(.ref b6)])) tt
      refine XS.iloadN X9.here hx rfl (hb hby at_46) rfl ?_
      exact kk
    have f38 : Exa Z T9.heap b6 "com/example/enodia/enodia/routing/RouteBuffer" := (A6.keep K9)
    have f39 : n0 ≤ T9.heap.size := (Nat.le_trans f8 K9.1)
    obtain ⟨cq40, kq40, q40a, q40b, q40c⟩ := isOf hZ rfl f38
    obtain ⟨_, _, ⟨T40, L40, k40, n40⟩, -, X40, ⟨Lc40, hQ40, l40, y40, z40⟩, st40⟩ := X9.virtualBack hx (y := (⟨"com/example/enodia/enodia/routing/RouteBuffer", "add", "(I)V"⟩ : MethodName)) (z := (⟨"com/example/enodia/enodia/routing/RouteBuffer", "add", "(I)V"⟩ : MethodName)) hown (mvT hZ (hw _ (mw 29 rfl))) (mvT hZ (hw _ (mw 30 rfl))) (notFace_of_selects (args := #[]) (mvT hZ (hw _ (mw 32 rfl)))) (mvT hZ (hw _ (mw 32 rfl))) (mvT hZ (hw _ (mw 31 rfl))) (by decide) (backOf (W := 0) (rmA0 l Z a0 hw [] b6 vb_9 u1 T9.heap n0 f39 f38 P9_1 P9_0 P9_2 g_b6 g_vb_9 ne_b6_vb_9) hZ (hw _ (mw 33 rfl)) (hw _ (mw 4 rfl)) (by decide) (by decide)) q40a q40c (g := (mkF m 47 #[.val (.int u0), .val (.int u1), .val (.int u2), .val (.int u3), .val (.int u4), .val (.int (2 : Int32)), .val (.ref b1), .val (.ref b6)] [(.int u1), (.ref b6)])) rfl (by rw [hml]; rfl) (Steps.refl _) (argsL := [(.int u1)]) (rest := []) (lenOf pd_3 rfl) rfl (by show 2 * 0 + _ ≤ _; exact Nat.le_of_eq rfl) (hb hby at_47) (fun _ _ => ⟨rfl, rfl, (by decide : 3 + 0 ≤ _), (by decide : 23 + 0 ≤ _)⟩)
    dsimp only [Pt.U, Pt.locs, Pt.cells, Pt.slots] at X40 l40 y40 z40 st40 hQ40
    subst l40 y40 z40
    obtain ⟨rfl, N40q, K40, P40_0, P40_1, P40_2⟩ := hQ40
    have N40 := Fr.app N9 N40q
    refine Goal.tr (B := T40.setTop (mkF m 50 #[.val (.int u0), .val (.int u1), .val (.int u2), .val (.int u3), .val (.int u4), .val (.int (2 : Int32)), .val (.ref b1), .val (.ref b6)] [])) st40 ?_
    refine Goal.to (B := T40.setTop (mkF m 59 #[.val (.int u0), .val (.int u1), .val (.int u2), .val (.int u3), .val (.int u4), .val (.int (2 : Int32)), .val (.ref b1), .val (.ref b6)] [(.int u2), (.ref b6)])) (fun tt kk => ?_) ?_
    · show Steps p.tables e below (T40.setTop (mkF m 50 #[.val (.int u0), .val (.int u1), .val (.int u2), .val (.int u3), .val (.int u4), .val (.int (2 : Int32)), .val (.ref b1), .val (.ref b6)] [])) tt
      refine XS.iload X40.here hx rfl (hb hby at_50) rfl ?_
      show Steps p.tables e below (T40.setTop (mkF m 52 #[.val (.int u0), .val (.int u1), .val (.int u2), .val (.int u3), .val (.int u4), .val (.int (2 : Int32)), .val (.ref b1), .val (.ref b6)] [(.int (2 : Int32))])) tt
      refine XS.iconst X40.here hx rfl (hb hby at_52) ?_
      show Steps p.tables e below (T40.setTop (mkF m 53 #[.val (.int u0), .val (.int u1), .val (.int u2), .val (.int u3), .val (.int u4), .val (.int (2 : Int32)), .val (.ref b1), .val (.ref b6)] [(.int (1 : Int32)), (.int (2 : Int32))])) tt
      refine XS.icmpNo X40.here hx rfl (hb hby at_53) rfl (tlt ((by decide) : (1 : Int32) < (2 : Int32))).2.2.2 ?_
      show Steps p.tables e below (T40.setTop (mkF m 56 #[.val (.int u0), .val (.int u1), .val (.int u2), .val (.int u3), .val (.int u4), .val (.int (2 : Int32)), .val (.ref b1), .val (.ref b6)] [])) tt
      refine XS.aload X40.here hx rfl (hb hby at_56) rfl rfl ?_
      show Steps p.tables e below (T40.setTop (mkF m 58 #[.val (.int u0), .val (.int u1), .val (.int u2), .val (.int u3), .val (.int u4), .val (.int (2 : Int32)), .val (.ref b1), .val (.ref b6)] [(.ref b6)])) tt
      refine XS.iloadN X40.here hx rfl (hb hby at_58) rfl ?_
      exact kk
    have f41 : Exa Z T40.heap b6 "com/example/enodia/enodia/routing/RouteBuffer" := (f38.keep K40)
    have f42 : n0 ≤ T40.heap.size := (Nat.le_trans f39 K40.1)
    obtain ⟨cq43, kq43, q43a, q43b, q43c⟩ := isOf hZ rfl f41
    obtain ⟨_, _, ⟨T43, L43, k43, n43⟩, -, X43, ⟨Lc43, hQ43, l43, y43, z43⟩, st43⟩ := X40.virtualBack hx (y := (⟨"com/example/enodia/enodia/routing/RouteBuffer", "add", "(I)V"⟩ : MethodName)) (z := (⟨"com/example/enodia/enodia/routing/RouteBuffer", "add", "(I)V"⟩ : MethodName)) hown (mvT hZ (hw _ (mw 29 rfl))) (mvT hZ (hw _ (mw 30 rfl))) (notFace_of_selects (args := #[]) (mvT hZ (hw _ (mw 32 rfl)))) (mvT hZ (hw _ (mw 32 rfl))) (mvT hZ (hw _ (mw 31 rfl))) (by decide) (backOf (W := 0) (rmA1 l Z a0 hw [] b6 vb_9 u1 u2 T40.heap n0 f42 f41 P40_0 P40_1 P40_2 g_b6 g_vb_9 ne_b6_vb_9) hZ (hw _ (mw 33 rfl)) (hw _ (mw 4 rfl)) (by decide) (by decide)) q43a q43c (g := (mkF m 59 #[.val (.int u0), .val (.int u1), .val (.int u2), .val (.int u3), .val (.int u4), .val (.int (2 : Int32)), .val (.ref b1), .val (.ref b6)] [(.int u2), (.ref b6)])) rfl (by rw [hml]; rfl) (Steps.refl _) (argsL := [(.int u2)]) (rest := []) (lenOf pd_3 rfl) rfl (by show 2 * 0 + _ ≤ _; exact Nat.le_of_eq rfl) (hb hby at_59) (fun _ _ => ⟨rfl, rfl, (by decide : 3 + 0 ≤ _), (by decide : 23 + 0 ≤ _)⟩)
    dsimp only [Pt.U, Pt.locs, Pt.cells, Pt.slots] at X43 l43 y43 z43 st43 hQ43
    subst l43 y43 z43
    obtain ⟨rfl, N43q, K43, P43_0, P43_1, P43_2⟩ := hQ43
    have N43 := Fr.app N40 N43q
    refine Goal.tr (B := T43.setTop (mkF m 62 #[.val (.int u0), .val (.int u1), .val (.int u2), .val (.int u3), .val (.int u4), .val (.int (2 : Int32)), .val (.ref b1), .val (.ref b6)] [])) st43 ?_
    refine Goal.to (B := T43.setTop (mkF m 89 #[.val (.int u0), .val (.int u1), .val (.int u2), .val (.int u3), .val (.int u4), .val (.int (2 : Int32)), .val (.ref b1), .val (.ref b6)] [(.ref b6)])) (fun tt kk => ?_) ?_
    · show Steps p.tables e below (T43.setTop (mkF m 62 #[.val (.int u0), .val (.int u1), .val (.int u2), .val (.int u3), .val (.int u4), .val (.int (2 : Int32)), .val (.ref b1), .val (.ref b6)] [])) tt
      refine XS.iload X43.here hx rfl (hb hby at_62) rfl ?_
      show Steps p.tables e below (T43.setTop (mkF m 64 #[.val (.int u0), .val (.int u1), .val (.int u2), .val (.int u3), .val (.int u4), .val (.int (2 : Int32)), .val (.ref b1), .val (.ref b6)] [(.int (2 : Int32))])) tt
      refine XS.iconst X43.here hx rfl (hb hby at_64) ?_
      show Steps p.tables e below (T43.setTop (mkF m 65 #[.val (.int u0), .val (.int u1), .val (.int u2), .val (.int u3), .val (.int u4), .val (.int (2 : Int32)), .val (.ref b1), .val (.ref b6)] [(.int (2 : Int32)), (.int (2 : Int32))])) tt
      refine XS.icmpYes X43.here hx rfl (pc0 := 65) (pc' := 74) rfl (hb hby at_65) rfl (flt (Int32.lt_irrefl : ¬ ((2 : Int32) < (2 : Int32)))).2.2.2 (by decide) (by decide) ?_
      show Steps p.tables e below (T43.setTop (mkF m 74 #[.val (.int u0), .val (.int u1), .val (.int u2), .val (.int u3), .val (.int u4), .val (.int (2 : Int32)), .val (.ref b1), .val (.ref b6)] [])) tt
      refine XS.iload X43.here hx rfl (hb hby at_74) rfl ?_
      show Steps p.tables e below (T43.setTop (mkF m 76 #[.val (.int u0), .val (.int u1), .val (.int u2), .val (.int u3), .val (.int u4), .val (.int (2 : Int32)), .val (.ref b1), .val (.ref b6)] [(.int (2 : Int32))])) tt
      refine XS.iconst X43.here hx rfl (hb hby at_76) ?_
      show Steps p.tables e below (T43.setTop (mkF m 77 #[.val (.int u0), .val (.int u1), .val (.int u2), .val (.int u3), .val (.int u4), .val (.int (2 : Int32)), .val (.ref b1), .val (.ref b6)] [(.int (3 : Int32)), (.int (2 : Int32))])) tt
      refine XS.icmpYes X43.here hx rfl (pc0 := 77) (pc' := 87) rfl (hb hby at_77) rfl (flt ((by decide) : ¬ ((3 : Int32) < (2 : Int32)))).2.2.2 (by decide) (by decide) ?_
      show Steps p.tables e below (T43.setTop (mkF m 87 #[.val (.int u0), .val (.int u1), .val (.int u2), .val (.int u3), .val (.int u4), .val (.int (2 : Int32)), .val (.ref b1), .val (.ref b6)] [])) tt
      refine XS.aload X43.here hx rfl (hb hby at_87) rfl rfl ?_
      exact kk
    have f44 : n0 ≤ T43.heap.size := (Nat.le_trans f42 K43.1)
    have f46 : Exa Z T43.heap b6 "com/example/enodia/enodia/routing/RouteBuffer" := (f41.keep K43)
    obtain ⟨cq45, kq45, q45a, q45b, q45c⟩ := isOf hZ rfl f46
    obtain ⟨_, _, ⟨T45, L45, k45, n45⟩, -, X45, ⟨Lc45, hQ45, l45, y45, z45⟩, st45⟩ := X43.virtualBack hx (y := (⟨"com/example/enodia/enodia/routing/RouteBuffer", "reverse", "()V"⟩ : MethodName)) (z := (⟨"com/example/enodia/enodia/routing/RouteBuffer", "reverse", "()V"⟩ : MethodName)) hown (mvT hZ (hw _ (mw 13 rfl))) (mvT hZ (hw _ (mw 14 rfl))) (notFace_of_selects (args := #[]) (mvT hZ (hw _ (mw 16 rfl)))) (mvT hZ (hw _ (mw 16 rfl))) (mvT hZ (hw _ (mw 15 rfl))) (by decide) (backOf (W := 0) (rmR2 l Z a0 hw [] b6 vb_9 u1 u2 T43.heap n0 f44 P43_0 P43_1 P43_2 g_vb_9 ne_b6_vb_9) hZ (hw _ (mw 17 rfl)) (hw _ (mw 4 rfl)) (by decide) (by decide)) q45a q45c (g := (mkF m 89 #[.val (.int u0), .val (.int u1), .val (.int u2), .val (.int u3), .val (.int u4), .val (.int (2 : Int32)), .val (.ref b1), .val (.ref b6)] [(.ref b6)])) rfl (by rw [hml]; rfl) (Steps.refl _) (argsL := []) (rest := []) (lenOf pd_0 rfl) rfl (by show 2 * 0 + _ ≤ _; exact Nat.le_of_eq rfl) (hb hby at_89) (fun _ _ => ⟨rfl, rfl, (by decide : 3 + 0 ≤ _), (by decide : 23 + 0 ≤ _)⟩)
    dsimp only [Pt.U, Pt.locs, Pt.cells, Pt.slots] at X45 l45 y45 z45 st45 hQ45
    subst l45 y45 z45
    obtain ⟨rfl, N45q, K45, P45_0⟩ := hQ45
    have N45 := Fr.app N43 N45q
    refine Goal.tr (B := T45.setTop (mkF m 92 #[.val (.int u0), .val (.int u1), .val (.int u2), .val (.int u3), .val (.int u4), .val (.int (2 : Int32)), .val (.ref b1), .val (.ref b6)] [])) st45 ?_
    refine Goal.to (B := T45.setTop (mkF m 94 #[.val (.int u0), .val (.int u1), .val (.int u2), .val (.int u3), .val (.int u4), .val (.int (2 : Int32)), .val (.ref b1), .val (.ref b6)] [(.ref b6)])) (fun tt kk => ?_) ?_
    · show Steps p.tables e below (T45.setTop (mkF m 92 #[.val (.int u0), .val (.int u1), .val (.int u2), .val (.int u3), .val (.int u4), .val (.int (2 : Int32)), .val (.ref b1), .val (.ref b6)] [])) tt
      refine XS.aload X45.here hx rfl (hb hby at_92) rfl rfl ?_
      exact kk
    have f47 : Fld Z T45.heap b6 "com/example/enodia/enodia/routing/RouteBuffer" "linkCount" "I" (.int (2 : Int32)) := (P43_0.keep K45 (ninS ne_b6_vb_9 nin0))
    have f48 : n0 ≤ T45.heap.size := (Nat.le_trans f44 K45.1)
    have f50 : Exa Z T45.heap b6 "com/example/enodia/enodia/routing/RouteBuffer" := (f46.keep K45)
    obtain ⟨cq49, kq49, q49a, q49b, q49c⟩ := isOf hZ rfl f50
    obtain ⟨_, _, ⟨T49, L49, k49, n49⟩, -, X49, ⟨Lc49, hQ49, l49, y49, z49⟩, st49⟩ := X45.virtualBack hx (y := (⟨"com/example/enodia/enodia/routing/RouteBuffer", "getLinkCount", "()I"⟩ : MethodName)) (z := (⟨"com/example/enodia/enodia/routing/RouteBuffer", "getLinkCount", "()I"⟩ : MethodName)) hown (mvT hZ (hw _ (mw 20 rfl))) (mvT hZ (hw _ (mw 21 rfl))) (notFace_of_selects (args := #[]) (mvT hZ (hw _ (mw 23 rfl)))) (mvT hZ (hw _ (mw 23 rfl))) (mvT hZ (hw _ (mw 22 rfl))) (by decide) (backOf (W := 0) (rmC l Z a0 hw [] b6 (2 : Int32) T45.heap n0 f48 f47) hZ (hw _ (mw 24 rfl)) (hw _ (mw 4 rfl)) (by decide) (by decide)) q49a q49c (g := (mkF m 94 #[.val (.int u0), .val (.int u1), .val (.int u2), .val (.int u3), .val (.int u4), .val (.int (2 : Int32)), .val (.ref b1), .val (.ref b6)] [(.ref b6)])) rfl (by rw [hml]; rfl) (Steps.refl _) (argsL := []) (rest := []) (lenOf pd_1 rfl) rfl (by show 2 * 0 + _ ≤ _; exact Nat.le_of_eq rfl) (hb hby at_94) (fun _ _ => ⟨rfl, rfl, (by decide : 3 + 0 ≤ _), (by decide : 23 + 0 ≤ _)⟩)
    dsimp only [Pt.U, Pt.locs, Pt.cells, Pt.slots] at X49 l49 y49 z49 st49 hQ49
    subst l49 y49 z49
    obtain ⟨rfl, N49q, e49⟩ := hQ49
    have N49 := Fr.app N45 N49q
    refine Goal.tr (B := T49.setTop (mkF m 97 #[.val (.int u0), .val (.int u1), .val (.int u2), .val (.int u3), .val (.int u4), .val (.int (2 : Int32)), .val (.ref b1), .val (.ref b6)] [(.int (2 : Int32))])) st49 ?_
    refine Goal.to (B := T49.setTop (mkF m 111 #[.val (.int u0), .val (.int u1), .val (.int u2), .val (.int u3), .val (.int u4), .val (.int (2 : Int32)), .val (.ref b1), .val (.ref b6)] [(.int (0 : Int32)), (.int (2 : Int32)), (.ref b1), (.ref b6)])) (fun tt kk => ?_) ?_
    · show Steps p.tables e below (T49.setTop (mkF m 97 #[.val (.int u0), .val (.int u1), .val (.int u2), .val (.int u3), .val (.int u4), .val (.int (2 : Int32)), .val (.ref b1), .val (.ref b6)] [(.int (2 : Int32))])) tt
      refine XS.iload X49.here hx rfl (hb hby at_97) rfl ?_
      show Steps p.tables e below (T49.setTop (mkF m 99 #[.val (.int u0), .val (.int u1), .val (.int u2), .val (.int u3), .val (.int u4), .val (.int (2 : Int32)), .val (.ref b1), .val (.ref b6)] [(.int (2 : Int32)), (.int (2 : Int32))])) tt
      refine XS.icmpYes X49.here hx rfl (pc0 := 99) (pc' := 104) rfl (hb hby at_99) rfl (teq (rfl : (2 : Int32) = (2 : Int32))).1 (by decide) (by decide) ?_
      show Steps p.tables e below (T49.setTop (mkF m 104 #[.val (.int u0), .val (.int u1), .val (.int u2), .val (.int u3), .val (.int u4), .val (.int (2 : Int32)), .val (.ref b1), .val (.ref b6)] [])) tt
      refine XS.aload X49.here hx rfl (hb hby at_104) rfl rfl ?_
      show Steps p.tables e below (T49.setTop (mkF m 106 #[.val (.int u0), .val (.int u1), .val (.int u2), .val (.int u3), .val (.int u4), .val (.int (2 : Int32)), .val (.ref b1), .val (.ref b6)] [(.ref b6)])) tt
      refine XS.aload X49.here hx rfl (hb hby at_106) rfl rfl ?_
      show Steps p.tables e below (T49.setTop (mkF m 108 #[.val (.int u0), .val (.int u1), .val (.int u2), .val (.int u3), .val (.int u4), .val (.int (2 : Int32)), .val (.ref b1), .val (.ref b6)] [(.ref b1), (.ref b6)])) tt
      refine XS.iload X49.here hx rfl (hb hby at_108) rfl ?_
      show Steps p.tables e below (T49.setTop (mkF m 110 #[.val (.int u0), .val (.int u1), .val (.int u2), .val (.int u3), .val (.int u4), .val (.int (2 : Int32)), .val (.ref b1), .val (.ref b6)] [(.int (2 : Int32)), (.ref b1), (.ref b6)])) tt
      refine XS.iconst X49.here hx rfl (hb hby at_110) ?_
      exact kk
    have f51 : Fld Z T45.heap b6 "com/example/enodia/enodia/routing/RouteBuffer" "links" "[I" (.ref vb_9) := (P43_1.keep K45 (ninS ne_b6_vb_9 nin0))
    have f52 : Ary Z T45.heap b1 .int [(.int u1), (.int u2), (.int u3), (.int u4)] := ((((f10.keep K9 (ninS ne_b1_b6 nin0)).keep K40 (ninS ne_b1_b6 (ninS ne_b1_vb_9 nin0))).keep K43 (ninS ne_b1_b6 (ninS ne_b1_vb_9 nin0))).keep K45 (ninS ne_b1_vb_9 nin0))
    obtain ⟨_, _, ⟨T53, L53, k53, n53⟩, -, X53, ⟨Lc53, hQ53, l53, y53, z53⟩, st53⟩ := Jvm.LawKit.callS X49 hx (y := (⟨"com/example/enodia/enodia/routing/RouteBufferReversePinLaw", "at", "(Lcom/example/enodia/enodia/routing/RouteBuffer;[III)Z"⟩ : MethodName)) hown (mvT hZ (hw _ (mw 25 rfl))) (mvT hZ (hw _ (mw 26 rfl))) (mvT hZ (hw _ (mw 27 rfl))) (mvT hZ (hw _ (mw 28 rfl))) (by decide) (backOf (W := 0) (rmT2_0 l Z a0 hw [] b6 vb_9 b1 u2 u1 u1 u3 u4 T45.heap n0 f48 f50 f47 f51 P45_0 f52) hZ (hw _ (mw 28 rfl)) (hw _ (mw 27 rfl)) (by decide) (by decide)) (g := (mkF m 111 #[.val (.int u0), .val (.int u1), .val (.int u2), .val (.int u3), .val (.int u4), .val (.int (2 : Int32)), .val (.ref b1), .val (.ref b6)] [(.int (0 : Int32)), (.int (2 : Int32)), (.ref b1), (.ref b6)])) rfl (by rw [hml]; rfl) (argsL := [(.ref b6), (.ref b1), (.int (2 : Int32)), (.int (0 : Int32))]) (rest := []) (lenOf pd_2 rfl) rfl (by show 2 * 0 + _ ≤ _; exact Nat.le_of_eq rfl) (hb hby at_111) (fun _ _ => ⟨rfl, e49, (by decide : 3 + 0 ≤ _), (by decide : 23 + 0 ≤ _)⟩)
    dsimp only [Pt.U, Pt.locs, Pt.cells, Pt.slots] at X53 l53 y53 z53 st53 hQ53
    subst l53 y53 z53
    obtain ⟨rfl, N53q, e53⟩ := hQ53
    have N53 := Fr.app N49 N53q
    refine Goal.to (B := T53.setTop (mkF m 114 #[.val (.int u0), .val (.int u1), .val (.int u2), .val (.int u3), .val (.int u4), .val (.int (2 : Int32)), .val (.ref b1), .val (.ref b6)] [(.int (1 : Int32))])) st53 ?_
    refine Goal.to (B := T53.setTop (mkF m 124 #[.val (.int u0), .val (.int u1), .val (.int u2), .val (.int u3), .val (.int u4), .val (.int (2 : Int32)), .val (.ref b1), .val (.ref b6)] [(.int (1 : Int32)), (.int (2 : Int32)), (.ref b1), (.ref b6)])) (fun tt kk => ?_) ?_
    · show Steps p.tables e below (T53.setTop (mkF m 114 #[.val (.int u0), .val (.int u1), .val (.int u2), .val (.int u3), .val (.int u4), .val (.int (2 : Int32)), .val (.ref b1), .val (.ref b6)] [(.int (1 : Int32))])) tt
      refine XS.ifNo X53.here hx rfl (hb hby at_114) rfl ((if0 _ _).trans (feq ((by decide) : ¬ ((1 : Int32) = (0 : Int32)))).1) ?_
      show Steps p.tables e below (T53.setTop (mkF m 117 #[.val (.int u0), .val (.int u1), .val (.int u2), .val (.int u3), .val (.int u4), .val (.int (2 : Int32)), .val (.ref b1), .val (.ref b6)] [])) tt
      refine XS.aload X53.here hx rfl (hb hby at_117) rfl rfl ?_
      show Steps p.tables e below (T53.setTop (mkF m 119 #[.val (.int u0), .val (.int u1), .val (.int u2), .val (.int u3), .val (.int u4), .val (.int (2 : Int32)), .val (.ref b1), .val (.ref b6)] [(.ref b6)])) tt
      refine XS.aload X53.here hx rfl (hb hby at_119) rfl rfl ?_
      show Steps p.tables e below (T53.setTop (mkF m 121 #[.val (.int u0), .val (.int u1), .val (.int u2), .val (.int u3), .val (.int u4), .val (.int (2 : Int32)), .val (.ref b1), .val (.ref b6)] [(.ref b1), (.ref b6)])) tt
      refine XS.iload X53.here hx rfl (hb hby at_121) rfl ?_
      show Steps p.tables e below (T53.setTop (mkF m 123 #[.val (.int u0), .val (.int u1), .val (.int u2), .val (.int u3), .val (.int u4), .val (.int (2 : Int32)), .val (.ref b1), .val (.ref b6)] [(.int (2 : Int32)), (.ref b1), (.ref b6)])) tt
      refine XS.iconst X53.here hx rfl (hb hby at_123) ?_
      exact kk
    obtain ⟨_, _, ⟨T54, L54, k54, n54⟩, -, X54, ⟨Lc54, hQ54, l54, y54, z54⟩, st54⟩ := Jvm.LawKit.callS X53 hx (y := (⟨"com/example/enodia/enodia/routing/RouteBufferReversePinLaw", "at", "(Lcom/example/enodia/enodia/routing/RouteBuffer;[III)Z"⟩ : MethodName)) hown (mvT hZ (hw _ (mw 25 rfl))) (mvT hZ (hw _ (mw 26 rfl))) (mvT hZ (hw _ (mw 27 rfl))) (mvT hZ (hw _ (mw 28 rfl))) (by decide) (backOf (W := 0) (rmT2_1 l Z a0 hw [] b6 vb_9 b1 u2 u1 u2 u3 u4 T45.heap n0 f48 f50 f47 f51 P45_0 f52) hZ (hw _ (mw 28 rfl)) (hw _ (mw 27 rfl)) (by decide) (by decide)) (g := (mkF m 124 #[.val (.int u0), .val (.int u1), .val (.int u2), .val (.int u3), .val (.int u4), .val (.int (2 : Int32)), .val (.ref b1), .val (.ref b6)] [(.int (1 : Int32)), (.int (2 : Int32)), (.ref b1), (.ref b6)])) rfl (by rw [hml]; rfl) (argsL := [(.ref b6), (.ref b1), (.int (2 : Int32)), (.int (1 : Int32))]) (rest := []) (lenOf pd_2 rfl) rfl (by show 2 * 0 + _ ≤ _; exact Nat.le_of_eq rfl) (hb hby at_124) (fun _ _ => ⟨rfl, e53, (by decide : 3 + 0 ≤ _), (by decide : 23 + 0 ≤ _)⟩)
    dsimp only [Pt.U, Pt.locs, Pt.cells, Pt.slots] at X54 l54 y54 z54 st54 hQ54
    subst l54 y54 z54
    obtain ⟨rfl, N54q, e54⟩ := hQ54
    have N54 := Fr.app N53 N54q
    refine Goal.to (B := T54.setTop (mkF m 127 #[.val (.int u0), .val (.int u1), .val (.int u2), .val (.int u3), .val (.int u4), .val (.int (2 : Int32)), .val (.ref b1), .val (.ref b6)] [(.int (1 : Int32))])) st54 ?_
    refine Goal.to (B := T54.setTop (mkF m 137 #[.val (.int u0), .val (.int u1), .val (.int u2), .val (.int u3), .val (.int u4), .val (.int (2 : Int32)), .val (.ref b1), .val (.ref b6)] [(.int (2 : Int32)), (.int (2 : Int32)), (.ref b1), (.ref b6)])) (fun tt kk => ?_) ?_
    · show Steps p.tables e below (T54.setTop (mkF m 127 #[.val (.int u0), .val (.int u1), .val (.int u2), .val (.int u3), .val (.int u4), .val (.int (2 : Int32)), .val (.ref b1), .val (.ref b6)] [(.int (1 : Int32))])) tt
      refine XS.ifNo X54.here hx rfl (hb hby at_127) rfl ((if0 _ _).trans (feq ((by decide) : ¬ ((1 : Int32) = (0 : Int32)))).1) ?_
      show Steps p.tables e below (T54.setTop (mkF m 130 #[.val (.int u0), .val (.int u1), .val (.int u2), .val (.int u3), .val (.int u4), .val (.int (2 : Int32)), .val (.ref b1), .val (.ref b6)] [])) tt
      refine XS.aload X54.here hx rfl (hb hby at_130) rfl rfl ?_
      show Steps p.tables e below (T54.setTop (mkF m 132 #[.val (.int u0), .val (.int u1), .val (.int u2), .val (.int u3), .val (.int u4), .val (.int (2 : Int32)), .val (.ref b1), .val (.ref b6)] [(.ref b6)])) tt
      refine XS.aload X54.here hx rfl (hb hby at_132) rfl rfl ?_
      show Steps p.tables e below (T54.setTop (mkF m 134 #[.val (.int u0), .val (.int u1), .val (.int u2), .val (.int u3), .val (.int u4), .val (.int (2 : Int32)), .val (.ref b1), .val (.ref b6)] [(.ref b1), (.ref b6)])) tt
      refine XS.iload X54.here hx rfl (hb hby at_134) rfl ?_
      show Steps p.tables e below (T54.setTop (mkF m 136 #[.val (.int u0), .val (.int u1), .val (.int u2), .val (.int u3), .val (.int u4), .val (.int (2 : Int32)), .val (.ref b1), .val (.ref b6)] [(.int (2 : Int32)), (.ref b1), (.ref b6)])) tt
      refine XS.iconst X54.here hx rfl (hb hby at_136) ?_
      exact kk
    obtain ⟨_, _, ⟨T55, L55, k55, n55⟩, -, X55, ⟨Lc55, hQ55, l55, y55, z55⟩, st55⟩ := Jvm.LawKit.callS X54 hx (y := (⟨"com/example/enodia/enodia/routing/RouteBufferReversePinLaw", "at", "(Lcom/example/enodia/enodia/routing/RouteBuffer;[III)Z"⟩ : MethodName)) hown (mvT hZ (hw _ (mw 25 rfl))) (mvT hZ (hw _ (mw 26 rfl))) (mvT hZ (hw _ (mw 27 rfl))) (mvT hZ (hw _ (mw 28 rfl))) (by decide) (backOf (W := 0) (rmTB l Z a0 hw [] b6 b1 (2 : Int32) (2 : Int32) T45.heap n0 f48 (by decide)) hZ (hw _ (mw 28 rfl)) (hw _ (mw 27 rfl)) (by decide) (by decide)) (g := (mkF m 137 #[.val (.int u0), .val (.int u1), .val (.int u2), .val (.int u3), .val (.int u4), .val (.int (2 : Int32)), .val (.ref b1), .val (.ref b6)] [(.int (2 : Int32)), (.int (2 : Int32)), (.ref b1), (.ref b6)])) rfl (by rw [hml]; rfl) (argsL := [(.ref b6), (.ref b1), (.int (2 : Int32)), (.int (2 : Int32))]) (rest := []) (lenOf pd_2 rfl) rfl (by show 2 * 0 + _ ≤ _; exact Nat.le_of_eq rfl) (hb hby at_137) (fun _ _ => ⟨rfl, e54, (by decide : 3 + 0 ≤ _), (by decide : 23 + 0 ≤ _)⟩)
    dsimp only [Pt.U, Pt.locs, Pt.cells, Pt.slots] at X55 l55 y55 z55 st55 hQ55
    subst l55 y55 z55
    obtain ⟨rfl, N55q, e55⟩ := hQ55
    have N55 := Fr.app N54 N55q
    refine Goal.to (B := T55.setTop (mkF m 140 #[.val (.int u0), .val (.int u1), .val (.int u2), .val (.int u3), .val (.int u4), .val (.int (2 : Int32)), .val (.ref b1), .val (.ref b6)] [(.int (1 : Int32))])) st55 ?_
    refine Goal.to (B := T55.setTop (mkF m 150 #[.val (.int u0), .val (.int u1), .val (.int u2), .val (.int u3), .val (.int u4), .val (.int (2 : Int32)), .val (.ref b1), .val (.ref b6)] [(.int (3 : Int32)), (.int (2 : Int32)), (.ref b1), (.ref b6)])) (fun tt kk => ?_) ?_
    · show Steps p.tables e below (T55.setTop (mkF m 140 #[.val (.int u0), .val (.int u1), .val (.int u2), .val (.int u3), .val (.int u4), .val (.int (2 : Int32)), .val (.ref b1), .val (.ref b6)] [(.int (1 : Int32))])) tt
      refine XS.ifNo X55.here hx rfl (hb hby at_140) rfl ((if0 _ _).trans (feq ((by decide) : ¬ ((1 : Int32) = (0 : Int32)))).1) ?_
      show Steps p.tables e below (T55.setTop (mkF m 143 #[.val (.int u0), .val (.int u1), .val (.int u2), .val (.int u3), .val (.int u4), .val (.int (2 : Int32)), .val (.ref b1), .val (.ref b6)] [])) tt
      refine XS.aload X55.here hx rfl (hb hby at_143) rfl rfl ?_
      show Steps p.tables e below (T55.setTop (mkF m 145 #[.val (.int u0), .val (.int u1), .val (.int u2), .val (.int u3), .val (.int u4), .val (.int (2 : Int32)), .val (.ref b1), .val (.ref b6)] [(.ref b6)])) tt
      refine XS.aload X55.here hx rfl (hb hby at_145) rfl rfl ?_
      show Steps p.tables e below (T55.setTop (mkF m 147 #[.val (.int u0), .val (.int u1), .val (.int u2), .val (.int u3), .val (.int u4), .val (.int (2 : Int32)), .val (.ref b1), .val (.ref b6)] [(.ref b1), (.ref b6)])) tt
      refine XS.iload X55.here hx rfl (hb hby at_147) rfl ?_
      show Steps p.tables e below (T55.setTop (mkF m 149 #[.val (.int u0), .val (.int u1), .val (.int u2), .val (.int u3), .val (.int u4), .val (.int (2 : Int32)), .val (.ref b1), .val (.ref b6)] [(.int (2 : Int32)), (.ref b1), (.ref b6)])) tt
      refine XS.iconst X55.here hx rfl (hb hby at_149) ?_
      exact kk
    obtain ⟨_, _, ⟨T56, L56, k56, n56⟩, -, X56, ⟨Lc56, hQ56, l56, y56, z56⟩, st56⟩ := Jvm.LawKit.callS X55 hx (y := (⟨"com/example/enodia/enodia/routing/RouteBufferReversePinLaw", "at", "(Lcom/example/enodia/enodia/routing/RouteBuffer;[III)Z"⟩ : MethodName)) hown (mvT hZ (hw _ (mw 25 rfl))) (mvT hZ (hw _ (mw 26 rfl))) (mvT hZ (hw _ (mw 27 rfl))) (mvT hZ (hw _ (mw 28 rfl))) (by decide) (backOf (W := 0) (rmTB l Z a0 hw [] b6 b1 (2 : Int32) (3 : Int32) T45.heap n0 f48 (by decide)) hZ (hw _ (mw 28 rfl)) (hw _ (mw 27 rfl)) (by decide) (by decide)) (g := (mkF m 150 #[.val (.int u0), .val (.int u1), .val (.int u2), .val (.int u3), .val (.int u4), .val (.int (2 : Int32)), .val (.ref b1), .val (.ref b6)] [(.int (3 : Int32)), (.int (2 : Int32)), (.ref b1), (.ref b6)])) rfl (by rw [hml]; rfl) (argsL := [(.ref b6), (.ref b1), (.int (2 : Int32)), (.int (3 : Int32))]) (rest := []) (lenOf pd_2 rfl) rfl (by show 2 * 0 + _ ≤ _; exact Nat.le_of_eq rfl) (hb hby at_150) (fun _ _ => ⟨rfl, e55, (by decide : 3 + 0 ≤ _), (by decide : 23 + 0 ≤ _)⟩)
    dsimp only [Pt.U, Pt.locs, Pt.cells, Pt.slots] at X56 l56 y56 z56 st56 hQ56
    subst l56 y56 z56
    obtain ⟨rfl, N56q, e56⟩ := hQ56
    have N56 := Fr.app N55 N56q
    refine Goal.to (B := T56.setTop (mkF m 153 #[.val (.int u0), .val (.int u1), .val (.int u2), .val (.int u3), .val (.int u4), .val (.int (2 : Int32)), .val (.ref b1), .val (.ref b6)] [(.int (1 : Int32))])) st56 ?_
    refine Goal.to (B := T56.setTop (mkF m 161 #[.val (.int u0), .val (.int u1), .val (.int u2), .val (.int u3), .val (.int u4), .val (.int (2 : Int32)), .val (.ref b1), .val (.ref b6)] [(.int (1 : Int32))])) (fun tt kk => ?_) ?_
    · show Steps p.tables e below (T56.setTop (mkF m 153 #[.val (.int u0), .val (.int u1), .val (.int u2), .val (.int u3), .val (.int u4), .val (.int (2 : Int32)), .val (.ref b1), .val (.ref b6)] [(.int (1 : Int32))])) tt
      refine XS.ifNo X56.here hx rfl (hb hby at_153) rfl ((if0 _ _).trans (feq ((by decide) : ¬ ((1 : Int32) = (0 : Int32)))).1) ?_
      show Steps p.tables e below (T56.setTop (mkF m 156 #[.val (.int u0), .val (.int u1), .val (.int u2), .val (.int u3), .val (.int u4), .val (.int (2 : Int32)), .val (.ref b1), .val (.ref b6)] [])) tt
      refine XS.iconst X56.here hx rfl (hb hby at_156) ?_
      show Steps p.tables e below (T56.setTop (mkF m 157 #[.val (.int u0), .val (.int u1), .val (.int u2), .val (.int u3), .val (.int u4), .val (.int (2 : Int32)), .val (.ref b1), .val (.ref b6)] [(.int (1 : Int32))])) tt
      refine XS.goto X56.here hx rfl (pc0 := 157) (pc' := 161) rfl (hb hby at_157) (by decide) (by decide) ?_
      exact kk
    exact Goal.retV X56 hx Bd.returns rfl (Or.inl ⟨rfl, Or.inr (Or.inl rfl), _, rfl⟩) (hb hby at_161) hlk e56 ⟨rfl, N56⟩ (by decide) (by decide)
  · refine Goal.to (B := T9.setTop (mkF m 47 #[.val (.int u0), .val (.int u1), .val (.int u2), .val (.int u3), .val (.int u4), .val (.int (3 : Int32)), .val (.ref b1), .val (.ref b6)] [(.int u1), (.ref b6)])) (fun tt kk => ?_) ?_
    · show Steps p.tables e below (T9.setTop (mkF m 39 #[.val (.int u0), .val (.int u1), .val (.int u2), .val (.int u3), .val (.int u4), .val (.int (3 : Int32)), .val (.ref b1), .val (.ref b6)] [])) tt
      refine XS.iload X9.here hx rfl (hb hby at_39) rfl ?_
      show Steps p.tables e below (T9.setTop (mkF m 41 #[.val (.int u0), .val (.int u1), .val (.int u2), .val (.int u3), .val (.int u4), .val (.int (3 : Int32)), .val (.ref b1), .val (.ref b6)] [(.int (3 : Int32))])) tt
      refine XS.ifNo X9.here hx rfl (hb hby at_41) rfl ((if0 _ _).trans (tlt ((by decide) : (0 : Int32) < (3 : Int32))).2.2.2) ?_
      show Steps p.tables e below (T9.setTop (mkF m 44 #[.val (.int u0), .val (.int u1), .val (.int u2), .val (.int u3), .val (.int u4), .val (.int (3 : Int32)), .val (.ref b1), .val (.ref b6)] [])) tt
      refine XS.aload X9.here hx rfl (hb hby at_44) rfl rfl ?_
      show Steps p.tables e below (T9.setTop (mkF m 46 #[.val (.int u0), .val (.int u1), .val (.int u2), .val (.int u3), .val (.int u4), .val (.int (3 : Int32)), .val (.ref b1), .val (.ref b6)] [(.ref b6)])) tt
      refine XS.iloadN X9.here hx rfl (hb hby at_46) rfl ?_
      exact kk
    have f57 : Exa Z T9.heap b6 "com/example/enodia/enodia/routing/RouteBuffer" := (A6.keep K9)
    have f58 : n0 ≤ T9.heap.size := (Nat.le_trans f8 K9.1)
    obtain ⟨cq59, kq59, q59a, q59b, q59c⟩ := isOf hZ rfl f57
    obtain ⟨_, _, ⟨T59, L59, k59, n59⟩, -, X59, ⟨Lc59, hQ59, l59, y59, z59⟩, st59⟩ := X9.virtualBack hx (y := (⟨"com/example/enodia/enodia/routing/RouteBuffer", "add", "(I)V"⟩ : MethodName)) (z := (⟨"com/example/enodia/enodia/routing/RouteBuffer", "add", "(I)V"⟩ : MethodName)) hown (mvT hZ (hw _ (mw 29 rfl))) (mvT hZ (hw _ (mw 30 rfl))) (notFace_of_selects (args := #[]) (mvT hZ (hw _ (mw 32 rfl)))) (mvT hZ (hw _ (mw 32 rfl))) (mvT hZ (hw _ (mw 31 rfl))) (by decide) (backOf (W := 0) (rmA0 l Z a0 hw [] b6 vb_9 u1 T9.heap n0 f58 f57 P9_1 P9_0 P9_2 g_b6 g_vb_9 ne_b6_vb_9) hZ (hw _ (mw 33 rfl)) (hw _ (mw 4 rfl)) (by decide) (by decide)) q59a q59c (g := (mkF m 47 #[.val (.int u0), .val (.int u1), .val (.int u2), .val (.int u3), .val (.int u4), .val (.int (3 : Int32)), .val (.ref b1), .val (.ref b6)] [(.int u1), (.ref b6)])) rfl (by rw [hml]; rfl) (Steps.refl _) (argsL := [(.int u1)]) (rest := []) (lenOf pd_3 rfl) rfl (by show 2 * 0 + _ ≤ _; exact Nat.le_of_eq rfl) (hb hby at_47) (fun _ _ => ⟨rfl, rfl, (by decide : 3 + 0 ≤ _), (by decide : 23 + 0 ≤ _)⟩)
    dsimp only [Pt.U, Pt.locs, Pt.cells, Pt.slots] at X59 l59 y59 z59 st59 hQ59
    subst l59 y59 z59
    obtain ⟨rfl, N59q, K59, P59_0, P59_1, P59_2⟩ := hQ59
    have N59 := Fr.app N9 N59q
    refine Goal.tr (B := T59.setTop (mkF m 50 #[.val (.int u0), .val (.int u1), .val (.int u2), .val (.int u3), .val (.int u4), .val (.int (3 : Int32)), .val (.ref b1), .val (.ref b6)] [])) st59 ?_
    refine Goal.to (B := T59.setTop (mkF m 59 #[.val (.int u0), .val (.int u1), .val (.int u2), .val (.int u3), .val (.int u4), .val (.int (3 : Int32)), .val (.ref b1), .val (.ref b6)] [(.int u2), (.ref b6)])) (fun tt kk => ?_) ?_
    · show Steps p.tables e below (T59.setTop (mkF m 50 #[.val (.int u0), .val (.int u1), .val (.int u2), .val (.int u3), .val (.int u4), .val (.int (3 : Int32)), .val (.ref b1), .val (.ref b6)] [])) tt
      refine XS.iload X59.here hx rfl (hb hby at_50) rfl ?_
      show Steps p.tables e below (T59.setTop (mkF m 52 #[.val (.int u0), .val (.int u1), .val (.int u2), .val (.int u3), .val (.int u4), .val (.int (3 : Int32)), .val (.ref b1), .val (.ref b6)] [(.int (3 : Int32))])) tt
      refine XS.iconst X59.here hx rfl (hb hby at_52) ?_
      show Steps p.tables e below (T59.setTop (mkF m 53 #[.val (.int u0), .val (.int u1), .val (.int u2), .val (.int u3), .val (.int u4), .val (.int (3 : Int32)), .val (.ref b1), .val (.ref b6)] [(.int (1 : Int32)), (.int (3 : Int32))])) tt
      refine XS.icmpNo X59.here hx rfl (hb hby at_53) rfl (tlt ((by decide) : (1 : Int32) < (3 : Int32))).2.2.2 ?_
      show Steps p.tables e below (T59.setTop (mkF m 56 #[.val (.int u0), .val (.int u1), .val (.int u2), .val (.int u3), .val (.int u4), .val (.int (3 : Int32)), .val (.ref b1), .val (.ref b6)] [])) tt
      refine XS.aload X59.here hx rfl (hb hby at_56) rfl rfl ?_
      show Steps p.tables e below (T59.setTop (mkF m 58 #[.val (.int u0), .val (.int u1), .val (.int u2), .val (.int u3), .val (.int u4), .val (.int (3 : Int32)), .val (.ref b1), .val (.ref b6)] [(.ref b6)])) tt
      refine XS.iloadN X59.here hx rfl (hb hby at_58) rfl ?_
      exact kk
    have f60 : Exa Z T59.heap b6 "com/example/enodia/enodia/routing/RouteBuffer" := (f57.keep K59)
    have f61 : n0 ≤ T59.heap.size := (Nat.le_trans f58 K59.1)
    obtain ⟨cq62, kq62, q62a, q62b, q62c⟩ := isOf hZ rfl f60
    obtain ⟨_, _, ⟨T62, L62, k62, n62⟩, -, X62, ⟨Lc62, hQ62, l62, y62, z62⟩, st62⟩ := X59.virtualBack hx (y := (⟨"com/example/enodia/enodia/routing/RouteBuffer", "add", "(I)V"⟩ : MethodName)) (z := (⟨"com/example/enodia/enodia/routing/RouteBuffer", "add", "(I)V"⟩ : MethodName)) hown (mvT hZ (hw _ (mw 29 rfl))) (mvT hZ (hw _ (mw 30 rfl))) (notFace_of_selects (args := #[]) (mvT hZ (hw _ (mw 32 rfl)))) (mvT hZ (hw _ (mw 32 rfl))) (mvT hZ (hw _ (mw 31 rfl))) (by decide) (backOf (W := 0) (rmA1 l Z a0 hw [] b6 vb_9 u1 u2 T59.heap n0 f61 f60 P59_0 P59_1 P59_2 g_b6 g_vb_9 ne_b6_vb_9) hZ (hw _ (mw 33 rfl)) (hw _ (mw 4 rfl)) (by decide) (by decide)) q62a q62c (g := (mkF m 59 #[.val (.int u0), .val (.int u1), .val (.int u2), .val (.int u3), .val (.int u4), .val (.int (3 : Int32)), .val (.ref b1), .val (.ref b6)] [(.int u2), (.ref b6)])) rfl (by rw [hml]; rfl) (Steps.refl _) (argsL := [(.int u2)]) (rest := []) (lenOf pd_3 rfl) rfl (by show 2 * 0 + _ ≤ _; exact Nat.le_of_eq rfl) (hb hby at_59) (fun _ _ => ⟨rfl, rfl, (by decide : 3 + 0 ≤ _), (by decide : 23 + 0 ≤ _)⟩)
    dsimp only [Pt.U, Pt.locs, Pt.cells, Pt.slots] at X62 l62 y62 z62 st62 hQ62
    subst l62 y62 z62
    obtain ⟨rfl, N62q, K62, P62_0, P62_1, P62_2⟩ := hQ62
    have N62 := Fr.app N59 N62q
    refine Goal.tr (B := T62.setTop (mkF m 62 #[.val (.int u0), .val (.int u1), .val (.int u2), .val (.int u3), .val (.int u4), .val (.int (3 : Int32)), .val (.ref b1), .val (.ref b6)] [])) st62 ?_
    refine Goal.to (B := T62.setTop (mkF m 71 #[.val (.int u0), .val (.int u1), .val (.int u2), .val (.int u3), .val (.int u4), .val (.int (3 : Int32)), .val (.ref b1), .val (.ref b6)] [(.int u3), (.ref b6)])) (fun tt kk => ?_) ?_
    · show Steps p.tables e below (T62.setTop (mkF m 62 #[.val (.int u0), .val (.int u1), .val (.int u2), .val (.int u3), .val (.int u4), .val (.int (3 : Int32)), .val (.ref b1), .val (.ref b6)] [])) tt
      refine XS.iload X62.here hx rfl (hb hby at_62) rfl ?_
      show Steps p.tables e below (T62.setTop (mkF m 64 #[.val (.int u0), .val (.int u1), .val (.int u2), .val (.int u3), .val (.int u4), .val (.int (3 : Int32)), .val (.ref b1), .val (.ref b6)] [(.int (3 : Int32))])) tt
      refine XS.iconst X62.here hx rfl (hb hby at_64) ?_
      show Steps p.tables e below (T62.setTop (mkF m 65 #[.val (.int u0), .val (.int u1), .val (.int u2), .val (.int u3), .val (.int u4), .val (.int (3 : Int32)), .val (.ref b1), .val (.ref b6)] [(.int (2 : Int32)), (.int (3 : Int32))])) tt
      refine XS.icmpNo X62.here hx rfl (hb hby at_65) rfl (tlt ((by decide) : (2 : Int32) < (3 : Int32))).2.2.2 ?_
      show Steps p.tables e below (T62.setTop (mkF m 68 #[.val (.int u0), .val (.int u1), .val (.int u2), .val (.int u3), .val (.int u4), .val (.int (3 : Int32)), .val (.ref b1), .val (.ref b6)] [])) tt
      refine XS.aload X62.here hx rfl (hb hby at_68) rfl rfl ?_
      show Steps p.tables e below (T62.setTop (mkF m 70 #[.val (.int u0), .val (.int u1), .val (.int u2), .val (.int u3), .val (.int u4), .val (.int (3 : Int32)), .val (.ref b1), .val (.ref b6)] [(.ref b6)])) tt
      refine XS.iloadN X62.here hx rfl (hb hby at_70) rfl ?_
      exact kk
    have f63 : Exa Z T62.heap b6 "com/example/enodia/enodia/routing/RouteBuffer" := (f60.keep K62)
    have f64 : n0 ≤ T62.heap.size := (Nat.le_trans f61 K62.1)
    obtain ⟨cq65, kq65, q65a, q65b, q65c⟩ := isOf hZ rfl f63
    obtain ⟨_, _, ⟨T65, L65, k65, n65⟩, -, X65, ⟨Lc65, hQ65, l65, y65, z65⟩, st65⟩ := X62.virtualBack hx (y := (⟨"com/example/enodia/enodia/routing/RouteBuffer", "add", "(I)V"⟩ : MethodName)) (z := (⟨"com/example/enodia/enodia/routing/RouteBuffer", "add", "(I)V"⟩ : MethodName)) hown (mvT hZ (hw _ (mw 29 rfl))) (mvT hZ (hw _ (mw 30 rfl))) (notFace_of_selects (args := #[]) (mvT hZ (hw _ (mw 32 rfl)))) (mvT hZ (hw _ (mw 32 rfl))) (mvT hZ (hw _ (mw 31 rfl))) (by decide) (backOf (W := 0) (rmA2 l Z a0 hw [] b6 vb_9 u1 u2 u3 T62.heap n0 f64 f63 P62_0 P62_1 P62_2 g_b6 g_vb_9 ne_b6_vb_9) hZ (hw _ (mw 33 rfl)) (hw _ (mw 4 rfl)) (by decide) (by decide)) q65a q65c (g := (mkF m 71 #[.val (.int u0), .val (.int u1), .val (.int u2), .val (.int u3), .val (.int u4), .val (.int (3 : Int32)), .val (.ref b1), .val (.ref b6)] [(.int u3), (.ref b6)])) rfl (by rw [hml]; rfl) (Steps.refl _) (argsL := [(.int u3)]) (rest := []) (lenOf pd_3 rfl) rfl (by show 2 * 0 + _ ≤ _; exact Nat.le_of_eq rfl) (hb hby at_71) (fun _ _ => ⟨rfl, rfl, (by decide : 3 + 0 ≤ _), (by decide : 23 + 0 ≤ _)⟩)
    dsimp only [Pt.U, Pt.locs, Pt.cells, Pt.slots] at X65 l65 y65 z65 st65 hQ65
    subst l65 y65 z65
    obtain ⟨rfl, N65q, K65, P65_0, P65_1, P65_2⟩ := hQ65
    have N65 := Fr.app N62 N65q
    refine Goal.tr (B := T65.setTop (mkF m 74 #[.val (.int u0), .val (.int u1), .val (.int u2), .val (.int u3), .val (.int u4), .val (.int (3 : Int32)), .val (.ref b1), .val (.ref b6)] [])) st65 ?_
    refine Goal.to (B := T65.setTop (mkF m 89 #[.val (.int u0), .val (.int u1), .val (.int u2), .val (.int u3), .val (.int u4), .val (.int (3 : Int32)), .val (.ref b1), .val (.ref b6)] [(.ref b6)])) (fun tt kk => ?_) ?_
    · show Steps p.tables e below (T65.setTop (mkF m 74 #[.val (.int u0), .val (.int u1), .val (.int u2), .val (.int u3), .val (.int u4), .val (.int (3 : Int32)), .val (.ref b1), .val (.ref b6)] [])) tt
      refine XS.iload X65.here hx rfl (hb hby at_74) rfl ?_
      show Steps p.tables e below (T65.setTop (mkF m 76 #[.val (.int u0), .val (.int u1), .val (.int u2), .val (.int u3), .val (.int u4), .val (.int (3 : Int32)), .val (.ref b1), .val (.ref b6)] [(.int (3 : Int32))])) tt
      refine XS.iconst X65.here hx rfl (hb hby at_76) ?_
      show Steps p.tables e below (T65.setTop (mkF m 77 #[.val (.int u0), .val (.int u1), .val (.int u2), .val (.int u3), .val (.int u4), .val (.int (3 : Int32)), .val (.ref b1), .val (.ref b6)] [(.int (3 : Int32)), (.int (3 : Int32))])) tt
      refine XS.icmpYes X65.here hx rfl (pc0 := 77) (pc' := 87) rfl (hb hby at_77) rfl (flt (Int32.lt_irrefl : ¬ ((3 : Int32) < (3 : Int32)))).2.2.2 (by decide) (by decide) ?_
      show Steps p.tables e below (T65.setTop (mkF m 87 #[.val (.int u0), .val (.int u1), .val (.int u2), .val (.int u3), .val (.int u4), .val (.int (3 : Int32)), .val (.ref b1), .val (.ref b6)] [])) tt
      refine XS.aload X65.here hx rfl (hb hby at_87) rfl rfl ?_
      exact kk
    have f66 : n0 ≤ T65.heap.size := (Nat.le_trans f64 K65.1)
    have f68 : Exa Z T65.heap b6 "com/example/enodia/enodia/routing/RouteBuffer" := (f63.keep K65)
    obtain ⟨cq67, kq67, q67a, q67b, q67c⟩ := isOf hZ rfl f68
    obtain ⟨_, _, ⟨T67, L67, k67, n67⟩, -, X67, ⟨Lc67, hQ67, l67, y67, z67⟩, st67⟩ := X65.virtualBack hx (y := (⟨"com/example/enodia/enodia/routing/RouteBuffer", "reverse", "()V"⟩ : MethodName)) (z := (⟨"com/example/enodia/enodia/routing/RouteBuffer", "reverse", "()V"⟩ : MethodName)) hown (mvT hZ (hw _ (mw 13 rfl))) (mvT hZ (hw _ (mw 14 rfl))) (notFace_of_selects (args := #[]) (mvT hZ (hw _ (mw 16 rfl)))) (mvT hZ (hw _ (mw 16 rfl))) (mvT hZ (hw _ (mw 15 rfl))) (by decide) (backOf (W := 0) (rmR3 l Z a0 hw [] b6 vb_9 u1 u2 u3 T65.heap n0 f66 P65_0 P65_1 P65_2 g_vb_9 ne_b6_vb_9) hZ (hw _ (mw 17 rfl)) (hw _ (mw 4 rfl)) (by decide) (by decide)) q67a q67c (g := (mkF m 89 #[.val (.int u0), .val (.int u1), .val (.int u2), .val (.int u3), .val (.int u4), .val (.int (3 : Int32)), .val (.ref b1), .val (.ref b6)] [(.ref b6)])) rfl (by rw [hml]; rfl) (Steps.refl _) (argsL := []) (rest := []) (lenOf pd_0 rfl) rfl (by show 2 * 0 + _ ≤ _; exact Nat.le_of_eq rfl) (hb hby at_89) (fun _ _ => ⟨rfl, rfl, (by decide : 3 + 0 ≤ _), (by decide : 23 + 0 ≤ _)⟩)
    dsimp only [Pt.U, Pt.locs, Pt.cells, Pt.slots] at X67 l67 y67 z67 st67 hQ67
    subst l67 y67 z67
    obtain ⟨rfl, N67q, K67, P67_0⟩ := hQ67
    have N67 := Fr.app N65 N67q
    refine Goal.tr (B := T67.setTop (mkF m 92 #[.val (.int u0), .val (.int u1), .val (.int u2), .val (.int u3), .val (.int u4), .val (.int (3 : Int32)), .val (.ref b1), .val (.ref b6)] [])) st67 ?_
    refine Goal.to (B := T67.setTop (mkF m 94 #[.val (.int u0), .val (.int u1), .val (.int u2), .val (.int u3), .val (.int u4), .val (.int (3 : Int32)), .val (.ref b1), .val (.ref b6)] [(.ref b6)])) (fun tt kk => ?_) ?_
    · show Steps p.tables e below (T67.setTop (mkF m 92 #[.val (.int u0), .val (.int u1), .val (.int u2), .val (.int u3), .val (.int u4), .val (.int (3 : Int32)), .val (.ref b1), .val (.ref b6)] [])) tt
      refine XS.aload X67.here hx rfl (hb hby at_92) rfl rfl ?_
      exact kk
    have f69 : Fld Z T67.heap b6 "com/example/enodia/enodia/routing/RouteBuffer" "linkCount" "I" (.int (3 : Int32)) := (P65_0.keep K67 (ninS ne_b6_vb_9 nin0))
    have f70 : n0 ≤ T67.heap.size := (Nat.le_trans f66 K67.1)
    have f72 : Exa Z T67.heap b6 "com/example/enodia/enodia/routing/RouteBuffer" := (f68.keep K67)
    obtain ⟨cq71, kq71, q71a, q71b, q71c⟩ := isOf hZ rfl f72
    obtain ⟨_, _, ⟨T71, L71, k71, n71⟩, -, X71, ⟨Lc71, hQ71, l71, y71, z71⟩, st71⟩ := X67.virtualBack hx (y := (⟨"com/example/enodia/enodia/routing/RouteBuffer", "getLinkCount", "()I"⟩ : MethodName)) (z := (⟨"com/example/enodia/enodia/routing/RouteBuffer", "getLinkCount", "()I"⟩ : MethodName)) hown (mvT hZ (hw _ (mw 20 rfl))) (mvT hZ (hw _ (mw 21 rfl))) (notFace_of_selects (args := #[]) (mvT hZ (hw _ (mw 23 rfl)))) (mvT hZ (hw _ (mw 23 rfl))) (mvT hZ (hw _ (mw 22 rfl))) (by decide) (backOf (W := 0) (rmC l Z a0 hw [] b6 (3 : Int32) T67.heap n0 f70 f69) hZ (hw _ (mw 24 rfl)) (hw _ (mw 4 rfl)) (by decide) (by decide)) q71a q71c (g := (mkF m 94 #[.val (.int u0), .val (.int u1), .val (.int u2), .val (.int u3), .val (.int u4), .val (.int (3 : Int32)), .val (.ref b1), .val (.ref b6)] [(.ref b6)])) rfl (by rw [hml]; rfl) (Steps.refl _) (argsL := []) (rest := []) (lenOf pd_1 rfl) rfl (by show 2 * 0 + _ ≤ _; exact Nat.le_of_eq rfl) (hb hby at_94) (fun _ _ => ⟨rfl, rfl, (by decide : 3 + 0 ≤ _), (by decide : 23 + 0 ≤ _)⟩)
    dsimp only [Pt.U, Pt.locs, Pt.cells, Pt.slots] at X71 l71 y71 z71 st71 hQ71
    subst l71 y71 z71
    obtain ⟨rfl, N71q, e71⟩ := hQ71
    have N71 := Fr.app N67 N71q
    refine Goal.tr (B := T71.setTop (mkF m 97 #[.val (.int u0), .val (.int u1), .val (.int u2), .val (.int u3), .val (.int u4), .val (.int (3 : Int32)), .val (.ref b1), .val (.ref b6)] [(.int (3 : Int32))])) st71 ?_
    refine Goal.to (B := T71.setTop (mkF m 111 #[.val (.int u0), .val (.int u1), .val (.int u2), .val (.int u3), .val (.int u4), .val (.int (3 : Int32)), .val (.ref b1), .val (.ref b6)] [(.int (0 : Int32)), (.int (3 : Int32)), (.ref b1), (.ref b6)])) (fun tt kk => ?_) ?_
    · show Steps p.tables e below (T71.setTop (mkF m 97 #[.val (.int u0), .val (.int u1), .val (.int u2), .val (.int u3), .val (.int u4), .val (.int (3 : Int32)), .val (.ref b1), .val (.ref b6)] [(.int (3 : Int32))])) tt
      refine XS.iload X71.here hx rfl (hb hby at_97) rfl ?_
      show Steps p.tables e below (T71.setTop (mkF m 99 #[.val (.int u0), .val (.int u1), .val (.int u2), .val (.int u3), .val (.int u4), .val (.int (3 : Int32)), .val (.ref b1), .val (.ref b6)] [(.int (3 : Int32)), (.int (3 : Int32))])) tt
      refine XS.icmpYes X71.here hx rfl (pc0 := 99) (pc' := 104) rfl (hb hby at_99) rfl (teq (rfl : (3 : Int32) = (3 : Int32))).1 (by decide) (by decide) ?_
      show Steps p.tables e below (T71.setTop (mkF m 104 #[.val (.int u0), .val (.int u1), .val (.int u2), .val (.int u3), .val (.int u4), .val (.int (3 : Int32)), .val (.ref b1), .val (.ref b6)] [])) tt
      refine XS.aload X71.here hx rfl (hb hby at_104) rfl rfl ?_
      show Steps p.tables e below (T71.setTop (mkF m 106 #[.val (.int u0), .val (.int u1), .val (.int u2), .val (.int u3), .val (.int u4), .val (.int (3 : Int32)), .val (.ref b1), .val (.ref b6)] [(.ref b6)])) tt
      refine XS.aload X71.here hx rfl (hb hby at_106) rfl rfl ?_
      show Steps p.tables e below (T71.setTop (mkF m 108 #[.val (.int u0), .val (.int u1), .val (.int u2), .val (.int u3), .val (.int u4), .val (.int (3 : Int32)), .val (.ref b1), .val (.ref b6)] [(.ref b1), (.ref b6)])) tt
      refine XS.iload X71.here hx rfl (hb hby at_108) rfl ?_
      show Steps p.tables e below (T71.setTop (mkF m 110 #[.val (.int u0), .val (.int u1), .val (.int u2), .val (.int u3), .val (.int u4), .val (.int (3 : Int32)), .val (.ref b1), .val (.ref b6)] [(.int (3 : Int32)), (.ref b1), (.ref b6)])) tt
      refine XS.iconst X71.here hx rfl (hb hby at_110) ?_
      exact kk
    have f73 : Fld Z T67.heap b6 "com/example/enodia/enodia/routing/RouteBuffer" "links" "[I" (.ref vb_9) := (P65_1.keep K67 (ninS ne_b6_vb_9 nin0))
    have f74 : Ary Z T67.heap b1 .int [(.int u1), (.int u2), (.int u3), (.int u4)] := (((((f10.keep K9 (ninS ne_b1_b6 nin0)).keep K59 (ninS ne_b1_b6 (ninS ne_b1_vb_9 nin0))).keep K62 (ninS ne_b1_b6 (ninS ne_b1_vb_9 nin0))).keep K65 (ninS ne_b1_b6 (ninS ne_b1_vb_9 nin0))).keep K67 (ninS ne_b1_vb_9 nin0))
    obtain ⟨_, _, ⟨T75, L75, k75, n75⟩, -, X75, ⟨Lc75, hQ75, l75, y75, z75⟩, st75⟩ := Jvm.LawKit.callS X71 hx (y := (⟨"com/example/enodia/enodia/routing/RouteBufferReversePinLaw", "at", "(Lcom/example/enodia/enodia/routing/RouteBuffer;[III)Z"⟩ : MethodName)) hown (mvT hZ (hw _ (mw 25 rfl))) (mvT hZ (hw _ (mw 26 rfl))) (mvT hZ (hw _ (mw 27 rfl))) (mvT hZ (hw _ (mw 28 rfl))) (by decide) (backOf (W := 0) (rmT3_0 l Z a0 hw [] b6 vb_9 b1 u3 u2 u1 u1 u2 u4 T67.heap n0 f70 f72 f69 f73 P67_0 f74) hZ (hw _ (mw 28 rfl)) (hw _ (mw 27 rfl)) (by decide) (by decide)) (g := (mkF m 111 #[.val (.int u0), .val (.int u1), .val (.int u2), .val (.int u3), .val (.int u4), .val (.int (3 : Int32)), .val (.ref b1), .val (.ref b6)] [(.int (0 : Int32)), (.int (3 : Int32)), (.ref b1), (.ref b6)])) rfl (by rw [hml]; rfl) (argsL := [(.ref b6), (.ref b1), (.int (3 : Int32)), (.int (0 : Int32))]) (rest := []) (lenOf pd_2 rfl) rfl (by show 2 * 0 + _ ≤ _; exact Nat.le_of_eq rfl) (hb hby at_111) (fun _ _ => ⟨rfl, e71, (by decide : 3 + 0 ≤ _), (by decide : 23 + 0 ≤ _)⟩)
    dsimp only [Pt.U, Pt.locs, Pt.cells, Pt.slots] at X75 l75 y75 z75 st75 hQ75
    subst l75 y75 z75
    obtain ⟨rfl, N75q, e75⟩ := hQ75
    have N75 := Fr.app N71 N75q
    refine Goal.to (B := T75.setTop (mkF m 114 #[.val (.int u0), .val (.int u1), .val (.int u2), .val (.int u3), .val (.int u4), .val (.int (3 : Int32)), .val (.ref b1), .val (.ref b6)] [(.int (1 : Int32))])) st75 ?_
    refine Goal.to (B := T75.setTop (mkF m 124 #[.val (.int u0), .val (.int u1), .val (.int u2), .val (.int u3), .val (.int u4), .val (.int (3 : Int32)), .val (.ref b1), .val (.ref b6)] [(.int (1 : Int32)), (.int (3 : Int32)), (.ref b1), (.ref b6)])) (fun tt kk => ?_) ?_
    · show Steps p.tables e below (T75.setTop (mkF m 114 #[.val (.int u0), .val (.int u1), .val (.int u2), .val (.int u3), .val (.int u4), .val (.int (3 : Int32)), .val (.ref b1), .val (.ref b6)] [(.int (1 : Int32))])) tt
      refine XS.ifNo X75.here hx rfl (hb hby at_114) rfl ((if0 _ _).trans (feq ((by decide) : ¬ ((1 : Int32) = (0 : Int32)))).1) ?_
      show Steps p.tables e below (T75.setTop (mkF m 117 #[.val (.int u0), .val (.int u1), .val (.int u2), .val (.int u3), .val (.int u4), .val (.int (3 : Int32)), .val (.ref b1), .val (.ref b6)] [])) tt
      refine XS.aload X75.here hx rfl (hb hby at_117) rfl rfl ?_
      show Steps p.tables e below (T75.setTop (mkF m 119 #[.val (.int u0), .val (.int u1), .val (.int u2), .val (.int u3), .val (.int u4), .val (.int (3 : Int32)), .val (.ref b1), .val (.ref b6)] [(.ref b6)])) tt
      refine XS.aload X75.here hx rfl (hb hby at_119) rfl rfl ?_
      show Steps p.tables e below (T75.setTop (mkF m 121 #[.val (.int u0), .val (.int u1), .val (.int u2), .val (.int u3), .val (.int u4), .val (.int (3 : Int32)), .val (.ref b1), .val (.ref b6)] [(.ref b1), (.ref b6)])) tt
      refine XS.iload X75.here hx rfl (hb hby at_121) rfl ?_
      show Steps p.tables e below (T75.setTop (mkF m 123 #[.val (.int u0), .val (.int u1), .val (.int u2), .val (.int u3), .val (.int u4), .val (.int (3 : Int32)), .val (.ref b1), .val (.ref b6)] [(.int (3 : Int32)), (.ref b1), (.ref b6)])) tt
      refine XS.iconst X75.here hx rfl (hb hby at_123) ?_
      exact kk
    obtain ⟨_, _, ⟨T76, L76, k76, n76⟩, -, X76, ⟨Lc76, hQ76, l76, y76, z76⟩, st76⟩ := Jvm.LawKit.callS X75 hx (y := (⟨"com/example/enodia/enodia/routing/RouteBufferReversePinLaw", "at", "(Lcom/example/enodia/enodia/routing/RouteBuffer;[III)Z"⟩ : MethodName)) hown (mvT hZ (hw _ (mw 25 rfl))) (mvT hZ (hw _ (mw 26 rfl))) (mvT hZ (hw _ (mw 27 rfl))) (mvT hZ (hw _ (mw 28 rfl))) (by decide) (backOf (W := 0) (rmT3_1 l Z a0 hw [] b6 vb_9 b1 u3 u2 u1 u1 u3 u4 T67.heap n0 f70 f72 f69 f73 P67_0 f74) hZ (hw _ (mw 28 rfl)) (hw _ (mw 27 rfl)) (by decide) (by decide)) (g := (mkF m 124 #[.val (.int u0), .val (.int u1), .val (.int u2), .val (.int u3), .val (.int u4), .val (.int (3 : Int32)), .val (.ref b1), .val (.ref b6)] [(.int (1 : Int32)), (.int (3 : Int32)), (.ref b1), (.ref b6)])) rfl (by rw [hml]; rfl) (argsL := [(.ref b6), (.ref b1), (.int (3 : Int32)), (.int (1 : Int32))]) (rest := []) (lenOf pd_2 rfl) rfl (by show 2 * 0 + _ ≤ _; exact Nat.le_of_eq rfl) (hb hby at_124) (fun _ _ => ⟨rfl, e75, (by decide : 3 + 0 ≤ _), (by decide : 23 + 0 ≤ _)⟩)
    dsimp only [Pt.U, Pt.locs, Pt.cells, Pt.slots] at X76 l76 y76 z76 st76 hQ76
    subst l76 y76 z76
    obtain ⟨rfl, N76q, e76⟩ := hQ76
    have N76 := Fr.app N75 N76q
    refine Goal.to (B := T76.setTop (mkF m 127 #[.val (.int u0), .val (.int u1), .val (.int u2), .val (.int u3), .val (.int u4), .val (.int (3 : Int32)), .val (.ref b1), .val (.ref b6)] [(.int (1 : Int32))])) st76 ?_
    refine Goal.to (B := T76.setTop (mkF m 137 #[.val (.int u0), .val (.int u1), .val (.int u2), .val (.int u3), .val (.int u4), .val (.int (3 : Int32)), .val (.ref b1), .val (.ref b6)] [(.int (2 : Int32)), (.int (3 : Int32)), (.ref b1), (.ref b6)])) (fun tt kk => ?_) ?_
    · show Steps p.tables e below (T76.setTop (mkF m 127 #[.val (.int u0), .val (.int u1), .val (.int u2), .val (.int u3), .val (.int u4), .val (.int (3 : Int32)), .val (.ref b1), .val (.ref b6)] [(.int (1 : Int32))])) tt
      refine XS.ifNo X76.here hx rfl (hb hby at_127) rfl ((if0 _ _).trans (feq ((by decide) : ¬ ((1 : Int32) = (0 : Int32)))).1) ?_
      show Steps p.tables e below (T76.setTop (mkF m 130 #[.val (.int u0), .val (.int u1), .val (.int u2), .val (.int u3), .val (.int u4), .val (.int (3 : Int32)), .val (.ref b1), .val (.ref b6)] [])) tt
      refine XS.aload X76.here hx rfl (hb hby at_130) rfl rfl ?_
      show Steps p.tables e below (T76.setTop (mkF m 132 #[.val (.int u0), .val (.int u1), .val (.int u2), .val (.int u3), .val (.int u4), .val (.int (3 : Int32)), .val (.ref b1), .val (.ref b6)] [(.ref b6)])) tt
      refine XS.aload X76.here hx rfl (hb hby at_132) rfl rfl ?_
      show Steps p.tables e below (T76.setTop (mkF m 134 #[.val (.int u0), .val (.int u1), .val (.int u2), .val (.int u3), .val (.int u4), .val (.int (3 : Int32)), .val (.ref b1), .val (.ref b6)] [(.ref b1), (.ref b6)])) tt
      refine XS.iload X76.here hx rfl (hb hby at_134) rfl ?_
      show Steps p.tables e below (T76.setTop (mkF m 136 #[.val (.int u0), .val (.int u1), .val (.int u2), .val (.int u3), .val (.int u4), .val (.int (3 : Int32)), .val (.ref b1), .val (.ref b6)] [(.int (3 : Int32)), (.ref b1), (.ref b6)])) tt
      refine XS.iconst X76.here hx rfl (hb hby at_136) ?_
      exact kk
    obtain ⟨_, _, ⟨T77, L77, k77, n77⟩, -, X77, ⟨Lc77, hQ77, l77, y77, z77⟩, st77⟩ := Jvm.LawKit.callS X76 hx (y := (⟨"com/example/enodia/enodia/routing/RouteBufferReversePinLaw", "at", "(Lcom/example/enodia/enodia/routing/RouteBuffer;[III)Z"⟩ : MethodName)) hown (mvT hZ (hw _ (mw 25 rfl))) (mvT hZ (hw _ (mw 26 rfl))) (mvT hZ (hw _ (mw 27 rfl))) (mvT hZ (hw _ (mw 28 rfl))) (by decide) (backOf (W := 0) (rmT3_2 l Z a0 hw [] b6 vb_9 b1 u3 u2 u1 u2 u3 u4 T67.heap n0 f70 f72 f69 f73 P67_0 f74) hZ (hw _ (mw 28 rfl)) (hw _ (mw 27 rfl)) (by decide) (by decide)) (g := (mkF m 137 #[.val (.int u0), .val (.int u1), .val (.int u2), .val (.int u3), .val (.int u4), .val (.int (3 : Int32)), .val (.ref b1), .val (.ref b6)] [(.int (2 : Int32)), (.int (3 : Int32)), (.ref b1), (.ref b6)])) rfl (by rw [hml]; rfl) (argsL := [(.ref b6), (.ref b1), (.int (3 : Int32)), (.int (2 : Int32))]) (rest := []) (lenOf pd_2 rfl) rfl (by show 2 * 0 + _ ≤ _; exact Nat.le_of_eq rfl) (hb hby at_137) (fun _ _ => ⟨rfl, e76, (by decide : 3 + 0 ≤ _), (by decide : 23 + 0 ≤ _)⟩)
    dsimp only [Pt.U, Pt.locs, Pt.cells, Pt.slots] at X77 l77 y77 z77 st77 hQ77
    subst l77 y77 z77
    obtain ⟨rfl, N77q, e77⟩ := hQ77
    have N77 := Fr.app N76 N77q
    refine Goal.to (B := T77.setTop (mkF m 140 #[.val (.int u0), .val (.int u1), .val (.int u2), .val (.int u3), .val (.int u4), .val (.int (3 : Int32)), .val (.ref b1), .val (.ref b6)] [(.int (1 : Int32))])) st77 ?_
    refine Goal.to (B := T77.setTop (mkF m 150 #[.val (.int u0), .val (.int u1), .val (.int u2), .val (.int u3), .val (.int u4), .val (.int (3 : Int32)), .val (.ref b1), .val (.ref b6)] [(.int (3 : Int32)), (.int (3 : Int32)), (.ref b1), (.ref b6)])) (fun tt kk => ?_) ?_
    · show Steps p.tables e below (T77.setTop (mkF m 140 #[.val (.int u0), .val (.int u1), .val (.int u2), .val (.int u3), .val (.int u4), .val (.int (3 : Int32)), .val (.ref b1), .val (.ref b6)] [(.int (1 : Int32))])) tt
      refine XS.ifNo X77.here hx rfl (hb hby at_140) rfl ((if0 _ _).trans (feq ((by decide) : ¬ ((1 : Int32) = (0 : Int32)))).1) ?_
      show Steps p.tables e below (T77.setTop (mkF m 143 #[.val (.int u0), .val (.int u1), .val (.int u2), .val (.int u3), .val (.int u4), .val (.int (3 : Int32)), .val (.ref b1), .val (.ref b6)] [])) tt
      refine XS.aload X77.here hx rfl (hb hby at_143) rfl rfl ?_
      show Steps p.tables e below (T77.setTop (mkF m 145 #[.val (.int u0), .val (.int u1), .val (.int u2), .val (.int u3), .val (.int u4), .val (.int (3 : Int32)), .val (.ref b1), .val (.ref b6)] [(.ref b6)])) tt
      refine XS.aload X77.here hx rfl (hb hby at_145) rfl rfl ?_
      show Steps p.tables e below (T77.setTop (mkF m 147 #[.val (.int u0), .val (.int u1), .val (.int u2), .val (.int u3), .val (.int u4), .val (.int (3 : Int32)), .val (.ref b1), .val (.ref b6)] [(.ref b1), (.ref b6)])) tt
      refine XS.iload X77.here hx rfl (hb hby at_147) rfl ?_
      show Steps p.tables e below (T77.setTop (mkF m 149 #[.val (.int u0), .val (.int u1), .val (.int u2), .val (.int u3), .val (.int u4), .val (.int (3 : Int32)), .val (.ref b1), .val (.ref b6)] [(.int (3 : Int32)), (.ref b1), (.ref b6)])) tt
      refine XS.iconst X77.here hx rfl (hb hby at_149) ?_
      exact kk
    obtain ⟨_, _, ⟨T78, L78, k78, n78⟩, -, X78, ⟨Lc78, hQ78, l78, y78, z78⟩, st78⟩ := Jvm.LawKit.callS X77 hx (y := (⟨"com/example/enodia/enodia/routing/RouteBufferReversePinLaw", "at", "(Lcom/example/enodia/enodia/routing/RouteBuffer;[III)Z"⟩ : MethodName)) hown (mvT hZ (hw _ (mw 25 rfl))) (mvT hZ (hw _ (mw 26 rfl))) (mvT hZ (hw _ (mw 27 rfl))) (mvT hZ (hw _ (mw 28 rfl))) (by decide) (backOf (W := 0) (rmTB l Z a0 hw [] b6 b1 (3 : Int32) (3 : Int32) T67.heap n0 f70 (by decide)) hZ (hw _ (mw 28 rfl)) (hw _ (mw 27 rfl)) (by decide) (by decide)) (g := (mkF m 150 #[.val (.int u0), .val (.int u1), .val (.int u2), .val (.int u3), .val (.int u4), .val (.int (3 : Int32)), .val (.ref b1), .val (.ref b6)] [(.int (3 : Int32)), (.int (3 : Int32)), (.ref b1), (.ref b6)])) rfl (by rw [hml]; rfl) (argsL := [(.ref b6), (.ref b1), (.int (3 : Int32)), (.int (3 : Int32))]) (rest := []) (lenOf pd_2 rfl) rfl (by show 2 * 0 + _ ≤ _; exact Nat.le_of_eq rfl) (hb hby at_150) (fun _ _ => ⟨rfl, e77, (by decide : 3 + 0 ≤ _), (by decide : 23 + 0 ≤ _)⟩)
    dsimp only [Pt.U, Pt.locs, Pt.cells, Pt.slots] at X78 l78 y78 z78 st78 hQ78
    subst l78 y78 z78
    obtain ⟨rfl, N78q, e78⟩ := hQ78
    have N78 := Fr.app N77 N78q
    refine Goal.to (B := T78.setTop (mkF m 153 #[.val (.int u0), .val (.int u1), .val (.int u2), .val (.int u3), .val (.int u4), .val (.int (3 : Int32)), .val (.ref b1), .val (.ref b6)] [(.int (1 : Int32))])) st78 ?_
    refine Goal.to (B := T78.setTop (mkF m 161 #[.val (.int u0), .val (.int u1), .val (.int u2), .val (.int u3), .val (.int u4), .val (.int (3 : Int32)), .val (.ref b1), .val (.ref b6)] [(.int (1 : Int32))])) (fun tt kk => ?_) ?_
    · show Steps p.tables e below (T78.setTop (mkF m 153 #[.val (.int u0), .val (.int u1), .val (.int u2), .val (.int u3), .val (.int u4), .val (.int (3 : Int32)), .val (.ref b1), .val (.ref b6)] [(.int (1 : Int32))])) tt
      refine XS.ifNo X78.here hx rfl (hb hby at_153) rfl ((if0 _ _).trans (feq ((by decide) : ¬ ((1 : Int32) = (0 : Int32)))).1) ?_
      show Steps p.tables e below (T78.setTop (mkF m 156 #[.val (.int u0), .val (.int u1), .val (.int u2), .val (.int u3), .val (.int u4), .val (.int (3 : Int32)), .val (.ref b1), .val (.ref b6)] [])) tt
      refine XS.iconst X78.here hx rfl (hb hby at_156) ?_
      show Steps p.tables e below (T78.setTop (mkF m 157 #[.val (.int u0), .val (.int u1), .val (.int u2), .val (.int u3), .val (.int u4), .val (.int (3 : Int32)), .val (.ref b1), .val (.ref b6)] [(.int (1 : Int32))])) tt
      refine XS.goto X78.here hx rfl (pc0 := 157) (pc' := 161) rfl (hb hby at_157) (by decide) (by decide) ?_
      exact kk
    exact Goal.retV X78 hx Bd.returns rfl (Or.inl ⟨rfl, Or.inr (Or.inl rfl), _, rfl⟩) (hb hby at_161) hlk e78 ⟨rfl, N78⟩ (by decide) (by decide)
  · refine Goal.to (B := T9.setTop (mkF m 47 #[.val (.int u0), .val (.int u1), .val (.int u2), .val (.int u3), .val (.int u4), .val (.int (4 : Int32)), .val (.ref b1), .val (.ref b6)] [(.int u1), (.ref b6)])) (fun tt kk => ?_) ?_
    · show Steps p.tables e below (T9.setTop (mkF m 39 #[.val (.int u0), .val (.int u1), .val (.int u2), .val (.int u3), .val (.int u4), .val (.int (4 : Int32)), .val (.ref b1), .val (.ref b6)] [])) tt
      refine XS.iload X9.here hx rfl (hb hby at_39) rfl ?_
      show Steps p.tables e below (T9.setTop (mkF m 41 #[.val (.int u0), .val (.int u1), .val (.int u2), .val (.int u3), .val (.int u4), .val (.int (4 : Int32)), .val (.ref b1), .val (.ref b6)] [(.int (4 : Int32))])) tt
      refine XS.ifNo X9.here hx rfl (hb hby at_41) rfl ((if0 _ _).trans (tlt ((by decide) : (0 : Int32) < (4 : Int32))).2.2.2) ?_
      show Steps p.tables e below (T9.setTop (mkF m 44 #[.val (.int u0), .val (.int u1), .val (.int u2), .val (.int u3), .val (.int u4), .val (.int (4 : Int32)), .val (.ref b1), .val (.ref b6)] [])) tt
      refine XS.aload X9.here hx rfl (hb hby at_44) rfl rfl ?_
      show Steps p.tables e below (T9.setTop (mkF m 46 #[.val (.int u0), .val (.int u1), .val (.int u2), .val (.int u3), .val (.int u4), .val (.int (4 : Int32)), .val (.ref b1), .val (.ref b6)] [(.ref b6)])) tt
      refine XS.iloadN X9.here hx rfl (hb hby at_46) rfl ?_
      exact kk
    have f79 : Exa Z T9.heap b6 "com/example/enodia/enodia/routing/RouteBuffer" := (A6.keep K9)
    have f80 : n0 ≤ T9.heap.size := (Nat.le_trans f8 K9.1)
    obtain ⟨cq81, kq81, q81a, q81b, q81c⟩ := isOf hZ rfl f79
    obtain ⟨_, _, ⟨T81, L81, k81, n81⟩, -, X81, ⟨Lc81, hQ81, l81, y81, z81⟩, st81⟩ := X9.virtualBack hx (y := (⟨"com/example/enodia/enodia/routing/RouteBuffer", "add", "(I)V"⟩ : MethodName)) (z := (⟨"com/example/enodia/enodia/routing/RouteBuffer", "add", "(I)V"⟩ : MethodName)) hown (mvT hZ (hw _ (mw 29 rfl))) (mvT hZ (hw _ (mw 30 rfl))) (notFace_of_selects (args := #[]) (mvT hZ (hw _ (mw 32 rfl)))) (mvT hZ (hw _ (mw 32 rfl))) (mvT hZ (hw _ (mw 31 rfl))) (by decide) (backOf (W := 0) (rmA0 l Z a0 hw [] b6 vb_9 u1 T9.heap n0 f80 f79 P9_1 P9_0 P9_2 g_b6 g_vb_9 ne_b6_vb_9) hZ (hw _ (mw 33 rfl)) (hw _ (mw 4 rfl)) (by decide) (by decide)) q81a q81c (g := (mkF m 47 #[.val (.int u0), .val (.int u1), .val (.int u2), .val (.int u3), .val (.int u4), .val (.int (4 : Int32)), .val (.ref b1), .val (.ref b6)] [(.int u1), (.ref b6)])) rfl (by rw [hml]; rfl) (Steps.refl _) (argsL := [(.int u1)]) (rest := []) (lenOf pd_3 rfl) rfl (by show 2 * 0 + _ ≤ _; exact Nat.le_of_eq rfl) (hb hby at_47) (fun _ _ => ⟨rfl, rfl, (by decide : 3 + 0 ≤ _), (by decide : 23 + 0 ≤ _)⟩)
    dsimp only [Pt.U, Pt.locs, Pt.cells, Pt.slots] at X81 l81 y81 z81 st81 hQ81
    subst l81 y81 z81
    obtain ⟨rfl, N81q, K81, P81_0, P81_1, P81_2⟩ := hQ81
    have N81 := Fr.app N9 N81q
    refine Goal.tr (B := T81.setTop (mkF m 50 #[.val (.int u0), .val (.int u1), .val (.int u2), .val (.int u3), .val (.int u4), .val (.int (4 : Int32)), .val (.ref b1), .val (.ref b6)] [])) st81 ?_
    refine Goal.to (B := T81.setTop (mkF m 59 #[.val (.int u0), .val (.int u1), .val (.int u2), .val (.int u3), .val (.int u4), .val (.int (4 : Int32)), .val (.ref b1), .val (.ref b6)] [(.int u2), (.ref b6)])) (fun tt kk => ?_) ?_
    · show Steps p.tables e below (T81.setTop (mkF m 50 #[.val (.int u0), .val (.int u1), .val (.int u2), .val (.int u3), .val (.int u4), .val (.int (4 : Int32)), .val (.ref b1), .val (.ref b6)] [])) tt
      refine XS.iload X81.here hx rfl (hb hby at_50) rfl ?_
      show Steps p.tables e below (T81.setTop (mkF m 52 #[.val (.int u0), .val (.int u1), .val (.int u2), .val (.int u3), .val (.int u4), .val (.int (4 : Int32)), .val (.ref b1), .val (.ref b6)] [(.int (4 : Int32))])) tt
      refine XS.iconst X81.here hx rfl (hb hby at_52) ?_
      show Steps p.tables e below (T81.setTop (mkF m 53 #[.val (.int u0), .val (.int u1), .val (.int u2), .val (.int u3), .val (.int u4), .val (.int (4 : Int32)), .val (.ref b1), .val (.ref b6)] [(.int (1 : Int32)), (.int (4 : Int32))])) tt
      refine XS.icmpNo X81.here hx rfl (hb hby at_53) rfl (tlt ((by decide) : (1 : Int32) < (4 : Int32))).2.2.2 ?_
      show Steps p.tables e below (T81.setTop (mkF m 56 #[.val (.int u0), .val (.int u1), .val (.int u2), .val (.int u3), .val (.int u4), .val (.int (4 : Int32)), .val (.ref b1), .val (.ref b6)] [])) tt
      refine XS.aload X81.here hx rfl (hb hby at_56) rfl rfl ?_
      show Steps p.tables e below (T81.setTop (mkF m 58 #[.val (.int u0), .val (.int u1), .val (.int u2), .val (.int u3), .val (.int u4), .val (.int (4 : Int32)), .val (.ref b1), .val (.ref b6)] [(.ref b6)])) tt
      refine XS.iloadN X81.here hx rfl (hb hby at_58) rfl ?_
      exact kk
    have f82 : Exa Z T81.heap b6 "com/example/enodia/enodia/routing/RouteBuffer" := (f79.keep K81)
    have f83 : n0 ≤ T81.heap.size := (Nat.le_trans f80 K81.1)
    obtain ⟨cq84, kq84, q84a, q84b, q84c⟩ := isOf hZ rfl f82
    obtain ⟨_, _, ⟨T84, L84, k84, n84⟩, -, X84, ⟨Lc84, hQ84, l84, y84, z84⟩, st84⟩ := X81.virtualBack hx (y := (⟨"com/example/enodia/enodia/routing/RouteBuffer", "add", "(I)V"⟩ : MethodName)) (z := (⟨"com/example/enodia/enodia/routing/RouteBuffer", "add", "(I)V"⟩ : MethodName)) hown (mvT hZ (hw _ (mw 29 rfl))) (mvT hZ (hw _ (mw 30 rfl))) (notFace_of_selects (args := #[]) (mvT hZ (hw _ (mw 32 rfl)))) (mvT hZ (hw _ (mw 32 rfl))) (mvT hZ (hw _ (mw 31 rfl))) (by decide) (backOf (W := 0) (rmA1 l Z a0 hw [] b6 vb_9 u1 u2 T81.heap n0 f83 f82 P81_0 P81_1 P81_2 g_b6 g_vb_9 ne_b6_vb_9) hZ (hw _ (mw 33 rfl)) (hw _ (mw 4 rfl)) (by decide) (by decide)) q84a q84c (g := (mkF m 59 #[.val (.int u0), .val (.int u1), .val (.int u2), .val (.int u3), .val (.int u4), .val (.int (4 : Int32)), .val (.ref b1), .val (.ref b6)] [(.int u2), (.ref b6)])) rfl (by rw [hml]; rfl) (Steps.refl _) (argsL := [(.int u2)]) (rest := []) (lenOf pd_3 rfl) rfl (by show 2 * 0 + _ ≤ _; exact Nat.le_of_eq rfl) (hb hby at_59) (fun _ _ => ⟨rfl, rfl, (by decide : 3 + 0 ≤ _), (by decide : 23 + 0 ≤ _)⟩)
    dsimp only [Pt.U, Pt.locs, Pt.cells, Pt.slots] at X84 l84 y84 z84 st84 hQ84
    subst l84 y84 z84
    obtain ⟨rfl, N84q, K84, P84_0, P84_1, P84_2⟩ := hQ84
    have N84 := Fr.app N81 N84q
    refine Goal.tr (B := T84.setTop (mkF m 62 #[.val (.int u0), .val (.int u1), .val (.int u2), .val (.int u3), .val (.int u4), .val (.int (4 : Int32)), .val (.ref b1), .val (.ref b6)] [])) st84 ?_
    refine Goal.to (B := T84.setTop (mkF m 71 #[.val (.int u0), .val (.int u1), .val (.int u2), .val (.int u3), .val (.int u4), .val (.int (4 : Int32)), .val (.ref b1), .val (.ref b6)] [(.int u3), (.ref b6)])) (fun tt kk => ?_) ?_
    · show Steps p.tables e below (T84.setTop (mkF m 62 #[.val (.int u0), .val (.int u1), .val (.int u2), .val (.int u3), .val (.int u4), .val (.int (4 : Int32)), .val (.ref b1), .val (.ref b6)] [])) tt
      refine XS.iload X84.here hx rfl (hb hby at_62) rfl ?_
      show Steps p.tables e below (T84.setTop (mkF m 64 #[.val (.int u0), .val (.int u1), .val (.int u2), .val (.int u3), .val (.int u4), .val (.int (4 : Int32)), .val (.ref b1), .val (.ref b6)] [(.int (4 : Int32))])) tt
      refine XS.iconst X84.here hx rfl (hb hby at_64) ?_
      show Steps p.tables e below (T84.setTop (mkF m 65 #[.val (.int u0), .val (.int u1), .val (.int u2), .val (.int u3), .val (.int u4), .val (.int (4 : Int32)), .val (.ref b1), .val (.ref b6)] [(.int (2 : Int32)), (.int (4 : Int32))])) tt
      refine XS.icmpNo X84.here hx rfl (hb hby at_65) rfl (tlt ((by decide) : (2 : Int32) < (4 : Int32))).2.2.2 ?_
      show Steps p.tables e below (T84.setTop (mkF m 68 #[.val (.int u0), .val (.int u1), .val (.int u2), .val (.int u3), .val (.int u4), .val (.int (4 : Int32)), .val (.ref b1), .val (.ref b6)] [])) tt
      refine XS.aload X84.here hx rfl (hb hby at_68) rfl rfl ?_
      show Steps p.tables e below (T84.setTop (mkF m 70 #[.val (.int u0), .val (.int u1), .val (.int u2), .val (.int u3), .val (.int u4), .val (.int (4 : Int32)), .val (.ref b1), .val (.ref b6)] [(.ref b6)])) tt
      refine XS.iloadN X84.here hx rfl (hb hby at_70) rfl ?_
      exact kk
    have f85 : Exa Z T84.heap b6 "com/example/enodia/enodia/routing/RouteBuffer" := (f82.keep K84)
    have f86 : n0 ≤ T84.heap.size := (Nat.le_trans f83 K84.1)
    obtain ⟨cq87, kq87, q87a, q87b, q87c⟩ := isOf hZ rfl f85
    obtain ⟨_, _, ⟨T87, L87, k87, n87⟩, -, X87, ⟨Lc87, hQ87, l87, y87, z87⟩, st87⟩ := X84.virtualBack hx (y := (⟨"com/example/enodia/enodia/routing/RouteBuffer", "add", "(I)V"⟩ : MethodName)) (z := (⟨"com/example/enodia/enodia/routing/RouteBuffer", "add", "(I)V"⟩ : MethodName)) hown (mvT hZ (hw _ (mw 29 rfl))) (mvT hZ (hw _ (mw 30 rfl))) (notFace_of_selects (args := #[]) (mvT hZ (hw _ (mw 32 rfl)))) (mvT hZ (hw _ (mw 32 rfl))) (mvT hZ (hw _ (mw 31 rfl))) (by decide) (backOf (W := 0) (rmA2 l Z a0 hw [] b6 vb_9 u1 u2 u3 T84.heap n0 f86 f85 P84_0 P84_1 P84_2 g_b6 g_vb_9 ne_b6_vb_9) hZ (hw _ (mw 33 rfl)) (hw _ (mw 4 rfl)) (by decide) (by decide)) q87a q87c (g := (mkF m 71 #[.val (.int u0), .val (.int u1), .val (.int u2), .val (.int u3), .val (.int u4), .val (.int (4 : Int32)), .val (.ref b1), .val (.ref b6)] [(.int u3), (.ref b6)])) rfl (by rw [hml]; rfl) (Steps.refl _) (argsL := [(.int u3)]) (rest := []) (lenOf pd_3 rfl) rfl (by show 2 * 0 + _ ≤ _; exact Nat.le_of_eq rfl) (hb hby at_71) (fun _ _ => ⟨rfl, rfl, (by decide : 3 + 0 ≤ _), (by decide : 23 + 0 ≤ _)⟩)
    dsimp only [Pt.U, Pt.locs, Pt.cells, Pt.slots] at X87 l87 y87 z87 st87 hQ87
    subst l87 y87 z87
    obtain ⟨rfl, N87q, K87, P87_0, P87_1, P87_2⟩ := hQ87
    have N87 := Fr.app N84 N87q
    refine Goal.tr (B := T87.setTop (mkF m 74 #[.val (.int u0), .val (.int u1), .val (.int u2), .val (.int u3), .val (.int u4), .val (.int (4 : Int32)), .val (.ref b1), .val (.ref b6)] [])) st87 ?_
    refine Goal.to (B := T87.setTop (mkF m 84 #[.val (.int u0), .val (.int u1), .val (.int u2), .val (.int u3), .val (.int u4), .val (.int (4 : Int32)), .val (.ref b1), .val (.ref b6)] [(.int u4), (.ref b6)])) (fun tt kk => ?_) ?_
    · show Steps p.tables e below (T87.setTop (mkF m 74 #[.val (.int u0), .val (.int u1), .val (.int u2), .val (.int u3), .val (.int u4), .val (.int (4 : Int32)), .val (.ref b1), .val (.ref b6)] [])) tt
      refine XS.iload X87.here hx rfl (hb hby at_74) rfl ?_
      show Steps p.tables e below (T87.setTop (mkF m 76 #[.val (.int u0), .val (.int u1), .val (.int u2), .val (.int u3), .val (.int u4), .val (.int (4 : Int32)), .val (.ref b1), .val (.ref b6)] [(.int (4 : Int32))])) tt
      refine XS.iconst X87.here hx rfl (hb hby at_76) ?_
      show Steps p.tables e below (T87.setTop (mkF m 77 #[.val (.int u0), .val (.int u1), .val (.int u2), .val (.int u3), .val (.int u4), .val (.int (4 : Int32)), .val (.ref b1), .val (.ref b6)] [(.int (3 : Int32)), (.int (4 : Int32))])) tt
      refine XS.icmpNo X87.here hx rfl (hb hby at_77) rfl (tlt ((by decide) : (3 : Int32) < (4 : Int32))).2.2.2 ?_
      show Steps p.tables e below (T87.setTop (mkF m 80 #[.val (.int u0), .val (.int u1), .val (.int u2), .val (.int u3), .val (.int u4), .val (.int (4 : Int32)), .val (.ref b1), .val (.ref b6)] [])) tt
      refine XS.aload X87.here hx rfl (hb hby at_80) rfl rfl ?_
      show Steps p.tables e below (T87.setTop (mkF m 82 #[.val (.int u0), .val (.int u1), .val (.int u2), .val (.int u3), .val (.int u4), .val (.int (4 : Int32)), .val (.ref b1), .val (.ref b6)] [(.ref b6)])) tt
      refine XS.iload X87.here hx rfl (hb hby at_82) rfl ?_
      exact kk
    have f88 : Exa Z T87.heap b6 "com/example/enodia/enodia/routing/RouteBuffer" := (f85.keep K87)
    have f89 : n0 ≤ T87.heap.size := (Nat.le_trans f86 K87.1)
    obtain ⟨cq90, kq90, q90a, q90b, q90c⟩ := isOf hZ rfl f88
    obtain ⟨_, _, ⟨T90, L90, k90, n90⟩, -, X90, ⟨Lc90, hQ90, l90, y90, z90⟩, st90⟩ := X87.virtualBack hx (y := (⟨"com/example/enodia/enodia/routing/RouteBuffer", "add", "(I)V"⟩ : MethodName)) (z := (⟨"com/example/enodia/enodia/routing/RouteBuffer", "add", "(I)V"⟩ : MethodName)) hown (mvT hZ (hw _ (mw 29 rfl))) (mvT hZ (hw _ (mw 30 rfl))) (notFace_of_selects (args := #[]) (mvT hZ (hw _ (mw 32 rfl)))) (mvT hZ (hw _ (mw 32 rfl))) (mvT hZ (hw _ (mw 31 rfl))) (by decide) (backOf (W := 0) (rmA3 l Z a0 hw [] b6 vb_9 u1 u2 u3 u4 T87.heap n0 f89 f88 P87_0 P87_1 P87_2 g_b6 g_vb_9 ne_b6_vb_9) hZ (hw _ (mw 33 rfl)) (hw _ (mw 4 rfl)) (by decide) (by decide)) q90a q90c (g := (mkF m 84 #[.val (.int u0), .val (.int u1), .val (.int u2), .val (.int u3), .val (.int u4), .val (.int (4 : Int32)), .val (.ref b1), .val (.ref b6)] [(.int u4), (.ref b6)])) rfl (by rw [hml]; rfl) (Steps.refl _) (argsL := [(.int u4)]) (rest := []) (lenOf pd_3 rfl) rfl (by show 2 * 0 + _ ≤ _; exact Nat.le_of_eq rfl) (hb hby at_84) (fun _ _ => ⟨rfl, rfl, (by decide : 3 + 0 ≤ _), (by decide : 23 + 0 ≤ _)⟩)
    dsimp only [Pt.U, Pt.locs, Pt.cells, Pt.slots] at X90 l90 y90 z90 st90 hQ90
    subst l90 y90 z90
    obtain ⟨rfl, N90q, K90, P90_0, P90_1, P90_2⟩ := hQ90
    have N90 := Fr.app N87 N90q
    refine Goal.tr (B := T90.setTop (mkF m 87 #[.val (.int u0), .val (.int u1), .val (.int u2), .val (.int u3), .val (.int u4), .val (.int (4 : Int32)), .val (.ref b1), .val (.ref b6)] [])) st90 ?_
    refine Goal.to (B := T90.setTop (mkF m 89 #[.val (.int u0), .val (.int u1), .val (.int u2), .val (.int u3), .val (.int u4), .val (.int (4 : Int32)), .val (.ref b1), .val (.ref b6)] [(.ref b6)])) (fun tt kk => ?_) ?_
    · show Steps p.tables e below (T90.setTop (mkF m 87 #[.val (.int u0), .val (.int u1), .val (.int u2), .val (.int u3), .val (.int u4), .val (.int (4 : Int32)), .val (.ref b1), .val (.ref b6)] [])) tt
      refine XS.aload X90.here hx rfl (hb hby at_87) rfl rfl ?_
      exact kk
    have f91 : n0 ≤ T90.heap.size := (Nat.le_trans f89 K90.1)
    have f93 : Exa Z T90.heap b6 "com/example/enodia/enodia/routing/RouteBuffer" := (f88.keep K90)
    obtain ⟨cq92, kq92, q92a, q92b, q92c⟩ := isOf hZ rfl f93
    obtain ⟨_, _, ⟨T92, L92, k92, n92⟩, -, X92, ⟨Lc92, hQ92, l92, y92, z92⟩, st92⟩ := X90.virtualBack hx (y := (⟨"com/example/enodia/enodia/routing/RouteBuffer", "reverse", "()V"⟩ : MethodName)) (z := (⟨"com/example/enodia/enodia/routing/RouteBuffer", "reverse", "()V"⟩ : MethodName)) hown (mvT hZ (hw _ (mw 13 rfl))) (mvT hZ (hw _ (mw 14 rfl))) (notFace_of_selects (args := #[]) (mvT hZ (hw _ (mw 16 rfl)))) (mvT hZ (hw _ (mw 16 rfl))) (mvT hZ (hw _ (mw 15 rfl))) (by decide) (backOf (W := 0) (rmR4 l Z a0 hw [] b6 vb_9 u1 u2 u3 u4 T90.heap n0 f91 P90_0 P90_1 P90_2 g_vb_9 ne_b6_vb_9) hZ (hw _ (mw 17 rfl)) (hw _ (mw 4 rfl)) (by decide) (by decide)) q92a q92c (g := (mkF m 89 #[.val (.int u0), .val (.int u1), .val (.int u2), .val (.int u3), .val (.int u4), .val (.int (4 : Int32)), .val (.ref b1), .val (.ref b6)] [(.ref b6)])) rfl (by rw [hml]; rfl) (Steps.refl _) (argsL := []) (rest := []) (lenOf pd_0 rfl) rfl (by show 2 * 0 + _ ≤ _; exact Nat.le_of_eq rfl) (hb hby at_89) (fun _ _ => ⟨rfl, rfl, (by decide : 3 + 0 ≤ _), (by decide : 23 + 0 ≤ _)⟩)
    dsimp only [Pt.U, Pt.locs, Pt.cells, Pt.slots] at X92 l92 y92 z92 st92 hQ92
    subst l92 y92 z92
    obtain ⟨rfl, N92q, K92, P92_0⟩ := hQ92
    have N92 := Fr.app N90 N92q
    refine Goal.tr (B := T92.setTop (mkF m 92 #[.val (.int u0), .val (.int u1), .val (.int u2), .val (.int u3), .val (.int u4), .val (.int (4 : Int32)), .val (.ref b1), .val (.ref b6)] [])) st92 ?_
    refine Goal.to (B := T92.setTop (mkF m 94 #[.val (.int u0), .val (.int u1), .val (.int u2), .val (.int u3), .val (.int u4), .val (.int (4 : Int32)), .val (.ref b1), .val (.ref b6)] [(.ref b6)])) (fun tt kk => ?_) ?_
    · show Steps p.tables e below (T92.setTop (mkF m 92 #[.val (.int u0), .val (.int u1), .val (.int u2), .val (.int u3), .val (.int u4), .val (.int (4 : Int32)), .val (.ref b1), .val (.ref b6)] [])) tt
      refine XS.aload X92.here hx rfl (hb hby at_92) rfl rfl ?_
      exact kk
    have f94 : Fld Z T92.heap b6 "com/example/enodia/enodia/routing/RouteBuffer" "linkCount" "I" (.int (4 : Int32)) := (P90_0.keep K92 (ninS ne_b6_vb_9 nin0))
    have f95 : n0 ≤ T92.heap.size := (Nat.le_trans f91 K92.1)
    have f97 : Exa Z T92.heap b6 "com/example/enodia/enodia/routing/RouteBuffer" := (f93.keep K92)
    obtain ⟨cq96, kq96, q96a, q96b, q96c⟩ := isOf hZ rfl f97
    obtain ⟨_, _, ⟨T96, L96, k96, n96⟩, -, X96, ⟨Lc96, hQ96, l96, y96, z96⟩, st96⟩ := X92.virtualBack hx (y := (⟨"com/example/enodia/enodia/routing/RouteBuffer", "getLinkCount", "()I"⟩ : MethodName)) (z := (⟨"com/example/enodia/enodia/routing/RouteBuffer", "getLinkCount", "()I"⟩ : MethodName)) hown (mvT hZ (hw _ (mw 20 rfl))) (mvT hZ (hw _ (mw 21 rfl))) (notFace_of_selects (args := #[]) (mvT hZ (hw _ (mw 23 rfl)))) (mvT hZ (hw _ (mw 23 rfl))) (mvT hZ (hw _ (mw 22 rfl))) (by decide) (backOf (W := 0) (rmC l Z a0 hw [] b6 (4 : Int32) T92.heap n0 f95 f94) hZ (hw _ (mw 24 rfl)) (hw _ (mw 4 rfl)) (by decide) (by decide)) q96a q96c (g := (mkF m 94 #[.val (.int u0), .val (.int u1), .val (.int u2), .val (.int u3), .val (.int u4), .val (.int (4 : Int32)), .val (.ref b1), .val (.ref b6)] [(.ref b6)])) rfl (by rw [hml]; rfl) (Steps.refl _) (argsL := []) (rest := []) (lenOf pd_1 rfl) rfl (by show 2 * 0 + _ ≤ _; exact Nat.le_of_eq rfl) (hb hby at_94) (fun _ _ => ⟨rfl, rfl, (by decide : 3 + 0 ≤ _), (by decide : 23 + 0 ≤ _)⟩)
    dsimp only [Pt.U, Pt.locs, Pt.cells, Pt.slots] at X96 l96 y96 z96 st96 hQ96
    subst l96 y96 z96
    obtain ⟨rfl, N96q, e96⟩ := hQ96
    have N96 := Fr.app N92 N96q
    refine Goal.tr (B := T96.setTop (mkF m 97 #[.val (.int u0), .val (.int u1), .val (.int u2), .val (.int u3), .val (.int u4), .val (.int (4 : Int32)), .val (.ref b1), .val (.ref b6)] [(.int (4 : Int32))])) st96 ?_
    refine Goal.to (B := T96.setTop (mkF m 111 #[.val (.int u0), .val (.int u1), .val (.int u2), .val (.int u3), .val (.int u4), .val (.int (4 : Int32)), .val (.ref b1), .val (.ref b6)] [(.int (0 : Int32)), (.int (4 : Int32)), (.ref b1), (.ref b6)])) (fun tt kk => ?_) ?_
    · show Steps p.tables e below (T96.setTop (mkF m 97 #[.val (.int u0), .val (.int u1), .val (.int u2), .val (.int u3), .val (.int u4), .val (.int (4 : Int32)), .val (.ref b1), .val (.ref b6)] [(.int (4 : Int32))])) tt
      refine XS.iload X96.here hx rfl (hb hby at_97) rfl ?_
      show Steps p.tables e below (T96.setTop (mkF m 99 #[.val (.int u0), .val (.int u1), .val (.int u2), .val (.int u3), .val (.int u4), .val (.int (4 : Int32)), .val (.ref b1), .val (.ref b6)] [(.int (4 : Int32)), (.int (4 : Int32))])) tt
      refine XS.icmpYes X96.here hx rfl (pc0 := 99) (pc' := 104) rfl (hb hby at_99) rfl (teq (rfl : (4 : Int32) = (4 : Int32))).1 (by decide) (by decide) ?_
      show Steps p.tables e below (T96.setTop (mkF m 104 #[.val (.int u0), .val (.int u1), .val (.int u2), .val (.int u3), .val (.int u4), .val (.int (4 : Int32)), .val (.ref b1), .val (.ref b6)] [])) tt
      refine XS.aload X96.here hx rfl (hb hby at_104) rfl rfl ?_
      show Steps p.tables e below (T96.setTop (mkF m 106 #[.val (.int u0), .val (.int u1), .val (.int u2), .val (.int u3), .val (.int u4), .val (.int (4 : Int32)), .val (.ref b1), .val (.ref b6)] [(.ref b6)])) tt
      refine XS.aload X96.here hx rfl (hb hby at_106) rfl rfl ?_
      show Steps p.tables e below (T96.setTop (mkF m 108 #[.val (.int u0), .val (.int u1), .val (.int u2), .val (.int u3), .val (.int u4), .val (.int (4 : Int32)), .val (.ref b1), .val (.ref b6)] [(.ref b1), (.ref b6)])) tt
      refine XS.iload X96.here hx rfl (hb hby at_108) rfl ?_
      show Steps p.tables e below (T96.setTop (mkF m 110 #[.val (.int u0), .val (.int u1), .val (.int u2), .val (.int u3), .val (.int u4), .val (.int (4 : Int32)), .val (.ref b1), .val (.ref b6)] [(.int (4 : Int32)), (.ref b1), (.ref b6)])) tt
      refine XS.iconst X96.here hx rfl (hb hby at_110) ?_
      exact kk
    have f98 : Fld Z T92.heap b6 "com/example/enodia/enodia/routing/RouteBuffer" "links" "[I" (.ref vb_9) := (P90_1.keep K92 (ninS ne_b6_vb_9 nin0))
    have f99 : Ary Z T92.heap b1 .int [(.int u1), (.int u2), (.int u3), (.int u4)] := ((((((f10.keep K9 (ninS ne_b1_b6 nin0)).keep K81 (ninS ne_b1_b6 (ninS ne_b1_vb_9 nin0))).keep K84 (ninS ne_b1_b6 (ninS ne_b1_vb_9 nin0))).keep K87 (ninS ne_b1_b6 (ninS ne_b1_vb_9 nin0))).keep K90 (ninS ne_b1_b6 (ninS ne_b1_vb_9 nin0))).keep K92 (ninS ne_b1_vb_9 nin0))
    obtain ⟨_, _, ⟨T100, L100, k100, n100⟩, -, X100, ⟨Lc100, hQ100, l100, y100, z100⟩, st100⟩ := Jvm.LawKit.callS X96 hx (y := (⟨"com/example/enodia/enodia/routing/RouteBufferReversePinLaw", "at", "(Lcom/example/enodia/enodia/routing/RouteBuffer;[III)Z"⟩ : MethodName)) hown (mvT hZ (hw _ (mw 25 rfl))) (mvT hZ (hw _ (mw 26 rfl))) (mvT hZ (hw _ (mw 27 rfl))) (mvT hZ (hw _ (mw 28 rfl))) (by decide) (backOf (W := 0) (rmT4_0 l Z a0 hw [] b6 vb_9 b1 u4 u3 u2 u1 u1 u2 u3 T92.heap n0 f95 f97 f94 f98 P92_0 f99) hZ (hw _ (mw 28 rfl)) (hw _ (mw 27 rfl)) (by decide) (by decide)) (g := (mkF m 111 #[.val (.int u0), .val (.int u1), .val (.int u2), .val (.int u3), .val (.int u4), .val (.int (4 : Int32)), .val (.ref b1), .val (.ref b6)] [(.int (0 : Int32)), (.int (4 : Int32)), (.ref b1), (.ref b6)])) rfl (by rw [hml]; rfl) (argsL := [(.ref b6), (.ref b1), (.int (4 : Int32)), (.int (0 : Int32))]) (rest := []) (lenOf pd_2 rfl) rfl (by show 2 * 0 + _ ≤ _; exact Nat.le_of_eq rfl) (hb hby at_111) (fun _ _ => ⟨rfl, e96, (by decide : 3 + 0 ≤ _), (by decide : 23 + 0 ≤ _)⟩)
    dsimp only [Pt.U, Pt.locs, Pt.cells, Pt.slots] at X100 l100 y100 z100 st100 hQ100
    subst l100 y100 z100
    obtain ⟨rfl, N100q, e100⟩ := hQ100
    have N100 := Fr.app N96 N100q
    refine Goal.to (B := T100.setTop (mkF m 114 #[.val (.int u0), .val (.int u1), .val (.int u2), .val (.int u3), .val (.int u4), .val (.int (4 : Int32)), .val (.ref b1), .val (.ref b6)] [(.int (1 : Int32))])) st100 ?_
    refine Goal.to (B := T100.setTop (mkF m 124 #[.val (.int u0), .val (.int u1), .val (.int u2), .val (.int u3), .val (.int u4), .val (.int (4 : Int32)), .val (.ref b1), .val (.ref b6)] [(.int (1 : Int32)), (.int (4 : Int32)), (.ref b1), (.ref b6)])) (fun tt kk => ?_) ?_
    · show Steps p.tables e below (T100.setTop (mkF m 114 #[.val (.int u0), .val (.int u1), .val (.int u2), .val (.int u3), .val (.int u4), .val (.int (4 : Int32)), .val (.ref b1), .val (.ref b6)] [(.int (1 : Int32))])) tt
      refine XS.ifNo X100.here hx rfl (hb hby at_114) rfl ((if0 _ _).trans (feq ((by decide) : ¬ ((1 : Int32) = (0 : Int32)))).1) ?_
      show Steps p.tables e below (T100.setTop (mkF m 117 #[.val (.int u0), .val (.int u1), .val (.int u2), .val (.int u3), .val (.int u4), .val (.int (4 : Int32)), .val (.ref b1), .val (.ref b6)] [])) tt
      refine XS.aload X100.here hx rfl (hb hby at_117) rfl rfl ?_
      show Steps p.tables e below (T100.setTop (mkF m 119 #[.val (.int u0), .val (.int u1), .val (.int u2), .val (.int u3), .val (.int u4), .val (.int (4 : Int32)), .val (.ref b1), .val (.ref b6)] [(.ref b6)])) tt
      refine XS.aload X100.here hx rfl (hb hby at_119) rfl rfl ?_
      show Steps p.tables e below (T100.setTop (mkF m 121 #[.val (.int u0), .val (.int u1), .val (.int u2), .val (.int u3), .val (.int u4), .val (.int (4 : Int32)), .val (.ref b1), .val (.ref b6)] [(.ref b1), (.ref b6)])) tt
      refine XS.iload X100.here hx rfl (hb hby at_121) rfl ?_
      show Steps p.tables e below (T100.setTop (mkF m 123 #[.val (.int u0), .val (.int u1), .val (.int u2), .val (.int u3), .val (.int u4), .val (.int (4 : Int32)), .val (.ref b1), .val (.ref b6)] [(.int (4 : Int32)), (.ref b1), (.ref b6)])) tt
      refine XS.iconst X100.here hx rfl (hb hby at_123) ?_
      exact kk
    obtain ⟨_, _, ⟨T101, L101, k101, n101⟩, -, X101, ⟨Lc101, hQ101, l101, y101, z101⟩, st101⟩ := Jvm.LawKit.callS X100 hx (y := (⟨"com/example/enodia/enodia/routing/RouteBufferReversePinLaw", "at", "(Lcom/example/enodia/enodia/routing/RouteBuffer;[III)Z"⟩ : MethodName)) hown (mvT hZ (hw _ (mw 25 rfl))) (mvT hZ (hw _ (mw 26 rfl))) (mvT hZ (hw _ (mw 27 rfl))) (mvT hZ (hw _ (mw 28 rfl))) (by decide) (backOf (W := 0) (rmT4_1 l Z a0 hw [] b6 vb_9 b1 u4 u3 u2 u1 u1 u2 u4 T92.heap n0 f95 f97 f94 f98 P92_0 f99) hZ (hw _ (mw 28 rfl)) (hw _ (mw 27 rfl)) (by decide) (by decide)) (g := (mkF m 124 #[.val (.int u0), .val (.int u1), .val (.int u2), .val (.int u3), .val (.int u4), .val (.int (4 : Int32)), .val (.ref b1), .val (.ref b6)] [(.int (1 : Int32)), (.int (4 : Int32)), (.ref b1), (.ref b6)])) rfl (by rw [hml]; rfl) (argsL := [(.ref b6), (.ref b1), (.int (4 : Int32)), (.int (1 : Int32))]) (rest := []) (lenOf pd_2 rfl) rfl (by show 2 * 0 + _ ≤ _; exact Nat.le_of_eq rfl) (hb hby at_124) (fun _ _ => ⟨rfl, e100, (by decide : 3 + 0 ≤ _), (by decide : 23 + 0 ≤ _)⟩)
    dsimp only [Pt.U, Pt.locs, Pt.cells, Pt.slots] at X101 l101 y101 z101 st101 hQ101
    subst l101 y101 z101
    obtain ⟨rfl, N101q, e101⟩ := hQ101
    have N101 := Fr.app N100 N101q
    refine Goal.to (B := T101.setTop (mkF m 127 #[.val (.int u0), .val (.int u1), .val (.int u2), .val (.int u3), .val (.int u4), .val (.int (4 : Int32)), .val (.ref b1), .val (.ref b6)] [(.int (1 : Int32))])) st101 ?_
    refine Goal.to (B := T101.setTop (mkF m 137 #[.val (.int u0), .val (.int u1), .val (.int u2), .val (.int u3), .val (.int u4), .val (.int (4 : Int32)), .val (.ref b1), .val (.ref b6)] [(.int (2 : Int32)), (.int (4 : Int32)), (.ref b1), (.ref b6)])) (fun tt kk => ?_) ?_
    · show Steps p.tables e below (T101.setTop (mkF m 127 #[.val (.int u0), .val (.int u1), .val (.int u2), .val (.int u3), .val (.int u4), .val (.int (4 : Int32)), .val (.ref b1), .val (.ref b6)] [(.int (1 : Int32))])) tt
      refine XS.ifNo X101.here hx rfl (hb hby at_127) rfl ((if0 _ _).trans (feq ((by decide) : ¬ ((1 : Int32) = (0 : Int32)))).1) ?_
      show Steps p.tables e below (T101.setTop (mkF m 130 #[.val (.int u0), .val (.int u1), .val (.int u2), .val (.int u3), .val (.int u4), .val (.int (4 : Int32)), .val (.ref b1), .val (.ref b6)] [])) tt
      refine XS.aload X101.here hx rfl (hb hby at_130) rfl rfl ?_
      show Steps p.tables e below (T101.setTop (mkF m 132 #[.val (.int u0), .val (.int u1), .val (.int u2), .val (.int u3), .val (.int u4), .val (.int (4 : Int32)), .val (.ref b1), .val (.ref b6)] [(.ref b6)])) tt
      refine XS.aload X101.here hx rfl (hb hby at_132) rfl rfl ?_
      show Steps p.tables e below (T101.setTop (mkF m 134 #[.val (.int u0), .val (.int u1), .val (.int u2), .val (.int u3), .val (.int u4), .val (.int (4 : Int32)), .val (.ref b1), .val (.ref b6)] [(.ref b1), (.ref b6)])) tt
      refine XS.iload X101.here hx rfl (hb hby at_134) rfl ?_
      show Steps p.tables e below (T101.setTop (mkF m 136 #[.val (.int u0), .val (.int u1), .val (.int u2), .val (.int u3), .val (.int u4), .val (.int (4 : Int32)), .val (.ref b1), .val (.ref b6)] [(.int (4 : Int32)), (.ref b1), (.ref b6)])) tt
      refine XS.iconst X101.here hx rfl (hb hby at_136) ?_
      exact kk
    obtain ⟨_, _, ⟨T102, L102, k102, n102⟩, -, X102, ⟨Lc102, hQ102, l102, y102, z102⟩, st102⟩ := Jvm.LawKit.callS X101 hx (y := (⟨"com/example/enodia/enodia/routing/RouteBufferReversePinLaw", "at", "(Lcom/example/enodia/enodia/routing/RouteBuffer;[III)Z"⟩ : MethodName)) hown (mvT hZ (hw _ (mw 25 rfl))) (mvT hZ (hw _ (mw 26 rfl))) (mvT hZ (hw _ (mw 27 rfl))) (mvT hZ (hw _ (mw 28 rfl))) (by decide) (backOf (W := 0) (rmT4_2 l Z a0 hw [] b6 vb_9 b1 u4 u3 u2 u1 u1 u3 u4 T92.heap n0 f95 f97 f94 f98 P92_0 f99) hZ (hw _ (mw 28 rfl)) (hw _ (mw 27 rfl)) (by decide) (by decide)) (g := (mkF m 137 #[.val (.int u0), .val (.int u1), .val (.int u2), .val (.int u3), .val (.int u4), .val (.int (4 : Int32)), .val (.ref b1), .val (.ref b6)] [(.int (2 : Int32)), (.int (4 : Int32)), (.ref b1), (.ref b6)])) rfl (by rw [hml]; rfl) (argsL := [(.ref b6), (.ref b1), (.int (4 : Int32)), (.int (2 : Int32))]) (rest := []) (lenOf pd_2 rfl) rfl (by show 2 * 0 + _ ≤ _; exact Nat.le_of_eq rfl) (hb hby at_137) (fun _ _ => ⟨rfl, e101, (by decide : 3 + 0 ≤ _), (by decide : 23 + 0 ≤ _)⟩)
    dsimp only [Pt.U, Pt.locs, Pt.cells, Pt.slots] at X102 l102 y102 z102 st102 hQ102
    subst l102 y102 z102
    obtain ⟨rfl, N102q, e102⟩ := hQ102
    have N102 := Fr.app N101 N102q
    refine Goal.to (B := T102.setTop (mkF m 140 #[.val (.int u0), .val (.int u1), .val (.int u2), .val (.int u3), .val (.int u4), .val (.int (4 : Int32)), .val (.ref b1), .val (.ref b6)] [(.int (1 : Int32))])) st102 ?_
    refine Goal.to (B := T102.setTop (mkF m 150 #[.val (.int u0), .val (.int u1), .val (.int u2), .val (.int u3), .val (.int u4), .val (.int (4 : Int32)), .val (.ref b1), .val (.ref b6)] [(.int (3 : Int32)), (.int (4 : Int32)), (.ref b1), (.ref b6)])) (fun tt kk => ?_) ?_
    · show Steps p.tables e below (T102.setTop (mkF m 140 #[.val (.int u0), .val (.int u1), .val (.int u2), .val (.int u3), .val (.int u4), .val (.int (4 : Int32)), .val (.ref b1), .val (.ref b6)] [(.int (1 : Int32))])) tt
      refine XS.ifNo X102.here hx rfl (hb hby at_140) rfl ((if0 _ _).trans (feq ((by decide) : ¬ ((1 : Int32) = (0 : Int32)))).1) ?_
      show Steps p.tables e below (T102.setTop (mkF m 143 #[.val (.int u0), .val (.int u1), .val (.int u2), .val (.int u3), .val (.int u4), .val (.int (4 : Int32)), .val (.ref b1), .val (.ref b6)] [])) tt
      refine XS.aload X102.here hx rfl (hb hby at_143) rfl rfl ?_
      show Steps p.tables e below (T102.setTop (mkF m 145 #[.val (.int u0), .val (.int u1), .val (.int u2), .val (.int u3), .val (.int u4), .val (.int (4 : Int32)), .val (.ref b1), .val (.ref b6)] [(.ref b6)])) tt
      refine XS.aload X102.here hx rfl (hb hby at_145) rfl rfl ?_
      show Steps p.tables e below (T102.setTop (mkF m 147 #[.val (.int u0), .val (.int u1), .val (.int u2), .val (.int u3), .val (.int u4), .val (.int (4 : Int32)), .val (.ref b1), .val (.ref b6)] [(.ref b1), (.ref b6)])) tt
      refine XS.iload X102.here hx rfl (hb hby at_147) rfl ?_
      show Steps p.tables e below (T102.setTop (mkF m 149 #[.val (.int u0), .val (.int u1), .val (.int u2), .val (.int u3), .val (.int u4), .val (.int (4 : Int32)), .val (.ref b1), .val (.ref b6)] [(.int (4 : Int32)), (.ref b1), (.ref b6)])) tt
      refine XS.iconst X102.here hx rfl (hb hby at_149) ?_
      exact kk
    obtain ⟨_, _, ⟨T103, L103, k103, n103⟩, -, X103, ⟨Lc103, hQ103, l103, y103, z103⟩, st103⟩ := Jvm.LawKit.callS X102 hx (y := (⟨"com/example/enodia/enodia/routing/RouteBufferReversePinLaw", "at", "(Lcom/example/enodia/enodia/routing/RouteBuffer;[III)Z"⟩ : MethodName)) hown (mvT hZ (hw _ (mw 25 rfl))) (mvT hZ (hw _ (mw 26 rfl))) (mvT hZ (hw _ (mw 27 rfl))) (mvT hZ (hw _ (mw 28 rfl))) (by decide) (backOf (W := 0) (rmT4_3 l Z a0 hw [] b6 vb_9 b1 u4 u3 u2 u1 u2 u3 u4 T92.heap n0 f95 f97 f94 f98 P92_0 f99) hZ (hw _ (mw 28 rfl)) (hw _ (mw 27 rfl)) (by decide) (by decide)) (g := (mkF m 150 #[.val (.int u0), .val (.int u1), .val (.int u2), .val (.int u3), .val (.int u4), .val (.int (4 : Int32)), .val (.ref b1), .val (.ref b6)] [(.int (3 : Int32)), (.int (4 : Int32)), (.ref b1), (.ref b6)])) rfl (by rw [hml]; rfl) (argsL := [(.ref b6), (.ref b1), (.int (4 : Int32)), (.int (3 : Int32))]) (rest := []) (lenOf pd_2 rfl) rfl (by show 2 * 0 + _ ≤ _; exact Nat.le_of_eq rfl) (hb hby at_150) (fun _ _ => ⟨rfl, e102, (by decide : 3 + 0 ≤ _), (by decide : 23 + 0 ≤ _)⟩)
    dsimp only [Pt.U, Pt.locs, Pt.cells, Pt.slots] at X103 l103 y103 z103 st103 hQ103
    subst l103 y103 z103
    obtain ⟨rfl, N103q, e103⟩ := hQ103
    have N103 := Fr.app N102 N103q
    refine Goal.to (B := T103.setTop (mkF m 153 #[.val (.int u0), .val (.int u1), .val (.int u2), .val (.int u3), .val (.int u4), .val (.int (4 : Int32)), .val (.ref b1), .val (.ref b6)] [(.int (1 : Int32))])) st103 ?_
    refine Goal.to (B := T103.setTop (mkF m 161 #[.val (.int u0), .val (.int u1), .val (.int u2), .val (.int u3), .val (.int u4), .val (.int (4 : Int32)), .val (.ref b1), .val (.ref b6)] [(.int (1 : Int32))])) (fun tt kk => ?_) ?_
    · show Steps p.tables e below (T103.setTop (mkF m 153 #[.val (.int u0), .val (.int u1), .val (.int u2), .val (.int u3), .val (.int u4), .val (.int (4 : Int32)), .val (.ref b1), .val (.ref b6)] [(.int (1 : Int32))])) tt
      refine XS.ifNo X103.here hx rfl (hb hby at_153) rfl ((if0 _ _).trans (feq ((by decide) : ¬ ((1 : Int32) = (0 : Int32)))).1) ?_
      show Steps p.tables e below (T103.setTop (mkF m 156 #[.val (.int u0), .val (.int u1), .val (.int u2), .val (.int u3), .val (.int u4), .val (.int (4 : Int32)), .val (.ref b1), .val (.ref b6)] [])) tt
      refine XS.iconst X103.here hx rfl (hb hby at_156) ?_
      show Steps p.tables e below (T103.setTop (mkF m 157 #[.val (.int u0), .val (.int u1), .val (.int u2), .val (.int u3), .val (.int u4), .val (.int (4 : Int32)), .val (.ref b1), .val (.ref b6)] [(.int (1 : Int32))])) tt
      refine XS.goto X103.here hx rfl (pc0 := 157) (pc' := 161) rfl (hb hby at_157) (by decide) (by decide) ?_
      exact kk
    exact Goal.retV X103 hx Bd.returns rfl (Or.inl ⟨rfl, Or.inr (Or.inl rfl), _, rfl⟩) (hb hby at_161) hlk e103 ⟨rfl, N103⟩ (by decide) (by decide)
set_option maxRecDepth 65536 in
set_option maxHeartbeats 40000000 in
theorem comes_1 {Post : Tables → Env → Array Value → State → Outcome → State → Prop} (hpost : ∀ tb e args s v u, (limb_1_1.after args s (.returned v) u = true ∧ limb_1_2.after args s (.returned v) u = true ∧ True) → FrameEnd s (.returned v) u (Jvm.fieldLocs frame_1_writes args s ++ Jvm.arrayLocs frame_1_arrays args s ++ Jvm.staticLocs frame_1_statics s) 16 128 → Post tb e args s (.returned v) u) :
    ArmFor flags0 classFile x code maxLocals ret World_1 tables_1 room_1 Calls_1 rest_1 Pre_1 Post := by
  intro l hfl _ _ p e ha hc hk s m args below hf hA hF happ hP
  obtain ⟨hcalls, hrest, hpre⟩ := hP
  obtain ⟨-, -, -, hnamed, -, -, -, hat⟩ := (Spec.applies_iff hf).mp happ
  obtain ⟨hg, hn⟩ := and_e (Cond.before_iff.mp (show (Jvm.Cond.and given_1 narrow_1).before args s = true from hpre))
  obtain ⟨u1, u2⟩ := and_e hg
  obtain ⟨u3, u4⟩ := and_e u2
  obtain ⟨u5, u6⟩ := and_e u4
  obtain ⟨u7, u8⟩ := and_e u6
  obtain ⟨u9, u10⟩ := and_e u8
  obtain ⟨w0, w1, w2, w3, w4, rfl⟩ : ∃ w0 w1 w2 w3 w4 : Value, args = #[w0, w1, w2, w3, w4] := by
    have hs : args.size = 5 := by simpa [Cond.value, given_1] using u1
    obtain ⟨L⟩ := args
    match L, hs with
    | [w0, w1, w2, w3, w4], _ => exact ⟨w0, w1, w2, w3, w4, rfl⟩
  have hw := fun d (hd : d ∈ tables_1) => atoms_spec (ws := Jvm.Cond.code x code maxLocals ret :: tables_1) hat d (List.mem_cons_of_mem _ hd)
  obtain ⟨i0, ei0⟩ := is_v u3
  obtain rfl : w0 = (.int i0) := Option.some.inj ei0
  obtain ⟨i1, ei1⟩ := is_v u5
  obtain rfl : w1 = (.int i1) := Option.some.inj ei1
  obtain ⟨i2, ei2⟩ := is_v u7
  obtain rfl : w2 = (.int i2) := Option.some.inj ei2
  obtain ⟨i3, ei3⟩ := is_v u9
  obtain rfl : w3 = (.int i3) := Option.some.inj ei3
  obtain ⟨i4, ei4⟩ := is_v u10
  obtain rfl : w4 = (.int i4) := Option.some.inj ei4
  obtain ⟨n, o, h1, h2, h3, _, L, rfl, ⟨rfl, N⟩, hq⟩ := rm0 l s _ hw tables_1 i0 i1 i2 i3 i4 s.heap s.heap.size (Nat.le_refl _)  p e ha hc hk s m _ below hf ((Spec.applies_iff_loose hf).mp happ).1 ⟨rfl, State.Warmed39.refl s, rfl⟩ trivial
  refine ⟨n, _, h1, h2, h3, hpost _ _ _ _ _ _ ⟨Cond.after_iff.mpr rfl, Cond.after_iff.mpr (eq_i res_at (Term.int_eval (1)) rfl), trivial⟩ ⟨hq.1, hq.2.1, (hq.2.2.sift fun y hy => Or.inr (N y hy)).mono (by decide) (by decide)⟩⟩
theorem main_1_1 : Claimed_1_1 := comes_1 fun _ _ _ _ _ _ h hF => ⟨h.1, hF⟩
theorem main_1_2 : Claimed_1_2 := comes_1 fun _ _ _ _ _ _ h hF => ⟨h.2.1, hF⟩
end Jvm.Pilot.@@N@@
namespace Jvm.Pilot.@@N@@
open Jvm Jvm.ClassFile Sem Op Lib Jvm.Free Jvm.Stand Jvm.Pilot.@@N@@.Jvm.D
/-! MADE BY PROGRAM (witnessworld.py) out of the Statement's table words and the real class files: 9 classes; the members and pool entries that the words name. The judged class is class 1, her method 2. -/
namespace start1
open Jvm.ClassFile
def u (s : String) : CpInfo := .utf8 (stringToUtf16 s)
/-- a pool by its gaps: so many unusable entries, then the entry; so many at the end -/
def gap : Nat → List CpInfo → List CpInfo
  | 0, r => r
  | n + 1, r => .unusable :: gap n r
def poolList (es : List (Nat × CpInfo)) (last : Nat) : List CpInfo := es.foldr (fun e r => gap e.1 (e.2 :: r)) (gap last [])
def pool (es : List (Nat × CpInfo)) (last : Nat) : Array CpInfo := ⟨poolList es last⟩
def fileOf (pool : Array CpInfo) (this : Nat) (attrs : Array Attribute := #[]) (ms : Array MethodInfo := #[]) (fl : Nat := 33) (sup : Nat := 0) (ifs : Array Nat := #[]) (fds : Array FieldInfo := #[]) : ClassFile where
  minorVersion := 0
  majorVersion := 65
  constantPool := pool
  accessFlags := fl
  thisClass := this
  superClass := sup
  interfaces := ifs
  fields := fds
  methods := ms
  attributes := attrs
def plain (name : String) (sup : Option ClassId) : Class where
  name := name
  kind := .ordinary
  loader := none
  accessFlags := 33
  super := sup
  interfaces := #[]
  cf := none
  fields := #[]
  methods := #[]
  instanceTypes := #[]
  staticTypes := #[]
  resolved := #[]
  callSites := []
  init := .initialized
  statics := none
  mirror := none

def pool0 : Array CpInfo := pool [(5, u "<init>"), (0, u "()V"), (1, .class_ 10), (1, u "java/lang/Object")] 113

def k0c0 : Code := { maxStack := 0, maxLocals := 1, code := object_method_1_code, exceptionTable := #[], attributes := #[] }
def k0m0 : Method := { name := "<init>", desc := "()V", sig := { parameters := [], returnType := none }, accessFlags := 1, code := some k0c0 }
/-- java/lang/Object -/
def k0 : Class := { plain "java/lang/Object" none with
  accessFlags := 33
  interfaces := #[]
  cf := some (fileOf pool0 8 #[] #[{ accessFlags := 1, nameIndex := 5, descriptorIndex := 6, attributes := #[] }] 33 0 #[] #[])
  fields := #[]
  methods := #[k0m0]
  instanceTypes := #[]
  staticTypes := #[]
  resolved := Array.replicate 124 none
  statics := none }

def pool1 : Array CpInfo := pool [(2, .class_ 4), (0, .nameAndType 5 6), (0, u "java/lang/Object"), (0, u "<init>"), (0, u "()V"), (0, .methodref 8 9), (0, .class_ 10), (0, .nameAndType 11 12), (0, u "com/example/enodia/enodia/routing/RouteBuffer"), (0, u "getLink"), (0, u "(I)I"), (0, .integer 2147483647), (0, .methodref 8 3), (0, .methodref 8 16), (0, .nameAndType 17 18), (0, u "add"), (0, u "(I)V"), (0, .methodref 8 20), (0, .nameAndType 21 6), (0, u "reverse"), (0, .methodref 8 23), (0, .nameAndType 24 25), (0, u "getLinkCount"), (0, u "()I"), (0, .methodref 27 28), (0, .class_ 29), (0, .nameAndType 30 31), (0, u "com/example/enodia/enodia/routing/RouteBufferReversePinLaw"), (0, u "at"), (0, u "(Lcom/example/enodia/enodia/routing/RouteBuffer;[III)Z"), (3, u "law"), (0, u "(IIIII)Z")] 4

def k1m0 : Method := { name := "<init>", desc := "()V", sig := { parameters := [], returnType := none }, accessFlags := 2, code := none }
def k1c1 : Code := { maxStack := 4, maxLocals := 4, code := method_2_code, exceptionTable := #[], attributes := #[] }
def k1m1 : Method := { name := "at", desc := "(Lcom/example/enodia/enodia/routing/RouteBuffer;[III)Z", sig := { parameters := [(.object "com/example/enodia/enodia/routing/RouteBuffer"), (.array .int), .int, .int], returnType := some .boolean }, accessFlags := 10, code := some k1c1 }
def k1c2 : Code := { maxStack := 4, maxLocals := 8, code := code, exceptionTable := #[], attributes := #[] }
def k1m2 : Method := { name := "law", desc := "(IIIII)Z", sig := { parameters := [.int, .int, .int, .int, .int], returnType := some .boolean }, accessFlags := 9, code := some k1c2 }
/-- com/example/enodia/enodia/routing/RouteBufferReversePinLaw -/
def k1 : Class := { plain "com/example/enodia/enodia/routing/RouteBufferReversePinLaw" (some 0) with
  accessFlags := 49
  interfaces := #[]
  cf := some (fileOf pool1 27 #[] #[{ accessFlags := 2, nameIndex := 5, descriptorIndex := 6, attributes := #[] }, { accessFlags := 10, nameIndex := 30, descriptorIndex := 31, attributes := #[] }, { accessFlags := 9, nameIndex := 35, descriptorIndex := 36, attributes := #[] }] 49 2 #[] #[])
  fields := #[]
  methods := #[k1m0, k1m1, k1m2]
  instanceTypes := #[]
  staticTypes := #[]
  resolved := Array.replicate 41 none
  statics := none }

def pool2 : Array CpInfo := pool [(1, .methodref 2 3), (0, .class_ 4), (0, .nameAndType 5 6), (0, u "java/lang/Object"), (0, u "<init>"), (0, u "()V"), (0, .fieldref 8 9), (0, .class_ 10), (0, .nameAndType 11 12), (0, u "com/example/enodia/enodia/routing/RouteBuffer"), (0, u "links"), (0, u "[I"), (0, .fieldref 8 14), (0, .nameAndType 15 16), (0, u "linkCount"), (0, u "I"), (11, u "freeFlowTimeS"), (0, u "D"), (8, u "getLinkCount"), (0, u "()I"), (0, u "getLink"), (0, u "(I)I"), (4, u "add"), (0, u "(I)V"), (0, u "reverse")] 19

def k2c0 : Code := { maxStack := 2, maxLocals := 1, code := prog_66_method_1_code, exceptionTable := #[], attributes := #[] }
def k2m0 : Method := { name := "<init>", desc := "()V", sig := { parameters := [], returnType := none }, accessFlags := 1, code := some k2c0 }
def k2c1 : Code := { maxStack := 1, maxLocals := 1, code := prog_66_method_2_code, exceptionTable := #[], attributes := #[] }
def k2m1 : Method := { name := "getLinkCount", desc := "()I", sig := { parameters := [], returnType := some .int }, accessFlags := 1, code := some k2c1 }
def k2c2 : Code := { maxStack := 4, maxLocals := 2, code := prog_66_method_3_code, exceptionTable := #[], attributes := #[] }
def k2m2 : Method := { name := "getLink", desc := "(I)I", sig := { parameters := [.int], returnType := some .int }, accessFlags := 1, code := some k2c2 }
def k2c3 : Code := { maxStack := 4, maxLocals := 2, code := prog_66_method_6_code, exceptionTable := #[], attributes := #[] }
def k2m3 : Method := { name := "add", desc := "(I)V", sig := { parameters := [.int], returnType := none }, accessFlags := 0, code := some k2c3 }
def k2c4 : Code := { maxStack := 4, maxLocals := 4, code := prog_66_method_7_code, exceptionTable := #[], attributes := #[] }
def k2m4 : Method := { name := "reverse", desc := "()V", sig := { parameters := [], returnType := none }, accessFlags := 0, code := some k2c4 }
/-- com/example/enodia/enodia/routing/RouteBuffer -/
def k2 : Class := { plain "com/example/enodia/enodia/routing/RouteBuffer" (some 0) with
  accessFlags := 49
  interfaces := #[]
  cf := some (fileOf pool2 8 #[] #[{ accessFlags := 1, nameIndex := 5, descriptorIndex := 6, attributes := #[] }, { accessFlags := 1, nameIndex := 38, descriptorIndex := 39, attributes := #[] }, { accessFlags := 1, nameIndex := 40, descriptorIndex := 41, attributes := #[] }, { accessFlags := 0, nameIndex := 46, descriptorIndex := 47, attributes := #[] }, { accessFlags := 0, nameIndex := 48, descriptorIndex := 6, attributes := #[] }] 49 2 #[] #[{ accessFlags := 2, nameIndex := 11, descriptorIndex := 12, attributes := #[] }, { accessFlags := 2, nameIndex := 15, descriptorIndex := 16, attributes := #[] }, { accessFlags := 2, nameIndex := 28, descriptorIndex := 29, attributes := #[] }])
  fields := #[{ name := "links", type := (.array .int), accessFlags := 2, slot := 0, constantValue := 0 }, { name := "linkCount", type := .int, accessFlags := 2, slot := 1, constantValue := 0 }, { name := "freeFlowTimeS", type := .double, accessFlags := 2, slot := 2, constantValue := 0 }]
  methods := #[k2m0, k2m1, k2m2, k2m3, k2m4]
  instanceTypes := #[(.array .int), .int, .double]
  staticTypes := #[]
  resolved := Array.replicate 68 none
  statics := none }

def pool3 : Array CpInfo := pool [(1, u "java/lang/Cloneable"), (0, .class_ 1), (0, u "java/lang/Object"), (0, .class_ 3)] 3

/-- java/lang/Cloneable -/
def k3 : Class := { plain "java/lang/Cloneable" (some 0) with
  accessFlags := 1537
  interfaces := #[]
  cf := some (fileOf pool3 2 #[] #[] 1537 4 #[] #[])
  fields := #[]
  methods := #[]
  instanceTypes := #[]
  staticTypes := #[]
  resolved := Array.replicate 8 none
  statics := none }

def pool4 : Array CpInfo := pool [(1, u "java/io/Serializable"), (0, .class_ 1), (0, u "java/lang/Object"), (0, .class_ 3)] 3

/-- java/io/Serializable -/
def k4 : Class := { plain "java/io/Serializable" (some 0) with
  accessFlags := 1537
  interfaces := #[]
  cf := some (fileOf pool4 2 #[] #[] 1537 4 #[] #[])
  fields := #[]
  methods := #[]
  instanceTypes := #[]
  staticTypes := #[]
  resolved := Array.replicate 8 none
  statics := none }

/-- the primitive byte -/
def k5 : Class := { plain "byte" none with kind := .primitive 'B', accessFlags := 0x411 }
/-- [B -/
def k6 : Class := { plain "[B" (some 0) with kind := .array 5 .byte, interfaces := #[3, 4], accessFlags := 1041 }

/-- the primitive int -/
def k7 : Class := { plain "int" none with kind := .primitive 'I', accessFlags := 0x411 }
/-- [I -/
def k8 : Class := { plain "[I" (some 0) with kind := .array 7 .int, interfaces := #[3, 4], accessFlags := 1041 }

def heap : Heap := #[]
def classes : Array Class := #[k0, k1, k2, k3, k4, k5, k6, k7, k8]
def interned : List (Array UInt16 × Addr) := []
def slotsUsed : Nat := 0
def theMethod : MethodId := ⟨1, 2⟩
def args0 : Array Value := #[.int 3, .int 1, .int 2, .int 3, .int 4]
def aboutOver (below : List Frame) : State where
  vm := { classes := classes, interned := interned.toArray }
  heap := heap
  slotsUsed := slotsUsed
  threads := #[{ frames := .invoking theMethod args0 :: below }]
def below0 : List Frame := [.native { method := ⟨0, 0⟩, args := #[] }]
def about1 : State := aboutOver below0
def p0 : Program := .bare "" "" ""
def e0 : Env := launch0.env 0 0 0
theorem w_frames : about1.frames = Frame.invoking theMethod args0 :: below0 := rfl
set_option maxRecDepth 65536 in
theorem w_args : argsFit about1.vm theMethod args0 = true := by decide +kernel
set_option maxRecDepth 65536 in
theorem w_heap : heapFits about1 = true := by decide +kernel
set_option maxRecDepth 65536 in
theorem w_runnable : about1.curStatus? = some .runnable := by decide +kernel
set_option maxRecDepth 65536 in
theorem w_alone : about1.alone = true := by decide +kernel
set_option maxRecDepth 65536 in
theorem w_named : about1.methodNamed? x = some theMethod := by decide +kernel
set_option maxRecDepth 65536 in
theorem w_hears : about1.hears theMethod below0 = true := by decide +kernel
set_option maxRecDepth 65536 in
theorem w_ripe : about1.ripe theMethod args0 below0 = true := by decide +kernel
theorem w_running : about1.status = .running := rfl
set_option maxRecDepth 65536 in
theorem w_room : about1.hasRoom e0.platform room_1 = true :=
  launch0.hasRoom_least _ room_1 (by decide +kernel) (by decide +kernel) (by decide +kernel) (by decide +kernel) (by decide +kernel) (by decide +kernel)
theorem allAtoms_all (ts : List Jvm.Cond) (a : Array Jvm.Value) (st : Jvm.State) : (allAtoms ts).before a st = ts.all (fun c => c.before a st) := by
  induction ts with
  | nil => rfl
  | cons c t ih =>
    show (Jvm.Cond.and c (allAtoms t)).before a st = _
    rw [Jvm.Cond.before_and, ih, List.all_cons]
def words1 : List Jvm.Cond := Jvm.Cond.code x code maxLocals ret :: tables_1
/-- a 'code' word, met by the world's own term for the bytes: nothing is compared byte by byte -/
theorem code_word {y : MethodName} {bytes : ByteArray} {mx : Nat} {rt : Option FieldType} {a : Array Value} {s : State} {m : MethodId} {meth : Method} {c : Code} (h1 : s.methodNamed? y = some m) (h2 : s.vm.method? m = some meth) (h3 : meth.code = some c) (h4 : c.code = bytes)
    (h5 : (c.maxLocals == mx && c.exceptionTable.isEmpty && decide (c.maxStack ≤ mostOperands) && decide (meth.sig.returnType = rt) && !meth.locks && decide (parseMethodDescriptor y.desc = some meth.sig)) = true) : (Jvm.Cond.code y bytes mx rt).before a s = true := by
  simp only [Bool.and_eq_true, beq_iff_eq, Bool.not_eq_true', decide_eq_true_eq] at h5
  obtain ⟨⟨⟨⟨⟨g1, g2⟩, g3⟩, g4⟩, g5⟩, g6⟩ := h5
  simp [Cond.before, Cond.holds, Cond.value, h1, h2, h3, h4, g1, g2, g3, g4, g5, g6]
def isCode : Jvm.Cond → Bool
  | .code _ _ _ _ => true
  | _ => false
theorem all_split {L : List Jvm.Cond} {P : Jvm.Cond → Bool} (h1 : L.all (fun c => isCode c || P c) = true) (h2 : ∀ c ∈ L.filter isCode, P c = true) : L.all P = true := by
  refine List.all_eq_true.mpr fun c hc => ?_
  have h := List.all_eq_true.mp h1 c hc
  rcases Bool.eq_false_or_eq_true (isCode c) with hi | hi
  · exact h2 c (List.mem_filter.mpr ⟨hc, hi⟩)
  · simpa [hi] using h
set_option maxRecDepth 65536 in
theorem w_c0 : (Jvm.Cond.code x code maxLocals ret).before args0 about1 = true := code_word (m := ⟨1, 2⟩) (meth := k1m2) (c := k1c2) (by decide +kernel) rfl rfl rfl (by decide +kernel)
set_option maxRecDepth 65536 in
theorem w_c1 : (Jvm.Cond.code ({ cls := "com/example/enodia/enodia/routing/RouteBuffer", name := "<init>", desc := "()V" } : Jvm.MethodName) prog_66_method_1_code (1 : Nat) (Option.none : Option Jvm.ClassFile.FieldType)).before args0 about1 = true := code_word (m := ⟨2, 0⟩) (meth := k2m0) (c := k2c0) (by decide +kernel) rfl rfl rfl (by decide +kernel)
set_option maxRecDepth 65536 in
theorem w_c2 : (Jvm.Cond.code ({ cls := "java/lang/Object", name := "<init>", desc := "()V" } : Jvm.MethodName) object_method_1_code (1 : Nat) (Option.none : Option Jvm.ClassFile.FieldType)).before args0 about1 = true := code_word (m := ⟨0, 0⟩) (meth := k0m0) (c := k0c0) (by decide +kernel) rfl rfl rfl (by decide +kernel)
set_option maxRecDepth 65536 in
theorem w_c3 : (Jvm.Cond.code ({ cls := "com/example/enodia/enodia/routing/RouteBuffer", name := "reverse", desc := "()V" } : Jvm.MethodName) prog_66_method_7_code (4 : Nat) (Option.none : Option Jvm.ClassFile.FieldType)).before args0 about1 = true := code_word (m := ⟨2, 4⟩) (meth := k2m4) (c := k2c4) (by decide +kernel) rfl rfl rfl (by decide +kernel)
set_option maxRecDepth 65536 in
theorem w_c4 : (Jvm.Cond.code ({ cls := "com/example/enodia/enodia/routing/RouteBuffer", name := "getLinkCount", desc := "()I" } : Jvm.MethodName) prog_66_method_2_code (1 : Nat) (Option.some Jvm.ClassFile.FieldType.int)).before args0 about1 = true := code_word (m := ⟨2, 1⟩) (meth := k2m1) (c := k2c1) (by decide +kernel) rfl rfl rfl (by decide +kernel)
set_option maxRecDepth 65536 in
theorem w_c5 : (Jvm.Cond.code ({ cls := "com/example/enodia/enodia/routing/RouteBufferReversePinLaw", name := "at", desc := "(Lcom/example/enodia/enodia/routing/RouteBuffer;[III)Z" } : Jvm.MethodName) method_2_code (4 : Nat) (Option.some Jvm.ClassFile.FieldType.boolean)).before args0 about1 = true := code_word (m := ⟨1, 1⟩) (meth := k1m1) (c := k1c1) (by decide +kernel) rfl rfl rfl (by decide +kernel)
set_option maxRecDepth 65536 in
theorem w_c6 : (Jvm.Cond.code ({ cls := "com/example/enodia/enodia/routing/RouteBuffer", name := "add", desc := "(I)V" } : Jvm.MethodName) prog_66_method_6_code (2 : Nat) (Option.none : Option Jvm.ClassFile.FieldType)).before args0 about1 = true := code_word (m := ⟨2, 3⟩) (meth := k2m3) (c := k2c3) (by decide +kernel) rfl rfl rfl (by decide +kernel)
set_option maxRecDepth 65536 in
theorem w_c7 : (Jvm.Cond.code ({ cls := "com/example/enodia/enodia/routing/RouteBuffer", name := "getLink", desc := "(I)I" } : Jvm.MethodName) prog_66_method_3_code (2 : Nat) (Option.some Jvm.ClassFile.FieldType.int)).before args0 about1 = true := code_word (m := ⟨2, 2⟩) (meth := k2m2) (c := k2c2) (by decide +kernel) rfl rfl rfl (by decide +kernel)
def codes1 : List Jvm.Cond := [Jvm.Cond.code x code maxLocals ret, Jvm.Cond.code ({ cls := "com/example/enodia/enodia/routing/RouteBuffer", name := "<init>", desc := "()V" } : Jvm.MethodName) prog_66_method_1_code (1 : Nat) (Option.none : Option Jvm.ClassFile.FieldType), Jvm.Cond.code ({ cls := "java/lang/Object", name := "<init>", desc := "()V" } : Jvm.MethodName) object_method_1_code (1 : Nat) (Option.none : Option Jvm.ClassFile.FieldType), Jvm.Cond.code ({ cls := "com/example/enodia/enodia/routing/RouteBuffer", name := "reverse", desc := "()V" } : Jvm.MethodName) prog_66_method_7_code (4 : Nat) (Option.none : Option Jvm.ClassFile.FieldType), Jvm.Cond.code ({ cls := "com/example/enodia/enodia/routing/RouteBuffer", name := "getLinkCount", desc := "()I" } : Jvm.MethodName) prog_66_method_2_code (1 : Nat) (Option.some Jvm.ClassFile.FieldType.int), Jvm.Cond.code ({ cls := "com/example/enodia/enodia/routing/RouteBufferReversePinLaw", name := "at", desc := "(Lcom/example/enodia/enodia/routing/RouteBuffer;[III)Z" } : Jvm.MethodName) method_2_code (4 : Nat) (Option.some Jvm.ClassFile.FieldType.boolean), Jvm.Cond.code ({ cls := "com/example/enodia/enodia/routing/RouteBuffer", name := "add", desc := "(I)V" } : Jvm.MethodName) prog_66_method_6_code (2 : Nat) (Option.none : Option Jvm.ClassFile.FieldType), Jvm.Cond.code ({ cls := "com/example/enodia/enodia/routing/RouteBuffer", name := "getLink", desc := "(I)I" } : Jvm.MethodName) prog_66_method_3_code (2 : Nat) (Option.some Jvm.ClassFile.FieldType.int)]
set_option maxRecDepth 65536 in
theorem codes_eq : words1.filter isCode = codes1 := rfl
theorem w_codes : ∀ c ∈ words1.filter isCode, c.before args0 about1 = true := by
  rw [codes_eq]
  intro c hc
  simp only [codes1, List.mem_cons, List.not_mem_nil, or_false] at hc
  rcases hc with rfl | rfl | rfl | rfl | rfl | rfl | rfl | rfl
  · exact w_c0
  · exact w_c1
  · exact w_c2
  · exact w_c3
  · exact w_c4
  · exact w_c5
  · exact w_c6
  · exact w_c7
set_option maxRecDepth 65536 in
theorem w_t1 : (words1.take 24).all (fun c => isCode c || c.before args0 about1) = true := by decide +kernel
set_option maxRecDepth 65536 in
theorem w_t2 : (words1.drop 24).all (fun c => isCode c || c.before args0 about1) = true := by decide +kernel
theorem w_tables : (allAtoms (Jvm.Cond.code x code maxLocals ret :: tables_1)).before args0 about1 = true := by
  rw [allAtoms_all]
  show words1.all (fun c => c.before args0 about1) = true
  refine all_split ?_ w_codes
  rw [← List.take_append_drop 24 words1, List.all_append, w_t1, w_t2]
  rfl
set_option maxRecDepth 65536 in
theorem w_case : (Jvm.Cond.and given_1 narrow_1).before args0 about1 = true := by decide +kernel
theorem w_applies : (headSpec (Jvm.Cond.code x code maxLocals ret :: tables_1) room_1).applies x e0.platform about1 = true :=
  (Spec.applies_iff w_frames).mpr ⟨w_running, w_runnable, w_alone, w_named, w_hears, w_ripe, w_room, w_tables⟩
theorem atStart : AtStart classFile x code maxLocals ret World_1 tables_1 room_1 Calls_1 rest_1 Pre_1 launch0 p0 e0 about1 theMethod args0 below0 :=
  ⟨lists_1, trivial, launch0.admits_env _ _ _, launch0.least_env, fairChoices_fair.cas, fairChoices_fair.clock, w_frames, w_args, w_heap, w_applies, trivial, trivial, w_case⟩
end start1
theorem witness_1 : WitnessClaimed_1 := ⟨start1.p0, start1.e0, start1.about1, start1.theMethod, start1.args0, start1.below0, start1.atStart⟩
end Jvm.Pilot.@@N@@
