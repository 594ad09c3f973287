import JvmDerived
import JvmDerived.Pilot.@@N@@Statement
import JvmDerived.Pilot.@@N@@Code
set_option linter.unusedVariables false
set_option linter.unusedSimpArgs false
@@BLOCK:NumsL.lean.txt@@
namespace Jvm.RoadKit
open Sem ClassFile Op Lib Jvm.Stand Jvm.Free Jvm.LawKit
section Own
variable {p : Program} {l : Launch} {e : Env} {R : Room} {s : State} {m : MethodId} {args : Array Value} {below : List Frame} {meth : Method} {c : Code} {T : State} {locs : List Loc} {cells slots : Nat} {Z : State} {h h' : Heap} {a b : Addr} {ty : FieldType} {vs : List Value} {cl : Cell} {sl : Nat} {v : Value} {ws : List Addr}
theorem mw {α : Type} {x : α} {L : List α} (i : Nat) (q : L[i]? = some x) : x ∈ L := List.mem_of_getElem? q
/-- from A the body comes to its end, and Q holds there -/
def Goal (p : Program) (e : Env) (below : List Frame) (s : State) (Q : Option Value → Heap → List Loc → Prop) (k n : Nat) (A : State) : Prop :=
  ∃ s₂ o, Steps p.tables e below A s₂ ∧ s₂.status = .running ∧ Ended s₂ below o ∧ ∃ v L, o = .returned v ∧ Q v s₂.heap L ∧ FrameEnd s o s₂ L k n
variable {Q : Option Value → Heap → List Loc → Prop} {k n : Nat} {A B : State}
theorem Goal.to (f : ∀ t, Steps p.tables e below B t → Steps p.tables e below A t) (g : Goal p e below s Q k n B) : Goal p e below s Q k n A := by
  obtain ⟨s₂, o, h1, r⟩ := g
  exact ⟨s₂, o, f _ h1, r⟩
theorem Goal.tr (f : Steps p.tables e below A B) (g : Goal p e below s Q k n B) : Goal p e below s Q k n A := Goal.to (fun t q => f.trans q) g
theorem Goal.retV (X : Stand p l e R s m args below meth c T locs cells slots) (hx : p.tables.exec = Jvm.exec) {pc : Nat} {Ls : Array Slot} {w : Value} {t : FieldType} {i : Instr} {rest : List Value} (hret : meth.sig.returnType = some t) (hn : narrow t w = w)
    (hi : (i = .ireturn ∧ (t = .int ∨ t = .boolean ∨ t = .byte ∨ t = .char ∨ t = .short) ∧ ∃ z, w = .int z) ∨ (i = .lreturn ∧ t = .long ∧ ∃ z, w = .long z) ∨ (i = .dreturn ∧ t = .double ∧ ∃ z, w = .double z) ∨ (i = .freturn ∧ t = .float ∧ ∃ z, w = .float z) ∨ (i = .areturn ∧ t.isReference = true ∧ w.isRef = true))
    (hd : decode c.code pc = .ok (i, 1)) (hlk : meth.locks = false) (eT : T.heap = h) (hq : Q (some w) h locs) (hc : cells ≤ k) (hs : slots ≤ n) : Goal p e below s Q k n (T.setTop (mkF m pc Ls (w :: rest))) := by
  obtain ⟨fs, hr, hrun, hended, hW, hsame⟩ := X.leave (v := some w) (fun h => by rw [hret] at h; cases h) hlk
  refine ⟨_, _, retOut X hx hret hn hi hd hr, hrun, hended, _, _, rfl, ?_, ⟨_, rfl⟩, hW, hsame.mono hc hs⟩
  show Q (some w) T.heap locs
  rw [eT]; exact hq
theorem Goal.retN (X : Stand p l e R s m args below meth c T locs cells slots) (hx : p.tables.exec = Jvm.exec) {pc : Nat} {Ls : Array Slot} (hret : meth.sig.returnType = none)
    (hd : decode c.code pc = .ok (.return_, 1)) (hlk : meth.locks = false) (eT : T.heap = h) (hq : Q none h locs) (hc : cells ≤ k) (hs : slots ≤ n) : Goal p e below s Q k n (T.setTop (mkF m pc Ls [])) := by
  obtain ⟨fs, hr, hrun, hended, hW, hsame⟩ := X.leave (v := none) (fun _ => rfl) hlk
  refine ⟨_, _, X.returnOut hx hret hd hr, hrun, hended, _, _, rfl, ?_, ⟨_, rfl⟩, hW, hsame.mono hc hs⟩
  show Q none T.heap locs
  rw [eT]; exact hq
/-- the same, with the wide end: texts may have been interned -/
def GoalW (p : Program) (e : Env) (below : List Frame) (s : State) (Q : Option Value → Heap → List Loc → Prop) (k n : Nat) (A : State) : Prop :=
  ∃ s₂ o, Steps p.tables e below A s₂ ∧ s₂.status = .running ∧ Ended s₂ below o ∧ ∃ v L, o = .returned v ∧ Q v s₂.heap L ∧ ReturnedEndW s o s₂ L k n
theorem GoalW.to (f : ∀ t, Steps p.tables e below B t → Steps p.tables e below A t) (g : GoalW p e below s Q k n B) : GoalW p e below s Q k n A := by
  obtain ⟨s₂, o, h1, r⟩ := g
  exact ⟨s₂, o, f _ h1, r⟩
theorem GoalW.tr (f : Steps p.tables e below A B) (g : GoalW p e below s Q k n B) : GoalW p e below s Q k n A := GoalW.to (fun t q => f.trans q) g
theorem GoalW.retV {vm0 : Vm} (X : Stand p l e R (s.setVm vm0) m args below meth c T locs cells slots) {k0 : Nat} (hS : s.Since vm0 k0) (hx : p.tables.exec = Jvm.exec) {pc : Nat} {Ls : Array Slot} {w : Value} {t : FieldType} {i : Instr} {rest : List Value} (hret : meth.sig.returnType = some t) (hn : narrow t w = w)
    (hi : (i = .ireturn ∧ (t = .int ∨ t = .boolean ∨ t = .byte ∨ t = .char ∨ t = .short) ∧ ∃ z, w = .int z) ∨ (i = .lreturn ∧ t = .long ∧ ∃ z, w = .long z) ∨ (i = .dreturn ∧ t = .double ∧ ∃ z, w = .double z) ∨ (i = .freturn ∧ t = .float ∧ ∃ z, w = .float z) ∨ (i = .areturn ∧ t.isReference = true ∧ w.isRef = true))
    (hd : decode c.code pc = .ok (i, 1)) (hlk : meth.locks = false) (eT : T.heap = h) (hk : k0 ≤ h.size) (hq : Q (some w) h locs) (hc : cells ≤ k) (hs : slots ≤ n) : GoalW p e below s Q k n (T.setTop (mkF m pc Ls (w :: rest))) := by
  obtain ⟨fs, hr, hrun, hended, e1, e2, e3, e4⟩ := X.leaveW hS (by rw [eT]; exact hk) (v := some w) (fun h => by rw [hret] at h; cases h) hlk
  refine ⟨_, _, retOut X hx hret hn hi hd hr, hrun, hended, _, _, rfl, ?_, e1, e2, e3, e4.mono hc hs⟩
  show Q (some w) T.heap locs
  rw [eT]; exact hq
theorem nar01 {z : Int32} (q : z = 0 ∨ z = 1) : narrow .boolean (.int z) = .int z := by rcases q with rfl | rfl <;> rfl
theorem catV {r : Value} (q : r.isRef = true) : r.category = 1 := by rcases ref_cases q with rfl | ⟨o, rfl⟩ <;> rfl
theorem catR {o : Addr} : (Value.ref o).category = 1 := rfl
theorem catI {z : Int32} : (Value.int z).category = 1 := rfl
theorem catJ {z : Int64} : (Value.long z).category = 2 := rfl
theorem catN : Value.null.category = 1 := rfl
theorem narV {r : Value} {C : String} (q : r.isRef = true) : narrow (.object C) r = r := by rcases ref_cases q with rfl | ⟨o, rfl⟩ <;> rfl
theorem fitV {r : Value} {C : String} (q : r.isRef = true) : fits (.object C) r = true := by rcases ref_cases q with rfl | ⟨o, rfl⟩ <;> rfl
theorem selP {a0 : Array Value} {y : MethodName} {n : Nat} (hZ : Z.Warmed39 s.vm) (hins : (Cond.instantiable y.cls n).before a0 Z = true) (hp : (Cond.privateMethod y).before a0 Z = true) (hi : (Cond.instanceMethod y).before a0 Z = true) (hy : y.cls ≠ "java/lang/invoke/MethodHandle" ∧ y.cls ≠ "java/lang/invoke/VarHandle") : (Cond.selects y.cls y y).before args s = true := by
  obtain ⟨c, k, hc, hk, -, hniab, -, -⟩ := Cond.instantiable_spec (mv (args := args) hZ hins)
  exact selects_self_of_private hc hk (Bool.or_eq_false_iff.mp hniab).1 (Cond.privateMethod_at (mvP (args := args) hZ hp)) (mv hZ hi) hy
theorem Fld.cast {C n d : String} {w : Value} (F : Fld Z h a C n d v) (q : v = w) : Fld Z h a C n d w := q ▸ F
/-- an array of the heap by the whole list of what it holds -/
def Ary (Z : State) (h : Heap) (a : Addr) (ty : FieldType) (vs : List Value) : Prop := ∃ cl : Cell, Arr Z h a cl ty ∧ cl.slots.toList = vs
theorem Ary.cast {ws : List Value} (F : Ary Z h a ty vs) (q : vs = ws) : Ary Z h a ty ws := q ▸ F
theorem Ary.lt (F : Ary Z h a ty vs) : a < h.size := by obtain ⟨cl, A, -⟩ := F; exact A.lt
theorem Ary.ext (F : Ary Z h a ty vs) (E : Ext h h') : Ary Z h' a ty vs := by obtain ⟨cl, A, r⟩ := F; exact ⟨cl, A.ext E, r⟩
theorem Ary.other (F : Ary Z h a ty vs) (W : Wr h h' b sl v) (q : a ≠ b) : Ary Z h' a ty vs := by obtain ⟨cl, A, r⟩ := F; exact ⟨cl, A.other W q, r⟩
theorem Ary.keep (F : Ary Z h a ty vs) (K : Keep h h' ws) (q : a ∉ ws) : Ary Z h' a ty vs := by obtain ⟨cl, A, r⟩ := F; exact ⟨cl, ⟨K.2.1 a cl A.1 q, A.2⟩, r⟩
theorem Ary.new {k : ClassId} {z : Int32} {N : Nat} (A : Arr Z h a (newA k ty z) ty) (hz : z.toNatClampNeg = N) : Ary Z h a ty (List.replicate N (defaultValue ty)) := ⟨_, A, by simp [newA, hz]⟩
theorem Ary.put {j : Nat} {N : Nat} (A : Arr Z h a cl ty) (S : cl.slots.toList = vs) (W : Wr h h' a j v) (q : j = N) : Ary Z h' a ty (vs.set N v) := ⟨_, A.same W, by subst q; simp [Cell.setSlot, S]⟩
theorem sizeA (S : cl.slots.toList = vs) : cl.slots.size = vs.length := by rw [← S]; simp
theorem inA {j : Int32} (S : cl.slots.toList = vs) (q : ¬ j < 0) (r : j.toNatClampNeg < vs.length) : ¬ (j < 0 ∨ cl.slots.size ≤ j.toNatClampNeg) := by rw [sizeA S]; intro u; rcases u with u | u; exact q u; exact absurd r (Nat.not_lt.mpr u)
theorem atA {j : Nat} (S : cl.slots.toList = vs) (q : vs[j]? = some v) : cl.slots[j]? = some v := by rw [← q, ← S]; simp
theorem lenA {z : Int32} (S : cl.slots.toList = vs) (q : vs.length.toInt32 = z) : cl.slots.size.toInt32 = z := by rw [sizeA S]; exact q
/-- a static that stood when the law began, and what it holds -/
def StaN (Z : State) (n0 : Nat) (h : Heap) (C n d : String) (v : Value) : Prop := ∃ (cf i : Nat) (k : Class) (f : Field) (st : Addr) (cell : Cell), Z.fieldFound? C n d = some (cf, k, i, f) ∧ f.isStatic = true ∧ k.init = .initialized ∧ k.statics = some st ∧ h[st]? = some cell ∧ cell.vm.isStatics = true ∧ cell.slots[f.slot]? = some v ∧ st < n0
section StaN
variable {C nm d : String} {n0 : Nat}
theorem StaN.sta (F : StaN Z n0 h C nm d v) : Sta Z h C nm d v := by obtain ⟨cf, i, k, f, st, cell, h1, h2, h3, h4, h5, h6, h7, -⟩ := F; exact ⟨cf, i, k, f, st, cell, h1, h2, h3, h4, h5, h6, h7⟩
theorem Sta.toN (F : Sta Z h C nm d v) : StaN Z h.size h C nm d v := by obtain ⟨cf, i, k, f, st, cell, h1, h2, h3, h4, h5, h6, h7⟩ := F; exact ⟨cf, i, k, f, st, cell, h1, h2, h3, h4, h5, h6, h7, (Array.getElem?_eq_some_iff.mp h5).1⟩
theorem StaN.ext (F : StaN Z n0 h C nm d v) (E : Ext h h') : StaN Z n0 h' C nm d v := by obtain ⟨cf, i, k, f, st, cell, h1, h2, h3, h4, h5, r⟩ := F; exact ⟨cf, i, k, f, st, cell, h1, h2, h3, h4, E.2 _ _ h5, r⟩
theorem StaN.keep (F : StaN Z n0 h C nm d v) (K : Keep h h' ws) (q : ∀ x ∈ ws, n0 ≤ x) : StaN Z n0 h' C nm d v := by
  obtain ⟨cf, i, k, f, st, cell, h1, h2, h3, h4, h5, h6, h7, h8⟩ := F
  exact ⟨cf, i, k, f, st, cell, h1, h2, h3, h4, K.2.1 _ _ h5 (fun z => absurd h8 (Nat.not_lt.mpr (q _ z))), h6, h7, h8⟩
theorem StaN.wr {w : Value} (F : StaN Z n0 h C nm d v) (W : Wr h h' a sl w) : StaN Z n0 h' C nm d v := by
  obtain ⟨cf, i, k, f, st, cell, h1, h2, h3, h4, h5, h6, h7, h8⟩ := F
  obtain ⟨c', e1, -, -, -, e5, -, e7⟩ := wr_at W h5
  have ne : st ≠ a := fun e => by rw [(e7 e).2.2] at h6; cases h6
  exact ⟨cf, i, k, f, st, cell, h1, h2, h3, h4, by rw [← e5 ne]; exact e1, h6, h7, h8⟩
end StaN
/-- what may lie in an array of objects of class C (of arrays of class C) -/
def OvrO (Z : State) (h : Heap) (a : Addr) (C : String) : Prop := ∃ cl : Cell, h[a]? = some cl ∧ Ovr Z cl.cls C
theorem OvrO.ext {C : String} (F : OvrO Z h a C) (E : Ext h h') : OvrO Z h' a C := by obtain ⟨cl, h1, r⟩ := F; exact ⟨cl, E.2 _ _ h1, r⟩
theorem OvrO.wr {C : String} (F : OvrO Z h a C) (W : Wr h h' b sl v) : OvrO Z h' a C := by obtain ⟨cl, h1, r⟩ := F; obtain ⟨c', e1, e2, -⟩ := wr_at W h1; exact ⟨c', e1, by rw [e2]; exact r⟩
theorem OvrO.keep {C : String} (F : OvrO Z h a C) (K : Keep h h' ws) : OvrO Z h' a C := by obtain ⟨cl, h1, r⟩ := F; obtain ⟨c', e1, e2, -⟩ := K.2.2 _ _ h1; exact ⟨c', e1, by rw [e2]; exact r⟩
theorem stoO {C : String} {y : Addr} (A : Arr Z h a cl ty) (O : OvrO Z h a C) (I : Ins Z h y C true) : Sto Z h a (.ref y) := by
  obtain ⟨c', h1, r⟩ := O
  cases A.1.symm.trans h1
  exact Sto.of A r I
def OvrB (Z : State) (h : Heap) (a : Addr) (C : String) : Prop := ∃ (cl : Cell) (t : FieldType), h[a]? = some cl ∧ OvrA Z cl.cls t C
theorem OvrB.ext {C : String} (F : OvrB Z h a C) (E : Ext h h') : OvrB Z h' a C := by obtain ⟨cl, t, h1, r⟩ := F; exact ⟨cl, t, E.2 _ _ h1, r⟩
theorem OvrB.wr {C : String} (F : OvrB Z h a C) (W : Wr h h' b sl v) : OvrB Z h' a C := by obtain ⟨cl, t, h1, r⟩ := F; obtain ⟨c', e1, e2, -⟩ := wr_at W h1; exact ⟨c', t, e1, by rw [e2]; exact r⟩
theorem OvrB.keep {C : String} (F : OvrB Z h a C) (K : Keep h h' ws) : OvrB Z h' a C := by obtain ⟨cl, t, h1, r⟩ := F; obtain ⟨c', e1, e2, -⟩ := K.2.2 _ _ h1; exact ⟨c', t, e1, by rw [e2]; exact r⟩
theorem stoB {C : String} {y : Addr} (A : Arr Z h a cl ty) (O : OvrB Z h a C) (I : Ins Z h y C true) : Sto Z h a (.ref y) := by
  obtain ⟨c', t, h1, r⟩ := O
  cases A.1.symm.trans h1
  exact Sto.ofVA A rfl r I
theorem fits_nil : ∀ w ∈ ([] : List Value), fits ty w = true := fun _ q => nomatch q
theorem fits_cons (q : fits ty v = true) (r : ∀ w ∈ vs, fits ty w = true) : ∀ w ∈ v :: vs, fits ty w = true := fun w z => (List.mem_cons.mp z).elim (fun u => u ▸ q) (r w)
theorem Ary.arv {dv : Value} {z : Int32} (F : Ary Z h a ty vs) (hz : z.toNatClampNeg = vs.length) (h0 : ¬ z < 0) (hf : ∀ w ∈ vs, fits ty w = true) : ∃ k, Arv Z h a k ty z vs dv := by
  obtain ⟨cl, A, S⟩ := F
  have sz : cl.slots.size = vs.length := sizeA S
  refine ⟨_, cl, A, rfl, sz.trans hz.symm, h0, fun i hi => ?_, fun i hi => ?_⟩
  · rw [sz] at hi
    refine atA S ?_
    rw [List.getD_eq_getElem?_getD, List.getElem?_eq_getElem hi]; rfl
  · rw [sz] at hi
    rw [List.getD_eq_getElem?_getD, List.getElem?_eq_getElem hi]
    exact hf _ (List.getElem_mem hi)
theorem Arv.ary {k : ClassId} {z : Int32} {dv : Value} (F : Arv Z h a k ty z vs dv) (hz : z.toNatClampNeg = vs.length) : Ary Z h a ty vs := by
  obtain ⟨cl, A, -, S, -, H, -⟩ := F
  refine ⟨cl, A, List.ext_getElem? fun i => ?_⟩
  by_cases hi : i < cl.slots.size
  · have q := H i hi
    have hv : i < vs.length := by omega
    rw [List.getD_eq_getElem?_getD, List.getElem?_eq_getElem hv] at q
    rw [List.getElem?_eq_getElem hv, Array.getElem?_toList]; exact q
  · rw [List.getElem?_eq_none (by simp; omega), List.getElem?_eq_none (by omega)]
theorem storeV {Ls : Array Slot} {i : Nat} {r : Value} {o : Slot} {l' : Array Slot} (q : r.isRef = true) (ho : o = .unset ∨ ∃ w, o = .val w ∧ w.category = 1) (hold : Ls[i]? = some o := by rfl) (hl : Ls.setIfInBounds i (.val r) = l' := by rfl) : storeLocals Ls i r = some l' := by
  rw [← hl]; exact XS.store1 hold ho (catV q)
end Own
end Jvm.RoadKit
namespace Jvm.Pilot.@@N@@
open Jvm Jvm.ClassFile Sem Op Lib Jvm.Free Jvm.Stand Jvm.LawKit Jvm.RoadKit Bundle Jvm.Pilot.@@N@@.Jvm.D
theorem own_n {u n : Int32} (h : n = ((u &&& (2147483647 : Int32)) % (3 : Int32))) : n = 0 ∨ n = 1 ∨ n = 2 := by
  have q := Jvm.Kit.i32_mask u 2147483647 (k := 31) (by decide) (by decide)
  have r := Jvm.Kit.i32_rem_nonneg (x := u &&& 2147483647) (y := 3) (by omega)
  rw [← h, show (3 : Int32).toInt = 3 from rfl] at r
  have s : n.toInt = 0 ∨ n.toInt = 1 ∨ n.toInt = 2 := by omega
  rcases s with s | s | s
  · have s := Int32.toInt_inj.mp (show n.toInt = (0 : Int32).toInt from s); exact Or.inl s
  · have s := Int32.toInt_inj.mp (show n.toInt = (1 : Int32).toInt from s); exact Or.inr (Or.inl s)
  · have s := Int32.toInt_inj.mp (show n.toInt = (2 : Int32).toInt from s); exact Or.inr (Or.inr s)
theorem own_c {u n : Int32} (h : n = (u &&& (1 : Int32))) : n = 0 ∨ n = 1 := by rw [h]; exact and_one u
theorem own_ord {Z : State} {args : Array Value} {t : Term} {C n d : String} {k : Int32} {x : Addr} (ht : t.eval args Z none [] Z = some (.ref x)) (h : (Cond.eq (Term.field t C n d) (Term.int k)).value args Z none Z [] = some true) : Fld Z Z.heap x C n d (.int k) := by
  obtain ⟨v, w, h1, h2, -⟩ := cmp_v (Or.inl h)
  have e := (fld_at (C := C) (n := n) (dd := d) ht).symm.trans h1
  have h3 : (Term.int k).eval args Z none [] Z = some (.int k) := Term.int_eval k
  cases h2.symm.trans h3
  rcases v with v | v | v | v | v | v | v
  all_goals first
    | (simp [Cond.value, h1, h3] at h; subst h; exact Fld.start e)
    | (simp [Cond.value, h1, h3] at h; done)
theorem ef_1 (m : MethodId) (x0 : Addr) (x1 : Addr)  : entryFrame m #[(.ref x0), (.ref x1)] 2 = mkF m 0 #[.val (.ref x0), .val (.ref x1)] [] := by first | (simp [entryFrame, mkF, argsToLocals, Value.category]; done) | rfl
theorem pn_1 : plainName "com/example/tavernlex/tavernlex/Container" = true := by first | (simp [plainName, overriddenIn]; done) | decide +kernel
theorem d1_0 : decode prog_10_method_6_code 0 = .ok (.aload_n 0, 1) := by decide +kernel
theorem d1_1 : decode prog_10_method_6_code 1 = .ok (.getstatic 3, 3) := by decide +kernel
theorem d1_4 : decode prog_10_method_6_code 4 = .ok (.if_acmp .eq 10, 3) := by decide +kernel
theorem d1_14 : decode prog_10_method_6_code 14 = .ok (.iconst 1, 1) := by decide +kernel
theorem d1_15 : decode prog_10_method_6_code 15 = .ok (.goto 4, 3) := by decide +kernel
theorem d1_19 : decode prog_10_method_6_code 19 = .ok (.ireturn, 1) := by decide +kernel
def Qhp (Z : State) (aP : Addr) (vb : Addr) (h0 : Heap) (n0 : Nat) (v : Option Value) (h : Heap) (L : List Loc) : Prop := v = some (.int (1 : Int32)) ∧ Fr n0 L ∧ h = h0
set_option maxRecDepth 65536 in
set_option maxHeartbeats 40000000 in
theorem rmhp (l : Launch) (Z : State) (a0 : Array Value) (hw : ∀ d ∈ tables_1, d.before a0 Z = true) (ws : List Jvm.Cond) (aP : Addr) (vb : Addr) (h0 : Heap) (n0 : Nat) (Z0 : n0 ≤ h0.size) (S_PACKAGE : StaN Z n0 h0 "com/example/tavernlex/tavernlex/Container" "PACKAGE" "Lcom/example/tavernlex/tavernlex/Container;" (.ref aP)) :
    MetFree l (⟨"com/example/tavernlex/tavernlex/Container", "holds", "(Lcom/example/tavernlex/tavernlex/Beverage;)Z"⟩ : MethodName) (head1 (Jvm.Cond.code (⟨"com/example/tavernlex/tavernlex/Container", "holds", "(Lcom/example/tavernlex/tavernlex/Beverage;)Z"⟩ : MethodName) prog_10_method_6_code 2 (some .boolean) :: ws) ({ frames := 0, cells := 0, slots := 0, locals := 0 } : Room)) (fun a U => a = #[(.ref aP), (.ref vb)] ∧ Z.Warmed39 U.vm ∧ U.heap = h0) (fun _ _ _ _ _ => True) (fun _ U o U' => ∃ v L, o = .returned v ∧ Qhp Z aP vb h0 n0 v U'.heap L ∧ FrameEnd U o U' L 0 0) := by
  refine MetFree.of_bodySF (plainFor_of_name pn_1) hisR ?_
  intro p e s m args below meth c s₁ Bd hml0 hP hK
  obtain ⟨rfl, hZ, hh⟩ := hP
  have hx := Bd.exec
  have hby := Bd.bytes
  have hml : c.maxLocals = 2 := hml0
  have hown : s.vm.findClass "com/example/tavernlex/tavernlex/Container" = some m.cls := findClass_of_methodNamed Bd.named
  have hnm := (name_of_methodNamed Bd.named Bd.method).1
  have X0 : Stand p l e ({ frames := 0, cells := 0, slots := 0, locals := 0 } : Room) s m #[(.ref aP), (.ref vb)] below meth c s₁ [] 0 0 := Stand.of_body Bd
  have e0 : s₁.heap = h0 := by rw [← hh, Bd.state]; rfl
  have N0 := Fr.nil n0
  have hlk : meth.locks = false := BodyLoose.notSynchronized Bd
  show Goal p e below s (Qhp Z aP vb h0 n0) 0 0 (s₁.setTop (entryFrame m #[(.ref aP), (.ref vb)] 2))
  refine Goal.to (B := s₁.setTop (mkF m 0 #[.val (.ref aP), .val (.ref vb)] [])) (fun tt kk => castTop (ef_1 m aP vb ) kk) ?_
  refine Goal.to (B := s₁.setTop (mkF m 1 #[.val (.ref aP), .val (.ref vb)] [(.ref aP)])) (fun tt kk => ?_) ?_
  · show Steps p.tables e below (s₁.setTop (mkF m 0 #[.val (.ref aP), .val (.ref vb)] [])) tt
    refine XS.aloadN X0.here hx rfl (hb hby d1_0) rfl rfl ?_
    exact kk
  obtain ⟨T1, X1, e1, st1⟩ := getS2 X0 hx hZ hown (host := "") (Or.inl (hw _ (mw 25 rfl))) Via.refl e0 S_PACKAGE.sta (g := (mkF m 1 #[.val (.ref aP), .val (.ref vb)] [(.ref aP)])) rfl (hb hby d1_1)
  refine Goal.to (B := T1.setTop (mkF m 4 #[.val (.ref aP), .val (.ref vb)] [(.ref aP), (.ref aP)])) st1 ?_
  refine Goal.to (B := T1.setTop (mkF m 19 #[.val (.ref aP), .val (.ref vb)] [(.int (1 : Int32))])) (fun tt kk => ?_) ?_
  · show Steps p.tables e below (T1.setTop (mkF m 4 #[.val (.ref aP), .val (.ref vb)] [(.ref aP), (.ref aP)])) tt
    refine Jvm.RoadKit.acmp (g := (mkF m 4 #[.val (.ref aP), .val (.ref vb)] [(.ref aP), (.ref aP)])) X1 hx rfl rfl rfl (pc0 := 4) (pc' := 14) (same := true) rfl (hb hby d1_4) rfl (decide_eq_true (congrArg Value.ref rfl)) (by decide) (by decide) ?_
    show Steps p.tables e below (T1.setTop (mkF m 14 #[.val (.ref aP), .val (.ref vb)] [])) tt
    refine XS.iconst X1.here hx rfl (hb hby d1_14) ?_
    show Steps p.tables e below (T1.setTop (mkF m 15 #[.val (.ref aP), .val (.ref vb)] [(.int (1 : Int32))])) tt
    refine XS.goto X1.here hx rfl (pc0 := 15) (pc' := 19) rfl (hb hby d1_15) (by decide) (by decide) ?_
    exact kk
  exact Goal.retV X1 hx Bd.returns rfl (Or.inl ⟨rfl, Or.inr (Or.inl rfl), _, rfl⟩) (hb hby d1_19) hlk e1 ⟨rfl, N0, rfl⟩ (by decide) (by decide)
theorem d1_7 : decode prog_10_method_6_code 7 = .ok (.aload_n 1, 1) := by decide +kernel
theorem d1_8 : decode prog_10_method_6_code 8 = .ok (.getstatic 45, 3) := by decide +kernel
theorem d1_11 : decode prog_10_method_6_code 11 = .ok (.if_acmp .ne 7, 3) := by decide +kernel
def Qhm (Z : State) (va : Addr) (aP : Addr) (aM : Addr) (h0 : Heap) (n0 : Nat) (v : Option Value) (h : Heap) (L : List Loc) : Prop := v = some (.int (1 : Int32)) ∧ Fr n0 L ∧ h = h0
set_option maxRecDepth 65536 in
set_option maxHeartbeats 40000000 in
theorem rmhm (l : Launch) (Z : State) (a0 : Array Value) (hw : ∀ d ∈ tables_1, d.before a0 Z = true) (ws : List Jvm.Cond) (va : Addr) (aP : Addr) (aM : Addr) (h0 : Heap) (n0 : Nat) (Z0 : n0 ≤ h0.size) (S_PACKAGE : StaN Z n0 h0 "com/example/tavernlex/tavernlex/Container" "PACKAGE" "Lcom/example/tavernlex/tavernlex/Container;" (.ref aP)) (S_MALT : StaN Z n0 h0 "com/example/tavernlex/tavernlex/Beverage" "MALT" "Lcom/example/tavernlex/tavernlex/Beverage;" (.ref aM)) (ne_va_aP : va ≠ aP) :
    MetFree l (⟨"com/example/tavernlex/tavernlex/Container", "holds", "(Lcom/example/tavernlex/tavernlex/Beverage;)Z"⟩ : MethodName) (head1 (Jvm.Cond.code (⟨"com/example/tavernlex/tavernlex/Container", "holds", "(Lcom/example/tavernlex/tavernlex/Beverage;)Z"⟩ : MethodName) prog_10_method_6_code 2 (some .boolean) :: ws) ({ frames := 0, cells := 0, slots := 0, locals := 0 } : Room)) (fun a U => a = #[(.ref va), (.ref aM)] ∧ Z.Warmed39 U.vm ∧ U.heap = h0) (fun _ _ _ _ _ => True) (fun _ U o U' => ∃ v L, o = .returned v ∧ Qhm Z va aP aM h0 n0 v U'.heap L ∧ FrameEnd U o U' L 0 0) := by
  refine MetFree.of_bodySF (plainFor_of_name pn_1) hisR ?_
  intro p e s m args below meth c s₁ Bd hml0 hP hK
  obtain ⟨rfl, hZ, hh⟩ := hP
  have hx := Bd.exec
  have hby := Bd.bytes
  have hml : c.maxLocals = 2 := hml0
  have hown : s.vm.findClass "com/example/tavernlex/tavernlex/Container" = some m.cls := findClass_of_methodNamed Bd.named
  have hnm := (name_of_methodNamed Bd.named Bd.method).1
  have X0 : Stand p l e ({ frames := 0, cells := 0, slots := 0, locals := 0 } : Room) s m #[(.ref va), (.ref aM)] below meth c s₁ [] 0 0 := Stand.of_body Bd
  have e0 : s₁.heap = h0 := by rw [← hh, Bd.state]; rfl
  have N0 := Fr.nil n0
  have hlk : meth.locks = false := BodyLoose.notSynchronized Bd
  show Goal p e below s (Qhm Z va aP aM h0 n0) 0 0 (s₁.setTop (entryFrame m #[(.ref va), (.ref aM)] 2))
  refine Goal.to (B := s₁.setTop (mkF m 0 #[.val (.ref va), .val (.ref aM)] [])) (fun tt kk => castTop (ef_1 m va aM ) kk) ?_
  refine Goal.to (B := s₁.setTop (mkF m 1 #[.val (.ref va), .val (.ref aM)] [(.ref va)])) (fun tt kk => ?_) ?_
  · show Steps p.tables e below (s₁.setTop (mkF m 0 #[.val (.ref va), .val (.ref aM)] [])) tt
    refine XS.aloadN X0.here hx rfl (hb hby d1_0) rfl rfl ?_
    exact kk
  obtain ⟨T1, X1, e1, st1⟩ := getS2 X0 hx hZ hown (host := "") (Or.inl (hw _ (mw 25 rfl))) Via.refl e0 S_PACKAGE.sta (g := (mkF m 1 #[.val (.ref va), .val (.ref aM)] [(.ref va)])) rfl (hb hby d1_1)
  refine Goal.to (B := T1.setTop (mkF m 4 #[.val (.ref va), .val (.ref aM)] [(.ref aP), (.ref va)])) st1 ?_
  refine Goal.to (B := T1.setTop (mkF m 8 #[.val (.ref va), .val (.ref aM)] [(.ref aM)])) (fun tt kk => ?_) ?_
  · show Steps p.tables e below (T1.setTop (mkF m 4 #[.val (.ref va), .val (.ref aM)] [(.ref aP), (.ref va)])) tt
    refine Jvm.RoadKit.acmp (g := (mkF m 4 #[.val (.ref va), .val (.ref aM)] [(.ref aP), (.ref va)])) X1 hx rfl rfl rfl (pc0 := 4) (pc' := 7) (same := false) rfl (hb hby d1_4) rfl (decide_eq_false (fun q => ne_va_aP (Value.ref.inj q))) (by decide) (by decide) ?_
    show Steps p.tables e below (T1.setTop (mkF m 7 #[.val (.ref va), .val (.ref aM)] [])) tt
    refine XS.aloadN X1.here hx rfl (hb hby d1_7) rfl rfl ?_
    exact kk
  obtain ⟨T2, X2, e2, st2⟩ := getS2 X1 hx hZ hown (host := "") (Or.inl (hw _ (mw 26 rfl))) Via.refl e1 S_MALT.sta (g := (mkF m 8 #[.val (.ref va), .val (.ref aM)] [(.ref aM)])) rfl (hb hby d1_8)
  refine Goal.to (B := T2.setTop (mkF m 11 #[.val (.ref va), .val (.ref aM)] [(.ref aM), (.ref aM)])) st2 ?_
  refine Goal.to (B := T2.setTop (mkF m 19 #[.val (.ref va), .val (.ref aM)] [(.int (1 : Int32))])) (fun tt kk => ?_) ?_
  · show Steps p.tables e below (T2.setTop (mkF m 11 #[.val (.ref va), .val (.ref aM)] [(.ref aM), (.ref aM)])) tt
    refine Jvm.RoadKit.acmp (g := (mkF m 11 #[.val (.ref va), .val (.ref aM)] [(.ref aM), (.ref aM)])) X2 hx rfl rfl rfl (pc0 := 11) (pc' := 14) (same := true) rfl (hb hby d1_11) rfl (decide_eq_true (congrArg Value.ref rfl)) (by decide) (by decide) ?_
    show Steps p.tables e below (T2.setTop (mkF m 14 #[.val (.ref va), .val (.ref aM)] [])) tt
    refine XS.iconst X2.here hx rfl (hb hby d1_14) ?_
    show Steps p.tables e below (T2.setTop (mkF m 15 #[.val (.ref va), .val (.ref aM)] [(.int (1 : Int32))])) tt
    refine XS.goto X2.here hx rfl (pc0 := 15) (pc' := 19) rfl (hb hby d1_15) (by decide) (by decide) ?_
    exact kk
  exact Goal.retV X2 hx Bd.returns rfl (Or.inl ⟨rfl, Or.inr (Or.inl rfl), _, rfl⟩) (hb hby d1_19) hlk e2 ⟨rfl, N0, rfl⟩ (by decide) (by decide)
theorem d1_18 : decode prog_10_method_6_code 18 = .ok (.iconst 0, 1) := by decide +kernel
def Qhn (Z : State) (va : Addr) (vb : Addr) (aP : Addr) (aM : Addr) (h0 : Heap) (n0 : Nat) (v : Option Value) (h : Heap) (L : List Loc) : Prop := v = some (.int (0 : Int32)) ∧ Fr n0 L ∧ h = h0
set_option maxRecDepth 65536 in
set_option maxHeartbeats 40000000 in
theorem rmhn (l : Launch) (Z : State) (a0 : Array Value) (hw : ∀ d ∈ tables_1, d.before a0 Z = true) (ws : List Jvm.Cond) (va : Addr) (vb : Addr) (aP : Addr) (aM : Addr) (h0 : Heap) (n0 : Nat) (Z0 : n0 ≤ h0.size) (S_PACKAGE : StaN Z n0 h0 "com/example/tavernlex/tavernlex/Container" "PACKAGE" "Lcom/example/tavernlex/tavernlex/Container;" (.ref aP)) (S_MALT : StaN Z n0 h0 "com/example/tavernlex/tavernlex/Beverage" "MALT" "Lcom/example/tavernlex/tavernlex/Beverage;" (.ref aM)) (ne_va_aP : va ≠ aP) (ne_vb_aM : vb ≠ aM) :
    MetFree l (⟨"com/example/tavernlex/tavernlex/Container", "holds", "(Lcom/example/tavernlex/tavernlex/Beverage;)Z"⟩ : MethodName) (head1 (Jvm.Cond.code (⟨"com/example/tavernlex/tavernlex/Container", "holds", "(Lcom/example/tavernlex/tavernlex/Beverage;)Z"⟩ : MethodName) prog_10_method_6_code 2 (some .boolean) :: ws) ({ frames := 0, cells := 0, slots := 0, locals := 0 } : Room)) (fun a U => a = #[(.ref va), (.ref vb)] ∧ Z.Warmed39 U.vm ∧ U.heap = h0) (fun _ _ _ _ _ => True) (fun _ U o U' => ∃ v L, o = .returned v ∧ Qhn Z va vb aP aM h0 n0 v U'.heap L ∧ FrameEnd U o U' L 0 0) := by
  refine MetFree.of_bodySF (plainFor_of_name pn_1) hisR ?_
  intro p e s m args below meth c s₁ Bd hml0 hP hK
  obtain ⟨rfl, hZ, hh⟩ := hP
  have hx := Bd.exec
  have hby := Bd.bytes
  have hml : c.maxLocals = 2 := hml0
  have hown : s.vm.findClass "com/example/tavernlex/tavernlex/Container" = some m.cls := findClass_of_methodNamed Bd.named
  have hnm := (name_of_methodNamed Bd.named Bd.method).1
  have X0 : Stand p l e ({ frames := 0, cells := 0, slots := 0, locals := 0 } : Room) s m #[(.ref va), (.ref vb)] below meth c s₁ [] 0 0 := Stand.of_body Bd
  have e0 : s₁.heap = h0 := by rw [← hh, Bd.state]; rfl
  have N0 := Fr.nil n0
  have hlk : meth.locks = false := BodyLoose.notSynchronized Bd
  show Goal p e below s (Qhn Z va vb aP aM h0 n0) 0 0 (s₁.setTop (entryFrame m #[(.ref va), (.ref vb)] 2))
  refine Goal.to (B := s₁.setTop (mkF m 0 #[.val (.ref va), .val (.ref vb)] [])) (fun tt kk => castTop (ef_1 m va vb ) kk) ?_
  refine Goal.to (B := s₁.setTop (mkF m 1 #[.val (.ref va), .val (.ref vb)] [(.ref va)])) (fun tt kk => ?_) ?_
  · show Steps p.tables e below (s₁.setTop (mkF m 0 #[.val (.ref va), .val (.ref vb)] [])) tt
    refine XS.aloadN X0.here hx rfl (hb hby d1_0) rfl rfl ?_
    exact kk
  obtain ⟨T1, X1, e1, st1⟩ := getS2 X0 hx hZ hown (host := "") (Or.inl (hw _ (mw 25 rfl))) Via.refl e0 S_PACKAGE.sta (g := (mkF m 1 #[.val (.ref va), .val (.ref vb)] [(.ref va)])) rfl (hb hby d1_1)
  refine Goal.to (B := T1.setTop (mkF m 4 #[.val (.ref va), .val (.ref vb)] [(.ref aP), (.ref va)])) st1 ?_
  refine Goal.to (B := T1.setTop (mkF m 8 #[.val (.ref va), .val (.ref vb)] [(.ref vb)])) (fun tt kk => ?_) ?_
  · show Steps p.tables e below (T1.setTop (mkF m 4 #[.val (.ref va), .val (.ref vb)] [(.ref aP), (.ref va)])) tt
    refine Jvm.RoadKit.acmp (g := (mkF m 4 #[.val (.ref va), .val (.ref vb)] [(.ref aP), (.ref va)])) X1 hx rfl rfl rfl (pc0 := 4) (pc' := 7) (same := false) rfl (hb hby d1_4) rfl (decide_eq_false (fun q => ne_va_aP (Value.ref.inj q))) (by decide) (by decide) ?_
    show Steps p.tables e below (T1.setTop (mkF m 7 #[.val (.ref va), .val (.ref vb)] [])) tt
    refine XS.aloadN X1.here hx rfl (hb hby d1_7) rfl rfl ?_
    exact kk
  obtain ⟨T2, X2, e2, st2⟩ := getS2 X1 hx hZ hown (host := "") (Or.inl (hw _ (mw 26 rfl))) Via.refl e1 S_MALT.sta (g := (mkF m 8 #[.val (.ref va), .val (.ref vb)] [(.ref vb)])) rfl (hb hby d1_8)
  refine Goal.to (B := T2.setTop (mkF m 11 #[.val (.ref va), .val (.ref vb)] [(.ref aM), (.ref vb)])) st2 ?_
  refine Goal.to (B := T2.setTop (mkF m 19 #[.val (.ref va), .val (.ref vb)] [(.int (0 : Int32))])) (fun tt kk => ?_) ?_
  · show Steps p.tables e below (T2.setTop (mkF m 11 #[.val (.ref va), .val (.ref vb)] [(.ref aM), (.ref vb)])) tt
    refine Jvm.RoadKit.acmp (g := (mkF m 11 #[.val (.ref va), .val (.ref vb)] [(.ref aM), (.ref vb)])) X2 hx rfl rfl rfl (pc0 := 11) (pc' := 18) (same := false) rfl (hb hby d1_11) rfl (decide_eq_false (fun q => ne_vb_aM (Value.ref.inj q))) (by decide) (by decide) ?_
    show Steps p.tables e below (T2.setTop (mkF m 18 #[.val (.ref va), .val (.ref vb)] [])) tt
    refine XS.iconst X2.here hx rfl (hb hby d1_18) ?_
    exact kk
  exact Goal.retV X2 hx Bd.returns rfl (Or.inl ⟨rfl, Or.inr (Or.inl rfl), _, rfl⟩) (hb hby d1_19) hlk e2 ⟨rfl, N0, rfl⟩ (by decide) (by decide)
theorem ef_0 (m : MethodId) (x0 : Int32) (x1 : Int32)  : entryFrame m #[(.int x0), (.int x1)] maxLocals = mkF m 0 #[.val (.int x0), .val (.int x1), .unset, .unset, .unset, .unset, .unset, .unset] [] := by first | (simp [entryFrame, mkF, argsToLocals, Value.category, maxLocals]; done) | rfl
theorem pn_0 : plainName "com/example/tavernlex/tavernlex/ContainerHoldsPinLaw" = true := by first | (simp [plainName, overriddenIn]; done) | decide +kernel
theorem pd_0 : parseMethodDescriptor "(Lcom/example/tavernlex/tavernlex/Beverage;)Z" = some ⟨[(.object "com/example/tavernlex/tavernlex/Beverage")], some .boolean⟩ := by decide +kernel
def Q0 (Z : State) (u0 : Int32) (u1 : Int32) (aP : Addr) (aD : Addr) (aM : Addr) (aW : Addr) (aS : Addr) (h0 : Heap) (n0 : Nat) (v : Option Value) (h : Heap) (L : List Loc) : Prop := v = some (.int (1 : Int32)) ∧ Fr n0 L
set_option maxRecDepth 65536 in
set_option maxHeartbeats 40000000 in
theorem rm0 (l : Launch) (Z : State) (a0 : Array Value) (hw : ∀ d ∈ tables_1, d.before a0 Z = true) (ws : List Jvm.Cond) (u0 : Int32) (u1 : Int32) (aP : Addr) (aD : Addr) (aM : Addr) (aW : Addr) (aS : Addr) (h0 : Heap) (n0 : Nat) (Z0 : n0 ≤ h0.size) (S_PACKAGE : StaN Z n0 h0 "com/example/tavernlex/tavernlex/Container" "PACKAGE" "Lcom/example/tavernlex/tavernlex/Container;" (.ref aP)) (S_DRAFT : StaN Z n0 h0 "com/example/tavernlex/tavernlex/Container" "DRAFT" "Lcom/example/tavernlex/tavernlex/Container;" (.ref aD)) (S_MALT : StaN Z n0 h0 "com/example/tavernlex/tavernlex/Beverage" "MALT" "Lcom/example/tavernlex/tavernlex/Beverage;" (.ref aM)) (S_WINE : StaN Z n0 h0 "com/example/tavernlex/tavernlex/Beverage" "WINE" "Lcom/example/tavernlex/tavernlex/Beverage;" (.ref aW)) (S_SPIRITS : StaN Z n0 h0 "com/example/tavernlex/tavernlex/Beverage" "SPIRITS" "Lcom/example/tavernlex/tavernlex/Beverage;" (.ref aS)) (E_aP : Exa Z h0 aP "com/example/tavernlex/tavernlex/Container") (E_aD : Exa Z h0 aD "com/example/tavernlex/tavernlex/Container") (E_aM : Exa Z h0 aM "com/example/tavernlex/tavernlex/Beverage") (E_aW : Exa Z h0 aW "com/example/tavernlex/tavernlex/Beverage") (E_aS : Exa Z h0 aS "com/example/tavernlex/tavernlex/Beverage") (ne_aD_aP : aD ≠ aP) (ne_aW_aM : aW ≠ aM) (ne_aS_aM : aS ≠ aM) :
    MetFree l x (head1 (Jvm.Cond.code x code maxLocals ret :: ws) room_1) (fun a U => a = #[(.int u0), (.int u1)] ∧ Z.Warmed39 U.vm ∧ U.heap = h0) (fun _ _ _ _ _ => True) (fun _ U o U' => ∃ v L, o = .returned v ∧ Q0 Z u0 u1 aP aD aM aW aS h0 n0 v U'.heap L ∧ FrameEnd U o U' L 16 128) := by
  refine MetFree.of_bodySF (plainFor_of_name pn_0) hisR ?_
  intro p e s m args below meth c s₁ Bd hml0 hP hK
  obtain ⟨rfl, hZ, hh⟩ := hP
  have hx := Bd.exec
  have hby := Bd.bytes
  have hml : c.maxLocals = 8 := hml0
  have hown : s.vm.findClass "com/example/tavernlex/tavernlex/ContainerHoldsPinLaw" = some m.cls := findClass_of_methodNamed Bd.named
  have hnm := (name_of_methodNamed Bd.named Bd.method).1
  have X0 : Stand p l e room_1 s m #[(.int u0), (.int u1)] below meth c s₁ [] 0 0 := Stand.of_body Bd
  have e0 : s₁.heap = h0 := by rw [← hh, Bd.state]; rfl
  have N0 := Fr.nil n0
  have hlk : meth.locks = false := BodyLoose.notSynchronized Bd
  show Goal p e below s (Q0 Z u0 u1 aP aD aM aW aS h0 n0) 16 128 (s₁.setTop (entryFrame m #[(.int u0), (.int u1)] maxLocals))
  refine Goal.to (B := s₁.setTop (mkF m 0 #[.val (.int u0), .val (.int u1), .unset, .unset, .unset, .unset, .unset, .unset] [])) (fun tt kk => castTop (ef_0 m u0 u1 ) kk) ?_
  obtain ⟨ci, hci⟩ : ∃ z : Int32, z = (u0 &&& (1 : Int32)) := ⟨_, rfl⟩
  refine Goal.to (B := s₁.setTop (mkF m 4 #[.val (.int u0), .val (.int u1), .val (.int ci), .unset, .unset, .unset, .unset, .unset] [])) (fun tt kk => ?_) ?_
  · subst hci
    show Steps p.tables e below (s₁.setTop (mkF m 0 #[.val (.int u0), .val (.int u1), .unset, .unset, .unset, .unset, .unset, .unset] [])) tt
    refine XS.iloadN X0.here hx rfl (hb hby at_0) rfl ?_
    show Steps p.tables e below (s₁.setTop (mkF m 1 #[.val (.int u0), .val (.int u1), .unset, .unset, .unset, .unset, .unset, .unset] [(.int u0)])) tt
    refine XS.iconst X0.here hx rfl (hb hby at_1) ?_
    show Steps p.tables e below (s₁.setTop (mkF m 2 #[.val (.int u0), .val (.int u1), .unset, .unset, .unset, .unset, .unset, .unset] [(.int (1 : Int32)), (.int u0)])) tt
    refine XS.iand X0.here hx rfl (hb hby at_2) rfl ?_
    show Steps p.tables e below (s₁.setTop (mkF m 3 #[.val (.int u0), .val (.int u1), .unset, .unset, .unset, .unset, .unset, .unset] [(.int (u0 &&& (1 : Int32)))])) tt
    refine XS.istoreN X0.here hx rfl (hb hby at_3) rfl (l' := #[.val (.int u0), .val (.int u1), .val (.int (u0 &&& (1 : Int32))), .unset, .unset, .unset, .unset, .unset]) rfl ?_
    exact kk
  obtain ⟨bi, hbi⟩ : ∃ z : Int32, z = ((u1 &&& (2147483647 : Int32)) % (3 : Int32)) := ⟨_, rfl⟩
  refine Goal.to (B := s₁.setTop (mkF m 11 #[.val (.int u0), .val (.int u1), .val (.int ci), .val (.int bi), .unset, .unset, .unset, .unset] [])) (fun tt kk => ?_) ?_
  · subst hbi
    show Steps p.tables e below (s₁.setTop (mkF m 4 #[.val (.int u0), .val (.int u1), .val (.int ci), .unset, .unset, .unset, .unset, .unset] [])) tt
    refine XS.iloadN X0.here hx rfl (hb hby at_4) rfl ?_
    show Steps p.tables e below (s₁.setTop (mkF m 5 #[.val (.int u0), .val (.int u1), .val (.int ci), .unset, .unset, .unset, .unset, .unset] [(.int u1)])) tt
    refine X0.ldcInt hx hown (mvT hZ (hw _ (mw 0 rfl))) (g := (mkF m 5 #[.val (.int u0), .val (.int u1), .val (.int ci), .unset, .unset, .unset, .unset, .unset] [(.int u1)])) rfl (hb hby at_5) _ ?_
    show Steps p.tables e below (s₁.setTop (mkF m 7 #[.val (.int u0), .val (.int u1), .val (.int ci), .unset, .unset, .unset, .unset, .unset] [(.int (2147483647 : Int32)), (.int u1)])) tt
    refine XS.iand X0.here hx rfl (hb hby at_7) rfl ?_
    show Steps p.tables e below (s₁.setTop (mkF m 8 #[.val (.int u0), .val (.int u1), .val (.int ci), .unset, .unset, .unset, .unset, .unset] [(.int (u1 &&& (2147483647 : Int32)))])) tt
    refine XS.iconst X0.here hx rfl (hb hby at_8) ?_
    show Steps p.tables e below (s₁.setTop (mkF m 9 #[.val (.int u0), .val (.int u1), .val (.int ci), .unset, .unset, .unset, .unset, .unset] [(.int (3 : Int32)), (.int (u1 &&& (2147483647 : Int32)))])) tt
    refine iremM X0 hx rfl (hb hby at_9) rfl (by decide) ?_
    show Steps p.tables e below (s₁.setTop (mkF m 10 #[.val (.int u0), .val (.int u1), .val (.int ci), .unset, .unset, .unset, .unset, .unset] [(.int ((u1 &&& (2147483647 : Int32)) % (3 : Int32)))])) tt
    refine XS.istoreN X0.here hx rfl (hb hby at_10) rfl (l' := #[.val (.int u0), .val (.int u1), .val (.int ci), .val (.int ((u1 &&& (2147483647 : Int32)) % (3 : Int32))), .unset, .unset, .unset, .unset]) rfl ?_
    exact kk
  refine Goal.to (B := s₁.setTop (mkF m 12 #[.val (.int u0), .val (.int u1), .val (.int ci), .val (.int bi), .unset, .unset, .unset, .unset] [(.int (2 : Int32))])) (fun tt kk => ?_) ?_
  · show Steps p.tables e below (s₁.setTop (mkF m 11 #[.val (.int u0), .val (.int u1), .val (.int ci), .val (.int bi), .unset, .unset, .unset, .unset] [])) tt
    refine XS.iconst X0.here hx rfl (hb hby at_11) ?_
    exact kk
  obtain ⟨T1, h1, k1, X1, e1, E1, A1, O1, st1⟩ := newR X0 hx hZ hown (hw _ (mw 1 rfl)) (hw _ (mw 2 rfl)) e0 (g := (mkF m 12 #[.val (.int u0), .val (.int u1), .val (.int ci), .val (.int bi), .unset, .unset, .unset, .unset] [(.int (2 : Int32))])) rfl (hb hby at_12) rfl (by decide) (cap := 2) (by decide) (by decide) (by decide) (by decide)
  obtain ⟨b1, g1⟩ : ∃ z, z = h0.size := ⟨_, rfl⟩
  rw [← g1] at A1 st1
  have ne_aP_b1 : aP ≠ b1 := Nat.ne_of_lt (Nat.lt_of_lt_of_le E_aP.lt (Nat.le_of_eq g1.symm))
  have ne_aD_b1 : aD ≠ b1 := Nat.ne_of_lt (Nat.lt_of_lt_of_le E_aD.lt (Nat.le_of_eq g1.symm))
  have ne_aM_b1 : aM ≠ b1 := Nat.ne_of_lt (Nat.lt_of_lt_of_le E_aM.lt (Nat.le_of_eq g1.symm))
  have ne_aW_b1 : aW ≠ b1 := Nat.ne_of_lt (Nat.lt_of_lt_of_le E_aW.lt (Nat.le_of_eq g1.symm))
  have ne_aS_b1 : aS ≠ b1 := Nat.ne_of_lt (Nat.lt_of_lt_of_le E_aS.lt (Nat.le_of_eq g1.symm))
  have g_b1 : n0 ≤ b1 := Nat.le_trans Z0 (Nat.le_of_eq g1.symm)
  have Ov1 : OvrO Z h1 b1 "com/example/tavernlex/tavernlex/Container" := ⟨_, A1.1, O1⟩
  have V1 : Ary Z h1 b1 (.object "com/example/tavernlex/tavernlex/Container") [.null, .null] := Ary.new A1 rfl
  refine Goal.to (B := T1.setTop (mkF m 15 #[.val (.int u0), .val (.int u1), .val (.int ci), .val (.int bi), .unset, .unset, .unset, .unset] [(.ref b1)])) st1 ?_
  refine Goal.to (B := T1.setTop (mkF m 17 #[.val (.int u0), .val (.int u1), .val (.int ci), .val (.int bi), .unset, .unset, .unset, .unset] [(.int (0 : Int32)), (.ref b1), (.ref b1)])) (fun tt kk => ?_) ?_
  · show Steps p.tables e below (T1.setTop (mkF m 15 #[.val (.int u0), .val (.int u1), .val (.int ci), .val (.int bi), .unset, .unset, .unset, .unset] [(.ref b1)])) tt
    refine XS.dup X1.here hx rfl (hb hby at_15) rfl rfl ?_
    show Steps p.tables e below (T1.setTop (mkF m 16 #[.val (.int u0), .val (.int u1), .val (.int ci), .val (.int bi), .unset, .unset, .unset, .unset] [(.ref b1), (.ref b1)])) tt
    refine XS.iconst X1.here hx rfl (hb hby at_16) ?_
    exact kk
  have f2 : StaN Z n0 h1 "com/example/tavernlex/tavernlex/Container" "PACKAGE" "Lcom/example/tavernlex/tavernlex/Container;" (.ref aP) := (S_PACKAGE.ext E1)
  obtain ⟨T3, X3, e3, st3⟩ := getS2 X1 hx hZ hown (host := "") (Or.inl (hw _ (mw 3 rfl))) Via.refl e1 f2.sta (g := (mkF m 17 #[.val (.int u0), .val (.int u1), .val (.int ci), .val (.int bi), .unset, .unset, .unset, .unset] [(.int (0 : Int32)), (.ref b1), (.ref b1)])) rfl (hb hby at_17)
  refine Goal.to (B := T3.setTop (mkF m 20 #[.val (.int u0), .val (.int u1), .val (.int ci), .val (.int bi), .unset, .unset, .unset, .unset] [(.ref aP), (.int (0 : Int32)), (.ref b1), (.ref b1)])) st3 ?_
  obtain ⟨cl4, Ar4, Sl4⟩ := id V1
  have hin4 := inA (cl := cl4) Sl4 (j := (0 : Int32)) (by decide) (Nat.le_of_ble_eq_true rfl)
  have f5 : Exa Z h1 aP "com/example/tavernlex/tavernlex/Container" := (E_aP.ext E1)
  obtain ⟨T4, h4, X4, e4, W4, st4⟩ := stR X3 hx hZ e3 Ar4 (j := (0 : Int32)) hin4 rfl (stoO Ar4 Ov1 (Ins.self f5)) (g := (mkF m 20 #[.val (.int u0), .val (.int u1), .val (.int ci), .val (.int bi), .unset, .unset, .unset, .unset] [(.ref aP), (.int (0 : Int32)), (.ref b1), (.ref b1)])) rfl rfl (hb hby at_20)
  have V4 : Ary Z h4 b1 (.object "com/example/tavernlex/tavernlex/Container") [(.ref aP), .null] := Ary.put Ar4 Sl4 W4 rfl
  have N4 := Fr.snoc X4 N0 g_b1
  refine Goal.to (B := T4.setTop (mkF m 21 #[.val (.int u0), .val (.int u1), .val (.int ci), .val (.int bi), .unset, .unset, .unset, .unset] [(.ref b1)])) st4 ?_
  refine Goal.to (B := T4.setTop (mkF m 23 #[.val (.int u0), .val (.int u1), .val (.int ci), .val (.int bi), .unset, .unset, .unset, .unset] [(.int (1 : Int32)), (.ref b1), (.ref b1)])) (fun tt kk => ?_) ?_
  · show Steps p.tables e below (T4.setTop (mkF m 21 #[.val (.int u0), .val (.int u1), .val (.int ci), .val (.int bi), .unset, .unset, .unset, .unset] [(.ref b1)])) tt
    refine XS.dup X4.here hx rfl (hb hby at_21) rfl rfl ?_
    show Steps p.tables e below (T4.setTop (mkF m 22 #[.val (.int u0), .val (.int u1), .val (.int ci), .val (.int bi), .unset, .unset, .unset, .unset] [(.ref b1), (.ref b1)])) tt
    refine XS.iconst X4.here hx rfl (hb hby at_22) ?_
    exact kk
  have f6 : StaN Z n0 h4 "com/example/tavernlex/tavernlex/Container" "DRAFT" "Lcom/example/tavernlex/tavernlex/Container;" (.ref aD) := ((S_DRAFT.ext E1).wr W4)
  obtain ⟨T7, X7, e7, st7⟩ := getS2 X4 hx hZ hown (host := "") (Or.inl (hw _ (mw 7 rfl))) Via.refl e4 f6.sta (g := (mkF m 23 #[.val (.int u0), .val (.int u1), .val (.int ci), .val (.int bi), .unset, .unset, .unset, .unset] [(.int (1 : Int32)), (.ref b1), (.ref b1)])) rfl (hb hby at_23)
  refine Goal.to (B := T7.setTop (mkF m 26 #[.val (.int u0), .val (.int u1), .val (.int ci), .val (.int bi), .unset, .unset, .unset, .unset] [(.ref aD), (.int (1 : Int32)), (.ref b1), (.ref b1)])) st7 ?_
  obtain ⟨cl8, Ar8, Sl8⟩ := id V4
  have hin8 := inA (cl := cl8) Sl8 (j := (1 : Int32)) (by decide) (Nat.le_of_ble_eq_true rfl)
  have f9 : OvrO Z h4 b1 "com/example/tavernlex/tavernlex/Container" := (Ov1.wr W4)
  have f10 : Exa Z h4 aD "com/example/tavernlex/tavernlex/Container" := ((E_aD.ext E1).wr W4)
  obtain ⟨T8, h8, X8, e8, W8, st8⟩ := stR X7 hx hZ e7 Ar8 (j := (1 : Int32)) hin8 rfl (stoO Ar8 f9 (Ins.self f10)) (g := (mkF m 26 #[.val (.int u0), .val (.int u1), .val (.int ci), .val (.int bi), .unset, .unset, .unset, .unset] [(.ref aD), (.int (1 : Int32)), (.ref b1), (.ref b1)])) rfl rfl (hb hby at_26)
  have V8 : Ary Z h8 b1 (.object "com/example/tavernlex/tavernlex/Container") [(.ref aP), (.ref aD)] := Ary.put Ar8 Sl8 W8 rfl
  have N8 := Fr.snoc X8 N4 g_b1
  refine Goal.to (B := T8.setTop (mkF m 27 #[.val (.int u0), .val (.int u1), .val (.int ci), .val (.int bi), .unset, .unset, .unset, .unset] [(.ref b1)])) st8 ?_
  refine Goal.to (B := T8.setTop (mkF m 30 #[.val (.int u0), .val (.int u1), .val (.int ci), .val (.int bi), .val (.ref b1), .unset, .unset, .unset] [(.int (3 : Int32))])) (fun tt kk => ?_) ?_
  · show Steps p.tables e below (T8.setTop (mkF m 27 #[.val (.int u0), .val (.int u1), .val (.int ci), .val (.int bi), .unset, .unset, .unset, .unset] [(.ref b1)])) tt
    refine XS.astore X8.here hx rfl (hb hby at_27) rfl rfl (l' := #[.val (.int u0), .val (.int u1), .val (.int ci), .val (.int bi), .val (.ref b1), .unset, .unset, .unset]) rfl ?_
    show Steps p.tables e below (T8.setTop (mkF m 29 #[.val (.int u0), .val (.int u1), .val (.int ci), .val (.int bi), .val (.ref b1), .unset, .unset, .unset] [])) tt
    refine XS.iconst X8.here hx rfl (hb hby at_29) ?_
    exact kk
  have f12 : Exa Z h8 aP "com/example/tavernlex/tavernlex/Container" := ((f5.wr W4).wr W8)
  have f13 : Exa Z h8 aD "com/example/tavernlex/tavernlex/Container" := (f10.wr W8)
  have f14 : Exa Z h8 aM "com/example/tavernlex/tavernlex/Beverage" := (((E_aM.ext E1).wr W4).wr W8)
  have f15 : Exa Z h8 aW "com/example/tavernlex/tavernlex/Beverage" := (((E_aW.ext E1).wr W4).wr W8)
  have f16 : Exa Z h8 aS "com/example/tavernlex/tavernlex/Beverage" := (((E_aS.ext E1).wr W4).wr W8)
  have f17 : n0 ≤ h8.size := (Nat.le_trans (Nat.le_trans (Nat.le_trans Z0 E1.1) (Keep.of_wr W4).1) (Keep.of_wr W8).1)
  obtain ⟨T11, h11, k11, X11, e11, E11, A11, O11, st11⟩ := newR X8 hx hZ hown (hw _ (mw 9 rfl)) (hw _ (mw 10 rfl)) e8 (g := (mkF m 30 #[.val (.int u0), .val (.int u1), .val (.int ci), .val (.int bi), .val (.ref b1), .unset, .unset, .unset] [(.int (3 : Int32))])) rfl (hb hby at_30) rfl (by decide) (cap := 3) (by decide) (by decide) (by decide) (by decide)
  obtain ⟨b11, g11⟩ : ∃ z, z = h8.size := ⟨_, rfl⟩
  rw [← g11] at A11 st11
  have ne_aP_b11 : aP ≠ b11 := Nat.ne_of_lt (Nat.lt_of_lt_of_le f12.lt (Nat.le_of_eq g11.symm))
  have ne_aD_b11 : aD ≠ b11 := Nat.ne_of_lt (Nat.lt_of_lt_of_le f13.lt (Nat.le_of_eq g11.symm))
  have ne_aM_b11 : aM ≠ b11 := Nat.ne_of_lt (Nat.lt_of_lt_of_le f14.lt (Nat.le_of_eq g11.symm))
  have ne_aW_b11 : aW ≠ b11 := Nat.ne_of_lt (Nat.lt_of_lt_of_le f15.lt (Nat.le_of_eq g11.symm))
  have ne_aS_b11 : aS ≠ b11 := Nat.ne_of_lt (Nat.lt_of_lt_of_le f16.lt (Nat.le_of_eq g11.symm))
  have ne_b1_b11 : b1 ≠ b11 := Nat.ne_of_lt (Nat.lt_of_lt_of_le V8.lt (Nat.le_of_eq g11.symm))
  have g_b11 : n0 ≤ b11 := Nat.le_trans f17 (Nat.le_of_eq g11.symm)
  have Ov11 : OvrO Z h11 b11 "com/example/tavernlex/tavernlex/Beverage" := ⟨_, A11.1, O11⟩
  have V11 : Ary Z h11 b11 (.object "com/example/tavernlex/tavernlex/Beverage") [.null, .null, .null] := Ary.new A11 rfl
  refine Goal.to (B := T11.setTop (mkF m 33 #[.val (.int u0), .val (.int u1), .val (.int ci), .val (.int bi), .val (.ref b1), .unset, .unset, .unset] [(.ref b11)])) st11 ?_
  refine Goal.to (B := T11.setTop (mkF m 35 #[.val (.int u0), .val (.int u1), .val (.int ci), .val (.int bi), .val (.ref b1), .unset, .unset, .unset] [(.int (0 : Int32)), (.ref b11), (.ref b11)])) (fun tt kk => ?_) ?_
  · show Steps p.tables e below (T11.setTop (mkF m 33 #[.val (.int u0), .val (.int u1), .val (.int ci), .val (.int bi), .val (.ref b1), .unset, .unset, .unset] [(.ref b11)])) tt
    refine XS.dup X11.here hx rfl (hb hby at_33) rfl rfl ?_
    show Steps p.tables e below (T11.setTop (mkF m 34 #[.val (.int u0), .val (.int u1), .val (.int ci), .val (.int bi), .val (.ref b1), .unset, .unset, .unset] [(.ref b11), (.ref b11)])) tt
    refine XS.iconst X11.here hx rfl (hb hby at_34) ?_
    exact kk
  have f18 : StaN Z n0 h11 "com/example/tavernlex/tavernlex/Beverage" "MALT" "Lcom/example/tavernlex/tavernlex/Beverage;" (.ref aM) := ((((S_MALT.ext E1).wr W4).wr W8).ext E11)
  obtain ⟨T19, X19, e19, st19⟩ := getS2 X11 hx hZ hown (host := "") (Or.inl (hw _ (mw 11 rfl))) Via.refl e11 f18.sta (g := (mkF m 35 #[.val (.int u0), .val (.int u1), .val (.int ci), .val (.int bi), .val (.ref b1), .unset, .unset, .unset] [(.int (0 : Int32)), (.ref b11), (.ref b11)])) rfl (hb hby at_35)
  refine Goal.to (B := T19.setTop (mkF m 38 #[.val (.int u0), .val (.int u1), .val (.int ci), .val (.int bi), .val (.ref b1), .unset, .unset, .unset] [(.ref aM), (.int (0 : Int32)), (.ref b11), (.ref b11)])) st19 ?_
  obtain ⟨cl20, Ar20, Sl20⟩ := id V11
  have hin20 := inA (cl := cl20) Sl20 (j := (0 : Int32)) (by decide) (Nat.le_of_ble_eq_true rfl)
  have f21 : Exa Z h11 aM "com/example/tavernlex/tavernlex/Beverage" := (f14.ext E11)
  obtain ⟨T20, h20, X20, e20, W20, st20⟩ := stR X19 hx hZ e19 Ar20 (j := (0 : Int32)) hin20 rfl (stoO Ar20 Ov11 (Ins.self f21)) (g := (mkF m 38 #[.val (.int u0), .val (.int u1), .val (.int ci), .val (.int bi), .val (.ref b1), .unset, .unset, .unset] [(.ref aM), (.int (0 : Int32)), (.ref b11), (.ref b11)])) rfl rfl (hb hby at_38)
  have V20 : Ary Z h20 b11 (.object "com/example/tavernlex/tavernlex/Beverage") [(.ref aM), .null, .null] := Ary.put Ar20 Sl20 W20 rfl
  have N20 := Fr.snoc X20 N8 g_b11
  refine Goal.to (B := T20.setTop (mkF m 39 #[.val (.int u0), .val (.int u1), .val (.int ci), .val (.int bi), .val (.ref b1), .unset, .unset, .unset] [(.ref b11)])) st20 ?_
  refine Goal.to (B := T20.setTop (mkF m 41 #[.val (.int u0), .val (.int u1), .val (.int ci), .val (.int bi), .val (.ref b1), .unset, .unset, .unset] [(.int (1 : Int32)), (.ref b11), (.ref b11)])) (fun tt kk => ?_) ?_
  · show Steps p.tables e below (T20.setTop (mkF m 39 #[.val (.int u0), .val (.int u1), .val (.int ci), .val (.int bi), .val (.ref b1), .unset, .unset, .unset] [(.ref b11)])) tt
    refine XS.dup X20.here hx rfl (hb hby at_39) rfl rfl ?_
    show Steps p.tables e below (T20.setTop (mkF m 40 #[.val (.int u0), .val (.int u1), .val (.int ci), .val (.int bi), .val (.ref b1), .unset, .unset, .unset] [(.ref b11), (.ref b11)])) tt
    refine XS.iconst X20.here hx rfl (hb hby at_40) ?_
    exact kk
  have f22 : StaN Z n0 h20 "com/example/tavernlex/tavernlex/Beverage" "WINE" "Lcom/example/tavernlex/tavernlex/Beverage;" (.ref aW) := (((((S_WINE.ext E1).wr W4).wr W8).ext E11).wr W20)
  obtain ⟨T23, X23, e23, st23⟩ := getS2 X20 hx hZ hown (host := "") (Or.inl (hw _ (mw 15 rfl))) Via.refl e20 f22.sta (g := (mkF m 41 #[.val (.int u0), .val (.int u1), .val (.int ci), .val (.int bi), .val (.ref b1), .unset, .unset, .unset] [(.int (1 : Int32)), (.ref b11), (.ref b11)])) rfl (hb hby at_41)
  refine Goal.to (B := T23.setTop (mkF m 44 #[.val (.int u0), .val (.int u1), .val (.int ci), .val (.int bi), .val (.ref b1), .unset, .unset, .unset] [(.ref aW), (.int (1 : Int32)), (.ref b11), (.ref b11)])) st23 ?_
  obtain ⟨cl24, Ar24, Sl24⟩ := id V20
  have hin24 := inA (cl := cl24) Sl24 (j := (1 : Int32)) (by decide) (Nat.le_of_ble_eq_true rfl)
  have f25 : OvrO Z h20 b11 "com/example/tavernlex/tavernlex/Beverage" := (Ov11.wr W20)
  have f26 : Exa Z h20 aW "com/example/tavernlex/tavernlex/Beverage" := ((f15.ext E11).wr W20)
  obtain ⟨T24, h24, X24, e24, W24, st24⟩ := stR X23 hx hZ e23 Ar24 (j := (1 : Int32)) hin24 rfl (stoO Ar24 f25 (Ins.self f26)) (g := (mkF m 44 #[.val (.int u0), .val (.int u1), .val (.int ci), .val (.int bi), .val (.ref b1), .unset, .unset, .unset] [(.ref aW), (.int (1 : Int32)), (.ref b11), (.ref b11)])) rfl rfl (hb hby at_44)
  have V24 : Ary Z h24 b11 (.object "com/example/tavernlex/tavernlex/Beverage") [(.ref aM), (.ref aW), .null] := Ary.put Ar24 Sl24 W24 rfl
  have N24 := Fr.snoc X24 N20 g_b11
  refine Goal.to (B := T24.setTop (mkF m 45 #[.val (.int u0), .val (.int u1), .val (.int ci), .val (.int bi), .val (.ref b1), .unset, .unset, .unset] [(.ref b11)])) st24 ?_
  refine Goal.to (B := T24.setTop (mkF m 47 #[.val (.int u0), .val (.int u1), .val (.int ci), .val (.int bi), .val (.ref b1), .unset, .unset, .unset] [(.int (2 : Int32)), (.ref b11), (.ref b11)])) (fun tt kk => ?_) ?_
  · show Steps p.tables e below (T24.setTop (mkF m 45 #[.val (.int u0), .val (.int u1), .val (.int ci), .val (.int bi), .val (.ref b1), .unset, .unset, .unset] [(.ref b11)])) tt
    refine XS.dup X24.here hx rfl (hb hby at_45) rfl rfl ?_
    show Steps p.tables e below (T24.setTop (mkF m 46 #[.val (.int u0), .val (.int u1), .val (.int ci), .val (.int bi), .val (.ref b1), .unset, .unset, .unset] [(.ref b11), (.ref b11)])) tt
    refine XS.iconst X24.here hx rfl (hb hby at_46) ?_
    exact kk
  have f27 : StaN Z n0 h24 "com/example/tavernlex/tavernlex/Beverage" "SPIRITS" "Lcom/example/tavernlex/tavernlex/Beverage;" (.ref aS) := ((((((S_SPIRITS.ext E1).wr W4).wr W8).ext E11).wr W20).wr W24)
  obtain ⟨T28, X28, e28, st28⟩ := getS2 X24 hx hZ hown (host := "") (Or.inl (hw _ (mw 17 rfl))) Via.refl e24 f27.sta (g := (mkF m 47 #[.val (.int u0), .val (.int u1), .val (.int ci), .val (.int bi), .val (.ref b1), .unset, .unset, .unset] [(.int (2 : Int32)), (.ref b11), (.ref b11)])) rfl (hb hby at_47)
  refine Goal.to (B := T28.setTop (mkF m 50 #[.val (.int u0), .val (.int u1), .val (.int ci), .val (.int bi), .val (.ref b1), .unset, .unset, .unset] [(.ref aS), (.int (2 : Int32)), (.ref b11), (.ref b11)])) st28 ?_
  obtain ⟨cl29, Ar29, Sl29⟩ := id V24
  have hin29 := inA (cl := cl29) Sl29 (j := (2 : Int32)) (by decide) (Nat.le_of_ble_eq_true rfl)
  have f30 : OvrO Z h24 b11 "com/example/tavernlex/tavernlex/Beverage" := (f25.wr W24)
  have f31 : Exa Z h24 aS "com/example/tavernlex/tavernlex/Beverage" := (((f16.ext E11).wr W20).wr W24)
  obtain ⟨T29, h29, X29, e29, W29, st29⟩ := stR X28 hx hZ e28 Ar29 (j := (2 : Int32)) hin29 rfl (stoO Ar29 f30 (Ins.self f31)) (g := (mkF m 50 #[.val (.int u0), .val (.int u1), .val (.int ci), .val (.int bi), .val (.ref b1), .unset, .unset, .unset] [(.ref aS), (.int (2 : Int32)), (.ref b11), (.ref b11)])) rfl rfl (hb hby at_50)
  have V29 : Ary Z h29 b11 (.object "com/example/tavernlex/tavernlex/Beverage") [(.ref aM), (.ref aW), (.ref aS)] := Ary.put Ar29 Sl29 W29 rfl
  have N29 := Fr.snoc X29 N24 g_b11
  refine Goal.to (B := T29.setTop (mkF m 51 #[.val (.int u0), .val (.int u1), .val (.int ci), .val (.int bi), .val (.ref b1), .unset, .unset, .unset] [(.ref b11)])) st29 ?_
  refine Goal.to (B := T29.setTop (mkF m 55 #[.val (.int u0), .val (.int u1), .val (.int ci), .val (.int bi), .val (.ref b1), .val (.ref b11), .unset, .unset] [(.int (6 : Int32))])) (fun tt kk => ?_) ?_
  · show Steps p.tables e below (T29.setTop (mkF m 51 #[.val (.int u0), .val (.int u1), .val (.int ci), .val (.int bi), .val (.ref b1), .unset, .unset, .unset] [(.ref b11)])) tt
    refine XS.astore X29.here hx rfl (hb hby at_51) rfl rfl (l' := #[.val (.int u0), .val (.int u1), .val (.int ci), .val (.int bi), .val (.ref b1), .val (.ref b11), .unset, .unset]) rfl ?_
    show Steps p.tables e below (T29.setTop (mkF m 53 #[.val (.int u0), .val (.int u1), .val (.int ci), .val (.int bi), .val (.ref b1), .val (.ref b11), .unset, .unset] [])) tt
    refine XS.bipush X29.here hx rfl (hb hby at_53) ?_
    exact kk
  have f33 : Exa Z h29 aP "com/example/tavernlex/tavernlex/Container" := ((((f12.ext E11).wr W20).wr W24).wr W29)
  have f34 : Exa Z h29 aD "com/example/tavernlex/tavernlex/Container" := ((((f13.ext E11).wr W20).wr W24).wr W29)
  have f35 : Exa Z h29 aM "com/example/tavernlex/tavernlex/Beverage" := (((f21.wr W20).wr W24).wr W29)
  have f36 : Exa Z h29 aW "com/example/tavernlex/tavernlex/Beverage" := ((f26.wr W24).wr W29)
  have f37 : Exa Z h29 aS "com/example/tavernlex/tavernlex/Beverage" := (f31.wr W29)
  have f38 : Ary Z h29 b1 (.object "com/example/tavernlex/tavernlex/Container") [(.ref aP), (.ref aD)] := ((((V8.ext E11).other W20 ne_b1_b11).other W24 ne_b1_b11).other W29 ne_b1_b11)
  have f39 : n0 ≤ h29.size := (Nat.le_trans (Nat.le_trans (Nat.le_trans (Nat.le_trans f17 E11.1) (Keep.of_wr W20).1) (Keep.of_wr W24).1) (Keep.of_wr W29).1)
  obtain ⟨T32, h32, k32, X32, e32, E32, A32, st32⟩ := newP X29 hx hZ (hw _ (mw 19 rfl)) e29 (g := (mkF m 55 #[.val (.int u0), .val (.int u1), .val (.int ci), .val (.int bi), .val (.ref b1), .val (.ref b11), .unset, .unset] [(.int (6 : Int32))])) rfl (hb hby at_55) rfl (by decide) (cap := 6) (by decide) (by decide) (by decide) (by decide)
  obtain ⟨b32, g32⟩ : ∃ z, z = h29.size := ⟨_, rfl⟩
  rw [← g32] at A32 st32
  have ne_aP_b32 : aP ≠ b32 := Nat.ne_of_lt (Nat.lt_of_lt_of_le f33.lt (Nat.le_of_eq g32.symm))
  have ne_aD_b32 : aD ≠ b32 := Nat.ne_of_lt (Nat.lt_of_lt_of_le f34.lt (Nat.le_of_eq g32.symm))
  have ne_aM_b32 : aM ≠ b32 := Nat.ne_of_lt (Nat.lt_of_lt_of_le f35.lt (Nat.le_of_eq g32.symm))
  have ne_aW_b32 : aW ≠ b32 := Nat.ne_of_lt (Nat.lt_of_lt_of_le f36.lt (Nat.le_of_eq g32.symm))
  have ne_aS_b32 : aS ≠ b32 := Nat.ne_of_lt (Nat.lt_of_lt_of_le f37.lt (Nat.le_of_eq g32.symm))
  have ne_b1_b32 : b1 ≠ b32 := Nat.ne_of_lt (Nat.lt_of_lt_of_le f38.lt (Nat.le_of_eq g32.symm))
  have ne_b11_b32 : b11 ≠ b32 := Nat.ne_of_lt (Nat.lt_of_lt_of_le V29.lt (Nat.le_of_eq g32.symm))
  have g_b32 : n0 ≤ b32 := Nat.le_trans f39 (Nat.le_of_eq g32.symm)
  have V32 : Ary Z h32 b32 .boolean [(.int (0 : Int32)), (.int (0 : Int32)), (.int (0 : Int32)), (.int (0 : Int32)), (.int (0 : Int32)), (.int (0 : Int32))] := Ary.new A32 rfl
  refine Goal.to (B := T32.setTop (mkF m 57 #[.val (.int u0), .val (.int u1), .val (.int ci), .val (.int bi), .val (.ref b1), .val (.ref b11), .unset, .unset] [(.ref b32)])) st32 ?_
  refine Goal.to (B := T32.setTop (mkF m 60 #[.val (.int u0), .val (.int u1), .val (.int ci), .val (.int bi), .val (.ref b1), .val (.ref b11), .unset, .unset] [(.int (1 : Int32)), (.int (0 : Int32)), (.ref b32), (.ref b32)])) (fun tt kk => ?_) ?_
  · show Steps p.tables e below (T32.setTop (mkF m 57 #[.val (.int u0), .val (.int u1), .val (.int ci), .val (.int bi), .val (.ref b1), .val (.ref b11), .unset, .unset] [(.ref b32)])) tt
    refine XS.dup X32.here hx rfl (hb hby at_57) rfl rfl ?_
    show Steps p.tables e below (T32.setTop (mkF m 58 #[.val (.int u0), .val (.int u1), .val (.int ci), .val (.int bi), .val (.ref b1), .val (.ref b11), .unset, .unset] [(.ref b32), (.ref b32)])) tt
    refine XS.iconst X32.here hx rfl (hb hby at_58) ?_
    show Steps p.tables e below (T32.setTop (mkF m 59 #[.val (.int u0), .val (.int u1), .val (.int ci), .val (.int bi), .val (.ref b1), .val (.ref b11), .unset, .unset] [(.int (0 : Int32)), (.ref b32), (.ref b32)])) tt
    refine XS.iconst X32.here hx rfl (hb hby at_59) ?_
    exact kk
  obtain ⟨cl40, Ar40, Sl40⟩ := id V32
  have hin40 := inA (cl := cl40) Sl40 (j := (0 : Int32)) (by decide) (Nat.le_of_ble_eq_true rfl)
  obtain ⟨T40, h40, X40, e40, W40, st40⟩ := stZ X32 hx hZ e32 Ar40 (j := (0 : Int32)) hin40 (g := (mkF m 60 #[.val (.int u0), .val (.int u1), .val (.int ci), .val (.int bi), .val (.ref b1), .val (.ref b11), .unset, .unset] [(.int (1 : Int32)), (.int (0 : Int32)), (.ref b32), (.ref b32)])) rfl rfl (hb hby at_60)
  have V40 : Ary Z h40 b32 .boolean [(.int (1 : Int32)), (.int (0 : Int32)), (.int (0 : Int32)), (.int (0 : Int32)), (.int (0 : Int32)), (.int (0 : Int32))] := Ary.put Ar40 Sl40 W40 rfl
  have N40 := Fr.snoc X40 N29 g_b32
  refine Goal.to (B := T40.setTop (mkF m 61 #[.val (.int u0), .val (.int u1), .val (.int ci), .val (.int bi), .val (.ref b1), .val (.ref b11), .unset, .unset] [(.ref b32)])) st40 ?_
  refine Goal.to (B := T40.setTop (mkF m 64 #[.val (.int u0), .val (.int u1), .val (.int ci), .val (.int bi), .val (.ref b1), .val (.ref b11), .unset, .unset] [(.int (1 : Int32)), (.int (1 : Int32)), (.ref b32), (.ref b32)])) (fun tt kk => ?_) ?_
  · show Steps p.tables e below (T40.setTop (mkF m 61 #[.val (.int u0), .val (.int u1), .val (.int ci), .val (.int bi), .val (.ref b1), .val (.ref b11), .unset, .unset] [(.ref b32)])) tt
    refine XS.dup X40.here hx rfl (hb hby at_61) rfl rfl ?_
    show Steps p.tables e below (T40.setTop (mkF m 62 #[.val (.int u0), .val (.int u1), .val (.int ci), .val (.int bi), .val (.ref b1), .val (.ref b11), .unset, .unset] [(.ref b32), (.ref b32)])) tt
    refine XS.iconst X40.here hx rfl (hb hby at_62) ?_
    show Steps p.tables e below (T40.setTop (mkF m 63 #[.val (.int u0), .val (.int u1), .val (.int ci), .val (.int bi), .val (.ref b1), .val (.ref b11), .unset, .unset] [(.int (1 : Int32)), (.ref b32), (.ref b32)])) tt
    refine XS.iconst X40.here hx rfl (hb hby at_63) ?_
    exact kk
  obtain ⟨cl41, Ar41, Sl41⟩ := id V40
  have hin41 := inA (cl := cl41) Sl41 (j := (1 : Int32)) (by decide) (Nat.le_of_ble_eq_true rfl)
  obtain ⟨T41, h41, X41, e41, W41, st41⟩ := stZ X40 hx hZ e40 Ar41 (j := (1 : Int32)) hin41 (g := (mkF m 64 #[.val (.int u0), .val (.int u1), .val (.int ci), .val (.int bi), .val (.ref b1), .val (.ref b11), .unset, .unset] [(.int (1 : Int32)), (.int (1 : Int32)), (.ref b32), (.ref b32)])) rfl rfl (hb hby at_64)
  have V41 : Ary Z h41 b32 .boolean [(.int (1 : Int32)), (.int (1 : Int32)), (.int (0 : Int32)), (.int (0 : Int32)), (.int (0 : Int32)), (.int (0 : Int32))] := Ary.put Ar41 Sl41 W41 rfl
  have N41 := Fr.snoc X41 N40 g_b32
  refine Goal.to (B := T41.setTop (mkF m 65 #[.val (.int u0), .val (.int u1), .val (.int ci), .val (.int bi), .val (.ref b1), .val (.ref b11), .unset, .unset] [(.ref b32)])) st41 ?_
  refine Goal.to (B := T41.setTop (mkF m 68 #[.val (.int u0), .val (.int u1), .val (.int ci), .val (.int bi), .val (.ref b1), .val (.ref b11), .unset, .unset] [(.int (1 : Int32)), (.int (2 : Int32)), (.ref b32), (.ref b32)])) (fun tt kk => ?_) ?_
  · show Steps p.tables e below (T41.setTop (mkF m 65 #[.val (.int u0), .val (.int u1), .val (.int ci), .val (.int bi), .val (.ref b1), .val (.ref b11), .unset, .unset] [(.ref b32)])) tt
    refine XS.dup X41.here hx rfl (hb hby at_65) rfl rfl ?_
    show Steps p.tables e below (T41.setTop (mkF m 66 #[.val (.int u0), .val (.int u1), .val (.int ci), .val (.int bi), .val (.ref b1), .val (.ref b11), .unset, .unset] [(.ref b32), (.ref b32)])) tt
    refine XS.iconst X41.here hx rfl (hb hby at_66) ?_
    show Steps p.tables e below (T41.setTop (mkF m 67 #[.val (.int u0), .val (.int u1), .val (.int ci), .val (.int bi), .val (.ref b1), .val (.ref b11), .unset, .unset] [(.int (2 : Int32)), (.ref b32), (.ref b32)])) tt
    refine XS.iconst X41.here hx rfl (hb hby at_67) ?_
    exact kk
  obtain ⟨cl42, Ar42, Sl42⟩ := id V41
  have hin42 := inA (cl := cl42) Sl42 (j := (2 : Int32)) (by decide) (Nat.le_of_ble_eq_true rfl)
  obtain ⟨T42, h42, X42, e42, W42, st42⟩ := stZ X41 hx hZ e41 Ar42 (j := (2 : Int32)) hin42 (g := (mkF m 68 #[.val (.int u0), .val (.int u1), .val (.int ci), .val (.int bi), .val (.ref b1), .val (.ref b11), .unset, .unset] [(.int (1 : Int32)), (.int (2 : Int32)), (.ref b32), (.ref b32)])) rfl rfl (hb hby at_68)
  have V42 : Ary Z h42 b32 .boolean [(.int (1 : Int32)), (.int (1 : Int32)), (.int (1 : Int32)), (.int (0 : Int32)), (.int (0 : Int32)), (.int (0 : Int32))] := Ary.put Ar42 Sl42 W42 rfl
  have N42 := Fr.snoc X42 N41 g_b32
  refine Goal.to (B := T42.setTop (mkF m 69 #[.val (.int u0), .val (.int u1), .val (.int ci), .val (.int bi), .val (.ref b1), .val (.ref b11), .unset, .unset] [(.ref b32)])) st42 ?_
  refine Goal.to (B := T42.setTop (mkF m 72 #[.val (.int u0), .val (.int u1), .val (.int ci), .val (.int bi), .val (.ref b1), .val (.ref b11), .unset, .unset] [(.int (1 : Int32)), (.int (3 : Int32)), (.ref b32), (.ref b32)])) (fun tt kk => ?_) ?_
  · show Steps p.tables e below (T42.setTop (mkF m 69 #[.val (.int u0), .val (.int u1), .val (.int ci), .val (.int bi), .val (.ref b1), .val (.ref b11), .unset, .unset] [(.ref b32)])) tt
    refine XS.dup X42.here hx rfl (hb hby at_69) rfl rfl ?_
    show Steps p.tables e below (T42.setTop (mkF m 70 #[.val (.int u0), .val (.int u1), .val (.int ci), .val (.int bi), .val (.ref b1), .val (.ref b11), .unset, .unset] [(.ref b32), (.ref b32)])) tt
    refine XS.iconst X42.here hx rfl (hb hby at_70) ?_
    show Steps p.tables e below (T42.setTop (mkF m 71 #[.val (.int u0), .val (.int u1), .val (.int ci), .val (.int bi), .val (.ref b1), .val (.ref b11), .unset, .unset] [(.int (3 : Int32)), (.ref b32), (.ref b32)])) tt
    refine XS.iconst X42.here hx rfl (hb hby at_71) ?_
    exact kk
  obtain ⟨cl43, Ar43, Sl43⟩ := id V42
  have hin43 := inA (cl := cl43) Sl43 (j := (3 : Int32)) (by decide) (Nat.le_of_ble_eq_true rfl)
  obtain ⟨T43, h43, X43, e43, W43, st43⟩ := stZ X42 hx hZ e42 Ar43 (j := (3 : Int32)) hin43 (g := (mkF m 72 #[.val (.int u0), .val (.int u1), .val (.int ci), .val (.int bi), .val (.ref b1), .val (.ref b11), .unset, .unset] [(.int (1 : Int32)), (.int (3 : Int32)), (.ref b32), (.ref b32)])) rfl rfl (hb hby at_72)
  have V43 : Ary Z h43 b32 .boolean [(.int (1 : Int32)), (.int (1 : Int32)), (.int (1 : Int32)), (.int (1 : Int32)), (.int (0 : Int32)), (.int (0 : Int32))] := Ary.put Ar43 Sl43 W43 rfl
  have N43 := Fr.snoc X43 N42 g_b32
  refine Goal.to (B := T43.setTop (mkF m 73 #[.val (.int u0), .val (.int u1), .val (.int ci), .val (.int bi), .val (.ref b1), .val (.ref b11), .unset, .unset] [(.ref b32)])) st43 ?_
  refine Goal.to (B := T43.setTop (mkF m 76 #[.val (.int u0), .val (.int u1), .val (.int ci), .val (.int bi), .val (.ref b1), .val (.ref b11), .unset, .unset] [(.int (0 : Int32)), (.int (4 : Int32)), (.ref b32), (.ref b32)])) (fun tt kk => ?_) ?_
  · show Steps p.tables e below (T43.setTop (mkF m 73 #[.val (.int u0), .val (.int u1), .val (.int ci), .val (.int bi), .val (.ref b1), .val (.ref b11), .unset, .unset] [(.ref b32)])) tt
    refine XS.dup X43.here hx rfl (hb hby at_73) rfl rfl ?_
    show Steps p.tables e below (T43.setTop (mkF m 74 #[.val (.int u0), .val (.int u1), .val (.int ci), .val (.int bi), .val (.ref b1), .val (.ref b11), .unset, .unset] [(.ref b32), (.ref b32)])) tt
    refine XS.iconst X43.here hx rfl (hb hby at_74) ?_
    show Steps p.tables e below (T43.setTop (mkF m 75 #[.val (.int u0), .val (.int u1), .val (.int ci), .val (.int bi), .val (.ref b1), .val (.ref b11), .unset, .unset] [(.int (4 : Int32)), (.ref b32), (.ref b32)])) tt
    refine XS.iconst X43.here hx rfl (hb hby at_75) ?_
    exact kk
  obtain ⟨cl44, Ar44, Sl44⟩ := id V43
  have hin44 := inA (cl := cl44) Sl44 (j := (4 : Int32)) (by decide) (Nat.le_of_ble_eq_true rfl)
  obtain ⟨T44, h44, X44, e44, W44, st44⟩ := stZ X43 hx hZ e43 Ar44 (j := (4 : Int32)) hin44 (g := (mkF m 76 #[.val (.int u0), .val (.int u1), .val (.int ci), .val (.int bi), .val (.ref b1), .val (.ref b11), .unset, .unset] [(.int (0 : Int32)), (.int (4 : Int32)), (.ref b32), (.ref b32)])) rfl rfl (hb hby at_76)
  have V44 : Ary Z h44 b32 .boolean [(.int (1 : Int32)), (.int (1 : Int32)), (.int (1 : Int32)), (.int (1 : Int32)), (.int (0 : Int32)), (.int (0 : Int32))] := Ary.put Ar44 Sl44 W44 rfl
  have N44 := Fr.snoc X44 N43 g_b32
  refine Goal.to (B := T44.setTop (mkF m 77 #[.val (.int u0), .val (.int u1), .val (.int ci), .val (.int bi), .val (.ref b1), .val (.ref b11), .unset, .unset] [(.ref b32)])) st44 ?_
  refine Goal.to (B := T44.setTop (mkF m 80 #[.val (.int u0), .val (.int u1), .val (.int ci), .val (.int bi), .val (.ref b1), .val (.ref b11), .unset, .unset] [(.int (0 : Int32)), (.int (5 : Int32)), (.ref b32), (.ref b32)])) (fun tt kk => ?_) ?_
  · show Steps p.tables e below (T44.setTop (mkF m 77 #[.val (.int u0), .val (.int u1), .val (.int ci), .val (.int bi), .val (.ref b1), .val (.ref b11), .unset, .unset] [(.ref b32)])) tt
    refine XS.dup X44.here hx rfl (hb hby at_77) rfl rfl ?_
    show Steps p.tables e below (T44.setTop (mkF m 78 #[.val (.int u0), .val (.int u1), .val (.int ci), .val (.int bi), .val (.ref b1), .val (.ref b11), .unset, .unset] [(.ref b32), (.ref b32)])) tt
    refine XS.iconst X44.here hx rfl (hb hby at_78) ?_
    show Steps p.tables e below (T44.setTop (mkF m 79 #[.val (.int u0), .val (.int u1), .val (.int ci), .val (.int bi), .val (.ref b1), .val (.ref b11), .unset, .unset] [(.int (5 : Int32)), (.ref b32), (.ref b32)])) tt
    refine XS.iconst X44.here hx rfl (hb hby at_79) ?_
    exact kk
  obtain ⟨cl45, Ar45, Sl45⟩ := id V44
  have hin45 := inA (cl := cl45) Sl45 (j := (5 : Int32)) (by decide) (Nat.le_of_ble_eq_true rfl)
  obtain ⟨T45, h45, X45, e45, W45, st45⟩ := stZ X44 hx hZ e44 Ar45 (j := (5 : Int32)) hin45 (g := (mkF m 80 #[.val (.int u0), .val (.int u1), .val (.int ci), .val (.int bi), .val (.ref b1), .val (.ref b11), .unset, .unset] [(.int (0 : Int32)), (.int (5 : Int32)), (.ref b32), (.ref b32)])) rfl rfl (hb hby at_80)
  have V45 : Ary Z h45 b32 .boolean [(.int (1 : Int32)), (.int (1 : Int32)), (.int (1 : Int32)), (.int (1 : Int32)), (.int (0 : Int32)), (.int (0 : Int32))] := Ary.put Ar45 Sl45 W45 rfl
  have N45 := Fr.snoc X45 N44 g_b32
  refine Goal.to (B := T45.setTop (mkF m 81 #[.val (.int u0), .val (.int u1), .val (.int ci), .val (.int bi), .val (.ref b1), .val (.ref b11), .unset, .unset] [(.ref b32)])) st45 ?_
  refine Goal.to (B := T45.setTop (mkF m 83 #[.val (.int u0), .val (.int u1), .val (.int ci), .val (.int bi), .val (.ref b1), .val (.ref b11), .val (.ref b32), .unset] [])) (fun tt kk => ?_) ?_
  · show Steps p.tables e below (T45.setTop (mkF m 81 #[.val (.int u0), .val (.int u1), .val (.int ci), .val (.int bi), .val (.ref b1), .val (.ref b11), .unset, .unset] [(.ref b32)])) tt
    refine XS.astore X45.here hx rfl (hb hby at_81) rfl rfl (l' := #[.val (.int u0), .val (.int u1), .val (.int ci), .val (.int bi), .val (.ref b1), .val (.ref b11), .val (.ref b32), .unset]) rfl ?_
    exact kk
  rcases own_c hci with rfl | rfl <;> rcases own_n hbi with rfl | rfl | rfl
  · refine Goal.to (B := T45.setTop (mkF m 90 #[.val (.int u0), .val (.int u1), .val (.int (0 : Int32)), .val (.int (0 : Int32)), .val (.ref b1), .val (.ref b11), .val (.ref b32), .unset] [(.int (0 : Int32)), (.ref b32)])) (fun tt kk => ?_) ?_
    · show Steps p.tables e below (T45.setTop (mkF m 83 #[.val (.int u0), .val (.int u1), .val (.int (0 : Int32)), .val (.int (0 : Int32)), .val (.ref b1), .val (.ref b11), .val (.ref b32), .unset] [])) tt
      refine XS.aload X45.here hx rfl (hb hby at_83) rfl rfl ?_
      show Steps p.tables e below (T45.setTop (mkF m 85 #[.val (.int u0), .val (.int u1), .val (.int (0 : Int32)), .val (.int (0 : Int32)), .val (.ref b1), .val (.ref b11), .val (.ref b32), .unset] [(.ref b32)])) tt
      refine XS.iloadN X45.here hx rfl (hb hby at_85) rfl ?_
      show Steps p.tables e below (T45.setTop (mkF m 86 #[.val (.int u0), .val (.int u1), .val (.int (0 : Int32)), .val (.int (0 : Int32)), .val (.ref b1), .val (.ref b11), .val (.ref b32), .unset] [(.int (0 : Int32)), (.ref b32)])) tt
      refine XS.iconst X45.here hx rfl (hb hby at_86) ?_
      show Steps p.tables e below (T45.setTop (mkF m 87 #[.val (.int u0), .val (.int u1), .val (.int (0 : Int32)), .val (.int (0 : Int32)), .val (.ref b1), .val (.ref b11), .val (.ref b32), .unset] [(.int (3 : Int32)), (.int (0 : Int32)), (.ref b32)])) tt
      refine XS.imul X45.here hx rfl (hb hby at_87) rfl ?_
      show Steps p.tables e below (T45.setTop (mkF m 88 #[.val (.int u0), .val (.int u1), .val (.int (0 : Int32)), .val (.int (0 : Int32)), .val (.ref b1), .val (.ref b11), .val (.ref b32), .unset] [(.int (0 : Int32)), (.ref b32)])) tt
      refine XS.iloadN X45.here hx rfl (hb hby at_88) rfl ?_
      show Steps p.tables e below (T45.setTop (mkF m 89 #[.val (.int u0), .val (.int u1), .val (.int (0 : Int32)), .val (.int (0 : Int32)), .val (.ref b1), .val (.ref b11), .val (.ref b32), .unset] [(.int (0 : Int32)), (.int (0 : Int32)), (.ref b32)])) tt
      refine XS.iadd X45.here hx rfl (hb hby at_89) rfl ?_
      exact kk
    obtain ⟨cl46, Ar46, Sl46⟩ := id V45
    have hin46 := inA (cl := cl46) Sl46 (j := (0 : Int32)) (by decide) (Nat.le_of_ble_eq_true rfl)
    have hat46 : cl46.slots[((0 : Int32)).toNatClampNeg]? = some (.int (1 : Int32)) := atA Sl46 rfl
    refine Goal.to (B := T45.setTop (mkF m 96 #[.val (.int u0), .val (.int u1), .val (.int (0 : Int32)), .val (.int (0 : Int32)), .val (.ref b1), .val (.ref b11), .val (.ref b32), .val (.int (1 : Int32))] [(.int (0 : Int32)), (.ref b1)])) (fun tt kk => ?_) ?_
    · show Steps p.tables e below (T45.setTop (mkF m 90 #[.val (.int u0), .val (.int u1), .val (.int (0 : Int32)), .val (.int (0 : Int32)), .val (.ref b1), .val (.ref b11), .val (.ref b32), .unset] [(.int (0 : Int32)), (.ref b32)])) tt
      refine X45.baloadBooleans hx (j := (0 : Int32)) (v := (.int (1 : Int32))) (by rw [e45]; exact Ar46.1) (State.isArrayOf_alike hZ.alike Ar46.2.1) Ar46.2.2 hin46 hat46 (g := (mkF m 90 #[.val (.int u0), .val (.int u1), .val (.int (0 : Int32)), .val (.int (0 : Int32)), .val (.ref b1), .val (.ref b11), .val (.ref b32), .unset] [(.int (0 : Int32)), (.ref b32)])) rfl rfl (hb hby at_90) _ ?_
      show Steps p.tables e below (T45.setTop (mkF m 91 #[.val (.int u0), .val (.int u1), .val (.int (0 : Int32)), .val (.int (0 : Int32)), .val (.ref b1), .val (.ref b11), .val (.ref b32), .unset] [(.int (1 : Int32))])) tt
      refine XS.istore X45.here hx rfl (hb hby at_91) rfl (l' := #[.val (.int u0), .val (.int u1), .val (.int (0 : Int32)), .val (.int (0 : Int32)), .val (.ref b1), .val (.ref b11), .val (.ref b32), .val (.int (1 : Int32))]) rfl ?_
      show Steps p.tables e below (T45.setTop (mkF m 93 #[.val (.int u0), .val (.int u1), .val (.int (0 : Int32)), .val (.int (0 : Int32)), .val (.ref b1), .val (.ref b11), .val (.ref b32), .val (.int (1 : Int32))] [])) tt
      refine XS.aload X45.here hx rfl (hb hby at_93) rfl rfl ?_
      show Steps p.tables e below (T45.setTop (mkF m 95 #[.val (.int u0), .val (.int u1), .val (.int (0 : Int32)), .val (.int (0 : Int32)), .val (.ref b1), .val (.ref b11), .val (.ref b32), .val (.int (1 : Int32))] [(.ref b1)])) tt
      refine XS.iloadN X45.here hx rfl (hb hby at_95) rfl ?_
      exact kk
    have f47 : Ary Z h45 b1 (.object "com/example/tavernlex/tavernlex/Container") [(.ref aP), (.ref aD)] := (((((((f38.ext E32).other W40 ne_b1_b32).other W41 ne_b1_b32).other W42 ne_b1_b32).other W43 ne_b1_b32).other W44 ne_b1_b32).other W45 ne_b1_b32)
    obtain ⟨cl48, Ar48, Sl48⟩ := id f47
    have hin48 := inA (cl := cl48) Sl48 (j := (0 : Int32)) (by decide) (Nat.le_of_ble_eq_true rfl)
    have hat48 : cl48.slots[((0 : Int32)).toNatClampNeg]? = some (.ref aP) := atA Sl48 rfl
    refine Goal.to (B := T45.setTop (mkF m 100 #[.val (.int u0), .val (.int u1), .val (.int (0 : Int32)), .val (.int (0 : Int32)), .val (.ref b1), .val (.ref b11), .val (.ref b32), .val (.int (1 : Int32))] [(.int (0 : Int32)), (.ref b11), (.ref aP)])) (fun tt kk => ?_) ?_
    · show Steps p.tables e below (T45.setTop (mkF m 96 #[.val (.int u0), .val (.int u1), .val (.int (0 : Int32)), .val (.int (0 : Int32)), .val (.ref b1), .val (.ref b11), .val (.ref b32), .val (.int (1 : Int32))] [(.int (0 : Int32)), (.ref b1)])) tt
      refine X45.aaload hx (j := (0 : Int32)) (v := (.ref aP)) (by rw [e45]; exact Ar48.1) (State.isArrayOf_alike hZ.alike Ar48.2.1) rfl Ar48.2.2 hin48 hat48 (g := (mkF m 96 #[.val (.int u0), .val (.int u1), .val (.int (0 : Int32)), .val (.int (0 : Int32)), .val (.ref b1), .val (.ref b11), .val (.ref b32), .val (.int (1 : Int32))] [(.int (0 : Int32)), (.ref b1)])) rfl rfl (hb hby at_96) _ ?_
      show Steps p.tables e below (T45.setTop (mkF m 97 #[.val (.int u0), .val (.int u1), .val (.int (0 : Int32)), .val (.int (0 : Int32)), .val (.ref b1), .val (.ref b11), .val (.ref b32), .val (.int (1 : Int32))] [(.ref aP)])) tt
      refine XS.aload X45.here hx rfl (hb hby at_97) rfl rfl ?_
      show Steps p.tables e below (T45.setTop (mkF m 99 #[.val (.int u0), .val (.int u1), .val (.int (0 : Int32)), .val (.int (0 : Int32)), .val (.ref b1), .val (.ref b11), .val (.ref b32), .val (.int (1 : Int32))] [(.ref b11), (.ref aP)])) tt
      refine XS.iloadN X45.here hx rfl (hb hby at_99) rfl ?_
      exact kk
    have f49 : Ary Z h45 b11 (.object "com/example/tavernlex/tavernlex/Beverage") [(.ref aM), (.ref aW), (.ref aS)] := (((((((V29.ext E32).other W40 ne_b11_b32).other W41 ne_b11_b32).other W42 ne_b11_b32).other W43 ne_b11_b32).other W44 ne_b11_b32).other W45 ne_b11_b32)
    obtain ⟨cl50, Ar50, Sl50⟩ := id f49
    have hin50 := inA (cl := cl50) Sl50 (j := (0 : Int32)) (by decide) (Nat.le_of_ble_eq_true rfl)
    have hat50 : cl50.slots[((0 : Int32)).toNatClampNeg]? = some (.ref aM) := atA Sl50 rfl
    refine Goal.to (B := T45.setTop (mkF m 101 #[.val (.int u0), .val (.int u1), .val (.int (0 : Int32)), .val (.int (0 : Int32)), .val (.ref b1), .val (.ref b11), .val (.ref b32), .val (.int (1 : Int32))] [(.ref aM), (.ref aP)])) (fun tt kk => ?_) ?_
    · show Steps p.tables e below (T45.setTop (mkF m 100 #[.val (.int u0), .val (.int u1), .val (.int (0 : Int32)), .val (.int (0 : Int32)), .val (.ref b1), .val (.ref b11), .val (.ref b32), .val (.int (1 : Int32))] [(.int (0 : Int32)), (.ref b11), (.ref aP)])) tt
      refine X45.aaload hx (j := (0 : Int32)) (v := (.ref aM)) (by rw [e45]; exact Ar50.1) (State.isArrayOf_alike hZ.alike Ar50.2.1) rfl Ar50.2.2 hin50 hat50 (g := (mkF m 100 #[.val (.int u0), .val (.int u1), .val (.int (0 : Int32)), .val (.int (0 : Int32)), .val (.ref b1), .val (.ref b11), .val (.ref b32), .val (.int (1 : Int32))] [(.int (0 : Int32)), (.ref b11), (.ref aP)])) rfl rfl (hb hby at_100) _ ?_
      exact kk
    have f51 : StaN Z n0 h45 "com/example/tavernlex/tavernlex/Container" "PACKAGE" "Lcom/example/tavernlex/tavernlex/Container;" (.ref aP) := (((((((((((((f2.wr W4).wr W8).ext E11).wr W20).wr W24).wr W29).ext E32).wr W40).wr W41).wr W42).wr W43).wr W44).wr W45)
    have f52 : n0 ≤ h45.size := (Nat.le_trans (Nat.le_trans (Nat.le_trans (Nat.le_trans (Nat.le_trans (Nat.le_trans (Nat.le_trans f39 E32.1) (Keep.of_wr W40).1) (Keep.of_wr W41).1) (Keep.of_wr W42).1) (Keep.of_wr W43).1) (Keep.of_wr W44).1) (Keep.of_wr W45).1)
    have f54 : Exa Z h45 aP "com/example/tavernlex/tavernlex/Container" := (((((((f33.ext E32).wr W40).wr W41).wr W42).wr W43).wr W44).wr W45)
    obtain ⟨cq53, kq53, q53a, q53b, q53c⟩ := isOf hZ e45 f54
    obtain ⟨_, _, ⟨T53, L53, k53, n53⟩, -, X53, ⟨Lc53, hQ53, l53, y53, z53⟩, st53⟩ := X45.virtualBack hx (y := (⟨"com/example/tavernlex/tavernlex/Container", "holds", "(Lcom/example/tavernlex/tavernlex/Beverage;)Z"⟩ : MethodName)) (z := (⟨"com/example/tavernlex/tavernlex/Container", "holds", "(Lcom/example/tavernlex/tavernlex/Beverage;)Z"⟩ : MethodName)) hown (mvT hZ (hw _ (mw 20 rfl))) (mvT hZ (hw _ (mw 21 rfl))) (notFace_of_selects (args := #[]) (mvT hZ (hw _ (mw 23 rfl)))) (mvT hZ (hw _ (mw 23 rfl))) (mvT hZ (hw _ (mw 22 rfl))) (by decide) (backOf (W := 0) (rmhp l Z a0 hw [] aP aM h45 n0 f52 f51) hZ (hw _ (mw 24 rfl)) (hw _ (mw 4 rfl)) (by decide) (by decide)) q53a q53c (g := (mkF m 101 #[.val (.int u0), .val (.int u1), .val (.int (0 : Int32)), .val (.int (0 : Int32)), .val (.ref b1), .val (.ref b11), .val (.ref b32), .val (.int (1 : Int32))] [(.ref aM), (.ref aP)])) rfl (by rw [hml]; rfl) (Steps.refl _) (argsL := [(.ref aM)]) (rest := []) (lenOf pd_0 rfl) rfl (by show 2 * 0 + _ ≤ _; exact Nat.le_of_eq rfl) (hb hby at_101) (fun _ _ => ⟨rfl, e45, (by decide : 3 + 0 ≤ _), (by decide : 11 + 0 ≤ _)⟩)
    dsimp only [Pt.U, Pt.locs, Pt.cells, Pt.slots] at X53 l53 y53 z53 st53 hQ53
    subst l53 y53 z53
    obtain ⟨rfl, N53q, e53⟩ := hQ53
    have N53 := Fr.app N45 N53q
    refine Goal.tr (B := T53.setTop (mkF m 104 #[.val (.int u0), .val (.int u1), .val (.int (0 : Int32)), .val (.int (0 : Int32)), .val (.ref b1), .val (.ref b11), .val (.ref b32), .val (.int (1 : Int32))] [(.int (1 : Int32))])) st53 ?_
    refine Goal.to (B := T53.setTop (mkF m 114 #[.val (.int u0), .val (.int u1), .val (.int (0 : Int32)), .val (.int (0 : Int32)), .val (.ref b1), .val (.ref b11), .val (.ref b32), .val (.int (1 : Int32))] [(.int (1 : Int32))])) (fun tt kk => ?_) ?_
    · show Steps p.tables e below (T53.setTop (mkF m 104 #[.val (.int u0), .val (.int u1), .val (.int (0 : Int32)), .val (.int (0 : Int32)), .val (.ref b1), .val (.ref b11), .val (.ref b32), .val (.int (1 : Int32))] [(.int (1 : Int32))])) tt
      refine XS.iload X53.here hx rfl (hb hby at_104) rfl ?_
      show Steps p.tables e below (T53.setTop (mkF m 106 #[.val (.int u0), .val (.int u1), .val (.int (0 : Int32)), .val (.int (0 : Int32)), .val (.ref b1), .val (.ref b11), .val (.ref b32), .val (.int (1 : Int32))] [(.int (1 : Int32)), (.int (1 : Int32))])) tt
      refine XS.icmpNo X53.here hx rfl (hb hby at_106) rfl (teq (rfl : (1 : Int32) = (1 : Int32))).2 ?_
      show Steps p.tables e below (T53.setTop (mkF m 109 #[.val (.int u0), .val (.int u1), .val (.int (0 : Int32)), .val (.int (0 : Int32)), .val (.ref b1), .val (.ref b11), .val (.ref b32), .val (.int (1 : Int32))] [])) tt
      refine XS.iconst X53.here hx rfl (hb hby at_109) ?_
      show Steps p.tables e below (T53.setTop (mkF m 110 #[.val (.int u0), .val (.int u1), .val (.int (0 : Int32)), .val (.int (0 : Int32)), .val (.ref b1), .val (.ref b11), .val (.ref b32), .val (.int (1 : Int32))] [(.int (1 : Int32))])) tt
      refine XS.goto X53.here hx rfl (pc0 := 110) (pc' := 114) rfl (hb hby at_110) (by decide) (by decide) ?_
      exact kk
    exact Goal.retV X53 hx Bd.returns rfl (Or.inl ⟨rfl, Or.inr (Or.inl rfl), _, rfl⟩) (hb hby at_114) hlk e53 ⟨rfl, N53⟩ (by decide) (by decide)
  · refine Goal.to (B := T45.setTop (mkF m 90 #[.val (.int u0), .val (.int u1), .val (.int (0 : Int32)), .val (.int (1 : Int32)), .val (.ref b1), .val (.ref b11), .val (.ref b32), .unset] [(.int (1 : Int32)), (.ref b32)])) (fun tt kk => ?_) ?_
    · show Steps p.tables e below (T45.setTop (mkF m 83 #[.val (.int u0), .val (.int u1), .val (.int (0 : Int32)), .val (.int (1 : Int32)), .val (.ref b1), .val (.ref b11), .val (.ref b32), .unset] [])) tt
      refine XS.aload X45.here hx rfl (hb hby at_83) rfl rfl ?_
      show Steps p.tables e below (T45.setTop (mkF m 85 #[.val (.int u0), .val (.int u1), .val (.int (0 : Int32)), .val (.int (1 : Int32)), .val (.ref b1), .val (.ref b11), .val (.ref b32), .unset] [(.ref b32)])) tt
      refine XS.iloadN X45.here hx rfl (hb hby at_85) rfl ?_
      show Steps p.tables e below (T45.setTop (mkF m 86 #[.val (.int u0), .val (.int u1), .val (.int (0 : Int32)), .val (.int (1 : Int32)), .val (.ref b1), .val (.ref b11), .val (.ref b32), .unset] [(.int (0 : Int32)), (.ref b32)])) tt
      refine XS.iconst X45.here hx rfl (hb hby at_86) ?_
      show Steps p.tables e below (T45.setTop (mkF m 87 #[.val (.int u0), .val (.int u1), .val (.int (0 : Int32)), .val (.int (1 : Int32)), .val (.ref b1), .val (.ref b11), .val (.ref b32), .unset] [(.int (3 : Int32)), (.int (0 : Int32)), (.ref b32)])) tt
      refine XS.imul X45.here hx rfl (hb hby at_87) rfl ?_
      show Steps p.tables e below (T45.setTop (mkF m 88 #[.val (.int u0), .val (.int u1), .val (.int (0 : Int32)), .val (.int (1 : Int32)), .val (.ref b1), .val (.ref b11), .val (.ref b32), .unset] [(.int (0 : Int32)), (.ref b32)])) tt
      refine XS.iloadN X45.here hx rfl (hb hby at_88) rfl ?_
      show Steps p.tables e below (T45.setTop (mkF m 89 #[.val (.int u0), .val (.int u1), .val (.int (0 : Int32)), .val (.int (1 : Int32)), .val (.ref b1), .val (.ref b11), .val (.ref b32), .unset] [(.int (1 : Int32)), (.int (0 : Int32)), (.ref b32)])) tt
      refine XS.iadd X45.here hx rfl (hb hby at_89) rfl ?_
      exact kk
    obtain ⟨cl55, Ar55, Sl55⟩ := id V45
    have hin55 := inA (cl := cl55) Sl55 (j := (1 : Int32)) (by decide) (Nat.le_of_ble_eq_true rfl)
    have hat55 : cl55.slots[((1 : Int32)).toNatClampNeg]? = some (.int (1 : Int32)) := atA Sl55 rfl
    refine Goal.to (B := T45.setTop (mkF m 96 #[.val (.int u0), .val (.int u1), .val (.int (0 : Int32)), .val (.int (1 : Int32)), .val (.ref b1), .val (.ref b11), .val (.ref b32), .val (.int (1 : Int32))] [(.int (0 : Int32)), (.ref b1)])) (fun tt kk => ?_) ?_
    · show Steps p.tables e below (T45.setTop (mkF m 90 #[.val (.int u0), .val (.int u1), .val (.int (0 : Int32)), .val (.int (1 : Int32)), .val (.ref b1), .val (.ref b11), .val (.ref b32), .unset] [(.int (1 : Int32)), (.ref b32)])) tt
      refine X45.baloadBooleans hx (j := (1 : Int32)) (v := (.int (1 : Int32))) (by rw [e45]; exact Ar55.1) (State.isArrayOf_alike hZ.alike Ar55.2.1) Ar55.2.2 hin55 hat55 (g := (mkF m 90 #[.val (.int u0), .val (.int u1), .val (.int (0 : Int32)), .val (.int (1 : Int32)), .val (.ref b1), .val (.ref b11), .val (.ref b32), .unset] [(.int (1 : Int32)), (.ref b32)])) rfl rfl (hb hby at_90) _ ?_
      show Steps p.tables e below (T45.setTop (mkF m 91 #[.val (.int u0), .val (.int u1), .val (.int (0 : Int32)), .val (.int (1 : Int32)), .val (.ref b1), .val (.ref b11), .val (.ref b32), .unset] [(.int (1 : Int32))])) tt
      refine XS.istore X45.here hx rfl (hb hby at_91) rfl (l' := #[.val (.int u0), .val (.int u1), .val (.int (0 : Int32)), .val (.int (1 : Int32)), .val (.ref b1), .val (.ref b11), .val (.ref b32), .val (.int (1 : Int32))]) rfl ?_
      show Steps p.tables e below (T45.setTop (mkF m 93 #[.val (.int u0), .val (.int u1), .val (.int (0 : Int32)), .val (.int (1 : Int32)), .val (.ref b1), .val (.ref b11), .val (.ref b32), .val (.int (1 : Int32))] [])) tt
      refine XS.aload X45.here hx rfl (hb hby at_93) rfl rfl ?_
      show Steps p.tables e below (T45.setTop (mkF m 95 #[.val (.int u0), .val (.int u1), .val (.int (0 : Int32)), .val (.int (1 : Int32)), .val (.ref b1), .val (.ref b11), .val (.ref b32), .val (.int (1 : Int32))] [(.ref b1)])) tt
      refine XS.iloadN X45.here hx rfl (hb hby at_95) rfl ?_
      exact kk
    have f56 : Ary Z h45 b1 (.object "com/example/tavernlex/tavernlex/Container") [(.ref aP), (.ref aD)] := (((((((f38.ext E32).other W40 ne_b1_b32).other W41 ne_b1_b32).other W42 ne_b1_b32).other W43 ne_b1_b32).other W44 ne_b1_b32).other W45 ne_b1_b32)
    obtain ⟨cl57, Ar57, Sl57⟩ := id f56
    have hin57 := inA (cl := cl57) Sl57 (j := (0 : Int32)) (by decide) (Nat.le_of_ble_eq_true rfl)
    have hat57 : cl57.slots[((0 : Int32)).toNatClampNeg]? = some (.ref aP) := atA Sl57 rfl
    refine Goal.to (B := T45.setTop (mkF m 100 #[.val (.int u0), .val (.int u1), .val (.int (0 : Int32)), .val (.int (1 : Int32)), .val (.ref b1), .val (.ref b11), .val (.ref b32), .val (.int (1 : Int32))] [(.int (1 : Int32)), (.ref b11), (.ref aP)])) (fun tt kk => ?_) ?_
    · show Steps p.tables e below (T45.setTop (mkF m 96 #[.val (.int u0), .val (.int u1), .val (.int (0 : Int32)), .val (.int (1 : Int32)), .val (.ref b1), .val (.ref b11), .val (.ref b32), .val (.int (1 : Int32))] [(.int (0 : Int32)), (.ref b1)])) tt
      refine X45.aaload hx (j := (0 : Int32)) (v := (.ref aP)) (by rw [e45]; exact Ar57.1) (State.isArrayOf_alike hZ.alike Ar57.2.1) rfl Ar57.2.2 hin57 hat57 (g := (mkF m 96 #[.val (.int u0), .val (.int u1), .val (.int (0 : Int32)), .val (.int (1 : Int32)), .val (.ref b1), .val (.ref b11), .val (.ref b32), .val (.int (1 : Int32))] [(.int (0 : Int32)), (.ref b1)])) rfl rfl (hb hby at_96) _ ?_
      show Steps p.tables e below (T45.setTop (mkF m 97 #[.val (.int u0), .val (.int u1), .val (.int (0 : Int32)), .val (.int (1 : Int32)), .val (.ref b1), .val (.ref b11), .val (.ref b32), .val (.int (1 : Int32))] [(.ref aP)])) tt
      refine XS.aload X45.here hx rfl (hb hby at_97) rfl rfl ?_
      show Steps p.tables e below (T45.setTop (mkF m 99 #[.val (.int u0), .val (.int u1), .val (.int (0 : Int32)), .val (.int (1 : Int32)), .val (.ref b1), .val (.ref b11), .val (.ref b32), .val (.int (1 : Int32))] [(.ref b11), (.ref aP)])) tt
      refine XS.iloadN X45.here hx rfl (hb hby at_99) rfl ?_
      exact kk
    have f58 : Ary Z h45 b11 (.object "com/example/tavernlex/tavernlex/Beverage") [(.ref aM), (.ref aW), (.ref aS)] := (((((((V29.ext E32).other W40 ne_b11_b32).other W41 ne_b11_b32).other W42 ne_b11_b32).other W43 ne_b11_b32).other W44 ne_b11_b32).other W45 ne_b11_b32)
    obtain ⟨cl59, Ar59, Sl59⟩ := id f58
    have hin59 := inA (cl := cl59) Sl59 (j := (1 : Int32)) (by decide) (Nat.le_of_ble_eq_true rfl)
    have hat59 : cl59.slots[((1 : Int32)).toNatClampNeg]? = some (.ref aW) := atA Sl59 rfl
    refine Goal.to (B := T45.setTop (mkF m 101 #[.val (.int u0), .val (.int u1), .val (.int (0 : Int32)), .val (.int (1 : Int32)), .val (.ref b1), .val (.ref b11), .val (.ref b32), .val (.int (1 : Int32))] [(.ref aW), (.ref aP)])) (fun tt kk => ?_) ?_
    · show Steps p.tables e below (T45.setTop (mkF m 100 #[.val (.int u0), .val (.int u1), .val (.int (0 : Int32)), .val (.int (1 : Int32)), .val (.ref b1), .val (.ref b11), .val (.ref b32), .val (.int (1 : Int32))] [(.int (1 : Int32)), (.ref b11), (.ref aP)])) tt
      refine X45.aaload hx (j := (1 : Int32)) (v := (.ref aW)) (by rw [e45]; exact Ar59.1) (State.isArrayOf_alike hZ.alike Ar59.2.1) rfl Ar59.2.2 hin59 hat59 (g := (mkF m 100 #[.val (.int u0), .val (.int u1), .val (.int (0 : Int32)), .val (.int (1 : Int32)), .val (.ref b1), .val (.ref b11), .val (.ref b32), .val (.int (1 : Int32))] [(.int (1 : Int32)), (.ref b11), (.ref aP)])) rfl rfl (hb hby at_100) _ ?_
      exact kk
    have f60 : StaN Z n0 h45 "com/example/tavernlex/tavernlex/Container" "PACKAGE" "Lcom/example/tavernlex/tavernlex/Container;" (.ref aP) := (((((((((((((f2.wr W4).wr W8).ext E11).wr W20).wr W24).wr W29).ext E32).wr W40).wr W41).wr W42).wr W43).wr W44).wr W45)
    have f61 : n0 ≤ h45.size := (Nat.le_trans (Nat.le_trans (Nat.le_trans (Nat.le_trans (Nat.le_trans (Nat.le_trans (Nat.le_trans f39 E32.1) (Keep.of_wr W40).1) (Keep.of_wr W41).1) (Keep.of_wr W42).1) (Keep.of_wr W43).1) (Keep.of_wr W44).1) (Keep.of_wr W45).1)
    have f63 : Exa Z h45 aP "com/example/tavernlex/tavernlex/Container" := (((((((f33.ext E32).wr W40).wr W41).wr W42).wr W43).wr W44).wr W45)
    obtain ⟨cq62, kq62, q62a, q62b, q62c⟩ := isOf hZ e45 f63
    obtain ⟨_, _, ⟨T62, L62, k62, n62⟩, -, X62, ⟨Lc62, hQ62, l62, y62, z62⟩, st62⟩ := X45.virtualBack hx (y := (⟨"com/example/tavernlex/tavernlex/Container", "holds", "(Lcom/example/tavernlex/tavernlex/Beverage;)Z"⟩ : MethodName)) (z := (⟨"com/example/tavernlex/tavernlex/Container", "holds", "(Lcom/example/tavernlex/tavernlex/Beverage;)Z"⟩ : MethodName)) hown (mvT hZ (hw _ (mw 20 rfl))) (mvT hZ (hw _ (mw 21 rfl))) (notFace_of_selects (args := #[]) (mvT hZ (hw _ (mw 23 rfl)))) (mvT hZ (hw _ (mw 23 rfl))) (mvT hZ (hw _ (mw 22 rfl))) (by decide) (backOf (W := 0) (rmhp l Z a0 hw [] aP aW h45 n0 f61 f60) hZ (hw _ (mw 24 rfl)) (hw _ (mw 4 rfl)) (by decide) (by decide)) q62a q62c (g := (mkF m 101 #[.val (.int u0), .val (.int u1), .val (.int (0 : Int32)), .val (.int (1 : Int32)), .val (.ref b1), .val (.ref b11), .val (.ref b32), .val (.int (1 : Int32))] [(.ref aW), (.ref aP)])) rfl (by rw [hml]; rfl) (Steps.refl _) (argsL := [(.ref aW)]) (rest := []) (lenOf pd_0 rfl) rfl (by show 2 * 0 + _ ≤ _; exact Nat.le_of_eq rfl) (hb hby at_101) (fun _ _ => ⟨rfl, e45, (by decide : 3 + 0 ≤ _), (by decide : 11 + 0 ≤ _)⟩)
    dsimp only [Pt.U, Pt.locs, Pt.cells, Pt.slots] at X62 l62 y62 z62 st62 hQ62
    subst l62 y62 z62
    obtain ⟨rfl, N62q, e62⟩ := hQ62
    have N62 := Fr.app N45 N62q
    refine Goal.tr (B := T62.setTop (mkF m 104 #[.val (.int u0), .val (.int u1), .val (.int (0 : Int32)), .val (.int (1 : Int32)), .val (.ref b1), .val (.ref b11), .val (.ref b32), .val (.int (1 : Int32))] [(.int (1 : Int32))])) st62 ?_
    refine Goal.to (B := T62.setTop (mkF m 114 #[.val (.int u0), .val (.int u1), .val (.int (0 : Int32)), .val (.int (1 : Int32)), .val (.ref b1), .val (.ref b11), .val (.ref b32), .val (.int (1 : Int32))] [(.int (1 : Int32))])) (fun tt kk => ?_) ?_
    · show Steps p.tables e below (T62.setTop (mkF m 104 #[.val (.int u0), .val (.int u1), .val (.int (0 : Int32)), .val (.int (1 : Int32)), .val (.ref b1), .val (.ref b11), .val (.ref b32), .val (.int (1 : Int32))] [(.int (1 : Int32))])) tt
      refine XS.iload X62.here hx rfl (hb hby at_104) rfl ?_
      show Steps p.tables e below (T62.setTop (mkF m 106 #[.val (.int u0), .val (.int u1), .val (.int (0 : Int32)), .val (.int (1 : Int32)), .val (.ref b1), .val (.ref b11), .val (.ref b32), .val (.int (1 : Int32))] [(.int (1 : Int32)), (.int (1 : Int32))])) tt
      refine XS.icmpNo X62.here hx rfl (hb hby at_106) rfl (teq (rfl : (1 : Int32) = (1 : Int32))).2 ?_
      show Steps p.tables e below (T62.setTop (mkF m 109 #[.val (.int u0), .val (.int u1), .val (.int (0 : Int32)), .val (.int (1 : Int32)), .val (.ref b1), .val (.ref b11), .val (.ref b32), .val (.int (1 : Int32))] [])) tt
      refine XS.iconst X62.here hx rfl (hb hby at_109) ?_
      show Steps p.tables e below (T62.setTop (mkF m 110 #[.val (.int u0), .val (.int u1), .val (.int (0 : Int32)), .val (.int (1 : Int32)), .val (.ref b1), .val (.ref b11), .val (.ref b32), .val (.int (1 : Int32))] [(.int (1 : Int32))])) tt
      refine XS.goto X62.here hx rfl (pc0 := 110) (pc' := 114) rfl (hb hby at_110) (by decide) (by decide) ?_
      exact kk
    exact Goal.retV X62 hx Bd.returns rfl (Or.inl ⟨rfl, Or.inr (Or.inl rfl), _, rfl⟩) (hb hby at_114) hlk e62 ⟨rfl, N62⟩ (by decide) (by decide)
  · refine Goal.to (B := T45.setTop (mkF m 90 #[.val (.int u0), .val (.int u1), .val (.int (0 : Int32)), .val (.int (2 : Int32)), .val (.ref b1), .val (.ref b11), .val (.ref b32), .unset] [(.int (2 : Int32)), (.ref b32)])) (fun tt kk => ?_) ?_
    · show Steps p.tables e below (T45.setTop (mkF m 83 #[.val (.int u0), .val (.int u1), .val (.int (0 : Int32)), .val (.int (2 : Int32)), .val (.ref b1), .val (.ref b11), .val (.ref b32), .unset] [])) tt
      refine XS.aload X45.here hx rfl (hb hby at_83) rfl rfl ?_
      show Steps p.tables e below (T45.setTop (mkF m 85 #[.val (.int u0), .val (.int u1), .val (.int (0 : Int32)), .val (.int (2 : Int32)), .val (.ref b1), .val (.ref b11), .val (.ref b32), .unset] [(.ref b32)])) tt
      refine XS.iloadN X45.here hx rfl (hb hby at_85) rfl ?_
      show Steps p.tables e below (T45.setTop (mkF m 86 #[.val (.int u0), .val (.int u1), .val (.int (0 : Int32)), .val (.int (2 : Int32)), .val (.ref b1), .val (.ref b11), .val (.ref b32), .unset] [(.int (0 : Int32)), (.ref b32)])) tt
      refine XS.iconst X45.here hx rfl (hb hby at_86) ?_
      show Steps p.tables e below (T45.setTop (mkF m 87 #[.val (.int u0), .val (.int u1), .val (.int (0 : Int32)), .val (.int (2 : Int32)), .val (.ref b1), .val (.ref b11), .val (.ref b32), .unset] [(.int (3 : Int32)), (.int (0 : Int32)), (.ref b32)])) tt
      refine XS.imul X45.here hx rfl (hb hby at_87) rfl ?_
      show Steps p.tables e below (T45.setTop (mkF m 88 #[.val (.int u0), .val (.int u1), .val (.int (0 : Int32)), .val (.int (2 : Int32)), .val (.ref b1), .val (.ref b11), .val (.ref b32), .unset] [(.int (0 : Int32)), (.ref b32)])) tt
      refine XS.iloadN X45.here hx rfl (hb hby at_88) rfl ?_
      show Steps p.tables e below (T45.setTop (mkF m 89 #[.val (.int u0), .val (.int u1), .val (.int (0 : Int32)), .val (.int (2 : Int32)), .val (.ref b1), .val (.ref b11), .val (.ref b32), .unset] [(.int (2 : Int32)), (.int (0 : Int32)), (.ref b32)])) tt
      refine XS.iadd X45.here hx rfl (hb hby at_89) rfl ?_
      exact kk
    obtain ⟨cl64, Ar64, Sl64⟩ := id V45
    have hin64 := inA (cl := cl64) Sl64 (j := (2 : Int32)) (by decide) (Nat.le_of_ble_eq_true rfl)
    have hat64 : cl64.slots[((2 : Int32)).toNatClampNeg]? = some (.int (1 : Int32)) := atA Sl64 rfl
    refine Goal.to (B := T45.setTop (mkF m 96 #[.val (.int u0), .val (.int u1), .val (.int (0 : Int32)), .val (.int (2 : Int32)), .val (.ref b1), .val (.ref b11), .val (.ref b32), .val (.int (1 : Int32))] [(.int (0 : Int32)), (.ref b1)])) (fun tt kk => ?_) ?_
    · show Steps p.tables e below (T45.setTop (mkF m 90 #[.val (.int u0), .val (.int u1), .val (.int (0 : Int32)), .val (.int (2 : Int32)), .val (.ref b1), .val (.ref b11), .val (.ref b32), .unset] [(.int (2 : Int32)), (.ref b32)])) tt
      refine X45.baloadBooleans hx (j := (2 : Int32)) (v := (.int (1 : Int32))) (by rw [e45]; exact Ar64.1) (State.isArrayOf_alike hZ.alike Ar64.2.1) Ar64.2.2 hin64 hat64 (g := (mkF m 90 #[.val (.int u0), .val (.int u1), .val (.int (0 : Int32)), .val (.int (2 : Int32)), .val (.ref b1), .val (.ref b11), .val (.ref b32), .unset] [(.int (2 : Int32)), (.ref b32)])) rfl rfl (hb hby at_90) _ ?_
      show Steps p.tables e below (T45.setTop (mkF m 91 #[.val (.int u0), .val (.int u1), .val (.int (0 : Int32)), .val (.int (2 : Int32)), .val (.ref b1), .val (.ref b11), .val (.ref b32), .unset] [(.int (1 : Int32))])) tt
      refine XS.istore X45.here hx rfl (hb hby at_91) rfl (l' := #[.val (.int u0), .val (.int u1), .val (.int (0 : Int32)), .val (.int (2 : Int32)), .val (.ref b1), .val (.ref b11), .val (.ref b32), .val (.int (1 : Int32))]) rfl ?_
      show Steps p.tables e below (T45.setTop (mkF m 93 #[.val (.int u0), .val (.int u1), .val (.int (0 : Int32)), .val (.int (2 : Int32)), .val (.ref b1), .val (.ref b11), .val (.ref b32), .val (.int (1 : Int32))] [])) tt
      refine XS.aload X45.here hx rfl (hb hby at_93) rfl rfl ?_
      show Steps p.tables e below (T45.setTop (mkF m 95 #[.val (.int u0), .val (.int u1), .val (.int (0 : Int32)), .val (.int (2 : Int32)), .val (.ref b1), .val (.ref b11), .val (.ref b32), .val (.int (1 : Int32))] [(.ref b1)])) tt
      refine XS.iloadN X45.here hx rfl (hb hby at_95) rfl ?_
      exact kk
    have f65 : Ary Z h45 b1 (.object "com/example/tavernlex/tavernlex/Container") [(.ref aP), (.ref aD)] := (((((((f38.ext E32).other W40 ne_b1_b32).other W41 ne_b1_b32).other W42 ne_b1_b32).other W43 ne_b1_b32).other W44 ne_b1_b32).other W45 ne_b1_b32)
    obtain ⟨cl66, Ar66, Sl66⟩ := id f65
    have hin66 := inA (cl := cl66) Sl66 (j := (0 : Int32)) (by decide) (Nat.le_of_ble_eq_true rfl)
    have hat66 : cl66.slots[((0 : Int32)).toNatClampNeg]? = some (.ref aP) := atA Sl66 rfl
    refine Goal.to (B := T45.setTop (mkF m 100 #[.val (.int u0), .val (.int u1), .val (.int (0 : Int32)), .val (.int (2 : Int32)), .val (.ref b1), .val (.ref b11), .val (.ref b32), .val (.int (1 : Int32))] [(.int (2 : Int32)), (.ref b11), (.ref aP)])) (fun tt kk => ?_) ?_
    · show Steps p.tables e below (T45.setTop (mkF m 96 #[.val (.int u0), .val (.int u1), .val (.int (0 : Int32)), .val (.int (2 : Int32)), .val (.ref b1), .val (.ref b11), .val (.ref b32), .val (.int (1 : Int32))] [(.int (0 : Int32)), (.ref b1)])) tt
      refine X45.aaload hx (j := (0 : Int32)) (v := (.ref aP)) (by rw [e45]; exact Ar66.1) (State.isArrayOf_alike hZ.alike Ar66.2.1) rfl Ar66.2.2 hin66 hat66 (g := (mkF m 96 #[.val (.int u0), .val (.int u1), .val (.int (0 : Int32)), .val (.int (2 : Int32)), .val (.ref b1), .val (.ref b11), .val (.ref b32), .val (.int (1 : Int32))] [(.int (0 : Int32)), (.ref b1)])) rfl rfl (hb hby at_96) _ ?_
      show Steps p.tables e below (T45.setTop (mkF m 97 #[.val (.int u0), .val (.int u1), .val (.int (0 : Int32)), .val (.int (2 : Int32)), .val (.ref b1), .val (.ref b11), .val (.ref b32), .val (.int (1 : Int32))] [(.ref aP)])) tt
      refine XS.aload X45.here hx rfl (hb hby at_97) rfl rfl ?_
      show Steps p.tables e below (T45.setTop (mkF m 99 #[.val (.int u0), .val (.int u1), .val (.int (0 : Int32)), .val (.int (2 : Int32)), .val (.ref b1), .val (.ref b11), .val (.ref b32), .val (.int (1 : Int32))] [(.ref b11), (.ref aP)])) tt
      refine XS.iloadN X45.here hx rfl (hb hby at_99) rfl ?_
      exact kk
    have f67 : Ary Z h45 b11 (.object "com/example/tavernlex/tavernlex/Beverage") [(.ref aM), (.ref aW), (.ref aS)] := (((((((V29.ext E32).other W40 ne_b11_b32).other W41 ne_b11_b32).other W42 ne_b11_b32).other W43 ne_b11_b32).other W44 ne_b11_b32).other W45 ne_b11_b32)
    obtain ⟨cl68, Ar68, Sl68⟩ := id f67
    have hin68 := inA (cl := cl68) Sl68 (j := (2 : Int32)) (by decide) (Nat.le_of_ble_eq_true rfl)
    have hat68 : cl68.slots[((2 : Int32)).toNatClampNeg]? = some (.ref aS) := atA Sl68 rfl
    refine Goal.to (B := T45.setTop (mkF m 101 #[.val (.int u0), .val (.int u1), .val (.int (0 : Int32)), .val (.int (2 : Int32)), .val (.ref b1), .val (.ref b11), .val (.ref b32), .val (.int (1 : Int32))] [(.ref aS), (.ref aP)])) (fun tt kk => ?_) ?_
    · show Steps p.tables e below (T45.setTop (mkF m 100 #[.val (.int u0), .val (.int u1), .val (.int (0 : Int32)), .val (.int (2 : Int32)), .val (.ref b1), .val (.ref b11), .val (.ref b32), .val (.int (1 : Int32))] [(.int (2 : Int32)), (.ref b11), (.ref aP)])) tt
      refine X45.aaload hx (j := (2 : Int32)) (v := (.ref aS)) (by rw [e45]; exact Ar68.1) (State.isArrayOf_alike hZ.alike Ar68.2.1) rfl Ar68.2.2 hin68 hat68 (g := (mkF m 100 #[.val (.int u0), .val (.int u1), .val (.int (0 : Int32)), .val (.int (2 : Int32)), .val (.ref b1), .val (.ref b11), .val (.ref b32), .val (.int (1 : Int32))] [(.int (2 : Int32)), (.ref b11), (.ref aP)])) rfl rfl (hb hby at_100) _ ?_
      exact kk
    have f69 : StaN Z n0 h45 "com/example/tavernlex/tavernlex/Container" "PACKAGE" "Lcom/example/tavernlex/tavernlex/Container;" (.ref aP) := (((((((((((((f2.wr W4).wr W8).ext E11).wr W20).wr W24).wr W29).ext E32).wr W40).wr W41).wr W42).wr W43).wr W44).wr W45)
    have f70 : n0 ≤ h45.size := (Nat.le_trans (Nat.le_trans (Nat.le_trans (Nat.le_trans (Nat.le_trans (Nat.le_trans (Nat.le_trans f39 E32.1) (Keep.of_wr W40).1) (Keep.of_wr W41).1) (Keep.of_wr W42).1) (Keep.of_wr W43).1) (Keep.of_wr W44).1) (Keep.of_wr W45).1)
    have f72 : Exa Z h45 aP "com/example/tavernlex/tavernlex/Container" := (((((((f33.ext E32).wr W40).wr W41).wr W42).wr W43).wr W44).wr W45)
    obtain ⟨cq71, kq71, q71a, q71b, q71c⟩ := isOf hZ e45 f72
    obtain ⟨_, _, ⟨T71, L71, k71, n71⟩, -, X71, ⟨Lc71, hQ71, l71, y71, z71⟩, st71⟩ := X45.virtualBack hx (y := (⟨"com/example/tavernlex/tavernlex/Container", "holds", "(Lcom/example/tavernlex/tavernlex/Beverage;)Z"⟩ : MethodName)) (z := (⟨"com/example/tavernlex/tavernlex/Container", "holds", "(Lcom/example/tavernlex/tavernlex/Beverage;)Z"⟩ : MethodName)) hown (mvT hZ (hw _ (mw 20 rfl))) (mvT hZ (hw _ (mw 21 rfl))) (notFace_of_selects (args := #[]) (mvT hZ (hw _ (mw 23 rfl)))) (mvT hZ (hw _ (mw 23 rfl))) (mvT hZ (hw _ (mw 22 rfl))) (by decide) (backOf (W := 0) (rmhp l Z a0 hw [] aP aS h45 n0 f70 f69) hZ (hw _ (mw 24 rfl)) (hw _ (mw 4 rfl)) (by decide) (by decide)) q71a q71c (g := (mkF m 101 #[.val (.int u0), .val (.int u1), .val (.int (0 : Int32)), .val (.int (2 : Int32)), .val (.ref b1), .val (.ref b11), .val (.ref b32), .val (.int (1 : Int32))] [(.ref aS), (.ref aP)])) rfl (by rw [hml]; rfl) (Steps.refl _) (argsL := [(.ref aS)]) (rest := []) (lenOf pd_0 rfl) rfl (by show 2 * 0 + _ ≤ _; exact Nat.le_of_eq rfl) (hb hby at_101) (fun _ _ => ⟨rfl, e45, (by decide : 3 + 0 ≤ _), (by decide : 11 + 0 ≤ _)⟩)
    dsimp only [Pt.U, Pt.locs, Pt.cells, Pt.slots] at X71 l71 y71 z71 st71 hQ71
    subst l71 y71 z71
    obtain ⟨rfl, N71q, e71⟩ := hQ71
    have N71 := Fr.app N45 N71q
    refine Goal.tr (B := T71.setTop (mkF m 104 #[.val (.int u0), .val (.int u1), .val (.int (0 : Int32)), .val (.int (2 : Int32)), .val (.ref b1), .val (.ref b11), .val (.ref b32), .val (.int (1 : Int32))] [(.int (1 : Int32))])) st71 ?_
    refine Goal.to (B := T71.setTop (mkF m 114 #[.val (.int u0), .val (.int u1), .val (.int (0 : Int32)), .val (.int (2 : Int32)), .val (.ref b1), .val (.ref b11), .val (.ref b32), .val (.int (1 : Int32))] [(.int (1 : Int32))])) (fun tt kk => ?_) ?_
    · show Steps p.tables e below (T71.setTop (mkF m 104 #[.val (.int u0), .val (.int u1), .val (.int (0 : Int32)), .val (.int (2 : Int32)), .val (.ref b1), .val (.ref b11), .val (.ref b32), .val (.int (1 : Int32))] [(.int (1 : Int32))])) tt
      refine XS.iload X71.here hx rfl (hb hby at_104) rfl ?_
      show Steps p.tables e below (T71.setTop (mkF m 106 #[.val (.int u0), .val (.int u1), .val (.int (0 : Int32)), .val (.int (2 : Int32)), .val (.ref b1), .val (.ref b11), .val (.ref b32), .val (.int (1 : Int32))] [(.int (1 : Int32)), (.int (1 : Int32))])) tt
      refine XS.icmpNo X71.here hx rfl (hb hby at_106) rfl (teq (rfl : (1 : Int32) = (1 : Int32))).2 ?_
      show Steps p.tables e below (T71.setTop (mkF m 109 #[.val (.int u0), .val (.int u1), .val (.int (0 : Int32)), .val (.int (2 : Int32)), .val (.ref b1), .val (.ref b11), .val (.ref b32), .val (.int (1 : Int32))] [])) tt
      refine XS.iconst X71.here hx rfl (hb hby at_109) ?_
      show Steps p.tables e below (T71.setTop (mkF m 110 #[.val (.int u0), .val (.int u1), .val (.int (0 : Int32)), .val (.int (2 : Int32)), .val (.ref b1), .val (.ref b11), .val (.ref b32), .val (.int (1 : Int32))] [(.int (1 : Int32))])) tt
      refine XS.goto X71.here hx rfl (pc0 := 110) (pc' := 114) rfl (hb hby at_110) (by decide) (by decide) ?_
      exact kk
    exact Goal.retV X71 hx Bd.returns rfl (Or.inl ⟨rfl, Or.inr (Or.inl rfl), _, rfl⟩) (hb hby at_114) hlk e71 ⟨rfl, N71⟩ (by decide) (by decide)
  · refine Goal.to (B := T45.setTop (mkF m 90 #[.val (.int u0), .val (.int u1), .val (.int (1 : Int32)), .val (.int (0 : Int32)), .val (.ref b1), .val (.ref b11), .val (.ref b32), .unset] [(.int (3 : Int32)), (.ref b32)])) (fun tt kk => ?_) ?_
    · show Steps p.tables e below (T45.setTop (mkF m 83 #[.val (.int u0), .val (.int u1), .val (.int (1 : Int32)), .val (.int (0 : Int32)), .val (.ref b1), .val (.ref b11), .val (.ref b32), .unset] [])) tt
      refine XS.aload X45.here hx rfl (hb hby at_83) rfl rfl ?_
      show Steps p.tables e below (T45.setTop (mkF m 85 #[.val (.int u0), .val (.int u1), .val (.int (1 : Int32)), .val (.int (0 : Int32)), .val (.ref b1), .val (.ref b11), .val (.ref b32), .unset] [(.ref b32)])) tt
      refine XS.iloadN X45.here hx rfl (hb hby at_85) rfl ?_
      show Steps p.tables e below (T45.setTop (mkF m 86 #[.val (.int u0), .val (.int u1), .val (.int (1 : Int32)), .val (.int (0 : Int32)), .val (.ref b1), .val (.ref b11), .val (.ref b32), .unset] [(.int (1 : Int32)), (.ref b32)])) tt
      refine XS.iconst X45.here hx rfl (hb hby at_86) ?_
      show Steps p.tables e below (T45.setTop (mkF m 87 #[.val (.int u0), .val (.int u1), .val (.int (1 : Int32)), .val (.int (0 : Int32)), .val (.ref b1), .val (.ref b11), .val (.ref b32), .unset] [(.int (3 : Int32)), (.int (1 : Int32)), (.ref b32)])) tt
      refine XS.imul X45.here hx rfl (hb hby at_87) rfl ?_
      show Steps p.tables e below (T45.setTop (mkF m 88 #[.val (.int u0), .val (.int u1), .val (.int (1 : Int32)), .val (.int (0 : Int32)), .val (.ref b1), .val (.ref b11), .val (.ref b32), .unset] [(.int (3 : Int32)), (.ref b32)])) tt
      refine XS.iloadN X45.here hx rfl (hb hby at_88) rfl ?_
      show Steps p.tables e below (T45.setTop (mkF m 89 #[.val (.int u0), .val (.int u1), .val (.int (1 : Int32)), .val (.int (0 : Int32)), .val (.ref b1), .val (.ref b11), .val (.ref b32), .unset] [(.int (0 : Int32)), (.int (3 : Int32)), (.ref b32)])) tt
      refine XS.iadd X45.here hx rfl (hb hby at_89) rfl ?_
      exact kk
    obtain ⟨cl73, Ar73, Sl73⟩ := id V45
    have hin73 := inA (cl := cl73) Sl73 (j := (3 : Int32)) (by decide) (Nat.le_of_ble_eq_true rfl)
    have hat73 : cl73.slots[((3 : Int32)).toNatClampNeg]? = some (.int (1 : Int32)) := atA Sl73 rfl
    refine Goal.to (B := T45.setTop (mkF m 96 #[.val (.int u0), .val (.int u1), .val (.int (1 : Int32)), .val (.int (0 : Int32)), .val (.ref b1), .val (.ref b11), .val (.ref b32), .val (.int (1 : Int32))] [(.int (1 : Int32)), (.ref b1)])) (fun tt kk => ?_) ?_
    · show Steps p.tables e below (T45.setTop (mkF m 90 #[.val (.int u0), .val (.int u1), .val (.int (1 : Int32)), .val (.int (0 : Int32)), .val (.ref b1), .val (.ref b11), .val (.ref b32), .unset] [(.int (3 : Int32)), (.ref b32)])) tt
      refine X45.baloadBooleans hx (j := (3 : Int32)) (v := (.int (1 : Int32))) (by rw [e45]; exact Ar73.1) (State.isArrayOf_alike hZ.alike Ar73.2.1) Ar73.2.2 hin73 hat73 (g := (mkF m 90 #[.val (.int u0), .val (.int u1), .val (.int (1 : Int32)), .val (.int (0 : Int32)), .val (.ref b1), .val (.ref b11), .val (.ref b32), .unset] [(.int (3 : Int32)), (.ref b32)])) rfl rfl (hb hby at_90) _ ?_
      show Steps p.tables e below (T45.setTop (mkF m 91 #[.val (.int u0), .val (.int u1), .val (.int (1 : Int32)), .val (.int (0 : Int32)), .val (.ref b1), .val (.ref b11), .val (.ref b32), .unset] [(.int (1 : Int32))])) tt
      refine XS.istore X45.here hx rfl (hb hby at_91) rfl (l' := #[.val (.int u0), .val (.int u1), .val (.int (1 : Int32)), .val (.int (0 : Int32)), .val (.ref b1), .val (.ref b11), .val (.ref b32), .val (.int (1 : Int32))]) rfl ?_
      show Steps p.tables e below (T45.setTop (mkF m 93 #[.val (.int u0), .val (.int u1), .val (.int (1 : Int32)), .val (.int (0 : Int32)), .val (.ref b1), .val (.ref b11), .val (.ref b32), .val (.int (1 : Int32))] [])) tt
      refine XS.aload X45.here hx rfl (hb hby at_93) rfl rfl ?_
      show Steps p.tables e below (T45.setTop (mkF m 95 #[.val (.int u0), .val (.int u1), .val (.int (1 : Int32)), .val (.int (0 : Int32)), .val (.ref b1), .val (.ref b11), .val (.ref b32), .val (.int (1 : Int32))] [(.ref b1)])) tt
      refine XS.iloadN X45.here hx rfl (hb hby at_95) rfl ?_
      exact kk
    have f74 : Ary Z h45 b1 (.object "com/example/tavernlex/tavernlex/Container") [(.ref aP), (.ref aD)] := (((((((f38.ext E32).other W40 ne_b1_b32).other W41 ne_b1_b32).other W42 ne_b1_b32).other W43 ne_b1_b32).other W44 ne_b1_b32).other W45 ne_b1_b32)
    obtain ⟨cl75, Ar75, Sl75⟩ := id f74
    have hin75 := inA (cl := cl75) Sl75 (j := (1 : Int32)) (by decide) (Nat.le_of_ble_eq_true rfl)
    have hat75 : cl75.slots[((1 : Int32)).toNatClampNeg]? = some (.ref aD) := atA Sl75 rfl
    refine Goal.to (B := T45.setTop (mkF m 100 #[.val (.int u0), .val (.int u1), .val (.int (1 : Int32)), .val (.int (0 : Int32)), .val (.ref b1), .val (.ref b11), .val (.ref b32), .val (.int (1 : Int32))] [(.int (0 : Int32)), (.ref b11), (.ref aD)])) (fun tt kk => ?_) ?_
    · show Steps p.tables e below (T45.setTop (mkF m 96 #[.val (.int u0), .val (.int u1), .val (.int (1 : Int32)), .val (.int (0 : Int32)), .val (.ref b1), .val (.ref b11), .val (.ref b32), .val (.int (1 : Int32))] [(.int (1 : Int32)), (.ref b1)])) tt
      refine X45.aaload hx (j := (1 : Int32)) (v := (.ref aD)) (by rw [e45]; exact Ar75.1) (State.isArrayOf_alike hZ.alike Ar75.2.1) rfl Ar75.2.2 hin75 hat75 (g := (mkF m 96 #[.val (.int u0), .val (.int u1), .val (.int (1 : Int32)), .val (.int (0 : Int32)), .val (.ref b1), .val (.ref b11), .val (.ref b32), .val (.int (1 : Int32))] [(.int (1 : Int32)), (.ref b1)])) rfl rfl (hb hby at_96) _ ?_
      show Steps p.tables e below (T45.setTop (mkF m 97 #[.val (.int u0), .val (.int u1), .val (.int (1 : Int32)), .val (.int (0 : Int32)), .val (.ref b1), .val (.ref b11), .val (.ref b32), .val (.int (1 : Int32))] [(.ref aD)])) tt
      refine XS.aload X45.here hx rfl (hb hby at_97) rfl rfl ?_
      show Steps p.tables e below (T45.setTop (mkF m 99 #[.val (.int u0), .val (.int u1), .val (.int (1 : Int32)), .val (.int (0 : Int32)), .val (.ref b1), .val (.ref b11), .val (.ref b32), .val (.int (1 : Int32))] [(.ref b11), (.ref aD)])) tt
      refine XS.iloadN X45.here hx rfl (hb hby at_99) rfl ?_
      exact kk
    have f76 : Ary Z h45 b11 (.object "com/example/tavernlex/tavernlex/Beverage") [(.ref aM), (.ref aW), (.ref aS)] := (((((((V29.ext E32).other W40 ne_b11_b32).other W41 ne_b11_b32).other W42 ne_b11_b32).other W43 ne_b11_b32).other W44 ne_b11_b32).other W45 ne_b11_b32)
    obtain ⟨cl77, Ar77, Sl77⟩ := id f76
    have hin77 := inA (cl := cl77) Sl77 (j := (0 : Int32)) (by decide) (Nat.le_of_ble_eq_true rfl)
    have hat77 : cl77.slots[((0 : Int32)).toNatClampNeg]? = some (.ref aM) := atA Sl77 rfl
    refine Goal.to (B := T45.setTop (mkF m 101 #[.val (.int u0), .val (.int u1), .val (.int (1 : Int32)), .val (.int (0 : Int32)), .val (.ref b1), .val (.ref b11), .val (.ref b32), .val (.int (1 : Int32))] [(.ref aM), (.ref aD)])) (fun tt kk => ?_) ?_
    · show Steps p.tables e below (T45.setTop (mkF m 100 #[.val (.int u0), .val (.int u1), .val (.int (1 : Int32)), .val (.int (0 : Int32)), .val (.ref b1), .val (.ref b11), .val (.ref b32), .val (.int (1 : Int32))] [(.int (0 : Int32)), (.ref b11), (.ref aD)])) tt
      refine X45.aaload hx (j := (0 : Int32)) (v := (.ref aM)) (by rw [e45]; exact Ar77.1) (State.isArrayOf_alike hZ.alike Ar77.2.1) rfl Ar77.2.2 hin77 hat77 (g := (mkF m 100 #[.val (.int u0), .val (.int u1), .val (.int (1 : Int32)), .val (.int (0 : Int32)), .val (.ref b1), .val (.ref b11), .val (.ref b32), .val (.int (1 : Int32))] [(.int (0 : Int32)), (.ref b11), (.ref aD)])) rfl rfl (hb hby at_100) _ ?_
      exact kk
    have f78 : StaN Z n0 h45 "com/example/tavernlex/tavernlex/Container" "PACKAGE" "Lcom/example/tavernlex/tavernlex/Container;" (.ref aP) := (((((((((((((f2.wr W4).wr W8).ext E11).wr W20).wr W24).wr W29).ext E32).wr W40).wr W41).wr W42).wr W43).wr W44).wr W45)
    have f79 : StaN Z n0 h45 "com/example/tavernlex/tavernlex/Beverage" "MALT" "Lcom/example/tavernlex/tavernlex/Beverage;" (.ref aM) := ((((((((((f18.wr W20).wr W24).wr W29).ext E32).wr W40).wr W41).wr W42).wr W43).wr W44).wr W45)
    have f80 : n0 ≤ h45.size := (Nat.le_trans (Nat.le_trans (Nat.le_trans (Nat.le_trans (Nat.le_trans (Nat.le_trans (Nat.le_trans f39 E32.1) (Keep.of_wr W40).1) (Keep.of_wr W41).1) (Keep.of_wr W42).1) (Keep.of_wr W43).1) (Keep.of_wr W44).1) (Keep.of_wr W45).1)
    have f82 : Exa Z h45 aD "com/example/tavernlex/tavernlex/Container" := (((((((f34.ext E32).wr W40).wr W41).wr W42).wr W43).wr W44).wr W45)
    obtain ⟨cq81, kq81, q81a, q81b, q81c⟩ := isOf hZ e45 f82
    obtain ⟨_, _, ⟨T81, L81, k81, n81⟩, -, X81, ⟨Lc81, hQ81, l81, y81, z81⟩, st81⟩ := X45.virtualBack hx (y := (⟨"com/example/tavernlex/tavernlex/Container", "holds", "(Lcom/example/tavernlex/tavernlex/Beverage;)Z"⟩ : MethodName)) (z := (⟨"com/example/tavernlex/tavernlex/Container", "holds", "(Lcom/example/tavernlex/tavernlex/Beverage;)Z"⟩ : MethodName)) hown (mvT hZ (hw _ (mw 20 rfl))) (mvT hZ (hw _ (mw 21 rfl))) (notFace_of_selects (args := #[]) (mvT hZ (hw _ (mw 23 rfl)))) (mvT hZ (hw _ (mw 23 rfl))) (mvT hZ (hw _ (mw 22 rfl))) (by decide) (backOf (W := 0) (rmhm l Z a0 hw [] aD aP aM h45 n0 f80 f78 f79 ne_aD_aP) hZ (hw _ (mw 24 rfl)) (hw _ (mw 4 rfl)) (by decide) (by decide)) q81a q81c (g := (mkF m 101 #[.val (.int u0), .val (.int u1), .val (.int (1 : Int32)), .val (.int (0 : Int32)), .val (.ref b1), .val (.ref b11), .val (.ref b32), .val (.int (1 : Int32))] [(.ref aM), (.ref aD)])) rfl (by rw [hml]; rfl) (Steps.refl _) (argsL := [(.ref aM)]) (rest := []) (lenOf pd_0 rfl) rfl (by show 2 * 0 + _ ≤ _; exact Nat.le_of_eq rfl) (hb hby at_101) (fun _ _ => ⟨rfl, e45, (by decide : 3 + 0 ≤ _), (by decide : 11 + 0 ≤ _)⟩)
    dsimp only [Pt.U, Pt.locs, Pt.cells, Pt.slots] at X81 l81 y81 z81 st81 hQ81
    subst l81 y81 z81
    obtain ⟨rfl, N81q, e81⟩ := hQ81
    have N81 := Fr.app N45 N81q
    refine Goal.tr (B := T81.setTop (mkF m 104 #[.val (.int u0), .val (.int u1), .val (.int (1 : Int32)), .val (.int (0 : Int32)), .val (.ref b1), .val (.ref b11), .val (.ref b32), .val (.int (1 : Int32))] [(.int (1 : Int32))])) st81 ?_
    refine Goal.to (B := T81.setTop (mkF m 114 #[.val (.int u0), .val (.int u1), .val (.int (1 : Int32)), .val (.int (0 : Int32)), .val (.ref b1), .val (.ref b11), .val (.ref b32), .val (.int (1 : Int32))] [(.int (1 : Int32))])) (fun tt kk => ?_) ?_
    · show Steps p.tables e below (T81.setTop (mkF m 104 #[.val (.int u0), .val (.int u1), .val (.int (1 : Int32)), .val (.int (0 : Int32)), .val (.ref b1), .val (.ref b11), .val (.ref b32), .val (.int (1 : Int32))] [(.int (1 : Int32))])) tt
      refine XS.iload X81.here hx rfl (hb hby at_104) rfl ?_
      show Steps p.tables e below (T81.setTop (mkF m 106 #[.val (.int u0), .val (.int u1), .val (.int (1 : Int32)), .val (.int (0 : Int32)), .val (.ref b1), .val (.ref b11), .val (.ref b32), .val (.int (1 : Int32))] [(.int (1 : Int32)), (.int (1 : Int32))])) tt
      refine XS.icmpNo X81.here hx rfl (hb hby at_106) rfl (teq (rfl : (1 : Int32) = (1 : Int32))).2 ?_
      show Steps p.tables e below (T81.setTop (mkF m 109 #[.val (.int u0), .val (.int u1), .val (.int (1 : Int32)), .val (.int (0 : Int32)), .val (.ref b1), .val (.ref b11), .val (.ref b32), .val (.int (1 : Int32))] [])) tt
      refine XS.iconst X81.here hx rfl (hb hby at_109) ?_
      show Steps p.tables e below (T81.setTop (mkF m 110 #[.val (.int u0), .val (.int u1), .val (.int (1 : Int32)), .val (.int (0 : Int32)), .val (.ref b1), .val (.ref b11), .val (.ref b32), .val (.int (1 : Int32))] [(.int (1 : Int32))])) tt
      refine XS.goto X81.here hx rfl (pc0 := 110) (pc' := 114) rfl (hb hby at_110) (by decide) (by decide) ?_
      exact kk
    exact Goal.retV X81 hx Bd.returns rfl (Or.inl ⟨rfl, Or.inr (Or.inl rfl), _, rfl⟩) (hb hby at_114) hlk e81 ⟨rfl, N81⟩ (by decide) (by decide)
  · refine Goal.to (B := T45.setTop (mkF m 90 #[.val (.int u0), .val (.int u1), .val (.int (1 : Int32)), .val (.int (1 : Int32)), .val (.ref b1), .val (.ref b11), .val (.ref b32), .unset] [(.int (4 : Int32)), (.ref b32)])) (fun tt kk => ?_) ?_
    · show Steps p.tables e below (T45.setTop (mkF m 83 #[.val (.int u0), .val (.int u1), .val (.int (1 : Int32)), .val (.int (1 : Int32)), .val (.ref b1), .val (.ref b11), .val (.ref b32), .unset] [])) tt
      refine XS.aload X45.here hx rfl (hb hby at_83) rfl rfl ?_
      show Steps p.tables e below (T45.setTop (mkF m 85 #[.val (.int u0), .val (.int u1), .val (.int (1 : Int32)), .val (.int (1 : Int32)), .val (.ref b1), .val (.ref b11), .val (.ref b32), .unset] [(.ref b32)])) tt
      refine XS.iloadN X45.here hx rfl (hb hby at_85) rfl ?_
      show Steps p.tables e below (T45.setTop (mkF m 86 #[.val (.int u0), .val (.int u1), .val (.int (1 : Int32)), .val (.int (1 : Int32)), .val (.ref b1), .val (.ref b11), .val (.ref b32), .unset] [(.int (1 : Int32)), (.ref b32)])) tt
      refine XS.iconst X45.here hx rfl (hb hby at_86) ?_
      show Steps p.tables e below (T45.setTop (mkF m 87 #[.val (.int u0), .val (.int u1), .val (.int (1 : Int32)), .val (.int (1 : Int32)), .val (.ref b1), .val (.ref b11), .val (.ref b32), .unset] [(.int (3 : Int32)), (.int (1 : Int32)), (.ref b32)])) tt
      refine XS.imul X45.here hx rfl (hb hby at_87) rfl ?_
      show Steps p.tables e below (T45.setTop (mkF m 88 #[.val (.int u0), .val (.int u1), .val (.int (1 : Int32)), .val (.int (1 : Int32)), .val (.ref b1), .val (.ref b11), .val (.ref b32), .unset] [(.int (3 : Int32)), (.ref b32)])) tt
      refine XS.iloadN X45.here hx rfl (hb hby at_88) rfl ?_
      show Steps p.tables e below (T45.setTop (mkF m 89 #[.val (.int u0), .val (.int u1), .val (.int (1 : Int32)), .val (.int (1 : Int32)), .val (.ref b1), .val (.ref b11), .val (.ref b32), .unset] [(.int (1 : Int32)), (.int (3 : Int32)), (.ref b32)])) tt
      refine XS.iadd X45.here hx rfl (hb hby at_89) rfl ?_
      exact kk
    obtain ⟨cl83, Ar83, Sl83⟩ := id V45
    have hin83 := inA (cl := cl83) Sl83 (j := (4 : Int32)) (by decide) (Nat.le_of_ble_eq_true rfl)
    have hat83 : cl83.slots[((4 : Int32)).toNatClampNeg]? = some (.int (0 : Int32)) := atA Sl83 rfl
    refine Goal.to (B := T45.setTop (mkF m 96 #[.val (.int u0), .val (.int u1), .val (.int (1 : Int32)), .val (.int (1 : Int32)), .val (.ref b1), .val (.ref b11), .val (.ref b32), .val (.int (0 : Int32))] [(.int (1 : Int32)), (.ref b1)])) (fun tt kk => ?_) ?_
    · show Steps p.tables e below (T45.setTop (mkF m 90 #[.val (.int u0), .val (.int u1), .val (.int (1 : Int32)), .val (.int (1 : Int32)), .val (.ref b1), .val (.ref b11), .val (.ref b32), .unset] [(.int (4 : Int32)), (.ref b32)])) tt
      refine X45.baloadBooleans hx (j := (4 : Int32)) (v := (.int (0 : Int32))) (by rw [e45]; exact Ar83.1) (State.isArrayOf_alike hZ.alike Ar83.2.1) Ar83.2.2 hin83 hat83 (g := (mkF m 90 #[.val (.int u0), .val (.int u1), .val (.int (1 : Int32)), .val (.int (1 : Int32)), .val (.ref b1), .val (.ref b11), .val (.ref b32), .unset] [(.int (4 : Int32)), (.ref b32)])) rfl rfl (hb hby at_90) _ ?_
      show Steps p.tables e below (T45.setTop (mkF m 91 #[.val (.int u0), .val (.int u1), .val (.int (1 : Int32)), .val (.int (1 : Int32)), .val (.ref b1), .val (.ref b11), .val (.ref b32), .unset] [(.int (0 : Int32))])) tt
      refine XS.istore X45.here hx rfl (hb hby at_91) rfl (l' := #[.val (.int u0), .val (.int u1), .val (.int (1 : Int32)), .val (.int (1 : Int32)), .val (.ref b1), .val (.ref b11), .val (.ref b32), .val (.int (0 : Int32))]) rfl ?_
      show Steps p.tables e below (T45.setTop (mkF m 93 #[.val (.int u0), .val (.int u1), .val (.int (1 : Int32)), .val (.int (1 : Int32)), .val (.ref b1), .val (.ref b11), .val (.ref b32), .val (.int (0 : Int32))] [])) tt
      refine XS.aload X45.here hx rfl (hb hby at_93) rfl rfl ?_
      show Steps p.tables e below (T45.setTop (mkF m 95 #[.val (.int u0), .val (.int u1), .val (.int (1 : Int32)), .val (.int (1 : Int32)), .val (.ref b1), .val (.ref b11), .val (.ref b32), .val (.int (0 : Int32))] [(.ref b1)])) tt
      refine XS.iloadN X45.here hx rfl (hb hby at_95) rfl ?_
      exact kk
    have f84 : Ary Z h45 b1 (.object "com/example/tavernlex/tavernlex/Container") [(.ref aP), (.ref aD)] := (((((((f38.ext E32).other W40 ne_b1_b32).other W41 ne_b1_b32).other W42 ne_b1_b32).other W43 ne_b1_b32).other W44 ne_b1_b32).other W45 ne_b1_b32)
    obtain ⟨cl85, Ar85, Sl85⟩ := id f84
    have hin85 := inA (cl := cl85) Sl85 (j := (1 : Int32)) (by decide) (Nat.le_of_ble_eq_true rfl)
    have hat85 : cl85.slots[((1 : Int32)).toNatClampNeg]? = some (.ref aD) := atA Sl85 rfl
    refine Goal.to (B := T45.setTop (mkF m 100 #[.val (.int u0), .val (.int u1), .val (.int (1 : Int32)), .val (.int (1 : Int32)), .val (.ref b1), .val (.ref b11), .val (.ref b32), .val (.int (0 : Int32))] [(.int (1 : Int32)), (.ref b11), (.ref aD)])) (fun tt kk => ?_) ?_
    · show Steps p.tables e below (T45.setTop (mkF m 96 #[.val (.int u0), .val (.int u1), .val (.int (1 : Int32)), .val (.int (1 : Int32)), .val (.ref b1), .val (.ref b11), .val (.ref b32), .val (.int (0 : Int32))] [(.int (1 : Int32)), (.ref b1)])) tt
      refine X45.aaload hx (j := (1 : Int32)) (v := (.ref aD)) (by rw [e45]; exact Ar85.1) (State.isArrayOf_alike hZ.alike Ar85.2.1) rfl Ar85.2.2 hin85 hat85 (g := (mkF m 96 #[.val (.int u0), .val (.int u1), .val (.int (1 : Int32)), .val (.int (1 : Int32)), .val (.ref b1), .val (.ref b11), .val (.ref b32), .val (.int (0 : Int32))] [(.int (1 : Int32)), (.ref b1)])) rfl rfl (hb hby at_96) _ ?_
      show Steps p.tables e below (T45.setTop (mkF m 97 #[.val (.int u0), .val (.int u1), .val (.int (1 : Int32)), .val (.int (1 : Int32)), .val (.ref b1), .val (.ref b11), .val (.ref b32), .val (.int (0 : Int32))] [(.ref aD)])) tt
      refine XS.aload X45.here hx rfl (hb hby at_97) rfl rfl ?_
      show Steps p.tables e below (T45.setTop (mkF m 99 #[.val (.int u0), .val (.int u1), .val (.int (1 : Int32)), .val (.int (1 : Int32)), .val (.ref b1), .val (.ref b11), .val (.ref b32), .val (.int (0 : Int32))] [(.ref b11), (.ref aD)])) tt
      refine XS.iloadN X45.here hx rfl (hb hby at_99) rfl ?_
      exact kk
    have f86 : Ary Z h45 b11 (.object "com/example/tavernlex/tavernlex/Beverage") [(.ref aM), (.ref aW), (.ref aS)] := (((((((V29.ext E32).other W40 ne_b11_b32).other W41 ne_b11_b32).other W42 ne_b11_b32).other W43 ne_b11_b32).other W44 ne_b11_b32).other W45 ne_b11_b32)
    obtain ⟨cl87, Ar87, Sl87⟩ := id f86
    have hin87 := inA (cl := cl87) Sl87 (j := (1 : Int32)) (by decide) (Nat.le_of_ble_eq_true rfl)
    have hat87 : cl87.slots[((1 : Int32)).toNatClampNeg]? = some (.ref aW) := atA Sl87 rfl
    refine Goal.to (B := T45.setTop (mkF m 101 #[.val (.int u0), .val (.int u1), .val (.int (1 : Int32)), .val (.int (1 : Int32)), .val (.ref b1), .val (.ref b11), .val (.ref b32), .val (.int (0 : Int32))] [(.ref aW), (.ref aD)])) (fun tt kk => ?_) ?_
    · show Steps p.tables e below (T45.setTop (mkF m 100 #[.val (.int u0), .val (.int u1), .val (.int (1 : Int32)), .val (.int (1 : Int32)), .val (.ref b1), .val (.ref b11), .val (.ref b32), .val (.int (0 : Int32))] [(.int (1 : Int32)), (.ref b11), (.ref aD)])) tt
      refine X45.aaload hx (j := (1 : Int32)) (v := (.ref aW)) (by rw [e45]; exact Ar87.1) (State.isArrayOf_alike hZ.alike Ar87.2.1) rfl Ar87.2.2 hin87 hat87 (g := (mkF m 100 #[.val (.int u0), .val (.int u1), .val (.int (1 : Int32)), .val (.int (1 : Int32)), .val (.ref b1), .val (.ref b11), .val (.ref b32), .val (.int (0 : Int32))] [(.int (1 : Int32)), (.ref b11), (.ref aD)])) rfl rfl (hb hby at_100) _ ?_
      exact kk
    have f88 : StaN Z n0 h45 "com/example/tavernlex/tavernlex/Container" "PACKAGE" "Lcom/example/tavernlex/tavernlex/Container;" (.ref aP) := (((((((((((((f2.wr W4).wr W8).ext E11).wr W20).wr W24).wr W29).ext E32).wr W40).wr W41).wr W42).wr W43).wr W44).wr W45)
    have f89 : StaN Z n0 h45 "com/example/tavernlex/tavernlex/Beverage" "MALT" "Lcom/example/tavernlex/tavernlex/Beverage;" (.ref aM) := ((((((((((f18.wr W20).wr W24).wr W29).ext E32).wr W40).wr W41).wr W42).wr W43).wr W44).wr W45)
    have f90 : n0 ≤ h45.size := (Nat.le_trans (Nat.le_trans (Nat.le_trans (Nat.le_trans (Nat.le_trans (Nat.le_trans (Nat.le_trans f39 E32.1) (Keep.of_wr W40).1) (Keep.of_wr W41).1) (Keep.of_wr W42).1) (Keep.of_wr W43).1) (Keep.of_wr W44).1) (Keep.of_wr W45).1)
    have f92 : Exa Z h45 aD "com/example/tavernlex/tavernlex/Container" := (((((((f34.ext E32).wr W40).wr W41).wr W42).wr W43).wr W44).wr W45)
    obtain ⟨cq91, kq91, q91a, q91b, q91c⟩ := isOf hZ e45 f92
    obtain ⟨_, _, ⟨T91, L91, k91, n91⟩, -, X91, ⟨Lc91, hQ91, l91, y91, z91⟩, st91⟩ := X45.virtualBack hx (y := (⟨"com/example/tavernlex/tavernlex/Container", "holds", "(Lcom/example/tavernlex/tavernlex/Beverage;)Z"⟩ : MethodName)) (z := (⟨"com/example/tavernlex/tavernlex/Container", "holds", "(Lcom/example/tavernlex/tavernlex/Beverage;)Z"⟩ : MethodName)) hown (mvT hZ (hw _ (mw 20 rfl))) (mvT hZ (hw _ (mw 21 rfl))) (notFace_of_selects (args := #[]) (mvT hZ (hw _ (mw 23 rfl)))) (mvT hZ (hw _ (mw 23 rfl))) (mvT hZ (hw _ (mw 22 rfl))) (by decide) (backOf (W := 0) (rmhn l Z a0 hw [] aD aW aP aM h45 n0 f90 f88 f89 ne_aD_aP ne_aW_aM) hZ (hw _ (mw 24 rfl)) (hw _ (mw 4 rfl)) (by decide) (by decide)) q91a q91c (g := (mkF m 101 #[.val (.int u0), .val (.int u1), .val (.int (1 : Int32)), .val (.int (1 : Int32)), .val (.ref b1), .val (.ref b11), .val (.ref b32), .val (.int (0 : Int32))] [(.ref aW), (.ref aD)])) rfl (by rw [hml]; rfl) (Steps.refl _) (argsL := [(.ref aW)]) (rest := []) (lenOf pd_0 rfl) rfl (by show 2 * 0 + _ ≤ _; exact Nat.le_of_eq rfl) (hb hby at_101) (fun _ _ => ⟨rfl, e45, (by decide : 3 + 0 ≤ _), (by decide : 11 + 0 ≤ _)⟩)
    dsimp only [Pt.U, Pt.locs, Pt.cells, Pt.slots] at X91 l91 y91 z91 st91 hQ91
    subst l91 y91 z91
    obtain ⟨rfl, N91q, e91⟩ := hQ91
    have N91 := Fr.app N45 N91q
    refine Goal.tr (B := T91.setTop (mkF m 104 #[.val (.int u0), .val (.int u1), .val (.int (1 : Int32)), .val (.int (1 : Int32)), .val (.ref b1), .val (.ref b11), .val (.ref b32), .val (.int (0 : Int32))] [(.int (0 : Int32))])) st91 ?_
    refine Goal.to (B := T91.setTop (mkF m 114 #[.val (.int u0), .val (.int u1), .val (.int (1 : Int32)), .val (.int (1 : Int32)), .val (.ref b1), .val (.ref b11), .val (.ref b32), .val (.int (0 : Int32))] [(.int (1 : Int32))])) (fun tt kk => ?_) ?_
    · show Steps p.tables e below (T91.setTop (mkF m 104 #[.val (.int u0), .val (.int u1), .val (.int (1 : Int32)), .val (.int (1 : Int32)), .val (.ref b1), .val (.ref b11), .val (.ref b32), .val (.int (0 : Int32))] [(.int (0 : Int32))])) tt
      refine XS.iload X91.here hx rfl (hb hby at_104) rfl ?_
      show Steps p.tables e below (T91.setTop (mkF m 106 #[.val (.int u0), .val (.int u1), .val (.int (1 : Int32)), .val (.int (1 : Int32)), .val (.ref b1), .val (.ref b11), .val (.ref b32), .val (.int (0 : Int32))] [(.int (0 : Int32)), (.int (0 : Int32))])) tt
      refine XS.icmpNo X91.here hx rfl (hb hby at_106) rfl (teq (rfl : (0 : Int32) = (0 : Int32))).2 ?_
      show Steps p.tables e below (T91.setTop (mkF m 109 #[.val (.int u0), .val (.int u1), .val (.int (1 : Int32)), .val (.int (1 : Int32)), .val (.ref b1), .val (.ref b11), .val (.ref b32), .val (.int (0 : Int32))] [])) tt
      refine XS.iconst X91.here hx rfl (hb hby at_109) ?_
      show Steps p.tables e below (T91.setTop (mkF m 110 #[.val (.int u0), .val (.int u1), .val (.int (1 : Int32)), .val (.int (1 : Int32)), .val (.ref b1), .val (.ref b11), .val (.ref b32), .val (.int (0 : Int32))] [(.int (1 : Int32))])) tt
      refine XS.goto X91.here hx rfl (pc0 := 110) (pc' := 114) rfl (hb hby at_110) (by decide) (by decide) ?_
      exact kk
    exact Goal.retV X91 hx Bd.returns rfl (Or.inl ⟨rfl, Or.inr (Or.inl rfl), _, rfl⟩) (hb hby at_114) hlk e91 ⟨rfl, N91⟩ (by decide) (by decide)
  · refine Goal.to (B := T45.setTop (mkF m 90 #[.val (.int u0), .val (.int u1), .val (.int (1 : Int32)), .val (.int (2 : Int32)), .val (.ref b1), .val (.ref b11), .val (.ref b32), .unset] [(.int (5 : Int32)), (.ref b32)])) (fun tt kk => ?_) ?_
    · show Steps p.tables e below (T45.setTop (mkF m 83 #[.val (.int u0), .val (.int u1), .val (.int (1 : Int32)), .val (.int (2 : Int32)), .val (.ref b1), .val (.ref b11), .val (.ref b32), .unset] [])) tt
      refine XS.aload X45.here hx rfl (hb hby at_83) rfl rfl ?_
      show Steps p.tables e below (T45.setTop (mkF m 85 #[.val (.int u0), .val (.int u1), .val (.int (1 : Int32)), .val (.int (2 : Int32)), .val (.ref b1), .val (.ref b11), .val (.ref b32), .unset] [(.ref b32)])) tt
      refine XS.iloadN X45.here hx rfl (hb hby at_85) rfl ?_
      show Steps p.tables e below (T45.setTop (mkF m 86 #[.val (.int u0), .val (.int u1), .val (.int (1 : Int32)), .val (.int (2 : Int32)), .val (.ref b1), .val (.ref b11), .val (.ref b32), .unset] [(.int (1 : Int32)), (.ref b32)])) tt
      refine XS.iconst X45.here hx rfl (hb hby at_86) ?_
      show Steps p.tables e below (T45.setTop (mkF m 87 #[.val (.int u0), .val (.int u1), .val (.int (1 : Int32)), .val (.int (2 : Int32)), .val (.ref b1), .val (.ref b11), .val (.ref b32), .unset] [(.int (3 : Int32)), (.int (1 : Int32)), (.ref b32)])) tt
      refine XS.imul X45.here hx rfl (hb hby at_87) rfl ?_
      show Steps p.tables e below (T45.setTop (mkF m 88 #[.val (.int u0), .val (.int u1), .val (.int (1 : Int32)), .val (.int (2 : Int32)), .val (.ref b1), .val (.ref b11), .val (.ref b32), .unset] [(.int (3 : Int32)), (.ref b32)])) tt
      refine XS.iloadN X45.here hx rfl (hb hby at_88) rfl ?_
      show Steps p.tables e below (T45.setTop (mkF m 89 #[.val (.int u0), .val (.int u1), .val (.int (1 : Int32)), .val (.int (2 : Int32)), .val (.ref b1), .val (.ref b11), .val (.ref b32), .unset] [(.int (2 : Int32)), (.int (3 : Int32)), (.ref b32)])) tt
      refine XS.iadd X45.here hx rfl (hb hby at_89) rfl ?_
      exact kk
    obtain ⟨cl93, Ar93, Sl93⟩ := id V45
    have hin93 := inA (cl := cl93) Sl93 (j := (5 : Int32)) (by decide) (Nat.le_of_ble_eq_true rfl)
    have hat93 : cl93.slots[((5 : Int32)).toNatClampNeg]? = some (.int (0 : Int32)) := atA Sl93 rfl
    refine Goal.to (B := T45.setTop (mkF m 96 #[.val (.int u0), .val (.int u1), .val (.int (1 : Int32)), .val (.int (2 : Int32)), .val (.ref b1), .val (.ref b11), .val (.ref b32), .val (.int (0 : Int32))] [(.int (1 : Int32)), (.ref b1)])) (fun tt kk => ?_) ?_
    · show Steps p.tables e below (T45.setTop (mkF m 90 #[.val (.int u0), .val (.int u1), .val (.int (1 : Int32)), .val (.int (2 : Int32)), .val (.ref b1), .val (.ref b11), .val (.ref b32), .unset] [(.int (5 : Int32)), (.ref b32)])) tt
      refine X45.baloadBooleans hx (j := (5 : Int32)) (v := (.int (0 : Int32))) (by rw [e45]; exact Ar93.1) (State.isArrayOf_alike hZ.alike Ar93.2.1) Ar93.2.2 hin93 hat93 (g := (mkF m 90 #[.val (.int u0), .val (.int u1), .val (.int (1 : Int32)), .val (.int (2 : Int32)), .val (.ref b1), .val (.ref b11), .val (.ref b32), .unset] [(.int (5 : Int32)), (.ref b32)])) rfl rfl (hb hby at_90) _ ?_
      show Steps p.tables e below (T45.setTop (mkF m 91 #[.val (.int u0), .val (.int u1), .val (.int (1 : Int32)), .val (.int (2 : Int32)), .val (.ref b1), .val (.ref b11), .val (.ref b32), .unset] [(.int (0 : Int32))])) tt
      refine XS.istore X45.here hx rfl (hb hby at_91) rfl (l' := #[.val (.int u0), .val (.int u1), .val (.int (1 : Int32)), .val (.int (2 : Int32)), .val (.ref b1), .val (.ref b11), .val (.ref b32), .val (.int (0 : Int32))]) rfl ?_
      show Steps p.tables e below (T45.setTop (mkF m 93 #[.val (.int u0), .val (.int u1), .val (.int (1 : Int32)), .val (.int (2 : Int32)), .val (.ref b1), .val (.ref b11), .val (.ref b32), .val (.int (0 : Int32))] [])) tt
      refine XS.aload X45.here hx rfl (hb hby at_93) rfl rfl ?_
      show Steps p.tables e below (T45.setTop (mkF m 95 #[.val (.int u0), .val (.int u1), .val (.int (1 : Int32)), .val (.int (2 : Int32)), .val (.ref b1), .val (.ref b11), .val (.ref b32), .val (.int (0 : Int32))] [(.ref b1)])) tt
      refine XS.iloadN X45.here hx rfl (hb hby at_95) rfl ?_
      exact kk
    have f94 : Ary Z h45 b1 (.object "com/example/tavernlex/tavernlex/Container") [(.ref aP), (.ref aD)] := (((((((f38.ext E32).other W40 ne_b1_b32).other W41 ne_b1_b32).other W42 ne_b1_b32).other W43 ne_b1_b32).other W44 ne_b1_b32).other W45 ne_b1_b32)
    obtain ⟨cl95, Ar95, Sl95⟩ := id f94
    have hin95 := inA (cl := cl95) Sl95 (j := (1 : Int32)) (by decide) (Nat.le_of_ble_eq_true rfl)
    have hat95 : cl95.slots[((1 : Int32)).toNatClampNeg]? = some (.ref aD) := atA Sl95 rfl
    refine Goal.to (B := T45.setTop (mkF m 100 #[.val (.int u0), .val (.int u1), .val (.int (1 : Int32)), .val (.int (2 : Int32)), .val (.ref b1), .val (.ref b11), .val (.ref b32), .val (.int (0 : Int32))] [(.int (2 : Int32)), (.ref b11), (.ref aD)])) (fun tt kk => ?_) ?_
    · show Steps p.tables e below (T45.setTop (mkF m 96 #[.val (.int u0), .val (.int u1), .val (.int (1 : Int32)), .val (.int (2 : Int32)), .val (.ref b1), .val (.ref b11), .val (.ref b32), .val (.int (0 : Int32))] [(.int (1 : Int32)), (.ref b1)])) tt
      refine X45.aaload hx (j := (1 : Int32)) (v := (.ref aD)) (by rw [e45]; exact Ar95.1) (State.isArrayOf_alike hZ.alike Ar95.2.1) rfl Ar95.2.2 hin95 hat95 (g := (mkF m 96 #[.val (.int u0), .val (.int u1), .val (.int (1 : Int32)), .val (.int (2 : Int32)), .val (.ref b1), .val (.ref b11), .val (.ref b32), .val (.int (0 : Int32))] [(.int (1 : Int32)), (.ref b1)])) rfl rfl (hb hby at_96) _ ?_
      show Steps p.tables e below (T45.setTop (mkF m 97 #[.val (.int u0), .val (.int u1), .val (.int (1 : Int32)), .val (.int (2 : Int32)), .val (.ref b1), .val (.ref b11), .val (.ref b32), .val (.int (0 : Int32))] [(.ref aD)])) tt
      refine XS.aload X45.here hx rfl (hb hby at_97) rfl rfl ?_
      show Steps p.tables e below (T45.setTop (mkF m 99 #[.val (.int u0), .val (.int u1), .val (.int (1 : Int32)), .val (.int (2 : Int32)), .val (.ref b1), .val (.ref b11), .val (.ref b32), .val (.int (0 : Int32))] [(.ref b11), (.ref aD)])) tt
      refine XS.iloadN X45.here hx rfl (hb hby at_99) rfl ?_
      exact kk
    have f96 : Ary Z h45 b11 (.object "com/example/tavernlex/tavernlex/Beverage") [(.ref aM), (.ref aW), (.ref aS)] := (((((((V29.ext E32).other W40 ne_b11_b32).other W41 ne_b11_b32).other W42 ne_b11_b32).other W43 ne_b11_b32).other W44 ne_b11_b32).other W45 ne_b11_b32)
    obtain ⟨cl97, Ar97, Sl97⟩ := id f96
    have hin97 := inA (cl := cl97) Sl97 (j := (2 : Int32)) (by decide) (Nat.le_of_ble_eq_true rfl)
    have hat97 : cl97.slots[((2 : Int32)).toNatClampNeg]? = some (.ref aS) := atA Sl97 rfl
    refine Goal.to (B := T45.setTop (mkF m 101 #[.val (.int u0), .val (.int u1), .val (.int (1 : Int32)), .val (.int (2 : Int32)), .val (.ref b1), .val (.ref b11), .val (.ref b32), .val (.int (0 : Int32))] [(.ref aS), (.ref aD)])) (fun tt kk => ?_) ?_
    · show Steps p.tables e below (T45.setTop (mkF m 100 #[.val (.int u0), .val (.int u1), .val (.int (1 : Int32)), .val (.int (2 : Int32)), .val (.ref b1), .val (.ref b11), .val (.ref b32), .val (.int (0 : Int32))] [(.int (2 : Int32)), (.ref b11), (.ref aD)])) tt
      refine X45.aaload hx (j := (2 : Int32)) (v := (.ref aS)) (by rw [e45]; exact Ar97.1) (State.isArrayOf_alike hZ.alike Ar97.2.1) rfl Ar97.2.2 hin97 hat97 (g := (mkF m 100 #[.val (.int u0), .val (.int u1), .val (.int (1 : Int32)), .val (.int (2 : Int32)), .val (.ref b1), .val (.ref b11), .val (.ref b32), .val (.int (0 : Int32))] [(.int (2 : Int32)), (.ref b11), (.ref aD)])) rfl rfl (hb hby at_100) _ ?_
      exact kk
    have f98 : StaN Z n0 h45 "com/example/tavernlex/tavernlex/Container" "PACKAGE" "Lcom/example/tavernlex/tavernlex/Container;" (.ref aP) := (((((((((((((f2.wr W4).wr W8).ext E11).wr W20).wr W24).wr W29).ext E32).wr W40).wr W41).wr W42).wr W43).wr W44).wr W45)
    have f99 : StaN Z n0 h45 "com/example/tavernlex/tavernlex/Beverage" "MALT" "Lcom/example/tavernlex/tavernlex/Beverage;" (.ref aM) := ((((((((((f18.wr W20).wr W24).wr W29).ext E32).wr W40).wr W41).wr W42).wr W43).wr W44).wr W45)
    have f100 : n0 ≤ h45.size := (Nat.le_trans (Nat.le_trans (Nat.le_trans (Nat.le_trans (Nat.le_trans (Nat.le_trans (Nat.le_trans f39 E32.1) (Keep.of_wr W40).1) (Keep.of_wr W41).1) (Keep.of_wr W42).1) (Keep.of_wr W43).1) (Keep.of_wr W44).1) (Keep.of_wr W45).1)
    have f102 : Exa Z h45 aD "com/example/tavernlex/tavernlex/Container" := (((((((f34.ext E32).wr W40).wr W41).wr W42).wr W43).wr W44).wr W45)
    obtain ⟨cq101, kq101, q101a, q101b, q101c⟩ := isOf hZ e45 f102
    obtain ⟨_, _, ⟨T101, L101, k101, n101⟩, -, X101, ⟨Lc101, hQ101, l101, y101, z101⟩, st101⟩ := X45.virtualBack hx (y := (⟨"com/example/tavernlex/tavernlex/Container", "holds", "(Lcom/example/tavernlex/tavernlex/Beverage;)Z"⟩ : MethodName)) (z := (⟨"com/example/tavernlex/tavernlex/Container", "holds", "(Lcom/example/tavernlex/tavernlex/Beverage;)Z"⟩ : MethodName)) hown (mvT hZ (hw _ (mw 20 rfl))) (mvT hZ (hw _ (mw 21 rfl))) (notFace_of_selects (args := #[]) (mvT hZ (hw _ (mw 23 rfl)))) (mvT hZ (hw _ (mw 23 rfl))) (mvT hZ (hw _ (mw 22 rfl))) (by decide) (backOf (W := 0) (rmhn l Z a0 hw [] aD aS aP aM h45 n0 f100 f98 f99 ne_aD_aP ne_aS_aM) hZ (hw _ (mw 24 rfl)) (hw _ (mw 4 rfl)) (by decide) (by decide)) q101a q101c (g := (mkF m 101 #[.val (.int u0), .val (.int u1), .val (.int (1 : Int32)), .val (.int (2 : Int32)), .val (.ref b1), .val (.ref b11), .val (.ref b32), .val (.int (0 : Int32))] [(.ref aS), (.ref aD)])) rfl (by rw [hml]; rfl) (Steps.refl _) (argsL := [(.ref aS)]) (rest := []) (lenOf pd_0 rfl) rfl (by show 2 * 0 + _ ≤ _; exact Nat.le_of_eq rfl) (hb hby at_101) (fun _ _ => ⟨rfl, e45, (by decide : 3 + 0 ≤ _), (by decide : 11 + 0 ≤ _)⟩)
    dsimp only [Pt.U, Pt.locs, Pt.cells, Pt.slots] at X101 l101 y101 z101 st101 hQ101
    subst l101 y101 z101
    obtain ⟨rfl, N101q, e101⟩ := hQ101
    have N101 := Fr.app N45 N101q
    refine Goal.tr (B := T101.setTop (mkF m 104 #[.val (.int u0), .val (.int u1), .val (.int (1 : Int32)), .val (.int (2 : Int32)), .val (.ref b1), .val (.ref b11), .val (.ref b32), .val (.int (0 : Int32))] [(.int (0 : Int32))])) st101 ?_
    refine Goal.to (B := T101.setTop (mkF m 114 #[.val (.int u0), .val (.int u1), .val (.int (1 : Int32)), .val (.int (2 : Int32)), .val (.ref b1), .val (.ref b11), .val (.ref b32), .val (.int (0 : Int32))] [(.int (1 : Int32))])) (fun tt kk => ?_) ?_
    · show Steps p.tables e below (T101.setTop (mkF m 104 #[.val (.int u0), .val (.int u1), .val (.int (1 : Int32)), .val (.int (2 : Int32)), .val (.ref b1), .val (.ref b11), .val (.ref b32), .val (.int (0 : Int32))] [(.int (0 : Int32))])) tt
      refine XS.iload X101.here hx rfl (hb hby at_104) rfl ?_
      show Steps p.tables e below (T101.setTop (mkF m 106 #[.val (.int u0), .val (.int u1), .val (.int (1 : Int32)), .val (.int (2 : Int32)), .val (.ref b1), .val (.ref b11), .val (.ref b32), .val (.int (0 : Int32))] [(.int (0 : Int32)), (.int (0 : Int32))])) tt
      refine XS.icmpNo X101.here hx rfl (hb hby at_106) rfl (teq (rfl : (0 : Int32) = (0 : Int32))).2 ?_
      show Steps p.tables e below (T101.setTop (mkF m 109 #[.val (.int u0), .val (.int u1), .val (.int (1 : Int32)), .val (.int (2 : Int32)), .val (.ref b1), .val (.ref b11), .val (.ref b32), .val (.int (0 : Int32))] [])) tt
      refine XS.iconst X101.here hx rfl (hb hby at_109) ?_
      show Steps p.tables e below (T101.setTop (mkF m 110 #[.val (.int u0), .val (.int u1), .val (.int (1 : Int32)), .val (.int (2 : Int32)), .val (.ref b1), .val (.ref b11), .val (.ref b32), .val (.int (0 : Int32))] [(.int (1 : Int32))])) tt
      refine XS.goto X101.here hx rfl (pc0 := 110) (pc' := 114) rfl (hb hby at_110) (by decide) (by decide) ?_
      exact kk
    exact Goal.retV X101 hx Bd.returns rfl (Or.inl ⟨rfl, Or.inr (Or.inl rfl), _, rfl⟩) (hb hby at_114) hlk e101 ⟨rfl, N101⟩ (by decide) (by decide)
set_option maxRecDepth 65536 in
set_option maxHeartbeats 40000000 in
theorem comes_1 {Post : Tables → Env → Array Value → State → Outcome → State → Prop} (hpost : ∀ tb e args s v u, (limb_1_1.after args s (.returned v) u = true ∧ limb_1_2.after args s (.returned v) u = true ∧ True) → FrameEnd s (.returned v) u (Jvm.fieldLocs frame_1_writes args s ++ Jvm.arrayLocs frame_1_arrays args s ++ Jvm.staticLocs frame_1_statics s) 16 128 → Post tb e args s (.returned v) u) :
    ArmFor flags0 classFile x code maxLocals ret World_1 tables_1 room_1 Calls_1 rest_1 Pre_1 Post := by
  intro l hfl _ _ p e ha hc hk s m args below hf hA hF happ hP
  obtain ⟨hcalls, hrest, hpre⟩ := hP
  obtain ⟨-, -, -, hnamed, -, -, -, hat⟩ := (Spec.applies_iff hf).mp happ
  obtain ⟨hg, hn⟩ := and_e (Cond.before_iff.mp (show (Jvm.Cond.and given_1 narrow_1).before args s = true from hpre))
  obtain ⟨u1, u2⟩ := and_e hg
  obtain ⟨u3, u4⟩ := and_e u2
  obtain ⟨w0, w1, rfl⟩ : ∃ w0 w1 : Value, args = #[w0, w1] := by
    have hs : args.size = 2 := by simpa [Cond.value, given_1] using u1
    obtain ⟨L⟩ := args
    match L, hs with
    | [w0, w1], _ => exact ⟨w0, w1, rfl⟩
  have hw := fun d (hd : d ∈ tables_1) => atoms_spec (ws := Jvm.Cond.code x code maxLocals ret :: tables_1) hat d (List.mem_cons_of_mem _ hd)
  obtain ⟨i0, ei0⟩ := is_v u3
  obtain rfl : w0 = (.int i0) := Option.some.inj ei0
  obtain ⟨i1, ei1⟩ := is_v u4
  obtain rfl : w1 = (.int i1) := Option.some.inj ei1
  obtain ⟨x_aP, r0⟩ := and_e hn
  obtain ⟨x_aD, r1⟩ := and_e r0
  obtain ⟨x_aM, r2⟩ := and_e r1
  obtain ⟨x_aW, r3⟩ := and_e r2
  obtain ⟨x_aS, r4⟩ := and_e r3
  obtain ⟨o_aD, r5⟩ := and_e r4
  obtain ⟨o_aP, r6⟩ := and_e r5
  obtain ⟨o_aW, r7⟩ := and_e r6
  obtain ⟨o_aM, r8⟩ := and_e r7
  have o_aS := r8
  obtain ⟨aP, v_aP⟩ := exa_v x_aP
  have S_aP := Sta.toN (Sta.start v_aP (Or.inr ⟨(hw _ (mw 4 rfl)), (hw _ (mw 5 rfl))⟩))
  have E_aP := Exa.start v_aP x_aP
  have F_aP := own_ord v_aP o_aP
  obtain ⟨aD, v_aD⟩ := exa_v x_aD
  have S_aD := Sta.toN (Sta.start v_aD (Or.inr ⟨(hw _ (mw 4 rfl)), (hw _ (mw 8 rfl))⟩))
  have E_aD := Exa.start v_aD x_aD
  have F_aD := own_ord v_aD o_aD
  obtain ⟨aM, v_aM⟩ := exa_v x_aM
  have S_aM := Sta.toN (Sta.start v_aM (Or.inr ⟨(hw _ (mw 12 rfl)), (hw _ (mw 13 rfl))⟩))
  have E_aM := Exa.start v_aM x_aM
  have F_aM := own_ord v_aM o_aM
  obtain ⟨aW, v_aW⟩ := exa_v x_aW
  have S_aW := Sta.toN (Sta.start v_aW (Or.inr ⟨(hw _ (mw 12 rfl)), (hw _ (mw 16 rfl))⟩))
  have E_aW := Exa.start v_aW x_aW
  have F_aW := own_ord v_aW o_aW
  obtain ⟨aS, v_aS⟩ := exa_v x_aS
  have S_aS := Sta.toN (Sta.start v_aS (Or.inr ⟨(hw _ (mw 12 rfl)), (hw _ (mw 18 rfl))⟩))
  have E_aS := Exa.start v_aS x_aS
  have F_aS := own_ord v_aS o_aS
  have ne_aD_aP : aD ≠ aP := Fld.ne F_aD F_aP (by decide)
  have ne_aW_aM : aW ≠ aM := Fld.ne F_aW F_aM (by decide)
  have ne_aS_aM : aS ≠ aM := Fld.ne F_aS F_aM (by decide)
  obtain ⟨n, o, h1, h2, h3, _, L, rfl, ⟨rfl, N⟩, hq⟩ := rm0 l s _ hw tables_1 i0 i1 aP aD aM aW aS s.heap s.heap.size (Nat.le_refl _) S_aP S_aD S_aM S_aW S_aS E_aP E_aD E_aM E_aW E_aS ne_aD_aP ne_aW_aM ne_aS_aM p e ha hc hk s m _ below hf ((Spec.applies_iff_loose hf).mp happ).1 ⟨rfl, State.Warmed39.refl s, rfl⟩ trivial
  refine ⟨n, _, h1, h2, h3, hpost _ _ _ _ _ _ ⟨Cond.after_iff.mpr rfl, Cond.after_iff.mpr (eq_i res_at (Term.int_eval (1)) rfl), trivial⟩ ⟨hq.1, hq.2.1, (hq.2.2.sift fun y hy => Or.inr (N y hy)).mono (by decide) (by decide)⟩⟩
theorem main_1_1 : Claimed_1_1 := comes_1 fun _ _ _ _ _ _ h hF => ⟨h.1, hF⟩
theorem main_1_2 : Claimed_1_2 := comes_1 fun _ _ _ _ _ _ h hF => ⟨h.2.1, hF⟩
end Jvm.Pilot.@@N@@
namespace Jvm.Pilot.@@N@@
open Jvm Jvm.ClassFile Sem Op Lib Jvm.Free Jvm.Stand Jvm.Pilot.@@N@@.Jvm.D
/-! MADE BY PROGRAM (witnessworld.py) out of the Statement's table words and the real class files: 18 classes; the members and pool entries that the words name. The judged class is class 1, her method 1. -/
namespace start1
open Jvm.ClassFile
def u (s : String) : CpInfo := .utf8 (stringToUtf16 s)
/-- a pool by its gaps: so many unusable entries, then the entry; so many at the end -/
def gap : Nat → List CpInfo → List CpInfo
  | 0, r => r
  | n + 1, r => .unusable :: gap n r
def poolList (es : List (Nat × CpInfo)) (last : Nat) : List CpInfo := es.foldr (fun e r => gap e.1 (e.2 :: r)) (gap last [])
def pool (es : List (Nat × CpInfo)) (last : Nat) : Array CpInfo := ⟨poolList es last⟩
def fileOf (pool : Array CpInfo) (this : Nat) (attrs : Array Attribute := #[]) (ms : Array MethodInfo := #[]) (fl : Nat := 33) (sup : Nat := 0) (ifs : Array Nat := #[]) (fds : Array FieldInfo := #[]) : ClassFile where
  minorVersion := 0
  majorVersion := 65
  constantPool := pool
  accessFlags := fl
  thisClass := this
  superClass := sup
  interfaces := ifs
  fields := fds
  methods := ms
  attributes := attrs
def plain (name : String) (sup : Option ClassId) : Class where
  name := name
  kind := .ordinary
  loader := none
  accessFlags := 33
  super := sup
  interfaces := #[]
  cf := none
  fields := #[]
  methods := #[]
  instanceTypes := #[]
  staticTypes := #[]
  resolved := #[]
  callSites := []
  init := .initialized
  statics := none
  mirror := none

def pool0 : Array CpInfo := pool [(5, u "<init>"), (0, u "()V"), (1, .class_ 10), (1, u "java/lang/Object")] 113

def k0m0 : Method := { name := "<init>", desc := "()V", sig := { parameters := [], returnType := none }, accessFlags := 1, code := none }
/-- java/lang/Object -/
def k0 : Class := { plain "java/lang/Object" none with
  accessFlags := 33
  interfaces := #[]
  cf := some (fileOf pool0 8 #[] #[{ accessFlags := 1, nameIndex := 5, descriptorIndex := 6, attributes := #[] }] 33 0 #[] #[])
  fields := #[]
  methods := #[k0m0]
  instanceTypes := #[]
  staticTypes := #[]
  resolved := Array.replicate 124 none
  statics := none }

def pool1 : Array CpInfo := pool [(2, .class_ 4), (1, u "java/lang/Object"), (0, u "<init>"), (0, u "()V"), (0, .integer 2147483647), (0, .class_ 9), (0, u "com/example/tavernlex/tavernlex/Container"), (0, .fieldref 8 11), (0, .nameAndType 12 13), (0, u "PACKAGE"), (0, u "Lcom/example/tavernlex/tavernlex/Container;"), (0, .fieldref 8 15), (0, .nameAndType 16 13), (0, u "DRAFT"), (0, .class_ 18), (0, u "com/example/tavernlex/tavernlex/Beverage"), (0, .fieldref 17 20), (0, .nameAndType 21 22), (0, u "MALT"), (0, u "Lcom/example/tavernlex/tavernlex/Beverage;"), (0, .fieldref 17 24), (0, .nameAndType 25 22), (0, u "WINE"), (0, .fieldref 17 27), (0, .nameAndType 28 22), (0, u "SPIRITS"), (0, .methodref 8 30), (0, .nameAndType 31 32), (0, u "holds"), (0, u "(Lcom/example/tavernlex/tavernlex/Beverage;)Z"), (0, .class_ 34), (0, u "com/example/tavernlex/tavernlex/ContainerHoldsPinLaw"), (2, u "law"), (0, u "(II)Z")] 9

def k1m0 : Method := { name := "<init>", desc := "()V", sig := { parameters := [], returnType := none }, accessFlags := 2, code := none }
def k1c1 : Code := { maxStack := 4, maxLocals := 8, code := code, exceptionTable := #[], attributes := #[] }
def k1m1 : Method := { name := "law", desc := "(II)Z", sig := { parameters := [.int, .int], returnType := some .boolean }, accessFlags := 9, code := some k1c1 }
/-- com/example/tavernlex/tavernlex/ContainerHoldsPinLaw -/
def k1 : Class := { plain "com/example/tavernlex/tavernlex/ContainerHoldsPinLaw" (some 0) with
  accessFlags := 49
  interfaces := #[]
  cf := some (fileOf pool1 33 #[] #[{ accessFlags := 2, nameIndex := 5, descriptorIndex := 6, attributes := #[] }, { accessFlags := 9, nameIndex := 37, descriptorIndex := 38, attributes := #[] }] 49 2 #[] #[])
  fields := #[]
  methods := #[k1m0, k1m1]
  instanceTypes := #[]
  staticTypes := #[]
  resolved := Array.replicate 48 none
  statics := none }

def pool2 : Array CpInfo := pool [(1, .class_ 2), (0, u "java/lang/constant/Constable"), (0, .class_ 4), (0, u "java/lang/Object")] 6

/-- java/lang/constant/Constable -/
def k2 : Class := { plain "java/lang/constant/Constable" (some 0) with
  accessFlags := 1537
  interfaces := #[]
  cf := some (fileOf pool2 1 #[] #[] 1537 3 #[] #[])
  fields := #[]
  methods := #[]
  instanceTypes := #[]
  staticTypes := #[]
  resolved := Array.replicate 11 none
  statics := none }

def pool3 : Array CpInfo := pool [(1, .class_ 2), (0, u "java/lang/Comparable"), (0, .class_ 4), (0, u "java/lang/Object")] 7

/-- java/lang/Comparable -/
def k3 : Class := { plain "java/lang/Comparable" (some 0) with
  accessFlags := 1537
  interfaces := #[]
  cf := some (fileOf pool3 1 #[] #[] 1537 3 #[] #[])
  fields := #[]
  methods := #[]
  instanceTypes := #[]
  staticTypes := #[]
  resolved := Array.replicate 12 none
  statics := none }

def pool4 : Array CpInfo := pool [(1, .class_ 2), (0, u "java/io/Serializable"), (0, .class_ 4), (0, u "java/lang/Object")] 2

/-- java/io/Serializable -/
def k4 : Class := { plain "java/io/Serializable" (some 0) with
  accessFlags := 1537
  interfaces := #[]
  cf := some (fileOf pool4 1 #[] #[] 1537 3 #[] #[])
  fields := #[]
  methods := #[]
  instanceTypes := #[]
  staticTypes := #[]
  resolved := Array.replicate 7 none
  statics := none }

def pool5 : Array CpInfo := pool [(2, .class_ 4), (1, u "java/lang/Enum"), (0, u "name"), (0, u "Ljava/lang/String;"), (2, u "ordinal"), (0, u "I"), (1, .class_ 14), (1, u "java/lang/Object"), (4, u "hash"), (86, .class_ 108), (1, u "java/lang/Enum$EnumDesc"), (2, .class_ 112), (0, u "java/lang/constant/Constable"), (0, .class_ 114), (0, u "java/lang/Comparable"), (0, .class_ 116), (0, u "java/io/Serializable")] 87

/-- java/lang/Enum -/
def k5 : Class := { plain "java/lang/Enum" (some 0) with
  accessFlags := 1057
  interfaces := #[2, 3, 4]
  cf := some (fileOf pool5 2 #[.nestMembers #[106]] #[] 1057 12 #[111, 113, 115] #[{ accessFlags := 18, nameIndex := 5, descriptorIndex := 6, attributes := #[] }, { accessFlags := 18, nameIndex := 9, descriptorIndex := 10, attributes := #[] }, { accessFlags := 2, nameIndex := 19, descriptorIndex := 10, attributes := #[] }])
  fields := #[{ name := "name", type := (.object "java/lang/String"), accessFlags := 18, slot := 0, constantValue := 0 }, { name := "ordinal", type := .int, accessFlags := 18, slot := 1, constantValue := 0 }, { name := "hash", type := .int, accessFlags := 2, slot := 2, constantValue := 0 }]
  methods := #[]
  instanceTypes := #[(.object "java/lang/String"), .int, .int]
  staticTypes := #[]
  resolved := Array.replicate 204 none
  statics := none }

def pool6 : Array CpInfo := pool [(8, .class_ 10), (1, u "com/example/tavernlex/tavernlex/Identified"), (26, .class_ 38), (0, u "java/lang/Object")] 27

/-- com/example/tavernlex/tavernlex/Identified -/
def k6 : Class := { plain "com/example/tavernlex/tavernlex/Identified" (some 0) with
  accessFlags := 1536
  interfaces := #[]
  cf := some (fileOf pool6 8 #[] #[] 1536 37 #[] #[])
  fields := #[]
  methods := #[]
  instanceTypes := #[]
  staticTypes := #[]
  resolved := Array.replicate 66 none
  statics := none }

def pool7 : Array CpInfo := pool [(1, .class_ 2), (0, u "com/example/tavernlex/tavernlex/Container"), (0, .fieldref 1 4), (0, .nameAndType 5 6), (0, u "PACKAGE"), (0, u "Lcom/example/tavernlex/tavernlex/Container;"), (2, u "DRAFT"), (2, u "$VALUES"), (0, u "[Lcom/example/tavernlex/tavernlex/Container;"), (6, .class_ 22), (1, u "java/lang/Enum"), (8, u "id"), (0, u "Ljava/lang/String;"), (7, .class_ 42), (1, u "com/example/tavernlex/tavernlex/Identified"), (2, .fieldref 46 47), (0, .class_ 48), (0, .nameAndType 49 50), (0, u "com/example/tavernlex/tavernlex/Beverage"), (0, u "MALT"), (0, u "Lcom/example/tavernlex/tavernlex/Beverage;"), (22, u "holds"), (0, u "(Lcom/example/tavernlex/tavernlex/Beverage;)Z")] 6

def k7c0 : Code := { maxStack := 2, maxLocals := 2, code := prog_10_method_6_code, exceptionTable := #[], attributes := #[] }
def k7m0 : Method := { name := "holds", desc := "(Lcom/example/tavernlex/tavernlex/Beverage;)Z", sig := { parameters := [(.object "com/example/tavernlex/tavernlex/Beverage")], returnType := some .boolean }, accessFlags := 1, code := some k7c0 }
/-- com/example/tavernlex/tavernlex/Container -/
def k7 : Class := { plain "com/example/tavernlex/tavernlex/Container" (some 5) with
  accessFlags := 16433
  interfaces := #[6]
  cf := some (fileOf pool7 1 #[] #[{ accessFlags := 1, nameIndex := 73, descriptorIndex := 74, attributes := #[] }] 16433 20 #[40] #[{ accessFlags := 16409, nameIndex := 5, descriptorIndex := 6, attributes := #[] }, { accessFlags := 16409, nameIndex := 9, descriptorIndex := 6, attributes := #[] }, { accessFlags := 18, nameIndex := 31, descriptorIndex := 32, attributes := #[] }, { accessFlags := 4122, nameIndex := 12, descriptorIndex := 13, attributes := #[] }])
  fields := #[{ name := "PACKAGE", type := (.object "com/example/tavernlex/tavernlex/Container"), accessFlags := 16409, slot := 0, constantValue := 0 }, { name := "DRAFT", type := (.object "com/example/tavernlex/tavernlex/Container"), accessFlags := 16409, slot := 1, constantValue := 0 }, { name := "id", type := (.object "java/lang/String"), accessFlags := 18, slot := 3, constantValue := 0 }, { name := "$VALUES", type := (.array (.object "com/example/tavernlex/tavernlex/Container")), accessFlags := 4122, slot := 2, constantValue := 0 }]
  methods := #[k7m0]
  instanceTypes := #[(.object "java/lang/String"), .int, .int, (.object "java/lang/String")]
  staticTypes := #[(.object "com/example/tavernlex/tavernlex/Container"), (.object "com/example/tavernlex/tavernlex/Container"), (.array (.object "com/example/tavernlex/tavernlex/Container"))]
  resolved := Array.replicate 81 none
  statics := some 0 }

def pool8 : Array CpInfo := pool [(1, .class_ 2), (0, u "com/example/tavernlex/tavernlex/Beverage"), (2, u "MALT"), (0, u "Lcom/example/tavernlex/tavernlex/Beverage;"), (2, u "WINE"), (2, u "SPIRITS"), (2, u "$VALUES"), (0, u "[Lcom/example/tavernlex/tavernlex/Beverage;"), (6, .class_ 25), (1, u "java/lang/Enum"), (8, u "id"), (0, u "Ljava/lang/String;"), (7, .class_ 45), (1, u "com/example/tavernlex/tavernlex/Identified")] 32

/-- com/example/tavernlex/tavernlex/Beverage -/
def k8 : Class := { plain "com/example/tavernlex/tavernlex/Beverage" (some 5) with
  accessFlags := 16433
  interfaces := #[6]
  cf := some (fileOf pool8 1 #[] #[] 16433 23 #[43] #[{ accessFlags := 16409, nameIndex := 5, descriptorIndex := 6, attributes := #[] }, { accessFlags := 16409, nameIndex := 9, descriptorIndex := 6, attributes := #[] }, { accessFlags := 16409, nameIndex := 12, descriptorIndex := 6, attributes := #[] }, { accessFlags := 18, nameIndex := 34, descriptorIndex := 35, attributes := #[] }, { accessFlags := 4122, nameIndex := 15, descriptorIndex := 16, attributes := #[] }])
  fields := #[{ name := "MALT", type := (.object "com/example/tavernlex/tavernlex/Beverage"), accessFlags := 16409, slot := 0, constantValue := 0 }, { name := "WINE", type := (.object "com/example/tavernlex/tavernlex/Beverage"), accessFlags := 16409, slot := 1, constantValue := 0 }, { name := "SPIRITS", type := (.object "com/example/tavernlex/tavernlex/Beverage"), accessFlags := 16409, slot := 2, constantValue := 0 }, { name := "id", type := (.object "java/lang/String"), accessFlags := 18, slot := 3, constantValue := 0 }, { name := "$VALUES", type := (.array (.object "com/example/tavernlex/tavernlex/Beverage")), accessFlags := 4122, slot := 3, constantValue := 0 }]
  methods := #[]
  instanceTypes := #[(.object "java/lang/String"), .int, .int, (.object "java/lang/String")]
  staticTypes := #[(.object "com/example/tavernlex/tavernlex/Beverage"), (.object "com/example/tavernlex/tavernlex/Beverage"), (.object "com/example/tavernlex/tavernlex/Beverage"), (.array (.object "com/example/tavernlex/tavernlex/Beverage"))]
  resolved := Array.replicate 78 none
  statics := some 1 }

def pool9 : Array CpInfo := pool [(1, u "java/lang/Cloneable"), (0, .class_ 1), (0, u "java/lang/Object"), (0, .class_ 3)] 3

/-- java/lang/Cloneable -/
def k9 : Class := { plain "java/lang/Cloneable" (some 0) with
  accessFlags := 1537
  interfaces := #[]
  cf := some (fileOf pool9 2 #[] #[] 1537 4 #[] #[])
  fields := #[]
  methods := #[]
  instanceTypes := #[]
  staticTypes := #[]
  resolved := Array.replicate 8 none
  statics := none }

/-- the primitive boolean -/
def k10 : Class := { plain "boolean" none with kind := .primitive 'Z', accessFlags := 0x411 }
/-- [Z -/
def k11 : Class := { plain "[Z" (some 0) with kind := .array 10 .boolean, interfaces := #[9, 4], accessFlags := 1041 }

/-- the primitive byte -/
def k12 : Class := { plain "byte" none with kind := .primitive 'B', accessFlags := 0x411 }
/-- [B -/
def k13 : Class := { plain "[B" (some 0) with kind := .array 12 .byte, interfaces := #[9, 4], accessFlags := 1041 }

/-- the primitive int -/
def k14 : Class := { plain "int" none with kind := .primitive 'I', accessFlags := 0x411 }
/-- [I -/
def k15 : Class := { plain "[I" (some 0) with kind := .array 14 .int, interfaces := #[9, 4], accessFlags := 1041 }

/-- [Lcom/example/tavernlex/tavernlex/Beverage; -/
def k16 : Class := { plain "[Lcom/example/tavernlex/tavernlex/Beverage;" (some 0) with kind := .array 8 (.object "com/example/tavernlex/tavernlex/Beverage"), interfaces := #[9, 4], accessFlags := 1041 }

/-- [Lcom/example/tavernlex/tavernlex/Container; -/
def k17 : Class := { plain "[Lcom/example/tavernlex/tavernlex/Container;" (some 0) with kind := .array 7 (.object "com/example/tavernlex/tavernlex/Container"), interfaces := #[9, 4], accessFlags := 1041 }

def heap : Heap := #[{ cls := 7, slots := #[.ref 2, .ref 3, .null], vm := .statics 7 },
  { cls := 8, slots := #[.ref 4, .ref 5, .ref 6, .null], vm := .statics 8 },
  { cls := 7, slots := #[.null, .int 0, .int 0, .null], vm := .none },
  { cls := 7, slots := #[.null, .int 1, .int 0, .null], vm := .none },
  { cls := 8, slots := #[.null, .int 0, .int 0, .null], vm := .none },
  { cls := 8, slots := #[.null, .int 1, .int 0, .null], vm := .none },
  { cls := 8, slots := #[.null, .int 2, .int 0, .null], vm := .none }]
def classes : Array Class := #[k0, k1, k2, k3, k4, k5, k6, k7, k8, k9, k10, k11, k12, k13, k14, k15, k16, k17]
def interned : List (Array UInt16 × Addr) := []
def slotsUsed : Nat := 27
def theMethod : MethodId := ⟨1, 1⟩
def args0 : Array Value := #[.int 1, .int 2]
def aboutOver (below : List Frame) : State where
  vm := { classes := classes, interned := interned.toArray }
  heap := heap
  slotsUsed := slotsUsed
  threads := #[{ frames := .invoking theMethod args0 :: below }]
def below0 : List Frame := [.native { method := ⟨0, 0⟩, args := #[] }]
def about1 : State := aboutOver below0
def p0 : Program := .bare "" "" ""
def e0 : Env := launch0.env 0 0 0
theorem w_frames : about1.frames = Frame.invoking theMethod args0 :: below0 := rfl
set_option maxRecDepth 65536 in
theorem w_args : argsFit about1.vm theMethod args0 = true := by decide +kernel
set_option maxRecDepth 65536 in
theorem w_heap : heapFits about1 = true := by decide +kernel
set_option maxRecDepth 65536 in
theorem w_runnable : about1.curStatus? = some .runnable := by decide +kernel
set_option maxRecDepth 65536 in
theorem w_alone : about1.alone = true := by decide +kernel
set_option maxRecDepth 65536 in
theorem w_named : about1.methodNamed? x = some theMethod := by decide +kernel
set_option maxRecDepth 65536 in
theorem w_hears : about1.hears theMethod below0 = true := by decide +kernel
set_option maxRecDepth 65536 in
theorem w_ripe : about1.ripe theMethod args0 below0 = true := by decide +kernel
theorem w_running : about1.status = .running := rfl
set_option maxRecDepth 65536 in
theorem w_room : about1.hasRoom e0.platform room_1 = true :=
  launch0.hasRoom_least _ room_1 (by decide +kernel) (by decide +kernel) (by decide +kernel) (by decide +kernel) (by decide +kernel) (by decide +kernel)
theorem allAtoms_all (ts : List Jvm.Cond) (a : Array Jvm.Value) (st : Jvm.State) : (allAtoms ts).before a st = ts.all (fun c => c.before a st) := by
  induction ts with
  | nil => rfl
  | cons c t ih =>
    show (Jvm.Cond.and c (allAtoms t)).before a st = _
    rw [Jvm.Cond.before_and, ih, List.all_cons]
def words1 : List Jvm.Cond := Jvm.Cond.code x code maxLocals ret :: tables_1
/-- a 'code' word, met by the world's own term for the bytes: nothing is compared byte by byte -/
theorem code_word {y : MethodName} {bytes : ByteArray} {mx : Nat} {rt : Option FieldType} {a : Array Value} {s : State} {m : MethodId} {meth : Method} {c : Code} (h1 : s.methodNamed? y = some m) (h2 : s.vm.method? m = some meth) (h3 : meth.code = some c) (h4 : c.code = bytes)
    (h5 : (c.maxLocals == mx && c.exceptionTable.isEmpty && decide (c.maxStack ≤ mostOperands) && decide (meth.sig.returnType = rt) && !meth.locks && decide (parseMethodDescriptor y.desc = some meth.sig)) = true) : (Jvm.Cond.code y bytes mx rt).before a s = true := by
  simp only [Bool.and_eq_true, beq_iff_eq, Bool.not_eq_true', decide_eq_true_eq] at h5
  obtain ⟨⟨⟨⟨⟨g1, g2⟩, g3⟩, g4⟩, g5⟩, g6⟩ := h5
  simp [Cond.before, Cond.holds, Cond.value, h1, h2, h3, h4, g1, g2, g3, g4, g5, g6]
def isCode : Jvm.Cond → Bool
  | .code _ _ _ _ => true
  | _ => false
theorem all_split {L : List Jvm.Cond} {P : Jvm.Cond → Bool} (h1 : L.all (fun c => isCode c || P c) = true) (h2 : ∀ c ∈ L.filter isCode, P c = true) : L.all P = true := by
  refine List.all_eq_true.mpr fun c hc => ?_
  have h := List.all_eq_true.mp h1 c hc
  rcases Bool.eq_false_or_eq_true (isCode c) with hi | hi
  · exact h2 c (List.mem_filter.mpr ⟨hc, hi⟩)
  · simpa [hi] using h
set_option maxRecDepth 65536 in
theorem w_c0 : (Jvm.Cond.code x code maxLocals ret).before args0 about1 = true := code_word (m := ⟨1, 1⟩) (meth := k1m1) (c := k1c1) (by decide +kernel) rfl rfl rfl (by decide +kernel)
set_option maxRecDepth 65536 in
theorem w_c1 : (Jvm.Cond.code ({ cls := "com/example/tavernlex/tavernlex/Container", name := "holds", desc := "(Lcom/example/tavernlex/tavernlex/Beverage;)Z" } : Jvm.MethodName) prog_10_method_6_code (2 : Nat) (Option.some Jvm.ClassFile.FieldType.boolean)).before args0 about1 = true := code_word (m := ⟨7, 0⟩) (meth := k7m0) (c := k7c0) (by decide +kernel) rfl rfl rfl (by decide +kernel)
def codes1 : List Jvm.Cond := [Jvm.Cond.code x code maxLocals ret, Jvm.Cond.code ({ cls := "com/example/tavernlex/tavernlex/Container", name := "holds", desc := "(Lcom/example/tavernlex/tavernlex/Beverage;)Z" } : Jvm.MethodName) prog_10_method_6_code (2 : Nat) (Option.some Jvm.ClassFile.FieldType.boolean)]
set_option maxRecDepth 65536 in
theorem codes_eq : words1.filter isCode = codes1 := rfl
theorem w_codes : ∀ c ∈ words1.filter isCode, c.before args0 about1 = true := by
  rw [codes_eq]
  intro c hc
  simp only [codes1, List.mem_cons, List.not_mem_nil, or_false] at hc
  rcases hc with rfl | rfl
  · exact w_c0
  · exact w_c1
set_option maxRecDepth 65536 in
theorem w_t1 : (words1.take 24).all (fun c => isCode c || c.before args0 about1) = true := by decide +kernel
set_option maxRecDepth 65536 in
theorem w_t2 : (words1.drop 24).all (fun c => isCode c || c.before args0 about1) = true := by decide +kernel
theorem w_tables : (allAtoms (Jvm.Cond.code x code maxLocals ret :: tables_1)).before args0 about1 = true := by
  rw [allAtoms_all]
  show words1.all (fun c => c.before args0 about1) = true
  refine all_split ?_ w_codes
  rw [← List.take_append_drop 24 words1, List.all_append, w_t1, w_t2]
  rfl
set_option maxRecDepth 65536 in
theorem w_case : (Jvm.Cond.and given_1 narrow_1).before args0 about1 = true := by decide +kernel
theorem w_applies : (headSpec (Jvm.Cond.code x code maxLocals ret :: tables_1) room_1).applies x e0.platform about1 = true :=
  (Spec.applies_iff w_frames).mpr ⟨w_running, w_runnable, w_alone, w_named, w_hears, w_ripe, w_room, w_tables⟩
theorem atStart : AtStart classFile x code maxLocals ret World_1 tables_1 room_1 Calls_1 rest_1 Pre_1 launch0 p0 e0 about1 theMethod args0 below0 :=
  ⟨lists_1, trivial, launch0.admits_env _ _ _, launch0.least_env, fairChoices_fair.cas, fairChoices_fair.clock, w_frames, w_args, w_heap, w_applies, trivial, trivial, w_case⟩
end start1
theorem witness_1 : WitnessClaimed_1 := ⟨start1.p0, start1.e0, start1.about1, start1.theMethod, start1.args0, start1.below0, start1.atStart⟩
end Jvm.Pilot.@@N@@
