import JvmDerived
import JvmDerived.Pilot.@@N@@Statement
import JvmDerived.Pilot.@@N@@Code
set_option linter.unusedVariables false
set_option linter.unusedSimpArgs false
@@BLOCK:NumsL.lean.txt@@
namespace Jvm.RoadKit
open Sem ClassFile Op Lib Jvm.Stand Jvm.Free Jvm.LawKit
section Own
variable {p : Program} {l : Launch} {e : Env} {R : Room} {s : State} {m : MethodId} {args : Array Value} {below : List Frame} {meth : Method} {c : Code} {T : State} {locs : List Loc} {cells slots : Nat} {Z : State} {h h' : Heap} {a b : Addr} {ty : FieldType} {vs : List Value} {cl : Cell} {sl : Nat} {v : Value} {ws : List Addr}
theorem mw {α : Type} {x : α} {L : List α} (i : Nat) (q : L[i]? = some x) : x ∈ L := List.mem_of_getElem? q
/-- from A the body comes to its end, and Q holds there -/
def Goal (p : Program) (e : Env) (below : List Frame) (s : State) (Q : Option Value → Heap → List Loc → Prop) (k n : Nat) (A : State) : Prop :=
  ∃ s₂ o, Steps p.tables e below A s₂ ∧ s₂.status = .running ∧ Ended s₂ below o ∧ ∃ v L, o = .returned v ∧ Q v s₂.heap L ∧ FrameEnd s o s₂ L k n
variable {Q : Option Value → Heap → List Loc → Prop} {k n : Nat} {A B : State}
theorem Goal.to (f : ∀ t, Steps p.tables e below B t → Steps p.tables e below A t) (g : Goal p e below s Q k n B) : Goal p e below s Q k n A := by
  obtain ⟨s₂, o, h1, r⟩ := g
  exact ⟨s₂, o, f _ h1, r⟩
theorem Goal.tr (f : Steps p.tables e below A B) (g : Goal p e below s Q k n B) : Goal p e below s Q k n A := Goal.to (fun t q => f.trans q) g
theorem Goal.retV (X : Stand p l e R s m args below meth c T locs cells slots) (hx : p.tables.exec = Jvm.exec) {pc : Nat} {Ls : Array Slot} {w : Value} {t : FieldType} {i : Instr} {rest : List Value} (hret : meth.sig.returnType = some t) (hn : narrow t w = w)
    (hi : (i = .ireturn ∧ (t = .int ∨ t = .boolean ∨ t = .byte ∨ t = .char ∨ t = .short) ∧ ∃ z, w = .int z) ∨ (i = .lreturn ∧ t = .long ∧ ∃ z, w = .long z) ∨ (i = .dreturn ∧ t = .double ∧ ∃ z, w = .double z) ∨ (i = .freturn ∧ t = .float ∧ ∃ z, w = .float z) ∨ (i = .areturn ∧ t.isReference = true ∧ w.isRef = true))
    (hd : decode c.code pc = .ok (i, 1)) (hlk : meth.locks = false) (eT : T.heap = h) (hq : Q (some w) h locs) (hc : cells ≤ k) (hs : slots ≤ n) : Goal p e below s Q k n (T.setTop (mkF m pc Ls (w :: rest))) := by
  obtain ⟨fs, hr, hrun, hended, hW, hsame⟩ := X.leave (v := some w) (fun h => by rw [hret] at h; cases h) hlk
  refine ⟨_, _, retOut X hx hret hn hi hd hr, hrun, hended, _, _, rfl, ?_, ⟨_, rfl⟩, hW, hsame.mono hc hs⟩
  show Q (some w) T.heap locs
  rw [eT]; exact hq
theorem Goal.retN (X : Stand p l e R s m args below meth c T locs cells slots) (hx : p.tables.exec = Jvm.exec) {pc : Nat} {Ls : Array Slot} (hret : meth.sig.returnType = none)
    (hd : decode c.code pc = .ok (.return_, 1)) (hlk : meth.locks = false) (eT : T.heap = h) (hq : Q none h locs) (hc : cells ≤ k) (hs : slots ≤ n) : Goal p e below s Q k n (T.setTop (mkF m pc Ls [])) := by
  obtain ⟨fs, hr, hrun, hended, hW, hsame⟩ := X.leave (v := none) (fun _ => rfl) hlk
  refine ⟨_, _, X.returnOut hx hret hd hr, hrun, hended, _, _, rfl, ?_, ⟨_, rfl⟩, hW, hsame.mono hc hs⟩
  show Q none T.heap locs
  rw [eT]; exact hq
/-- the same, with the wide end: texts may have been interned -/
def GoalW (p : Program) (e : Env) (below : List Frame) (s : State) (Q : Option Value → Heap → List Loc → Prop) (k n : Nat) (A : State) : Prop :=
  ∃ s₂ o, Steps p.tables e below A s₂ ∧ s₂.status = .running ∧ Ended s₂ below o ∧ ∃ v L, o = .returned v ∧ Q v s₂.heap L ∧ ReturnedEndW s o s₂ L k n
theorem GoalW.to (f : ∀ t, Steps p.tables e below B t → Steps p.tables e below A t) (g : GoalW p e below s Q k n B) : GoalW p e below s Q k n A := by
  obtain ⟨s₂, o, h1, r⟩ := g
  exact ⟨s₂, o, f _ h1, r⟩
theorem GoalW.tr (f : Steps p.tables e below A B) (g : GoalW p e below s Q k n B) : GoalW p e below s Q k n A := GoalW.to (fun t q => f.trans q) g
theorem GoalW.retV {vm0 : Vm} (X : Stand p l e R (s.setVm vm0) m args below meth c T locs cells slots) {k0 : Nat} (hS : s.Since vm0 k0) (hx : p.tables.exec = Jvm.exec) {pc : Nat} {Ls : Array Slot} {w : Value} {t : FieldType} {i : Instr} {rest : List Value} (hret : meth.sig.returnType = some t) (hn : narrow t w = w)
    (hi : (i = .ireturn ∧ (t = .int ∨ t = .boolean ∨ t = .byte ∨ t = .char ∨ t = .short) ∧ ∃ z, w = .int z) ∨ (i = .lreturn ∧ t = .long ∧ ∃ z, w = .long z) ∨ (i = .dreturn ∧ t = .double ∧ ∃ z, w = .double z) ∨ (i = .freturn ∧ t = .float ∧ ∃ z, w = .float z) ∨ (i = .areturn ∧ t.isReference = true ∧ w.isRef = true))
    (hd : decode c.code pc = .ok (i, 1)) (hlk : meth.locks = false) (eT : T.heap = h) (hk : k0 ≤ h.size) (hq : Q (some w) h locs) (hc : cells ≤ k) (hs : slots ≤ n) : GoalW p e below s Q k n (T.setTop (mkF m pc Ls (w :: rest))) := by
  obtain ⟨fs, hr, hrun, hended, e1, e2, e3, e4⟩ := X.leaveW hS (by rw [eT]; exact hk) (v := some w) (fun h => by rw [hret] at h; cases h) hlk
  refine ⟨_, _, retOut X hx hret hn hi hd hr, hrun, hended, _, _, rfl, ?_, e1, e2, e3, e4.mono hc hs⟩
  show Q (some w) T.heap locs
  rw [eT]; exact hq
theorem nar01 {z : Int32} (q : z = 0 ∨ z = 1) : narrow .boolean (.int z) = .int z := by rcases q with rfl | rfl <;> rfl
theorem catV {r : Value} (q : r.isRef = true) : r.category = 1 := by rcases ref_cases q with rfl | ⟨o, rfl⟩ <;> rfl
theorem catR {o : Addr} : (Value.ref o).category = 1 := rfl
theorem catI {z : Int32} : (Value.int z).category = 1 := rfl
theorem catJ {z : Int64} : (Value.long z).category = 2 := rfl
theorem catN : Value.null.category = 1 := rfl
theorem narV {r : Value} {C : String} (q : r.isRef = true) : narrow (.object C) r = r := by rcases ref_cases q with rfl | ⟨o, rfl⟩ <;> rfl
theorem fitV {r : Value} {C : String} (q : r.isRef = true) : fits (.object C) r = true := by rcases ref_cases q with rfl | ⟨o, rfl⟩ <;> rfl
theorem selP {a0 : Array Value} {y : MethodName} {n : Nat} (hZ : Z.Warmed39 s.vm) (hins : (Cond.instantiable y.cls n).before a0 Z = true) (hp : (Cond.privateMethod y).before a0 Z = true) (hi : (Cond.instanceMethod y).before a0 Z = true) (hy : y.cls ≠ "java/lang/invoke/MethodHandle" ∧ y.cls ≠ "java/lang/invoke/VarHandle") : (Cond.selects y.cls y y).before args s = true := by
  obtain ⟨c, k, hc, hk, -, hniab, -, -⟩ := Cond.instantiable_spec (mv (args := args) hZ hins)
  exact selects_self_of_private hc hk (Bool.or_eq_false_iff.mp hniab).1 (Cond.privateMethod_at (mvP (args := args) hZ hp)) (mv hZ hi) hy
theorem Fld.cast {C n d : String} {w : Value} (F : Fld Z h a C n d v) (q : v = w) : Fld Z h a C n d w := q ▸ F
/-- an array of the heap by the whole list of what it holds -/
def Ary (Z : State) (h : Heap) (a : Addr) (ty : FieldType) (vs : List Value) : Prop := ∃ cl : Cell, Arr Z h a cl ty ∧ cl.slots.toList = vs
theorem Ary.cast {ws : List Value} (F : Ary Z h a ty vs) (q : vs = ws) : Ary Z h a ty ws := q ▸ F
theorem Ary.lt (F : Ary Z h a ty vs) : a < h.size := by obtain ⟨cl, A, -⟩ := F; exact A.lt
theorem Ary.ext (F : Ary Z h a ty vs) (E : Ext h h') : Ary Z h' a ty vs := by obtain ⟨cl, A, r⟩ := F; exact ⟨cl, A.ext E, r⟩
theorem Ary.other (F : Ary Z h a ty vs) (W : Wr h h' b sl v) (q : a ≠ b) : Ary Z h' a ty vs := by obtain ⟨cl, A, r⟩ := F; exact ⟨cl, A.other W q, r⟩
theorem Ary.keep (F : Ary Z h a ty vs) (K : Keep h h' ws) (q : a ∉ ws) : Ary Z h' a ty vs := by obtain ⟨cl, A, r⟩ := F; exact ⟨cl, ⟨K.2.1 a cl A.1 q, A.2⟩, r⟩
theorem Ary.new {k : ClassId} {z : Int32} {N : Nat} (A : Arr Z h a (newA k ty z) ty) (hz : z.toNatClampNeg = N) : Ary Z h a ty (List.replicate N (defaultValue ty)) := ⟨_, A, by simp [newA, hz]⟩
theorem Ary.put {j : Nat} {N : Nat} (A : Arr Z h a cl ty) (S : cl.slots.toList = vs) (W : Wr h h' a j v) (q : j = N) : Ary Z h' a ty (vs.set N v) := ⟨_, A.same W, by subst q; simp [Cell.setSlot, S]⟩
theorem sizeA (S : cl.slots.toList = vs) : cl.slots.size = vs.length := by rw [← S]; simp
theorem inA {j : Int32} (S : cl.slots.toList = vs) (q : ¬ j < 0) (r : j.toNatClampNeg < vs.length) : ¬ (j < 0 ∨ cl.slots.size ≤ j.toNatClampNeg) := by rw [sizeA S]; intro u; rcases u with u | u; exact q u; exact absurd r (Nat.not_lt.mpr u)
theorem atA {j : Nat} (S : cl.slots.toList = vs) (q : vs[j]? = some v) : cl.slots[j]? = some v := by rw [← q, ← S]; simp
theorem lenA {z : Int32} (S : cl.slots.toList = vs) (q : vs.length.toInt32 = z) : cl.slots.size.toInt32 = z := by rw [sizeA S]; exact q
/-- a static that stood when the law began, and what it holds -/
def StaN (Z : State) (n0 : Nat) (h : Heap) (C n d : String) (v : Value) : Prop := ∃ (cf i : Nat) (k : Class) (f : Field) (st : Addr) (cell : Cell), Z.fieldFound? C n d = some (cf, k, i, f) ∧ f.isStatic = true ∧ k.init = .initialized ∧ k.statics = some st ∧ h[st]? = some cell ∧ cell.vm.isStatics = true ∧ cell.slots[f.slot]? = some v ∧ st < n0
section StaN
variable {C nm d : String} {n0 : Nat}
theorem StaN.sta (F : StaN Z n0 h C nm d v) : Sta Z h C nm d v := by obtain ⟨cf, i, k, f, st, cell, h1, h2, h3, h4, h5, h6, h7, -⟩ := F; exact ⟨cf, i, k, f, st, cell, h1, h2, h3, h4, h5, h6, h7⟩
theorem Sta.toN (F : Sta Z h C nm d v) : StaN Z h.size h C nm d v := by obtain ⟨cf, i, k, f, st, cell, h1, h2, h3, h4, h5, h6, h7⟩ := F; exact ⟨cf, i, k, f, st, cell, h1, h2, h3, h4, h5, h6, h7, (Array.getElem?_eq_some_iff.mp h5).1⟩
theorem StaN.ext (F : StaN Z n0 h C nm d v) (E : Ext h h') : StaN Z n0 h' C nm d v := by obtain ⟨cf, i, k, f, st, cell, h1, h2, h3, h4, h5, r⟩ := F; exact ⟨cf, i, k, f, st, cell, h1, h2, h3, h4, E.2 _ _ h5, r⟩
theorem StaN.keep (F : StaN Z n0 h C nm d v) (K : Keep h h' ws) (q : ∀ x ∈ ws, n0 ≤ x) : StaN Z n0 h' C nm d v := by
  obtain ⟨cf, i, k, f, st, cell, h1, h2, h3, h4, h5, h6, h7, h8⟩ := F
  exact ⟨cf, i, k, f, st, cell, h1, h2, h3, h4, K.2.1 _ _ h5 (fun z => absurd h8 (Nat.not_lt.mpr (q _ z))), h6, h7, h8⟩
theorem StaN.wr {w : Value} (F : StaN Z n0 h C nm d v) (W : Wr h h' a sl w) : StaN Z n0 h' C nm d v := by
  obtain ⟨cf, i, k, f, st, cell, h1, h2, h3, h4, h5, h6, h7, h8⟩ := F
  obtain ⟨c', e1, -, -, -, e5, -, e7⟩ := wr_at W h5
  have ne : st ≠ a := fun e => by rw [(e7 e).2.2] at h6; cases h6
  exact ⟨cf, i, k, f, st, cell, h1, h2, h3, h4, by rw [← e5 ne]; exact e1, h6, h7, h8⟩
end StaN
/-- what may lie in an array of objects of class C (of arrays of class C) -/
def OvrO (Z : State) (h : Heap) (a : Addr) (C : String) : Prop := ∃ cl : Cell, h[a]? = some cl ∧ Ovr Z cl.cls C
theorem OvrO.ext {C : String} (F : OvrO Z h a C) (E : Ext h h') : OvrO Z h' a C := by obtain ⟨cl, h1, r⟩ := F; exact ⟨cl, E.2 _ _ h1, r⟩
theorem OvrO.wr {C : String} (F : OvrO Z h a C) (W : Wr h h' b sl v) : OvrO Z h' a C := by obtain ⟨cl, h1, r⟩ := F; obtain ⟨c', e1, e2, -⟩ := wr_at W h1; exact ⟨c', e1, by rw [e2]; exact r⟩
theorem OvrO.keep {C : String} (F : OvrO Z h a C) (K : Keep h h' ws) : OvrO Z h' a C := by obtain ⟨cl, h1, r⟩ := F; obtain ⟨c', e1, e2, -⟩ := K.2.2 _ _ h1; exact ⟨c', e1, by rw [e2]; exact r⟩
theorem stoO {C : String} {y : Addr} (A : Arr Z h a cl ty) (O : OvrO Z h a C) (I : Ins Z h y C true) : Sto Z h a (.ref y) := by
  obtain ⟨c', h1, r⟩ := O
  cases A.1.symm.trans h1
  exact Sto.of A r I
def OvrB (Z : State) (h : Heap) (a : Addr) (C : String) : Prop := ∃ (cl : Cell) (t : FieldType), h[a]? = some cl ∧ OvrA Z cl.cls t C
theorem OvrB.ext {C : String} (F : OvrB Z h a C) (E : Ext h h') : OvrB Z h' a C := by obtain ⟨cl, t, h1, r⟩ := F; exact ⟨cl, t, E.2 _ _ h1, r⟩
theorem OvrB.wr {C : String} (F : OvrB Z h a C) (W : Wr h h' b sl v) : OvrB Z h' a C := by obtain ⟨cl, t, h1, r⟩ := F; obtain ⟨c', e1, e2, -⟩ := wr_at W h1; exact ⟨c', t, e1, by rw [e2]; exact r⟩
theorem OvrB.keep {C : String} (F : OvrB Z h a C) (K : Keep h h' ws) : OvrB Z h' a C := by obtain ⟨cl, t, h1, r⟩ := F; obtain ⟨c', e1, e2, -⟩ := K.2.2 _ _ h1; exact ⟨c', t, e1, by rw [e2]; exact r⟩
theorem stoB {C : String} {y : Addr} (A : Arr Z h a cl ty) (O : OvrB Z h a C) (I : Ins Z h y C true) : Sto Z h a (.ref y) := by
  obtain ⟨c', t, h1, r⟩ := O
  cases A.1.symm.trans h1
  exact Sto.ofVA A rfl r I
theorem fits_nil : ∀ w ∈ ([] : List Value), fits ty w = true := fun _ q => nomatch q
theorem fits_cons (q : fits ty v = true) (r : ∀ w ∈ vs, fits ty w = true) : ∀ w ∈ v :: vs, fits ty w = true := fun w z => (List.mem_cons.mp z).elim (fun u => u ▸ q) (r w)
theorem Ary.arv {dv : Value} {z : Int32} (F : Ary Z h a ty vs) (hz : z.toNatClampNeg = vs.length) (h0 : ¬ z < 0) (hf : ∀ w ∈ vs, fits ty w = true) : ∃ k, Arv Z h a k ty z vs dv := by
  obtain ⟨cl, A, S⟩ := F
  have sz : cl.slots.size = vs.length := sizeA S
  refine ⟨_, cl, A, rfl, sz.trans hz.symm, h0, fun i hi => ?_, fun i hi => ?_⟩
  · rw [sz] at hi
    refine atA S ?_
    rw [List.getD_eq_getElem?_getD, List.getElem?_eq_getElem hi]; rfl
  · rw [sz] at hi
    rw [List.getD_eq_getElem?_getD, List.getElem?_eq_getElem hi]
    exact hf _ (List.getElem_mem hi)
theorem Arv.ary {k : ClassId} {z : Int32} {dv : Value} (F : Arv Z h a k ty z vs dv) (hz : z.toNatClampNeg = vs.length) : Ary Z h a ty vs := by
  obtain ⟨cl, A, -, S, -, H, -⟩ := F
  refine ⟨cl, A, List.ext_getElem? fun i => ?_⟩
  by_cases hi : i < cl.slots.size
  · have q := H i hi
    have hv : i < vs.length := by omega
    rw [List.getD_eq_getElem?_getD, List.getElem?_eq_getElem hv] at q
    rw [List.getElem?_eq_getElem hv, Array.getElem?_toList]; exact q
  · rw [List.getElem?_eq_none (by simp; omega), List.getElem?_eq_none (by omega)]
theorem storeV {Ls : Array Slot} {i : Nat} {r : Value} {o : Slot} {l' : Array Slot} (q : r.isRef = true) (ho : o = .unset ∨ ∃ w, o = .val w ∧ w.category = 1) (hold : Ls[i]? = some o := by rfl) (hl : Ls.setIfInBounds i (.val r) = l' := by rfl) : storeLocals Ls i r = some l' := by
  rw [← hl]; exact XS.store1 hold ho (catV q)
end Own
end Jvm.RoadKit
namespace Jvm.Pilot.@@N@@
open Jvm Jvm.ClassFile Sem Op Lib Jvm.Free Jvm.Stand Jvm.LawKit Jvm.RoadKit Bundle Jvm.Pilot.@@N@@.Jvm.D
def own_pick (k : Int32) (x y z : Value) : Value := if (k &&& (3 : Int32)) = (0 : Int32) then .null else if (k &&& (3 : Int32)) = (1 : Int32) then x else if (k &&& (3 : Int32)) = (2 : Int32) then y else z
theorem own_pickR (k : Int32) (a b d : Addr) : (own_pick k (.ref a) (.ref b) (.ref d)).isRef = true := by
  unfold own_pick
  by_cases h1 : (k &&& (3 : Int32)) = (0 : Int32)
  · rw [if_pos h1]; rfl
  · rw [if_neg h1]
    by_cases h2 : (k &&& (3 : Int32)) = (1 : Int32)
    · rw [if_pos h2]; rfl
    · rw [if_neg h2]
      by_cases h3 : (k &&& (3 : Int32)) = (2 : Int32)
      · rw [if_pos h3]; rfl
      · rw [if_neg h3]; rfl
def own_B (al ar sl sr : Value) : Int32 := if al = sl then (if ar = sr then (1 : Int32) else (0 : Int32)) else (0 : Int32)
def own_L (al ar sl sr : Value) (ss si : Int64) : Value := if own_B al ar sl sr = (1 : Int32) then sl else if (lcmpW (ss + (1 : Int64)) si) = (0 : Int32) then al else sl
def own_R (al ar sl sr : Value) (ss si : Int64) : Value := if own_B al ar sl sr = (1 : Int32) then sr else if (lcmpW (ss + (1 : Int64)) si) = (0 : Int32) then ar else sr
def own_S (al ar sl sr : Value) (ss si : Int64) : Int64 := if own_B al ar sl sr = (1 : Int32) then (0 : Int64) else if (lcmpW (ss + (1 : Int64)) si) = (0 : Int32) then (0 : Int64) else (ss + (1 : Int64))
def own_I (al ar sl sr : Value) (ss si : Int64) : Int64 := if own_B al ar sl sr = (1 : Int32) then si else if (lcmpW (ss + (1 : Int64)) si) = (0 : Int32) then (si * (2 : Int64)) else si
theorem ef_1 (m : MethodId) (x0 : Addr)  : entryFrame m #[(.ref x0)] 1 = mkF m 0 #[.val (.ref x0)] [] := by first | (simp [entryFrame, mkF, argsToLocals, Value.category]; done) | rfl
theorem pn_1 : plainName "com/example/tributary/tributary/runtime/Revisits" = true := by first | (simp [plainName, overriddenIn]; done) | decide +kernel
theorem d1_0 : decode prog_118_method_1_code 0 = .ok (.aload_n 0, 1) := by decide +kernel
theorem d1_1 : decode prog_118_method_1_code 1 = .ok (.invokespecial 1, 3) := by decide +kernel
theorem d1_4 : decode prog_118_method_1_code 4 = .ok (.aload_n 0, 1) := by decide +kernel
theorem d1_5 : decode prog_118_method_1_code 5 = .ok (.lconst 1, 1) := by decide +kernel
theorem d1_6 : decode prog_118_method_1_code 6 = .ok (.putfield 7, 3) := by decide +kernel
theorem d1_9 : decode prog_118_method_1_code 9 = .ok (.return_, 1) := by decide +kernel
def QN (Z : State) (va : Addr) (h0 : Heap) (n0 : Nat) (v : Option Value) (h : Heap) (L : List Loc) : Prop := v = none ∧ Fr n0 L ∧ Keep h0 h [va] ∧ Fld Z h va "com/example/tributary/tributary/runtime/Revisits" "markedLeft" "Ljava/lang/Object;" .null ∧ Fld Z h va "com/example/tributary/tributary/runtime/Revisits" "markedRight" "Ljava/lang/Object;" .null ∧ Fld Z h va "com/example/tributary/tributary/runtime/Revisits" "sinceMark" "J" (.long (0 : Int64)) ∧ Fld Z h va "com/example/tributary/tributary/runtime/Revisits" "markInterval" "J" (.long (1 : Int64))
set_option maxRecDepth 65536 in
set_option maxHeartbeats 40000000 in
theorem rmN (l : Launch) (Z : State) (a0 : Array Value) (hw : ∀ d ∈ tables_1, d.before a0 Z = true) (ws : List Jvm.Cond) (va : Addr) (h0 : Heap) (n0 : Nat) (Z0 : n0 ≤ h0.size) (E_va : Exa Z h0 va "com/example/tributary/tributary/runtime/Revisits") (F_markedLeft_va : Fld Z h0 va "com/example/tributary/tributary/runtime/Revisits" "markedLeft" "Ljava/lang/Object;" .null) (F_markedRight_va : Fld Z h0 va "com/example/tributary/tributary/runtime/Revisits" "markedRight" "Ljava/lang/Object;" .null) (F_sinceMark_va : Fld Z h0 va "com/example/tributary/tributary/runtime/Revisits" "sinceMark" "J" (.long (0 : Int64))) (F_markInterval_va : Fld Z h0 va "com/example/tributary/tributary/runtime/Revisits" "markInterval" "J" (.long (0 : Int64))) (g_va : n0 ≤ va) :
    MetFree l (⟨"com/example/tributary/tributary/runtime/Revisits", "<init>", "()V"⟩ : MethodName) (head1 (Jvm.Cond.code (⟨"com/example/tributary/tributary/runtime/Revisits", "<init>", "()V"⟩ : MethodName) prog_118_method_1_code 1 none :: ws) ({ frames := 1, cells := 0, slots := 0, locals := 12 } : Room)) (fun a U => a = #[(.ref va)] ∧ Z.Warmed39 U.vm ∧ U.heap = h0) (fun _ _ _ _ _ => True) (fun _ U o U' => ∃ v L, o = .returned v ∧ QN Z va h0 n0 v U'.heap L ∧ FrameEnd U o U' L 0 0) := by
  refine MetFree.of_bodySF (plainFor_of_name pn_1) hisR ?_
  intro p e s m args below meth c s₁ Bd hml0 hP hK
  obtain ⟨rfl, hZ, hh⟩ := hP
  have hx := Bd.exec
  have hby := Bd.bytes
  have hml : c.maxLocals = 1 := hml0
  have hown : s.vm.findClass "com/example/tributary/tributary/runtime/Revisits" = some m.cls := findClass_of_methodNamed Bd.named
  have hnm := (name_of_methodNamed Bd.named Bd.method).1
  have X0 : Stand p l e ({ frames := 1, cells := 0, slots := 0, locals := 12 } : Room) s m #[(.ref va)] below meth c s₁ [] 0 0 := Stand.of_body Bd
  have e0 : s₁.heap = h0 := by rw [← hh, Bd.state]; rfl
  have N0 := Fr.nil n0
  have hlk : meth.locks = false := BodyLoose.notSynchronized Bd
  show Goal p e below s (QN Z va h0 n0) 0 0 (s₁.setTop (entryFrame m #[(.ref va)] 1))
  refine Goal.to (B := s₁.setTop (mkF m 0 #[.val (.ref va)] [])) (fun tt kk => castTop (ef_1 m va ) kk) ?_
  refine Goal.to (B := s₁.setTop (mkF m 1 #[.val (.ref va)] [(.ref va)])) (fun tt kk => ?_) ?_
  · show Steps p.tables e below (s₁.setTop (mkF m 0 #[.val (.ref va)] [])) tt
    refine XS.aloadN X0.here hx rfl (hb hby d1_0) rfl rfl ?_
    exact kk
  obtain ⟨T1, X1, e1, st1⟩ := initO X0 hx hZ hown (hw _ (mw 7 rfl)) (hw _ (mw 8 rfl)) (hw _ (mw 9 rfl)) e0 (g := (mkF m 1 #[.val (.ref va)] [(.ref va)])) rfl (by rw [hml]; rfl) rfl (hb hby d1_1) (by decide) (W := 0) (by show 2 * 0 + _ ≤ _; exact Nat.le_of_eq rfl) (by decide)
  refine Goal.to (B := T1.setTop (mkF m 4 #[.val (.ref va)] [])) st1 ?_
  refine Goal.to (B := T1.setTop (mkF m 6 #[.val (.ref va)] [(.long (1 : Int64)), (.ref va)])) (fun tt kk => ?_) ?_
  · show Steps p.tables e below (T1.setTop (mkF m 4 #[.val (.ref va)] [])) tt
    refine XS.aloadN X1.here hx rfl (hb hby d1_4) rfl rfl ?_
    show Steps p.tables e below (T1.setTop (mkF m 5 #[.val (.ref va)] [(.ref va)])) tt
    refine XS.lconst X1.here hx rfl (hb hby d1_5) ?_
    exact kk
  obtain ⟨T2, h2, X2, e2, W2, st2⟩ := putF X1 hx hZ hown (host := "") (Or.inl (hw _ (mw 10 rfl))) Via.refl e1 F_markInterval_va E_va (Or.inl (hw _ (mw 11 rfl))) (hw _ (mw 2 rfl)) (ty := .long) (by decide) rfl rfl (g := (mkF m 6 #[.val (.ref va)] [(.long (1 : Int64)), (.ref va)])) rfl rfl (hb hby d1_6)
  have Fw2 : Fld Z h2 va "com/example/tributary/tributary/runtime/Revisits" "markInterval" "J" (.long (1 : Int64)) := F_markInterval_va.same W2
  have N2 := Fr.snoc X2 N0 g_va
  refine Goal.to (B := T2.setTop (mkF m 9 #[.val (.ref va)] [])) st2 ?_
  have f3 : Keep h0 h2 [va] := ((Keep.refl h0 [va]).wr W2 (Or.inl (List.mem_of_getElem? (i := 0) rfl)))
  have f4 : Fld Z h2 va "com/example/tributary/tributary/runtime/Revisits" "markedLeft" "Ljava/lang/Object;" .null := (F_markedLeft_va.other W2 (Or.inr (slot_ne (Or.inl (hw _ (mw 22 rfl))) (Or.inl (hw _ (mw 11 rfl))) (by decide) (t := (.object "java/lang/Object")) (t' := .long) (by decide) (by decide))))
  have f5 : Fld Z h2 va "com/example/tributary/tributary/runtime/Revisits" "markedRight" "Ljava/lang/Object;" .null := (F_markedRight_va.other W2 (Or.inr (slot_ne (Or.inl (hw _ (mw 24 rfl))) (Or.inl (hw _ (mw 11 rfl))) (by decide) (t := (.object "java/lang/Object")) (t' := .long) (by decide) (by decide))))
  have f6 : Fld Z h2 va "com/example/tributary/tributary/runtime/Revisits" "sinceMark" "J" (.long (0 : Int64)) := (F_sinceMark_va.other W2 (Or.inr (slot_ne (Or.inl (hw _ (mw 26 rfl))) (Or.inl (hw _ (mw 11 rfl))) (by decide) (t := .long) (t' := .long) (by decide) (by decide))))
  exact Goal.retN X2 hx Bd.returns (hb hby d1_9) hlk e2 ⟨rfl, N2, f3, f4, f5, f6, Fw2⟩ (by decide) (by decide)
theorem ef_3 (m : MethodId) (x0 : Int32) (x1 : Addr) (x2 : Addr) (x3 : Addr)  : entryFrame m #[(.int x0), (.ref x1), (.ref x2), (.ref x3)] 5 = mkF m 0 #[.val (.int x0), .val (.ref x1), .val (.ref x2), .val (.ref x3), .unset] [] := by first | (simp [entryFrame, mkF, argsToLocals, Value.category]; done) | rfl
theorem pn_3 : plainName "com/example/tributary/tributary/runtime/RevisitsCopyFromPinLaw" = true := by first | (simp [plainName, overriddenIn]; done) | decide +kernel
theorem d3_0 : decode method_2_code 0 = .ok (.iload_n 0, 1) := by decide +kernel
theorem d3_1 : decode method_2_code 1 = .ok (.iconst 3, 1) := by decide +kernel
theorem d3_2 : decode method_2_code 2 = .ok (.iand, 1) := by decide +kernel
theorem d3_3 : decode method_2_code 3 = .ok (.istore 4, 2) := by decide +kernel
theorem d3_5 : decode method_2_code 5 = .ok (.iload 4, 2) := by decide +kernel
theorem d3_7 : decode method_2_code 7 = .ok (.ifCond .ne 5, 3) := by decide +kernel
theorem d3_10 : decode method_2_code 10 = .ok (.aconst_null, 1) := by decide +kernel
theorem d3_11 : decode method_2_code 11 = .ok (.areturn, 1) := by decide +kernel
theorem d3_12 : decode method_2_code 12 = .ok (.iload 4, 2) := by decide +kernel
theorem d3_14 : decode method_2_code 14 = .ok (.iconst 1, 1) := by decide +kernel
theorem d3_15 : decode method_2_code 15 = .ok (.if_icmp .ne 5, 3) := by decide +kernel
theorem d3_18 : decode method_2_code 18 = .ok (.aload_n 1, 1) := by decide +kernel
theorem d3_19 : decode method_2_code 19 = .ok (.areturn, 1) := by decide +kernel
theorem d3_20 : decode method_2_code 20 = .ok (.iload 4, 2) := by decide +kernel
theorem d3_22 : decode method_2_code 22 = .ok (.iconst 2, 1) := by decide +kernel
theorem d3_23 : decode method_2_code 23 = .ok (.if_icmp .ne 5, 3) := by decide +kernel
theorem d3_26 : decode method_2_code 26 = .ok (.aload_n 2, 1) := by decide +kernel
theorem d3_27 : decode method_2_code 27 = .ok (.areturn, 1) := by decide +kernel
theorem d3_28 : decode method_2_code 28 = .ok (.aload_n 3, 1) := by decide +kernel
theorem d3_29 : decode method_2_code 29 = .ok (.areturn, 1) := by decide +kernel
def Qpk (Z : State) (u0 : Int32) (va : Addr) (vb : Addr) (vc : Addr) (h0 : Heap) (n0 : Nat) (v : Option Value) (h : Heap) (L : List Loc) : Prop := v = some (own_pick u0 (.ref va) (.ref vb) (.ref vc)) ∧ Fr n0 L ∧ h = h0
set_option maxRecDepth 65536 in
set_option maxHeartbeats 40000000 in
theorem rmpk (l : Launch) (Z : State) (a0 : Array Value) (hw : ∀ d ∈ tables_1, d.before a0 Z = true) (ws : List Jvm.Cond) (u0 : Int32) (va : Addr) (vb : Addr) (vc : Addr) (h0 : Heap) (n0 : Nat) (Z0 : n0 ≤ h0.size) :
    MetFree l (⟨"com/example/tributary/tributary/runtime/RevisitsCopyFromPinLaw", "pick", "(ILjava/lang/Object;Ljava/lang/Object;Ljava/lang/Object;)Ljava/lang/Object;"⟩ : MethodName) (head1 (Jvm.Cond.code (⟨"com/example/tributary/tributary/runtime/RevisitsCopyFromPinLaw", "pick", "(ILjava/lang/Object;Ljava/lang/Object;Ljava/lang/Object;)Ljava/lang/Object;"⟩ : MethodName) method_2_code 5 (some (.object "java/lang/Object")) :: ws) ({ frames := 0, cells := 0, slots := 0, locals := 0 } : Room)) (fun a U => a = #[(.int u0), (.ref va), (.ref vb), (.ref vc)] ∧ Z.Warmed39 U.vm ∧ U.heap = h0) (fun _ _ _ _ _ => True) (fun _ U o U' => ∃ v L, o = .returned v ∧ Qpk Z u0 va vb vc h0 n0 v U'.heap L ∧ FrameEnd U o U' L 0 0) := by
  refine MetFree.of_bodySF (plainFor_of_name pn_3) hisR ?_
  intro p e s m args below meth c s₁ Bd hml0 hP hK
  obtain ⟨rfl, hZ, hh⟩ := hP
  have hx := Bd.exec
  have hby := Bd.bytes
  have hml : c.maxLocals = 5 := hml0
  have hown : s.vm.findClass "com/example/tributary/tributary/runtime/RevisitsCopyFromPinLaw" = some m.cls := findClass_of_methodNamed Bd.named
  have hnm := (name_of_methodNamed Bd.named Bd.method).1
  have X0 : Stand p l e ({ frames := 0, cells := 0, slots := 0, locals := 0 } : Room) s m #[(.int u0), (.ref va), (.ref vb), (.ref vc)] below meth c s₁ [] 0 0 := Stand.of_body Bd
  have e0 : s₁.heap = h0 := by rw [← hh, Bd.state]; rfl
  have N0 := Fr.nil n0
  have hlk : meth.locks = false := BodyLoose.notSynchronized Bd
  show Goal p e below s (Qpk Z u0 va vb vc h0 n0) 0 0 (s₁.setTop (entryFrame m #[(.int u0), (.ref va), (.ref vb), (.ref vc)] 5))
  refine Goal.to (B := s₁.setTop (mkF m 0 #[.val (.int u0), .val (.ref va), .val (.ref vb), .val (.ref vc), .unset] [])) (fun tt kk => castTop (ef_3 m u0 va vb vc ) kk) ?_
  refine Goal.to (B := s₁.setTop (mkF m 7 #[.val (.int u0), .val (.ref va), .val (.ref vb), .val (.ref vc), .val (.int (u0 &&& (3 : Int32)))] [(.int (u0 &&& (3 : Int32)))])) (fun tt kk => ?_) ?_
  · show Steps p.tables e below (s₁.setTop (mkF m 0 #[.val (.int u0), .val (.ref va), .val (.ref vb), .val (.ref vc), .unset] [])) tt
    refine XS.iloadN X0.here hx rfl (hb hby d3_0) rfl ?_
    show Steps p.tables e below (s₁.setTop (mkF m 1 #[.val (.int u0), .val (.ref va), .val (.ref vb), .val (.ref vc), .unset] [(.int u0)])) tt
    refine XS.iconst X0.here hx rfl (hb hby d3_1) ?_
    show Steps p.tables e below (s₁.setTop (mkF m 2 #[.val (.int u0), .val (.ref va), .val (.ref vb), .val (.ref vc), .unset] [(.int (3 : Int32)), (.int u0)])) tt
    refine XS.iand X0.here hx rfl (hb hby d3_2) rfl ?_
    show Steps p.tables e below (s₁.setTop (mkF m 3 #[.val (.int u0), .val (.ref va), .val (.ref vb), .val (.ref vc), .unset] [(.int (u0 &&& (3 : Int32)))])) tt
    refine XS.istore X0.here hx rfl (hb hby d3_3) rfl (l' := #[.val (.int u0), .val (.ref va), .val (.ref vb), .val (.ref vc), .val (.int (u0 &&& (3 : Int32)))]) rfl ?_
    show Steps p.tables e below (s₁.setTop (mkF m 5 #[.val (.int u0), .val (.ref va), .val (.ref vb), .val (.ref vc), .val (.int (u0 &&& (3 : Int32)))] [])) tt
    refine XS.iload X0.here hx rfl (hb hby d3_5) rfl ?_
    exact kk
  by_cases hc1 : (u0 &&& (3 : Int32)) = (0 : Int32)
  · refine Goal.to (B := s₁.setTop (mkF m 11 #[.val (.int u0), .val (.ref va), .val (.ref vb), .val (.ref vc), .val (.int (u0 &&& (3 : Int32)))] [.null])) (fun tt kk => ?_) ?_
    · show Steps p.tables e below (s₁.setTop (mkF m 7 #[.val (.int u0), .val (.ref va), .val (.ref vb), .val (.ref vc), .val (.int (u0 &&& (3 : Int32)))] [(.int (u0 &&& (3 : Int32)))])) tt
      refine XS.ifNo X0.here hx rfl (hb hby d3_7) rfl ((if0 _ _).trans (teq hc1).2) ?_
      show Steps p.tables e below (s₁.setTop (mkF m 10 #[.val (.int u0), .val (.ref va), .val (.ref vb), .val (.ref vc), .val (.int (u0 &&& (3 : Int32)))] [])) tt
      refine XS.aconstNull X0.here hx rfl (hb hby d3_10) ?_
      exact kk
    exact Goal.retV X0 hx Bd.returns rfl (Or.inr (Or.inr (Or.inr (Or.inr ⟨rfl, rfl, rfl⟩)))) (hb hby d3_11) hlk e0 ⟨(congrArg some (by simp [own_pick, hc1] : (.null : Value) = (own_pick u0 (.ref va) (.ref vb) (.ref vc)))), N0, rfl⟩ (by decide) (by decide)
  · refine Goal.to (B := s₁.setTop (mkF m 15 #[.val (.int u0), .val (.ref va), .val (.ref vb), .val (.ref vc), .val (.int (u0 &&& (3 : Int32)))] [(.int (1 : Int32)), (.int (u0 &&& (3 : Int32)))])) (fun tt kk => ?_) ?_
    · show Steps p.tables e below (s₁.setTop (mkF m 7 #[.val (.int u0), .val (.ref va), .val (.ref vb), .val (.ref vc), .val (.int (u0 &&& (3 : Int32)))] [(.int (u0 &&& (3 : Int32)))])) tt
      refine XS.ifYes X0.here hx rfl (pc0 := 7) (pc' := 12) rfl (hb hby d3_7) rfl ((if0 _ _).trans (feq hc1).2) (by decide) (by decide) ?_
      show Steps p.tables e below (s₁.setTop (mkF m 12 #[.val (.int u0), .val (.ref va), .val (.ref vb), .val (.ref vc), .val (.int (u0 &&& (3 : Int32)))] [])) tt
      refine XS.iload X0.here hx rfl (hb hby d3_12) rfl ?_
      show Steps p.tables e below (s₁.setTop (mkF m 14 #[.val (.int u0), .val (.ref va), .val (.ref vb), .val (.ref vc), .val (.int (u0 &&& (3 : Int32)))] [(.int (u0 &&& (3 : Int32)))])) tt
      refine XS.iconst X0.here hx rfl (hb hby d3_14) ?_
      exact kk
    by_cases hc2 : (u0 &&& (3 : Int32)) = (1 : Int32)
    · refine Goal.to (B := s₁.setTop (mkF m 19 #[.val (.int u0), .val (.ref va), .val (.ref vb), .val (.ref vc), .val (.int (u0 &&& (3 : Int32)))] [(.ref va)])) (fun tt kk => ?_) ?_
      · show Steps p.tables e below (s₁.setTop (mkF m 15 #[.val (.int u0), .val (.ref va), .val (.ref vb), .val (.ref vc), .val (.int (u0 &&& (3 : Int32)))] [(.int (1 : Int32)), (.int (u0 &&& (3 : Int32)))])) tt
        refine XS.icmpNo X0.here hx rfl (hb hby d3_15) rfl (teq hc2).2 ?_
        show Steps p.tables e below (s₁.setTop (mkF m 18 #[.val (.int u0), .val (.ref va), .val (.ref vb), .val (.ref vc), .val (.int (u0 &&& (3 : Int32)))] [])) tt
        refine XS.aloadN X0.here hx rfl (hb hby d3_18) rfl rfl ?_
        exact kk
      exact Goal.retV X0 hx Bd.returns rfl (Or.inr (Or.inr (Or.inr (Or.inr ⟨rfl, rfl, rfl⟩)))) (hb hby d3_19) hlk e0 ⟨(congrArg some (by simp [own_pick, hc1, hc2] : ((.ref va) : Value) = (own_pick u0 (.ref va) (.ref vb) (.ref vc)))), N0, rfl⟩ (by decide) (by decide)
    · refine Goal.to (B := s₁.setTop (mkF m 23 #[.val (.int u0), .val (.ref va), .val (.ref vb), .val (.ref vc), .val (.int (u0 &&& (3 : Int32)))] [(.int (2 : Int32)), (.int (u0 &&& (3 : Int32)))])) (fun tt kk => ?_) ?_
      · show Steps p.tables e below (s₁.setTop (mkF m 15 #[.val (.int u0), .val (.ref va), .val (.ref vb), .val (.ref vc), .val (.int (u0 &&& (3 : Int32)))] [(.int (1 : Int32)), (.int (u0 &&& (3 : Int32)))])) tt
        refine XS.icmpYes X0.here hx rfl (pc0 := 15) (pc' := 20) rfl (hb hby d3_15) rfl (feq hc2).2 (by decide) (by decide) ?_
        show Steps p.tables e below (s₁.setTop (mkF m 20 #[.val (.int u0), .val (.ref va), .val (.ref vb), .val (.ref vc), .val (.int (u0 &&& (3 : Int32)))] [])) tt
        refine XS.iload X0.here hx rfl (hb hby d3_20) rfl ?_
        show Steps p.tables e below (s₁.setTop (mkF m 22 #[.val (.int u0), .val (.ref va), .val (.ref vb), .val (.ref vc), .val (.int (u0 &&& (3 : Int32)))] [(.int (u0 &&& (3 : Int32)))])) tt
        refine XS.iconst X0.here hx rfl (hb hby d3_22) ?_
        exact kk
      by_cases hc3 : (u0 &&& (3 : Int32)) = (2 : Int32)
      · refine Goal.to (B := s₁.setTop (mkF m 27 #[.val (.int u0), .val (.ref va), .val (.ref vb), .val (.ref vc), .val (.int (u0 &&& (3 : Int32)))] [(.ref vb)])) (fun tt kk => ?_) ?_
        · show Steps p.tables e below (s₁.setTop (mkF m 23 #[.val (.int u0), .val (.ref va), .val (.ref vb), .val (.ref vc), .val (.int (u0 &&& (3 : Int32)))] [(.int (2 : Int32)), (.int (u0 &&& (3 : Int32)))])) tt
          refine XS.icmpNo X0.here hx rfl (hb hby d3_23) rfl (teq hc3).2 ?_
          show Steps p.tables e below (s₁.setTop (mkF m 26 #[.val (.int u0), .val (.ref va), .val (.ref vb), .val (.ref vc), .val (.int (u0 &&& (3 : Int32)))] [])) tt
          refine XS.aloadN X0.here hx rfl (hb hby d3_26) rfl rfl ?_
          exact kk
        exact Goal.retV X0 hx Bd.returns rfl (Or.inr (Or.inr (Or.inr (Or.inr ⟨rfl, rfl, rfl⟩)))) (hb hby d3_27) hlk e0 ⟨(congrArg some (by simp [own_pick, hc1, hc2, hc3] : ((.ref vb) : Value) = (own_pick u0 (.ref va) (.ref vb) (.ref vc)))), N0, rfl⟩ (by decide) (by decide)
      · refine Goal.to (B := s₁.setTop (mkF m 29 #[.val (.int u0), .val (.ref va), .val (.ref vb), .val (.ref vc), .val (.int (u0 &&& (3 : Int32)))] [(.ref vc)])) (fun tt kk => ?_) ?_
        · show Steps p.tables e below (s₁.setTop (mkF m 23 #[.val (.int u0), .val (.ref va), .val (.ref vb), .val (.ref vc), .val (.int (u0 &&& (3 : Int32)))] [(.int (2 : Int32)), (.int (u0 &&& (3 : Int32)))])) tt
          refine XS.icmpYes X0.here hx rfl (pc0 := 23) (pc' := 28) rfl (hb hby d3_23) rfl (feq hc3).2 (by decide) (by decide) ?_
          show Steps p.tables e below (s₁.setTop (mkF m 28 #[.val (.int u0), .val (.ref va), .val (.ref vb), .val (.ref vc), .val (.int (u0 &&& (3 : Int32)))] [])) tt
          refine XS.aloadN X0.here hx rfl (hb hby d3_28) rfl rfl ?_
          exact kk
        exact Goal.retV X0 hx Bd.returns rfl (Or.inr (Or.inr (Or.inr (Or.inr ⟨rfl, rfl, rfl⟩)))) (hb hby d3_29) hlk e0 ⟨(congrArg some (by simp [own_pick, hc1, hc2, hc3] : ((.ref vc) : Value) = (own_pick u0 (.ref va) (.ref vb) (.ref vc)))), N0, rfl⟩ (by decide) (by decide)
theorem ef_4vv (m : MethodId) (x0 : Addr) (x1 : Value) (x2 : Value) (hx1 : x1.isRef = true) (hx2 : x2.isRef = true) : entryFrame m #[(.ref x0), x1, x2] 4 = mkF m 0 #[.val (.ref x0), .val x1, .val x2, .unset] [] := by
  rcases ref_cases hx1 with rfl | ⟨o1, rfl⟩ <;> rcases ref_cases hx2 with rfl | ⟨o2, rfl⟩ <;> first | (simp [entryFrame, mkF, argsToLocals, Value.category]; done) | rfl
theorem pn_4 : plainName "com/example/tributary/tributary/runtime/Revisits" = true := by first | (simp [plainName, overriddenIn]; done) | decide +kernel
theorem d4_0 : decode prog_118_method_3_code 0 = .ok (.aload_n 1, 1) := by decide +kernel
theorem d4_1 : decode prog_118_method_3_code 1 = .ok (.aload_n 0, 1) := by decide +kernel
theorem d4_2 : decode prog_118_method_3_code 2 = .ok (.getfield 17, 3) := by decide +kernel
theorem d4_5 : decode prog_118_method_3_code 5 = .ok (.if_acmp .ne 15, 3) := by decide +kernel
theorem d4_8 : decode prog_118_method_3_code 8 = .ok (.aload_n 2, 1) := by decide +kernel
theorem d4_9 : decode prog_118_method_3_code 9 = .ok (.aload_n 0, 1) := by decide +kernel
theorem d4_10 : decode prog_118_method_3_code 10 = .ok (.getfield 21, 3) := by decide +kernel
theorem d4_13 : decode prog_118_method_3_code 13 = .ok (.if_acmp .ne 7, 3) := by decide +kernel
theorem d4_16 : decode prog_118_method_3_code 16 = .ok (.iconst 1, 1) := by decide +kernel
theorem d4_17 : decode prog_118_method_3_code 17 = .ok (.goto 4, 3) := by decide +kernel
theorem d4_21 : decode prog_118_method_3_code 21 = .ok (.istore_n 3, 1) := by decide +kernel
theorem d4_22 : decode prog_118_method_3_code 22 = .ok (.iload_n 3, 1) := by decide +kernel
theorem d4_23 : decode prog_118_method_3_code 23 = .ok (.ifCond .eq 11, 3) := by decide +kernel
theorem d4_26 : decode prog_118_method_3_code 26 = .ok (.aload_n 0, 1) := by decide +kernel
theorem d4_27 : decode prog_118_method_3_code 27 = .ok (.lconst 0, 1) := by decide +kernel
theorem d4_28 : decode prog_118_method_3_code 28 = .ok (.putfield 24, 3) := by decide +kernel
theorem d4_31 : decode prog_118_method_3_code 31 = .ok (.goto 49, 3) := by decide +kernel
theorem d4_80 : decode prog_118_method_3_code 80 = .ok (.iload_n 3, 1) := by decide +kernel
theorem d4_81 : decode prog_118_method_3_code 81 = .ok (.ireturn, 1) := by decide +kernel
theorem d4_20 : decode prog_118_method_3_code 20 = .ok (.iconst 0, 1) := by decide +kernel
theorem d4_34 : decode prog_118_method_3_code 34 = .ok (.aload_n 0, 1) := by decide +kernel
theorem d4_35 : decode prog_118_method_3_code 35 = .ok (.dup, 1) := by decide +kernel
theorem d4_36 : decode prog_118_method_3_code 36 = .ok (.getfield 24, 3) := by decide +kernel
theorem d4_39 : decode prog_118_method_3_code 39 = .ok (.lconst 1, 1) := by decide +kernel
theorem d4_40 : decode prog_118_method_3_code 40 = .ok (.ladd, 1) := by decide +kernel
theorem d4_41 : decode prog_118_method_3_code 41 = .ok (.dup2_x1, 1) := by decide +kernel
theorem d4_42 : decode prog_118_method_3_code 42 = .ok (.putfield 24, 3) := by decide +kernel
theorem d4_45 : decode prog_118_method_3_code 45 = .ok (.aload_n 0, 1) := by decide +kernel
theorem d4_46 : decode prog_118_method_3_code 46 = .ok (.getfield 7, 3) := by decide +kernel
theorem d4_49 : decode prog_118_method_3_code 49 = .ok (.lcmp, 1) := by decide +kernel
theorem d4_50 : decode prog_118_method_3_code 50 = .ok (.ifCond .ne 30, 3) := by decide +kernel
theorem d4_53 : decode prog_118_method_3_code 53 = .ok (.aload_n 0, 1) := by decide +kernel
theorem d4_54 : decode prog_118_method_3_code 54 = .ok (.aload_n 1, 1) := by decide +kernel
theorem d4_55 : decode prog_118_method_3_code 55 = .ok (.putfield 17, 3) := by decide +kernel
theorem d4_58 : decode prog_118_method_3_code 58 = .ok (.aload_n 0, 1) := by decide +kernel
theorem d4_59 : decode prog_118_method_3_code 59 = .ok (.aload_n 2, 1) := by decide +kernel
theorem d4_60 : decode prog_118_method_3_code 60 = .ok (.putfield 21, 3) := by decide +kernel
theorem d4_63 : decode prog_118_method_3_code 63 = .ok (.aload_n 0, 1) := by decide +kernel
theorem d4_64 : decode prog_118_method_3_code 64 = .ok (.lconst 0, 1) := by decide +kernel
theorem d4_65 : decode prog_118_method_3_code 65 = .ok (.putfield 24, 3) := by decide +kernel
theorem d4_68 : decode prog_118_method_3_code 68 = .ok (.aload_n 0, 1) := by decide +kernel
theorem d4_69 : decode prog_118_method_3_code 69 = .ok (.dup, 1) := by decide +kernel
theorem d4_70 : decode prog_118_method_3_code 70 = .ok (.getfield 7, 3) := by decide +kernel
theorem d4_73 : decode prog_118_method_3_code 73 = .ok (.ldc2_w 27, 3) := by decide +kernel
theorem d4_76 : decode prog_118_method_3_code 76 = .ok (.lmul, 1) := by decide +kernel
theorem d4_77 : decode prog_118_method_3_code 77 = .ok (.putfield 7, 3) := by decide +kernel
def Qsb (Z : State) (va : Addr) (al : Value) (ar : Value) (sl : Value) (sr : Value) (ss : Int64) (si : Int64) (h0 : Heap) (n0 : Nat) (v : Option Value) (h : Heap) (L : List Loc) : Prop := ∃ nl : Value, ∃ nr : Value, ∃ ns : Int64, ∃ ni : Int64, v = some (.int (own_B al ar sl sr)) ∧ Fr n0 L ∧ Keep h0 h [va] ∧ Fld Z h va "com/example/tributary/tributary/runtime/Revisits" "markedLeft" "Ljava/lang/Object;" nl ∧ Fld Z h va "com/example/tributary/tributary/runtime/Revisits" "markedRight" "Ljava/lang/Object;" nr ∧ Fld Z h va "com/example/tributary/tributary/runtime/Revisits" "sinceMark" "J" (.long ns) ∧ Fld Z h va "com/example/tributary/tributary/runtime/Revisits" "markInterval" "J" (.long ni) ∧ nl.isRef = true ∧ nr.isRef = true ∧ nl = own_L al ar sl sr ss si ∧ nr = own_R al ar sl sr ss si ∧ ns = own_S al ar sl sr ss si ∧ ni = own_I al ar sl sr ss si
set_option maxRecDepth 65536 in
set_option maxHeartbeats 40000000 in
theorem rmsb (l : Launch) (Z : State) (a0 : Array Value) (hw : ∀ d ∈ tables_1, d.before a0 Z = true) (ws : List Jvm.Cond) (va : Addr) (al : Value) (ar : Value) (sl : Value) (sr : Value) (ss : Int64) (si : Int64) (h0 : Heap) (n0 : Nat) (Z0 : n0 ≤ h0.size) (E_va : Exa Z h0 va "com/example/tributary/tributary/runtime/Revisits") (F_markedLeft_va : Fld Z h0 va "com/example/tributary/tributary/runtime/Revisits" "markedLeft" "Ljava/lang/Object;" sl) (F_markedRight_va : Fld Z h0 va "com/example/tributary/tributary/runtime/Revisits" "markedRight" "Ljava/lang/Object;" sr) (F_sinceMark_va : Fld Z h0 va "com/example/tributary/tributary/runtime/Revisits" "sinceMark" "J" (.long ss)) (F_markInterval_va : Fld Z h0 va "com/example/tributary/tributary/runtime/Revisits" "markInterval" "J" (.long si)) (g_va : n0 ≤ va) (pal : al.isRef = true) (par : ar.isRef = true) (psl : sl.isRef = true) (psr : sr.isRef = true) :
    MetFree l (⟨"com/example/tributary/tributary/runtime/Revisits", "seenBefore", "(Ljava/lang/Object;Ljava/lang/Object;)Z"⟩ : MethodName) (head1 (Jvm.Cond.code (⟨"com/example/tributary/tributary/runtime/Revisits", "seenBefore", "(Ljava/lang/Object;Ljava/lang/Object;)Z"⟩ : MethodName) prog_118_method_3_code 4 (some .boolean) :: ws) ({ frames := 0, cells := 0, slots := 0, locals := 0 } : Room)) (fun a U => a = #[(.ref va), al, ar] ∧ Z.Warmed39 U.vm ∧ U.heap = h0) (fun _ _ _ _ _ => True) (fun _ U o U' => ∃ v L, o = .returned v ∧ Qsb Z va al ar sl sr ss si h0 n0 v U'.heap L ∧ FrameEnd U o U' L 0 0) := by
  refine MetFree.of_bodySF (plainFor_of_name pn_4) hisR ?_
  intro p e s m args below meth c s₁ Bd hml0 hP hK
  obtain ⟨rfl, hZ, hh⟩ := hP
  have hx := Bd.exec
  have hby := Bd.bytes
  have hml : c.maxLocals = 4 := hml0
  have hown : s.vm.findClass "com/example/tributary/tributary/runtime/Revisits" = some m.cls := findClass_of_methodNamed Bd.named
  have hnm := (name_of_methodNamed Bd.named Bd.method).1
  have X0 : Stand p l e ({ frames := 0, cells := 0, slots := 0, locals := 0 } : Room) s m #[(.ref va), al, ar] below meth c s₁ [] 0 0 := Stand.of_body Bd
  have e0 : s₁.heap = h0 := by rw [← hh, Bd.state]; rfl
  have N0 := Fr.nil n0
  have hlk : meth.locks = false := BodyLoose.notSynchronized Bd
  show Goal p e below s (Qsb Z va al ar sl sr ss si h0 n0) 0 0 (s₁.setTop (entryFrame m #[(.ref va), al, ar] 4))
  refine Goal.to (B := s₁.setTop (mkF m 0 #[.val (.ref va), .val al, .val ar, .unset] [])) (fun tt kk => castTop (ef_4vv m va al ar pal par) kk) ?_
  refine Goal.to (B := s₁.setTop (mkF m 2 #[.val (.ref va), .val al, .val ar, .unset] [(.ref va), al])) (fun tt kk => ?_) ?_
  · show Steps p.tables e below (s₁.setTop (mkF m 0 #[.val (.ref va), .val al, .val ar, .unset] [])) tt
    refine XS.aloadN X0.here hx rfl (hb hby d4_0) rfl pal ?_
    show Steps p.tables e below (s₁.setTop (mkF m 1 #[.val (.ref va), .val al, .val ar, .unset] [al])) tt
    refine XS.aloadN X0.here hx rfl (hb hby d4_1) rfl rfl ?_
    exact kk
  obtain ⟨T1, X1, e1, st1⟩ := getF X0 hx hZ hown (host := "") (Or.inl (hw _ (mw 21 rfl))) Via.refl e0 F_markedLeft_va (g := (mkF m 2 #[.val (.ref va), .val al, .val ar, .unset] [(.ref va), al])) rfl rfl (hb hby d4_2)
  refine Goal.to (B := T1.setTop (mkF m 5 #[.val (.ref va), .val al, .val ar, .unset] [sl, al])) st1 ?_
  by_cases hc2 : al = sl
  · refine Goal.to (B := T1.setTop (mkF m 10 #[.val (.ref va), .val al, .val ar, .unset] [(.ref va), ar])) (fun tt kk => ?_) ?_
    · show Steps p.tables e below (T1.setTop (mkF m 5 #[.val (.ref va), .val al, .val ar, .unset] [sl, al])) tt
      refine Jvm.RoadKit.acmp (g := (mkF m 5 #[.val (.ref va), .val al, .val ar, .unset] [sl, al])) X1 hx rfl pal psl (pc0 := 5) (pc' := 8) (same := true) rfl (hb hby d4_5) rfl (decide_eq_true hc2) (by decide) (by decide) ?_
      show Steps p.tables e below (T1.setTop (mkF m 8 #[.val (.ref va), .val al, .val ar, .unset] [])) tt
      refine XS.aloadN X1.here hx rfl (hb hby d4_8) rfl par ?_
      show Steps p.tables e below (T1.setTop (mkF m 9 #[.val (.ref va), .val al, .val ar, .unset] [ar])) tt
      refine XS.aloadN X1.here hx rfl (hb hby d4_9) rfl rfl ?_
      exact kk
    obtain ⟨T3, X3, e3, st3⟩ := getF X1 hx hZ hown (host := "") (Or.inl (hw _ (mw 23 rfl))) Via.refl e1 F_markedRight_va (g := (mkF m 10 #[.val (.ref va), .val al, .val ar, .unset] [(.ref va), ar])) rfl rfl (hb hby d4_10)
    refine Goal.to (B := T3.setTop (mkF m 13 #[.val (.ref va), .val al, .val ar, .unset] [sr, ar])) st3 ?_
    by_cases hc4 : ar = sr
    · refine Goal.to (B := T3.setTop (mkF m 28 #[.val (.ref va), .val al, .val ar, .val (.int (1 : Int32))] [(.long (0 : Int64)), (.ref va)])) (fun tt kk => ?_) ?_
      · show Steps p.tables e below (T3.setTop (mkF m 13 #[.val (.ref va), .val al, .val ar, .unset] [sr, ar])) tt
        refine Jvm.RoadKit.acmp (g := (mkF m 13 #[.val (.ref va), .val al, .val ar, .unset] [sr, ar])) X3 hx rfl par psr (pc0 := 13) (pc' := 16) (same := true) rfl (hb hby d4_13) rfl (decide_eq_true hc4) (by decide) (by decide) ?_
        show Steps p.tables e below (T3.setTop (mkF m 16 #[.val (.ref va), .val al, .val ar, .unset] [])) tt
        refine XS.iconst X3.here hx rfl (hb hby d4_16) ?_
        show Steps p.tables e below (T3.setTop (mkF m 17 #[.val (.ref va), .val al, .val ar, .unset] [(.int (1 : Int32))])) tt
        refine XS.goto X3.here hx rfl (pc0 := 17) (pc' := 21) rfl (hb hby d4_17) (by decide) (by decide) ?_
        show Steps p.tables e below (T3.setTop (mkF m 21 #[.val (.ref va), .val al, .val ar, .unset] [(.int (1 : Int32))])) tt
        refine XS.istoreN X3.here hx rfl (hb hby d4_21) rfl (l' := #[.val (.ref va), .val al, .val ar, .val (.int (1 : Int32))]) rfl ?_
        show Steps p.tables e below (T3.setTop (mkF m 22 #[.val (.ref va), .val al, .val ar, .val (.int (1 : Int32))] [])) tt
        refine XS.iloadN X3.here hx rfl (hb hby d4_22) rfl ?_
        show Steps p.tables e below (T3.setTop (mkF m 23 #[.val (.ref va), .val al, .val ar, .val (.int (1 : Int32))] [(.int (1 : Int32))])) tt
        refine XS.ifNo X3.here hx rfl (hb hby d4_23) rfl ((if0 _ _).trans (feq ((by decide) : ¬ ((1 : Int32) = (0 : Int32)))).1) ?_
        show Steps p.tables e below (T3.setTop (mkF m 26 #[.val (.ref va), .val al, .val ar, .val (.int (1 : Int32))] [])) tt
        refine XS.aloadN X3.here hx rfl (hb hby d4_26) rfl rfl ?_
        show Steps p.tables e below (T3.setTop (mkF m 27 #[.val (.ref va), .val al, .val ar, .val (.int (1 : Int32))] [(.ref va)])) tt
        refine XS.lconst X3.here hx rfl (hb hby d4_27) ?_
        exact kk
      obtain ⟨T5, h5, X5, e5, W5, st5⟩ := putF X3 hx hZ hown (host := "") (Or.inl (hw _ (mw 25 rfl))) Via.refl e3 F_sinceMark_va E_va (Or.inl (hw _ (mw 26 rfl))) (hw _ (mw 2 rfl)) (ty := .long) (by decide) rfl rfl (g := (mkF m 28 #[.val (.ref va), .val al, .val ar, .val (.int (1 : Int32))] [(.long (0 : Int64)), (.ref va)])) rfl rfl (hb hby d4_28)
      have Fw5 : Fld Z h5 va "com/example/tributary/tributary/runtime/Revisits" "sinceMark" "J" (.long (0 : Int64)) := F_sinceMark_va.same W5
      have N5 := Fr.snoc X5 N0 g_va
      refine Goal.to (B := T5.setTop (mkF m 31 #[.val (.ref va), .val al, .val ar, .val (.int (1 : Int32))] [])) st5 ?_
      refine Goal.to (B := T5.setTop (mkF m 81 #[.val (.ref va), .val al, .val ar, .val (.int (1 : Int32))] [(.int (1 : Int32))])) (fun tt kk => ?_) ?_
      · show Steps p.tables e below (T5.setTop (mkF m 31 #[.val (.ref va), .val al, .val ar, .val (.int (1 : Int32))] [])) tt
        refine XS.goto X5.here hx rfl (pc0 := 31) (pc' := 80) rfl (hb hby d4_31) (by decide) (by decide) ?_
        show Steps p.tables e below (T5.setTop (mkF m 80 #[.val (.ref va), .val al, .val ar, .val (.int (1 : Int32))] [])) tt
        refine XS.iloadN X5.here hx rfl (hb hby d4_80) rfl ?_
        exact kk
      have f6 : Keep h0 h5 [va] := ((Keep.refl h0 [va]).wr W5 (Or.inl (List.mem_of_getElem? (i := 0) rfl)))
      have f7 : Fld Z h5 va "com/example/tributary/tributary/runtime/Revisits" "markedLeft" "Ljava/lang/Object;" sl := (F_markedLeft_va.other W5 (Or.inr (slot_ne (Or.inl (hw _ (mw 22 rfl))) (Or.inl (hw _ (mw 26 rfl))) (by decide) (t := (.object "java/lang/Object")) (t' := .long) (by decide) (by decide))))
      have f8 : Fld Z h5 va "com/example/tributary/tributary/runtime/Revisits" "markedRight" "Ljava/lang/Object;" sr := (F_markedRight_va.other W5 (Or.inr (slot_ne (Or.inl (hw _ (mw 24 rfl))) (Or.inl (hw _ (mw 26 rfl))) (by decide) (t := (.object "java/lang/Object")) (t' := .long) (by decide) (by decide))))
      have f9 : Fld Z h5 va "com/example/tributary/tributary/runtime/Revisits" "markInterval" "J" (.long si) := (F_markInterval_va.other W5 (Or.inr (slot_ne (Or.inl (hw _ (mw 11 rfl))) (Or.inl (hw _ (mw 26 rfl))) (by decide) (t := .long) (t' := .long) (by decide) (by decide))))
      exact Goal.retV X5 hx Bd.returns rfl (Or.inl ⟨rfl, Or.inr (Or.inl rfl), _, rfl⟩) (hb hby d4_81) hlk e5 ⟨sl, sr, (0 : Int64), si, (congrArg some (by simp [own_B, hc2, hc4] : ((.int (1 : Int32)) : Value) = (.int (own_B al ar sl sr)))), N5, f6, f7, f8, Fw5, f9, psl, psr, (by simp [own_B, own_L, own_R, own_S, own_I, hc2, hc4]), (by simp [own_B, own_L, own_R, own_S, own_I, hc2, hc4]), (by simp [own_B, own_L, own_R, own_S, own_I, hc2, hc4]), (by simp [own_B, own_L, own_R, own_S, own_I, hc2, hc4])⟩ (by decide) (by decide)
    · refine Goal.to (B := T3.setTop (mkF m 36 #[.val (.ref va), .val al, .val ar, .val (.int (0 : Int32))] [(.ref va), (.ref va)])) (fun tt kk => ?_) ?_
      · show Steps p.tables e below (T3.setTop (mkF m 13 #[.val (.ref va), .val al, .val ar, .unset] [sr, ar])) tt
        refine Jvm.RoadKit.acmp (g := (mkF m 13 #[.val (.ref va), .val al, .val ar, .unset] [sr, ar])) X3 hx rfl par psr (pc0 := 13) (pc' := 20) (same := false) rfl (hb hby d4_13) rfl (decide_eq_false hc4) (by decide) (by decide) ?_
        show Steps p.tables e below (T3.setTop (mkF m 20 #[.val (.ref va), .val al, .val ar, .unset] [])) tt
        refine XS.iconst X3.here hx rfl (hb hby d4_20) ?_
        show Steps p.tables e below (T3.setTop (mkF m 21 #[.val (.ref va), .val al, .val ar, .unset] [(.int (0 : Int32))])) tt
        refine XS.istoreN X3.here hx rfl (hb hby d4_21) rfl (l' := #[.val (.ref va), .val al, .val ar, .val (.int (0 : Int32))]) rfl ?_
        show Steps p.tables e below (T3.setTop (mkF m 22 #[.val (.ref va), .val al, .val ar, .val (.int (0 : Int32))] [])) tt
        refine XS.iloadN X3.here hx rfl (hb hby d4_22) rfl ?_
        show Steps p.tables e below (T3.setTop (mkF m 23 #[.val (.ref va), .val al, .val ar, .val (.int (0 : Int32))] [(.int (0 : Int32))])) tt
        refine XS.ifYes X3.here hx rfl (pc0 := 23) (pc' := 34) rfl (hb hby d4_23) rfl ((if0 _ _).trans (teq (rfl : (0 : Int32) = (0 : Int32))).1) (by decide) (by decide) ?_
        show Steps p.tables e below (T3.setTop (mkF m 34 #[.val (.ref va), .val al, .val ar, .val (.int (0 : Int32))] [])) tt
        refine XS.aloadN X3.here hx rfl (hb hby d4_34) rfl rfl ?_
        show Steps p.tables e below (T3.setTop (mkF m 35 #[.val (.ref va), .val al, .val ar, .val (.int (0 : Int32))] [(.ref va)])) tt
        refine XS.dup X3.here hx rfl (hb hby d4_35) rfl rfl ?_
        exact kk
      obtain ⟨T10, X10, e10, st10⟩ := getF X3 hx hZ hown (host := "") (Or.inl (hw _ (mw 25 rfl))) Via.refl e3 F_sinceMark_va (g := (mkF m 36 #[.val (.ref va), .val al, .val ar, .val (.int (0 : Int32))] [(.ref va), (.ref va)])) rfl rfl (hb hby d4_36)
      refine Goal.to (B := T10.setTop (mkF m 39 #[.val (.ref va), .val al, .val ar, .val (.int (0 : Int32))] [(.long ss), (.ref va)])) st10 ?_
      refine Goal.to (B := T10.setTop (mkF m 42 #[.val (.ref va), .val al, .val ar, .val (.int (0 : Int32))] [(.long (ss + (1 : Int64))), (.ref va), (.long (ss + (1 : Int64)))])) (fun tt kk => ?_) ?_
      · show Steps p.tables e below (T10.setTop (mkF m 39 #[.val (.ref va), .val al, .val ar, .val (.int (0 : Int32))] [(.long ss), (.ref va)])) tt
        refine XS.lconst X10.here hx rfl (hb hby d4_39) ?_
        show Steps p.tables e below (T10.setTop (mkF m 40 #[.val (.ref va), .val al, .val ar, .val (.int (0 : Int32))] [(.long (1 : Int64)), (.long ss), (.ref va)])) tt
        refine XS.ladd X10.here hx rfl (hb hby d4_40) rfl ?_
        show Steps p.tables e below (T10.setTop (mkF m 41 #[.val (.ref va), .val al, .val ar, .val (.int (0 : Int32))] [(.long (ss + (1 : Int64))), (.ref va)])) tt
        jvm_step X10.here [X10.here.top, hx, (hb hby d4_41), Value.category]
        exact kk
      obtain ⟨T11, h11, X11, e11, W11, st11⟩ := putF X10 hx hZ hown (host := "") (Or.inl (hw _ (mw 25 rfl))) Via.refl e10 F_sinceMark_va E_va (Or.inl (hw _ (mw 26 rfl))) (hw _ (mw 2 rfl)) (ty := .long) (by decide) rfl rfl (g := (mkF m 42 #[.val (.ref va), .val al, .val ar, .val (.int (0 : Int32))] [(.long (ss + (1 : Int64))), (.ref va), (.long (ss + (1 : Int64)))])) rfl rfl (hb hby d4_42)
      have Fw11 : Fld Z h11 va "com/example/tributary/tributary/runtime/Revisits" "sinceMark" "J" (.long (ss + (1 : Int64))) := F_sinceMark_va.same W11
      have N11 := Fr.snoc X11 N0 g_va
      refine Goal.to (B := T11.setTop (mkF m 45 #[.val (.ref va), .val al, .val ar, .val (.int (0 : Int32))] [(.long (ss + (1 : Int64)))])) st11 ?_
      refine Goal.to (B := T11.setTop (mkF m 46 #[.val (.ref va), .val al, .val ar, .val (.int (0 : Int32))] [(.ref va), (.long (ss + (1 : Int64)))])) (fun tt kk => ?_) ?_
      · show Steps p.tables e below (T11.setTop (mkF m 45 #[.val (.ref va), .val al, .val ar, .val (.int (0 : Int32))] [(.long (ss + (1 : Int64)))])) tt
        refine XS.aloadN X11.here hx rfl (hb hby d4_45) rfl rfl ?_
        exact kk
      have f12 : Fld Z h11 va "com/example/tributary/tributary/runtime/Revisits" "markInterval" "J" (.long si) := (F_markInterval_va.other W11 (Or.inr (slot_ne (Or.inl (hw _ (mw 11 rfl))) (Or.inl (hw _ (mw 26 rfl))) (by decide) (t := .long) (t' := .long) (by decide) (by decide))))
      obtain ⟨T13, X13, e13, st13⟩ := getF X11 hx hZ hown (host := "") (Or.inl (hw _ (mw 10 rfl))) Via.refl e11 f12 (g := (mkF m 46 #[.val (.ref va), .val al, .val ar, .val (.int (0 : Int32))] [(.ref va), (.long (ss + (1 : Int64)))])) rfl rfl (hb hby d4_46)
      refine Goal.to (B := T13.setTop (mkF m 49 #[.val (.ref va), .val al, .val ar, .val (.int (0 : Int32))] [(.long si), (.long (ss + (1 : Int64)))])) st13 ?_
      refine Goal.to (B := T13.setTop (mkF m 50 #[.val (.ref va), .val al, .val ar, .val (.int (0 : Int32))] [(.int (lcmpW (ss + (1 : Int64)) si))])) (fun tt kk => ?_) ?_
      · show Steps p.tables e below (T13.setTop (mkF m 49 #[.val (.ref va), .val al, .val ar, .val (.int (0 : Int32))] [(.long si), (.long (ss + (1 : Int64)))])) tt
        refine XS.lcmp X13.here hx rfl (hb hby d4_49) rfl ?_
        exact kk
      by_cases hc14 : (lcmpW (ss + (1 : Int64)) si) = (0 : Int32)
      · refine Goal.to (B := T13.setTop (mkF m 55 #[.val (.ref va), .val al, .val ar, .val (.int (0 : Int32))] [al, (.ref va)])) (fun tt kk => ?_) ?_
        · show Steps p.tables e below (T13.setTop (mkF m 50 #[.val (.ref va), .val al, .val ar, .val (.int (0 : Int32))] [(.int (lcmpW (ss + (1 : Int64)) si))])) tt
          refine XS.ifNo X13.here hx rfl (hb hby d4_50) rfl ((if0 _ _).trans (teq hc14).2) ?_
          show Steps p.tables e below (T13.setTop (mkF m 53 #[.val (.ref va), .val al, .val ar, .val (.int (0 : Int32))] [])) tt
          refine XS.aloadN X13.here hx rfl (hb hby d4_53) rfl rfl ?_
          show Steps p.tables e below (T13.setTop (mkF m 54 #[.val (.ref va), .val al, .val ar, .val (.int (0 : Int32))] [(.ref va)])) tt
          refine XS.aloadN X13.here hx rfl (hb hby d4_54) rfl pal ?_
          exact kk
        have f15 : Fld Z h11 va "com/example/tributary/tributary/runtime/Revisits" "markedLeft" "Ljava/lang/Object;" sl := (F_markedLeft_va.other W11 (Or.inr (slot_ne (Or.inl (hw _ (mw 22 rfl))) (Or.inl (hw _ (mw 26 rfl))) (by decide) (t := (.object "java/lang/Object")) (t' := .long) (by decide) (by decide))))
        have f16 : Exa Z h11 va "com/example/tributary/tributary/runtime/Revisits" := (E_va.wr W11)
        obtain ⟨T17, h17, X17, e17, W17, st17⟩ := putF X13 hx hZ hown (host := "") (Or.inl (hw _ (mw 21 rfl))) Via.refl e13 f15 f16 (Or.inl (hw _ (mw 22 rfl))) (hw _ (mw 2 rfl)) (ty := (.object "java/lang/Object")) (by decide) (narV pal) (fitV pal) (g := (mkF m 55 #[.val (.ref va), .val al, .val ar, .val (.int (0 : Int32))] [al, (.ref va)])) rfl rfl (hb hby d4_55)
        have Fw17 : Fld Z h17 va "com/example/tributary/tributary/runtime/Revisits" "markedLeft" "Ljava/lang/Object;" al := f15.same W17
        have N17 := Fr.snoc X17 N11 g_va
        refine Goal.to (B := T17.setTop (mkF m 58 #[.val (.ref va), .val al, .val ar, .val (.int (0 : Int32))] [])) st17 ?_
        refine Goal.to (B := T17.setTop (mkF m 60 #[.val (.ref va), .val al, .val ar, .val (.int (0 : Int32))] [ar, (.ref va)])) (fun tt kk => ?_) ?_
        · show Steps p.tables e below (T17.setTop (mkF m 58 #[.val (.ref va), .val al, .val ar, .val (.int (0 : Int32))] [])) tt
          refine XS.aloadN X17.here hx rfl (hb hby d4_58) rfl rfl ?_
          show Steps p.tables e below (T17.setTop (mkF m 59 #[.val (.ref va), .val al, .val ar, .val (.int (0 : Int32))] [(.ref va)])) tt
          refine XS.aloadN X17.here hx rfl (hb hby d4_59) rfl par ?_
          exact kk
        have f18 : Fld Z h17 va "com/example/tributary/tributary/runtime/Revisits" "markedRight" "Ljava/lang/Object;" sr := ((F_markedRight_va.other W11 (Or.inr (slot_ne (Or.inl (hw _ (mw 24 rfl))) (Or.inl (hw _ (mw 26 rfl))) (by decide) (t := (.object "java/lang/Object")) (t' := .long) (by decide) (by decide)))).other W17 (Or.inr (slot_ne (Or.inl (hw _ (mw 24 rfl))) (Or.inl (hw _ (mw 22 rfl))) (by decide) (t := (.object "java/lang/Object")) (t' := (.object "java/lang/Object")) (by decide) (by decide))))
        have f19 : Exa Z h17 va "com/example/tributary/tributary/runtime/Revisits" := (f16.wr W17)
        obtain ⟨T20, h20, X20, e20, W20, st20⟩ := putF X17 hx hZ hown (host := "") (Or.inl (hw _ (mw 23 rfl))) Via.refl e17 f18 f19 (Or.inl (hw _ (mw 24 rfl))) (hw _ (mw 2 rfl)) (ty := (.object "java/lang/Object")) (by decide) (narV par) (fitV par) (g := (mkF m 60 #[.val (.ref va), .val al, .val ar, .val (.int (0 : Int32))] [ar, (.ref va)])) rfl rfl (hb hby d4_60)
        have Fw20 : Fld Z h20 va "com/example/tributary/tributary/runtime/Revisits" "markedRight" "Ljava/lang/Object;" ar := f18.same W20
        have N20 := Fr.snoc X20 N17 g_va
        refine Goal.to (B := T20.setTop (mkF m 63 #[.val (.ref va), .val al, .val ar, .val (.int (0 : Int32))] [])) st20 ?_
        refine Goal.to (B := T20.setTop (mkF m 65 #[.val (.ref va), .val al, .val ar, .val (.int (0 : Int32))] [(.long (0 : Int64)), (.ref va)])) (fun tt kk => ?_) ?_
        · show Steps p.tables e below (T20.setTop (mkF m 63 #[.val (.ref va), .val al, .val ar, .val (.int (0 : Int32))] [])) tt
          refine XS.aloadN X20.here hx rfl (hb hby d4_63) rfl rfl ?_
          show Steps p.tables e below (T20.setTop (mkF m 64 #[.val (.ref va), .val al, .val ar, .val (.int (0 : Int32))] [(.ref va)])) tt
          refine XS.lconst X20.here hx rfl (hb hby d4_64) ?_
          exact kk
        have f21 : Fld Z h20 va "com/example/tributary/tributary/runtime/Revisits" "sinceMark" "J" (.long (ss + (1 : Int64))) := ((Fw11.other W17 (Or.inr (slot_ne (Or.inl (hw _ (mw 26 rfl))) (Or.inl (hw _ (mw 22 rfl))) (by decide) (t := .long) (t' := (.object "java/lang/Object")) (by decide) (by decide)))).other W20 (Or.inr (slot_ne (Or.inl (hw _ (mw 26 rfl))) (Or.inl (hw _ (mw 24 rfl))) (by decide) (t := .long) (t' := (.object "java/lang/Object")) (by decide) (by decide))))
        have f22 : Exa Z h20 va "com/example/tributary/tributary/runtime/Revisits" := (f19.wr W20)
        obtain ⟨T23, h23, X23, e23, W23, st23⟩ := putF X20 hx hZ hown (host := "") (Or.inl (hw _ (mw 25 rfl))) Via.refl e20 f21 f22 (Or.inl (hw _ (mw 26 rfl))) (hw _ (mw 2 rfl)) (ty := .long) (by decide) rfl rfl (g := (mkF m 65 #[.val (.ref va), .val al, .val ar, .val (.int (0 : Int32))] [(.long (0 : Int64)), (.ref va)])) rfl rfl (hb hby d4_65)
        have Fw23 : Fld Z h23 va "com/example/tributary/tributary/runtime/Revisits" "sinceMark" "J" (.long (0 : Int64)) := f21.same W23
        have N23 := Fr.snoc X23 N20 g_va
        refine Goal.to (B := T23.setTop (mkF m 68 #[.val (.ref va), .val al, .val ar, .val (.int (0 : Int32))] [])) st23 ?_
        refine Goal.to (B := T23.setTop (mkF m 70 #[.val (.ref va), .val al, .val ar, .val (.int (0 : Int32))] [(.ref va), (.ref va)])) (fun tt kk => ?_) ?_
        · show Steps p.tables e below (T23.setTop (mkF m 68 #[.val (.ref va), .val al, .val ar, .val (.int (0 : Int32))] [])) tt
          refine XS.aloadN X23.here hx rfl (hb hby d4_68) rfl rfl ?_
          show Steps p.tables e below (T23.setTop (mkF m 69 #[.val (.ref va), .val al, .val ar, .val (.int (0 : Int32))] [(.ref va)])) tt
          refine XS.dup X23.here hx rfl (hb hby d4_69) rfl rfl ?_
          exact kk
        have f24 : Fld Z h23 va "com/example/tributary/tributary/runtime/Revisits" "markInterval" "J" (.long si) := (((f12.other W17 (Or.inr (slot_ne (Or.inl (hw _ (mw 11 rfl))) (Or.inl (hw _ (mw 22 rfl))) (by decide) (t := .long) (t' := (.object "java/lang/Object")) (by decide) (by decide)))).other W20 (Or.inr (slot_ne (Or.inl (hw _ (mw 11 rfl))) (Or.inl (hw _ (mw 24 rfl))) (by decide) (t := .long) (t' := (.object "java/lang/Object")) (by decide) (by decide)))).other W23 (Or.inr (slot_ne (Or.inl (hw _ (mw 11 rfl))) (Or.inl (hw _ (mw 26 rfl))) (by decide) (t := .long) (t' := .long) (by decide) (by decide))))
        obtain ⟨T25, X25, e25, st25⟩ := getF X23 hx hZ hown (host := "") (Or.inl (hw _ (mw 10 rfl))) Via.refl e23 f24 (g := (mkF m 70 #[.val (.ref va), .val al, .val ar, .val (.int (0 : Int32))] [(.ref va), (.ref va)])) rfl rfl (hb hby d4_70)
        refine Goal.to (B := T25.setTop (mkF m 73 #[.val (.ref va), .val al, .val ar, .val (.int (0 : Int32))] [(.long si), (.ref va)])) st25 ?_
        refine Goal.to (B := T25.setTop (mkF m 77 #[.val (.ref va), .val al, .val ar, .val (.int (0 : Int32))] [(.long (si * (2 : Int64))), (.ref va)])) (fun tt kk => ?_) ?_
        · show Steps p.tables e below (T25.setTop (mkF m 73 #[.val (.ref va), .val al, .val ar, .val (.int (0 : Int32))] [(.long si), (.ref va)])) tt
          refine X25.ldc2Long hx hown (mvT hZ (hw _ (mw 27 rfl))) (g := (mkF m 73 #[.val (.ref va), .val al, .val ar, .val (.int (0 : Int32))] [(.long si), (.ref va)])) rfl (hb hby d4_73) _ ?_
          show Steps p.tables e below (T25.setTop (mkF m 76 #[.val (.ref va), .val al, .val ar, .val (.int (0 : Int32))] [(.long (2 : Int64)), (.long si), (.ref va)])) tt
          refine XS.lmul X25.here hx rfl (hb hby d4_76) rfl ?_
          exact kk
        have f26 : Exa Z h23 va "com/example/tributary/tributary/runtime/Revisits" := (f22.wr W23)
        obtain ⟨T27, h27, X27, e27, W27, st27⟩ := putF X25 hx hZ hown (host := "") (Or.inl (hw _ (mw 10 rfl))) Via.refl e25 f24 f26 (Or.inl (hw _ (mw 11 rfl))) (hw _ (mw 2 rfl)) (ty := .long) (by decide) rfl rfl (g := (mkF m 77 #[.val (.ref va), .val al, .val ar, .val (.int (0 : Int32))] [(.long (si * (2 : Int64))), (.ref va)])) rfl rfl (hb hby d4_77)
        have Fw27 : Fld Z h27 va "com/example/tributary/tributary/runtime/Revisits" "markInterval" "J" (.long (si * (2 : Int64))) := f24.same W27
        have N27 := Fr.snoc X27 N23 g_va
        refine Goal.to (B := T27.setTop (mkF m 80 #[.val (.ref va), .val al, .val ar, .val (.int (0 : Int32))] [])) st27 ?_
        refine Goal.to (B := T27.setTop (mkF m 81 #[.val (.ref va), .val al, .val ar, .val (.int (0 : Int32))] [(.int (0 : Int32))])) (fun tt kk => ?_) ?_
        · show Steps p.tables e below (T27.setTop (mkF m 80 #[.val (.ref va), .val al, .val ar, .val (.int (0 : Int32))] [])) tt
          refine XS.iloadN X27.here hx rfl (hb hby d4_80) rfl ?_
          exact kk
        have f28 : Keep h0 h27 [va] := ((((((Keep.refl h0 [va]).wr W11 (Or.inl (List.mem_of_getElem? (i := 0) rfl))).wr W17 (Or.inl (List.mem_of_getElem? (i := 0) rfl))).wr W20 (Or.inl (List.mem_of_getElem? (i := 0) rfl))).wr W23 (Or.inl (List.mem_of_getElem? (i := 0) rfl))).wr W27 (Or.inl (List.mem_of_getElem? (i := 0) rfl)))
        have f29 : Fld Z h27 va "com/example/tributary/tributary/runtime/Revisits" "markedLeft" "Ljava/lang/Object;" al := (((Fw17.other W20 (Or.inr (slot_ne (Or.inl (hw _ (mw 22 rfl))) (Or.inl (hw _ (mw 24 rfl))) (by decide) (t := (.object "java/lang/Object")) (t' := (.object "java/lang/Object")) (by decide) (by decide)))).other W23 (Or.inr (slot_ne (Or.inl (hw _ (mw 22 rfl))) (Or.inl (hw _ (mw 26 rfl))) (by decide) (t := (.object "java/lang/Object")) (t' := .long) (by decide) (by decide)))).other W27 (Or.inr (slot_ne (Or.inl (hw _ (mw 22 rfl))) (Or.inl (hw _ (mw 11 rfl))) (by decide) (t := (.object "java/lang/Object")) (t' := .long) (by decide) (by decide))))
        have f30 : Fld Z h27 va "com/example/tributary/tributary/runtime/Revisits" "markedRight" "Ljava/lang/Object;" ar := ((Fw20.other W23 (Or.inr (slot_ne (Or.inl (hw _ (mw 24 rfl))) (Or.inl (hw _ (mw 26 rfl))) (by decide) (t := (.object "java/lang/Object")) (t' := .long) (by decide) (by decide)))).other W27 (Or.inr (slot_ne (Or.inl (hw _ (mw 24 rfl))) (Or.inl (hw _ (mw 11 rfl))) (by decide) (t := (.object "java/lang/Object")) (t' := .long) (by decide) (by decide))))
        have f31 : Fld Z h27 va "com/example/tributary/tributary/runtime/Revisits" "sinceMark" "J" (.long (0 : Int64)) := (Fw23.other W27 (Or.inr (slot_ne (Or.inl (hw _ (mw 26 rfl))) (Or.inl (hw _ (mw 11 rfl))) (by decide) (t := .long) (t' := .long) (by decide) (by decide))))
        exact Goal.retV X27 hx Bd.returns rfl (Or.inl ⟨rfl, Or.inr (Or.inl rfl), _, rfl⟩) (hb hby d4_81) hlk e27 ⟨al, ar, (0 : Int64), (si * (2 : Int64)), (congrArg some (by simp [own_B, hc2, hc4, hc14] : ((.int (0 : Int32)) : Value) = (.int (own_B al ar sl sr)))), N27, f28, f29, f30, f31, Fw27, pal, par, (by simp [own_B, own_L, own_R, own_S, own_I, hc2, hc4, hc14]), (by simp [own_B, own_L, own_R, own_S, own_I, hc2, hc4, hc14]), (by simp [own_B, own_L, own_R, own_S, own_I, hc2, hc4, hc14]), (by simp [own_B, own_L, own_R, own_S, own_I, hc2, hc4, hc14])⟩ (by decide) (by decide)
      · refine Goal.to (B := T13.setTop (mkF m 81 #[.val (.ref va), .val al, .val ar, .val (.int (0 : Int32))] [(.int (0 : Int32))])) (fun tt kk => ?_) ?_
        · show Steps p.tables e below (T13.setTop (mkF m 50 #[.val (.ref va), .val al, .val ar, .val (.int (0 : Int32))] [(.int (lcmpW (ss + (1 : Int64)) si))])) tt
          refine XS.ifYes X13.here hx rfl (pc0 := 50) (pc' := 80) rfl (hb hby d4_50) rfl ((if0 _ _).trans (feq hc14).2) (by decide) (by decide) ?_
          show Steps p.tables e below (T13.setTop (mkF m 80 #[.val (.ref va), .val al, .val ar, .val (.int (0 : Int32))] [])) tt
          refine XS.iloadN X13.here hx rfl (hb hby d4_80) rfl ?_
          exact kk
        have f32 : Keep h0 h11 [va] := ((Keep.refl h0 [va]).wr W11 (Or.inl (List.mem_of_getElem? (i := 0) rfl)))
        have f33 : Fld Z h11 va "com/example/tributary/tributary/runtime/Revisits" "markedLeft" "Ljava/lang/Object;" sl := (F_markedLeft_va.other W11 (Or.inr (slot_ne (Or.inl (hw _ (mw 22 rfl))) (Or.inl (hw _ (mw 26 rfl))) (by decide) (t := (.object "java/lang/Object")) (t' := .long) (by decide) (by decide))))
        have f34 : Fld Z h11 va "com/example/tributary/tributary/runtime/Revisits" "markedRight" "Ljava/lang/Object;" sr := (F_markedRight_va.other W11 (Or.inr (slot_ne (Or.inl (hw _ (mw 24 rfl))) (Or.inl (hw _ (mw 26 rfl))) (by decide) (t := (.object "java/lang/Object")) (t' := .long) (by decide) (by decide))))
        exact Goal.retV X13 hx Bd.returns rfl (Or.inl ⟨rfl, Or.inr (Or.inl rfl), _, rfl⟩) (hb hby d4_81) hlk e13 ⟨sl, sr, (ss + (1 : Int64)), si, (congrArg some (by simp [own_B, hc2, hc4, hc14] : ((.int (0 : Int32)) : Value) = (.int (own_B al ar sl sr)))), N11, f32, f33, f34, Fw11, f12, psl, psr, (by simp [own_B, own_L, own_R, own_S, own_I, hc2, hc4, hc14]), (by simp [own_B, own_L, own_R, own_S, own_I, hc2, hc4, hc14]), (by simp [own_B, own_L, own_R, own_S, own_I, hc2, hc4, hc14]), (by simp [own_B, own_L, own_R, own_S, own_I, hc2, hc4, hc14])⟩ (by decide) (by decide)
  · refine Goal.to (B := T1.setTop (mkF m 36 #[.val (.ref va), .val al, .val ar, .val (.int (0 : Int32))] [(.ref va), (.ref va)])) (fun tt kk => ?_) ?_
    · show Steps p.tables e below (T1.setTop (mkF m 5 #[.val (.ref va), .val al, .val ar, .unset] [sl, al])) tt
      refine Jvm.RoadKit.acmp (g := (mkF m 5 #[.val (.ref va), .val al, .val ar, .unset] [sl, al])) X1 hx rfl pal psl (pc0 := 5) (pc' := 20) (same := false) rfl (hb hby d4_5) rfl (decide_eq_false hc2) (by decide) (by decide) ?_
      show Steps p.tables e below (T1.setTop (mkF m 20 #[.val (.ref va), .val al, .val ar, .unset] [])) tt
      refine XS.iconst X1.here hx rfl (hb hby d4_20) ?_
      show Steps p.tables e below (T1.setTop (mkF m 21 #[.val (.ref va), .val al, .val ar, .unset] [(.int (0 : Int32))])) tt
      refine XS.istoreN X1.here hx rfl (hb hby d4_21) rfl (l' := #[.val (.ref va), .val al, .val ar, .val (.int (0 : Int32))]) rfl ?_
      show Steps p.tables e below (T1.setTop (mkF m 22 #[.val (.ref va), .val al, .val ar, .val (.int (0 : Int32))] [])) tt
      refine XS.iloadN X1.here hx rfl (hb hby d4_22) rfl ?_
      show Steps p.tables e below (T1.setTop (mkF m 23 #[.val (.ref va), .val al, .val ar, .val (.int (0 : Int32))] [(.int (0 : Int32))])) tt
      refine XS.ifYes X1.here hx rfl (pc0 := 23) (pc' := 34) rfl (hb hby d4_23) rfl ((if0 _ _).trans (teq (rfl : (0 : Int32) = (0 : Int32))).1) (by decide) (by decide) ?_
      show Steps p.tables e below (T1.setTop (mkF m 34 #[.val (.ref va), .val al, .val ar, .val (.int (0 : Int32))] [])) tt
      refine XS.aloadN X1.here hx rfl (hb hby d4_34) rfl rfl ?_
      show Steps p.tables e below (T1.setTop (mkF m 35 #[.val (.ref va), .val al, .val ar, .val (.int (0 : Int32))] [(.ref va)])) tt
      refine XS.dup X1.here hx rfl (hb hby d4_35) rfl rfl ?_
      exact kk
    obtain ⟨T35, X35, e35, st35⟩ := getF X1 hx hZ hown (host := "") (Or.inl (hw _ (mw 25 rfl))) Via.refl e1 F_sinceMark_va (g := (mkF m 36 #[.val (.ref va), .val al, .val ar, .val (.int (0 : Int32))] [(.ref va), (.ref va)])) rfl rfl (hb hby d4_36)
    refine Goal.to (B := T35.setTop (mkF m 39 #[.val (.ref va), .val al, .val ar, .val (.int (0 : Int32))] [(.long ss), (.ref va)])) st35 ?_
    refine Goal.to (B := T35.setTop (mkF m 42 #[.val (.ref va), .val al, .val ar, .val (.int (0 : Int32))] [(.long (ss + (1 : Int64))), (.ref va), (.long (ss + (1 : Int64)))])) (fun tt kk => ?_) ?_
    · show Steps p.tables e below (T35.setTop (mkF m 39 #[.val (.ref va), .val al, .val ar, .val (.int (0 : Int32))] [(.long ss), (.ref va)])) tt
      refine XS.lconst X35.here hx rfl (hb hby d4_39) ?_
      show Steps p.tables e below (T35.setTop (mkF m 40 #[.val (.ref va), .val al, .val ar, .val (.int (0 : Int32))] [(.long (1 : Int64)), (.long ss), (.ref va)])) tt
      refine XS.ladd X35.here hx rfl (hb hby d4_40) rfl ?_
      show Steps p.tables e below (T35.setTop (mkF m 41 #[.val (.ref va), .val al, .val ar, .val (.int (0 : Int32))] [(.long (ss + (1 : Int64))), (.ref va)])) tt
      jvm_step X35.here [X35.here.top, hx, (hb hby d4_41), Value.category]
      exact kk
    obtain ⟨T36, h36, X36, e36, W36, st36⟩ := putF X35 hx hZ hown (host := "") (Or.inl (hw _ (mw 25 rfl))) Via.refl e35 F_sinceMark_va E_va (Or.inl (hw _ (mw 26 rfl))) (hw _ (mw 2 rfl)) (ty := .long) (by decide) rfl rfl (g := (mkF m 42 #[.val (.ref va), .val al, .val ar, .val (.int (0 : Int32))] [(.long (ss + (1 : Int64))), (.ref va), (.long (ss + (1 : Int64)))])) rfl rfl (hb hby d4_42)
    have Fw36 : Fld Z h36 va "com/example/tributary/tributary/runtime/Revisits" "sinceMark" "J" (.long (ss + (1 : Int64))) := F_sinceMark_va.same W36
    have N36 := Fr.snoc X36 N0 g_va
    refine Goal.to (B := T36.setTop (mkF m 45 #[.val (.ref va), .val al, .val ar, .val (.int (0 : Int32))] [(.long (ss + (1 : Int64)))])) st36 ?_
    refine Goal.to (B := T36.setTop (mkF m 46 #[.val (.ref va), .val al, .val ar, .val (.int (0 : Int32))] [(.ref va), (.long (ss + (1 : Int64)))])) (fun tt kk => ?_) ?_
    · show Steps p.tables e below (T36.setTop (mkF m 45 #[.val (.ref va), .val al, .val ar, .val (.int (0 : Int32))] [(.long (ss + (1 : Int64)))])) tt
      refine XS.aloadN X36.here hx rfl (hb hby d4_45) rfl rfl ?_
      exact kk
    have f37 : Fld Z h36 va "com/example/tributary/tributary/runtime/Revisits" "markInterval" "J" (.long si) := (F_markInterval_va.other W36 (Or.inr (slot_ne (Or.inl (hw _ (mw 11 rfl))) (Or.inl (hw _ (mw 26 rfl))) (by decide) (t := .long) (t' := .long) (by decide) (by decide))))
    obtain ⟨T38, X38, e38, st38⟩ := getF X36 hx hZ hown (host := "") (Or.inl (hw _ (mw 10 rfl))) Via.refl e36 f37 (g := (mkF m 46 #[.val (.ref va), .val al, .val ar, .val (.int (0 : Int32))] [(.ref va), (.long (ss + (1 : Int64)))])) rfl rfl (hb hby d4_46)
    refine Goal.to (B := T38.setTop (mkF m 49 #[.val (.ref va), .val al, .val ar, .val (.int (0 : Int32))] [(.long si), (.long (ss + (1 : Int64)))])) st38 ?_
    refine Goal.to (B := T38.setTop (mkF m 50 #[.val (.ref va), .val al, .val ar, .val (.int (0 : Int32))] [(.int (lcmpW (ss + (1 : Int64)) si))])) (fun tt kk => ?_) ?_
    · show Steps p.tables e below (T38.setTop (mkF m 49 #[.val (.ref va), .val al, .val ar, .val (.int (0 : Int32))] [(.long si), (.long (ss + (1 : Int64)))])) tt
      refine XS.lcmp X38.here hx rfl (hb hby d4_49) rfl ?_
      exact kk
    by_cases hc39 : (lcmpW (ss + (1 : Int64)) si) = (0 : Int32)
    · refine Goal.to (B := T38.setTop (mkF m 55 #[.val (.ref va), .val al, .val ar, .val (.int (0 : Int32))] [al, (.ref va)])) (fun tt kk => ?_) ?_
      · show Steps p.tables e below (T38.setTop (mkF m 50 #[.val (.ref va), .val al, .val ar, .val (.int (0 : Int32))] [(.int (lcmpW (ss + (1 : Int64)) si))])) tt
        refine XS.ifNo X38.here hx rfl (hb hby d4_50) rfl ((if0 _ _).trans (teq hc39).2) ?_
        show Steps p.tables e below (T38.setTop (mkF m 53 #[.val (.ref va), .val al, .val ar, .val (.int (0 : Int32))] [])) tt
        refine XS.aloadN X38.here hx rfl (hb hby d4_53) rfl rfl ?_
        show Steps p.tables e below (T38.setTop (mkF m 54 #[.val (.ref va), .val al, .val ar, .val (.int (0 : Int32))] [(.ref va)])) tt
        refine XS.aloadN X38.here hx rfl (hb hby d4_54) rfl pal ?_
        exact kk
      have f40 : Fld Z h36 va "com/example/tributary/tributary/runtime/Revisits" "markedLeft" "Ljava/lang/Object;" sl := (F_markedLeft_va.other W36 (Or.inr (slot_ne (Or.inl (hw _ (mw 22 rfl))) (Or.inl (hw _ (mw 26 rfl))) (by decide) (t := (.object "java/lang/Object")) (t' := .long) (by decide) (by decide))))
      have f41 : Exa Z h36 va "com/example/tributary/tributary/runtime/Revisits" := (E_va.wr W36)
      obtain ⟨T42, h42, X42, e42, W42, st42⟩ := putF X38 hx hZ hown (host := "") (Or.inl (hw _ (mw 21 rfl))) Via.refl e38 f40 f41 (Or.inl (hw _ (mw 22 rfl))) (hw _ (mw 2 rfl)) (ty := (.object "java/lang/Object")) (by decide) (narV pal) (fitV pal) (g := (mkF m 55 #[.val (.ref va), .val al, .val ar, .val (.int (0 : Int32))] [al, (.ref va)])) rfl rfl (hb hby d4_55)
      have Fw42 : Fld Z h42 va "com/example/tributary/tributary/runtime/Revisits" "markedLeft" "Ljava/lang/Object;" al := f40.same W42
      have N42 := Fr.snoc X42 N36 g_va
      refine Goal.to (B := T42.setTop (mkF m 58 #[.val (.ref va), .val al, .val ar, .val (.int (0 : Int32))] [])) st42 ?_
      refine Goal.to (B := T42.setTop (mkF m 60 #[.val (.ref va), .val al, .val ar, .val (.int (0 : Int32))] [ar, (.ref va)])) (fun tt kk => ?_) ?_
      · show Steps p.tables e below (T42.setTop (mkF m 58 #[.val (.ref va), .val al, .val ar, .val (.int (0 : Int32))] [])) tt
        refine XS.aloadN X42.here hx rfl (hb hby d4_58) rfl rfl ?_
        show Steps p.tables e below (T42.setTop (mkF m 59 #[.val (.ref va), .val al, .val ar, .val (.int (0 : Int32))] [(.ref va)])) tt
        refine XS.aloadN X42.here hx rfl (hb hby d4_59) rfl par ?_
        exact kk
      have f43 : Fld Z h42 va "com/example/tributary/tributary/runtime/Revisits" "markedRight" "Ljava/lang/Object;" sr := ((F_markedRight_va.other W36 (Or.inr (slot_ne (Or.inl (hw _ (mw 24 rfl))) (Or.inl (hw _ (mw 26 rfl))) (by decide) (t := (.object "java/lang/Object")) (t' := .long) (by decide) (by decide)))).other W42 (Or.inr (slot_ne (Or.inl (hw _ (mw 24 rfl))) (Or.inl (hw _ (mw 22 rfl))) (by decide) (t := (.object "java/lang/Object")) (t' := (.object "java/lang/Object")) (by decide) (by decide))))
      have f44 : Exa Z h42 va "com/example/tributary/tributary/runtime/Revisits" := (f41.wr W42)
      obtain ⟨T45, h45, X45, e45, W45, st45⟩ := putF X42 hx hZ hown (host := "") (Or.inl (hw _ (mw 23 rfl))) Via.refl e42 f43 f44 (Or.inl (hw _ (mw 24 rfl))) (hw _ (mw 2 rfl)) (ty := (.object "java/lang/Object")) (by decide) (narV par) (fitV par) (g := (mkF m 60 #[.val (.ref va), .val al, .val ar, .val (.int (0 : Int32))] [ar, (.ref va)])) rfl rfl (hb hby d4_60)
      have Fw45 : Fld Z h45 va "com/example/tributary/tributary/runtime/Revisits" "markedRight" "Ljava/lang/Object;" ar := f43.same W45
      have N45 := Fr.snoc X45 N42 g_va
      refine Goal.to (B := T45.setTop (mkF m 63 #[.val (.ref va), .val al, .val ar, .val (.int (0 : Int32))] [])) st45 ?_
      refine Goal.to (B := T45.setTop (mkF m 65 #[.val (.ref va), .val al, .val ar, .val (.int (0 : Int32))] [(.long (0 : Int64)), (.ref va)])) (fun tt kk => ?_) ?_
      · show Steps p.tables e below (T45.setTop (mkF m 63 #[.val (.ref va), .val al, .val ar, .val (.int (0 : Int32))] [])) tt
        refine XS.aloadN X45.here hx rfl (hb hby d4_63) rfl rfl ?_
        show Steps p.tables e below (T45.setTop (mkF m 64 #[.val (.ref va), .val al, .val ar, .val (.int (0 : Int32))] [(.ref va)])) tt
        refine XS.lconst X45.here hx rfl (hb hby d4_64) ?_
        exact kk
      have f46 : Fld Z h45 va "com/example/tributary/tributary/runtime/Revisits" "sinceMark" "J" (.long (ss + (1 : Int64))) := ((Fw36.other W42 (Or.inr (slot_ne (Or.inl (hw _ (mw 26 rfl))) (Or.inl (hw _ (mw 22 rfl))) (by decide) (t := .long) (t' := (.object "java/lang/Object")) (by decide) (by decide)))).other W45 (Or.inr (slot_ne (Or.inl (hw _ (mw 26 rfl))) (Or.inl (hw _ (mw 24 rfl))) (by decide) (t := .long) (t' := (.object "java/lang/Object")) (by decide) (by decide))))
      have f47 : Exa Z h45 va "com/example/tributary/tributary/runtime/Revisits" := (f44.wr W45)
      obtain ⟨T48, h48, X48, e48, W48, st48⟩ := putF X45 hx hZ hown (host := "") (Or.inl (hw _ (mw 25 rfl))) Via.refl e45 f46 f47 (Or.inl (hw _ (mw 26 rfl))) (hw _ (mw 2 rfl)) (ty := .long) (by decide) rfl rfl (g := (mkF m 65 #[.val (.ref va), .val al, .val ar, .val (.int (0 : Int32))] [(.long (0 : Int64)), (.ref va)])) rfl rfl (hb hby d4_65)
      have Fw48 : Fld Z h48 va "com/example/tributary/tributary/runtime/Revisits" "sinceMark" "J" (.long (0 : Int64)) := f46.same W48
      have N48 := Fr.snoc X48 N45 g_va
      refine Goal.to (B := T48.setTop (mkF m 68 #[.val (.ref va), .val al, .val ar, .val (.int (0 : Int32))] [])) st48 ?_
      refine Goal.to (B := T48.setTop (mkF m 70 #[.val (.ref va), .val al, .val ar, .val (.int (0 : Int32))] [(.ref va), (.ref va)])) (fun tt kk => ?_) ?_
      · show Steps p.tables e below (T48.setTop (mkF m 68 #[.val (.ref va), .val al, .val ar, .val (.int (0 : Int32))] [])) tt
        refine XS.aloadN X48.here hx rfl (hb hby d4_68) rfl rfl ?_
        show Steps p.tables e below (T48.setTop (mkF m 69 #[.val (.ref va), .val al, .val ar, .val (.int (0 : Int32))] [(.ref va)])) tt
        refine XS.dup X48.here hx rfl (hb hby d4_69) rfl rfl ?_
        exact kk
      have f49 : Fld Z h48 va "com/example/tributary/tributary/runtime/Revisits" "markInterval" "J" (.long si) := (((f37.other W42 (Or.inr (slot_ne (Or.inl (hw _ (mw 11 rfl))) (Or.inl (hw _ (mw 22 rfl))) (by decide) (t := .long) (t' := (.object "java/lang/Object")) (by decide) (by decide)))).other W45 (Or.inr (slot_ne (Or.inl (hw _ (mw 11 rfl))) (Or.inl (hw _ (mw 24 rfl))) (by decide) (t := .long) (t' := (.object "java/lang/Object")) (by decide) (by decide)))).other W48 (Or.inr (slot_ne (Or.inl (hw _ (mw 11 rfl))) (Or.inl (hw _ (mw 26 rfl))) (by decide) (t := .long) (t' := .long) (by decide) (by decide))))
      obtain ⟨T50, X50, e50, st50⟩ := getF X48 hx hZ hown (host := "") (Or.inl (hw _ (mw 10 rfl))) Via.refl e48 f49 (g := (mkF m 70 #[.val (.ref va), .val al, .val ar, .val (.int (0 : Int32))] [(.ref va), (.ref va)])) rfl rfl (hb hby d4_70)
      refine Goal.to (B := T50.setTop (mkF m 73 #[.val (.ref va), .val al, .val ar, .val (.int (0 : Int32))] [(.long si), (.ref va)])) st50 ?_
      refine Goal.to (B := T50.setTop (mkF m 77 #[.val (.ref va), .val al, .val ar, .val (.int (0 : Int32))] [(.long (si * (2 : Int64))), (.ref va)])) (fun tt kk => ?_) ?_
      · show Steps p.tables e below (T50.setTop (mkF m 73 #[.val (.ref va), .val al, .val ar, .val (.int (0 : Int32))] [(.long si), (.ref va)])) tt
        refine X50.ldc2Long hx hown (mvT hZ (hw _ (mw 27 rfl))) (g := (mkF m 73 #[.val (.ref va), .val al, .val ar, .val (.int (0 : Int32))] [(.long si), (.ref va)])) rfl (hb hby d4_73) _ ?_
        show Steps p.tables e below (T50.setTop (mkF m 76 #[.val (.ref va), .val al, .val ar, .val (.int (0 : Int32))] [(.long (2 : Int64)), (.long si), (.ref va)])) tt
        refine XS.lmul X50.here hx rfl (hb hby d4_76) rfl ?_
        exact kk
      have f51 : Exa Z h48 va "com/example/tributary/tributary/runtime/Revisits" := (f47.wr W48)
      obtain ⟨T52, h52, X52, e52, W52, st52⟩ := putF X50 hx hZ hown (host := "") (Or.inl (hw _ (mw 10 rfl))) Via.refl e50 f49 f51 (Or.inl (hw _ (mw 11 rfl))) (hw _ (mw 2 rfl)) (ty := .long) (by decide) rfl rfl (g := (mkF m 77 #[.val (.ref va), .val al, .val ar, .val (.int (0 : Int32))] [(.long (si * (2 : Int64))), (.ref va)])) rfl rfl (hb hby d4_77)
      have Fw52 : Fld Z h52 va "com/example/tributary/tributary/runtime/Revisits" "markInterval" "J" (.long (si * (2 : Int64))) := f49.same W52
      have N52 := Fr.snoc X52 N48 g_va
      refine Goal.to (B := T52.setTop (mkF m 80 #[.val (.ref va), .val al, .val ar, .val (.int (0 : Int32))] [])) st52 ?_
      refine Goal.to (B := T52.setTop (mkF m 81 #[.val (.ref va), .val al, .val ar, .val (.int (0 : Int32))] [(.int (0 : Int32))])) (fun tt kk => ?_) ?_
      · show Steps p.tables e below (T52.setTop (mkF m 80 #[.val (.ref va), .val al, .val ar, .val (.int (0 : Int32))] [])) tt
        refine XS.iloadN X52.here hx rfl (hb hby d4_80) rfl ?_
        exact kk
      have f53 : Keep h0 h52 [va] := ((((((Keep.refl h0 [va]).wr W36 (Or.inl (List.mem_of_getElem? (i := 0) rfl))).wr W42 (Or.inl (List.mem_of_getElem? (i := 0) rfl))).wr W45 (Or.inl (List.mem_of_getElem? (i := 0) rfl))).wr W48 (Or.inl (List.mem_of_getElem? (i := 0) rfl))).wr W52 (Or.inl (List.mem_of_getElem? (i := 0) rfl)))
      have f54 : Fld Z h52 va "com/example/tributary/tributary/runtime/Revisits" "markedLeft" "Ljava/lang/Object;" al := (((Fw42.other W45 (Or.inr (slot_ne (Or.inl (hw _ (mw 22 rfl))) (Or.inl (hw _ (mw 24 rfl))) (by decide) (t := (.object "java/lang/Object")) (t' := (.object "java/lang/Object")) (by decide) (by decide)))).other W48 (Or.inr (slot_ne (Or.inl (hw _ (mw 22 rfl))) (Or.inl (hw _ (mw 26 rfl))) (by decide) (t := (.object "java/lang/Object")) (t' := .long) (by decide) (by decide)))).other W52 (Or.inr (slot_ne (Or.inl (hw _ (mw 22 rfl))) (Or.inl (hw _ (mw 11 rfl))) (by decide) (t := (.object "java/lang/Object")) (t' := .long) (by decide) (by decide))))
      have f55 : Fld Z h52 va "com/example/tributary/tributary/runtime/Revisits" "markedRight" "Ljava/lang/Object;" ar := ((Fw45.other W48 (Or.inr (slot_ne (Or.inl (hw _ (mw 24 rfl))) (Or.inl (hw _ (mw 26 rfl))) (by decide) (t := (.object "java/lang/Object")) (t' := .long) (by decide) (by decide)))).other W52 (Or.inr (slot_ne (Or.inl (hw _ (mw 24 rfl))) (Or.inl (hw _ (mw 11 rfl))) (by decide) (t := (.object "java/lang/Object")) (t' := .long) (by decide) (by decide))))
      have f56 : Fld Z h52 va "com/example/tributary/tributary/runtime/Revisits" "sinceMark" "J" (.long (0 : Int64)) := (Fw48.other W52 (Or.inr (slot_ne (Or.inl (hw _ (mw 26 rfl))) (Or.inl (hw _ (mw 11 rfl))) (by decide) (t := .long) (t' := .long) (by decide) (by decide))))
      exact Goal.retV X52 hx Bd.returns rfl (Or.inl ⟨rfl, Or.inr (Or.inl rfl), _, rfl⟩) (hb hby d4_81) hlk e52 ⟨al, ar, (0 : Int64), (si * (2 : Int64)), (congrArg some (by simp [own_B, hc2, hc39] : ((.int (0 : Int32)) : Value) = (.int (own_B al ar sl sr)))), N52, f53, f54, f55, f56, Fw52, pal, par, (by simp [own_B, own_L, own_R, own_S, own_I, hc2, hc39]), (by simp [own_B, own_L, own_R, own_S, own_I, hc2, hc39]), (by simp [own_B, own_L, own_R, own_S, own_I, hc2, hc39]), (by simp [own_B, own_L, own_R, own_S, own_I, hc2, hc39])⟩ (by decide) (by decide)
    · refine Goal.to (B := T38.setTop (mkF m 81 #[.val (.ref va), .val al, .val ar, .val (.int (0 : Int32))] [(.int (0 : Int32))])) (fun tt kk => ?_) ?_
      · show Steps p.tables e below (T38.setTop (mkF m 50 #[.val (.ref va), .val al, .val ar, .val (.int (0 : Int32))] [(.int (lcmpW (ss + (1 : Int64)) si))])) tt
        refine XS.ifYes X38.here hx rfl (pc0 := 50) (pc' := 80) rfl (hb hby d4_50) rfl ((if0 _ _).trans (feq hc39).2) (by decide) (by decide) ?_
        show Steps p.tables e below (T38.setTop (mkF m 80 #[.val (.ref va), .val al, .val ar, .val (.int (0 : Int32))] [])) tt
        refine XS.iloadN X38.here hx rfl (hb hby d4_80) rfl ?_
        exact kk
      have f57 : Keep h0 h36 [va] := ((Keep.refl h0 [va]).wr W36 (Or.inl (List.mem_of_getElem? (i := 0) rfl)))
      have f58 : Fld Z h36 va "com/example/tributary/tributary/runtime/Revisits" "markedLeft" "Ljava/lang/Object;" sl := (F_markedLeft_va.other W36 (Or.inr (slot_ne (Or.inl (hw _ (mw 22 rfl))) (Or.inl (hw _ (mw 26 rfl))) (by decide) (t := (.object "java/lang/Object")) (t' := .long) (by decide) (by decide))))
      have f59 : Fld Z h36 va "com/example/tributary/tributary/runtime/Revisits" "markedRight" "Ljava/lang/Object;" sr := (F_markedRight_va.other W36 (Or.inr (slot_ne (Or.inl (hw _ (mw 24 rfl))) (Or.inl (hw _ (mw 26 rfl))) (by decide) (t := (.object "java/lang/Object")) (t' := .long) (by decide) (by decide))))
      exact Goal.retV X38 hx Bd.returns rfl (Or.inl ⟨rfl, Or.inr (Or.inl rfl), _, rfl⟩) (hb hby d4_81) hlk e38 ⟨sl, sr, (ss + (1 : Int64)), si, (congrArg some (by simp [own_B, hc2, hc39] : ((.int (0 : Int32)) : Value) = (.int (own_B al ar sl sr)))), N36, f57, f58, f59, Fw36, f37, psl, psr, (by simp [own_B, own_L, own_R, own_S, own_I, hc2, hc39]), (by simp [own_B, own_L, own_R, own_S, own_I, hc2, hc39]), (by simp [own_B, own_L, own_R, own_S, own_I, hc2, hc39]), (by simp [own_B, own_L, own_R, own_S, own_I, hc2, hc39])⟩ (by decide) (by decide)
theorem ef_5 (m : MethodId) (x0 : Addr) (x1 : Addr)  : entryFrame m #[(.ref x0), (.ref x1)] 2 = mkF m 0 #[.val (.ref x0), .val (.ref x1)] [] := by first | (simp [entryFrame, mkF, argsToLocals, Value.category]; done) | rfl
theorem pn_5 : plainName "com/example/tributary/tributary/runtime/Revisits" = true := by first | (simp [plainName, overriddenIn]; done) | decide +kernel
theorem d5_0 : decode prog_118_method_4_code 0 = .ok (.aload_n 0, 1) := by decide +kernel
theorem d5_1 : decode prog_118_method_4_code 1 = .ok (.aload_n 1, 1) := by decide +kernel
theorem d5_2 : decode prog_118_method_4_code 2 = .ok (.getfield 17, 3) := by decide +kernel
theorem d5_5 : decode prog_118_method_4_code 5 = .ok (.putfield 17, 3) := by decide +kernel
theorem d5_8 : decode prog_118_method_4_code 8 = .ok (.aload_n 0, 1) := by decide +kernel
theorem d5_9 : decode prog_118_method_4_code 9 = .ok (.aload_n 1, 1) := by decide +kernel
theorem d5_10 : decode prog_118_method_4_code 10 = .ok (.getfield 21, 3) := by decide +kernel
theorem d5_13 : decode prog_118_method_4_code 13 = .ok (.putfield 21, 3) := by decide +kernel
theorem d5_16 : decode prog_118_method_4_code 16 = .ok (.aload_n 0, 1) := by decide +kernel
theorem d5_17 : decode prog_118_method_4_code 17 = .ok (.aload_n 1, 1) := by decide +kernel
theorem d5_18 : decode prog_118_method_4_code 18 = .ok (.getfield 24, 3) := by decide +kernel
theorem d5_21 : decode prog_118_method_4_code 21 = .ok (.putfield 24, 3) := by decide +kernel
theorem d5_24 : decode prog_118_method_4_code 24 = .ok (.aload_n 0, 1) := by decide +kernel
theorem d5_25 : decode prog_118_method_4_code 25 = .ok (.aload_n 1, 1) := by decide +kernel
theorem d5_26 : decode prog_118_method_4_code 26 = .ok (.getfield 7, 3) := by decide +kernel
theorem d5_29 : decode prog_118_method_4_code 29 = .ok (.putfield 7, 3) := by decide +kernel
theorem d5_32 : decode prog_118_method_4_code 32 = .ok (.return_, 1) := by decide +kernel
def Qcf (Z : State) (va : Addr) (vb : Addr) (tl : Value) (tr : Value) (ts : Int64) (ti : Int64) (sl : Value) (sr : Value) (ss : Int64) (si : Int64) (h0 : Heap) (n0 : Nat) (v : Option Value) (h : Heap) (L : List Loc) : Prop := v = none ∧ Fr n0 L ∧ Keep h0 h [va] ∧ Fld Z h va "com/example/tributary/tributary/runtime/Revisits" "markedLeft" "Ljava/lang/Object;" sl ∧ Fld Z h va "com/example/tributary/tributary/runtime/Revisits" "markedRight" "Ljava/lang/Object;" sr ∧ Fld Z h va "com/example/tributary/tributary/runtime/Revisits" "sinceMark" "J" (.long ss) ∧ Fld Z h va "com/example/tributary/tributary/runtime/Revisits" "markInterval" "J" (.long si)
set_option maxRecDepth 65536 in
set_option maxHeartbeats 40000000 in
theorem rmcf (l : Launch) (Z : State) (a0 : Array Value) (hw : ∀ d ∈ tables_1, d.before a0 Z = true) (ws : List Jvm.Cond) (va : Addr) (vb : Addr) (tl : Value) (tr : Value) (ts : Int64) (ti : Int64) (sl : Value) (sr : Value) (ss : Int64) (si : Int64) (h0 : Heap) (n0 : Nat) (Z0 : n0 ≤ h0.size) (E_va : Exa Z h0 va "com/example/tributary/tributary/runtime/Revisits") (F_markedLeft_va : Fld Z h0 va "com/example/tributary/tributary/runtime/Revisits" "markedLeft" "Ljava/lang/Object;" tl) (F_markedRight_va : Fld Z h0 va "com/example/tributary/tributary/runtime/Revisits" "markedRight" "Ljava/lang/Object;" tr) (F_sinceMark_va : Fld Z h0 va "com/example/tributary/tributary/runtime/Revisits" "sinceMark" "J" (.long ts)) (F_markInterval_va : Fld Z h0 va "com/example/tributary/tributary/runtime/Revisits" "markInterval" "J" (.long ti)) (F_markedLeft_vb : Fld Z h0 vb "com/example/tributary/tributary/runtime/Revisits" "markedLeft" "Ljava/lang/Object;" sl) (F_markedRight_vb : Fld Z h0 vb "com/example/tributary/tributary/runtime/Revisits" "markedRight" "Ljava/lang/Object;" sr) (F_sinceMark_vb : Fld Z h0 vb "com/example/tributary/tributary/runtime/Revisits" "sinceMark" "J" (.long ss)) (F_markInterval_vb : Fld Z h0 vb "com/example/tributary/tributary/runtime/Revisits" "markInterval" "J" (.long si)) (g_va : n0 ≤ va) (ne_va_vb : va ≠ vb) (ptl : tl.isRef = true) (ptr : tr.isRef = true) (psl : sl.isRef = true) (psr : sr.isRef = true) :
    MetFree l (⟨"com/example/tributary/tributary/runtime/Revisits", "copyFrom", "(Lcom/example/tributary/tributary/runtime/Revisits;)V"⟩ : MethodName) (head1 (Jvm.Cond.code (⟨"com/example/tributary/tributary/runtime/Revisits", "copyFrom", "(Lcom/example/tributary/tributary/runtime/Revisits;)V"⟩ : MethodName) prog_118_method_4_code 2 none :: ws) ({ frames := 0, cells := 0, slots := 0, locals := 0 } : Room)) (fun a U => a = #[(.ref va), (.ref vb)] ∧ Z.Warmed39 U.vm ∧ U.heap = h0) (fun _ _ _ _ _ => True) (fun _ U o U' => ∃ v L, o = .returned v ∧ Qcf Z va vb tl tr ts ti sl sr ss si h0 n0 v U'.heap L ∧ FrameEnd U o U' L 0 0) := by
  refine MetFree.of_bodySF (plainFor_of_name pn_5) hisR ?_
  intro p e s m args below meth c s₁ Bd hml0 hP hK
  obtain ⟨rfl, hZ, hh⟩ := hP
  have hx := Bd.exec
  have hby := Bd.bytes
  have hml : c.maxLocals = 2 := hml0
  have hown : s.vm.findClass "com/example/tributary/tributary/runtime/Revisits" = some m.cls := findClass_of_methodNamed Bd.named
  have hnm := (name_of_methodNamed Bd.named Bd.method).1
  have X0 : Stand p l e ({ frames := 0, cells := 0, slots := 0, locals := 0 } : Room) s m #[(.ref va), (.ref vb)] below meth c s₁ [] 0 0 := Stand.of_body Bd
  have e0 : s₁.heap = h0 := by rw [← hh, Bd.state]; rfl
  have N0 := Fr.nil n0
  have hlk : meth.locks = false := BodyLoose.notSynchronized Bd
  show Goal p e below s (Qcf Z va vb tl tr ts ti sl sr ss si h0 n0) 0 0 (s₁.setTop (entryFrame m #[(.ref va), (.ref vb)] 2))
  refine Goal.to (B := s₁.setTop (mkF m 0 #[.val (.ref va), .val (.ref vb)] [])) (fun tt kk => castTop (ef_5 m va vb ) kk) ?_
  refine Goal.to (B := s₁.setTop (mkF m 2 #[.val (.ref va), .val (.ref vb)] [(.ref vb), (.ref va)])) (fun tt kk => ?_) ?_
  · show Steps p.tables e below (s₁.setTop (mkF m 0 #[.val (.ref va), .val (.ref vb)] [])) tt
    refine XS.aloadN X0.here hx rfl (hb hby d5_0) rfl rfl ?_
    show Steps p.tables e below (s₁.setTop (mkF m 1 #[.val (.ref va), .val (.ref vb)] [(.ref va)])) tt
    refine XS.aloadN X0.here hx rfl (hb hby d5_1) rfl rfl ?_
    exact kk
  obtain ⟨T1, X1, e1, st1⟩ := getF X0 hx hZ hown (host := "") (Or.inl (hw _ (mw 21 rfl))) Via.refl e0 F_markedLeft_vb (g := (mkF m 2 #[.val (.ref va), .val (.ref vb)] [(.ref vb), (.ref va)])) rfl rfl (hb hby d5_2)
  refine Goal.to (B := T1.setTop (mkF m 5 #[.val (.ref va), .val (.ref vb)] [sl, (.ref va)])) st1 ?_
  obtain ⟨T2, h2, X2, e2, W2, st2⟩ := putF X1 hx hZ hown (host := "") (Or.inl (hw _ (mw 21 rfl))) Via.refl e1 F_markedLeft_va E_va (Or.inl (hw _ (mw 22 rfl))) (hw _ (mw 2 rfl)) (ty := (.object "java/lang/Object")) (by decide) (narV psl) (fitV psl) (g := (mkF m 5 #[.val (.ref va), .val (.ref vb)] [sl, (.ref va)])) rfl rfl (hb hby d5_5)
  have Fw2 : Fld Z h2 va "com/example/tributary/tributary/runtime/Revisits" "markedLeft" "Ljava/lang/Object;" sl := F_markedLeft_va.same W2
  have N2 := Fr.snoc X2 N0 g_va
  refine Goal.to (B := T2.setTop (mkF m 8 #[.val (.ref va), .val (.ref vb)] [])) st2 ?_
  refine Goal.to (B := T2.setTop (mkF m 10 #[.val (.ref va), .val (.ref vb)] [(.ref vb), (.ref va)])) (fun tt kk => ?_) ?_
  · show Steps p.tables e below (T2.setTop (mkF m 8 #[.val (.ref va), .val (.ref vb)] [])) tt
    refine XS.aloadN X2.here hx rfl (hb hby d5_8) rfl rfl ?_
    show Steps p.tables e below (T2.setTop (mkF m 9 #[.val (.ref va), .val (.ref vb)] [(.ref va)])) tt
    refine XS.aloadN X2.here hx rfl (hb hby d5_9) rfl rfl ?_
    exact kk
  have f3 : Fld Z h2 vb "com/example/tributary/tributary/runtime/Revisits" "markedRight" "Ljava/lang/Object;" sr := (F_markedRight_vb.other W2 (Or.inl (Ne.symm ne_va_vb)))
  obtain ⟨T4, X4, e4, st4⟩ := getF X2 hx hZ hown (host := "") (Or.inl (hw _ (mw 23 rfl))) Via.refl e2 f3 (g := (mkF m 10 #[.val (.ref va), .val (.ref vb)] [(.ref vb), (.ref va)])) rfl rfl (hb hby d5_10)
  refine Goal.to (B := T4.setTop (mkF m 13 #[.val (.ref va), .val (.ref vb)] [sr, (.ref va)])) st4 ?_
  have f5 : Fld Z h2 va "com/example/tributary/tributary/runtime/Revisits" "markedRight" "Ljava/lang/Object;" tr := (F_markedRight_va.other W2 (Or.inr (slot_ne (Or.inl (hw _ (mw 24 rfl))) (Or.inl (hw _ (mw 22 rfl))) (by decide) (t := (.object "java/lang/Object")) (t' := (.object "java/lang/Object")) (by decide) (by decide))))
  have f6 : Exa Z h2 va "com/example/tributary/tributary/runtime/Revisits" := (E_va.wr W2)
  obtain ⟨T7, h7, X7, e7, W7, st7⟩ := putF X4 hx hZ hown (host := "") (Or.inl (hw _ (mw 23 rfl))) Via.refl e4 f5 f6 (Or.inl (hw _ (mw 24 rfl))) (hw _ (mw 2 rfl)) (ty := (.object "java/lang/Object")) (by decide) (narV psr) (fitV psr) (g := (mkF m 13 #[.val (.ref va), .val (.ref vb)] [sr, (.ref va)])) rfl rfl (hb hby d5_13)
  have Fw7 : Fld Z h7 va "com/example/tributary/tributary/runtime/Revisits" "markedRight" "Ljava/lang/Object;" sr := f5.same W7
  have N7 := Fr.snoc X7 N2 g_va
  refine Goal.to (B := T7.setTop (mkF m 16 #[.val (.ref va), .val (.ref vb)] [])) st7 ?_
  refine Goal.to (B := T7.setTop (mkF m 18 #[.val (.ref va), .val (.ref vb)] [(.ref vb), (.ref va)])) (fun tt kk => ?_) ?_
  · show Steps p.tables e below (T7.setTop (mkF m 16 #[.val (.ref va), .val (.ref vb)] [])) tt
    refine XS.aloadN X7.here hx rfl (hb hby d5_16) rfl rfl ?_
    show Steps p.tables e below (T7.setTop (mkF m 17 #[.val (.ref va), .val (.ref vb)] [(.ref va)])) tt
    refine XS.aloadN X7.here hx rfl (hb hby d5_17) rfl rfl ?_
    exact kk
  have f8 : Fld Z h7 vb "com/example/tributary/tributary/runtime/Revisits" "sinceMark" "J" (.long ss) := ((F_sinceMark_vb.other W2 (Or.inl (Ne.symm ne_va_vb))).other W7 (Or.inl (Ne.symm ne_va_vb)))
  obtain ⟨T9, X9, e9, st9⟩ := getF X7 hx hZ hown (host := "") (Or.inl (hw _ (mw 25 rfl))) Via.refl e7 f8 (g := (mkF m 18 #[.val (.ref va), .val (.ref vb)] [(.ref vb), (.ref va)])) rfl rfl (hb hby d5_18)
  refine Goal.to (B := T9.setTop (mkF m 21 #[.val (.ref va), .val (.ref vb)] [(.long ss), (.ref va)])) st9 ?_
  have f10 : Fld Z h7 va "com/example/tributary/tributary/runtime/Revisits" "sinceMark" "J" (.long ts) := ((F_sinceMark_va.other W2 (Or.inr (slot_ne (Or.inl (hw _ (mw 26 rfl))) (Or.inl (hw _ (mw 22 rfl))) (by decide) (t := .long) (t' := (.object "java/lang/Object")) (by decide) (by decide)))).other W7 (Or.inr (slot_ne (Or.inl (hw _ (mw 26 rfl))) (Or.inl (hw _ (mw 24 rfl))) (by decide) (t := .long) (t' := (.object "java/lang/Object")) (by decide) (by decide))))
  have f11 : Exa Z h7 va "com/example/tributary/tributary/runtime/Revisits" := (f6.wr W7)
  obtain ⟨T12, h12, X12, e12, W12, st12⟩ := putF X9 hx hZ hown (host := "") (Or.inl (hw _ (mw 25 rfl))) Via.refl e9 f10 f11 (Or.inl (hw _ (mw 26 rfl))) (hw _ (mw 2 rfl)) (ty := .long) (by decide) rfl rfl (g := (mkF m 21 #[.val (.ref va), .val (.ref vb)] [(.long ss), (.ref va)])) rfl rfl (hb hby d5_21)
  have Fw12 : Fld Z h12 va "com/example/tributary/tributary/runtime/Revisits" "sinceMark" "J" (.long ss) := f10.same W12
  have N12 := Fr.snoc X12 N7 g_va
  refine Goal.to (B := T12.setTop (mkF m 24 #[.val (.ref va), .val (.ref vb)] [])) st12 ?_
  refine Goal.to (B := T12.setTop (mkF m 26 #[.val (.ref va), .val (.ref vb)] [(.ref vb), (.ref va)])) (fun tt kk => ?_) ?_
  · show Steps p.tables e below (T12.setTop (mkF m 24 #[.val (.ref va), .val (.ref vb)] [])) tt
    refine XS.aloadN X12.here hx rfl (hb hby d5_24) rfl rfl ?_
    show Steps p.tables e below (T12.setTop (mkF m 25 #[.val (.ref va), .val (.ref vb)] [(.ref va)])) tt
    refine XS.aloadN X12.here hx rfl (hb hby d5_25) rfl rfl ?_
    exact kk
  have f13 : Fld Z h12 vb "com/example/tributary/tributary/runtime/Revisits" "markInterval" "J" (.long si) := (((F_markInterval_vb.other W2 (Or.inl (Ne.symm ne_va_vb))).other W7 (Or.inl (Ne.symm ne_va_vb))).other W12 (Or.inl (Ne.symm ne_va_vb)))
  obtain ⟨T14, X14, e14, st14⟩ := getF X12 hx hZ hown (host := "") (Or.inl (hw _ (mw 10 rfl))) Via.refl e12 f13 (g := (mkF m 26 #[.val (.ref va), .val (.ref vb)] [(.ref vb), (.ref va)])) rfl rfl (hb hby d5_26)
  refine Goal.to (B := T14.setTop (mkF m 29 #[.val (.ref va), .val (.ref vb)] [(.long si), (.ref va)])) st14 ?_
  have f15 : Fld Z h12 va "com/example/tributary/tributary/runtime/Revisits" "markInterval" "J" (.long ti) := (((F_markInterval_va.other W2 (Or.inr (slot_ne (Or.inl (hw _ (mw 11 rfl))) (Or.inl (hw _ (mw 22 rfl))) (by decide) (t := .long) (t' := (.object "java/lang/Object")) (by decide) (by decide)))).other W7 (Or.inr (slot_ne (Or.inl (hw _ (mw 11 rfl))) (Or.inl (hw _ (mw 24 rfl))) (by decide) (t := .long) (t' := (.object "java/lang/Object")) (by decide) (by decide)))).other W12 (Or.inr (slot_ne (Or.inl (hw _ (mw 11 rfl))) (Or.inl (hw _ (mw 26 rfl))) (by decide) (t := .long) (t' := .long) (by decide) (by decide))))
  have f16 : Exa Z h12 va "com/example/tributary/tributary/runtime/Revisits" := (f11.wr W12)
  obtain ⟨T17, h17, X17, e17, W17, st17⟩ := putF X14 hx hZ hown (host := "") (Or.inl (hw _ (mw 10 rfl))) Via.refl e14 f15 f16 (Or.inl (hw _ (mw 11 rfl))) (hw _ (mw 2 rfl)) (ty := .long) (by decide) rfl rfl (g := (mkF m 29 #[.val (.ref va), .val (.ref vb)] [(.long si), (.ref va)])) rfl rfl (hb hby d5_29)
  have Fw17 : Fld Z h17 va "com/example/tributary/tributary/runtime/Revisits" "markInterval" "J" (.long si) := f15.same W17
  have N17 := Fr.snoc X17 N12 g_va
  refine Goal.to (B := T17.setTop (mkF m 32 #[.val (.ref va), .val (.ref vb)] [])) st17 ?_
  have f18 : Keep h0 h17 [va] := (((((Keep.refl h0 [va]).wr W2 (Or.inl (List.mem_of_getElem? (i := 0) rfl))).wr W7 (Or.inl (List.mem_of_getElem? (i := 0) rfl))).wr W12 (Or.inl (List.mem_of_getElem? (i := 0) rfl))).wr W17 (Or.inl (List.mem_of_getElem? (i := 0) rfl)))
  have f19 : Fld Z h17 va "com/example/tributary/tributary/runtime/Revisits" "markedLeft" "Ljava/lang/Object;" sl := (((Fw2.other W7 (Or.inr (slot_ne (Or.inl (hw _ (mw 22 rfl))) (Or.inl (hw _ (mw 24 rfl))) (by decide) (t := (.object "java/lang/Object")) (t' := (.object "java/lang/Object")) (by decide) (by decide)))).other W12 (Or.inr (slot_ne (Or.inl (hw _ (mw 22 rfl))) (Or.inl (hw _ (mw 26 rfl))) (by decide) (t := (.object "java/lang/Object")) (t' := .long) (by decide) (by decide)))).other W17 (Or.inr (slot_ne (Or.inl (hw _ (mw 22 rfl))) (Or.inl (hw _ (mw 11 rfl))) (by decide) (t := (.object "java/lang/Object")) (t' := .long) (by decide) (by decide))))
  have f20 : Fld Z h17 va "com/example/tributary/tributary/runtime/Revisits" "markedRight" "Ljava/lang/Object;" sr := ((Fw7.other W12 (Or.inr (slot_ne (Or.inl (hw _ (mw 24 rfl))) (Or.inl (hw _ (mw 26 rfl))) (by decide) (t := (.object "java/lang/Object")) (t' := .long) (by decide) (by decide)))).other W17 (Or.inr (slot_ne (Or.inl (hw _ (mw 24 rfl))) (Or.inl (hw _ (mw 11 rfl))) (by decide) (t := (.object "java/lang/Object")) (t' := .long) (by decide) (by decide))))
  have f21 : Fld Z h17 va "com/example/tributary/tributary/runtime/Revisits" "sinceMark" "J" (.long ss) := (Fw12.other W17 (Or.inr (slot_ne (Or.inl (hw _ (mw 26 rfl))) (Or.inl (hw _ (mw 11 rfl))) (by decide) (t := .long) (t' := .long) (by decide) (by decide))))
  exact Goal.retN X17 hx Bd.returns (hb hby d5_32) hlk e17 ⟨rfl, N17, f18, f19, f20, f21, Fw17⟩ (by decide) (by decide)
theorem ef_0 (m : MethodId) (x0 : Int32) (x1 : Int32) (x2 : Int32)  : entryFrame m #[(.int x0), (.int x1), (.int x2)] maxLocals = mkF m 0 #[.val (.int x0), .val (.int x1), .val (.int x2), .unset, .unset, .unset, .unset, .unset, .unset, .unset, .unset, .unset, .unset, .unset, .unset, .unset] [] := by first | (simp [entryFrame, mkF, argsToLocals, Value.category, maxLocals]; done) | rfl
theorem pn_0 : plainName "com/example/tributary/tributary/runtime/RevisitsCopyFromPinLaw" = true := by first | (simp [plainName, overriddenIn]; done) | decide +kernel
theorem pd_0 : parseMethodDescriptor "()V" = some ⟨[], none⟩ := by decide +kernel
theorem pd_1 : parseMethodDescriptor "(ILjava/lang/Object;Ljava/lang/Object;Ljava/lang/Object;)Ljava/lang/Object;" = some ⟨[.int, (.object "java/lang/Object"), (.object "java/lang/Object"), (.object "java/lang/Object")], some (.object "java/lang/Object")⟩ := by decide +kernel
theorem pd_2 : parseMethodDescriptor "(Ljava/lang/Object;Ljava/lang/Object;)Z" = some ⟨[(.object "java/lang/Object"), (.object "java/lang/Object")], some .boolean⟩ := by decide +kernel
theorem pd_3 : parseMethodDescriptor "(Lcom/example/tributary/tributary/runtime/Revisits;)V" = some ⟨[(.object "com/example/tributary/tributary/runtime/Revisits")], none⟩ := by decide +kernel
def Q0 (Z : State) (u0 : Int32) (u1 : Int32) (u2 : Int32) (h0 : Heap) (n0 : Nat) (v : Option Value) (h : Heap) (L : List Loc) : Prop := v = some (.int (1 : Int32)) ∧ Fr n0 L
set_option maxRecDepth 65536 in
set_option maxHeartbeats 40000000 in
theorem rm0 (l : Launch) (Z : State) (a0 : Array Value) (hw : ∀ d ∈ tables_1, d.before a0 Z = true) (ws : List Jvm.Cond) (u0 : Int32) (u1 : Int32) (u2 : Int32) (h0 : Heap) (n0 : Nat) (Z0 : n0 ≤ h0.size) :
    MetFree l x (head1 (Jvm.Cond.code x code maxLocals ret :: ws) room_1) (fun a U => a = #[(.int u0), (.int u1), (.int u2)] ∧ Z.Warmed39 U.vm ∧ U.heap = h0) (fun _ _ _ _ _ => True) (fun _ U o U' => ∃ v L, o = .returned v ∧ Q0 Z u0 u1 u2 h0 n0 v U'.heap L ∧ FrameEnd U o U' L 24 128) := by
  refine MetFree.of_bodySF (plainFor_of_name pn_0) hisR ?_
  intro p e s m args below meth c s₁ Bd hml0 hP hK
  obtain ⟨rfl, hZ, hh⟩ := hP
  have hx := Bd.exec
  have hby := Bd.bytes
  have hml : c.maxLocals = 16 := hml0
  have hown : s.vm.findClass "com/example/tributary/tributary/runtime/RevisitsCopyFromPinLaw" = some m.cls := findClass_of_methodNamed Bd.named
  have hnm := (name_of_methodNamed Bd.named Bd.method).1
  have X0 : Stand p l e room_1 s m #[(.int u0), (.int u1), (.int u2)] below meth c s₁ [] 0 0 := Stand.of_body Bd
  have e0 : s₁.heap = h0 := by rw [← hh, Bd.state]; rfl
  have N0 := Fr.nil n0
  have hlk : meth.locks = false := BodyLoose.notSynchronized Bd
  show Goal p e below s (Q0 Z u0 u1 u2 h0 n0) 24 128 (s₁.setTop (entryFrame m #[(.int u0), (.int u1), (.int u2)] maxLocals))
  refine Goal.to (B := s₁.setTop (mkF m 0 #[.val (.int u0), .val (.int u1), .val (.int u2), .unset, .unset, .unset, .unset, .unset, .unset, .unset, .unset, .unset, .unset, .unset, .unset, .unset] [])) (fun tt kk => castTop (ef_0 m u0 u1 u2 ) kk) ?_
  refine Goal.to (B := s₁.setTop (mkF m 1 #[.val (.int u0), .val (.int u1), .val (.int u2), .unset, .unset, .unset, .unset, .unset, .unset, .unset, .unset, .unset, .unset, .unset, .unset, .unset] [(.int (1 : Int32))])) (fun tt kk => ?_) ?_
  · show Steps p.tables e below (s₁.setTop (mkF m 0 #[.val (.int u0), .val (.int u1), .val (.int u2), .unset, .unset, .unset, .unset, .unset, .unset, .unset, .unset, .unset, .unset, .unset, .unset, .unset] [])) tt
    refine XS.iconst X0.here hx rfl (hb hby at_0) ?_
    exact kk
  obtain ⟨T1, h1, k1, X1, e1, E1, A1, st1⟩ := newP X0 hx hZ (hw _ (mw 0 rfl)) e0 (g := (mkF m 1 #[.val (.int u0), .val (.int u1), .val (.int u2), .unset, .unset, .unset, .unset, .unset, .unset, .unset, .unset, .unset, .unset, .unset, .unset, .unset] [(.int (1 : Int32))])) rfl (hb hby at_1) rfl (by decide) (cap := 1) (by decide) (by decide) (by decide) (by decide)
  obtain ⟨b1, g1⟩ : ∃ z, z = h0.size := ⟨_, rfl⟩
  rw [← g1] at A1 st1
  have g_b1 : n0 ≤ b1 := Nat.le_trans Z0 (Nat.le_of_eq g1.symm)
  have V1 : Ary Z h1 b1 .int [(.int (0 : Int32))] := Ary.new A1 rfl
  refine Goal.to (B := T1.setTop (mkF m 3 #[.val (.int u0), .val (.int u1), .val (.int u2), .unset, .unset, .unset, .unset, .unset, .unset, .unset, .unset, .unset, .unset, .unset, .unset, .unset] [(.ref b1)])) st1 ?_
  refine Goal.to (B := T1.setTop (mkF m 5 #[.val (.int u0), .val (.int u1), .val (.int u2), .val (.ref b1), .unset, .unset, .unset, .unset, .unset, .unset, .unset, .unset, .unset, .unset, .unset, .unset] [(.int (1 : Int32))])) (fun tt kk => ?_) ?_
  · show Steps p.tables e below (T1.setTop (mkF m 3 #[.val (.int u0), .val (.int u1), .val (.int u2), .unset, .unset, .unset, .unset, .unset, .unset, .unset, .unset, .unset, .unset, .unset, .unset, .unset] [(.ref b1)])) tt
    refine XS.astoreN X1.here hx rfl (hb hby at_3) rfl rfl (l' := #[.val (.int u0), .val (.int u1), .val (.int u2), .val (.ref b1), .unset, .unset, .unset, .unset, .unset, .unset, .unset, .unset, .unset, .unset, .unset, .unset]) rfl ?_
    show Steps p.tables e below (T1.setTop (mkF m 4 #[.val (.int u0), .val (.int u1), .val (.int u2), .val (.ref b1), .unset, .unset, .unset, .unset, .unset, .unset, .unset, .unset, .unset, .unset, .unset, .unset] [])) tt
    refine XS.iconst X1.here hx rfl (hb hby at_4) ?_
    exact kk
  have f3 : n0 ≤ h1.size := (Nat.le_trans Z0 E1.1)
  obtain ⟨T2, h2, k2, X2, e2, E2, A2, st2⟩ := newP X1 hx hZ (hw _ (mw 0 rfl)) e1 (g := (mkF m 5 #[.val (.int u0), .val (.int u1), .val (.int u2), .val (.ref b1), .unset, .unset, .unset, .unset, .unset, .unset, .unset, .unset, .unset, .unset, .unset, .unset] [(.int (1 : Int32))])) rfl (hb hby at_5) rfl (by decide) (cap := 1) (by decide) (by decide) (by decide) (by decide)
  obtain ⟨b2, g2⟩ : ∃ z, z = h1.size := ⟨_, rfl⟩
  rw [← g2] at A2 st2
  have ne_b1_b2 : b1 ≠ b2 := Nat.ne_of_lt (Nat.lt_of_lt_of_le V1.lt (Nat.le_of_eq g2.symm))
  have g_b2 : n0 ≤ b2 := Nat.le_trans f3 (Nat.le_of_eq g2.symm)
  have V2 : Ary Z h2 b2 .int [(.int (0 : Int32))] := Ary.new A2 rfl
  refine Goal.to (B := T2.setTop (mkF m 7 #[.val (.int u0), .val (.int u1), .val (.int u2), .val (.ref b1), .unset, .unset, .unset, .unset, .unset, .unset, .unset, .unset, .unset, .unset, .unset, .unset] [(.ref b2)])) st2 ?_
  refine Goal.to (B := T2.setTop (mkF m 10 #[.val (.int u0), .val (.int u1), .val (.int u2), .val (.ref b1), .val (.ref b2), .unset, .unset, .unset, .unset, .unset, .unset, .unset, .unset, .unset, .unset, .unset] [(.int (1 : Int32))])) (fun tt kk => ?_) ?_
  · show Steps p.tables e below (T2.setTop (mkF m 7 #[.val (.int u0), .val (.int u1), .val (.int u2), .val (.ref b1), .unset, .unset, .unset, .unset, .unset, .unset, .unset, .unset, .unset, .unset, .unset, .unset] [(.ref b2)])) tt
    refine XS.astore X2.here hx rfl (hb hby at_7) rfl rfl (l' := #[.val (.int u0), .val (.int u1), .val (.int u2), .val (.ref b1), .val (.ref b2), .unset, .unset, .unset, .unset, .unset, .unset, .unset, .unset, .unset, .unset, .unset]) rfl ?_
    show Steps p.tables e below (T2.setTop (mkF m 9 #[.val (.int u0), .val (.int u1), .val (.int u2), .val (.ref b1), .val (.ref b2), .unset, .unset, .unset, .unset, .unset, .unset, .unset, .unset, .unset, .unset, .unset] [])) tt
    refine XS.iconst X2.here hx rfl (hb hby at_9) ?_
    exact kk
  have f5 : Ary Z h2 b1 .int [(.int (0 : Int32))] := (V1.ext E2)
  have f6 : n0 ≤ h2.size := (Nat.le_trans f3 E2.1)
  obtain ⟨T4, h4, k4, X4, e4, E4, A4, st4⟩ := newP X2 hx hZ (hw _ (mw 0 rfl)) e2 (g := (mkF m 10 #[.val (.int u0), .val (.int u1), .val (.int u2), .val (.ref b1), .val (.ref b2), .unset, .unset, .unset, .unset, .unset, .unset, .unset, .unset, .unset, .unset, .unset] [(.int (1 : Int32))])) rfl (hb hby at_10) rfl (by decide) (cap := 1) (by decide) (by decide) (by decide) (by decide)
  obtain ⟨b4, g4⟩ : ∃ z, z = h2.size := ⟨_, rfl⟩
  rw [← g4] at A4 st4
  have ne_b1_b4 : b1 ≠ b4 := Nat.ne_of_lt (Nat.lt_of_lt_of_le f5.lt (Nat.le_of_eq g4.symm))
  have ne_b2_b4 : b2 ≠ b4 := Nat.ne_of_lt (Nat.lt_of_lt_of_le V2.lt (Nat.le_of_eq g4.symm))
  have g_b4 : n0 ≤ b4 := Nat.le_trans f6 (Nat.le_of_eq g4.symm)
  have V4 : Ary Z h4 b4 .int [(.int (0 : Int32))] := Ary.new A4 rfl
  refine Goal.to (B := T4.setTop (mkF m 12 #[.val (.int u0), .val (.int u1), .val (.int u2), .val (.ref b1), .val (.ref b2), .unset, .unset, .unset, .unset, .unset, .unset, .unset, .unset, .unset, .unset, .unset] [(.ref b4)])) st4 ?_
  refine Goal.to (B := T4.setTop (mkF m 14 #[.val (.int u0), .val (.int u1), .val (.int u2), .val (.ref b1), .val (.ref b2), .val (.ref b4), .unset, .unset, .unset, .unset, .unset, .unset, .unset, .unset, .unset, .unset] [])) (fun tt kk => ?_) ?_
  · show Steps p.tables e below (T4.setTop (mkF m 12 #[.val (.int u0), .val (.int u1), .val (.int u2), .val (.ref b1), .val (.ref b2), .unset, .unset, .unset, .unset, .unset, .unset, .unset, .unset, .unset, .unset, .unset] [(.ref b4)])) tt
    refine XS.astore X4.here hx rfl (hb hby at_12) rfl rfl (l' := #[.val (.int u0), .val (.int u1), .val (.int u2), .val (.ref b1), .val (.ref b2), .val (.ref b4), .unset, .unset, .unset, .unset, .unset, .unset, .unset, .unset, .unset, .unset]) rfl ?_
    exact kk
  have f8 : Ary Z h4 b1 .int [(.int (0 : Int32))] := (f5.ext E4)
  have f9 : Ary Z h4 b2 .int [(.int (0 : Int32))] := (V2.ext E4)
  have f10 : n0 ≤ h4.size := (Nat.le_trans f6 E4.1)
  obtain ⟨T7, h7, X7, e7, E7, A7, D7, -, st7⟩ := newO X4 hx hZ hown (hw _ (mw 1 rfl)) (hw _ (mw 2 rfl)) (hw _ (mw 3 rfl)) e4 (g := (mkF m 14 #[.val (.int u0), .val (.int u1), .val (.int u2), .val (.ref b1), .val (.ref b2), .val (.ref b4), .unset, .unset, .unset, .unset, .unset, .unset, .unset, .unset, .unset, .unset] [])) rfl (hb hby at_14) (by decide) (by decide)
  obtain ⟨b7, g7⟩ : ∃ z, z = h4.size := ⟨_, rfl⟩
  rw [← g7] at A7 D7 st7
  have ne_b1_b7 : b1 ≠ b7 := Nat.ne_of_lt (Nat.lt_of_lt_of_le f8.lt (Nat.le_of_eq g7.symm))
  have ne_b2_b7 : b2 ≠ b7 := Nat.ne_of_lt (Nat.lt_of_lt_of_le f9.lt (Nat.le_of_eq g7.symm))
  have ne_b4_b7 : b4 ≠ b7 := Nat.ne_of_lt (Nat.lt_of_lt_of_le V4.lt (Nat.le_of_eq g7.symm))
  have g_b7 : n0 ≤ b7 := Nat.le_trans f10 (Nat.le_of_eq g7.symm)
  have F_markInterval_b7 : Fld Z h7 b7 "com/example/tributary/tributary/runtime/Revisits" "markInterval" "J" (.long (0 : Int64)) := D7 (Or.inl (hw _ (mw 11 rfl))) (ty := .long) (by decide)
  have F_markedLeft_b7 : Fld Z h7 b7 "com/example/tributary/tributary/runtime/Revisits" "markedLeft" "Ljava/lang/Object;" .null := D7 (Or.inl (hw _ (mw 22 rfl))) (ty := (.object "java/lang/Object")) (by decide)
  have F_markedRight_b7 : Fld Z h7 b7 "com/example/tributary/tributary/runtime/Revisits" "markedRight" "Ljava/lang/Object;" .null := D7 (Or.inl (hw _ (mw 24 rfl))) (ty := (.object "java/lang/Object")) (by decide)
  have F_sinceMark_b7 : Fld Z h7 b7 "com/example/tributary/tributary/runtime/Revisits" "sinceMark" "J" (.long (0 : Int64)) := D7 (Or.inl (hw _ (mw 26 rfl))) (ty := .long) (by decide)
  refine Goal.to (B := T7.setTop (mkF m 17 #[.val (.int u0), .val (.int u1), .val (.int u2), .val (.ref b1), .val (.ref b2), .val (.ref b4), .unset, .unset, .unset, .unset, .unset, .unset, .unset, .unset, .unset, .unset] [(.ref b7)])) st7 ?_
  refine Goal.to (B := T7.setTop (mkF m 18 #[.val (.int u0), .val (.int u1), .val (.int u2), .val (.ref b1), .val (.ref b2), .val (.ref b4), .unset, .unset, .unset, .unset, .unset, .unset, .unset, .unset, .unset, .unset] [(.ref b7), (.ref b7)])) (fun tt kk => ?_) ?_
  · show Steps p.tables e below (T7.setTop (mkF m 17 #[.val (.int u0), .val (.int u1), .val (.int u2), .val (.ref b1), .val (.ref b2), .val (.ref b4), .unset, .unset, .unset, .unset, .unset, .unset, .unset, .unset, .unset, .unset] [(.ref b7)])) tt
    refine XS.dup X7.here hx rfl (hb hby at_17) rfl rfl ?_
    exact kk
  have f11 : n0 ≤ h7.size := (Nat.le_trans f10 E7.1)
  obtain ⟨_, _, ⟨T12, L12, k12, n12⟩, -, X12, ⟨Lc12, hQ12, l12, y12, z12⟩, st12⟩ := X7.specialBack hx (y := (⟨"com/example/tributary/tributary/runtime/Revisits", "<init>", "()V"⟩ : MethodName)) rfl hown (mvT hZ (hw _ (mw 4 rfl))) (mvT hZ (hw _ (mw 5 rfl))) (mvT hZ (hw _ (mw 6 rfl))) (by decide) (backOf (W := 1) (rmN l Z a0 hw [] b7 h7 n0 f11 A7 F_markedLeft_b7 F_markedRight_b7 F_sinceMark_b7 F_markInterval_b7 g_b7) hZ (hw _ (mw 6 rfl)) (hw _ (mw 3 rfl)) (by decide) (by decide)) (g := (mkF m 18 #[.val (.int u0), .val (.int u1), .val (.int u2), .val (.ref b1), .val (.ref b2), .val (.ref b4), .unset, .unset, .unset, .unset, .unset, .unset, .unset, .unset, .unset, .unset] [(.ref b7), (.ref b7)])) rfl (by rw [hml]; rfl) (Steps.refl _) (a := b7) (argsL := []) (rest := [(.ref b7)]) (lenOf pd_0 rfl) rfl (by show 2 * 0 + _ ≤ _; exact Nat.le_of_eq rfl) (hb hby at_18) (fun _ _ => ⟨rfl, e7, (by decide : 4 + 0 ≤ _), (by decide : 7 + 0 ≤ _)⟩)
  dsimp only [Pt.U, Pt.locs, Pt.cells, Pt.slots] at X12 l12 y12 z12 st12 hQ12
  subst l12 y12 z12
  obtain ⟨rfl, N12q, K12, P12_0, P12_1, P12_2, P12_3⟩ := hQ12
  have N12 := Fr.app N0 N12q
  refine Goal.tr (B := T12.setTop (mkF m 21 #[.val (.int u0), .val (.int u1), .val (.int u2), .val (.ref b1), .val (.ref b2), .val (.ref b4), .unset, .unset, .unset, .unset, .unset, .unset, .unset, .unset, .unset, .unset] [(.ref b7)])) st12 ?_
  refine Goal.to (B := T12.setTop (mkF m 31 #[.val (.int u0), .val (.int u1), .val (.int u2), .val (.ref b1), .val (.ref b2), .val (.ref b4), .val (.ref b7), .unset, .unset, .unset, .unset, .unset, .unset, .unset, .unset, .unset] [(.ref b4), (.ref b2), (.ref b1), (.int u0), (.ref b7)])) (fun tt kk => ?_) ?_
  · show Steps p.tables e below (T12.setTop (mkF m 21 #[.val (.int u0), .val (.int u1), .val (.int u2), .val (.ref b1), .val (.ref b2), .val (.ref b4), .unset, .unset, .unset, .unset, .unset, .unset, .unset, .unset, .unset, .unset] [(.ref b7)])) tt
    refine XS.astore X12.here hx rfl (hb hby at_21) rfl rfl (l' := #[.val (.int u0), .val (.int u1), .val (.int u2), .val (.ref b1), .val (.ref b2), .val (.ref b4), .val (.ref b7), .unset, .unset, .unset, .unset, .unset, .unset, .unset, .unset, .unset]) rfl ?_
    show Steps p.tables e below (T12.setTop (mkF m 23 #[.val (.int u0), .val (.int u1), .val (.int u2), .val (.ref b1), .val (.ref b2), .val (.ref b4), .val (.ref b7), .unset, .unset, .unset, .unset, .unset, .unset, .unset, .unset, .unset] [])) tt
    refine XS.aload X12.here hx rfl (hb hby at_23) rfl rfl ?_
    show Steps p.tables e below (T12.setTop (mkF m 25 #[.val (.int u0), .val (.int u1), .val (.int u2), .val (.ref b1), .val (.ref b2), .val (.ref b4), .val (.ref b7), .unset, .unset, .unset, .unset, .unset, .unset, .unset, .unset, .unset] [(.ref b7)])) tt
    refine XS.iloadN X12.here hx rfl (hb hby at_25) rfl ?_
    show Steps p.tables e below (T12.setTop (mkF m 26 #[.val (.int u0), .val (.int u1), .val (.int u2), .val (.ref b1), .val (.ref b2), .val (.ref b4), .val (.ref b7), .unset, .unset, .unset, .unset, .unset, .unset, .unset, .unset, .unset] [(.int u0), (.ref b7)])) tt
    refine XS.aloadN X12.here hx rfl (hb hby at_26) rfl rfl ?_
    show Steps p.tables e below (T12.setTop (mkF m 27 #[.val (.int u0), .val (.int u1), .val (.int u2), .val (.ref b1), .val (.ref b2), .val (.ref b4), .val (.ref b7), .unset, .unset, .unset, .unset, .unset, .unset, .unset, .unset, .unset] [(.ref b1), (.int u0), (.ref b7)])) tt
    refine XS.aload X12.here hx rfl (hb hby at_27) rfl rfl ?_
    show Steps p.tables e below (T12.setTop (mkF m 29 #[.val (.int u0), .val (.int u1), .val (.int u2), .val (.ref b1), .val (.ref b2), .val (.ref b4), .val (.ref b7), .unset, .unset, .unset, .unset, .unset, .unset, .unset, .unset, .unset] [(.ref b2), (.ref b1), (.int u0), (.ref b7)])) tt
    refine XS.aload X12.here hx rfl (hb hby at_29) rfl rfl ?_
    exact kk
  have f13 : n0 ≤ T12.heap.size := (Nat.le_trans f11 K12.1)
  obtain ⟨_, _, ⟨T14, L14, k14, n14⟩, -, X14, ⟨Lc14, hQ14, l14, y14, z14⟩, st14⟩ := Jvm.LawKit.callS X12 hx (y := (⟨"com/example/tributary/tributary/runtime/RevisitsCopyFromPinLaw", "pick", "(ILjava/lang/Object;Ljava/lang/Object;Ljava/lang/Object;)Ljava/lang/Object;"⟩ : MethodName)) hown (mvT hZ (hw _ (mw 12 rfl))) (mvT hZ (hw _ (mw 13 rfl))) (mvT hZ (hw _ (mw 14 rfl))) (mvT hZ (hw _ (mw 15 rfl))) (by decide) (backOf (W := 1) (rmpk l Z a0 hw [] u0 b1 b2 b4 T12.heap n0 f13 ) hZ (hw _ (mw 15 rfl)) (hw _ (mw 14 rfl)) (by decide) (by decide)) (g := (mkF m 31 #[.val (.int u0), .val (.int u1), .val (.int u2), .val (.ref b1), .val (.ref b2), .val (.ref b4), .val (.ref b7), .unset, .unset, .unset, .unset, .unset, .unset, .unset, .unset, .unset] [(.ref b4), (.ref b2), (.ref b1), (.int u0), (.ref b7)])) rfl (by rw [hml]; rfl) (argsL := [(.int u0), (.ref b1), (.ref b2), (.ref b4)]) (rest := [(.ref b7)]) (lenOf pd_1 rfl) rfl (by show 2 * 0 + _ ≤ _; exact Nat.le_of_eq rfl) (hb hby at_31) (fun _ _ => ⟨rfl, rfl, (by decide : 4 + 0 ≤ _), (by decide : 7 + 0 ≤ _)⟩)
  dsimp only [Pt.U, Pt.locs, Pt.cells, Pt.slots] at X14 l14 y14 z14 st14 hQ14
  subst l14 y14 z14
  obtain ⟨rfl, N14q, e14⟩ := hQ14
  have N14 := Fr.app N12 N14q
  refine Goal.to (B := T14.setTop (mkF m 34 #[.val (.int u0), .val (.int u1), .val (.int u2), .val (.ref b1), .val (.ref b2), .val (.ref b4), .val (.ref b7), .unset, .unset, .unset, .unset, .unset, .unset, .unset, .unset, .unset] [(own_pick u0 (.ref b1) (.ref b2) (.ref b4)), (.ref b7)])) st14 ?_
  refine Goal.to (B := T14.setTop (mkF m 42 #[.val (.int u0), .val (.int u1), .val (.int u2), .val (.ref b1), .val (.ref b2), .val (.ref b4), .val (.ref b7), .unset, .unset, .unset, .unset, .unset, .unset, .unset, .unset, .unset] [(.ref b4), (.ref b2), (.ref b1), (.int (u0 >>> ((2 : Int32) &&& 31))), (own_pick u0 (.ref b1) (.ref b2) (.ref b4)), (.ref b7)])) (fun tt kk => ?_) ?_
  · show Steps p.tables e below (T14.setTop (mkF m 34 #[.val (.int u0), .val (.int u1), .val (.int u2), .val (.ref b1), .val (.ref b2), .val (.ref b4), .val (.ref b7), .unset, .unset, .unset, .unset, .unset, .unset, .unset, .unset, .unset] [(own_pick u0 (.ref b1) (.ref b2) (.ref b4)), (.ref b7)])) tt
    refine XS.iloadN X14.here hx rfl (hb hby at_34) rfl ?_
    show Steps p.tables e below (T14.setTop (mkF m 35 #[.val (.int u0), .val (.int u1), .val (.int u2), .val (.ref b1), .val (.ref b2), .val (.ref b4), .val (.ref b7), .unset, .unset, .unset, .unset, .unset, .unset, .unset, .unset, .unset] [(.int u0), (own_pick u0 (.ref b1) (.ref b2) (.ref b4)), (.ref b7)])) tt
    refine XS.iconst X14.here hx rfl (hb hby at_35) ?_
    show Steps p.tables e below (T14.setTop (mkF m 36 #[.val (.int u0), .val (.int u1), .val (.int u2), .val (.ref b1), .val (.ref b2), .val (.ref b4), .val (.ref b7), .unset, .unset, .unset, .unset, .unset, .unset, .unset, .unset, .unset] [(.int (2 : Int32)), (.int u0), (own_pick u0 (.ref b1) (.ref b2) (.ref b4)), (.ref b7)])) tt
    refine XS.ishr X14.here hx rfl (hb hby at_36) rfl ?_
    show Steps p.tables e below (T14.setTop (mkF m 37 #[.val (.int u0), .val (.int u1), .val (.int u2), .val (.ref b1), .val (.ref b2), .val (.ref b4), .val (.ref b7), .unset, .unset, .unset, .unset, .unset, .unset, .unset, .unset, .unset] [(.int (u0 >>> ((2 : Int32) &&& 31))), (own_pick u0 (.ref b1) (.ref b2) (.ref b4)), (.ref b7)])) tt
    refine XS.aloadN X14.here hx rfl (hb hby at_37) rfl rfl ?_
    show Steps p.tables e below (T14.setTop (mkF m 38 #[.val (.int u0), .val (.int u1), .val (.int u2), .val (.ref b1), .val (.ref b2), .val (.ref b4), .val (.ref b7), .unset, .unset, .unset, .unset, .unset, .unset, .unset, .unset, .unset] [(.ref b1), (.int (u0 >>> ((2 : Int32) &&& 31))), (own_pick u0 (.ref b1) (.ref b2) (.ref b4)), (.ref b7)])) tt
    refine XS.aload X14.here hx rfl (hb hby at_38) rfl rfl ?_
    show Steps p.tables e below (T14.setTop (mkF m 40 #[.val (.int u0), .val (.int u1), .val (.int u2), .val (.ref b1), .val (.ref b2), .val (.ref b4), .val (.ref b7), .unset, .unset, .unset, .unset, .unset, .unset, .unset, .unset, .unset] [(.ref b2), (.ref b1), (.int (u0 >>> ((2 : Int32) &&& 31))), (own_pick u0 (.ref b1) (.ref b2) (.ref b4)), (.ref b7)])) tt
    refine XS.aload X14.here hx rfl (hb hby at_40) rfl rfl ?_
    exact kk
  obtain ⟨_, _, ⟨T15, L15, k15, n15⟩, -, X15, ⟨Lc15, hQ15, l15, y15, z15⟩, st15⟩ := Jvm.LawKit.callS X14 hx (y := (⟨"com/example/tributary/tributary/runtime/RevisitsCopyFromPinLaw", "pick", "(ILjava/lang/Object;Ljava/lang/Object;Ljava/lang/Object;)Ljava/lang/Object;"⟩ : MethodName)) hown (mvT hZ (hw _ (mw 12 rfl))) (mvT hZ (hw _ (mw 13 rfl))) (mvT hZ (hw _ (mw 14 rfl))) (mvT hZ (hw _ (mw 15 rfl))) (by decide) (backOf (W := 2) (rmpk l Z a0 hw [] (u0 >>> ((2 : Int32) &&& 31)) b1 b2 b4 T12.heap n0 f13 ) hZ (hw _ (mw 15 rfl)) (hw _ (mw 14 rfl)) (by decide) (by decide)) (g := (mkF m 42 #[.val (.int u0), .val (.int u1), .val (.int u2), .val (.ref b1), .val (.ref b2), .val (.ref b4), .val (.ref b7), .unset, .unset, .unset, .unset, .unset, .unset, .unset, .unset, .unset] [(.ref b4), (.ref b2), (.ref b1), (.int (u0 >>> ((2 : Int32) &&& 31))), (own_pick u0 (.ref b1) (.ref b2) (.ref b4)), (.ref b7)])) rfl (by rw [hml]; rfl) (argsL := [(.int (u0 >>> ((2 : Int32) &&& 31))), (.ref b1), (.ref b2), (.ref b4)]) (rest := [(own_pick u0 (.ref b1) (.ref b2) (.ref b4)), (.ref b7)]) (lenOf pd_1 rfl) rfl (by show 2 * 0 + _ ≤ _; simp only [List.map_cons, List.map_nil, List.sum_cons, List.sum_nil, catR, catI, catJ, catN, catV (own_pickR u0 b1 b2 b4)] <;> decide) (hb hby at_42) (fun _ _ => ⟨rfl, e14, (by decide : 4 + 0 ≤ _), (by decide : 7 + 0 ≤ _)⟩)
  dsimp only [Pt.U, Pt.locs, Pt.cells, Pt.slots] at X15 l15 y15 z15 st15 hQ15
  subst l15 y15 z15
  obtain ⟨rfl, N15q, e15⟩ := hQ15
  have N15 := Fr.app N14 N15q
  refine Goal.to (B := T15.setTop (mkF m 45 #[.val (.int u0), .val (.int u1), .val (.int u2), .val (.ref b1), .val (.ref b2), .val (.ref b4), .val (.ref b7), .unset, .unset, .unset, .unset, .unset, .unset, .unset, .unset, .unset] [(own_pick (u0 >>> ((2 : Int32) &&& 31)) (.ref b1) (.ref b2) (.ref b4)), (own_pick u0 (.ref b1) (.ref b2) (.ref b4)), (.ref b7)])) st15 ?_
  have f16 : Exa Z T12.heap b7 "com/example/tributary/tributary/runtime/Revisits" := (A7.keep K12)
  obtain ⟨cq17, kq17, q17a, q17b, q17c⟩ := isOf hZ e15 f16
  obtain ⟨_, _, ⟨T17, L17, k17, n17⟩, -, X17, ⟨Lc17, hQ17, l17, y17, z17⟩, st17⟩ := X15.virtualBack hx (y := (⟨"com/example/tributary/tributary/runtime/Revisits", "seenBefore", "(Ljava/lang/Object;Ljava/lang/Object;)Z"⟩ : MethodName)) (z := (⟨"com/example/tributary/tributary/runtime/Revisits", "seenBefore", "(Ljava/lang/Object;Ljava/lang/Object;)Z"⟩ : MethodName)) hown (mvT hZ (hw _ (mw 16 rfl))) (mvT hZ (hw _ (mw 17 rfl))) (notFace_of_selects (args := #[]) (mvT hZ (hw _ (mw 19 rfl)))) (mvT hZ (hw _ (mw 19 rfl))) (mvT hZ (hw _ (mw 18 rfl))) (by decide) (backOf (W := 0) (rmsb l Z a0 hw [] b7 (own_pick u0 (.ref b1) (.ref b2) (.ref b4)) (own_pick (u0 >>> ((2 : Int32) &&& 31)) (.ref b1) (.ref b2) (.ref b4)) .null .null (0 : Int64) (1 : Int64) T12.heap n0 f13 f16 P12_0 P12_1 P12_2 P12_3 g_b7 (own_pickR u0 b1 b2 b4) (own_pickR (u0 >>> ((2 : Int32) &&& 31)) b1 b2 b4) rfl rfl) hZ (hw _ (mw 20 rfl)) (hw _ (mw 3 rfl)) (by decide) (by decide)) q17a q17c (g := (mkF m 45 #[.val (.int u0), .val (.int u1), .val (.int u2), .val (.ref b1), .val (.ref b2), .val (.ref b4), .val (.ref b7), .unset, .unset, .unset, .unset, .unset, .unset, .unset, .unset, .unset] [(own_pick (u0 >>> ((2 : Int32) &&& 31)) (.ref b1) (.ref b2) (.ref b4)), (own_pick u0 (.ref b1) (.ref b2) (.ref b4)), (.ref b7)])) rfl (by rw [hml]; rfl) (Steps.refl _) (argsL := [(own_pick u0 (.ref b1) (.ref b2) (.ref b4)), (own_pick (u0 >>> ((2 : Int32) &&& 31)) (.ref b1) (.ref b2) (.ref b4))]) (rest := []) (lenOf pd_2 rfl) rfl (by show 2 * 0 + _ ≤ _; exact Nat.le_of_eq rfl) (hb hby at_45) (fun _ _ => ⟨rfl, e15, (by decide : 4 + 0 ≤ _), (by decide : 7 + 0 ≤ _)⟩)
  dsimp only [Pt.U, Pt.locs, Pt.cells, Pt.slots] at X17 l17 y17 z17 st17 hQ17
  subst l17 y17 z17
  obtain ⟨nl_17, nr_17, ns_17, ni_17, rfl, N17q, K17, P17_0, P17_1, P17_2, P17_3, pnl_17, pnr_17, qnl_17, qnr_17, qns_17, qni_17⟩ := hQ17
  have N17 := Fr.app N15 N17q
  refine Goal.tr (B := T17.setTop (mkF m 48 #[.val (.int u0), .val (.int u1), .val (.int u2), .val (.ref b1), .val (.ref b2), .val (.ref b4), .val (.ref b7), .unset, .unset, .unset, .unset, .unset, .unset, .unset, .unset, .unset] [(.int (own_B (own_pick u0 (.ref b1) (.ref b2) (.ref b4)) (own_pick (u0 >>> ((2 : Int32) &&& 31)) (.ref b1) (.ref b2) (.ref b4)) .null .null))])) st17 ?_
  refine Goal.to (B := T17.setTop (mkF m 59 #[.val (.int u0), .val (.int u1), .val (.int u2), .val (.ref b1), .val (.ref b2), .val (.ref b4), .val (.ref b7), .unset, .unset, .unset, .unset, .unset, .unset, .unset, .unset, .unset] [(.ref b4), (.ref b2), (.ref b1), (.int (u0 >>> ((4 : Int32) &&& 31))), (.ref b7)])) (fun tt kk => ?_) ?_
  · show Steps p.tables e below (T17.setTop (mkF m 48 #[.val (.int u0), .val (.int u1), .val (.int u2), .val (.ref b1), .val (.ref b2), .val (.ref b4), .val (.ref b7), .unset, .unset, .unset, .unset, .unset, .unset, .unset, .unset, .unset] [(.int (own_B (own_pick u0 (.ref b1) (.ref b2) (.ref b4)) (own_pick (u0 >>> ((2 : Int32) &&& 31)) (.ref b1) (.ref b2) (.ref b4)) .null .null))])) tt
    refine XS.pop X17.here hx rfl (hb hby at_48) rfl rfl ?_
    show Steps p.tables e below (T17.setTop (mkF m 49 #[.val (.int u0), .val (.int u1), .val (.int u2), .val (.ref b1), .val (.ref b2), .val (.ref b4), .val (.ref b7), .unset, .unset, .unset, .unset, .unset, .unset, .unset, .unset, .unset] [])) tt
    refine XS.aload X17.here hx rfl (hb hby at_49) rfl rfl ?_
    show Steps p.tables e below (T17.setTop (mkF m 51 #[.val (.int u0), .val (.int u1), .val (.int u2), .val (.ref b1), .val (.ref b2), .val (.ref b4), .val (.ref b7), .unset, .unset, .unset, .unset, .unset, .unset, .unset, .unset, .unset] [(.ref b7)])) tt
    refine XS.iloadN X17.here hx rfl (hb hby at_51) rfl ?_
    show Steps p.tables e below (T17.setTop (mkF m 52 #[.val (.int u0), .val (.int u1), .val (.int u2), .val (.ref b1), .val (.ref b2), .val (.ref b4), .val (.ref b7), .unset, .unset, .unset, .unset, .unset, .unset, .unset, .unset, .unset] [(.int u0), (.ref b7)])) tt
    refine XS.iconst X17.here hx rfl (hb hby at_52) ?_
    show Steps p.tables e below (T17.setTop (mkF m 53 #[.val (.int u0), .val (.int u1), .val (.int u2), .val (.ref b1), .val (.ref b2), .val (.ref b4), .val (.ref b7), .unset, .unset, .unset, .unset, .unset, .unset, .unset, .unset, .unset] [(.int (4 : Int32)), (.int u0), (.ref b7)])) tt
    refine XS.ishr X17.here hx rfl (hb hby at_53) rfl ?_
    show Steps p.tables e below (T17.setTop (mkF m 54 #[.val (.int u0), .val (.int u1), .val (.int u2), .val (.ref b1), .val (.ref b2), .val (.ref b4), .val (.ref b7), .unset, .unset, .unset, .unset, .unset, .unset, .unset, .unset, .unset] [(.int (u0 >>> ((4 : Int32) &&& 31))), (.ref b7)])) tt
    refine XS.aloadN X17.here hx rfl (hb hby at_54) rfl rfl ?_
    show Steps p.tables e below (T17.setTop (mkF m 55 #[.val (.int u0), .val (.int u1), .val (.int u2), .val (.ref b1), .val (.ref b2), .val (.ref b4), .val (.ref b7), .unset, .unset, .unset, .unset, .unset, .unset, .unset, .unset, .unset] [(.ref b1), (.int (u0 >>> ((4 : Int32) &&& 31))), (.ref b7)])) tt
    refine XS.aload X17.here hx rfl (hb hby at_55) rfl rfl ?_
    show Steps p.tables e below (T17.setTop (mkF m 57 #[.val (.int u0), .val (.int u1), .val (.int u2), .val (.ref b1), .val (.ref b2), .val (.ref b4), .val (.ref b7), .unset, .unset, .unset, .unset, .unset, .unset, .unset, .unset, .unset] [(.ref b2), (.ref b1), (.int (u0 >>> ((4 : Int32) &&& 31))), (.ref b7)])) tt
    refine XS.aload X17.here hx rfl (hb hby at_57) rfl rfl ?_
    exact kk
  have f18 : n0 ≤ T17.heap.size := (Nat.le_trans f13 K17.1)
  obtain ⟨_, _, ⟨T19, L19, k19, n19⟩, -, X19, ⟨Lc19, hQ19, l19, y19, z19⟩, st19⟩ := Jvm.LawKit.callS X17 hx (y := (⟨"com/example/tributary/tributary/runtime/RevisitsCopyFromPinLaw", "pick", "(ILjava/lang/Object;Ljava/lang/Object;Ljava/lang/Object;)Ljava/lang/Object;"⟩ : MethodName)) hown (mvT hZ (hw _ (mw 12 rfl))) (mvT hZ (hw _ (mw 13 rfl))) (mvT hZ (hw _ (mw 14 rfl))) (mvT hZ (hw _ (mw 15 rfl))) (by decide) (backOf (W := 1) (rmpk l Z a0 hw [] (u0 >>> ((4 : Int32) &&& 31)) b1 b2 b4 T17.heap n0 f18 ) hZ (hw _ (mw 15 rfl)) (hw _ (mw 14 rfl)) (by decide) (by decide)) (g := (mkF m 59 #[.val (.int u0), .val (.int u1), .val (.int u2), .val (.ref b1), .val (.ref b2), .val (.ref b4), .val (.ref b7), .unset, .unset, .unset, .unset, .unset, .unset, .unset, .unset, .unset] [(.ref b4), (.ref b2), (.ref b1), (.int (u0 >>> ((4 : Int32) &&& 31))), (.ref b7)])) rfl (by rw [hml]; rfl) (argsL := [(.int (u0 >>> ((4 : Int32) &&& 31))), (.ref b1), (.ref b2), (.ref b4)]) (rest := [(.ref b7)]) (lenOf pd_1 rfl) rfl (by show 2 * 0 + _ ≤ _; exact Nat.le_of_eq rfl) (hb hby at_59) (fun _ _ => ⟨rfl, rfl, (by decide : 4 + 0 ≤ _), (by decide : 7 + 0 ≤ _)⟩)
  dsimp only [Pt.U, Pt.locs, Pt.cells, Pt.slots] at X19 l19 y19 z19 st19 hQ19
  subst l19 y19 z19
  obtain ⟨rfl, N19q, e19⟩ := hQ19
  have N19 := Fr.app N17 N19q
  refine Goal.to (B := T19.setTop (mkF m 62 #[.val (.int u0), .val (.int u1), .val (.int u2), .val (.ref b1), .val (.ref b2), .val (.ref b4), .val (.ref b7), .unset, .unset, .unset, .unset, .unset, .unset, .unset, .unset, .unset] [(own_pick (u0 >>> ((4 : Int32) &&& 31)) (.ref b1) (.ref b2) (.ref b4)), (.ref b7)])) st19 ?_
  refine Goal.to (B := T19.setTop (mkF m 71 #[.val (.int u0), .val (.int u1), .val (.int u2), .val (.ref b1), .val (.ref b2), .val (.ref b4), .val (.ref b7), .unset, .unset, .unset, .unset, .unset, .unset, .unset, .unset, .unset] [(.ref b4), (.ref b2), (.ref b1), (.int (u0 >>> ((6 : Int32) &&& 31))), (own_pick (u0 >>> ((4 : Int32) &&& 31)) (.ref b1) (.ref b2) (.ref b4)), (.ref b7)])) (fun tt kk => ?_) ?_
  · show Steps p.tables e below (T19.setTop (mkF m 62 #[.val (.int u0), .val (.int u1), .val (.int u2), .val (.ref b1), .val (.ref b2), .val (.ref b4), .val (.ref b7), .unset, .unset, .unset, .unset, .unset, .unset, .unset, .unset, .unset] [(own_pick (u0 >>> ((4 : Int32) &&& 31)) (.ref b1) (.ref b2) (.ref b4)), (.ref b7)])) tt
    refine XS.iloadN X19.here hx rfl (hb hby at_62) rfl ?_
    show Steps p.tables e below (T19.setTop (mkF m 63 #[.val (.int u0), .val (.int u1), .val (.int u2), .val (.ref b1), .val (.ref b2), .val (.ref b4), .val (.ref b7), .unset, .unset, .unset, .unset, .unset, .unset, .unset, .unset, .unset] [(.int u0), (own_pick (u0 >>> ((4 : Int32) &&& 31)) (.ref b1) (.ref b2) (.ref b4)), (.ref b7)])) tt
    refine XS.bipush X19.here hx rfl (hb hby at_63) ?_
    show Steps p.tables e below (T19.setTop (mkF m 65 #[.val (.int u0), .val (.int u1), .val (.int u2), .val (.ref b1), .val (.ref b2), .val (.ref b4), .val (.ref b7), .unset, .unset, .unset, .unset, .unset, .unset, .unset, .unset, .unset] [(.int (6 : Int32)), (.int u0), (own_pick (u0 >>> ((4 : Int32) &&& 31)) (.ref b1) (.ref b2) (.ref b4)), (.ref b7)])) tt
    refine XS.ishr X19.here hx rfl (hb hby at_65) rfl ?_
    show Steps p.tables e below (T19.setTop (mkF m 66 #[.val (.int u0), .val (.int u1), .val (.int u2), .val (.ref b1), .val (.ref b2), .val (.ref b4), .val (.ref b7), .unset, .unset, .unset, .unset, .unset, .unset, .unset, .unset, .unset] [(.int (u0 >>> ((6 : Int32) &&& 31))), (own_pick (u0 >>> ((4 : Int32) &&& 31)) (.ref b1) (.ref b2) (.ref b4)), (.ref b7)])) tt
    refine XS.aloadN X19.here hx rfl (hb hby at_66) rfl rfl ?_
    show Steps p.tables e below (T19.setTop (mkF m 67 #[.val (.int u0), .val (.int u1), .val (.int u2), .val (.ref b1), .val (.ref b2), .val (.ref b4), .val (.ref b7), .unset, .unset, .unset, .unset, .unset, .unset, .unset, .unset, .unset] [(.ref b1), (.int (u0 >>> ((6 : Int32) &&& 31))), (own_pick (u0 >>> ((4 : Int32) &&& 31)) (.ref b1) (.ref b2) (.ref b4)), (.ref b7)])) tt
    refine XS.aload X19.here hx rfl (hb hby at_67) rfl rfl ?_
    show Steps p.tables e below (T19.setTop (mkF m 69 #[.val (.int u0), .val (.int u1), .val (.int u2), .val (.ref b1), .val (.ref b2), .val (.ref b4), .val (.ref b7), .unset, .unset, .unset, .unset, .unset, .unset, .unset, .unset, .unset] [(.ref b2), (.ref b1), (.int (u0 >>> ((6 : Int32) &&& 31))), (own_pick (u0 >>> ((4 : Int32) &&& 31)) (.ref b1) (.ref b2) (.ref b4)), (.ref b7)])) tt
    refine XS.aload X19.here hx rfl (hb hby at_69) rfl rfl ?_
    exact kk
  obtain ⟨_, _, ⟨T20, L20, k20, n20⟩, -, X20, ⟨Lc20, hQ20, l20, y20, z20⟩, st20⟩ := Jvm.LawKit.callS X19 hx (y := (⟨"com/example/tributary/tributary/runtime/RevisitsCopyFromPinLaw", "pick", "(ILjava/lang/Object;Ljava/lang/Object;Ljava/lang/Object;)Ljava/lang/Object;"⟩ : MethodName)) hown (mvT hZ (hw _ (mw 12 rfl))) (mvT hZ (hw _ (mw 13 rfl))) (mvT hZ (hw _ (mw 14 rfl))) (mvT hZ (hw _ (mw 15 rfl))) (by decide) (backOf (W := 2) (rmpk l Z a0 hw [] (u0 >>> ((6 : Int32) &&& 31)) b1 b2 b4 T17.heap n0 f18 ) hZ (hw _ (mw 15 rfl)) (hw _ (mw 14 rfl)) (by decide) (by decide)) (g := (mkF m 71 #[.val (.int u0), .val (.int u1), .val (.int u2), .val (.ref b1), .val (.ref b2), .val (.ref b4), .val (.ref b7), .unset, .unset, .unset, .unset, .unset, .unset, .unset, .unset, .unset] [(.ref b4), (.ref b2), (.ref b1), (.int (u0 >>> ((6 : Int32) &&& 31))), (own_pick (u0 >>> ((4 : Int32) &&& 31)) (.ref b1) (.ref b2) (.ref b4)), (.ref b7)])) rfl (by rw [hml]; rfl) (argsL := [(.int (u0 >>> ((6 : Int32) &&& 31))), (.ref b1), (.ref b2), (.ref b4)]) (rest := [(own_pick (u0 >>> ((4 : Int32) &&& 31)) (.ref b1) (.ref b2) (.ref b4)), (.ref b7)]) (lenOf pd_1 rfl) rfl (by show 2 * 0 + _ ≤ _; simp only [List.map_cons, List.map_nil, List.sum_cons, List.sum_nil, catR, catI, catJ, catN, catV (own_pickR (u0 >>> ((4 : Int32) &&& 31)) b1 b2 b4)] <;> decide) (hb hby at_71) (fun _ _ => ⟨rfl, e19, (by decide : 4 + 0 ≤ _), (by decide : 7 + 0 ≤ _)⟩)
  dsimp only [Pt.U, Pt.locs, Pt.cells, Pt.slots] at X20 l20 y20 z20 st20 hQ20
  subst l20 y20 z20
  obtain ⟨rfl, N20q, e20⟩ := hQ20
  have N20 := Fr.app N19 N20q
  refine Goal.to (B := T20.setTop (mkF m 74 #[.val (.int u0), .val (.int u1), .val (.int u2), .val (.ref b1), .val (.ref b2), .val (.ref b4), .val (.ref b7), .unset, .unset, .unset, .unset, .unset, .unset, .unset, .unset, .unset] [(own_pick (u0 >>> ((6 : Int32) &&& 31)) (.ref b1) (.ref b2) (.ref b4)), (own_pick (u0 >>> ((4 : Int32) &&& 31)) (.ref b1) (.ref b2) (.ref b4)), (.ref b7)])) st20 ?_
  have f21 : Exa Z T17.heap b7 "com/example/tributary/tributary/runtime/Revisits" := (f16.keep K17)
  obtain ⟨cq22, kq22, q22a, q22b, q22c⟩ := isOf hZ e20 f21
  obtain ⟨_, _, ⟨T22, L22, k22, n22⟩, -, X22, ⟨Lc22, hQ22, l22, y22, z22⟩, st22⟩ := X20.virtualBack hx (y := (⟨"com/example/tributary/tributary/runtime/Revisits", "seenBefore", "(Ljava/lang/Object;Ljava/lang/Object;)Z"⟩ : MethodName)) (z := (⟨"com/example/tributary/tributary/runtime/Revisits", "seenBefore", "(Ljava/lang/Object;Ljava/lang/Object;)Z"⟩ : MethodName)) hown (mvT hZ (hw _ (mw 16 rfl))) (mvT hZ (hw _ (mw 17 rfl))) (notFace_of_selects (args := #[]) (mvT hZ (hw _ (mw 19 rfl)))) (mvT hZ (hw _ (mw 19 rfl))) (mvT hZ (hw _ (mw 18 rfl))) (by decide) (backOf (W := 0) (rmsb l Z a0 hw [] b7 (own_pick (u0 >>> ((4 : Int32) &&& 31)) (.ref b1) (.ref b2) (.ref b4)) (own_pick (u0 >>> ((6 : Int32) &&& 31)) (.ref b1) (.ref b2) (.ref b4)) nl_17 nr_17 ns_17 ni_17 T17.heap n0 f18 f21 P17_0 P17_1 P17_2 P17_3 g_b7 (own_pickR (u0 >>> ((4 : Int32) &&& 31)) b1 b2 b4) (own_pickR (u0 >>> ((6 : Int32) &&& 31)) b1 b2 b4) pnl_17 pnr_17) hZ (hw _ (mw 20 rfl)) (hw _ (mw 3 rfl)) (by decide) (by decide)) q22a q22c (g := (mkF m 74 #[.val (.int u0), .val (.int u1), .val (.int u2), .val (.ref b1), .val (.ref b2), .val (.ref b4), .val (.ref b7), .unset, .unset, .unset, .unset, .unset, .unset, .unset, .unset, .unset] [(own_pick (u0 >>> ((6 : Int32) &&& 31)) (.ref b1) (.ref b2) (.ref b4)), (own_pick (u0 >>> ((4 : Int32) &&& 31)) (.ref b1) (.ref b2) (.ref b4)), (.ref b7)])) rfl (by rw [hml]; rfl) (Steps.refl _) (argsL := [(own_pick (u0 >>> ((4 : Int32) &&& 31)) (.ref b1) (.ref b2) (.ref b4)), (own_pick (u0 >>> ((6 : Int32) &&& 31)) (.ref b1) (.ref b2) (.ref b4))]) (rest := []) (lenOf pd_2 rfl) rfl (by show 2 * 0 + _ ≤ _; exact Nat.le_of_eq rfl) (hb hby at_74) (fun _ _ => ⟨rfl, e20, (by decide : 4 + 0 ≤ _), (by decide : 7 + 0 ≤ _)⟩)
  dsimp only [Pt.U, Pt.locs, Pt.cells, Pt.slots] at X22 l22 y22 z22 st22 hQ22
  subst l22 y22 z22
  obtain ⟨nl_22, nr_22, ns_22, ni_22, rfl, N22q, K22, P22_0, P22_1, P22_2, P22_3, pnl_22, pnr_22, qnl_22, qnr_22, qns_22, qni_22⟩ := hQ22
  have N22 := Fr.app N20 N22q
  refine Goal.tr (B := T22.setTop (mkF m 77 #[.val (.int u0), .val (.int u1), .val (.int u2), .val (.ref b1), .val (.ref b2), .val (.ref b4), .val (.ref b7), .unset, .unset, .unset, .unset, .unset, .unset, .unset, .unset, .unset] [(.int (own_B (own_pick (u0 >>> ((4 : Int32) &&& 31)) (.ref b1) (.ref b2) (.ref b4)) (own_pick (u0 >>> ((6 : Int32) &&& 31)) (.ref b1) (.ref b2) (.ref b4)) nl_17 nr_17))])) st22 ?_
  refine Goal.to (B := T22.setTop (mkF m 89 #[.val (.int u0), .val (.int u1), .val (.int u2), .val (.ref b1), .val (.ref b2), .val (.ref b4), .val (.ref b7), .unset, .unset, .unset, .unset, .unset, .unset, .unset, .unset, .unset] [(.ref b4), (.ref b2), (.ref b1), (.int (u0 >>> ((8 : Int32) &&& 31))), (.ref b7)])) (fun tt kk => ?_) ?_
  · show Steps p.tables e below (T22.setTop (mkF m 77 #[.val (.int u0), .val (.int u1), .val (.int u2), .val (.ref b1), .val (.ref b2), .val (.ref b4), .val (.ref b7), .unset, .unset, .unset, .unset, .unset, .unset, .unset, .unset, .unset] [(.int (own_B (own_pick (u0 >>> ((4 : Int32) &&& 31)) (.ref b1) (.ref b2) (.ref b4)) (own_pick (u0 >>> ((6 : Int32) &&& 31)) (.ref b1) (.ref b2) (.ref b4)) nl_17 nr_17))])) tt
    refine XS.pop X22.here hx rfl (hb hby at_77) rfl rfl ?_
    show Steps p.tables e below (T22.setTop (mkF m 78 #[.val (.int u0), .val (.int u1), .val (.int u2), .val (.ref b1), .val (.ref b2), .val (.ref b4), .val (.ref b7), .unset, .unset, .unset, .unset, .unset, .unset, .unset, .unset, .unset] [])) tt
    refine XS.aload X22.here hx rfl (hb hby at_78) rfl rfl ?_
    show Steps p.tables e below (T22.setTop (mkF m 80 #[.val (.int u0), .val (.int u1), .val (.int u2), .val (.ref b1), .val (.ref b2), .val (.ref b4), .val (.ref b7), .unset, .unset, .unset, .unset, .unset, .unset, .unset, .unset, .unset] [(.ref b7)])) tt
    refine XS.iloadN X22.here hx rfl (hb hby at_80) rfl ?_
    show Steps p.tables e below (T22.setTop (mkF m 81 #[.val (.int u0), .val (.int u1), .val (.int u2), .val (.ref b1), .val (.ref b2), .val (.ref b4), .val (.ref b7), .unset, .unset, .unset, .unset, .unset, .unset, .unset, .unset, .unset] [(.int u0), (.ref b7)])) tt
    refine XS.bipush X22.here hx rfl (hb hby at_81) ?_
    show Steps p.tables e below (T22.setTop (mkF m 83 #[.val (.int u0), .val (.int u1), .val (.int u2), .val (.ref b1), .val (.ref b2), .val (.ref b4), .val (.ref b7), .unset, .unset, .unset, .unset, .unset, .unset, .unset, .unset, .unset] [(.int (8 : Int32)), (.int u0), (.ref b7)])) tt
    refine XS.ishr X22.here hx rfl (hb hby at_83) rfl ?_
    show Steps p.tables e below (T22.setTop (mkF m 84 #[.val (.int u0), .val (.int u1), .val (.int u2), .val (.ref b1), .val (.ref b2), .val (.ref b4), .val (.ref b7), .unset, .unset, .unset, .unset, .unset, .unset, .unset, .unset, .unset] [(.int (u0 >>> ((8 : Int32) &&& 31))), (.ref b7)])) tt
    refine XS.aloadN X22.here hx rfl (hb hby at_84) rfl rfl ?_
    show Steps p.tables e below (T22.setTop (mkF m 85 #[.val (.int u0), .val (.int u1), .val (.int u2), .val (.ref b1), .val (.ref b2), .val (.ref b4), .val (.ref b7), .unset, .unset, .unset, .unset, .unset, .unset, .unset, .unset, .unset] [(.ref b1), (.int (u0 >>> ((8 : Int32) &&& 31))), (.ref b7)])) tt
    refine XS.aload X22.here hx rfl (hb hby at_85) rfl rfl ?_
    show Steps p.tables e below (T22.setTop (mkF m 87 #[.val (.int u0), .val (.int u1), .val (.int u2), .val (.ref b1), .val (.ref b2), .val (.ref b4), .val (.ref b7), .unset, .unset, .unset, .unset, .unset, .unset, .unset, .unset, .unset] [(.ref b2), (.ref b1), (.int (u0 >>> ((8 : Int32) &&& 31))), (.ref b7)])) tt
    refine XS.aload X22.here hx rfl (hb hby at_87) rfl rfl ?_
    exact kk
  have f23 : n0 ≤ T22.heap.size := (Nat.le_trans f18 K22.1)
  obtain ⟨_, _, ⟨T24, L24, k24, n24⟩, -, X24, ⟨Lc24, hQ24, l24, y24, z24⟩, st24⟩ := Jvm.LawKit.callS X22 hx (y := (⟨"com/example/tributary/tributary/runtime/RevisitsCopyFromPinLaw", "pick", "(ILjava/lang/Object;Ljava/lang/Object;Ljava/lang/Object;)Ljava/lang/Object;"⟩ : MethodName)) hown (mvT hZ (hw _ (mw 12 rfl))) (mvT hZ (hw _ (mw 13 rfl))) (mvT hZ (hw _ (mw 14 rfl))) (mvT hZ (hw _ (mw 15 rfl))) (by decide) (backOf (W := 1) (rmpk l Z a0 hw [] (u0 >>> ((8 : Int32) &&& 31)) b1 b2 b4 T22.heap n0 f23 ) hZ (hw _ (mw 15 rfl)) (hw _ (mw 14 rfl)) (by decide) (by decide)) (g := (mkF m 89 #[.val (.int u0), .val (.int u1), .val (.int u2), .val (.ref b1), .val (.ref b2), .val (.ref b4), .val (.ref b7), .unset, .unset, .unset, .unset, .unset, .unset, .unset, .unset, .unset] [(.ref b4), (.ref b2), (.ref b1), (.int (u0 >>> ((8 : Int32) &&& 31))), (.ref b7)])) rfl (by rw [hml]; rfl) (argsL := [(.int (u0 >>> ((8 : Int32) &&& 31))), (.ref b1), (.ref b2), (.ref b4)]) (rest := [(.ref b7)]) (lenOf pd_1 rfl) rfl (by show 2 * 0 + _ ≤ _; exact Nat.le_of_eq rfl) (hb hby at_89) (fun _ _ => ⟨rfl, rfl, (by decide : 4 + 0 ≤ _), (by decide : 7 + 0 ≤ _)⟩)
  dsimp only [Pt.U, Pt.locs, Pt.cells, Pt.slots] at X24 l24 y24 z24 st24 hQ24
  subst l24 y24 z24
  obtain ⟨rfl, N24q, e24⟩ := hQ24
  have N24 := Fr.app N22 N24q
  refine Goal.to (B := T24.setTop (mkF m 92 #[.val (.int u0), .val (.int u1), .val (.int u2), .val (.ref b1), .val (.ref b2), .val (.ref b4), .val (.ref b7), .unset, .unset, .unset, .unset, .unset, .unset, .unset, .unset, .unset] [(own_pick (u0 >>> ((8 : Int32) &&& 31)) (.ref b1) (.ref b2) (.ref b4)), (.ref b7)])) st24 ?_
  refine Goal.to (B := T24.setTop (mkF m 101 #[.val (.int u0), .val (.int u1), .val (.int u2), .val (.ref b1), .val (.ref b2), .val (.ref b4), .val (.ref b7), .unset, .unset, .unset, .unset, .unset, .unset, .unset, .unset, .unset] [(.ref b4), (.ref b2), (.ref b1), (.int (u0 >>> ((10 : Int32) &&& 31))), (own_pick (u0 >>> ((8 : Int32) &&& 31)) (.ref b1) (.ref b2) (.ref b4)), (.ref b7)])) (fun tt kk => ?_) ?_
  · show Steps p.tables e below (T24.setTop (mkF m 92 #[.val (.int u0), .val (.int u1), .val (.int u2), .val (.ref b1), .val (.ref b2), .val (.ref b4), .val (.ref b7), .unset, .unset, .unset, .unset, .unset, .unset, .unset, .unset, .unset] [(own_pick (u0 >>> ((8 : Int32) &&& 31)) (.ref b1) (.ref b2) (.ref b4)), (.ref b7)])) tt
    refine XS.iloadN X24.here hx rfl (hb hby at_92) rfl ?_
    show Steps p.tables e below (T24.setTop (mkF m 93 #[.val (.int u0), .val (.int u1), .val (.int u2), .val (.ref b1), .val (.ref b2), .val (.ref b4), .val (.ref b7), .unset, .unset, .unset, .unset, .unset, .unset, .unset, .unset, .unset] [(.int u0), (own_pick (u0 >>> ((8 : Int32) &&& 31)) (.ref b1) (.ref b2) (.ref b4)), (.ref b7)])) tt
    refine XS.bipush X24.here hx rfl (hb hby at_93) ?_
    show Steps p.tables e below (T24.setTop (mkF m 95 #[.val (.int u0), .val (.int u1), .val (.int u2), .val (.ref b1), .val (.ref b2), .val (.ref b4), .val (.ref b7), .unset, .unset, .unset, .unset, .unset, .unset, .unset, .unset, .unset] [(.int (10 : Int32)), (.int u0), (own_pick (u0 >>> ((8 : Int32) &&& 31)) (.ref b1) (.ref b2) (.ref b4)), (.ref b7)])) tt
    refine XS.ishr X24.here hx rfl (hb hby at_95) rfl ?_
    show Steps p.tables e below (T24.setTop (mkF m 96 #[.val (.int u0), .val (.int u1), .val (.int u2), .val (.ref b1), .val (.ref b2), .val (.ref b4), .val (.ref b7), .unset, .unset, .unset, .unset, .unset, .unset, .unset, .unset, .unset] [(.int (u0 >>> ((10 : Int32) &&& 31))), (own_pick (u0 >>> ((8 : Int32) &&& 31)) (.ref b1) (.ref b2) (.ref b4)), (.ref b7)])) tt
    refine XS.aloadN X24.here hx rfl (hb hby at_96) rfl rfl ?_
    show Steps p.tables e below (T24.setTop (mkF m 97 #[.val (.int u0), .val (.int u1), .val (.int u2), .val (.ref b1), .val (.ref b2), .val (.ref b4), .val (.ref b7), .unset, .unset, .unset, .unset, .unset, .unset, .unset, .unset, .unset] [(.ref b1), (.int (u0 >>> ((10 : Int32) &&& 31))), (own_pick (u0 >>> ((8 : Int32) &&& 31)) (.ref b1) (.ref b2) (.ref b4)), (.ref b7)])) tt
    refine XS.aload X24.here hx rfl (hb hby at_97) rfl rfl ?_
    show Steps p.tables e below (T24.setTop (mkF m 99 #[.val (.int u0), .val (.int u1), .val (.int u2), .val (.ref b1), .val (.ref b2), .val (.ref b4), .val (.ref b7), .unset, .unset, .unset, .unset, .unset, .unset, .unset, .unset, .unset] [(.ref b2), (.ref b1), (.int (u0 >>> ((10 : Int32) &&& 31))), (own_pick (u0 >>> ((8 : Int32) &&& 31)) (.ref b1) (.ref b2) (.ref b4)), (.ref b7)])) tt
    refine XS.aload X24.here hx rfl (hb hby at_99) rfl rfl ?_
    exact kk
  obtain ⟨_, _, ⟨T25, L25, k25, n25⟩, -, X25, ⟨Lc25, hQ25, l25, y25, z25⟩, st25⟩ := Jvm.LawKit.callS X24 hx (y := (⟨"com/example/tributary/tributary/runtime/RevisitsCopyFromPinLaw", "pick", "(ILjava/lang/Object;Ljava/lang/Object;Ljava/lang/Object;)Ljava/lang/Object;"⟩ : MethodName)) hown (mvT hZ (hw _ (mw 12 rfl))) (mvT hZ (hw _ (mw 13 rfl))) (mvT hZ (hw _ (mw 14 rfl))) (mvT hZ (hw _ (mw 15 rfl))) (by decide) (backOf (W := 2) (rmpk l Z a0 hw [] (u0 >>> ((10 : Int32) &&& 31)) b1 b2 b4 T22.heap n0 f23 ) hZ (hw _ (mw 15 rfl)) (hw _ (mw 14 rfl)) (by decide) (by decide)) (g := (mkF m 101 #[.val (.int u0), .val (.int u1), .val (.int u2), .val (.ref b1), .val (.ref b2), .val (.ref b4), .val (.ref b7), .unset, .unset, .unset, .unset, .unset, .unset, .unset, .unset, .unset] [(.ref b4), (.ref b2), (.ref b1), (.int (u0 >>> ((10 : Int32) &&& 31))), (own_pick (u0 >>> ((8 : Int32) &&& 31)) (.ref b1) (.ref b2) (.ref b4)), (.ref b7)])) rfl (by rw [hml]; rfl) (argsL := [(.int (u0 >>> ((10 : Int32) &&& 31))), (.ref b1), (.ref b2), (.ref b4)]) (rest := [(own_pick (u0 >>> ((8 : Int32) &&& 31)) (.ref b1) (.ref b2) (.ref b4)), (.ref b7)]) (lenOf pd_1 rfl) rfl (by show 2 * 0 + _ ≤ _; simp only [List.map_cons, List.map_nil, List.sum_cons, List.sum_nil, catR, catI, catJ, catN, catV (own_pickR (u0 >>> ((8 : Int32) &&& 31)) b1 b2 b4)] <;> decide) (hb hby at_101) (fun _ _ => ⟨rfl, e24, (by decide : 4 + 0 ≤ _), (by decide : 7 + 0 ≤ _)⟩)
  dsimp only [Pt.U, Pt.locs, Pt.cells, Pt.slots] at X25 l25 y25 z25 st25 hQ25
  subst l25 y25 z25
  obtain ⟨rfl, N25q, e25⟩ := hQ25
  have N25 := Fr.app N24 N25q
  refine Goal.to (B := T25.setTop (mkF m 104 #[.val (.int u0), .val (.int u1), .val (.int u2), .val (.ref b1), .val (.ref b2), .val (.ref b4), .val (.ref b7), .unset, .unset, .unset, .unset, .unset, .unset, .unset, .unset, .unset] [(own_pick (u0 >>> ((10 : Int32) &&& 31)) (.ref b1) (.ref b2) (.ref b4)), (own_pick (u0 >>> ((8 : Int32) &&& 31)) (.ref b1) (.ref b2) (.ref b4)), (.ref b7)])) st25 ?_
  have f26 : Exa Z T22.heap b7 "com/example/tributary/tributary/runtime/Revisits" := (f21.keep K22)
  obtain ⟨cq27, kq27, q27a, q27b, q27c⟩ := isOf hZ e25 f26
  obtain ⟨_, _, ⟨T27, L27, k27, n27⟩, -, X27, ⟨Lc27, hQ27, l27, y27, z27⟩, st27⟩ := X25.virtualBack hx (y := (⟨"com/example/tributary/tributary/runtime/Revisits", "seenBefore", "(Ljava/lang/Object;Ljava/lang/Object;)Z"⟩ : MethodName)) (z := (⟨"com/example/tributary/tributary/runtime/Revisits", "seenBefore", "(Ljava/lang/Object;Ljava/lang/Object;)Z"⟩ : MethodName)) hown (mvT hZ (hw _ (mw 16 rfl))) (mvT hZ (hw _ (mw 17 rfl))) (notFace_of_selects (args := #[]) (mvT hZ (hw _ (mw 19 rfl)))) (mvT hZ (hw _ (mw 19 rfl))) (mvT hZ (hw _ (mw 18 rfl))) (by decide) (backOf (W := 0) (rmsb l Z a0 hw [] b7 (own_pick (u0 >>> ((8 : Int32) &&& 31)) (.ref b1) (.ref b2) (.ref b4)) (own_pick (u0 >>> ((10 : Int32) &&& 31)) (.ref b1) (.ref b2) (.ref b4)) nl_22 nr_22 ns_22 ni_22 T22.heap n0 f23 f26 P22_0 P22_1 P22_2 P22_3 g_b7 (own_pickR (u0 >>> ((8 : Int32) &&& 31)) b1 b2 b4) (own_pickR (u0 >>> ((10 : Int32) &&& 31)) b1 b2 b4) pnl_22 pnr_22) hZ (hw _ (mw 20 rfl)) (hw _ (mw 3 rfl)) (by decide) (by decide)) q27a q27c (g := (mkF m 104 #[.val (.int u0), .val (.int u1), .val (.int u2), .val (.ref b1), .val (.ref b2), .val (.ref b4), .val (.ref b7), .unset, .unset, .unset, .unset, .unset, .unset, .unset, .unset, .unset] [(own_pick (u0 >>> ((10 : Int32) &&& 31)) (.ref b1) (.ref b2) (.ref b4)), (own_pick (u0 >>> ((8 : Int32) &&& 31)) (.ref b1) (.ref b2) (.ref b4)), (.ref b7)])) rfl (by rw [hml]; rfl) (Steps.refl _) (argsL := [(own_pick (u0 >>> ((8 : Int32) &&& 31)) (.ref b1) (.ref b2) (.ref b4)), (own_pick (u0 >>> ((10 : Int32) &&& 31)) (.ref b1) (.ref b2) (.ref b4))]) (rest := []) (lenOf pd_2 rfl) rfl (by show 2 * 0 + _ ≤ _; exact Nat.le_of_eq rfl) (hb hby at_104) (fun _ _ => ⟨rfl, e25, (by decide : 4 + 0 ≤ _), (by decide : 7 + 0 ≤ _)⟩)
  dsimp only [Pt.U, Pt.locs, Pt.cells, Pt.slots] at X27 l27 y27 z27 st27 hQ27
  subst l27 y27 z27
  obtain ⟨nl_27, nr_27, ns_27, ni_27, rfl, N27q, K27, P27_0, P27_1, P27_2, P27_3, pnl_27, pnr_27, qnl_27, qnr_27, qns_27, qni_27⟩ := hQ27
  have N27 := Fr.app N25 N27q
  refine Goal.tr (B := T27.setTop (mkF m 107 #[.val (.int u0), .val (.int u1), .val (.int u2), .val (.ref b1), .val (.ref b2), .val (.ref b4), .val (.ref b7), .unset, .unset, .unset, .unset, .unset, .unset, .unset, .unset, .unset] [(.int (own_B (own_pick (u0 >>> ((8 : Int32) &&& 31)) (.ref b1) (.ref b2) (.ref b4)) (own_pick (u0 >>> ((10 : Int32) &&& 31)) (.ref b1) (.ref b2) (.ref b4)) nl_22 nr_22))])) st27 ?_
  refine Goal.to (B := T27.setTop (mkF m 108 #[.val (.int u0), .val (.int u1), .val (.int u2), .val (.ref b1), .val (.ref b2), .val (.ref b4), .val (.ref b7), .unset, .unset, .unset, .unset, .unset, .unset, .unset, .unset, .unset] [])) (fun tt kk => ?_) ?_
  · show Steps p.tables e below (T27.setTop (mkF m 107 #[.val (.int u0), .val (.int u1), .val (.int u2), .val (.ref b1), .val (.ref b2), .val (.ref b4), .val (.ref b7), .unset, .unset, .unset, .unset, .unset, .unset, .unset, .unset, .unset] [(.int (own_B (own_pick (u0 >>> ((8 : Int32) &&& 31)) (.ref b1) (.ref b2) (.ref b4)) (own_pick (u0 >>> ((10 : Int32) &&& 31)) (.ref b1) (.ref b2) (.ref b4)) nl_22 nr_22))])) tt
    refine XS.pop X27.here hx rfl (hb hby at_107) rfl rfl ?_
    exact kk
  have f29 : Ary Z T27.heap b1 .int [(.int (0 : Int32))] := (((((f8.ext E7).keep K12 (ninS ne_b1_b7 nin0)).keep K17 (ninS ne_b1_b7 nin0)).keep K22 (ninS ne_b1_b7 nin0)).keep K27 (ninS ne_b1_b7 nin0))
  have f30 : Ary Z T27.heap b2 .int [(.int (0 : Int32))] := (((((f9.ext E7).keep K12 (ninS ne_b2_b7 nin0)).keep K17 (ninS ne_b2_b7 nin0)).keep K22 (ninS ne_b2_b7 nin0)).keep K27 (ninS ne_b2_b7 nin0))
  have f31 : Ary Z T27.heap b4 .int [(.int (0 : Int32))] := (((((V4.ext E7).keep K12 (ninS ne_b4_b7 nin0)).keep K17 (ninS ne_b4_b7 nin0)).keep K22 (ninS ne_b4_b7 nin0)).keep K27 (ninS ne_b4_b7 nin0))
  have f32 : Exa Z T27.heap b7 "com/example/tributary/tributary/runtime/Revisits" := (f26.keep K27)
  have f33 : n0 ≤ T27.heap.size := (Nat.le_trans f23 K27.1)
  obtain ⟨T28, h28, X28, e28, E28, A28, D28, -, st28⟩ := newO X27 hx hZ hown (hw _ (mw 1 rfl)) (hw _ (mw 2 rfl)) (hw _ (mw 3 rfl)) rfl (g := (mkF m 108 #[.val (.int u0), .val (.int u1), .val (.int u2), .val (.ref b1), .val (.ref b2), .val (.ref b4), .val (.ref b7), .unset, .unset, .unset, .unset, .unset, .unset, .unset, .unset, .unset] [])) rfl (hb hby at_108) (by decide) (by decide)
  obtain ⟨b28, g28⟩ : ∃ z, z = T27.heap.size := ⟨_, rfl⟩
  rw [← g28] at A28 D28 st28
  have ne_b1_b28 : b1 ≠ b28 := Nat.ne_of_lt (Nat.lt_of_lt_of_le f29.lt (Nat.le_of_eq g28.symm))
  have ne_b2_b28 : b2 ≠ b28 := Nat.ne_of_lt (Nat.lt_of_lt_of_le f30.lt (Nat.le_of_eq g28.symm))
  have ne_b4_b28 : b4 ≠ b28 := Nat.ne_of_lt (Nat.lt_of_lt_of_le f31.lt (Nat.le_of_eq g28.symm))
  have ne_b7_b28 : b7 ≠ b28 := Nat.ne_of_lt (Nat.lt_of_lt_of_le f32.lt (Nat.le_of_eq g28.symm))
  have g_b28 : n0 ≤ b28 := Nat.le_trans f33 (Nat.le_of_eq g28.symm)
  have F_markInterval_b28 : Fld Z h28 b28 "com/example/tributary/tributary/runtime/Revisits" "markInterval" "J" (.long (0 : Int64)) := D28 (Or.inl (hw _ (mw 11 rfl))) (ty := .long) (by decide)
  have F_markedLeft_b28 : Fld Z h28 b28 "com/example/tributary/tributary/runtime/Revisits" "markedLeft" "Ljava/lang/Object;" .null := D28 (Or.inl (hw _ (mw 22 rfl))) (ty := (.object "java/lang/Object")) (by decide)
  have F_markedRight_b28 : Fld Z h28 b28 "com/example/tributary/tributary/runtime/Revisits" "markedRight" "Ljava/lang/Object;" .null := D28 (Or.inl (hw _ (mw 24 rfl))) (ty := (.object "java/lang/Object")) (by decide)
  have F_sinceMark_b28 : Fld Z h28 b28 "com/example/tributary/tributary/runtime/Revisits" "sinceMark" "J" (.long (0 : Int64)) := D28 (Or.inl (hw _ (mw 26 rfl))) (ty := .long) (by decide)
  refine Goal.to (B := T28.setTop (mkF m 111 #[.val (.int u0), .val (.int u1), .val (.int u2), .val (.ref b1), .val (.ref b2), .val (.ref b4), .val (.ref b7), .unset, .unset, .unset, .unset, .unset, .unset, .unset, .unset, .unset] [(.ref b28)])) st28 ?_
  refine Goal.to (B := T28.setTop (mkF m 112 #[.val (.int u0), .val (.int u1), .val (.int u2), .val (.ref b1), .val (.ref b2), .val (.ref b4), .val (.ref b7), .unset, .unset, .unset, .unset, .unset, .unset, .unset, .unset, .unset] [(.ref b28), (.ref b28)])) (fun tt kk => ?_) ?_
  · show Steps p.tables e below (T28.setTop (mkF m 111 #[.val (.int u0), .val (.int u1), .val (.int u2), .val (.ref b1), .val (.ref b2), .val (.ref b4), .val (.ref b7), .unset, .unset, .unset, .unset, .unset, .unset, .unset, .unset, .unset] [(.ref b28)])) tt
    refine XS.dup X28.here hx rfl (hb hby at_111) rfl rfl ?_
    exact kk
  have f34 : n0 ≤ h28.size := (Nat.le_trans f33 E28.1)
  obtain ⟨_, _, ⟨T35, L35, k35, n35⟩, -, X35, ⟨Lc35, hQ35, l35, y35, z35⟩, st35⟩ := X28.specialBack hx (y := (⟨"com/example/tributary/tributary/runtime/Revisits", "<init>", "()V"⟩ : MethodName)) rfl hown (mvT hZ (hw _ (mw 4 rfl))) (mvT hZ (hw _ (mw 5 rfl))) (mvT hZ (hw _ (mw 6 rfl))) (by decide) (backOf (W := 1) (rmN l Z a0 hw [] b28 h28 n0 f34 A28 F_markedLeft_b28 F_markedRight_b28 F_sinceMark_b28 F_markInterval_b28 g_b28) hZ (hw _ (mw 6 rfl)) (hw _ (mw 3 rfl)) (by decide) (by decide)) (g := (mkF m 112 #[.val (.int u0), .val (.int u1), .val (.int u2), .val (.ref b1), .val (.ref b2), .val (.ref b4), .val (.ref b7), .unset, .unset, .unset, .unset, .unset, .unset, .unset, .unset, .unset] [(.ref b28), (.ref b28)])) rfl (by rw [hml]; rfl) (Steps.refl _) (a := b28) (argsL := []) (rest := [(.ref b28)]) (lenOf pd_0 rfl) rfl (by show 2 * 0 + _ ≤ _; exact Nat.le_of_eq rfl) (hb hby at_112) (fun _ _ => ⟨rfl, e28, (by decide : 5 + 0 ≤ _), (by decide : 11 + 0 ≤ _)⟩)
  dsimp only [Pt.U, Pt.locs, Pt.cells, Pt.slots] at X35 l35 y35 z35 st35 hQ35
  subst l35 y35 z35
  obtain ⟨rfl, N35q, K35, P35_0, P35_1, P35_2, P35_3⟩ := hQ35
  have N35 := Fr.app N27 N35q
  refine Goal.tr (B := T35.setTop (mkF m 115 #[.val (.int u0), .val (.int u1), .val (.int u2), .val (.ref b1), .val (.ref b2), .val (.ref b4), .val (.ref b7), .unset, .unset, .unset, .unset, .unset, .unset, .unset, .unset, .unset] [(.ref b28)])) st35 ?_
  refine Goal.to (B := T35.setTop (mkF m 125 #[.val (.int u0), .val (.int u1), .val (.int u2), .val (.ref b1), .val (.ref b2), .val (.ref b4), .val (.ref b7), .val (.ref b28), .unset, .unset, .unset, .unset, .unset, .unset, .unset, .unset] [(.ref b4), (.ref b2), (.ref b1), (.int u1), (.ref b28)])) (fun tt kk => ?_) ?_
  · show Steps p.tables e below (T35.setTop (mkF m 115 #[.val (.int u0), .val (.int u1), .val (.int u2), .val (.ref b1), .val (.ref b2), .val (.ref b4), .val (.ref b7), .unset, .unset, .unset, .unset, .unset, .unset, .unset, .unset, .unset] [(.ref b28)])) tt
    refine XS.astore X35.here hx rfl (hb hby at_115) rfl rfl (l' := #[.val (.int u0), .val (.int u1), .val (.int u2), .val (.ref b1), .val (.ref b2), .val (.ref b4), .val (.ref b7), .val (.ref b28), .unset, .unset, .unset, .unset, .unset, .unset, .unset, .unset]) rfl ?_
    show Steps p.tables e below (T35.setTop (mkF m 117 #[.val (.int u0), .val (.int u1), .val (.int u2), .val (.ref b1), .val (.ref b2), .val (.ref b4), .val (.ref b7), .val (.ref b28), .unset, .unset, .unset, .unset, .unset, .unset, .unset, .unset] [])) tt
    refine XS.aload X35.here hx rfl (hb hby at_117) rfl rfl ?_
    show Steps p.tables e below (T35.setTop (mkF m 119 #[.val (.int u0), .val (.int u1), .val (.int u2), .val (.ref b1), .val (.ref b2), .val (.ref b4), .val (.ref b7), .val (.ref b28), .unset, .unset, .unset, .unset, .unset, .unset, .unset, .unset] [(.ref b28)])) tt
    refine XS.iloadN X35.here hx rfl (hb hby at_119) rfl ?_
    show Steps p.tables e below (T35.setTop (mkF m 120 #[.val (.int u0), .val (.int u1), .val (.int u2), .val (.ref b1), .val (.ref b2), .val (.ref b4), .val (.ref b7), .val (.ref b28), .unset, .unset, .unset, .unset, .unset, .unset, .unset, .unset] [(.int u1), (.ref b28)])) tt
    refine XS.aloadN X35.here hx rfl (hb hby at_120) rfl rfl ?_
    show Steps p.tables e below (T35.setTop (mkF m 121 #[.val (.int u0), .val (.int u1), .val (.int u2), .val (.ref b1), .val (.ref b2), .val (.ref b4), .val (.ref b7), .val (.ref b28), .unset, .unset, .unset, .unset, .unset, .unset, .unset, .unset] [(.ref b1), (.int u1), (.ref b28)])) tt
    refine XS.aload X35.here hx rfl (hb hby at_121) rfl rfl ?_
    show Steps p.tables e below (T35.setTop (mkF m 123 #[.val (.int u0), .val (.int u1), .val (.int u2), .val (.ref b1), .val (.ref b2), .val (.ref b4), .val (.ref b7), .val (.ref b28), .unset, .unset, .unset, .unset, .unset, .unset, .unset, .unset] [(.ref b2), (.ref b1), (.int u1), (.ref b28)])) tt
    refine XS.aload X35.here hx rfl (hb hby at_123) rfl rfl ?_
    exact kk
  have f36 : n0 ≤ T35.heap.size := (Nat.le_trans f34 K35.1)
  obtain ⟨_, _, ⟨T37, L37, k37, n37⟩, -, X37, ⟨Lc37, hQ37, l37, y37, z37⟩, st37⟩ := Jvm.LawKit.callS X35 hx (y := (⟨"com/example/tributary/tributary/runtime/RevisitsCopyFromPinLaw", "pick", "(ILjava/lang/Object;Ljava/lang/Object;Ljava/lang/Object;)Ljava/lang/Object;"⟩ : MethodName)) hown (mvT hZ (hw _ (mw 12 rfl))) (mvT hZ (hw _ (mw 13 rfl))) (mvT hZ (hw _ (mw 14 rfl))) (mvT hZ (hw _ (mw 15 rfl))) (by decide) (backOf (W := 1) (rmpk l Z a0 hw [] u1 b1 b2 b4 T35.heap n0 f36 ) hZ (hw _ (mw 15 rfl)) (hw _ (mw 14 rfl)) (by decide) (by decide)) (g := (mkF m 125 #[.val (.int u0), .val (.int u1), .val (.int u2), .val (.ref b1), .val (.ref b2), .val (.ref b4), .val (.ref b7), .val (.ref b28), .unset, .unset, .unset, .unset, .unset, .unset, .unset, .unset] [(.ref b4), (.ref b2), (.ref b1), (.int u1), (.ref b28)])) rfl (by rw [hml]; rfl) (argsL := [(.int u1), (.ref b1), (.ref b2), (.ref b4)]) (rest := [(.ref b28)]) (lenOf pd_1 rfl) rfl (by show 2 * 0 + _ ≤ _; exact Nat.le_of_eq rfl) (hb hby at_125) (fun _ _ => ⟨rfl, rfl, (by decide : 5 + 0 ≤ _), (by decide : 11 + 0 ≤ _)⟩)
  dsimp only [Pt.U, Pt.locs, Pt.cells, Pt.slots] at X37 l37 y37 z37 st37 hQ37
  subst l37 y37 z37
  obtain ⟨rfl, N37q, e37⟩ := hQ37
  have N37 := Fr.app N35 N37q
  refine Goal.to (B := T37.setTop (mkF m 128 #[.val (.int u0), .val (.int u1), .val (.int u2), .val (.ref b1), .val (.ref b2), .val (.ref b4), .val (.ref b7), .val (.ref b28), .unset, .unset, .unset, .unset, .unset, .unset, .unset, .unset] [(own_pick u1 (.ref b1) (.ref b2) (.ref b4)), (.ref b28)])) st37 ?_
  refine Goal.to (B := T37.setTop (mkF m 136 #[.val (.int u0), .val (.int u1), .val (.int u2), .val (.ref b1), .val (.ref b2), .val (.ref b4), .val (.ref b7), .val (.ref b28), .unset, .unset, .unset, .unset, .unset, .unset, .unset, .unset] [(.ref b4), (.ref b2), (.ref b1), (.int (u1 >>> ((2 : Int32) &&& 31))), (own_pick u1 (.ref b1) (.ref b2) (.ref b4)), (.ref b28)])) (fun tt kk => ?_) ?_
  · show Steps p.tables e below (T37.setTop (mkF m 128 #[.val (.int u0), .val (.int u1), .val (.int u2), .val (.ref b1), .val (.ref b2), .val (.ref b4), .val (.ref b7), .val (.ref b28), .unset, .unset, .unset, .unset, .unset, .unset, .unset, .unset] [(own_pick u1 (.ref b1) (.ref b2) (.ref b4)), (.ref b28)])) tt
    refine XS.iloadN X37.here hx rfl (hb hby at_128) rfl ?_
    show Steps p.tables e below (T37.setTop (mkF m 129 #[.val (.int u0), .val (.int u1), .val (.int u2), .val (.ref b1), .val (.ref b2), .val (.ref b4), .val (.ref b7), .val (.ref b28), .unset, .unset, .unset, .unset, .unset, .unset, .unset, .unset] [(.int u1), (own_pick u1 (.ref b1) (.ref b2) (.ref b4)), (.ref b28)])) tt
    refine XS.iconst X37.here hx rfl (hb hby at_129) ?_
    show Steps p.tables e below (T37.setTop (mkF m 130 #[.val (.int u0), .val (.int u1), .val (.int u2), .val (.ref b1), .val (.ref b2), .val (.ref b4), .val (.ref b7), .val (.ref b28), .unset, .unset, .unset, .unset, .unset, .unset, .unset, .unset] [(.int (2 : Int32)), (.int u1), (own_pick u1 (.ref b1) (.ref b2) (.ref b4)), (.ref b28)])) tt
    refine XS.ishr X37.here hx rfl (hb hby at_130) rfl ?_
    show Steps p.tables e below (T37.setTop (mkF m 131 #[.val (.int u0), .val (.int u1), .val (.int u2), .val (.ref b1), .val (.ref b2), .val (.ref b4), .val (.ref b7), .val (.ref b28), .unset, .unset, .unset, .unset, .unset, .unset, .unset, .unset] [(.int (u1 >>> ((2 : Int32) &&& 31))), (own_pick u1 (.ref b1) (.ref b2) (.ref b4)), (.ref b28)])) tt
    refine XS.aloadN X37.here hx rfl (hb hby at_131) rfl rfl ?_
    show Steps p.tables e below (T37.setTop (mkF m 132 #[.val (.int u0), .val (.int u1), .val (.int u2), .val (.ref b1), .val (.ref b2), .val (.ref b4), .val (.ref b7), .val (.ref b28), .unset, .unset, .unset, .unset, .unset, .unset, .unset, .unset] [(.ref b1), (.int (u1 >>> ((2 : Int32) &&& 31))), (own_pick u1 (.ref b1) (.ref b2) (.ref b4)), (.ref b28)])) tt
    refine XS.aload X37.here hx rfl (hb hby at_132) rfl rfl ?_
    show Steps p.tables e below (T37.setTop (mkF m 134 #[.val (.int u0), .val (.int u1), .val (.int u2), .val (.ref b1), .val (.ref b2), .val (.ref b4), .val (.ref b7), .val (.ref b28), .unset, .unset, .unset, .unset, .unset, .unset, .unset, .unset] [(.ref b2), (.ref b1), (.int (u1 >>> ((2 : Int32) &&& 31))), (own_pick u1 (.ref b1) (.ref b2) (.ref b4)), (.ref b28)])) tt
    refine XS.aload X37.here hx rfl (hb hby at_134) rfl rfl ?_
    exact kk
  obtain ⟨_, _, ⟨T38, L38, k38, n38⟩, -, X38, ⟨Lc38, hQ38, l38, y38, z38⟩, st38⟩ := Jvm.LawKit.callS X37 hx (y := (⟨"com/example/tributary/tributary/runtime/RevisitsCopyFromPinLaw", "pick", "(ILjava/lang/Object;Ljava/lang/Object;Ljava/lang/Object;)Ljava/lang/Object;"⟩ : MethodName)) hown (mvT hZ (hw _ (mw 12 rfl))) (mvT hZ (hw _ (mw 13 rfl))) (mvT hZ (hw _ (mw 14 rfl))) (mvT hZ (hw _ (mw 15 rfl))) (by decide) (backOf (W := 2) (rmpk l Z a0 hw [] (u1 >>> ((2 : Int32) &&& 31)) b1 b2 b4 T35.heap n0 f36 ) hZ (hw _ (mw 15 rfl)) (hw _ (mw 14 rfl)) (by decide) (by decide)) (g := (mkF m 136 #[.val (.int u0), .val (.int u1), .val (.int u2), .val (.ref b1), .val (.ref b2), .val (.ref b4), .val (.ref b7), .val (.ref b28), .unset, .unset, .unset, .unset, .unset, .unset, .unset, .unset] [(.ref b4), (.ref b2), (.ref b1), (.int (u1 >>> ((2 : Int32) &&& 31))), (own_pick u1 (.ref b1) (.ref b2) (.ref b4)), (.ref b28)])) rfl (by rw [hml]; rfl) (argsL := [(.int (u1 >>> ((2 : Int32) &&& 31))), (.ref b1), (.ref b2), (.ref b4)]) (rest := [(own_pick u1 (.ref b1) (.ref b2) (.ref b4)), (.ref b28)]) (lenOf pd_1 rfl) rfl (by show 2 * 0 + _ ≤ _; simp only [List.map_cons, List.map_nil, List.sum_cons, List.sum_nil, catR, catI, catJ, catN, catV (own_pickR u1 b1 b2 b4)] <;> decide) (hb hby at_136) (fun _ _ => ⟨rfl, e37, (by decide : 5 + 0 ≤ _), (by decide : 11 + 0 ≤ _)⟩)
  dsimp only [Pt.U, Pt.locs, Pt.cells, Pt.slots] at X38 l38 y38 z38 st38 hQ38
  subst l38 y38 z38
  obtain ⟨rfl, N38q, e38⟩ := hQ38
  have N38 := Fr.app N37 N38q
  refine Goal.to (B := T38.setTop (mkF m 139 #[.val (.int u0), .val (.int u1), .val (.int u2), .val (.ref b1), .val (.ref b2), .val (.ref b4), .val (.ref b7), .val (.ref b28), .unset, .unset, .unset, .unset, .unset, .unset, .unset, .unset] [(own_pick (u1 >>> ((2 : Int32) &&& 31)) (.ref b1) (.ref b2) (.ref b4)), (own_pick u1 (.ref b1) (.ref b2) (.ref b4)), (.ref b28)])) st38 ?_
  have f39 : Exa Z T35.heap b28 "com/example/tributary/tributary/runtime/Revisits" := (A28.keep K35)
  obtain ⟨cq40, kq40, q40a, q40b, q40c⟩ := isOf hZ e38 f39
  obtain ⟨_, _, ⟨T40, L40, k40, n40⟩, -, X40, ⟨Lc40, hQ40, l40, y40, z40⟩, st40⟩ := X38.virtualBack hx (y := (⟨"com/example/tributary/tributary/runtime/Revisits", "seenBefore", "(Ljava/lang/Object;Ljava/lang/Object;)Z"⟩ : MethodName)) (z := (⟨"com/example/tributary/tributary/runtime/Revisits", "seenBefore", "(Ljava/lang/Object;Ljava/lang/Object;)Z"⟩ : MethodName)) hown (mvT hZ (hw _ (mw 16 rfl))) (mvT hZ (hw _ (mw 17 rfl))) (notFace_of_selects (args := #[]) (mvT hZ (hw _ (mw 19 rfl)))) (mvT hZ (hw _ (mw 19 rfl))) (mvT hZ (hw _ (mw 18 rfl))) (by decide) (backOf (W := 0) (rmsb l Z a0 hw [] b28 (own_pick u1 (.ref b1) (.ref b2) (.ref b4)) (own_pick (u1 >>> ((2 : Int32) &&& 31)) (.ref b1) (.ref b2) (.ref b4)) .null .null (0 : Int64) (1 : Int64) T35.heap n0 f36 f39 P35_0 P35_1 P35_2 P35_3 g_b28 (own_pickR u1 b1 b2 b4) (own_pickR (u1 >>> ((2 : Int32) &&& 31)) b1 b2 b4) rfl rfl) hZ (hw _ (mw 20 rfl)) (hw _ (mw 3 rfl)) (by decide) (by decide)) q40a q40c (g := (mkF m 139 #[.val (.int u0), .val (.int u1), .val (.int u2), .val (.ref b1), .val (.ref b2), .val (.ref b4), .val (.ref b7), .val (.ref b28), .unset, .unset, .unset, .unset, .unset, .unset, .unset, .unset] [(own_pick (u1 >>> ((2 : Int32) &&& 31)) (.ref b1) (.ref b2) (.ref b4)), (own_pick u1 (.ref b1) (.ref b2) (.ref b4)), (.ref b28)])) rfl (by rw [hml]; rfl) (Steps.refl _) (argsL := [(own_pick u1 (.ref b1) (.ref b2) (.ref b4)), (own_pick (u1 >>> ((2 : Int32) &&& 31)) (.ref b1) (.ref b2) (.ref b4))]) (rest := []) (lenOf pd_2 rfl) rfl (by show 2 * 0 + _ ≤ _; exact Nat.le_of_eq rfl) (hb hby at_139) (fun _ _ => ⟨rfl, e38, (by decide : 5 + 0 ≤ _), (by decide : 11 + 0 ≤ _)⟩)
  dsimp only [Pt.U, Pt.locs, Pt.cells, Pt.slots] at X40 l40 y40 z40 st40 hQ40
  subst l40 y40 z40
  obtain ⟨nl_40, nr_40, ns_40, ni_40, rfl, N40q, K40, P40_0, P40_1, P40_2, P40_3, pnl_40, pnr_40, qnl_40, qnr_40, qns_40, qni_40⟩ := hQ40
  have N40 := Fr.app N38 N40q
  refine Goal.tr (B := T40.setTop (mkF m 142 #[.val (.int u0), .val (.int u1), .val (.int u2), .val (.ref b1), .val (.ref b2), .val (.ref b4), .val (.ref b7), .val (.ref b28), .unset, .unset, .unset, .unset, .unset, .unset, .unset, .unset] [(.int (own_B (own_pick u1 (.ref b1) (.ref b2) (.ref b4)) (own_pick (u1 >>> ((2 : Int32) &&& 31)) (.ref b1) (.ref b2) (.ref b4)) .null .null))])) st40 ?_
  refine Goal.to (B := T40.setTop (mkF m 147 #[.val (.int u0), .val (.int u1), .val (.int u2), .val (.ref b1), .val (.ref b2), .val (.ref b4), .val (.ref b7), .val (.ref b28), .unset, .unset, .unset, .unset, .unset, .unset, .unset, .unset] [(.ref b7), (.ref b28)])) (fun tt kk => ?_) ?_
  · show Steps p.tables e below (T40.setTop (mkF m 142 #[.val (.int u0), .val (.int u1), .val (.int u2), .val (.ref b1), .val (.ref b2), .val (.ref b4), .val (.ref b7), .val (.ref b28), .unset, .unset, .unset, .unset, .unset, .unset, .unset, .unset] [(.int (own_B (own_pick u1 (.ref b1) (.ref b2) (.ref b4)) (own_pick (u1 >>> ((2 : Int32) &&& 31)) (.ref b1) (.ref b2) (.ref b4)) .null .null))])) tt
    refine XS.pop X40.here hx rfl (hb hby at_142) rfl rfl ?_
    show Steps p.tables e below (T40.setTop (mkF m 143 #[.val (.int u0), .val (.int u1), .val (.int u2), .val (.ref b1), .val (.ref b2), .val (.ref b4), .val (.ref b7), .val (.ref b28), .unset, .unset, .unset, .unset, .unset, .unset, .unset, .unset] [])) tt
    refine XS.aload X40.here hx rfl (hb hby at_143) rfl rfl ?_
    show Steps p.tables e below (T40.setTop (mkF m 145 #[.val (.int u0), .val (.int u1), .val (.int u2), .val (.ref b1), .val (.ref b2), .val (.ref b4), .val (.ref b7), .val (.ref b28), .unset, .unset, .unset, .unset, .unset, .unset, .unset, .unset] [(.ref b28)])) tt
    refine XS.aload X40.here hx rfl (hb hby at_145) rfl rfl ?_
    exact kk
  have f41 : Exa Z T40.heap b28 "com/example/tributary/tributary/runtime/Revisits" := (f39.keep K40)
  have f42 : Fld Z T40.heap b7 "com/example/tributary/tributary/runtime/Revisits" "markedLeft" "Ljava/lang/Object;" nl_27 := (((P27_0.ext E28).keep K35 (ninS ne_b7_b28 nin0)).keep K40 (ninS ne_b7_b28 nin0))
  have f43 : Fld Z T40.heap b7 "com/example/tributary/tributary/runtime/Revisits" "markedRight" "Ljava/lang/Object;" nr_27 := (((P27_1.ext E28).keep K35 (ninS ne_b7_b28 nin0)).keep K40 (ninS ne_b7_b28 nin0))
  have f44 : Fld Z T40.heap b7 "com/example/tributary/tributary/runtime/Revisits" "sinceMark" "J" (.long ns_27) := (((P27_2.ext E28).keep K35 (ninS ne_b7_b28 nin0)).keep K40 (ninS ne_b7_b28 nin0))
  have f45 : Fld Z T40.heap b7 "com/example/tributary/tributary/runtime/Revisits" "markInterval" "J" (.long ni_27) := (((P27_3.ext E28).keep K35 (ninS ne_b7_b28 nin0)).keep K40 (ninS ne_b7_b28 nin0))
  have f46 : n0 ≤ T40.heap.size := (Nat.le_trans f36 K40.1)
  obtain ⟨cq47, kq47, q47a, q47b, q47c⟩ := isOf hZ rfl f41
  obtain ⟨_, _, ⟨T47, L47, k47, n47⟩, -, X47, ⟨Lc47, hQ47, l47, y47, z47⟩, st47⟩ := X40.virtualBack hx (y := (⟨"com/example/tributary/tributary/runtime/Revisits", "copyFrom", "(Lcom/example/tributary/tributary/runtime/Revisits;)V"⟩ : MethodName)) (z := (⟨"com/example/tributary/tributary/runtime/Revisits", "copyFrom", "(Lcom/example/tributary/tributary/runtime/Revisits;)V"⟩ : MethodName)) hown (mvT hZ (hw _ (mw 28 rfl))) (mvT hZ (hw _ (mw 29 rfl))) (notFace_of_selects (args := #[]) (mvT hZ (hw _ (mw 31 rfl)))) (mvT hZ (hw _ (mw 31 rfl))) (mvT hZ (hw _ (mw 30 rfl))) (by decide) (backOf (W := 0) (rmcf l Z a0 hw [] b28 b7 nl_40 nr_40 ns_40 ni_40 nl_27 nr_27 ns_27 ni_27 T40.heap n0 f46 f41 P40_0 P40_1 P40_2 P40_3 f42 f43 f44 f45 g_b28 (Ne.symm ne_b7_b28) pnl_40 pnr_40 pnl_27 pnr_27) hZ (hw _ (mw 32 rfl)) (hw _ (mw 3 rfl)) (by decide) (by decide)) q47a q47c (g := (mkF m 147 #[.val (.int u0), .val (.int u1), .val (.int u2), .val (.ref b1), .val (.ref b2), .val (.ref b4), .val (.ref b7), .val (.ref b28), .unset, .unset, .unset, .unset, .unset, .unset, .unset, .unset] [(.ref b7), (.ref b28)])) rfl (by rw [hml]; rfl) (Steps.refl _) (argsL := [(.ref b7)]) (rest := []) (lenOf pd_3 rfl) rfl (by show 2 * 0 + _ ≤ _; exact Nat.le_of_eq rfl) (hb hby at_147) (fun _ _ => ⟨rfl, rfl, (by decide : 5 + 0 ≤ _), (by decide : 11 + 0 ≤ _)⟩)
  dsimp only [Pt.U, Pt.locs, Pt.cells, Pt.slots] at X47 l47 y47 z47 st47 hQ47
  subst l47 y47 z47
  obtain ⟨rfl, N47q, K47, P47_0, P47_1, P47_2, P47_3⟩ := hQ47
  have N47 := Fr.app N40 N47q
  refine Goal.tr (B := T47.setTop (mkF m 150 #[.val (.int u0), .val (.int u1), .val (.int u2), .val (.ref b1), .val (.ref b2), .val (.ref b4), .val (.ref b7), .val (.ref b28), .unset, .unset, .unset, .unset, .unset, .unset, .unset, .unset] [])) st47 ?_
  refine Goal.to (B := T47.setTop (mkF m 156 #[.val (.int u0), .val (.int u1), .val (.int u2), .val (.ref b1), .val (.ref b2), .val (.ref b4), .val (.ref b7), .val (.ref b28), .unset, .unset, .unset, .unset, .unset, .unset, .unset, .unset] [(.ref b4), (.ref b2), (.ref b1), (.int u2)])) (fun tt kk => ?_) ?_
  · show Steps p.tables e below (T47.setTop (mkF m 150 #[.val (.int u0), .val (.int u1), .val (.int u2), .val (.ref b1), .val (.ref b2), .val (.ref b4), .val (.ref b7), .val (.ref b28), .unset, .unset, .unset, .unset, .unset, .unset, .unset, .unset] [])) tt
    refine XS.iloadN X47.here hx rfl (hb hby at_150) rfl ?_
    show Steps p.tables e below (T47.setTop (mkF m 151 #[.val (.int u0), .val (.int u1), .val (.int u2), .val (.ref b1), .val (.ref b2), .val (.ref b4), .val (.ref b7), .val (.ref b28), .unset, .unset, .unset, .unset, .unset, .unset, .unset, .unset] [(.int u2)])) tt
    refine XS.aloadN X47.here hx rfl (hb hby at_151) rfl rfl ?_
    show Steps p.tables e below (T47.setTop (mkF m 152 #[.val (.int u0), .val (.int u1), .val (.int u2), .val (.ref b1), .val (.ref b2), .val (.ref b4), .val (.ref b7), .val (.ref b28), .unset, .unset, .unset, .unset, .unset, .unset, .unset, .unset] [(.ref b1), (.int u2)])) tt
    refine XS.aload X47.here hx rfl (hb hby at_152) rfl rfl ?_
    show Steps p.tables e below (T47.setTop (mkF m 154 #[.val (.int u0), .val (.int u1), .val (.int u2), .val (.ref b1), .val (.ref b2), .val (.ref b4), .val (.ref b7), .val (.ref b28), .unset, .unset, .unset, .unset, .unset, .unset, .unset, .unset] [(.ref b2), (.ref b1), (.int u2)])) tt
    refine XS.aload X47.here hx rfl (hb hby at_154) rfl rfl ?_
    exact kk
  have f48 : n0 ≤ T47.heap.size := (Nat.le_trans f46 K47.1)
  obtain ⟨_, _, ⟨T49, L49, k49, n49⟩, -, X49, ⟨Lc49, hQ49, l49, y49, z49⟩, st49⟩ := Jvm.LawKit.callS X47 hx (y := (⟨"com/example/tributary/tributary/runtime/RevisitsCopyFromPinLaw", "pick", "(ILjava/lang/Object;Ljava/lang/Object;Ljava/lang/Object;)Ljava/lang/Object;"⟩ : MethodName)) hown (mvT hZ (hw _ (mw 12 rfl))) (mvT hZ (hw _ (mw 13 rfl))) (mvT hZ (hw _ (mw 14 rfl))) (mvT hZ (hw _ (mw 15 rfl))) (by decide) (backOf (W := 0) (rmpk l Z a0 hw [] u2 b1 b2 b4 T47.heap n0 f48 ) hZ (hw _ (mw 15 rfl)) (hw _ (mw 14 rfl)) (by decide) (by decide)) (g := (mkF m 156 #[.val (.int u0), .val (.int u1), .val (.int u2), .val (.ref b1), .val (.ref b2), .val (.ref b4), .val (.ref b7), .val (.ref b28), .unset, .unset, .unset, .unset, .unset, .unset, .unset, .unset] [(.ref b4), (.ref b2), (.ref b1), (.int u2)])) rfl (by rw [hml]; rfl) (argsL := [(.int u2), (.ref b1), (.ref b2), (.ref b4)]) (rest := []) (lenOf pd_1 rfl) rfl (by show 2 * 0 + _ ≤ _; exact Nat.le_of_eq rfl) (hb hby at_156) (fun _ _ => ⟨rfl, rfl, (by decide : 5 + 0 ≤ _), (by decide : 11 + 0 ≤ _)⟩)
  dsimp only [Pt.U, Pt.locs, Pt.cells, Pt.slots] at X49 l49 y49 z49 st49 hQ49
  subst l49 y49 z49
  obtain ⟨rfl, N49q, e49⟩ := hQ49
  have N49 := Fr.app N47 N49q
  refine Goal.to (B := T49.setTop (mkF m 159 #[.val (.int u0), .val (.int u1), .val (.int u2), .val (.ref b1), .val (.ref b2), .val (.ref b4), .val (.ref b7), .val (.ref b28), .unset, .unset, .unset, .unset, .unset, .unset, .unset, .unset] [(own_pick u2 (.ref b1) (.ref b2) (.ref b4))])) st49 ?_
  refine Goal.to (B := T49.setTop (mkF m 169 #[.val (.int u0), .val (.int u1), .val (.int u2), .val (.ref b1), .val (.ref b2), .val (.ref b4), .val (.ref b7), .val (.ref b28), .val (own_pick u2 (.ref b1) (.ref b2) (.ref b4)), .unset, .unset, .unset, .unset, .unset, .unset, .unset] [(.ref b4), (.ref b2), (.ref b1), (.int (u2 >>> ((2 : Int32) &&& 31)))])) (fun tt kk => ?_) ?_
  · show Steps p.tables e below (T49.setTop (mkF m 159 #[.val (.int u0), .val (.int u1), .val (.int u2), .val (.ref b1), .val (.ref b2), .val (.ref b4), .val (.ref b7), .val (.ref b28), .unset, .unset, .unset, .unset, .unset, .unset, .unset, .unset] [(own_pick u2 (.ref b1) (.ref b2) (.ref b4))])) tt
    refine XS.astore X49.here hx rfl (hb hby at_159) rfl (own_pickR u2 b1 b2 b4) (l' := #[.val (.int u0), .val (.int u1), .val (.int u2), .val (.ref b1), .val (.ref b2), .val (.ref b4), .val (.ref b7), .val (.ref b28), .val (own_pick u2 (.ref b1) (.ref b2) (.ref b4)), .unset, .unset, .unset, .unset, .unset, .unset, .unset]) (storeV (own_pickR u2 b1 b2 b4) (Or.inl rfl)) ?_
    show Steps p.tables e below (T49.setTop (mkF m 161 #[.val (.int u0), .val (.int u1), .val (.int u2), .val (.ref b1), .val (.ref b2), .val (.ref b4), .val (.ref b7), .val (.ref b28), .val (own_pick u2 (.ref b1) (.ref b2) (.ref b4)), .unset, .unset, .unset, .unset, .unset, .unset, .unset] [])) tt
    refine XS.iloadN X49.here hx rfl (hb hby at_161) rfl ?_
    show Steps p.tables e below (T49.setTop (mkF m 162 #[.val (.int u0), .val (.int u1), .val (.int u2), .val (.ref b1), .val (.ref b2), .val (.ref b4), .val (.ref b7), .val (.ref b28), .val (own_pick u2 (.ref b1) (.ref b2) (.ref b4)), .unset, .unset, .unset, .unset, .unset, .unset, .unset] [(.int u2)])) tt
    refine XS.iconst X49.here hx rfl (hb hby at_162) ?_
    show Steps p.tables e below (T49.setTop (mkF m 163 #[.val (.int u0), .val (.int u1), .val (.int u2), .val (.ref b1), .val (.ref b2), .val (.ref b4), .val (.ref b7), .val (.ref b28), .val (own_pick u2 (.ref b1) (.ref b2) (.ref b4)), .unset, .unset, .unset, .unset, .unset, .unset, .unset] [(.int (2 : Int32)), (.int u2)])) tt
    refine XS.ishr X49.here hx rfl (hb hby at_163) rfl ?_
    show Steps p.tables e below (T49.setTop (mkF m 164 #[.val (.int u0), .val (.int u1), .val (.int u2), .val (.ref b1), .val (.ref b2), .val (.ref b4), .val (.ref b7), .val (.ref b28), .val (own_pick u2 (.ref b1) (.ref b2) (.ref b4)), .unset, .unset, .unset, .unset, .unset, .unset, .unset] [(.int (u2 >>> ((2 : Int32) &&& 31)))])) tt
    refine XS.aloadN X49.here hx rfl (hb hby at_164) rfl rfl ?_
    show Steps p.tables e below (T49.setTop (mkF m 165 #[.val (.int u0), .val (.int u1), .val (.int u2), .val (.ref b1), .val (.ref b2), .val (.ref b4), .val (.ref b7), .val (.ref b28), .val (own_pick u2 (.ref b1) (.ref b2) (.ref b4)), .unset, .unset, .unset, .unset, .unset, .unset, .unset] [(.ref b1), (.int (u2 >>> ((2 : Int32) &&& 31)))])) tt
    refine XS.aload X49.here hx rfl (hb hby at_165) rfl rfl ?_
    show Steps p.tables e below (T49.setTop (mkF m 167 #[.val (.int u0), .val (.int u1), .val (.int u2), .val (.ref b1), .val (.ref b2), .val (.ref b4), .val (.ref b7), .val (.ref b28), .val (own_pick u2 (.ref b1) (.ref b2) (.ref b4)), .unset, .unset, .unset, .unset, .unset, .unset, .unset] [(.ref b2), (.ref b1), (.int (u2 >>> ((2 : Int32) &&& 31)))])) tt
    refine XS.aload X49.here hx rfl (hb hby at_167) rfl rfl ?_
    exact kk
  obtain ⟨_, _, ⟨T50, L50, k50, n50⟩, -, X50, ⟨Lc50, hQ50, l50, y50, z50⟩, st50⟩ := Jvm.LawKit.callS X49 hx (y := (⟨"com/example/tributary/tributary/runtime/RevisitsCopyFromPinLaw", "pick", "(ILjava/lang/Object;Ljava/lang/Object;Ljava/lang/Object;)Ljava/lang/Object;"⟩ : MethodName)) hown (mvT hZ (hw _ (mw 12 rfl))) (mvT hZ (hw _ (mw 13 rfl))) (mvT hZ (hw _ (mw 14 rfl))) (mvT hZ (hw _ (mw 15 rfl))) (by decide) (backOf (W := 0) (rmpk l Z a0 hw [] (u2 >>> ((2 : Int32) &&& 31)) b1 b2 b4 T47.heap n0 f48 ) hZ (hw _ (mw 15 rfl)) (hw _ (mw 14 rfl)) (by decide) (by decide)) (g := (mkF m 169 #[.val (.int u0), .val (.int u1), .val (.int u2), .val (.ref b1), .val (.ref b2), .val (.ref b4), .val (.ref b7), .val (.ref b28), .val (own_pick u2 (.ref b1) (.ref b2) (.ref b4)), .unset, .unset, .unset, .unset, .unset, .unset, .unset] [(.ref b4), (.ref b2), (.ref b1), (.int (u2 >>> ((2 : Int32) &&& 31)))])) rfl (by rw [hml]; rfl) (argsL := [(.int (u2 >>> ((2 : Int32) &&& 31))), (.ref b1), (.ref b2), (.ref b4)]) (rest := []) (lenOf pd_1 rfl) rfl (by show 2 * 0 + _ ≤ _; exact Nat.le_of_eq rfl) (hb hby at_169) (fun _ _ => ⟨rfl, e49, (by decide : 5 + 0 ≤ _), (by decide : 11 + 0 ≤ _)⟩)
  dsimp only [Pt.U, Pt.locs, Pt.cells, Pt.slots] at X50 l50 y50 z50 st50 hQ50
  subst l50 y50 z50
  obtain ⟨rfl, N50q, e50⟩ := hQ50
  have N50 := Fr.app N49 N50q
  refine Goal.to (B := T50.setTop (mkF m 172 #[.val (.int u0), .val (.int u1), .val (.int u2), .val (.ref b1), .val (.ref b2), .val (.ref b4), .val (.ref b7), .val (.ref b28), .val (own_pick u2 (.ref b1) (.ref b2) (.ref b4)), .unset, .unset, .unset, .unset, .unset, .unset, .unset] [(own_pick (u2 >>> ((2 : Int32) &&& 31)) (.ref b1) (.ref b2) (.ref b4))])) st50 ?_
  refine Goal.to (B := T50.setTop (mkF m 182 #[.val (.int u0), .val (.int u1), .val (.int u2), .val (.ref b1), .val (.ref b2), .val (.ref b4), .val (.ref b7), .val (.ref b28), .val (own_pick u2 (.ref b1) (.ref b2) (.ref b4)), .val (own_pick (u2 >>> ((2 : Int32) &&& 31)) (.ref b1) (.ref b2) (.ref b4)), .unset, .unset, .unset, .unset, .unset, .unset] [(.ref b4), (.ref b2), (.ref b1), (.int (u2 >>> ((4 : Int32) &&& 31)))])) (fun tt kk => ?_) ?_
  · show Steps p.tables e below (T50.setTop (mkF m 172 #[.val (.int u0), .val (.int u1), .val (.int u2), .val (.ref b1), .val (.ref b2), .val (.ref b4), .val (.ref b7), .val (.ref b28), .val (own_pick u2 (.ref b1) (.ref b2) (.ref b4)), .unset, .unset, .unset, .unset, .unset, .unset, .unset] [(own_pick (u2 >>> ((2 : Int32) &&& 31)) (.ref b1) (.ref b2) (.ref b4))])) tt
    refine XS.astore X50.here hx rfl (hb hby at_172) rfl (own_pickR (u2 >>> ((2 : Int32) &&& 31)) b1 b2 b4) (l' := #[.val (.int u0), .val (.int u1), .val (.int u2), .val (.ref b1), .val (.ref b2), .val (.ref b4), .val (.ref b7), .val (.ref b28), .val (own_pick u2 (.ref b1) (.ref b2) (.ref b4)), .val (own_pick (u2 >>> ((2 : Int32) &&& 31)) (.ref b1) (.ref b2) (.ref b4)), .unset, .unset, .unset, .unset, .unset, .unset]) (storeV (own_pickR (u2 >>> ((2 : Int32) &&& 31)) b1 b2 b4) (Or.inl rfl)) ?_
    show Steps p.tables e below (T50.setTop (mkF m 174 #[.val (.int u0), .val (.int u1), .val (.int u2), .val (.ref b1), .val (.ref b2), .val (.ref b4), .val (.ref b7), .val (.ref b28), .val (own_pick u2 (.ref b1) (.ref b2) (.ref b4)), .val (own_pick (u2 >>> ((2 : Int32) &&& 31)) (.ref b1) (.ref b2) (.ref b4)), .unset, .unset, .unset, .unset, .unset, .unset] [])) tt
    refine XS.iloadN X50.here hx rfl (hb hby at_174) rfl ?_
    show Steps p.tables e below (T50.setTop (mkF m 175 #[.val (.int u0), .val (.int u1), .val (.int u2), .val (.ref b1), .val (.ref b2), .val (.ref b4), .val (.ref b7), .val (.ref b28), .val (own_pick u2 (.ref b1) (.ref b2) (.ref b4)), .val (own_pick (u2 >>> ((2 : Int32) &&& 31)) (.ref b1) (.ref b2) (.ref b4)), .unset, .unset, .unset, .unset, .unset, .unset] [(.int u2)])) tt
    refine XS.iconst X50.here hx rfl (hb hby at_175) ?_
    show Steps p.tables e below (T50.setTop (mkF m 176 #[.val (.int u0), .val (.int u1), .val (.int u2), .val (.ref b1), .val (.ref b2), .val (.ref b4), .val (.ref b7), .val (.ref b28), .val (own_pick u2 (.ref b1) (.ref b2) (.ref b4)), .val (own_pick (u2 >>> ((2 : Int32) &&& 31)) (.ref b1) (.ref b2) (.ref b4)), .unset, .unset, .unset, .unset, .unset, .unset] [(.int (4 : Int32)), (.int u2)])) tt
    refine XS.ishr X50.here hx rfl (hb hby at_176) rfl ?_
    show Steps p.tables e below (T50.setTop (mkF m 177 #[.val (.int u0), .val (.int u1), .val (.int u2), .val (.ref b1), .val (.ref b2), .val (.ref b4), .val (.ref b7), .val (.ref b28), .val (own_pick u2 (.ref b1) (.ref b2) (.ref b4)), .val (own_pick (u2 >>> ((2 : Int32) &&& 31)) (.ref b1) (.ref b2) (.ref b4)), .unset, .unset, .unset, .unset, .unset, .unset] [(.int (u2 >>> ((4 : Int32) &&& 31)))])) tt
    refine XS.aloadN X50.here hx rfl (hb hby at_177) rfl rfl ?_
    show Steps p.tables e below (T50.setTop (mkF m 178 #[.val (.int u0), .val (.int u1), .val (.int u2), .val (.ref b1), .val (.ref b2), .val (.ref b4), .val (.ref b7), .val (.ref b28), .val (own_pick u2 (.ref b1) (.ref b2) (.ref b4)), .val (own_pick (u2 >>> ((2 : Int32) &&& 31)) (.ref b1) (.ref b2) (.ref b4)), .unset, .unset, .unset, .unset, .unset, .unset] [(.ref b1), (.int (u2 >>> ((4 : Int32) &&& 31)))])) tt
    refine XS.aload X50.here hx rfl (hb hby at_178) rfl rfl ?_
    show Steps p.tables e below (T50.setTop (mkF m 180 #[.val (.int u0), .val (.int u1), .val (.int u2), .val (.ref b1), .val (.ref b2), .val (.ref b4), .val (.ref b7), .val (.ref b28), .val (own_pick u2 (.ref b1) (.ref b2) (.ref b4)), .val (own_pick (u2 >>> ((2 : Int32) &&& 31)) (.ref b1) (.ref b2) (.ref b4)), .unset, .unset, .unset, .unset, .unset, .unset] [(.ref b2), (.ref b1), (.int (u2 >>> ((4 : Int32) &&& 31)))])) tt
    refine XS.aload X50.here hx rfl (hb hby at_180) rfl rfl ?_
    exact kk
  obtain ⟨_, _, ⟨T51, L51, k51, n51⟩, -, X51, ⟨Lc51, hQ51, l51, y51, z51⟩, st51⟩ := Jvm.LawKit.callS X50 hx (y := (⟨"com/example/tributary/tributary/runtime/RevisitsCopyFromPinLaw", "pick", "(ILjava/lang/Object;Ljava/lang/Object;Ljava/lang/Object;)Ljava/lang/Object;"⟩ : MethodName)) hown (mvT hZ (hw _ (mw 12 rfl))) (mvT hZ (hw _ (mw 13 rfl))) (mvT hZ (hw _ (mw 14 rfl))) (mvT hZ (hw _ (mw 15 rfl))) (by decide) (backOf (W := 0) (rmpk l Z a0 hw [] (u2 >>> ((4 : Int32) &&& 31)) b1 b2 b4 T47.heap n0 f48 ) hZ (hw _ (mw 15 rfl)) (hw _ (mw 14 rfl)) (by decide) (by decide)) (g := (mkF m 182 #[.val (.int u0), .val (.int u1), .val (.int u2), .val (.ref b1), .val (.ref b2), .val (.ref b4), .val (.ref b7), .val (.ref b28), .val (own_pick u2 (.ref b1) (.ref b2) (.ref b4)), .val (own_pick (u2 >>> ((2 : Int32) &&& 31)) (.ref b1) (.ref b2) (.ref b4)), .unset, .unset, .unset, .unset, .unset, .unset] [(.ref b4), (.ref b2), (.ref b1), (.int (u2 >>> ((4 : Int32) &&& 31)))])) rfl (by rw [hml]; rfl) (argsL := [(.int (u2 >>> ((4 : Int32) &&& 31))), (.ref b1), (.ref b2), (.ref b4)]) (rest := []) (lenOf pd_1 rfl) rfl (by show 2 * 0 + _ ≤ _; exact Nat.le_of_eq rfl) (hb hby at_182) (fun _ _ => ⟨rfl, e50, (by decide : 5 + 0 ≤ _), (by decide : 11 + 0 ≤ _)⟩)
  dsimp only [Pt.U, Pt.locs, Pt.cells, Pt.slots] at X51 l51 y51 z51 st51 hQ51
  subst l51 y51 z51
  obtain ⟨rfl, N51q, e51⟩ := hQ51
  have N51 := Fr.app N50 N51q
  refine Goal.to (B := T51.setTop (mkF m 185 #[.val (.int u0), .val (.int u1), .val (.int u2), .val (.ref b1), .val (.ref b2), .val (.ref b4), .val (.ref b7), .val (.ref b28), .val (own_pick u2 (.ref b1) (.ref b2) (.ref b4)), .val (own_pick (u2 >>> ((2 : Int32) &&& 31)) (.ref b1) (.ref b2) (.ref b4)), .unset, .unset, .unset, .unset, .unset, .unset] [(own_pick (u2 >>> ((4 : Int32) &&& 31)) (.ref b1) (.ref b2) (.ref b4))])) st51 ?_
  refine Goal.to (B := T51.setTop (mkF m 196 #[.val (.int u0), .val (.int u1), .val (.int u2), .val (.ref b1), .val (.ref b2), .val (.ref b4), .val (.ref b7), .val (.ref b28), .val (own_pick u2 (.ref b1) (.ref b2) (.ref b4)), .val (own_pick (u2 >>> ((2 : Int32) &&& 31)) (.ref b1) (.ref b2) (.ref b4)), .val (own_pick (u2 >>> ((4 : Int32) &&& 31)) (.ref b1) (.ref b2) (.ref b4)), .unset, .unset, .unset, .unset, .unset] [(.ref b4), (.ref b2), (.ref b1), (.int (u2 >>> ((6 : Int32) &&& 31)))])) (fun tt kk => ?_) ?_
  · show Steps p.tables e below (T51.setTop (mkF m 185 #[.val (.int u0), .val (.int u1), .val (.int u2), .val (.ref b1), .val (.ref b2), .val (.ref b4), .val (.ref b7), .val (.ref b28), .val (own_pick u2 (.ref b1) (.ref b2) (.ref b4)), .val (own_pick (u2 >>> ((2 : Int32) &&& 31)) (.ref b1) (.ref b2) (.ref b4)), .unset, .unset, .unset, .unset, .unset, .unset] [(own_pick (u2 >>> ((4 : Int32) &&& 31)) (.ref b1) (.ref b2) (.ref b4))])) tt
    refine XS.astore X51.here hx rfl (hb hby at_185) rfl (own_pickR (u2 >>> ((4 : Int32) &&& 31)) b1 b2 b4) (l' := #[.val (.int u0), .val (.int u1), .val (.int u2), .val (.ref b1), .val (.ref b2), .val (.ref b4), .val (.ref b7), .val (.ref b28), .val (own_pick u2 (.ref b1) (.ref b2) (.ref b4)), .val (own_pick (u2 >>> ((2 : Int32) &&& 31)) (.ref b1) (.ref b2) (.ref b4)), .val (own_pick (u2 >>> ((4 : Int32) &&& 31)) (.ref b1) (.ref b2) (.ref b4)), .unset, .unset, .unset, .unset, .unset]) (storeV (own_pickR (u2 >>> ((4 : Int32) &&& 31)) b1 b2 b4) (Or.inl rfl)) ?_
    show Steps p.tables e below (T51.setTop (mkF m 187 #[.val (.int u0), .val (.int u1), .val (.int u2), .val (.ref b1), .val (.ref b2), .val (.ref b4), .val (.ref b7), .val (.ref b28), .val (own_pick u2 (.ref b1) (.ref b2) (.ref b4)), .val (own_pick (u2 >>> ((2 : Int32) &&& 31)) (.ref b1) (.ref b2) (.ref b4)), .val (own_pick (u2 >>> ((4 : Int32) &&& 31)) (.ref b1) (.ref b2) (.ref b4)), .unset, .unset, .unset, .unset, .unset] [])) tt
    refine XS.iloadN X51.here hx rfl (hb hby at_187) rfl ?_
    show Steps p.tables e below (T51.setTop (mkF m 188 #[.val (.int u0), .val (.int u1), .val (.int u2), .val (.ref b1), .val (.ref b2), .val (.ref b4), .val (.ref b7), .val (.ref b28), .val (own_pick u2 (.ref b1) (.ref b2) (.ref b4)), .val (own_pick (u2 >>> ((2 : Int32) &&& 31)) (.ref b1) (.ref b2) (.ref b4)), .val (own_pick (u2 >>> ((4 : Int32) &&& 31)) (.ref b1) (.ref b2) (.ref b4)), .unset, .unset, .unset, .unset, .unset] [(.int u2)])) tt
    refine XS.bipush X51.here hx rfl (hb hby at_188) ?_
    show Steps p.tables e below (T51.setTop (mkF m 190 #[.val (.int u0), .val (.int u1), .val (.int u2), .val (.ref b1), .val (.ref b2), .val (.ref b4), .val (.ref b7), .val (.ref b28), .val (own_pick u2 (.ref b1) (.ref b2) (.ref b4)), .val (own_pick (u2 >>> ((2 : Int32) &&& 31)) (.ref b1) (.ref b2) (.ref b4)), .val (own_pick (u2 >>> ((4 : Int32) &&& 31)) (.ref b1) (.ref b2) (.ref b4)), .unset, .unset, .unset, .unset, .unset] [(.int (6 : Int32)), (.int u2)])) tt
    refine XS.ishr X51.here hx rfl (hb hby at_190) rfl ?_
    show Steps p.tables e below (T51.setTop (mkF m 191 #[.val (.int u0), .val (.int u1), .val (.int u2), .val (.ref b1), .val (.ref b2), .val (.ref b4), .val (.ref b7), .val (.ref b28), .val (own_pick u2 (.ref b1) (.ref b2) (.ref b4)), .val (own_pick (u2 >>> ((2 : Int32) &&& 31)) (.ref b1) (.ref b2) (.ref b4)), .val (own_pick (u2 >>> ((4 : Int32) &&& 31)) (.ref b1) (.ref b2) (.ref b4)), .unset, .unset, .unset, .unset, .unset] [(.int (u2 >>> ((6 : Int32) &&& 31)))])) tt
    refine XS.aloadN X51.here hx rfl (hb hby at_191) rfl rfl ?_
    show Steps p.tables e below (T51.setTop (mkF m 192 #[.val (.int u0), .val (.int u1), .val (.int u2), .val (.ref b1), .val (.ref b2), .val (.ref b4), .val (.ref b7), .val (.ref b28), .val (own_pick u2 (.ref b1) (.ref b2) (.ref b4)), .val (own_pick (u2 >>> ((2 : Int32) &&& 31)) (.ref b1) (.ref b2) (.ref b4)), .val (own_pick (u2 >>> ((4 : Int32) &&& 31)) (.ref b1) (.ref b2) (.ref b4)), .unset, .unset, .unset, .unset, .unset] [(.ref b1), (.int (u2 >>> ((6 : Int32) &&& 31)))])) tt
    refine XS.aload X51.here hx rfl (hb hby at_192) rfl rfl ?_
    show Steps p.tables e below (T51.setTop (mkF m 194 #[.val (.int u0), .val (.int u1), .val (.int u2), .val (.ref b1), .val (.ref b2), .val (.ref b4), .val (.ref b7), .val (.ref b28), .val (own_pick u2 (.ref b1) (.ref b2) (.ref b4)), .val (own_pick (u2 >>> ((2 : Int32) &&& 31)) (.ref b1) (.ref b2) (.ref b4)), .val (own_pick (u2 >>> ((4 : Int32) &&& 31)) (.ref b1) (.ref b2) (.ref b4)), .unset, .unset, .unset, .unset, .unset] [(.ref b2), (.ref b1), (.int (u2 >>> ((6 : Int32) &&& 31)))])) tt
    refine XS.aload X51.here hx rfl (hb hby at_194) rfl rfl ?_
    exact kk
  obtain ⟨_, _, ⟨T52, L52, k52, n52⟩, -, X52, ⟨Lc52, hQ52, l52, y52, z52⟩, st52⟩ := Jvm.LawKit.callS X51 hx (y := (⟨"com/example/tributary/tributary/runtime/RevisitsCopyFromPinLaw", "pick", "(ILjava/lang/Object;Ljava/lang/Object;Ljava/lang/Object;)Ljava/lang/Object;"⟩ : MethodName)) hown (mvT hZ (hw _ (mw 12 rfl))) (mvT hZ (hw _ (mw 13 rfl))) (mvT hZ (hw _ (mw 14 rfl))) (mvT hZ (hw _ (mw 15 rfl))) (by decide) (backOf (W := 0) (rmpk l Z a0 hw [] (u2 >>> ((6 : Int32) &&& 31)) b1 b2 b4 T47.heap n0 f48 ) hZ (hw _ (mw 15 rfl)) (hw _ (mw 14 rfl)) (by decide) (by decide)) (g := (mkF m 196 #[.val (.int u0), .val (.int u1), .val (.int u2), .val (.ref b1), .val (.ref b2), .val (.ref b4), .val (.ref b7), .val (.ref b28), .val (own_pick u2 (.ref b1) (.ref b2) (.ref b4)), .val (own_pick (u2 >>> ((2 : Int32) &&& 31)) (.ref b1) (.ref b2) (.ref b4)), .val (own_pick (u2 >>> ((4 : Int32) &&& 31)) (.ref b1) (.ref b2) (.ref b4)), .unset, .unset, .unset, .unset, .unset] [(.ref b4), (.ref b2), (.ref b1), (.int (u2 >>> ((6 : Int32) &&& 31)))])) rfl (by rw [hml]; rfl) (argsL := [(.int (u2 >>> ((6 : Int32) &&& 31))), (.ref b1), (.ref b2), (.ref b4)]) (rest := []) (lenOf pd_1 rfl) rfl (by show 2 * 0 + _ ≤ _; exact Nat.le_of_eq rfl) (hb hby at_196) (fun _ _ => ⟨rfl, e51, (by decide : 5 + 0 ≤ _), (by decide : 11 + 0 ≤ _)⟩)
  dsimp only [Pt.U, Pt.locs, Pt.cells, Pt.slots] at X52 l52 y52 z52 st52 hQ52
  subst l52 y52 z52
  obtain ⟨rfl, N52q, e52⟩ := hQ52
  have N52 := Fr.app N51 N52q
  refine Goal.to (B := T52.setTop (mkF m 199 #[.val (.int u0), .val (.int u1), .val (.int u2), .val (.ref b1), .val (.ref b2), .val (.ref b4), .val (.ref b7), .val (.ref b28), .val (own_pick u2 (.ref b1) (.ref b2) (.ref b4)), .val (own_pick (u2 >>> ((2 : Int32) &&& 31)) (.ref b1) (.ref b2) (.ref b4)), .val (own_pick (u2 >>> ((4 : Int32) &&& 31)) (.ref b1) (.ref b2) (.ref b4)), .unset, .unset, .unset, .unset, .unset] [(own_pick (u2 >>> ((6 : Int32) &&& 31)) (.ref b1) (.ref b2) (.ref b4))])) st52 ?_
  refine Goal.to (B := T52.setTop (mkF m 207 #[.val (.int u0), .val (.int u1), .val (.int u2), .val (.ref b1), .val (.ref b2), .val (.ref b4), .val (.ref b7), .val (.ref b28), .val (own_pick u2 (.ref b1) (.ref b2) (.ref b4)), .val (own_pick (u2 >>> ((2 : Int32) &&& 31)) (.ref b1) (.ref b2) (.ref b4)), .val (own_pick (u2 >>> ((4 : Int32) &&& 31)) (.ref b1) (.ref b2) (.ref b4)), .val (own_pick (u2 >>> ((6 : Int32) &&& 31)) (.ref b1) (.ref b2) (.ref b4)), .unset, .unset, .unset, .unset] [(own_pick (u2 >>> ((2 : Int32) &&& 31)) (.ref b1) (.ref b2) (.ref b4)), (own_pick u2 (.ref b1) (.ref b2) (.ref b4)), (.ref b28)])) (fun tt kk => ?_) ?_
  · show Steps p.tables e below (T52.setTop (mkF m 199 #[.val (.int u0), .val (.int u1), .val (.int u2), .val (.ref b1), .val (.ref b2), .val (.ref b4), .val (.ref b7), .val (.ref b28), .val (own_pick u2 (.ref b1) (.ref b2) (.ref b4)), .val (own_pick (u2 >>> ((2 : Int32) &&& 31)) (.ref b1) (.ref b2) (.ref b4)), .val (own_pick (u2 >>> ((4 : Int32) &&& 31)) (.ref b1) (.ref b2) (.ref b4)), .unset, .unset, .unset, .unset, .unset] [(own_pick (u2 >>> ((6 : Int32) &&& 31)) (.ref b1) (.ref b2) (.ref b4))])) tt
    refine XS.astore X52.here hx rfl (hb hby at_199) rfl (own_pickR (u2 >>> ((6 : Int32) &&& 31)) b1 b2 b4) (l' := #[.val (.int u0), .val (.int u1), .val (.int u2), .val (.ref b1), .val (.ref b2), .val (.ref b4), .val (.ref b7), .val (.ref b28), .val (own_pick u2 (.ref b1) (.ref b2) (.ref b4)), .val (own_pick (u2 >>> ((2 : Int32) &&& 31)) (.ref b1) (.ref b2) (.ref b4)), .val (own_pick (u2 >>> ((4 : Int32) &&& 31)) (.ref b1) (.ref b2) (.ref b4)), .val (own_pick (u2 >>> ((6 : Int32) &&& 31)) (.ref b1) (.ref b2) (.ref b4)), .unset, .unset, .unset, .unset]) (storeV (own_pickR (u2 >>> ((6 : Int32) &&& 31)) b1 b2 b4) (Or.inl rfl)) ?_
    show Steps p.tables e below (T52.setTop (mkF m 201 #[.val (.int u0), .val (.int u1), .val (.int u2), .val (.ref b1), .val (.ref b2), .val (.ref b4), .val (.ref b7), .val (.ref b28), .val (own_pick u2 (.ref b1) (.ref b2) (.ref b4)), .val (own_pick (u2 >>> ((2 : Int32) &&& 31)) (.ref b1) (.ref b2) (.ref b4)), .val (own_pick (u2 >>> ((4 : Int32) &&& 31)) (.ref b1) (.ref b2) (.ref b4)), .val (own_pick (u2 >>> ((6 : Int32) &&& 31)) (.ref b1) (.ref b2) (.ref b4)), .unset, .unset, .unset, .unset] [])) tt
    refine XS.aload X52.here hx rfl (hb hby at_201) rfl rfl ?_
    show Steps p.tables e below (T52.setTop (mkF m 203 #[.val (.int u0), .val (.int u1), .val (.int u2), .val (.ref b1), .val (.ref b2), .val (.ref b4), .val (.ref b7), .val (.ref b28), .val (own_pick u2 (.ref b1) (.ref b2) (.ref b4)), .val (own_pick (u2 >>> ((2 : Int32) &&& 31)) (.ref b1) (.ref b2) (.ref b4)), .val (own_pick (u2 >>> ((4 : Int32) &&& 31)) (.ref b1) (.ref b2) (.ref b4)), .val (own_pick (u2 >>> ((6 : Int32) &&& 31)) (.ref b1) (.ref b2) (.ref b4)), .unset, .unset, .unset, .unset] [(.ref b28)])) tt
    refine XS.aload X52.here hx rfl (hb hby at_203) rfl (own_pickR u2 b1 b2 b4) ?_
    show Steps p.tables e below (T52.setTop (mkF m 205 #[.val (.int u0), .val (.int u1), .val (.int u2), .val (.ref b1), .val (.ref b2), .val (.ref b4), .val (.ref b7), .val (.ref b28), .val (own_pick u2 (.ref b1) (.ref b2) (.ref b4)), .val (own_pick (u2 >>> ((2 : Int32) &&& 31)) (.ref b1) (.ref b2) (.ref b4)), .val (own_pick (u2 >>> ((4 : Int32) &&& 31)) (.ref b1) (.ref b2) (.ref b4)), .val (own_pick (u2 >>> ((6 : Int32) &&& 31)) (.ref b1) (.ref b2) (.ref b4)), .unset, .unset, .unset, .unset] [(own_pick u2 (.ref b1) (.ref b2) (.ref b4)), (.ref b28)])) tt
    refine XS.aload X52.here hx rfl (hb hby at_205) rfl (own_pickR (u2 >>> ((2 : Int32) &&& 31)) b1 b2 b4) ?_
    exact kk
  have f53 : Exa Z T47.heap b28 "com/example/tributary/tributary/runtime/Revisits" := (f41.keep K47)
  obtain ⟨cq54, kq54, q54a, q54b, q54c⟩ := isOf hZ e52 f53
  obtain ⟨_, _, ⟨T54, L54, k54, n54⟩, -, X54, ⟨Lc54, hQ54, l54, y54, z54⟩, st54⟩ := X52.virtualBack hx (y := (⟨"com/example/tributary/tributary/runtime/Revisits", "seenBefore", "(Ljava/lang/Object;Ljava/lang/Object;)Z"⟩ : MethodName)) (z := (⟨"com/example/tributary/tributary/runtime/Revisits", "seenBefore", "(Ljava/lang/Object;Ljava/lang/Object;)Z"⟩ : MethodName)) hown (mvT hZ (hw _ (mw 16 rfl))) (mvT hZ (hw _ (mw 17 rfl))) (notFace_of_selects (args := #[]) (mvT hZ (hw _ (mw 19 rfl)))) (mvT hZ (hw _ (mw 19 rfl))) (mvT hZ (hw _ (mw 18 rfl))) (by decide) (backOf (W := 0) (rmsb l Z a0 hw [] b28 (own_pick u2 (.ref b1) (.ref b2) (.ref b4)) (own_pick (u2 >>> ((2 : Int32) &&& 31)) (.ref b1) (.ref b2) (.ref b4)) nl_27 nr_27 ns_27 ni_27 T47.heap n0 f48 f53 P47_0 P47_1 P47_2 P47_3 g_b28 (own_pickR u2 b1 b2 b4) (own_pickR (u2 >>> ((2 : Int32) &&& 31)) b1 b2 b4) pnl_27 pnr_27) hZ (hw _ (mw 20 rfl)) (hw _ (mw 3 rfl)) (by decide) (by decide)) q54a q54c (g := (mkF m 207 #[.val (.int u0), .val (.int u1), .val (.int u2), .val (.ref b1), .val (.ref b2), .val (.ref b4), .val (.ref b7), .val (.ref b28), .val (own_pick u2 (.ref b1) (.ref b2) (.ref b4)), .val (own_pick (u2 >>> ((2 : Int32) &&& 31)) (.ref b1) (.ref b2) (.ref b4)), .val (own_pick (u2 >>> ((4 : Int32) &&& 31)) (.ref b1) (.ref b2) (.ref b4)), .val (own_pick (u2 >>> ((6 : Int32) &&& 31)) (.ref b1) (.ref b2) (.ref b4)), .unset, .unset, .unset, .unset] [(own_pick (u2 >>> ((2 : Int32) &&& 31)) (.ref b1) (.ref b2) (.ref b4)), (own_pick u2 (.ref b1) (.ref b2) (.ref b4)), (.ref b28)])) rfl (by rw [hml]; rfl) (Steps.refl _) (argsL := [(own_pick u2 (.ref b1) (.ref b2) (.ref b4)), (own_pick (u2 >>> ((2 : Int32) &&& 31)) (.ref b1) (.ref b2) (.ref b4))]) (rest := []) (lenOf pd_2 rfl) rfl (by show 2 * 0 + _ ≤ _; exact Nat.le_of_eq rfl) (hb hby at_207) (fun _ _ => ⟨rfl, e52, (by decide : 5 + 0 ≤ _), (by decide : 11 + 0 ≤ _)⟩)
  dsimp only [Pt.U, Pt.locs, Pt.cells, Pt.slots] at X54 l54 y54 z54 st54 hQ54
  subst l54 y54 z54
  obtain ⟨nl_54, nr_54, ns_54, ni_54, rfl, N54q, K54, P54_0, P54_1, P54_2, P54_3, pnl_54, pnr_54, qnl_54, qnr_54, qns_54, qni_54⟩ := hQ54
  have N54 := Fr.app N52 N54q
  refine Goal.tr (B := T54.setTop (mkF m 210 #[.val (.int u0), .val (.int u1), .val (.int u2), .val (.ref b1), .val (.ref b2), .val (.ref b4), .val (.ref b7), .val (.ref b28), .val (own_pick u2 (.ref b1) (.ref b2) (.ref b4)), .val (own_pick (u2 >>> ((2 : Int32) &&& 31)) (.ref b1) (.ref b2) (.ref b4)), .val (own_pick (u2 >>> ((4 : Int32) &&& 31)) (.ref b1) (.ref b2) (.ref b4)), .val (own_pick (u2 >>> ((6 : Int32) &&& 31)) (.ref b1) (.ref b2) (.ref b4)), .unset, .unset, .unset, .unset] [(.int (own_B (own_pick u2 (.ref b1) (.ref b2) (.ref b4)) (own_pick (u2 >>> ((2 : Int32) &&& 31)) (.ref b1) (.ref b2) (.ref b4)) nl_27 nr_27))])) st54 ?_
  refine Goal.to (B := T54.setTop (mkF m 218 #[.val (.int u0), .val (.int u1), .val (.int u2), .val (.ref b1), .val (.ref b2), .val (.ref b4), .val (.ref b7), .val (.ref b28), .val (own_pick u2 (.ref b1) (.ref b2) (.ref b4)), .val (own_pick (u2 >>> ((2 : Int32) &&& 31)) (.ref b1) (.ref b2) (.ref b4)), .val (own_pick (u2 >>> ((4 : Int32) &&& 31)) (.ref b1) (.ref b2) (.ref b4)), .val (own_pick (u2 >>> ((6 : Int32) &&& 31)) (.ref b1) (.ref b2) (.ref b4)), .val (.int (own_B (own_pick u2 (.ref b1) (.ref b2) (.ref b4)) (own_pick (u2 >>> ((2 : Int32) &&& 31)) (.ref b1) (.ref b2) (.ref b4)) nl_27 nr_27)), .unset, .unset, .unset] [(own_pick (u2 >>> ((2 : Int32) &&& 31)) (.ref b1) (.ref b2) (.ref b4)), (own_pick u2 (.ref b1) (.ref b2) (.ref b4)), (.ref b7)])) (fun tt kk => ?_) ?_
  · show Steps p.tables e below (T54.setTop (mkF m 210 #[.val (.int u0), .val (.int u1), .val (.int u2), .val (.ref b1), .val (.ref b2), .val (.ref b4), .val (.ref b7), .val (.ref b28), .val (own_pick u2 (.ref b1) (.ref b2) (.ref b4)), .val (own_pick (u2 >>> ((2 : Int32) &&& 31)) (.ref b1) (.ref b2) (.ref b4)), .val (own_pick (u2 >>> ((4 : Int32) &&& 31)) (.ref b1) (.ref b2) (.ref b4)), .val (own_pick (u2 >>> ((6 : Int32) &&& 31)) (.ref b1) (.ref b2) (.ref b4)), .unset, .unset, .unset, .unset] [(.int (own_B (own_pick u2 (.ref b1) (.ref b2) (.ref b4)) (own_pick (u2 >>> ((2 : Int32) &&& 31)) (.ref b1) (.ref b2) (.ref b4)) nl_27 nr_27))])) tt
    refine XS.istore X54.here hx rfl (hb hby at_210) rfl (l' := #[.val (.int u0), .val (.int u1), .val (.int u2), .val (.ref b1), .val (.ref b2), .val (.ref b4), .val (.ref b7), .val (.ref b28), .val (own_pick u2 (.ref b1) (.ref b2) (.ref b4)), .val (own_pick (u2 >>> ((2 : Int32) &&& 31)) (.ref b1) (.ref b2) (.ref b4)), .val (own_pick (u2 >>> ((4 : Int32) &&& 31)) (.ref b1) (.ref b2) (.ref b4)), .val (own_pick (u2 >>> ((6 : Int32) &&& 31)) (.ref b1) (.ref b2) (.ref b4)), .val (.int (own_B (own_pick u2 (.ref b1) (.ref b2) (.ref b4)) (own_pick (u2 >>> ((2 : Int32) &&& 31)) (.ref b1) (.ref b2) (.ref b4)) nl_27 nr_27)), .unset, .unset, .unset]) rfl ?_
    show Steps p.tables e below (T54.setTop (mkF m 212 #[.val (.int u0), .val (.int u1), .val (.int u2), .val (.ref b1), .val (.ref b2), .val (.ref b4), .val (.ref b7), .val (.ref b28), .val (own_pick u2 (.ref b1) (.ref b2) (.ref b4)), .val (own_pick (u2 >>> ((2 : Int32) &&& 31)) (.ref b1) (.ref b2) (.ref b4)), .val (own_pick (u2 >>> ((4 : Int32) &&& 31)) (.ref b1) (.ref b2) (.ref b4)), .val (own_pick (u2 >>> ((6 : Int32) &&& 31)) (.ref b1) (.ref b2) (.ref b4)), .val (.int (own_B (own_pick u2 (.ref b1) (.ref b2) (.ref b4)) (own_pick (u2 >>> ((2 : Int32) &&& 31)) (.ref b1) (.ref b2) (.ref b4)) nl_27 nr_27)), .unset, .unset, .unset] [])) tt
    refine XS.aload X54.here hx rfl (hb hby at_212) rfl rfl ?_
    show Steps p.tables e below (T54.setTop (mkF m 214 #[.val (.int u0), .val (.int u1), .val (.int u2), .val (.ref b1), .val (.ref b2), .val (.ref b4), .val (.ref b7), .val (.ref b28), .val (own_pick u2 (.ref b1) (.ref b2) (.ref b4)), .val (own_pick (u2 >>> ((2 : Int32) &&& 31)) (.ref b1) (.ref b2) (.ref b4)), .val (own_pick (u2 >>> ((4 : Int32) &&& 31)) (.ref b1) (.ref b2) (.ref b4)), .val (own_pick (u2 >>> ((6 : Int32) &&& 31)) (.ref b1) (.ref b2) (.ref b4)), .val (.int (own_B (own_pick u2 (.ref b1) (.ref b2) (.ref b4)) (own_pick (u2 >>> ((2 : Int32) &&& 31)) (.ref b1) (.ref b2) (.ref b4)) nl_27 nr_27)), .unset, .unset, .unset] [(.ref b7)])) tt
    refine XS.aload X54.here hx rfl (hb hby at_214) rfl (own_pickR u2 b1 b2 b4) ?_
    show Steps p.tables e below (T54.setTop (mkF m 216 #[.val (.int u0), .val (.int u1), .val (.int u2), .val (.ref b1), .val (.ref b2), .val (.ref b4), .val (.ref b7), .val (.ref b28), .val (own_pick u2 (.ref b1) (.ref b2) (.ref b4)), .val (own_pick (u2 >>> ((2 : Int32) &&& 31)) (.ref b1) (.ref b2) (.ref b4)), .val (own_pick (u2 >>> ((4 : Int32) &&& 31)) (.ref b1) (.ref b2) (.ref b4)), .val (own_pick (u2 >>> ((6 : Int32) &&& 31)) (.ref b1) (.ref b2) (.ref b4)), .val (.int (own_B (own_pick u2 (.ref b1) (.ref b2) (.ref b4)) (own_pick (u2 >>> ((2 : Int32) &&& 31)) (.ref b1) (.ref b2) (.ref b4)) nl_27 nr_27)), .unset, .unset, .unset] [(own_pick u2 (.ref b1) (.ref b2) (.ref b4)), (.ref b7)])) tt
    refine XS.aload X54.here hx rfl (hb hby at_216) rfl (own_pickR (u2 >>> ((2 : Int32) &&& 31)) b1 b2 b4) ?_
    exact kk
  have f55 : Exa Z T54.heap b7 "com/example/tributary/tributary/runtime/Revisits" := (((((f32.ext E28).keep K35).keep K40).keep K47).keep K54)
  have f56 : Fld Z T54.heap b7 "com/example/tributary/tributary/runtime/Revisits" "markedLeft" "Ljava/lang/Object;" nl_27 := ((f42.keep K47 (ninS ne_b7_b28 nin0)).keep K54 (ninS ne_b7_b28 nin0))
  have f57 : Fld Z T54.heap b7 "com/example/tributary/tributary/runtime/Revisits" "markedRight" "Ljava/lang/Object;" nr_27 := ((f43.keep K47 (ninS ne_b7_b28 nin0)).keep K54 (ninS ne_b7_b28 nin0))
  have f58 : Fld Z T54.heap b7 "com/example/tributary/tributary/runtime/Revisits" "sinceMark" "J" (.long ns_27) := ((f44.keep K47 (ninS ne_b7_b28 nin0)).keep K54 (ninS ne_b7_b28 nin0))
  have f59 : Fld Z T54.heap b7 "com/example/tributary/tributary/runtime/Revisits" "markInterval" "J" (.long ni_27) := ((f45.keep K47 (ninS ne_b7_b28 nin0)).keep K54 (ninS ne_b7_b28 nin0))
  have f60 : n0 ≤ T54.heap.size := (Nat.le_trans f48 K54.1)
  obtain ⟨cq61, kq61, q61a, q61b, q61c⟩ := isOf hZ rfl f55
  obtain ⟨_, _, ⟨T61, L61, k61, n61⟩, -, X61, ⟨Lc61, hQ61, l61, y61, z61⟩, st61⟩ := X54.virtualBack hx (y := (⟨"com/example/tributary/tributary/runtime/Revisits", "seenBefore", "(Ljava/lang/Object;Ljava/lang/Object;)Z"⟩ : MethodName)) (z := (⟨"com/example/tributary/tributary/runtime/Revisits", "seenBefore", "(Ljava/lang/Object;Ljava/lang/Object;)Z"⟩ : MethodName)) hown (mvT hZ (hw _ (mw 16 rfl))) (mvT hZ (hw _ (mw 17 rfl))) (notFace_of_selects (args := #[]) (mvT hZ (hw _ (mw 19 rfl)))) (mvT hZ (hw _ (mw 19 rfl))) (mvT hZ (hw _ (mw 18 rfl))) (by decide) (backOf (W := 0) (rmsb l Z a0 hw [] b7 (own_pick u2 (.ref b1) (.ref b2) (.ref b4)) (own_pick (u2 >>> ((2 : Int32) &&& 31)) (.ref b1) (.ref b2) (.ref b4)) nl_27 nr_27 ns_27 ni_27 T54.heap n0 f60 f55 f56 f57 f58 f59 g_b7 (own_pickR u2 b1 b2 b4) (own_pickR (u2 >>> ((2 : Int32) &&& 31)) b1 b2 b4) pnl_27 pnr_27) hZ (hw _ (mw 20 rfl)) (hw _ (mw 3 rfl)) (by decide) (by decide)) q61a q61c (g := (mkF m 218 #[.val (.int u0), .val (.int u1), .val (.int u2), .val (.ref b1), .val (.ref b2), .val (.ref b4), .val (.ref b7), .val (.ref b28), .val (own_pick u2 (.ref b1) (.ref b2) (.ref b4)), .val (own_pick (u2 >>> ((2 : Int32) &&& 31)) (.ref b1) (.ref b2) (.ref b4)), .val (own_pick (u2 >>> ((4 : Int32) &&& 31)) (.ref b1) (.ref b2) (.ref b4)), .val (own_pick (u2 >>> ((6 : Int32) &&& 31)) (.ref b1) (.ref b2) (.ref b4)), .val (.int (own_B (own_pick u2 (.ref b1) (.ref b2) (.ref b4)) (own_pick (u2 >>> ((2 : Int32) &&& 31)) (.ref b1) (.ref b2) (.ref b4)) nl_27 nr_27)), .unset, .unset, .unset] [(own_pick (u2 >>> ((2 : Int32) &&& 31)) (.ref b1) (.ref b2) (.ref b4)), (own_pick u2 (.ref b1) (.ref b2) (.ref b4)), (.ref b7)])) rfl (by rw [hml]; rfl) (Steps.refl _) (argsL := [(own_pick u2 (.ref b1) (.ref b2) (.ref b4)), (own_pick (u2 >>> ((2 : Int32) &&& 31)) (.ref b1) (.ref b2) (.ref b4))]) (rest := []) (lenOf pd_2 rfl) rfl (by show 2 * 0 + _ ≤ _; exact Nat.le_of_eq rfl) (hb hby at_218) (fun _ _ => ⟨rfl, rfl, (by decide : 5 + 0 ≤ _), (by decide : 11 + 0 ≤ _)⟩)
  dsimp only [Pt.U, Pt.locs, Pt.cells, Pt.slots] at X61 l61 y61 z61 st61 hQ61
  subst l61 y61 z61
  obtain ⟨nl_61, nr_61, ns_61, ni_61, rfl, N61q, K61, P61_0, P61_1, P61_2, P61_3, pnl_61, pnr_61, qnl_61, qnr_61, qns_61, qni_61⟩ := hQ61
  have N61 := Fr.app N54 N61q
  refine Goal.tr (B := T61.setTop (mkF m 221 #[.val (.int u0), .val (.int u1), .val (.int u2), .val (.ref b1), .val (.ref b2), .val (.ref b4), .val (.ref b7), .val (.ref b28), .val (own_pick u2 (.ref b1) (.ref b2) (.ref b4)), .val (own_pick (u2 >>> ((2 : Int32) &&& 31)) (.ref b1) (.ref b2) (.ref b4)), .val (own_pick (u2 >>> ((4 : Int32) &&& 31)) (.ref b1) (.ref b2) (.ref b4)), .val (own_pick (u2 >>> ((6 : Int32) &&& 31)) (.ref b1) (.ref b2) (.ref b4)), .val (.int (own_B (own_pick u2 (.ref b1) (.ref b2) (.ref b4)) (own_pick (u2 >>> ((2 : Int32) &&& 31)) (.ref b1) (.ref b2) (.ref b4)) nl_27 nr_27)), .unset, .unset, .unset] [(.int (own_B (own_pick u2 (.ref b1) (.ref b2) (.ref b4)) (own_pick (u2 >>> ((2 : Int32) &&& 31)) (.ref b1) (.ref b2) (.ref b4)) nl_27 nr_27))])) st61 ?_
  refine Goal.to (B := T61.setTop (mkF m 229 #[.val (.int u0), .val (.int u1), .val (.int u2), .val (.ref b1), .val (.ref b2), .val (.ref b4), .val (.ref b7), .val (.ref b28), .val (own_pick u2 (.ref b1) (.ref b2) (.ref b4)), .val (own_pick (u2 >>> ((2 : Int32) &&& 31)) (.ref b1) (.ref b2) (.ref b4)), .val (own_pick (u2 >>> ((4 : Int32) &&& 31)) (.ref b1) (.ref b2) (.ref b4)), .val (own_pick (u2 >>> ((6 : Int32) &&& 31)) (.ref b1) (.ref b2) (.ref b4)), .val (.int (own_B (own_pick u2 (.ref b1) (.ref b2) (.ref b4)) (own_pick (u2 >>> ((2 : Int32) &&& 31)) (.ref b1) (.ref b2) (.ref b4)) nl_27 nr_27)), .val (.int (own_B (own_pick u2 (.ref b1) (.ref b2) (.ref b4)) (own_pick (u2 >>> ((2 : Int32) &&& 31)) (.ref b1) (.ref b2) (.ref b4)) nl_27 nr_27)), .unset, .unset] [(own_pick (u2 >>> ((6 : Int32) &&& 31)) (.ref b1) (.ref b2) (.ref b4)), (own_pick (u2 >>> ((4 : Int32) &&& 31)) (.ref b1) (.ref b2) (.ref b4)), (.ref b28)])) (fun tt kk => ?_) ?_
  · show Steps p.tables e below (T61.setTop (mkF m 221 #[.val (.int u0), .val (.int u1), .val (.int u2), .val (.ref b1), .val (.ref b2), .val (.ref b4), .val (.ref b7), .val (.ref b28), .val (own_pick u2 (.ref b1) (.ref b2) (.ref b4)), .val (own_pick (u2 >>> ((2 : Int32) &&& 31)) (.ref b1) (.ref b2) (.ref b4)), .val (own_pick (u2 >>> ((4 : Int32) &&& 31)) (.ref b1) (.ref b2) (.ref b4)), .val (own_pick (u2 >>> ((6 : Int32) &&& 31)) (.ref b1) (.ref b2) (.ref b4)), .val (.int (own_B (own_pick u2 (.ref b1) (.ref b2) (.ref b4)) (own_pick (u2 >>> ((2 : Int32) &&& 31)) (.ref b1) (.ref b2) (.ref b4)) nl_27 nr_27)), .unset, .unset, .unset] [(.int (own_B (own_pick u2 (.ref b1) (.ref b2) (.ref b4)) (own_pick (u2 >>> ((2 : Int32) &&& 31)) (.ref b1) (.ref b2) (.ref b4)) nl_27 nr_27))])) tt
    refine XS.istore X61.here hx rfl (hb hby at_221) rfl (l' := #[.val (.int u0), .val (.int u1), .val (.int u2), .val (.ref b1), .val (.ref b2), .val (.ref b4), .val (.ref b7), .val (.ref b28), .val (own_pick u2 (.ref b1) (.ref b2) (.ref b4)), .val (own_pick (u2 >>> ((2 : Int32) &&& 31)) (.ref b1) (.ref b2) (.ref b4)), .val (own_pick (u2 >>> ((4 : Int32) &&& 31)) (.ref b1) (.ref b2) (.ref b4)), .val (own_pick (u2 >>> ((6 : Int32) &&& 31)) (.ref b1) (.ref b2) (.ref b4)), .val (.int (own_B (own_pick u2 (.ref b1) (.ref b2) (.ref b4)) (own_pick (u2 >>> ((2 : Int32) &&& 31)) (.ref b1) (.ref b2) (.ref b4)) nl_27 nr_27)), .val (.int (own_B (own_pick u2 (.ref b1) (.ref b2) (.ref b4)) (own_pick (u2 >>> ((2 : Int32) &&& 31)) (.ref b1) (.ref b2) (.ref b4)) nl_27 nr_27)), .unset, .unset]) rfl ?_
    show Steps p.tables e below (T61.setTop (mkF m 223 #[.val (.int u0), .val (.int u1), .val (.int u2), .val (.ref b1), .val (.ref b2), .val (.ref b4), .val (.ref b7), .val (.ref b28), .val (own_pick u2 (.ref b1) (.ref b2) (.ref b4)), .val (own_pick (u2 >>> ((2 : Int32) &&& 31)) (.ref b1) (.ref b2) (.ref b4)), .val (own_pick (u2 >>> ((4 : Int32) &&& 31)) (.ref b1) (.ref b2) (.ref b4)), .val (own_pick (u2 >>> ((6 : Int32) &&& 31)) (.ref b1) (.ref b2) (.ref b4)), .val (.int (own_B (own_pick u2 (.ref b1) (.ref b2) (.ref b4)) (own_pick (u2 >>> ((2 : Int32) &&& 31)) (.ref b1) (.ref b2) (.ref b4)) nl_27 nr_27)), .val (.int (own_B (own_pick u2 (.ref b1) (.ref b2) (.ref b4)) (own_pick (u2 >>> ((2 : Int32) &&& 31)) (.ref b1) (.ref b2) (.ref b4)) nl_27 nr_27)), .unset, .unset] [])) tt
    refine XS.aload X61.here hx rfl (hb hby at_223) rfl rfl ?_
    show Steps p.tables e below (T61.setTop (mkF m 225 #[.val (.int u0), .val (.int u1), .val (.int u2), .val (.ref b1), .val (.ref b2), .val (.ref b4), .val (.ref b7), .val (.ref b28), .val (own_pick u2 (.ref b1) (.ref b2) (.ref b4)), .val (own_pick (u2 >>> ((2 : Int32) &&& 31)) (.ref b1) (.ref b2) (.ref b4)), .val (own_pick (u2 >>> ((4 : Int32) &&& 31)) (.ref b1) (.ref b2) (.ref b4)), .val (own_pick (u2 >>> ((6 : Int32) &&& 31)) (.ref b1) (.ref b2) (.ref b4)), .val (.int (own_B (own_pick u2 (.ref b1) (.ref b2) (.ref b4)) (own_pick (u2 >>> ((2 : Int32) &&& 31)) (.ref b1) (.ref b2) (.ref b4)) nl_27 nr_27)), .val (.int (own_B (own_pick u2 (.ref b1) (.ref b2) (.ref b4)) (own_pick (u2 >>> ((2 : Int32) &&& 31)) (.ref b1) (.ref b2) (.ref b4)) nl_27 nr_27)), .unset, .unset] [(.ref b28)])) tt
    refine XS.aload X61.here hx rfl (hb hby at_225) rfl (own_pickR (u2 >>> ((4 : Int32) &&& 31)) b1 b2 b4) ?_
    show Steps p.tables e below (T61.setTop (mkF m 227 #[.val (.int u0), .val (.int u1), .val (.int u2), .val (.ref b1), .val (.ref b2), .val (.ref b4), .val (.ref b7), .val (.ref b28), .val (own_pick u2 (.ref b1) (.ref b2) (.ref b4)), .val (own_pick (u2 >>> ((2 : Int32) &&& 31)) (.ref b1) (.ref b2) (.ref b4)), .val (own_pick (u2 >>> ((4 : Int32) &&& 31)) (.ref b1) (.ref b2) (.ref b4)), .val (own_pick (u2 >>> ((6 : Int32) &&& 31)) (.ref b1) (.ref b2) (.ref b4)), .val (.int (own_B (own_pick u2 (.ref b1) (.ref b2) (.ref b4)) (own_pick (u2 >>> ((2 : Int32) &&& 31)) (.ref b1) (.ref b2) (.ref b4)) nl_27 nr_27)), .val (.int (own_B (own_pick u2 (.ref b1) (.ref b2) (.ref b4)) (own_pick (u2 >>> ((2 : Int32) &&& 31)) (.ref b1) (.ref b2) (.ref b4)) nl_27 nr_27)), .unset, .unset] [(own_pick (u2 >>> ((4 : Int32) &&& 31)) (.ref b1) (.ref b2) (.ref b4)), (.ref b28)])) tt
    refine XS.aload X61.here hx rfl (hb hby at_227) rfl (own_pickR (u2 >>> ((6 : Int32) &&& 31)) b1 b2 b4) ?_
    exact kk
  have f62 : Exa Z T61.heap b28 "com/example/tributary/tributary/runtime/Revisits" := ((f53.keep K54).keep K61)
  have f63 : Fld Z T61.heap b28 "com/example/tributary/tributary/runtime/Revisits" "markedLeft" "Ljava/lang/Object;" nl_54 := (P54_0.keep K61 (ninS (Ne.symm ne_b7_b28) nin0))
  have f64 : Fld Z T61.heap b28 "com/example/tributary/tributary/runtime/Revisits" "markedRight" "Ljava/lang/Object;" nr_54 := (P54_1.keep K61 (ninS (Ne.symm ne_b7_b28) nin0))
  have f65 : Fld Z T61.heap b28 "com/example/tributary/tributary/runtime/Revisits" "sinceMark" "J" (.long ns_54) := (P54_2.keep K61 (ninS (Ne.symm ne_b7_b28) nin0))
  have f66 : Fld Z T61.heap b28 "com/example/tributary/tributary/runtime/Revisits" "markInterval" "J" (.long ni_54) := (P54_3.keep K61 (ninS (Ne.symm ne_b7_b28) nin0))
  have f67 : n0 ≤ T61.heap.size := (Nat.le_trans f60 K61.1)
  obtain ⟨cq68, kq68, q68a, q68b, q68c⟩ := isOf hZ rfl f62
  obtain ⟨_, _, ⟨T68, L68, k68, n68⟩, -, X68, ⟨Lc68, hQ68, l68, y68, z68⟩, st68⟩ := X61.virtualBack hx (y := (⟨"com/example/tributary/tributary/runtime/Revisits", "seenBefore", "(Ljava/lang/Object;Ljava/lang/Object;)Z"⟩ : MethodName)) (z := (⟨"com/example/tributary/tributary/runtime/Revisits", "seenBefore", "(Ljava/lang/Object;Ljava/lang/Object;)Z"⟩ : MethodName)) hown (mvT hZ (hw _ (mw 16 rfl))) (mvT hZ (hw _ (mw 17 rfl))) (notFace_of_selects (args := #[]) (mvT hZ (hw _ (mw 19 rfl)))) (mvT hZ (hw _ (mw 19 rfl))) (mvT hZ (hw _ (mw 18 rfl))) (by decide) (backOf (W := 0) (rmsb l Z a0 hw [] b28 (own_pick (u2 >>> ((4 : Int32) &&& 31)) (.ref b1) (.ref b2) (.ref b4)) (own_pick (u2 >>> ((6 : Int32) &&& 31)) (.ref b1) (.ref b2) (.ref b4)) nl_54 nr_54 ns_54 ni_54 T61.heap n0 f67 f62 f63 f64 f65 f66 g_b28 (own_pickR (u2 >>> ((4 : Int32) &&& 31)) b1 b2 b4) (own_pickR (u2 >>> ((6 : Int32) &&& 31)) b1 b2 b4) pnl_54 pnr_54) hZ (hw _ (mw 20 rfl)) (hw _ (mw 3 rfl)) (by decide) (by decide)) q68a q68c (g := (mkF m 229 #[.val (.int u0), .val (.int u1), .val (.int u2), .val (.ref b1), .val (.ref b2), .val (.ref b4), .val (.ref b7), .val (.ref b28), .val (own_pick u2 (.ref b1) (.ref b2) (.ref b4)), .val (own_pick (u2 >>> ((2 : Int32) &&& 31)) (.ref b1) (.ref b2) (.ref b4)), .val (own_pick (u2 >>> ((4 : Int32) &&& 31)) (.ref b1) (.ref b2) (.ref b4)), .val (own_pick (u2 >>> ((6 : Int32) &&& 31)) (.ref b1) (.ref b2) (.ref b4)), .val (.int (own_B (own_pick u2 (.ref b1) (.ref b2) (.ref b4)) (own_pick (u2 >>> ((2 : Int32) &&& 31)) (.ref b1) (.ref b2) (.ref b4)) nl_27 nr_27)), .val (.int (own_B (own_pick u2 (.ref b1) (.ref b2) (.ref b4)) (own_pick (u2 >>> ((2 : Int32) &&& 31)) (.ref b1) (.ref b2) (.ref b4)) nl_27 nr_27)), .unset, .unset] [(own_pick (u2 >>> ((6 : Int32) &&& 31)) (.ref b1) (.ref b2) (.ref b4)), (own_pick (u2 >>> ((4 : Int32) &&& 31)) (.ref b1) (.ref b2) (.ref b4)), (.ref b28)])) rfl (by rw [hml]; rfl) (Steps.refl _) (argsL := [(own_pick (u2 >>> ((4 : Int32) &&& 31)) (.ref b1) (.ref b2) (.ref b4)), (own_pick (u2 >>> ((6 : Int32) &&& 31)) (.ref b1) (.ref b2) (.ref b4))]) (rest := []) (lenOf pd_2 rfl) rfl (by show 2 * 0 + _ ≤ _; exact Nat.le_of_eq rfl) (hb hby at_229) (fun _ _ => ⟨rfl, rfl, (by decide : 5 + 0 ≤ _), (by decide : 11 + 0 ≤ _)⟩)
  dsimp only [Pt.U, Pt.locs, Pt.cells, Pt.slots] at X68 l68 y68 z68 st68 hQ68
  subst l68 y68 z68
  obtain ⟨nl_68, nr_68, ns_68, ni_68, rfl, N68q, K68, P68_0, P68_1, P68_2, P68_3, pnl_68, pnr_68, qnl_68, qnr_68, qns_68, qni_68⟩ := hQ68
  have N68 := Fr.app N61 N68q
  refine Goal.tr (B := T68.setTop (mkF m 232 #[.val (.int u0), .val (.int u1), .val (.int u2), .val (.ref b1), .val (.ref b2), .val (.ref b4), .val (.ref b7), .val (.ref b28), .val (own_pick u2 (.ref b1) (.ref b2) (.ref b4)), .val (own_pick (u2 >>> ((2 : Int32) &&& 31)) (.ref b1) (.ref b2) (.ref b4)), .val (own_pick (u2 >>> ((4 : Int32) &&& 31)) (.ref b1) (.ref b2) (.ref b4)), .val (own_pick (u2 >>> ((6 : Int32) &&& 31)) (.ref b1) (.ref b2) (.ref b4)), .val (.int (own_B (own_pick u2 (.ref b1) (.ref b2) (.ref b4)) (own_pick (u2 >>> ((2 : Int32) &&& 31)) (.ref b1) (.ref b2) (.ref b4)) nl_27 nr_27)), .val (.int (own_B (own_pick u2 (.ref b1) (.ref b2) (.ref b4)) (own_pick (u2 >>> ((2 : Int32) &&& 31)) (.ref b1) (.ref b2) (.ref b4)) nl_27 nr_27)), .unset, .unset] [(.int (own_B (own_pick (u2 >>> ((4 : Int32) &&& 31)) (.ref b1) (.ref b2) (.ref b4)) (own_pick (u2 >>> ((6 : Int32) &&& 31)) (.ref b1) (.ref b2) (.ref b4)) nl_54 nr_54))])) st68 ?_
  refine Goal.to (B := T68.setTop (mkF m 240 #[.val (.int u0), .val (.int u1), .val (.int u2), .val (.ref b1), .val (.ref b2), .val (.ref b4), .val (.ref b7), .val (.ref b28), .val (own_pick u2 (.ref b1) (.ref b2) (.ref b4)), .val (own_pick (u2 >>> ((2 : Int32) &&& 31)) (.ref b1) (.ref b2) (.ref b4)), .val (own_pick (u2 >>> ((4 : Int32) &&& 31)) (.ref b1) (.ref b2) (.ref b4)), .val (own_pick (u2 >>> ((6 : Int32) &&& 31)) (.ref b1) (.ref b2) (.ref b4)), .val (.int (own_B (own_pick u2 (.ref b1) (.ref b2) (.ref b4)) (own_pick (u2 >>> ((2 : Int32) &&& 31)) (.ref b1) (.ref b2) (.ref b4)) nl_27 nr_27)), .val (.int (own_B (own_pick u2 (.ref b1) (.ref b2) (.ref b4)) (own_pick (u2 >>> ((2 : Int32) &&& 31)) (.ref b1) (.ref b2) (.ref b4)) nl_27 nr_27)), .val (.int (own_B (own_pick (u2 >>> ((4 : Int32) &&& 31)) (.ref b1) (.ref b2) (.ref b4)) (own_pick (u2 >>> ((6 : Int32) &&& 31)) (.ref b1) (.ref b2) (.ref b4)) nl_54 nr_54)), .unset] [(own_pick (u2 >>> ((6 : Int32) &&& 31)) (.ref b1) (.ref b2) (.ref b4)), (own_pick (u2 >>> ((4 : Int32) &&& 31)) (.ref b1) (.ref b2) (.ref b4)), (.ref b7)])) (fun tt kk => ?_) ?_
  · show Steps p.tables e below (T68.setTop (mkF m 232 #[.val (.int u0), .val (.int u1), .val (.int u2), .val (.ref b1), .val (.ref b2), .val (.ref b4), .val (.ref b7), .val (.ref b28), .val (own_pick u2 (.ref b1) (.ref b2) (.ref b4)), .val (own_pick (u2 >>> ((2 : Int32) &&& 31)) (.ref b1) (.ref b2) (.ref b4)), .val (own_pick (u2 >>> ((4 : Int32) &&& 31)) (.ref b1) (.ref b2) (.ref b4)), .val (own_pick (u2 >>> ((6 : Int32) &&& 31)) (.ref b1) (.ref b2) (.ref b4)), .val (.int (own_B (own_pick u2 (.ref b1) (.ref b2) (.ref b4)) (own_pick (u2 >>> ((2 : Int32) &&& 31)) (.ref b1) (.ref b2) (.ref b4)) nl_27 nr_27)), .val (.int (own_B (own_pick u2 (.ref b1) (.ref b2) (.ref b4)) (own_pick (u2 >>> ((2 : Int32) &&& 31)) (.ref b1) (.ref b2) (.ref b4)) nl_27 nr_27)), .unset, .unset] [(.int (own_B (own_pick (u2 >>> ((4 : Int32) &&& 31)) (.ref b1) (.ref b2) (.ref b4)) (own_pick (u2 >>> ((6 : Int32) &&& 31)) (.ref b1) (.ref b2) (.ref b4)) nl_54 nr_54))])) tt
    refine XS.istore X68.here hx rfl (hb hby at_232) rfl (l' := #[.val (.int u0), .val (.int u1), .val (.int u2), .val (.ref b1), .val (.ref b2), .val (.ref b4), .val (.ref b7), .val (.ref b28), .val (own_pick u2 (.ref b1) (.ref b2) (.ref b4)), .val (own_pick (u2 >>> ((2 : Int32) &&& 31)) (.ref b1) (.ref b2) (.ref b4)), .val (own_pick (u2 >>> ((4 : Int32) &&& 31)) (.ref b1) (.ref b2) (.ref b4)), .val (own_pick (u2 >>> ((6 : Int32) &&& 31)) (.ref b1) (.ref b2) (.ref b4)), .val (.int (own_B (own_pick u2 (.ref b1) (.ref b2) (.ref b4)) (own_pick (u2 >>> ((2 : Int32) &&& 31)) (.ref b1) (.ref b2) (.ref b4)) nl_27 nr_27)), .val (.int (own_B (own_pick u2 (.ref b1) (.ref b2) (.ref b4)) (own_pick (u2 >>> ((2 : Int32) &&& 31)) (.ref b1) (.ref b2) (.ref b4)) nl_27 nr_27)), .val (.int (own_B (own_pick (u2 >>> ((4 : Int32) &&& 31)) (.ref b1) (.ref b2) (.ref b4)) (own_pick (u2 >>> ((6 : Int32) &&& 31)) (.ref b1) (.ref b2) (.ref b4)) nl_54 nr_54)), .unset]) rfl ?_
    show Steps p.tables e below (T68.setTop (mkF m 234 #[.val (.int u0), .val (.int u1), .val (.int u2), .val (.ref b1), .val (.ref b2), .val (.ref b4), .val (.ref b7), .val (.ref b28), .val (own_pick u2 (.ref b1) (.ref b2) (.ref b4)), .val (own_pick (u2 >>> ((2 : Int32) &&& 31)) (.ref b1) (.ref b2) (.ref b4)), .val (own_pick (u2 >>> ((4 : Int32) &&& 31)) (.ref b1) (.ref b2) (.ref b4)), .val (own_pick (u2 >>> ((6 : Int32) &&& 31)) (.ref b1) (.ref b2) (.ref b4)), .val (.int (own_B (own_pick u2 (.ref b1) (.ref b2) (.ref b4)) (own_pick (u2 >>> ((2 : Int32) &&& 31)) (.ref b1) (.ref b2) (.ref b4)) nl_27 nr_27)), .val (.int (own_B (own_pick u2 (.ref b1) (.ref b2) (.ref b4)) (own_pick (u2 >>> ((2 : Int32) &&& 31)) (.ref b1) (.ref b2) (.ref b4)) nl_27 nr_27)), .val (.int (own_B (own_pick (u2 >>> ((4 : Int32) &&& 31)) (.ref b1) (.ref b2) (.ref b4)) (own_pick (u2 >>> ((6 : Int32) &&& 31)) (.ref b1) (.ref b2) (.ref b4)) nl_54 nr_54)), .unset] [])) tt
    refine XS.aload X68.here hx rfl (hb hby at_234) rfl rfl ?_
    show Steps p.tables e below (T68.setTop (mkF m 236 #[.val (.int u0), .val (.int u1), .val (.int u2), .val (.ref b1), .val (.ref b2), .val (.ref b4), .val (.ref b7), .val (.ref b28), .val (own_pick u2 (.ref b1) (.ref b2) (.ref b4)), .val (own_pick (u2 >>> ((2 : Int32) &&& 31)) (.ref b1) (.ref b2) (.ref b4)), .val (own_pick (u2 >>> ((4 : Int32) &&& 31)) (.ref b1) (.ref b2) (.ref b4)), .val (own_pick (u2 >>> ((6 : Int32) &&& 31)) (.ref b1) (.ref b2) (.ref b4)), .val (.int (own_B (own_pick u2 (.ref b1) (.ref b2) (.ref b4)) (own_pick (u2 >>> ((2 : Int32) &&& 31)) (.ref b1) (.ref b2) (.ref b4)) nl_27 nr_27)), .val (.int (own_B (own_pick u2 (.ref b1) (.ref b2) (.ref b4)) (own_pick (u2 >>> ((2 : Int32) &&& 31)) (.ref b1) (.ref b2) (.ref b4)) nl_27 nr_27)), .val (.int (own_B (own_pick (u2 >>> ((4 : Int32) &&& 31)) (.ref b1) (.ref b2) (.ref b4)) (own_pick (u2 >>> ((6 : Int32) &&& 31)) (.ref b1) (.ref b2) (.ref b4)) nl_54 nr_54)), .unset] [(.ref b7)])) tt
    refine XS.aload X68.here hx rfl (hb hby at_236) rfl (own_pickR (u2 >>> ((4 : Int32) &&& 31)) b1 b2 b4) ?_
    show Steps p.tables e below (T68.setTop (mkF m 238 #[.val (.int u0), .val (.int u1), .val (.int u2), .val (.ref b1), .val (.ref b2), .val (.ref b4), .val (.ref b7), .val (.ref b28), .val (own_pick u2 (.ref b1) (.ref b2) (.ref b4)), .val (own_pick (u2 >>> ((2 : Int32) &&& 31)) (.ref b1) (.ref b2) (.ref b4)), .val (own_pick (u2 >>> ((4 : Int32) &&& 31)) (.ref b1) (.ref b2) (.ref b4)), .val (own_pick (u2 >>> ((6 : Int32) &&& 31)) (.ref b1) (.ref b2) (.ref b4)), .val (.int (own_B (own_pick u2 (.ref b1) (.ref b2) (.ref b4)) (own_pick (u2 >>> ((2 : Int32) &&& 31)) (.ref b1) (.ref b2) (.ref b4)) nl_27 nr_27)), .val (.int (own_B (own_pick u2 (.ref b1) (.ref b2) (.ref b4)) (own_pick (u2 >>> ((2 : Int32) &&& 31)) (.ref b1) (.ref b2) (.ref b4)) nl_27 nr_27)), .val (.int (own_B (own_pick (u2 >>> ((4 : Int32) &&& 31)) (.ref b1) (.ref b2) (.ref b4)) (own_pick (u2 >>> ((6 : Int32) &&& 31)) (.ref b1) (.ref b2) (.ref b4)) nl_54 nr_54)), .unset] [(own_pick (u2 >>> ((4 : Int32) &&& 31)) (.ref b1) (.ref b2) (.ref b4)), (.ref b7)])) tt
    refine XS.aload X68.here hx rfl (hb hby at_238) rfl (own_pickR (u2 >>> ((6 : Int32) &&& 31)) b1 b2 b4) ?_
    exact kk
  have f69 : Exa Z T68.heap b7 "com/example/tributary/tributary/runtime/Revisits" := ((f55.keep K61).keep K68)
  have f70 : Fld Z T68.heap b7 "com/example/tributary/tributary/runtime/Revisits" "markedLeft" "Ljava/lang/Object;" nl_61 := (P61_0.keep K68 (ninS ne_b7_b28 nin0))
  have f71 : Fld Z T68.heap b7 "com/example/tributary/tributary/runtime/Revisits" "markedRight" "Ljava/lang/Object;" nr_61 := (P61_1.keep K68 (ninS ne_b7_b28 nin0))
  have f72 : Fld Z T68.heap b7 "com/example/tributary/tributary/runtime/Revisits" "sinceMark" "J" (.long ns_61) := (P61_2.keep K68 (ninS ne_b7_b28 nin0))
  have f73 : Fld Z T68.heap b7 "com/example/tributary/tributary/runtime/Revisits" "markInterval" "J" (.long ni_61) := (P61_3.keep K68 (ninS ne_b7_b28 nin0))
  have f74 : n0 ≤ T68.heap.size := (Nat.le_trans f67 K68.1)
  obtain ⟨cq75, kq75, q75a, q75b, q75c⟩ := isOf hZ rfl f69
  obtain ⟨_, _, ⟨T75, L75, k75, n75⟩, -, X75, ⟨Lc75, hQ75, l75, y75, z75⟩, st75⟩ := X68.virtualBack hx (y := (⟨"com/example/tributary/tributary/runtime/Revisits", "seenBefore", "(Ljava/lang/Object;Ljava/lang/Object;)Z"⟩ : MethodName)) (z := (⟨"com/example/tributary/tributary/runtime/Revisits", "seenBefore", "(Ljava/lang/Object;Ljava/lang/Object;)Z"⟩ : MethodName)) hown (mvT hZ (hw _ (mw 16 rfl))) (mvT hZ (hw _ (mw 17 rfl))) (notFace_of_selects (args := #[]) (mvT hZ (hw _ (mw 19 rfl)))) (mvT hZ (hw _ (mw 19 rfl))) (mvT hZ (hw _ (mw 18 rfl))) (by decide) (backOf (W := 0) (rmsb l Z a0 hw [] b7 (own_pick (u2 >>> ((4 : Int32) &&& 31)) (.ref b1) (.ref b2) (.ref b4)) (own_pick (u2 >>> ((6 : Int32) &&& 31)) (.ref b1) (.ref b2) (.ref b4)) nl_61 nr_61 ns_61 ni_61 T68.heap n0 f74 f69 f70 f71 f72 f73 g_b7 (own_pickR (u2 >>> ((4 : Int32) &&& 31)) b1 b2 b4) (own_pickR (u2 >>> ((6 : Int32) &&& 31)) b1 b2 b4) pnl_61 pnr_61) hZ (hw _ (mw 20 rfl)) (hw _ (mw 3 rfl)) (by decide) (by decide)) q75a q75c (g := (mkF m 240 #[.val (.int u0), .val (.int u1), .val (.int u2), .val (.ref b1), .val (.ref b2), .val (.ref b4), .val (.ref b7), .val (.ref b28), .val (own_pick u2 (.ref b1) (.ref b2) (.ref b4)), .val (own_pick (u2 >>> ((2 : Int32) &&& 31)) (.ref b1) (.ref b2) (.ref b4)), .val (own_pick (u2 >>> ((4 : Int32) &&& 31)) (.ref b1) (.ref b2) (.ref b4)), .val (own_pick (u2 >>> ((6 : Int32) &&& 31)) (.ref b1) (.ref b2) (.ref b4)), .val (.int (own_B (own_pick u2 (.ref b1) (.ref b2) (.ref b4)) (own_pick (u2 >>> ((2 : Int32) &&& 31)) (.ref b1) (.ref b2) (.ref b4)) nl_27 nr_27)), .val (.int (own_B (own_pick u2 (.ref b1) (.ref b2) (.ref b4)) (own_pick (u2 >>> ((2 : Int32) &&& 31)) (.ref b1) (.ref b2) (.ref b4)) nl_27 nr_27)), .val (.int (own_B (own_pick (u2 >>> ((4 : Int32) &&& 31)) (.ref b1) (.ref b2) (.ref b4)) (own_pick (u2 >>> ((6 : Int32) &&& 31)) (.ref b1) (.ref b2) (.ref b4)) nl_54 nr_54)), .unset] [(own_pick (u2 >>> ((6 : Int32) &&& 31)) (.ref b1) (.ref b2) (.ref b4)), (own_pick (u2 >>> ((4 : Int32) &&& 31)) (.ref b1) (.ref b2) (.ref b4)), (.ref b7)])) rfl (by rw [hml]; rfl) (Steps.refl _) (argsL := [(own_pick (u2 >>> ((4 : Int32) &&& 31)) (.ref b1) (.ref b2) (.ref b4)), (own_pick (u2 >>> ((6 : Int32) &&& 31)) (.ref b1) (.ref b2) (.ref b4))]) (rest := []) (lenOf pd_2 rfl) rfl (by show 2 * 0 + _ ≤ _; exact Nat.le_of_eq rfl) (hb hby at_240) (fun _ _ => ⟨rfl, rfl, (by decide : 5 + 0 ≤ _), (by decide : 11 + 0 ≤ _)⟩)
  dsimp only [Pt.U, Pt.locs, Pt.cells, Pt.slots] at X75 l75 y75 z75 st75 hQ75
  subst l75 y75 z75
  obtain ⟨nl_75, nr_75, ns_75, ni_75, rfl, N75q, K75, P75_0, P75_1, P75_2, P75_3, pnl_75, pnr_75, qnl_75, qnr_75, qns_75, qni_75⟩ := hQ75
  have N75 := Fr.app N68 N75q
  refine Goal.tr (B := T75.setTop (mkF m 243 #[.val (.int u0), .val (.int u1), .val (.int u2), .val (.ref b1), .val (.ref b2), .val (.ref b4), .val (.ref b7), .val (.ref b28), .val (own_pick u2 (.ref b1) (.ref b2) (.ref b4)), .val (own_pick (u2 >>> ((2 : Int32) &&& 31)) (.ref b1) (.ref b2) (.ref b4)), .val (own_pick (u2 >>> ((4 : Int32) &&& 31)) (.ref b1) (.ref b2) (.ref b4)), .val (own_pick (u2 >>> ((6 : Int32) &&& 31)) (.ref b1) (.ref b2) (.ref b4)), .val (.int (own_B (own_pick u2 (.ref b1) (.ref b2) (.ref b4)) (own_pick (u2 >>> ((2 : Int32) &&& 31)) (.ref b1) (.ref b2) (.ref b4)) nl_27 nr_27)), .val (.int (own_B (own_pick u2 (.ref b1) (.ref b2) (.ref b4)) (own_pick (u2 >>> ((2 : Int32) &&& 31)) (.ref b1) (.ref b2) (.ref b4)) nl_27 nr_27)), .val (.int (own_B (own_pick (u2 >>> ((4 : Int32) &&& 31)) (.ref b1) (.ref b2) (.ref b4)) (own_pick (u2 >>> ((6 : Int32) &&& 31)) (.ref b1) (.ref b2) (.ref b4)) nl_54 nr_54)), .unset] [(.int (own_B (own_pick (u2 >>> ((4 : Int32) &&& 31)) (.ref b1) (.ref b2) (.ref b4)) (own_pick (u2 >>> ((6 : Int32) &&& 31)) (.ref b1) (.ref b2) (.ref b4)) nl_61 nr_61))])) st75 ?_
  refine Goal.to (B := T75.setTop (mkF m 264 #[.val (.int u0), .val (.int u1), .val (.int u2), .val (.ref b1), .val (.ref b2), .val (.ref b4), .val (.ref b7), .val (.ref b28), .val (own_pick u2 (.ref b1) (.ref b2) (.ref b4)), .val (own_pick (u2 >>> ((2 : Int32) &&& 31)) (.ref b1) (.ref b2) (.ref b4)), .val (own_pick (u2 >>> ((4 : Int32) &&& 31)) (.ref b1) (.ref b2) (.ref b4)), .val (own_pick (u2 >>> ((6 : Int32) &&& 31)) (.ref b1) (.ref b2) (.ref b4)), .val (.int (own_B (own_pick u2 (.ref b1) (.ref b2) (.ref b4)) (own_pick (u2 >>> ((2 : Int32) &&& 31)) (.ref b1) (.ref b2) (.ref b4)) nl_27 nr_27)), .val (.int (own_B (own_pick u2 (.ref b1) (.ref b2) (.ref b4)) (own_pick (u2 >>> ((2 : Int32) &&& 31)) (.ref b1) (.ref b2) (.ref b4)) nl_27 nr_27)), .val (.int (own_B (own_pick (u2 >>> ((4 : Int32) &&& 31)) (.ref b1) (.ref b2) (.ref b4)) (own_pick (u2 >>> ((6 : Int32) &&& 31)) (.ref b1) (.ref b2) (.ref b4)) nl_54 nr_54)), .val (.int (own_B (own_pick (u2 >>> ((4 : Int32) &&& 31)) (.ref b1) (.ref b2) (.ref b4)) (own_pick (u2 >>> ((6 : Int32) &&& 31)) (.ref b1) (.ref b2) (.ref b4)) nl_61 nr_61))] [(.int (1 : Int32))])) (fun tt kk => ?_) ?_
  · show Steps p.tables e below (T75.setTop (mkF m 243 #[.val (.int u0), .val (.int u1), .val (.int u2), .val (.ref b1), .val (.ref b2), .val (.ref b4), .val (.ref b7), .val (.ref b28), .val (own_pick u2 (.ref b1) (.ref b2) (.ref b4)), .val (own_pick (u2 >>> ((2 : Int32) &&& 31)) (.ref b1) (.ref b2) (.ref b4)), .val (own_pick (u2 >>> ((4 : Int32) &&& 31)) (.ref b1) (.ref b2) (.ref b4)), .val (own_pick (u2 >>> ((6 : Int32) &&& 31)) (.ref b1) (.ref b2) (.ref b4)), .val (.int (own_B (own_pick u2 (.ref b1) (.ref b2) (.ref b4)) (own_pick (u2 >>> ((2 : Int32) &&& 31)) (.ref b1) (.ref b2) (.ref b4)) nl_27 nr_27)), .val (.int (own_B (own_pick u2 (.ref b1) (.ref b2) (.ref b4)) (own_pick (u2 >>> ((2 : Int32) &&& 31)) (.ref b1) (.ref b2) (.ref b4)) nl_27 nr_27)), .val (.int (own_B (own_pick (u2 >>> ((4 : Int32) &&& 31)) (.ref b1) (.ref b2) (.ref b4)) (own_pick (u2 >>> ((6 : Int32) &&& 31)) (.ref b1) (.ref b2) (.ref b4)) nl_54 nr_54)), .unset] [(.int (own_B (own_pick (u2 >>> ((4 : Int32) &&& 31)) (.ref b1) (.ref b2) (.ref b4)) (own_pick (u2 >>> ((6 : Int32) &&& 31)) (.ref b1) (.ref b2) (.ref b4)) nl_61 nr_61))])) tt
    refine XS.istore X75.here hx rfl (hb hby at_243) rfl (l' := #[.val (.int u0), .val (.int u1), .val (.int u2), .val (.ref b1), .val (.ref b2), .val (.ref b4), .val (.ref b7), .val (.ref b28), .val (own_pick u2 (.ref b1) (.ref b2) (.ref b4)), .val (own_pick (u2 >>> ((2 : Int32) &&& 31)) (.ref b1) (.ref b2) (.ref b4)), .val (own_pick (u2 >>> ((4 : Int32) &&& 31)) (.ref b1) (.ref b2) (.ref b4)), .val (own_pick (u2 >>> ((6 : Int32) &&& 31)) (.ref b1) (.ref b2) (.ref b4)), .val (.int (own_B (own_pick u2 (.ref b1) (.ref b2) (.ref b4)) (own_pick (u2 >>> ((2 : Int32) &&& 31)) (.ref b1) (.ref b2) (.ref b4)) nl_27 nr_27)), .val (.int (own_B (own_pick u2 (.ref b1) (.ref b2) (.ref b4)) (own_pick (u2 >>> ((2 : Int32) &&& 31)) (.ref b1) (.ref b2) (.ref b4)) nl_27 nr_27)), .val (.int (own_B (own_pick (u2 >>> ((4 : Int32) &&& 31)) (.ref b1) (.ref b2) (.ref b4)) (own_pick (u2 >>> ((6 : Int32) &&& 31)) (.ref b1) (.ref b2) (.ref b4)) nl_54 nr_54)), .val (.int (own_B (own_pick (u2 >>> ((4 : Int32) &&& 31)) (.ref b1) (.ref b2) (.ref b4)) (own_pick (u2 >>> ((6 : Int32) &&& 31)) (.ref b1) (.ref b2) (.ref b4)) nl_61 nr_61))]) rfl ?_
    show Steps p.tables e below (T75.setTop (mkF m 245 #[.val (.int u0), .val (.int u1), .val (.int u2), .val (.ref b1), .val (.ref b2), .val (.ref b4), .val (.ref b7), .val (.ref b28), .val (own_pick u2 (.ref b1) (.ref b2) (.ref b4)), .val (own_pick (u2 >>> ((2 : Int32) &&& 31)) (.ref b1) (.ref b2) (.ref b4)), .val (own_pick (u2 >>> ((4 : Int32) &&& 31)) (.ref b1) (.ref b2) (.ref b4)), .val (own_pick (u2 >>> ((6 : Int32) &&& 31)) (.ref b1) (.ref b2) (.ref b4)), .val (.int (own_B (own_pick u2 (.ref b1) (.ref b2) (.ref b4)) (own_pick (u2 >>> ((2 : Int32) &&& 31)) (.ref b1) (.ref b2) (.ref b4)) nl_27 nr_27)), .val (.int (own_B (own_pick u2 (.ref b1) (.ref b2) (.ref b4)) (own_pick (u2 >>> ((2 : Int32) &&& 31)) (.ref b1) (.ref b2) (.ref b4)) nl_27 nr_27)), .val (.int (own_B (own_pick (u2 >>> ((4 : Int32) &&& 31)) (.ref b1) (.ref b2) (.ref b4)) (own_pick (u2 >>> ((6 : Int32) &&& 31)) (.ref b1) (.ref b2) (.ref b4)) nl_54 nr_54)), .val (.int (own_B (own_pick (u2 >>> ((4 : Int32) &&& 31)) (.ref b1) (.ref b2) (.ref b4)) (own_pick (u2 >>> ((6 : Int32) &&& 31)) (.ref b1) (.ref b2) (.ref b4)) nl_61 nr_61))] [])) tt
    refine XS.iload X75.here hx rfl (hb hby at_245) rfl ?_
    show Steps p.tables e below (T75.setTop (mkF m 247 #[.val (.int u0), .val (.int u1), .val (.int u2), .val (.ref b1), .val (.ref b2), .val (.ref b4), .val (.ref b7), .val (.ref b28), .val (own_pick u2 (.ref b1) (.ref b2) (.ref b4)), .val (own_pick (u2 >>> ((2 : Int32) &&& 31)) (.ref b1) (.ref b2) (.ref b4)), .val (own_pick (u2 >>> ((4 : Int32) &&& 31)) (.ref b1) (.ref b2) (.ref b4)), .val (own_pick (u2 >>> ((6 : Int32) &&& 31)) (.ref b1) (.ref b2) (.ref b4)), .val (.int (own_B (own_pick u2 (.ref b1) (.ref b2) (.ref b4)) (own_pick (u2 >>> ((2 : Int32) &&& 31)) (.ref b1) (.ref b2) (.ref b4)) nl_27 nr_27)), .val (.int (own_B (own_pick u2 (.ref b1) (.ref b2) (.ref b4)) (own_pick (u2 >>> ((2 : Int32) &&& 31)) (.ref b1) (.ref b2) (.ref b4)) nl_27 nr_27)), .val (.int (own_B (own_pick (u2 >>> ((4 : Int32) &&& 31)) (.ref b1) (.ref b2) (.ref b4)) (own_pick (u2 >>> ((6 : Int32) &&& 31)) (.ref b1) (.ref b2) (.ref b4)) nl_54 nr_54)), .val (.int (own_B (own_pick (u2 >>> ((4 : Int32) &&& 31)) (.ref b1) (.ref b2) (.ref b4)) (own_pick (u2 >>> ((6 : Int32) &&& 31)) (.ref b1) (.ref b2) (.ref b4)) nl_61 nr_61))] [(.int (own_B (own_pick u2 (.ref b1) (.ref b2) (.ref b4)) (own_pick (u2 >>> ((2 : Int32) &&& 31)) (.ref b1) (.ref b2) (.ref b4)) nl_27 nr_27))])) tt
    refine XS.iload X75.here hx rfl (hb hby at_247) rfl ?_
    show Steps p.tables e below (T75.setTop (mkF m 249 #[.val (.int u0), .val (.int u1), .val (.int u2), .val (.ref b1), .val (.ref b2), .val (.ref b4), .val (.ref b7), .val (.ref b28), .val (own_pick u2 (.ref b1) (.ref b2) (.ref b4)), .val (own_pick (u2 >>> ((2 : Int32) &&& 31)) (.ref b1) (.ref b2) (.ref b4)), .val (own_pick (u2 >>> ((4 : Int32) &&& 31)) (.ref b1) (.ref b2) (.ref b4)), .val (own_pick (u2 >>> ((6 : Int32) &&& 31)) (.ref b1) (.ref b2) (.ref b4)), .val (.int (own_B (own_pick u2 (.ref b1) (.ref b2) (.ref b4)) (own_pick (u2 >>> ((2 : Int32) &&& 31)) (.ref b1) (.ref b2) (.ref b4)) nl_27 nr_27)), .val (.int (own_B (own_pick u2 (.ref b1) (.ref b2) (.ref b4)) (own_pick (u2 >>> ((2 : Int32) &&& 31)) (.ref b1) (.ref b2) (.ref b4)) nl_27 nr_27)), .val (.int (own_B (own_pick (u2 >>> ((4 : Int32) &&& 31)) (.ref b1) (.ref b2) (.ref b4)) (own_pick (u2 >>> ((6 : Int32) &&& 31)) (.ref b1) (.ref b2) (.ref b4)) nl_54 nr_54)), .val (.int (own_B (own_pick (u2 >>> ((4 : Int32) &&& 31)) (.ref b1) (.ref b2) (.ref b4)) (own_pick (u2 >>> ((6 : Int32) &&& 31)) (.ref b1) (.ref b2) (.ref b4)) nl_61 nr_61))] [(.int (own_B (own_pick u2 (.ref b1) (.ref b2) (.ref b4)) (own_pick (u2 >>> ((2 : Int32) &&& 31)) (.ref b1) (.ref b2) (.ref b4)) nl_27 nr_27)), (.int (own_B (own_pick u2 (.ref b1) (.ref b2) (.ref b4)) (own_pick (u2 >>> ((2 : Int32) &&& 31)) (.ref b1) (.ref b2) (.ref b4)) nl_27 nr_27))])) tt
    refine XS.icmpNo X75.here hx rfl (hb hby at_249) rfl (teq (rfl : (own_B (own_pick u2 (.ref b1) (.ref b2) (.ref b4)) (own_pick (u2 >>> ((2 : Int32) &&& 31)) (.ref b1) (.ref b2) (.ref b4)) nl_27 nr_27) = (own_B (own_pick u2 (.ref b1) (.ref b2) (.ref b4)) (own_pick (u2 >>> ((2 : Int32) &&& 31)) (.ref b1) (.ref b2) (.ref b4)) nl_27 nr_27))).2 ?_
    show Steps p.tables e below (T75.setTop (mkF m 252 #[.val (.int u0), .val (.int u1), .val (.int u2), .val (.ref b1), .val (.ref b2), .val (.ref b4), .val (.ref b7), .val (.ref b28), .val (own_pick u2 (.ref b1) (.ref b2) (.ref b4)), .val (own_pick (u2 >>> ((2 : Int32) &&& 31)) (.ref b1) (.ref b2) (.ref b4)), .val (own_pick (u2 >>> ((4 : Int32) &&& 31)) (.ref b1) (.ref b2) (.ref b4)), .val (own_pick (u2 >>> ((6 : Int32) &&& 31)) (.ref b1) (.ref b2) (.ref b4)), .val (.int (own_B (own_pick u2 (.ref b1) (.ref b2) (.ref b4)) (own_pick (u2 >>> ((2 : Int32) &&& 31)) (.ref b1) (.ref b2) (.ref b4)) nl_27 nr_27)), .val (.int (own_B (own_pick u2 (.ref b1) (.ref b2) (.ref b4)) (own_pick (u2 >>> ((2 : Int32) &&& 31)) (.ref b1) (.ref b2) (.ref b4)) nl_27 nr_27)), .val (.int (own_B (own_pick (u2 >>> ((4 : Int32) &&& 31)) (.ref b1) (.ref b2) (.ref b4)) (own_pick (u2 >>> ((6 : Int32) &&& 31)) (.ref b1) (.ref b2) (.ref b4)) nl_54 nr_54)), .val (.int (own_B (own_pick (u2 >>> ((4 : Int32) &&& 31)) (.ref b1) (.ref b2) (.ref b4)) (own_pick (u2 >>> ((6 : Int32) &&& 31)) (.ref b1) (.ref b2) (.ref b4)) nl_61 nr_61))] [])) tt
    refine XS.iload X75.here hx rfl (hb hby at_252) rfl ?_
    show Steps p.tables e below (T75.setTop (mkF m 254 #[.val (.int u0), .val (.int u1), .val (.int u2), .val (.ref b1), .val (.ref b2), .val (.ref b4), .val (.ref b7), .val (.ref b28), .val (own_pick u2 (.ref b1) (.ref b2) (.ref b4)), .val (own_pick (u2 >>> ((2 : Int32) &&& 31)) (.ref b1) (.ref b2) (.ref b4)), .val (own_pick (u2 >>> ((4 : Int32) &&& 31)) (.ref b1) (.ref b2) (.ref b4)), .val (own_pick (u2 >>> ((6 : Int32) &&& 31)) (.ref b1) (.ref b2) (.ref b4)), .val (.int (own_B (own_pick u2 (.ref b1) (.ref b2) (.ref b4)) (own_pick (u2 >>> ((2 : Int32) &&& 31)) (.ref b1) (.ref b2) (.ref b4)) nl_27 nr_27)), .val (.int (own_B (own_pick u2 (.ref b1) (.ref b2) (.ref b4)) (own_pick (u2 >>> ((2 : Int32) &&& 31)) (.ref b1) (.ref b2) (.ref b4)) nl_27 nr_27)), .val (.int (own_B (own_pick (u2 >>> ((4 : Int32) &&& 31)) (.ref b1) (.ref b2) (.ref b4)) (own_pick (u2 >>> ((6 : Int32) &&& 31)) (.ref b1) (.ref b2) (.ref b4)) nl_54 nr_54)), .val (.int (own_B (own_pick (u2 >>> ((4 : Int32) &&& 31)) (.ref b1) (.ref b2) (.ref b4)) (own_pick (u2 >>> ((6 : Int32) &&& 31)) (.ref b1) (.ref b2) (.ref b4)) nl_61 nr_61))] [(.int (own_B (own_pick (u2 >>> ((4 : Int32) &&& 31)) (.ref b1) (.ref b2) (.ref b4)) (own_pick (u2 >>> ((6 : Int32) &&& 31)) (.ref b1) (.ref b2) (.ref b4)) nl_54 nr_54))])) tt
    refine XS.iload X75.here hx rfl (hb hby at_254) rfl ?_
    show Steps p.tables e below (T75.setTop (mkF m 256 #[.val (.int u0), .val (.int u1), .val (.int u2), .val (.ref b1), .val (.ref b2), .val (.ref b4), .val (.ref b7), .val (.ref b28), .val (own_pick u2 (.ref b1) (.ref b2) (.ref b4)), .val (own_pick (u2 >>> ((2 : Int32) &&& 31)) (.ref b1) (.ref b2) (.ref b4)), .val (own_pick (u2 >>> ((4 : Int32) &&& 31)) (.ref b1) (.ref b2) (.ref b4)), .val (own_pick (u2 >>> ((6 : Int32) &&& 31)) (.ref b1) (.ref b2) (.ref b4)), .val (.int (own_B (own_pick u2 (.ref b1) (.ref b2) (.ref b4)) (own_pick (u2 >>> ((2 : Int32) &&& 31)) (.ref b1) (.ref b2) (.ref b4)) nl_27 nr_27)), .val (.int (own_B (own_pick u2 (.ref b1) (.ref b2) (.ref b4)) (own_pick (u2 >>> ((2 : Int32) &&& 31)) (.ref b1) (.ref b2) (.ref b4)) nl_27 nr_27)), .val (.int (own_B (own_pick (u2 >>> ((4 : Int32) &&& 31)) (.ref b1) (.ref b2) (.ref b4)) (own_pick (u2 >>> ((6 : Int32) &&& 31)) (.ref b1) (.ref b2) (.ref b4)) nl_54 nr_54)), .val (.int (own_B (own_pick (u2 >>> ((4 : Int32) &&& 31)) (.ref b1) (.ref b2) (.ref b4)) (own_pick (u2 >>> ((6 : Int32) &&& 31)) (.ref b1) (.ref b2) (.ref b4)) nl_61 nr_61))] [(.int (own_B (own_pick (u2 >>> ((4 : Int32) &&& 31)) (.ref b1) (.ref b2) (.ref b4)) (own_pick (u2 >>> ((6 : Int32) &&& 31)) (.ref b1) (.ref b2) (.ref b4)) nl_61 nr_61)), (.int (own_B (own_pick (u2 >>> ((4 : Int32) &&& 31)) (.ref b1) (.ref b2) (.ref b4)) (own_pick (u2 >>> ((6 : Int32) &&& 31)) (.ref b1) (.ref b2) (.ref b4)) nl_54 nr_54))])) tt
    refine XS.icmpNo X75.here hx rfl (hb hby at_256) rfl (teq (by rw [qnl_54, qnr_54, qnl_61, qnr_61] : (own_B (own_pick (u2 >>> ((4 : Int32) &&& 31)) (.ref b1) (.ref b2) (.ref b4)) (own_pick (u2 >>> ((6 : Int32) &&& 31)) (.ref b1) (.ref b2) (.ref b4)) nl_54 nr_54) = (own_B (own_pick (u2 >>> ((4 : Int32) &&& 31)) (.ref b1) (.ref b2) (.ref b4)) (own_pick (u2 >>> ((6 : Int32) &&& 31)) (.ref b1) (.ref b2) (.ref b4)) nl_61 nr_61))).2 ?_
    show Steps p.tables e below (T75.setTop (mkF m 259 #[.val (.int u0), .val (.int u1), .val (.int u2), .val (.ref b1), .val (.ref b2), .val (.ref b4), .val (.ref b7), .val (.ref b28), .val (own_pick u2 (.ref b1) (.ref b2) (.ref b4)), .val (own_pick (u2 >>> ((2 : Int32) &&& 31)) (.ref b1) (.ref b2) (.ref b4)), .val (own_pick (u2 >>> ((4 : Int32) &&& 31)) (.ref b1) (.ref b2) (.ref b4)), .val (own_pick (u2 >>> ((6 : Int32) &&& 31)) (.ref b1) (.ref b2) (.ref b4)), .val (.int (own_B (own_pick u2 (.ref b1) (.ref b2) (.ref b4)) (own_pick (u2 >>> ((2 : Int32) &&& 31)) (.ref b1) (.ref b2) (.ref b4)) nl_27 nr_27)), .val (.int (own_B (own_pick u2 (.ref b1) (.ref b2) (.ref b4)) (own_pick (u2 >>> ((2 : Int32) &&& 31)) (.ref b1) (.ref b2) (.ref b4)) nl_27 nr_27)), .val (.int (own_B (own_pick (u2 >>> ((4 : Int32) &&& 31)) (.ref b1) (.ref b2) (.ref b4)) (own_pick (u2 >>> ((6 : Int32) &&& 31)) (.ref b1) (.ref b2) (.ref b4)) nl_54 nr_54)), .val (.int (own_B (own_pick (u2 >>> ((4 : Int32) &&& 31)) (.ref b1) (.ref b2) (.ref b4)) (own_pick (u2 >>> ((6 : Int32) &&& 31)) (.ref b1) (.ref b2) (.ref b4)) nl_61 nr_61))] [])) tt
    refine XS.iconst X75.here hx rfl (hb hby at_259) ?_
    show Steps p.tables e below (T75.setTop (mkF m 260 #[.val (.int u0), .val (.int u1), .val (.int u2), .val (.ref b1), .val (.ref b2), .val (.ref b4), .val (.ref b7), .val (.ref b28), .val (own_pick u2 (.ref b1) (.ref b2) (.ref b4)), .val (own_pick (u2 >>> ((2 : Int32) &&& 31)) (.ref b1) (.ref b2) (.ref b4)), .val (own_pick (u2 >>> ((4 : Int32) &&& 31)) (.ref b1) (.ref b2) (.ref b4)), .val (own_pick (u2 >>> ((6 : Int32) &&& 31)) (.ref b1) (.ref b2) (.ref b4)), .val (.int (own_B (own_pick u2 (.ref b1) (.ref b2) (.ref b4)) (own_pick (u2 >>> ((2 : Int32) &&& 31)) (.ref b1) (.ref b2) (.ref b4)) nl_27 nr_27)), .val (.int (own_B (own_pick u2 (.ref b1) (.ref b2) (.ref b4)) (own_pick (u2 >>> ((2 : Int32) &&& 31)) (.ref b1) (.ref b2) (.ref b4)) nl_27 nr_27)), .val (.int (own_B (own_pick (u2 >>> ((4 : Int32) &&& 31)) (.ref b1) (.ref b2) (.ref b4)) (own_pick (u2 >>> ((6 : Int32) &&& 31)) (.ref b1) (.ref b2) (.ref b4)) nl_54 nr_54)), .val (.int (own_B (own_pick (u2 >>> ((4 : Int32) &&& 31)) (.ref b1) (.ref b2) (.ref b4)) (own_pick (u2 >>> ((6 : Int32) &&& 31)) (.ref b1) (.ref b2) (.ref b4)) nl_61 nr_61))] [(.int (1 : Int32))])) tt
    refine XS.goto X75.here hx rfl (pc0 := 260) (pc' := 264) rfl (hb hby at_260) (by decide) (by decide) ?_
    exact kk
  exact Goal.retV X75 hx Bd.returns rfl (Or.inl ⟨rfl, Or.inr (Or.inl rfl), _, rfl⟩) (hb hby at_264) hlk rfl ⟨rfl, N75⟩ (by decide) (by decide)
set_option maxRecDepth 65536 in
set_option maxHeartbeats 40000000 in
theorem comes_1 {Post : Tables → Env → Array Value → State → Outcome → State → Prop} (hpost : ∀ tb e args s v u, (limb_1_1.after args s (.returned v) u = true ∧ limb_1_2.after args s (.returned v) u = true ∧ True) → FrameEnd s (.returned v) u (Jvm.fieldLocs frame_1_writes args s ++ Jvm.arrayLocs frame_1_arrays args s ++ Jvm.staticLocs frame_1_statics s) 24 128 → Post tb e args s (.returned v) u) :
    ArmFor flags0 classFile x code maxLocals ret World_1 tables_1 room_1 Calls_1 rest_1 Pre_1 Post := by
  intro l hfl _ _ p e ha hc hk s m args below hf hA hF happ hP
  obtain ⟨hcalls, hrest, hpre⟩ := hP
  obtain ⟨-, -, -, hnamed, -, -, -, hat⟩ := (Spec.applies_iff hf).mp happ
  obtain ⟨hg, hn⟩ := and_e (Cond.before_iff.mp (show (Jvm.Cond.and given_1 narrow_1).before args s = true from hpre))
  obtain ⟨u1, u2⟩ := and_e hg
  obtain ⟨u3, u4⟩ := and_e u2
  obtain ⟨u5, u6⟩ := and_e u4
  obtain ⟨w0, w1, w2, rfl⟩ : ∃ w0 w1 w2 : Value, args = #[w0, w1, w2] := by
    have hs : args.size = 3 := by simpa [Cond.value, given_1] using u1
    obtain ⟨L⟩ := args
    match L, hs with
    | [w0, w1, w2], _ => exact ⟨w0, w1, w2, rfl⟩
  have hw := fun d (hd : d ∈ tables_1) => atoms_spec (ws := Jvm.Cond.code x code maxLocals ret :: tables_1) hat d (List.mem_cons_of_mem _ hd)
  obtain ⟨i0, ei0⟩ := is_v u3
  obtain rfl : w0 = (.int i0) := Option.some.inj ei0
  obtain ⟨i1, ei1⟩ := is_v u5
  obtain rfl : w1 = (.int i1) := Option.some.inj ei1
  obtain ⟨i2, ei2⟩ := is_v u6
  obtain rfl : w2 = (.int i2) := Option.some.inj ei2
  obtain ⟨n, o, h1, h2, h3, _, L, rfl, ⟨rfl, N⟩, hq⟩ := rm0 l s _ hw tables_1 i0 i1 i2 s.heap s.heap.size (Nat.le_refl _)  p e ha hc hk s m _ below hf ((Spec.applies_iff_loose hf).mp happ).1 ⟨rfl, State.Warmed39.refl s, rfl⟩ trivial
  refine ⟨n, _, h1, h2, h3, hpost _ _ _ _ _ _ ⟨Cond.after_iff.mpr rfl, Cond.after_iff.mpr (eq_i res_at (Term.int_eval (1)) rfl), trivial⟩ ⟨hq.1, hq.2.1, (hq.2.2.sift fun y hy => Or.inr (N y hy)).mono (by decide) (by decide)⟩⟩
theorem main_1_1 : Claimed_1_1 := comes_1 fun _ _ _ _ _ _ h hF => ⟨h.1, hF⟩
theorem main_1_2 : Claimed_1_2 := comes_1 fun _ _ _ _ _ _ h hF => ⟨h.2.1, hF⟩
end Jvm.Pilot.@@N@@
namespace Jvm.Pilot.@@N@@
open Jvm Jvm.ClassFile Sem Op Lib Jvm.Free Jvm.Stand Jvm.Pilot.@@N@@.Jvm.D
/-! MADE BY PROGRAM (witnessworld.py) out of the Statement's table words and the real class files: 9 classes; the members and pool entries that the words name. The judged class is class 1, her method 2. -/
namespace start1
open Jvm.ClassFile
def u (s : String) : CpInfo := .utf8 (stringToUtf16 s)
/-- a pool by its gaps: so many unusable entries, then the entry; so many at the end -/
def gap : Nat → List CpInfo → List CpInfo
  | 0, r => r
  | n + 1, r => .unusable :: gap n r
def poolList (es : List (Nat × CpInfo)) (last : Nat) : List CpInfo := es.foldr (fun e r => gap e.1 (e.2 :: r)) (gap last [])
def pool (es : List (Nat × CpInfo)) (last : Nat) : Array CpInfo := ⟨poolList es last⟩
def fileOf (pool : Array CpInfo) (this : Nat) (attrs : Array Attribute := #[]) (ms : Array MethodInfo := #[]) (fl : Nat := 33) (sup : Nat := 0) (ifs : Array Nat := #[]) (fds : Array FieldInfo := #[]) : ClassFile where
  minorVersion := 0
  majorVersion := 65
  constantPool := pool
  accessFlags := fl
  thisClass := this
  superClass := sup
  interfaces := ifs
  fields := fds
  methods := ms
  attributes := attrs
def plain (name : String) (sup : Option ClassId) : Class where
  name := name
  kind := .ordinary
  loader := none
  accessFlags := 33
  super := sup
  interfaces := #[]
  cf := none
  fields := #[]
  methods := #[]
  instanceTypes := #[]
  staticTypes := #[]
  resolved := #[]
  callSites := []
  init := .initialized
  statics := none
  mirror := none

def pool0 : Array CpInfo := pool [(5, u "<init>"), (0, u "()V"), (1, .class_ 10), (1, u "java/lang/Object")] 113

def k0c0 : Code := { maxStack := 0, maxLocals := 1, code := object_method_1_code, exceptionTable := #[], attributes := #[] }
def k0m0 : Method := { name := "<init>", desc := "()V", sig := { parameters := [], returnType := none }, accessFlags := 1, code := some k0c0 }
/-- java/lang/Object -/
def k0 : Class := { plain "java/lang/Object" none with
  accessFlags := 33
  interfaces := #[]
  cf := some (fileOf pool0 8 #[] #[{ accessFlags := 1, nameIndex := 5, descriptorIndex := 6, attributes := #[] }] 33 0 #[] #[])
  fields := #[]
  methods := #[k0m0]
  instanceTypes := #[]
  staticTypes := #[]
  resolved := Array.replicate 124 none
  statics := none }

def pool1 : Array CpInfo := pool [(2, .class_ 4), (0, .nameAndType 5 6), (0, u "java/lang/Object"), (0, u "<init>"), (0, u "()V"), (0, .class_ 8), (0, u "com/example/tributary/tributary/runtime/Revisits"), (0, .methodref 7 3), (0, .methodref 11 12), (0, .class_ 13), (0, .nameAndType 14 15), (0, u "com/example/tributary/tributary/runtime/RevisitsCopyFromPinLaw"), (0, u "pick"), (0, u "(ILjava/lang/Object;Ljava/lang/Object;Ljava/lang/Object;)Ljava/lang/Object;"), (0, .methodref 7 17), (0, .nameAndType 18 19), (0, u "seenBefore"), (0, u "(Ljava/lang/Object;Ljava/lang/Object;)Z"), (0, .methodref 7 21), (0, .nameAndType 22 23), (0, u "copyFrom"), (0, u "(Lcom/example/tributary/tributary/runtime/Revisits;)V"), (3, u "law"), (0, u "(III)Z")] 2

def k1m0 : Method := { name := "<init>", desc := "()V", sig := { parameters := [], returnType := none }, accessFlags := 1, code := none }
def k1c1 : Code := { maxStack := 2, maxLocals := 5, code := method_2_code, exceptionTable := #[], attributes := #[] }
def k1m1 : Method := { name := "pick", desc := "(ILjava/lang/Object;Ljava/lang/Object;Ljava/lang/Object;)Ljava/lang/Object;", sig := { parameters := [.int, (.object "java/lang/Object"), (.object "java/lang/Object"), (.object "java/lang/Object")], returnType := some (.object "java/lang/Object") }, accessFlags := 10, code := some k1c1 }
def k1c2 : Code := { maxStack := 6, maxLocals := 16, code := code, exceptionTable := #[], attributes := #[] }
def k1m2 : Method := { name := "law", desc := "(III)Z", sig := { parameters := [.int, .int, .int], returnType := some .boolean }, accessFlags := 9, code := some k1c2 }
/-- com/example/tributary/tributary/runtime/RevisitsCopyFromPinLaw -/
def k1 : Class := { plain "com/example/tributary/tributary/runtime/RevisitsCopyFromPinLaw" (some 0) with
  accessFlags := 49
  interfaces := #[]
  cf := some (fileOf pool1 11 #[] #[{ accessFlags := 1, nameIndex := 5, descriptorIndex := 6, attributes := #[] }, { accessFlags := 10, nameIndex := 14, descriptorIndex := 15, attributes := #[] }, { accessFlags := 9, nameIndex := 27, descriptorIndex := 28, attributes := #[] }] 49 2 #[] #[])
  fields := #[]
  methods := #[k1m0, k1m1, k1m2]
  instanceTypes := #[]
  staticTypes := #[]
  resolved := Array.replicate 31 none
  statics := none }

def pool2 : Array CpInfo := pool [(1, .methodref 2 3), (0, .class_ 4), (0, .nameAndType 5 6), (0, u "java/lang/Object"), (0, u "<init>"), (0, u "()V"), (0, .fieldref 8 9), (0, .class_ 10), (0, .nameAndType 11 12), (0, u "com/example/tributary/tributary/runtime/Revisits"), (0, u "markInterval"), (0, u "J"), (2, u "seenBefore"), (0, u "(Ljava/lang/Object;Ljava/lang/Object;)Z"), (0, .fieldref 8 18), (0, .nameAndType 19 20), (0, u "markedLeft"), (0, u "Ljava/lang/Object;"), (0, .fieldref 8 22), (0, .nameAndType 23 20), (0, u "markedRight"), (0, .fieldref 8 25), (0, .nameAndType 26 12), (0, u "sinceMark"), (0, .long 2), (5, u "copyFrom"), (0, u "(Lcom/example/tributary/tributary/runtime/Revisits;)V")] 2

def k2c0 : Code := { maxStack := 3, maxLocals := 1, code := prog_118_method_1_code, exceptionTable := #[], attributes := #[] }
def k2m0 : Method := { name := "<init>", desc := "()V", sig := { parameters := [], returnType := none }, accessFlags := 1, code := some k2c0 }
def k2c1 : Code := { maxStack := 5, maxLocals := 4, code := prog_118_method_3_code, exceptionTable := #[], attributes := #[] }
def k2m1 : Method := { name := "seenBefore", desc := "(Ljava/lang/Object;Ljava/lang/Object;)Z", sig := { parameters := [(.object "java/lang/Object"), (.object "java/lang/Object")], returnType := some .boolean }, accessFlags := 1, code := some k2c1 }
def k2c2 : Code := { maxStack := 3, maxLocals := 2, code := prog_118_method_4_code, exceptionTable := #[], attributes := #[] }
def k2m2 : Method := { name := "copyFrom", desc := "(Lcom/example/tributary/tributary/runtime/Revisits;)V", sig := { parameters := [(.object "com/example/tributary/tributary/runtime/Revisits")], returnType := none }, accessFlags := 1, code := some k2c2 }
/-- com/example/tributary/tributary/runtime/Revisits -/
def k2 : Class := { plain "com/example/tributary/tributary/runtime/Revisits" (some 0) with
  accessFlags := 49
  interfaces := #[]
  cf := some (fileOf pool2 8 #[] #[{ accessFlags := 1, nameIndex := 5, descriptorIndex := 6, attributes := #[] }, { accessFlags := 1, nameIndex := 15, descriptorIndex := 16, attributes := #[] }, { accessFlags := 1, nameIndex := 33, descriptorIndex := 34, attributes := #[] }] 49 2 #[] #[{ accessFlags := 2, nameIndex := 19, descriptorIndex := 20, attributes := #[] }, { accessFlags := 2, nameIndex := 23, descriptorIndex := 20, attributes := #[] }, { accessFlags := 2, nameIndex := 26, descriptorIndex := 12, attributes := #[] }, { accessFlags := 2, nameIndex := 11, descriptorIndex := 12, attributes := #[] }])
  fields := #[{ name := "markedLeft", type := (.object "java/lang/Object"), accessFlags := 2, slot := 0, constantValue := 0 }, { name := "markedRight", type := (.object "java/lang/Object"), accessFlags := 2, slot := 1, constantValue := 0 }, { name := "sinceMark", type := .long, accessFlags := 2, slot := 2, constantValue := 0 }, { name := "markInterval", type := .long, accessFlags := 2, slot := 3, constantValue := 0 }]
  methods := #[k2m0, k2m1, k2m2]
  instanceTypes := #[(.object "java/lang/Object"), (.object "java/lang/Object"), .long, .long]
  staticTypes := #[]
  resolved := Array.replicate 37 none
  statics := none }

def pool3 : Array CpInfo := pool [(1, u "java/lang/Cloneable"), (0, .class_ 1), (0, u "java/lang/Object"), (0, .class_ 3)] 3

/-- java/lang/Cloneable -/
def k3 : Class := { plain "java/lang/Cloneable" (some 0) with
  accessFlags := 1537
  interfaces := #[]
  cf := some (fileOf pool3 2 #[] #[] 1537 4 #[] #[])
  fields := #[]
  methods := #[]
  instanceTypes := #[]
  staticTypes := #[]
  resolved := Array.replicate 8 none
  statics := none }

def pool4 : Array CpInfo := pool [(1, u "java/io/Serializable"), (0, .class_ 1), (0, u "java/lang/Object"), (0, .class_ 3)] 3

/-- java/io/Serializable -/
def k4 : Class := { plain "java/io/Serializable" (some 0) with
  accessFlags := 1537
  interfaces := #[]
  cf := some (fileOf pool4 2 #[] #[] 1537 4 #[] #[])
  fields := #[]
  methods := #[]
  instanceTypes := #[]
  staticTypes := #[]
  resolved := Array.replicate 8 none
  statics := none }

/-- the primitive byte -/
def k5 : Class := { plain "byte" none with kind := .primitive 'B', accessFlags := 0x411 }
/-- [B -/
def k6 : Class := { plain "[B" (some 0) with kind := .array 5 .byte, interfaces := #[3, 4], accessFlags := 1041 }

/-- the primitive int -/
def k7 : Class := { plain "int" none with kind := .primitive 'I', accessFlags := 0x411 }
/-- [I -/
def k8 : Class := { plain "[I" (some 0) with kind := .array 7 .int, interfaces := #[3, 4], accessFlags := 1041 }

def heap : Heap := #[]
def classes : Array Class := #[k0, k1, k2, k3, k4, k5, k6, k7, k8]
def interned : List (Array UInt16 × Addr) := []
def slotsUsed : Nat := 0
def theMethod : MethodId := ⟨1, 2⟩
def args0 : Array Value := #[.int 5, .int 3, .int 9]
def aboutOver (below : List Frame) : State where
  vm := { classes := classes, interned := interned.toArray }
  heap := heap
  slotsUsed := slotsUsed
  threads := #[{ frames := .invoking theMethod args0 :: below }]
def below0 : List Frame := [.native { method := ⟨0, 0⟩, args := #[] }]
def about1 : State := aboutOver below0
def p0 : Program := .bare "" "" ""
def e0 : Env := launch0.env 0 0 0
theorem w_frames : about1.frames = Frame.invoking theMethod args0 :: below0 := rfl
set_option maxRecDepth 65536 in
theorem w_args : argsFit about1.vm theMethod args0 = true := by decide +kernel
set_option maxRecDepth 65536 in
theorem w_heap : heapFits about1 = true := by decide +kernel
set_option maxRecDepth 65536 in
theorem w_runnable : about1.curStatus? = some .runnable := by decide +kernel
set_option maxRecDepth 65536 in
theorem w_alone : about1.alone = true := by decide +kernel
set_option maxRecDepth 65536 in
theorem w_named : about1.methodNamed? x = some theMethod := by decide +kernel
set_option maxRecDepth 65536 in
theorem w_hears : about1.hears theMethod below0 = true := by decide +kernel
set_option maxRecDepth 65536 in
theorem w_ripe : about1.ripe theMethod args0 below0 = true := by decide +kernel
theorem w_running : about1.status = .running := rfl
set_option maxRecDepth 65536 in
theorem w_room : about1.hasRoom e0.platform room_1 = true :=
  launch0.hasRoom_least _ room_1 (by decide +kernel) (by decide +kernel) (by decide +kernel) (by decide +kernel) (by decide +kernel) (by decide +kernel)
theorem allAtoms_all (ts : List Jvm.Cond) (a : Array Jvm.Value) (st : Jvm.State) : (allAtoms ts).before a st = ts.all (fun c => c.before a st) := by
  induction ts with
  | nil => rfl
  | cons c t ih =>
    show (Jvm.Cond.and c (allAtoms t)).before a st = _
    rw [Jvm.Cond.before_and, ih, List.all_cons]
def words1 : List Jvm.Cond := Jvm.Cond.code x code maxLocals ret :: tables_1
/-- a 'code' word, met by the world's own term for the bytes: nothing is compared byte by byte -/
theorem code_word {y : MethodName} {bytes : ByteArray} {mx : Nat} {rt : Option FieldType} {a : Array Value} {s : State} {m : MethodId} {meth : Method} {c : Code} (h1 : s.methodNamed? y = some m) (h2 : s.vm.method? m = some meth) (h3 : meth.code = some c) (h4 : c.code = bytes)
    (h5 : (c.maxLocals == mx && c.exceptionTable.isEmpty && decide (c.maxStack ≤ mostOperands) && decide (meth.sig.returnType = rt) && !meth.locks && decide (parseMethodDescriptor y.desc = some meth.sig)) = true) : (Jvm.Cond.code y bytes mx rt).before a s = true := by
  simp only [Bool.and_eq_true, beq_iff_eq, Bool.not_eq_true', decide_eq_true_eq] at h5
  obtain ⟨⟨⟨⟨⟨g1, g2⟩, g3⟩, g4⟩, g5⟩, g6⟩ := h5
  simp [Cond.before, Cond.holds, Cond.value, h1, h2, h3, h4, g1, g2, g3, g4, g5, g6]
def isCode : Jvm.Cond → Bool
  | .code _ _ _ _ => true
  | _ => false
theorem all_split {L : List Jvm.Cond} {P : Jvm.Cond → Bool} (h1 : L.all (fun c => isCode c || P c) = true) (h2 : ∀ c ∈ L.filter isCode, P c = true) : L.all P = true := by
  refine List.all_eq_true.mpr fun c hc => ?_
  have h := List.all_eq_true.mp h1 c hc
  rcases Bool.eq_false_or_eq_true (isCode c) with hi | hi
  · exact h2 c (List.mem_filter.mpr ⟨hc, hi⟩)
  · simpa [hi] using h
set_option maxRecDepth 65536 in
theorem w_c0 : (Jvm.Cond.code x code maxLocals ret).before args0 about1 = true := code_word (m := ⟨1, 2⟩) (meth := k1m2) (c := k1c2) (by decide +kernel) rfl rfl rfl (by decide +kernel)
set_option maxRecDepth 65536 in
theorem w_c1 : (Jvm.Cond.code ({ cls := "com/example/tributary/tributary/runtime/Revisits", name := "<init>", desc := "()V" } : Jvm.MethodName) prog_118_method_1_code (1 : Nat) (Option.none : Option Jvm.ClassFile.FieldType)).before args0 about1 = true := code_word (m := ⟨2, 0⟩) (meth := k2m0) (c := k2c0) (by decide +kernel) rfl rfl rfl (by decide +kernel)
set_option maxRecDepth 65536 in
theorem w_c2 : (Jvm.Cond.code ({ cls := "java/lang/Object", name := "<init>", desc := "()V" } : Jvm.MethodName) object_method_1_code (1 : Nat) (Option.none : Option Jvm.ClassFile.FieldType)).before args0 about1 = true := code_word (m := ⟨0, 0⟩) (meth := k0m0) (c := k0c0) (by decide +kernel) rfl rfl rfl (by decide +kernel)
set_option maxRecDepth 65536 in
theorem w_c3 : (Jvm.Cond.code ({ cls := "com/example/tributary/tributary/runtime/RevisitsCopyFromPinLaw", name := "pick", desc := "(ILjava/lang/Object;Ljava/lang/Object;Ljava/lang/Object;)Ljava/lang/Object;" } : Jvm.MethodName) method_2_code (5 : Nat) (Option.some (Jvm.ClassFile.FieldType.object "java/lang/Object"))).before args0 about1 = true := code_word (m := ⟨1, 1⟩) (meth := k1m1) (c := k1c1) (by decide +kernel) rfl rfl rfl (by decide +kernel)
set_option maxRecDepth 65536 in
theorem w_c4 : (Jvm.Cond.code ({ cls := "com/example/tributary/tributary/runtime/Revisits", name := "seenBefore", desc := "(Ljava/lang/Object;Ljava/lang/Object;)Z" } : Jvm.MethodName) prog_118_method_3_code (4 : Nat) (Option.some Jvm.ClassFile.FieldType.boolean)).before args0 about1 = true := code_word (m := ⟨2, 1⟩) (meth := k2m1) (c := k2c1) (by decide +kernel) rfl rfl rfl (by decide +kernel)
set_option maxRecDepth 65536 in
theorem w_c5 : (Jvm.Cond.code ({ cls := "com/example/tributary/tributary/runtime/Revisits", name := "copyFrom", desc := "(Lcom/example/tributary/tributary/runtime/Revisits;)V" } : Jvm.MethodName) prog_118_method_4_code (2 : Nat) (Option.none : Option Jvm.ClassFile.FieldType)).before args0 about1 = true := code_word (m := ⟨2, 2⟩) (meth := k2m2) (c := k2c2) (by decide +kernel) rfl rfl rfl (by decide +kernel)
def codes1 : List Jvm.Cond := [Jvm.Cond.code x code maxLocals ret, Jvm.Cond.code ({ cls := "com/example/tributary/tributary/runtime/Revisits", name := "<init>", desc := "()V" } : Jvm.MethodName) prog_118_method_1_code (1 : Nat) (Option.none : Option Jvm.ClassFile.FieldType), Jvm.Cond.code ({ cls := "java/lang/Object", name := "<init>", desc := "()V" } : Jvm.MethodName) object_method_1_code (1 : Nat) (Option.none : Option Jvm.ClassFile.FieldType), Jvm.Cond.code ({ cls := "com/example/tributary/tributary/runtime/RevisitsCopyFromPinLaw", name := "pick", desc := "(ILjava/lang/Object;Ljava/lang/Object;Ljava/lang/Object;)Ljava/lang/Object;" } : Jvm.MethodName) method_2_code (5 : Nat) (Option.some (Jvm.ClassFile.FieldType.object "java/lang/Object")), Jvm.Cond.code ({ cls := "com/example/tributary/tributary/runtime/Revisits", name := "seenBefore", desc := "(Ljava/lang/Object;Ljava/lang/Object;)Z" } : Jvm.MethodName) prog_118_method_3_code (4 : Nat) (Option.some Jvm.ClassFile.FieldType.boolean), Jvm.Cond.code ({ cls := "com/example/tributary/tributary/runtime/Revisits", name := "copyFrom", desc := "(Lcom/example/tributary/tributary/runtime/Revisits;)V" } : Jvm.MethodName) prog_118_method_4_code (2 : Nat) (Option.none : Option Jvm.ClassFile.FieldType)]
set_option maxRecDepth 65536 in
theorem codes_eq : words1.filter isCode = codes1 := rfl
theorem w_codes : ∀ c ∈ words1.filter isCode, c.before args0 about1 = true := by
  rw [codes_eq]
  intro c hc
  simp only [codes1, List.mem_cons, List.not_mem_nil, or_false] at hc
  rcases hc with rfl | rfl | rfl | rfl | rfl | rfl
  · exact w_c0
  · exact w_c1
  · exact w_c2
  · exact w_c3
  · exact w_c4
  · exact w_c5
set_option maxRecDepth 65536 in
theorem w_t1 : (words1.take 24).all (fun c => isCode c || c.before args0 about1) = true := by decide +kernel
set_option maxRecDepth 65536 in
theorem w_t2 : (words1.drop 24).all (fun c => isCode c || c.before args0 about1) = true := by decide +kernel
theorem w_tables : (allAtoms (Jvm.Cond.code x code maxLocals ret :: tables_1)).before args0 about1 = true := by
  rw [allAtoms_all]
  show words1.all (fun c => c.before args0 about1) = true
  refine all_split ?_ w_codes
  rw [← List.take_append_drop 24 words1, List.all_append, w_t1, w_t2]
  rfl
set_option maxRecDepth 65536 in
theorem w_case : (Jvm.Cond.and given_1 narrow_1).before args0 about1 = true := by decide +kernel
theorem w_applies : (headSpec (Jvm.Cond.code x code maxLocals ret :: tables_1) room_1).applies x e0.platform about1 = true :=
  (Spec.applies_iff w_frames).mpr ⟨w_running, w_runnable, w_alone, w_named, w_hears, w_ripe, w_room, w_tables⟩
theorem atStart : AtStart classFile x code maxLocals ret World_1 tables_1 room_1 Calls_1 rest_1 Pre_1 launch0 p0 e0 about1 theMethod args0 below0 :=
  ⟨lists_1, trivial, launch0.admits_env _ _ _, launch0.least_env, fairChoices_fair.cas, fairChoices_fair.clock, w_frames, w_args, w_heap, w_applies, trivial, trivial, w_case⟩
end start1
theorem witness_1 : WitnessClaimed_1 := ⟨start1.p0, start1.e0, start1.about1, start1.theMethod, start1.args0, start1.below0, start1.atStart⟩
end Jvm.Pilot.@@N@@
