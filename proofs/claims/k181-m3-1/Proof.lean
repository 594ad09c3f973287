import JvmDerived
import JvmDerived.Pilot.@@N@@Statement
import JvmDerived.Pilot.@@N@@Code
set_option linter.unusedVariables false
set_option linter.unusedSimpArgs false
@@BLOCK:NumsL.lean.txt@@
namespace Jvm.RoadKit
open Sem ClassFile Op Lib Jvm.Stand Jvm.Free Jvm.LawKit
section Own
variable {p : Program} {l : Launch} {e : Env} {R : Room} {s : State} {m : MethodId} {args : Array Value} {below : List Frame} {meth : Method} {c : Code} {T : State} {locs : List Loc} {cells slots : Nat} {Z : State} {h h' : Heap} {a b : Addr} {ty : FieldType} {vs : List Value} {cl : Cell} {sl : Nat} {v : Value} {ws : List Addr}
theorem mw {α : Type} {x : α} {L : List α} (i : Nat) (q : L[i]? = some x) : x ∈ L := List.mem_of_getElem? q
/-- from A the body comes to its end, and Q holds there -/
def Goal (p : Program) (e : Env) (below : List Frame) (s : State) (Q : Option Value → Heap → List Loc → Prop) (k n : Nat) (A : State) : Prop :=
  ∃ s₂ o, Steps p.tables e below A s₂ ∧ s₂.status = .running ∧ Ended s₂ below o ∧ ∃ v L, o = .returned v ∧ Q v s₂.heap L ∧ FrameEnd s o s₂ L k n
variable {Q : Option Value → Heap → List Loc → Prop} {k n : Nat} {A B : State}
theorem Goal.to (f : ∀ t, Steps p.tables e below B t → Steps p.tables e below A t) (g : Goal p e below s Q k n B) : Goal p e below s Q k n A := by
  obtain ⟨s₂, o, h1, r⟩ := g
  exact ⟨s₂, o, f _ h1, r⟩
theorem Goal.tr (f : Steps p.tables e below A B) (g : Goal p e below s Q k n B) : Goal p e below s Q k n A := Goal.to (fun t q => f.trans q) g
theorem Goal.retV (X : Stand p l e R s m args below meth c T locs cells slots) (hx : p.tables.exec = Jvm.exec) {pc : Nat} {Ls : Array Slot} {w : Value} {t : FieldType} {i : Instr} {rest : List Value} (hret : meth.sig.returnType = some t) (hn : narrow t w = w)
    (hi : (i = .ireturn ∧ (t = .int ∨ t = .boolean ∨ t = .byte ∨ t = .char ∨ t = .short) ∧ ∃ z, w = .int z) ∨ (i = .lreturn ∧ t = .long ∧ ∃ z, w = .long z) ∨ (i = .dreturn ∧ t = .double ∧ ∃ z, w = .double z) ∨ (i = .freturn ∧ t = .float ∧ ∃ z, w = .float z) ∨ (i = .areturn ∧ t.isReference = true ∧ w.isRef = true))
    (hd : decode c.code pc = .ok (i, 1)) (hlk : meth.locks = false) (eT : T.heap = h) (hq : Q (some w) h locs) (hc : cells ≤ k) (hs : slots ≤ n) : Goal p e below s Q k n (T.setTop (mkF m pc Ls (w :: rest))) := by
  obtain ⟨fs, hr, hrun, hended, hW, hsame⟩ := X.leave (v := some w) (fun h => by rw [hret] at h; cases h) hlk
  refine ⟨_, _, retOut X hx hret hn hi hd hr, hrun, hended, _, _, rfl, ?_, ⟨_, rfl⟩, hW, hsame.mono hc hs⟩
  show Q (some w) T.heap locs
  rw [eT]; exact hq
theorem Goal.retN (X : Stand p l e R s m args below meth c T locs cells slots) (hx : p.tables.exec = Jvm.exec) {pc : Nat} {Ls : Array Slot} (hret : meth.sig.returnType = none)
    (hd : decode c.code pc = .ok (.return_, 1)) (hlk : meth.locks = false) (eT : T.heap = h) (hq : Q none h locs) (hc : cells ≤ k) (hs : slots ≤ n) : Goal p e below s Q k n (T.setTop (mkF m pc Ls [])) := by
  obtain ⟨fs, hr, hrun, hended, hW, hsame⟩ := X.leave (v := none) (fun _ => rfl) hlk
  refine ⟨_, _, X.returnOut hx hret hd hr, hrun, hended, _, _, rfl, ?_, ⟨_, rfl⟩, hW, hsame.mono hc hs⟩
  show Q none T.heap locs
  rw [eT]; exact hq
/-- the same, with the wide end: texts may have been interned -/
def GoalW (p : Program) (e : Env) (below : List Frame) (s : State) (Q : Option Value → Heap → List Loc → Prop) (k n : Nat) (A : State) : Prop :=
  ∃ s₂ o, Steps p.tables e below A s₂ ∧ s₂.status = .running ∧ Ended s₂ below o ∧ ∃ v L, o = .returned v ∧ Q v s₂.heap L ∧ ReturnedEndW s o s₂ L k n
theorem GoalW.to (f : ∀ t, Steps p.tables e below B t → Steps p.tables e below A t) (g : GoalW p e below s Q k n B) : GoalW p e below s Q k n A := by
  obtain ⟨s₂, o, h1, r⟩ := g
  exact ⟨s₂, o, f _ h1, r⟩
theorem GoalW.tr (f : Steps p.tables e below A B) (g : GoalW p e below s Q k n B) : GoalW p e below s Q k n A := GoalW.to (fun t q => f.trans q) g
theorem GoalW.retV {vm0 : Vm} (X : Stand p l e R (s.setVm vm0) m args below meth c T locs cells slots) {k0 : Nat} (hS : s.Since vm0 k0) (hx : p.tables.exec = Jvm.exec) {pc : Nat} {Ls : Array Slot} {w : Value} {t : FieldType} {i : Instr} {rest : List Value} (hret : meth.sig.returnType = some t) (hn : narrow t w = w)
    (hi : (i = .ireturn ∧ (t = .int ∨ t = .boolean ∨ t = .byte ∨ t = .char ∨ t = .short) ∧ ∃ z, w = .int z) ∨ (i = .lreturn ∧ t = .long ∧ ∃ z, w = .long z) ∨ (i = .dreturn ∧ t = .double ∧ ∃ z, w = .double z) ∨ (i = .freturn ∧ t = .float ∧ ∃ z, w = .float z) ∨ (i = .areturn ∧ t.isReference = true ∧ w.isRef = true))
    (hd : decode c.code pc = .ok (i, 1)) (hlk : meth.locks = false) (eT : T.heap = h) (hk : k0 ≤ h.size) (hq : Q (some w) h locs) (hc : cells ≤ k) (hs : slots ≤ n) : GoalW p e below s Q k n (T.setTop (mkF m pc Ls (w :: rest))) := by
  obtain ⟨fs, hr, hrun, hended, e1, e2, e3, e4⟩ := X.leaveW hS (by rw [eT]; exact hk) (v := some w) (fun h => by rw [hret] at h; cases h) hlk
  refine ⟨_, _, retOut X hx hret hn hi hd hr, hrun, hended, _, _, rfl, ?_, e1, e2, e3, e4.mono hc hs⟩
  show Q (some w) T.heap locs
  rw [eT]; exact hq
theorem nar01 {z : Int32} (q : z = 0 ∨ z = 1) : narrow .boolean (.int z) = .int z := by rcases q with rfl | rfl <;> rfl
theorem catV {r : Value} (q : r.isRef = true) : r.category = 1 := by rcases ref_cases q with rfl | ⟨o, rfl⟩ <;> rfl
theorem catR {o : Addr} : (Value.ref o).category = 1 := rfl
theorem catI {z : Int32} : (Value.int z).category = 1 := rfl
theorem catJ {z : Int64} : (Value.long z).category = 2 := rfl
theorem catN : Value.null.category = 1 := rfl
theorem narV {r : Value} {C : String} (q : r.isRef = true) : narrow (.object C) r = r := by rcases ref_cases q with rfl | ⟨o, rfl⟩ <;> rfl
theorem fitV {r : Value} {C : String} (q : r.isRef = true) : fits (.object C) r = true := by rcases ref_cases q with rfl | ⟨o, rfl⟩ <;> rfl
theorem selP {a0 : Array Value} {y : MethodName} {n : Nat} (hZ : Z.Warmed39 s.vm) (hins : (Cond.instantiable y.cls n).before a0 Z = true) (hp : (Cond.privateMethod y).before a0 Z = true) (hi : (Cond.instanceMethod y).before a0 Z = true) (hy : y.cls ≠ "java/lang/invoke/MethodHandle" ∧ y.cls ≠ "java/lang/invoke/VarHandle") : (Cond.selects y.cls y y).before args s = true := by
  obtain ⟨c, k, hc, hk, -, hniab, -, -⟩ := Cond.instantiable_spec (mv (args := args) hZ hins)
  exact selects_self_of_private hc hk (Bool.or_eq_false_iff.mp hniab).1 (Cond.privateMethod_at (mvP (args := args) hZ hp)) (mv hZ hi) hy
theorem Fld.cast {C n d : String} {w : Value} (F : Fld Z h a C n d v) (q : v = w) : Fld Z h a C n d w := q ▸ F
/-- an array of the heap by the whole list of what it holds -/
def Ary (Z : State) (h : Heap) (a : Addr) (ty : FieldType) (vs : List Value) : Prop := ∃ cl : Cell, Arr Z h a cl ty ∧ cl.slots.toList = vs
theorem Ary.cast {ws : List Value} (F : Ary Z h a ty vs) (q : vs = ws) : Ary Z h a ty ws := q ▸ F
theorem Ary.lt (F : Ary Z h a ty vs) : a < h.size := by obtain ⟨cl, A, -⟩ := F; exact A.lt
theorem Ary.ext (F : Ary Z h a ty vs) (E : Ext h h') : Ary Z h' a ty vs := by obtain ⟨cl, A, r⟩ := F; exact ⟨cl, A.ext E, r⟩
theorem Ary.other (F : Ary Z h a ty vs) (W : Wr h h' b sl v) (q : a ≠ b) : Ary Z h' a ty vs := by obtain ⟨cl, A, r⟩ := F; exact ⟨cl, A.other W q, r⟩
theorem Ary.keep (F : Ary Z h a ty vs) (K : Keep h h' ws) (q : a ∉ ws) : Ary Z h' a ty vs := by obtain ⟨cl, A, r⟩ := F; exact ⟨cl, ⟨K.2.1 a cl A.1 q, A.2⟩, r⟩
theorem Ary.new {k : ClassId} {z : Int32} {N : Nat} (A : Arr Z h a (newA k ty z) ty) (hz : z.toNatClampNeg = N) : Ary Z h a ty (List.replicate N (defaultValue ty)) := ⟨_, A, by simp [newA, hz]⟩
theorem Ary.put {j : Nat} {N : Nat} (A : Arr Z h a cl ty) (S : cl.slots.toList = vs) (W : Wr h h' a j v) (q : j = N) : Ary Z h' a ty (vs.set N v) := ⟨_, A.same W, by subst q; simp [Cell.setSlot, S]⟩
theorem sizeA (S : cl.slots.toList = vs) : cl.slots.size = vs.length := by rw [← S]; simp
theorem inA {j : Int32} (S : cl.slots.toList = vs) (q : ¬ j < 0) (r : j.toNatClampNeg < vs.length) : ¬ (j < 0 ∨ cl.slots.size ≤ j.toNatClampNeg) := by rw [sizeA S]; intro u; rcases u with u | u; exact q u; exact absurd r (Nat.not_lt.mpr u)
theorem atA {j : Nat} (S : cl.slots.toList = vs) (q : vs[j]? = some v) : cl.slots[j]? = some v := by rw [← q, ← S]; simp
theorem lenA {z : Int32} (S : cl.slots.toList = vs) (q : vs.length.toInt32 = z) : cl.slots.size.toInt32 = z := by rw [sizeA S]; exact q
/-- a static that stood when the law began, and what it holds -/
def StaN (Z : State) (n0 : Nat) (h : Heap) (C n d : String) (v : Value) : Prop := ∃ (cf i : Nat) (k : Class) (f : Field) (st : Addr) (cell : Cell), Z.fieldFound? C n d = some (cf, k, i, f) ∧ f.isStatic = true ∧ k.init = .initialized ∧ k.statics = some st ∧ h[st]? = some cell ∧ cell.vm.isStatics = true ∧ cell.slots[f.slot]? = some v ∧ st < n0
section StaN
variable {C nm d : String} {n0 : Nat}
theorem StaN.sta (F : StaN Z n0 h C nm d v) : Sta Z h C nm d v := by obtain ⟨cf, i, k, f, st, cell, h1, h2, h3, h4, h5, h6, h7, -⟩ := F; exact ⟨cf, i, k, f, st, cell, h1, h2, h3, h4, h5, h6, h7⟩
theorem Sta.toN (F : Sta Z h C nm d v) : StaN Z h.size h C nm d v := by obtain ⟨cf, i, k, f, st, cell, h1, h2, h3, h4, h5, h6, h7⟩ := F; exact ⟨cf, i, k, f, st, cell, h1, h2, h3, h4, h5, h6, h7, (Array.getElem?_eq_some_iff.mp h5).1⟩
theorem StaN.ext (F : StaN Z n0 h C nm d v) (E : Ext h h') : StaN Z n0 h' C nm d v := by obtain ⟨cf, i, k, f, st, cell, h1, h2, h3, h4, h5, r⟩ := F; exact ⟨cf, i, k, f, st, cell, h1, h2, h3, h4, E.2 _ _ h5, r⟩
theorem StaN.keep (F : StaN Z n0 h C nm d v) (K : Keep h h' ws) (q : ∀ x ∈ ws, n0 ≤ x) : StaN Z n0 h' C nm d v := by
  obtain ⟨cf, i, k, f, st, cell, h1, h2, h3, h4, h5, h6, h7, h8⟩ := F
  exact ⟨cf, i, k, f, st, cell, h1, h2, h3, h4, K.2.1 _ _ h5 (fun z => absurd h8 (Nat.not_lt.mpr (q _ z))), h6, h7, h8⟩
theorem StaN.wr {w : Value} (F : StaN Z n0 h C nm d v) (W : Wr h h' a sl w) : StaN Z n0 h' C nm d v := by
  obtain ⟨cf, i, k, f, st, cell, h1, h2, h3, h4, h5, h6, h7, h8⟩ := F
  obtain ⟨c', e1, -, -, -, e5, -, e7⟩ := wr_at W h5
  have ne : st ≠ a := fun e => by rw [(e7 e).2.2] at h6; cases h6
  exact ⟨cf, i, k, f, st, cell, h1, h2, h3, h4, by rw [← e5 ne]; exact e1, h6, h7, h8⟩
end StaN
/-- what may lie in an array of objects of class C (of arrays of class C) -/
def OvrO (Z : State) (h : Heap) (a : Addr) (C : String) : Prop := ∃ cl : Cell, h[a]? = some cl ∧ Ovr Z cl.cls C
theorem OvrO.ext {C : String} (F : OvrO Z h a C) (E : Ext h h') : OvrO Z h' a C := by obtain ⟨cl, h1, r⟩ := F; exact ⟨cl, E.2 _ _ h1, r⟩
theorem OvrO.wr {C : String} (F : OvrO Z h a C) (W : Wr h h' b sl v) : OvrO Z h' a C := by obtain ⟨cl, h1, r⟩ := F; obtain ⟨c', e1, e2, -⟩ := wr_at W h1; exact ⟨c', e1, by rw [e2]; exact r⟩
theorem OvrO.keep {C : String} (F : OvrO Z h a C) (K : Keep h h' ws) : OvrO Z h' a C := by obtain ⟨cl, h1, r⟩ := F; obtain ⟨c', e1, e2, -⟩ := K.2.2 _ _ h1; exact ⟨c', e1, by rw [e2]; exact r⟩
theorem stoO {C : String} {y : Addr} (A : Arr Z h a cl ty) (O : OvrO Z h a C) (I : Ins Z h y C true) : Sto Z h a (.ref y) := by
  obtain ⟨c', h1, r⟩ := O
  cases A.1.symm.trans h1
  exact Sto.of A r I
def OvrB (Z : State) (h : Heap) (a : Addr) (C : String) : Prop := ∃ (cl : Cell) (t : FieldType), h[a]? = some cl ∧ OvrA Z cl.cls t C
theorem OvrB.ext {C : String} (F : OvrB Z h a C) (E : Ext h h') : OvrB Z h' a C := by obtain ⟨cl, t, h1, r⟩ := F; exact ⟨cl, t, E.2 _ _ h1, r⟩
theorem OvrB.wr {C : String} (F : OvrB Z h a C) (W : Wr h h' b sl v) : OvrB Z h' a C := by obtain ⟨cl, t, h1, r⟩ := F; obtain ⟨c', e1, e2, -⟩ := wr_at W h1; exact ⟨c', t, e1, by rw [e2]; exact r⟩
theorem OvrB.keep {C : String} (F : OvrB Z h a C) (K : Keep h h' ws) : OvrB Z h' a C := by obtain ⟨cl, t, h1, r⟩ := F; obtain ⟨c', e1, e2, -⟩ := K.2.2 _ _ h1; exact ⟨c', t, e1, by rw [e2]; exact r⟩
theorem stoB {C : String} {y : Addr} (A : Arr Z h a cl ty) (O : OvrB Z h a C) (I : Ins Z h y C true) : Sto Z h a (.ref y) := by
  obtain ⟨c', t, h1, r⟩ := O
  cases A.1.symm.trans h1
  exact Sto.ofVA A rfl r I
theorem fits_nil : ∀ w ∈ ([] : List Value), fits ty w = true := fun _ q => nomatch q
theorem fits_cons (q : fits ty v = true) (r : ∀ w ∈ vs, fits ty w = true) : ∀ w ∈ v :: vs, fits ty w = true := fun w z => (List.mem_cons.mp z).elim (fun u => u ▸ q) (r w)
theorem Ary.arv {dv : Value} {z : Int32} (F : Ary Z h a ty vs) (hz : z.toNatClampNeg = vs.length) (h0 : ¬ z < 0) (hf : ∀ w ∈ vs, fits ty w = true) : ∃ k, Arv Z h a k ty z vs dv := by
  obtain ⟨cl, A, S⟩ := F
  have sz : cl.slots.size = vs.length := sizeA S
  refine ⟨_, cl, A, rfl, sz.trans hz.symm, h0, fun i hi => ?_, fun i hi => ?_⟩
  · rw [sz] at hi
    refine atA S ?_
    rw [List.getD_eq_getElem?_getD, List.getElem?_eq_getElem hi]; rfl
  · rw [sz] at hi
    rw [List.getD_eq_getElem?_getD, List.getElem?_eq_getElem hi]
    exact hf _ (List.getElem_mem hi)
theorem Arv.ary {k : ClassId} {z : Int32} {dv : Value} (F : Arv Z h a k ty z vs dv) (hz : z.toNatClampNeg = vs.length) : Ary Z h a ty vs := by
  obtain ⟨cl, A, -, S, -, H, -⟩ := F
  refine ⟨cl, A, List.ext_getElem? fun i => ?_⟩
  by_cases hi : i < cl.slots.size
  · have q := H i hi
    have hv : i < vs.length := by omega
    rw [List.getD_eq_getElem?_getD, List.getElem?_eq_getElem hv] at q
    rw [List.getElem?_eq_getElem hv, Array.getElem?_toList]; exact q
  · rw [List.getElem?_eq_none (by simp; omega), List.getElem?_eq_none (by omega)]
theorem storeV {Ls : Array Slot} {i : Nat} {r : Value} {o : Slot} {l' : Array Slot} (q : r.isRef = true) (ho : o = .unset ∨ ∃ w, o = .val w ∧ w.category = 1) (hold : Ls[i]? = some o := by rfl) (hl : Ls.setIfInBounds i (.val r) = l' := by rfl) : storeLocals Ls i r = some l' := by
  rw [← hl]; exact XS.store1 hold ho (catV q)
end Own
end Jvm.RoadKit
namespace Jvm.Pilot.@@N@@
open Jvm Jvm.ClassFile Sem Op Lib Jvm.Free Jvm.Stand Jvm.LawKit Jvm.RoadKit Bundle Jvm.Pilot.@@N@@.Jvm.D
theorem own_n {u n : Int32} (h : n = ((u &&& (2147483647 : Int32)) % (3 : Int32))) : n = 0 ∨ n = 1 ∨ n = 2 := by
  have q := Jvm.Kit.i32_mask u 2147483647 (k := 31) (by decide) (by decide)
  have r := Jvm.Kit.i32_rem_nonneg (x := u &&& 2147483647) (y := 3) (by omega)
  rw [← h, show (3 : Int32).toInt = 3 from rfl] at r
  have s : n.toInt = 0 ∨ n.toInt = 1 ∨ n.toInt = 2 := by omega
  rcases s with s | s | s
  · have s := Int32.toInt_inj.mp (show n.toInt = (0 : Int32).toInt from s); exact Or.inl s
  · have s := Int32.toInt_inj.mp (show n.toInt = (1 : Int32).toInt from s); exact Or.inr (Or.inl s)
  · have s := Int32.toInt_inj.mp (show n.toInt = (2 : Int32).toInt from s); exact Or.inr (Or.inr s)
theorem ef_9 (m : MethodId) (x0 : Int32) (x1 : Int32)  : entryFrame m #[(.int x0), (.int x1)] 2 = mkF m 0 #[.val (.int x0), .val (.int x1)] [] := by first | (simp [entryFrame, mkF, argsToLocals, Value.category]; done) | rfl
theorem d9_0 : decode jdk_29_method_69_code 0 = .ok (.iload_n 0, 1) := by decide +kernel
theorem d9_1 : decode jdk_29_method_69_code 1 = .ok (.iload_n 1, 1) := by decide +kernel
theorem d9_2 : decode jdk_29_method_69_code 2 = .ok (.if_icmp .gt 7, 3) := by decide +kernel
theorem d9_5 : decode jdk_29_method_69_code 5 = .ok (.iload_n 0, 1) := by decide +kernel
theorem d9_6 : decode jdk_29_method_69_code 6 = .ok (.goto 4, 3) := by decide +kernel
theorem d9_10 : decode jdk_29_method_69_code 10 = .ok (.ireturn, 1) := by decide +kernel
def Qmi (Z : State)  (h0 : Heap) (n0 : Nat) (v : Option Value) (h : Heap) (L : List Loc) : Prop := v = some (.int (2 : Int32)) ∧ Fr n0 L ∧ h = h0
set_option maxRecDepth 65536 in
set_option maxHeartbeats 40000000 in
theorem rmmi (l : Launch) (Z : State) (a0 : Array Value) (hw : ∀ d ∈ tables_1, d.before a0 Z = true) (ws : List Jvm.Cond)  (h0 : Heap) (n0 : Nat) (Z0 : n0 ≤ h0.size) :
    MetFree l (⟨"java/lang/Math", "min", "(II)I"⟩ : MethodName) (head1 (Jvm.Cond.code (⟨"java/lang/Math", "min", "(II)I"⟩ : MethodName) jdk_29_method_69_code 2 (some .int) :: ws) ({ frames := 0, cells := 0, slots := 0, locals := 0 } : Room)) (fun a U => a = #[(.int (2 : Int32)), (.int (4 : Int32))] ∧ Z.Warmed39 U.vm ∧ U.heap = h0) (fun _ _ _ _ _ => True) (fun _ U o U' => ∃ v L, o = .returned v ∧ Qmi Z  h0 n0 v U'.heap L ∧ FrameEnd U o U' L 0 0) := by
  refine MetFree.of_bodySF (Jvm.Free.JP.mathPlain rfl (by decide +kernel)) hisR ?_
  intro p e s m args below meth c s₁ Bd hml0 hP hK
  obtain ⟨rfl, hZ, hh⟩ := hP
  have hx := Bd.exec
  have hby := Bd.bytes
  have hml : c.maxLocals = 2 := hml0
  have hown : s.vm.findClass "java/lang/Math" = some m.cls := findClass_of_methodNamed Bd.named
  have hnm := (name_of_methodNamed Bd.named Bd.method).1
  have X0 : Stand p l e ({ frames := 0, cells := 0, slots := 0, locals := 0 } : Room) s m #[(.int (2 : Int32)), (.int (4 : Int32))] below meth c s₁ [] 0 0 := Stand.of_body Bd
  have e0 : s₁.heap = h0 := by rw [← hh, Bd.state]; rfl
  have N0 := Fr.nil n0
  have hlk : meth.locks = false := BodyLoose.notSynchronized Bd
  show Goal p e below s (Qmi Z  h0 n0) 0 0 (s₁.setTop (entryFrame m #[(.int (2 : Int32)), (.int (4 : Int32))] 2))
  refine Goal.to (B := s₁.setTop (mkF m 0 #[.val (.int (2 : Int32)), .val (.int (4 : Int32))] [])) (fun tt kk => castTop (ef_9 m (2 : Int32) (4 : Int32) ) kk) ?_
  refine Goal.to (B := s₁.setTop (mkF m 10 #[.val (.int (2 : Int32)), .val (.int (4 : Int32))] [(.int (2 : Int32))])) (fun tt kk => ?_) ?_
  · show Steps p.tables e below (s₁.setTop (mkF m 0 #[.val (.int (2 : Int32)), .val (.int (4 : Int32))] [])) tt
    refine XS.iloadN X0.here hx rfl (hb hby d9_0) rfl ?_
    show Steps p.tables e below (s₁.setTop (mkF m 1 #[.val (.int (2 : Int32)), .val (.int (4 : Int32))] [(.int (2 : Int32))])) tt
    refine XS.iloadN X0.here hx rfl (hb hby d9_1) rfl ?_
    show Steps p.tables e below (s₁.setTop (mkF m 2 #[.val (.int (2 : Int32)), .val (.int (4 : Int32))] [(.int (4 : Int32)), (.int (2 : Int32))])) tt
    refine XS.icmpNo X0.here hx rfl (hb hby d9_2) rfl (flt ((by decide) : ¬ ((4 : Int32) < (2 : Int32)))).2.2.1 ?_
    show Steps p.tables e below (s₁.setTop (mkF m 5 #[.val (.int (2 : Int32)), .val (.int (4 : Int32))] [])) tt
    refine XS.iloadN X0.here hx rfl (hb hby d9_5) rfl ?_
    show Steps p.tables e below (s₁.setTop (mkF m 6 #[.val (.int (2 : Int32)), .val (.int (4 : Int32))] [(.int (2 : Int32))])) tt
    refine XS.goto X0.here hx rfl (pc0 := 6) (pc' := 10) rfl (hb hby d9_6) (by decide) (by decide) ?_
    exact kk
  exact Goal.retV X0 hx Bd.returns rfl (Or.inl ⟨rfl, Or.inl rfl, _, rfl⟩) (hb hby d9_10) hlk e0 ⟨rfl, N0, rfl⟩ (by decide) (by decide)
theorem ef_8 (m : MethodId) (x0 : Addr) (x1 : Int32)  : entryFrame m #[(.ref x0), (.int x1)] 3 = mkF m 0 #[.val (.ref x0), .val (.int x1), .unset] [] := by first | (simp [entryFrame, mkF, argsToLocals, Value.category]; done) | rfl
theorem pn_8 : plainName "java/util/Arrays" = true := by first | (simp [plainName, overriddenIn]; done) | decide +kernel
theorem d8_0 : decode jdk_65_method_123_code 0 = .ok (.iload_n 1, 1) := by decide +kernel
theorem d8_1 : decode jdk_65_method_123_code 1 = .ok (.aload_n 0, 1) := by decide +kernel
theorem d8_2 : decode jdk_65_method_123_code 2 = .ok (.arraylength, 1) := by decide +kernel
theorem d8_3 : decode jdk_65_method_123_code 3 = .ok (.if_icmp .ne 11, 3) := by decide +kernel
theorem d8_14 : decode jdk_65_method_123_code 14 = .ok (.iload_n 1, 1) := by decide +kernel
theorem d8_15 : decode jdk_65_method_123_code 15 = .ok (.newarray .int, 2) := by decide +kernel
theorem d8_17 : decode jdk_65_method_123_code 17 = .ok (.astore_n 2, 1) := by decide +kernel
theorem d8_18 : decode jdk_65_method_123_code 18 = .ok (.aload_n 0, 1) := by decide +kernel
theorem d8_19 : decode jdk_65_method_123_code 19 = .ok (.iconst 0, 1) := by decide +kernel
theorem d8_20 : decode jdk_65_method_123_code 20 = .ok (.aload_n 2, 1) := by decide +kernel
theorem d8_21 : decode jdk_65_method_123_code 21 = .ok (.iconst 0, 1) := by decide +kernel
theorem d8_22 : decode jdk_65_method_123_code 22 = .ok (.aload_n 0, 1) := by decide +kernel
theorem d8_23 : decode jdk_65_method_123_code 23 = .ok (.arraylength, 1) := by decide +kernel
theorem d8_24 : decode jdk_65_method_123_code 24 = .ok (.iload_n 1, 1) := by decide +kernel
theorem pd_6 : parseMethodDescriptor "(II)I" = some ⟨[.int, .int], some .int⟩ := by decide +kernel
theorem d8_25 : decode jdk_65_method_123_code 25 = .ok (.invokestatic 304, 3) := by decide +kernel
theorem d8_28 : decode jdk_65_method_123_code 28 = .ok (.invokestatic 150, 3) := by decide +kernel
theorem d8_31 : decode jdk_65_method_123_code 31 = .ok (.aload_n 2, 1) := by decide +kernel
theorem d8_32 : decode jdk_65_method_123_code 32 = .ok (.areturn, 1) := by decide +kernel
def Qco (Z : State) (vr : Addr) (x0 : Int32) (x1 : Int32) (h0 : Heap) (n0 : Nat) (v : Option Value) (h : Heap) (L : List Loc) : Prop := ∃ vb : Addr, v = some (.ref vb) ∧ Fr n0 L ∧ Keep h0 h [] ∧ h0.size ≤ vb ∧ Ary Z h vb .int [(.int x0), (.int x1), (.int (0 : Int32)), (.int (0 : Int32))]
set_option maxRecDepth 65536 in
set_option maxHeartbeats 40000000 in
theorem rmco (l : Launch) (Z : State) (a0 : Array Value) (hw : ∀ d ∈ tables_1, d.before a0 Z = true) (ws : List Jvm.Cond) (vr : Addr) (x0 : Int32) (x1 : Int32) (h0 : Heap) (n0 : Nat) (Z0 : n0 ≤ h0.size) (V_vr : Ary Z h0 vr .int [(.int x0), (.int x1)]) :
    MetFree l (⟨"java/util/Arrays", "copyOf", "([II)[I"⟩ : MethodName) (head1 (Jvm.Cond.code (⟨"java/util/Arrays", "copyOf", "([II)[I"⟩ : MethodName) jdk_65_method_123_code 3 (some (.array .int)) :: ws) ({ frames := 1, cells := 1, slots := 4, locals := 18 } : Room)) (fun a U => a = #[(.ref vr), (.int (4 : Int32))] ∧ Z.Warmed39 U.vm ∧ U.heap = h0) (fun _ _ _ _ _ => True) (fun _ U o U' => ∃ v L, o = .returned v ∧ Qco Z vr x0 x1 h0 n0 v U'.heap L ∧ FrameEnd U o U' L 1 4) := by
  refine MetFree.of_bodySF (plainFor_of_name pn_8) hisR ?_
  intro p e s m args below meth c s₁ Bd hml0 hP hK
  obtain ⟨rfl, hZ, hh⟩ := hP
  have hx := Bd.exec
  have hby := Bd.bytes
  have hml : c.maxLocals = 3 := hml0
  have hown : s.vm.findClass "java/util/Arrays" = some m.cls := findClass_of_methodNamed Bd.named
  have hnm := (name_of_methodNamed Bd.named Bd.method).1
  have X0 : Stand p l e ({ frames := 1, cells := 1, slots := 4, locals := 18 } : Room) s m #[(.ref vr), (.int (4 : Int32))] below meth c s₁ [] 0 0 := Stand.of_body Bd
  have e0 : s₁.heap = h0 := by rw [← hh, Bd.state]; rfl
  have N0 := Fr.nil n0
  have hlk : meth.locks = false := BodyLoose.notSynchronized Bd
  show Goal p e below s (Qco Z vr x0 x1 h0 n0) 1 4 (s₁.setTop (entryFrame m #[(.ref vr), (.int (4 : Int32))] 3))
  refine Goal.to (B := s₁.setTop (mkF m 0 #[.val (.ref vr), .val (.int (4 : Int32)), .unset] [])) (fun tt kk => castTop (ef_8 m vr (4 : Int32) ) kk) ?_
  refine Goal.to (B := s₁.setTop (mkF m 2 #[.val (.ref vr), .val (.int (4 : Int32)), .unset] [(.ref vr), (.int (4 : Int32))])) (fun tt kk => ?_) ?_
  · show Steps p.tables e below (s₁.setTop (mkF m 0 #[.val (.ref vr), .val (.int (4 : Int32)), .unset] [])) tt
    refine XS.iloadN X0.here hx rfl (hb hby d8_0) rfl ?_
    show Steps p.tables e below (s₁.setTop (mkF m 1 #[.val (.ref vr), .val (.int (4 : Int32)), .unset] [(.int (4 : Int32))])) tt
    refine XS.aloadN X0.here hx rfl (hb hby d8_1) rfl rfl ?_
    exact kk
  obtain ⟨cl1, Ar1, Sl1⟩ := id V_vr
  have ln1 : cl1.slots.size.toInt32 = (2 : Int32) := lenA Sl1 rfl
  refine Goal.to (B := s₁.setTop (mkF m 15 #[.val (.ref vr), .val (.int (4 : Int32)), .unset] [(.int (4 : Int32))])) (fun tt kk => ?_) ?_
  · show Steps p.tables e below (s₁.setTop (mkF m 2 #[.val (.ref vr), .val (.int (4 : Int32)), .unset] [(.ref vr), (.int (4 : Int32))])) tt
    refine X0.arraylength hx (by rw [e0]; exact Ar1.1) (State.isArrayOf_alike hZ.alike Ar1.2.1) (g := (mkF m 2 #[.val (.ref vr), .val (.int (4 : Int32)), .unset] [(.ref vr), (.int (4 : Int32))])) rfl rfl (hb hby d8_2) _ ?_
    rw [ln1]
    show Steps p.tables e below (s₁.setTop (mkF m 3 #[.val (.ref vr), .val (.int (4 : Int32)), .unset] [(.int (2 : Int32)), (.int (4 : Int32))])) tt
    refine XS.icmpYes X0.here hx rfl (pc0 := 3) (pc' := 14) rfl (hb hby d8_3) rfl (feq ((by decide) : ¬ ((4 : Int32) = (2 : Int32)))).2 (by decide) (by decide) ?_
    show Steps p.tables e below (s₁.setTop (mkF m 14 #[.val (.ref vr), .val (.int (4 : Int32)), .unset] [])) tt
    refine XS.iloadN X0.here hx rfl (hb hby d8_14) rfl ?_
    exact kk
  obtain ⟨T2, h2, k2, X2, e2, E2, A2, st2⟩ := newP X0 hx hZ (hw _ (mw 10 rfl)) e0 (g := (mkF m 15 #[.val (.ref vr), .val (.int (4 : Int32)), .unset] [(.int (4 : Int32))])) rfl (hb hby d8_15) rfl (by decide) (cap := 4) (by decide) (by decide) (by decide) (by decide)
  obtain ⟨b2, g2⟩ : ∃ z, z = h0.size := ⟨_, rfl⟩
  rw [← g2] at A2 st2
  have ne_vr_b2 : vr ≠ b2 := Nat.ne_of_lt (Nat.lt_of_lt_of_le V_vr.lt (Nat.le_of_eq g2.symm))
  have g_b2 : n0 ≤ b2 := Nat.le_trans Z0 (Nat.le_of_eq g2.symm)
  have sz_b2 : h0.size ≤ b2 := Nat.le_trans (Keep.refl h0 []).1 (Nat.le_of_eq g2.symm)
  have V2 : Ary Z h2 b2 .int [(.int (0 : Int32)), (.int (0 : Int32)), (.int (0 : Int32)), (.int (0 : Int32))] := Ary.new A2 rfl
  refine Goal.to (B := T2.setTop (mkF m 17 #[.val (.ref vr), .val (.int (4 : Int32)), .unset] [(.ref b2)])) st2 ?_
  refine Goal.to (B := T2.setTop (mkF m 23 #[.val (.ref vr), .val (.int (4 : Int32)), .val (.ref b2)] [(.ref vr), (.int (0 : Int32)), (.ref b2), (.int (0 : Int32)), (.ref vr)])) (fun tt kk => ?_) ?_
  · show Steps p.tables e below (T2.setTop (mkF m 17 #[.val (.ref vr), .val (.int (4 : Int32)), .unset] [(.ref b2)])) tt
    refine XS.astoreN X2.here hx rfl (hb hby d8_17) rfl rfl (l' := #[.val (.ref vr), .val (.int (4 : Int32)), .val (.ref b2)]) rfl ?_
    show Steps p.tables e below (T2.setTop (mkF m 18 #[.val (.ref vr), .val (.int (4 : Int32)), .val (.ref b2)] [])) tt
    refine XS.aloadN X2.here hx rfl (hb hby d8_18) rfl rfl ?_
    show Steps p.tables e below (T2.setTop (mkF m 19 #[.val (.ref vr), .val (.int (4 : Int32)), .val (.ref b2)] [(.ref vr)])) tt
    refine XS.iconst X2.here hx rfl (hb hby d8_19) ?_
    show Steps p.tables e below (T2.setTop (mkF m 20 #[.val (.ref vr), .val (.int (4 : Int32)), .val (.ref b2)] [(.int (0 : Int32)), (.ref vr)])) tt
    refine XS.aloadN X2.here hx rfl (hb hby d8_20) rfl rfl ?_
    show Steps p.tables e below (T2.setTop (mkF m 21 #[.val (.ref vr), .val (.int (4 : Int32)), .val (.ref b2)] [(.ref b2), (.int (0 : Int32)), (.ref vr)])) tt
    refine XS.iconst X2.here hx rfl (hb hby d8_21) ?_
    show Steps p.tables e below (T2.setTop (mkF m 22 #[.val (.ref vr), .val (.int (4 : Int32)), .val (.ref b2)] [(.int (0 : Int32)), (.ref b2), (.int (0 : Int32)), (.ref vr)])) tt
    refine XS.aloadN X2.here hx rfl (hb hby d8_22) rfl rfl ?_
    exact kk
  have f3 : Ary Z h2 vr .int [(.int x0), (.int x1)] := (V_vr.ext E2)
  obtain ⟨cl4, Ar4, Sl4⟩ := id f3
  have ln4 : cl4.slots.size.toInt32 = (2 : Int32) := lenA Sl4 rfl
  refine Goal.to (B := T2.setTop (mkF m 25 #[.val (.ref vr), .val (.int (4 : Int32)), .val (.ref b2)] [(.int (4 : Int32)), (.int (2 : Int32)), (.int (0 : Int32)), (.ref b2), (.int (0 : Int32)), (.ref vr)])) (fun tt kk => ?_) ?_
  · show Steps p.tables e below (T2.setTop (mkF m 23 #[.val (.ref vr), .val (.int (4 : Int32)), .val (.ref b2)] [(.ref vr), (.int (0 : Int32)), (.ref b2), (.int (0 : Int32)), (.ref vr)])) tt
    refine X2.arraylength hx (by rw [e2]; exact Ar4.1) (State.isArrayOf_alike hZ.alike Ar4.2.1) (g := (mkF m 23 #[.val (.ref vr), .val (.int (4 : Int32)), .val (.ref b2)] [(.ref vr), (.int (0 : Int32)), (.ref b2), (.int (0 : Int32)), (.ref vr)])) rfl rfl (hb hby d8_23) _ ?_
    rw [ln4]
    show Steps p.tables e below (T2.setTop (mkF m 24 #[.val (.ref vr), .val (.int (4 : Int32)), .val (.ref b2)] [(.int (2 : Int32)), (.int (0 : Int32)), (.ref b2), (.int (0 : Int32)), (.ref vr)])) tt
    refine XS.iloadN X2.here hx rfl (hb hby d8_24) rfl ?_
    exact kk
  have f5 : n0 ≤ h2.size := (Nat.le_trans Z0 E2.1)
  obtain ⟨_, _, ⟨T6, L6, k6, n6⟩, -, X6, ⟨Lc6, hQ6, l6, y6, z6⟩, st6⟩ := Jvm.LawKit.callS X2 hx (y := (⟨"java/lang/Math", "min", "(II)I"⟩ : MethodName)) hown (mvT hZ (hw _ (mw 49 rfl))) (mvT hZ (hw _ (mw 50 rfl))) (mvT hZ (hw _ (mw 51 rfl))) (mvT hZ (hw _ (mw 52 rfl))) (by decide) (backOf (W := 4) (rmmi l Z a0 hw []  h2 n0 f5 ) hZ (hw _ (mw 52 rfl)) (hw _ (mw 51 rfl)) (by decide) (by decide)) (g := (mkF m 25 #[.val (.ref vr), .val (.int (4 : Int32)), .val (.ref b2)] [(.int (4 : Int32)), (.int (2 : Int32)), (.int (0 : Int32)), (.ref b2), (.int (0 : Int32)), (.ref vr)])) rfl (by rw [hml]; rfl) (argsL := [(.int (2 : Int32)), (.int (4 : Int32))]) (rest := [(.int (0 : Int32)), (.ref b2), (.int (0 : Int32)), (.ref vr)]) (lenOf pd_6 rfl) rfl (by show 2 * 0 + _ ≤ _; exact Nat.le_of_eq rfl) (hb hby d8_25) (fun _ _ => ⟨rfl, e2, (by decide : 1 + 0 ≤ _), (by decide : 4 + 0 ≤ _)⟩)
  dsimp only [Pt.U, Pt.locs, Pt.cells, Pt.slots] at X6 l6 y6 z6 st6 hQ6
  subst l6 y6 z6
  obtain ⟨rfl, N6q, e6⟩ := hQ6
  have N6 := Fr.app N0 N6q
  refine Goal.to (B := T6.setTop (mkF m 28 #[.val (.ref vr), .val (.int (4 : Int32)), .val (.ref b2)] [(.int (2 : Int32)), (.int (0 : Int32)), (.ref b2), (.int (0 : Int32)), (.ref vr)])) st6 ?_
  obtain ⟨ka7, Va7⟩ := Ary.arv (dv := (.int (0 : Int32))) (z := (2 : Int32)) f3 rfl (by decide) (fits_cons rfl (fits_cons rfl fits_nil))
  obtain ⟨kb7, Vb7⟩ := Ary.arv (dv := (.int (0 : Int32))) (z := (4 : Int32)) V2 rfl (by decide) (fits_cons rfl (fits_cons rfl (fits_cons rfl (fits_cons rfl fits_nil))))
  obtain ⟨T7, h7, L7, X7, e7, N7, K7, Vc7, st7⟩ := cpA X6 hx hZ hown (hw _ (mw 53 rfl)) (hw _ (mw 56 rfl)) (hw _ (mw 54 rfl)) (hw _ (mw 55 rfl)) e6 Va7 Vb7 (Or.inl ⟨rfl, rfl⟩) (sp := (0 : Int32)) (dp := (0 : Int32)) (nn := (2 : Int32)) (by decide) (by decide) (by decide) (by decide) (by decide) (us := [(.int x0), (.int x1)]) rfl (by decide) N6 g_b2 (g := (mkF m 28 #[.val (.ref vr), .val (.int (4 : Int32)), .val (.ref b2)] [(.int (2 : Int32)), (.int (0 : Int32)), (.ref b2), (.int (0 : Int32)), (.ref vr)])) rfl (by rw [hml]; rfl) rfl (hb hby d8_28) (by decide) (W := 0) (by show 2 * 0 + _ ≤ _; exact Nat.le_of_eq rfl) (by decide)
  have V7 : Ary Z h7 b2 .int [(.int x0), (.int x1), (.int (0 : Int32)), (.int (0 : Int32))] := Arv.ary Vc7 rfl
  refine Goal.to (B := T7.setTop (mkF m 31 #[.val (.ref vr), .val (.int (4 : Int32)), .val (.ref b2)] [])) st7 ?_
  refine Goal.to (B := T7.setTop (mkF m 32 #[.val (.ref vr), .val (.int (4 : Int32)), .val (.ref b2)] [(.ref b2)])) (fun tt kk => ?_) ?_
  · show Steps p.tables e below (T7.setTop (mkF m 31 #[.val (.ref vr), .val (.int (4 : Int32)), .val (.ref b2)] [])) tt
    refine XS.aloadN X7.here hx rfl (hb hby d8_31) rfl rfl ?_
    exact kk
  have f8 : Keep h0 h7 [] := (((Keep.refl h0 []).ext E2).trans K7 (allS (Or.inr sz_b2) all0))
  exact Goal.retV X7 hx Bd.returns rfl (Or.inr (Or.inr (Or.inr (Or.inr ⟨rfl, rfl, rfl⟩)))) (hb hby d8_32) hlk e7 ⟨b2, rfl, N7, f8, sz_b2, V7⟩ (by decide) (by decide)
theorem ef_1 (m : MethodId) (x0 : Addr) (x1 : Int32)  : entryFrame m #[(.ref x0), (.int x1)] 2 = mkF m 0 #[.val (.ref x0), .val (.int x1)] [] := by first | (simp [entryFrame, mkF, argsToLocals, Value.category]; done) | rfl
theorem pn_1 : plainName "com/example/pattern_automaton/patternautomaton/NonZeroTransitions" = true := by first | (simp [plainName, overriddenIn]; done) | decide +kernel
theorem d1_0 : decode prog_33_method_1_code 0 = .ok (.aload_n 0, 1) := by decide +kernel
theorem d1_1 : decode prog_33_method_1_code 1 = .ok (.invokespecial 1, 3) := by decide +kernel
theorem d1_4 : decode prog_33_method_1_code 4 = .ok (.aload_n 0, 1) := by decide +kernel
theorem d1_5 : decode prog_33_method_1_code 5 = .ok (.iload_n 1, 1) := by decide +kernel
theorem d1_6 : decode prog_33_method_1_code 6 = .ok (.iconst 1, 1) := by decide +kernel
theorem d1_7 : decode prog_33_method_1_code 7 = .ok (.iadd, 1) := by decide +kernel
theorem d1_8 : decode prog_33_method_1_code 8 = .ok (.newarray .int, 2) := by decide +kernel
theorem d1_10 : decode prog_33_method_1_code 10 = .ok (.putfield 7, 3) := by decide +kernel
theorem d1_13 : decode prog_33_method_1_code 13 = .ok (.aload_n 0, 1) := by decide +kernel
theorem d1_14 : decode prog_33_method_1_code 14 = .ok (.iload_n 1, 1) := by decide +kernel
theorem d1_15 : decode prog_33_method_1_code 15 = .ok (.newarray .int, 2) := by decide +kernel
theorem d1_17 : decode prog_33_method_1_code 17 = .ok (.putfield 13, 3) := by decide +kernel
theorem d1_20 : decode prog_33_method_1_code 20 = .ok (.aload_n 0, 1) := by decide +kernel
theorem d1_21 : decode prog_33_method_1_code 21 = .ok (.iload_n 1, 1) := by decide +kernel
theorem d1_22 : decode prog_33_method_1_code 22 = .ok (.newarray .int, 2) := by decide +kernel
theorem d1_24 : decode prog_33_method_1_code 24 = .ok (.putfield 16, 3) := by decide +kernel
theorem d1_27 : decode prog_33_method_1_code 27 = .ok (.return_, 1) := by decide +kernel
def QN (Z : State) (va : Addr) (h0 : Heap) (n0 : Nat) (v : Option Value) (h : Heap) (L : List Loc) : Prop := ∃ vf : Addr, ∃ vr : Addr, ∃ vt : Addr, v = none ∧ Fr n0 L ∧ Keep h0 h [va] ∧ h0.size ≤ vf ∧ h0.size ≤ vr ∧ h0.size ≤ vt ∧ vf ≠ vr ∧ vf ≠ vt ∧ vr ≠ vt ∧ Fld Z h va "com/example/pattern_automaton/patternautomaton/NonZeroTransitions" "first" "[I" (.ref vf) ∧ Fld Z h va "com/example/pattern_automaton/patternautomaton/NonZeroTransitions" "rows" "[I" (.ref vr) ∧ Fld Z h va "com/example/pattern_automaton/patternautomaton/NonZeroTransitions" "targets" "[I" (.ref vt) ∧ Fld Z h va "com/example/pattern_automaton/patternautomaton/NonZeroTransitions" "size" "I" (.int (0 : Int32)) ∧ Fld Z h va "com/example/pattern_automaton/patternautomaton/NonZeroTransitions" "ended" "I" (.int (0 : Int32)) ∧ Ary Z h vf .int [(.int (0 : Int32)), (.int (0 : Int32)), (.int (0 : Int32))] ∧ Ary Z h vr .int [(.int (0 : Int32)), (.int (0 : Int32))] ∧ Ary Z h vt .int [(.int (0 : Int32)), (.int (0 : Int32))]
set_option maxRecDepth 65536 in
set_option maxHeartbeats 40000000 in
theorem rmN (l : Launch) (Z : State) (a0 : Array Value) (hw : ∀ d ∈ tables_1, d.before a0 Z = true) (ws : List Jvm.Cond) (va : Addr) (h0 : Heap) (n0 : Nat) (Z0 : n0 ≤ h0.size) (E_va : Exa Z h0 va "com/example/pattern_automaton/patternautomaton/NonZeroTransitions") (F_first_va : Fld Z h0 va "com/example/pattern_automaton/patternautomaton/NonZeroTransitions" "first" "[I" .null) (F_rows_va : Fld Z h0 va "com/example/pattern_automaton/patternautomaton/NonZeroTransitions" "rows" "[I" .null) (F_targets_va : Fld Z h0 va "com/example/pattern_automaton/patternautomaton/NonZeroTransitions" "targets" "[I" .null) (F_size_va : Fld Z h0 va "com/example/pattern_automaton/patternautomaton/NonZeroTransitions" "size" "I" (.int (0 : Int32))) (F_ended_va : Fld Z h0 va "com/example/pattern_automaton/patternautomaton/NonZeroTransitions" "ended" "I" (.int (0 : Int32))) (g_va : n0 ≤ va) :
    MetFree l (⟨"com/example/pattern_automaton/patternautomaton/NonZeroTransitions", "<init>", "(I)V"⟩ : MethodName) (head1 (Jvm.Cond.code (⟨"com/example/pattern_automaton/patternautomaton/NonZeroTransitions", "<init>", "(I)V"⟩ : MethodName) prog_33_method_1_code 2 none :: ws) ({ frames := 1, cells := 3, slots := 7, locals := 12 } : Room)) (fun a U => a = #[(.ref va), (.int (2 : Int32))] ∧ Z.Warmed39 U.vm ∧ U.heap = h0) (fun _ _ _ _ _ => True) (fun _ U o U' => ∃ v L, o = .returned v ∧ QN Z va h0 n0 v U'.heap L ∧ FrameEnd U o U' L 3 7) := by
  refine MetFree.of_bodySF (plainFor_of_name pn_1) hisR ?_
  intro p e s m args below meth c s₁ Bd hml0 hP hK
  obtain ⟨rfl, hZ, hh⟩ := hP
  have hx := Bd.exec
  have hby := Bd.bytes
  have hml : c.maxLocals = 2 := hml0
  have hown : s.vm.findClass "com/example/pattern_automaton/patternautomaton/NonZeroTransitions" = some m.cls := findClass_of_methodNamed Bd.named
  have hnm := (name_of_methodNamed Bd.named Bd.method).1
  have X0 : Stand p l e ({ frames := 1, cells := 3, slots := 7, locals := 12 } : Room) s m #[(.ref va), (.int (2 : Int32))] below meth c s₁ [] 0 0 := Stand.of_body Bd
  have e0 : s₁.heap = h0 := by rw [← hh, Bd.state]; rfl
  have N0 := Fr.nil n0
  have hlk : meth.locks = false := BodyLoose.notSynchronized Bd
  show Goal p e below s (QN Z va h0 n0) 3 7 (s₁.setTop (entryFrame m #[(.ref va), (.int (2 : Int32))] 2))
  refine Goal.to (B := s₁.setTop (mkF m 0 #[.val (.ref va), .val (.int (2 : Int32))] [])) (fun tt kk => castTop (ef_1 m va (2 : Int32) ) kk) ?_
  refine Goal.to (B := s₁.setTop (mkF m 1 #[.val (.ref va), .val (.int (2 : Int32))] [(.ref va)])) (fun tt kk => ?_) ?_
  · show Steps p.tables e below (s₁.setTop (mkF m 0 #[.val (.ref va), .val (.int (2 : Int32))] [])) tt
    refine XS.aloadN X0.here hx rfl (hb hby d1_0) rfl rfl ?_
    exact kk
  obtain ⟨T1, X1, e1, st1⟩ := initO X0 hx hZ hown (hw _ (mw 7 rfl)) (hw _ (mw 8 rfl)) (hw _ (mw 9 rfl)) e0 (g := (mkF m 1 #[.val (.ref va), .val (.int (2 : Int32))] [(.ref va)])) rfl (by rw [hml]; rfl) rfl (hb hby d1_1) (by decide) (W := 0) (by show 2 * 0 + _ ≤ _; exact Nat.le_of_eq rfl) (by decide)
  refine Goal.to (B := T1.setTop (mkF m 4 #[.val (.ref va), .val (.int (2 : Int32))] [])) st1 ?_
  refine Goal.to (B := T1.setTop (mkF m 8 #[.val (.ref va), .val (.int (2 : Int32))] [(.int (3 : Int32)), (.ref va)])) (fun tt kk => ?_) ?_
  · show Steps p.tables e below (T1.setTop (mkF m 4 #[.val (.ref va), .val (.int (2 : Int32))] [])) tt
    refine XS.aloadN X1.here hx rfl (hb hby d1_4) rfl rfl ?_
    show Steps p.tables e below (T1.setTop (mkF m 5 #[.val (.ref va), .val (.int (2 : Int32))] [(.ref va)])) tt
    refine XS.iloadN X1.here hx rfl (hb hby d1_5) rfl ?_
    show Steps p.tables e below (T1.setTop (mkF m 6 #[.val (.ref va), .val (.int (2 : Int32))] [(.int (2 : Int32)), (.ref va)])) tt
    refine XS.iconst X1.here hx rfl (hb hby d1_6) ?_
    show Steps p.tables e below (T1.setTop (mkF m 7 #[.val (.ref va), .val (.int (2 : Int32))] [(.int (1 : Int32)), (.int (2 : Int32)), (.ref va)])) tt
    refine XS.iadd X1.here hx rfl (hb hby d1_7) rfl ?_
    exact kk
  obtain ⟨T2, h2, k2, X2, e2, E2, A2, st2⟩ := newP X1 hx hZ (hw _ (mw 10 rfl)) e1 (g := (mkF m 8 #[.val (.ref va), .val (.int (2 : Int32))] [(.int (3 : Int32)), (.ref va)])) rfl (hb hby d1_8) rfl (by decide) (cap := 3) (by decide) (by decide) (by decide) (by decide)
  obtain ⟨b2, g2⟩ : ∃ z, z = h0.size := ⟨_, rfl⟩
  rw [← g2] at A2 st2
  have ne_va_b2 : va ≠ b2 := Nat.ne_of_lt (Nat.lt_of_lt_of_le E_va.lt (Nat.le_of_eq g2.symm))
  have g_b2 : n0 ≤ b2 := Nat.le_trans Z0 (Nat.le_of_eq g2.symm)
  have sz_b2 : h0.size ≤ b2 := Nat.le_trans (Keep.refl h0 [va]).1 (Nat.le_of_eq g2.symm)
  have V2 : Ary Z h2 b2 .int [(.int (0 : Int32)), (.int (0 : Int32)), (.int (0 : Int32))] := Ary.new A2 rfl
  refine Goal.to (B := T2.setTop (mkF m 10 #[.val (.ref va), .val (.int (2 : Int32))] [(.ref b2), (.ref va)])) st2 ?_
  have f3 : Fld Z h2 va "com/example/pattern_automaton/patternautomaton/NonZeroTransitions" "first" "[I" .null := (F_first_va.ext E2)
  have f4 : Exa Z h2 va "com/example/pattern_automaton/patternautomaton/NonZeroTransitions" := (E_va.ext E2)
  obtain ⟨T5, h5, X5, e5, W5, st5⟩ := putF X2 hx hZ hown (host := "") (Or.inl (hw _ (mw 11 rfl))) Via.refl e2 f3 f4 (Or.inr ⟨(hw _ (mw 12 rfl)), rfl, hnm⟩) (hw _ (mw 2 rfl)) (ty := (.array .int)) (by decide) rfl rfl (g := (mkF m 10 #[.val (.ref va), .val (.int (2 : Int32))] [(.ref b2), (.ref va)])) rfl rfl (hb hby d1_10)
  have Fw5 : Fld Z h5 va "com/example/pattern_automaton/patternautomaton/NonZeroTransitions" "first" "[I" (.ref b2) := f3.same W5
  have N5 := Fr.snoc X5 N0 g_va
  refine Goal.to (B := T5.setTop (mkF m 13 #[.val (.ref va), .val (.int (2 : Int32))] [])) st5 ?_
  refine Goal.to (B := T5.setTop (mkF m 15 #[.val (.ref va), .val (.int (2 : Int32))] [(.int (2 : Int32)), (.ref va)])) (fun tt kk => ?_) ?_
  · show Steps p.tables e below (T5.setTop (mkF m 13 #[.val (.ref va), .val (.int (2 : Int32))] [])) tt
    refine XS.aloadN X5.here hx rfl (hb hby d1_13) rfl rfl ?_
    show Steps p.tables e below (T5.setTop (mkF m 14 #[.val (.ref va), .val (.int (2 : Int32))] [(.ref va)])) tt
    refine XS.iloadN X5.here hx rfl (hb hby d1_14) rfl ?_
    exact kk
  have f7 : Exa Z h5 va "com/example/pattern_automaton/patternautomaton/NonZeroTransitions" := (f4.wr W5)
  have f8 : Ary Z h5 b2 .int [(.int (0 : Int32)), (.int (0 : Int32)), (.int (0 : Int32))] := (V2.other W5 (Ne.symm ne_va_b2))
  have f9 : n0 ≤ h5.size := (Nat.le_trans (Nat.le_trans Z0 E2.1) (Keep.of_wr W5).1)
  have f10 : Keep h0 h5 [va] := (((Keep.refl h0 [va]).ext E2).wr W5 (Or.inl (List.mem_of_getElem? (i := 0) rfl)))
  obtain ⟨T6, h6, k6, X6, e6, E6, A6, st6⟩ := newP X5 hx hZ (hw _ (mw 10 rfl)) e5 (g := (mkF m 15 #[.val (.ref va), .val (.int (2 : Int32))] [(.int (2 : Int32)), (.ref va)])) rfl (hb hby d1_15) rfl (by decide) (cap := 2) (by decide) (by decide) (by decide) (by decide)
  obtain ⟨b6, g6⟩ : ∃ z, z = h5.size := ⟨_, rfl⟩
  rw [← g6] at A6 st6
  have ne_va_b6 : va ≠ b6 := Nat.ne_of_lt (Nat.lt_of_lt_of_le f7.lt (Nat.le_of_eq g6.symm))
  have ne_b2_b6 : b2 ≠ b6 := Nat.ne_of_lt (Nat.lt_of_lt_of_le f8.lt (Nat.le_of_eq g6.symm))
  have g_b6 : n0 ≤ b6 := Nat.le_trans f9 (Nat.le_of_eq g6.symm)
  have sz_b6 : h0.size ≤ b6 := Nat.le_trans f10.1 (Nat.le_of_eq g6.symm)
  have V6 : Ary Z h6 b6 .int [(.int (0 : Int32)), (.int (0 : Int32))] := Ary.new A6 rfl
  refine Goal.to (B := T6.setTop (mkF m 17 #[.val (.ref va), .val (.int (2 : Int32))] [(.ref b6), (.ref va)])) st6 ?_
  have f11 : Fld Z h6 va "com/example/pattern_automaton/patternautomaton/NonZeroTransitions" "rows" "[I" .null := (((F_rows_va.ext E2).other W5 (Or.inr (slot_ne (Or.inl (hw _ (mw 14 rfl))) (Or.inr (hw _ (mw 12 rfl))) (by decide) (t := (.array .int)) (t' := (.array .int)) (by decide) (by decide)))).ext E6)
  have f12 : Exa Z h6 va "com/example/pattern_automaton/patternautomaton/NonZeroTransitions" := (f7.ext E6)
  obtain ⟨T13, h13, X13, e13, W13, st13⟩ := putF X6 hx hZ hown (host := "") (Or.inl (hw _ (mw 13 rfl))) Via.refl e6 f11 f12 (Or.inl (hw _ (mw 14 rfl))) (hw _ (mw 2 rfl)) (ty := (.array .int)) (by decide) rfl rfl (g := (mkF m 17 #[.val (.ref va), .val (.int (2 : Int32))] [(.ref b6), (.ref va)])) rfl rfl (hb hby d1_17)
  have Fw13 : Fld Z h13 va "com/example/pattern_automaton/patternautomaton/NonZeroTransitions" "rows" "[I" (.ref b6) := f11.same W13
  have N13 := Fr.snoc X13 N5 g_va
  refine Goal.to (B := T13.setTop (mkF m 20 #[.val (.ref va), .val (.int (2 : Int32))] [])) st13 ?_
  refine Goal.to (B := T13.setTop (mkF m 22 #[.val (.ref va), .val (.int (2 : Int32))] [(.int (2 : Int32)), (.ref va)])) (fun tt kk => ?_) ?_
  · show Steps p.tables e below (T13.setTop (mkF m 20 #[.val (.ref va), .val (.int (2 : Int32))] [])) tt
    refine XS.aloadN X13.here hx rfl (hb hby d1_20) rfl rfl ?_
    show Steps p.tables e below (T13.setTop (mkF m 21 #[.val (.ref va), .val (.int (2 : Int32))] [(.ref va)])) tt
    refine XS.iloadN X13.here hx rfl (hb hby d1_21) rfl ?_
    exact kk
  have f15 : Exa Z h13 va "com/example/pattern_automaton/patternautomaton/NonZeroTransitions" := (f12.wr W13)
  have f16 : Ary Z h13 b2 .int [(.int (0 : Int32)), (.int (0 : Int32)), (.int (0 : Int32))] := ((f8.ext E6).other W13 (Ne.symm ne_va_b2))
  have f17 : Ary Z h13 b6 .int [(.int (0 : Int32)), (.int (0 : Int32))] := (V6.other W13 (Ne.symm ne_va_b6))
  have f18 : n0 ≤ h13.size := (Nat.le_trans (Nat.le_trans f9 E6.1) (Keep.of_wr W13).1)
  have f19 : Keep h0 h13 [va] := ((f10.ext E6).wr W13 (Or.inl (List.mem_of_getElem? (i := 0) rfl)))
  obtain ⟨T14, h14, k14, X14, e14, E14, A14, st14⟩ := newP X13 hx hZ (hw _ (mw 10 rfl)) e13 (g := (mkF m 22 #[.val (.ref va), .val (.int (2 : Int32))] [(.int (2 : Int32)), (.ref va)])) rfl (hb hby d1_22) rfl (by decide) (cap := 2) (by decide) (by decide) (by decide) (by decide)
  obtain ⟨b14, g14⟩ : ∃ z, z = h13.size := ⟨_, rfl⟩
  rw [← g14] at A14 st14
  have ne_va_b14 : va ≠ b14 := Nat.ne_of_lt (Nat.lt_of_lt_of_le f15.lt (Nat.le_of_eq g14.symm))
  have ne_b2_b14 : b2 ≠ b14 := Nat.ne_of_lt (Nat.lt_of_lt_of_le f16.lt (Nat.le_of_eq g14.symm))
  have ne_b6_b14 : b6 ≠ b14 := Nat.ne_of_lt (Nat.lt_of_lt_of_le f17.lt (Nat.le_of_eq g14.symm))
  have g_b14 : n0 ≤ b14 := Nat.le_trans f18 (Nat.le_of_eq g14.symm)
  have sz_b14 : h0.size ≤ b14 := Nat.le_trans f19.1 (Nat.le_of_eq g14.symm)
  have V14 : Ary Z h14 b14 .int [(.int (0 : Int32)), (.int (0 : Int32))] := Ary.new A14 rfl
  refine Goal.to (B := T14.setTop (mkF m 24 #[.val (.ref va), .val (.int (2 : Int32))] [(.ref b14), (.ref va)])) st14 ?_
  have f20 : Fld Z h14 va "com/example/pattern_automaton/patternautomaton/NonZeroTransitions" "targets" "[I" .null := (((((F_targets_va.ext E2).other W5 (Or.inr (slot_ne (Or.inl (hw _ (mw 16 rfl))) (Or.inr (hw _ (mw 12 rfl))) (by decide) (t := (.array .int)) (t' := (.array .int)) (by decide) (by decide)))).ext E6).other W13 (Or.inr (slot_ne (Or.inl (hw _ (mw 16 rfl))) (Or.inl (hw _ (mw 14 rfl))) (by decide) (t := (.array .int)) (t' := (.array .int)) (by decide) (by decide)))).ext E14)
  have f21 : Exa Z h14 va "com/example/pattern_automaton/patternautomaton/NonZeroTransitions" := (f15.ext E14)
  obtain ⟨T22, h22, X22, e22, W22, st22⟩ := putF X14 hx hZ hown (host := "") (Or.inl (hw _ (mw 15 rfl))) Via.refl e14 f20 f21 (Or.inl (hw _ (mw 16 rfl))) (hw _ (mw 2 rfl)) (ty := (.array .int)) (by decide) rfl rfl (g := (mkF m 24 #[.val (.ref va), .val (.int (2 : Int32))] [(.ref b14), (.ref va)])) rfl rfl (hb hby d1_24)
  have Fw22 : Fld Z h22 va "com/example/pattern_automaton/patternautomaton/NonZeroTransitions" "targets" "[I" (.ref b14) := f20.same W22
  have N22 := Fr.snoc X22 N13 g_va
  refine Goal.to (B := T22.setTop (mkF m 27 #[.val (.ref va), .val (.int (2 : Int32))] [])) st22 ?_
  have f23 : Keep h0 h22 [va] := ((f19.ext E14).wr W22 (Or.inl (List.mem_of_getElem? (i := 0) rfl)))
  have f24 : Fld Z h22 va "com/example/pattern_automaton/patternautomaton/NonZeroTransitions" "first" "[I" (.ref b2) := ((((Fw5.ext E6).other W13 (Or.inr (slot_ne (Or.inr (hw _ (mw 12 rfl))) (Or.inl (hw _ (mw 14 rfl))) (by decide) (t := (.array .int)) (t' := (.array .int)) (by decide) (by decide)))).ext E14).other W22 (Or.inr (slot_ne (Or.inr (hw _ (mw 12 rfl))) (Or.inl (hw _ (mw 16 rfl))) (by decide) (t := (.array .int)) (t' := (.array .int)) (by decide) (by decide))))
  have f25 : Fld Z h22 va "com/example/pattern_automaton/patternautomaton/NonZeroTransitions" "rows" "[I" (.ref b6) := ((Fw13.ext E14).other W22 (Or.inr (slot_ne (Or.inl (hw _ (mw 14 rfl))) (Or.inl (hw _ (mw 16 rfl))) (by decide) (t := (.array .int)) (t' := (.array .int)) (by decide) (by decide))))
  have f26 : Fld Z h22 va "com/example/pattern_automaton/patternautomaton/NonZeroTransitions" "size" "I" (.int (0 : Int32)) := ((((((F_size_va.ext E2).other W5 (Or.inr (slot_ne (Or.inl (hw _ (mw 29 rfl))) (Or.inr (hw _ (mw 12 rfl))) (by decide) (t := .int) (t' := (.array .int)) (by decide) (by decide)))).ext E6).other W13 (Or.inr (slot_ne (Or.inl (hw _ (mw 29 rfl))) (Or.inl (hw _ (mw 14 rfl))) (by decide) (t := .int) (t' := (.array .int)) (by decide) (by decide)))).ext E14).other W22 (Or.inr (slot_ne (Or.inl (hw _ (mw 29 rfl))) (Or.inl (hw _ (mw 16 rfl))) (by decide) (t := .int) (t' := (.array .int)) (by decide) (by decide))))
  have f27 : Fld Z h22 va "com/example/pattern_automaton/patternautomaton/NonZeroTransitions" "ended" "I" (.int (0 : Int32)) := ((((((F_ended_va.ext E2).other W5 (Or.inr (slot_ne (Or.inl (hw _ (mw 27 rfl))) (Or.inr (hw _ (mw 12 rfl))) (by decide) (t := .int) (t' := (.array .int)) (by decide) (by decide)))).ext E6).other W13 (Or.inr (slot_ne (Or.inl (hw _ (mw 27 rfl))) (Or.inl (hw _ (mw 14 rfl))) (by decide) (t := .int) (t' := (.array .int)) (by decide) (by decide)))).ext E14).other W22 (Or.inr (slot_ne (Or.inl (hw _ (mw 27 rfl))) (Or.inl (hw _ (mw 16 rfl))) (by decide) (t := .int) (t' := (.array .int)) (by decide) (by decide))))
  have f28 : Ary Z h22 b2 .int [(.int (0 : Int32)), (.int (0 : Int32)), (.int (0 : Int32))] := ((f16.ext E14).other W22 (Ne.symm ne_va_b2))
  have f29 : Ary Z h22 b6 .int [(.int (0 : Int32)), (.int (0 : Int32))] := ((f17.ext E14).other W22 (Ne.symm ne_va_b6))
  have f30 : Ary Z h22 b14 .int [(.int (0 : Int32)), (.int (0 : Int32))] := (V14.other W22 (Ne.symm ne_va_b14))
  exact Goal.retN X22 hx Bd.returns (hb hby d1_27) hlk e22 ⟨b2, b6, b14, rfl, N22, f23, sz_b2, sz_b6, sz_b14, ne_b2_b6, ne_b2_b14, ne_b6_b14, f24, f25, Fw22, f26, f27, f28, f29, f30⟩ (by decide) (by decide)
theorem ef_7 (m : MethodId) (x0 : Addr) (x1 : Int32) (x2 : Int32)  : entryFrame m #[(.ref x0), (.int x1), (.int x2)] 3 = mkF m 0 #[.val (.ref x0), .val (.int x1), .val (.int x2)] [] := by first | (simp [entryFrame, mkF, argsToLocals, Value.category]; done) | rfl
theorem pn_7 : plainName "com/example/pattern_automaton/patternautomaton/NonZeroTransitions" = true := by first | (simp [plainName, overriddenIn]; done) | decide +kernel
theorem d7_0 : decode prog_33_method_2_code 0 = .ok (.aload_n 0, 1) := by decide +kernel
theorem d7_1 : decode prog_33_method_2_code 1 = .ok (.getfield 19, 3) := by decide +kernel
theorem d7_4 : decode prog_33_method_2_code 4 = .ok (.aload_n 0, 1) := by decide +kernel
theorem d7_5 : decode prog_33_method_2_code 5 = .ok (.getfield 13, 3) := by decide +kernel
theorem d7_8 : decode prog_33_method_2_code 8 = .ok (.arraylength, 1) := by decide +kernel
theorem d7_9 : decode prog_33_method_2_code 9 = .ok (.if_icmp .ne 37, 3) := by decide +kernel
theorem d7_46 : decode prog_33_method_2_code 46 = .ok (.aload_n 0, 1) := by decide +kernel
theorem d7_47 : decode prog_33_method_2_code 47 = .ok (.getfield 13, 3) := by decide +kernel
theorem d7_50 : decode prog_33_method_2_code 50 = .ok (.aload_n 0, 1) := by decide +kernel
theorem d7_51 : decode prog_33_method_2_code 51 = .ok (.getfield 19, 3) := by decide +kernel
theorem d7_54 : decode prog_33_method_2_code 54 = .ok (.iload_n 1, 1) := by decide +kernel
theorem d7_55 : decode prog_33_method_2_code 55 = .ok (.iastore, 1) := by decide +kernel
theorem d7_56 : decode prog_33_method_2_code 56 = .ok (.aload_n 0, 1) := by decide +kernel
theorem d7_57 : decode prog_33_method_2_code 57 = .ok (.getfield 16, 3) := by decide +kernel
theorem d7_60 : decode prog_33_method_2_code 60 = .ok (.aload_n 0, 1) := by decide +kernel
theorem d7_61 : decode prog_33_method_2_code 61 = .ok (.getfield 19, 3) := by decide +kernel
theorem d7_64 : decode prog_33_method_2_code 64 = .ok (.iload_n 2, 1) := by decide +kernel
theorem d7_65 : decode prog_33_method_2_code 65 = .ok (.iastore, 1) := by decide +kernel
theorem d7_66 : decode prog_33_method_2_code 66 = .ok (.aload_n 0, 1) := by decide +kernel
theorem d7_67 : decode prog_33_method_2_code 67 = .ok (.dup, 1) := by decide +kernel
theorem d7_68 : decode prog_33_method_2_code 68 = .ok (.getfield 19, 3) := by decide +kernel
theorem d7_71 : decode prog_33_method_2_code 71 = .ok (.iconst 1, 1) := by decide +kernel
theorem d7_72 : decode prog_33_method_2_code 72 = .ok (.iadd, 1) := by decide +kernel
theorem d7_73 : decode prog_33_method_2_code 73 = .ok (.putfield 19, 3) := by decide +kernel
theorem d7_76 : decode prog_33_method_2_code 76 = .ok (.return_, 1) := by decide +kernel
def Qad0 (Z : State) (va : Addr) (vf : Addr) (vr : Addr) (vt : Addr) (ue : Int32) (x0 : Int32) (x1 : Int32) (y0 : Int32) (y1 : Int32) (u0 : Int32) (u1 : Int32) (h0 : Heap) (n0 : Nat) (v : Option Value) (h : Heap) (L : List Loc) : Prop := v = none ∧ Fr n0 L ∧ Keep h0 h [va, vr, vt] ∧ Fld Z h va "com/example/pattern_automaton/patternautomaton/NonZeroTransitions" "first" "[I" (.ref vf) ∧ Fld Z h va "com/example/pattern_automaton/patternautomaton/NonZeroTransitions" "rows" "[I" (.ref vr) ∧ Fld Z h va "com/example/pattern_automaton/patternautomaton/NonZeroTransitions" "targets" "[I" (.ref vt) ∧ Fld Z h va "com/example/pattern_automaton/patternautomaton/NonZeroTransitions" "size" "I" (.int (1 : Int32)) ∧ Fld Z h va "com/example/pattern_automaton/patternautomaton/NonZeroTransitions" "ended" "I" (.int ue) ∧ Ary Z h vr .int [(.int u0), (.int x1)] ∧ Ary Z h vt .int [(.int u1), (.int y1)]
set_option maxRecDepth 65536 in
set_option maxHeartbeats 40000000 in
theorem rmad0 (l : Launch) (Z : State) (a0 : Array Value) (hw : ∀ d ∈ tables_1, d.before a0 Z = true) (ws : List Jvm.Cond) (va : Addr) (vf : Addr) (vr : Addr) (vt : Addr) (ue : Int32) (x0 : Int32) (x1 : Int32) (y0 : Int32) (y1 : Int32) (u0 : Int32) (u1 : Int32) (h0 : Heap) (n0 : Nat) (Z0 : n0 ≤ h0.size) (E_va : Exa Z h0 va "com/example/pattern_automaton/patternautomaton/NonZeroTransitions") (F_first_va : Fld Z h0 va "com/example/pattern_automaton/patternautomaton/NonZeroTransitions" "first" "[I" (.ref vf)) (F_rows_va : Fld Z h0 va "com/example/pattern_automaton/patternautomaton/NonZeroTransitions" "rows" "[I" (.ref vr)) (F_targets_va : Fld Z h0 va "com/example/pattern_automaton/patternautomaton/NonZeroTransitions" "targets" "[I" (.ref vt)) (F_size_va : Fld Z h0 va "com/example/pattern_automaton/patternautomaton/NonZeroTransitions" "size" "I" (.int (0 : Int32))) (F_ended_va : Fld Z h0 va "com/example/pattern_automaton/patternautomaton/NonZeroTransitions" "ended" "I" (.int ue)) (V_vr : Ary Z h0 vr .int [(.int x0), (.int x1)]) (V_vt : Ary Z h0 vt .int [(.int y0), (.int y1)]) (g_va : n0 ≤ va) (g_vr : n0 ≤ vr) (g_vt : n0 ≤ vt) (ne_va_vr : va ≠ vr) (ne_va_vt : va ≠ vt) (ne_vr_vt : vr ≠ vt) :
    MetFree l (⟨"com/example/pattern_automaton/patternautomaton/NonZeroTransitions", "add", "(II)V"⟩ : MethodName) (head1 (Jvm.Cond.code (⟨"com/example/pattern_automaton/patternautomaton/NonZeroTransitions", "add", "(II)V"⟩ : MethodName) prog_33_method_2_code 3 none :: ws) ({ frames := 0, cells := 0, slots := 0, locals := 0 } : Room)) (fun a U => a = #[(.ref va), (.int u0), (.int u1)] ∧ Z.Warmed39 U.vm ∧ U.heap = h0) (fun _ _ _ _ _ => True) (fun _ U o U' => ∃ v L, o = .returned v ∧ Qad0 Z va vf vr vt ue x0 x1 y0 y1 u0 u1 h0 n0 v U'.heap L ∧ FrameEnd U o U' L 0 0) := by
  refine MetFree.of_bodySF (plainFor_of_name pn_7) hisR ?_
  intro p e s m args below meth c s₁ Bd hml0 hP hK
  obtain ⟨rfl, hZ, hh⟩ := hP
  have hx := Bd.exec
  have hby := Bd.bytes
  have hml : c.maxLocals = 3 := hml0
  have hown : s.vm.findClass "com/example/pattern_automaton/patternautomaton/NonZeroTransitions" = some m.cls := findClass_of_methodNamed Bd.named
  have hnm := (name_of_methodNamed Bd.named Bd.method).1
  have X0 : Stand p l e ({ frames := 0, cells := 0, slots := 0, locals := 0 } : Room) s m #[(.ref va), (.int u0), (.int u1)] below meth c s₁ [] 0 0 := Stand.of_body Bd
  have e0 : s₁.heap = h0 := by rw [← hh, Bd.state]; rfl
  have N0 := Fr.nil n0
  have hlk : meth.locks = false := BodyLoose.notSynchronized Bd
  show Goal p e below s (Qad0 Z va vf vr vt ue x0 x1 y0 y1 u0 u1 h0 n0) 0 0 (s₁.setTop (entryFrame m #[(.ref va), (.int u0), (.int u1)] 3))
  refine Goal.to (B := s₁.setTop (mkF m 0 #[.val (.ref va), .val (.int u0), .val (.int u1)] [])) (fun tt kk => castTop (ef_7 m va u0 u1 ) kk) ?_
  refine Goal.to (B := s₁.setTop (mkF m 1 #[.val (.ref va), .val (.int u0), .val (.int u1)] [(.ref va)])) (fun tt kk => ?_) ?_
  · show Steps p.tables e below (s₁.setTop (mkF m 0 #[.val (.ref va), .val (.int u0), .val (.int u1)] [])) tt
    refine XS.aloadN X0.here hx rfl (hb hby d7_0) rfl rfl ?_
    exact kk
  obtain ⟨T1, X1, e1, st1⟩ := getF X0 hx hZ hown (host := "") (Or.inl (hw _ (mw 28 rfl))) Via.refl e0 F_size_va (g := (mkF m 1 #[.val (.ref va), .val (.int u0), .val (.int u1)] [(.ref va)])) rfl rfl (hb hby d7_1)
  refine Goal.to (B := T1.setTop (mkF m 4 #[.val (.ref va), .val (.int u0), .val (.int u1)] [(.int (0 : Int32))])) st1 ?_
  refine Goal.to (B := T1.setTop (mkF m 5 #[.val (.ref va), .val (.int u0), .val (.int u1)] [(.ref va), (.int (0 : Int32))])) (fun tt kk => ?_) ?_
  · show Steps p.tables e below (T1.setTop (mkF m 4 #[.val (.ref va), .val (.int u0), .val (.int u1)] [(.int (0 : Int32))])) tt
    refine XS.aloadN X1.here hx rfl (hb hby d7_4) rfl rfl ?_
    exact kk
  obtain ⟨T2, X2, e2, st2⟩ := getF X1 hx hZ hown (host := "") (Or.inl (hw _ (mw 13 rfl))) Via.refl e1 F_rows_va (g := (mkF m 5 #[.val (.ref va), .val (.int u0), .val (.int u1)] [(.ref va), (.int (0 : Int32))])) rfl rfl (hb hby d7_5)
  refine Goal.to (B := T2.setTop (mkF m 8 #[.val (.ref va), .val (.int u0), .val (.int u1)] [(.ref vr), (.int (0 : Int32))])) st2 ?_
  obtain ⟨cl3, Ar3, Sl3⟩ := id V_vr
  have ln3 : cl3.slots.size.toInt32 = (2 : Int32) := lenA Sl3 rfl
  refine Goal.to (B := T2.setTop (mkF m 47 #[.val (.ref va), .val (.int u0), .val (.int u1)] [(.ref va)])) (fun tt kk => ?_) ?_
  · show Steps p.tables e below (T2.setTop (mkF m 8 #[.val (.ref va), .val (.int u0), .val (.int u1)] [(.ref vr), (.int (0 : Int32))])) tt
    refine X2.arraylength hx (by rw [e2]; exact Ar3.1) (State.isArrayOf_alike hZ.alike Ar3.2.1) (g := (mkF m 8 #[.val (.ref va), .val (.int u0), .val (.int u1)] [(.ref vr), (.int (0 : Int32))])) rfl rfl (hb hby d7_8) _ ?_
    rw [ln3]
    show Steps p.tables e below (T2.setTop (mkF m 9 #[.val (.ref va), .val (.int u0), .val (.int u1)] [(.int (2 : Int32)), (.int (0 : Int32))])) tt
    refine XS.icmpYes X2.here hx rfl (pc0 := 9) (pc' := 46) rfl (hb hby d7_9) rfl (feq ((by decide) : ¬ ((0 : Int32) = (2 : Int32)))).2 (by decide) (by decide) ?_
    show Steps p.tables e below (T2.setTop (mkF m 46 #[.val (.ref va), .val (.int u0), .val (.int u1)] [])) tt
    refine XS.aloadN X2.here hx rfl (hb hby d7_46) rfl rfl ?_
    exact kk
  obtain ⟨T4, X4, e4, st4⟩ := getF X2 hx hZ hown (host := "") (Or.inl (hw _ (mw 13 rfl))) Via.refl e2 F_rows_va (g := (mkF m 47 #[.val (.ref va), .val (.int u0), .val (.int u1)] [(.ref va)])) rfl rfl (hb hby d7_47)
  refine Goal.to (B := T4.setTop (mkF m 50 #[.val (.ref va), .val (.int u0), .val (.int u1)] [(.ref vr)])) st4 ?_
  refine Goal.to (B := T4.setTop (mkF m 51 #[.val (.ref va), .val (.int u0), .val (.int u1)] [(.ref va), (.ref vr)])) (fun tt kk => ?_) ?_
  · show Steps p.tables e below (T4.setTop (mkF m 50 #[.val (.ref va), .val (.int u0), .val (.int u1)] [(.ref vr)])) tt
    refine XS.aloadN X4.here hx rfl (hb hby d7_50) rfl rfl ?_
    exact kk
  obtain ⟨T5, X5, e5, st5⟩ := getF X4 hx hZ hown (host := "") (Or.inl (hw _ (mw 28 rfl))) Via.refl e4 F_size_va (g := (mkF m 51 #[.val (.ref va), .val (.int u0), .val (.int u1)] [(.ref va), (.ref vr)])) rfl rfl (hb hby d7_51)
  refine Goal.to (B := T5.setTop (mkF m 54 #[.val (.ref va), .val (.int u0), .val (.int u1)] [(.int (0 : Int32)), (.ref vr)])) st5 ?_
  refine Goal.to (B := T5.setTop (mkF m 55 #[.val (.ref va), .val (.int u0), .val (.int u1)] [(.int u0), (.int (0 : Int32)), (.ref vr)])) (fun tt kk => ?_) ?_
  · show Steps p.tables e below (T5.setTop (mkF m 54 #[.val (.ref va), .val (.int u0), .val (.int u1)] [(.int (0 : Int32)), (.ref vr)])) tt
    refine XS.iloadN X5.here hx rfl (hb hby d7_54) rfl ?_
    exact kk
  obtain ⟨cl6, Ar6, Sl6⟩ := id V_vr
  have hin6 := inA (cl := cl6) Sl6 (j := (0 : Int32)) (by decide) (Nat.le_of_ble_eq_true rfl)
  obtain ⟨T6, h6, X6, e6, W6, st6⟩ := stI X5 hx hZ e5 Ar6 (j := (0 : Int32)) hin6 (g := (mkF m 55 #[.val (.ref va), .val (.int u0), .val (.int u1)] [(.int u0), (.int (0 : Int32)), (.ref vr)])) rfl rfl (hb hby d7_55)
  have V6 : Ary Z h6 vr .int [(.int u0), (.int x1)] := Ary.put Ar6 Sl6 W6 rfl
  have N6 := Fr.snoc X6 N0 g_vr
  refine Goal.to (B := T6.setTop (mkF m 56 #[.val (.ref va), .val (.int u0), .val (.int u1)] [])) st6 ?_
  refine Goal.to (B := T6.setTop (mkF m 57 #[.val (.ref va), .val (.int u0), .val (.int u1)] [(.ref va)])) (fun tt kk => ?_) ?_
  · show Steps p.tables e below (T6.setTop (mkF m 56 #[.val (.ref va), .val (.int u0), .val (.int u1)] [])) tt
    refine XS.aloadN X6.here hx rfl (hb hby d7_56) rfl rfl ?_
    exact kk
  have f7 : Fld Z h6 va "com/example/pattern_automaton/patternautomaton/NonZeroTransitions" "targets" "[I" (.ref vt) := (F_targets_va.other W6 (Or.inl ne_va_vr))
  obtain ⟨T8, X8, e8, st8⟩ := getF X6 hx hZ hown (host := "") (Or.inl (hw _ (mw 15 rfl))) Via.refl e6 f7 (g := (mkF m 57 #[.val (.ref va), .val (.int u0), .val (.int u1)] [(.ref va)])) rfl rfl (hb hby d7_57)
  refine Goal.to (B := T8.setTop (mkF m 60 #[.val (.ref va), .val (.int u0), .val (.int u1)] [(.ref vt)])) st8 ?_
  refine Goal.to (B := T8.setTop (mkF m 61 #[.val (.ref va), .val (.int u0), .val (.int u1)] [(.ref va), (.ref vt)])) (fun tt kk => ?_) ?_
  · show Steps p.tables e below (T8.setTop (mkF m 60 #[.val (.ref va), .val (.int u0), .val (.int u1)] [(.ref vt)])) tt
    refine XS.aloadN X8.here hx rfl (hb hby d7_60) rfl rfl ?_
    exact kk
  have f9 : Fld Z h6 va "com/example/pattern_automaton/patternautomaton/NonZeroTransitions" "size" "I" (.int (0 : Int32)) := (F_size_va.other W6 (Or.inl ne_va_vr))
  obtain ⟨T10, X10, e10, st10⟩ := getF X8 hx hZ hown (host := "") (Or.inl (hw _ (mw 28 rfl))) Via.refl e8 f9 (g := (mkF m 61 #[.val (.ref va), .val (.int u0), .val (.int u1)] [(.ref va), (.ref vt)])) rfl rfl (hb hby d7_61)
  refine Goal.to (B := T10.setTop (mkF m 64 #[.val (.ref va), .val (.int u0), .val (.int u1)] [(.int (0 : Int32)), (.ref vt)])) st10 ?_
  refine Goal.to (B := T10.setTop (mkF m 65 #[.val (.ref va), .val (.int u0), .val (.int u1)] [(.int u1), (.int (0 : Int32)), (.ref vt)])) (fun tt kk => ?_) ?_
  · show Steps p.tables e below (T10.setTop (mkF m 64 #[.val (.ref va), .val (.int u0), .val (.int u1)] [(.int (0 : Int32)), (.ref vt)])) tt
    refine XS.iloadN X10.here hx rfl (hb hby d7_64) rfl ?_
    exact kk
  have f11 : Ary Z h6 vt .int [(.int y0), (.int y1)] := (V_vt.other W6 (Ne.symm ne_vr_vt))
  obtain ⟨cl12, Ar12, Sl12⟩ := id f11
  have hin12 := inA (cl := cl12) Sl12 (j := (0 : Int32)) (by decide) (Nat.le_of_ble_eq_true rfl)
  obtain ⟨T12, h12, X12, e12, W12, st12⟩ := stI X10 hx hZ e10 Ar12 (j := (0 : Int32)) hin12 (g := (mkF m 65 #[.val (.ref va), .val (.int u0), .val (.int u1)] [(.int u1), (.int (0 : Int32)), (.ref vt)])) rfl rfl (hb hby d7_65)
  have V12 : Ary Z h12 vt .int [(.int u1), (.int y1)] := Ary.put Ar12 Sl12 W12 rfl
  have N12 := Fr.snoc X12 N6 g_vt
  refine Goal.to (B := T12.setTop (mkF m 66 #[.val (.ref va), .val (.int u0), .val (.int u1)] [])) st12 ?_
  refine Goal.to (B := T12.setTop (mkF m 68 #[.val (.ref va), .val (.int u0), .val (.int u1)] [(.ref va), (.ref va)])) (fun tt kk => ?_) ?_
  · show Steps p.tables e below (T12.setTop (mkF m 66 #[.val (.ref va), .val (.int u0), .val (.int u1)] [])) tt
    refine XS.aloadN X12.here hx rfl (hb hby d7_66) rfl rfl ?_
    show Steps p.tables e below (T12.setTop (mkF m 67 #[.val (.ref va), .val (.int u0), .val (.int u1)] [(.ref va)])) tt
    refine XS.dup X12.here hx rfl (hb hby d7_67) rfl rfl ?_
    exact kk
  have f13 : Fld Z h12 va "com/example/pattern_automaton/patternautomaton/NonZeroTransitions" "size" "I" (.int (0 : Int32)) := (f9.other W12 (Or.inl ne_va_vt))
  obtain ⟨T14, X14, e14, st14⟩ := getF X12 hx hZ hown (host := "") (Or.inl (hw _ (mw 28 rfl))) Via.refl e12 f13 (g := (mkF m 68 #[.val (.ref va), .val (.int u0), .val (.int u1)] [(.ref va), (.ref va)])) rfl rfl (hb hby d7_68)
  refine Goal.to (B := T14.setTop (mkF m 71 #[.val (.ref va), .val (.int u0), .val (.int u1)] [(.int (0 : Int32)), (.ref va)])) st14 ?_
  refine Goal.to (B := T14.setTop (mkF m 73 #[.val (.ref va), .val (.int u0), .val (.int u1)] [(.int (1 : Int32)), (.ref va)])) (fun tt kk => ?_) ?_
  · show Steps p.tables e below (T14.setTop (mkF m 71 #[.val (.ref va), .val (.int u0), .val (.int u1)] [(.int (0 : Int32)), (.ref va)])) tt
    refine XS.iconst X14.here hx rfl (hb hby d7_71) ?_
    show Steps p.tables e below (T14.setTop (mkF m 72 #[.val (.ref va), .val (.int u0), .val (.int u1)] [(.int (1 : Int32)), (.int (0 : Int32)), (.ref va)])) tt
    refine XS.iadd X14.here hx rfl (hb hby d7_72) rfl ?_
    exact kk
  have f15 : Exa Z h12 va "com/example/pattern_automaton/patternautomaton/NonZeroTransitions" := ((E_va.wr W6).wr W12)
  obtain ⟨T16, h16, X16, e16, W16, st16⟩ := putF X14 hx hZ hown (host := "") (Or.inl (hw _ (mw 28 rfl))) Via.refl e14 f13 f15 (Or.inl (hw _ (mw 29 rfl))) (hw _ (mw 2 rfl)) (ty := .int) (by decide) rfl rfl (g := (mkF m 73 #[.val (.ref va), .val (.int u0), .val (.int u1)] [(.int (1 : Int32)), (.ref va)])) rfl rfl (hb hby d7_73)
  have Fw16 : Fld Z h16 va "com/example/pattern_automaton/patternautomaton/NonZeroTransitions" "size" "I" (.int (1 : Int32)) := f13.same W16
  have N16 := Fr.snoc X16 N12 g_va
  refine Goal.to (B := T16.setTop (mkF m 76 #[.val (.ref va), .val (.int u0), .val (.int u1)] [])) st16 ?_
  have f17 : Keep h0 h16 [va, vr, vt] := ((((Keep.refl h0 [va, vr, vt]).wr W6 (Or.inl (List.mem_of_getElem? (i := 1) rfl))).wr W12 (Or.inl (List.mem_of_getElem? (i := 2) rfl))).wr W16 (Or.inl (List.mem_of_getElem? (i := 0) rfl)))
  have f18 : Fld Z h16 va "com/example/pattern_automaton/patternautomaton/NonZeroTransitions" "first" "[I" (.ref vf) := (((F_first_va.other W6 (Or.inl ne_va_vr)).other W12 (Or.inl ne_va_vt)).other W16 (Or.inr (slot_ne (Or.inr (hw _ (mw 12 rfl))) (Or.inl (hw _ (mw 29 rfl))) (by decide) (t := (.array .int)) (t' := .int) (by decide) (by decide))))
  have f19 : Fld Z h16 va "com/example/pattern_automaton/patternautomaton/NonZeroTransitions" "rows" "[I" (.ref vr) := (((F_rows_va.other W6 (Or.inl ne_va_vr)).other W12 (Or.inl ne_va_vt)).other W16 (Or.inr (slot_ne (Or.inl (hw _ (mw 14 rfl))) (Or.inl (hw _ (mw 29 rfl))) (by decide) (t := (.array .int)) (t' := .int) (by decide) (by decide))))
  have f20 : Fld Z h16 va "com/example/pattern_automaton/patternautomaton/NonZeroTransitions" "targets" "[I" (.ref vt) := ((f7.other W12 (Or.inl ne_va_vt)).other W16 (Or.inr (slot_ne (Or.inl (hw _ (mw 16 rfl))) (Or.inl (hw _ (mw 29 rfl))) (by decide) (t := (.array .int)) (t' := .int) (by decide) (by decide))))
  have f21 : Fld Z h16 va "com/example/pattern_automaton/patternautomaton/NonZeroTransitions" "ended" "I" (.int ue) := (((F_ended_va.other W6 (Or.inl ne_va_vr)).other W12 (Or.inl ne_va_vt)).other W16 (Or.inr (slot_ne (Or.inl (hw _ (mw 27 rfl))) (Or.inl (hw _ (mw 29 rfl))) (by decide) (t := .int) (t' := .int) (by decide) (by decide))))
  have f22 : Ary Z h16 vr .int [(.int u0), (.int x1)] := ((V6.other W12 ne_vr_vt).other W16 (Ne.symm ne_va_vr))
  have f23 : Ary Z h16 vt .int [(.int u1), (.int y1)] := (V12.other W16 (Ne.symm ne_va_vt))
  exact Goal.retN X16 hx Bd.returns (hb hby d7_76) hlk e16 ⟨rfl, N16, f17, f18, f19, f20, Fw16, f21, f22, f23⟩ (by decide) (by decide)
def Qad1 (Z : State) (va : Addr) (vf : Addr) (vr : Addr) (vt : Addr) (ue : Int32) (x0 : Int32) (x1 : Int32) (y0 : Int32) (y1 : Int32) (u0 : Int32) (u1 : Int32) (h0 : Heap) (n0 : Nat) (v : Option Value) (h : Heap) (L : List Loc) : Prop := v = none ∧ Fr n0 L ∧ Keep h0 h [va, vr, vt] ∧ Fld Z h va "com/example/pattern_automaton/patternautomaton/NonZeroTransitions" "first" "[I" (.ref vf) ∧ Fld Z h va "com/example/pattern_automaton/patternautomaton/NonZeroTransitions" "rows" "[I" (.ref vr) ∧ Fld Z h va "com/example/pattern_automaton/patternautomaton/NonZeroTransitions" "targets" "[I" (.ref vt) ∧ Fld Z h va "com/example/pattern_automaton/patternautomaton/NonZeroTransitions" "size" "I" (.int (2 : Int32)) ∧ Fld Z h va "com/example/pattern_automaton/patternautomaton/NonZeroTransitions" "ended" "I" (.int ue) ∧ Ary Z h vr .int [(.int x0), (.int u0)] ∧ Ary Z h vt .int [(.int y0), (.int u1)]
set_option maxRecDepth 65536 in
set_option maxHeartbeats 40000000 in
theorem rmad1 (l : Launch) (Z : State) (a0 : Array Value) (hw : ∀ d ∈ tables_1, d.before a0 Z = true) (ws : List Jvm.Cond) (va : Addr) (vf : Addr) (vr : Addr) (vt : Addr) (ue : Int32) (x0 : Int32) (x1 : Int32) (y0 : Int32) (y1 : Int32) (u0 : Int32) (u1 : Int32) (h0 : Heap) (n0 : Nat) (Z0 : n0 ≤ h0.size) (E_va : Exa Z h0 va "com/example/pattern_automaton/patternautomaton/NonZeroTransitions") (F_first_va : Fld Z h0 va "com/example/pattern_automaton/patternautomaton/NonZeroTransitions" "first" "[I" (.ref vf)) (F_rows_va : Fld Z h0 va "com/example/pattern_automaton/patternautomaton/NonZeroTransitions" "rows" "[I" (.ref vr)) (F_targets_va : Fld Z h0 va "com/example/pattern_automaton/patternautomaton/NonZeroTransitions" "targets" "[I" (.ref vt)) (F_size_va : Fld Z h0 va "com/example/pattern_automaton/patternautomaton/NonZeroTransitions" "size" "I" (.int (1 : Int32))) (F_ended_va : Fld Z h0 va "com/example/pattern_automaton/patternautomaton/NonZeroTransitions" "ended" "I" (.int ue)) (V_vr : Ary Z h0 vr .int [(.int x0), (.int x1)]) (V_vt : Ary Z h0 vt .int [(.int y0), (.int y1)]) (g_va : n0 ≤ va) (g_vr : n0 ≤ vr) (g_vt : n0 ≤ vt) (ne_va_vr : va ≠ vr) (ne_va_vt : va ≠ vt) (ne_vr_vt : vr ≠ vt) :
    MetFree l (⟨"com/example/pattern_automaton/patternautomaton/NonZeroTransitions", "add", "(II)V"⟩ : MethodName) (head1 (Jvm.Cond.code (⟨"com/example/pattern_automaton/patternautomaton/NonZeroTransitions", "add", "(II)V"⟩ : MethodName) prog_33_method_2_code 3 none :: ws) ({ frames := 0, cells := 0, slots := 0, locals := 0 } : Room)) (fun a U => a = #[(.ref va), (.int u0), (.int u1)] ∧ Z.Warmed39 U.vm ∧ U.heap = h0) (fun _ _ _ _ _ => True) (fun _ U o U' => ∃ v L, o = .returned v ∧ Qad1 Z va vf vr vt ue x0 x1 y0 y1 u0 u1 h0 n0 v U'.heap L ∧ FrameEnd U o U' L 0 0) := by
  refine MetFree.of_bodySF (plainFor_of_name pn_7) hisR ?_
  intro p e s m args below meth c s₁ Bd hml0 hP hK
  obtain ⟨rfl, hZ, hh⟩ := hP
  have hx := Bd.exec
  have hby := Bd.bytes
  have hml : c.maxLocals = 3 := hml0
  have hown : s.vm.findClass "com/example/pattern_automaton/patternautomaton/NonZeroTransitions" = some m.cls := findClass_of_methodNamed Bd.named
  have hnm := (name_of_methodNamed Bd.named Bd.method).1
  have X0 : Stand p l e ({ frames := 0, cells := 0, slots := 0, locals := 0 } : Room) s m #[(.ref va), (.int u0), (.int u1)] below meth c s₁ [] 0 0 := Stand.of_body Bd
  have e0 : s₁.heap = h0 := by rw [← hh, Bd.state]; rfl
  have N0 := Fr.nil n0
  have hlk : meth.locks = false := BodyLoose.notSynchronized Bd
  show Goal p e below s (Qad1 Z va vf vr vt ue x0 x1 y0 y1 u0 u1 h0 n0) 0 0 (s₁.setTop (entryFrame m #[(.ref va), (.int u0), (.int u1)] 3))
  refine Goal.to (B := s₁.setTop (mkF m 0 #[.val (.ref va), .val (.int u0), .val (.int u1)] [])) (fun tt kk => castTop (ef_7 m va u0 u1 ) kk) ?_
  refine Goal.to (B := s₁.setTop (mkF m 1 #[.val (.ref va), .val (.int u0), .val (.int u1)] [(.ref va)])) (fun tt kk => ?_) ?_
  · show Steps p.tables e below (s₁.setTop (mkF m 0 #[.val (.ref va), .val (.int u0), .val (.int u1)] [])) tt
    refine XS.aloadN X0.here hx rfl (hb hby d7_0) rfl rfl ?_
    exact kk
  obtain ⟨T1, X1, e1, st1⟩ := getF X0 hx hZ hown (host := "") (Or.inl (hw _ (mw 28 rfl))) Via.refl e0 F_size_va (g := (mkF m 1 #[.val (.ref va), .val (.int u0), .val (.int u1)] [(.ref va)])) rfl rfl (hb hby d7_1)
  refine Goal.to (B := T1.setTop (mkF m 4 #[.val (.ref va), .val (.int u0), .val (.int u1)] [(.int (1 : Int32))])) st1 ?_
  refine Goal.to (B := T1.setTop (mkF m 5 #[.val (.ref va), .val (.int u0), .val (.int u1)] [(.ref va), (.int (1 : Int32))])) (fun tt kk => ?_) ?_
  · show Steps p.tables e below (T1.setTop (mkF m 4 #[.val (.ref va), .val (.int u0), .val (.int u1)] [(.int (1 : Int32))])) tt
    refine XS.aloadN X1.here hx rfl (hb hby d7_4) rfl rfl ?_
    exact kk
  obtain ⟨T2, X2, e2, st2⟩ := getF X1 hx hZ hown (host := "") (Or.inl (hw _ (mw 13 rfl))) Via.refl e1 F_rows_va (g := (mkF m 5 #[.val (.ref va), .val (.int u0), .val (.int u1)] [(.ref va), (.int (1 : Int32))])) rfl rfl (hb hby d7_5)
  refine Goal.to (B := T2.setTop (mkF m 8 #[.val (.ref va), .val (.int u0), .val (.int u1)] [(.ref vr), (.int (1 : Int32))])) st2 ?_
  obtain ⟨cl3, Ar3, Sl3⟩ := id V_vr
  have ln3 : cl3.slots.size.toInt32 = (2 : Int32) := lenA Sl3 rfl
  refine Goal.to (B := T2.setTop (mkF m 47 #[.val (.ref va), .val (.int u0), .val (.int u1)] [(.ref va)])) (fun tt kk => ?_) ?_
  · show Steps p.tables e below (T2.setTop (mkF m 8 #[.val (.ref va), .val (.int u0), .val (.int u1)] [(.ref vr), (.int (1 : Int32))])) tt
    refine X2.arraylength hx (by rw [e2]; exact Ar3.1) (State.isArrayOf_alike hZ.alike Ar3.2.1) (g := (mkF m 8 #[.val (.ref va), .val (.int u0), .val (.int u1)] [(.ref vr), (.int (1 : Int32))])) rfl rfl (hb hby d7_8) _ ?_
    rw [ln3]
    show Steps p.tables e below (T2.setTop (mkF m 9 #[.val (.ref va), .val (.int u0), .val (.int u1)] [(.int (2 : Int32)), (.int (1 : Int32))])) tt
    refine XS.icmpYes X2.here hx rfl (pc0 := 9) (pc' := 46) rfl (hb hby d7_9) rfl (feq ((by decide) : ¬ ((1 : Int32) = (2 : Int32)))).2 (by decide) (by decide) ?_
    show Steps p.tables e below (T2.setTop (mkF m 46 #[.val (.ref va), .val (.int u0), .val (.int u1)] [])) tt
    refine XS.aloadN X2.here hx rfl (hb hby d7_46) rfl rfl ?_
    exact kk
  obtain ⟨T4, X4, e4, st4⟩ := getF X2 hx hZ hown (host := "") (Or.inl (hw _ (mw 13 rfl))) Via.refl e2 F_rows_va (g := (mkF m 47 #[.val (.ref va), .val (.int u0), .val (.int u1)] [(.ref va)])) rfl rfl (hb hby d7_47)
  refine Goal.to (B := T4.setTop (mkF m 50 #[.val (.ref va), .val (.int u0), .val (.int u1)] [(.ref vr)])) st4 ?_
  refine Goal.to (B := T4.setTop (mkF m 51 #[.val (.ref va), .val (.int u0), .val (.int u1)] [(.ref va), (.ref vr)])) (fun tt kk => ?_) ?_
  · show Steps p.tables e below (T4.setTop (mkF m 50 #[.val (.ref va), .val (.int u0), .val (.int u1)] [(.ref vr)])) tt
    refine XS.aloadN X4.here hx rfl (hb hby d7_50) rfl rfl ?_
    exact kk
  obtain ⟨T5, X5, e5, st5⟩ := getF X4 hx hZ hown (host := "") (Or.inl (hw _ (mw 28 rfl))) Via.refl e4 F_size_va (g := (mkF m 51 #[.val (.ref va), .val (.int u0), .val (.int u1)] [(.ref va), (.ref vr)])) rfl rfl (hb hby d7_51)
  refine Goal.to (B := T5.setTop (mkF m 54 #[.val (.ref va), .val (.int u0), .val (.int u1)] [(.int (1 : Int32)), (.ref vr)])) st5 ?_
  refine Goal.to (B := T5.setTop (mkF m 55 #[.val (.ref va), .val (.int u0), .val (.int u1)] [(.int u0), (.int (1 : Int32)), (.ref vr)])) (fun tt kk => ?_) ?_
  · show Steps p.tables e below (T5.setTop (mkF m 54 #[.val (.ref va), .val (.int u0), .val (.int u1)] [(.int (1 : Int32)), (.ref vr)])) tt
    refine XS.iloadN X5.here hx rfl (hb hby d7_54) rfl ?_
    exact kk
  obtain ⟨cl6, Ar6, Sl6⟩ := id V_vr
  have hin6 := inA (cl := cl6) Sl6 (j := (1 : Int32)) (by decide) (Nat.le_of_ble_eq_true rfl)
  obtain ⟨T6, h6, X6, e6, W6, st6⟩ := stI X5 hx hZ e5 Ar6 (j := (1 : Int32)) hin6 (g := (mkF m 55 #[.val (.ref va), .val (.int u0), .val (.int u1)] [(.int u0), (.int (1 : Int32)), (.ref vr)])) rfl rfl (hb hby d7_55)
  have V6 : Ary Z h6 vr .int [(.int x0), (.int u0)] := Ary.put Ar6 Sl6 W6 rfl
  have N6 := Fr.snoc X6 N0 g_vr
  refine Goal.to (B := T6.setTop (mkF m 56 #[.val (.ref va), .val (.int u0), .val (.int u1)] [])) st6 ?_
  refine Goal.to (B := T6.setTop (mkF m 57 #[.val (.ref va), .val (.int u0), .val (.int u1)] [(.ref va)])) (fun tt kk => ?_) ?_
  · show Steps p.tables e below (T6.setTop (mkF m 56 #[.val (.ref va), .val (.int u0), .val (.int u1)] [])) tt
    refine XS.aloadN X6.here hx rfl (hb hby d7_56) rfl rfl ?_
    exact kk
  have f7 : Fld Z h6 va "com/example/pattern_automaton/patternautomaton/NonZeroTransitions" "targets" "[I" (.ref vt) := (F_targets_va.other W6 (Or.inl ne_va_vr))
  obtain ⟨T8, X8, e8, st8⟩ := getF X6 hx hZ hown (host := "") (Or.inl (hw _ (mw 15 rfl))) Via.refl e6 f7 (g := (mkF m 57 #[.val (.ref va), .val (.int u0), .val (.int u1)] [(.ref va)])) rfl rfl (hb hby d7_57)
  refine Goal.to (B := T8.setTop (mkF m 60 #[.val (.ref va), .val (.int u0), .val (.int u1)] [(.ref vt)])) st8 ?_
  refine Goal.to (B := T8.setTop (mkF m 61 #[.val (.ref va), .val (.int u0), .val (.int u1)] [(.ref va), (.ref vt)])) (fun tt kk => ?_) ?_
  · show Steps p.tables e below (T8.setTop (mkF m 60 #[.val (.ref va), .val (.int u0), .val (.int u1)] [(.ref vt)])) tt
    refine XS.aloadN X8.here hx rfl (hb hby d7_60) rfl rfl ?_
    exact kk
  have f9 : Fld Z h6 va "com/example/pattern_automaton/patternautomaton/NonZeroTransitions" "size" "I" (.int (1 : Int32)) := (F_size_va.other W6 (Or.inl ne_va_vr))
  obtain ⟨T10, X10, e10, st10⟩ := getF X8 hx hZ hown (host := "") (Or.inl (hw _ (mw 28 rfl))) Via.refl e8 f9 (g := (mkF m 61 #[.val (.ref va), .val (.int u0), .val (.int u1)] [(.ref va), (.ref vt)])) rfl rfl (hb hby d7_61)
  refine Goal.to (B := T10.setTop (mkF m 64 #[.val (.ref va), .val (.int u0), .val (.int u1)] [(.int (1 : Int32)), (.ref vt)])) st10 ?_
  refine Goal.to (B := T10.setTop (mkF m 65 #[.val (.ref va), .val (.int u0), .val (.int u1)] [(.int u1), (.int (1 : Int32)), (.ref vt)])) (fun tt kk => ?_) ?_
  · show Steps p.tables e below (T10.setTop (mkF m 64 #[.val (.ref va), .val (.int u0), .val (.int u1)] [(.int (1 : Int32)), (.ref vt)])) tt
    refine XS.iloadN X10.here hx rfl (hb hby d7_64) rfl ?_
    exact kk
  have f11 : Ary Z h6 vt .int [(.int y0), (.int y1)] := (V_vt.other W6 (Ne.symm ne_vr_vt))
  obtain ⟨cl12, Ar12, Sl12⟩ := id f11
  have hin12 := inA (cl := cl12) Sl12 (j := (1 : Int32)) (by decide) (Nat.le_of_ble_eq_true rfl)
  obtain ⟨T12, h12, X12, e12, W12, st12⟩ := stI X10 hx hZ e10 Ar12 (j := (1 : Int32)) hin12 (g := (mkF m 65 #[.val (.ref va), .val (.int u0), .val (.int u1)] [(.int u1), (.int (1 : Int32)), (.ref vt)])) rfl rfl (hb hby d7_65)
  have V12 : Ary Z h12 vt .int [(.int y0), (.int u1)] := Ary.put Ar12 Sl12 W12 rfl
  have N12 := Fr.snoc X12 N6 g_vt
  refine Goal.to (B := T12.setTop (mkF m 66 #[.val (.ref va), .val (.int u0), .val (.int u1)] [])) st12 ?_
  refine Goal.to (B := T12.setTop (mkF m 68 #[.val (.ref va), .val (.int u0), .val (.int u1)] [(.ref va), (.ref va)])) (fun tt kk => ?_) ?_
  · show Steps p.tables e below (T12.setTop (mkF m 66 #[.val (.ref va), .val (.int u0), .val (.int u1)] [])) tt
    refine XS.aloadN X12.here hx rfl (hb hby d7_66) rfl rfl ?_
    show Steps p.tables e below (T12.setTop (mkF m 67 #[.val (.ref va), .val (.int u0), .val (.int u1)] [(.ref va)])) tt
    refine XS.dup X12.here hx rfl (hb hby d7_67) rfl rfl ?_
    exact kk
  have f13 : Fld Z h12 va "com/example/pattern_automaton/patternautomaton/NonZeroTransitions" "size" "I" (.int (1 : Int32)) := (f9.other W12 (Or.inl ne_va_vt))
  obtain ⟨T14, X14, e14, st14⟩ := getF X12 hx hZ hown (host := "") (Or.inl (hw _ (mw 28 rfl))) Via.refl e12 f13 (g := (mkF m 68 #[.val (.ref va), .val (.int u0), .val (.int u1)] [(.ref va), (.ref va)])) rfl rfl (hb hby d7_68)
  refine Goal.to (B := T14.setTop (mkF m 71 #[.val (.ref va), .val (.int u0), .val (.int u1)] [(.int (1 : Int32)), (.ref va)])) st14 ?_
  refine Goal.to (B := T14.setTop (mkF m 73 #[.val (.ref va), .val (.int u0), .val (.int u1)] [(.int (2 : Int32)), (.ref va)])) (fun tt kk => ?_) ?_
  · show Steps p.tables e below (T14.setTop (mkF m 71 #[.val (.ref va), .val (.int u0), .val (.int u1)] [(.int (1 : Int32)), (.ref va)])) tt
    refine XS.iconst X14.here hx rfl (hb hby d7_71) ?_
    show Steps p.tables e below (T14.setTop (mkF m 72 #[.val (.ref va), .val (.int u0), .val (.int u1)] [(.int (1 : Int32)), (.int (1 : Int32)), (.ref va)])) tt
    refine XS.iadd X14.here hx rfl (hb hby d7_72) rfl ?_
    exact kk
  have f15 : Exa Z h12 va "com/example/pattern_automaton/patternautomaton/NonZeroTransitions" := ((E_va.wr W6).wr W12)
  obtain ⟨T16, h16, X16, e16, W16, st16⟩ := putF X14 hx hZ hown (host := "") (Or.inl (hw _ (mw 28 rfl))) Via.refl e14 f13 f15 (Or.inl (hw _ (mw 29 rfl))) (hw _ (mw 2 rfl)) (ty := .int) (by decide) rfl rfl (g := (mkF m 73 #[.val (.ref va), .val (.int u0), .val (.int u1)] [(.int (2 : Int32)), (.ref va)])) rfl rfl (hb hby d7_73)
  have Fw16 : Fld Z h16 va "com/example/pattern_automaton/patternautomaton/NonZeroTransitions" "size" "I" (.int (2 : Int32)) := f13.same W16
  have N16 := Fr.snoc X16 N12 g_va
  refine Goal.to (B := T16.setTop (mkF m 76 #[.val (.ref va), .val (.int u0), .val (.int u1)] [])) st16 ?_
  have f17 : Keep h0 h16 [va, vr, vt] := ((((Keep.refl h0 [va, vr, vt]).wr W6 (Or.inl (List.mem_of_getElem? (i := 1) rfl))).wr W12 (Or.inl (List.mem_of_getElem? (i := 2) rfl))).wr W16 (Or.inl (List.mem_of_getElem? (i := 0) rfl)))
  have f18 : Fld Z h16 va "com/example/pattern_automaton/patternautomaton/NonZeroTransitions" "first" "[I" (.ref vf) := (((F_first_va.other W6 (Or.inl ne_va_vr)).other W12 (Or.inl ne_va_vt)).other W16 (Or.inr (slot_ne (Or.inr (hw _ (mw 12 rfl))) (Or.inl (hw _ (mw 29 rfl))) (by decide) (t := (.array .int)) (t' := .int) (by decide) (by decide))))
  have f19 : Fld Z h16 va "com/example/pattern_automaton/patternautomaton/NonZeroTransitions" "rows" "[I" (.ref vr) := (((F_rows_va.other W6 (Or.inl ne_va_vr)).other W12 (Or.inl ne_va_vt)).other W16 (Or.inr (slot_ne (Or.inl (hw _ (mw 14 rfl))) (Or.inl (hw _ (mw 29 rfl))) (by decide) (t := (.array .int)) (t' := .int) (by decide) (by decide))))
  have f20 : Fld Z h16 va "com/example/pattern_automaton/patternautomaton/NonZeroTransitions" "targets" "[I" (.ref vt) := ((f7.other W12 (Or.inl ne_va_vt)).other W16 (Or.inr (slot_ne (Or.inl (hw _ (mw 16 rfl))) (Or.inl (hw _ (mw 29 rfl))) (by decide) (t := (.array .int)) (t' := .int) (by decide) (by decide))))
  have f21 : Fld Z h16 va "com/example/pattern_automaton/patternautomaton/NonZeroTransitions" "ended" "I" (.int ue) := (((F_ended_va.other W6 (Or.inl ne_va_vr)).other W12 (Or.inl ne_va_vt)).other W16 (Or.inr (slot_ne (Or.inl (hw _ (mw 27 rfl))) (Or.inl (hw _ (mw 29 rfl))) (by decide) (t := .int) (t' := .int) (by decide) (by decide))))
  have f22 : Ary Z h16 vr .int [(.int x0), (.int u0)] := ((V6.other W12 ne_vr_vt).other W16 (Ne.symm ne_va_vr))
  have f23 : Ary Z h16 vt .int [(.int y0), (.int u1)] := (V12.other W16 (Ne.symm ne_va_vt))
  exact Goal.retN X16 hx Bd.returns (hb hby d7_76) hlk e16 ⟨rfl, N16, f17, f18, f19, f20, Fw16, f21, f22, f23⟩ (by decide) (by decide)
theorem d7_12 : decode prog_33_method_2_code 12 = .ok (.aload_n 0, 1) := by decide +kernel
theorem d7_13 : decode prog_33_method_2_code 13 = .ok (.aload_n 0, 1) := by decide +kernel
theorem d7_14 : decode prog_33_method_2_code 14 = .ok (.getfield 13, 3) := by decide +kernel
theorem d7_17 : decode prog_33_method_2_code 17 = .ok (.iconst 2, 1) := by decide +kernel
theorem d7_18 : decode prog_33_method_2_code 18 = .ok (.aload_n 0, 1) := by decide +kernel
theorem d7_19 : decode prog_33_method_2_code 19 = .ok (.getfield 19, 3) := by decide +kernel
theorem d7_22 : decode prog_33_method_2_code 22 = .ok (.imul, 1) := by decide +kernel
theorem pd_5 : parseMethodDescriptor "([II)[I" = some ⟨[(.array .int), .int], some (.array .int)⟩ := by decide +kernel
theorem d7_23 : decode prog_33_method_2_code 23 = .ok (.invokestatic 23, 3) := by decide +kernel
theorem d7_26 : decode prog_33_method_2_code 26 = .ok (.putfield 13, 3) := by decide +kernel
theorem d7_29 : decode prog_33_method_2_code 29 = .ok (.aload_n 0, 1) := by decide +kernel
theorem d7_30 : decode prog_33_method_2_code 30 = .ok (.aload_n 0, 1) := by decide +kernel
theorem d7_31 : decode prog_33_method_2_code 31 = .ok (.getfield 16, 3) := by decide +kernel
theorem d7_34 : decode prog_33_method_2_code 34 = .ok (.iconst 2, 1) := by decide +kernel
theorem d7_35 : decode prog_33_method_2_code 35 = .ok (.aload_n 0, 1) := by decide +kernel
theorem d7_36 : decode prog_33_method_2_code 36 = .ok (.getfield 19, 3) := by decide +kernel
theorem d7_39 : decode prog_33_method_2_code 39 = .ok (.imul, 1) := by decide +kernel
theorem d7_40 : decode prog_33_method_2_code 40 = .ok (.invokestatic 23, 3) := by decide +kernel
theorem d7_43 : decode prog_33_method_2_code 43 = .ok (.putfield 16, 3) := by decide +kernel
def Qad2 (Z : State) (va : Addr) (vf : Addr) (vr : Addr) (vt : Addr) (ue : Int32) (x0 : Int32) (x1 : Int32) (y0 : Int32) (y1 : Int32) (u0 : Int32) (u1 : Int32) (h0 : Heap) (n0 : Nat) (v : Option Value) (h : Heap) (L : List Loc) : Prop := ∃ vb : Addr, ∃ vd : Addr, v = none ∧ Fr n0 L ∧ Keep h0 h [va] ∧ h0.size ≤ vb ∧ h0.size ≤ vd ∧ vb ≠ vd ∧ Fld Z h va "com/example/pattern_automaton/patternautomaton/NonZeroTransitions" "first" "[I" (.ref vf) ∧ Fld Z h va "com/example/pattern_automaton/patternautomaton/NonZeroTransitions" "rows" "[I" (.ref vb) ∧ Fld Z h va "com/example/pattern_automaton/patternautomaton/NonZeroTransitions" "targets" "[I" (.ref vd) ∧ Fld Z h va "com/example/pattern_automaton/patternautomaton/NonZeroTransitions" "size" "I" (.int (3 : Int32)) ∧ Fld Z h va "com/example/pattern_automaton/patternautomaton/NonZeroTransitions" "ended" "I" (.int ue) ∧ Ary Z h vb .int [(.int x0), (.int x1), (.int u0), (.int (0 : Int32))] ∧ Ary Z h vd .int [(.int y0), (.int y1), (.int u1), (.int (0 : Int32))]
set_option maxRecDepth 65536 in
set_option maxHeartbeats 40000000 in
theorem rmad2 (l : Launch) (Z : State) (a0 : Array Value) (hw : ∀ d ∈ tables_1, d.before a0 Z = true) (ws : List Jvm.Cond) (va : Addr) (vf : Addr) (vr : Addr) (vt : Addr) (ue : Int32) (x0 : Int32) (x1 : Int32) (y0 : Int32) (y1 : Int32) (u0 : Int32) (u1 : Int32) (h0 : Heap) (n0 : Nat) (Z0 : n0 ≤ h0.size) (E_va : Exa Z h0 va "com/example/pattern_automaton/patternautomaton/NonZeroTransitions") (F_first_va : Fld Z h0 va "com/example/pattern_automaton/patternautomaton/NonZeroTransitions" "first" "[I" (.ref vf)) (F_rows_va : Fld Z h0 va "com/example/pattern_automaton/patternautomaton/NonZeroTransitions" "rows" "[I" (.ref vr)) (F_targets_va : Fld Z h0 va "com/example/pattern_automaton/patternautomaton/NonZeroTransitions" "targets" "[I" (.ref vt)) (F_size_va : Fld Z h0 va "com/example/pattern_automaton/patternautomaton/NonZeroTransitions" "size" "I" (.int (2 : Int32))) (F_ended_va : Fld Z h0 va "com/example/pattern_automaton/patternautomaton/NonZeroTransitions" "ended" "I" (.int ue)) (V_vr : Ary Z h0 vr .int [(.int x0), (.int x1)]) (V_vt : Ary Z h0 vt .int [(.int y0), (.int y1)]) (g_va : n0 ≤ va) (g_vr : n0 ≤ vr) (g_vt : n0 ≤ vt) (ne_va_vr : va ≠ vr) (ne_va_vt : va ≠ vt) (ne_vr_vt : vr ≠ vt) :
    MetFree l (⟨"com/example/pattern_automaton/patternautomaton/NonZeroTransitions", "add", "(II)V"⟩ : MethodName) (head1 (Jvm.Cond.code (⟨"com/example/pattern_automaton/patternautomaton/NonZeroTransitions", "add", "(II)V"⟩ : MethodName) prog_33_method_2_code 3 none :: ws) ({ frames := 2, cells := 2, slots := 8, locals := 33 } : Room)) (fun a U => a = #[(.ref va), (.int u0), (.int u1)] ∧ Z.Warmed39 U.vm ∧ U.heap = h0) (fun _ _ _ _ _ => True) (fun _ U o U' => ∃ v L, o = .returned v ∧ Qad2 Z va vf vr vt ue x0 x1 y0 y1 u0 u1 h0 n0 v U'.heap L ∧ FrameEnd U o U' L 2 8) := by
  refine MetFree.of_bodySF (plainFor_of_name pn_7) hisR ?_
  intro p e s m args below meth c s₁ Bd hml0 hP hK
  obtain ⟨rfl, hZ, hh⟩ := hP
  have hx := Bd.exec
  have hby := Bd.bytes
  have hml : c.maxLocals = 3 := hml0
  have hown : s.vm.findClass "com/example/pattern_automaton/patternautomaton/NonZeroTransitions" = some m.cls := findClass_of_methodNamed Bd.named
  have hnm := (name_of_methodNamed Bd.named Bd.method).1
  have X0 : Stand p l e ({ frames := 2, cells := 2, slots := 8, locals := 33 } : Room) s m #[(.ref va), (.int u0), (.int u1)] below meth c s₁ [] 0 0 := Stand.of_body Bd
  have e0 : s₁.heap = h0 := by rw [← hh, Bd.state]; rfl
  have N0 := Fr.nil n0
  have hlk : meth.locks = false := BodyLoose.notSynchronized Bd
  show Goal p e below s (Qad2 Z va vf vr vt ue x0 x1 y0 y1 u0 u1 h0 n0) 2 8 (s₁.setTop (entryFrame m #[(.ref va), (.int u0), (.int u1)] 3))
  refine Goal.to (B := s₁.setTop (mkF m 0 #[.val (.ref va), .val (.int u0), .val (.int u1)] [])) (fun tt kk => castTop (ef_7 m va u0 u1 ) kk) ?_
  refine Goal.to (B := s₁.setTop (mkF m 1 #[.val (.ref va), .val (.int u0), .val (.int u1)] [(.ref va)])) (fun tt kk => ?_) ?_
  · show Steps p.tables e below (s₁.setTop (mkF m 0 #[.val (.ref va), .val (.int u0), .val (.int u1)] [])) tt
    refine XS.aloadN X0.here hx rfl (hb hby d7_0) rfl rfl ?_
    exact kk
  obtain ⟨T1, X1, e1, st1⟩ := getF X0 hx hZ hown (host := "") (Or.inl (hw _ (mw 28 rfl))) Via.refl e0 F_size_va (g := (mkF m 1 #[.val (.ref va), .val (.int u0), .val (.int u1)] [(.ref va)])) rfl rfl (hb hby d7_1)
  refine Goal.to (B := T1.setTop (mkF m 4 #[.val (.ref va), .val (.int u0), .val (.int u1)] [(.int (2 : Int32))])) st1 ?_
  refine Goal.to (B := T1.setTop (mkF m 5 #[.val (.ref va), .val (.int u0), .val (.int u1)] [(.ref va), (.int (2 : Int32))])) (fun tt kk => ?_) ?_
  · show Steps p.tables e below (T1.setTop (mkF m 4 #[.val (.ref va), .val (.int u0), .val (.int u1)] [(.int (2 : Int32))])) tt
    refine XS.aloadN X1.here hx rfl (hb hby d7_4) rfl rfl ?_
    exact kk
  obtain ⟨T2, X2, e2, st2⟩ := getF X1 hx hZ hown (host := "") (Or.inl (hw _ (mw 13 rfl))) Via.refl e1 F_rows_va (g := (mkF m 5 #[.val (.ref va), .val (.int u0), .val (.int u1)] [(.ref va), (.int (2 : Int32))])) rfl rfl (hb hby d7_5)
  refine Goal.to (B := T2.setTop (mkF m 8 #[.val (.ref va), .val (.int u0), .val (.int u1)] [(.ref vr), (.int (2 : Int32))])) st2 ?_
  obtain ⟨cl3, Ar3, Sl3⟩ := id V_vr
  have ln3 : cl3.slots.size.toInt32 = (2 : Int32) := lenA Sl3 rfl
  refine Goal.to (B := T2.setTop (mkF m 14 #[.val (.ref va), .val (.int u0), .val (.int u1)] [(.ref va), (.ref va)])) (fun tt kk => ?_) ?_
  · show Steps p.tables e below (T2.setTop (mkF m 8 #[.val (.ref va), .val (.int u0), .val (.int u1)] [(.ref vr), (.int (2 : Int32))])) tt
    refine X2.arraylength hx (by rw [e2]; exact Ar3.1) (State.isArrayOf_alike hZ.alike Ar3.2.1) (g := (mkF m 8 #[.val (.ref va), .val (.int u0), .val (.int u1)] [(.ref vr), (.int (2 : Int32))])) rfl rfl (hb hby d7_8) _ ?_
    rw [ln3]
    show Steps p.tables e below (T2.setTop (mkF m 9 #[.val (.ref va), .val (.int u0), .val (.int u1)] [(.int (2 : Int32)), (.int (2 : Int32))])) tt
    refine XS.icmpNo X2.here hx rfl (hb hby d7_9) rfl (teq (rfl : (2 : Int32) = (2 : Int32))).2 ?_
    show Steps p.tables e below (T2.setTop (mkF m 12 #[.val (.ref va), .val (.int u0), .val (.int u1)] [])) tt
    refine XS.aloadN X2.here hx rfl (hb hby d7_12) rfl rfl ?_
    show Steps p.tables e below (T2.setTop (mkF m 13 #[.val (.ref va), .val (.int u0), .val (.int u1)] [(.ref va)])) tt
    refine XS.aloadN X2.here hx rfl (hb hby d7_13) rfl rfl ?_
    exact kk
  obtain ⟨T4, X4, e4, st4⟩ := getF X2 hx hZ hown (host := "") (Or.inl (hw _ (mw 13 rfl))) Via.refl e2 F_rows_va (g := (mkF m 14 #[.val (.ref va), .val (.int u0), .val (.int u1)] [(.ref va), (.ref va)])) rfl rfl (hb hby d7_14)
  refine Goal.to (B := T4.setTop (mkF m 17 #[.val (.ref va), .val (.int u0), .val (.int u1)] [(.ref vr), (.ref va)])) st4 ?_
  refine Goal.to (B := T4.setTop (mkF m 19 #[.val (.ref va), .val (.int u0), .val (.int u1)] [(.ref va), (.int (2 : Int32)), (.ref vr), (.ref va)])) (fun tt kk => ?_) ?_
  · show Steps p.tables e below (T4.setTop (mkF m 17 #[.val (.ref va), .val (.int u0), .val (.int u1)] [(.ref vr), (.ref va)])) tt
    refine XS.iconst X4.here hx rfl (hb hby d7_17) ?_
    show Steps p.tables e below (T4.setTop (mkF m 18 #[.val (.ref va), .val (.int u0), .val (.int u1)] [(.int (2 : Int32)), (.ref vr), (.ref va)])) tt
    refine XS.aloadN X4.here hx rfl (hb hby d7_18) rfl rfl ?_
    exact kk
  obtain ⟨T5, X5, e5, st5⟩ := getF X4 hx hZ hown (host := "") (Or.inl (hw _ (mw 28 rfl))) Via.refl e4 F_size_va (g := (mkF m 19 #[.val (.ref va), .val (.int u0), .val (.int u1)] [(.ref va), (.int (2 : Int32)), (.ref vr), (.ref va)])) rfl rfl (hb hby d7_19)
  refine Goal.to (B := T5.setTop (mkF m 22 #[.val (.ref va), .val (.int u0), .val (.int u1)] [(.int (2 : Int32)), (.int (2 : Int32)), (.ref vr), (.ref va)])) st5 ?_
  refine Goal.to (B := T5.setTop (mkF m 23 #[.val (.ref va), .val (.int u0), .val (.int u1)] [(.int (4 : Int32)), (.ref vr), (.ref va)])) (fun tt kk => ?_) ?_
  · show Steps p.tables e below (T5.setTop (mkF m 22 #[.val (.ref va), .val (.int u0), .val (.int u1)] [(.int (2 : Int32)), (.int (2 : Int32)), (.ref vr), (.ref va)])) tt
    refine XS.imul X5.here hx rfl (hb hby d7_22) rfl ?_
    exact kk
  obtain ⟨_, _, ⟨T6, L6, k6, n6⟩, -, X6, ⟨Lc6, hQ6, l6, y6, z6⟩, st6⟩ := Jvm.LawKit.callS X5 hx (y := (⟨"java/util/Arrays", "copyOf", "([II)[I"⟩ : MethodName)) hown (mvT hZ (hw _ (mw 45 rfl))) (mvT hZ (hw _ (mw 46 rfl))) (mvT hZ (hw _ (mw 47 rfl))) (mvT hZ (hw _ (mw 48 rfl))) (by decide) (backOf (W := 1) (rmco l Z a0 hw [] vr x0 x1 h0 n0 Z0 V_vr) hZ (hw _ (mw 48 rfl)) (hw _ (mw 47 rfl)) (by decide) (by decide)) (g := (mkF m 23 #[.val (.ref va), .val (.int u0), .val (.int u1)] [(.int (4 : Int32)), (.ref vr), (.ref va)])) rfl (by rw [hml]; rfl) (argsL := [(.ref vr), (.int (4 : Int32))]) (rest := [(.ref va)]) (lenOf pd_5 rfl) rfl (by show 2 * 0 + _ ≤ _; exact Nat.le_of_eq rfl) (hb hby d7_23) (fun _ _ => ⟨rfl, e5, (by decide : 0 + 1 ≤ _), (by decide : 0 + 4 ≤ _)⟩)
  dsimp only [Pt.U, Pt.locs, Pt.cells, Pt.slots] at X6 l6 y6 z6 st6 hQ6
  subst l6 y6 z6
  obtain ⟨vb_6, rfl, N6q, K6, sz6_vb, P6_0⟩ := hQ6
  have N6 := Fr.app N0 N6q
  have ne_va_vb_6 : va ≠ vb_6 := Nat.ne_of_lt (Nat.lt_of_lt_of_le E_va.lt sz6_vb)
  have ne_vr_vb_6 : vr ≠ vb_6 := Nat.ne_of_lt (Nat.lt_of_lt_of_le V_vr.lt sz6_vb)
  have ne_vt_vb_6 : vt ≠ vb_6 := Nat.ne_of_lt (Nat.lt_of_lt_of_le V_vt.lt sz6_vb)
  have g_vb_6 : n0 ≤ vb_6 := Nat.le_trans Z0 sz6_vb
  have sz_vb_6 : h0.size ≤ vb_6 := Nat.le_trans (Keep.refl h0 [va]).1 sz6_vb
  refine Goal.to (B := T6.setTop (mkF m 26 #[.val (.ref va), .val (.int u0), .val (.int u1)] [(.ref vb_6), (.ref va)])) st6 ?_
  have f7 : Fld Z T6.heap va "com/example/pattern_automaton/patternautomaton/NonZeroTransitions" "rows" "[I" (.ref vr) := (F_rows_va.keep K6 nin0)
  have f8 : Exa Z T6.heap va "com/example/pattern_automaton/patternautomaton/NonZeroTransitions" := (E_va.keep K6)
  obtain ⟨T9, h9, X9, e9, W9, st9⟩ := putF X6 hx hZ hown (host := "") (Or.inl (hw _ (mw 13 rfl))) Via.refl rfl f7 f8 (Or.inl (hw _ (mw 14 rfl))) (hw _ (mw 2 rfl)) (ty := (.array .int)) (by decide) rfl rfl (g := (mkF m 26 #[.val (.ref va), .val (.int u0), .val (.int u1)] [(.ref vb_6), (.ref va)])) rfl rfl (hb hby d7_26)
  have Fw9 : Fld Z h9 va "com/example/pattern_automaton/patternautomaton/NonZeroTransitions" "rows" "[I" (.ref vb_6) := f7.same W9
  have N9 := Fr.snoc X9 N6 g_va
  refine Goal.to (B := T9.setTop (mkF m 29 #[.val (.ref va), .val (.int u0), .val (.int u1)] [])) st9 ?_
  refine Goal.to (B := T9.setTop (mkF m 31 #[.val (.ref va), .val (.int u0), .val (.int u1)] [(.ref va), (.ref va)])) (fun tt kk => ?_) ?_
  · show Steps p.tables e below (T9.setTop (mkF m 29 #[.val (.ref va), .val (.int u0), .val (.int u1)] [])) tt
    refine XS.aloadN X9.here hx rfl (hb hby d7_29) rfl rfl ?_
    show Steps p.tables e below (T9.setTop (mkF m 30 #[.val (.ref va), .val (.int u0), .val (.int u1)] [(.ref va)])) tt
    refine XS.aloadN X9.here hx rfl (hb hby d7_30) rfl rfl ?_
    exact kk
  have f10 : Fld Z h9 va "com/example/pattern_automaton/patternautomaton/NonZeroTransitions" "targets" "[I" (.ref vt) := ((F_targets_va.keep K6 nin0).other W9 (Or.inr (slot_ne (Or.inl (hw _ (mw 16 rfl))) (Or.inl (hw _ (mw 14 rfl))) (by decide) (t := (.array .int)) (t' := (.array .int)) (by decide) (by decide))))
  obtain ⟨T11, X11, e11, st11⟩ := getF X9 hx hZ hown (host := "") (Or.inl (hw _ (mw 15 rfl))) Via.refl e9 f10 (g := (mkF m 31 #[.val (.ref va), .val (.int u0), .val (.int u1)] [(.ref va), (.ref va)])) rfl rfl (hb hby d7_31)
  refine Goal.to (B := T11.setTop (mkF m 34 #[.val (.ref va), .val (.int u0), .val (.int u1)] [(.ref vt), (.ref va)])) st11 ?_
  refine Goal.to (B := T11.setTop (mkF m 36 #[.val (.ref va), .val (.int u0), .val (.int u1)] [(.ref va), (.int (2 : Int32)), (.ref vt), (.ref va)])) (fun tt kk => ?_) ?_
  · show Steps p.tables e below (T11.setTop (mkF m 34 #[.val (.ref va), .val (.int u0), .val (.int u1)] [(.ref vt), (.ref va)])) tt
    refine XS.iconst X11.here hx rfl (hb hby d7_34) ?_
    show Steps p.tables e below (T11.setTop (mkF m 35 #[.val (.ref va), .val (.int u0), .val (.int u1)] [(.int (2 : Int32)), (.ref vt), (.ref va)])) tt
    refine XS.aloadN X11.here hx rfl (hb hby d7_35) rfl rfl ?_
    exact kk
  have f12 : Fld Z h9 va "com/example/pattern_automaton/patternautomaton/NonZeroTransitions" "size" "I" (.int (2 : Int32)) := ((F_size_va.keep K6 nin0).other W9 (Or.inr (slot_ne (Or.inl (hw _ (mw 29 rfl))) (Or.inl (hw _ (mw 14 rfl))) (by decide) (t := .int) (t' := (.array .int)) (by decide) (by decide))))
  obtain ⟨T13, X13, e13, st13⟩ := getF X11 hx hZ hown (host := "") (Or.inl (hw _ (mw 28 rfl))) Via.refl e11 f12 (g := (mkF m 36 #[.val (.ref va), .val (.int u0), .val (.int u1)] [(.ref va), (.int (2 : Int32)), (.ref vt), (.ref va)])) rfl rfl (hb hby d7_36)
  refine Goal.to (B := T13.setTop (mkF m 39 #[.val (.ref va), .val (.int u0), .val (.int u1)] [(.int (2 : Int32)), (.int (2 : Int32)), (.ref vt), (.ref va)])) st13 ?_
  refine Goal.to (B := T13.setTop (mkF m 40 #[.val (.ref va), .val (.int u0), .val (.int u1)] [(.int (4 : Int32)), (.ref vt), (.ref va)])) (fun tt kk => ?_) ?_
  · show Steps p.tables e below (T13.setTop (mkF m 39 #[.val (.ref va), .val (.int u0), .val (.int u1)] [(.int (2 : Int32)), (.int (2 : Int32)), (.ref vt), (.ref va)])) tt
    refine XS.imul X13.here hx rfl (hb hby d7_39) rfl ?_
    exact kk
  have f14 : Ary Z h9 vt .int [(.int y0), (.int y1)] := ((V_vt.keep K6 nin0).other W9 (Ne.symm ne_va_vt))
  have f15 : n0 ≤ h9.size := (Nat.le_trans (Nat.le_trans Z0 K6.1) (Keep.of_wr W9).1)
  have f17 : Exa Z h9 va "com/example/pattern_automaton/patternautomaton/NonZeroTransitions" := (f8.wr W9)
  have f18 : Ary Z h9 vr .int [(.int x0), (.int x1)] := ((V_vr.keep K6 nin0).other W9 (Ne.symm ne_va_vr))
  have f19 : Ary Z h9 vb_6 .int [(.int x0), (.int x1), (.int (0 : Int32)), (.int (0 : Int32))] := (P6_0.other W9 (Ne.symm ne_va_vb_6))
  have f20 : Keep h0 h9 [va] := (((Keep.refl h0 [va]).trans K6 all0).wr W9 (Or.inl (List.mem_of_getElem? (i := 0) rfl)))
  obtain ⟨_, _, ⟨T16, L16, k16, n16⟩, -, X16, ⟨Lc16, hQ16, l16, y16, z16⟩, st16⟩ := Jvm.LawKit.callS X13 hx (y := (⟨"java/util/Arrays", "copyOf", "([II)[I"⟩ : MethodName)) hown (mvT hZ (hw _ (mw 45 rfl))) (mvT hZ (hw _ (mw 46 rfl))) (mvT hZ (hw _ (mw 47 rfl))) (mvT hZ (hw _ (mw 48 rfl))) (by decide) (backOf (W := 1) (rmco l Z a0 hw [] vt y0 y1 h9 n0 f15 f14) hZ (hw _ (mw 48 rfl)) (hw _ (mw 47 rfl)) (by decide) (by decide)) (g := (mkF m 40 #[.val (.ref va), .val (.int u0), .val (.int u1)] [(.int (4 : Int32)), (.ref vt), (.ref va)])) rfl (by rw [hml]; rfl) (argsL := [(.ref vt), (.int (4 : Int32))]) (rest := [(.ref va)]) (lenOf pd_5 rfl) rfl (by show 2 * 0 + _ ≤ _; exact Nat.le_of_eq rfl) (hb hby d7_40) (fun _ _ => ⟨rfl, e13, (by decide : 1 + 1 ≤ _), (by decide : 4 + 4 ≤ _)⟩)
  dsimp only [Pt.U, Pt.locs, Pt.cells, Pt.slots] at X16 l16 y16 z16 st16 hQ16
  subst l16 y16 z16
  obtain ⟨vb_16, rfl, N16q, K16, sz16_vb, P16_0⟩ := hQ16
  have N16 := Fr.app N9 N16q
  have ne_va_vb_16 : va ≠ vb_16 := Nat.ne_of_lt (Nat.lt_of_lt_of_le f17.lt sz16_vb)
  have ne_vr_vb_16 : vr ≠ vb_16 := Nat.ne_of_lt (Nat.lt_of_lt_of_le f18.lt sz16_vb)
  have ne_vt_vb_16 : vt ≠ vb_16 := Nat.ne_of_lt (Nat.lt_of_lt_of_le f14.lt sz16_vb)
  have ne_vb_6_vb_16 : vb_6 ≠ vb_16 := Nat.ne_of_lt (Nat.lt_of_lt_of_le f19.lt sz16_vb)
  have g_vb_16 : n0 ≤ vb_16 := Nat.le_trans f15 sz16_vb
  have sz_vb_16 : h0.size ≤ vb_16 := Nat.le_trans f20.1 sz16_vb
  refine Goal.to (B := T16.setTop (mkF m 43 #[.val (.ref va), .val (.int u0), .val (.int u1)] [(.ref vb_16), (.ref va)])) st16 ?_
  have f21 : Fld Z T16.heap va "com/example/pattern_automaton/patternautomaton/NonZeroTransitions" "targets" "[I" (.ref vt) := (f10.keep K16 nin0)
  have f22 : Exa Z T16.heap va "com/example/pattern_automaton/patternautomaton/NonZeroTransitions" := (f17.keep K16)
  obtain ⟨T23, h23, X23, e23, W23, st23⟩ := putF X16 hx hZ hown (host := "") (Or.inl (hw _ (mw 15 rfl))) Via.refl rfl f21 f22 (Or.inl (hw _ (mw 16 rfl))) (hw _ (mw 2 rfl)) (ty := (.array .int)) (by decide) rfl rfl (g := (mkF m 43 #[.val (.ref va), .val (.int u0), .val (.int u1)] [(.ref vb_16), (.ref va)])) rfl rfl (hb hby d7_43)
  have Fw23 : Fld Z h23 va "com/example/pattern_automaton/patternautomaton/NonZeroTransitions" "targets" "[I" (.ref vb_16) := f21.same W23
  have N23 := Fr.snoc X23 N16 g_va
  refine Goal.to (B := T23.setTop (mkF m 46 #[.val (.ref va), .val (.int u0), .val (.int u1)] [])) st23 ?_
  refine Goal.to (B := T23.setTop (mkF m 47 #[.val (.ref va), .val (.int u0), .val (.int u1)] [(.ref va)])) (fun tt kk => ?_) ?_
  · show Steps p.tables e below (T23.setTop (mkF m 46 #[.val (.ref va), .val (.int u0), .val (.int u1)] [])) tt
    refine XS.aloadN X23.here hx rfl (hb hby d7_46) rfl rfl ?_
    exact kk
  have f24 : Fld Z h23 va "com/example/pattern_automaton/patternautomaton/NonZeroTransitions" "rows" "[I" (.ref vb_6) := ((Fw9.keep K16 nin0).other W23 (Or.inr (slot_ne (Or.inl (hw _ (mw 14 rfl))) (Or.inl (hw _ (mw 16 rfl))) (by decide) (t := (.array .int)) (t' := (.array .int)) (by decide) (by decide))))
  obtain ⟨T25, X25, e25, st25⟩ := getF X23 hx hZ hown (host := "") (Or.inl (hw _ (mw 13 rfl))) Via.refl e23 f24 (g := (mkF m 47 #[.val (.ref va), .val (.int u0), .val (.int u1)] [(.ref va)])) rfl rfl (hb hby d7_47)
  refine Goal.to (B := T25.setTop (mkF m 50 #[.val (.ref va), .val (.int u0), .val (.int u1)] [(.ref vb_6)])) st25 ?_
  refine Goal.to (B := T25.setTop (mkF m 51 #[.val (.ref va), .val (.int u0), .val (.int u1)] [(.ref va), (.ref vb_6)])) (fun tt kk => ?_) ?_
  · show Steps p.tables e below (T25.setTop (mkF m 50 #[.val (.ref va), .val (.int u0), .val (.int u1)] [(.ref vb_6)])) tt
    refine XS.aloadN X25.here hx rfl (hb hby d7_50) rfl rfl ?_
    exact kk
  have f26 : Fld Z h23 va "com/example/pattern_automaton/patternautomaton/NonZeroTransitions" "size" "I" (.int (2 : Int32)) := ((f12.keep K16 nin0).other W23 (Or.inr (slot_ne (Or.inl (hw _ (mw 29 rfl))) (Or.inl (hw _ (mw 16 rfl))) (by decide) (t := .int) (t' := (.array .int)) (by decide) (by decide))))
  obtain ⟨T27, X27, e27, st27⟩ := getF X25 hx hZ hown (host := "") (Or.inl (hw _ (mw 28 rfl))) Via.refl e25 f26 (g := (mkF m 51 #[.val (.ref va), .val (.int u0), .val (.int u1)] [(.ref va), (.ref vb_6)])) rfl rfl (hb hby d7_51)
  refine Goal.to (B := T27.setTop (mkF m 54 #[.val (.ref va), .val (.int u0), .val (.int u1)] [(.int (2 : Int32)), (.ref vb_6)])) st27 ?_
  refine Goal.to (B := T27.setTop (mkF m 55 #[.val (.ref va), .val (.int u0), .val (.int u1)] [(.int u0), (.int (2 : Int32)), (.ref vb_6)])) (fun tt kk => ?_) ?_
  · show Steps p.tables e below (T27.setTop (mkF m 54 #[.val (.ref va), .val (.int u0), .val (.int u1)] [(.int (2 : Int32)), (.ref vb_6)])) tt
    refine XS.iloadN X27.here hx rfl (hb hby d7_54) rfl ?_
    exact kk
  have f28 : Ary Z h23 vb_6 .int [(.int x0), (.int x1), (.int (0 : Int32)), (.int (0 : Int32))] := ((f19.keep K16 nin0).other W23 (Ne.symm ne_va_vb_6))
  obtain ⟨cl29, Ar29, Sl29⟩ := id f28
  have hin29 := inA (cl := cl29) Sl29 (j := (2 : Int32)) (by decide) (Nat.le_of_ble_eq_true rfl)
  obtain ⟨T29, h29, X29, e29, W29, st29⟩ := stI X27 hx hZ e27 Ar29 (j := (2 : Int32)) hin29 (g := (mkF m 55 #[.val (.ref va), .val (.int u0), .val (.int u1)] [(.int u0), (.int (2 : Int32)), (.ref vb_6)])) rfl rfl (hb hby d7_55)
  have V29 : Ary Z h29 vb_6 .int [(.int x0), (.int x1), (.int u0), (.int (0 : Int32))] := Ary.put Ar29 Sl29 W29 rfl
  have N29 := Fr.snoc X29 N23 g_vb_6
  refine Goal.to (B := T29.setTop (mkF m 56 #[.val (.ref va), .val (.int u0), .val (.int u1)] [])) st29 ?_
  refine Goal.to (B := T29.setTop (mkF m 57 #[.val (.ref va), .val (.int u0), .val (.int u1)] [(.ref va)])) (fun tt kk => ?_) ?_
  · show Steps p.tables e below (T29.setTop (mkF m 56 #[.val (.ref va), .val (.int u0), .val (.int u1)] [])) tt
    refine XS.aloadN X29.here hx rfl (hb hby d7_56) rfl rfl ?_
    exact kk
  have f30 : Fld Z h29 va "com/example/pattern_automaton/patternautomaton/NonZeroTransitions" "targets" "[I" (.ref vb_16) := (Fw23.other W29 (Or.inl ne_va_vb_6))
  obtain ⟨T31, X31, e31, st31⟩ := getF X29 hx hZ hown (host := "") (Or.inl (hw _ (mw 15 rfl))) Via.refl e29 f30 (g := (mkF m 57 #[.val (.ref va), .val (.int u0), .val (.int u1)] [(.ref va)])) rfl rfl (hb hby d7_57)
  refine Goal.to (B := T31.setTop (mkF m 60 #[.val (.ref va), .val (.int u0), .val (.int u1)] [(.ref vb_16)])) st31 ?_
  refine Goal.to (B := T31.setTop (mkF m 61 #[.val (.ref va), .val (.int u0), .val (.int u1)] [(.ref va), (.ref vb_16)])) (fun tt kk => ?_) ?_
  · show Steps p.tables e below (T31.setTop (mkF m 60 #[.val (.ref va), .val (.int u0), .val (.int u1)] [(.ref vb_16)])) tt
    refine XS.aloadN X31.here hx rfl (hb hby d7_60) rfl rfl ?_
    exact kk
  have f32 : Fld Z h29 va "com/example/pattern_automaton/patternautomaton/NonZeroTransitions" "size" "I" (.int (2 : Int32)) := (f26.other W29 (Or.inl ne_va_vb_6))
  obtain ⟨T33, X33, e33, st33⟩ := getF X31 hx hZ hown (host := "") (Or.inl (hw _ (mw 28 rfl))) Via.refl e31 f32 (g := (mkF m 61 #[.val (.ref va), .val (.int u0), .val (.int u1)] [(.ref va), (.ref vb_16)])) rfl rfl (hb hby d7_61)
  refine Goal.to (B := T33.setTop (mkF m 64 #[.val (.ref va), .val (.int u0), .val (.int u1)] [(.int (2 : Int32)), (.ref vb_16)])) st33 ?_
  refine Goal.to (B := T33.setTop (mkF m 65 #[.val (.ref va), .val (.int u0), .val (.int u1)] [(.int u1), (.int (2 : Int32)), (.ref vb_16)])) (fun tt kk => ?_) ?_
  · show Steps p.tables e below (T33.setTop (mkF m 64 #[.val (.ref va), .val (.int u0), .val (.int u1)] [(.int (2 : Int32)), (.ref vb_16)])) tt
    refine XS.iloadN X33.here hx rfl (hb hby d7_64) rfl ?_
    exact kk
  have f34 : Ary Z h29 vb_16 .int [(.int y0), (.int y1), (.int (0 : Int32)), (.int (0 : Int32))] := ((P16_0.other W23 (Ne.symm ne_va_vb_16)).other W29 (Ne.symm ne_vb_6_vb_16))
  obtain ⟨cl35, Ar35, Sl35⟩ := id f34
  have hin35 := inA (cl := cl35) Sl35 (j := (2 : Int32)) (by decide) (Nat.le_of_ble_eq_true rfl)
  obtain ⟨T35, h35, X35, e35, W35, st35⟩ := stI X33 hx hZ e33 Ar35 (j := (2 : Int32)) hin35 (g := (mkF m 65 #[.val (.ref va), .val (.int u0), .val (.int u1)] [(.int u1), (.int (2 : Int32)), (.ref vb_16)])) rfl rfl (hb hby d7_65)
  have V35 : Ary Z h35 vb_16 .int [(.int y0), (.int y1), (.int u1), (.int (0 : Int32))] := Ary.put Ar35 Sl35 W35 rfl
  have N35 := Fr.snoc X35 N29 g_vb_16
  refine Goal.to (B := T35.setTop (mkF m 66 #[.val (.ref va), .val (.int u0), .val (.int u1)] [])) st35 ?_
  refine Goal.to (B := T35.setTop (mkF m 68 #[.val (.ref va), .val (.int u0), .val (.int u1)] [(.ref va), (.ref va)])) (fun tt kk => ?_) ?_
  · show Steps p.tables e below (T35.setTop (mkF m 66 #[.val (.ref va), .val (.int u0), .val (.int u1)] [])) tt
    refine XS.aloadN X35.here hx rfl (hb hby d7_66) rfl rfl ?_
    show Steps p.tables e below (T35.setTop (mkF m 67 #[.val (.ref va), .val (.int u0), .val (.int u1)] [(.ref va)])) tt
    refine XS.dup X35.here hx rfl (hb hby d7_67) rfl rfl ?_
    exact kk
  have f36 : Fld Z h35 va "com/example/pattern_automaton/patternautomaton/NonZeroTransitions" "size" "I" (.int (2 : Int32)) := (f32.other W35 (Or.inl ne_va_vb_16))
  obtain ⟨T37, X37, e37, st37⟩ := getF X35 hx hZ hown (host := "") (Or.inl (hw _ (mw 28 rfl))) Via.refl e35 f36 (g := (mkF m 68 #[.val (.ref va), .val (.int u0), .val (.int u1)] [(.ref va), (.ref va)])) rfl rfl (hb hby d7_68)
  refine Goal.to (B := T37.setTop (mkF m 71 #[.val (.ref va), .val (.int u0), .val (.int u1)] [(.int (2 : Int32)), (.ref va)])) st37 ?_
  refine Goal.to (B := T37.setTop (mkF m 73 #[.val (.ref va), .val (.int u0), .val (.int u1)] [(.int (3 : Int32)), (.ref va)])) (fun tt kk => ?_) ?_
  · show Steps p.tables e below (T37.setTop (mkF m 71 #[.val (.ref va), .val (.int u0), .val (.int u1)] [(.int (2 : Int32)), (.ref va)])) tt
    refine XS.iconst X37.here hx rfl (hb hby d7_71) ?_
    show Steps p.tables e below (T37.setTop (mkF m 72 #[.val (.ref va), .val (.int u0), .val (.int u1)] [(.int (1 : Int32)), (.int (2 : Int32)), (.ref va)])) tt
    refine XS.iadd X37.here hx rfl (hb hby d7_72) rfl ?_
    exact kk
  have f38 : Exa Z h35 va "com/example/pattern_automaton/patternautomaton/NonZeroTransitions" := (((f22.wr W23).wr W29).wr W35)
  obtain ⟨T39, h39, X39, e39, W39, st39⟩ := putF X37 hx hZ hown (host := "") (Or.inl (hw _ (mw 28 rfl))) Via.refl e37 f36 f38 (Or.inl (hw _ (mw 29 rfl))) (hw _ (mw 2 rfl)) (ty := .int) (by decide) rfl rfl (g := (mkF m 73 #[.val (.ref va), .val (.int u0), .val (.int u1)] [(.int (3 : Int32)), (.ref va)])) rfl rfl (hb hby d7_73)
  have Fw39 : Fld Z h39 va "com/example/pattern_automaton/patternautomaton/NonZeroTransitions" "size" "I" (.int (3 : Int32)) := f36.same W39
  have N39 := Fr.snoc X39 N35 g_va
  refine Goal.to (B := T39.setTop (mkF m 76 #[.val (.ref va), .val (.int u0), .val (.int u1)] [])) st39 ?_
  have f40 : Keep h0 h39 [va] := (((((f20.trans K16 all0).wr W23 (Or.inl (List.mem_of_getElem? (i := 0) rfl))).wr W29 (Or.inr sz_vb_6)).wr W35 (Or.inr sz_vb_16)).wr W39 (Or.inl (List.mem_of_getElem? (i := 0) rfl)))
  have f41 : Fld Z h39 va "com/example/pattern_automaton/patternautomaton/NonZeroTransitions" "first" "[I" (.ref vf) := (((((((F_first_va.keep K6 nin0).other W9 (Or.inr (slot_ne (Or.inr (hw _ (mw 12 rfl))) (Or.inl (hw _ (mw 14 rfl))) (by decide) (t := (.array .int)) (t' := (.array .int)) (by decide) (by decide)))).keep K16 nin0).other W23 (Or.inr (slot_ne (Or.inr (hw _ (mw 12 rfl))) (Or.inl (hw _ (mw 16 rfl))) (by decide) (t := (.array .int)) (t' := (.array .int)) (by decide) (by decide)))).other W29 (Or.inl ne_va_vb_6)).other W35 (Or.inl ne_va_vb_16)).other W39 (Or.inr (slot_ne (Or.inr (hw _ (mw 12 rfl))) (Or.inl (hw _ (mw 29 rfl))) (by decide) (t := (.array .int)) (t' := .int) (by decide) (by decide))))
  have f42 : Fld Z h39 va "com/example/pattern_automaton/patternautomaton/NonZeroTransitions" "rows" "[I" (.ref vb_6) := (((f24.other W29 (Or.inl ne_va_vb_6)).other W35 (Or.inl ne_va_vb_16)).other W39 (Or.inr (slot_ne (Or.inl (hw _ (mw 14 rfl))) (Or.inl (hw _ (mw 29 rfl))) (by decide) (t := (.array .int)) (t' := .int) (by decide) (by decide))))
  have f43 : Fld Z h39 va "com/example/pattern_automaton/patternautomaton/NonZeroTransitions" "targets" "[I" (.ref vb_16) := ((f30.other W35 (Or.inl ne_va_vb_16)).other W39 (Or.inr (slot_ne (Or.inl (hw _ (mw 16 rfl))) (Or.inl (hw _ (mw 29 rfl))) (by decide) (t := (.array .int)) (t' := .int) (by decide) (by decide))))
  have f44 : Fld Z h39 va "com/example/pattern_automaton/patternautomaton/NonZeroTransitions" "ended" "I" (.int ue) := (((((((F_ended_va.keep K6 nin0).other W9 (Or.inr (slot_ne (Or.inl (hw _ (mw 27 rfl))) (Or.inl (hw _ (mw 14 rfl))) (by decide) (t := .int) (t' := (.array .int)) (by decide) (by decide)))).keep K16 nin0).other W23 (Or.inr (slot_ne (Or.inl (hw _ (mw 27 rfl))) (Or.inl (hw _ (mw 16 rfl))) (by decide) (t := .int) (t' := (.array .int)) (by decide) (by decide)))).other W29 (Or.inl ne_va_vb_6)).other W35 (Or.inl ne_va_vb_16)).other W39 (Or.inr (slot_ne (Or.inl (hw _ (mw 27 rfl))) (Or.inl (hw _ (mw 29 rfl))) (by decide) (t := .int) (t' := .int) (by decide) (by decide))))
  have f45 : Ary Z h39 vb_6 .int [(.int x0), (.int x1), (.int u0), (.int (0 : Int32))] := ((V29.other W35 ne_vb_6_vb_16).other W39 (Ne.symm ne_va_vb_6))
  have f46 : Ary Z h39 vb_16 .int [(.int y0), (.int y1), (.int u1), (.int (0 : Int32))] := (V35.other W39 (Ne.symm ne_va_vb_16))
  exact Goal.retN X39 hx Bd.returns (hb hby d7_76) hlk e39 ⟨vb_6, vb_16, rfl, N39, f40, sz_vb_6, sz_vb_16, ne_vb_6_vb_16, f41, f42, f43, Fw39, f44, f45, f46⟩ (by decide) (by decide)
def Qad3 (Z : State) (va : Addr) (vf : Addr) (vr : Addr) (vt : Addr) (ue : Int32) (x0 : Int32) (x1 : Int32) (x2 : Int32) (x3 : Int32) (y0 : Int32) (y1 : Int32) (y2 : Int32) (y3 : Int32) (u0 : Int32) (u1 : Int32) (h0 : Heap) (n0 : Nat) (v : Option Value) (h : Heap) (L : List Loc) : Prop := v = none ∧ Fr n0 L ∧ Keep h0 h [va, vr, vt] ∧ Fld Z h va "com/example/pattern_automaton/patternautomaton/NonZeroTransitions" "first" "[I" (.ref vf) ∧ Fld Z h va "com/example/pattern_automaton/patternautomaton/NonZeroTransitions" "rows" "[I" (.ref vr) ∧ Fld Z h va "com/example/pattern_automaton/patternautomaton/NonZeroTransitions" "targets" "[I" (.ref vt) ∧ Fld Z h va "com/example/pattern_automaton/patternautomaton/NonZeroTransitions" "size" "I" (.int (4 : Int32)) ∧ Fld Z h va "com/example/pattern_automaton/patternautomaton/NonZeroTransitions" "ended" "I" (.int ue) ∧ Ary Z h vr .int [(.int x0), (.int x1), (.int x2), (.int u0)] ∧ Ary Z h vt .int [(.int y0), (.int y1), (.int y2), (.int u1)]
set_option maxRecDepth 65536 in
set_option maxHeartbeats 40000000 in
theorem rmad3 (l : Launch) (Z : State) (a0 : Array Value) (hw : ∀ d ∈ tables_1, d.before a0 Z = true) (ws : List Jvm.Cond) (va : Addr) (vf : Addr) (vr : Addr) (vt : Addr) (ue : Int32) (x0 : Int32) (x1 : Int32) (x2 : Int32) (x3 : Int32) (y0 : Int32) (y1 : Int32) (y2 : Int32) (y3 : Int32) (u0 : Int32) (u1 : Int32) (h0 : Heap) (n0 : Nat) (Z0 : n0 ≤ h0.size) (E_va : Exa Z h0 va "com/example/pattern_automaton/patternautomaton/NonZeroTransitions") (F_first_va : Fld Z h0 va "com/example/pattern_automaton/patternautomaton/NonZeroTransitions" "first" "[I" (.ref vf)) (F_rows_va : Fld Z h0 va "com/example/pattern_automaton/patternautomaton/NonZeroTransitions" "rows" "[I" (.ref vr)) (F_targets_va : Fld Z h0 va "com/example/pattern_automaton/patternautomaton/NonZeroTransitions" "targets" "[I" (.ref vt)) (F_size_va : Fld Z h0 va "com/example/pattern_automaton/patternautomaton/NonZeroTransitions" "size" "I" (.int (3 : Int32))) (F_ended_va : Fld Z h0 va "com/example/pattern_automaton/patternautomaton/NonZeroTransitions" "ended" "I" (.int ue)) (V_vr : Ary Z h0 vr .int [(.int x0), (.int x1), (.int x2), (.int x3)]) (V_vt : Ary Z h0 vt .int [(.int y0), (.int y1), (.int y2), (.int y3)]) (g_va : n0 ≤ va) (g_vr : n0 ≤ vr) (g_vt : n0 ≤ vt) (ne_va_vr : va ≠ vr) (ne_va_vt : va ≠ vt) (ne_vr_vt : vr ≠ vt) :
    MetFree l (⟨"com/example/pattern_automaton/patternautomaton/NonZeroTransitions", "add", "(II)V"⟩ : MethodName) (head1 (Jvm.Cond.code (⟨"com/example/pattern_automaton/patternautomaton/NonZeroTransitions", "add", "(II)V"⟩ : MethodName) prog_33_method_2_code 3 none :: ws) ({ frames := 0, cells := 0, slots := 0, locals := 0 } : Room)) (fun a U => a = #[(.ref va), (.int u0), (.int u1)] ∧ Z.Warmed39 U.vm ∧ U.heap = h0) (fun _ _ _ _ _ => True) (fun _ U o U' => ∃ v L, o = .returned v ∧ Qad3 Z va vf vr vt ue x0 x1 x2 x3 y0 y1 y2 y3 u0 u1 h0 n0 v U'.heap L ∧ FrameEnd U o U' L 0 0) := by
  refine MetFree.of_bodySF (plainFor_of_name pn_7) hisR ?_
  intro p e s m args below meth c s₁ Bd hml0 hP hK
  obtain ⟨rfl, hZ, hh⟩ := hP
  have hx := Bd.exec
  have hby := Bd.bytes
  have hml : c.maxLocals = 3 := hml0
  have hown : s.vm.findClass "com/example/pattern_automaton/patternautomaton/NonZeroTransitions" = some m.cls := findClass_of_methodNamed Bd.named
  have hnm := (name_of_methodNamed Bd.named Bd.method).1
  have X0 : Stand p l e ({ frames := 0, cells := 0, slots := 0, locals := 0 } : Room) s m #[(.ref va), (.int u0), (.int u1)] below meth c s₁ [] 0 0 := Stand.of_body Bd
  have e0 : s₁.heap = h0 := by rw [← hh, Bd.state]; rfl
  have N0 := Fr.nil n0
  have hlk : meth.locks = false := BodyLoose.notSynchronized Bd
  show Goal p e below s (Qad3 Z va vf vr vt ue x0 x1 x2 x3 y0 y1 y2 y3 u0 u1 h0 n0) 0 0 (s₁.setTop (entryFrame m #[(.ref va), (.int u0), (.int u1)] 3))
  refine Goal.to (B := s₁.setTop (mkF m 0 #[.val (.ref va), .val (.int u0), .val (.int u1)] [])) (fun tt kk => castTop (ef_7 m va u0 u1 ) kk) ?_
  refine Goal.to (B := s₁.setTop (mkF m 1 #[.val (.ref va), .val (.int u0), .val (.int u1)] [(.ref va)])) (fun tt kk => ?_) ?_
  · show Steps p.tables e below (s₁.setTop (mkF m 0 #[.val (.ref va), .val (.int u0), .val (.int u1)] [])) tt
    refine XS.aloadN X0.here hx rfl (hb hby d7_0) rfl rfl ?_
    exact kk
  obtain ⟨T1, X1, e1, st1⟩ := getF X0 hx hZ hown (host := "") (Or.inl (hw _ (mw 28 rfl))) Via.refl e0 F_size_va (g := (mkF m 1 #[.val (.ref va), .val (.int u0), .val (.int u1)] [(.ref va)])) rfl rfl (hb hby d7_1)
  refine Goal.to (B := T1.setTop (mkF m 4 #[.val (.ref va), .val (.int u0), .val (.int u1)] [(.int (3 : Int32))])) st1 ?_
  refine Goal.to (B := T1.setTop (mkF m 5 #[.val (.ref va), .val (.int u0), .val (.int u1)] [(.ref va), (.int (3 : Int32))])) (fun tt kk => ?_) ?_
  · show Steps p.tables e below (T1.setTop (mkF m 4 #[.val (.ref va), .val (.int u0), .val (.int u1)] [(.int (3 : Int32))])) tt
    refine XS.aloadN X1.here hx rfl (hb hby d7_4) rfl rfl ?_
    exact kk
  obtain ⟨T2, X2, e2, st2⟩ := getF X1 hx hZ hown (host := "") (Or.inl (hw _ (mw 13 rfl))) Via.refl e1 F_rows_va (g := (mkF m 5 #[.val (.ref va), .val (.int u0), .val (.int u1)] [(.ref va), (.int (3 : Int32))])) rfl rfl (hb hby d7_5)
  refine Goal.to (B := T2.setTop (mkF m 8 #[.val (.ref va), .val (.int u0), .val (.int u1)] [(.ref vr), (.int (3 : Int32))])) st2 ?_
  obtain ⟨cl3, Ar3, Sl3⟩ := id V_vr
  have ln3 : cl3.slots.size.toInt32 = (4 : Int32) := lenA Sl3 rfl
  refine Goal.to (B := T2.setTop (mkF m 47 #[.val (.ref va), .val (.int u0), .val (.int u1)] [(.ref va)])) (fun tt kk => ?_) ?_
  · show Steps p.tables e below (T2.setTop (mkF m 8 #[.val (.ref va), .val (.int u0), .val (.int u1)] [(.ref vr), (.int (3 : Int32))])) tt
    refine X2.arraylength hx (by rw [e2]; exact Ar3.1) (State.isArrayOf_alike hZ.alike Ar3.2.1) (g := (mkF m 8 #[.val (.ref va), .val (.int u0), .val (.int u1)] [(.ref vr), (.int (3 : Int32))])) rfl rfl (hb hby d7_8) _ ?_
    rw [ln3]
    show Steps p.tables e below (T2.setTop (mkF m 9 #[.val (.ref va), .val (.int u0), .val (.int u1)] [(.int (4 : Int32)), (.int (3 : Int32))])) tt
    refine XS.icmpYes X2.here hx rfl (pc0 := 9) (pc' := 46) rfl (hb hby d7_9) rfl (feq ((by decide) : ¬ ((3 : Int32) = (4 : Int32)))).2 (by decide) (by decide) ?_
    show Steps p.tables e below (T2.setTop (mkF m 46 #[.val (.ref va), .val (.int u0), .val (.int u1)] [])) tt
    refine XS.aloadN X2.here hx rfl (hb hby d7_46) rfl rfl ?_
    exact kk
  obtain ⟨T4, X4, e4, st4⟩ := getF X2 hx hZ hown (host := "") (Or.inl (hw _ (mw 13 rfl))) Via.refl e2 F_rows_va (g := (mkF m 47 #[.val (.ref va), .val (.int u0), .val (.int u1)] [(.ref va)])) rfl rfl (hb hby d7_47)
  refine Goal.to (B := T4.setTop (mkF m 50 #[.val (.ref va), .val (.int u0), .val (.int u1)] [(.ref vr)])) st4 ?_
  refine Goal.to (B := T4.setTop (mkF m 51 #[.val (.ref va), .val (.int u0), .val (.int u1)] [(.ref va), (.ref vr)])) (fun tt kk => ?_) ?_
  · show Steps p.tables e below (T4.setTop (mkF m 50 #[.val (.ref va), .val (.int u0), .val (.int u1)] [(.ref vr)])) tt
    refine XS.aloadN X4.here hx rfl (hb hby d7_50) rfl rfl ?_
    exact kk
  obtain ⟨T5, X5, e5, st5⟩ := getF X4 hx hZ hown (host := "") (Or.inl (hw _ (mw 28 rfl))) Via.refl e4 F_size_va (g := (mkF m 51 #[.val (.ref va), .val (.int u0), .val (.int u1)] [(.ref va), (.ref vr)])) rfl rfl (hb hby d7_51)
  refine Goal.to (B := T5.setTop (mkF m 54 #[.val (.ref va), .val (.int u0), .val (.int u1)] [(.int (3 : Int32)), (.ref vr)])) st5 ?_
  refine Goal.to (B := T5.setTop (mkF m 55 #[.val (.ref va), .val (.int u0), .val (.int u1)] [(.int u0), (.int (3 : Int32)), (.ref vr)])) (fun tt kk => ?_) ?_
  · show Steps p.tables e below (T5.setTop (mkF m 54 #[.val (.ref va), .val (.int u0), .val (.int u1)] [(.int (3 : Int32)), (.ref vr)])) tt
    refine XS.iloadN X5.here hx rfl (hb hby d7_54) rfl ?_
    exact kk
  obtain ⟨cl6, Ar6, Sl6⟩ := id V_vr
  have hin6 := inA (cl := cl6) Sl6 (j := (3 : Int32)) (by decide) (Nat.le_of_ble_eq_true rfl)
  obtain ⟨T6, h6, X6, e6, W6, st6⟩ := stI X5 hx hZ e5 Ar6 (j := (3 : Int32)) hin6 (g := (mkF m 55 #[.val (.ref va), .val (.int u0), .val (.int u1)] [(.int u0), (.int (3 : Int32)), (.ref vr)])) rfl rfl (hb hby d7_55)
  have V6 : Ary Z h6 vr .int [(.int x0), (.int x1), (.int x2), (.int u0)] := Ary.put Ar6 Sl6 W6 rfl
  have N6 := Fr.snoc X6 N0 g_vr
  refine Goal.to (B := T6.setTop (mkF m 56 #[.val (.ref va), .val (.int u0), .val (.int u1)] [])) st6 ?_
  refine Goal.to (B := T6.setTop (mkF m 57 #[.val (.ref va), .val (.int u0), .val (.int u1)] [(.ref va)])) (fun tt kk => ?_) ?_
  · show Steps p.tables e below (T6.setTop (mkF m 56 #[.val (.ref va), .val (.int u0), .val (.int u1)] [])) tt
    refine XS.aloadN X6.here hx rfl (hb hby d7_56) rfl rfl ?_
    exact kk
  have f7 : Fld Z h6 va "com/example/pattern_automaton/patternautomaton/NonZeroTransitions" "targets" "[I" (.ref vt) := (F_targets_va.other W6 (Or.inl ne_va_vr))
  obtain ⟨T8, X8, e8, st8⟩ := getF X6 hx hZ hown (host := "") (Or.inl (hw _ (mw 15 rfl))) Via.refl e6 f7 (g := (mkF m 57 #[.val (.ref va), .val (.int u0), .val (.int u1)] [(.ref va)])) rfl rfl (hb hby d7_57)
  refine Goal.to (B := T8.setTop (mkF m 60 #[.val (.ref va), .val (.int u0), .val (.int u1)] [(.ref vt)])) st8 ?_
  refine Goal.to (B := T8.setTop (mkF m 61 #[.val (.ref va), .val (.int u0), .val (.int u1)] [(.ref va), (.ref vt)])) (fun tt kk => ?_) ?_
  · show Steps p.tables e below (T8.setTop (mkF m 60 #[.val (.ref va), .val (.int u0), .val (.int u1)] [(.ref vt)])) tt
    refine XS.aloadN X8.here hx rfl (hb hby d7_60) rfl rfl ?_
    exact kk
  have f9 : Fld Z h6 va "com/example/pattern_automaton/patternautomaton/NonZeroTransitions" "size" "I" (.int (3 : Int32)) := (F_size_va.other W6 (Or.inl ne_va_vr))
  obtain ⟨T10, X10, e10, st10⟩ := getF X8 hx hZ hown (host := "") (Or.inl (hw _ (mw 28 rfl))) Via.refl e8 f9 (g := (mkF m 61 #[.val (.ref va), .val (.int u0), .val (.int u1)] [(.ref va), (.ref vt)])) rfl rfl (hb hby d7_61)
  refine Goal.to (B := T10.setTop (mkF m 64 #[.val (.ref va), .val (.int u0), .val (.int u1)] [(.int (3 : Int32)), (.ref vt)])) st10 ?_
  refine Goal.to (B := T10.setTop (mkF m 65 #[.val (.ref va), .val (.int u0), .val (.int u1)] [(.int u1), (.int (3 : Int32)), (.ref vt)])) (fun tt kk => ?_) ?_
  · show Steps p.tables e below (T10.setTop (mkF m 64 #[.val (.ref va), .val (.int u0), .val (.int u1)] [(.int (3 : Int32)), (.ref vt)])) tt
    refine XS.iloadN X10.here hx rfl (hb hby d7_64) rfl ?_
    exact kk
  have f11 : Ary Z h6 vt .int [(.int y0), (.int y1), (.int y2), (.int y3)] := (V_vt.other W6 (Ne.symm ne_vr_vt))
  obtain ⟨cl12, Ar12, Sl12⟩ := id f11
  have hin12 := inA (cl := cl12) Sl12 (j := (3 : Int32)) (by decide) (Nat.le_of_ble_eq_true rfl)
  obtain ⟨T12, h12, X12, e12, W12, st12⟩ := stI X10 hx hZ e10 Ar12 (j := (3 : Int32)) hin12 (g := (mkF m 65 #[.val (.ref va), .val (.int u0), .val (.int u1)] [(.int u1), (.int (3 : Int32)), (.ref vt)])) rfl rfl (hb hby d7_65)
  have V12 : Ary Z h12 vt .int [(.int y0), (.int y1), (.int y2), (.int u1)] := Ary.put Ar12 Sl12 W12 rfl
  have N12 := Fr.snoc X12 N6 g_vt
  refine Goal.to (B := T12.setTop (mkF m 66 #[.val (.ref va), .val (.int u0), .val (.int u1)] [])) st12 ?_
  refine Goal.to (B := T12.setTop (mkF m 68 #[.val (.ref va), .val (.int u0), .val (.int u1)] [(.ref va), (.ref va)])) (fun tt kk => ?_) ?_
  · show Steps p.tables e below (T12.setTop (mkF m 66 #[.val (.ref va), .val (.int u0), .val (.int u1)] [])) tt
    refine XS.aloadN X12.here hx rfl (hb hby d7_66) rfl rfl ?_
    show Steps p.tables e below (T12.setTop (mkF m 67 #[.val (.ref va), .val (.int u0), .val (.int u1)] [(.ref va)])) tt
    refine XS.dup X12.here hx rfl (hb hby d7_67) rfl rfl ?_
    exact kk
  have f13 : Fld Z h12 va "com/example/pattern_automaton/patternautomaton/NonZeroTransitions" "size" "I" (.int (3 : Int32)) := (f9.other W12 (Or.inl ne_va_vt))
  obtain ⟨T14, X14, e14, st14⟩ := getF X12 hx hZ hown (host := "") (Or.inl (hw _ (mw 28 rfl))) Via.refl e12 f13 (g := (mkF m 68 #[.val (.ref va), .val (.int u0), .val (.int u1)] [(.ref va), (.ref va)])) rfl rfl (hb hby d7_68)
  refine Goal.to (B := T14.setTop (mkF m 71 #[.val (.ref va), .val (.int u0), .val (.int u1)] [(.int (3 : Int32)), (.ref va)])) st14 ?_
  refine Goal.to (B := T14.setTop (mkF m 73 #[.val (.ref va), .val (.int u0), .val (.int u1)] [(.int (4 : Int32)), (.ref va)])) (fun tt kk => ?_) ?_
  · show Steps p.tables e below (T14.setTop (mkF m 71 #[.val (.ref va), .val (.int u0), .val (.int u1)] [(.int (3 : Int32)), (.ref va)])) tt
    refine XS.iconst X14.here hx rfl (hb hby d7_71) ?_
    show Steps p.tables e below (T14.setTop (mkF m 72 #[.val (.ref va), .val (.int u0), .val (.int u1)] [(.int (1 : Int32)), (.int (3 : Int32)), (.ref va)])) tt
    refine XS.iadd X14.here hx rfl (hb hby d7_72) rfl ?_
    exact kk
  have f15 : Exa Z h12 va "com/example/pattern_automaton/patternautomaton/NonZeroTransitions" := ((E_va.wr W6).wr W12)
  obtain ⟨T16, h16, X16, e16, W16, st16⟩ := putF X14 hx hZ hown (host := "") (Or.inl (hw _ (mw 28 rfl))) Via.refl e14 f13 f15 (Or.inl (hw _ (mw 29 rfl))) (hw _ (mw 2 rfl)) (ty := .int) (by decide) rfl rfl (g := (mkF m 73 #[.val (.ref va), .val (.int u0), .val (.int u1)] [(.int (4 : Int32)), (.ref va)])) rfl rfl (hb hby d7_73)
  have Fw16 : Fld Z h16 va "com/example/pattern_automaton/patternautomaton/NonZeroTransitions" "size" "I" (.int (4 : Int32)) := f13.same W16
  have N16 := Fr.snoc X16 N12 g_va
  refine Goal.to (B := T16.setTop (mkF m 76 #[.val (.ref va), .val (.int u0), .val (.int u1)] [])) st16 ?_
  have f17 : Keep h0 h16 [va, vr, vt] := ((((Keep.refl h0 [va, vr, vt]).wr W6 (Or.inl (List.mem_of_getElem? (i := 1) rfl))).wr W12 (Or.inl (List.mem_of_getElem? (i := 2) rfl))).wr W16 (Or.inl (List.mem_of_getElem? (i := 0) rfl)))
  have f18 : Fld Z h16 va "com/example/pattern_automaton/patternautomaton/NonZeroTransitions" "first" "[I" (.ref vf) := (((F_first_va.other W6 (Or.inl ne_va_vr)).other W12 (Or.inl ne_va_vt)).other W16 (Or.inr (slot_ne (Or.inr (hw _ (mw 12 rfl))) (Or.inl (hw _ (mw 29 rfl))) (by decide) (t := (.array .int)) (t' := .int) (by decide) (by decide))))
  have f19 : Fld Z h16 va "com/example/pattern_automaton/patternautomaton/NonZeroTransitions" "rows" "[I" (.ref vr) := (((F_rows_va.other W6 (Or.inl ne_va_vr)).other W12 (Or.inl ne_va_vt)).other W16 (Or.inr (slot_ne (Or.inl (hw _ (mw 14 rfl))) (Or.inl (hw _ (mw 29 rfl))) (by decide) (t := (.array .int)) (t' := .int) (by decide) (by decide))))
  have f20 : Fld Z h16 va "com/example/pattern_automaton/patternautomaton/NonZeroTransitions" "targets" "[I" (.ref vt) := ((f7.other W12 (Or.inl ne_va_vt)).other W16 (Or.inr (slot_ne (Or.inl (hw _ (mw 16 rfl))) (Or.inl (hw _ (mw 29 rfl))) (by decide) (t := (.array .int)) (t' := .int) (by decide) (by decide))))
  have f21 : Fld Z h16 va "com/example/pattern_automaton/patternautomaton/NonZeroTransitions" "ended" "I" (.int ue) := (((F_ended_va.other W6 (Or.inl ne_va_vr)).other W12 (Or.inl ne_va_vt)).other W16 (Or.inr (slot_ne (Or.inl (hw _ (mw 27 rfl))) (Or.inl (hw _ (mw 29 rfl))) (by decide) (t := .int) (t' := .int) (by decide) (by decide))))
  have f22 : Ary Z h16 vr .int [(.int x0), (.int x1), (.int x2), (.int u0)] := ((V6.other W12 ne_vr_vt).other W16 (Ne.symm ne_va_vr))
  have f23 : Ary Z h16 vt .int [(.int y0), (.int y1), (.int y2), (.int u1)] := (V12.other W16 (Ne.symm ne_va_vt))
  exact Goal.retN X16 hx Bd.returns (hb hby d7_76) hlk e16 ⟨rfl, N16, f17, f18, f19, f20, Fw16, f21, f22, f23⟩ (by decide) (by decide)
theorem ef_3 (m : MethodId) (x0 : Addr) (x1 : Int32) (x2 : Int32) (x3 : Int32)  : entryFrame m #[(.ref x0), (.int x1), (.int x2), (.int x3)] 4 = mkF m 0 #[.val (.ref x0), .val (.int x1), .val (.int x2), .val (.int x3)] [] := by first | (simp [entryFrame, mkF, argsToLocals, Value.category]; done) | rfl
theorem pn_3 : plainName "com/example/pattern_automaton/patternautomaton/NonZeroTransitionsEndStatePinLaw" = true := by first | (simp [plainName, overriddenIn]; done) | decide +kernel
theorem d3_0 : decode method_2_code 0 = .ok (.iload_n 1, 1) := by decide +kernel
theorem d3_1 : decode method_2_code 1 = .ok (.ifCond .le 9, 3) := by decide +kernel
theorem d3_10 : decode method_2_code 10 = .ok (.iload_n 1, 1) := by decide +kernel
theorem d3_11 : decode method_2_code 11 = .ok (.iconst 1, 1) := by decide +kernel
theorem d3_12 : decode method_2_code 12 = .ok (.if_icmp .le 11, 3) := by decide +kernel
theorem d3_23 : decode method_2_code 23 = .ok (.return_, 1) := by decide +kernel
def Qan00 (Z : State) (va : Addr) (vf : Addr) (vr : Addr) (vt : Addr) (ue : Int32) (x0 : Int32) (x1 : Int32) (y0 : Int32) (y1 : Int32) (u0 : Int32) (u1 : Int32) (h0 : Heap) (n0 : Nat) (v : Option Value) (h : Heap) (L : List Loc) : Prop := v = none ∧ Fr n0 L ∧ h = h0
set_option maxRecDepth 65536 in
set_option maxHeartbeats 40000000 in
theorem rman00 (l : Launch) (Z : State) (a0 : Array Value) (hw : ∀ d ∈ tables_1, d.before a0 Z = true) (ws : List Jvm.Cond) (va : Addr) (vf : Addr) (vr : Addr) (vt : Addr) (ue : Int32) (x0 : Int32) (x1 : Int32) (y0 : Int32) (y1 : Int32) (u0 : Int32) (u1 : Int32) (h0 : Heap) (n0 : Nat) (Z0 : n0 ≤ h0.size) (E_va : Exa Z h0 va "com/example/pattern_automaton/patternautomaton/NonZeroTransitions") (F_first_va : Fld Z h0 va "com/example/pattern_automaton/patternautomaton/NonZeroTransitions" "first" "[I" (.ref vf)) (F_rows_va : Fld Z h0 va "com/example/pattern_automaton/patternautomaton/NonZeroTransitions" "rows" "[I" (.ref vr)) (F_targets_va : Fld Z h0 va "com/example/pattern_automaton/patternautomaton/NonZeroTransitions" "targets" "[I" (.ref vt)) (F_size_va : Fld Z h0 va "com/example/pattern_automaton/patternautomaton/NonZeroTransitions" "size" "I" (.int (0 : Int32))) (F_ended_va : Fld Z h0 va "com/example/pattern_automaton/patternautomaton/NonZeroTransitions" "ended" "I" (.int ue)) (V_vr : Ary Z h0 vr .int [(.int x0), (.int x1)]) (V_vt : Ary Z h0 vt .int [(.int y0), (.int y1)]) :
    MetFree l (⟨"com/example/pattern_automaton/patternautomaton/NonZeroTransitionsEndStatePinLaw", "addN", "(Lcom/example/pattern_automaton/patternautomaton/NonZeroTransitions;III)V"⟩ : MethodName) (head1 (Jvm.Cond.code (⟨"com/example/pattern_automaton/patternautomaton/NonZeroTransitionsEndStatePinLaw", "addN", "(Lcom/example/pattern_automaton/patternautomaton/NonZeroTransitions;III)V"⟩ : MethodName) method_2_code 4 none :: ws) ({ frames := 0, cells := 0, slots := 0, locals := 0 } : Room)) (fun a U => a = #[(.ref va), (.int (0 : Int32)), (.int u0), (.int u1)] ∧ Z.Warmed39 U.vm ∧ U.heap = h0) (fun _ _ _ _ _ => True) (fun _ U o U' => ∃ v L, o = .returned v ∧ Qan00 Z va vf vr vt ue x0 x1 y0 y1 u0 u1 h0 n0 v U'.heap L ∧ FrameEnd U o U' L 0 0) := by
  refine MetFree.of_bodySF (plainFor_of_name pn_3) hisR ?_
  intro p e s m args below meth c s₁ Bd hml0 hP hK
  obtain ⟨rfl, hZ, hh⟩ := hP
  have hx := Bd.exec
  have hby := Bd.bytes
  have hml : c.maxLocals = 4 := hml0
  have hown : s.vm.findClass "com/example/pattern_automaton/patternautomaton/NonZeroTransitionsEndStatePinLaw" = some m.cls := findClass_of_methodNamed Bd.named
  have hnm := (name_of_methodNamed Bd.named Bd.method).1
  have X0 : Stand p l e ({ frames := 0, cells := 0, slots := 0, locals := 0 } : Room) s m #[(.ref va), (.int (0 : Int32)), (.int u0), (.int u1)] below meth c s₁ [] 0 0 := Stand.of_body Bd
  have e0 : s₁.heap = h0 := by rw [← hh, Bd.state]; rfl
  have N0 := Fr.nil n0
  have hlk : meth.locks = false := BodyLoose.notSynchronized Bd
  show Goal p e below s (Qan00 Z va vf vr vt ue x0 x1 y0 y1 u0 u1 h0 n0) 0 0 (s₁.setTop (entryFrame m #[(.ref va), (.int (0 : Int32)), (.int u0), (.int u1)] 4))
  refine Goal.to (B := s₁.setTop (mkF m 0 #[.val (.ref va), .val (.int (0 : Int32)), .val (.int u0), .val (.int u1)] [])) (fun tt kk => castTop (ef_3 m va (0 : Int32) u0 u1 ) kk) ?_
  refine Goal.to (B := s₁.setTop (mkF m 23 #[.val (.ref va), .val (.int (0 : Int32)), .val (.int u0), .val (.int u1)] [])) (fun tt kk => ?_) ?_
  · show Steps p.tables e below (s₁.setTop (mkF m 0 #[.val (.ref va), .val (.int (0 : Int32)), .val (.int u0), .val (.int u1)] [])) tt
    refine XS.iloadN X0.here hx rfl (hb hby d3_0) rfl ?_
    show Steps p.tables e below (s₁.setTop (mkF m 1 #[.val (.ref va), .val (.int (0 : Int32)), .val (.int u0), .val (.int u1)] [(.int (0 : Int32))])) tt
    refine XS.ifYes X0.here hx rfl (pc0 := 1) (pc' := 10) rfl (hb hby d3_1) rfl ((if0 _ _).trans (flt (Int32.lt_irrefl : ¬ ((0 : Int32) < (0 : Int32)))).2.2.2) (by decide) (by decide) ?_
    show Steps p.tables e below (s₁.setTop (mkF m 10 #[.val (.ref va), .val (.int (0 : Int32)), .val (.int u0), .val (.int u1)] [])) tt
    refine XS.iloadN X0.here hx rfl (hb hby d3_10) rfl ?_
    show Steps p.tables e below (s₁.setTop (mkF m 11 #[.val (.ref va), .val (.int (0 : Int32)), .val (.int u0), .val (.int u1)] [(.int (0 : Int32))])) tt
    refine XS.iconst X0.here hx rfl (hb hby d3_11) ?_
    show Steps p.tables e below (s₁.setTop (mkF m 12 #[.val (.ref va), .val (.int (0 : Int32)), .val (.int u0), .val (.int u1)] [(.int (1 : Int32)), (.int (0 : Int32))])) tt
    refine XS.icmpYes X0.here hx rfl (pc0 := 12) (pc' := 23) rfl (hb hby d3_12) rfl (flt ((by decide) : ¬ ((1 : Int32) < (0 : Int32)))).2.2.2 (by decide) (by decide) ?_
    exact kk
  exact Goal.retN X0 hx Bd.returns (hb hby d3_23) hlk e0 ⟨rfl, N0, rfl⟩ (by decide) (by decide)
theorem d3_4 : decode method_2_code 4 = .ok (.aload_n 0, 1) := by decide +kernel
theorem d3_5 : decode method_2_code 5 = .ok (.iload_n 2, 1) := by decide +kernel
theorem d3_6 : decode method_2_code 6 = .ok (.iload_n 3, 1) := by decide +kernel
theorem pd_4 : parseMethodDescriptor "(II)V" = some ⟨[.int, .int], none⟩ := by decide +kernel
theorem d3_7 : decode method_2_code 7 = .ok (.invokevirtual 7, 3) := by decide +kernel
def Qan01 (Z : State) (va : Addr) (vf : Addr) (vr : Addr) (vt : Addr) (ue : Int32) (x0 : Int32) (x1 : Int32) (y0 : Int32) (y1 : Int32) (u0 : Int32) (u1 : Int32) (h0 : Heap) (n0 : Nat) (v : Option Value) (h : Heap) (L : List Loc) : Prop := v = none ∧ Fr n0 L ∧ Keep h0 h [va, vr, vt] ∧ Fld Z h va "com/example/pattern_automaton/patternautomaton/NonZeroTransitions" "first" "[I" (.ref vf) ∧ Fld Z h va "com/example/pattern_automaton/patternautomaton/NonZeroTransitions" "rows" "[I" (.ref vr) ∧ Fld Z h va "com/example/pattern_automaton/patternautomaton/NonZeroTransitions" "targets" "[I" (.ref vt) ∧ Fld Z h va "com/example/pattern_automaton/patternautomaton/NonZeroTransitions" "size" "I" (.int (1 : Int32)) ∧ Fld Z h va "com/example/pattern_automaton/patternautomaton/NonZeroTransitions" "ended" "I" (.int ue) ∧ Ary Z h vr .int [(.int u0), (.int x1)] ∧ Ary Z h vt .int [(.int u1), (.int y1)]
set_option maxRecDepth 65536 in
set_option maxHeartbeats 40000000 in
theorem rman01 (l : Launch) (Z : State) (a0 : Array Value) (hw : ∀ d ∈ tables_1, d.before a0 Z = true) (ws : List Jvm.Cond) (va : Addr) (vf : Addr) (vr : Addr) (vt : Addr) (ue : Int32) (x0 : Int32) (x1 : Int32) (y0 : Int32) (y1 : Int32) (u0 : Int32) (u1 : Int32) (h0 : Heap) (n0 : Nat) (Z0 : n0 ≤ h0.size) (E_va : Exa Z h0 va "com/example/pattern_automaton/patternautomaton/NonZeroTransitions") (F_first_va : Fld Z h0 va "com/example/pattern_automaton/patternautomaton/NonZeroTransitions" "first" "[I" (.ref vf)) (F_rows_va : Fld Z h0 va "com/example/pattern_automaton/patternautomaton/NonZeroTransitions" "rows" "[I" (.ref vr)) (F_targets_va : Fld Z h0 va "com/example/pattern_automaton/patternautomaton/NonZeroTransitions" "targets" "[I" (.ref vt)) (F_size_va : Fld Z h0 va "com/example/pattern_automaton/patternautomaton/NonZeroTransitions" "size" "I" (.int (0 : Int32))) (F_ended_va : Fld Z h0 va "com/example/pattern_automaton/patternautomaton/NonZeroTransitions" "ended" "I" (.int ue)) (V_vr : Ary Z h0 vr .int [(.int x0), (.int x1)]) (V_vt : Ary Z h0 vt .int [(.int y0), (.int y1)]) (g_va : n0 ≤ va) (g_vr : n0 ≤ vr) (g_vt : n0 ≤ vt) (ne_va_vr : va ≠ vr) (ne_va_vt : va ≠ vt) (ne_vr_vt : vr ≠ vt) :
    MetFree l (⟨"com/example/pattern_automaton/patternautomaton/NonZeroTransitionsEndStatePinLaw", "addN", "(Lcom/example/pattern_automaton/patternautomaton/NonZeroTransitions;III)V"⟩ : MethodName) (head1 (Jvm.Cond.code (⟨"com/example/pattern_automaton/patternautomaton/NonZeroTransitionsEndStatePinLaw", "addN", "(Lcom/example/pattern_automaton/patternautomaton/NonZeroTransitions;III)V"⟩ : MethodName) method_2_code 4 none :: ws) ({ frames := 1, cells := 0, slots := 0, locals := 14 } : Room)) (fun a U => a = #[(.ref va), (.int (1 : Int32)), (.int u0), (.int u1)] ∧ Z.Warmed39 U.vm ∧ U.heap = h0) (fun _ _ _ _ _ => True) (fun _ U o U' => ∃ v L, o = .returned v ∧ Qan01 Z va vf vr vt ue x0 x1 y0 y1 u0 u1 h0 n0 v U'.heap L ∧ FrameEnd U o U' L 0 0) := by
  refine MetFree.of_bodySF (plainFor_of_name pn_3) hisR ?_
  intro p e s m args below meth c s₁ Bd hml0 hP hK
  obtain ⟨rfl, hZ, hh⟩ := hP
  have hx := Bd.exec
  have hby := Bd.bytes
  have hml : c.maxLocals = 4 := hml0
  have hown : s.vm.findClass "com/example/pattern_automaton/patternautomaton/NonZeroTransitionsEndStatePinLaw" = some m.cls := findClass_of_methodNamed Bd.named
  have hnm := (name_of_methodNamed Bd.named Bd.method).1
  have X0 : Stand p l e ({ frames := 1, cells := 0, slots := 0, locals := 14 } : Room) s m #[(.ref va), (.int (1 : Int32)), (.int u0), (.int u1)] below meth c s₁ [] 0 0 := Stand.of_body Bd
  have e0 : s₁.heap = h0 := by rw [← hh, Bd.state]; rfl
  have N0 := Fr.nil n0
  have hlk : meth.locks = false := BodyLoose.notSynchronized Bd
  show Goal p e below s (Qan01 Z va vf vr vt ue x0 x1 y0 y1 u0 u1 h0 n0) 0 0 (s₁.setTop (entryFrame m #[(.ref va), (.int (1 : Int32)), (.int u0), (.int u1)] 4))
  refine Goal.to (B := s₁.setTop (mkF m 0 #[.val (.ref va), .val (.int (1 : Int32)), .val (.int u0), .val (.int u1)] [])) (fun tt kk => castTop (ef_3 m va (1 : Int32) u0 u1 ) kk) ?_
  refine Goal.to (B := s₁.setTop (mkF m 7 #[.val (.ref va), .val (.int (1 : Int32)), .val (.int u0), .val (.int u1)] [(.int u1), (.int u0), (.ref va)])) (fun tt kk => ?_) ?_
  · show Steps p.tables e below (s₁.setTop (mkF m 0 #[.val (.ref va), .val (.int (1 : Int32)), .val (.int u0), .val (.int u1)] [])) tt
    refine XS.iloadN X0.here hx rfl (hb hby d3_0) rfl ?_
    show Steps p.tables e below (s₁.setTop (mkF m 1 #[.val (.ref va), .val (.int (1 : Int32)), .val (.int u0), .val (.int u1)] [(.int (1 : Int32))])) tt
    refine XS.ifNo X0.here hx rfl (hb hby d3_1) rfl ((if0 _ _).trans (tlt ((by decide) : (0 : Int32) < (1 : Int32))).2.2.2) ?_
    show Steps p.tables e below (s₁.setTop (mkF m 4 #[.val (.ref va), .val (.int (1 : Int32)), .val (.int u0), .val (.int u1)] [])) tt
    refine XS.aloadN X0.here hx rfl (hb hby d3_4) rfl rfl ?_
    show Steps p.tables e below (s₁.setTop (mkF m 5 #[.val (.ref va), .val (.int (1 : Int32)), .val (.int u0), .val (.int u1)] [(.ref va)])) tt
    refine XS.iloadN X0.here hx rfl (hb hby d3_5) rfl ?_
    show Steps p.tables e below (s₁.setTop (mkF m 6 #[.val (.ref va), .val (.int (1 : Int32)), .val (.int u0), .val (.int u1)] [(.int u0), (.ref va)])) tt
    refine XS.iloadN X0.here hx rfl (hb hby d3_6) rfl ?_
    exact kk
  obtain ⟨cq1, kq1, q1a, q1b, q1c⟩ := isOf hZ e0 E_va
  obtain ⟨_, _, ⟨T1, L1, k1, n1⟩, -, X1, ⟨Lc1, hQ1, l1, y1, z1⟩, st1⟩ := X0.virtualBack hx (y := (⟨"com/example/pattern_automaton/patternautomaton/NonZeroTransitions", "add", "(II)V"⟩ : MethodName)) (z := (⟨"com/example/pattern_automaton/patternautomaton/NonZeroTransitions", "add", "(II)V"⟩ : MethodName)) hown (mvT hZ (hw _ (mw 40 rfl))) (mvT hZ (hw _ (mw 41 rfl))) (notFace_of_selects (args := #[]) (mvT hZ (hw _ (mw 43 rfl)))) (mvT hZ (hw _ (mw 43 rfl))) (mvT hZ (hw _ (mw 42 rfl))) (by decide) (backOf (W := 0) (rmad0 l Z a0 hw [] va vf vr vt ue x0 x1 y0 y1 u0 u1 h0 n0 Z0 E_va F_first_va F_rows_va F_targets_va F_size_va F_ended_va V_vr V_vt g_va g_vr g_vt ne_va_vr ne_va_vt ne_vr_vt) hZ (hw _ (mw 44 rfl)) (hw _ (mw 3 rfl)) (by decide) (by decide)) q1a q1c (g := (mkF m 7 #[.val (.ref va), .val (.int (1 : Int32)), .val (.int u0), .val (.int u1)] [(.int u1), (.int u0), (.ref va)])) rfl (by rw [hml]; rfl) (Steps.refl _) (argsL := [(.int u0), (.int u1)]) (rest := []) (lenOf pd_4 rfl) rfl (by show 2 * 0 + _ ≤ _; exact Nat.le_of_eq rfl) (hb hby d3_7) (fun _ _ => ⟨rfl, e0, (by decide : 0 + 0 ≤ _), (by decide : 0 + 0 ≤ _)⟩)
  dsimp only [Pt.U, Pt.locs, Pt.cells, Pt.slots] at X1 l1 y1 z1 st1 hQ1
  subst l1 y1 z1
  obtain ⟨rfl, N1q, K1, P1_0, P1_1, P1_2, P1_3, P1_4, P1_5, P1_6⟩ := hQ1
  have N1 := Fr.app N0 N1q
  refine Goal.tr (B := T1.setTop (mkF m 10 #[.val (.ref va), .val (.int (1 : Int32)), .val (.int u0), .val (.int u1)] [])) st1 ?_
  refine Goal.to (B := T1.setTop (mkF m 23 #[.val (.ref va), .val (.int (1 : Int32)), .val (.int u0), .val (.int u1)] [])) (fun tt kk => ?_) ?_
  · show Steps p.tables e below (T1.setTop (mkF m 10 #[.val (.ref va), .val (.int (1 : Int32)), .val (.int u0), .val (.int u1)] [])) tt
    refine XS.iloadN X1.here hx rfl (hb hby d3_10) rfl ?_
    show Steps p.tables e below (T1.setTop (mkF m 11 #[.val (.ref va), .val (.int (1 : Int32)), .val (.int u0), .val (.int u1)] [(.int (1 : Int32))])) tt
    refine XS.iconst X1.here hx rfl (hb hby d3_11) ?_
    show Steps p.tables e below (T1.setTop (mkF m 12 #[.val (.ref va), .val (.int (1 : Int32)), .val (.int u0), .val (.int u1)] [(.int (1 : Int32)), (.int (1 : Int32))])) tt
    refine XS.icmpYes X1.here hx rfl (pc0 := 12) (pc' := 23) rfl (hb hby d3_12) rfl (flt (Int32.lt_irrefl : ¬ ((1 : Int32) < (1 : Int32)))).2.2.2 (by decide) (by decide) ?_
    exact kk
  have f2 : Keep h0 T1.heap [va, vr, vt] := ((Keep.refl h0 [va, vr, vt]).trans K1 (allS (Or.inl (List.mem_of_getElem? (i := 0) rfl)) (allS (Or.inl (List.mem_of_getElem? (i := 1) rfl)) (allS (Or.inl (List.mem_of_getElem? (i := 2) rfl)) all0))))
  exact Goal.retN X1 hx Bd.returns (hb hby d3_23) hlk rfl ⟨rfl, N1, f2, P1_0, P1_1, P1_2, P1_3, P1_4, P1_5, P1_6⟩ (by decide) (by decide)
theorem d3_15 : decode method_2_code 15 = .ok (.aload_n 0, 1) := by decide +kernel
theorem d3_16 : decode method_2_code 16 = .ok (.iload_n 2, 1) := by decide +kernel
theorem d3_17 : decode method_2_code 17 = .ok (.iconst 1, 1) := by decide +kernel
theorem d3_18 : decode method_2_code 18 = .ok (.iadd, 1) := by decide +kernel
theorem d3_19 : decode method_2_code 19 = .ok (.iload_n 3, 1) := by decide +kernel
theorem d3_20 : decode method_2_code 20 = .ok (.invokevirtual 7, 3) := by decide +kernel
def Qan02 (Z : State) (va : Addr) (vf : Addr) (vr : Addr) (vt : Addr) (ue : Int32) (x0 : Int32) (x1 : Int32) (y0 : Int32) (y1 : Int32) (u0 : Int32) (u1 : Int32) (h0 : Heap) (n0 : Nat) (v : Option Value) (h : Heap) (L : List Loc) : Prop := v = none ∧ Fr n0 L ∧ Keep h0 h [va, vr, vt] ∧ Fld Z h va "com/example/pattern_automaton/patternautomaton/NonZeroTransitions" "first" "[I" (.ref vf) ∧ Fld Z h va "com/example/pattern_automaton/patternautomaton/NonZeroTransitions" "rows" "[I" (.ref vr) ∧ Fld Z h va "com/example/pattern_automaton/patternautomaton/NonZeroTransitions" "targets" "[I" (.ref vt) ∧ Fld Z h va "com/example/pattern_automaton/patternautomaton/NonZeroTransitions" "size" "I" (.int (2 : Int32)) ∧ Fld Z h va "com/example/pattern_automaton/patternautomaton/NonZeroTransitions" "ended" "I" (.int ue) ∧ Ary Z h vr .int [(.int u0), (.int (u0 + (1 : Int32)))] ∧ Ary Z h vt .int [(.int u1), (.int u1)]
set_option maxRecDepth 65536 in
set_option maxHeartbeats 40000000 in
theorem rman02 (l : Launch) (Z : State) (a0 : Array Value) (hw : ∀ d ∈ tables_1, d.before a0 Z = true) (ws : List Jvm.Cond) (va : Addr) (vf : Addr) (vr : Addr) (vt : Addr) (ue : Int32) (x0 : Int32) (x1 : Int32) (y0 : Int32) (y1 : Int32) (u0 : Int32) (u1 : Int32) (h0 : Heap) (n0 : Nat) (Z0 : n0 ≤ h0.size) (E_va : Exa Z h0 va "com/example/pattern_automaton/patternautomaton/NonZeroTransitions") (F_first_va : Fld Z h0 va "com/example/pattern_automaton/patternautomaton/NonZeroTransitions" "first" "[I" (.ref vf)) (F_rows_va : Fld Z h0 va "com/example/pattern_automaton/patternautomaton/NonZeroTransitions" "rows" "[I" (.ref vr)) (F_targets_va : Fld Z h0 va "com/example/pattern_automaton/patternautomaton/NonZeroTransitions" "targets" "[I" (.ref vt)) (F_size_va : Fld Z h0 va "com/example/pattern_automaton/patternautomaton/NonZeroTransitions" "size" "I" (.int (0 : Int32))) (F_ended_va : Fld Z h0 va "com/example/pattern_automaton/patternautomaton/NonZeroTransitions" "ended" "I" (.int ue)) (V_vr : Ary Z h0 vr .int [(.int x0), (.int x1)]) (V_vt : Ary Z h0 vt .int [(.int y0), (.int y1)]) (g_va : n0 ≤ va) (g_vr : n0 ≤ vr) (g_vt : n0 ≤ vt) (ne_va_vr : va ≠ vr) (ne_va_vt : va ≠ vt) (ne_vr_vt : vr ≠ vt) :
    MetFree l (⟨"com/example/pattern_automaton/patternautomaton/NonZeroTransitionsEndStatePinLaw", "addN", "(Lcom/example/pattern_automaton/patternautomaton/NonZeroTransitions;III)V"⟩ : MethodName) (head1 (Jvm.Cond.code (⟨"com/example/pattern_automaton/patternautomaton/NonZeroTransitionsEndStatePinLaw", "addN", "(Lcom/example/pattern_automaton/patternautomaton/NonZeroTransitions;III)V"⟩ : MethodName) method_2_code 4 none :: ws) ({ frames := 1, cells := 0, slots := 0, locals := 14 } : Room)) (fun a U => a = #[(.ref va), (.int (2 : Int32)), (.int u0), (.int u1)] ∧ Z.Warmed39 U.vm ∧ U.heap = h0) (fun _ _ _ _ _ => True) (fun _ U o U' => ∃ v L, o = .returned v ∧ Qan02 Z va vf vr vt ue x0 x1 y0 y1 u0 u1 h0 n0 v U'.heap L ∧ FrameEnd U o U' L 0 0) := by
  refine MetFree.of_bodySF (plainFor_of_name pn_3) hisR ?_
  intro p e s m args below meth c s₁ Bd hml0 hP hK
  obtain ⟨rfl, hZ, hh⟩ := hP
  have hx := Bd.exec
  have hby := Bd.bytes
  have hml : c.maxLocals = 4 := hml0
  have hown : s.vm.findClass "com/example/pattern_automaton/patternautomaton/NonZeroTransitionsEndStatePinLaw" = some m.cls := findClass_of_methodNamed Bd.named
  have hnm := (name_of_methodNamed Bd.named Bd.method).1
  have X0 : Stand p l e ({ frames := 1, cells := 0, slots := 0, locals := 14 } : Room) s m #[(.ref va), (.int (2 : Int32)), (.int u0), (.int u1)] below meth c s₁ [] 0 0 := Stand.of_body Bd
  have e0 : s₁.heap = h0 := by rw [← hh, Bd.state]; rfl
  have N0 := Fr.nil n0
  have hlk : meth.locks = false := BodyLoose.notSynchronized Bd
  show Goal p e below s (Qan02 Z va vf vr vt ue x0 x1 y0 y1 u0 u1 h0 n0) 0 0 (s₁.setTop (entryFrame m #[(.ref va), (.int (2 : Int32)), (.int u0), (.int u1)] 4))
  refine Goal.to (B := s₁.setTop (mkF m 0 #[.val (.ref va), .val (.int (2 : Int32)), .val (.int u0), .val (.int u1)] [])) (fun tt kk => castTop (ef_3 m va (2 : Int32) u0 u1 ) kk) ?_
  refine Goal.to (B := s₁.setTop (mkF m 7 #[.val (.ref va), .val (.int (2 : Int32)), .val (.int u0), .val (.int u1)] [(.int u1), (.int u0), (.ref va)])) (fun tt kk => ?_) ?_
  · show Steps p.tables e below (s₁.setTop (mkF m 0 #[.val (.ref va), .val (.int (2 : Int32)), .val (.int u0), .val (.int u1)] [])) tt
    refine XS.iloadN X0.here hx rfl (hb hby d3_0) rfl ?_
    show Steps p.tables e below (s₁.setTop (mkF m 1 #[.val (.ref va), .val (.int (2 : Int32)), .val (.int u0), .val (.int u1)] [(.int (2 : Int32))])) tt
    refine XS.ifNo X0.here hx rfl (hb hby d3_1) rfl ((if0 _ _).trans (tlt ((by decide) : (0 : Int32) < (2 : Int32))).2.2.2) ?_
    show Steps p.tables e below (s₁.setTop (mkF m 4 #[.val (.ref va), .val (.int (2 : Int32)), .val (.int u0), .val (.int u1)] [])) tt
    refine XS.aloadN X0.here hx rfl (hb hby d3_4) rfl rfl ?_
    show Steps p.tables e below (s₁.setTop (mkF m 5 #[.val (.ref va), .val (.int (2 : Int32)), .val (.int u0), .val (.int u1)] [(.ref va)])) tt
    refine XS.iloadN X0.here hx rfl (hb hby d3_5) rfl ?_
    show Steps p.tables e below (s₁.setTop (mkF m 6 #[.val (.ref va), .val (.int (2 : Int32)), .val (.int u0), .val (.int u1)] [(.int u0), (.ref va)])) tt
    refine XS.iloadN X0.here hx rfl (hb hby d3_6) rfl ?_
    exact kk
  obtain ⟨cq1, kq1, q1a, q1b, q1c⟩ := isOf hZ e0 E_va
  obtain ⟨_, _, ⟨T1, L1, k1, n1⟩, -, X1, ⟨Lc1, hQ1, l1, y1, z1⟩, st1⟩ := X0.virtualBack hx (y := (⟨"com/example/pattern_automaton/patternautomaton/NonZeroTransitions", "add", "(II)V"⟩ : MethodName)) (z := (⟨"com/example/pattern_automaton/patternautomaton/NonZeroTransitions", "add", "(II)V"⟩ : MethodName)) hown (mvT hZ (hw _ (mw 40 rfl))) (mvT hZ (hw _ (mw 41 rfl))) (notFace_of_selects (args := #[]) (mvT hZ (hw _ (mw 43 rfl)))) (mvT hZ (hw _ (mw 43 rfl))) (mvT hZ (hw _ (mw 42 rfl))) (by decide) (backOf (W := 0) (rmad0 l Z a0 hw [] va vf vr vt ue x0 x1 y0 y1 u0 u1 h0 n0 Z0 E_va F_first_va F_rows_va F_targets_va F_size_va F_ended_va V_vr V_vt g_va g_vr g_vt ne_va_vr ne_va_vt ne_vr_vt) hZ (hw _ (mw 44 rfl)) (hw _ (mw 3 rfl)) (by decide) (by decide)) q1a q1c (g := (mkF m 7 #[.val (.ref va), .val (.int (2 : Int32)), .val (.int u0), .val (.int u1)] [(.int u1), (.int u0), (.ref va)])) rfl (by rw [hml]; rfl) (Steps.refl _) (argsL := [(.int u0), (.int u1)]) (rest := []) (lenOf pd_4 rfl) rfl (by show 2 * 0 + _ ≤ _; exact Nat.le_of_eq rfl) (hb hby d3_7) (fun _ _ => ⟨rfl, e0, (by decide : 0 + 0 ≤ _), (by decide : 0 + 0 ≤ _)⟩)
  dsimp only [Pt.U, Pt.locs, Pt.cells, Pt.slots] at X1 l1 y1 z1 st1 hQ1
  subst l1 y1 z1
  obtain ⟨rfl, N1q, K1, P1_0, P1_1, P1_2, P1_3, P1_4, P1_5, P1_6⟩ := hQ1
  have N1 := Fr.app N0 N1q
  refine Goal.tr (B := T1.setTop (mkF m 10 #[.val (.ref va), .val (.int (2 : Int32)), .val (.int u0), .val (.int u1)] [])) st1 ?_
  refine Goal.to (B := T1.setTop (mkF m 20 #[.val (.ref va), .val (.int (2 : Int32)), .val (.int u0), .val (.int u1)] [(.int u1), (.int (u0 + (1 : Int32))), (.ref va)])) (fun tt kk => ?_) ?_
  · show Steps p.tables e below (T1.setTop (mkF m 10 #[.val (.ref va), .val (.int (2 : Int32)), .val (.int u0), .val (.int u1)] [])) tt
    refine XS.iloadN X1.here hx rfl (hb hby d3_10) rfl ?_
    show Steps p.tables e below (T1.setTop (mkF m 11 #[.val (.ref va), .val (.int (2 : Int32)), .val (.int u0), .val (.int u1)] [(.int (2 : Int32))])) tt
    refine XS.iconst X1.here hx rfl (hb hby d3_11) ?_
    show Steps p.tables e below (T1.setTop (mkF m 12 #[.val (.ref va), .val (.int (2 : Int32)), .val (.int u0), .val (.int u1)] [(.int (1 : Int32)), (.int (2 : Int32))])) tt
    refine XS.icmpNo X1.here hx rfl (hb hby d3_12) rfl (tlt ((by decide) : (1 : Int32) < (2 : Int32))).2.2.2 ?_
    show Steps p.tables e below (T1.setTop (mkF m 15 #[.val (.ref va), .val (.int (2 : Int32)), .val (.int u0), .val (.int u1)] [])) tt
    refine XS.aloadN X1.here hx rfl (hb hby d3_15) rfl rfl ?_
    show Steps p.tables e below (T1.setTop (mkF m 16 #[.val (.ref va), .val (.int (2 : Int32)), .val (.int u0), .val (.int u1)] [(.ref va)])) tt
    refine XS.iloadN X1.here hx rfl (hb hby d3_16) rfl ?_
    show Steps p.tables e below (T1.setTop (mkF m 17 #[.val (.ref va), .val (.int (2 : Int32)), .val (.int u0), .val (.int u1)] [(.int u0), (.ref va)])) tt
    refine XS.iconst X1.here hx rfl (hb hby d3_17) ?_
    show Steps p.tables e below (T1.setTop (mkF m 18 #[.val (.ref va), .val (.int (2 : Int32)), .val (.int u0), .val (.int u1)] [(.int (1 : Int32)), (.int u0), (.ref va)])) tt
    refine XS.iadd X1.here hx rfl (hb hby d3_18) rfl ?_
    show Steps p.tables e below (T1.setTop (mkF m 19 #[.val (.ref va), .val (.int (2 : Int32)), .val (.int u0), .val (.int u1)] [(.int (u0 + (1 : Int32))), (.ref va)])) tt
    refine XS.iloadN X1.here hx rfl (hb hby d3_19) rfl ?_
    exact kk
  have f2 : Exa Z T1.heap va "com/example/pattern_automaton/patternautomaton/NonZeroTransitions" := (E_va.keep K1)
  have f3 : n0 ≤ T1.heap.size := (Nat.le_trans Z0 K1.1)
  obtain ⟨cq4, kq4, q4a, q4b, q4c⟩ := isOf hZ rfl f2
  obtain ⟨_, _, ⟨T4, L4, k4, n4⟩, -, X4, ⟨Lc4, hQ4, l4, y4, z4⟩, st4⟩ := X1.virtualBack hx (y := (⟨"com/example/pattern_automaton/patternautomaton/NonZeroTransitions", "add", "(II)V"⟩ : MethodName)) (z := (⟨"com/example/pattern_automaton/patternautomaton/NonZeroTransitions", "add", "(II)V"⟩ : MethodName)) hown (mvT hZ (hw _ (mw 40 rfl))) (mvT hZ (hw _ (mw 41 rfl))) (notFace_of_selects (args := #[]) (mvT hZ (hw _ (mw 43 rfl)))) (mvT hZ (hw _ (mw 43 rfl))) (mvT hZ (hw _ (mw 42 rfl))) (by decide) (backOf (W := 0) (rmad1 l Z a0 hw [] va vf vr vt ue u0 x1 u1 y1 (u0 + (1 : Int32)) u1 T1.heap n0 f3 f2 P1_0 P1_1 P1_2 P1_3 P1_4 P1_5 P1_6 g_va g_vr g_vt ne_va_vr ne_va_vt ne_vr_vt) hZ (hw _ (mw 44 rfl)) (hw _ (mw 3 rfl)) (by decide) (by decide)) q4a q4c (g := (mkF m 20 #[.val (.ref va), .val (.int (2 : Int32)), .val (.int u0), .val (.int u1)] [(.int u1), (.int (u0 + (1 : Int32))), (.ref va)])) rfl (by rw [hml]; rfl) (Steps.refl _) (argsL := [(.int (u0 + (1 : Int32))), (.int u1)]) (rest := []) (lenOf pd_4 rfl) rfl (by show 2 * 0 + _ ≤ _; exact Nat.le_of_eq rfl) (hb hby d3_20) (fun _ _ => ⟨rfl, rfl, (by decide : 0 + 0 ≤ _), (by decide : 0 + 0 ≤ _)⟩)
  dsimp only [Pt.U, Pt.locs, Pt.cells, Pt.slots] at X4 l4 y4 z4 st4 hQ4
  subst l4 y4 z4
  obtain ⟨rfl, N4q, K4, P4_0, P4_1, P4_2, P4_3, P4_4, P4_5, P4_6⟩ := hQ4
  have N4 := Fr.app N1 N4q
  refine Goal.tr (B := T4.setTop (mkF m 23 #[.val (.ref va), .val (.int (2 : Int32)), .val (.int u0), .val (.int u1)] [])) st4 ?_
  have f5 : Keep h0 T4.heap [va, vr, vt] := (((Keep.refl h0 [va, vr, vt]).trans K1 (allS (Or.inl (List.mem_of_getElem? (i := 0) rfl)) (allS (Or.inl (List.mem_of_getElem? (i := 1) rfl)) (allS (Or.inl (List.mem_of_getElem? (i := 2) rfl)) all0)))).trans K4 (allS (Or.inl (List.mem_of_getElem? (i := 0) rfl)) (allS (Or.inl (List.mem_of_getElem? (i := 1) rfl)) (allS (Or.inl (List.mem_of_getElem? (i := 2) rfl)) all0))))
  exact Goal.retN X4 hx Bd.returns (hb hby d3_23) hlk rfl ⟨rfl, N4, f5, P4_0, P4_1, P4_2, P4_3, P4_4, P4_5, P4_6⟩ (by decide) (by decide)
def Qan10 (Z : State) (va : Addr) (vf : Addr) (vr : Addr) (vt : Addr) (ue : Int32) (x0 : Int32) (x1 : Int32) (y0 : Int32) (y1 : Int32) (u0 : Int32) (u1 : Int32) (h0 : Heap) (n0 : Nat) (v : Option Value) (h : Heap) (L : List Loc) : Prop := v = none ∧ Fr n0 L ∧ h = h0
set_option maxRecDepth 65536 in
set_option maxHeartbeats 40000000 in
theorem rman10 (l : Launch) (Z : State) (a0 : Array Value) (hw : ∀ d ∈ tables_1, d.before a0 Z = true) (ws : List Jvm.Cond) (va : Addr) (vf : Addr) (vr : Addr) (vt : Addr) (ue : Int32) (x0 : Int32) (x1 : Int32) (y0 : Int32) (y1 : Int32) (u0 : Int32) (u1 : Int32) (h0 : Heap) (n0 : Nat) (Z0 : n0 ≤ h0.size) (E_va : Exa Z h0 va "com/example/pattern_automaton/patternautomaton/NonZeroTransitions") (F_first_va : Fld Z h0 va "com/example/pattern_automaton/patternautomaton/NonZeroTransitions" "first" "[I" (.ref vf)) (F_rows_va : Fld Z h0 va "com/example/pattern_automaton/patternautomaton/NonZeroTransitions" "rows" "[I" (.ref vr)) (F_targets_va : Fld Z h0 va "com/example/pattern_automaton/patternautomaton/NonZeroTransitions" "targets" "[I" (.ref vt)) (F_size_va : Fld Z h0 va "com/example/pattern_automaton/patternautomaton/NonZeroTransitions" "size" "I" (.int (1 : Int32))) (F_ended_va : Fld Z h0 va "com/example/pattern_automaton/patternautomaton/NonZeroTransitions" "ended" "I" (.int ue)) (V_vr : Ary Z h0 vr .int [(.int x0), (.int x1)]) (V_vt : Ary Z h0 vt .int [(.int y0), (.int y1)]) :
    MetFree l (⟨"com/example/pattern_automaton/patternautomaton/NonZeroTransitionsEndStatePinLaw", "addN", "(Lcom/example/pattern_automaton/patternautomaton/NonZeroTransitions;III)V"⟩ : MethodName) (head1 (Jvm.Cond.code (⟨"com/example/pattern_automaton/patternautomaton/NonZeroTransitionsEndStatePinLaw", "addN", "(Lcom/example/pattern_automaton/patternautomaton/NonZeroTransitions;III)V"⟩ : MethodName) method_2_code 4 none :: ws) ({ frames := 0, cells := 0, slots := 0, locals := 0 } : Room)) (fun a U => a = #[(.ref va), (.int (0 : Int32)), (.int u0), (.int u1)] ∧ Z.Warmed39 U.vm ∧ U.heap = h0) (fun _ _ _ _ _ => True) (fun _ U o U' => ∃ v L, o = .returned v ∧ Qan10 Z va vf vr vt ue x0 x1 y0 y1 u0 u1 h0 n0 v U'.heap L ∧ FrameEnd U o U' L 0 0) := by
  refine MetFree.of_bodySF (plainFor_of_name pn_3) hisR ?_
  intro p e s m args below meth c s₁ Bd hml0 hP hK
  obtain ⟨rfl, hZ, hh⟩ := hP
  have hx := Bd.exec
  have hby := Bd.bytes
  have hml : c.maxLocals = 4 := hml0
  have hown : s.vm.findClass "com/example/pattern_automaton/patternautomaton/NonZeroTransitionsEndStatePinLaw" = some m.cls := findClass_of_methodNamed Bd.named
  have hnm := (name_of_methodNamed Bd.named Bd.method).1
  have X0 : Stand p l e ({ frames := 0, cells := 0, slots := 0, locals := 0 } : Room) s m #[(.ref va), (.int (0 : Int32)), (.int u0), (.int u1)] below meth c s₁ [] 0 0 := Stand.of_body Bd
  have e0 : s₁.heap = h0 := by rw [← hh, Bd.state]; rfl
  have N0 := Fr.nil n0
  have hlk : meth.locks = false := BodyLoose.notSynchronized Bd
  show Goal p e below s (Qan10 Z va vf vr vt ue x0 x1 y0 y1 u0 u1 h0 n0) 0 0 (s₁.setTop (entryFrame m #[(.ref va), (.int (0 : Int32)), (.int u0), (.int u1)] 4))
  refine Goal.to (B := s₁.setTop (mkF m 0 #[.val (.ref va), .val (.int (0 : Int32)), .val (.int u0), .val (.int u1)] [])) (fun tt kk => castTop (ef_3 m va (0 : Int32) u0 u1 ) kk) ?_
  refine Goal.to (B := s₁.setTop (mkF m 23 #[.val (.ref va), .val (.int (0 : Int32)), .val (.int u0), .val (.int u1)] [])) (fun tt kk => ?_) ?_
  · show Steps p.tables e below (s₁.setTop (mkF m 0 #[.val (.ref va), .val (.int (0 : Int32)), .val (.int u0), .val (.int u1)] [])) tt
    refine XS.iloadN X0.here hx rfl (hb hby d3_0) rfl ?_
    show Steps p.tables e below (s₁.setTop (mkF m 1 #[.val (.ref va), .val (.int (0 : Int32)), .val (.int u0), .val (.int u1)] [(.int (0 : Int32))])) tt
    refine XS.ifYes X0.here hx rfl (pc0 := 1) (pc' := 10) rfl (hb hby d3_1) rfl ((if0 _ _).trans (flt (Int32.lt_irrefl : ¬ ((0 : Int32) < (0 : Int32)))).2.2.2) (by decide) (by decide) ?_
    show Steps p.tables e below (s₁.setTop (mkF m 10 #[.val (.ref va), .val (.int (0 : Int32)), .val (.int u0), .val (.int u1)] [])) tt
    refine XS.iloadN X0.here hx rfl (hb hby d3_10) rfl ?_
    show Steps p.tables e below (s₁.setTop (mkF m 11 #[.val (.ref va), .val (.int (0 : Int32)), .val (.int u0), .val (.int u1)] [(.int (0 : Int32))])) tt
    refine XS.iconst X0.here hx rfl (hb hby d3_11) ?_
    show Steps p.tables e below (s₁.setTop (mkF m 12 #[.val (.ref va), .val (.int (0 : Int32)), .val (.int u0), .val (.int u1)] [(.int (1 : Int32)), (.int (0 : Int32))])) tt
    refine XS.icmpYes X0.here hx rfl (pc0 := 12) (pc' := 23) rfl (hb hby d3_12) rfl (flt ((by decide) : ¬ ((1 : Int32) < (0 : Int32)))).2.2.2 (by decide) (by decide) ?_
    exact kk
  exact Goal.retN X0 hx Bd.returns (hb hby d3_23) hlk e0 ⟨rfl, N0, rfl⟩ (by decide) (by decide)
def Qan11 (Z : State) (va : Addr) (vf : Addr) (vr : Addr) (vt : Addr) (ue : Int32) (x0 : Int32) (x1 : Int32) (y0 : Int32) (y1 : Int32) (u0 : Int32) (u1 : Int32) (h0 : Heap) (n0 : Nat) (v : Option Value) (h : Heap) (L : List Loc) : Prop := v = none ∧ Fr n0 L ∧ Keep h0 h [va, vr, vt] ∧ Fld Z h va "com/example/pattern_automaton/patternautomaton/NonZeroTransitions" "first" "[I" (.ref vf) ∧ Fld Z h va "com/example/pattern_automaton/patternautomaton/NonZeroTransitions" "rows" "[I" (.ref vr) ∧ Fld Z h va "com/example/pattern_automaton/patternautomaton/NonZeroTransitions" "targets" "[I" (.ref vt) ∧ Fld Z h va "com/example/pattern_automaton/patternautomaton/NonZeroTransitions" "size" "I" (.int (2 : Int32)) ∧ Fld Z h va "com/example/pattern_automaton/patternautomaton/NonZeroTransitions" "ended" "I" (.int ue) ∧ Ary Z h vr .int [(.int x0), (.int u0)] ∧ Ary Z h vt .int [(.int y0), (.int u1)]
set_option maxRecDepth 65536 in
set_option maxHeartbeats 40000000 in
theorem rman11 (l : Launch) (Z : State) (a0 : Array Value) (hw : ∀ d ∈ tables_1, d.before a0 Z = true) (ws : List Jvm.Cond) (va : Addr) (vf : Addr) (vr : Addr) (vt : Addr) (ue : Int32) (x0 : Int32) (x1 : Int32) (y0 : Int32) (y1 : Int32) (u0 : Int32) (u1 : Int32) (h0 : Heap) (n0 : Nat) (Z0 : n0 ≤ h0.size) (E_va : Exa Z h0 va "com/example/pattern_automaton/patternautomaton/NonZeroTransitions") (F_first_va : Fld Z h0 va "com/example/pattern_automaton/patternautomaton/NonZeroTransitions" "first" "[I" (.ref vf)) (F_rows_va : Fld Z h0 va "com/example/pattern_automaton/patternautomaton/NonZeroTransitions" "rows" "[I" (.ref vr)) (F_targets_va : Fld Z h0 va "com/example/pattern_automaton/patternautomaton/NonZeroTransitions" "targets" "[I" (.ref vt)) (F_size_va : Fld Z h0 va "com/example/pattern_automaton/patternautomaton/NonZeroTransitions" "size" "I" (.int (1 : Int32))) (F_ended_va : Fld Z h0 va "com/example/pattern_automaton/patternautomaton/NonZeroTransitions" "ended" "I" (.int ue)) (V_vr : Ary Z h0 vr .int [(.int x0), (.int x1)]) (V_vt : Ary Z h0 vt .int [(.int y0), (.int y1)]) (g_va : n0 ≤ va) (g_vr : n0 ≤ vr) (g_vt : n0 ≤ vt) (ne_va_vr : va ≠ vr) (ne_va_vt : va ≠ vt) (ne_vr_vt : vr ≠ vt) :
    MetFree l (⟨"com/example/pattern_automaton/patternautomaton/NonZeroTransitionsEndStatePinLaw", "addN", "(Lcom/example/pattern_automaton/patternautomaton/NonZeroTransitions;III)V"⟩ : MethodName) (head1 (Jvm.Cond.code (⟨"com/example/pattern_automaton/patternautomaton/NonZeroTransitionsEndStatePinLaw", "addN", "(Lcom/example/pattern_automaton/patternautomaton/NonZeroTransitions;III)V"⟩ : MethodName) method_2_code 4 none :: ws) ({ frames := 1, cells := 0, slots := 0, locals := 14 } : Room)) (fun a U => a = #[(.ref va), (.int (1 : Int32)), (.int u0), (.int u1)] ∧ Z.Warmed39 U.vm ∧ U.heap = h0) (fun _ _ _ _ _ => True) (fun _ U o U' => ∃ v L, o = .returned v ∧ Qan11 Z va vf vr vt ue x0 x1 y0 y1 u0 u1 h0 n0 v U'.heap L ∧ FrameEnd U o U' L 0 0) := by
  refine MetFree.of_bodySF (plainFor_of_name pn_3) hisR ?_
  intro p e s m args below meth c s₁ Bd hml0 hP hK
  obtain ⟨rfl, hZ, hh⟩ := hP
  have hx := Bd.exec
  have hby := Bd.bytes
  have hml : c.maxLocals = 4 := hml0
  have hown : s.vm.findClass "com/example/pattern_automaton/patternautomaton/NonZeroTransitionsEndStatePinLaw" = some m.cls := findClass_of_methodNamed Bd.named
  have hnm := (name_of_methodNamed Bd.named Bd.method).1
  have X0 : Stand p l e ({ frames := 1, cells := 0, slots := 0, locals := 14 } : Room) s m #[(.ref va), (.int (1 : Int32)), (.int u0), (.int u1)] below meth c s₁ [] 0 0 := Stand.of_body Bd
  have e0 : s₁.heap = h0 := by rw [← hh, Bd.state]; rfl
  have N0 := Fr.nil n0
  have hlk : meth.locks = false := BodyLoose.notSynchronized Bd
  show Goal p e below s (Qan11 Z va vf vr vt ue x0 x1 y0 y1 u0 u1 h0 n0) 0 0 (s₁.setTop (entryFrame m #[(.ref va), (.int (1 : Int32)), (.int u0), (.int u1)] 4))
  refine Goal.to (B := s₁.setTop (mkF m 0 #[.val (.ref va), .val (.int (1 : Int32)), .val (.int u0), .val (.int u1)] [])) (fun tt kk => castTop (ef_3 m va (1 : Int32) u0 u1 ) kk) ?_
  refine Goal.to (B := s₁.setTop (mkF m 7 #[.val (.ref va), .val (.int (1 : Int32)), .val (.int u0), .val (.int u1)] [(.int u1), (.int u0), (.ref va)])) (fun tt kk => ?_) ?_
  · show Steps p.tables e below (s₁.setTop (mkF m 0 #[.val (.ref va), .val (.int (1 : Int32)), .val (.int u0), .val (.int u1)] [])) tt
    refine XS.iloadN X0.here hx rfl (hb hby d3_0) rfl ?_
    show Steps p.tables e below (s₁.setTop (mkF m 1 #[.val (.ref va), .val (.int (1 : Int32)), .val (.int u0), .val (.int u1)] [(.int (1 : Int32))])) tt
    refine XS.ifNo X0.here hx rfl (hb hby d3_1) rfl ((if0 _ _).trans (tlt ((by decide) : (0 : Int32) < (1 : Int32))).2.2.2) ?_
    show Steps p.tables e below (s₁.setTop (mkF m 4 #[.val (.ref va), .val (.int (1 : Int32)), .val (.int u0), .val (.int u1)] [])) tt
    refine XS.aloadN X0.here hx rfl (hb hby d3_4) rfl rfl ?_
    show Steps p.tables e below (s₁.setTop (mkF m 5 #[.val (.ref va), .val (.int (1 : Int32)), .val (.int u0), .val (.int u1)] [(.ref va)])) tt
    refine XS.iloadN X0.here hx rfl (hb hby d3_5) rfl ?_
    show Steps p.tables e below (s₁.setTop (mkF m 6 #[.val (.ref va), .val (.int (1 : Int32)), .val (.int u0), .val (.int u1)] [(.int u0), (.ref va)])) tt
    refine XS.iloadN X0.here hx rfl (hb hby d3_6) rfl ?_
    exact kk
  obtain ⟨cq1, kq1, q1a, q1b, q1c⟩ := isOf hZ e0 E_va
  obtain ⟨_, _, ⟨T1, L1, k1, n1⟩, -, X1, ⟨Lc1, hQ1, l1, y1, z1⟩, st1⟩ := X0.virtualBack hx (y := (⟨"com/example/pattern_automaton/patternautomaton/NonZeroTransitions", "add", "(II)V"⟩ : MethodName)) (z := (⟨"com/example/pattern_automaton/patternautomaton/NonZeroTransitions", "add", "(II)V"⟩ : MethodName)) hown (mvT hZ (hw _ (mw 40 rfl))) (mvT hZ (hw _ (mw 41 rfl))) (notFace_of_selects (args := #[]) (mvT hZ (hw _ (mw 43 rfl)))) (mvT hZ (hw _ (mw 43 rfl))) (mvT hZ (hw _ (mw 42 rfl))) (by decide) (backOf (W := 0) (rmad1 l Z a0 hw [] va vf vr vt ue x0 x1 y0 y1 u0 u1 h0 n0 Z0 E_va F_first_va F_rows_va F_targets_va F_size_va F_ended_va V_vr V_vt g_va g_vr g_vt ne_va_vr ne_va_vt ne_vr_vt) hZ (hw _ (mw 44 rfl)) (hw _ (mw 3 rfl)) (by decide) (by decide)) q1a q1c (g := (mkF m 7 #[.val (.ref va), .val (.int (1 : Int32)), .val (.int u0), .val (.int u1)] [(.int u1), (.int u0), (.ref va)])) rfl (by rw [hml]; rfl) (Steps.refl _) (argsL := [(.int u0), (.int u1)]) (rest := []) (lenOf pd_4 rfl) rfl (by show 2 * 0 + _ ≤ _; exact Nat.le_of_eq rfl) (hb hby d3_7) (fun _ _ => ⟨rfl, e0, (by decide : 0 + 0 ≤ _), (by decide : 0 + 0 ≤ _)⟩)
  dsimp only [Pt.U, Pt.locs, Pt.cells, Pt.slots] at X1 l1 y1 z1 st1 hQ1
  subst l1 y1 z1
  obtain ⟨rfl, N1q, K1, P1_0, P1_1, P1_2, P1_3, P1_4, P1_5, P1_6⟩ := hQ1
  have N1 := Fr.app N0 N1q
  refine Goal.tr (B := T1.setTop (mkF m 10 #[.val (.ref va), .val (.int (1 : Int32)), .val (.int u0), .val (.int u1)] [])) st1 ?_
  refine Goal.to (B := T1.setTop (mkF m 23 #[.val (.ref va), .val (.int (1 : Int32)), .val (.int u0), .val (.int u1)] [])) (fun tt kk => ?_) ?_
  · show Steps p.tables e below (T1.setTop (mkF m 10 #[.val (.ref va), .val (.int (1 : Int32)), .val (.int u0), .val (.int u1)] [])) tt
    refine XS.iloadN X1.here hx rfl (hb hby d3_10) rfl ?_
    show Steps p.tables e below (T1.setTop (mkF m 11 #[.val (.ref va), .val (.int (1 : Int32)), .val (.int u0), .val (.int u1)] [(.int (1 : Int32))])) tt
    refine XS.iconst X1.here hx rfl (hb hby d3_11) ?_
    show Steps p.tables e below (T1.setTop (mkF m 12 #[.val (.ref va), .val (.int (1 : Int32)), .val (.int u0), .val (.int u1)] [(.int (1 : Int32)), (.int (1 : Int32))])) tt
    refine XS.icmpYes X1.here hx rfl (pc0 := 12) (pc' := 23) rfl (hb hby d3_12) rfl (flt (Int32.lt_irrefl : ¬ ((1 : Int32) < (1 : Int32)))).2.2.2 (by decide) (by decide) ?_
    exact kk
  have f2 : Keep h0 T1.heap [va, vr, vt] := ((Keep.refl h0 [va, vr, vt]).trans K1 (allS (Or.inl (List.mem_of_getElem? (i := 0) rfl)) (allS (Or.inl (List.mem_of_getElem? (i := 1) rfl)) (allS (Or.inl (List.mem_of_getElem? (i := 2) rfl)) all0))))
  exact Goal.retN X1 hx Bd.returns (hb hby d3_23) hlk rfl ⟨rfl, N1, f2, P1_0, P1_1, P1_2, P1_3, P1_4, P1_5, P1_6⟩ (by decide) (by decide)
def Qan12 (Z : State) (va : Addr) (vf : Addr) (vr : Addr) (vt : Addr) (ue : Int32) (x0 : Int32) (x1 : Int32) (y0 : Int32) (y1 : Int32) (u0 : Int32) (u1 : Int32) (h0 : Heap) (n0 : Nat) (v : Option Value) (h : Heap) (L : List Loc) : Prop := ∃ vb : Addr, ∃ vd : Addr, v = none ∧ Fr n0 L ∧ Keep h0 h [va, vr, vt] ∧ h0.size ≤ vb ∧ h0.size ≤ vd ∧ vb ≠ vd ∧ Fld Z h va "com/example/pattern_automaton/patternautomaton/NonZeroTransitions" "first" "[I" (.ref vf) ∧ Fld Z h va "com/example/pattern_automaton/patternautomaton/NonZeroTransitions" "rows" "[I" (.ref vb) ∧ Fld Z h va "com/example/pattern_automaton/patternautomaton/NonZeroTransitions" "targets" "[I" (.ref vd) ∧ Fld Z h va "com/example/pattern_automaton/patternautomaton/NonZeroTransitions" "size" "I" (.int (3 : Int32)) ∧ Fld Z h va "com/example/pattern_automaton/patternautomaton/NonZeroTransitions" "ended" "I" (.int ue) ∧ Ary Z h vb .int [(.int x0), (.int u0), (.int (u0 + (1 : Int32))), (.int (0 : Int32))] ∧ Ary Z h vd .int [(.int y0), (.int u1), (.int u1), (.int (0 : Int32))]
set_option maxRecDepth 65536 in
set_option maxHeartbeats 40000000 in
theorem rman12 (l : Launch) (Z : State) (a0 : Array Value) (hw : ∀ d ∈ tables_1, d.before a0 Z = true) (ws : List Jvm.Cond) (va : Addr) (vf : Addr) (vr : Addr) (vt : Addr) (ue : Int32) (x0 : Int32) (x1 : Int32) (y0 : Int32) (y1 : Int32) (u0 : Int32) (u1 : Int32) (h0 : Heap) (n0 : Nat) (Z0 : n0 ≤ h0.size) (E_va : Exa Z h0 va "com/example/pattern_automaton/patternautomaton/NonZeroTransitions") (F_first_va : Fld Z h0 va "com/example/pattern_automaton/patternautomaton/NonZeroTransitions" "first" "[I" (.ref vf)) (F_rows_va : Fld Z h0 va "com/example/pattern_automaton/patternautomaton/NonZeroTransitions" "rows" "[I" (.ref vr)) (F_targets_va : Fld Z h0 va "com/example/pattern_automaton/patternautomaton/NonZeroTransitions" "targets" "[I" (.ref vt)) (F_size_va : Fld Z h0 va "com/example/pattern_automaton/patternautomaton/NonZeroTransitions" "size" "I" (.int (1 : Int32))) (F_ended_va : Fld Z h0 va "com/example/pattern_automaton/patternautomaton/NonZeroTransitions" "ended" "I" (.int ue)) (V_vr : Ary Z h0 vr .int [(.int x0), (.int x1)]) (V_vt : Ary Z h0 vt .int [(.int y0), (.int y1)]) (g_va : n0 ≤ va) (g_vr : n0 ≤ vr) (g_vt : n0 ≤ vt) (ne_va_vr : va ≠ vr) (ne_va_vt : va ≠ vt) (ne_vr_vt : vr ≠ vt) :
    MetFree l (⟨"com/example/pattern_automaton/patternautomaton/NonZeroTransitionsEndStatePinLaw", "addN", "(Lcom/example/pattern_automaton/patternautomaton/NonZeroTransitions;III)V"⟩ : MethodName) (head1 (Jvm.Cond.code (⟨"com/example/pattern_automaton/patternautomaton/NonZeroTransitionsEndStatePinLaw", "addN", "(Lcom/example/pattern_automaton/patternautomaton/NonZeroTransitions;III)V"⟩ : MethodName) method_2_code 4 none :: ws) ({ frames := 3, cells := 2, slots := 8, locals := 47 } : Room)) (fun a U => a = #[(.ref va), (.int (2 : Int32)), (.int u0), (.int u1)] ∧ Z.Warmed39 U.vm ∧ U.heap = h0) (fun _ _ _ _ _ => True) (fun _ U o U' => ∃ v L, o = .returned v ∧ Qan12 Z va vf vr vt ue x0 x1 y0 y1 u0 u1 h0 n0 v U'.heap L ∧ FrameEnd U o U' L 2 8) := by
  refine MetFree.of_bodySF (plainFor_of_name pn_3) hisR ?_
  intro p e s m args below meth c s₁ Bd hml0 hP hK
  obtain ⟨rfl, hZ, hh⟩ := hP
  have hx := Bd.exec
  have hby := Bd.bytes
  have hml : c.maxLocals = 4 := hml0
  have hown : s.vm.findClass "com/example/pattern_automaton/patternautomaton/NonZeroTransitionsEndStatePinLaw" = some m.cls := findClass_of_methodNamed Bd.named
  have hnm := (name_of_methodNamed Bd.named Bd.method).1
  have X0 : Stand p l e ({ frames := 3, cells := 2, slots := 8, locals := 47 } : Room) s m #[(.ref va), (.int (2 : Int32)), (.int u0), (.int u1)] below meth c s₁ [] 0 0 := Stand.of_body Bd
  have e0 : s₁.heap = h0 := by rw [← hh, Bd.state]; rfl
  have N0 := Fr.nil n0
  have hlk : meth.locks = false := BodyLoose.notSynchronized Bd
  show Goal p e below s (Qan12 Z va vf vr vt ue x0 x1 y0 y1 u0 u1 h0 n0) 2 8 (s₁.setTop (entryFrame m #[(.ref va), (.int (2 : Int32)), (.int u0), (.int u1)] 4))
  refine Goal.to (B := s₁.setTop (mkF m 0 #[.val (.ref va), .val (.int (2 : Int32)), .val (.int u0), .val (.int u1)] [])) (fun tt kk => castTop (ef_3 m va (2 : Int32) u0 u1 ) kk) ?_
  refine Goal.to (B := s₁.setTop (mkF m 7 #[.val (.ref va), .val (.int (2 : Int32)), .val (.int u0), .val (.int u1)] [(.int u1), (.int u0), (.ref va)])) (fun tt kk => ?_) ?_
  · show Steps p.tables e below (s₁.setTop (mkF m 0 #[.val (.ref va), .val (.int (2 : Int32)), .val (.int u0), .val (.int u1)] [])) tt
    refine XS.iloadN X0.here hx rfl (hb hby d3_0) rfl ?_
    show Steps p.tables e below (s₁.setTop (mkF m 1 #[.val (.ref va), .val (.int (2 : Int32)), .val (.int u0), .val (.int u1)] [(.int (2 : Int32))])) tt
    refine XS.ifNo X0.here hx rfl (hb hby d3_1) rfl ((if0 _ _).trans (tlt ((by decide) : (0 : Int32) < (2 : Int32))).2.2.2) ?_
    show Steps p.tables e below (s₁.setTop (mkF m 4 #[.val (.ref va), .val (.int (2 : Int32)), .val (.int u0), .val (.int u1)] [])) tt
    refine XS.aloadN X0.here hx rfl (hb hby d3_4) rfl rfl ?_
    show Steps p.tables e below (s₁.setTop (mkF m 5 #[.val (.ref va), .val (.int (2 : Int32)), .val (.int u0), .val (.int u1)] [(.ref va)])) tt
    refine XS.iloadN X0.here hx rfl (hb hby d3_5) rfl ?_
    show Steps p.tables e below (s₁.setTop (mkF m 6 #[.val (.ref va), .val (.int (2 : Int32)), .val (.int u0), .val (.int u1)] [(.int u0), (.ref va)])) tt
    refine XS.iloadN X0.here hx rfl (hb hby d3_6) rfl ?_
    exact kk
  obtain ⟨cq1, kq1, q1a, q1b, q1c⟩ := isOf hZ e0 E_va
  obtain ⟨_, _, ⟨T1, L1, k1, n1⟩, -, X1, ⟨Lc1, hQ1, l1, y1, z1⟩, st1⟩ := X0.virtualBack hx (y := (⟨"com/example/pattern_automaton/patternautomaton/NonZeroTransitions", "add", "(II)V"⟩ : MethodName)) (z := (⟨"com/example/pattern_automaton/patternautomaton/NonZeroTransitions", "add", "(II)V"⟩ : MethodName)) hown (mvT hZ (hw _ (mw 40 rfl))) (mvT hZ (hw _ (mw 41 rfl))) (notFace_of_selects (args := #[]) (mvT hZ (hw _ (mw 43 rfl)))) (mvT hZ (hw _ (mw 43 rfl))) (mvT hZ (hw _ (mw 42 rfl))) (by decide) (backOf (W := 0) (rmad1 l Z a0 hw [] va vf vr vt ue x0 x1 y0 y1 u0 u1 h0 n0 Z0 E_va F_first_va F_rows_va F_targets_va F_size_va F_ended_va V_vr V_vt g_va g_vr g_vt ne_va_vr ne_va_vt ne_vr_vt) hZ (hw _ (mw 44 rfl)) (hw _ (mw 3 rfl)) (by decide) (by decide)) q1a q1c (g := (mkF m 7 #[.val (.ref va), .val (.int (2 : Int32)), .val (.int u0), .val (.int u1)] [(.int u1), (.int u0), (.ref va)])) rfl (by rw [hml]; rfl) (Steps.refl _) (argsL := [(.int u0), (.int u1)]) (rest := []) (lenOf pd_4 rfl) rfl (by show 2 * 0 + _ ≤ _; exact Nat.le_of_eq rfl) (hb hby d3_7) (fun _ _ => ⟨rfl, e0, (by decide : 0 + 0 ≤ _), (by decide : 0 + 0 ≤ _)⟩)
  dsimp only [Pt.U, Pt.locs, Pt.cells, Pt.slots] at X1 l1 y1 z1 st1 hQ1
  subst l1 y1 z1
  obtain ⟨rfl, N1q, K1, P1_0, P1_1, P1_2, P1_3, P1_4, P1_5, P1_6⟩ := hQ1
  have N1 := Fr.app N0 N1q
  refine Goal.tr (B := T1.setTop (mkF m 10 #[.val (.ref va), .val (.int (2 : Int32)), .val (.int u0), .val (.int u1)] [])) st1 ?_
  refine Goal.to (B := T1.setTop (mkF m 20 #[.val (.ref va), .val (.int (2 : Int32)), .val (.int u0), .val (.int u1)] [(.int u1), (.int (u0 + (1 : Int32))), (.ref va)])) (fun tt kk => ?_) ?_
  · show Steps p.tables e below (T1.setTop (mkF m 10 #[.val (.ref va), .val (.int (2 : Int32)), .val (.int u0), .val (.int u1)] [])) tt
    refine XS.iloadN X1.here hx rfl (hb hby d3_10) rfl ?_
    show Steps p.tables e below (T1.setTop (mkF m 11 #[.val (.ref va), .val (.int (2 : Int32)), .val (.int u0), .val (.int u1)] [(.int (2 : Int32))])) tt
    refine XS.iconst X1.here hx rfl (hb hby d3_11) ?_
    show Steps p.tables e below (T1.setTop (mkF m 12 #[.val (.ref va), .val (.int (2 : Int32)), .val (.int u0), .val (.int u1)] [(.int (1 : Int32)), (.int (2 : Int32))])) tt
    refine XS.icmpNo X1.here hx rfl (hb hby d3_12) rfl (tlt ((by decide) : (1 : Int32) < (2 : Int32))).2.2.2 ?_
    show Steps p.tables e below (T1.setTop (mkF m 15 #[.val (.ref va), .val (.int (2 : Int32)), .val (.int u0), .val (.int u1)] [])) tt
    refine XS.aloadN X1.here hx rfl (hb hby d3_15) rfl rfl ?_
    show Steps p.tables e below (T1.setTop (mkF m 16 #[.val (.ref va), .val (.int (2 : Int32)), .val (.int u0), .val (.int u1)] [(.ref va)])) tt
    refine XS.iloadN X1.here hx rfl (hb hby d3_16) rfl ?_
    show Steps p.tables e below (T1.setTop (mkF m 17 #[.val (.ref va), .val (.int (2 : Int32)), .val (.int u0), .val (.int u1)] [(.int u0), (.ref va)])) tt
    refine XS.iconst X1.here hx rfl (hb hby d3_17) ?_
    show Steps p.tables e below (T1.setTop (mkF m 18 #[.val (.ref va), .val (.int (2 : Int32)), .val (.int u0), .val (.int u1)] [(.int (1 : Int32)), (.int u0), (.ref va)])) tt
    refine XS.iadd X1.here hx rfl (hb hby d3_18) rfl ?_
    show Steps p.tables e below (T1.setTop (mkF m 19 #[.val (.ref va), .val (.int (2 : Int32)), .val (.int u0), .val (.int u1)] [(.int (u0 + (1 : Int32))), (.ref va)])) tt
    refine XS.iloadN X1.here hx rfl (hb hby d3_19) rfl ?_
    exact kk
  have f2 : Exa Z T1.heap va "com/example/pattern_automaton/patternautomaton/NonZeroTransitions" := (E_va.keep K1)
  have f3 : n0 ≤ T1.heap.size := (Nat.le_trans Z0 K1.1)
  have f5 : Keep h0 T1.heap [va, vr, vt] := ((Keep.refl h0 [va, vr, vt]).trans K1 (allS (Or.inl (List.mem_of_getElem? (i := 0) rfl)) (allS (Or.inl (List.mem_of_getElem? (i := 1) rfl)) (allS (Or.inl (List.mem_of_getElem? (i := 2) rfl)) all0))))
  obtain ⟨cq4, kq4, q4a, q4b, q4c⟩ := isOf hZ rfl f2
  obtain ⟨_, _, ⟨T4, L4, k4, n4⟩, -, X4, ⟨Lc4, hQ4, l4, y4, z4⟩, st4⟩ := X1.virtualBack hx (y := (⟨"com/example/pattern_automaton/patternautomaton/NonZeroTransitions", "add", "(II)V"⟩ : MethodName)) (z := (⟨"com/example/pattern_automaton/patternautomaton/NonZeroTransitions", "add", "(II)V"⟩ : MethodName)) hown (mvT hZ (hw _ (mw 40 rfl))) (mvT hZ (hw _ (mw 41 rfl))) (notFace_of_selects (args := #[]) (mvT hZ (hw _ (mw 43 rfl)))) (mvT hZ (hw _ (mw 43 rfl))) (mvT hZ (hw _ (mw 42 rfl))) (by decide) (backOf (W := 0) (rmad2 l Z a0 hw [] va vf vr vt ue x0 u0 y0 u1 (u0 + (1 : Int32)) u1 T1.heap n0 f3 f2 P1_0 P1_1 P1_2 P1_3 P1_4 P1_5 P1_6 g_va g_vr g_vt ne_va_vr ne_va_vt ne_vr_vt) hZ (hw _ (mw 44 rfl)) (hw _ (mw 3 rfl)) (by decide) (by decide)) q4a q4c (g := (mkF m 20 #[.val (.ref va), .val (.int (2 : Int32)), .val (.int u0), .val (.int u1)] [(.int u1), (.int (u0 + (1 : Int32))), (.ref va)])) rfl (by rw [hml]; rfl) (Steps.refl _) (argsL := [(.int (u0 + (1 : Int32))), (.int u1)]) (rest := []) (lenOf pd_4 rfl) rfl (by show 2 * 0 + _ ≤ _; exact Nat.le_of_eq rfl) (hb hby d3_20) (fun _ _ => ⟨rfl, rfl, (by decide : 0 + 2 ≤ _), (by decide : 0 + 8 ≤ _)⟩)
  dsimp only [Pt.U, Pt.locs, Pt.cells, Pt.slots] at X4 l4 y4 z4 st4 hQ4
  subst l4 y4 z4
  obtain ⟨vb_4, vd_4, rfl, N4q, K4, sz4_vb, sz4_vd, ne4_vb_vd, P4_0, P4_1, P4_2, P4_3, P4_4, P4_5, P4_6⟩ := hQ4
  have N4 := Fr.app N1 N4q
  have ne_va_vb_4 : va ≠ vb_4 := Nat.ne_of_lt (Nat.lt_of_lt_of_le f2.lt sz4_vb)
  have ne_vr_vb_4 : vr ≠ vb_4 := Nat.ne_of_lt (Nat.lt_of_lt_of_le P1_5.lt sz4_vb)
  have ne_vt_vb_4 : vt ≠ vb_4 := Nat.ne_of_lt (Nat.lt_of_lt_of_le P1_6.lt sz4_vb)
  have g_vb_4 : n0 ≤ vb_4 := Nat.le_trans f3 sz4_vb
  have sz_vb_4 : h0.size ≤ vb_4 := Nat.le_trans f5.1 sz4_vb
  have ne_va_vd_4 : va ≠ vd_4 := Nat.ne_of_lt (Nat.lt_of_lt_of_le f2.lt sz4_vd)
  have ne_vr_vd_4 : vr ≠ vd_4 := Nat.ne_of_lt (Nat.lt_of_lt_of_le P1_5.lt sz4_vd)
  have ne_vt_vd_4 : vt ≠ vd_4 := Nat.ne_of_lt (Nat.lt_of_lt_of_le P1_6.lt sz4_vd)
  have g_vd_4 : n0 ≤ vd_4 := Nat.le_trans f3 sz4_vd
  have sz_vd_4 : h0.size ≤ vd_4 := Nat.le_trans f5.1 sz4_vd
  refine Goal.tr (B := T4.setTop (mkF m 23 #[.val (.ref va), .val (.int (2 : Int32)), .val (.int u0), .val (.int u1)] [])) st4 ?_
  have f6 : Keep h0 T4.heap [va, vr, vt] := (f5.trans K4 (allS (Or.inl (List.mem_of_getElem? (i := 0) rfl)) all0))
  exact Goal.retN X4 hx Bd.returns (hb hby d3_23) hlk rfl ⟨vb_4, vd_4, rfl, N4, f6, sz_vb_4, sz_vd_4, ne4_vb_vd, P4_0, P4_1, P4_2, P4_3, P4_4, P4_5, P4_6⟩ (by decide) (by decide)
def Qan20 (Z : State) (va : Addr) (vf : Addr) (vr : Addr) (vt : Addr) (ue : Int32) (x0 : Int32) (x1 : Int32) (y0 : Int32) (y1 : Int32) (u0 : Int32) (u1 : Int32) (h0 : Heap) (n0 : Nat) (v : Option Value) (h : Heap) (L : List Loc) : Prop := v = none ∧ Fr n0 L ∧ h = h0
set_option maxRecDepth 65536 in
set_option maxHeartbeats 40000000 in
theorem rman20 (l : Launch) (Z : State) (a0 : Array Value) (hw : ∀ d ∈ tables_1, d.before a0 Z = true) (ws : List Jvm.Cond) (va : Addr) (vf : Addr) (vr : Addr) (vt : Addr) (ue : Int32) (x0 : Int32) (x1 : Int32) (y0 : Int32) (y1 : Int32) (u0 : Int32) (u1 : Int32) (h0 : Heap) (n0 : Nat) (Z0 : n0 ≤ h0.size) (E_va : Exa Z h0 va "com/example/pattern_automaton/patternautomaton/NonZeroTransitions") (F_first_va : Fld Z h0 va "com/example/pattern_automaton/patternautomaton/NonZeroTransitions" "first" "[I" (.ref vf)) (F_rows_va : Fld Z h0 va "com/example/pattern_automaton/patternautomaton/NonZeroTransitions" "rows" "[I" (.ref vr)) (F_targets_va : Fld Z h0 va "com/example/pattern_automaton/patternautomaton/NonZeroTransitions" "targets" "[I" (.ref vt)) (F_size_va : Fld Z h0 va "com/example/pattern_automaton/patternautomaton/NonZeroTransitions" "size" "I" (.int (2 : Int32))) (F_ended_va : Fld Z h0 va "com/example/pattern_automaton/patternautomaton/NonZeroTransitions" "ended" "I" (.int ue)) (V_vr : Ary Z h0 vr .int [(.int x0), (.int x1)]) (V_vt : Ary Z h0 vt .int [(.int y0), (.int y1)]) :
    MetFree l (⟨"com/example/pattern_automaton/patternautomaton/NonZeroTransitionsEndStatePinLaw", "addN", "(Lcom/example/pattern_automaton/patternautomaton/NonZeroTransitions;III)V"⟩ : MethodName) (head1 (Jvm.Cond.code (⟨"com/example/pattern_automaton/patternautomaton/NonZeroTransitionsEndStatePinLaw", "addN", "(Lcom/example/pattern_automaton/patternautomaton/NonZeroTransitions;III)V"⟩ : MethodName) method_2_code 4 none :: ws) ({ frames := 0, cells := 0, slots := 0, locals := 0 } : Room)) (fun a U => a = #[(.ref va), (.int (0 : Int32)), (.int u0), (.int u1)] ∧ Z.Warmed39 U.vm ∧ U.heap = h0) (fun _ _ _ _ _ => True) (fun _ U o U' => ∃ v L, o = .returned v ∧ Qan20 Z va vf vr vt ue x0 x1 y0 y1 u0 u1 h0 n0 v U'.heap L ∧ FrameEnd U o U' L 0 0) := by
  refine MetFree.of_bodySF (plainFor_of_name pn_3) hisR ?_
  intro p e s m args below meth c s₁ Bd hml0 hP hK
  obtain ⟨rfl, hZ, hh⟩ := hP
  have hx := Bd.exec
  have hby := Bd.bytes
  have hml : c.maxLocals = 4 := hml0
  have hown : s.vm.findClass "com/example/pattern_automaton/patternautomaton/NonZeroTransitionsEndStatePinLaw" = some m.cls := findClass_of_methodNamed Bd.named
  have hnm := (name_of_methodNamed Bd.named Bd.method).1
  have X0 : Stand p l e ({ frames := 0, cells := 0, slots := 0, locals := 0 } : Room) s m #[(.ref va), (.int (0 : Int32)), (.int u0), (.int u1)] below meth c s₁ [] 0 0 := Stand.of_body Bd
  have e0 : s₁.heap = h0 := by rw [← hh, Bd.state]; rfl
  have N0 := Fr.nil n0
  have hlk : meth.locks = false := BodyLoose.notSynchronized Bd
  show Goal p e below s (Qan20 Z va vf vr vt ue x0 x1 y0 y1 u0 u1 h0 n0) 0 0 (s₁.setTop (entryFrame m #[(.ref va), (.int (0 : Int32)), (.int u0), (.int u1)] 4))
  refine Goal.to (B := s₁.setTop (mkF m 0 #[.val (.ref va), .val (.int (0 : Int32)), .val (.int u0), .val (.int u1)] [])) (fun tt kk => castTop (ef_3 m va (0 : Int32) u0 u1 ) kk) ?_
  refine Goal.to (B := s₁.setTop (mkF m 23 #[.val (.ref va), .val (.int (0 : Int32)), .val (.int u0), .val (.int u1)] [])) (fun tt kk => ?_) ?_
  · show Steps p.tables e below (s₁.setTop (mkF m 0 #[.val (.ref va), .val (.int (0 : Int32)), .val (.int u0), .val (.int u1)] [])) tt
    refine XS.iloadN X0.here hx rfl (hb hby d3_0) rfl ?_
    show Steps p.tables e below (s₁.setTop (mkF m 1 #[.val (.ref va), .val (.int (0 : Int32)), .val (.int u0), .val (.int u1)] [(.int (0 : Int32))])) tt
    refine XS.ifYes X0.here hx rfl (pc0 := 1) (pc' := 10) rfl (hb hby d3_1) rfl ((if0 _ _).trans (flt (Int32.lt_irrefl : ¬ ((0 : Int32) < (0 : Int32)))).2.2.2) (by decide) (by decide) ?_
    show Steps p.tables e below (s₁.setTop (mkF m 10 #[.val (.ref va), .val (.int (0 : Int32)), .val (.int u0), .val (.int u1)] [])) tt
    refine XS.iloadN X0.here hx rfl (hb hby d3_10) rfl ?_
    show Steps p.tables e below (s₁.setTop (mkF m 11 #[.val (.ref va), .val (.int (0 : Int32)), .val (.int u0), .val (.int u1)] [(.int (0 : Int32))])) tt
    refine XS.iconst X0.here hx rfl (hb hby d3_11) ?_
    show Steps p.tables e below (s₁.setTop (mkF m 12 #[.val (.ref va), .val (.int (0 : Int32)), .val (.int u0), .val (.int u1)] [(.int (1 : Int32)), (.int (0 : Int32))])) tt
    refine XS.icmpYes X0.here hx rfl (pc0 := 12) (pc' := 23) rfl (hb hby d3_12) rfl (flt ((by decide) : ¬ ((1 : Int32) < (0 : Int32)))).2.2.2 (by decide) (by decide) ?_
    exact kk
  exact Goal.retN X0 hx Bd.returns (hb hby d3_23) hlk e0 ⟨rfl, N0, rfl⟩ (by decide) (by decide)
def Qan21 (Z : State) (va : Addr) (vf : Addr) (vr : Addr) (vt : Addr) (ue : Int32) (x0 : Int32) (x1 : Int32) (y0 : Int32) (y1 : Int32) (u0 : Int32) (u1 : Int32) (h0 : Heap) (n0 : Nat) (v : Option Value) (h : Heap) (L : List Loc) : Prop := ∃ vb : Addr, ∃ vd : Addr, v = none ∧ Fr n0 L ∧ Keep h0 h [va] ∧ h0.size ≤ vb ∧ h0.size ≤ vd ∧ vb ≠ vd ∧ Fld Z h va "com/example/pattern_automaton/patternautomaton/NonZeroTransitions" "first" "[I" (.ref vf) ∧ Fld Z h va "com/example/pattern_automaton/patternautomaton/NonZeroTransitions" "rows" "[I" (.ref vb) ∧ Fld Z h va "com/example/pattern_automaton/patternautomaton/NonZeroTransitions" "targets" "[I" (.ref vd) ∧ Fld Z h va "com/example/pattern_automaton/patternautomaton/NonZeroTransitions" "size" "I" (.int (3 : Int32)) ∧ Fld Z h va "com/example/pattern_automaton/patternautomaton/NonZeroTransitions" "ended" "I" (.int ue) ∧ Ary Z h vb .int [(.int x0), (.int x1), (.int u0), (.int (0 : Int32))] ∧ Ary Z h vd .int [(.int y0), (.int y1), (.int u1), (.int (0 : Int32))]
set_option maxRecDepth 65536 in
set_option maxHeartbeats 40000000 in
theorem rman21 (l : Launch) (Z : State) (a0 : Array Value) (hw : ∀ d ∈ tables_1, d.before a0 Z = true) (ws : List Jvm.Cond) (va : Addr) (vf : Addr) (vr : Addr) (vt : Addr) (ue : Int32) (x0 : Int32) (x1 : Int32) (y0 : Int32) (y1 : Int32) (u0 : Int32) (u1 : Int32) (h0 : Heap) (n0 : Nat) (Z0 : n0 ≤ h0.size) (E_va : Exa Z h0 va "com/example/pattern_automaton/patternautomaton/NonZeroTransitions") (F_first_va : Fld Z h0 va "com/example/pattern_automaton/patternautomaton/NonZeroTransitions" "first" "[I" (.ref vf)) (F_rows_va : Fld Z h0 va "com/example/pattern_automaton/patternautomaton/NonZeroTransitions" "rows" "[I" (.ref vr)) (F_targets_va : Fld Z h0 va "com/example/pattern_automaton/patternautomaton/NonZeroTransitions" "targets" "[I" (.ref vt)) (F_size_va : Fld Z h0 va "com/example/pattern_automaton/patternautomaton/NonZeroTransitions" "size" "I" (.int (2 : Int32))) (F_ended_va : Fld Z h0 va "com/example/pattern_automaton/patternautomaton/NonZeroTransitions" "ended" "I" (.int ue)) (V_vr : Ary Z h0 vr .int [(.int x0), (.int x1)]) (V_vt : Ary Z h0 vt .int [(.int y0), (.int y1)]) (g_va : n0 ≤ va) (g_vr : n0 ≤ vr) (g_vt : n0 ≤ vt) (ne_va_vr : va ≠ vr) (ne_va_vt : va ≠ vt) (ne_vr_vt : vr ≠ vt) :
    MetFree l (⟨"com/example/pattern_automaton/patternautomaton/NonZeroTransitionsEndStatePinLaw", "addN", "(Lcom/example/pattern_automaton/patternautomaton/NonZeroTransitions;III)V"⟩ : MethodName) (head1 (Jvm.Cond.code (⟨"com/example/pattern_automaton/patternautomaton/NonZeroTransitionsEndStatePinLaw", "addN", "(Lcom/example/pattern_automaton/patternautomaton/NonZeroTransitions;III)V"⟩ : MethodName) method_2_code 4 none :: ws) ({ frames := 3, cells := 2, slots := 8, locals := 47 } : Room)) (fun a U => a = #[(.ref va), (.int (1 : Int32)), (.int u0), (.int u1)] ∧ Z.Warmed39 U.vm ∧ U.heap = h0) (fun _ _ _ _ _ => True) (fun _ U o U' => ∃ v L, o = .returned v ∧ Qan21 Z va vf vr vt ue x0 x1 y0 y1 u0 u1 h0 n0 v U'.heap L ∧ FrameEnd U o U' L 2 8) := by
  refine MetFree.of_bodySF (plainFor_of_name pn_3) hisR ?_
  intro p e s m args below meth c s₁ Bd hml0 hP hK
  obtain ⟨rfl, hZ, hh⟩ := hP
  have hx := Bd.exec
  have hby := Bd.bytes
  have hml : c.maxLocals = 4 := hml0
  have hown : s.vm.findClass "com/example/pattern_automaton/patternautomaton/NonZeroTransitionsEndStatePinLaw" = some m.cls := findClass_of_methodNamed Bd.named
  have hnm := (name_of_methodNamed Bd.named Bd.method).1
  have X0 : Stand p l e ({ frames := 3, cells := 2, slots := 8, locals := 47 } : Room) s m #[(.ref va), (.int (1 : Int32)), (.int u0), (.int u1)] below meth c s₁ [] 0 0 := Stand.of_body Bd
  have e0 : s₁.heap = h0 := by rw [← hh, Bd.state]; rfl
  have N0 := Fr.nil n0
  have hlk : meth.locks = false := BodyLoose.notSynchronized Bd
  show Goal p e below s (Qan21 Z va vf vr vt ue x0 x1 y0 y1 u0 u1 h0 n0) 2 8 (s₁.setTop (entryFrame m #[(.ref va), (.int (1 : Int32)), (.int u0), (.int u1)] 4))
  refine Goal.to (B := s₁.setTop (mkF m 0 #[.val (.ref va), .val (.int (1 : Int32)), .val (.int u0), .val (.int u1)] [])) (fun tt kk => castTop (ef_3 m va (1 : Int32) u0 u1 ) kk) ?_
  refine Goal.to (B := s₁.setTop (mkF m 7 #[.val (.ref va), .val (.int (1 : Int32)), .val (.int u0), .val (.int u1)] [(.int u1), (.int u0), (.ref va)])) (fun tt kk => ?_) ?_
  · show Steps p.tables e below (s₁.setTop (mkF m 0 #[.val (.ref va), .val (.int (1 : Int32)), .val (.int u0), .val (.int u1)] [])) tt
    refine XS.iloadN X0.here hx rfl (hb hby d3_0) rfl ?_
    show Steps p.tables e below (s₁.setTop (mkF m 1 #[.val (.ref va), .val (.int (1 : Int32)), .val (.int u0), .val (.int u1)] [(.int (1 : Int32))])) tt
    refine XS.ifNo X0.here hx rfl (hb hby d3_1) rfl ((if0 _ _).trans (tlt ((by decide) : (0 : Int32) < (1 : Int32))).2.2.2) ?_
    show Steps p.tables e below (s₁.setTop (mkF m 4 #[.val (.ref va), .val (.int (1 : Int32)), .val (.int u0), .val (.int u1)] [])) tt
    refine XS.aloadN X0.here hx rfl (hb hby d3_4) rfl rfl ?_
    show Steps p.tables e below (s₁.setTop (mkF m 5 #[.val (.ref va), .val (.int (1 : Int32)), .val (.int u0), .val (.int u1)] [(.ref va)])) tt
    refine XS.iloadN X0.here hx rfl (hb hby d3_5) rfl ?_
    show Steps p.tables e below (s₁.setTop (mkF m 6 #[.val (.ref va), .val (.int (1 : Int32)), .val (.int u0), .val (.int u1)] [(.int u0), (.ref va)])) tt
    refine XS.iloadN X0.here hx rfl (hb hby d3_6) rfl ?_
    exact kk
  obtain ⟨cq1, kq1, q1a, q1b, q1c⟩ := isOf hZ e0 E_va
  obtain ⟨_, _, ⟨T1, L1, k1, n1⟩, -, X1, ⟨Lc1, hQ1, l1, y1, z1⟩, st1⟩ := X0.virtualBack hx (y := (⟨"com/example/pattern_automaton/patternautomaton/NonZeroTransitions", "add", "(II)V"⟩ : MethodName)) (z := (⟨"com/example/pattern_automaton/patternautomaton/NonZeroTransitions", "add", "(II)V"⟩ : MethodName)) hown (mvT hZ (hw _ (mw 40 rfl))) (mvT hZ (hw _ (mw 41 rfl))) (notFace_of_selects (args := #[]) (mvT hZ (hw _ (mw 43 rfl)))) (mvT hZ (hw _ (mw 43 rfl))) (mvT hZ (hw _ (mw 42 rfl))) (by decide) (backOf (W := 0) (rmad2 l Z a0 hw [] va vf vr vt ue x0 x1 y0 y1 u0 u1 h0 n0 Z0 E_va F_first_va F_rows_va F_targets_va F_size_va F_ended_va V_vr V_vt g_va g_vr g_vt ne_va_vr ne_va_vt ne_vr_vt) hZ (hw _ (mw 44 rfl)) (hw _ (mw 3 rfl)) (by decide) (by decide)) q1a q1c (g := (mkF m 7 #[.val (.ref va), .val (.int (1 : Int32)), .val (.int u0), .val (.int u1)] [(.int u1), (.int u0), (.ref va)])) rfl (by rw [hml]; rfl) (Steps.refl _) (argsL := [(.int u0), (.int u1)]) (rest := []) (lenOf pd_4 rfl) rfl (by show 2 * 0 + _ ≤ _; exact Nat.le_of_eq rfl) (hb hby d3_7) (fun _ _ => ⟨rfl, e0, (by decide : 0 + 2 ≤ _), (by decide : 0 + 8 ≤ _)⟩)
  dsimp only [Pt.U, Pt.locs, Pt.cells, Pt.slots] at X1 l1 y1 z1 st1 hQ1
  subst l1 y1 z1
  obtain ⟨vb_1, vd_1, rfl, N1q, K1, sz1_vb, sz1_vd, ne1_vb_vd, P1_0, P1_1, P1_2, P1_3, P1_4, P1_5, P1_6⟩ := hQ1
  have N1 := Fr.app N0 N1q
  have ne_va_vb_1 : va ≠ vb_1 := Nat.ne_of_lt (Nat.lt_of_lt_of_le E_va.lt sz1_vb)
  have ne_vr_vb_1 : vr ≠ vb_1 := Nat.ne_of_lt (Nat.lt_of_lt_of_le V_vr.lt sz1_vb)
  have ne_vt_vb_1 : vt ≠ vb_1 := Nat.ne_of_lt (Nat.lt_of_lt_of_le V_vt.lt sz1_vb)
  have g_vb_1 : n0 ≤ vb_1 := Nat.le_trans Z0 sz1_vb
  have sz_vb_1 : h0.size ≤ vb_1 := Nat.le_trans (Keep.refl h0 [va]).1 sz1_vb
  have ne_va_vd_1 : va ≠ vd_1 := Nat.ne_of_lt (Nat.lt_of_lt_of_le E_va.lt sz1_vd)
  have ne_vr_vd_1 : vr ≠ vd_1 := Nat.ne_of_lt (Nat.lt_of_lt_of_le V_vr.lt sz1_vd)
  have ne_vt_vd_1 : vt ≠ vd_1 := Nat.ne_of_lt (Nat.lt_of_lt_of_le V_vt.lt sz1_vd)
  have g_vd_1 : n0 ≤ vd_1 := Nat.le_trans Z0 sz1_vd
  have sz_vd_1 : h0.size ≤ vd_1 := Nat.le_trans (Keep.refl h0 [va]).1 sz1_vd
  refine Goal.tr (B := T1.setTop (mkF m 10 #[.val (.ref va), .val (.int (1 : Int32)), .val (.int u0), .val (.int u1)] [])) st1 ?_
  refine Goal.to (B := T1.setTop (mkF m 23 #[.val (.ref va), .val (.int (1 : Int32)), .val (.int u0), .val (.int u1)] [])) (fun tt kk => ?_) ?_
  · show Steps p.tables e below (T1.setTop (mkF m 10 #[.val (.ref va), .val (.int (1 : Int32)), .val (.int u0), .val (.int u1)] [])) tt
    refine XS.iloadN X1.here hx rfl (hb hby d3_10) rfl ?_
    show Steps p.tables e below (T1.setTop (mkF m 11 #[.val (.ref va), .val (.int (1 : Int32)), .val (.int u0), .val (.int u1)] [(.int (1 : Int32))])) tt
    refine XS.iconst X1.here hx rfl (hb hby d3_11) ?_
    show Steps p.tables e below (T1.setTop (mkF m 12 #[.val (.ref va), .val (.int (1 : Int32)), .val (.int u0), .val (.int u1)] [(.int (1 : Int32)), (.int (1 : Int32))])) tt
    refine XS.icmpYes X1.here hx rfl (pc0 := 12) (pc' := 23) rfl (hb hby d3_12) rfl (flt (Int32.lt_irrefl : ¬ ((1 : Int32) < (1 : Int32)))).2.2.2 (by decide) (by decide) ?_
    exact kk
  have f2 : Keep h0 T1.heap [va] := ((Keep.refl h0 [va]).trans K1 (allS (Or.inl (List.mem_of_getElem? (i := 0) rfl)) all0))
  exact Goal.retN X1 hx Bd.returns (hb hby d3_23) hlk rfl ⟨vb_1, vd_1, rfl, N1, f2, sz_vb_1, sz_vd_1, ne1_vb_vd, P1_0, P1_1, P1_2, P1_3, P1_4, P1_5, P1_6⟩ (by decide) (by decide)
def Qan22 (Z : State) (va : Addr) (vf : Addr) (vr : Addr) (vt : Addr) (ue : Int32) (x0 : Int32) (x1 : Int32) (y0 : Int32) (y1 : Int32) (u0 : Int32) (u1 : Int32) (h0 : Heap) (n0 : Nat) (v : Option Value) (h : Heap) (L : List Loc) : Prop := ∃ vb : Addr, ∃ vd : Addr, v = none ∧ Fr n0 L ∧ Keep h0 h [va] ∧ h0.size ≤ vb ∧ h0.size ≤ vd ∧ vb ≠ vd ∧ Fld Z h va "com/example/pattern_automaton/patternautomaton/NonZeroTransitions" "first" "[I" (.ref vf) ∧ Fld Z h va "com/example/pattern_automaton/patternautomaton/NonZeroTransitions" "rows" "[I" (.ref vb) ∧ Fld Z h va "com/example/pattern_automaton/patternautomaton/NonZeroTransitions" "targets" "[I" (.ref vd) ∧ Fld Z h va "com/example/pattern_automaton/patternautomaton/NonZeroTransitions" "size" "I" (.int (4 : Int32)) ∧ Fld Z h va "com/example/pattern_automaton/patternautomaton/NonZeroTransitions" "ended" "I" (.int ue) ∧ Ary Z h vb .int [(.int x0), (.int x1), (.int u0), (.int (u0 + (1 : Int32)))] ∧ Ary Z h vd .int [(.int y0), (.int y1), (.int u1), (.int u1)]
set_option maxRecDepth 65536 in
set_option maxHeartbeats 40000000 in
theorem rman22 (l : Launch) (Z : State) (a0 : Array Value) (hw : ∀ d ∈ tables_1, d.before a0 Z = true) (ws : List Jvm.Cond) (va : Addr) (vf : Addr) (vr : Addr) (vt : Addr) (ue : Int32) (x0 : Int32) (x1 : Int32) (y0 : Int32) (y1 : Int32) (u0 : Int32) (u1 : Int32) (h0 : Heap) (n0 : Nat) (Z0 : n0 ≤ h0.size) (E_va : Exa Z h0 va "com/example/pattern_automaton/patternautomaton/NonZeroTransitions") (F_first_va : Fld Z h0 va "com/example/pattern_automaton/patternautomaton/NonZeroTransitions" "first" "[I" (.ref vf)) (F_rows_va : Fld Z h0 va "com/example/pattern_automaton/patternautomaton/NonZeroTransitions" "rows" "[I" (.ref vr)) (F_targets_va : Fld Z h0 va "com/example/pattern_automaton/patternautomaton/NonZeroTransitions" "targets" "[I" (.ref vt)) (F_size_va : Fld Z h0 va "com/example/pattern_automaton/patternautomaton/NonZeroTransitions" "size" "I" (.int (2 : Int32))) (F_ended_va : Fld Z h0 va "com/example/pattern_automaton/patternautomaton/NonZeroTransitions" "ended" "I" (.int ue)) (V_vr : Ary Z h0 vr .int [(.int x0), (.int x1)]) (V_vt : Ary Z h0 vt .int [(.int y0), (.int y1)]) (g_va : n0 ≤ va) (g_vr : n0 ≤ vr) (g_vt : n0 ≤ vt) (ne_va_vr : va ≠ vr) (ne_va_vt : va ≠ vt) (ne_vr_vt : vr ≠ vt) :
    MetFree l (⟨"com/example/pattern_automaton/patternautomaton/NonZeroTransitionsEndStatePinLaw", "addN", "(Lcom/example/pattern_automaton/patternautomaton/NonZeroTransitions;III)V"⟩ : MethodName) (head1 (Jvm.Cond.code (⟨"com/example/pattern_automaton/patternautomaton/NonZeroTransitionsEndStatePinLaw", "addN", "(Lcom/example/pattern_automaton/patternautomaton/NonZeroTransitions;III)V"⟩ : MethodName) method_2_code 4 none :: ws) ({ frames := 3, cells := 2, slots := 8, locals := 47 } : Room)) (fun a U => a = #[(.ref va), (.int (2 : Int32)), (.int u0), (.int u1)] ∧ Z.Warmed39 U.vm ∧ U.heap = h0) (fun _ _ _ _ _ => True) (fun _ U o U' => ∃ v L, o = .returned v ∧ Qan22 Z va vf vr vt ue x0 x1 y0 y1 u0 u1 h0 n0 v U'.heap L ∧ FrameEnd U o U' L 2 8) := by
  refine MetFree.of_bodySF (plainFor_of_name pn_3) hisR ?_
  intro p e s m args below meth c s₁ Bd hml0 hP hK
  obtain ⟨rfl, hZ, hh⟩ := hP
  have hx := Bd.exec
  have hby := Bd.bytes
  have hml : c.maxLocals = 4 := hml0
  have hown : s.vm.findClass "com/example/pattern_automaton/patternautomaton/NonZeroTransitionsEndStatePinLaw" = some m.cls := findClass_of_methodNamed Bd.named
  have hnm := (name_of_methodNamed Bd.named Bd.method).1
  have X0 : Stand p l e ({ frames := 3, cells := 2, slots := 8, locals := 47 } : Room) s m #[(.ref va), (.int (2 : Int32)), (.int u0), (.int u1)] below meth c s₁ [] 0 0 := Stand.of_body Bd
  have e0 : s₁.heap = h0 := by rw [← hh, Bd.state]; rfl
  have N0 := Fr.nil n0
  have hlk : meth.locks = false := BodyLoose.notSynchronized Bd
  show Goal p e below s (Qan22 Z va vf vr vt ue x0 x1 y0 y1 u0 u1 h0 n0) 2 8 (s₁.setTop (entryFrame m #[(.ref va), (.int (2 : Int32)), (.int u0), (.int u1)] 4))
  refine Goal.to (B := s₁.setTop (mkF m 0 #[.val (.ref va), .val (.int (2 : Int32)), .val (.int u0), .val (.int u1)] [])) (fun tt kk => castTop (ef_3 m va (2 : Int32) u0 u1 ) kk) ?_
  refine Goal.to (B := s₁.setTop (mkF m 7 #[.val (.ref va), .val (.int (2 : Int32)), .val (.int u0), .val (.int u1)] [(.int u1), (.int u0), (.ref va)])) (fun tt kk => ?_) ?_
  · show Steps p.tables e below (s₁.setTop (mkF m 0 #[.val (.ref va), .val (.int (2 : Int32)), .val (.int u0), .val (.int u1)] [])) tt
    refine XS.iloadN X0.here hx rfl (hb hby d3_0) rfl ?_
    show Steps p.tables e below (s₁.setTop (mkF m 1 #[.val (.ref va), .val (.int (2 : Int32)), .val (.int u0), .val (.int u1)] [(.int (2 : Int32))])) tt
    refine XS.ifNo X0.here hx rfl (hb hby d3_1) rfl ((if0 _ _).trans (tlt ((by decide) : (0 : Int32) < (2 : Int32))).2.2.2) ?_
    show Steps p.tables e below (s₁.setTop (mkF m 4 #[.val (.ref va), .val (.int (2 : Int32)), .val (.int u0), .val (.int u1)] [])) tt
    refine XS.aloadN X0.here hx rfl (hb hby d3_4) rfl rfl ?_
    show Steps p.tables e below (s₁.setTop (mkF m 5 #[.val (.ref va), .val (.int (2 : Int32)), .val (.int u0), .val (.int u1)] [(.ref va)])) tt
    refine XS.iloadN X0.here hx rfl (hb hby d3_5) rfl ?_
    show Steps p.tables e below (s₁.setTop (mkF m 6 #[.val (.ref va), .val (.int (2 : Int32)), .val (.int u0), .val (.int u1)] [(.int u0), (.ref va)])) tt
    refine XS.iloadN X0.here hx rfl (hb hby d3_6) rfl ?_
    exact kk
  obtain ⟨cq1, kq1, q1a, q1b, q1c⟩ := isOf hZ e0 E_va
  obtain ⟨_, _, ⟨T1, L1, k1, n1⟩, -, X1, ⟨Lc1, hQ1, l1, y1, z1⟩, st1⟩ := X0.virtualBack hx (y := (⟨"com/example/pattern_automaton/patternautomaton/NonZeroTransitions", "add", "(II)V"⟩ : MethodName)) (z := (⟨"com/example/pattern_automaton/patternautomaton/NonZeroTransitions", "add", "(II)V"⟩ : MethodName)) hown (mvT hZ (hw _ (mw 40 rfl))) (mvT hZ (hw _ (mw 41 rfl))) (notFace_of_selects (args := #[]) (mvT hZ (hw _ (mw 43 rfl)))) (mvT hZ (hw _ (mw 43 rfl))) (mvT hZ (hw _ (mw 42 rfl))) (by decide) (backOf (W := 0) (rmad2 l Z a0 hw [] va vf vr vt ue x0 x1 y0 y1 u0 u1 h0 n0 Z0 E_va F_first_va F_rows_va F_targets_va F_size_va F_ended_va V_vr V_vt g_va g_vr g_vt ne_va_vr ne_va_vt ne_vr_vt) hZ (hw _ (mw 44 rfl)) (hw _ (mw 3 rfl)) (by decide) (by decide)) q1a q1c (g := (mkF m 7 #[.val (.ref va), .val (.int (2 : Int32)), .val (.int u0), .val (.int u1)] [(.int u1), (.int u0), (.ref va)])) rfl (by rw [hml]; rfl) (Steps.refl _) (argsL := [(.int u0), (.int u1)]) (rest := []) (lenOf pd_4 rfl) rfl (by show 2 * 0 + _ ≤ _; exact Nat.le_of_eq rfl) (hb hby d3_7) (fun _ _ => ⟨rfl, e0, (by decide : 0 + 2 ≤ _), (by decide : 0 + 8 ≤ _)⟩)
  dsimp only [Pt.U, Pt.locs, Pt.cells, Pt.slots] at X1 l1 y1 z1 st1 hQ1
  subst l1 y1 z1
  obtain ⟨vb_1, vd_1, rfl, N1q, K1, sz1_vb, sz1_vd, ne1_vb_vd, P1_0, P1_1, P1_2, P1_3, P1_4, P1_5, P1_6⟩ := hQ1
  have N1 := Fr.app N0 N1q
  have ne_va_vb_1 : va ≠ vb_1 := Nat.ne_of_lt (Nat.lt_of_lt_of_le E_va.lt sz1_vb)
  have ne_vr_vb_1 : vr ≠ vb_1 := Nat.ne_of_lt (Nat.lt_of_lt_of_le V_vr.lt sz1_vb)
  have ne_vt_vb_1 : vt ≠ vb_1 := Nat.ne_of_lt (Nat.lt_of_lt_of_le V_vt.lt sz1_vb)
  have g_vb_1 : n0 ≤ vb_1 := Nat.le_trans Z0 sz1_vb
  have sz_vb_1 : h0.size ≤ vb_1 := Nat.le_trans (Keep.refl h0 [va]).1 sz1_vb
  have ne_va_vd_1 : va ≠ vd_1 := Nat.ne_of_lt (Nat.lt_of_lt_of_le E_va.lt sz1_vd)
  have ne_vr_vd_1 : vr ≠ vd_1 := Nat.ne_of_lt (Nat.lt_of_lt_of_le V_vr.lt sz1_vd)
  have ne_vt_vd_1 : vt ≠ vd_1 := Nat.ne_of_lt (Nat.lt_of_lt_of_le V_vt.lt sz1_vd)
  have g_vd_1 : n0 ≤ vd_1 := Nat.le_trans Z0 sz1_vd
  have sz_vd_1 : h0.size ≤ vd_1 := Nat.le_trans (Keep.refl h0 [va]).1 sz1_vd
  refine Goal.tr (B := T1.setTop (mkF m 10 #[.val (.ref va), .val (.int (2 : Int32)), .val (.int u0), .val (.int u1)] [])) st1 ?_
  refine Goal.to (B := T1.setTop (mkF m 20 #[.val (.ref va), .val (.int (2 : Int32)), .val (.int u0), .val (.int u1)] [(.int u1), (.int (u0 + (1 : Int32))), (.ref va)])) (fun tt kk => ?_) ?_
  · show Steps p.tables e below (T1.setTop (mkF m 10 #[.val (.ref va), .val (.int (2 : Int32)), .val (.int u0), .val (.int u1)] [])) tt
    refine XS.iloadN X1.here hx rfl (hb hby d3_10) rfl ?_
    show Steps p.tables e below (T1.setTop (mkF m 11 #[.val (.ref va), .val (.int (2 : Int32)), .val (.int u0), .val (.int u1)] [(.int (2 : Int32))])) tt
    refine XS.iconst X1.here hx rfl (hb hby d3_11) ?_
    show Steps p.tables e below (T1.setTop (mkF m 12 #[.val (.ref va), .val (.int (2 : Int32)), .val (.int u0), .val (.int u1)] [(.int (1 : Int32)), (.int (2 : Int32))])) tt
    refine XS.icmpNo X1.here hx rfl (hb hby d3_12) rfl (tlt ((by decide) : (1 : Int32) < (2 : Int32))).2.2.2 ?_
    show Steps p.tables e below (T1.setTop (mkF m 15 #[.val (.ref va), .val (.int (2 : Int32)), .val (.int u0), .val (.int u1)] [])) tt
    refine XS.aloadN X1.here hx rfl (hb hby d3_15) rfl rfl ?_
    show Steps p.tables e below (T1.setTop (mkF m 16 #[.val (.ref va), .val (.int (2 : Int32)), .val (.int u0), .val (.int u1)] [(.ref va)])) tt
    refine XS.iloadN X1.here hx rfl (hb hby d3_16) rfl ?_
    show Steps p.tables e below (T1.setTop (mkF m 17 #[.val (.ref va), .val (.int (2 : Int32)), .val (.int u0), .val (.int u1)] [(.int u0), (.ref va)])) tt
    refine XS.iconst X1.here hx rfl (hb hby d3_17) ?_
    show Steps p.tables e below (T1.setTop (mkF m 18 #[.val (.ref va), .val (.int (2 : Int32)), .val (.int u0), .val (.int u1)] [(.int (1 : Int32)), (.int u0), (.ref va)])) tt
    refine XS.iadd X1.here hx rfl (hb hby d3_18) rfl ?_
    show Steps p.tables e below (T1.setTop (mkF m 19 #[.val (.ref va), .val (.int (2 : Int32)), .val (.int u0), .val (.int u1)] [(.int (u0 + (1 : Int32))), (.ref va)])) tt
    refine XS.iloadN X1.here hx rfl (hb hby d3_19) rfl ?_
    exact kk
  have f2 : Exa Z T1.heap va "com/example/pattern_automaton/patternautomaton/NonZeroTransitions" := (E_va.keep K1)
  have f3 : n0 ≤ T1.heap.size := (Nat.le_trans Z0 K1.1)
  obtain ⟨cq4, kq4, q4a, q4b, q4c⟩ := isOf hZ rfl f2
  obtain ⟨_, _, ⟨T4, L4, k4, n4⟩, -, X4, ⟨Lc4, hQ4, l4, y4, z4⟩, st4⟩ := X1.virtualBack hx (y := (⟨"com/example/pattern_automaton/patternautomaton/NonZeroTransitions", "add", "(II)V"⟩ : MethodName)) (z := (⟨"com/example/pattern_automaton/patternautomaton/NonZeroTransitions", "add", "(II)V"⟩ : MethodName)) hown (mvT hZ (hw _ (mw 40 rfl))) (mvT hZ (hw _ (mw 41 rfl))) (notFace_of_selects (args := #[]) (mvT hZ (hw _ (mw 43 rfl)))) (mvT hZ (hw _ (mw 43 rfl))) (mvT hZ (hw _ (mw 42 rfl))) (by decide) (backOf (W := 0) (rmad3 l Z a0 hw [] va vf vb_1 vd_1 ue x0 x1 u0 (0 : Int32) y0 y1 u1 (0 : Int32) (u0 + (1 : Int32)) u1 T1.heap n0 f3 f2 P1_0 P1_1 P1_2 P1_3 P1_4 P1_5 P1_6 g_va g_vb_1 g_vd_1 ne_va_vb_1 ne_va_vd_1 ne1_vb_vd) hZ (hw _ (mw 44 rfl)) (hw _ (mw 3 rfl)) (by decide) (by decide)) q4a q4c (g := (mkF m 20 #[.val (.ref va), .val (.int (2 : Int32)), .val (.int u0), .val (.int u1)] [(.int u1), (.int (u0 + (1 : Int32))), (.ref va)])) rfl (by rw [hml]; rfl) (Steps.refl _) (argsL := [(.int (u0 + (1 : Int32))), (.int u1)]) (rest := []) (lenOf pd_4 rfl) rfl (by show 2 * 0 + _ ≤ _; exact Nat.le_of_eq rfl) (hb hby d3_20) (fun _ _ => ⟨rfl, rfl, (by decide : 2 + 0 ≤ _), (by decide : 8 + 0 ≤ _)⟩)
  dsimp only [Pt.U, Pt.locs, Pt.cells, Pt.slots] at X4 l4 y4 z4 st4 hQ4
  subst l4 y4 z4
  obtain ⟨rfl, N4q, K4, P4_0, P4_1, P4_2, P4_3, P4_4, P4_5, P4_6⟩ := hQ4
  have N4 := Fr.app N1 N4q
  refine Goal.tr (B := T4.setTop (mkF m 23 #[.val (.ref va), .val (.int (2 : Int32)), .val (.int u0), .val (.int u1)] [])) st4 ?_
  have f5 : Keep h0 T4.heap [va] := (((Keep.refl h0 [va]).trans K1 (allS (Or.inl (List.mem_of_getElem? (i := 0) rfl)) all0)).trans K4 (allS (Or.inl (List.mem_of_getElem? (i := 0) rfl)) (allS (Or.inr sz_vb_1) (allS (Or.inr sz_vd_1) all0))))
  exact Goal.retN X4 hx Bd.returns (hb hby d3_23) hlk rfl ⟨vb_1, vd_1, rfl, N4, f5, sz_vb_1, sz_vd_1, ne1_vb_vd, P4_0, P4_1, P4_2, P4_3, P4_4, P4_5, P4_6⟩ (by decide) (by decide)
theorem ef_4 (m : MethodId) (x0 : Addr)  : entryFrame m #[(.ref x0)] 1 = mkF m 0 #[.val (.ref x0)] [] := by first | (simp [entryFrame, mkF, argsToLocals, Value.category]; done) | rfl
theorem pn_4 : plainName "com/example/pattern_automaton/patternautomaton/NonZeroTransitions" = true := by first | (simp [plainName, overriddenIn]; done) | decide +kernel
theorem d4_0 : decode prog_33_method_3_code 0 = .ok (.aload_n 0, 1) := by decide +kernel
theorem d4_1 : decode prog_33_method_3_code 1 = .ok (.dup, 1) := by decide +kernel
theorem d4_2 : decode prog_33_method_3_code 2 = .ok (.getfield 29, 3) := by decide +kernel
theorem d4_5 : decode prog_33_method_3_code 5 = .ok (.iconst 1, 1) := by decide +kernel
theorem d4_6 : decode prog_33_method_3_code 6 = .ok (.iadd, 1) := by decide +kernel
theorem d4_7 : decode prog_33_method_3_code 7 = .ok (.putfield 29, 3) := by decide +kernel
theorem d4_10 : decode prog_33_method_3_code 10 = .ok (.aload_n 0, 1) := by decide +kernel
theorem d4_11 : decode prog_33_method_3_code 11 = .ok (.getfield 7, 3) := by decide +kernel
theorem d4_14 : decode prog_33_method_3_code 14 = .ok (.aload_n 0, 1) := by decide +kernel
theorem d4_15 : decode prog_33_method_3_code 15 = .ok (.getfield 29, 3) := by decide +kernel
theorem d4_18 : decode prog_33_method_3_code 18 = .ok (.aload_n 0, 1) := by decide +kernel
theorem d4_19 : decode prog_33_method_3_code 19 = .ok (.getfield 19, 3) := by decide +kernel
theorem d4_22 : decode prog_33_method_3_code 22 = .ok (.iastore, 1) := by decide +kernel
theorem d4_23 : decode prog_33_method_3_code 23 = .ok (.return_, 1) := by decide +kernel
def Qes0 (Z : State) (va : Addr) (vf : Addr) (vr : Addr) (vt : Addr) (us : Int32) (f0 : Int32) (f1 : Int32) (f2 : Int32) (h0 : Heap) (n0 : Nat) (v : Option Value) (h : Heap) (L : List Loc) : Prop := v = none ∧ Fr n0 L ∧ Keep h0 h [va, vf] ∧ Fld Z h va "com/example/pattern_automaton/patternautomaton/NonZeroTransitions" "first" "[I" (.ref vf) ∧ Fld Z h va "com/example/pattern_automaton/patternautomaton/NonZeroTransitions" "rows" "[I" (.ref vr) ∧ Fld Z h va "com/example/pattern_automaton/patternautomaton/NonZeroTransitions" "targets" "[I" (.ref vt) ∧ Fld Z h va "com/example/pattern_automaton/patternautomaton/NonZeroTransitions" "size" "I" (.int us) ∧ Fld Z h va "com/example/pattern_automaton/patternautomaton/NonZeroTransitions" "ended" "I" (.int (1 : Int32)) ∧ Ary Z h vf .int [(.int f0), (.int us), (.int f2)]
set_option maxRecDepth 65536 in
set_option maxHeartbeats 40000000 in
theorem rmes0 (l : Launch) (Z : State) (a0 : Array Value) (hw : ∀ d ∈ tables_1, d.before a0 Z = true) (ws : List Jvm.Cond) (va : Addr) (vf : Addr) (vr : Addr) (vt : Addr) (us : Int32) (f0 : Int32) (f1 : Int32) (f2 : Int32) (h0 : Heap) (n0 : Nat) (Z0 : n0 ≤ h0.size) (E_va : Exa Z h0 va "com/example/pattern_automaton/patternautomaton/NonZeroTransitions") (F_first_va : Fld Z h0 va "com/example/pattern_automaton/patternautomaton/NonZeroTransitions" "first" "[I" (.ref vf)) (F_rows_va : Fld Z h0 va "com/example/pattern_automaton/patternautomaton/NonZeroTransitions" "rows" "[I" (.ref vr)) (F_targets_va : Fld Z h0 va "com/example/pattern_automaton/patternautomaton/NonZeroTransitions" "targets" "[I" (.ref vt)) (F_size_va : Fld Z h0 va "com/example/pattern_automaton/patternautomaton/NonZeroTransitions" "size" "I" (.int us)) (F_ended_va : Fld Z h0 va "com/example/pattern_automaton/patternautomaton/NonZeroTransitions" "ended" "I" (.int (0 : Int32))) (V_vf : Ary Z h0 vf .int [(.int f0), (.int f1), (.int f2)]) (g_va : n0 ≤ va) (g_vf : n0 ≤ vf) (ne_va_vf : va ≠ vf) :
    MetFree l (⟨"com/example/pattern_automaton/patternautomaton/NonZeroTransitions", "endState", "()V"⟩ : MethodName) (head1 (Jvm.Cond.code (⟨"com/example/pattern_automaton/patternautomaton/NonZeroTransitions", "endState", "()V"⟩ : MethodName) prog_33_method_3_code 1 none :: ws) ({ frames := 0, cells := 0, slots := 0, locals := 0 } : Room)) (fun a U => a = #[(.ref va)] ∧ Z.Warmed39 U.vm ∧ U.heap = h0) (fun _ _ _ _ _ => True) (fun _ U o U' => ∃ v L, o = .returned v ∧ Qes0 Z va vf vr vt us f0 f1 f2 h0 n0 v U'.heap L ∧ FrameEnd U o U' L 0 0) := by
  refine MetFree.of_bodySF (plainFor_of_name pn_4) hisR ?_
  intro p e s m args below meth c s₁ Bd hml0 hP hK
  obtain ⟨rfl, hZ, hh⟩ := hP
  have hx := Bd.exec
  have hby := Bd.bytes
  have hml : c.maxLocals = 1 := hml0
  have hown : s.vm.findClass "com/example/pattern_automaton/patternautomaton/NonZeroTransitions" = some m.cls := findClass_of_methodNamed Bd.named
  have hnm := (name_of_methodNamed Bd.named Bd.method).1
  have X0 : Stand p l e ({ frames := 0, cells := 0, slots := 0, locals := 0 } : Room) s m #[(.ref va)] below meth c s₁ [] 0 0 := Stand.of_body Bd
  have e0 : s₁.heap = h0 := by rw [← hh, Bd.state]; rfl
  have N0 := Fr.nil n0
  have hlk : meth.locks = false := BodyLoose.notSynchronized Bd
  show Goal p e below s (Qes0 Z va vf vr vt us f0 f1 f2 h0 n0) 0 0 (s₁.setTop (entryFrame m #[(.ref va)] 1))
  refine Goal.to (B := s₁.setTop (mkF m 0 #[.val (.ref va)] [])) (fun tt kk => castTop (ef_4 m va ) kk) ?_
  refine Goal.to (B := s₁.setTop (mkF m 2 #[.val (.ref va)] [(.ref va), (.ref va)])) (fun tt kk => ?_) ?_
  · show Steps p.tables e below (s₁.setTop (mkF m 0 #[.val (.ref va)] [])) tt
    refine XS.aloadN X0.here hx rfl (hb hby d4_0) rfl rfl ?_
    show Steps p.tables e below (s₁.setTop (mkF m 1 #[.val (.ref va)] [(.ref va)])) tt
    refine XS.dup X0.here hx rfl (hb hby d4_1) rfl rfl ?_
    exact kk
  obtain ⟨T1, X1, e1, st1⟩ := getF X0 hx hZ hown (host := "") (Or.inl (hw _ (mw 26 rfl))) Via.refl e0 F_ended_va (g := (mkF m 2 #[.val (.ref va)] [(.ref va), (.ref va)])) rfl rfl (hb hby d4_2)
  refine Goal.to (B := T1.setTop (mkF m 5 #[.val (.ref va)] [(.int (0 : Int32)), (.ref va)])) st1 ?_
  refine Goal.to (B := T1.setTop (mkF m 7 #[.val (.ref va)] [(.int (1 : Int32)), (.ref va)])) (fun tt kk => ?_) ?_
  · show Steps p.tables e below (T1.setTop (mkF m 5 #[.val (.ref va)] [(.int (0 : Int32)), (.ref va)])) tt
    refine XS.iconst X1.here hx rfl (hb hby d4_5) ?_
    show Steps p.tables e below (T1.setTop (mkF m 6 #[.val (.ref va)] [(.int (1 : Int32)), (.int (0 : Int32)), (.ref va)])) tt
    refine XS.iadd X1.here hx rfl (hb hby d4_6) rfl ?_
    exact kk
  obtain ⟨T2, h2, X2, e2, W2, st2⟩ := putF X1 hx hZ hown (host := "") (Or.inl (hw _ (mw 26 rfl))) Via.refl e1 F_ended_va E_va (Or.inl (hw _ (mw 27 rfl))) (hw _ (mw 2 rfl)) (ty := .int) (by decide) rfl rfl (g := (mkF m 7 #[.val (.ref va)] [(.int (1 : Int32)), (.ref va)])) rfl rfl (hb hby d4_7)
  have Fw2 : Fld Z h2 va "com/example/pattern_automaton/patternautomaton/NonZeroTransitions" "ended" "I" (.int (1 : Int32)) := F_ended_va.same W2
  have N2 := Fr.snoc X2 N0 g_va
  refine Goal.to (B := T2.setTop (mkF m 10 #[.val (.ref va)] [])) st2 ?_
  refine Goal.to (B := T2.setTop (mkF m 11 #[.val (.ref va)] [(.ref va)])) (fun tt kk => ?_) ?_
  · show Steps p.tables e below (T2.setTop (mkF m 10 #[.val (.ref va)] [])) tt
    refine XS.aloadN X2.here hx rfl (hb hby d4_10) rfl rfl ?_
    exact kk
  have f3 : Fld Z h2 va "com/example/pattern_automaton/patternautomaton/NonZeroTransitions" "first" "[I" (.ref vf) := (F_first_va.other W2 (Or.inr (slot_ne (Or.inr (hw _ (mw 12 rfl))) (Or.inl (hw _ (mw 27 rfl))) (by decide) (t := (.array .int)) (t' := .int) (by decide) (by decide))))
  obtain ⟨T4, X4, e4, st4⟩ := getF X2 hx hZ hown (host := "") (Or.inl (hw _ (mw 11 rfl))) Via.refl e2 f3 (g := (mkF m 11 #[.val (.ref va)] [(.ref va)])) rfl rfl (hb hby d4_11)
  refine Goal.to (B := T4.setTop (mkF m 14 #[.val (.ref va)] [(.ref vf)])) st4 ?_
  refine Goal.to (B := T4.setTop (mkF m 15 #[.val (.ref va)] [(.ref va), (.ref vf)])) (fun tt kk => ?_) ?_
  · show Steps p.tables e below (T4.setTop (mkF m 14 #[.val (.ref va)] [(.ref vf)])) tt
    refine XS.aloadN X4.here hx rfl (hb hby d4_14) rfl rfl ?_
    exact kk
  obtain ⟨T5, X5, e5, st5⟩ := getF X4 hx hZ hown (host := "") (Or.inl (hw _ (mw 26 rfl))) Via.refl e4 Fw2 (g := (mkF m 15 #[.val (.ref va)] [(.ref va), (.ref vf)])) rfl rfl (hb hby d4_15)
  refine Goal.to (B := T5.setTop (mkF m 18 #[.val (.ref va)] [(.int (1 : Int32)), (.ref vf)])) st5 ?_
  refine Goal.to (B := T5.setTop (mkF m 19 #[.val (.ref va)] [(.ref va), (.int (1 : Int32)), (.ref vf)])) (fun tt kk => ?_) ?_
  · show Steps p.tables e below (T5.setTop (mkF m 18 #[.val (.ref va)] [(.int (1 : Int32)), (.ref vf)])) tt
    refine XS.aloadN X5.here hx rfl (hb hby d4_18) rfl rfl ?_
    exact kk
  have f6 : Fld Z h2 va "com/example/pattern_automaton/patternautomaton/NonZeroTransitions" "size" "I" (.int us) := (F_size_va.other W2 (Or.inr (slot_ne (Or.inl (hw _ (mw 29 rfl))) (Or.inl (hw _ (mw 27 rfl))) (by decide) (t := .int) (t' := .int) (by decide) (by decide))))
  obtain ⟨T7, X7, e7, st7⟩ := getF X5 hx hZ hown (host := "") (Or.inl (hw _ (mw 28 rfl))) Via.refl e5 f6 (g := (mkF m 19 #[.val (.ref va)] [(.ref va), (.int (1 : Int32)), (.ref vf)])) rfl rfl (hb hby d4_19)
  refine Goal.to (B := T7.setTop (mkF m 22 #[.val (.ref va)] [(.int us), (.int (1 : Int32)), (.ref vf)])) st7 ?_
  have f8 : Ary Z h2 vf .int [(.int f0), (.int f1), (.int f2)] := (V_vf.other W2 (Ne.symm ne_va_vf))
  obtain ⟨cl9, Ar9, Sl9⟩ := id f8
  have hin9 := inA (cl := cl9) Sl9 (j := (1 : Int32)) (by decide) (Nat.le_of_ble_eq_true rfl)
  obtain ⟨T9, h9, X9, e9, W9, st9⟩ := stI X7 hx hZ e7 Ar9 (j := (1 : Int32)) hin9 (g := (mkF m 22 #[.val (.ref va)] [(.int us), (.int (1 : Int32)), (.ref vf)])) rfl rfl (hb hby d4_22)
  have V9 : Ary Z h9 vf .int [(.int f0), (.int us), (.int f2)] := Ary.put Ar9 Sl9 W9 rfl
  have N9 := Fr.snoc X9 N2 g_vf
  refine Goal.to (B := T9.setTop (mkF m 23 #[.val (.ref va)] [])) st9 ?_
  have f10 : Keep h0 h9 [va, vf] := (((Keep.refl h0 [va, vf]).wr W2 (Or.inl (List.mem_of_getElem? (i := 0) rfl))).wr W9 (Or.inl (List.mem_of_getElem? (i := 1) rfl)))
  have f11 : Fld Z h9 va "com/example/pattern_automaton/patternautomaton/NonZeroTransitions" "first" "[I" (.ref vf) := (f3.other W9 (Or.inl ne_va_vf))
  have f12 : Fld Z h9 va "com/example/pattern_automaton/patternautomaton/NonZeroTransitions" "rows" "[I" (.ref vr) := ((F_rows_va.other W2 (Or.inr (slot_ne (Or.inl (hw _ (mw 14 rfl))) (Or.inl (hw _ (mw 27 rfl))) (by decide) (t := (.array .int)) (t' := .int) (by decide) (by decide)))).other W9 (Or.inl ne_va_vf))
  have f13 : Fld Z h9 va "com/example/pattern_automaton/patternautomaton/NonZeroTransitions" "targets" "[I" (.ref vt) := ((F_targets_va.other W2 (Or.inr (slot_ne (Or.inl (hw _ (mw 16 rfl))) (Or.inl (hw _ (mw 27 rfl))) (by decide) (t := (.array .int)) (t' := .int) (by decide) (by decide)))).other W9 (Or.inl ne_va_vf))
  have f14 : Fld Z h9 va "com/example/pattern_automaton/patternautomaton/NonZeroTransitions" "size" "I" (.int us) := (f6.other W9 (Or.inl ne_va_vf))
  have f15 : Fld Z h9 va "com/example/pattern_automaton/patternautomaton/NonZeroTransitions" "ended" "I" (.int (1 : Int32)) := (Fw2.other W9 (Or.inl ne_va_vf))
  exact Goal.retN X9 hx Bd.returns (hb hby d4_23) hlk e9 ⟨rfl, N9, f10, f11, f12, f13, f14, f15, V9⟩ (by decide) (by decide)
def Qes1 (Z : State) (va : Addr) (vf : Addr) (vr : Addr) (vt : Addr) (us : Int32) (f0 : Int32) (f1 : Int32) (f2 : Int32) (h0 : Heap) (n0 : Nat) (v : Option Value) (h : Heap) (L : List Loc) : Prop := v = none ∧ Fr n0 L ∧ Keep h0 h [va, vf] ∧ Fld Z h va "com/example/pattern_automaton/patternautomaton/NonZeroTransitions" "first" "[I" (.ref vf) ∧ Fld Z h va "com/example/pattern_automaton/patternautomaton/NonZeroTransitions" "rows" "[I" (.ref vr) ∧ Fld Z h va "com/example/pattern_automaton/patternautomaton/NonZeroTransitions" "targets" "[I" (.ref vt) ∧ Fld Z h va "com/example/pattern_automaton/patternautomaton/NonZeroTransitions" "size" "I" (.int us) ∧ Fld Z h va "com/example/pattern_automaton/patternautomaton/NonZeroTransitions" "ended" "I" (.int (2 : Int32)) ∧ Ary Z h vf .int [(.int f0), (.int f1), (.int us)]
set_option maxRecDepth 65536 in
set_option maxHeartbeats 40000000 in
theorem rmes1 (l : Launch) (Z : State) (a0 : Array Value) (hw : ∀ d ∈ tables_1, d.before a0 Z = true) (ws : List Jvm.Cond) (va : Addr) (vf : Addr) (vr : Addr) (vt : Addr) (us : Int32) (f0 : Int32) (f1 : Int32) (f2 : Int32) (h0 : Heap) (n0 : Nat) (Z0 : n0 ≤ h0.size) (E_va : Exa Z h0 va "com/example/pattern_automaton/patternautomaton/NonZeroTransitions") (F_first_va : Fld Z h0 va "com/example/pattern_automaton/patternautomaton/NonZeroTransitions" "first" "[I" (.ref vf)) (F_rows_va : Fld Z h0 va "com/example/pattern_automaton/patternautomaton/NonZeroTransitions" "rows" "[I" (.ref vr)) (F_targets_va : Fld Z h0 va "com/example/pattern_automaton/patternautomaton/NonZeroTransitions" "targets" "[I" (.ref vt)) (F_size_va : Fld Z h0 va "com/example/pattern_automaton/patternautomaton/NonZeroTransitions" "size" "I" (.int us)) (F_ended_va : Fld Z h0 va "com/example/pattern_automaton/patternautomaton/NonZeroTransitions" "ended" "I" (.int (1 : Int32))) (V_vf : Ary Z h0 vf .int [(.int f0), (.int f1), (.int f2)]) (g_va : n0 ≤ va) (g_vf : n0 ≤ vf) (ne_va_vf : va ≠ vf) :
    MetFree l (⟨"com/example/pattern_automaton/patternautomaton/NonZeroTransitions", "endState", "()V"⟩ : MethodName) (head1 (Jvm.Cond.code (⟨"com/example/pattern_automaton/patternautomaton/NonZeroTransitions", "endState", "()V"⟩ : MethodName) prog_33_method_3_code 1 none :: ws) ({ frames := 0, cells := 0, slots := 0, locals := 0 } : Room)) (fun a U => a = #[(.ref va)] ∧ Z.Warmed39 U.vm ∧ U.heap = h0) (fun _ _ _ _ _ => True) (fun _ U o U' => ∃ v L, o = .returned v ∧ Qes1 Z va vf vr vt us f0 f1 f2 h0 n0 v U'.heap L ∧ FrameEnd U o U' L 0 0) := by
  refine MetFree.of_bodySF (plainFor_of_name pn_4) hisR ?_
  intro p e s m args below meth c s₁ Bd hml0 hP hK
  obtain ⟨rfl, hZ, hh⟩ := hP
  have hx := Bd.exec
  have hby := Bd.bytes
  have hml : c.maxLocals = 1 := hml0
  have hown : s.vm.findClass "com/example/pattern_automaton/patternautomaton/NonZeroTransitions" = some m.cls := findClass_of_methodNamed Bd.named
  have hnm := (name_of_methodNamed Bd.named Bd.method).1
  have X0 : Stand p l e ({ frames := 0, cells := 0, slots := 0, locals := 0 } : Room) s m #[(.ref va)] below meth c s₁ [] 0 0 := Stand.of_body Bd
  have e0 : s₁.heap = h0 := by rw [← hh, Bd.state]; rfl
  have N0 := Fr.nil n0
  have hlk : meth.locks = false := BodyLoose.notSynchronized Bd
  show Goal p e below s (Qes1 Z va vf vr vt us f0 f1 f2 h0 n0) 0 0 (s₁.setTop (entryFrame m #[(.ref va)] 1))
  refine Goal.to (B := s₁.setTop (mkF m 0 #[.val (.ref va)] [])) (fun tt kk => castTop (ef_4 m va ) kk) ?_
  refine Goal.to (B := s₁.setTop (mkF m 2 #[.val (.ref va)] [(.ref va), (.ref va)])) (fun tt kk => ?_) ?_
  · show Steps p.tables e below (s₁.setTop (mkF m 0 #[.val (.ref va)] [])) tt
    refine XS.aloadN X0.here hx rfl (hb hby d4_0) rfl rfl ?_
    show Steps p.tables e below (s₁.setTop (mkF m 1 #[.val (.ref va)] [(.ref va)])) tt
    refine XS.dup X0.here hx rfl (hb hby d4_1) rfl rfl ?_
    exact kk
  obtain ⟨T1, X1, e1, st1⟩ := getF X0 hx hZ hown (host := "") (Or.inl (hw _ (mw 26 rfl))) Via.refl e0 F_ended_va (g := (mkF m 2 #[.val (.ref va)] [(.ref va), (.ref va)])) rfl rfl (hb hby d4_2)
  refine Goal.to (B := T1.setTop (mkF m 5 #[.val (.ref va)] [(.int (1 : Int32)), (.ref va)])) st1 ?_
  refine Goal.to (B := T1.setTop (mkF m 7 #[.val (.ref va)] [(.int (2 : Int32)), (.ref va)])) (fun tt kk => ?_) ?_
  · show Steps p.tables e below (T1.setTop (mkF m 5 #[.val (.ref va)] [(.int (1 : Int32)), (.ref va)])) tt
    refine XS.iconst X1.here hx rfl (hb hby d4_5) ?_
    show Steps p.tables e below (T1.setTop (mkF m 6 #[.val (.ref va)] [(.int (1 : Int32)), (.int (1 : Int32)), (.ref va)])) tt
    refine XS.iadd X1.here hx rfl (hb hby d4_6) rfl ?_
    exact kk
  obtain ⟨T2, h2, X2, e2, W2, st2⟩ := putF X1 hx hZ hown (host := "") (Or.inl (hw _ (mw 26 rfl))) Via.refl e1 F_ended_va E_va (Or.inl (hw _ (mw 27 rfl))) (hw _ (mw 2 rfl)) (ty := .int) (by decide) rfl rfl (g := (mkF m 7 #[.val (.ref va)] [(.int (2 : Int32)), (.ref va)])) rfl rfl (hb hby d4_7)
  have Fw2 : Fld Z h2 va "com/example/pattern_automaton/patternautomaton/NonZeroTransitions" "ended" "I" (.int (2 : Int32)) := F_ended_va.same W2
  have N2 := Fr.snoc X2 N0 g_va
  refine Goal.to (B := T2.setTop (mkF m 10 #[.val (.ref va)] [])) st2 ?_
  refine Goal.to (B := T2.setTop (mkF m 11 #[.val (.ref va)] [(.ref va)])) (fun tt kk => ?_) ?_
  · show Steps p.tables e below (T2.setTop (mkF m 10 #[.val (.ref va)] [])) tt
    refine XS.aloadN X2.here hx rfl (hb hby d4_10) rfl rfl ?_
    exact kk
  have f3 : Fld Z h2 va "com/example/pattern_automaton/patternautomaton/NonZeroTransitions" "first" "[I" (.ref vf) := (F_first_va.other W2 (Or.inr (slot_ne (Or.inr (hw _ (mw 12 rfl))) (Or.inl (hw _ (mw 27 rfl))) (by decide) (t := (.array .int)) (t' := .int) (by decide) (by decide))))
  obtain ⟨T4, X4, e4, st4⟩ := getF X2 hx hZ hown (host := "") (Or.inl (hw _ (mw 11 rfl))) Via.refl e2 f3 (g := (mkF m 11 #[.val (.ref va)] [(.ref va)])) rfl rfl (hb hby d4_11)
  refine Goal.to (B := T4.setTop (mkF m 14 #[.val (.ref va)] [(.ref vf)])) st4 ?_
  refine Goal.to (B := T4.setTop (mkF m 15 #[.val (.ref va)] [(.ref va), (.ref vf)])) (fun tt kk => ?_) ?_
  · show Steps p.tables e below (T4.setTop (mkF m 14 #[.val (.ref va)] [(.ref vf)])) tt
    refine XS.aloadN X4.here hx rfl (hb hby d4_14) rfl rfl ?_
    exact kk
  obtain ⟨T5, X5, e5, st5⟩ := getF X4 hx hZ hown (host := "") (Or.inl (hw _ (mw 26 rfl))) Via.refl e4 Fw2 (g := (mkF m 15 #[.val (.ref va)] [(.ref va), (.ref vf)])) rfl rfl (hb hby d4_15)
  refine Goal.to (B := T5.setTop (mkF m 18 #[.val (.ref va)] [(.int (2 : Int32)), (.ref vf)])) st5 ?_
  refine Goal.to (B := T5.setTop (mkF m 19 #[.val (.ref va)] [(.ref va), (.int (2 : Int32)), (.ref vf)])) (fun tt kk => ?_) ?_
  · show Steps p.tables e below (T5.setTop (mkF m 18 #[.val (.ref va)] [(.int (2 : Int32)), (.ref vf)])) tt
    refine XS.aloadN X5.here hx rfl (hb hby d4_18) rfl rfl ?_
    exact kk
  have f6 : Fld Z h2 va "com/example/pattern_automaton/patternautomaton/NonZeroTransitions" "size" "I" (.int us) := (F_size_va.other W2 (Or.inr (slot_ne (Or.inl (hw _ (mw 29 rfl))) (Or.inl (hw _ (mw 27 rfl))) (by decide) (t := .int) (t' := .int) (by decide) (by decide))))
  obtain ⟨T7, X7, e7, st7⟩ := getF X5 hx hZ hown (host := "") (Or.inl (hw _ (mw 28 rfl))) Via.refl e5 f6 (g := (mkF m 19 #[.val (.ref va)] [(.ref va), (.int (2 : Int32)), (.ref vf)])) rfl rfl (hb hby d4_19)
  refine Goal.to (B := T7.setTop (mkF m 22 #[.val (.ref va)] [(.int us), (.int (2 : Int32)), (.ref vf)])) st7 ?_
  have f8 : Ary Z h2 vf .int [(.int f0), (.int f1), (.int f2)] := (V_vf.other W2 (Ne.symm ne_va_vf))
  obtain ⟨cl9, Ar9, Sl9⟩ := id f8
  have hin9 := inA (cl := cl9) Sl9 (j := (2 : Int32)) (by decide) (Nat.le_of_ble_eq_true rfl)
  obtain ⟨T9, h9, X9, e9, W9, st9⟩ := stI X7 hx hZ e7 Ar9 (j := (2 : Int32)) hin9 (g := (mkF m 22 #[.val (.ref va)] [(.int us), (.int (2 : Int32)), (.ref vf)])) rfl rfl (hb hby d4_22)
  have V9 : Ary Z h9 vf .int [(.int f0), (.int f1), (.int us)] := Ary.put Ar9 Sl9 W9 rfl
  have N9 := Fr.snoc X9 N2 g_vf
  refine Goal.to (B := T9.setTop (mkF m 23 #[.val (.ref va)] [])) st9 ?_
  have f10 : Keep h0 h9 [va, vf] := (((Keep.refl h0 [va, vf]).wr W2 (Or.inl (List.mem_of_getElem? (i := 0) rfl))).wr W9 (Or.inl (List.mem_of_getElem? (i := 1) rfl)))
  have f11 : Fld Z h9 va "com/example/pattern_automaton/patternautomaton/NonZeroTransitions" "first" "[I" (.ref vf) := (f3.other W9 (Or.inl ne_va_vf))
  have f12 : Fld Z h9 va "com/example/pattern_automaton/patternautomaton/NonZeroTransitions" "rows" "[I" (.ref vr) := ((F_rows_va.other W2 (Or.inr (slot_ne (Or.inl (hw _ (mw 14 rfl))) (Or.inl (hw _ (mw 27 rfl))) (by decide) (t := (.array .int)) (t' := .int) (by decide) (by decide)))).other W9 (Or.inl ne_va_vf))
  have f13 : Fld Z h9 va "com/example/pattern_automaton/patternautomaton/NonZeroTransitions" "targets" "[I" (.ref vt) := ((F_targets_va.other W2 (Or.inr (slot_ne (Or.inl (hw _ (mw 16 rfl))) (Or.inl (hw _ (mw 27 rfl))) (by decide) (t := (.array .int)) (t' := .int) (by decide) (by decide)))).other W9 (Or.inl ne_va_vf))
  have f14 : Fld Z h9 va "com/example/pattern_automaton/patternautomaton/NonZeroTransitions" "size" "I" (.int us) := (f6.other W9 (Or.inl ne_va_vf))
  have f15 : Fld Z h9 va "com/example/pattern_automaton/patternautomaton/NonZeroTransitions" "ended" "I" (.int (2 : Int32)) := (Fw2.other W9 (Or.inl ne_va_vf))
  exact Goal.retN X9 hx Bd.returns (hb hby d4_23) hlk e9 ⟨rfl, N9, f10, f11, f12, f13, f14, f15, V9⟩ (by decide) (by decide)
theorem ef_5 (m : MethodId) (x0 : Addr) (x1 : Int32)  : entryFrame m #[(.ref x0), (.int x1)] 2 = mkF m 0 #[.val (.ref x0), .val (.int x1)] [] := by first | (simp [entryFrame, mkF, argsToLocals, Value.category]; done) | rfl
theorem pn_5 : plainName "com/example/pattern_automaton/patternautomaton/NonZeroTransitions" = true := by first | (simp [plainName, overriddenIn]; done) | decide +kernel
theorem d5_0 : decode prog_33_method_4_code 0 = .ok (.aload_n 0, 1) := by decide +kernel
theorem d5_1 : decode prog_33_method_4_code 1 = .ok (.getfield 7, 3) := by decide +kernel
theorem d5_4 : decode prog_33_method_4_code 4 = .ok (.iload_n 1, 1) := by decide +kernel
theorem d5_5 : decode prog_33_method_4_code 5 = .ok (.iaload, 1) := by decide +kernel
theorem d5_6 : decode prog_33_method_4_code 6 = .ok (.ireturn, 1) := by decide +kernel
def Qfi0 (Z : State) (va : Addr) (vf : Addr) (f0 : Int32) (f1 : Int32) (f2 : Int32) (h0 : Heap) (n0 : Nat) (v : Option Value) (h : Heap) (L : List Loc) : Prop := v = some (.int f0) ∧ Fr n0 L ∧ h = h0
set_option maxRecDepth 65536 in
set_option maxHeartbeats 40000000 in
theorem rmfi0 (l : Launch) (Z : State) (a0 : Array Value) (hw : ∀ d ∈ tables_1, d.before a0 Z = true) (ws : List Jvm.Cond) (va : Addr) (vf : Addr) (f0 : Int32) (f1 : Int32) (f2 : Int32) (h0 : Heap) (n0 : Nat) (Z0 : n0 ≤ h0.size) (F_first_va : Fld Z h0 va "com/example/pattern_automaton/patternautomaton/NonZeroTransitions" "first" "[I" (.ref vf)) (V_vf : Ary Z h0 vf .int [(.int f0), (.int f1), (.int f2)]) :
    MetFree l (⟨"com/example/pattern_automaton/patternautomaton/NonZeroTransitions", "first", "(I)I"⟩ : MethodName) (head1 (Jvm.Cond.code (⟨"com/example/pattern_automaton/patternautomaton/NonZeroTransitions", "first", "(I)I"⟩ : MethodName) prog_33_method_4_code 2 (some .int) :: ws) ({ frames := 0, cells := 0, slots := 0, locals := 0 } : Room)) (fun a U => a = #[(.ref va), (.int (0 : Int32))] ∧ Z.Warmed39 U.vm ∧ U.heap = h0) (fun _ _ _ _ _ => True) (fun _ U o U' => ∃ v L, o = .returned v ∧ Qfi0 Z va vf f0 f1 f2 h0 n0 v U'.heap L ∧ FrameEnd U o U' L 0 0) := by
  refine MetFree.of_bodySF (plainFor_of_name pn_5) hisR ?_
  intro p e s m args below meth c s₁ Bd hml0 hP hK
  obtain ⟨rfl, hZ, hh⟩ := hP
  have hx := Bd.exec
  have hby := Bd.bytes
  have hml : c.maxLocals = 2 := hml0
  have hown : s.vm.findClass "com/example/pattern_automaton/patternautomaton/NonZeroTransitions" = some m.cls := findClass_of_methodNamed Bd.named
  have hnm := (name_of_methodNamed Bd.named Bd.method).1
  have X0 : Stand p l e ({ frames := 0, cells := 0, slots := 0, locals := 0 } : Room) s m #[(.ref va), (.int (0 : Int32))] below meth c s₁ [] 0 0 := Stand.of_body Bd
  have e0 : s₁.heap = h0 := by rw [← hh, Bd.state]; rfl
  have N0 := Fr.nil n0
  have hlk : meth.locks = false := BodyLoose.notSynchronized Bd
  show Goal p e below s (Qfi0 Z va vf f0 f1 f2 h0 n0) 0 0 (s₁.setTop (entryFrame m #[(.ref va), (.int (0 : Int32))] 2))
  refine Goal.to (B := s₁.setTop (mkF m 0 #[.val (.ref va), .val (.int (0 : Int32))] [])) (fun tt kk => castTop (ef_5 m va (0 : Int32) ) kk) ?_
  refine Goal.to (B := s₁.setTop (mkF m 1 #[.val (.ref va), .val (.int (0 : Int32))] [(.ref va)])) (fun tt kk => ?_) ?_
  · show Steps p.tables e below (s₁.setTop (mkF m 0 #[.val (.ref va), .val (.int (0 : Int32))] [])) tt
    refine XS.aloadN X0.here hx rfl (hb hby d5_0) rfl rfl ?_
    exact kk
  obtain ⟨T1, X1, e1, st1⟩ := getF X0 hx hZ hown (host := "") (Or.inl (hw _ (mw 11 rfl))) Via.refl e0 F_first_va (g := (mkF m 1 #[.val (.ref va), .val (.int (0 : Int32))] [(.ref va)])) rfl rfl (hb hby d5_1)
  refine Goal.to (B := T1.setTop (mkF m 4 #[.val (.ref va), .val (.int (0 : Int32))] [(.ref vf)])) st1 ?_
  refine Goal.to (B := T1.setTop (mkF m 5 #[.val (.ref va), .val (.int (0 : Int32))] [(.int (0 : Int32)), (.ref vf)])) (fun tt kk => ?_) ?_
  · show Steps p.tables e below (T1.setTop (mkF m 4 #[.val (.ref va), .val (.int (0 : Int32))] [(.ref vf)])) tt
    refine XS.iloadN X1.here hx rfl (hb hby d5_4) rfl ?_
    exact kk
  obtain ⟨cl2, Ar2, Sl2⟩ := id V_vf
  have hin2 := inA (cl := cl2) Sl2 (j := (0 : Int32)) (by decide) (Nat.le_of_ble_eq_true rfl)
  have hat2 : cl2.slots[((0 : Int32)).toNatClampNeg]? = some (.int f0) := atA Sl2 rfl
  refine Goal.to (B := T1.setTop (mkF m 6 #[.val (.ref va), .val (.int (0 : Int32))] [(.int f0)])) (fun tt kk => ?_) ?_
  · show Steps p.tables e below (T1.setTop (mkF m 5 #[.val (.ref va), .val (.int (0 : Int32))] [(.int (0 : Int32)), (.ref vf)])) tt
    refine X1.iaload hx (j := (0 : Int32)) (v := (.int f0)) (by rw [e1]; exact Ar2.1) (State.isArrayOf_alike hZ.alike Ar2.2.1) Ar2.2.2 hin2 hat2 (g := (mkF m 5 #[.val (.ref va), .val (.int (0 : Int32))] [(.int (0 : Int32)), (.ref vf)])) rfl rfl (hb hby d5_5) _ ?_
    exact kk
  exact Goal.retV X1 hx Bd.returns rfl (Or.inl ⟨rfl, Or.inl rfl, _, rfl⟩) (hb hby d5_6) hlk e1 ⟨rfl, N0, rfl⟩ (by decide) (by decide)
theorem ef_6 (m : MethodId) (x0 : Addr) (x1 : Int32)  : entryFrame m #[(.ref x0), (.int x1)] 2 = mkF m 0 #[.val (.ref x0), .val (.int x1)] [] := by first | (simp [entryFrame, mkF, argsToLocals, Value.category]; done) | rfl
theorem pn_6 : plainName "com/example/pattern_automaton/patternautomaton/NonZeroTransitions" = true := by first | (simp [plainName, overriddenIn]; done) | decide +kernel
theorem d6_0 : decode prog_33_method_5_code 0 = .ok (.aload_n 0, 1) := by decide +kernel
theorem d6_1 : decode prog_33_method_5_code 1 = .ok (.getfield 7, 3) := by decide +kernel
theorem d6_4 : decode prog_33_method_5_code 4 = .ok (.iload_n 1, 1) := by decide +kernel
theorem d6_5 : decode prog_33_method_5_code 5 = .ok (.iconst 1, 1) := by decide +kernel
theorem d6_6 : decode prog_33_method_5_code 6 = .ok (.iadd, 1) := by decide +kernel
theorem d6_7 : decode prog_33_method_5_code 7 = .ok (.iaload, 1) := by decide +kernel
theorem d6_8 : decode prog_33_method_5_code 8 = .ok (.ireturn, 1) := by decide +kernel
def Qen0 (Z : State) (va : Addr) (vf : Addr) (f0 : Int32) (f1 : Int32) (f2 : Int32) (h0 : Heap) (n0 : Nat) (v : Option Value) (h : Heap) (L : List Loc) : Prop := v = some (.int f1) ∧ Fr n0 L ∧ h = h0
set_option maxRecDepth 65536 in
set_option maxHeartbeats 40000000 in
theorem rmen0 (l : Launch) (Z : State) (a0 : Array Value) (hw : ∀ d ∈ tables_1, d.before a0 Z = true) (ws : List Jvm.Cond) (va : Addr) (vf : Addr) (f0 : Int32) (f1 : Int32) (f2 : Int32) (h0 : Heap) (n0 : Nat) (Z0 : n0 ≤ h0.size) (F_first_va : Fld Z h0 va "com/example/pattern_automaton/patternautomaton/NonZeroTransitions" "first" "[I" (.ref vf)) (V_vf : Ary Z h0 vf .int [(.int f0), (.int f1), (.int f2)]) :
    MetFree l (⟨"com/example/pattern_automaton/patternautomaton/NonZeroTransitions", "end", "(I)I"⟩ : MethodName) (head1 (Jvm.Cond.code (⟨"com/example/pattern_automaton/patternautomaton/NonZeroTransitions", "end", "(I)I"⟩ : MethodName) prog_33_method_5_code 2 (some .int) :: ws) ({ frames := 0, cells := 0, slots := 0, locals := 0 } : Room)) (fun a U => a = #[(.ref va), (.int (0 : Int32))] ∧ Z.Warmed39 U.vm ∧ U.heap = h0) (fun _ _ _ _ _ => True) (fun _ U o U' => ∃ v L, o = .returned v ∧ Qen0 Z va vf f0 f1 f2 h0 n0 v U'.heap L ∧ FrameEnd U o U' L 0 0) := by
  refine MetFree.of_bodySF (plainFor_of_name pn_6) hisR ?_
  intro p e s m args below meth c s₁ Bd hml0 hP hK
  obtain ⟨rfl, hZ, hh⟩ := hP
  have hx := Bd.exec
  have hby := Bd.bytes
  have hml : c.maxLocals = 2 := hml0
  have hown : s.vm.findClass "com/example/pattern_automaton/patternautomaton/NonZeroTransitions" = some m.cls := findClass_of_methodNamed Bd.named
  have hnm := (name_of_methodNamed Bd.named Bd.method).1
  have X0 : Stand p l e ({ frames := 0, cells := 0, slots := 0, locals := 0 } : Room) s m #[(.ref va), (.int (0 : Int32))] below meth c s₁ [] 0 0 := Stand.of_body Bd
  have e0 : s₁.heap = h0 := by rw [← hh, Bd.state]; rfl
  have N0 := Fr.nil n0
  have hlk : meth.locks = false := BodyLoose.notSynchronized Bd
  show Goal p e below s (Qen0 Z va vf f0 f1 f2 h0 n0) 0 0 (s₁.setTop (entryFrame m #[(.ref va), (.int (0 : Int32))] 2))
  refine Goal.to (B := s₁.setTop (mkF m 0 #[.val (.ref va), .val (.int (0 : Int32))] [])) (fun tt kk => castTop (ef_6 m va (0 : Int32) ) kk) ?_
  refine Goal.to (B := s₁.setTop (mkF m 1 #[.val (.ref va), .val (.int (0 : Int32))] [(.ref va)])) (fun tt kk => ?_) ?_
  · show Steps p.tables e below (s₁.setTop (mkF m 0 #[.val (.ref va), .val (.int (0 : Int32))] [])) tt
    refine XS.aloadN X0.here hx rfl (hb hby d6_0) rfl rfl ?_
    exact kk
  obtain ⟨T1, X1, e1, st1⟩ := getF X0 hx hZ hown (host := "") (Or.inl (hw _ (mw 11 rfl))) Via.refl e0 F_first_va (g := (mkF m 1 #[.val (.ref va), .val (.int (0 : Int32))] [(.ref va)])) rfl rfl (hb hby d6_1)
  refine Goal.to (B := T1.setTop (mkF m 4 #[.val (.ref va), .val (.int (0 : Int32))] [(.ref vf)])) st1 ?_
  refine Goal.to (B := T1.setTop (mkF m 7 #[.val (.ref va), .val (.int (0 : Int32))] [(.int (1 : Int32)), (.ref vf)])) (fun tt kk => ?_) ?_
  · show Steps p.tables e below (T1.setTop (mkF m 4 #[.val (.ref va), .val (.int (0 : Int32))] [(.ref vf)])) tt
    refine XS.iloadN X1.here hx rfl (hb hby d6_4) rfl ?_
    show Steps p.tables e below (T1.setTop (mkF m 5 #[.val (.ref va), .val (.int (0 : Int32))] [(.int (0 : Int32)), (.ref vf)])) tt
    refine XS.iconst X1.here hx rfl (hb hby d6_5) ?_
    show Steps p.tables e below (T1.setTop (mkF m 6 #[.val (.ref va), .val (.int (0 : Int32))] [(.int (1 : Int32)), (.int (0 : Int32)), (.ref vf)])) tt
    refine XS.iadd X1.here hx rfl (hb hby d6_6) rfl ?_
    exact kk
  obtain ⟨cl2, Ar2, Sl2⟩ := id V_vf
  have hin2 := inA (cl := cl2) Sl2 (j := (1 : Int32)) (by decide) (Nat.le_of_ble_eq_true rfl)
  have hat2 : cl2.slots[((1 : Int32)).toNatClampNeg]? = some (.int f1) := atA Sl2 rfl
  refine Goal.to (B := T1.setTop (mkF m 8 #[.val (.ref va), .val (.int (0 : Int32))] [(.int f1)])) (fun tt kk => ?_) ?_
  · show Steps p.tables e below (T1.setTop (mkF m 7 #[.val (.ref va), .val (.int (0 : Int32))] [(.int (1 : Int32)), (.ref vf)])) tt
    refine X1.iaload hx (j := (1 : Int32)) (v := (.int f1)) (by rw [e1]; exact Ar2.1) (State.isArrayOf_alike hZ.alike Ar2.2.1) Ar2.2.2 hin2 hat2 (g := (mkF m 7 #[.val (.ref va), .val (.int (0 : Int32))] [(.int (1 : Int32)), (.ref vf)])) rfl rfl (hb hby d6_7) _ ?_
    exact kk
  exact Goal.retV X1 hx Bd.returns rfl (Or.inl ⟨rfl, Or.inl rfl, _, rfl⟩) (hb hby d6_8) hlk e1 ⟨rfl, N0, rfl⟩ (by decide) (by decide)
def Qfi1 (Z : State) (va : Addr) (vf : Addr) (f0 : Int32) (f1 : Int32) (f2 : Int32) (h0 : Heap) (n0 : Nat) (v : Option Value) (h : Heap) (L : List Loc) : Prop := v = some (.int f1) ∧ Fr n0 L ∧ h = h0
set_option maxRecDepth 65536 in
set_option maxHeartbeats 40000000 in
theorem rmfi1 (l : Launch) (Z : State) (a0 : Array Value) (hw : ∀ d ∈ tables_1, d.before a0 Z = true) (ws : List Jvm.Cond) (va : Addr) (vf : Addr) (f0 : Int32) (f1 : Int32) (f2 : Int32) (h0 : Heap) (n0 : Nat) (Z0 : n0 ≤ h0.size) (F_first_va : Fld Z h0 va "com/example/pattern_automaton/patternautomaton/NonZeroTransitions" "first" "[I" (.ref vf)) (V_vf : Ary Z h0 vf .int [(.int f0), (.int f1), (.int f2)]) :
    MetFree l (⟨"com/example/pattern_automaton/patternautomaton/NonZeroTransitions", "first", "(I)I"⟩ : MethodName) (head1 (Jvm.Cond.code (⟨"com/example/pattern_automaton/patternautomaton/NonZeroTransitions", "first", "(I)I"⟩ : MethodName) prog_33_method_4_code 2 (some .int) :: ws) ({ frames := 0, cells := 0, slots := 0, locals := 0 } : Room)) (fun a U => a = #[(.ref va), (.int (1 : Int32))] ∧ Z.Warmed39 U.vm ∧ U.heap = h0) (fun _ _ _ _ _ => True) (fun _ U o U' => ∃ v L, o = .returned v ∧ Qfi1 Z va vf f0 f1 f2 h0 n0 v U'.heap L ∧ FrameEnd U o U' L 0 0) := by
  refine MetFree.of_bodySF (plainFor_of_name pn_5) hisR ?_
  intro p e s m args below meth c s₁ Bd hml0 hP hK
  obtain ⟨rfl, hZ, hh⟩ := hP
  have hx := Bd.exec
  have hby := Bd.bytes
  have hml : c.maxLocals = 2 := hml0
  have hown : s.vm.findClass "com/example/pattern_automaton/patternautomaton/NonZeroTransitions" = some m.cls := findClass_of_methodNamed Bd.named
  have hnm := (name_of_methodNamed Bd.named Bd.method).1
  have X0 : Stand p l e ({ frames := 0, cells := 0, slots := 0, locals := 0 } : Room) s m #[(.ref va), (.int (1 : Int32))] below meth c s₁ [] 0 0 := Stand.of_body Bd
  have e0 : s₁.heap = h0 := by rw [← hh, Bd.state]; rfl
  have N0 := Fr.nil n0
  have hlk : meth.locks = false := BodyLoose.notSynchronized Bd
  show Goal p e below s (Qfi1 Z va vf f0 f1 f2 h0 n0) 0 0 (s₁.setTop (entryFrame m #[(.ref va), (.int (1 : Int32))] 2))
  refine Goal.to (B := s₁.setTop (mkF m 0 #[.val (.ref va), .val (.int (1 : Int32))] [])) (fun tt kk => castTop (ef_5 m va (1 : Int32) ) kk) ?_
  refine Goal.to (B := s₁.setTop (mkF m 1 #[.val (.ref va), .val (.int (1 : Int32))] [(.ref va)])) (fun tt kk => ?_) ?_
  · show Steps p.tables e below (s₁.setTop (mkF m 0 #[.val (.ref va), .val (.int (1 : Int32))] [])) tt
    refine XS.aloadN X0.here hx rfl (hb hby d5_0) rfl rfl ?_
    exact kk
  obtain ⟨T1, X1, e1, st1⟩ := getF X0 hx hZ hown (host := "") (Or.inl (hw _ (mw 11 rfl))) Via.refl e0 F_first_va (g := (mkF m 1 #[.val (.ref va), .val (.int (1 : Int32))] [(.ref va)])) rfl rfl (hb hby d5_1)
  refine Goal.to (B := T1.setTop (mkF m 4 #[.val (.ref va), .val (.int (1 : Int32))] [(.ref vf)])) st1 ?_
  refine Goal.to (B := T1.setTop (mkF m 5 #[.val (.ref va), .val (.int (1 : Int32))] [(.int (1 : Int32)), (.ref vf)])) (fun tt kk => ?_) ?_
  · show Steps p.tables e below (T1.setTop (mkF m 4 #[.val (.ref va), .val (.int (1 : Int32))] [(.ref vf)])) tt
    refine XS.iloadN X1.here hx rfl (hb hby d5_4) rfl ?_
    exact kk
  obtain ⟨cl2, Ar2, Sl2⟩ := id V_vf
  have hin2 := inA (cl := cl2) Sl2 (j := (1 : Int32)) (by decide) (Nat.le_of_ble_eq_true rfl)
  have hat2 : cl2.slots[((1 : Int32)).toNatClampNeg]? = some (.int f1) := atA Sl2 rfl
  refine Goal.to (B := T1.setTop (mkF m 6 #[.val (.ref va), .val (.int (1 : Int32))] [(.int f1)])) (fun tt kk => ?_) ?_
  · show Steps p.tables e below (T1.setTop (mkF m 5 #[.val (.ref va), .val (.int (1 : Int32))] [(.int (1 : Int32)), (.ref vf)])) tt
    refine X1.iaload hx (j := (1 : Int32)) (v := (.int f1)) (by rw [e1]; exact Ar2.1) (State.isArrayOf_alike hZ.alike Ar2.2.1) Ar2.2.2 hin2 hat2 (g := (mkF m 5 #[.val (.ref va), .val (.int (1 : Int32))] [(.int (1 : Int32)), (.ref vf)])) rfl rfl (hb hby d5_5) _ ?_
    exact kk
  exact Goal.retV X1 hx Bd.returns rfl (Or.inl ⟨rfl, Or.inl rfl, _, rfl⟩) (hb hby d5_6) hlk e1 ⟨rfl, N0, rfl⟩ (by decide) (by decide)
def Qen1 (Z : State) (va : Addr) (vf : Addr) (f0 : Int32) (f1 : Int32) (f2 : Int32) (h0 : Heap) (n0 : Nat) (v : Option Value) (h : Heap) (L : List Loc) : Prop := v = some (.int f2) ∧ Fr n0 L ∧ h = h0
set_option maxRecDepth 65536 in
set_option maxHeartbeats 40000000 in
theorem rmen1 (l : Launch) (Z : State) (a0 : Array Value) (hw : ∀ d ∈ tables_1, d.before a0 Z = true) (ws : List Jvm.Cond) (va : Addr) (vf : Addr) (f0 : Int32) (f1 : Int32) (f2 : Int32) (h0 : Heap) (n0 : Nat) (Z0 : n0 ≤ h0.size) (F_first_va : Fld Z h0 va "com/example/pattern_automaton/patternautomaton/NonZeroTransitions" "first" "[I" (.ref vf)) (V_vf : Ary Z h0 vf .int [(.int f0), (.int f1), (.int f2)]) :
    MetFree l (⟨"com/example/pattern_automaton/patternautomaton/NonZeroTransitions", "end", "(I)I"⟩ : MethodName) (head1 (Jvm.Cond.code (⟨"com/example/pattern_automaton/patternautomaton/NonZeroTransitions", "end", "(I)I"⟩ : MethodName) prog_33_method_5_code 2 (some .int) :: ws) ({ frames := 0, cells := 0, slots := 0, locals := 0 } : Room)) (fun a U => a = #[(.ref va), (.int (1 : Int32))] ∧ Z.Warmed39 U.vm ∧ U.heap = h0) (fun _ _ _ _ _ => True) (fun _ U o U' => ∃ v L, o = .returned v ∧ Qen1 Z va vf f0 f1 f2 h0 n0 v U'.heap L ∧ FrameEnd U o U' L 0 0) := by
  refine MetFree.of_bodySF (plainFor_of_name pn_6) hisR ?_
  intro p e s m args below meth c s₁ Bd hml0 hP hK
  obtain ⟨rfl, hZ, hh⟩ := hP
  have hx := Bd.exec
  have hby := Bd.bytes
  have hml : c.maxLocals = 2 := hml0
  have hown : s.vm.findClass "com/example/pattern_automaton/patternautomaton/NonZeroTransitions" = some m.cls := findClass_of_methodNamed Bd.named
  have hnm := (name_of_methodNamed Bd.named Bd.method).1
  have X0 : Stand p l e ({ frames := 0, cells := 0, slots := 0, locals := 0 } : Room) s m #[(.ref va), (.int (1 : Int32))] below meth c s₁ [] 0 0 := Stand.of_body Bd
  have e0 : s₁.heap = h0 := by rw [← hh, Bd.state]; rfl
  have N0 := Fr.nil n0
  have hlk : meth.locks = false := BodyLoose.notSynchronized Bd
  show Goal p e below s (Qen1 Z va vf f0 f1 f2 h0 n0) 0 0 (s₁.setTop (entryFrame m #[(.ref va), (.int (1 : Int32))] 2))
  refine Goal.to (B := s₁.setTop (mkF m 0 #[.val (.ref va), .val (.int (1 : Int32))] [])) (fun tt kk => castTop (ef_6 m va (1 : Int32) ) kk) ?_
  refine Goal.to (B := s₁.setTop (mkF m 1 #[.val (.ref va), .val (.int (1 : Int32))] [(.ref va)])) (fun tt kk => ?_) ?_
  · show Steps p.tables e below (s₁.setTop (mkF m 0 #[.val (.ref va), .val (.int (1 : Int32))] [])) tt
    refine XS.aloadN X0.here hx rfl (hb hby d6_0) rfl rfl ?_
    exact kk
  obtain ⟨T1, X1, e1, st1⟩ := getF X0 hx hZ hown (host := "") (Or.inl (hw _ (mw 11 rfl))) Via.refl e0 F_first_va (g := (mkF m 1 #[.val (.ref va), .val (.int (1 : Int32))] [(.ref va)])) rfl rfl (hb hby d6_1)
  refine Goal.to (B := T1.setTop (mkF m 4 #[.val (.ref va), .val (.int (1 : Int32))] [(.ref vf)])) st1 ?_
  refine Goal.to (B := T1.setTop (mkF m 7 #[.val (.ref va), .val (.int (1 : Int32))] [(.int (2 : Int32)), (.ref vf)])) (fun tt kk => ?_) ?_
  · show Steps p.tables e below (T1.setTop (mkF m 4 #[.val (.ref va), .val (.int (1 : Int32))] [(.ref vf)])) tt
    refine XS.iloadN X1.here hx rfl (hb hby d6_4) rfl ?_
    show Steps p.tables e below (T1.setTop (mkF m 5 #[.val (.ref va), .val (.int (1 : Int32))] [(.int (1 : Int32)), (.ref vf)])) tt
    refine XS.iconst X1.here hx rfl (hb hby d6_5) ?_
    show Steps p.tables e below (T1.setTop (mkF m 6 #[.val (.ref va), .val (.int (1 : Int32))] [(.int (1 : Int32)), (.int (1 : Int32)), (.ref vf)])) tt
    refine XS.iadd X1.here hx rfl (hb hby d6_6) rfl ?_
    exact kk
  obtain ⟨cl2, Ar2, Sl2⟩ := id V_vf
  have hin2 := inA (cl := cl2) Sl2 (j := (2 : Int32)) (by decide) (Nat.le_of_ble_eq_true rfl)
  have hat2 : cl2.slots[((2 : Int32)).toNatClampNeg]? = some (.int f2) := atA Sl2 rfl
  refine Goal.to (B := T1.setTop (mkF m 8 #[.val (.ref va), .val (.int (1 : Int32))] [(.int f2)])) (fun tt kk => ?_) ?_
  · show Steps p.tables e below (T1.setTop (mkF m 7 #[.val (.ref va), .val (.int (1 : Int32))] [(.int (2 : Int32)), (.ref vf)])) tt
    refine X1.iaload hx (j := (2 : Int32)) (v := (.int f2)) (by rw [e1]; exact Ar2.1) (State.isArrayOf_alike hZ.alike Ar2.2.1) Ar2.2.2 hin2 hat2 (g := (mkF m 7 #[.val (.ref va), .val (.int (1 : Int32))] [(.int (2 : Int32)), (.ref vf)])) rfl rfl (hb hby d6_7) _ ?_
    exact kk
  exact Goal.retV X1 hx Bd.returns rfl (Or.inl ⟨rfl, Or.inl rfl, _, rfl⟩) (hb hby d6_8) hlk e1 ⟨rfl, N0, rfl⟩ (by decide) (by decide)
theorem ef_0 (m : MethodId) (x0 : Int32) (x1 : Int32) (x2 : Int32) (x3 : Int32)  : entryFrame m #[(.int x0), (.int x1), (.int x2), (.int x3)] maxLocals = mkF m 0 #[.val (.int x0), .val (.int x1), .val (.int x2), .val (.int x3), .unset, .unset, .unset, .unset] [] := by first | (simp [entryFrame, mkF, argsToLocals, Value.category, maxLocals]; done) | rfl
theorem pn_0 : plainName "com/example/pattern_automaton/patternautomaton/NonZeroTransitionsEndStatePinLaw" = true := by first | (simp [plainName, overriddenIn]; done) | decide +kernel
theorem pd_0 : parseMethodDescriptor "(I)V" = some ⟨[.int], none⟩ := by decide +kernel
theorem pd_2 : parseMethodDescriptor "(Lcom/example/pattern_automaton/patternautomaton/NonZeroTransitions;III)V" = some ⟨[(.object "com/example/pattern_automaton/patternautomaton/NonZeroTransitions"), .int, .int, .int], none⟩ := by decide +kernel
theorem pd_1 : parseMethodDescriptor "()V" = some ⟨[], none⟩ := by decide +kernel
theorem pd_3 : parseMethodDescriptor "(I)I" = some ⟨[.int], some .int⟩ := by decide +kernel
def Q0 (Z : State) (v0 : Int32) (v1 : Int32) (v2 : Int32) (v3 : Int32) (h0 : Heap) (n0 : Nat) (v : Option Value) (h : Heap) (L : List Loc) : Prop := v = some (.int (1 : Int32)) ∧ Fr n0 L
set_option maxRecDepth 65536 in
set_option maxHeartbeats 40000000 in
theorem rm0 (l : Launch) (Z : State) (a0 : Array Value) (hw : ∀ d ∈ tables_1, d.before a0 Z = true) (ws : List Jvm.Cond) (v0 : Int32) (v1 : Int32) (v2 : Int32) (v3 : Int32) (h0 : Heap) (n0 : Nat) (Z0 : n0 ≤ h0.size) :
    MetFree l x (head1 (Jvm.Cond.code x code maxLocals ret :: ws) room_1) (fun a U => a = #[(.int v0), (.int v1), (.int v2), (.int v3)] ∧ Z.Warmed39 U.vm ∧ U.heap = h0) (fun _ _ _ _ _ => True) (fun _ U o U' => ∃ v L, o = .returned v ∧ Q0 Z v0 v1 v2 v3 h0 n0 v U'.heap L ∧ FrameEnd U o U' L 24 128) := by
  refine MetFree.of_bodySF (plainFor_of_name pn_0) hisR ?_
  intro p e s m args below meth c s₁ Bd hml0 hP hK
  obtain ⟨rfl, hZ, hh⟩ := hP
  have hx := Bd.exec
  have hby := Bd.bytes
  have hml : c.maxLocals = 8 := hml0
  have hown : s.vm.findClass "com/example/pattern_automaton/patternautomaton/NonZeroTransitionsEndStatePinLaw" = some m.cls := findClass_of_methodNamed Bd.named
  have hnm := (name_of_methodNamed Bd.named Bd.method).1
  have X0 : Stand p l e room_1 s m #[(.int v0), (.int v1), (.int v2), (.int v3)] below meth c s₁ [] 0 0 := Stand.of_body Bd
  have e0 : s₁.heap = h0 := by rw [← hh, Bd.state]; rfl
  have N0 := Fr.nil n0
  have hlk : meth.locks = false := BodyLoose.notSynchronized Bd
  show Goal p e below s (Q0 Z v0 v1 v2 v3 h0 n0) 24 128 (s₁.setTop (entryFrame m #[(.int v0), (.int v1), (.int v2), (.int v3)] maxLocals))
  refine Goal.to (B := s₁.setTop (mkF m 0 #[.val (.int v0), .val (.int v1), .val (.int v2), .val (.int v3), .unset, .unset, .unset, .unset] [])) (fun tt kk => castTop (ef_0 m v0 v1 v2 v3 ) kk) ?_
  obtain ⟨na, hna⟩ : ∃ z : Int32, z = ((v0 &&& (2147483647 : Int32)) % (3 : Int32)) := ⟨_, rfl⟩
  refine Goal.to (B := s₁.setTop (mkF m 8 #[.val (.int v0), .val (.int v1), .val (.int v2), .val (.int v3), .val (.int na), .unset, .unset, .unset] [])) (fun tt kk => ?_) ?_
  · subst hna
    show Steps p.tables e below (s₁.setTop (mkF m 0 #[.val (.int v0), .val (.int v1), .val (.int v2), .val (.int v3), .unset, .unset, .unset, .unset] [])) tt
    refine XS.iloadN X0.here hx rfl (hb hby at_0) rfl ?_
    show Steps p.tables e below (s₁.setTop (mkF m 1 #[.val (.int v0), .val (.int v1), .val (.int v2), .val (.int v3), .unset, .unset, .unset, .unset] [(.int v0)])) tt
    refine X0.ldcInt hx hown (mvT hZ (hw _ (mw 0 rfl))) (g := (mkF m 1 #[.val (.int v0), .val (.int v1), .val (.int v2), .val (.int v3), .unset, .unset, .unset, .unset] [(.int v0)])) rfl (hb hby at_1) _ ?_
    show Steps p.tables e below (s₁.setTop (mkF m 3 #[.val (.int v0), .val (.int v1), .val (.int v2), .val (.int v3), .unset, .unset, .unset, .unset] [(.int (2147483647 : Int32)), (.int v0)])) tt
    refine XS.iand X0.here hx rfl (hb hby at_3) rfl ?_
    show Steps p.tables e below (s₁.setTop (mkF m 4 #[.val (.int v0), .val (.int v1), .val (.int v2), .val (.int v3), .unset, .unset, .unset, .unset] [(.int (v0 &&& (2147483647 : Int32)))])) tt
    refine XS.iconst X0.here hx rfl (hb hby at_4) ?_
    show Steps p.tables e below (s₁.setTop (mkF m 5 #[.val (.int v0), .val (.int v1), .val (.int v2), .val (.int v3), .unset, .unset, .unset, .unset] [(.int (3 : Int32)), (.int (v0 &&& (2147483647 : Int32)))])) tt
    refine iremM X0 hx rfl (hb hby at_5) rfl (by decide) ?_
    show Steps p.tables e below (s₁.setTop (mkF m 6 #[.val (.int v0), .val (.int v1), .val (.int v2), .val (.int v3), .unset, .unset, .unset, .unset] [(.int ((v0 &&& (2147483647 : Int32)) % (3 : Int32)))])) tt
    refine XS.istore X0.here hx rfl (hb hby at_6) rfl (l' := #[.val (.int v0), .val (.int v1), .val (.int v2), .val (.int v3), .val (.int ((v0 &&& (2147483647 : Int32)) % (3 : Int32))), .unset, .unset, .unset]) rfl ?_
    exact kk
  obtain ⟨nb, hnb⟩ : ∃ z : Int32, z = ((v1 &&& (2147483647 : Int32)) % (3 : Int32)) := ⟨_, rfl⟩
  refine Goal.to (B := s₁.setTop (mkF m 16 #[.val (.int v0), .val (.int v1), .val (.int v2), .val (.int v3), .val (.int na), .val (.int nb), .unset, .unset] [])) (fun tt kk => ?_) ?_
  · subst hnb
    show Steps p.tables e below (s₁.setTop (mkF m 8 #[.val (.int v0), .val (.int v1), .val (.int v2), .val (.int v3), .val (.int na), .unset, .unset, .unset] [])) tt
    refine XS.iloadN X0.here hx rfl (hb hby at_8) rfl ?_
    show Steps p.tables e below (s₁.setTop (mkF m 9 #[.val (.int v0), .val (.int v1), .val (.int v2), .val (.int v3), .val (.int na), .unset, .unset, .unset] [(.int v1)])) tt
    refine X0.ldcInt hx hown (mvT hZ (hw _ (mw 0 rfl))) (g := (mkF m 9 #[.val (.int v0), .val (.int v1), .val (.int v2), .val (.int v3), .val (.int na), .unset, .unset, .unset] [(.int v1)])) rfl (hb hby at_9) _ ?_
    show Steps p.tables e below (s₁.setTop (mkF m 11 #[.val (.int v0), .val (.int v1), .val (.int v2), .val (.int v3), .val (.int na), .unset, .unset, .unset] [(.int (2147483647 : Int32)), (.int v1)])) tt
    refine XS.iand X0.here hx rfl (hb hby at_11) rfl ?_
    show Steps p.tables e below (s₁.setTop (mkF m 12 #[.val (.int v0), .val (.int v1), .val (.int v2), .val (.int v3), .val (.int na), .unset, .unset, .unset] [(.int (v1 &&& (2147483647 : Int32)))])) tt
    refine XS.iconst X0.here hx rfl (hb hby at_12) ?_
    show Steps p.tables e below (s₁.setTop (mkF m 13 #[.val (.int v0), .val (.int v1), .val (.int v2), .val (.int v3), .val (.int na), .unset, .unset, .unset] [(.int (3 : Int32)), (.int (v1 &&& (2147483647 : Int32)))])) tt
    refine iremM X0 hx rfl (hb hby at_13) rfl (by decide) ?_
    show Steps p.tables e below (s₁.setTop (mkF m 14 #[.val (.int v0), .val (.int v1), .val (.int v2), .val (.int v3), .val (.int na), .unset, .unset, .unset] [(.int ((v1 &&& (2147483647 : Int32)) % (3 : Int32)))])) tt
    refine XS.istore X0.here hx rfl (hb hby at_14) rfl (l' := #[.val (.int v0), .val (.int v1), .val (.int v2), .val (.int v3), .val (.int na), .val (.int ((v1 &&& (2147483647 : Int32)) % (3 : Int32))), .unset, .unset]) rfl ?_
    exact kk
  obtain ⟨T1, h1, X1, e1, E1, A1, D1, -, st1⟩ := newO X0 hx hZ hown (hw _ (mw 1 rfl)) (hw _ (mw 2 rfl)) (hw _ (mw 3 rfl)) e0 (g := (mkF m 16 #[.val (.int v0), .val (.int v1), .val (.int v2), .val (.int v3), .val (.int na), .val (.int nb), .unset, .unset] [])) rfl (hb hby at_16) (by decide) (by decide)
  obtain ⟨b1, g1⟩ : ∃ z, z = h0.size := ⟨_, rfl⟩
  rw [← g1] at A1 D1 st1
  have g_b1 : n0 ≤ b1 := Nat.le_trans Z0 (Nat.le_of_eq g1.symm)
  have F_first_b1 : Fld Z h1 b1 "com/example/pattern_automaton/patternautomaton/NonZeroTransitions" "first" "[I" .null := D1 (Or.inr (hw _ (mw 12 rfl))) (ty := (.array .int)) (by decide)
  have F_rows_b1 : Fld Z h1 b1 "com/example/pattern_automaton/patternautomaton/NonZeroTransitions" "rows" "[I" .null := D1 (Or.inl (hw _ (mw 14 rfl))) (ty := (.array .int)) (by decide)
  have F_targets_b1 : Fld Z h1 b1 "com/example/pattern_automaton/patternautomaton/NonZeroTransitions" "targets" "[I" .null := D1 (Or.inl (hw _ (mw 16 rfl))) (ty := (.array .int)) (by decide)
  have F_ended_b1 : Fld Z h1 b1 "com/example/pattern_automaton/patternautomaton/NonZeroTransitions" "ended" "I" (.int (0 : Int32)) := D1 (Or.inl (hw _ (mw 27 rfl))) (ty := .int) (by decide)
  have F_size_b1 : Fld Z h1 b1 "com/example/pattern_automaton/patternautomaton/NonZeroTransitions" "size" "I" (.int (0 : Int32)) := D1 (Or.inl (hw _ (mw 29 rfl))) (ty := .int) (by decide)
  refine Goal.to (B := T1.setTop (mkF m 19 #[.val (.int v0), .val (.int v1), .val (.int v2), .val (.int v3), .val (.int na), .val (.int nb), .unset, .unset] [(.ref b1)])) st1 ?_
  refine Goal.to (B := T1.setTop (mkF m 21 #[.val (.int v0), .val (.int v1), .val (.int v2), .val (.int v3), .val (.int na), .val (.int nb), .unset, .unset] [(.int (2 : Int32)), (.ref b1), (.ref b1)])) (fun tt kk => ?_) ?_
  · show Steps p.tables e below (T1.setTop (mkF m 19 #[.val (.int v0), .val (.int v1), .val (.int v2), .val (.int v3), .val (.int na), .val (.int nb), .unset, .unset] [(.ref b1)])) tt
    refine XS.dup X1.here hx rfl (hb hby at_19) rfl rfl ?_
    show Steps p.tables e below (T1.setTop (mkF m 20 #[.val (.int v0), .val (.int v1), .val (.int v2), .val (.int v3), .val (.int na), .val (.int nb), .unset, .unset] [(.ref b1), (.ref b1)])) tt
    refine XS.iconst X1.here hx rfl (hb hby at_20) ?_
    exact kk
  have f2 : n0 ≤ h1.size := (Nat.le_trans Z0 E1.1)
  obtain ⟨_, _, ⟨T3, L3, k3, n3⟩, -, X3, ⟨Lc3, hQ3, l3, y3, z3⟩, st3⟩ := X1.specialBack hx (y := (⟨"com/example/pattern_automaton/patternautomaton/NonZeroTransitions", "<init>", "(I)V"⟩ : MethodName)) rfl hown (mvT hZ (hw _ (mw 4 rfl))) (mvT hZ (hw _ (mw 5 rfl))) (mvT hZ (hw _ (mw 6 rfl))) (by decide) (backOf (W := 1) (rmN l Z a0 hw [] b1 h1 n0 f2 A1 F_first_b1 F_rows_b1 F_targets_b1 F_size_b1 F_ended_b1 g_b1) hZ (hw _ (mw 6 rfl)) (hw _ (mw 3 rfl)) (by decide) (by decide)) (g := (mkF m 21 #[.val (.int v0), .val (.int v1), .val (.int v2), .val (.int v3), .val (.int na), .val (.int nb), .unset, .unset] [(.int (2 : Int32)), (.ref b1), (.ref b1)])) rfl (by rw [hml]; rfl) (Steps.refl _) (a := b1) (argsL := [(.int (2 : Int32))]) (rest := [(.ref b1)]) (lenOf pd_0 rfl) rfl (by show 2 * 0 + _ ≤ _; exact Nat.le_of_eq rfl) (hb hby at_21) (fun _ _ => ⟨rfl, e1, (by decide : 1 + 3 ≤ _), (by decide : 5 + 7 ≤ _)⟩)
  dsimp only [Pt.U, Pt.locs, Pt.cells, Pt.slots] at X3 l3 y3 z3 st3 hQ3
  subst l3 y3 z3
  obtain ⟨vf_3, vr_3, vt_3, rfl, N3q, K3, sz3_vf, sz3_vr, sz3_vt, ne3_vf_vr, ne3_vf_vt, ne3_vr_vt, P3_0, P3_1, P3_2, P3_3, P3_4, P3_5, P3_6, P3_7⟩ := hQ3
  have N3 := Fr.app N0 N3q
  have ne_b1_vf_3 : b1 ≠ vf_3 := Nat.ne_of_lt (Nat.lt_of_lt_of_le A1.lt sz3_vf)
  have g_vf_3 : n0 ≤ vf_3 := Nat.le_trans f2 sz3_vf
  have ne_b1_vr_3 : b1 ≠ vr_3 := Nat.ne_of_lt (Nat.lt_of_lt_of_le A1.lt sz3_vr)
  have g_vr_3 : n0 ≤ vr_3 := Nat.le_trans f2 sz3_vr
  have ne_b1_vt_3 : b1 ≠ vt_3 := Nat.ne_of_lt (Nat.lt_of_lt_of_le A1.lt sz3_vt)
  have g_vt_3 : n0 ≤ vt_3 := Nat.le_trans f2 sz3_vt
  refine Goal.tr (B := T3.setTop (mkF m 24 #[.val (.int v0), .val (.int v1), .val (.int v2), .val (.int v3), .val (.int na), .val (.int nb), .unset, .unset] [(.ref b1)])) st3 ?_
  refine Goal.to (B := T3.setTop (mkF m 26 #[.val (.int v0), .val (.int v1), .val (.int v2), .val (.int v3), .val (.int na), .val (.int nb), .val (.ref b1), .unset] [])) (fun tt kk => ?_) ?_
  · show Steps p.tables e below (T3.setTop (mkF m 24 #[.val (.int v0), .val (.int v1), .val (.int v2), .val (.int v3), .val (.int na), .val (.int nb), .unset, .unset] [(.ref b1)])) tt
    refine XS.astore X3.here hx rfl (hb hby at_24) rfl rfl (l' := #[.val (.int v0), .val (.int v1), .val (.int v2), .val (.int v3), .val (.int na), .val (.int nb), .val (.ref b1), .unset]) rfl ?_
    exact kk
  rcases own_n hna with rfl | rfl | rfl
  · refine Goal.to (B := T3.setTop (mkF m 32 #[.val (.int v0), .val (.int v1), .val (.int v2), .val (.int v3), .val (.int (0 : Int32)), .val (.int nb), .val (.ref b1), .unset] [(.int v3), (.int v2), (.int (0 : Int32)), (.ref b1)])) (fun tt kk => ?_) ?_
    · show Steps p.tables e below (T3.setTop (mkF m 26 #[.val (.int v0), .val (.int v1), .val (.int v2), .val (.int v3), .val (.int (0 : Int32)), .val (.int nb), .val (.ref b1), .unset] [])) tt
      refine XS.aload X3.here hx rfl (hb hby at_26) rfl rfl ?_
      show Steps p.tables e below (T3.setTop (mkF m 28 #[.val (.int v0), .val (.int v1), .val (.int v2), .val (.int v3), .val (.int (0 : Int32)), .val (.int nb), .val (.ref b1), .unset] [(.ref b1)])) tt
      refine XS.iload X3.here hx rfl (hb hby at_28) rfl ?_
      show Steps p.tables e below (T3.setTop (mkF m 30 #[.val (.int v0), .val (.int v1), .val (.int v2), .val (.int v3), .val (.int (0 : Int32)), .val (.int nb), .val (.ref b1), .unset] [(.int (0 : Int32)), (.ref b1)])) tt
      refine XS.iloadN X3.here hx rfl (hb hby at_30) rfl ?_
      show Steps p.tables e below (T3.setTop (mkF m 31 #[.val (.int v0), .val (.int v1), .val (.int v2), .val (.int v3), .val (.int (0 : Int32)), .val (.int nb), .val (.ref b1), .unset] [(.int v2), (.int (0 : Int32)), (.ref b1)])) tt
      refine XS.iloadN X3.here hx rfl (hb hby at_31) rfl ?_
      exact kk
    have f4 : Exa Z T3.heap b1 "com/example/pattern_automaton/patternautomaton/NonZeroTransitions" := (A1.keep K3)
    have f5 : n0 ≤ T3.heap.size := (Nat.le_trans f2 K3.1)
    obtain ⟨_, _, ⟨T6, L6, k6, n6⟩, -, X6, ⟨Lc6, hQ6, l6, y6, z6⟩, st6⟩ := Jvm.LawKit.callS X3 hx (y := (⟨"com/example/pattern_automaton/patternautomaton/NonZeroTransitionsEndStatePinLaw", "addN", "(Lcom/example/pattern_automaton/patternautomaton/NonZeroTransitions;III)V"⟩ : MethodName)) hown (mvT hZ (hw _ (mw 17 rfl))) (mvT hZ (hw _ (mw 18 rfl))) (mvT hZ (hw _ (mw 19 rfl))) (mvT hZ (hw _ (mw 20 rfl))) (by decide) (backOf (W := 0) (rman00 l Z a0 hw [] b1 vf_3 vr_3 vt_3 (0 : Int32) (0 : Int32) (0 : Int32) (0 : Int32) (0 : Int32) v2 v3 T3.heap n0 f5 f4 P3_0 P3_1 P3_2 P3_3 P3_4 P3_6 P3_7) hZ (hw _ (mw 20 rfl)) (hw _ (mw 19 rfl)) (by decide) (by decide)) (g := (mkF m 32 #[.val (.int v0), .val (.int v1), .val (.int v2), .val (.int v3), .val (.int (0 : Int32)), .val (.int nb), .val (.ref b1), .unset] [(.int v3), (.int v2), (.int (0 : Int32)), (.ref b1)])) rfl (by rw [hml]; rfl) (argsL := [(.ref b1), (.int (0 : Int32)), (.int v2), (.int v3)]) (rest := []) (lenOf pd_2 rfl) rfl (by show 2 * 0 + _ ≤ _; exact Nat.le_of_eq rfl) (hb hby at_32) (fun _ _ => ⟨rfl, rfl, (by decide : 4 + 0 ≤ _), (by decide : 12 + 0 ≤ _)⟩)
    dsimp only [Pt.U, Pt.locs, Pt.cells, Pt.slots] at X6 l6 y6 z6 st6 hQ6
    subst l6 y6 z6
    obtain ⟨rfl, N6q, e6⟩ := hQ6
    have N6 := Fr.app N3 N6q
    refine Goal.to (B := T6.setTop (mkF m 35 #[.val (.int v0), .val (.int v1), .val (.int v2), .val (.int v3), .val (.int (0 : Int32)), .val (.int nb), .val (.ref b1), .unset] [])) st6 ?_
    refine Goal.to (B := T6.setTop (mkF m 37 #[.val (.int v0), .val (.int v1), .val (.int v2), .val (.int v3), .val (.int (0 : Int32)), .val (.int nb), .val (.ref b1), .unset] [(.ref b1)])) (fun tt kk => ?_) ?_
    · show Steps p.tables e below (T6.setTop (mkF m 35 #[.val (.int v0), .val (.int v1), .val (.int v2), .val (.int v3), .val (.int (0 : Int32)), .val (.int nb), .val (.ref b1), .unset] [])) tt
      refine XS.aload X6.here hx rfl (hb hby at_35) rfl rfl ?_
      exact kk
    obtain ⟨cq7, kq7, q7a, q7b, q7c⟩ := isOf hZ e6 f4
    obtain ⟨_, _, ⟨T7, L7, k7, n7⟩, -, X7, ⟨Lc7, hQ7, l7, y7, z7⟩, st7⟩ := X6.virtualBack hx (y := (⟨"com/example/pattern_automaton/patternautomaton/NonZeroTransitions", "endState", "()V"⟩ : MethodName)) (z := (⟨"com/example/pattern_automaton/patternautomaton/NonZeroTransitions", "endState", "()V"⟩ : MethodName)) hown (mvT hZ (hw _ (mw 21 rfl))) (mvT hZ (hw _ (mw 22 rfl))) (notFace_of_selects (args := #[]) (mvT hZ (hw _ (mw 24 rfl)))) (mvT hZ (hw _ (mw 24 rfl))) (mvT hZ (hw _ (mw 23 rfl))) (by decide) (backOf (W := 0) (rmes0 l Z a0 hw [] b1 vf_3 vr_3 vt_3 (0 : Int32) (0 : Int32) (0 : Int32) (0 : Int32) T3.heap n0 f5 f4 P3_0 P3_1 P3_2 P3_3 P3_4 P3_5 g_b1 g_vf_3 ne_b1_vf_3) hZ (hw _ (mw 25 rfl)) (hw _ (mw 3 rfl)) (by decide) (by decide)) q7a q7c (g := (mkF m 37 #[.val (.int v0), .val (.int v1), .val (.int v2), .val (.int v3), .val (.int (0 : Int32)), .val (.int nb), .val (.ref b1), .unset] [(.ref b1)])) rfl (by rw [hml]; rfl) (Steps.refl _) (argsL := []) (rest := []) (lenOf pd_1 rfl) rfl (by show 2 * 0 + _ ≤ _; exact Nat.le_of_eq rfl) (hb hby at_37) (fun _ _ => ⟨rfl, e6, (by decide : 4 + 0 ≤ _), (by decide : 12 + 0 ≤ _)⟩)
    dsimp only [Pt.U, Pt.locs, Pt.cells, Pt.slots] at X7 l7 y7 z7 st7 hQ7
    subst l7 y7 z7
    obtain ⟨rfl, N7q, K7, P7_0, P7_1, P7_2, P7_3, P7_4, P7_5⟩ := hQ7
    have N7 := Fr.app N6 N7q
    refine Goal.tr (B := T7.setTop (mkF m 40 #[.val (.int v0), .val (.int v1), .val (.int v2), .val (.int v3), .val (.int (0 : Int32)), .val (.int nb), .val (.ref b1), .unset] [])) st7 ?_
    refine Goal.to (B := T7.setTop (mkF m 43 #[.val (.int v0), .val (.int v1), .val (.int v2), .val (.int v3), .val (.int (0 : Int32)), .val (.int nb), .val (.ref b1), .unset] [(.int (0 : Int32)), (.ref b1)])) (fun tt kk => ?_) ?_
    · show Steps p.tables e below (T7.setTop (mkF m 40 #[.val (.int v0), .val (.int v1), .val (.int v2), .val (.int v3), .val (.int (0 : Int32)), .val (.int nb), .val (.ref b1), .unset] [])) tt
      refine XS.aload X7.here hx rfl (hb hby at_40) rfl rfl ?_
      show Steps p.tables e below (T7.setTop (mkF m 42 #[.val (.int v0), .val (.int v1), .val (.int v2), .val (.int v3), .val (.int (0 : Int32)), .val (.int nb), .val (.ref b1), .unset] [(.ref b1)])) tt
      refine XS.iconst X7.here hx rfl (hb hby at_42) ?_
      exact kk
    have f8 : n0 ≤ T7.heap.size := (Nat.le_trans f5 K7.1)
    have f10 : Exa Z T7.heap b1 "com/example/pattern_automaton/patternautomaton/NonZeroTransitions" := (f4.keep K7)
    obtain ⟨cq9, kq9, q9a, q9b, q9c⟩ := isOf hZ rfl f10
    obtain ⟨_, _, ⟨T9, L9, k9, n9⟩, -, X9, ⟨Lc9, hQ9, l9, y9, z9⟩, st9⟩ := X7.virtualBack hx (y := (⟨"com/example/pattern_automaton/patternautomaton/NonZeroTransitions", "first", "(I)I"⟩ : MethodName)) (z := (⟨"com/example/pattern_automaton/patternautomaton/NonZeroTransitions", "first", "(I)I"⟩ : MethodName)) hown (mvT hZ (hw _ (mw 30 rfl))) (mvT hZ (hw _ (mw 31 rfl))) (notFace_of_selects (args := #[]) (mvT hZ (hw _ (mw 33 rfl)))) (mvT hZ (hw _ (mw 33 rfl))) (mvT hZ (hw _ (mw 32 rfl))) (by decide) (backOf (W := 0) (rmfi0 l Z a0 hw [] b1 vf_3 (0 : Int32) (0 : Int32) (0 : Int32) T7.heap n0 f8 P7_0 P7_5) hZ (hw _ (mw 34 rfl)) (hw _ (mw 3 rfl)) (by decide) (by decide)) q9a q9c (g := (mkF m 43 #[.val (.int v0), .val (.int v1), .val (.int v2), .val (.int v3), .val (.int (0 : Int32)), .val (.int nb), .val (.ref b1), .unset] [(.int (0 : Int32)), (.ref b1)])) rfl (by rw [hml]; rfl) (Steps.refl _) (argsL := [(.int (0 : Int32))]) (rest := []) (lenOf pd_3 rfl) rfl (by show 2 * 0 + _ ≤ _; exact Nat.le_of_eq rfl) (hb hby at_43) (fun _ _ => ⟨rfl, rfl, (by decide : 4 + 0 ≤ _), (by decide : 12 + 0 ≤ _)⟩)
    dsimp only [Pt.U, Pt.locs, Pt.cells, Pt.slots] at X9 l9 y9 z9 st9 hQ9
    subst l9 y9 z9
    obtain ⟨rfl, N9q, e9⟩ := hQ9
    have N9 := Fr.app N7 N9q
    refine Goal.tr (B := T9.setTop (mkF m 46 #[.val (.int v0), .val (.int v1), .val (.int v2), .val (.int v3), .val (.int (0 : Int32)), .val (.int nb), .val (.ref b1), .unset] [(.int (0 : Int32))])) st9 ?_
    refine Goal.to (B := T9.setTop (mkF m 52 #[.val (.int v0), .val (.int v1), .val (.int v2), .val (.int v3), .val (.int (0 : Int32)), .val (.int nb), .val (.ref b1), .unset] [(.int (0 : Int32)), (.ref b1)])) (fun tt kk => ?_) ?_
    · show Steps p.tables e below (T9.setTop (mkF m 46 #[.val (.int v0), .val (.int v1), .val (.int v2), .val (.int v3), .val (.int (0 : Int32)), .val (.int nb), .val (.ref b1), .unset] [(.int (0 : Int32))])) tt
      refine XS.ifNo X9.here hx rfl (hb hby at_46) rfl ((if0 _ _).trans (teq (rfl : (0 : Int32) = (0 : Int32))).2) ?_
      show Steps p.tables e below (T9.setTop (mkF m 49 #[.val (.int v0), .val (.int v1), .val (.int v2), .val (.int v3), .val (.int (0 : Int32)), .val (.int nb), .val (.ref b1), .unset] [])) tt
      refine XS.aload X9.here hx rfl (hb hby at_49) rfl rfl ?_
      show Steps p.tables e below (T9.setTop (mkF m 51 #[.val (.int v0), .val (.int v1), .val (.int v2), .val (.int v3), .val (.int (0 : Int32)), .val (.int nb), .val (.ref b1), .unset] [(.ref b1)])) tt
      refine XS.iconst X9.here hx rfl (hb hby at_51) ?_
      exact kk
    obtain ⟨cq11, kq11, q11a, q11b, q11c⟩ := isOf hZ e9 f10
    obtain ⟨_, _, ⟨T11, L11, k11, n11⟩, -, X11, ⟨Lc11, hQ11, l11, y11, z11⟩, st11⟩ := X9.virtualBack hx (y := (⟨"com/example/pattern_automaton/patternautomaton/NonZeroTransitions", "end", "(I)I"⟩ : MethodName)) (z := (⟨"com/example/pattern_automaton/patternautomaton/NonZeroTransitions", "end", "(I)I"⟩ : MethodName)) hown (mvT hZ (hw _ (mw 35 rfl))) (mvT hZ (hw _ (mw 36 rfl))) (notFace_of_selects (args := #[]) (mvT hZ (hw _ (mw 38 rfl)))) (mvT hZ (hw _ (mw 38 rfl))) (mvT hZ (hw _ (mw 37 rfl))) (by decide) (backOf (W := 0) (rmen0 l Z a0 hw [] b1 vf_3 (0 : Int32) (0 : Int32) (0 : Int32) T7.heap n0 f8 P7_0 P7_5) hZ (hw _ (mw 39 rfl)) (hw _ (mw 3 rfl)) (by decide) (by decide)) q11a q11c (g := (mkF m 52 #[.val (.int v0), .val (.int v1), .val (.int v2), .val (.int v3), .val (.int (0 : Int32)), .val (.int nb), .val (.ref b1), .unset] [(.int (0 : Int32)), (.ref b1)])) rfl (by rw [hml]; rfl) (Steps.refl _) (argsL := [(.int (0 : Int32))]) (rest := []) (lenOf pd_3 rfl) rfl (by show 2 * 0 + _ ≤ _; exact Nat.le_of_eq rfl) (hb hby at_52) (fun _ _ => ⟨rfl, e9, (by decide : 4 + 0 ≤ _), (by decide : 12 + 0 ≤ _)⟩)
    dsimp only [Pt.U, Pt.locs, Pt.cells, Pt.slots] at X11 l11 y11 z11 st11 hQ11
    subst l11 y11 z11
    obtain ⟨rfl, N11q, e11⟩ := hQ11
    have N11 := Fr.app N9 N11q
    refine Goal.tr (B := T11.setTop (mkF m 55 #[.val (.int v0), .val (.int v1), .val (.int v2), .val (.int v3), .val (.int (0 : Int32)), .val (.int nb), .val (.ref b1), .unset] [(.int (0 : Int32))])) st11 ?_
    refine Goal.to (B := T11.setTop (mkF m 67 #[.val (.int v0), .val (.int v1), .val (.int v2), .val (.int v3), .val (.int (0 : Int32)), .val (.int nb), .val (.ref b1), .val (.int (1 : Int32))] [])) (fun tt kk => ?_) ?_
    · show Steps p.tables e below (T11.setTop (mkF m 55 #[.val (.int v0), .val (.int v1), .val (.int v2), .val (.int v3), .val (.int (0 : Int32)), .val (.int nb), .val (.ref b1), .unset] [(.int (0 : Int32))])) tt
      refine XS.iload X11.here hx rfl (hb hby at_55) rfl ?_
      show Steps p.tables e below (T11.setTop (mkF m 57 #[.val (.int v0), .val (.int v1), .val (.int v2), .val (.int v3), .val (.int (0 : Int32)), .val (.int nb), .val (.ref b1), .unset] [(.int (0 : Int32)), (.int (0 : Int32))])) tt
      refine XS.icmpNo X11.here hx rfl (hb hby at_57) rfl (teq (rfl : (0 : Int32) = (0 : Int32))).2 ?_
      show Steps p.tables e below (T11.setTop (mkF m 60 #[.val (.int v0), .val (.int v1), .val (.int v2), .val (.int v3), .val (.int (0 : Int32)), .val (.int nb), .val (.ref b1), .unset] [])) tt
      refine XS.iconst X11.here hx rfl (hb hby at_60) ?_
      show Steps p.tables e below (T11.setTop (mkF m 61 #[.val (.int v0), .val (.int v1), .val (.int v2), .val (.int v3), .val (.int (0 : Int32)), .val (.int nb), .val (.ref b1), .unset] [(.int (1 : Int32))])) tt
      refine XS.goto X11.here hx rfl (pc0 := 61) (pc' := 65) rfl (hb hby at_61) (by decide) (by decide) ?_
      show Steps p.tables e below (T11.setTop (mkF m 65 #[.val (.int v0), .val (.int v1), .val (.int v2), .val (.int v3), .val (.int (0 : Int32)), .val (.int nb), .val (.ref b1), .unset] [(.int (1 : Int32))])) tt
      refine XS.istore X11.here hx rfl (hb hby at_65) rfl (l' := #[.val (.int v0), .val (.int v1), .val (.int v2), .val (.int v3), .val (.int (0 : Int32)), .val (.int nb), .val (.ref b1), .val (.int (1 : Int32))]) rfl ?_
      exact kk
    rcases own_n hnb with rfl | rfl | rfl
    · refine Goal.to (B := T11.setTop (mkF m 73 #[.val (.int v0), .val (.int v1), .val (.int v2), .val (.int v3), .val (.int (0 : Int32)), .val (.int (0 : Int32)), .val (.ref b1), .val (.int (1 : Int32))] [(.int v3), (.int v2), (.int (0 : Int32)), (.ref b1)])) (fun tt kk => ?_) ?_
      · show Steps p.tables e below (T11.setTop (mkF m 67 #[.val (.int v0), .val (.int v1), .val (.int v2), .val (.int v3), .val (.int (0 : Int32)), .val (.int (0 : Int32)), .val (.ref b1), .val (.int (1 : Int32))] [])) tt
        refine XS.aload X11.here hx rfl (hb hby at_67) rfl rfl ?_
        show Steps p.tables e below (T11.setTop (mkF m 69 #[.val (.int v0), .val (.int v1), .val (.int v2), .val (.int v3), .val (.int (0 : Int32)), .val (.int (0 : Int32)), .val (.ref b1), .val (.int (1 : Int32))] [(.ref b1)])) tt
        refine XS.iload X11.here hx rfl (hb hby at_69) rfl ?_
        show Steps p.tables e below (T11.setTop (mkF m 71 #[.val (.int v0), .val (.int v1), .val (.int v2), .val (.int v3), .val (.int (0 : Int32)), .val (.int (0 : Int32)), .val (.ref b1), .val (.int (1 : Int32))] [(.int (0 : Int32)), (.ref b1)])) tt
        refine XS.iloadN X11.here hx rfl (hb hby at_71) rfl ?_
        show Steps p.tables e below (T11.setTop (mkF m 72 #[.val (.int v0), .val (.int v1), .val (.int v2), .val (.int v3), .val (.int (0 : Int32)), .val (.int (0 : Int32)), .val (.ref b1), .val (.int (1 : Int32))] [(.int v2), (.int (0 : Int32)), (.ref b1)])) tt
        refine XS.iloadN X11.here hx rfl (hb hby at_72) rfl ?_
        exact kk
      have f12 : Ary Z T7.heap vr_3 .int [(.int (0 : Int32)), (.int (0 : Int32))] := (P3_6.keep K7 (ninS (Ne.symm ne_b1_vr_3) (ninS (Ne.symm ne3_vf_vr) nin0)))
      have f13 : Ary Z T7.heap vt_3 .int [(.int (0 : Int32)), (.int (0 : Int32))] := (P3_7.keep K7 (ninS (Ne.symm ne_b1_vt_3) (ninS (Ne.symm ne3_vf_vt) nin0)))
      obtain ⟨_, _, ⟨T14, L14, k14, n14⟩, -, X14, ⟨Lc14, hQ14, l14, y14, z14⟩, st14⟩ := Jvm.LawKit.callS X11 hx (y := (⟨"com/example/pattern_automaton/patternautomaton/NonZeroTransitionsEndStatePinLaw", "addN", "(Lcom/example/pattern_automaton/patternautomaton/NonZeroTransitions;III)V"⟩ : MethodName)) hown (mvT hZ (hw _ (mw 17 rfl))) (mvT hZ (hw _ (mw 18 rfl))) (mvT hZ (hw _ (mw 19 rfl))) (mvT hZ (hw _ (mw 20 rfl))) (by decide) (backOf (W := 0) (rman00 l Z a0 hw [] b1 vf_3 vr_3 vt_3 (1 : Int32) (0 : Int32) (0 : Int32) (0 : Int32) (0 : Int32) v2 v3 T7.heap n0 f8 f10 P7_0 P7_1 P7_2 P7_3 P7_4 f12 f13) hZ (hw _ (mw 20 rfl)) (hw _ (mw 19 rfl)) (by decide) (by decide)) (g := (mkF m 73 #[.val (.int v0), .val (.int v1), .val (.int v2), .val (.int v3), .val (.int (0 : Int32)), .val (.int (0 : Int32)), .val (.ref b1), .val (.int (1 : Int32))] [(.int v3), (.int v2), (.int (0 : Int32)), (.ref b1)])) rfl (by rw [hml]; rfl) (argsL := [(.ref b1), (.int (0 : Int32)), (.int v2), (.int v3)]) (rest := []) (lenOf pd_2 rfl) rfl (by show 2 * 0 + _ ≤ _; exact Nat.le_of_eq rfl) (hb hby at_73) (fun _ _ => ⟨rfl, e11, (by decide : 4 + 0 ≤ _), (by decide : 12 + 0 ≤ _)⟩)
      dsimp only [Pt.U, Pt.locs, Pt.cells, Pt.slots] at X14 l14 y14 z14 st14 hQ14
      subst l14 y14 z14
      obtain ⟨rfl, N14q, e14⟩ := hQ14
      have N14 := Fr.app N11 N14q
      refine Goal.to (B := T14.setTop (mkF m 76 #[.val (.int v0), .val (.int v1), .val (.int v2), .val (.int v3), .val (.int (0 : Int32)), .val (.int (0 : Int32)), .val (.ref b1), .val (.int (1 : Int32))] [])) st14 ?_
      refine Goal.to (B := T14.setTop (mkF m 78 #[.val (.int v0), .val (.int v1), .val (.int v2), .val (.int v3), .val (.int (0 : Int32)), .val (.int (0 : Int32)), .val (.ref b1), .val (.int (1 : Int32))] [(.ref b1)])) (fun tt kk => ?_) ?_
      · show Steps p.tables e below (T14.setTop (mkF m 76 #[.val (.int v0), .val (.int v1), .val (.int v2), .val (.int v3), .val (.int (0 : Int32)), .val (.int (0 : Int32)), .val (.ref b1), .val (.int (1 : Int32))] [])) tt
        refine XS.aload X14.here hx rfl (hb hby at_76) rfl rfl ?_
        exact kk
      obtain ⟨cq15, kq15, q15a, q15b, q15c⟩ := isOf hZ e14 f10
      obtain ⟨_, _, ⟨T15, L15, k15, n15⟩, -, X15, ⟨Lc15, hQ15, l15, y15, z15⟩, st15⟩ := X14.virtualBack hx (y := (⟨"com/example/pattern_automaton/patternautomaton/NonZeroTransitions", "endState", "()V"⟩ : MethodName)) (z := (⟨"com/example/pattern_automaton/patternautomaton/NonZeroTransitions", "endState", "()V"⟩ : MethodName)) hown (mvT hZ (hw _ (mw 21 rfl))) (mvT hZ (hw _ (mw 22 rfl))) (notFace_of_selects (args := #[]) (mvT hZ (hw _ (mw 24 rfl)))) (mvT hZ (hw _ (mw 24 rfl))) (mvT hZ (hw _ (mw 23 rfl))) (by decide) (backOf (W := 0) (rmes1 l Z a0 hw [] b1 vf_3 vr_3 vt_3 (0 : Int32) (0 : Int32) (0 : Int32) (0 : Int32) T7.heap n0 f8 f10 P7_0 P7_1 P7_2 P7_3 P7_4 P7_5 g_b1 g_vf_3 ne_b1_vf_3) hZ (hw _ (mw 25 rfl)) (hw _ (mw 3 rfl)) (by decide) (by decide)) q15a q15c (g := (mkF m 78 #[.val (.int v0), .val (.int v1), .val (.int v2), .val (.int v3), .val (.int (0 : Int32)), .val (.int (0 : Int32)), .val (.ref b1), .val (.int (1 : Int32))] [(.ref b1)])) rfl (by rw [hml]; rfl) (Steps.refl _) (argsL := []) (rest := []) (lenOf pd_1 rfl) rfl (by show 2 * 0 + _ ≤ _; exact Nat.le_of_eq rfl) (hb hby at_78) (fun _ _ => ⟨rfl, e14, (by decide : 4 + 0 ≤ _), (by decide : 12 + 0 ≤ _)⟩)
      dsimp only [Pt.U, Pt.locs, Pt.cells, Pt.slots] at X15 l15 y15 z15 st15 hQ15
      subst l15 y15 z15
      obtain ⟨rfl, N15q, K15, P15_0, P15_1, P15_2, P15_3, P15_4, P15_5⟩ := hQ15
      have N15 := Fr.app N14 N15q
      refine Goal.tr (B := T15.setTop (mkF m 81 #[.val (.int v0), .val (.int v1), .val (.int v2), .val (.int v3), .val (.int (0 : Int32)), .val (.int (0 : Int32)), .val (.ref b1), .val (.int (1 : Int32))] [])) st15 ?_
      refine Goal.to (B := T15.setTop (mkF m 89 #[.val (.int v0), .val (.int v1), .val (.int v2), .val (.int v3), .val (.int (0 : Int32)), .val (.int (0 : Int32)), .val (.ref b1), .val (.int (1 : Int32))] [(.int (0 : Int32)), (.ref b1)])) (fun tt kk => ?_) ?_
      · show Steps p.tables e below (T15.setTop (mkF m 81 #[.val (.int v0), .val (.int v1), .val (.int v2), .val (.int v3), .val (.int (0 : Int32)), .val (.int (0 : Int32)), .val (.ref b1), .val (.int (1 : Int32))] [])) tt
        refine XS.iload X15.here hx rfl (hb hby at_81) rfl ?_
        show Steps p.tables e below (T15.setTop (mkF m 83 #[.val (.int v0), .val (.int v1), .val (.int v2), .val (.int v3), .val (.int (0 : Int32)), .val (.int (0 : Int32)), .val (.ref b1), .val (.int (1 : Int32))] [(.int (1 : Int32))])) tt
        refine XS.ifNo X15.here hx rfl (hb hby at_83) rfl ((if0 _ _).trans (feq ((by decide) : ¬ ((1 : Int32) = (0 : Int32)))).1) ?_
        show Steps p.tables e below (T15.setTop (mkF m 86 #[.val (.int v0), .val (.int v1), .val (.int v2), .val (.int v3), .val (.int (0 : Int32)), .val (.int (0 : Int32)), .val (.ref b1), .val (.int (1 : Int32))] [])) tt
        refine XS.aload X15.here hx rfl (hb hby at_86) rfl rfl ?_
        show Steps p.tables e below (T15.setTop (mkF m 88 #[.val (.int v0), .val (.int v1), .val (.int v2), .val (.int v3), .val (.int (0 : Int32)), .val (.int (0 : Int32)), .val (.ref b1), .val (.int (1 : Int32))] [(.ref b1)])) tt
        refine XS.iconst X15.here hx rfl (hb hby at_88) ?_
        exact kk
      have f16 : n0 ≤ T15.heap.size := (Nat.le_trans f8 K15.1)
      have f18 : Exa Z T15.heap b1 "com/example/pattern_automaton/patternautomaton/NonZeroTransitions" := (f10.keep K15)
      obtain ⟨cq17, kq17, q17a, q17b, q17c⟩ := isOf hZ rfl f18
      obtain ⟨_, _, ⟨T17, L17, k17, n17⟩, -, X17, ⟨Lc17, hQ17, l17, y17, z17⟩, st17⟩ := X15.virtualBack hx (y := (⟨"com/example/pattern_automaton/patternautomaton/NonZeroTransitions", "first", "(I)I"⟩ : MethodName)) (z := (⟨"com/example/pattern_automaton/patternautomaton/NonZeroTransitions", "first", "(I)I"⟩ : MethodName)) hown (mvT hZ (hw _ (mw 30 rfl))) (mvT hZ (hw _ (mw 31 rfl))) (notFace_of_selects (args := #[]) (mvT hZ (hw _ (mw 33 rfl)))) (mvT hZ (hw _ (mw 33 rfl))) (mvT hZ (hw _ (mw 32 rfl))) (by decide) (backOf (W := 0) (rmfi0 l Z a0 hw [] b1 vf_3 (0 : Int32) (0 : Int32) (0 : Int32) T15.heap n0 f16 P15_0 P15_5) hZ (hw _ (mw 34 rfl)) (hw _ (mw 3 rfl)) (by decide) (by decide)) q17a q17c (g := (mkF m 89 #[.val (.int v0), .val (.int v1), .val (.int v2), .val (.int v3), .val (.int (0 : Int32)), .val (.int (0 : Int32)), .val (.ref b1), .val (.int (1 : Int32))] [(.int (0 : Int32)), (.ref b1)])) rfl (by rw [hml]; rfl) (Steps.refl _) (argsL := [(.int (0 : Int32))]) (rest := []) (lenOf pd_3 rfl) rfl (by show 2 * 0 + _ ≤ _; exact Nat.le_of_eq rfl) (hb hby at_89) (fun _ _ => ⟨rfl, rfl, (by decide : 4 + 0 ≤ _), (by decide : 12 + 0 ≤ _)⟩)
      dsimp only [Pt.U, Pt.locs, Pt.cells, Pt.slots] at X17 l17 y17 z17 st17 hQ17
      subst l17 y17 z17
      obtain ⟨rfl, N17q, e17⟩ := hQ17
      have N17 := Fr.app N15 N17q
      refine Goal.tr (B := T17.setTop (mkF m 92 #[.val (.int v0), .val (.int v1), .val (.int v2), .val (.int v3), .val (.int (0 : Int32)), .val (.int (0 : Int32)), .val (.ref b1), .val (.int (1 : Int32))] [(.int (0 : Int32))])) st17 ?_
      refine Goal.to (B := T17.setTop (mkF m 98 #[.val (.int v0), .val (.int v1), .val (.int v2), .val (.int v3), .val (.int (0 : Int32)), .val (.int (0 : Int32)), .val (.ref b1), .val (.int (1 : Int32))] [(.int (0 : Int32)), (.ref b1)])) (fun tt kk => ?_) ?_
      · show Steps p.tables e below (T17.setTop (mkF m 92 #[.val (.int v0), .val (.int v1), .val (.int v2), .val (.int v3), .val (.int (0 : Int32)), .val (.int (0 : Int32)), .val (.ref b1), .val (.int (1 : Int32))] [(.int (0 : Int32))])) tt
        refine XS.ifNo X17.here hx rfl (hb hby at_92) rfl ((if0 _ _).trans (teq (rfl : (0 : Int32) = (0 : Int32))).2) ?_
        show Steps p.tables e below (T17.setTop (mkF m 95 #[.val (.int v0), .val (.int v1), .val (.int v2), .val (.int v3), .val (.int (0 : Int32)), .val (.int (0 : Int32)), .val (.ref b1), .val (.int (1 : Int32))] [])) tt
        refine XS.aload X17.here hx rfl (hb hby at_95) rfl rfl ?_
        show Steps p.tables e below (T17.setTop (mkF m 97 #[.val (.int v0), .val (.int v1), .val (.int v2), .val (.int v3), .val (.int (0 : Int32)), .val (.int (0 : Int32)), .val (.ref b1), .val (.int (1 : Int32))] [(.ref b1)])) tt
        refine XS.iconst X17.here hx rfl (hb hby at_97) ?_
        exact kk
      obtain ⟨cq19, kq19, q19a, q19b, q19c⟩ := isOf hZ e17 f18
      obtain ⟨_, _, ⟨T19, L19, k19, n19⟩, -, X19, ⟨Lc19, hQ19, l19, y19, z19⟩, st19⟩ := X17.virtualBack hx (y := (⟨"com/example/pattern_automaton/patternautomaton/NonZeroTransitions", "end", "(I)I"⟩ : MethodName)) (z := (⟨"com/example/pattern_automaton/patternautomaton/NonZeroTransitions", "end", "(I)I"⟩ : MethodName)) hown (mvT hZ (hw _ (mw 35 rfl))) (mvT hZ (hw _ (mw 36 rfl))) (notFace_of_selects (args := #[]) (mvT hZ (hw _ (mw 38 rfl)))) (mvT hZ (hw _ (mw 38 rfl))) (mvT hZ (hw _ (mw 37 rfl))) (by decide) (backOf (W := 0) (rmen0 l Z a0 hw [] b1 vf_3 (0 : Int32) (0 : Int32) (0 : Int32) T15.heap n0 f16 P15_0 P15_5) hZ (hw _ (mw 39 rfl)) (hw _ (mw 3 rfl)) (by decide) (by decide)) q19a q19c (g := (mkF m 98 #[.val (.int v0), .val (.int v1), .val (.int v2), .val (.int v3), .val (.int (0 : Int32)), .val (.int (0 : Int32)), .val (.ref b1), .val (.int (1 : Int32))] [(.int (0 : Int32)), (.ref b1)])) rfl (by rw [hml]; rfl) (Steps.refl _) (argsL := [(.int (0 : Int32))]) (rest := []) (lenOf pd_3 rfl) rfl (by show 2 * 0 + _ ≤ _; exact Nat.le_of_eq rfl) (hb hby at_98) (fun _ _ => ⟨rfl, e17, (by decide : 4 + 0 ≤ _), (by decide : 12 + 0 ≤ _)⟩)
      dsimp only [Pt.U, Pt.locs, Pt.cells, Pt.slots] at X19 l19 y19 z19 st19 hQ19
      subst l19 y19 z19
      obtain ⟨rfl, N19q, e19⟩ := hQ19
      have N19 := Fr.app N17 N19q
      refine Goal.tr (B := T19.setTop (mkF m 101 #[.val (.int v0), .val (.int v1), .val (.int v2), .val (.int v3), .val (.int (0 : Int32)), .val (.int (0 : Int32)), .val (.ref b1), .val (.int (1 : Int32))] [(.int (0 : Int32))])) st19 ?_
      refine Goal.to (B := T19.setTop (mkF m 109 #[.val (.int v0), .val (.int v1), .val (.int v2), .val (.int v3), .val (.int (0 : Int32)), .val (.int (0 : Int32)), .val (.ref b1), .val (.int (1 : Int32))] [(.int (1 : Int32)), (.ref b1)])) (fun tt kk => ?_) ?_
      · show Steps p.tables e below (T19.setTop (mkF m 101 #[.val (.int v0), .val (.int v1), .val (.int v2), .val (.int v3), .val (.int (0 : Int32)), .val (.int (0 : Int32)), .val (.ref b1), .val (.int (1 : Int32))] [(.int (0 : Int32))])) tt
        refine XS.iload X19.here hx rfl (hb hby at_101) rfl ?_
        show Steps p.tables e below (T19.setTop (mkF m 103 #[.val (.int v0), .val (.int v1), .val (.int v2), .val (.int v3), .val (.int (0 : Int32)), .val (.int (0 : Int32)), .val (.ref b1), .val (.int (1 : Int32))] [(.int (0 : Int32)), (.int (0 : Int32))])) tt
        refine XS.icmpNo X19.here hx rfl (hb hby at_103) rfl (teq (rfl : (0 : Int32) = (0 : Int32))).2 ?_
        show Steps p.tables e below (T19.setTop (mkF m 106 #[.val (.int v0), .val (.int v1), .val (.int v2), .val (.int v3), .val (.int (0 : Int32)), .val (.int (0 : Int32)), .val (.ref b1), .val (.int (1 : Int32))] [])) tt
        refine XS.aload X19.here hx rfl (hb hby at_106) rfl rfl ?_
        show Steps p.tables e below (T19.setTop (mkF m 108 #[.val (.int v0), .val (.int v1), .val (.int v2), .val (.int v3), .val (.int (0 : Int32)), .val (.int (0 : Int32)), .val (.ref b1), .val (.int (1 : Int32))] [(.ref b1)])) tt
        refine XS.iconst X19.here hx rfl (hb hby at_108) ?_
        exact kk
      obtain ⟨cq20, kq20, q20a, q20b, q20c⟩ := isOf hZ e19 f18
      obtain ⟨_, _, ⟨T20, L20, k20, n20⟩, -, X20, ⟨Lc20, hQ20, l20, y20, z20⟩, st20⟩ := X19.virtualBack hx (y := (⟨"com/example/pattern_automaton/patternautomaton/NonZeroTransitions", "first", "(I)I"⟩ : MethodName)) (z := (⟨"com/example/pattern_automaton/patternautomaton/NonZeroTransitions", "first", "(I)I"⟩ : MethodName)) hown (mvT hZ (hw _ (mw 30 rfl))) (mvT hZ (hw _ (mw 31 rfl))) (notFace_of_selects (args := #[]) (mvT hZ (hw _ (mw 33 rfl)))) (mvT hZ (hw _ (mw 33 rfl))) (mvT hZ (hw _ (mw 32 rfl))) (by decide) (backOf (W := 0) (rmfi1 l Z a0 hw [] b1 vf_3 (0 : Int32) (0 : Int32) (0 : Int32) T15.heap n0 f16 P15_0 P15_5) hZ (hw _ (mw 34 rfl)) (hw _ (mw 3 rfl)) (by decide) (by decide)) q20a q20c (g := (mkF m 109 #[.val (.int v0), .val (.int v1), .val (.int v2), .val (.int v3), .val (.int (0 : Int32)), .val (.int (0 : Int32)), .val (.ref b1), .val (.int (1 : Int32))] [(.int (1 : Int32)), (.ref b1)])) rfl (by rw [hml]; rfl) (Steps.refl _) (argsL := [(.int (1 : Int32))]) (rest := []) (lenOf pd_3 rfl) rfl (by show 2 * 0 + _ ≤ _; exact Nat.le_of_eq rfl) (hb hby at_109) (fun _ _ => ⟨rfl, e19, (by decide : 4 + 0 ≤ _), (by decide : 12 + 0 ≤ _)⟩)
      dsimp only [Pt.U, Pt.locs, Pt.cells, Pt.slots] at X20 l20 y20 z20 st20 hQ20
      subst l20 y20 z20
      obtain ⟨rfl, N20q, e20⟩ := hQ20
      have N20 := Fr.app N19 N20q
      refine Goal.tr (B := T20.setTop (mkF m 112 #[.val (.int v0), .val (.int v1), .val (.int v2), .val (.int v3), .val (.int (0 : Int32)), .val (.int (0 : Int32)), .val (.ref b1), .val (.int (1 : Int32))] [(.int (0 : Int32))])) st20 ?_
      refine Goal.to (B := T20.setTop (mkF m 120 #[.val (.int v0), .val (.int v1), .val (.int v2), .val (.int v3), .val (.int (0 : Int32)), .val (.int (0 : Int32)), .val (.ref b1), .val (.int (1 : Int32))] [(.int (1 : Int32)), (.ref b1)])) (fun tt kk => ?_) ?_
      · show Steps p.tables e below (T20.setTop (mkF m 112 #[.val (.int v0), .val (.int v1), .val (.int v2), .val (.int v3), .val (.int (0 : Int32)), .val (.int (0 : Int32)), .val (.ref b1), .val (.int (1 : Int32))] [(.int (0 : Int32))])) tt
        refine XS.iload X20.here hx rfl (hb hby at_112) rfl ?_
        show Steps p.tables e below (T20.setTop (mkF m 114 #[.val (.int v0), .val (.int v1), .val (.int v2), .val (.int v3), .val (.int (0 : Int32)), .val (.int (0 : Int32)), .val (.ref b1), .val (.int (1 : Int32))] [(.int (0 : Int32)), (.int (0 : Int32))])) tt
        refine XS.icmpNo X20.here hx rfl (hb hby at_114) rfl (teq (rfl : (0 : Int32) = (0 : Int32))).2 ?_
        show Steps p.tables e below (T20.setTop (mkF m 117 #[.val (.int v0), .val (.int v1), .val (.int v2), .val (.int v3), .val (.int (0 : Int32)), .val (.int (0 : Int32)), .val (.ref b1), .val (.int (1 : Int32))] [])) tt
        refine XS.aload X20.here hx rfl (hb hby at_117) rfl rfl ?_
        show Steps p.tables e below (T20.setTop (mkF m 119 #[.val (.int v0), .val (.int v1), .val (.int v2), .val (.int v3), .val (.int (0 : Int32)), .val (.int (0 : Int32)), .val (.ref b1), .val (.int (1 : Int32))] [(.ref b1)])) tt
        refine XS.iconst X20.here hx rfl (hb hby at_119) ?_
        exact kk
      obtain ⟨cq21, kq21, q21a, q21b, q21c⟩ := isOf hZ e20 f18
      obtain ⟨_, _, ⟨T21, L21, k21, n21⟩, -, X21, ⟨Lc21, hQ21, l21, y21, z21⟩, st21⟩ := X20.virtualBack hx (y := (⟨"com/example/pattern_automaton/patternautomaton/NonZeroTransitions", "end", "(I)I"⟩ : MethodName)) (z := (⟨"com/example/pattern_automaton/patternautomaton/NonZeroTransitions", "end", "(I)I"⟩ : MethodName)) hown (mvT hZ (hw _ (mw 35 rfl))) (mvT hZ (hw _ (mw 36 rfl))) (notFace_of_selects (args := #[]) (mvT hZ (hw _ (mw 38 rfl)))) (mvT hZ (hw _ (mw 38 rfl))) (mvT hZ (hw _ (mw 37 rfl))) (by decide) (backOf (W := 0) (rmen1 l Z a0 hw [] b1 vf_3 (0 : Int32) (0 : Int32) (0 : Int32) T15.heap n0 f16 P15_0 P15_5) hZ (hw _ (mw 39 rfl)) (hw _ (mw 3 rfl)) (by decide) (by decide)) q21a q21c (g := (mkF m 120 #[.val (.int v0), .val (.int v1), .val (.int v2), .val (.int v3), .val (.int (0 : Int32)), .val (.int (0 : Int32)), .val (.ref b1), .val (.int (1 : Int32))] [(.int (1 : Int32)), (.ref b1)])) rfl (by rw [hml]; rfl) (Steps.refl _) (argsL := [(.int (1 : Int32))]) (rest := []) (lenOf pd_3 rfl) rfl (by show 2 * 0 + _ ≤ _; exact Nat.le_of_eq rfl) (hb hby at_120) (fun _ _ => ⟨rfl, e20, (by decide : 4 + 0 ≤ _), (by decide : 12 + 0 ≤ _)⟩)
      dsimp only [Pt.U, Pt.locs, Pt.cells, Pt.slots] at X21 l21 y21 z21 st21 hQ21
      subst l21 y21 z21
      obtain ⟨rfl, N21q, e21⟩ := hQ21
      have N21 := Fr.app N20 N21q
      refine Goal.tr (B := T21.setTop (mkF m 123 #[.val (.int v0), .val (.int v1), .val (.int v2), .val (.int v3), .val (.int (0 : Int32)), .val (.int (0 : Int32)), .val (.ref b1), .val (.int (1 : Int32))] [(.int (0 : Int32))])) st21 ?_
      refine Goal.to (B := T21.setTop (mkF m 136 #[.val (.int v0), .val (.int v1), .val (.int v2), .val (.int v3), .val (.int (0 : Int32)), .val (.int (0 : Int32)), .val (.ref b1), .val (.int (1 : Int32))] [(.int (1 : Int32))])) (fun tt kk => ?_) ?_
      · show Steps p.tables e below (T21.setTop (mkF m 123 #[.val (.int v0), .val (.int v1), .val (.int v2), .val (.int v3), .val (.int (0 : Int32)), .val (.int (0 : Int32)), .val (.ref b1), .val (.int (1 : Int32))] [(.int (0 : Int32))])) tt
        refine XS.iload X21.here hx rfl (hb hby at_123) rfl ?_
        show Steps p.tables e below (T21.setTop (mkF m 125 #[.val (.int v0), .val (.int v1), .val (.int v2), .val (.int v3), .val (.int (0 : Int32)), .val (.int (0 : Int32)), .val (.ref b1), .val (.int (1 : Int32))] [(.int (0 : Int32)), (.int (0 : Int32))])) tt
        refine XS.iload X21.here hx rfl (hb hby at_125) rfl ?_
        show Steps p.tables e below (T21.setTop (mkF m 127 #[.val (.int v0), .val (.int v1), .val (.int v2), .val (.int v3), .val (.int (0 : Int32)), .val (.int (0 : Int32)), .val (.ref b1), .val (.int (1 : Int32))] [(.int (0 : Int32)), (.int (0 : Int32)), (.int (0 : Int32))])) tt
        refine XS.iadd X21.here hx rfl (hb hby at_127) rfl ?_
        show Steps p.tables e below (T21.setTop (mkF m 128 #[.val (.int v0), .val (.int v1), .val (.int v2), .val (.int v3), .val (.int (0 : Int32)), .val (.int (0 : Int32)), .val (.ref b1), .val (.int (1 : Int32))] [(.int (0 : Int32)), (.int (0 : Int32))])) tt
        refine XS.icmpNo X21.here hx rfl (hb hby at_128) rfl (teq (rfl : (0 : Int32) = (0 : Int32))).2 ?_
        show Steps p.tables e below (T21.setTop (mkF m 131 #[.val (.int v0), .val (.int v1), .val (.int v2), .val (.int v3), .val (.int (0 : Int32)), .val (.int (0 : Int32)), .val (.ref b1), .val (.int (1 : Int32))] [])) tt
        refine XS.iconst X21.here hx rfl (hb hby at_131) ?_
        show Steps p.tables e below (T21.setTop (mkF m 132 #[.val (.int v0), .val (.int v1), .val (.int v2), .val (.int v3), .val (.int (0 : Int32)), .val (.int (0 : Int32)), .val (.ref b1), .val (.int (1 : Int32))] [(.int (1 : Int32))])) tt
        refine XS.goto X21.here hx rfl (pc0 := 132) (pc' := 136) rfl (hb hby at_132) (by decide) (by decide) ?_
        exact kk
      exact Goal.retV X21 hx Bd.returns rfl (Or.inl ⟨rfl, Or.inr (Or.inl rfl), _, rfl⟩) (hb hby at_136) hlk e21 ⟨rfl, N21⟩ (by decide) (by decide)
    · refine Goal.to (B := T11.setTop (mkF m 73 #[.val (.int v0), .val (.int v1), .val (.int v2), .val (.int v3), .val (.int (0 : Int32)), .val (.int (1 : Int32)), .val (.ref b1), .val (.int (1 : Int32))] [(.int v3), (.int v2), (.int (1 : Int32)), (.ref b1)])) (fun tt kk => ?_) ?_
      · show Steps p.tables e below (T11.setTop (mkF m 67 #[.val (.int v0), .val (.int v1), .val (.int v2), .val (.int v3), .val (.int (0 : Int32)), .val (.int (1 : Int32)), .val (.ref b1), .val (.int (1 : Int32))] [])) tt
        refine XS.aload X11.here hx rfl (hb hby at_67) rfl rfl ?_
        show Steps p.tables e below (T11.setTop (mkF m 69 #[.val (.int v0), .val (.int v1), .val (.int v2), .val (.int v3), .val (.int (0 : Int32)), .val (.int (1 : Int32)), .val (.ref b1), .val (.int (1 : Int32))] [(.ref b1)])) tt
        refine XS.iload X11.here hx rfl (hb hby at_69) rfl ?_
        show Steps p.tables e below (T11.setTop (mkF m 71 #[.val (.int v0), .val (.int v1), .val (.int v2), .val (.int v3), .val (.int (0 : Int32)), .val (.int (1 : Int32)), .val (.ref b1), .val (.int (1 : Int32))] [(.int (1 : Int32)), (.ref b1)])) tt
        refine XS.iloadN X11.here hx rfl (hb hby at_71) rfl ?_
        show Steps p.tables e below (T11.setTop (mkF m 72 #[.val (.int v0), .val (.int v1), .val (.int v2), .val (.int v3), .val (.int (0 : Int32)), .val (.int (1 : Int32)), .val (.ref b1), .val (.int (1 : Int32))] [(.int v2), (.int (1 : Int32)), (.ref b1)])) tt
        refine XS.iloadN X11.here hx rfl (hb hby at_72) rfl ?_
        exact kk
      have f22 : Ary Z T7.heap vr_3 .int [(.int (0 : Int32)), (.int (0 : Int32))] := (P3_6.keep K7 (ninS (Ne.symm ne_b1_vr_3) (ninS (Ne.symm ne3_vf_vr) nin0)))
      have f23 : Ary Z T7.heap vt_3 .int [(.int (0 : Int32)), (.int (0 : Int32))] := (P3_7.keep K7 (ninS (Ne.symm ne_b1_vt_3) (ninS (Ne.symm ne3_vf_vt) nin0)))
      obtain ⟨_, _, ⟨T24, L24, k24, n24⟩, -, X24, ⟨Lc24, hQ24, l24, y24, z24⟩, st24⟩ := Jvm.LawKit.callS X11 hx (y := (⟨"com/example/pattern_automaton/patternautomaton/NonZeroTransitionsEndStatePinLaw", "addN", "(Lcom/example/pattern_automaton/patternautomaton/NonZeroTransitions;III)V"⟩ : MethodName)) hown (mvT hZ (hw _ (mw 17 rfl))) (mvT hZ (hw _ (mw 18 rfl))) (mvT hZ (hw _ (mw 19 rfl))) (mvT hZ (hw _ (mw 20 rfl))) (by decide) (backOf (W := 0) (rman01 l Z a0 hw [] b1 vf_3 vr_3 vt_3 (1 : Int32) (0 : Int32) (0 : Int32) (0 : Int32) (0 : Int32) v2 v3 T7.heap n0 f8 f10 P7_0 P7_1 P7_2 P7_3 P7_4 f22 f23 g_b1 g_vr_3 g_vt_3 ne_b1_vr_3 ne_b1_vt_3 ne3_vr_vt) hZ (hw _ (mw 20 rfl)) (hw _ (mw 19 rfl)) (by decide) (by decide)) (g := (mkF m 73 #[.val (.int v0), .val (.int v1), .val (.int v2), .val (.int v3), .val (.int (0 : Int32)), .val (.int (1 : Int32)), .val (.ref b1), .val (.int (1 : Int32))] [(.int v3), (.int v2), (.int (1 : Int32)), (.ref b1)])) rfl (by rw [hml]; rfl) (argsL := [(.ref b1), (.int (1 : Int32)), (.int v2), (.int v3)]) (rest := []) (lenOf pd_2 rfl) rfl (by show 2 * 0 + _ ≤ _; exact Nat.le_of_eq rfl) (hb hby at_73) (fun _ _ => ⟨rfl, e11, (by decide : 4 + 0 ≤ _), (by decide : 12 + 0 ≤ _)⟩)
      dsimp only [Pt.U, Pt.locs, Pt.cells, Pt.slots] at X24 l24 y24 z24 st24 hQ24
      subst l24 y24 z24
      obtain ⟨rfl, N24q, K24, P24_0, P24_1, P24_2, P24_3, P24_4, P24_5, P24_6⟩ := hQ24
      have N24 := Fr.app N11 N24q
      refine Goal.to (B := T24.setTop (mkF m 76 #[.val (.int v0), .val (.int v1), .val (.int v2), .val (.int v3), .val (.int (0 : Int32)), .val (.int (1 : Int32)), .val (.ref b1), .val (.int (1 : Int32))] [])) st24 ?_
      refine Goal.to (B := T24.setTop (mkF m 78 #[.val (.int v0), .val (.int v1), .val (.int v2), .val (.int v3), .val (.int (0 : Int32)), .val (.int (1 : Int32)), .val (.ref b1), .val (.int (1 : Int32))] [(.ref b1)])) (fun tt kk => ?_) ?_
      · show Steps p.tables e below (T24.setTop (mkF m 76 #[.val (.int v0), .val (.int v1), .val (.int v2), .val (.int v3), .val (.int (0 : Int32)), .val (.int (1 : Int32)), .val (.ref b1), .val (.int (1 : Int32))] [])) tt
        refine XS.aload X24.here hx rfl (hb hby at_76) rfl rfl ?_
        exact kk
      have f25 : Exa Z T24.heap b1 "com/example/pattern_automaton/patternautomaton/NonZeroTransitions" := (f10.keep K24)
      have f26 : Ary Z T24.heap vf_3 .int [(.int (0 : Int32)), (.int (0 : Int32)), (.int (0 : Int32))] := (P7_5.keep K24 (ninS (Ne.symm ne_b1_vf_3) (ninS ne3_vf_vr (ninS ne3_vf_vt nin0))))
      have f27 : n0 ≤ T24.heap.size := (Nat.le_trans f8 K24.1)
      obtain ⟨cq28, kq28, q28a, q28b, q28c⟩ := isOf hZ rfl f25
      obtain ⟨_, _, ⟨T28, L28, k28, n28⟩, -, X28, ⟨Lc28, hQ28, l28, y28, z28⟩, st28⟩ := X24.virtualBack hx (y := (⟨"com/example/pattern_automaton/patternautomaton/NonZeroTransitions", "endState", "()V"⟩ : MethodName)) (z := (⟨"com/example/pattern_automaton/patternautomaton/NonZeroTransitions", "endState", "()V"⟩ : MethodName)) hown (mvT hZ (hw _ (mw 21 rfl))) (mvT hZ (hw _ (mw 22 rfl))) (notFace_of_selects (args := #[]) (mvT hZ (hw _ (mw 24 rfl)))) (mvT hZ (hw _ (mw 24 rfl))) (mvT hZ (hw _ (mw 23 rfl))) (by decide) (backOf (W := 0) (rmes1 l Z a0 hw [] b1 vf_3 vr_3 vt_3 (1 : Int32) (0 : Int32) (0 : Int32) (0 : Int32) T24.heap n0 f27 f25 P24_0 P24_1 P24_2 P24_3 P24_4 f26 g_b1 g_vf_3 ne_b1_vf_3) hZ (hw _ (mw 25 rfl)) (hw _ (mw 3 rfl)) (by decide) (by decide)) q28a q28c (g := (mkF m 78 #[.val (.int v0), .val (.int v1), .val (.int v2), .val (.int v3), .val (.int (0 : Int32)), .val (.int (1 : Int32)), .val (.ref b1), .val (.int (1 : Int32))] [(.ref b1)])) rfl (by rw [hml]; rfl) (Steps.refl _) (argsL := []) (rest := []) (lenOf pd_1 rfl) rfl (by show 2 * 0 + _ ≤ _; exact Nat.le_of_eq rfl) (hb hby at_78) (fun _ _ => ⟨rfl, rfl, (by decide : 4 + 0 ≤ _), (by decide : 12 + 0 ≤ _)⟩)
      dsimp only [Pt.U, Pt.locs, Pt.cells, Pt.slots] at X28 l28 y28 z28 st28 hQ28
      subst l28 y28 z28
      obtain ⟨rfl, N28q, K28, P28_0, P28_1, P28_2, P28_3, P28_4, P28_5⟩ := hQ28
      have N28 := Fr.app N24 N28q
      refine Goal.tr (B := T28.setTop (mkF m 81 #[.val (.int v0), .val (.int v1), .val (.int v2), .val (.int v3), .val (.int (0 : Int32)), .val (.int (1 : Int32)), .val (.ref b1), .val (.int (1 : Int32))] [])) st28 ?_
      refine Goal.to (B := T28.setTop (mkF m 89 #[.val (.int v0), .val (.int v1), .val (.int v2), .val (.int v3), .val (.int (0 : Int32)), .val (.int (1 : Int32)), .val (.ref b1), .val (.int (1 : Int32))] [(.int (0 : Int32)), (.ref b1)])) (fun tt kk => ?_) ?_
      · show Steps p.tables e below (T28.setTop (mkF m 81 #[.val (.int v0), .val (.int v1), .val (.int v2), .val (.int v3), .val (.int (0 : Int32)), .val (.int (1 : Int32)), .val (.ref b1), .val (.int (1 : Int32))] [])) tt
        refine XS.iload X28.here hx rfl (hb hby at_81) rfl ?_
        show Steps p.tables e below (T28.setTop (mkF m 83 #[.val (.int v0), .val (.int v1), .val (.int v2), .val (.int v3), .val (.int (0 : Int32)), .val (.int (1 : Int32)), .val (.ref b1), .val (.int (1 : Int32))] [(.int (1 : Int32))])) tt
        refine XS.ifNo X28.here hx rfl (hb hby at_83) rfl ((if0 _ _).trans (feq ((by decide) : ¬ ((1 : Int32) = (0 : Int32)))).1) ?_
        show Steps p.tables e below (T28.setTop (mkF m 86 #[.val (.int v0), .val (.int v1), .val (.int v2), .val (.int v3), .val (.int (0 : Int32)), .val (.int (1 : Int32)), .val (.ref b1), .val (.int (1 : Int32))] [])) tt
        refine XS.aload X28.here hx rfl (hb hby at_86) rfl rfl ?_
        show Steps p.tables e below (T28.setTop (mkF m 88 #[.val (.int v0), .val (.int v1), .val (.int v2), .val (.int v3), .val (.int (0 : Int32)), .val (.int (1 : Int32)), .val (.ref b1), .val (.int (1 : Int32))] [(.ref b1)])) tt
        refine XS.iconst X28.here hx rfl (hb hby at_88) ?_
        exact kk
      have f29 : n0 ≤ T28.heap.size := (Nat.le_trans f27 K28.1)
      have f31 : Exa Z T28.heap b1 "com/example/pattern_automaton/patternautomaton/NonZeroTransitions" := (f25.keep K28)
      obtain ⟨cq30, kq30, q30a, q30b, q30c⟩ := isOf hZ rfl f31
      obtain ⟨_, _, ⟨T30, L30, k30, n30⟩, -, X30, ⟨Lc30, hQ30, l30, y30, z30⟩, st30⟩ := X28.virtualBack hx (y := (⟨"com/example/pattern_automaton/patternautomaton/NonZeroTransitions", "first", "(I)I"⟩ : MethodName)) (z := (⟨"com/example/pattern_automaton/patternautomaton/NonZeroTransitions", "first", "(I)I"⟩ : MethodName)) hown (mvT hZ (hw _ (mw 30 rfl))) (mvT hZ (hw _ (mw 31 rfl))) (notFace_of_selects (args := #[]) (mvT hZ (hw _ (mw 33 rfl)))) (mvT hZ (hw _ (mw 33 rfl))) (mvT hZ (hw _ (mw 32 rfl))) (by decide) (backOf (W := 0) (rmfi0 l Z a0 hw [] b1 vf_3 (0 : Int32) (0 : Int32) (1 : Int32) T28.heap n0 f29 P28_0 P28_5) hZ (hw _ (mw 34 rfl)) (hw _ (mw 3 rfl)) (by decide) (by decide)) q30a q30c (g := (mkF m 89 #[.val (.int v0), .val (.int v1), .val (.int v2), .val (.int v3), .val (.int (0 : Int32)), .val (.int (1 : Int32)), .val (.ref b1), .val (.int (1 : Int32))] [(.int (0 : Int32)), (.ref b1)])) rfl (by rw [hml]; rfl) (Steps.refl _) (argsL := [(.int (0 : Int32))]) (rest := []) (lenOf pd_3 rfl) rfl (by show 2 * 0 + _ ≤ _; exact Nat.le_of_eq rfl) (hb hby at_89) (fun _ _ => ⟨rfl, rfl, (by decide : 4 + 0 ≤ _), (by decide : 12 + 0 ≤ _)⟩)
      dsimp only [Pt.U, Pt.locs, Pt.cells, Pt.slots] at X30 l30 y30 z30 st30 hQ30
      subst l30 y30 z30
      obtain ⟨rfl, N30q, e30⟩ := hQ30
      have N30 := Fr.app N28 N30q
      refine Goal.tr (B := T30.setTop (mkF m 92 #[.val (.int v0), .val (.int v1), .val (.int v2), .val (.int v3), .val (.int (0 : Int32)), .val (.int (1 : Int32)), .val (.ref b1), .val (.int (1 : Int32))] [(.int (0 : Int32))])) st30 ?_
      refine Goal.to (B := T30.setTop (mkF m 98 #[.val (.int v0), .val (.int v1), .val (.int v2), .val (.int v3), .val (.int (0 : Int32)), .val (.int (1 : Int32)), .val (.ref b1), .val (.int (1 : Int32))] [(.int (0 : Int32)), (.ref b1)])) (fun tt kk => ?_) ?_
      · show Steps p.tables e below (T30.setTop (mkF m 92 #[.val (.int v0), .val (.int v1), .val (.int v2), .val (.int v3), .val (.int (0 : Int32)), .val (.int (1 : Int32)), .val (.ref b1), .val (.int (1 : Int32))] [(.int (0 : Int32))])) tt
        refine XS.ifNo X30.here hx rfl (hb hby at_92) rfl ((if0 _ _).trans (teq (rfl : (0 : Int32) = (0 : Int32))).2) ?_
        show Steps p.tables e below (T30.setTop (mkF m 95 #[.val (.int v0), .val (.int v1), .val (.int v2), .val (.int v3), .val (.int (0 : Int32)), .val (.int (1 : Int32)), .val (.ref b1), .val (.int (1 : Int32))] [])) tt
        refine XS.aload X30.here hx rfl (hb hby at_95) rfl rfl ?_
        show Steps p.tables e below (T30.setTop (mkF m 97 #[.val (.int v0), .val (.int v1), .val (.int v2), .val (.int v3), .val (.int (0 : Int32)), .val (.int (1 : Int32)), .val (.ref b1), .val (.int (1 : Int32))] [(.ref b1)])) tt
        refine XS.iconst X30.here hx rfl (hb hby at_97) ?_
        exact kk
      obtain ⟨cq32, kq32, q32a, q32b, q32c⟩ := isOf hZ e30 f31
      obtain ⟨_, _, ⟨T32, L32, k32, n32⟩, -, X32, ⟨Lc32, hQ32, l32, y32, z32⟩, st32⟩ := X30.virtualBack hx (y := (⟨"com/example/pattern_automaton/patternautomaton/NonZeroTransitions", "end", "(I)I"⟩ : MethodName)) (z := (⟨"com/example/pattern_automaton/patternautomaton/NonZeroTransitions", "end", "(I)I"⟩ : MethodName)) hown (mvT hZ (hw _ (mw 35 rfl))) (mvT hZ (hw _ (mw 36 rfl))) (notFace_of_selects (args := #[]) (mvT hZ (hw _ (mw 38 rfl)))) (mvT hZ (hw _ (mw 38 rfl))) (mvT hZ (hw _ (mw 37 rfl))) (by decide) (backOf (W := 0) (rmen0 l Z a0 hw [] b1 vf_3 (0 : Int32) (0 : Int32) (1 : Int32) T28.heap n0 f29 P28_0 P28_5) hZ (hw _ (mw 39 rfl)) (hw _ (mw 3 rfl)) (by decide) (by decide)) q32a q32c (g := (mkF m 98 #[.val (.int v0), .val (.int v1), .val (.int v2), .val (.int v3), .val (.int (0 : Int32)), .val (.int (1 : Int32)), .val (.ref b1), .val (.int (1 : Int32))] [(.int (0 : Int32)), (.ref b1)])) rfl (by rw [hml]; rfl) (Steps.refl _) (argsL := [(.int (0 : Int32))]) (rest := []) (lenOf pd_3 rfl) rfl (by show 2 * 0 + _ ≤ _; exact Nat.le_of_eq rfl) (hb hby at_98) (fun _ _ => ⟨rfl, e30, (by decide : 4 + 0 ≤ _), (by decide : 12 + 0 ≤ _)⟩)
      dsimp only [Pt.U, Pt.locs, Pt.cells, Pt.slots] at X32 l32 y32 z32 st32 hQ32
      subst l32 y32 z32
      obtain ⟨rfl, N32q, e32⟩ := hQ32
      have N32 := Fr.app N30 N32q
      refine Goal.tr (B := T32.setTop (mkF m 101 #[.val (.int v0), .val (.int v1), .val (.int v2), .val (.int v3), .val (.int (0 : Int32)), .val (.int (1 : Int32)), .val (.ref b1), .val (.int (1 : Int32))] [(.int (0 : Int32))])) st32 ?_
      refine Goal.to (B := T32.setTop (mkF m 109 #[.val (.int v0), .val (.int v1), .val (.int v2), .val (.int v3), .val (.int (0 : Int32)), .val (.int (1 : Int32)), .val (.ref b1), .val (.int (1 : Int32))] [(.int (1 : Int32)), (.ref b1)])) (fun tt kk => ?_) ?_
      · show Steps p.tables e below (T32.setTop (mkF m 101 #[.val (.int v0), .val (.int v1), .val (.int v2), .val (.int v3), .val (.int (0 : Int32)), .val (.int (1 : Int32)), .val (.ref b1), .val (.int (1 : Int32))] [(.int (0 : Int32))])) tt
        refine XS.iload X32.here hx rfl (hb hby at_101) rfl ?_
        show Steps p.tables e below (T32.setTop (mkF m 103 #[.val (.int v0), .val (.int v1), .val (.int v2), .val (.int v3), .val (.int (0 : Int32)), .val (.int (1 : Int32)), .val (.ref b1), .val (.int (1 : Int32))] [(.int (0 : Int32)), (.int (0 : Int32))])) tt
        refine XS.icmpNo X32.here hx rfl (hb hby at_103) rfl (teq (rfl : (0 : Int32) = (0 : Int32))).2 ?_
        show Steps p.tables e below (T32.setTop (mkF m 106 #[.val (.int v0), .val (.int v1), .val (.int v2), .val (.int v3), .val (.int (0 : Int32)), .val (.int (1 : Int32)), .val (.ref b1), .val (.int (1 : Int32))] [])) tt
        refine XS.aload X32.here hx rfl (hb hby at_106) rfl rfl ?_
        show Steps p.tables e below (T32.setTop (mkF m 108 #[.val (.int v0), .val (.int v1), .val (.int v2), .val (.int v3), .val (.int (0 : Int32)), .val (.int (1 : Int32)), .val (.ref b1), .val (.int (1 : Int32))] [(.ref b1)])) tt
        refine XS.iconst X32.here hx rfl (hb hby at_108) ?_
        exact kk
      obtain ⟨cq33, kq33, q33a, q33b, q33c⟩ := isOf hZ e32 f31
      obtain ⟨_, _, ⟨T33, L33, k33, n33⟩, -, X33, ⟨Lc33, hQ33, l33, y33, z33⟩, st33⟩ := X32.virtualBack hx (y := (⟨"com/example/pattern_automaton/patternautomaton/NonZeroTransitions", "first", "(I)I"⟩ : MethodName)) (z := (⟨"com/example/pattern_automaton/patternautomaton/NonZeroTransitions", "first", "(I)I"⟩ : MethodName)) hown (mvT hZ (hw _ (mw 30 rfl))) (mvT hZ (hw _ (mw 31 rfl))) (notFace_of_selects (args := #[]) (mvT hZ (hw _ (mw 33 rfl)))) (mvT hZ (hw _ (mw 33 rfl))) (mvT hZ (hw _ (mw 32 rfl))) (by decide) (backOf (W := 0) (rmfi1 l Z a0 hw [] b1 vf_3 (0 : Int32) (0 : Int32) (1 : Int32) T28.heap n0 f29 P28_0 P28_5) hZ (hw _ (mw 34 rfl)) (hw _ (mw 3 rfl)) (by decide) (by decide)) q33a q33c (g := (mkF m 109 #[.val (.int v0), .val (.int v1), .val (.int v2), .val (.int v3), .val (.int (0 : Int32)), .val (.int (1 : Int32)), .val (.ref b1), .val (.int (1 : Int32))] [(.int (1 : Int32)), (.ref b1)])) rfl (by rw [hml]; rfl) (Steps.refl _) (argsL := [(.int (1 : Int32))]) (rest := []) (lenOf pd_3 rfl) rfl (by show 2 * 0 + _ ≤ _; exact Nat.le_of_eq rfl) (hb hby at_109) (fun _ _ => ⟨rfl, e32, (by decide : 4 + 0 ≤ _), (by decide : 12 + 0 ≤ _)⟩)
      dsimp only [Pt.U, Pt.locs, Pt.cells, Pt.slots] at X33 l33 y33 z33 st33 hQ33
      subst l33 y33 z33
      obtain ⟨rfl, N33q, e33⟩ := hQ33
      have N33 := Fr.app N32 N33q
      refine Goal.tr (B := T33.setTop (mkF m 112 #[.val (.int v0), .val (.int v1), .val (.int v2), .val (.int v3), .val (.int (0 : Int32)), .val (.int (1 : Int32)), .val (.ref b1), .val (.int (1 : Int32))] [(.int (0 : Int32))])) st33 ?_
      refine Goal.to (B := T33.setTop (mkF m 120 #[.val (.int v0), .val (.int v1), .val (.int v2), .val (.int v3), .val (.int (0 : Int32)), .val (.int (1 : Int32)), .val (.ref b1), .val (.int (1 : Int32))] [(.int (1 : Int32)), (.ref b1)])) (fun tt kk => ?_) ?_
      · show Steps p.tables e below (T33.setTop (mkF m 112 #[.val (.int v0), .val (.int v1), .val (.int v2), .val (.int v3), .val (.int (0 : Int32)), .val (.int (1 : Int32)), .val (.ref b1), .val (.int (1 : Int32))] [(.int (0 : Int32))])) tt
        refine XS.iload X33.here hx rfl (hb hby at_112) rfl ?_
        show Steps p.tables e below (T33.setTop (mkF m 114 #[.val (.int v0), .val (.int v1), .val (.int v2), .val (.int v3), .val (.int (0 : Int32)), .val (.int (1 : Int32)), .val (.ref b1), .val (.int (1 : Int32))] [(.int (0 : Int32)), (.int (0 : Int32))])) tt
        refine XS.icmpNo X33.here hx rfl (hb hby at_114) rfl (teq (rfl : (0 : Int32) = (0 : Int32))).2 ?_
        show Steps p.tables e below (T33.setTop (mkF m 117 #[.val (.int v0), .val (.int v1), .val (.int v2), .val (.int v3), .val (.int (0 : Int32)), .val (.int (1 : Int32)), .val (.ref b1), .val (.int (1 : Int32))] [])) tt
        refine XS.aload X33.here hx rfl (hb hby at_117) rfl rfl ?_
        show Steps p.tables e below (T33.setTop (mkF m 119 #[.val (.int v0), .val (.int v1), .val (.int v2), .val (.int v3), .val (.int (0 : Int32)), .val (.int (1 : Int32)), .val (.ref b1), .val (.int (1 : Int32))] [(.ref b1)])) tt
        refine XS.iconst X33.here hx rfl (hb hby at_119) ?_
        exact kk
      obtain ⟨cq34, kq34, q34a, q34b, q34c⟩ := isOf hZ e33 f31
      obtain ⟨_, _, ⟨T34, L34, k34, n34⟩, -, X34, ⟨Lc34, hQ34, l34, y34, z34⟩, st34⟩ := X33.virtualBack hx (y := (⟨"com/example/pattern_automaton/patternautomaton/NonZeroTransitions", "end", "(I)I"⟩ : MethodName)) (z := (⟨"com/example/pattern_automaton/patternautomaton/NonZeroTransitions", "end", "(I)I"⟩ : MethodName)) hown (mvT hZ (hw _ (mw 35 rfl))) (mvT hZ (hw _ (mw 36 rfl))) (notFace_of_selects (args := #[]) (mvT hZ (hw _ (mw 38 rfl)))) (mvT hZ (hw _ (mw 38 rfl))) (mvT hZ (hw _ (mw 37 rfl))) (by decide) (backOf (W := 0) (rmen1 l Z a0 hw [] b1 vf_3 (0 : Int32) (0 : Int32) (1 : Int32) T28.heap n0 f29 P28_0 P28_5) hZ (hw _ (mw 39 rfl)) (hw _ (mw 3 rfl)) (by decide) (by decide)) q34a q34c (g := (mkF m 120 #[.val (.int v0), .val (.int v1), .val (.int v2), .val (.int v3), .val (.int (0 : Int32)), .val (.int (1 : Int32)), .val (.ref b1), .val (.int (1 : Int32))] [(.int (1 : Int32)), (.ref b1)])) rfl (by rw [hml]; rfl) (Steps.refl _) (argsL := [(.int (1 : Int32))]) (rest := []) (lenOf pd_3 rfl) rfl (by show 2 * 0 + _ ≤ _; exact Nat.le_of_eq rfl) (hb hby at_120) (fun _ _ => ⟨rfl, e33, (by decide : 4 + 0 ≤ _), (by decide : 12 + 0 ≤ _)⟩)
      dsimp only [Pt.U, Pt.locs, Pt.cells, Pt.slots] at X34 l34 y34 z34 st34 hQ34
      subst l34 y34 z34
      obtain ⟨rfl, N34q, e34⟩ := hQ34
      have N34 := Fr.app N33 N34q
      refine Goal.tr (B := T34.setTop (mkF m 123 #[.val (.int v0), .val (.int v1), .val (.int v2), .val (.int v3), .val (.int (0 : Int32)), .val (.int (1 : Int32)), .val (.ref b1), .val (.int (1 : Int32))] [(.int (1 : Int32))])) st34 ?_
      refine Goal.to (B := T34.setTop (mkF m 136 #[.val (.int v0), .val (.int v1), .val (.int v2), .val (.int v3), .val (.int (0 : Int32)), .val (.int (1 : Int32)), .val (.ref b1), .val (.int (1 : Int32))] [(.int (1 : Int32))])) (fun tt kk => ?_) ?_
      · show Steps p.tables e below (T34.setTop (mkF m 123 #[.val (.int v0), .val (.int v1), .val (.int v2), .val (.int v3), .val (.int (0 : Int32)), .val (.int (1 : Int32)), .val (.ref b1), .val (.int (1 : Int32))] [(.int (1 : Int32))])) tt
        refine XS.iload X34.here hx rfl (hb hby at_123) rfl ?_
        show Steps p.tables e below (T34.setTop (mkF m 125 #[.val (.int v0), .val (.int v1), .val (.int v2), .val (.int v3), .val (.int (0 : Int32)), .val (.int (1 : Int32)), .val (.ref b1), .val (.int (1 : Int32))] [(.int (0 : Int32)), (.int (1 : Int32))])) tt
        refine XS.iload X34.here hx rfl (hb hby at_125) rfl ?_
        show Steps p.tables e below (T34.setTop (mkF m 127 #[.val (.int v0), .val (.int v1), .val (.int v2), .val (.int v3), .val (.int (0 : Int32)), .val (.int (1 : Int32)), .val (.ref b1), .val (.int (1 : Int32))] [(.int (1 : Int32)), (.int (0 : Int32)), (.int (1 : Int32))])) tt
        refine XS.iadd X34.here hx rfl (hb hby at_127) rfl ?_
        show Steps p.tables e below (T34.setTop (mkF m 128 #[.val (.int v0), .val (.int v1), .val (.int v2), .val (.int v3), .val (.int (0 : Int32)), .val (.int (1 : Int32)), .val (.ref b1), .val (.int (1 : Int32))] [(.int (1 : Int32)), (.int (1 : Int32))])) tt
        refine XS.icmpNo X34.here hx rfl (hb hby at_128) rfl (teq (rfl : (1 : Int32) = (1 : Int32))).2 ?_
        show Steps p.tables e below (T34.setTop (mkF m 131 #[.val (.int v0), .val (.int v1), .val (.int v2), .val (.int v3), .val (.int (0 : Int32)), .val (.int (1 : Int32)), .val (.ref b1), .val (.int (1 : Int32))] [])) tt
        refine XS.iconst X34.here hx rfl (hb hby at_131) ?_
        show Steps p.tables e below (T34.setTop (mkF m 132 #[.val (.int v0), .val (.int v1), .val (.int v2), .val (.int v3), .val (.int (0 : Int32)), .val (.int (1 : Int32)), .val (.ref b1), .val (.int (1 : Int32))] [(.int (1 : Int32))])) tt
        refine XS.goto X34.here hx rfl (pc0 := 132) (pc' := 136) rfl (hb hby at_132) (by decide) (by decide) ?_
        exact kk
      exact Goal.retV X34 hx Bd.returns rfl (Or.inl ⟨rfl, Or.inr (Or.inl rfl), _, rfl⟩) (hb hby at_136) hlk e34 ⟨rfl, N34⟩ (by decide) (by decide)
    · refine Goal.to (B := T11.setTop (mkF m 73 #[.val (.int v0), .val (.int v1), .val (.int v2), .val (.int v3), .val (.int (0 : Int32)), .val (.int (2 : Int32)), .val (.ref b1), .val (.int (1 : Int32))] [(.int v3), (.int v2), (.int (2 : Int32)), (.ref b1)])) (fun tt kk => ?_) ?_
      · show Steps p.tables e below (T11.setTop (mkF m 67 #[.val (.int v0), .val (.int v1), .val (.int v2), .val (.int v3), .val (.int (0 : Int32)), .val (.int (2 : Int32)), .val (.ref b1), .val (.int (1 : Int32))] [])) tt
        refine XS.aload X11.here hx rfl (hb hby at_67) rfl rfl ?_
        show Steps p.tables e below (T11.setTop (mkF m 69 #[.val (.int v0), .val (.int v1), .val (.int v2), .val (.int v3), .val (.int (0 : Int32)), .val (.int (2 : Int32)), .val (.ref b1), .val (.int (1 : Int32))] [(.ref b1)])) tt
        refine XS.iload X11.here hx rfl (hb hby at_69) rfl ?_
        show Steps p.tables e below (T11.setTop (mkF m 71 #[.val (.int v0), .val (.int v1), .val (.int v2), .val (.int v3), .val (.int (0 : Int32)), .val (.int (2 : Int32)), .val (.ref b1), .val (.int (1 : Int32))] [(.int (2 : Int32)), (.ref b1)])) tt
        refine XS.iloadN X11.here hx rfl (hb hby at_71) rfl ?_
        show Steps p.tables e below (T11.setTop (mkF m 72 #[.val (.int v0), .val (.int v1), .val (.int v2), .val (.int v3), .val (.int (0 : Int32)), .val (.int (2 : Int32)), .val (.ref b1), .val (.int (1 : Int32))] [(.int v2), (.int (2 : Int32)), (.ref b1)])) tt
        refine XS.iloadN X11.here hx rfl (hb hby at_72) rfl ?_
        exact kk
      have f35 : Ary Z T7.heap vr_3 .int [(.int (0 : Int32)), (.int (0 : Int32))] := (P3_6.keep K7 (ninS (Ne.symm ne_b1_vr_3) (ninS (Ne.symm ne3_vf_vr) nin0)))
      have f36 : Ary Z T7.heap vt_3 .int [(.int (0 : Int32)), (.int (0 : Int32))] := (P3_7.keep K7 (ninS (Ne.symm ne_b1_vt_3) (ninS (Ne.symm ne3_vf_vt) nin0)))
      obtain ⟨_, _, ⟨T37, L37, k37, n37⟩, -, X37, ⟨Lc37, hQ37, l37, y37, z37⟩, st37⟩ := Jvm.LawKit.callS X11 hx (y := (⟨"com/example/pattern_automaton/patternautomaton/NonZeroTransitionsEndStatePinLaw", "addN", "(Lcom/example/pattern_automaton/patternautomaton/NonZeroTransitions;III)V"⟩ : MethodName)) hown (mvT hZ (hw _ (mw 17 rfl))) (mvT hZ (hw _ (mw 18 rfl))) (mvT hZ (hw _ (mw 19 rfl))) (mvT hZ (hw _ (mw 20 rfl))) (by decide) (backOf (W := 0) (rman02 l Z a0 hw [] b1 vf_3 vr_3 vt_3 (1 : Int32) (0 : Int32) (0 : Int32) (0 : Int32) (0 : Int32) v2 v3 T7.heap n0 f8 f10 P7_0 P7_1 P7_2 P7_3 P7_4 f35 f36 g_b1 g_vr_3 g_vt_3 ne_b1_vr_3 ne_b1_vt_3 ne3_vr_vt) hZ (hw _ (mw 20 rfl)) (hw _ (mw 19 rfl)) (by decide) (by decide)) (g := (mkF m 73 #[.val (.int v0), .val (.int v1), .val (.int v2), .val (.int v3), .val (.int (0 : Int32)), .val (.int (2 : Int32)), .val (.ref b1), .val (.int (1 : Int32))] [(.int v3), (.int v2), (.int (2 : Int32)), (.ref b1)])) rfl (by rw [hml]; rfl) (argsL := [(.ref b1), (.int (2 : Int32)), (.int v2), (.int v3)]) (rest := []) (lenOf pd_2 rfl) rfl (by show 2 * 0 + _ ≤ _; exact Nat.le_of_eq rfl) (hb hby at_73) (fun _ _ => ⟨rfl, e11, (by decide : 4 + 0 ≤ _), (by decide : 12 + 0 ≤ _)⟩)
      dsimp only [Pt.U, Pt.locs, Pt.cells, Pt.slots] at X37 l37 y37 z37 st37 hQ37
      subst l37 y37 z37
      obtain ⟨rfl, N37q, K37, P37_0, P37_1, P37_2, P37_3, P37_4, P37_5, P37_6⟩ := hQ37
      have N37 := Fr.app N11 N37q
      refine Goal.to (B := T37.setTop (mkF m 76 #[.val (.int v0), .val (.int v1), .val (.int v2), .val (.int v3), .val (.int (0 : Int32)), .val (.int (2 : Int32)), .val (.ref b1), .val (.int (1 : Int32))] [])) st37 ?_
      refine Goal.to (B := T37.setTop (mkF m 78 #[.val (.int v0), .val (.int v1), .val (.int v2), .val (.int v3), .val (.int (0 : Int32)), .val (.int (2 : Int32)), .val (.ref b1), .val (.int (1 : Int32))] [(.ref b1)])) (fun tt kk => ?_) ?_
      · show Steps p.tables e below (T37.setTop (mkF m 76 #[.val (.int v0), .val (.int v1), .val (.int v2), .val (.int v3), .val (.int (0 : Int32)), .val (.int (2 : Int32)), .val (.ref b1), .val (.int (1 : Int32))] [])) tt
        refine XS.aload X37.here hx rfl (hb hby at_76) rfl rfl ?_
        exact kk
      have f38 : Exa Z T37.heap b1 "com/example/pattern_automaton/patternautomaton/NonZeroTransitions" := (f10.keep K37)
      have f39 : Ary Z T37.heap vf_3 .int [(.int (0 : Int32)), (.int (0 : Int32)), (.int (0 : Int32))] := (P7_5.keep K37 (ninS (Ne.symm ne_b1_vf_3) (ninS ne3_vf_vr (ninS ne3_vf_vt nin0))))
      have f40 : n0 ≤ T37.heap.size := (Nat.le_trans f8 K37.1)
      obtain ⟨cq41, kq41, q41a, q41b, q41c⟩ := isOf hZ rfl f38
      obtain ⟨_, _, ⟨T41, L41, k41, n41⟩, -, X41, ⟨Lc41, hQ41, l41, y41, z41⟩, st41⟩ := X37.virtualBack hx (y := (⟨"com/example/pattern_automaton/patternautomaton/NonZeroTransitions", "endState", "()V"⟩ : MethodName)) (z := (⟨"com/example/pattern_automaton/patternautomaton/NonZeroTransitions", "endState", "()V"⟩ : MethodName)) hown (mvT hZ (hw _ (mw 21 rfl))) (mvT hZ (hw _ (mw 22 rfl))) (notFace_of_selects (args := #[]) (mvT hZ (hw _ (mw 24 rfl)))) (mvT hZ (hw _ (mw 24 rfl))) (mvT hZ (hw _ (mw 23 rfl))) (by decide) (backOf (W := 0) (rmes1 l Z a0 hw [] b1 vf_3 vr_3 vt_3 (2 : Int32) (0 : Int32) (0 : Int32) (0 : Int32) T37.heap n0 f40 f38 P37_0 P37_1 P37_2 P37_3 P37_4 f39 g_b1 g_vf_3 ne_b1_vf_3) hZ (hw _ (mw 25 rfl)) (hw _ (mw 3 rfl)) (by decide) (by decide)) q41a q41c (g := (mkF m 78 #[.val (.int v0), .val (.int v1), .val (.int v2), .val (.int v3), .val (.int (0 : Int32)), .val (.int (2 : Int32)), .val (.ref b1), .val (.int (1 : Int32))] [(.ref b1)])) rfl (by rw [hml]; rfl) (Steps.refl _) (argsL := []) (rest := []) (lenOf pd_1 rfl) rfl (by show 2 * 0 + _ ≤ _; exact Nat.le_of_eq rfl) (hb hby at_78) (fun _ _ => ⟨rfl, rfl, (by decide : 4 + 0 ≤ _), (by decide : 12 + 0 ≤ _)⟩)
      dsimp only [Pt.U, Pt.locs, Pt.cells, Pt.slots] at X41 l41 y41 z41 st41 hQ41
      subst l41 y41 z41
      obtain ⟨rfl, N41q, K41, P41_0, P41_1, P41_2, P41_3, P41_4, P41_5⟩ := hQ41
      have N41 := Fr.app N37 N41q
      refine Goal.tr (B := T41.setTop (mkF m 81 #[.val (.int v0), .val (.int v1), .val (.int v2), .val (.int v3), .val (.int (0 : Int32)), .val (.int (2 : Int32)), .val (.ref b1), .val (.int (1 : Int32))] [])) st41 ?_
      refine Goal.to (B := T41.setTop (mkF m 89 #[.val (.int v0), .val (.int v1), .val (.int v2), .val (.int v3), .val (.int (0 : Int32)), .val (.int (2 : Int32)), .val (.ref b1), .val (.int (1 : Int32))] [(.int (0 : Int32)), (.ref b1)])) (fun tt kk => ?_) ?_
      · show Steps p.tables e below (T41.setTop (mkF m 81 #[.val (.int v0), .val (.int v1), .val (.int v2), .val (.int v3), .val (.int (0 : Int32)), .val (.int (2 : Int32)), .val (.ref b1), .val (.int (1 : Int32))] [])) tt
        refine XS.iload X41.here hx rfl (hb hby at_81) rfl ?_
        show Steps p.tables e below (T41.setTop (mkF m 83 #[.val (.int v0), .val (.int v1), .val (.int v2), .val (.int v3), .val (.int (0 : Int32)), .val (.int (2 : Int32)), .val (.ref b1), .val (.int (1 : Int32))] [(.int (1 : Int32))])) tt
        refine XS.ifNo X41.here hx rfl (hb hby at_83) rfl ((if0 _ _).trans (feq ((by decide) : ¬ ((1 : Int32) = (0 : Int32)))).1) ?_
        show Steps p.tables e below (T41.setTop (mkF m 86 #[.val (.int v0), .val (.int v1), .val (.int v2), .val (.int v3), .val (.int (0 : Int32)), .val (.int (2 : Int32)), .val (.ref b1), .val (.int (1 : Int32))] [])) tt
        refine XS.aload X41.here hx rfl (hb hby at_86) rfl rfl ?_
        show Steps p.tables e below (T41.setTop (mkF m 88 #[.val (.int v0), .val (.int v1), .val (.int v2), .val (.int v3), .val (.int (0 : Int32)), .val (.int (2 : Int32)), .val (.ref b1), .val (.int (1 : Int32))] [(.ref b1)])) tt
        refine XS.iconst X41.here hx rfl (hb hby at_88) ?_
        exact kk
      have f42 : n0 ≤ T41.heap.size := (Nat.le_trans f40 K41.1)
      have f44 : Exa Z T41.heap b1 "com/example/pattern_automaton/patternautomaton/NonZeroTransitions" := (f38.keep K41)
      obtain ⟨cq43, kq43, q43a, q43b, q43c⟩ := isOf hZ rfl f44
      obtain ⟨_, _, ⟨T43, L43, k43, n43⟩, -, X43, ⟨Lc43, hQ43, l43, y43, z43⟩, st43⟩ := X41.virtualBack hx (y := (⟨"com/example/pattern_automaton/patternautomaton/NonZeroTransitions", "first", "(I)I"⟩ : MethodName)) (z := (⟨"com/example/pattern_automaton/patternautomaton/NonZeroTransitions", "first", "(I)I"⟩ : MethodName)) hown (mvT hZ (hw _ (mw 30 rfl))) (mvT hZ (hw _ (mw 31 rfl))) (notFace_of_selects (args := #[]) (mvT hZ (hw _ (mw 33 rfl)))) (mvT hZ (hw _ (mw 33 rfl))) (mvT hZ (hw _ (mw 32 rfl))) (by decide) (backOf (W := 0) (rmfi0 l Z a0 hw [] b1 vf_3 (0 : Int32) (0 : Int32) (2 : Int32) T41.heap n0 f42 P41_0 P41_5) hZ (hw _ (mw 34 rfl)) (hw _ (mw 3 rfl)) (by decide) (by decide)) q43a q43c (g := (mkF m 89 #[.val (.int v0), .val (.int v1), .val (.int v2), .val (.int v3), .val (.int (0 : Int32)), .val (.int (2 : Int32)), .val (.ref b1), .val (.int (1 : Int32))] [(.int (0 : Int32)), (.ref b1)])) rfl (by rw [hml]; rfl) (Steps.refl _) (argsL := [(.int (0 : Int32))]) (rest := []) (lenOf pd_3 rfl) rfl (by show 2 * 0 + _ ≤ _; exact Nat.le_of_eq rfl) (hb hby at_89) (fun _ _ => ⟨rfl, rfl, (by decide : 4 + 0 ≤ _), (by decide : 12 + 0 ≤ _)⟩)
      dsimp only [Pt.U, Pt.locs, Pt.cells, Pt.slots] at X43 l43 y43 z43 st43 hQ43
      subst l43 y43 z43
      obtain ⟨rfl, N43q, e43⟩ := hQ43
      have N43 := Fr.app N41 N43q
      refine Goal.tr (B := T43.setTop (mkF m 92 #[.val (.int v0), .val (.int v1), .val (.int v2), .val (.int v3), .val (.int (0 : Int32)), .val (.int (2 : Int32)), .val (.ref b1), .val (.int (1 : Int32))] [(.int (0 : Int32))])) st43 ?_
      refine Goal.to (B := T43.setTop (mkF m 98 #[.val (.int v0), .val (.int v1), .val (.int v2), .val (.int v3), .val (.int (0 : Int32)), .val (.int (2 : Int32)), .val (.ref b1), .val (.int (1 : Int32))] [(.int (0 : Int32)), (.ref b1)])) (fun tt kk => ?_) ?_
      · show Steps p.tables e below (T43.setTop (mkF m 92 #[.val (.int v0), .val (.int v1), .val (.int v2), .val (.int v3), .val (.int (0 : Int32)), .val (.int (2 : Int32)), .val (.ref b1), .val (.int (1 : Int32))] [(.int (0 : Int32))])) tt
        refine XS.ifNo X43.here hx rfl (hb hby at_92) rfl ((if0 _ _).trans (teq (rfl : (0 : Int32) = (0 : Int32))).2) ?_
        show Steps p.tables e below (T43.setTop (mkF m 95 #[.val (.int v0), .val (.int v1), .val (.int v2), .val (.int v3), .val (.int (0 : Int32)), .val (.int (2 : Int32)), .val (.ref b1), .val (.int (1 : Int32))] [])) tt
        refine XS.aload X43.here hx rfl (hb hby at_95) rfl rfl ?_
        show Steps p.tables e below (T43.setTop (mkF m 97 #[.val (.int v0), .val (.int v1), .val (.int v2), .val (.int v3), .val (.int (0 : Int32)), .val (.int (2 : Int32)), .val (.ref b1), .val (.int (1 : Int32))] [(.ref b1)])) tt
        refine XS.iconst X43.here hx rfl (hb hby at_97) ?_
        exact kk
      obtain ⟨cq45, kq45, q45a, q45b, q45c⟩ := isOf hZ e43 f44
      obtain ⟨_, _, ⟨T45, L45, k45, n45⟩, -, X45, ⟨Lc45, hQ45, l45, y45, z45⟩, st45⟩ := X43.virtualBack hx (y := (⟨"com/example/pattern_automaton/patternautomaton/NonZeroTransitions", "end", "(I)I"⟩ : MethodName)) (z := (⟨"com/example/pattern_automaton/patternautomaton/NonZeroTransitions", "end", "(I)I"⟩ : MethodName)) hown (mvT hZ (hw _ (mw 35 rfl))) (mvT hZ (hw _ (mw 36 rfl))) (notFace_of_selects (args := #[]) (mvT hZ (hw _ (mw 38 rfl)))) (mvT hZ (hw _ (mw 38 rfl))) (mvT hZ (hw _ (mw 37 rfl))) (by decide) (backOf (W := 0) (rmen0 l Z a0 hw [] b1 vf_3 (0 : Int32) (0 : Int32) (2 : Int32) T41.heap n0 f42 P41_0 P41_5) hZ (hw _ (mw 39 rfl)) (hw _ (mw 3 rfl)) (by decide) (by decide)) q45a q45c (g := (mkF m 98 #[.val (.int v0), .val (.int v1), .val (.int v2), .val (.int v3), .val (.int (0 : Int32)), .val (.int (2 : Int32)), .val (.ref b1), .val (.int (1 : Int32))] [(.int (0 : Int32)), (.ref b1)])) rfl (by rw [hml]; rfl) (Steps.refl _) (argsL := [(.int (0 : Int32))]) (rest := []) (lenOf pd_3 rfl) rfl (by show 2 * 0 + _ ≤ _; exact Nat.le_of_eq rfl) (hb hby at_98) (fun _ _ => ⟨rfl, e43, (by decide : 4 + 0 ≤ _), (by decide : 12 + 0 ≤ _)⟩)
      dsimp only [Pt.U, Pt.locs, Pt.cells, Pt.slots] at X45 l45 y45 z45 st45 hQ45
      subst l45 y45 z45
      obtain ⟨rfl, N45q, e45⟩ := hQ45
      have N45 := Fr.app N43 N45q
      refine Goal.tr (B := T45.setTop (mkF m 101 #[.val (.int v0), .val (.int v1), .val (.int v2), .val (.int v3), .val (.int (0 : Int32)), .val (.int (2 : Int32)), .val (.ref b1), .val (.int (1 : Int32))] [(.int (0 : Int32))])) st45 ?_
      refine Goal.to (B := T45.setTop (mkF m 109 #[.val (.int v0), .val (.int v1), .val (.int v2), .val (.int v3), .val (.int (0 : Int32)), .val (.int (2 : Int32)), .val (.ref b1), .val (.int (1 : Int32))] [(.int (1 : Int32)), (.ref b1)])) (fun tt kk => ?_) ?_
      · show Steps p.tables e below (T45.setTop (mkF m 101 #[.val (.int v0), .val (.int v1), .val (.int v2), .val (.int v3), .val (.int (0 : Int32)), .val (.int (2 : Int32)), .val (.ref b1), .val (.int (1 : Int32))] [(.int (0 : Int32))])) tt
        refine XS.iload X45.here hx rfl (hb hby at_101) rfl ?_
        show Steps p.tables e below (T45.setTop (mkF m 103 #[.val (.int v0), .val (.int v1), .val (.int v2), .val (.int v3), .val (.int (0 : Int32)), .val (.int (2 : Int32)), .val (.ref b1), .val (.int (1 : Int32))] [(.int (0 : Int32)), (.int (0 : Int32))])) tt
        refine XS.icmpNo X45.here hx rfl (hb hby at_103) rfl (teq (rfl : (0 : Int32) = (0 : Int32))).2 ?_
        show Steps p.tables e below (T45.setTop (mkF m 106 #[.val (.int v0), .val (.int v1), .val (.int v2), .val (.int v3), .val (.int (0 : Int32)), .val (.int (2 : Int32)), .val (.ref b1), .val (.int (1 : Int32))] [])) tt
        refine XS.aload X45.here hx rfl (hb hby at_106) rfl rfl ?_
        show Steps p.tables e below (T45.setTop (mkF m 108 #[.val (.int v0), .val (.int v1), .val (.int v2), .val (.int v3), .val (.int (0 : Int32)), .val (.int (2 : Int32)), .val (.ref b1), .val (.int (1 : Int32))] [(.ref b1)])) tt
        refine XS.iconst X45.here hx rfl (hb hby at_108) ?_
        exact kk
      obtain ⟨cq46, kq46, q46a, q46b, q46c⟩ := isOf hZ e45 f44
      obtain ⟨_, _, ⟨T46, L46, k46, n46⟩, -, X46, ⟨Lc46, hQ46, l46, y46, z46⟩, st46⟩ := X45.virtualBack hx (y := (⟨"com/example/pattern_automaton/patternautomaton/NonZeroTransitions", "first", "(I)I"⟩ : MethodName)) (z := (⟨"com/example/pattern_automaton/patternautomaton/NonZeroTransitions", "first", "(I)I"⟩ : MethodName)) hown (mvT hZ (hw _ (mw 30 rfl))) (mvT hZ (hw _ (mw 31 rfl))) (notFace_of_selects (args := #[]) (mvT hZ (hw _ (mw 33 rfl)))) (mvT hZ (hw _ (mw 33 rfl))) (mvT hZ (hw _ (mw 32 rfl))) (by decide) (backOf (W := 0) (rmfi1 l Z a0 hw [] b1 vf_3 (0 : Int32) (0 : Int32) (2 : Int32) T41.heap n0 f42 P41_0 P41_5) hZ (hw _ (mw 34 rfl)) (hw _ (mw 3 rfl)) (by decide) (by decide)) q46a q46c (g := (mkF m 109 #[.val (.int v0), .val (.int v1), .val (.int v2), .val (.int v3), .val (.int (0 : Int32)), .val (.int (2 : Int32)), .val (.ref b1), .val (.int (1 : Int32))] [(.int (1 : Int32)), (.ref b1)])) rfl (by rw [hml]; rfl) (Steps.refl _) (argsL := [(.int (1 : Int32))]) (rest := []) (lenOf pd_3 rfl) rfl (by show 2 * 0 + _ ≤ _; exact Nat.le_of_eq rfl) (hb hby at_109) (fun _ _ => ⟨rfl, e45, (by decide : 4 + 0 ≤ _), (by decide : 12 + 0 ≤ _)⟩)
      dsimp only [Pt.U, Pt.locs, Pt.cells, Pt.slots] at X46 l46 y46 z46 st46 hQ46
      subst l46 y46 z46
      obtain ⟨rfl, N46q, e46⟩ := hQ46
      have N46 := Fr.app N45 N46q
      refine Goal.tr (B := T46.setTop (mkF m 112 #[.val (.int v0), .val (.int v1), .val (.int v2), .val (.int v3), .val (.int (0 : Int32)), .val (.int (2 : Int32)), .val (.ref b1), .val (.int (1 : Int32))] [(.int (0 : Int32))])) st46 ?_
      refine Goal.to (B := T46.setTop (mkF m 120 #[.val (.int v0), .val (.int v1), .val (.int v2), .val (.int v3), .val (.int (0 : Int32)), .val (.int (2 : Int32)), .val (.ref b1), .val (.int (1 : Int32))] [(.int (1 : Int32)), (.ref b1)])) (fun tt kk => ?_) ?_
      · show Steps p.tables e below (T46.setTop (mkF m 112 #[.val (.int v0), .val (.int v1), .val (.int v2), .val (.int v3), .val (.int (0 : Int32)), .val (.int (2 : Int32)), .val (.ref b1), .val (.int (1 : Int32))] [(.int (0 : Int32))])) tt
        refine XS.iload X46.here hx rfl (hb hby at_112) rfl ?_
        show Steps p.tables e below (T46.setTop (mkF m 114 #[.val (.int v0), .val (.int v1), .val (.int v2), .val (.int v3), .val (.int (0 : Int32)), .val (.int (2 : Int32)), .val (.ref b1), .val (.int (1 : Int32))] [(.int (0 : Int32)), (.int (0 : Int32))])) tt
        refine XS.icmpNo X46.here hx rfl (hb hby at_114) rfl (teq (rfl : (0 : Int32) = (0 : Int32))).2 ?_
        show Steps p.tables e below (T46.setTop (mkF m 117 #[.val (.int v0), .val (.int v1), .val (.int v2), .val (.int v3), .val (.int (0 : Int32)), .val (.int (2 : Int32)), .val (.ref b1), .val (.int (1 : Int32))] [])) tt
        refine XS.aload X46.here hx rfl (hb hby at_117) rfl rfl ?_
        show Steps p.tables e below (T46.setTop (mkF m 119 #[.val (.int v0), .val (.int v1), .val (.int v2), .val (.int v3), .val (.int (0 : Int32)), .val (.int (2 : Int32)), .val (.ref b1), .val (.int (1 : Int32))] [(.ref b1)])) tt
        refine XS.iconst X46.here hx rfl (hb hby at_119) ?_
        exact kk
      obtain ⟨cq47, kq47, q47a, q47b, q47c⟩ := isOf hZ e46 f44
      obtain ⟨_, _, ⟨T47, L47, k47, n47⟩, -, X47, ⟨Lc47, hQ47, l47, y47, z47⟩, st47⟩ := X46.virtualBack hx (y := (⟨"com/example/pattern_automaton/patternautomaton/NonZeroTransitions", "end", "(I)I"⟩ : MethodName)) (z := (⟨"com/example/pattern_automaton/patternautomaton/NonZeroTransitions", "end", "(I)I"⟩ : MethodName)) hown (mvT hZ (hw _ (mw 35 rfl))) (mvT hZ (hw _ (mw 36 rfl))) (notFace_of_selects (args := #[]) (mvT hZ (hw _ (mw 38 rfl)))) (mvT hZ (hw _ (mw 38 rfl))) (mvT hZ (hw _ (mw 37 rfl))) (by decide) (backOf (W := 0) (rmen1 l Z a0 hw [] b1 vf_3 (0 : Int32) (0 : Int32) (2 : Int32) T41.heap n0 f42 P41_0 P41_5) hZ (hw _ (mw 39 rfl)) (hw _ (mw 3 rfl)) (by decide) (by decide)) q47a q47c (g := (mkF m 120 #[.val (.int v0), .val (.int v1), .val (.int v2), .val (.int v3), .val (.int (0 : Int32)), .val (.int (2 : Int32)), .val (.ref b1), .val (.int (1 : Int32))] [(.int (1 : Int32)), (.ref b1)])) rfl (by rw [hml]; rfl) (Steps.refl _) (argsL := [(.int (1 : Int32))]) (rest := []) (lenOf pd_3 rfl) rfl (by show 2 * 0 + _ ≤ _; exact Nat.le_of_eq rfl) (hb hby at_120) (fun _ _ => ⟨rfl, e46, (by decide : 4 + 0 ≤ _), (by decide : 12 + 0 ≤ _)⟩)
      dsimp only [Pt.U, Pt.locs, Pt.cells, Pt.slots] at X47 l47 y47 z47 st47 hQ47
      subst l47 y47 z47
      obtain ⟨rfl, N47q, e47⟩ := hQ47
      have N47 := Fr.app N46 N47q
      refine Goal.tr (B := T47.setTop (mkF m 123 #[.val (.int v0), .val (.int v1), .val (.int v2), .val (.int v3), .val (.int (0 : Int32)), .val (.int (2 : Int32)), .val (.ref b1), .val (.int (1 : Int32))] [(.int (2 : Int32))])) st47 ?_
      refine Goal.to (B := T47.setTop (mkF m 136 #[.val (.int v0), .val (.int v1), .val (.int v2), .val (.int v3), .val (.int (0 : Int32)), .val (.int (2 : Int32)), .val (.ref b1), .val (.int (1 : Int32))] [(.int (1 : Int32))])) (fun tt kk => ?_) ?_
      · show Steps p.tables e below (T47.setTop (mkF m 123 #[.val (.int v0), .val (.int v1), .val (.int v2), .val (.int v3), .val (.int (0 : Int32)), .val (.int (2 : Int32)), .val (.ref b1), .val (.int (1 : Int32))] [(.int (2 : Int32))])) tt
        refine XS.iload X47.here hx rfl (hb hby at_123) rfl ?_
        show Steps p.tables e below (T47.setTop (mkF m 125 #[.val (.int v0), .val (.int v1), .val (.int v2), .val (.int v3), .val (.int (0 : Int32)), .val (.int (2 : Int32)), .val (.ref b1), .val (.int (1 : Int32))] [(.int (0 : Int32)), (.int (2 : Int32))])) tt
        refine XS.iload X47.here hx rfl (hb hby at_125) rfl ?_
        show Steps p.tables e below (T47.setTop (mkF m 127 #[.val (.int v0), .val (.int v1), .val (.int v2), .val (.int v3), .val (.int (0 : Int32)), .val (.int (2 : Int32)), .val (.ref b1), .val (.int (1 : Int32))] [(.int (2 : Int32)), (.int (0 : Int32)), (.int (2 : Int32))])) tt
        refine XS.iadd X47.here hx rfl (hb hby at_127) rfl ?_
        show Steps p.tables e below (T47.setTop (mkF m 128 #[.val (.int v0), .val (.int v1), .val (.int v2), .val (.int v3), .val (.int (0 : Int32)), .val (.int (2 : Int32)), .val (.ref b1), .val (.int (1 : Int32))] [(.int (2 : Int32)), (.int (2 : Int32))])) tt
        refine XS.icmpNo X47.here hx rfl (hb hby at_128) rfl (teq (rfl : (2 : Int32) = (2 : Int32))).2 ?_
        show Steps p.tables e below (T47.setTop (mkF m 131 #[.val (.int v0), .val (.int v1), .val (.int v2), .val (.int v3), .val (.int (0 : Int32)), .val (.int (2 : Int32)), .val (.ref b1), .val (.int (1 : Int32))] [])) tt
        refine XS.iconst X47.here hx rfl (hb hby at_131) ?_
        show Steps p.tables e below (T47.setTop (mkF m 132 #[.val (.int v0), .val (.int v1), .val (.int v2), .val (.int v3), .val (.int (0 : Int32)), .val (.int (2 : Int32)), .val (.ref b1), .val (.int (1 : Int32))] [(.int (1 : Int32))])) tt
        refine XS.goto X47.here hx rfl (pc0 := 132) (pc' := 136) rfl (hb hby at_132) (by decide) (by decide) ?_
        exact kk
      exact Goal.retV X47 hx Bd.returns rfl (Or.inl ⟨rfl, Or.inr (Or.inl rfl), _, rfl⟩) (hb hby at_136) hlk e47 ⟨rfl, N47⟩ (by decide) (by decide)
  · refine Goal.to (B := T3.setTop (mkF m 32 #[.val (.int v0), .val (.int v1), .val (.int v2), .val (.int v3), .val (.int (1 : Int32)), .val (.int nb), .val (.ref b1), .unset] [(.int v3), (.int v2), (.int (1 : Int32)), (.ref b1)])) (fun tt kk => ?_) ?_
    · show Steps p.tables e below (T3.setTop (mkF m 26 #[.val (.int v0), .val (.int v1), .val (.int v2), .val (.int v3), .val (.int (1 : Int32)), .val (.int nb), .val (.ref b1), .unset] [])) tt
      refine XS.aload X3.here hx rfl (hb hby at_26) rfl rfl ?_
      show Steps p.tables e below (T3.setTop (mkF m 28 #[.val (.int v0), .val (.int v1), .val (.int v2), .val (.int v3), .val (.int (1 : Int32)), .val (.int nb), .val (.ref b1), .unset] [(.ref b1)])) tt
      refine XS.iload X3.here hx rfl (hb hby at_28) rfl ?_
      show Steps p.tables e below (T3.setTop (mkF m 30 #[.val (.int v0), .val (.int v1), .val (.int v2), .val (.int v3), .val (.int (1 : Int32)), .val (.int nb), .val (.ref b1), .unset] [(.int (1 : Int32)), (.ref b1)])) tt
      refine XS.iloadN X3.here hx rfl (hb hby at_30) rfl ?_
      show Steps p.tables e below (T3.setTop (mkF m 31 #[.val (.int v0), .val (.int v1), .val (.int v2), .val (.int v3), .val (.int (1 : Int32)), .val (.int nb), .val (.ref b1), .unset] [(.int v2), (.int (1 : Int32)), (.ref b1)])) tt
      refine XS.iloadN X3.here hx rfl (hb hby at_31) rfl ?_
      exact kk
    have f48 : Exa Z T3.heap b1 "com/example/pattern_automaton/patternautomaton/NonZeroTransitions" := (A1.keep K3)
    have f49 : n0 ≤ T3.heap.size := (Nat.le_trans f2 K3.1)
    obtain ⟨_, _, ⟨T50, L50, k50, n50⟩, -, X50, ⟨Lc50, hQ50, l50, y50, z50⟩, st50⟩ := Jvm.LawKit.callS X3 hx (y := (⟨"com/example/pattern_automaton/patternautomaton/NonZeroTransitionsEndStatePinLaw", "addN", "(Lcom/example/pattern_automaton/patternautomaton/NonZeroTransitions;III)V"⟩ : MethodName)) hown (mvT hZ (hw _ (mw 17 rfl))) (mvT hZ (hw _ (mw 18 rfl))) (mvT hZ (hw _ (mw 19 rfl))) (mvT hZ (hw _ (mw 20 rfl))) (by decide) (backOf (W := 0) (rman01 l Z a0 hw [] b1 vf_3 vr_3 vt_3 (0 : Int32) (0 : Int32) (0 : Int32) (0 : Int32) (0 : Int32) v2 v3 T3.heap n0 f49 f48 P3_0 P3_1 P3_2 P3_3 P3_4 P3_6 P3_7 g_b1 g_vr_3 g_vt_3 ne_b1_vr_3 ne_b1_vt_3 ne3_vr_vt) hZ (hw _ (mw 20 rfl)) (hw _ (mw 19 rfl)) (by decide) (by decide)) (g := (mkF m 32 #[.val (.int v0), .val (.int v1), .val (.int v2), .val (.int v3), .val (.int (1 : Int32)), .val (.int nb), .val (.ref b1), .unset] [(.int v3), (.int v2), (.int (1 : Int32)), (.ref b1)])) rfl (by rw [hml]; rfl) (argsL := [(.ref b1), (.int (1 : Int32)), (.int v2), (.int v3)]) (rest := []) (lenOf pd_2 rfl) rfl (by show 2 * 0 + _ ≤ _; exact Nat.le_of_eq rfl) (hb hby at_32) (fun _ _ => ⟨rfl, rfl, (by decide : 4 + 0 ≤ _), (by decide : 12 + 0 ≤ _)⟩)
    dsimp only [Pt.U, Pt.locs, Pt.cells, Pt.slots] at X50 l50 y50 z50 st50 hQ50
    subst l50 y50 z50
    obtain ⟨rfl, N50q, K50, P50_0, P50_1, P50_2, P50_3, P50_4, P50_5, P50_6⟩ := hQ50
    have N50 := Fr.app N3 N50q
    refine Goal.to (B := T50.setTop (mkF m 35 #[.val (.int v0), .val (.int v1), .val (.int v2), .val (.int v3), .val (.int (1 : Int32)), .val (.int nb), .val (.ref b1), .unset] [])) st50 ?_
    refine Goal.to (B := T50.setTop (mkF m 37 #[.val (.int v0), .val (.int v1), .val (.int v2), .val (.int v3), .val (.int (1 : Int32)), .val (.int nb), .val (.ref b1), .unset] [(.ref b1)])) (fun tt kk => ?_) ?_
    · show Steps p.tables e below (T50.setTop (mkF m 35 #[.val (.int v0), .val (.int v1), .val (.int v2), .val (.int v3), .val (.int (1 : Int32)), .val (.int nb), .val (.ref b1), .unset] [])) tt
      refine XS.aload X50.here hx rfl (hb hby at_35) rfl rfl ?_
      exact kk
    have f51 : Exa Z T50.heap b1 "com/example/pattern_automaton/patternautomaton/NonZeroTransitions" := (f48.keep K50)
    have f52 : Ary Z T50.heap vf_3 .int [(.int (0 : Int32)), (.int (0 : Int32)), (.int (0 : Int32))] := (P3_5.keep K50 (ninS (Ne.symm ne_b1_vf_3) (ninS ne3_vf_vr (ninS ne3_vf_vt nin0))))
    have f53 : n0 ≤ T50.heap.size := (Nat.le_trans f49 K50.1)
    obtain ⟨cq54, kq54, q54a, q54b, q54c⟩ := isOf hZ rfl f51
    obtain ⟨_, _, ⟨T54, L54, k54, n54⟩, -, X54, ⟨Lc54, hQ54, l54, y54, z54⟩, st54⟩ := X50.virtualBack hx (y := (⟨"com/example/pattern_automaton/patternautomaton/NonZeroTransitions", "endState", "()V"⟩ : MethodName)) (z := (⟨"com/example/pattern_automaton/patternautomaton/NonZeroTransitions", "endState", "()V"⟩ : MethodName)) hown (mvT hZ (hw _ (mw 21 rfl))) (mvT hZ (hw _ (mw 22 rfl))) (notFace_of_selects (args := #[]) (mvT hZ (hw _ (mw 24 rfl)))) (mvT hZ (hw _ (mw 24 rfl))) (mvT hZ (hw _ (mw 23 rfl))) (by decide) (backOf (W := 0) (rmes0 l Z a0 hw [] b1 vf_3 vr_3 vt_3 (1 : Int32) (0 : Int32) (0 : Int32) (0 : Int32) T50.heap n0 f53 f51 P50_0 P50_1 P50_2 P50_3 P50_4 f52 g_b1 g_vf_3 ne_b1_vf_3) hZ (hw _ (mw 25 rfl)) (hw _ (mw 3 rfl)) (by decide) (by decide)) q54a q54c (g := (mkF m 37 #[.val (.int v0), .val (.int v1), .val (.int v2), .val (.int v3), .val (.int (1 : Int32)), .val (.int nb), .val (.ref b1), .unset] [(.ref b1)])) rfl (by rw [hml]; rfl) (Steps.refl _) (argsL := []) (rest := []) (lenOf pd_1 rfl) rfl (by show 2 * 0 + _ ≤ _; exact Nat.le_of_eq rfl) (hb hby at_37) (fun _ _ => ⟨rfl, rfl, (by decide : 4 + 0 ≤ _), (by decide : 12 + 0 ≤ _)⟩)
    dsimp only [Pt.U, Pt.locs, Pt.cells, Pt.slots] at X54 l54 y54 z54 st54 hQ54
    subst l54 y54 z54
    obtain ⟨rfl, N54q, K54, P54_0, P54_1, P54_2, P54_3, P54_4, P54_5⟩ := hQ54
    have N54 := Fr.app N50 N54q
    refine Goal.tr (B := T54.setTop (mkF m 40 #[.val (.int v0), .val (.int v1), .val (.int v2), .val (.int v3), .val (.int (1 : Int32)), .val (.int nb), .val (.ref b1), .unset] [])) st54 ?_
    refine Goal.to (B := T54.setTop (mkF m 43 #[.val (.int v0), .val (.int v1), .val (.int v2), .val (.int v3), .val (.int (1 : Int32)), .val (.int nb), .val (.ref b1), .unset] [(.int (0 : Int32)), (.ref b1)])) (fun tt kk => ?_) ?_
    · show Steps p.tables e below (T54.setTop (mkF m 40 #[.val (.int v0), .val (.int v1), .val (.int v2), .val (.int v3), .val (.int (1 : Int32)), .val (.int nb), .val (.ref b1), .unset] [])) tt
      refine XS.aload X54.here hx rfl (hb hby at_40) rfl rfl ?_
      show Steps p.tables e below (T54.setTop (mkF m 42 #[.val (.int v0), .val (.int v1), .val (.int v2), .val (.int v3), .val (.int (1 : Int32)), .val (.int nb), .val (.ref b1), .unset] [(.ref b1)])) tt
      refine XS.iconst X54.here hx rfl (hb hby at_42) ?_
      exact kk
    have f55 : n0 ≤ T54.heap.size := (Nat.le_trans f53 K54.1)
    have f57 : Exa Z T54.heap b1 "com/example/pattern_automaton/patternautomaton/NonZeroTransitions" := (f51.keep K54)
    obtain ⟨cq56, kq56, q56a, q56b, q56c⟩ := isOf hZ rfl f57
    obtain ⟨_, _, ⟨T56, L56, k56, n56⟩, -, X56, ⟨Lc56, hQ56, l56, y56, z56⟩, st56⟩ := X54.virtualBack hx (y := (⟨"com/example/pattern_automaton/patternautomaton/NonZeroTransitions", "first", "(I)I"⟩ : MethodName)) (z := (⟨"com/example/pattern_automaton/patternautomaton/NonZeroTransitions", "first", "(I)I"⟩ : MethodName)) hown (mvT hZ (hw _ (mw 30 rfl))) (mvT hZ (hw _ (mw 31 rfl))) (notFace_of_selects (args := #[]) (mvT hZ (hw _ (mw 33 rfl)))) (mvT hZ (hw _ (mw 33 rfl))) (mvT hZ (hw _ (mw 32 rfl))) (by decide) (backOf (W := 0) (rmfi0 l Z a0 hw [] b1 vf_3 (0 : Int32) (1 : Int32) (0 : Int32) T54.heap n0 f55 P54_0 P54_5) hZ (hw _ (mw 34 rfl)) (hw _ (mw 3 rfl)) (by decide) (by decide)) q56a q56c (g := (mkF m 43 #[.val (.int v0), .val (.int v1), .val (.int v2), .val (.int v3), .val (.int (1 : Int32)), .val (.int nb), .val (.ref b1), .unset] [(.int (0 : Int32)), (.ref b1)])) rfl (by rw [hml]; rfl) (Steps.refl _) (argsL := [(.int (0 : Int32))]) (rest := []) (lenOf pd_3 rfl) rfl (by show 2 * 0 + _ ≤ _; exact Nat.le_of_eq rfl) (hb hby at_43) (fun _ _ => ⟨rfl, rfl, (by decide : 4 + 0 ≤ _), (by decide : 12 + 0 ≤ _)⟩)
    dsimp only [Pt.U, Pt.locs, Pt.cells, Pt.slots] at X56 l56 y56 z56 st56 hQ56
    subst l56 y56 z56
    obtain ⟨rfl, N56q, e56⟩ := hQ56
    have N56 := Fr.app N54 N56q
    refine Goal.tr (B := T56.setTop (mkF m 46 #[.val (.int v0), .val (.int v1), .val (.int v2), .val (.int v3), .val (.int (1 : Int32)), .val (.int nb), .val (.ref b1), .unset] [(.int (0 : Int32))])) st56 ?_
    refine Goal.to (B := T56.setTop (mkF m 52 #[.val (.int v0), .val (.int v1), .val (.int v2), .val (.int v3), .val (.int (1 : Int32)), .val (.int nb), .val (.ref b1), .unset] [(.int (0 : Int32)), (.ref b1)])) (fun tt kk => ?_) ?_
    · show Steps p.tables e below (T56.setTop (mkF m 46 #[.val (.int v0), .val (.int v1), .val (.int v2), .val (.int v3), .val (.int (1 : Int32)), .val (.int nb), .val (.ref b1), .unset] [(.int (0 : Int32))])) tt
      refine XS.ifNo X56.here hx rfl (hb hby at_46) rfl ((if0 _ _).trans (teq (rfl : (0 : Int32) = (0 : Int32))).2) ?_
      show Steps p.tables e below (T56.setTop (mkF m 49 #[.val (.int v0), .val (.int v1), .val (.int v2), .val (.int v3), .val (.int (1 : Int32)), .val (.int nb), .val (.ref b1), .unset] [])) tt
      refine XS.aload X56.here hx rfl (hb hby at_49) rfl rfl ?_
      show Steps p.tables e below (T56.setTop (mkF m 51 #[.val (.int v0), .val (.int v1), .val (.int v2), .val (.int v3), .val (.int (1 : Int32)), .val (.int nb), .val (.ref b1), .unset] [(.ref b1)])) tt
      refine XS.iconst X56.here hx rfl (hb hby at_51) ?_
      exact kk
    obtain ⟨cq58, kq58, q58a, q58b, q58c⟩ := isOf hZ e56 f57
    obtain ⟨_, _, ⟨T58, L58, k58, n58⟩, -, X58, ⟨Lc58, hQ58, l58, y58, z58⟩, st58⟩ := X56.virtualBack hx (y := (⟨"com/example/pattern_automaton/patternautomaton/NonZeroTransitions", "end", "(I)I"⟩ : MethodName)) (z := (⟨"com/example/pattern_automaton/patternautomaton/NonZeroTransitions", "end", "(I)I"⟩ : MethodName)) hown (mvT hZ (hw _ (mw 35 rfl))) (mvT hZ (hw _ (mw 36 rfl))) (notFace_of_selects (args := #[]) (mvT hZ (hw _ (mw 38 rfl)))) (mvT hZ (hw _ (mw 38 rfl))) (mvT hZ (hw _ (mw 37 rfl))) (by decide) (backOf (W := 0) (rmen0 l Z a0 hw [] b1 vf_3 (0 : Int32) (1 : Int32) (0 : Int32) T54.heap n0 f55 P54_0 P54_5) hZ (hw _ (mw 39 rfl)) (hw _ (mw 3 rfl)) (by decide) (by decide)) q58a q58c (g := (mkF m 52 #[.val (.int v0), .val (.int v1), .val (.int v2), .val (.int v3), .val (.int (1 : Int32)), .val (.int nb), .val (.ref b1), .unset] [(.int (0 : Int32)), (.ref b1)])) rfl (by rw [hml]; rfl) (Steps.refl _) (argsL := [(.int (0 : Int32))]) (rest := []) (lenOf pd_3 rfl) rfl (by show 2 * 0 + _ ≤ _; exact Nat.le_of_eq rfl) (hb hby at_52) (fun _ _ => ⟨rfl, e56, (by decide : 4 + 0 ≤ _), (by decide : 12 + 0 ≤ _)⟩)
    dsimp only [Pt.U, Pt.locs, Pt.cells, Pt.slots] at X58 l58 y58 z58 st58 hQ58
    subst l58 y58 z58
    obtain ⟨rfl, N58q, e58⟩ := hQ58
    have N58 := Fr.app N56 N58q
    refine Goal.tr (B := T58.setTop (mkF m 55 #[.val (.int v0), .val (.int v1), .val (.int v2), .val (.int v3), .val (.int (1 : Int32)), .val (.int nb), .val (.ref b1), .unset] [(.int (1 : Int32))])) st58 ?_
    refine Goal.to (B := T58.setTop (mkF m 67 #[.val (.int v0), .val (.int v1), .val (.int v2), .val (.int v3), .val (.int (1 : Int32)), .val (.int nb), .val (.ref b1), .val (.int (1 : Int32))] [])) (fun tt kk => ?_) ?_
    · show Steps p.tables e below (T58.setTop (mkF m 55 #[.val (.int v0), .val (.int v1), .val (.int v2), .val (.int v3), .val (.int (1 : Int32)), .val (.int nb), .val (.ref b1), .unset] [(.int (1 : Int32))])) tt
      refine XS.iload X58.here hx rfl (hb hby at_55) rfl ?_
      show Steps p.tables e below (T58.setTop (mkF m 57 #[.val (.int v0), .val (.int v1), .val (.int v2), .val (.int v3), .val (.int (1 : Int32)), .val (.int nb), .val (.ref b1), .unset] [(.int (1 : Int32)), (.int (1 : Int32))])) tt
      refine XS.icmpNo X58.here hx rfl (hb hby at_57) rfl (teq (rfl : (1 : Int32) = (1 : Int32))).2 ?_
      show Steps p.tables e below (T58.setTop (mkF m 60 #[.val (.int v0), .val (.int v1), .val (.int v2), .val (.int v3), .val (.int (1 : Int32)), .val (.int nb), .val (.ref b1), .unset] [])) tt
      refine XS.iconst X58.here hx rfl (hb hby at_60) ?_
      show Steps p.tables e below (T58.setTop (mkF m 61 #[.val (.int v0), .val (.int v1), .val (.int v2), .val (.int v3), .val (.int (1 : Int32)), .val (.int nb), .val (.ref b1), .unset] [(.int (1 : Int32))])) tt
      refine XS.goto X58.here hx rfl (pc0 := 61) (pc' := 65) rfl (hb hby at_61) (by decide) (by decide) ?_
      show Steps p.tables e below (T58.setTop (mkF m 65 #[.val (.int v0), .val (.int v1), .val (.int v2), .val (.int v3), .val (.int (1 : Int32)), .val (.int nb), .val (.ref b1), .unset] [(.int (1 : Int32))])) tt
      refine XS.istore X58.here hx rfl (hb hby at_65) rfl (l' := #[.val (.int v0), .val (.int v1), .val (.int v2), .val (.int v3), .val (.int (1 : Int32)), .val (.int nb), .val (.ref b1), .val (.int (1 : Int32))]) rfl ?_
      exact kk
    rcases own_n hnb with rfl | rfl | rfl
    · refine Goal.to (B := T58.setTop (mkF m 73 #[.val (.int v0), .val (.int v1), .val (.int v2), .val (.int v3), .val (.int (1 : Int32)), .val (.int (0 : Int32)), .val (.ref b1), .val (.int (1 : Int32))] [(.int v3), (.int v2), (.int (0 : Int32)), (.ref b1)])) (fun tt kk => ?_) ?_
      · show Steps p.tables e below (T58.setTop (mkF m 67 #[.val (.int v0), .val (.int v1), .val (.int v2), .val (.int v3), .val (.int (1 : Int32)), .val (.int (0 : Int32)), .val (.ref b1), .val (.int (1 : Int32))] [])) tt
        refine XS.aload X58.here hx rfl (hb hby at_67) rfl rfl ?_
        show Steps p.tables e below (T58.setTop (mkF m 69 #[.val (.int v0), .val (.int v1), .val (.int v2), .val (.int v3), .val (.int (1 : Int32)), .val (.int (0 : Int32)), .val (.ref b1), .val (.int (1 : Int32))] [(.ref b1)])) tt
        refine XS.iload X58.here hx rfl (hb hby at_69) rfl ?_
        show Steps p.tables e below (T58.setTop (mkF m 71 #[.val (.int v0), .val (.int v1), .val (.int v2), .val (.int v3), .val (.int (1 : Int32)), .val (.int (0 : Int32)), .val (.ref b1), .val (.int (1 : Int32))] [(.int (0 : Int32)), (.ref b1)])) tt
        refine XS.iloadN X58.here hx rfl (hb hby at_71) rfl ?_
        show Steps p.tables e below (T58.setTop (mkF m 72 #[.val (.int v0), .val (.int v1), .val (.int v2), .val (.int v3), .val (.int (1 : Int32)), .val (.int (0 : Int32)), .val (.ref b1), .val (.int (1 : Int32))] [(.int v2), (.int (0 : Int32)), (.ref b1)])) tt
        refine XS.iloadN X58.here hx rfl (hb hby at_72) rfl ?_
        exact kk
      have f59 : Ary Z T54.heap vr_3 .int [(.int v2), (.int (0 : Int32))] := (P50_5.keep K54 (ninS (Ne.symm ne_b1_vr_3) (ninS (Ne.symm ne3_vf_vr) nin0)))
      have f60 : Ary Z T54.heap vt_3 .int [(.int v3), (.int (0 : Int32))] := (P50_6.keep K54 (ninS (Ne.symm ne_b1_vt_3) (ninS (Ne.symm ne3_vf_vt) nin0)))
      obtain ⟨_, _, ⟨T61, L61, k61, n61⟩, -, X61, ⟨Lc61, hQ61, l61, y61, z61⟩, st61⟩ := Jvm.LawKit.callS X58 hx (y := (⟨"com/example/pattern_automaton/patternautomaton/NonZeroTransitionsEndStatePinLaw", "addN", "(Lcom/example/pattern_automaton/patternautomaton/NonZeroTransitions;III)V"⟩ : MethodName)) hown (mvT hZ (hw _ (mw 17 rfl))) (mvT hZ (hw _ (mw 18 rfl))) (mvT hZ (hw _ (mw 19 rfl))) (mvT hZ (hw _ (mw 20 rfl))) (by decide) (backOf (W := 0) (rman10 l Z a0 hw [] b1 vf_3 vr_3 vt_3 (1 : Int32) v2 (0 : Int32) v3 (0 : Int32) v2 v3 T54.heap n0 f55 f57 P54_0 P54_1 P54_2 P54_3 P54_4 f59 f60) hZ (hw _ (mw 20 rfl)) (hw _ (mw 19 rfl)) (by decide) (by decide)) (g := (mkF m 73 #[.val (.int v0), .val (.int v1), .val (.int v2), .val (.int v3), .val (.int (1 : Int32)), .val (.int (0 : Int32)), .val (.ref b1), .val (.int (1 : Int32))] [(.int v3), (.int v2), (.int (0 : Int32)), (.ref b1)])) rfl (by rw [hml]; rfl) (argsL := [(.ref b1), (.int (0 : Int32)), (.int v2), (.int v3)]) (rest := []) (lenOf pd_2 rfl) rfl (by show 2 * 0 + _ ≤ _; exact Nat.le_of_eq rfl) (hb hby at_73) (fun _ _ => ⟨rfl, e58, (by decide : 4 + 0 ≤ _), (by decide : 12 + 0 ≤ _)⟩)
      dsimp only [Pt.U, Pt.locs, Pt.cells, Pt.slots] at X61 l61 y61 z61 st61 hQ61
      subst l61 y61 z61
      obtain ⟨rfl, N61q, e61⟩ := hQ61
      have N61 := Fr.app N58 N61q
      refine Goal.to (B := T61.setTop (mkF m 76 #[.val (.int v0), .val (.int v1), .val (.int v2), .val (.int v3), .val (.int (1 : Int32)), .val (.int (0 : Int32)), .val (.ref b1), .val (.int (1 : Int32))] [])) st61 ?_
      refine Goal.to (B := T61.setTop (mkF m 78 #[.val (.int v0), .val (.int v1), .val (.int v2), .val (.int v3), .val (.int (1 : Int32)), .val (.int (0 : Int32)), .val (.ref b1), .val (.int (1 : Int32))] [(.ref b1)])) (fun tt kk => ?_) ?_
      · show Steps p.tables e below (T61.setTop (mkF m 76 #[.val (.int v0), .val (.int v1), .val (.int v2), .val (.int v3), .val (.int (1 : Int32)), .val (.int (0 : Int32)), .val (.ref b1), .val (.int (1 : Int32))] [])) tt
        refine XS.aload X61.here hx rfl (hb hby at_76) rfl rfl ?_
        exact kk
      obtain ⟨cq62, kq62, q62a, q62b, q62c⟩ := isOf hZ e61 f57
      obtain ⟨_, _, ⟨T62, L62, k62, n62⟩, -, X62, ⟨Lc62, hQ62, l62, y62, z62⟩, st62⟩ := X61.virtualBack hx (y := (⟨"com/example/pattern_automaton/patternautomaton/NonZeroTransitions", "endState", "()V"⟩ : MethodName)) (z := (⟨"com/example/pattern_automaton/patternautomaton/NonZeroTransitions", "endState", "()V"⟩ : MethodName)) hown (mvT hZ (hw _ (mw 21 rfl))) (mvT hZ (hw _ (mw 22 rfl))) (notFace_of_selects (args := #[]) (mvT hZ (hw _ (mw 24 rfl)))) (mvT hZ (hw _ (mw 24 rfl))) (mvT hZ (hw _ (mw 23 rfl))) (by decide) (backOf (W := 0) (rmes1 l Z a0 hw [] b1 vf_3 vr_3 vt_3 (1 : Int32) (0 : Int32) (1 : Int32) (0 : Int32) T54.heap n0 f55 f57 P54_0 P54_1 P54_2 P54_3 P54_4 P54_5 g_b1 g_vf_3 ne_b1_vf_3) hZ (hw _ (mw 25 rfl)) (hw _ (mw 3 rfl)) (by decide) (by decide)) q62a q62c (g := (mkF m 78 #[.val (.int v0), .val (.int v1), .val (.int v2), .val (.int v3), .val (.int (1 : Int32)), .val (.int (0 : Int32)), .val (.ref b1), .val (.int (1 : Int32))] [(.ref b1)])) rfl (by rw [hml]; rfl) (Steps.refl _) (argsL := []) (rest := []) (lenOf pd_1 rfl) rfl (by show 2 * 0 + _ ≤ _; exact Nat.le_of_eq rfl) (hb hby at_78) (fun _ _ => ⟨rfl, e61, (by decide : 4 + 0 ≤ _), (by decide : 12 + 0 ≤ _)⟩)
      dsimp only [Pt.U, Pt.locs, Pt.cells, Pt.slots] at X62 l62 y62 z62 st62 hQ62
      subst l62 y62 z62
      obtain ⟨rfl, N62q, K62, P62_0, P62_1, P62_2, P62_3, P62_4, P62_5⟩ := hQ62
      have N62 := Fr.app N61 N62q
      refine Goal.tr (B := T62.setTop (mkF m 81 #[.val (.int v0), .val (.int v1), .val (.int v2), .val (.int v3), .val (.int (1 : Int32)), .val (.int (0 : Int32)), .val (.ref b1), .val (.int (1 : Int32))] [])) st62 ?_
      refine Goal.to (B := T62.setTop (mkF m 89 #[.val (.int v0), .val (.int v1), .val (.int v2), .val (.int v3), .val (.int (1 : Int32)), .val (.int (0 : Int32)), .val (.ref b1), .val (.int (1 : Int32))] [(.int (0 : Int32)), (.ref b1)])) (fun tt kk => ?_) ?_
      · show Steps p.tables e below (T62.setTop (mkF m 81 #[.val (.int v0), .val (.int v1), .val (.int v2), .val (.int v3), .val (.int (1 : Int32)), .val (.int (0 : Int32)), .val (.ref b1), .val (.int (1 : Int32))] [])) tt
        refine XS.iload X62.here hx rfl (hb hby at_81) rfl ?_
        show Steps p.tables e below (T62.setTop (mkF m 83 #[.val (.int v0), .val (.int v1), .val (.int v2), .val (.int v3), .val (.int (1 : Int32)), .val (.int (0 : Int32)), .val (.ref b1), .val (.int (1 : Int32))] [(.int (1 : Int32))])) tt
        refine XS.ifNo X62.here hx rfl (hb hby at_83) rfl ((if0 _ _).trans (feq ((by decide) : ¬ ((1 : Int32) = (0 : Int32)))).1) ?_
        show Steps p.tables e below (T62.setTop (mkF m 86 #[.val (.int v0), .val (.int v1), .val (.int v2), .val (.int v3), .val (.int (1 : Int32)), .val (.int (0 : Int32)), .val (.ref b1), .val (.int (1 : Int32))] [])) tt
        refine XS.aload X62.here hx rfl (hb hby at_86) rfl rfl ?_
        show Steps p.tables e below (T62.setTop (mkF m 88 #[.val (.int v0), .val (.int v1), .val (.int v2), .val (.int v3), .val (.int (1 : Int32)), .val (.int (0 : Int32)), .val (.ref b1), .val (.int (1 : Int32))] [(.ref b1)])) tt
        refine XS.iconst X62.here hx rfl (hb hby at_88) ?_
        exact kk
      have f63 : n0 ≤ T62.heap.size := (Nat.le_trans f55 K62.1)
      have f65 : Exa Z T62.heap b1 "com/example/pattern_automaton/patternautomaton/NonZeroTransitions" := (f57.keep K62)
      obtain ⟨cq64, kq64, q64a, q64b, q64c⟩ := isOf hZ rfl f65
      obtain ⟨_, _, ⟨T64, L64, k64, n64⟩, -, X64, ⟨Lc64, hQ64, l64, y64, z64⟩, st64⟩ := X62.virtualBack hx (y := (⟨"com/example/pattern_automaton/patternautomaton/NonZeroTransitions", "first", "(I)I"⟩ : MethodName)) (z := (⟨"com/example/pattern_automaton/patternautomaton/NonZeroTransitions", "first", "(I)I"⟩ : MethodName)) hown (mvT hZ (hw _ (mw 30 rfl))) (mvT hZ (hw _ (mw 31 rfl))) (notFace_of_selects (args := #[]) (mvT hZ (hw _ (mw 33 rfl)))) (mvT hZ (hw _ (mw 33 rfl))) (mvT hZ (hw _ (mw 32 rfl))) (by decide) (backOf (W := 0) (rmfi0 l Z a0 hw [] b1 vf_3 (0 : Int32) (1 : Int32) (1 : Int32) T62.heap n0 f63 P62_0 P62_5) hZ (hw _ (mw 34 rfl)) (hw _ (mw 3 rfl)) (by decide) (by decide)) q64a q64c (g := (mkF m 89 #[.val (.int v0), .val (.int v1), .val (.int v2), .val (.int v3), .val (.int (1 : Int32)), .val (.int (0 : Int32)), .val (.ref b1), .val (.int (1 : Int32))] [(.int (0 : Int32)), (.ref b1)])) rfl (by rw [hml]; rfl) (Steps.refl _) (argsL := [(.int (0 : Int32))]) (rest := []) (lenOf pd_3 rfl) rfl (by show 2 * 0 + _ ≤ _; exact Nat.le_of_eq rfl) (hb hby at_89) (fun _ _ => ⟨rfl, rfl, (by decide : 4 + 0 ≤ _), (by decide : 12 + 0 ≤ _)⟩)
      dsimp only [Pt.U, Pt.locs, Pt.cells, Pt.slots] at X64 l64 y64 z64 st64 hQ64
      subst l64 y64 z64
      obtain ⟨rfl, N64q, e64⟩ := hQ64
      have N64 := Fr.app N62 N64q
      refine Goal.tr (B := T64.setTop (mkF m 92 #[.val (.int v0), .val (.int v1), .val (.int v2), .val (.int v3), .val (.int (1 : Int32)), .val (.int (0 : Int32)), .val (.ref b1), .val (.int (1 : Int32))] [(.int (0 : Int32))])) st64 ?_
      refine Goal.to (B := T64.setTop (mkF m 98 #[.val (.int v0), .val (.int v1), .val (.int v2), .val (.int v3), .val (.int (1 : Int32)), .val (.int (0 : Int32)), .val (.ref b1), .val (.int (1 : Int32))] [(.int (0 : Int32)), (.ref b1)])) (fun tt kk => ?_) ?_
      · show Steps p.tables e below (T64.setTop (mkF m 92 #[.val (.int v0), .val (.int v1), .val (.int v2), .val (.int v3), .val (.int (1 : Int32)), .val (.int (0 : Int32)), .val (.ref b1), .val (.int (1 : Int32))] [(.int (0 : Int32))])) tt
        refine XS.ifNo X64.here hx rfl (hb hby at_92) rfl ((if0 _ _).trans (teq (rfl : (0 : Int32) = (0 : Int32))).2) ?_
        show Steps p.tables e below (T64.setTop (mkF m 95 #[.val (.int v0), .val (.int v1), .val (.int v2), .val (.int v3), .val (.int (1 : Int32)), .val (.int (0 : Int32)), .val (.ref b1), .val (.int (1 : Int32))] [])) tt
        refine XS.aload X64.here hx rfl (hb hby at_95) rfl rfl ?_
        show Steps p.tables e below (T64.setTop (mkF m 97 #[.val (.int v0), .val (.int v1), .val (.int v2), .val (.int v3), .val (.int (1 : Int32)), .val (.int (0 : Int32)), .val (.ref b1), .val (.int (1 : Int32))] [(.ref b1)])) tt
        refine XS.iconst X64.here hx rfl (hb hby at_97) ?_
        exact kk
      obtain ⟨cq66, kq66, q66a, q66b, q66c⟩ := isOf hZ e64 f65
      obtain ⟨_, _, ⟨T66, L66, k66, n66⟩, -, X66, ⟨Lc66, hQ66, l66, y66, z66⟩, st66⟩ := X64.virtualBack hx (y := (⟨"com/example/pattern_automaton/patternautomaton/NonZeroTransitions", "end", "(I)I"⟩ : MethodName)) (z := (⟨"com/example/pattern_automaton/patternautomaton/NonZeroTransitions", "end", "(I)I"⟩ : MethodName)) hown (mvT hZ (hw _ (mw 35 rfl))) (mvT hZ (hw _ (mw 36 rfl))) (notFace_of_selects (args := #[]) (mvT hZ (hw _ (mw 38 rfl)))) (mvT hZ (hw _ (mw 38 rfl))) (mvT hZ (hw _ (mw 37 rfl))) (by decide) (backOf (W := 0) (rmen0 l Z a0 hw [] b1 vf_3 (0 : Int32) (1 : Int32) (1 : Int32) T62.heap n0 f63 P62_0 P62_5) hZ (hw _ (mw 39 rfl)) (hw _ (mw 3 rfl)) (by decide) (by decide)) q66a q66c (g := (mkF m 98 #[.val (.int v0), .val (.int v1), .val (.int v2), .val (.int v3), .val (.int (1 : Int32)), .val (.int (0 : Int32)), .val (.ref b1), .val (.int (1 : Int32))] [(.int (0 : Int32)), (.ref b1)])) rfl (by rw [hml]; rfl) (Steps.refl _) (argsL := [(.int (0 : Int32))]) (rest := []) (lenOf pd_3 rfl) rfl (by show 2 * 0 + _ ≤ _; exact Nat.le_of_eq rfl) (hb hby at_98) (fun _ _ => ⟨rfl, e64, (by decide : 4 + 0 ≤ _), (by decide : 12 + 0 ≤ _)⟩)
      dsimp only [Pt.U, Pt.locs, Pt.cells, Pt.slots] at X66 l66 y66 z66 st66 hQ66
      subst l66 y66 z66
      obtain ⟨rfl, N66q, e66⟩ := hQ66
      have N66 := Fr.app N64 N66q
      refine Goal.tr (B := T66.setTop (mkF m 101 #[.val (.int v0), .val (.int v1), .val (.int v2), .val (.int v3), .val (.int (1 : Int32)), .val (.int (0 : Int32)), .val (.ref b1), .val (.int (1 : Int32))] [(.int (1 : Int32))])) st66 ?_
      refine Goal.to (B := T66.setTop (mkF m 109 #[.val (.int v0), .val (.int v1), .val (.int v2), .val (.int v3), .val (.int (1 : Int32)), .val (.int (0 : Int32)), .val (.ref b1), .val (.int (1 : Int32))] [(.int (1 : Int32)), (.ref b1)])) (fun tt kk => ?_) ?_
      · show Steps p.tables e below (T66.setTop (mkF m 101 #[.val (.int v0), .val (.int v1), .val (.int v2), .val (.int v3), .val (.int (1 : Int32)), .val (.int (0 : Int32)), .val (.ref b1), .val (.int (1 : Int32))] [(.int (1 : Int32))])) tt
        refine XS.iload X66.here hx rfl (hb hby at_101) rfl ?_
        show Steps p.tables e below (T66.setTop (mkF m 103 #[.val (.int v0), .val (.int v1), .val (.int v2), .val (.int v3), .val (.int (1 : Int32)), .val (.int (0 : Int32)), .val (.ref b1), .val (.int (1 : Int32))] [(.int (1 : Int32)), (.int (1 : Int32))])) tt
        refine XS.icmpNo X66.here hx rfl (hb hby at_103) rfl (teq (rfl : (1 : Int32) = (1 : Int32))).2 ?_
        show Steps p.tables e below (T66.setTop (mkF m 106 #[.val (.int v0), .val (.int v1), .val (.int v2), .val (.int v3), .val (.int (1 : Int32)), .val (.int (0 : Int32)), .val (.ref b1), .val (.int (1 : Int32))] [])) tt
        refine XS.aload X66.here hx rfl (hb hby at_106) rfl rfl ?_
        show Steps p.tables e below (T66.setTop (mkF m 108 #[.val (.int v0), .val (.int v1), .val (.int v2), .val (.int v3), .val (.int (1 : Int32)), .val (.int (0 : Int32)), .val (.ref b1), .val (.int (1 : Int32))] [(.ref b1)])) tt
        refine XS.iconst X66.here hx rfl (hb hby at_108) ?_
        exact kk
      obtain ⟨cq67, kq67, q67a, q67b, q67c⟩ := isOf hZ e66 f65
      obtain ⟨_, _, ⟨T67, L67, k67, n67⟩, -, X67, ⟨Lc67, hQ67, l67, y67, z67⟩, st67⟩ := X66.virtualBack hx (y := (⟨"com/example/pattern_automaton/patternautomaton/NonZeroTransitions", "first", "(I)I"⟩ : MethodName)) (z := (⟨"com/example/pattern_automaton/patternautomaton/NonZeroTransitions", "first", "(I)I"⟩ : MethodName)) hown (mvT hZ (hw _ (mw 30 rfl))) (mvT hZ (hw _ (mw 31 rfl))) (notFace_of_selects (args := #[]) (mvT hZ (hw _ (mw 33 rfl)))) (mvT hZ (hw _ (mw 33 rfl))) (mvT hZ (hw _ (mw 32 rfl))) (by decide) (backOf (W := 0) (rmfi1 l Z a0 hw [] b1 vf_3 (0 : Int32) (1 : Int32) (1 : Int32) T62.heap n0 f63 P62_0 P62_5) hZ (hw _ (mw 34 rfl)) (hw _ (mw 3 rfl)) (by decide) (by decide)) q67a q67c (g := (mkF m 109 #[.val (.int v0), .val (.int v1), .val (.int v2), .val (.int v3), .val (.int (1 : Int32)), .val (.int (0 : Int32)), .val (.ref b1), .val (.int (1 : Int32))] [(.int (1 : Int32)), (.ref b1)])) rfl (by rw [hml]; rfl) (Steps.refl _) (argsL := [(.int (1 : Int32))]) (rest := []) (lenOf pd_3 rfl) rfl (by show 2 * 0 + _ ≤ _; exact Nat.le_of_eq rfl) (hb hby at_109) (fun _ _ => ⟨rfl, e66, (by decide : 4 + 0 ≤ _), (by decide : 12 + 0 ≤ _)⟩)
      dsimp only [Pt.U, Pt.locs, Pt.cells, Pt.slots] at X67 l67 y67 z67 st67 hQ67
      subst l67 y67 z67
      obtain ⟨rfl, N67q, e67⟩ := hQ67
      have N67 := Fr.app N66 N67q
      refine Goal.tr (B := T67.setTop (mkF m 112 #[.val (.int v0), .val (.int v1), .val (.int v2), .val (.int v3), .val (.int (1 : Int32)), .val (.int (0 : Int32)), .val (.ref b1), .val (.int (1 : Int32))] [(.int (1 : Int32))])) st67 ?_
      refine Goal.to (B := T67.setTop (mkF m 120 #[.val (.int v0), .val (.int v1), .val (.int v2), .val (.int v3), .val (.int (1 : Int32)), .val (.int (0 : Int32)), .val (.ref b1), .val (.int (1 : Int32))] [(.int (1 : Int32)), (.ref b1)])) (fun tt kk => ?_) ?_
      · show Steps p.tables e below (T67.setTop (mkF m 112 #[.val (.int v0), .val (.int v1), .val (.int v2), .val (.int v3), .val (.int (1 : Int32)), .val (.int (0 : Int32)), .val (.ref b1), .val (.int (1 : Int32))] [(.int (1 : Int32))])) tt
        refine XS.iload X67.here hx rfl (hb hby at_112) rfl ?_
        show Steps p.tables e below (T67.setTop (mkF m 114 #[.val (.int v0), .val (.int v1), .val (.int v2), .val (.int v3), .val (.int (1 : Int32)), .val (.int (0 : Int32)), .val (.ref b1), .val (.int (1 : Int32))] [(.int (1 : Int32)), (.int (1 : Int32))])) tt
        refine XS.icmpNo X67.here hx rfl (hb hby at_114) rfl (teq (rfl : (1 : Int32) = (1 : Int32))).2 ?_
        show Steps p.tables e below (T67.setTop (mkF m 117 #[.val (.int v0), .val (.int v1), .val (.int v2), .val (.int v3), .val (.int (1 : Int32)), .val (.int (0 : Int32)), .val (.ref b1), .val (.int (1 : Int32))] [])) tt
        refine XS.aload X67.here hx rfl (hb hby at_117) rfl rfl ?_
        show Steps p.tables e below (T67.setTop (mkF m 119 #[.val (.int v0), .val (.int v1), .val (.int v2), .val (.int v3), .val (.int (1 : Int32)), .val (.int (0 : Int32)), .val (.ref b1), .val (.int (1 : Int32))] [(.ref b1)])) tt
        refine XS.iconst X67.here hx rfl (hb hby at_119) ?_
        exact kk
      obtain ⟨cq68, kq68, q68a, q68b, q68c⟩ := isOf hZ e67 f65
      obtain ⟨_, _, ⟨T68, L68, k68, n68⟩, -, X68, ⟨Lc68, hQ68, l68, y68, z68⟩, st68⟩ := X67.virtualBack hx (y := (⟨"com/example/pattern_automaton/patternautomaton/NonZeroTransitions", "end", "(I)I"⟩ : MethodName)) (z := (⟨"com/example/pattern_automaton/patternautomaton/NonZeroTransitions", "end", "(I)I"⟩ : MethodName)) hown (mvT hZ (hw _ (mw 35 rfl))) (mvT hZ (hw _ (mw 36 rfl))) (notFace_of_selects (args := #[]) (mvT hZ (hw _ (mw 38 rfl)))) (mvT hZ (hw _ (mw 38 rfl))) (mvT hZ (hw _ (mw 37 rfl))) (by decide) (backOf (W := 0) (rmen1 l Z a0 hw [] b1 vf_3 (0 : Int32) (1 : Int32) (1 : Int32) T62.heap n0 f63 P62_0 P62_5) hZ (hw _ (mw 39 rfl)) (hw _ (mw 3 rfl)) (by decide) (by decide)) q68a q68c (g := (mkF m 120 #[.val (.int v0), .val (.int v1), .val (.int v2), .val (.int v3), .val (.int (1 : Int32)), .val (.int (0 : Int32)), .val (.ref b1), .val (.int (1 : Int32))] [(.int (1 : Int32)), (.ref b1)])) rfl (by rw [hml]; rfl) (Steps.refl _) (argsL := [(.int (1 : Int32))]) (rest := []) (lenOf pd_3 rfl) rfl (by show 2 * 0 + _ ≤ _; exact Nat.le_of_eq rfl) (hb hby at_120) (fun _ _ => ⟨rfl, e67, (by decide : 4 + 0 ≤ _), (by decide : 12 + 0 ≤ _)⟩)
      dsimp only [Pt.U, Pt.locs, Pt.cells, Pt.slots] at X68 l68 y68 z68 st68 hQ68
      subst l68 y68 z68
      obtain ⟨rfl, N68q, e68⟩ := hQ68
      have N68 := Fr.app N67 N68q
      refine Goal.tr (B := T68.setTop (mkF m 123 #[.val (.int v0), .val (.int v1), .val (.int v2), .val (.int v3), .val (.int (1 : Int32)), .val (.int (0 : Int32)), .val (.ref b1), .val (.int (1 : Int32))] [(.int (1 : Int32))])) st68 ?_
      refine Goal.to (B := T68.setTop (mkF m 136 #[.val (.int v0), .val (.int v1), .val (.int v2), .val (.int v3), .val (.int (1 : Int32)), .val (.int (0 : Int32)), .val (.ref b1), .val (.int (1 : Int32))] [(.int (1 : Int32))])) (fun tt kk => ?_) ?_
      · show Steps p.tables e below (T68.setTop (mkF m 123 #[.val (.int v0), .val (.int v1), .val (.int v2), .val (.int v3), .val (.int (1 : Int32)), .val (.int (0 : Int32)), .val (.ref b1), .val (.int (1 : Int32))] [(.int (1 : Int32))])) tt
        refine XS.iload X68.here hx rfl (hb hby at_123) rfl ?_
        show Steps p.tables e below (T68.setTop (mkF m 125 #[.val (.int v0), .val (.int v1), .val (.int v2), .val (.int v3), .val (.int (1 : Int32)), .val (.int (0 : Int32)), .val (.ref b1), .val (.int (1 : Int32))] [(.int (1 : Int32)), (.int (1 : Int32))])) tt
        refine XS.iload X68.here hx rfl (hb hby at_125) rfl ?_
        show Steps p.tables e below (T68.setTop (mkF m 127 #[.val (.int v0), .val (.int v1), .val (.int v2), .val (.int v3), .val (.int (1 : Int32)), .val (.int (0 : Int32)), .val (.ref b1), .val (.int (1 : Int32))] [(.int (0 : Int32)), (.int (1 : Int32)), (.int (1 : Int32))])) tt
        refine XS.iadd X68.here hx rfl (hb hby at_127) rfl ?_
        show Steps p.tables e below (T68.setTop (mkF m 128 #[.val (.int v0), .val (.int v1), .val (.int v2), .val (.int v3), .val (.int (1 : Int32)), .val (.int (0 : Int32)), .val (.ref b1), .val (.int (1 : Int32))] [(.int (1 : Int32)), (.int (1 : Int32))])) tt
        refine XS.icmpNo X68.here hx rfl (hb hby at_128) rfl (teq (rfl : (1 : Int32) = (1 : Int32))).2 ?_
        show Steps p.tables e below (T68.setTop (mkF m 131 #[.val (.int v0), .val (.int v1), .val (.int v2), .val (.int v3), .val (.int (1 : Int32)), .val (.int (0 : Int32)), .val (.ref b1), .val (.int (1 : Int32))] [])) tt
        refine XS.iconst X68.here hx rfl (hb hby at_131) ?_
        show Steps p.tables e below (T68.setTop (mkF m 132 #[.val (.int v0), .val (.int v1), .val (.int v2), .val (.int v3), .val (.int (1 : Int32)), .val (.int (0 : Int32)), .val (.ref b1), .val (.int (1 : Int32))] [(.int (1 : Int32))])) tt
        refine XS.goto X68.here hx rfl (pc0 := 132) (pc' := 136) rfl (hb hby at_132) (by decide) (by decide) ?_
        exact kk
      exact Goal.retV X68 hx Bd.returns rfl (Or.inl ⟨rfl, Or.inr (Or.inl rfl), _, rfl⟩) (hb hby at_136) hlk e68 ⟨rfl, N68⟩ (by decide) (by decide)
    · refine Goal.to (B := T58.setTop (mkF m 73 #[.val (.int v0), .val (.int v1), .val (.int v2), .val (.int v3), .val (.int (1 : Int32)), .val (.int (1 : Int32)), .val (.ref b1), .val (.int (1 : Int32))] [(.int v3), (.int v2), (.int (1 : Int32)), (.ref b1)])) (fun tt kk => ?_) ?_
      · show Steps p.tables e below (T58.setTop (mkF m 67 #[.val (.int v0), .val (.int v1), .val (.int v2), .val (.int v3), .val (.int (1 : Int32)), .val (.int (1 : Int32)), .val (.ref b1), .val (.int (1 : Int32))] [])) tt
        refine XS.aload X58.here hx rfl (hb hby at_67) rfl rfl ?_
        show Steps p.tables e below (T58.setTop (mkF m 69 #[.val (.int v0), .val (.int v1), .val (.int v2), .val (.int v3), .val (.int (1 : Int32)), .val (.int (1 : Int32)), .val (.ref b1), .val (.int (1 : Int32))] [(.ref b1)])) tt
        refine XS.iload X58.here hx rfl (hb hby at_69) rfl ?_
        show Steps p.tables e below (T58.setTop (mkF m 71 #[.val (.int v0), .val (.int v1), .val (.int v2), .val (.int v3), .val (.int (1 : Int32)), .val (.int (1 : Int32)), .val (.ref b1), .val (.int (1 : Int32))] [(.int (1 : Int32)), (.ref b1)])) tt
        refine XS.iloadN X58.here hx rfl (hb hby at_71) rfl ?_
        show Steps p.tables e below (T58.setTop (mkF m 72 #[.val (.int v0), .val (.int v1), .val (.int v2), .val (.int v3), .val (.int (1 : Int32)), .val (.int (1 : Int32)), .val (.ref b1), .val (.int (1 : Int32))] [(.int v2), (.int (1 : Int32)), (.ref b1)])) tt
        refine XS.iloadN X58.here hx rfl (hb hby at_72) rfl ?_
        exact kk
      have f69 : Ary Z T54.heap vr_3 .int [(.int v2), (.int (0 : Int32))] := (P50_5.keep K54 (ninS (Ne.symm ne_b1_vr_3) (ninS (Ne.symm ne3_vf_vr) nin0)))
      have f70 : Ary Z T54.heap vt_3 .int [(.int v3), (.int (0 : Int32))] := (P50_6.keep K54 (ninS (Ne.symm ne_b1_vt_3) (ninS (Ne.symm ne3_vf_vt) nin0)))
      obtain ⟨_, _, ⟨T71, L71, k71, n71⟩, -, X71, ⟨Lc71, hQ71, l71, y71, z71⟩, st71⟩ := Jvm.LawKit.callS X58 hx (y := (⟨"com/example/pattern_automaton/patternautomaton/NonZeroTransitionsEndStatePinLaw", "addN", "(Lcom/example/pattern_automaton/patternautomaton/NonZeroTransitions;III)V"⟩ : MethodName)) hown (mvT hZ (hw _ (mw 17 rfl))) (mvT hZ (hw _ (mw 18 rfl))) (mvT hZ (hw _ (mw 19 rfl))) (mvT hZ (hw _ (mw 20 rfl))) (by decide) (backOf (W := 0) (rman11 l Z a0 hw [] b1 vf_3 vr_3 vt_3 (1 : Int32) v2 (0 : Int32) v3 (0 : Int32) v2 v3 T54.heap n0 f55 f57 P54_0 P54_1 P54_2 P54_3 P54_4 f69 f70 g_b1 g_vr_3 g_vt_3 ne_b1_vr_3 ne_b1_vt_3 ne3_vr_vt) hZ (hw _ (mw 20 rfl)) (hw _ (mw 19 rfl)) (by decide) (by decide)) (g := (mkF m 73 #[.val (.int v0), .val (.int v1), .val (.int v2), .val (.int v3), .val (.int (1 : Int32)), .val (.int (1 : Int32)), .val (.ref b1), .val (.int (1 : Int32))] [(.int v3), (.int v2), (.int (1 : Int32)), (.ref b1)])) rfl (by rw [hml]; rfl) (argsL := [(.ref b1), (.int (1 : Int32)), (.int v2), (.int v3)]) (rest := []) (lenOf pd_2 rfl) rfl (by show 2 * 0 + _ ≤ _; exact Nat.le_of_eq rfl) (hb hby at_73) (fun _ _ => ⟨rfl, e58, (by decide : 4 + 0 ≤ _), (by decide : 12 + 0 ≤ _)⟩)
      dsimp only [Pt.U, Pt.locs, Pt.cells, Pt.slots] at X71 l71 y71 z71 st71 hQ71
      subst l71 y71 z71
      obtain ⟨rfl, N71q, K71, P71_0, P71_1, P71_2, P71_3, P71_4, P71_5, P71_6⟩ := hQ71
      have N71 := Fr.app N58 N71q
      refine Goal.to (B := T71.setTop (mkF m 76 #[.val (.int v0), .val (.int v1), .val (.int v2), .val (.int v3), .val (.int (1 : Int32)), .val (.int (1 : Int32)), .val (.ref b1), .val (.int (1 : Int32))] [])) st71 ?_
      refine Goal.to (B := T71.setTop (mkF m 78 #[.val (.int v0), .val (.int v1), .val (.int v2), .val (.int v3), .val (.int (1 : Int32)), .val (.int (1 : Int32)), .val (.ref b1), .val (.int (1 : Int32))] [(.ref b1)])) (fun tt kk => ?_) ?_
      · show Steps p.tables e below (T71.setTop (mkF m 76 #[.val (.int v0), .val (.int v1), .val (.int v2), .val (.int v3), .val (.int (1 : Int32)), .val (.int (1 : Int32)), .val (.ref b1), .val (.int (1 : Int32))] [])) tt
        refine XS.aload X71.here hx rfl (hb hby at_76) rfl rfl ?_
        exact kk
      have f72 : Exa Z T71.heap b1 "com/example/pattern_automaton/patternautomaton/NonZeroTransitions" := (f57.keep K71)
      have f73 : Ary Z T71.heap vf_3 .int [(.int (0 : Int32)), (.int (1 : Int32)), (.int (0 : Int32))] := (P54_5.keep K71 (ninS (Ne.symm ne_b1_vf_3) (ninS ne3_vf_vr (ninS ne3_vf_vt nin0))))
      have f74 : n0 ≤ T71.heap.size := (Nat.le_trans f55 K71.1)
      obtain ⟨cq75, kq75, q75a, q75b, q75c⟩ := isOf hZ rfl f72
      obtain ⟨_, _, ⟨T75, L75, k75, n75⟩, -, X75, ⟨Lc75, hQ75, l75, y75, z75⟩, st75⟩ := X71.virtualBack hx (y := (⟨"com/example/pattern_automaton/patternautomaton/NonZeroTransitions", "endState", "()V"⟩ : MethodName)) (z := (⟨"com/example/pattern_automaton/patternautomaton/NonZeroTransitions", "endState", "()V"⟩ : MethodName)) hown (mvT hZ (hw _ (mw 21 rfl))) (mvT hZ (hw _ (mw 22 rfl))) (notFace_of_selects (args := #[]) (mvT hZ (hw _ (mw 24 rfl)))) (mvT hZ (hw _ (mw 24 rfl))) (mvT hZ (hw _ (mw 23 rfl))) (by decide) (backOf (W := 0) (rmes1 l Z a0 hw [] b1 vf_3 vr_3 vt_3 (2 : Int32) (0 : Int32) (1 : Int32) (0 : Int32) T71.heap n0 f74 f72 P71_0 P71_1 P71_2 P71_3 P71_4 f73 g_b1 g_vf_3 ne_b1_vf_3) hZ (hw _ (mw 25 rfl)) (hw _ (mw 3 rfl)) (by decide) (by decide)) q75a q75c (g := (mkF m 78 #[.val (.int v0), .val (.int v1), .val (.int v2), .val (.int v3), .val (.int (1 : Int32)), .val (.int (1 : Int32)), .val (.ref b1), .val (.int (1 : Int32))] [(.ref b1)])) rfl (by rw [hml]; rfl) (Steps.refl _) (argsL := []) (rest := []) (lenOf pd_1 rfl) rfl (by show 2 * 0 + _ ≤ _; exact Nat.le_of_eq rfl) (hb hby at_78) (fun _ _ => ⟨rfl, rfl, (by decide : 4 + 0 ≤ _), (by decide : 12 + 0 ≤ _)⟩)
      dsimp only [Pt.U, Pt.locs, Pt.cells, Pt.slots] at X75 l75 y75 z75 st75 hQ75
      subst l75 y75 z75
      obtain ⟨rfl, N75q, K75, P75_0, P75_1, P75_2, P75_3, P75_4, P75_5⟩ := hQ75
      have N75 := Fr.app N71 N75q
      refine Goal.tr (B := T75.setTop (mkF m 81 #[.val (.int v0), .val (.int v1), .val (.int v2), .val (.int v3), .val (.int (1 : Int32)), .val (.int (1 : Int32)), .val (.ref b1), .val (.int (1 : Int32))] [])) st75 ?_
      refine Goal.to (B := T75.setTop (mkF m 89 #[.val (.int v0), .val (.int v1), .val (.int v2), .val (.int v3), .val (.int (1 : Int32)), .val (.int (1 : Int32)), .val (.ref b1), .val (.int (1 : Int32))] [(.int (0 : Int32)), (.ref b1)])) (fun tt kk => ?_) ?_
      · show Steps p.tables e below (T75.setTop (mkF m 81 #[.val (.int v0), .val (.int v1), .val (.int v2), .val (.int v3), .val (.int (1 : Int32)), .val (.int (1 : Int32)), .val (.ref b1), .val (.int (1 : Int32))] [])) tt
        refine XS.iload X75.here hx rfl (hb hby at_81) rfl ?_
        show Steps p.tables e below (T75.setTop (mkF m 83 #[.val (.int v0), .val (.int v1), .val (.int v2), .val (.int v3), .val (.int (1 : Int32)), .val (.int (1 : Int32)), .val (.ref b1), .val (.int (1 : Int32))] [(.int (1 : Int32))])) tt
        refine XS.ifNo X75.here hx rfl (hb hby at_83) rfl ((if0 _ _).trans (feq ((by decide) : ¬ ((1 : Int32) = (0 : Int32)))).1) ?_
        show Steps p.tables e below (T75.setTop (mkF m 86 #[.val (.int v0), .val (.int v1), .val (.int v2), .val (.int v3), .val (.int (1 : Int32)), .val (.int (1 : Int32)), .val (.ref b1), .val (.int (1 : Int32))] [])) tt
        refine XS.aload X75.here hx rfl (hb hby at_86) rfl rfl ?_
        show Steps p.tables e below (T75.setTop (mkF m 88 #[.val (.int v0), .val (.int v1), .val (.int v2), .val (.int v3), .val (.int (1 : Int32)), .val (.int (1 : Int32)), .val (.ref b1), .val (.int (1 : Int32))] [(.ref b1)])) tt
        refine XS.iconst X75.here hx rfl (hb hby at_88) ?_
        exact kk
      have f76 : n0 ≤ T75.heap.size := (Nat.le_trans f74 K75.1)
      have f78 : Exa Z T75.heap b1 "com/example/pattern_automaton/patternautomaton/NonZeroTransitions" := (f72.keep K75)
      obtain ⟨cq77, kq77, q77a, q77b, q77c⟩ := isOf hZ rfl f78
      obtain ⟨_, _, ⟨T77, L77, k77, n77⟩, -, X77, ⟨Lc77, hQ77, l77, y77, z77⟩, st77⟩ := X75.virtualBack hx (y := (⟨"com/example/pattern_automaton/patternautomaton/NonZeroTransitions", "first", "(I)I"⟩ : MethodName)) (z := (⟨"com/example/pattern_automaton/patternautomaton/NonZeroTransitions", "first", "(I)I"⟩ : MethodName)) hown (mvT hZ (hw _ (mw 30 rfl))) (mvT hZ (hw _ (mw 31 rfl))) (notFace_of_selects (args := #[]) (mvT hZ (hw _ (mw 33 rfl)))) (mvT hZ (hw _ (mw 33 rfl))) (mvT hZ (hw _ (mw 32 rfl))) (by decide) (backOf (W := 0) (rmfi0 l Z a0 hw [] b1 vf_3 (0 : Int32) (1 : Int32) (2 : Int32) T75.heap n0 f76 P75_0 P75_5) hZ (hw _ (mw 34 rfl)) (hw _ (mw 3 rfl)) (by decide) (by decide)) q77a q77c (g := (mkF m 89 #[.val (.int v0), .val (.int v1), .val (.int v2), .val (.int v3), .val (.int (1 : Int32)), .val (.int (1 : Int32)), .val (.ref b1), .val (.int (1 : Int32))] [(.int (0 : Int32)), (.ref b1)])) rfl (by rw [hml]; rfl) (Steps.refl _) (argsL := [(.int (0 : Int32))]) (rest := []) (lenOf pd_3 rfl) rfl (by show 2 * 0 + _ ≤ _; exact Nat.le_of_eq rfl) (hb hby at_89) (fun _ _ => ⟨rfl, rfl, (by decide : 4 + 0 ≤ _), (by decide : 12 + 0 ≤ _)⟩)
      dsimp only [Pt.U, Pt.locs, Pt.cells, Pt.slots] at X77 l77 y77 z77 st77 hQ77
      subst l77 y77 z77
      obtain ⟨rfl, N77q, e77⟩ := hQ77
      have N77 := Fr.app N75 N77q
      refine Goal.tr (B := T77.setTop (mkF m 92 #[.val (.int v0), .val (.int v1), .val (.int v2), .val (.int v3), .val (.int (1 : Int32)), .val (.int (1 : Int32)), .val (.ref b1), .val (.int (1 : Int32))] [(.int (0 : Int32))])) st77 ?_
      refine Goal.to (B := T77.setTop (mkF m 98 #[.val (.int v0), .val (.int v1), .val (.int v2), .val (.int v3), .val (.int (1 : Int32)), .val (.int (1 : Int32)), .val (.ref b1), .val (.int (1 : Int32))] [(.int (0 : Int32)), (.ref b1)])) (fun tt kk => ?_) ?_
      · show Steps p.tables e below (T77.setTop (mkF m 92 #[.val (.int v0), .val (.int v1), .val (.int v2), .val (.int v3), .val (.int (1 : Int32)), .val (.int (1 : Int32)), .val (.ref b1), .val (.int (1 : Int32))] [(.int (0 : Int32))])) tt
        refine XS.ifNo X77.here hx rfl (hb hby at_92) rfl ((if0 _ _).trans (teq (rfl : (0 : Int32) = (0 : Int32))).2) ?_
        show Steps p.tables e below (T77.setTop (mkF m 95 #[.val (.int v0), .val (.int v1), .val (.int v2), .val (.int v3), .val (.int (1 : Int32)), .val (.int (1 : Int32)), .val (.ref b1), .val (.int (1 : Int32))] [])) tt
        refine XS.aload X77.here hx rfl (hb hby at_95) rfl rfl ?_
        show Steps p.tables e below (T77.setTop (mkF m 97 #[.val (.int v0), .val (.int v1), .val (.int v2), .val (.int v3), .val (.int (1 : Int32)), .val (.int (1 : Int32)), .val (.ref b1), .val (.int (1 : Int32))] [(.ref b1)])) tt
        refine XS.iconst X77.here hx rfl (hb hby at_97) ?_
        exact kk
      obtain ⟨cq79, kq79, q79a, q79b, q79c⟩ := isOf hZ e77 f78
      obtain ⟨_, _, ⟨T79, L79, k79, n79⟩, -, X79, ⟨Lc79, hQ79, l79, y79, z79⟩, st79⟩ := X77.virtualBack hx (y := (⟨"com/example/pattern_automaton/patternautomaton/NonZeroTransitions", "end", "(I)I"⟩ : MethodName)) (z := (⟨"com/example/pattern_automaton/patternautomaton/NonZeroTransitions", "end", "(I)I"⟩ : MethodName)) hown (mvT hZ (hw _ (mw 35 rfl))) (mvT hZ (hw _ (mw 36 rfl))) (notFace_of_selects (args := #[]) (mvT hZ (hw _ (mw 38 rfl)))) (mvT hZ (hw _ (mw 38 rfl))) (mvT hZ (hw _ (mw 37 rfl))) (by decide) (backOf (W := 0) (rmen0 l Z a0 hw [] b1 vf_3 (0 : Int32) (1 : Int32) (2 : Int32) T75.heap n0 f76 P75_0 P75_5) hZ (hw _ (mw 39 rfl)) (hw _ (mw 3 rfl)) (by decide) (by decide)) q79a q79c (g := (mkF m 98 #[.val (.int v0), .val (.int v1), .val (.int v2), .val (.int v3), .val (.int (1 : Int32)), .val (.int (1 : Int32)), .val (.ref b1), .val (.int (1 : Int32))] [(.int (0 : Int32)), (.ref b1)])) rfl (by rw [hml]; rfl) (Steps.refl _) (argsL := [(.int (0 : Int32))]) (rest := []) (lenOf pd_3 rfl) rfl (by show 2 * 0 + _ ≤ _; exact Nat.le_of_eq rfl) (hb hby at_98) (fun _ _ => ⟨rfl, e77, (by decide : 4 + 0 ≤ _), (by decide : 12 + 0 ≤ _)⟩)
      dsimp only [Pt.U, Pt.locs, Pt.cells, Pt.slots] at X79 l79 y79 z79 st79 hQ79
      subst l79 y79 z79
      obtain ⟨rfl, N79q, e79⟩ := hQ79
      have N79 := Fr.app N77 N79q
      refine Goal.tr (B := T79.setTop (mkF m 101 #[.val (.int v0), .val (.int v1), .val (.int v2), .val (.int v3), .val (.int (1 : Int32)), .val (.int (1 : Int32)), .val (.ref b1), .val (.int (1 : Int32))] [(.int (1 : Int32))])) st79 ?_
      refine Goal.to (B := T79.setTop (mkF m 109 #[.val (.int v0), .val (.int v1), .val (.int v2), .val (.int v3), .val (.int (1 : Int32)), .val (.int (1 : Int32)), .val (.ref b1), .val (.int (1 : Int32))] [(.int (1 : Int32)), (.ref b1)])) (fun tt kk => ?_) ?_
      · show Steps p.tables e below (T79.setTop (mkF m 101 #[.val (.int v0), .val (.int v1), .val (.int v2), .val (.int v3), .val (.int (1 : Int32)), .val (.int (1 : Int32)), .val (.ref b1), .val (.int (1 : Int32))] [(.int (1 : Int32))])) tt
        refine XS.iload X79.here hx rfl (hb hby at_101) rfl ?_
        show Steps p.tables e below (T79.setTop (mkF m 103 #[.val (.int v0), .val (.int v1), .val (.int v2), .val (.int v3), .val (.int (1 : Int32)), .val (.int (1 : Int32)), .val (.ref b1), .val (.int (1 : Int32))] [(.int (1 : Int32)), (.int (1 : Int32))])) tt
        refine XS.icmpNo X79.here hx rfl (hb hby at_103) rfl (teq (rfl : (1 : Int32) = (1 : Int32))).2 ?_
        show Steps p.tables e below (T79.setTop (mkF m 106 #[.val (.int v0), .val (.int v1), .val (.int v2), .val (.int v3), .val (.int (1 : Int32)), .val (.int (1 : Int32)), .val (.ref b1), .val (.int (1 : Int32))] [])) tt
        refine XS.aload X79.here hx rfl (hb hby at_106) rfl rfl ?_
        show Steps p.tables e below (T79.setTop (mkF m 108 #[.val (.int v0), .val (.int v1), .val (.int v2), .val (.int v3), .val (.int (1 : Int32)), .val (.int (1 : Int32)), .val (.ref b1), .val (.int (1 : Int32))] [(.ref b1)])) tt
        refine XS.iconst X79.here hx rfl (hb hby at_108) ?_
        exact kk
      obtain ⟨cq80, kq80, q80a, q80b, q80c⟩ := isOf hZ e79 f78
      obtain ⟨_, _, ⟨T80, L80, k80, n80⟩, -, X80, ⟨Lc80, hQ80, l80, y80, z80⟩, st80⟩ := X79.virtualBack hx (y := (⟨"com/example/pattern_automaton/patternautomaton/NonZeroTransitions", "first", "(I)I"⟩ : MethodName)) (z := (⟨"com/example/pattern_automaton/patternautomaton/NonZeroTransitions", "first", "(I)I"⟩ : MethodName)) hown (mvT hZ (hw _ (mw 30 rfl))) (mvT hZ (hw _ (mw 31 rfl))) (notFace_of_selects (args := #[]) (mvT hZ (hw _ (mw 33 rfl)))) (mvT hZ (hw _ (mw 33 rfl))) (mvT hZ (hw _ (mw 32 rfl))) (by decide) (backOf (W := 0) (rmfi1 l Z a0 hw [] b1 vf_3 (0 : Int32) (1 : Int32) (2 : Int32) T75.heap n0 f76 P75_0 P75_5) hZ (hw _ (mw 34 rfl)) (hw _ (mw 3 rfl)) (by decide) (by decide)) q80a q80c (g := (mkF m 109 #[.val (.int v0), .val (.int v1), .val (.int v2), .val (.int v3), .val (.int (1 : Int32)), .val (.int (1 : Int32)), .val (.ref b1), .val (.int (1 : Int32))] [(.int (1 : Int32)), (.ref b1)])) rfl (by rw [hml]; rfl) (Steps.refl _) (argsL := [(.int (1 : Int32))]) (rest := []) (lenOf pd_3 rfl) rfl (by show 2 * 0 + _ ≤ _; exact Nat.le_of_eq rfl) (hb hby at_109) (fun _ _ => ⟨rfl, e79, (by decide : 4 + 0 ≤ _), (by decide : 12 + 0 ≤ _)⟩)
      dsimp only [Pt.U, Pt.locs, Pt.cells, Pt.slots] at X80 l80 y80 z80 st80 hQ80
      subst l80 y80 z80
      obtain ⟨rfl, N80q, e80⟩ := hQ80
      have N80 := Fr.app N79 N80q
      refine Goal.tr (B := T80.setTop (mkF m 112 #[.val (.int v0), .val (.int v1), .val (.int v2), .val (.int v3), .val (.int (1 : Int32)), .val (.int (1 : Int32)), .val (.ref b1), .val (.int (1 : Int32))] [(.int (1 : Int32))])) st80 ?_
      refine Goal.to (B := T80.setTop (mkF m 120 #[.val (.int v0), .val (.int v1), .val (.int v2), .val (.int v3), .val (.int (1 : Int32)), .val (.int (1 : Int32)), .val (.ref b1), .val (.int (1 : Int32))] [(.int (1 : Int32)), (.ref b1)])) (fun tt kk => ?_) ?_
      · show Steps p.tables e below (T80.setTop (mkF m 112 #[.val (.int v0), .val (.int v1), .val (.int v2), .val (.int v3), .val (.int (1 : Int32)), .val (.int (1 : Int32)), .val (.ref b1), .val (.int (1 : Int32))] [(.int (1 : Int32))])) tt
        refine XS.iload X80.here hx rfl (hb hby at_112) rfl ?_
        show Steps p.tables e below (T80.setTop (mkF m 114 #[.val (.int v0), .val (.int v1), .val (.int v2), .val (.int v3), .val (.int (1 : Int32)), .val (.int (1 : Int32)), .val (.ref b1), .val (.int (1 : Int32))] [(.int (1 : Int32)), (.int (1 : Int32))])) tt
        refine XS.icmpNo X80.here hx rfl (hb hby at_114) rfl (teq (rfl : (1 : Int32) = (1 : Int32))).2 ?_
        show Steps p.tables e below (T80.setTop (mkF m 117 #[.val (.int v0), .val (.int v1), .val (.int v2), .val (.int v3), .val (.int (1 : Int32)), .val (.int (1 : Int32)), .val (.ref b1), .val (.int (1 : Int32))] [])) tt
        refine XS.aload X80.here hx rfl (hb hby at_117) rfl rfl ?_
        show Steps p.tables e below (T80.setTop (mkF m 119 #[.val (.int v0), .val (.int v1), .val (.int v2), .val (.int v3), .val (.int (1 : Int32)), .val (.int (1 : Int32)), .val (.ref b1), .val (.int (1 : Int32))] [(.ref b1)])) tt
        refine XS.iconst X80.here hx rfl (hb hby at_119) ?_
        exact kk
      obtain ⟨cq81, kq81, q81a, q81b, q81c⟩ := isOf hZ e80 f78
      obtain ⟨_, _, ⟨T81, L81, k81, n81⟩, -, X81, ⟨Lc81, hQ81, l81, y81, z81⟩, st81⟩ := X80.virtualBack hx (y := (⟨"com/example/pattern_automaton/patternautomaton/NonZeroTransitions", "end", "(I)I"⟩ : MethodName)) (z := (⟨"com/example/pattern_automaton/patternautomaton/NonZeroTransitions", "end", "(I)I"⟩ : MethodName)) hown (mvT hZ (hw _ (mw 35 rfl))) (mvT hZ (hw _ (mw 36 rfl))) (notFace_of_selects (args := #[]) (mvT hZ (hw _ (mw 38 rfl)))) (mvT hZ (hw _ (mw 38 rfl))) (mvT hZ (hw _ (mw 37 rfl))) (by decide) (backOf (W := 0) (rmen1 l Z a0 hw [] b1 vf_3 (0 : Int32) (1 : Int32) (2 : Int32) T75.heap n0 f76 P75_0 P75_5) hZ (hw _ (mw 39 rfl)) (hw _ (mw 3 rfl)) (by decide) (by decide)) q81a q81c (g := (mkF m 120 #[.val (.int v0), .val (.int v1), .val (.int v2), .val (.int v3), .val (.int (1 : Int32)), .val (.int (1 : Int32)), .val (.ref b1), .val (.int (1 : Int32))] [(.int (1 : Int32)), (.ref b1)])) rfl (by rw [hml]; rfl) (Steps.refl _) (argsL := [(.int (1 : Int32))]) (rest := []) (lenOf pd_3 rfl) rfl (by show 2 * 0 + _ ≤ _; exact Nat.le_of_eq rfl) (hb hby at_120) (fun _ _ => ⟨rfl, e80, (by decide : 4 + 0 ≤ _), (by decide : 12 + 0 ≤ _)⟩)
      dsimp only [Pt.U, Pt.locs, Pt.cells, Pt.slots] at X81 l81 y81 z81 st81 hQ81
      subst l81 y81 z81
      obtain ⟨rfl, N81q, e81⟩ := hQ81
      have N81 := Fr.app N80 N81q
      refine Goal.tr (B := T81.setTop (mkF m 123 #[.val (.int v0), .val (.int v1), .val (.int v2), .val (.int v3), .val (.int (1 : Int32)), .val (.int (1 : Int32)), .val (.ref b1), .val (.int (1 : Int32))] [(.int (2 : Int32))])) st81 ?_
      refine Goal.to (B := T81.setTop (mkF m 136 #[.val (.int v0), .val (.int v1), .val (.int v2), .val (.int v3), .val (.int (1 : Int32)), .val (.int (1 : Int32)), .val (.ref b1), .val (.int (1 : Int32))] [(.int (1 : Int32))])) (fun tt kk => ?_) ?_
      · show Steps p.tables e below (T81.setTop (mkF m 123 #[.val (.int v0), .val (.int v1), .val (.int v2), .val (.int v3), .val (.int (1 : Int32)), .val (.int (1 : Int32)), .val (.ref b1), .val (.int (1 : Int32))] [(.int (2 : Int32))])) tt
        refine XS.iload X81.here hx rfl (hb hby at_123) rfl ?_
        show Steps p.tables e below (T81.setTop (mkF m 125 #[.val (.int v0), .val (.int v1), .val (.int v2), .val (.int v3), .val (.int (1 : Int32)), .val (.int (1 : Int32)), .val (.ref b1), .val (.int (1 : Int32))] [(.int (1 : Int32)), (.int (2 : Int32))])) tt
        refine XS.iload X81.here hx rfl (hb hby at_125) rfl ?_
        show Steps p.tables e below (T81.setTop (mkF m 127 #[.val (.int v0), .val (.int v1), .val (.int v2), .val (.int v3), .val (.int (1 : Int32)), .val (.int (1 : Int32)), .val (.ref b1), .val (.int (1 : Int32))] [(.int (1 : Int32)), (.int (1 : Int32)), (.int (2 : Int32))])) tt
        refine XS.iadd X81.here hx rfl (hb hby at_127) rfl ?_
        show Steps p.tables e below (T81.setTop (mkF m 128 #[.val (.int v0), .val (.int v1), .val (.int v2), .val (.int v3), .val (.int (1 : Int32)), .val (.int (1 : Int32)), .val (.ref b1), .val (.int (1 : Int32))] [(.int (2 : Int32)), (.int (2 : Int32))])) tt
        refine XS.icmpNo X81.here hx rfl (hb hby at_128) rfl (teq (rfl : (2 : Int32) = (2 : Int32))).2 ?_
        show Steps p.tables e below (T81.setTop (mkF m 131 #[.val (.int v0), .val (.int v1), .val (.int v2), .val (.int v3), .val (.int (1 : Int32)), .val (.int (1 : Int32)), .val (.ref b1), .val (.int (1 : Int32))] [])) tt
        refine XS.iconst X81.here hx rfl (hb hby at_131) ?_
        show Steps p.tables e below (T81.setTop (mkF m 132 #[.val (.int v0), .val (.int v1), .val (.int v2), .val (.int v3), .val (.int (1 : Int32)), .val (.int (1 : Int32)), .val (.ref b1), .val (.int (1 : Int32))] [(.int (1 : Int32))])) tt
        refine XS.goto X81.here hx rfl (pc0 := 132) (pc' := 136) rfl (hb hby at_132) (by decide) (by decide) ?_
        exact kk
      exact Goal.retV X81 hx Bd.returns rfl (Or.inl ⟨rfl, Or.inr (Or.inl rfl), _, rfl⟩) (hb hby at_136) hlk e81 ⟨rfl, N81⟩ (by decide) (by decide)
    · refine Goal.to (B := T58.setTop (mkF m 73 #[.val (.int v0), .val (.int v1), .val (.int v2), .val (.int v3), .val (.int (1 : Int32)), .val (.int (2 : Int32)), .val (.ref b1), .val (.int (1 : Int32))] [(.int v3), (.int v2), (.int (2 : Int32)), (.ref b1)])) (fun tt kk => ?_) ?_
      · show Steps p.tables e below (T58.setTop (mkF m 67 #[.val (.int v0), .val (.int v1), .val (.int v2), .val (.int v3), .val (.int (1 : Int32)), .val (.int (2 : Int32)), .val (.ref b1), .val (.int (1 : Int32))] [])) tt
        refine XS.aload X58.here hx rfl (hb hby at_67) rfl rfl ?_
        show Steps p.tables e below (T58.setTop (mkF m 69 #[.val (.int v0), .val (.int v1), .val (.int v2), .val (.int v3), .val (.int (1 : Int32)), .val (.int (2 : Int32)), .val (.ref b1), .val (.int (1 : Int32))] [(.ref b1)])) tt
        refine XS.iload X58.here hx rfl (hb hby at_69) rfl ?_
        show Steps p.tables e below (T58.setTop (mkF m 71 #[.val (.int v0), .val (.int v1), .val (.int v2), .val (.int v3), .val (.int (1 : Int32)), .val (.int (2 : Int32)), .val (.ref b1), .val (.int (1 : Int32))] [(.int (2 : Int32)), (.ref b1)])) tt
        refine XS.iloadN X58.here hx rfl (hb hby at_71) rfl ?_
        show Steps p.tables e below (T58.setTop (mkF m 72 #[.val (.int v0), .val (.int v1), .val (.int v2), .val (.int v3), .val (.int (1 : Int32)), .val (.int (2 : Int32)), .val (.ref b1), .val (.int (1 : Int32))] [(.int v2), (.int (2 : Int32)), (.ref b1)])) tt
        refine XS.iloadN X58.here hx rfl (hb hby at_72) rfl ?_
        exact kk
      have f82 : Ary Z T54.heap vr_3 .int [(.int v2), (.int (0 : Int32))] := (P50_5.keep K54 (ninS (Ne.symm ne_b1_vr_3) (ninS (Ne.symm ne3_vf_vr) nin0)))
      have f83 : Ary Z T54.heap vt_3 .int [(.int v3), (.int (0 : Int32))] := (P50_6.keep K54 (ninS (Ne.symm ne_b1_vt_3) (ninS (Ne.symm ne3_vf_vt) nin0)))
      obtain ⟨_, _, ⟨T84, L84, k84, n84⟩, -, X84, ⟨Lc84, hQ84, l84, y84, z84⟩, st84⟩ := Jvm.LawKit.callS X58 hx (y := (⟨"com/example/pattern_automaton/patternautomaton/NonZeroTransitionsEndStatePinLaw", "addN", "(Lcom/example/pattern_automaton/patternautomaton/NonZeroTransitions;III)V"⟩ : MethodName)) hown (mvT hZ (hw _ (mw 17 rfl))) (mvT hZ (hw _ (mw 18 rfl))) (mvT hZ (hw _ (mw 19 rfl))) (mvT hZ (hw _ (mw 20 rfl))) (by decide) (backOf (W := 0) (rman12 l Z a0 hw [] b1 vf_3 vr_3 vt_3 (1 : Int32) v2 (0 : Int32) v3 (0 : Int32) v2 v3 T54.heap n0 f55 f57 P54_0 P54_1 P54_2 P54_3 P54_4 f82 f83 g_b1 g_vr_3 g_vt_3 ne_b1_vr_3 ne_b1_vt_3 ne3_vr_vt) hZ (hw _ (mw 20 rfl)) (hw _ (mw 19 rfl)) (by decide) (by decide)) (g := (mkF m 73 #[.val (.int v0), .val (.int v1), .val (.int v2), .val (.int v3), .val (.int (1 : Int32)), .val (.int (2 : Int32)), .val (.ref b1), .val (.int (1 : Int32))] [(.int v3), (.int v2), (.int (2 : Int32)), (.ref b1)])) rfl (by rw [hml]; rfl) (argsL := [(.ref b1), (.int (2 : Int32)), (.int v2), (.int v3)]) (rest := []) (lenOf pd_2 rfl) rfl (by show 2 * 0 + _ ≤ _; exact Nat.le_of_eq rfl) (hb hby at_73) (fun _ _ => ⟨rfl, e58, (by decide : 4 + 2 ≤ _), (by decide : 12 + 8 ≤ _)⟩)
      dsimp only [Pt.U, Pt.locs, Pt.cells, Pt.slots] at X84 l84 y84 z84 st84 hQ84
      subst l84 y84 z84
      obtain ⟨vb_84, vd_84, rfl, N84q, K84, sz84_vb, sz84_vd, ne84_vb_vd, P84_0, P84_1, P84_2, P84_3, P84_4, P84_5, P84_6⟩ := hQ84
      have N84 := Fr.app N58 N84q
      have ne_b1_vb_84 : b1 ≠ vb_84 := Nat.ne_of_lt (Nat.lt_of_lt_of_le f57.lt sz84_vb)
      have ne_vf_3_vb_84 : vf_3 ≠ vb_84 := Nat.ne_of_lt (Nat.lt_of_lt_of_le P54_5.lt sz84_vb)
      have ne_vr_3_vb_84 : vr_3 ≠ vb_84 := Nat.ne_of_lt (Nat.lt_of_lt_of_le f82.lt sz84_vb)
      have ne_vt_3_vb_84 : vt_3 ≠ vb_84 := Nat.ne_of_lt (Nat.lt_of_lt_of_le f83.lt sz84_vb)
      have g_vb_84 : n0 ≤ vb_84 := Nat.le_trans f55 sz84_vb
      have ne_b1_vd_84 : b1 ≠ vd_84 := Nat.ne_of_lt (Nat.lt_of_lt_of_le f57.lt sz84_vd)
      have ne_vf_3_vd_84 : vf_3 ≠ vd_84 := Nat.ne_of_lt (Nat.lt_of_lt_of_le P54_5.lt sz84_vd)
      have ne_vr_3_vd_84 : vr_3 ≠ vd_84 := Nat.ne_of_lt (Nat.lt_of_lt_of_le f82.lt sz84_vd)
      have ne_vt_3_vd_84 : vt_3 ≠ vd_84 := Nat.ne_of_lt (Nat.lt_of_lt_of_le f83.lt sz84_vd)
      have g_vd_84 : n0 ≤ vd_84 := Nat.le_trans f55 sz84_vd
      refine Goal.to (B := T84.setTop (mkF m 76 #[.val (.int v0), .val (.int v1), .val (.int v2), .val (.int v3), .val (.int (1 : Int32)), .val (.int (2 : Int32)), .val (.ref b1), .val (.int (1 : Int32))] [])) st84 ?_
      refine Goal.to (B := T84.setTop (mkF m 78 #[.val (.int v0), .val (.int v1), .val (.int v2), .val (.int v3), .val (.int (1 : Int32)), .val (.int (2 : Int32)), .val (.ref b1), .val (.int (1 : Int32))] [(.ref b1)])) (fun tt kk => ?_) ?_
      · show Steps p.tables e below (T84.setTop (mkF m 76 #[.val (.int v0), .val (.int v1), .val (.int v2), .val (.int v3), .val (.int (1 : Int32)), .val (.int (2 : Int32)), .val (.ref b1), .val (.int (1 : Int32))] [])) tt
        refine XS.aload X84.here hx rfl (hb hby at_76) rfl rfl ?_
        exact kk
      have f85 : Exa Z T84.heap b1 "com/example/pattern_automaton/patternautomaton/NonZeroTransitions" := (f57.keep K84)
      have f86 : Ary Z T84.heap vf_3 .int [(.int (0 : Int32)), (.int (1 : Int32)), (.int (0 : Int32))] := (P54_5.keep K84 (ninS (Ne.symm ne_b1_vf_3) (ninS ne3_vf_vr (ninS ne3_vf_vt nin0))))
      have f87 : n0 ≤ T84.heap.size := (Nat.le_trans f55 K84.1)
      obtain ⟨cq88, kq88, q88a, q88b, q88c⟩ := isOf hZ rfl f85
      obtain ⟨_, _, ⟨T88, L88, k88, n88⟩, -, X88, ⟨Lc88, hQ88, l88, y88, z88⟩, st88⟩ := X84.virtualBack hx (y := (⟨"com/example/pattern_automaton/patternautomaton/NonZeroTransitions", "endState", "()V"⟩ : MethodName)) (z := (⟨"com/example/pattern_automaton/patternautomaton/NonZeroTransitions", "endState", "()V"⟩ : MethodName)) hown (mvT hZ (hw _ (mw 21 rfl))) (mvT hZ (hw _ (mw 22 rfl))) (notFace_of_selects (args := #[]) (mvT hZ (hw _ (mw 24 rfl)))) (mvT hZ (hw _ (mw 24 rfl))) (mvT hZ (hw _ (mw 23 rfl))) (by decide) (backOf (W := 0) (rmes1 l Z a0 hw [] b1 vf_3 vb_84 vd_84 (3 : Int32) (0 : Int32) (1 : Int32) (0 : Int32) T84.heap n0 f87 f85 P84_0 P84_1 P84_2 P84_3 P84_4 f86 g_b1 g_vf_3 ne_b1_vf_3) hZ (hw _ (mw 25 rfl)) (hw _ (mw 3 rfl)) (by decide) (by decide)) q88a q88c (g := (mkF m 78 #[.val (.int v0), .val (.int v1), .val (.int v2), .val (.int v3), .val (.int (1 : Int32)), .val (.int (2 : Int32)), .val (.ref b1), .val (.int (1 : Int32))] [(.ref b1)])) rfl (by rw [hml]; rfl) (Steps.refl _) (argsL := []) (rest := []) (lenOf pd_1 rfl) rfl (by show 2 * 0 + _ ≤ _; exact Nat.le_of_eq rfl) (hb hby at_78) (fun _ _ => ⟨rfl, rfl, (by decide : 6 + 0 ≤ _), (by decide : 20 + 0 ≤ _)⟩)
      dsimp only [Pt.U, Pt.locs, Pt.cells, Pt.slots] at X88 l88 y88 z88 st88 hQ88
      subst l88 y88 z88
      obtain ⟨rfl, N88q, K88, P88_0, P88_1, P88_2, P88_3, P88_4, P88_5⟩ := hQ88
      have N88 := Fr.app N84 N88q
      refine Goal.tr (B := T88.setTop (mkF m 81 #[.val (.int v0), .val (.int v1), .val (.int v2), .val (.int v3), .val (.int (1 : Int32)), .val (.int (2 : Int32)), .val (.ref b1), .val (.int (1 : Int32))] [])) st88 ?_
      refine Goal.to (B := T88.setTop (mkF m 89 #[.val (.int v0), .val (.int v1), .val (.int v2), .val (.int v3), .val (.int (1 : Int32)), .val (.int (2 : Int32)), .val (.ref b1), .val (.int (1 : Int32))] [(.int (0 : Int32)), (.ref b1)])) (fun tt kk => ?_) ?_
      · show Steps p.tables e below (T88.setTop (mkF m 81 #[.val (.int v0), .val (.int v1), .val (.int v2), .val (.int v3), .val (.int (1 : Int32)), .val (.int (2 : Int32)), .val (.ref b1), .val (.int (1 : Int32))] [])) tt
        refine XS.iload X88.here hx rfl (hb hby at_81) rfl ?_
        show Steps p.tables e below (T88.setTop (mkF m 83 #[.val (.int v0), .val (.int v1), .val (.int v2), .val (.int v3), .val (.int (1 : Int32)), .val (.int (2 : Int32)), .val (.ref b1), .val (.int (1 : Int32))] [(.int (1 : Int32))])) tt
        refine XS.ifNo X88.here hx rfl (hb hby at_83) rfl ((if0 _ _).trans (feq ((by decide) : ¬ ((1 : Int32) = (0 : Int32)))).1) ?_
        show Steps p.tables e below (T88.setTop (mkF m 86 #[.val (.int v0), .val (.int v1), .val (.int v2), .val (.int v3), .val (.int (1 : Int32)), .val (.int (2 : Int32)), .val (.ref b1), .val (.int (1 : Int32))] [])) tt
        refine XS.aload X88.here hx rfl (hb hby at_86) rfl rfl ?_
        show Steps p.tables e below (T88.setTop (mkF m 88 #[.val (.int v0), .val (.int v1), .val (.int v2), .val (.int v3), .val (.int (1 : Int32)), .val (.int (2 : Int32)), .val (.ref b1), .val (.int (1 : Int32))] [(.ref b1)])) tt
        refine XS.iconst X88.here hx rfl (hb hby at_88) ?_
        exact kk
      have f89 : n0 ≤ T88.heap.size := (Nat.le_trans f87 K88.1)
      have f91 : Exa Z T88.heap b1 "com/example/pattern_automaton/patternautomaton/NonZeroTransitions" := (f85.keep K88)
      obtain ⟨cq90, kq90, q90a, q90b, q90c⟩ := isOf hZ rfl f91
      obtain ⟨_, _, ⟨T90, L90, k90, n90⟩, -, X90, ⟨Lc90, hQ90, l90, y90, z90⟩, st90⟩ := X88.virtualBack hx (y := (⟨"com/example/pattern_automaton/patternautomaton/NonZeroTransitions", "first", "(I)I"⟩ : MethodName)) (z := (⟨"com/example/pattern_automaton/patternautomaton/NonZeroTransitions", "first", "(I)I"⟩ : MethodName)) hown (mvT hZ (hw _ (mw 30 rfl))) (mvT hZ (hw _ (mw 31 rfl))) (notFace_of_selects (args := #[]) (mvT hZ (hw _ (mw 33 rfl)))) (mvT hZ (hw _ (mw 33 rfl))) (mvT hZ (hw _ (mw 32 rfl))) (by decide) (backOf (W := 0) (rmfi0 l Z a0 hw [] b1 vf_3 (0 : Int32) (1 : Int32) (3 : Int32) T88.heap n0 f89 P88_0 P88_5) hZ (hw _ (mw 34 rfl)) (hw _ (mw 3 rfl)) (by decide) (by decide)) q90a q90c (g := (mkF m 89 #[.val (.int v0), .val (.int v1), .val (.int v2), .val (.int v3), .val (.int (1 : Int32)), .val (.int (2 : Int32)), .val (.ref b1), .val (.int (1 : Int32))] [(.int (0 : Int32)), (.ref b1)])) rfl (by rw [hml]; rfl) (Steps.refl _) (argsL := [(.int (0 : Int32))]) (rest := []) (lenOf pd_3 rfl) rfl (by show 2 * 0 + _ ≤ _; exact Nat.le_of_eq rfl) (hb hby at_89) (fun _ _ => ⟨rfl, rfl, (by decide : 6 + 0 ≤ _), (by decide : 20 + 0 ≤ _)⟩)
      dsimp only [Pt.U, Pt.locs, Pt.cells, Pt.slots] at X90 l90 y90 z90 st90 hQ90
      subst l90 y90 z90
      obtain ⟨rfl, N90q, e90⟩ := hQ90
      have N90 := Fr.app N88 N90q
      refine Goal.tr (B := T90.setTop (mkF m 92 #[.val (.int v0), .val (.int v1), .val (.int v2), .val (.int v3), .val (.int (1 : Int32)), .val (.int (2 : Int32)), .val (.ref b1), .val (.int (1 : Int32))] [(.int (0 : Int32))])) st90 ?_
      refine Goal.to (B := T90.setTop (mkF m 98 #[.val (.int v0), .val (.int v1), .val (.int v2), .val (.int v3), .val (.int (1 : Int32)), .val (.int (2 : Int32)), .val (.ref b1), .val (.int (1 : Int32))] [(.int (0 : Int32)), (.ref b1)])) (fun tt kk => ?_) ?_
      · show Steps p.tables e below (T90.setTop (mkF m 92 #[.val (.int v0), .val (.int v1), .val (.int v2), .val (.int v3), .val (.int (1 : Int32)), .val (.int (2 : Int32)), .val (.ref b1), .val (.int (1 : Int32))] [(.int (0 : Int32))])) tt
        refine XS.ifNo X90.here hx rfl (hb hby at_92) rfl ((if0 _ _).trans (teq (rfl : (0 : Int32) = (0 : Int32))).2) ?_
        show Steps p.tables e below (T90.setTop (mkF m 95 #[.val (.int v0), .val (.int v1), .val (.int v2), .val (.int v3), .val (.int (1 : Int32)), .val (.int (2 : Int32)), .val (.ref b1), .val (.int (1 : Int32))] [])) tt
        refine XS.aload X90.here hx rfl (hb hby at_95) rfl rfl ?_
        show Steps p.tables e below (T90.setTop (mkF m 97 #[.val (.int v0), .val (.int v1), .val (.int v2), .val (.int v3), .val (.int (1 : Int32)), .val (.int (2 : Int32)), .val (.ref b1), .val (.int (1 : Int32))] [(.ref b1)])) tt
        refine XS.iconst X90.here hx rfl (hb hby at_97) ?_
        exact kk
      obtain ⟨cq92, kq92, q92a, q92b, q92c⟩ := isOf hZ e90 f91
      obtain ⟨_, _, ⟨T92, L92, k92, n92⟩, -, X92, ⟨Lc92, hQ92, l92, y92, z92⟩, st92⟩ := X90.virtualBack hx (y := (⟨"com/example/pattern_automaton/patternautomaton/NonZeroTransitions", "end", "(I)I"⟩ : MethodName)) (z := (⟨"com/example/pattern_automaton/patternautomaton/NonZeroTransitions", "end", "(I)I"⟩ : MethodName)) hown (mvT hZ (hw _ (mw 35 rfl))) (mvT hZ (hw _ (mw 36 rfl))) (notFace_of_selects (args := #[]) (mvT hZ (hw _ (mw 38 rfl)))) (mvT hZ (hw _ (mw 38 rfl))) (mvT hZ (hw _ (mw 37 rfl))) (by decide) (backOf (W := 0) (rmen0 l Z a0 hw [] b1 vf_3 (0 : Int32) (1 : Int32) (3 : Int32) T88.heap n0 f89 P88_0 P88_5) hZ (hw _ (mw 39 rfl)) (hw _ (mw 3 rfl)) (by decide) (by decide)) q92a q92c (g := (mkF m 98 #[.val (.int v0), .val (.int v1), .val (.int v2), .val (.int v3), .val (.int (1 : Int32)), .val (.int (2 : Int32)), .val (.ref b1), .val (.int (1 : Int32))] [(.int (0 : Int32)), (.ref b1)])) rfl (by rw [hml]; rfl) (Steps.refl _) (argsL := [(.int (0 : Int32))]) (rest := []) (lenOf pd_3 rfl) rfl (by show 2 * 0 + _ ≤ _; exact Nat.le_of_eq rfl) (hb hby at_98) (fun _ _ => ⟨rfl, e90, (by decide : 6 + 0 ≤ _), (by decide : 20 + 0 ≤ _)⟩)
      dsimp only [Pt.U, Pt.locs, Pt.cells, Pt.slots] at X92 l92 y92 z92 st92 hQ92
      subst l92 y92 z92
      obtain ⟨rfl, N92q, e92⟩ := hQ92
      have N92 := Fr.app N90 N92q
      refine Goal.tr (B := T92.setTop (mkF m 101 #[.val (.int v0), .val (.int v1), .val (.int v2), .val (.int v3), .val (.int (1 : Int32)), .val (.int (2 : Int32)), .val (.ref b1), .val (.int (1 : Int32))] [(.int (1 : Int32))])) st92 ?_
      refine Goal.to (B := T92.setTop (mkF m 109 #[.val (.int v0), .val (.int v1), .val (.int v2), .val (.int v3), .val (.int (1 : Int32)), .val (.int (2 : Int32)), .val (.ref b1), .val (.int (1 : Int32))] [(.int (1 : Int32)), (.ref b1)])) (fun tt kk => ?_) ?_
      · show Steps p.tables e below (T92.setTop (mkF m 101 #[.val (.int v0), .val (.int v1), .val (.int v2), .val (.int v3), .val (.int (1 : Int32)), .val (.int (2 : Int32)), .val (.ref b1), .val (.int (1 : Int32))] [(.int (1 : Int32))])) tt
        refine XS.iload X92.here hx rfl (hb hby at_101) rfl ?_
        show Steps p.tables e below (T92.setTop (mkF m 103 #[.val (.int v0), .val (.int v1), .val (.int v2), .val (.int v3), .val (.int (1 : Int32)), .val (.int (2 : Int32)), .val (.ref b1), .val (.int (1 : Int32))] [(.int (1 : Int32)), (.int (1 : Int32))])) tt
        refine XS.icmpNo X92.here hx rfl (hb hby at_103) rfl (teq (rfl : (1 : Int32) = (1 : Int32))).2 ?_
        show Steps p.tables e below (T92.setTop (mkF m 106 #[.val (.int v0), .val (.int v1), .val (.int v2), .val (.int v3), .val (.int (1 : Int32)), .val (.int (2 : Int32)), .val (.ref b1), .val (.int (1 : Int32))] [])) tt
        refine XS.aload X92.here hx rfl (hb hby at_106) rfl rfl ?_
        show Steps p.tables e below (T92.setTop (mkF m 108 #[.val (.int v0), .val (.int v1), .val (.int v2), .val (.int v3), .val (.int (1 : Int32)), .val (.int (2 : Int32)), .val (.ref b1), .val (.int (1 : Int32))] [(.ref b1)])) tt
        refine XS.iconst X92.here hx rfl (hb hby at_108) ?_
        exact kk
      obtain ⟨cq93, kq93, q93a, q93b, q93c⟩ := isOf hZ e92 f91
      obtain ⟨_, _, ⟨T93, L93, k93, n93⟩, -, X93, ⟨Lc93, hQ93, l93, y93, z93⟩, st93⟩ := X92.virtualBack hx (y := (⟨"com/example/pattern_automaton/patternautomaton/NonZeroTransitions", "first", "(I)I"⟩ : MethodName)) (z := (⟨"com/example/pattern_automaton/patternautomaton/NonZeroTransitions", "first", "(I)I"⟩ : MethodName)) hown (mvT hZ (hw _ (mw 30 rfl))) (mvT hZ (hw _ (mw 31 rfl))) (notFace_of_selects (args := #[]) (mvT hZ (hw _ (mw 33 rfl)))) (mvT hZ (hw _ (mw 33 rfl))) (mvT hZ (hw _ (mw 32 rfl))) (by decide) (backOf (W := 0) (rmfi1 l Z a0 hw [] b1 vf_3 (0 : Int32) (1 : Int32) (3 : Int32) T88.heap n0 f89 P88_0 P88_5) hZ (hw _ (mw 34 rfl)) (hw _ (mw 3 rfl)) (by decide) (by decide)) q93a q93c (g := (mkF m 109 #[.val (.int v0), .val (.int v1), .val (.int v2), .val (.int v3), .val (.int (1 : Int32)), .val (.int (2 : Int32)), .val (.ref b1), .val (.int (1 : Int32))] [(.int (1 : Int32)), (.ref b1)])) rfl (by rw [hml]; rfl) (Steps.refl _) (argsL := [(.int (1 : Int32))]) (rest := []) (lenOf pd_3 rfl) rfl (by show 2 * 0 + _ ≤ _; exact Nat.le_of_eq rfl) (hb hby at_109) (fun _ _ => ⟨rfl, e92, (by decide : 6 + 0 ≤ _), (by decide : 20 + 0 ≤ _)⟩)
      dsimp only [Pt.U, Pt.locs, Pt.cells, Pt.slots] at X93 l93 y93 z93 st93 hQ93
      subst l93 y93 z93
      obtain ⟨rfl, N93q, e93⟩ := hQ93
      have N93 := Fr.app N92 N93q
      refine Goal.tr (B := T93.setTop (mkF m 112 #[.val (.int v0), .val (.int v1), .val (.int v2), .val (.int v3), .val (.int (1 : Int32)), .val (.int (2 : Int32)), .val (.ref b1), .val (.int (1 : Int32))] [(.int (1 : Int32))])) st93 ?_
      refine Goal.to (B := T93.setTop (mkF m 120 #[.val (.int v0), .val (.int v1), .val (.int v2), .val (.int v3), .val (.int (1 : Int32)), .val (.int (2 : Int32)), .val (.ref b1), .val (.int (1 : Int32))] [(.int (1 : Int32)), (.ref b1)])) (fun tt kk => ?_) ?_
      · show Steps p.tables e below (T93.setTop (mkF m 112 #[.val (.int v0), .val (.int v1), .val (.int v2), .val (.int v3), .val (.int (1 : Int32)), .val (.int (2 : Int32)), .val (.ref b1), .val (.int (1 : Int32))] [(.int (1 : Int32))])) tt
        refine XS.iload X93.here hx rfl (hb hby at_112) rfl ?_
        show Steps p.tables e below (T93.setTop (mkF m 114 #[.val (.int v0), .val (.int v1), .val (.int v2), .val (.int v3), .val (.int (1 : Int32)), .val (.int (2 : Int32)), .val (.ref b1), .val (.int (1 : Int32))] [(.int (1 : Int32)), (.int (1 : Int32))])) tt
        refine XS.icmpNo X93.here hx rfl (hb hby at_114) rfl (teq (rfl : (1 : Int32) = (1 : Int32))).2 ?_
        show Steps p.tables e below (T93.setTop (mkF m 117 #[.val (.int v0), .val (.int v1), .val (.int v2), .val (.int v3), .val (.int (1 : Int32)), .val (.int (2 : Int32)), .val (.ref b1), .val (.int (1 : Int32))] [])) tt
        refine XS.aload X93.here hx rfl (hb hby at_117) rfl rfl ?_
        show Steps p.tables e below (T93.setTop (mkF m 119 #[.val (.int v0), .val (.int v1), .val (.int v2), .val (.int v3), .val (.int (1 : Int32)), .val (.int (2 : Int32)), .val (.ref b1), .val (.int (1 : Int32))] [(.ref b1)])) tt
        refine XS.iconst X93.here hx rfl (hb hby at_119) ?_
        exact kk
      obtain ⟨cq94, kq94, q94a, q94b, q94c⟩ := isOf hZ e93 f91
      obtain ⟨_, _, ⟨T94, L94, k94, n94⟩, -, X94, ⟨Lc94, hQ94, l94, y94, z94⟩, st94⟩ := X93.virtualBack hx (y := (⟨"com/example/pattern_automaton/patternautomaton/NonZeroTransitions", "end", "(I)I"⟩ : MethodName)) (z := (⟨"com/example/pattern_automaton/patternautomaton/NonZeroTransitions", "end", "(I)I"⟩ : MethodName)) hown (mvT hZ (hw _ (mw 35 rfl))) (mvT hZ (hw _ (mw 36 rfl))) (notFace_of_selects (args := #[]) (mvT hZ (hw _ (mw 38 rfl)))) (mvT hZ (hw _ (mw 38 rfl))) (mvT hZ (hw _ (mw 37 rfl))) (by decide) (backOf (W := 0) (rmen1 l Z a0 hw [] b1 vf_3 (0 : Int32) (1 : Int32) (3 : Int32) T88.heap n0 f89 P88_0 P88_5) hZ (hw _ (mw 39 rfl)) (hw _ (mw 3 rfl)) (by decide) (by decide)) q94a q94c (g := (mkF m 120 #[.val (.int v0), .val (.int v1), .val (.int v2), .val (.int v3), .val (.int (1 : Int32)), .val (.int (2 : Int32)), .val (.ref b1), .val (.int (1 : Int32))] [(.int (1 : Int32)), (.ref b1)])) rfl (by rw [hml]; rfl) (Steps.refl _) (argsL := [(.int (1 : Int32))]) (rest := []) (lenOf pd_3 rfl) rfl (by show 2 * 0 + _ ≤ _; exact Nat.le_of_eq rfl) (hb hby at_120) (fun _ _ => ⟨rfl, e93, (by decide : 6 + 0 ≤ _), (by decide : 20 + 0 ≤ _)⟩)
      dsimp only [Pt.U, Pt.locs, Pt.cells, Pt.slots] at X94 l94 y94 z94 st94 hQ94
      subst l94 y94 z94
      obtain ⟨rfl, N94q, e94⟩ := hQ94
      have N94 := Fr.app N93 N94q
      refine Goal.tr (B := T94.setTop (mkF m 123 #[.val (.int v0), .val (.int v1), .val (.int v2), .val (.int v3), .val (.int (1 : Int32)), .val (.int (2 : Int32)), .val (.ref b1), .val (.int (1 : Int32))] [(.int (3 : Int32))])) st94 ?_
      refine Goal.to (B := T94.setTop (mkF m 136 #[.val (.int v0), .val (.int v1), .val (.int v2), .val (.int v3), .val (.int (1 : Int32)), .val (.int (2 : Int32)), .val (.ref b1), .val (.int (1 : Int32))] [(.int (1 : Int32))])) (fun tt kk => ?_) ?_
      · show Steps p.tables e below (T94.setTop (mkF m 123 #[.val (.int v0), .val (.int v1), .val (.int v2), .val (.int v3), .val (.int (1 : Int32)), .val (.int (2 : Int32)), .val (.ref b1), .val (.int (1 : Int32))] [(.int (3 : Int32))])) tt
        refine XS.iload X94.here hx rfl (hb hby at_123) rfl ?_
        show Steps p.tables e below (T94.setTop (mkF m 125 #[.val (.int v0), .val (.int v1), .val (.int v2), .val (.int v3), .val (.int (1 : Int32)), .val (.int (2 : Int32)), .val (.ref b1), .val (.int (1 : Int32))] [(.int (1 : Int32)), (.int (3 : Int32))])) tt
        refine XS.iload X94.here hx rfl (hb hby at_125) rfl ?_
        show Steps p.tables e below (T94.setTop (mkF m 127 #[.val (.int v0), .val (.int v1), .val (.int v2), .val (.int v3), .val (.int (1 : Int32)), .val (.int (2 : Int32)), .val (.ref b1), .val (.int (1 : Int32))] [(.int (2 : Int32)), (.int (1 : Int32)), (.int (3 : Int32))])) tt
        refine XS.iadd X94.here hx rfl (hb hby at_127) rfl ?_
        show Steps p.tables e below (T94.setTop (mkF m 128 #[.val (.int v0), .val (.int v1), .val (.int v2), .val (.int v3), .val (.int (1 : Int32)), .val (.int (2 : Int32)), .val (.ref b1), .val (.int (1 : Int32))] [(.int (3 : Int32)), (.int (3 : Int32))])) tt
        refine XS.icmpNo X94.here hx rfl (hb hby at_128) rfl (teq (rfl : (3 : Int32) = (3 : Int32))).2 ?_
        show Steps p.tables e below (T94.setTop (mkF m 131 #[.val (.int v0), .val (.int v1), .val (.int v2), .val (.int v3), .val (.int (1 : Int32)), .val (.int (2 : Int32)), .val (.ref b1), .val (.int (1 : Int32))] [])) tt
        refine XS.iconst X94.here hx rfl (hb hby at_131) ?_
        show Steps p.tables e below (T94.setTop (mkF m 132 #[.val (.int v0), .val (.int v1), .val (.int v2), .val (.int v3), .val (.int (1 : Int32)), .val (.int (2 : Int32)), .val (.ref b1), .val (.int (1 : Int32))] [(.int (1 : Int32))])) tt
        refine XS.goto X94.here hx rfl (pc0 := 132) (pc' := 136) rfl (hb hby at_132) (by decide) (by decide) ?_
        exact kk
      exact Goal.retV X94 hx Bd.returns rfl (Or.inl ⟨rfl, Or.inr (Or.inl rfl), _, rfl⟩) (hb hby at_136) hlk e94 ⟨rfl, N94⟩ (by decide) (by decide)
  · refine Goal.to (B := T3.setTop (mkF m 32 #[.val (.int v0), .val (.int v1), .val (.int v2), .val (.int v3), .val (.int (2 : Int32)), .val (.int nb), .val (.ref b1), .unset] [(.int v3), (.int v2), (.int (2 : Int32)), (.ref b1)])) (fun tt kk => ?_) ?_
    · show Steps p.tables e below (T3.setTop (mkF m 26 #[.val (.int v0), .val (.int v1), .val (.int v2), .val (.int v3), .val (.int (2 : Int32)), .val (.int nb), .val (.ref b1), .unset] [])) tt
      refine XS.aload X3.here hx rfl (hb hby at_26) rfl rfl ?_
      show Steps p.tables e below (T3.setTop (mkF m 28 #[.val (.int v0), .val (.int v1), .val (.int v2), .val (.int v3), .val (.int (2 : Int32)), .val (.int nb), .val (.ref b1), .unset] [(.ref b1)])) tt
      refine XS.iload X3.here hx rfl (hb hby at_28) rfl ?_
      show Steps p.tables e below (T3.setTop (mkF m 30 #[.val (.int v0), .val (.int v1), .val (.int v2), .val (.int v3), .val (.int (2 : Int32)), .val (.int nb), .val (.ref b1), .unset] [(.int (2 : Int32)), (.ref b1)])) tt
      refine XS.iloadN X3.here hx rfl (hb hby at_30) rfl ?_
      show Steps p.tables e below (T3.setTop (mkF m 31 #[.val (.int v0), .val (.int v1), .val (.int v2), .val (.int v3), .val (.int (2 : Int32)), .val (.int nb), .val (.ref b1), .unset] [(.int v2), (.int (2 : Int32)), (.ref b1)])) tt
      refine XS.iloadN X3.here hx rfl (hb hby at_31) rfl ?_
      exact kk
    have f95 : Exa Z T3.heap b1 "com/example/pattern_automaton/patternautomaton/NonZeroTransitions" := (A1.keep K3)
    have f96 : n0 ≤ T3.heap.size := (Nat.le_trans f2 K3.1)
    obtain ⟨_, _, ⟨T97, L97, k97, n97⟩, -, X97, ⟨Lc97, hQ97, l97, y97, z97⟩, st97⟩ := Jvm.LawKit.callS X3 hx (y := (⟨"com/example/pattern_automaton/patternautomaton/NonZeroTransitionsEndStatePinLaw", "addN", "(Lcom/example/pattern_automaton/patternautomaton/NonZeroTransitions;III)V"⟩ : MethodName)) hown (mvT hZ (hw _ (mw 17 rfl))) (mvT hZ (hw _ (mw 18 rfl))) (mvT hZ (hw _ (mw 19 rfl))) (mvT hZ (hw _ (mw 20 rfl))) (by decide) (backOf (W := 0) (rman02 l Z a0 hw [] b1 vf_3 vr_3 vt_3 (0 : Int32) (0 : Int32) (0 : Int32) (0 : Int32) (0 : Int32) v2 v3 T3.heap n0 f96 f95 P3_0 P3_1 P3_2 P3_3 P3_4 P3_6 P3_7 g_b1 g_vr_3 g_vt_3 ne_b1_vr_3 ne_b1_vt_3 ne3_vr_vt) hZ (hw _ (mw 20 rfl)) (hw _ (mw 19 rfl)) (by decide) (by decide)) (g := (mkF m 32 #[.val (.int v0), .val (.int v1), .val (.int v2), .val (.int v3), .val (.int (2 : Int32)), .val (.int nb), .val (.ref b1), .unset] [(.int v3), (.int v2), (.int (2 : Int32)), (.ref b1)])) rfl (by rw [hml]; rfl) (argsL := [(.ref b1), (.int (2 : Int32)), (.int v2), (.int v3)]) (rest := []) (lenOf pd_2 rfl) rfl (by show 2 * 0 + _ ≤ _; exact Nat.le_of_eq rfl) (hb hby at_32) (fun _ _ => ⟨rfl, rfl, (by decide : 4 + 0 ≤ _), (by decide : 12 + 0 ≤ _)⟩)
    dsimp only [Pt.U, Pt.locs, Pt.cells, Pt.slots] at X97 l97 y97 z97 st97 hQ97
    subst l97 y97 z97
    obtain ⟨rfl, N97q, K97, P97_0, P97_1, P97_2, P97_3, P97_4, P97_5, P97_6⟩ := hQ97
    have N97 := Fr.app N3 N97q
    refine Goal.to (B := T97.setTop (mkF m 35 #[.val (.int v0), .val (.int v1), .val (.int v2), .val (.int v3), .val (.int (2 : Int32)), .val (.int nb), .val (.ref b1), .unset] [])) st97 ?_
    refine Goal.to (B := T97.setTop (mkF m 37 #[.val (.int v0), .val (.int v1), .val (.int v2), .val (.int v3), .val (.int (2 : Int32)), .val (.int nb), .val (.ref b1), .unset] [(.ref b1)])) (fun tt kk => ?_) ?_
    · show Steps p.tables e below (T97.setTop (mkF m 35 #[.val (.int v0), .val (.int v1), .val (.int v2), .val (.int v3), .val (.int (2 : Int32)), .val (.int nb), .val (.ref b1), .unset] [])) tt
      refine XS.aload X97.here hx rfl (hb hby at_35) rfl rfl ?_
      exact kk
    have f98 : Exa Z T97.heap b1 "com/example/pattern_automaton/patternautomaton/NonZeroTransitions" := (f95.keep K97)
    have f99 : Ary Z T97.heap vf_3 .int [(.int (0 : Int32)), (.int (0 : Int32)), (.int (0 : Int32))] := (P3_5.keep K97 (ninS (Ne.symm ne_b1_vf_3) (ninS ne3_vf_vr (ninS ne3_vf_vt nin0))))
    have f100 : n0 ≤ T97.heap.size := (Nat.le_trans f96 K97.1)
    obtain ⟨cq101, kq101, q101a, q101b, q101c⟩ := isOf hZ rfl f98
    obtain ⟨_, _, ⟨T101, L101, k101, n101⟩, -, X101, ⟨Lc101, hQ101, l101, y101, z101⟩, st101⟩ := X97.virtualBack hx (y := (⟨"com/example/pattern_automaton/patternautomaton/NonZeroTransitions", "endState", "()V"⟩ : MethodName)) (z := (⟨"com/example/pattern_automaton/patternautomaton/NonZeroTransitions", "endState", "()V"⟩ : MethodName)) hown (mvT hZ (hw _ (mw 21 rfl))) (mvT hZ (hw _ (mw 22 rfl))) (notFace_of_selects (args := #[]) (mvT hZ (hw _ (mw 24 rfl)))) (mvT hZ (hw _ (mw 24 rfl))) (mvT hZ (hw _ (mw 23 rfl))) (by decide) (backOf (W := 0) (rmes0 l Z a0 hw [] b1 vf_3 vr_3 vt_3 (2 : Int32) (0 : Int32) (0 : Int32) (0 : Int32) T97.heap n0 f100 f98 P97_0 P97_1 P97_2 P97_3 P97_4 f99 g_b1 g_vf_3 ne_b1_vf_3) hZ (hw _ (mw 25 rfl)) (hw _ (mw 3 rfl)) (by decide) (by decide)) q101a q101c (g := (mkF m 37 #[.val (.int v0), .val (.int v1), .val (.int v2), .val (.int v3), .val (.int (2 : Int32)), .val (.int nb), .val (.ref b1), .unset] [(.ref b1)])) rfl (by rw [hml]; rfl) (Steps.refl _) (argsL := []) (rest := []) (lenOf pd_1 rfl) rfl (by show 2 * 0 + _ ≤ _; exact Nat.le_of_eq rfl) (hb hby at_37) (fun _ _ => ⟨rfl, rfl, (by decide : 4 + 0 ≤ _), (by decide : 12 + 0 ≤ _)⟩)
    dsimp only [Pt.U, Pt.locs, Pt.cells, Pt.slots] at X101 l101 y101 z101 st101 hQ101
    subst l101 y101 z101
    obtain ⟨rfl, N101q, K101, P101_0, P101_1, P101_2, P101_3, P101_4, P101_5⟩ := hQ101
    have N101 := Fr.app N97 N101q
    refine Goal.tr (B := T101.setTop (mkF m 40 #[.val (.int v0), .val (.int v1), .val (.int v2), .val (.int v3), .val (.int (2 : Int32)), .val (.int nb), .val (.ref b1), .unset] [])) st101 ?_
    refine Goal.to (B := T101.setTop (mkF m 43 #[.val (.int v0), .val (.int v1), .val (.int v2), .val (.int v3), .val (.int (2 : Int32)), .val (.int nb), .val (.ref b1), .unset] [(.int (0 : Int32)), (.ref b1)])) (fun tt kk => ?_) ?_
    · show Steps p.tables e below (T101.setTop (mkF m 40 #[.val (.int v0), .val (.int v1), .val (.int v2), .val (.int v3), .val (.int (2 : Int32)), .val (.int nb), .val (.ref b1), .unset] [])) tt
      refine XS.aload X101.here hx rfl (hb hby at_40) rfl rfl ?_
      show Steps p.tables e below (T101.setTop (mkF m 42 #[.val (.int v0), .val (.int v1), .val (.int v2), .val (.int v3), .val (.int (2 : Int32)), .val (.int nb), .val (.ref b1), .unset] [(.ref b1)])) tt
      refine XS.iconst X101.here hx rfl (hb hby at_42) ?_
      exact kk
    have f102 : n0 ≤ T101.heap.size := (Nat.le_trans f100 K101.1)
    have f104 : Exa Z T101.heap b1 "com/example/pattern_automaton/patternautomaton/NonZeroTransitions" := (f98.keep K101)
    obtain ⟨cq103, kq103, q103a, q103b, q103c⟩ := isOf hZ rfl f104
    obtain ⟨_, _, ⟨T103, L103, k103, n103⟩, -, X103, ⟨Lc103, hQ103, l103, y103, z103⟩, st103⟩ := X101.virtualBack hx (y := (⟨"com/example/pattern_automaton/patternautomaton/NonZeroTransitions", "first", "(I)I"⟩ : MethodName)) (z := (⟨"com/example/pattern_automaton/patternautomaton/NonZeroTransitions", "first", "(I)I"⟩ : MethodName)) hown (mvT hZ (hw _ (mw 30 rfl))) (mvT hZ (hw _ (mw 31 rfl))) (notFace_of_selects (args := #[]) (mvT hZ (hw _ (mw 33 rfl)))) (mvT hZ (hw _ (mw 33 rfl))) (mvT hZ (hw _ (mw 32 rfl))) (by decide) (backOf (W := 0) (rmfi0 l Z a0 hw [] b1 vf_3 (0 : Int32) (2 : Int32) (0 : Int32) T101.heap n0 f102 P101_0 P101_5) hZ (hw _ (mw 34 rfl)) (hw _ (mw 3 rfl)) (by decide) (by decide)) q103a q103c (g := (mkF m 43 #[.val (.int v0), .val (.int v1), .val (.int v2), .val (.int v3), .val (.int (2 : Int32)), .val (.int nb), .val (.ref b1), .unset] [(.int (0 : Int32)), (.ref b1)])) rfl (by rw [hml]; rfl) (Steps.refl _) (argsL := [(.int (0 : Int32))]) (rest := []) (lenOf pd_3 rfl) rfl (by show 2 * 0 + _ ≤ _; exact Nat.le_of_eq rfl) (hb hby at_43) (fun _ _ => ⟨rfl, rfl, (by decide : 4 + 0 ≤ _), (by decide : 12 + 0 ≤ _)⟩)
    dsimp only [Pt.U, Pt.locs, Pt.cells, Pt.slots] at X103 l103 y103 z103 st103 hQ103
    subst l103 y103 z103
    obtain ⟨rfl, N103q, e103⟩ := hQ103
    have N103 := Fr.app N101 N103q
    refine Goal.tr (B := T103.setTop (mkF m 46 #[.val (.int v0), .val (.int v1), .val (.int v2), .val (.int v3), .val (.int (2 : Int32)), .val (.int nb), .val (.ref b1), .unset] [(.int (0 : Int32))])) st103 ?_
    refine Goal.to (B := T103.setTop (mkF m 52 #[.val (.int v0), .val (.int v1), .val (.int v2), .val (.int v3), .val (.int (2 : Int32)), .val (.int nb), .val (.ref b1), .unset] [(.int (0 : Int32)), (.ref b1)])) (fun tt kk => ?_) ?_
    · show Steps p.tables e below (T103.setTop (mkF m 46 #[.val (.int v0), .val (.int v1), .val (.int v2), .val (.int v3), .val (.int (2 : Int32)), .val (.int nb), .val (.ref b1), .unset] [(.int (0 : Int32))])) tt
      refine XS.ifNo X103.here hx rfl (hb hby at_46) rfl ((if0 _ _).trans (teq (rfl : (0 : Int32) = (0 : Int32))).2) ?_
      show Steps p.tables e below (T103.setTop (mkF m 49 #[.val (.int v0), .val (.int v1), .val (.int v2), .val (.int v3), .val (.int (2 : Int32)), .val (.int nb), .val (.ref b1), .unset] [])) tt
      refine XS.aload X103.here hx rfl (hb hby at_49) rfl rfl ?_
      show Steps p.tables e below (T103.setTop (mkF m 51 #[.val (.int v0), .val (.int v1), .val (.int v2), .val (.int v3), .val (.int (2 : Int32)), .val (.int nb), .val (.ref b1), .unset] [(.ref b1)])) tt
      refine XS.iconst X103.here hx rfl (hb hby at_51) ?_
      exact kk
    obtain ⟨cq105, kq105, q105a, q105b, q105c⟩ := isOf hZ e103 f104
    obtain ⟨_, _, ⟨T105, L105, k105, n105⟩, -, X105, ⟨Lc105, hQ105, l105, y105, z105⟩, st105⟩ := X103.virtualBack hx (y := (⟨"com/example/pattern_automaton/patternautomaton/NonZeroTransitions", "end", "(I)I"⟩ : MethodName)) (z := (⟨"com/example/pattern_automaton/patternautomaton/NonZeroTransitions", "end", "(I)I"⟩ : MethodName)) hown (mvT hZ (hw _ (mw 35 rfl))) (mvT hZ (hw _ (mw 36 rfl))) (notFace_of_selects (args := #[]) (mvT hZ (hw _ (mw 38 rfl)))) (mvT hZ (hw _ (mw 38 rfl))) (mvT hZ (hw _ (mw 37 rfl))) (by decide) (backOf (W := 0) (rmen0 l Z a0 hw [] b1 vf_3 (0 : Int32) (2 : Int32) (0 : Int32) T101.heap n0 f102 P101_0 P101_5) hZ (hw _ (mw 39 rfl)) (hw _ (mw 3 rfl)) (by decide) (by decide)) q105a q105c (g := (mkF m 52 #[.val (.int v0), .val (.int v1), .val (.int v2), .val (.int v3), .val (.int (2 : Int32)), .val (.int nb), .val (.ref b1), .unset] [(.int (0 : Int32)), (.ref b1)])) rfl (by rw [hml]; rfl) (Steps.refl _) (argsL := [(.int (0 : Int32))]) (rest := []) (lenOf pd_3 rfl) rfl (by show 2 * 0 + _ ≤ _; exact Nat.le_of_eq rfl) (hb hby at_52) (fun _ _ => ⟨rfl, e103, (by decide : 4 + 0 ≤ _), (by decide : 12 + 0 ≤ _)⟩)
    dsimp only [Pt.U, Pt.locs, Pt.cells, Pt.slots] at X105 l105 y105 z105 st105 hQ105
    subst l105 y105 z105
    obtain ⟨rfl, N105q, e105⟩ := hQ105
    have N105 := Fr.app N103 N105q
    refine Goal.tr (B := T105.setTop (mkF m 55 #[.val (.int v0), .val (.int v1), .val (.int v2), .val (.int v3), .val (.int (2 : Int32)), .val (.int nb), .val (.ref b1), .unset] [(.int (2 : Int32))])) st105 ?_
    refine Goal.to (B := T105.setTop (mkF m 67 #[.val (.int v0), .val (.int v1), .val (.int v2), .val (.int v3), .val (.int (2 : Int32)), .val (.int nb), .val (.ref b1), .val (.int (1 : Int32))] [])) (fun tt kk => ?_) ?_
    · show Steps p.tables e below (T105.setTop (mkF m 55 #[.val (.int v0), .val (.int v1), .val (.int v2), .val (.int v3), .val (.int (2 : Int32)), .val (.int nb), .val (.ref b1), .unset] [(.int (2 : Int32))])) tt
      refine XS.iload X105.here hx rfl (hb hby at_55) rfl ?_
      show Steps p.tables e below (T105.setTop (mkF m 57 #[.val (.int v0), .val (.int v1), .val (.int v2), .val (.int v3), .val (.int (2 : Int32)), .val (.int nb), .val (.ref b1), .unset] [(.int (2 : Int32)), (.int (2 : Int32))])) tt
      refine XS.icmpNo X105.here hx rfl (hb hby at_57) rfl (teq (rfl : (2 : Int32) = (2 : Int32))).2 ?_
      show Steps p.tables e below (T105.setTop (mkF m 60 #[.val (.int v0), .val (.int v1), .val (.int v2), .val (.int v3), .val (.int (2 : Int32)), .val (.int nb), .val (.ref b1), .unset] [])) tt
      refine XS.iconst X105.here hx rfl (hb hby at_60) ?_
      show Steps p.tables e below (T105.setTop (mkF m 61 #[.val (.int v0), .val (.int v1), .val (.int v2), .val (.int v3), .val (.int (2 : Int32)), .val (.int nb), .val (.ref b1), .unset] [(.int (1 : Int32))])) tt
      refine XS.goto X105.here hx rfl (pc0 := 61) (pc' := 65) rfl (hb hby at_61) (by decide) (by decide) ?_
      show Steps p.tables e below (T105.setTop (mkF m 65 #[.val (.int v0), .val (.int v1), .val (.int v2), .val (.int v3), .val (.int (2 : Int32)), .val (.int nb), .val (.ref b1), .unset] [(.int (1 : Int32))])) tt
      refine XS.istore X105.here hx rfl (hb hby at_65) rfl (l' := #[.val (.int v0), .val (.int v1), .val (.int v2), .val (.int v3), .val (.int (2 : Int32)), .val (.int nb), .val (.ref b1), .val (.int (1 : Int32))]) rfl ?_
      exact kk
    rcases own_n hnb with rfl | rfl | rfl
    · refine Goal.to (B := T105.setTop (mkF m 73 #[.val (.int v0), .val (.int v1), .val (.int v2), .val (.int v3), .val (.int (2 : Int32)), .val (.int (0 : Int32)), .val (.ref b1), .val (.int (1 : Int32))] [(.int v3), (.int v2), (.int (0 : Int32)), (.ref b1)])) (fun tt kk => ?_) ?_
      · show Steps p.tables e below (T105.setTop (mkF m 67 #[.val (.int v0), .val (.int v1), .val (.int v2), .val (.int v3), .val (.int (2 : Int32)), .val (.int (0 : Int32)), .val (.ref b1), .val (.int (1 : Int32))] [])) tt
        refine XS.aload X105.here hx rfl (hb hby at_67) rfl rfl ?_
        show Steps p.tables e below (T105.setTop (mkF m 69 #[.val (.int v0), .val (.int v1), .val (.int v2), .val (.int v3), .val (.int (2 : Int32)), .val (.int (0 : Int32)), .val (.ref b1), .val (.int (1 : Int32))] [(.ref b1)])) tt
        refine XS.iload X105.here hx rfl (hb hby at_69) rfl ?_
        show Steps p.tables e below (T105.setTop (mkF m 71 #[.val (.int v0), .val (.int v1), .val (.int v2), .val (.int v3), .val (.int (2 : Int32)), .val (.int (0 : Int32)), .val (.ref b1), .val (.int (1 : Int32))] [(.int (0 : Int32)), (.ref b1)])) tt
        refine XS.iloadN X105.here hx rfl (hb hby at_71) rfl ?_
        show Steps p.tables e below (T105.setTop (mkF m 72 #[.val (.int v0), .val (.int v1), .val (.int v2), .val (.int v3), .val (.int (2 : Int32)), .val (.int (0 : Int32)), .val (.ref b1), .val (.int (1 : Int32))] [(.int v2), (.int (0 : Int32)), (.ref b1)])) tt
        refine XS.iloadN X105.here hx rfl (hb hby at_72) rfl ?_
        exact kk
      have f106 : Ary Z T101.heap vr_3 .int [(.int v2), (.int (v2 + (1 : Int32)))] := (P97_5.keep K101 (ninS (Ne.symm ne_b1_vr_3) (ninS (Ne.symm ne3_vf_vr) nin0)))
      have f107 : Ary Z T101.heap vt_3 .int [(.int v3), (.int v3)] := (P97_6.keep K101 (ninS (Ne.symm ne_b1_vt_3) (ninS (Ne.symm ne3_vf_vt) nin0)))
      obtain ⟨_, _, ⟨T108, L108, k108, n108⟩, -, X108, ⟨Lc108, hQ108, l108, y108, z108⟩, st108⟩ := Jvm.LawKit.callS X105 hx (y := (⟨"com/example/pattern_automaton/patternautomaton/NonZeroTransitionsEndStatePinLaw", "addN", "(Lcom/example/pattern_automaton/patternautomaton/NonZeroTransitions;III)V"⟩ : MethodName)) hown (mvT hZ (hw _ (mw 17 rfl))) (mvT hZ (hw _ (mw 18 rfl))) (mvT hZ (hw _ (mw 19 rfl))) (mvT hZ (hw _ (mw 20 rfl))) (by decide) (backOf (W := 0) (rman20 l Z a0 hw [] b1 vf_3 vr_3 vt_3 (1 : Int32) v2 (v2 + (1 : Int32)) v3 v3 v2 v3 T101.heap n0 f102 f104 P101_0 P101_1 P101_2 P101_3 P101_4 f106 f107) hZ (hw _ (mw 20 rfl)) (hw _ (mw 19 rfl)) (by decide) (by decide)) (g := (mkF m 73 #[.val (.int v0), .val (.int v1), .val (.int v2), .val (.int v3), .val (.int (2 : Int32)), .val (.int (0 : Int32)), .val (.ref b1), .val (.int (1 : Int32))] [(.int v3), (.int v2), (.int (0 : Int32)), (.ref b1)])) rfl (by rw [hml]; rfl) (argsL := [(.ref b1), (.int (0 : Int32)), (.int v2), (.int v3)]) (rest := []) (lenOf pd_2 rfl) rfl (by show 2 * 0 + _ ≤ _; exact Nat.le_of_eq rfl) (hb hby at_73) (fun _ _ => ⟨rfl, e105, (by decide : 4 + 0 ≤ _), (by decide : 12 + 0 ≤ _)⟩)
      dsimp only [Pt.U, Pt.locs, Pt.cells, Pt.slots] at X108 l108 y108 z108 st108 hQ108
      subst l108 y108 z108
      obtain ⟨rfl, N108q, e108⟩ := hQ108
      have N108 := Fr.app N105 N108q
      refine Goal.to (B := T108.setTop (mkF m 76 #[.val (.int v0), .val (.int v1), .val (.int v2), .val (.int v3), .val (.int (2 : Int32)), .val (.int (0 : Int32)), .val (.ref b1), .val (.int (1 : Int32))] [])) st108 ?_
      refine Goal.to (B := T108.setTop (mkF m 78 #[.val (.int v0), .val (.int v1), .val (.int v2), .val (.int v3), .val (.int (2 : Int32)), .val (.int (0 : Int32)), .val (.ref b1), .val (.int (1 : Int32))] [(.ref b1)])) (fun tt kk => ?_) ?_
      · show Steps p.tables e below (T108.setTop (mkF m 76 #[.val (.int v0), .val (.int v1), .val (.int v2), .val (.int v3), .val (.int (2 : Int32)), .val (.int (0 : Int32)), .val (.ref b1), .val (.int (1 : Int32))] [])) tt
        refine XS.aload X108.here hx rfl (hb hby at_76) rfl rfl ?_
        exact kk
      obtain ⟨cq109, kq109, q109a, q109b, q109c⟩ := isOf hZ e108 f104
      obtain ⟨_, _, ⟨T109, L109, k109, n109⟩, -, X109, ⟨Lc109, hQ109, l109, y109, z109⟩, st109⟩ := X108.virtualBack hx (y := (⟨"com/example/pattern_automaton/patternautomaton/NonZeroTransitions", "endState", "()V"⟩ : MethodName)) (z := (⟨"com/example/pattern_automaton/patternautomaton/NonZeroTransitions", "endState", "()V"⟩ : MethodName)) hown (mvT hZ (hw _ (mw 21 rfl))) (mvT hZ (hw _ (mw 22 rfl))) (notFace_of_selects (args := #[]) (mvT hZ (hw _ (mw 24 rfl)))) (mvT hZ (hw _ (mw 24 rfl))) (mvT hZ (hw _ (mw 23 rfl))) (by decide) (backOf (W := 0) (rmes1 l Z a0 hw [] b1 vf_3 vr_3 vt_3 (2 : Int32) (0 : Int32) (2 : Int32) (0 : Int32) T101.heap n0 f102 f104 P101_0 P101_1 P101_2 P101_3 P101_4 P101_5 g_b1 g_vf_3 ne_b1_vf_3) hZ (hw _ (mw 25 rfl)) (hw _ (mw 3 rfl)) (by decide) (by decide)) q109a q109c (g := (mkF m 78 #[.val (.int v0), .val (.int v1), .val (.int v2), .val (.int v3), .val (.int (2 : Int32)), .val (.int (0 : Int32)), .val (.ref b1), .val (.int (1 : Int32))] [(.ref b1)])) rfl (by rw [hml]; rfl) (Steps.refl _) (argsL := []) (rest := []) (lenOf pd_1 rfl) rfl (by show 2 * 0 + _ ≤ _; exact Nat.le_of_eq rfl) (hb hby at_78) (fun _ _ => ⟨rfl, e108, (by decide : 4 + 0 ≤ _), (by decide : 12 + 0 ≤ _)⟩)
      dsimp only [Pt.U, Pt.locs, Pt.cells, Pt.slots] at X109 l109 y109 z109 st109 hQ109
      subst l109 y109 z109
      obtain ⟨rfl, N109q, K109, P109_0, P109_1, P109_2, P109_3, P109_4, P109_5⟩ := hQ109
      have N109 := Fr.app N108 N109q
      refine Goal.tr (B := T109.setTop (mkF m 81 #[.val (.int v0), .val (.int v1), .val (.int v2), .val (.int v3), .val (.int (2 : Int32)), .val (.int (0 : Int32)), .val (.ref b1), .val (.int (1 : Int32))] [])) st109 ?_
      refine Goal.to (B := T109.setTop (mkF m 89 #[.val (.int v0), .val (.int v1), .val (.int v2), .val (.int v3), .val (.int (2 : Int32)), .val (.int (0 : Int32)), .val (.ref b1), .val (.int (1 : Int32))] [(.int (0 : Int32)), (.ref b1)])) (fun tt kk => ?_) ?_
      · show Steps p.tables e below (T109.setTop (mkF m 81 #[.val (.int v0), .val (.int v1), .val (.int v2), .val (.int v3), .val (.int (2 : Int32)), .val (.int (0 : Int32)), .val (.ref b1), .val (.int (1 : Int32))] [])) tt
        refine XS.iload X109.here hx rfl (hb hby at_81) rfl ?_
        show Steps p.tables e below (T109.setTop (mkF m 83 #[.val (.int v0), .val (.int v1), .val (.int v2), .val (.int v3), .val (.int (2 : Int32)), .val (.int (0 : Int32)), .val (.ref b1), .val (.int (1 : Int32))] [(.int (1 : Int32))])) tt
        refine XS.ifNo X109.here hx rfl (hb hby at_83) rfl ((if0 _ _).trans (feq ((by decide) : ¬ ((1 : Int32) = (0 : Int32)))).1) ?_
        show Steps p.tables e below (T109.setTop (mkF m 86 #[.val (.int v0), .val (.int v1), .val (.int v2), .val (.int v3), .val (.int (2 : Int32)), .val (.int (0 : Int32)), .val (.ref b1), .val (.int (1 : Int32))] [])) tt
        refine XS.aload X109.here hx rfl (hb hby at_86) rfl rfl ?_
        show Steps p.tables e below (T109.setTop (mkF m 88 #[.val (.int v0), .val (.int v1), .val (.int v2), .val (.int v3), .val (.int (2 : Int32)), .val (.int (0 : Int32)), .val (.ref b1), .val (.int (1 : Int32))] [(.ref b1)])) tt
        refine XS.iconst X109.here hx rfl (hb hby at_88) ?_
        exact kk
      have f110 : n0 ≤ T109.heap.size := (Nat.le_trans f102 K109.1)
      have f112 : Exa Z T109.heap b1 "com/example/pattern_automaton/patternautomaton/NonZeroTransitions" := (f104.keep K109)
      obtain ⟨cq111, kq111, q111a, q111b, q111c⟩ := isOf hZ rfl f112
      obtain ⟨_, _, ⟨T111, L111, k111, n111⟩, -, X111, ⟨Lc111, hQ111, l111, y111, z111⟩, st111⟩ := X109.virtualBack hx (y := (⟨"com/example/pattern_automaton/patternautomaton/NonZeroTransitions", "first", "(I)I"⟩ : MethodName)) (z := (⟨"com/example/pattern_automaton/patternautomaton/NonZeroTransitions", "first", "(I)I"⟩ : MethodName)) hown (mvT hZ (hw _ (mw 30 rfl))) (mvT hZ (hw _ (mw 31 rfl))) (notFace_of_selects (args := #[]) (mvT hZ (hw _ (mw 33 rfl)))) (mvT hZ (hw _ (mw 33 rfl))) (mvT hZ (hw _ (mw 32 rfl))) (by decide) (backOf (W := 0) (rmfi0 l Z a0 hw [] b1 vf_3 (0 : Int32) (2 : Int32) (2 : Int32) T109.heap n0 f110 P109_0 P109_5) hZ (hw _ (mw 34 rfl)) (hw _ (mw 3 rfl)) (by decide) (by decide)) q111a q111c (g := (mkF m 89 #[.val (.int v0), .val (.int v1), .val (.int v2), .val (.int v3), .val (.int (2 : Int32)), .val (.int (0 : Int32)), .val (.ref b1), .val (.int (1 : Int32))] [(.int (0 : Int32)), (.ref b1)])) rfl (by rw [hml]; rfl) (Steps.refl _) (argsL := [(.int (0 : Int32))]) (rest := []) (lenOf pd_3 rfl) rfl (by show 2 * 0 + _ ≤ _; exact Nat.le_of_eq rfl) (hb hby at_89) (fun _ _ => ⟨rfl, rfl, (by decide : 4 + 0 ≤ _), (by decide : 12 + 0 ≤ _)⟩)
      dsimp only [Pt.U, Pt.locs, Pt.cells, Pt.slots] at X111 l111 y111 z111 st111 hQ111
      subst l111 y111 z111
      obtain ⟨rfl, N111q, e111⟩ := hQ111
      have N111 := Fr.app N109 N111q
      refine Goal.tr (B := T111.setTop (mkF m 92 #[.val (.int v0), .val (.int v1), .val (.int v2), .val (.int v3), .val (.int (2 : Int32)), .val (.int (0 : Int32)), .val (.ref b1), .val (.int (1 : Int32))] [(.int (0 : Int32))])) st111 ?_
      refine Goal.to (B := T111.setTop (mkF m 98 #[.val (.int v0), .val (.int v1), .val (.int v2), .val (.int v3), .val (.int (2 : Int32)), .val (.int (0 : Int32)), .val (.ref b1), .val (.int (1 : Int32))] [(.int (0 : Int32)), (.ref b1)])) (fun tt kk => ?_) ?_
      · show Steps p.tables e below (T111.setTop (mkF m 92 #[.val (.int v0), .val (.int v1), .val (.int v2), .val (.int v3), .val (.int (2 : Int32)), .val (.int (0 : Int32)), .val (.ref b1), .val (.int (1 : Int32))] [(.int (0 : Int32))])) tt
        refine XS.ifNo X111.here hx rfl (hb hby at_92) rfl ((if0 _ _).trans (teq (rfl : (0 : Int32) = (0 : Int32))).2) ?_
        show Steps p.tables e below (T111.setTop (mkF m 95 #[.val (.int v0), .val (.int v1), .val (.int v2), .val (.int v3), .val (.int (2 : Int32)), .val (.int (0 : Int32)), .val (.ref b1), .val (.int (1 : Int32))] [])) tt
        refine XS.aload X111.here hx rfl (hb hby at_95) rfl rfl ?_
        show Steps p.tables e below (T111.setTop (mkF m 97 #[.val (.int v0), .val (.int v1), .val (.int v2), .val (.int v3), .val (.int (2 : Int32)), .val (.int (0 : Int32)), .val (.ref b1), .val (.int (1 : Int32))] [(.ref b1)])) tt
        refine XS.iconst X111.here hx rfl (hb hby at_97) ?_
        exact kk
      obtain ⟨cq113, kq113, q113a, q113b, q113c⟩ := isOf hZ e111 f112
      obtain ⟨_, _, ⟨T113, L113, k113, n113⟩, -, X113, ⟨Lc113, hQ113, l113, y113, z113⟩, st113⟩ := X111.virtualBack hx (y := (⟨"com/example/pattern_automaton/patternautomaton/NonZeroTransitions", "end", "(I)I"⟩ : MethodName)) (z := (⟨"com/example/pattern_automaton/patternautomaton/NonZeroTransitions", "end", "(I)I"⟩ : MethodName)) hown (mvT hZ (hw _ (mw 35 rfl))) (mvT hZ (hw _ (mw 36 rfl))) (notFace_of_selects (args := #[]) (mvT hZ (hw _ (mw 38 rfl)))) (mvT hZ (hw _ (mw 38 rfl))) (mvT hZ (hw _ (mw 37 rfl))) (by decide) (backOf (W := 0) (rmen0 l Z a0 hw [] b1 vf_3 (0 : Int32) (2 : Int32) (2 : Int32) T109.heap n0 f110 P109_0 P109_5) hZ (hw _ (mw 39 rfl)) (hw _ (mw 3 rfl)) (by decide) (by decide)) q113a q113c (g := (mkF m 98 #[.val (.int v0), .val (.int v1), .val (.int v2), .val (.int v3), .val (.int (2 : Int32)), .val (.int (0 : Int32)), .val (.ref b1), .val (.int (1 : Int32))] [(.int (0 : Int32)), (.ref b1)])) rfl (by rw [hml]; rfl) (Steps.refl _) (argsL := [(.int (0 : Int32))]) (rest := []) (lenOf pd_3 rfl) rfl (by show 2 * 0 + _ ≤ _; exact Nat.le_of_eq rfl) (hb hby at_98) (fun _ _ => ⟨rfl, e111, (by decide : 4 + 0 ≤ _), (by decide : 12 + 0 ≤ _)⟩)
      dsimp only [Pt.U, Pt.locs, Pt.cells, Pt.slots] at X113 l113 y113 z113 st113 hQ113
      subst l113 y113 z113
      obtain ⟨rfl, N113q, e113⟩ := hQ113
      have N113 := Fr.app N111 N113q
      refine Goal.tr (B := T113.setTop (mkF m 101 #[.val (.int v0), .val (.int v1), .val (.int v2), .val (.int v3), .val (.int (2 : Int32)), .val (.int (0 : Int32)), .val (.ref b1), .val (.int (1 : Int32))] [(.int (2 : Int32))])) st113 ?_
      refine Goal.to (B := T113.setTop (mkF m 109 #[.val (.int v0), .val (.int v1), .val (.int v2), .val (.int v3), .val (.int (2 : Int32)), .val (.int (0 : Int32)), .val (.ref b1), .val (.int (1 : Int32))] [(.int (1 : Int32)), (.ref b1)])) (fun tt kk => ?_) ?_
      · show Steps p.tables e below (T113.setTop (mkF m 101 #[.val (.int v0), .val (.int v1), .val (.int v2), .val (.int v3), .val (.int (2 : Int32)), .val (.int (0 : Int32)), .val (.ref b1), .val (.int (1 : Int32))] [(.int (2 : Int32))])) tt
        refine XS.iload X113.here hx rfl (hb hby at_101) rfl ?_
        show Steps p.tables e below (T113.setTop (mkF m 103 #[.val (.int v0), .val (.int v1), .val (.int v2), .val (.int v3), .val (.int (2 : Int32)), .val (.int (0 : Int32)), .val (.ref b1), .val (.int (1 : Int32))] [(.int (2 : Int32)), (.int (2 : Int32))])) tt
        refine XS.icmpNo X113.here hx rfl (hb hby at_103) rfl (teq (rfl : (2 : Int32) = (2 : Int32))).2 ?_
        show Steps p.tables e below (T113.setTop (mkF m 106 #[.val (.int v0), .val (.int v1), .val (.int v2), .val (.int v3), .val (.int (2 : Int32)), .val (.int (0 : Int32)), .val (.ref b1), .val (.int (1 : Int32))] [])) tt
        refine XS.aload X113.here hx rfl (hb hby at_106) rfl rfl ?_
        show Steps p.tables e below (T113.setTop (mkF m 108 #[.val (.int v0), .val (.int v1), .val (.int v2), .val (.int v3), .val (.int (2 : Int32)), .val (.int (0 : Int32)), .val (.ref b1), .val (.int (1 : Int32))] [(.ref b1)])) tt
        refine XS.iconst X113.here hx rfl (hb hby at_108) ?_
        exact kk
      obtain ⟨cq114, kq114, q114a, q114b, q114c⟩ := isOf hZ e113 f112
      obtain ⟨_, _, ⟨T114, L114, k114, n114⟩, -, X114, ⟨Lc114, hQ114, l114, y114, z114⟩, st114⟩ := X113.virtualBack hx (y := (⟨"com/example/pattern_automaton/patternautomaton/NonZeroTransitions", "first", "(I)I"⟩ : MethodName)) (z := (⟨"com/example/pattern_automaton/patternautomaton/NonZeroTransitions", "first", "(I)I"⟩ : MethodName)) hown (mvT hZ (hw _ (mw 30 rfl))) (mvT hZ (hw _ (mw 31 rfl))) (notFace_of_selects (args := #[]) (mvT hZ (hw _ (mw 33 rfl)))) (mvT hZ (hw _ (mw 33 rfl))) (mvT hZ (hw _ (mw 32 rfl))) (by decide) (backOf (W := 0) (rmfi1 l Z a0 hw [] b1 vf_3 (0 : Int32) (2 : Int32) (2 : Int32) T109.heap n0 f110 P109_0 P109_5) hZ (hw _ (mw 34 rfl)) (hw _ (mw 3 rfl)) (by decide) (by decide)) q114a q114c (g := (mkF m 109 #[.val (.int v0), .val (.int v1), .val (.int v2), .val (.int v3), .val (.int (2 : Int32)), .val (.int (0 : Int32)), .val (.ref b1), .val (.int (1 : Int32))] [(.int (1 : Int32)), (.ref b1)])) rfl (by rw [hml]; rfl) (Steps.refl _) (argsL := [(.int (1 : Int32))]) (rest := []) (lenOf pd_3 rfl) rfl (by show 2 * 0 + _ ≤ _; exact Nat.le_of_eq rfl) (hb hby at_109) (fun _ _ => ⟨rfl, e113, (by decide : 4 + 0 ≤ _), (by decide : 12 + 0 ≤ _)⟩)
      dsimp only [Pt.U, Pt.locs, Pt.cells, Pt.slots] at X114 l114 y114 z114 st114 hQ114
      subst l114 y114 z114
      obtain ⟨rfl, N114q, e114⟩ := hQ114
      have N114 := Fr.app N113 N114q
      refine Goal.tr (B := T114.setTop (mkF m 112 #[.val (.int v0), .val (.int v1), .val (.int v2), .val (.int v3), .val (.int (2 : Int32)), .val (.int (0 : Int32)), .val (.ref b1), .val (.int (1 : Int32))] [(.int (2 : Int32))])) st114 ?_
      refine Goal.to (B := T114.setTop (mkF m 120 #[.val (.int v0), .val (.int v1), .val (.int v2), .val (.int v3), .val (.int (2 : Int32)), .val (.int (0 : Int32)), .val (.ref b1), .val (.int (1 : Int32))] [(.int (1 : Int32)), (.ref b1)])) (fun tt kk => ?_) ?_
      · show Steps p.tables e below (T114.setTop (mkF m 112 #[.val (.int v0), .val (.int v1), .val (.int v2), .val (.int v3), .val (.int (2 : Int32)), .val (.int (0 : Int32)), .val (.ref b1), .val (.int (1 : Int32))] [(.int (2 : Int32))])) tt
        refine XS.iload X114.here hx rfl (hb hby at_112) rfl ?_
        show Steps p.tables e below (T114.setTop (mkF m 114 #[.val (.int v0), .val (.int v1), .val (.int v2), .val (.int v3), .val (.int (2 : Int32)), .val (.int (0 : Int32)), .val (.ref b1), .val (.int (1 : Int32))] [(.int (2 : Int32)), (.int (2 : Int32))])) tt
        refine XS.icmpNo X114.here hx rfl (hb hby at_114) rfl (teq (rfl : (2 : Int32) = (2 : Int32))).2 ?_
        show Steps p.tables e below (T114.setTop (mkF m 117 #[.val (.int v0), .val (.int v1), .val (.int v2), .val (.int v3), .val (.int (2 : Int32)), .val (.int (0 : Int32)), .val (.ref b1), .val (.int (1 : Int32))] [])) tt
        refine XS.aload X114.here hx rfl (hb hby at_117) rfl rfl ?_
        show Steps p.tables e below (T114.setTop (mkF m 119 #[.val (.int v0), .val (.int v1), .val (.int v2), .val (.int v3), .val (.int (2 : Int32)), .val (.int (0 : Int32)), .val (.ref b1), .val (.int (1 : Int32))] [(.ref b1)])) tt
        refine XS.iconst X114.here hx rfl (hb hby at_119) ?_
        exact kk
      obtain ⟨cq115, kq115, q115a, q115b, q115c⟩ := isOf hZ e114 f112
      obtain ⟨_, _, ⟨T115, L115, k115, n115⟩, -, X115, ⟨Lc115, hQ115, l115, y115, z115⟩, st115⟩ := X114.virtualBack hx (y := (⟨"com/example/pattern_automaton/patternautomaton/NonZeroTransitions", "end", "(I)I"⟩ : MethodName)) (z := (⟨"com/example/pattern_automaton/patternautomaton/NonZeroTransitions", "end", "(I)I"⟩ : MethodName)) hown (mvT hZ (hw _ (mw 35 rfl))) (mvT hZ (hw _ (mw 36 rfl))) (notFace_of_selects (args := #[]) (mvT hZ (hw _ (mw 38 rfl)))) (mvT hZ (hw _ (mw 38 rfl))) (mvT hZ (hw _ (mw 37 rfl))) (by decide) (backOf (W := 0) (rmen1 l Z a0 hw [] b1 vf_3 (0 : Int32) (2 : Int32) (2 : Int32) T109.heap n0 f110 P109_0 P109_5) hZ (hw _ (mw 39 rfl)) (hw _ (mw 3 rfl)) (by decide) (by decide)) q115a q115c (g := (mkF m 120 #[.val (.int v0), .val (.int v1), .val (.int v2), .val (.int v3), .val (.int (2 : Int32)), .val (.int (0 : Int32)), .val (.ref b1), .val (.int (1 : Int32))] [(.int (1 : Int32)), (.ref b1)])) rfl (by rw [hml]; rfl) (Steps.refl _) (argsL := [(.int (1 : Int32))]) (rest := []) (lenOf pd_3 rfl) rfl (by show 2 * 0 + _ ≤ _; exact Nat.le_of_eq rfl) (hb hby at_120) (fun _ _ => ⟨rfl, e114, (by decide : 4 + 0 ≤ _), (by decide : 12 + 0 ≤ _)⟩)
      dsimp only [Pt.U, Pt.locs, Pt.cells, Pt.slots] at X115 l115 y115 z115 st115 hQ115
      subst l115 y115 z115
      obtain ⟨rfl, N115q, e115⟩ := hQ115
      have N115 := Fr.app N114 N115q
      refine Goal.tr (B := T115.setTop (mkF m 123 #[.val (.int v0), .val (.int v1), .val (.int v2), .val (.int v3), .val (.int (2 : Int32)), .val (.int (0 : Int32)), .val (.ref b1), .val (.int (1 : Int32))] [(.int (2 : Int32))])) st115 ?_
      refine Goal.to (B := T115.setTop (mkF m 136 #[.val (.int v0), .val (.int v1), .val (.int v2), .val (.int v3), .val (.int (2 : Int32)), .val (.int (0 : Int32)), .val (.ref b1), .val (.int (1 : Int32))] [(.int (1 : Int32))])) (fun tt kk => ?_) ?_
      · show Steps p.tables e below (T115.setTop (mkF m 123 #[.val (.int v0), .val (.int v1), .val (.int v2), .val (.int v3), .val (.int (2 : Int32)), .val (.int (0 : Int32)), .val (.ref b1), .val (.int (1 : Int32))] [(.int (2 : Int32))])) tt
        refine XS.iload X115.here hx rfl (hb hby at_123) rfl ?_
        show Steps p.tables e below (T115.setTop (mkF m 125 #[.val (.int v0), .val (.int v1), .val (.int v2), .val (.int v3), .val (.int (2 : Int32)), .val (.int (0 : Int32)), .val (.ref b1), .val (.int (1 : Int32))] [(.int (2 : Int32)), (.int (2 : Int32))])) tt
        refine XS.iload X115.here hx rfl (hb hby at_125) rfl ?_
        show Steps p.tables e below (T115.setTop (mkF m 127 #[.val (.int v0), .val (.int v1), .val (.int v2), .val (.int v3), .val (.int (2 : Int32)), .val (.int (0 : Int32)), .val (.ref b1), .val (.int (1 : Int32))] [(.int (0 : Int32)), (.int (2 : Int32)), (.int (2 : Int32))])) tt
        refine XS.iadd X115.here hx rfl (hb hby at_127) rfl ?_
        show Steps p.tables e below (T115.setTop (mkF m 128 #[.val (.int v0), .val (.int v1), .val (.int v2), .val (.int v3), .val (.int (2 : Int32)), .val (.int (0 : Int32)), .val (.ref b1), .val (.int (1 : Int32))] [(.int (2 : Int32)), (.int (2 : Int32))])) tt
        refine XS.icmpNo X115.here hx rfl (hb hby at_128) rfl (teq (rfl : (2 : Int32) = (2 : Int32))).2 ?_
        show Steps p.tables e below (T115.setTop (mkF m 131 #[.val (.int v0), .val (.int v1), .val (.int v2), .val (.int v3), .val (.int (2 : Int32)), .val (.int (0 : Int32)), .val (.ref b1), .val (.int (1 : Int32))] [])) tt
        refine XS.iconst X115.here hx rfl (hb hby at_131) ?_
        show Steps p.tables e below (T115.setTop (mkF m 132 #[.val (.int v0), .val (.int v1), .val (.int v2), .val (.int v3), .val (.int (2 : Int32)), .val (.int (0 : Int32)), .val (.ref b1), .val (.int (1 : Int32))] [(.int (1 : Int32))])) tt
        refine XS.goto X115.here hx rfl (pc0 := 132) (pc' := 136) rfl (hb hby at_132) (by decide) (by decide) ?_
        exact kk
      exact Goal.retV X115 hx Bd.returns rfl (Or.inl ⟨rfl, Or.inr (Or.inl rfl), _, rfl⟩) (hb hby at_136) hlk e115 ⟨rfl, N115⟩ (by decide) (by decide)
    · refine Goal.to (B := T105.setTop (mkF m 73 #[.val (.int v0), .val (.int v1), .val (.int v2), .val (.int v3), .val (.int (2 : Int32)), .val (.int (1 : Int32)), .val (.ref b1), .val (.int (1 : Int32))] [(.int v3), (.int v2), (.int (1 : Int32)), (.ref b1)])) (fun tt kk => ?_) ?_
      · show Steps p.tables e below (T105.setTop (mkF m 67 #[.val (.int v0), .val (.int v1), .val (.int v2), .val (.int v3), .val (.int (2 : Int32)), .val (.int (1 : Int32)), .val (.ref b1), .val (.int (1 : Int32))] [])) tt
        refine XS.aload X105.here hx rfl (hb hby at_67) rfl rfl ?_
        show Steps p.tables e below (T105.setTop (mkF m 69 #[.val (.int v0), .val (.int v1), .val (.int v2), .val (.int v3), .val (.int (2 : Int32)), .val (.int (1 : Int32)), .val (.ref b1), .val (.int (1 : Int32))] [(.ref b1)])) tt
        refine XS.iload X105.here hx rfl (hb hby at_69) rfl ?_
        show Steps p.tables e below (T105.setTop (mkF m 71 #[.val (.int v0), .val (.int v1), .val (.int v2), .val (.int v3), .val (.int (2 : Int32)), .val (.int (1 : Int32)), .val (.ref b1), .val (.int (1 : Int32))] [(.int (1 : Int32)), (.ref b1)])) tt
        refine XS.iloadN X105.here hx rfl (hb hby at_71) rfl ?_
        show Steps p.tables e below (T105.setTop (mkF m 72 #[.val (.int v0), .val (.int v1), .val (.int v2), .val (.int v3), .val (.int (2 : Int32)), .val (.int (1 : Int32)), .val (.ref b1), .val (.int (1 : Int32))] [(.int v2), (.int (1 : Int32)), (.ref b1)])) tt
        refine XS.iloadN X105.here hx rfl (hb hby at_72) rfl ?_
        exact kk
      have f116 : Ary Z T101.heap vr_3 .int [(.int v2), (.int (v2 + (1 : Int32)))] := (P97_5.keep K101 (ninS (Ne.symm ne_b1_vr_3) (ninS (Ne.symm ne3_vf_vr) nin0)))
      have f117 : Ary Z T101.heap vt_3 .int [(.int v3), (.int v3)] := (P97_6.keep K101 (ninS (Ne.symm ne_b1_vt_3) (ninS (Ne.symm ne3_vf_vt) nin0)))
      obtain ⟨_, _, ⟨T118, L118, k118, n118⟩, -, X118, ⟨Lc118, hQ118, l118, y118, z118⟩, st118⟩ := Jvm.LawKit.callS X105 hx (y := (⟨"com/example/pattern_automaton/patternautomaton/NonZeroTransitionsEndStatePinLaw", "addN", "(Lcom/example/pattern_automaton/patternautomaton/NonZeroTransitions;III)V"⟩ : MethodName)) hown (mvT hZ (hw _ (mw 17 rfl))) (mvT hZ (hw _ (mw 18 rfl))) (mvT hZ (hw _ (mw 19 rfl))) (mvT hZ (hw _ (mw 20 rfl))) (by decide) (backOf (W := 0) (rman21 l Z a0 hw [] b1 vf_3 vr_3 vt_3 (1 : Int32) v2 (v2 + (1 : Int32)) v3 v3 v2 v3 T101.heap n0 f102 f104 P101_0 P101_1 P101_2 P101_3 P101_4 f116 f117 g_b1 g_vr_3 g_vt_3 ne_b1_vr_3 ne_b1_vt_3 ne3_vr_vt) hZ (hw _ (mw 20 rfl)) (hw _ (mw 19 rfl)) (by decide) (by decide)) (g := (mkF m 73 #[.val (.int v0), .val (.int v1), .val (.int v2), .val (.int v3), .val (.int (2 : Int32)), .val (.int (1 : Int32)), .val (.ref b1), .val (.int (1 : Int32))] [(.int v3), (.int v2), (.int (1 : Int32)), (.ref b1)])) rfl (by rw [hml]; rfl) (argsL := [(.ref b1), (.int (1 : Int32)), (.int v2), (.int v3)]) (rest := []) (lenOf pd_2 rfl) rfl (by show 2 * 0 + _ ≤ _; exact Nat.le_of_eq rfl) (hb hby at_73) (fun _ _ => ⟨rfl, e105, (by decide : 4 + 2 ≤ _), (by decide : 12 + 8 ≤ _)⟩)
      dsimp only [Pt.U, Pt.locs, Pt.cells, Pt.slots] at X118 l118 y118 z118 st118 hQ118
      subst l118 y118 z118
      obtain ⟨vb_118, vd_118, rfl, N118q, K118, sz118_vb, sz118_vd, ne118_vb_vd, P118_0, P118_1, P118_2, P118_3, P118_4, P118_5, P118_6⟩ := hQ118
      have N118 := Fr.app N105 N118q
      have ne_b1_vb_118 : b1 ≠ vb_118 := Nat.ne_of_lt (Nat.lt_of_lt_of_le f104.lt sz118_vb)
      have ne_vf_3_vb_118 : vf_3 ≠ vb_118 := Nat.ne_of_lt (Nat.lt_of_lt_of_le P101_5.lt sz118_vb)
      have ne_vr_3_vb_118 : vr_3 ≠ vb_118 := Nat.ne_of_lt (Nat.lt_of_lt_of_le f116.lt sz118_vb)
      have ne_vt_3_vb_118 : vt_3 ≠ vb_118 := Nat.ne_of_lt (Nat.lt_of_lt_of_le f117.lt sz118_vb)
      have g_vb_118 : n0 ≤ vb_118 := Nat.le_trans f102 sz118_vb
      have ne_b1_vd_118 : b1 ≠ vd_118 := Nat.ne_of_lt (Nat.lt_of_lt_of_le f104.lt sz118_vd)
      have ne_vf_3_vd_118 : vf_3 ≠ vd_118 := Nat.ne_of_lt (Nat.lt_of_lt_of_le P101_5.lt sz118_vd)
      have ne_vr_3_vd_118 : vr_3 ≠ vd_118 := Nat.ne_of_lt (Nat.lt_of_lt_of_le f116.lt sz118_vd)
      have ne_vt_3_vd_118 : vt_3 ≠ vd_118 := Nat.ne_of_lt (Nat.lt_of_lt_of_le f117.lt sz118_vd)
      have g_vd_118 : n0 ≤ vd_118 := Nat.le_trans f102 sz118_vd
      refine Goal.to (B := T118.setTop (mkF m 76 #[.val (.int v0), .val (.int v1), .val (.int v2), .val (.int v3), .val (.int (2 : Int32)), .val (.int (1 : Int32)), .val (.ref b1), .val (.int (1 : Int32))] [])) st118 ?_
      refine Goal.to (B := T118.setTop (mkF m 78 #[.val (.int v0), .val (.int v1), .val (.int v2), .val (.int v3), .val (.int (2 : Int32)), .val (.int (1 : Int32)), .val (.ref b1), .val (.int (1 : Int32))] [(.ref b1)])) (fun tt kk => ?_) ?_
      · show Steps p.tables e below (T118.setTop (mkF m 76 #[.val (.int v0), .val (.int v1), .val (.int v2), .val (.int v3), .val (.int (2 : Int32)), .val (.int (1 : Int32)), .val (.ref b1), .val (.int (1 : Int32))] [])) tt
        refine XS.aload X118.here hx rfl (hb hby at_76) rfl rfl ?_
        exact kk
      have f119 : Exa Z T118.heap b1 "com/example/pattern_automaton/patternautomaton/NonZeroTransitions" := (f104.keep K118)
      have f120 : Ary Z T118.heap vf_3 .int [(.int (0 : Int32)), (.int (2 : Int32)), (.int (0 : Int32))] := (P101_5.keep K118 (ninS (Ne.symm ne_b1_vf_3) nin0))
      have f121 : n0 ≤ T118.heap.size := (Nat.le_trans f102 K118.1)
      obtain ⟨cq122, kq122, q122a, q122b, q122c⟩ := isOf hZ rfl f119
      obtain ⟨_, _, ⟨T122, L122, k122, n122⟩, -, X122, ⟨Lc122, hQ122, l122, y122, z122⟩, st122⟩ := X118.virtualBack hx (y := (⟨"com/example/pattern_automaton/patternautomaton/NonZeroTransitions", "endState", "()V"⟩ : MethodName)) (z := (⟨"com/example/pattern_automaton/patternautomaton/NonZeroTransitions", "endState", "()V"⟩ : MethodName)) hown (mvT hZ (hw _ (mw 21 rfl))) (mvT hZ (hw _ (mw 22 rfl))) (notFace_of_selects (args := #[]) (mvT hZ (hw _ (mw 24 rfl)))) (mvT hZ (hw _ (mw 24 rfl))) (mvT hZ (hw _ (mw 23 rfl))) (by decide) (backOf (W := 0) (rmes1 l Z a0 hw [] b1 vf_3 vb_118 vd_118 (3 : Int32) (0 : Int32) (2 : Int32) (0 : Int32) T118.heap n0 f121 f119 P118_0 P118_1 P118_2 P118_3 P118_4 f120 g_b1 g_vf_3 ne_b1_vf_3) hZ (hw _ (mw 25 rfl)) (hw _ (mw 3 rfl)) (by decide) (by decide)) q122a q122c (g := (mkF m 78 #[.val (.int v0), .val (.int v1), .val (.int v2), .val (.int v3), .val (.int (2 : Int32)), .val (.int (1 : Int32)), .val (.ref b1), .val (.int (1 : Int32))] [(.ref b1)])) rfl (by rw [hml]; rfl) (Steps.refl _) (argsL := []) (rest := []) (lenOf pd_1 rfl) rfl (by show 2 * 0 + _ ≤ _; exact Nat.le_of_eq rfl) (hb hby at_78) (fun _ _ => ⟨rfl, rfl, (by decide : 6 + 0 ≤ _), (by decide : 20 + 0 ≤ _)⟩)
      dsimp only [Pt.U, Pt.locs, Pt.cells, Pt.slots] at X122 l122 y122 z122 st122 hQ122
      subst l122 y122 z122
      obtain ⟨rfl, N122q, K122, P122_0, P122_1, P122_2, P122_3, P122_4, P122_5⟩ := hQ122
      have N122 := Fr.app N118 N122q
      refine Goal.tr (B := T122.setTop (mkF m 81 #[.val (.int v0), .val (.int v1), .val (.int v2), .val (.int v3), .val (.int (2 : Int32)), .val (.int (1 : Int32)), .val (.ref b1), .val (.int (1 : Int32))] [])) st122 ?_
      refine Goal.to (B := T122.setTop (mkF m 89 #[.val (.int v0), .val (.int v1), .val (.int v2), .val (.int v3), .val (.int (2 : Int32)), .val (.int (1 : Int32)), .val (.ref b1), .val (.int (1 : Int32))] [(.int (0 : Int32)), (.ref b1)])) (fun tt kk => ?_) ?_
      · show Steps p.tables e below (T122.setTop (mkF m 81 #[.val (.int v0), .val (.int v1), .val (.int v2), .val (.int v3), .val (.int (2 : Int32)), .val (.int (1 : Int32)), .val (.ref b1), .val (.int (1 : Int32))] [])) tt
        refine XS.iload X122.here hx rfl (hb hby at_81) rfl ?_
        show Steps p.tables e below (T122.setTop (mkF m 83 #[.val (.int v0), .val (.int v1), .val (.int v2), .val (.int v3), .val (.int (2 : Int32)), .val (.int (1 : Int32)), .val (.ref b1), .val (.int (1 : Int32))] [(.int (1 : Int32))])) tt
        refine XS.ifNo X122.here hx rfl (hb hby at_83) rfl ((if0 _ _).trans (feq ((by decide) : ¬ ((1 : Int32) = (0 : Int32)))).1) ?_
        show Steps p.tables e below (T122.setTop (mkF m 86 #[.val (.int v0), .val (.int v1), .val (.int v2), .val (.int v3), .val (.int (2 : Int32)), .val (.int (1 : Int32)), .val (.ref b1), .val (.int (1 : Int32))] [])) tt
        refine XS.aload X122.here hx rfl (hb hby at_86) rfl rfl ?_
        show Steps p.tables e below (T122.setTop (mkF m 88 #[.val (.int v0), .val (.int v1), .val (.int v2), .val (.int v3), .val (.int (2 : Int32)), .val (.int (1 : Int32)), .val (.ref b1), .val (.int (1 : Int32))] [(.ref b1)])) tt
        refine XS.iconst X122.here hx rfl (hb hby at_88) ?_
        exact kk
      have f123 : n0 ≤ T122.heap.size := (Nat.le_trans f121 K122.1)
      have f125 : Exa Z T122.heap b1 "com/example/pattern_automaton/patternautomaton/NonZeroTransitions" := (f119.keep K122)
      obtain ⟨cq124, kq124, q124a, q124b, q124c⟩ := isOf hZ rfl f125
      obtain ⟨_, _, ⟨T124, L124, k124, n124⟩, -, X124, ⟨Lc124, hQ124, l124, y124, z124⟩, st124⟩ := X122.virtualBack hx (y := (⟨"com/example/pattern_automaton/patternautomaton/NonZeroTransitions", "first", "(I)I"⟩ : MethodName)) (z := (⟨"com/example/pattern_automaton/patternautomaton/NonZeroTransitions", "first", "(I)I"⟩ : MethodName)) hown (mvT hZ (hw _ (mw 30 rfl))) (mvT hZ (hw _ (mw 31 rfl))) (notFace_of_selects (args := #[]) (mvT hZ (hw _ (mw 33 rfl)))) (mvT hZ (hw _ (mw 33 rfl))) (mvT hZ (hw _ (mw 32 rfl))) (by decide) (backOf (W := 0) (rmfi0 l Z a0 hw [] b1 vf_3 (0 : Int32) (2 : Int32) (3 : Int32) T122.heap n0 f123 P122_0 P122_5) hZ (hw _ (mw 34 rfl)) (hw _ (mw 3 rfl)) (by decide) (by decide)) q124a q124c (g := (mkF m 89 #[.val (.int v0), .val (.int v1), .val (.int v2), .val (.int v3), .val (.int (2 : Int32)), .val (.int (1 : Int32)), .val (.ref b1), .val (.int (1 : Int32))] [(.int (0 : Int32)), (.ref b1)])) rfl (by rw [hml]; rfl) (Steps.refl _) (argsL := [(.int (0 : Int32))]) (rest := []) (lenOf pd_3 rfl) rfl (by show 2 * 0 + _ ≤ _; exact Nat.le_of_eq rfl) (hb hby at_89) (fun _ _ => ⟨rfl, rfl, (by decide : 6 + 0 ≤ _), (by decide : 20 + 0 ≤ _)⟩)
      dsimp only [Pt.U, Pt.locs, Pt.cells, Pt.slots] at X124 l124 y124 z124 st124 hQ124
      subst l124 y124 z124
      obtain ⟨rfl, N124q, e124⟩ := hQ124
      have N124 := Fr.app N122 N124q
      refine Goal.tr (B := T124.setTop (mkF m 92 #[.val (.int v0), .val (.int v1), .val (.int v2), .val (.int v3), .val (.int (2 : Int32)), .val (.int (1 : Int32)), .val (.ref b1), .val (.int (1 : Int32))] [(.int (0 : Int32))])) st124 ?_
      refine Goal.to (B := T124.setTop (mkF m 98 #[.val (.int v0), .val (.int v1), .val (.int v2), .val (.int v3), .val (.int (2 : Int32)), .val (.int (1 : Int32)), .val (.ref b1), .val (.int (1 : Int32))] [(.int (0 : Int32)), (.ref b1)])) (fun tt kk => ?_) ?_
      · show Steps p.tables e below (T124.setTop (mkF m 92 #[.val (.int v0), .val (.int v1), .val (.int v2), .val (.int v3), .val (.int (2 : Int32)), .val (.int (1 : Int32)), .val (.ref b1), .val (.int (1 : Int32))] [(.int (0 : Int32))])) tt
        refine XS.ifNo X124.here hx rfl (hb hby at_92) rfl ((if0 _ _).trans (teq (rfl : (0 : Int32) = (0 : Int32))).2) ?_
        show Steps p.tables e below (T124.setTop (mkF m 95 #[.val (.int v0), .val (.int v1), .val (.int v2), .val (.int v3), .val (.int (2 : Int32)), .val (.int (1 : Int32)), .val (.ref b1), .val (.int (1 : Int32))] [])) tt
        refine XS.aload X124.here hx rfl (hb hby at_95) rfl rfl ?_
        show Steps p.tables e below (T124.setTop (mkF m 97 #[.val (.int v0), .val (.int v1), .val (.int v2), .val (.int v3), .val (.int (2 : Int32)), .val (.int (1 : Int32)), .val (.ref b1), .val (.int (1 : Int32))] [(.ref b1)])) tt
        refine XS.iconst X124.here hx rfl (hb hby at_97) ?_
        exact kk
      obtain ⟨cq126, kq126, q126a, q126b, q126c⟩ := isOf hZ e124 f125
      obtain ⟨_, _, ⟨T126, L126, k126, n126⟩, -, X126, ⟨Lc126, hQ126, l126, y126, z126⟩, st126⟩ := X124.virtualBack hx (y := (⟨"com/example/pattern_automaton/patternautomaton/NonZeroTransitions", "end", "(I)I"⟩ : MethodName)) (z := (⟨"com/example/pattern_automaton/patternautomaton/NonZeroTransitions", "end", "(I)I"⟩ : MethodName)) hown (mvT hZ (hw _ (mw 35 rfl))) (mvT hZ (hw _ (mw 36 rfl))) (notFace_of_selects (args := #[]) (mvT hZ (hw _ (mw 38 rfl)))) (mvT hZ (hw _ (mw 38 rfl))) (mvT hZ (hw _ (mw 37 rfl))) (by decide) (backOf (W := 0) (rmen0 l Z a0 hw [] b1 vf_3 (0 : Int32) (2 : Int32) (3 : Int32) T122.heap n0 f123 P122_0 P122_5) hZ (hw _ (mw 39 rfl)) (hw _ (mw 3 rfl)) (by decide) (by decide)) q126a q126c (g := (mkF m 98 #[.val (.int v0), .val (.int v1), .val (.int v2), .val (.int v3), .val (.int (2 : Int32)), .val (.int (1 : Int32)), .val (.ref b1), .val (.int (1 : Int32))] [(.int (0 : Int32)), (.ref b1)])) rfl (by rw [hml]; rfl) (Steps.refl _) (argsL := [(.int (0 : Int32))]) (rest := []) (lenOf pd_3 rfl) rfl (by show 2 * 0 + _ ≤ _; exact Nat.le_of_eq rfl) (hb hby at_98) (fun _ _ => ⟨rfl, e124, (by decide : 6 + 0 ≤ _), (by decide : 20 + 0 ≤ _)⟩)
      dsimp only [Pt.U, Pt.locs, Pt.cells, Pt.slots] at X126 l126 y126 z126 st126 hQ126
      subst l126 y126 z126
      obtain ⟨rfl, N126q, e126⟩ := hQ126
      have N126 := Fr.app N124 N126q
      refine Goal.tr (B := T126.setTop (mkF m 101 #[.val (.int v0), .val (.int v1), .val (.int v2), .val (.int v3), .val (.int (2 : Int32)), .val (.int (1 : Int32)), .val (.ref b1), .val (.int (1 : Int32))] [(.int (2 : Int32))])) st126 ?_
      refine Goal.to (B := T126.setTop (mkF m 109 #[.val (.int v0), .val (.int v1), .val (.int v2), .val (.int v3), .val (.int (2 : Int32)), .val (.int (1 : Int32)), .val (.ref b1), .val (.int (1 : Int32))] [(.int (1 : Int32)), (.ref b1)])) (fun tt kk => ?_) ?_
      · show Steps p.tables e below (T126.setTop (mkF m 101 #[.val (.int v0), .val (.int v1), .val (.int v2), .val (.int v3), .val (.int (2 : Int32)), .val (.int (1 : Int32)), .val (.ref b1), .val (.int (1 : Int32))] [(.int (2 : Int32))])) tt
        refine XS.iload X126.here hx rfl (hb hby at_101) rfl ?_
        show Steps p.tables e below (T126.setTop (mkF m 103 #[.val (.int v0), .val (.int v1), .val (.int v2), .val (.int v3), .val (.int (2 : Int32)), .val (.int (1 : Int32)), .val (.ref b1), .val (.int (1 : Int32))] [(.int (2 : Int32)), (.int (2 : Int32))])) tt
        refine XS.icmpNo X126.here hx rfl (hb hby at_103) rfl (teq (rfl : (2 : Int32) = (2 : Int32))).2 ?_
        show Steps p.tables e below (T126.setTop (mkF m 106 #[.val (.int v0), .val (.int v1), .val (.int v2), .val (.int v3), .val (.int (2 : Int32)), .val (.int (1 : Int32)), .val (.ref b1), .val (.int (1 : Int32))] [])) tt
        refine XS.aload X126.here hx rfl (hb hby at_106) rfl rfl ?_
        show Steps p.tables e below (T126.setTop (mkF m 108 #[.val (.int v0), .val (.int v1), .val (.int v2), .val (.int v3), .val (.int (2 : Int32)), .val (.int (1 : Int32)), .val (.ref b1), .val (.int (1 : Int32))] [(.ref b1)])) tt
        refine XS.iconst X126.here hx rfl (hb hby at_108) ?_
        exact kk
      obtain ⟨cq127, kq127, q127a, q127b, q127c⟩ := isOf hZ e126 f125
      obtain ⟨_, _, ⟨T127, L127, k127, n127⟩, -, X127, ⟨Lc127, hQ127, l127, y127, z127⟩, st127⟩ := X126.virtualBack hx (y := (⟨"com/example/pattern_automaton/patternautomaton/NonZeroTransitions", "first", "(I)I"⟩ : MethodName)) (z := (⟨"com/example/pattern_automaton/patternautomaton/NonZeroTransitions", "first", "(I)I"⟩ : MethodName)) hown (mvT hZ (hw _ (mw 30 rfl))) (mvT hZ (hw _ (mw 31 rfl))) (notFace_of_selects (args := #[]) (mvT hZ (hw _ (mw 33 rfl)))) (mvT hZ (hw _ (mw 33 rfl))) (mvT hZ (hw _ (mw 32 rfl))) (by decide) (backOf (W := 0) (rmfi1 l Z a0 hw [] b1 vf_3 (0 : Int32) (2 : Int32) (3 : Int32) T122.heap n0 f123 P122_0 P122_5) hZ (hw _ (mw 34 rfl)) (hw _ (mw 3 rfl)) (by decide) (by decide)) q127a q127c (g := (mkF m 109 #[.val (.int v0), .val (.int v1), .val (.int v2), .val (.int v3), .val (.int (2 : Int32)), .val (.int (1 : Int32)), .val (.ref b1), .val (.int (1 : Int32))] [(.int (1 : Int32)), (.ref b1)])) rfl (by rw [hml]; rfl) (Steps.refl _) (argsL := [(.int (1 : Int32))]) (rest := []) (lenOf pd_3 rfl) rfl (by show 2 * 0 + _ ≤ _; exact Nat.le_of_eq rfl) (hb hby at_109) (fun _ _ => ⟨rfl, e126, (by decide : 6 + 0 ≤ _), (by decide : 20 + 0 ≤ _)⟩)
      dsimp only [Pt.U, Pt.locs, Pt.cells, Pt.slots] at X127 l127 y127 z127 st127 hQ127
      subst l127 y127 z127
      obtain ⟨rfl, N127q, e127⟩ := hQ127
      have N127 := Fr.app N126 N127q
      refine Goal.tr (B := T127.setTop (mkF m 112 #[.val (.int v0), .val (.int v1), .val (.int v2), .val (.int v3), .val (.int (2 : Int32)), .val (.int (1 : Int32)), .val (.ref b1), .val (.int (1 : Int32))] [(.int (2 : Int32))])) st127 ?_
      refine Goal.to (B := T127.setTop (mkF m 120 #[.val (.int v0), .val (.int v1), .val (.int v2), .val (.int v3), .val (.int (2 : Int32)), .val (.int (1 : Int32)), .val (.ref b1), .val (.int (1 : Int32))] [(.int (1 : Int32)), (.ref b1)])) (fun tt kk => ?_) ?_
      · show Steps p.tables e below (T127.setTop (mkF m 112 #[.val (.int v0), .val (.int v1), .val (.int v2), .val (.int v3), .val (.int (2 : Int32)), .val (.int (1 : Int32)), .val (.ref b1), .val (.int (1 : Int32))] [(.int (2 : Int32))])) tt
        refine XS.iload X127.here hx rfl (hb hby at_112) rfl ?_
        show Steps p.tables e below (T127.setTop (mkF m 114 #[.val (.int v0), .val (.int v1), .val (.int v2), .val (.int v3), .val (.int (2 : Int32)), .val (.int (1 : Int32)), .val (.ref b1), .val (.int (1 : Int32))] [(.int (2 : Int32)), (.int (2 : Int32))])) tt
        refine XS.icmpNo X127.here hx rfl (hb hby at_114) rfl (teq (rfl : (2 : Int32) = (2 : Int32))).2 ?_
        show Steps p.tables e below (T127.setTop (mkF m 117 #[.val (.int v0), .val (.int v1), .val (.int v2), .val (.int v3), .val (.int (2 : Int32)), .val (.int (1 : Int32)), .val (.ref b1), .val (.int (1 : Int32))] [])) tt
        refine XS.aload X127.here hx rfl (hb hby at_117) rfl rfl ?_
        show Steps p.tables e below (T127.setTop (mkF m 119 #[.val (.int v0), .val (.int v1), .val (.int v2), .val (.int v3), .val (.int (2 : Int32)), .val (.int (1 : Int32)), .val (.ref b1), .val (.int (1 : Int32))] [(.ref b1)])) tt
        refine XS.iconst X127.here hx rfl (hb hby at_119) ?_
        exact kk
      obtain ⟨cq128, kq128, q128a, q128b, q128c⟩ := isOf hZ e127 f125
      obtain ⟨_, _, ⟨T128, L128, k128, n128⟩, -, X128, ⟨Lc128, hQ128, l128, y128, z128⟩, st128⟩ := X127.virtualBack hx (y := (⟨"com/example/pattern_automaton/patternautomaton/NonZeroTransitions", "end", "(I)I"⟩ : MethodName)) (z := (⟨"com/example/pattern_automaton/patternautomaton/NonZeroTransitions", "end", "(I)I"⟩ : MethodName)) hown (mvT hZ (hw _ (mw 35 rfl))) (mvT hZ (hw _ (mw 36 rfl))) (notFace_of_selects (args := #[]) (mvT hZ (hw _ (mw 38 rfl)))) (mvT hZ (hw _ (mw 38 rfl))) (mvT hZ (hw _ (mw 37 rfl))) (by decide) (backOf (W := 0) (rmen1 l Z a0 hw [] b1 vf_3 (0 : Int32) (2 : Int32) (3 : Int32) T122.heap n0 f123 P122_0 P122_5) hZ (hw _ (mw 39 rfl)) (hw _ (mw 3 rfl)) (by decide) (by decide)) q128a q128c (g := (mkF m 120 #[.val (.int v0), .val (.int v1), .val (.int v2), .val (.int v3), .val (.int (2 : Int32)), .val (.int (1 : Int32)), .val (.ref b1), .val (.int (1 : Int32))] [(.int (1 : Int32)), (.ref b1)])) rfl (by rw [hml]; rfl) (Steps.refl _) (argsL := [(.int (1 : Int32))]) (rest := []) (lenOf pd_3 rfl) rfl (by show 2 * 0 + _ ≤ _; exact Nat.le_of_eq rfl) (hb hby at_120) (fun _ _ => ⟨rfl, e127, (by decide : 6 + 0 ≤ _), (by decide : 20 + 0 ≤ _)⟩)
      dsimp only [Pt.U, Pt.locs, Pt.cells, Pt.slots] at X128 l128 y128 z128 st128 hQ128
      subst l128 y128 z128
      obtain ⟨rfl, N128q, e128⟩ := hQ128
      have N128 := Fr.app N127 N128q
      refine Goal.tr (B := T128.setTop (mkF m 123 #[.val (.int v0), .val (.int v1), .val (.int v2), .val (.int v3), .val (.int (2 : Int32)), .val (.int (1 : Int32)), .val (.ref b1), .val (.int (1 : Int32))] [(.int (3 : Int32))])) st128 ?_
      refine Goal.to (B := T128.setTop (mkF m 136 #[.val (.int v0), .val (.int v1), .val (.int v2), .val (.int v3), .val (.int (2 : Int32)), .val (.int (1 : Int32)), .val (.ref b1), .val (.int (1 : Int32))] [(.int (1 : Int32))])) (fun tt kk => ?_) ?_
      · show Steps p.tables e below (T128.setTop (mkF m 123 #[.val (.int v0), .val (.int v1), .val (.int v2), .val (.int v3), .val (.int (2 : Int32)), .val (.int (1 : Int32)), .val (.ref b1), .val (.int (1 : Int32))] [(.int (3 : Int32))])) tt
        refine XS.iload X128.here hx rfl (hb hby at_123) rfl ?_
        show Steps p.tables e below (T128.setTop (mkF m 125 #[.val (.int v0), .val (.int v1), .val (.int v2), .val (.int v3), .val (.int (2 : Int32)), .val (.int (1 : Int32)), .val (.ref b1), .val (.int (1 : Int32))] [(.int (2 : Int32)), (.int (3 : Int32))])) tt
        refine XS.iload X128.here hx rfl (hb hby at_125) rfl ?_
        show Steps p.tables e below (T128.setTop (mkF m 127 #[.val (.int v0), .val (.int v1), .val (.int v2), .val (.int v3), .val (.int (2 : Int32)), .val (.int (1 : Int32)), .val (.ref b1), .val (.int (1 : Int32))] [(.int (1 : Int32)), (.int (2 : Int32)), (.int (3 : Int32))])) tt
        refine XS.iadd X128.here hx rfl (hb hby at_127) rfl ?_
        show Steps p.tables e below (T128.setTop (mkF m 128 #[.val (.int v0), .val (.int v1), .val (.int v2), .val (.int v3), .val (.int (2 : Int32)), .val (.int (1 : Int32)), .val (.ref b1), .val (.int (1 : Int32))] [(.int (3 : Int32)), (.int (3 : Int32))])) tt
        refine XS.icmpNo X128.here hx rfl (hb hby at_128) rfl (teq (rfl : (3 : Int32) = (3 : Int32))).2 ?_
        show Steps p.tables e below (T128.setTop (mkF m 131 #[.val (.int v0), .val (.int v1), .val (.int v2), .val (.int v3), .val (.int (2 : Int32)), .val (.int (1 : Int32)), .val (.ref b1), .val (.int (1 : Int32))] [])) tt
        refine XS.iconst X128.here hx rfl (hb hby at_131) ?_
        show Steps p.tables e below (T128.setTop (mkF m 132 #[.val (.int v0), .val (.int v1), .val (.int v2), .val (.int v3), .val (.int (2 : Int32)), .val (.int (1 : Int32)), .val (.ref b1), .val (.int (1 : Int32))] [(.int (1 : Int32))])) tt
        refine XS.goto X128.here hx rfl (pc0 := 132) (pc' := 136) rfl (hb hby at_132) (by decide) (by decide) ?_
        exact kk
      exact Goal.retV X128 hx Bd.returns rfl (Or.inl ⟨rfl, Or.inr (Or.inl rfl), _, rfl⟩) (hb hby at_136) hlk e128 ⟨rfl, N128⟩ (by decide) (by decide)
    · refine Goal.to (B := T105.setTop (mkF m 73 #[.val (.int v0), .val (.int v1), .val (.int v2), .val (.int v3), .val (.int (2 : Int32)), .val (.int (2 : Int32)), .val (.ref b1), .val (.int (1 : Int32))] [(.int v3), (.int v2), (.int (2 : Int32)), (.ref b1)])) (fun tt kk => ?_) ?_
      · show Steps p.tables e below (T105.setTop (mkF m 67 #[.val (.int v0), .val (.int v1), .val (.int v2), .val (.int v3), .val (.int (2 : Int32)), .val (.int (2 : Int32)), .val (.ref b1), .val (.int (1 : Int32))] [])) tt
        refine XS.aload X105.here hx rfl (hb hby at_67) rfl rfl ?_
        show Steps p.tables e below (T105.setTop (mkF m 69 #[.val (.int v0), .val (.int v1), .val (.int v2), .val (.int v3), .val (.int (2 : Int32)), .val (.int (2 : Int32)), .val (.ref b1), .val (.int (1 : Int32))] [(.ref b1)])) tt
        refine XS.iload X105.here hx rfl (hb hby at_69) rfl ?_
        show Steps p.tables e below (T105.setTop (mkF m 71 #[.val (.int v0), .val (.int v1), .val (.int v2), .val (.int v3), .val (.int (2 : Int32)), .val (.int (2 : Int32)), .val (.ref b1), .val (.int (1 : Int32))] [(.int (2 : Int32)), (.ref b1)])) tt
        refine XS.iloadN X105.here hx rfl (hb hby at_71) rfl ?_
        show Steps p.tables e below (T105.setTop (mkF m 72 #[.val (.int v0), .val (.int v1), .val (.int v2), .val (.int v3), .val (.int (2 : Int32)), .val (.int (2 : Int32)), .val (.ref b1), .val (.int (1 : Int32))] [(.int v2), (.int (2 : Int32)), (.ref b1)])) tt
        refine XS.iloadN X105.here hx rfl (hb hby at_72) rfl ?_
        exact kk
      have f129 : Ary Z T101.heap vr_3 .int [(.int v2), (.int (v2 + (1 : Int32)))] := (P97_5.keep K101 (ninS (Ne.symm ne_b1_vr_3) (ninS (Ne.symm ne3_vf_vr) nin0)))
      have f130 : Ary Z T101.heap vt_3 .int [(.int v3), (.int v3)] := (P97_6.keep K101 (ninS (Ne.symm ne_b1_vt_3) (ninS (Ne.symm ne3_vf_vt) nin0)))
      obtain ⟨_, _, ⟨T131, L131, k131, n131⟩, -, X131, ⟨Lc131, hQ131, l131, y131, z131⟩, st131⟩ := Jvm.LawKit.callS X105 hx (y := (⟨"com/example/pattern_automaton/patternautomaton/NonZeroTransitionsEndStatePinLaw", "addN", "(Lcom/example/pattern_automaton/patternautomaton/NonZeroTransitions;III)V"⟩ : MethodName)) hown (mvT hZ (hw _ (mw 17 rfl))) (mvT hZ (hw _ (mw 18 rfl))) (mvT hZ (hw _ (mw 19 rfl))) (mvT hZ (hw _ (mw 20 rfl))) (by decide) (backOf (W := 0) (rman22 l Z a0 hw [] b1 vf_3 vr_3 vt_3 (1 : Int32) v2 (v2 + (1 : Int32)) v3 v3 v2 v3 T101.heap n0 f102 f104 P101_0 P101_1 P101_2 P101_3 P101_4 f129 f130 g_b1 g_vr_3 g_vt_3 ne_b1_vr_3 ne_b1_vt_3 ne3_vr_vt) hZ (hw _ (mw 20 rfl)) (hw _ (mw 19 rfl)) (by decide) (by decide)) (g := (mkF m 73 #[.val (.int v0), .val (.int v1), .val (.int v2), .val (.int v3), .val (.int (2 : Int32)), .val (.int (2 : Int32)), .val (.ref b1), .val (.int (1 : Int32))] [(.int v3), (.int v2), (.int (2 : Int32)), (.ref b1)])) rfl (by rw [hml]; rfl) (argsL := [(.ref b1), (.int (2 : Int32)), (.int v2), (.int v3)]) (rest := []) (lenOf pd_2 rfl) rfl (by show 2 * 0 + _ ≤ _; exact Nat.le_of_eq rfl) (hb hby at_73) (fun _ _ => ⟨rfl, e105, (by decide : 4 + 2 ≤ _), (by decide : 12 + 8 ≤ _)⟩)
      dsimp only [Pt.U, Pt.locs, Pt.cells, Pt.slots] at X131 l131 y131 z131 st131 hQ131
      subst l131 y131 z131
      obtain ⟨vb_131, vd_131, rfl, N131q, K131, sz131_vb, sz131_vd, ne131_vb_vd, P131_0, P131_1, P131_2, P131_3, P131_4, P131_5, P131_6⟩ := hQ131
      have N131 := Fr.app N105 N131q
      have ne_b1_vb_131 : b1 ≠ vb_131 := Nat.ne_of_lt (Nat.lt_of_lt_of_le f104.lt sz131_vb)
      have ne_vf_3_vb_131 : vf_3 ≠ vb_131 := Nat.ne_of_lt (Nat.lt_of_lt_of_le P101_5.lt sz131_vb)
      have ne_vr_3_vb_131 : vr_3 ≠ vb_131 := Nat.ne_of_lt (Nat.lt_of_lt_of_le f129.lt sz131_vb)
      have ne_vt_3_vb_131 : vt_3 ≠ vb_131 := Nat.ne_of_lt (Nat.lt_of_lt_of_le f130.lt sz131_vb)
      have g_vb_131 : n0 ≤ vb_131 := Nat.le_trans f102 sz131_vb
      have ne_b1_vd_131 : b1 ≠ vd_131 := Nat.ne_of_lt (Nat.lt_of_lt_of_le f104.lt sz131_vd)
      have ne_vf_3_vd_131 : vf_3 ≠ vd_131 := Nat.ne_of_lt (Nat.lt_of_lt_of_le P101_5.lt sz131_vd)
      have ne_vr_3_vd_131 : vr_3 ≠ vd_131 := Nat.ne_of_lt (Nat.lt_of_lt_of_le f129.lt sz131_vd)
      have ne_vt_3_vd_131 : vt_3 ≠ vd_131 := Nat.ne_of_lt (Nat.lt_of_lt_of_le f130.lt sz131_vd)
      have g_vd_131 : n0 ≤ vd_131 := Nat.le_trans f102 sz131_vd
      refine Goal.to (B := T131.setTop (mkF m 76 #[.val (.int v0), .val (.int v1), .val (.int v2), .val (.int v3), .val (.int (2 : Int32)), .val (.int (2 : Int32)), .val (.ref b1), .val (.int (1 : Int32))] [])) st131 ?_
      refine Goal.to (B := T131.setTop (mkF m 78 #[.val (.int v0), .val (.int v1), .val (.int v2), .val (.int v3), .val (.int (2 : Int32)), .val (.int (2 : Int32)), .val (.ref b1), .val (.int (1 : Int32))] [(.ref b1)])) (fun tt kk => ?_) ?_
      · show Steps p.tables e below (T131.setTop (mkF m 76 #[.val (.int v0), .val (.int v1), .val (.int v2), .val (.int v3), .val (.int (2 : Int32)), .val (.int (2 : Int32)), .val (.ref b1), .val (.int (1 : Int32))] [])) tt
        refine XS.aload X131.here hx rfl (hb hby at_76) rfl rfl ?_
        exact kk
      have f132 : Exa Z T131.heap b1 "com/example/pattern_automaton/patternautomaton/NonZeroTransitions" := (f104.keep K131)
      have f133 : Ary Z T131.heap vf_3 .int [(.int (0 : Int32)), (.int (2 : Int32)), (.int (0 : Int32))] := (P101_5.keep K131 (ninS (Ne.symm ne_b1_vf_3) nin0))
      have f134 : n0 ≤ T131.heap.size := (Nat.le_trans f102 K131.1)
      obtain ⟨cq135, kq135, q135a, q135b, q135c⟩ := isOf hZ rfl f132
      obtain ⟨_, _, ⟨T135, L135, k135, n135⟩, -, X135, ⟨Lc135, hQ135, l135, y135, z135⟩, st135⟩ := X131.virtualBack hx (y := (⟨"com/example/pattern_automaton/patternautomaton/NonZeroTransitions", "endState", "()V"⟩ : MethodName)) (z := (⟨"com/example/pattern_automaton/patternautomaton/NonZeroTransitions", "endState", "()V"⟩ : MethodName)) hown (mvT hZ (hw _ (mw 21 rfl))) (mvT hZ (hw _ (mw 22 rfl))) (notFace_of_selects (args := #[]) (mvT hZ (hw _ (mw 24 rfl)))) (mvT hZ (hw _ (mw 24 rfl))) (mvT hZ (hw _ (mw 23 rfl))) (by decide) (backOf (W := 0) (rmes1 l Z a0 hw [] b1 vf_3 vb_131 vd_131 (4 : Int32) (0 : Int32) (2 : Int32) (0 : Int32) T131.heap n0 f134 f132 P131_0 P131_1 P131_2 P131_3 P131_4 f133 g_b1 g_vf_3 ne_b1_vf_3) hZ (hw _ (mw 25 rfl)) (hw _ (mw 3 rfl)) (by decide) (by decide)) q135a q135c (g := (mkF m 78 #[.val (.int v0), .val (.int v1), .val (.int v2), .val (.int v3), .val (.int (2 : Int32)), .val (.int (2 : Int32)), .val (.ref b1), .val (.int (1 : Int32))] [(.ref b1)])) rfl (by rw [hml]; rfl) (Steps.refl _) (argsL := []) (rest := []) (lenOf pd_1 rfl) rfl (by show 2 * 0 + _ ≤ _; exact Nat.le_of_eq rfl) (hb hby at_78) (fun _ _ => ⟨rfl, rfl, (by decide : 6 + 0 ≤ _), (by decide : 20 + 0 ≤ _)⟩)
      dsimp only [Pt.U, Pt.locs, Pt.cells, Pt.slots] at X135 l135 y135 z135 st135 hQ135
      subst l135 y135 z135
      obtain ⟨rfl, N135q, K135, P135_0, P135_1, P135_2, P135_3, P135_4, P135_5⟩ := hQ135
      have N135 := Fr.app N131 N135q
      refine Goal.tr (B := T135.setTop (mkF m 81 #[.val (.int v0), .val (.int v1), .val (.int v2), .val (.int v3), .val (.int (2 : Int32)), .val (.int (2 : Int32)), .val (.ref b1), .val (.int (1 : Int32))] [])) st135 ?_
      refine Goal.to (B := T135.setTop (mkF m 89 #[.val (.int v0), .val (.int v1), .val (.int v2), .val (.int v3), .val (.int (2 : Int32)), .val (.int (2 : Int32)), .val (.ref b1), .val (.int (1 : Int32))] [(.int (0 : Int32)), (.ref b1)])) (fun tt kk => ?_) ?_
      · show Steps p.tables e below (T135.setTop (mkF m 81 #[.val (.int v0), .val (.int v1), .val (.int v2), .val (.int v3), .val (.int (2 : Int32)), .val (.int (2 : Int32)), .val (.ref b1), .val (.int (1 : Int32))] [])) tt
        refine XS.iload X135.here hx rfl (hb hby at_81) rfl ?_
        show Steps p.tables e below (T135.setTop (mkF m 83 #[.val (.int v0), .val (.int v1), .val (.int v2), .val (.int v3), .val (.int (2 : Int32)), .val (.int (2 : Int32)), .val (.ref b1), .val (.int (1 : Int32))] [(.int (1 : Int32))])) tt
        refine XS.ifNo X135.here hx rfl (hb hby at_83) rfl ((if0 _ _).trans (feq ((by decide) : ¬ ((1 : Int32) = (0 : Int32)))).1) ?_
        show Steps p.tables e below (T135.setTop (mkF m 86 #[.val (.int v0), .val (.int v1), .val (.int v2), .val (.int v3), .val (.int (2 : Int32)), .val (.int (2 : Int32)), .val (.ref b1), .val (.int (1 : Int32))] [])) tt
        refine XS.aload X135.here hx rfl (hb hby at_86) rfl rfl ?_
        show Steps p.tables e below (T135.setTop (mkF m 88 #[.val (.int v0), .val (.int v1), .val (.int v2), .val (.int v3), .val (.int (2 : Int32)), .val (.int (2 : Int32)), .val (.ref b1), .val (.int (1 : Int32))] [(.ref b1)])) tt
        refine XS.iconst X135.here hx rfl (hb hby at_88) ?_
        exact kk
      have f136 : n0 ≤ T135.heap.size := (Nat.le_trans f134 K135.1)
      have f138 : Exa Z T135.heap b1 "com/example/pattern_automaton/patternautomaton/NonZeroTransitions" := (f132.keep K135)
      obtain ⟨cq137, kq137, q137a, q137b, q137c⟩ := isOf hZ rfl f138
      obtain ⟨_, _, ⟨T137, L137, k137, n137⟩, -, X137, ⟨Lc137, hQ137, l137, y137, z137⟩, st137⟩ := X135.virtualBack hx (y := (⟨"com/example/pattern_automaton/patternautomaton/NonZeroTransitions", "first", "(I)I"⟩ : MethodName)) (z := (⟨"com/example/pattern_automaton/patternautomaton/NonZeroTransitions", "first", "(I)I"⟩ : MethodName)) hown (mvT hZ (hw _ (mw 30 rfl))) (mvT hZ (hw _ (mw 31 rfl))) (notFace_of_selects (args := #[]) (mvT hZ (hw _ (mw 33 rfl)))) (mvT hZ (hw _ (mw 33 rfl))) (mvT hZ (hw _ (mw 32 rfl))) (by decide) (backOf (W := 0) (rmfi0 l Z a0 hw [] b1 vf_3 (0 : Int32) (2 : Int32) (4 : Int32) T135.heap n0 f136 P135_0 P135_5) hZ (hw _ (mw 34 rfl)) (hw _ (mw 3 rfl)) (by decide) (by decide)) q137a q137c (g := (mkF m 89 #[.val (.int v0), .val (.int v1), .val (.int v2), .val (.int v3), .val (.int (2 : Int32)), .val (.int (2 : Int32)), .val (.ref b1), .val (.int (1 : Int32))] [(.int (0 : Int32)), (.ref b1)])) rfl (by rw [hml]; rfl) (Steps.refl _) (argsL := [(.int (0 : Int32))]) (rest := []) (lenOf pd_3 rfl) rfl (by show 2 * 0 + _ ≤ _; exact Nat.le_of_eq rfl) (hb hby at_89) (fun _ _ => ⟨rfl, rfl, (by decide : 6 + 0 ≤ _), (by decide : 20 + 0 ≤ _)⟩)
      dsimp only [Pt.U, Pt.locs, Pt.cells, Pt.slots] at X137 l137 y137 z137 st137 hQ137
      subst l137 y137 z137
      obtain ⟨rfl, N137q, e137⟩ := hQ137
      have N137 := Fr.app N135 N137q
      refine Goal.tr (B := T137.setTop (mkF m 92 #[.val (.int v0), .val (.int v1), .val (.int v2), .val (.int v3), .val (.int (2 : Int32)), .val (.int (2 : Int32)), .val (.ref b1), .val (.int (1 : Int32))] [(.int (0 : Int32))])) st137 ?_
      refine Goal.to (B := T137.setTop (mkF m 98 #[.val (.int v0), .val (.int v1), .val (.int v2), .val (.int v3), .val (.int (2 : Int32)), .val (.int (2 : Int32)), .val (.ref b1), .val (.int (1 : Int32))] [(.int (0 : Int32)), (.ref b1)])) (fun tt kk => ?_) ?_
      · show Steps p.tables e below (T137.setTop (mkF m 92 #[.val (.int v0), .val (.int v1), .val (.int v2), .val (.int v3), .val (.int (2 : Int32)), .val (.int (2 : Int32)), .val (.ref b1), .val (.int (1 : Int32))] [(.int (0 : Int32))])) tt
        refine XS.ifNo X137.here hx rfl (hb hby at_92) rfl ((if0 _ _).trans (teq (rfl : (0 : Int32) = (0 : Int32))).2) ?_
        show Steps p.tables e below (T137.setTop (mkF m 95 #[.val (.int v0), .val (.int v1), .val (.int v2), .val (.int v3), .val (.int (2 : Int32)), .val (.int (2 : Int32)), .val (.ref b1), .val (.int (1 : Int32))] [])) tt
        refine XS.aload X137.here hx rfl (hb hby at_95) rfl rfl ?_
        show Steps p.tables e below (T137.setTop (mkF m 97 #[.val (.int v0), .val (.int v1), .val (.int v2), .val (.int v3), .val (.int (2 : Int32)), .val (.int (2 : Int32)), .val (.ref b1), .val (.int (1 : Int32))] [(.ref b1)])) tt
        refine XS.iconst X137.here hx rfl (hb hby at_97) ?_
        exact kk
      obtain ⟨cq139, kq139, q139a, q139b, q139c⟩ := isOf hZ e137 f138
      obtain ⟨_, _, ⟨T139, L139, k139, n139⟩, -, X139, ⟨Lc139, hQ139, l139, y139, z139⟩, st139⟩ := X137.virtualBack hx (y := (⟨"com/example/pattern_automaton/patternautomaton/NonZeroTransitions", "end", "(I)I"⟩ : MethodName)) (z := (⟨"com/example/pattern_automaton/patternautomaton/NonZeroTransitions", "end", "(I)I"⟩ : MethodName)) hown (mvT hZ (hw _ (mw 35 rfl))) (mvT hZ (hw _ (mw 36 rfl))) (notFace_of_selects (args := #[]) (mvT hZ (hw _ (mw 38 rfl)))) (mvT hZ (hw _ (mw 38 rfl))) (mvT hZ (hw _ (mw 37 rfl))) (by decide) (backOf (W := 0) (rmen0 l Z a0 hw [] b1 vf_3 (0 : Int32) (2 : Int32) (4 : Int32) T135.heap n0 f136 P135_0 P135_5) hZ (hw _ (mw 39 rfl)) (hw _ (mw 3 rfl)) (by decide) (by decide)) q139a q139c (g := (mkF m 98 #[.val (.int v0), .val (.int v1), .val (.int v2), .val (.int v3), .val (.int (2 : Int32)), .val (.int (2 : Int32)), .val (.ref b1), .val (.int (1 : Int32))] [(.int (0 : Int32)), (.ref b1)])) rfl (by rw [hml]; rfl) (Steps.refl _) (argsL := [(.int (0 : Int32))]) (rest := []) (lenOf pd_3 rfl) rfl (by show 2 * 0 + _ ≤ _; exact Nat.le_of_eq rfl) (hb hby at_98) (fun _ _ => ⟨rfl, e137, (by decide : 6 + 0 ≤ _), (by decide : 20 + 0 ≤ _)⟩)
      dsimp only [Pt.U, Pt.locs, Pt.cells, Pt.slots] at X139 l139 y139 z139 st139 hQ139
      subst l139 y139 z139
      obtain ⟨rfl, N139q, e139⟩ := hQ139
      have N139 := Fr.app N137 N139q
      refine Goal.tr (B := T139.setTop (mkF m 101 #[.val (.int v0), .val (.int v1), .val (.int v2), .val (.int v3), .val (.int (2 : Int32)), .val (.int (2 : Int32)), .val (.ref b1), .val (.int (1 : Int32))] [(.int (2 : Int32))])) st139 ?_
      refine Goal.to (B := T139.setTop (mkF m 109 #[.val (.int v0), .val (.int v1), .val (.int v2), .val (.int v3), .val (.int (2 : Int32)), .val (.int (2 : Int32)), .val (.ref b1), .val (.int (1 : Int32))] [(.int (1 : Int32)), (.ref b1)])) (fun tt kk => ?_) ?_
      · show Steps p.tables e below (T139.setTop (mkF m 101 #[.val (.int v0), .val (.int v1), .val (.int v2), .val (.int v3), .val (.int (2 : Int32)), .val (.int (2 : Int32)), .val (.ref b1), .val (.int (1 : Int32))] [(.int (2 : Int32))])) tt
        refine XS.iload X139.here hx rfl (hb hby at_101) rfl ?_
        show Steps p.tables e below (T139.setTop (mkF m 103 #[.val (.int v0), .val (.int v1), .val (.int v2), .val (.int v3), .val (.int (2 : Int32)), .val (.int (2 : Int32)), .val (.ref b1), .val (.int (1 : Int32))] [(.int (2 : Int32)), (.int (2 : Int32))])) tt
        refine XS.icmpNo X139.here hx rfl (hb hby at_103) rfl (teq (rfl : (2 : Int32) = (2 : Int32))).2 ?_
        show Steps p.tables e below (T139.setTop (mkF m 106 #[.val (.int v0), .val (.int v1), .val (.int v2), .val (.int v3), .val (.int (2 : Int32)), .val (.int (2 : Int32)), .val (.ref b1), .val (.int (1 : Int32))] [])) tt
        refine XS.aload X139.here hx rfl (hb hby at_106) rfl rfl ?_
        show Steps p.tables e below (T139.setTop (mkF m 108 #[.val (.int v0), .val (.int v1), .val (.int v2), .val (.int v3), .val (.int (2 : Int32)), .val (.int (2 : Int32)), .val (.ref b1), .val (.int (1 : Int32))] [(.ref b1)])) tt
        refine XS.iconst X139.here hx rfl (hb hby at_108) ?_
        exact kk
      obtain ⟨cq140, kq140, q140a, q140b, q140c⟩ := isOf hZ e139 f138
      obtain ⟨_, _, ⟨T140, L140, k140, n140⟩, -, X140, ⟨Lc140, hQ140, l140, y140, z140⟩, st140⟩ := X139.virtualBack hx (y := (⟨"com/example/pattern_automaton/patternautomaton/NonZeroTransitions", "first", "(I)I"⟩ : MethodName)) (z := (⟨"com/example/pattern_automaton/patternautomaton/NonZeroTransitions", "first", "(I)I"⟩ : MethodName)) hown (mvT hZ (hw _ (mw 30 rfl))) (mvT hZ (hw _ (mw 31 rfl))) (notFace_of_selects (args := #[]) (mvT hZ (hw _ (mw 33 rfl)))) (mvT hZ (hw _ (mw 33 rfl))) (mvT hZ (hw _ (mw 32 rfl))) (by decide) (backOf (W := 0) (rmfi1 l Z a0 hw [] b1 vf_3 (0 : Int32) (2 : Int32) (4 : Int32) T135.heap n0 f136 P135_0 P135_5) hZ (hw _ (mw 34 rfl)) (hw _ (mw 3 rfl)) (by decide) (by decide)) q140a q140c (g := (mkF m 109 #[.val (.int v0), .val (.int v1), .val (.int v2), .val (.int v3), .val (.int (2 : Int32)), .val (.int (2 : Int32)), .val (.ref b1), .val (.int (1 : Int32))] [(.int (1 : Int32)), (.ref b1)])) rfl (by rw [hml]; rfl) (Steps.refl _) (argsL := [(.int (1 : Int32))]) (rest := []) (lenOf pd_3 rfl) rfl (by show 2 * 0 + _ ≤ _; exact Nat.le_of_eq rfl) (hb hby at_109) (fun _ _ => ⟨rfl, e139, (by decide : 6 + 0 ≤ _), (by decide : 20 + 0 ≤ _)⟩)
      dsimp only [Pt.U, Pt.locs, Pt.cells, Pt.slots] at X140 l140 y140 z140 st140 hQ140
      subst l140 y140 z140
      obtain ⟨rfl, N140q, e140⟩ := hQ140
      have N140 := Fr.app N139 N140q
      refine Goal.tr (B := T140.setTop (mkF m 112 #[.val (.int v0), .val (.int v1), .val (.int v2), .val (.int v3), .val (.int (2 : Int32)), .val (.int (2 : Int32)), .val (.ref b1), .val (.int (1 : Int32))] [(.int (2 : Int32))])) st140 ?_
      refine Goal.to (B := T140.setTop (mkF m 120 #[.val (.int v0), .val (.int v1), .val (.int v2), .val (.int v3), .val (.int (2 : Int32)), .val (.int (2 : Int32)), .val (.ref b1), .val (.int (1 : Int32))] [(.int (1 : Int32)), (.ref b1)])) (fun tt kk => ?_) ?_
      · show Steps p.tables e below (T140.setTop (mkF m 112 #[.val (.int v0), .val (.int v1), .val (.int v2), .val (.int v3), .val (.int (2 : Int32)), .val (.int (2 : Int32)), .val (.ref b1), .val (.int (1 : Int32))] [(.int (2 : Int32))])) tt
        refine XS.iload X140.here hx rfl (hb hby at_112) rfl ?_
        show Steps p.tables e below (T140.setTop (mkF m 114 #[.val (.int v0), .val (.int v1), .val (.int v2), .val (.int v3), .val (.int (2 : Int32)), .val (.int (2 : Int32)), .val (.ref b1), .val (.int (1 : Int32))] [(.int (2 : Int32)), (.int (2 : Int32))])) tt
        refine XS.icmpNo X140.here hx rfl (hb hby at_114) rfl (teq (rfl : (2 : Int32) = (2 : Int32))).2 ?_
        show Steps p.tables e below (T140.setTop (mkF m 117 #[.val (.int v0), .val (.int v1), .val (.int v2), .val (.int v3), .val (.int (2 : Int32)), .val (.int (2 : Int32)), .val (.ref b1), .val (.int (1 : Int32))] [])) tt
        refine XS.aload X140.here hx rfl (hb hby at_117) rfl rfl ?_
        show Steps p.tables e below (T140.setTop (mkF m 119 #[.val (.int v0), .val (.int v1), .val (.int v2), .val (.int v3), .val (.int (2 : Int32)), .val (.int (2 : Int32)), .val (.ref b1), .val (.int (1 : Int32))] [(.ref b1)])) tt
        refine XS.iconst X140.here hx rfl (hb hby at_119) ?_
        exact kk
      obtain ⟨cq141, kq141, q141a, q141b, q141c⟩ := isOf hZ e140 f138
      obtain ⟨_, _, ⟨T141, L141, k141, n141⟩, -, X141, ⟨Lc141, hQ141, l141, y141, z141⟩, st141⟩ := X140.virtualBack hx (y := (⟨"com/example/pattern_automaton/patternautomaton/NonZeroTransitions", "end", "(I)I"⟩ : MethodName)) (z := (⟨"com/example/pattern_automaton/patternautomaton/NonZeroTransitions", "end", "(I)I"⟩ : MethodName)) hown (mvT hZ (hw _ (mw 35 rfl))) (mvT hZ (hw _ (mw 36 rfl))) (notFace_of_selects (args := #[]) (mvT hZ (hw _ (mw 38 rfl)))) (mvT hZ (hw _ (mw 38 rfl))) (mvT hZ (hw _ (mw 37 rfl))) (by decide) (backOf (W := 0) (rmen1 l Z a0 hw [] b1 vf_3 (0 : Int32) (2 : Int32) (4 : Int32) T135.heap n0 f136 P135_0 P135_5) hZ (hw _ (mw 39 rfl)) (hw _ (mw 3 rfl)) (by decide) (by decide)) q141a q141c (g := (mkF m 120 #[.val (.int v0), .val (.int v1), .val (.int v2), .val (.int v3), .val (.int (2 : Int32)), .val (.int (2 : Int32)), .val (.ref b1), .val (.int (1 : Int32))] [(.int (1 : Int32)), (.ref b1)])) rfl (by rw [hml]; rfl) (Steps.refl _) (argsL := [(.int (1 : Int32))]) (rest := []) (lenOf pd_3 rfl) rfl (by show 2 * 0 + _ ≤ _; exact Nat.le_of_eq rfl) (hb hby at_120) (fun _ _ => ⟨rfl, e140, (by decide : 6 + 0 ≤ _), (by decide : 20 + 0 ≤ _)⟩)
      dsimp only [Pt.U, Pt.locs, Pt.cells, Pt.slots] at X141 l141 y141 z141 st141 hQ141
      subst l141 y141 z141
      obtain ⟨rfl, N141q, e141⟩ := hQ141
      have N141 := Fr.app N140 N141q
      refine Goal.tr (B := T141.setTop (mkF m 123 #[.val (.int v0), .val (.int v1), .val (.int v2), .val (.int v3), .val (.int (2 : Int32)), .val (.int (2 : Int32)), .val (.ref b1), .val (.int (1 : Int32))] [(.int (4 : Int32))])) st141 ?_
      refine Goal.to (B := T141.setTop (mkF m 136 #[.val (.int v0), .val (.int v1), .val (.int v2), .val (.int v3), .val (.int (2 : Int32)), .val (.int (2 : Int32)), .val (.ref b1), .val (.int (1 : Int32))] [(.int (1 : Int32))])) (fun tt kk => ?_) ?_
      · show Steps p.tables e below (T141.setTop (mkF m 123 #[.val (.int v0), .val (.int v1), .val (.int v2), .val (.int v3), .val (.int (2 : Int32)), .val (.int (2 : Int32)), .val (.ref b1), .val (.int (1 : Int32))] [(.int (4 : Int32))])) tt
        refine XS.iload X141.here hx rfl (hb hby at_123) rfl ?_
        show Steps p.tables e below (T141.setTop (mkF m 125 #[.val (.int v0), .val (.int v1), .val (.int v2), .val (.int v3), .val (.int (2 : Int32)), .val (.int (2 : Int32)), .val (.ref b1), .val (.int (1 : Int32))] [(.int (2 : Int32)), (.int (4 : Int32))])) tt
        refine XS.iload X141.here hx rfl (hb hby at_125) rfl ?_
        show Steps p.tables e below (T141.setTop (mkF m 127 #[.val (.int v0), .val (.int v1), .val (.int v2), .val (.int v3), .val (.int (2 : Int32)), .val (.int (2 : Int32)), .val (.ref b1), .val (.int (1 : Int32))] [(.int (2 : Int32)), (.int (2 : Int32)), (.int (4 : Int32))])) tt
        refine XS.iadd X141.here hx rfl (hb hby at_127) rfl ?_
        show Steps p.tables e below (T141.setTop (mkF m 128 #[.val (.int v0), .val (.int v1), .val (.int v2), .val (.int v3), .val (.int (2 : Int32)), .val (.int (2 : Int32)), .val (.ref b1), .val (.int (1 : Int32))] [(.int (4 : Int32)), (.int (4 : Int32))])) tt
        refine XS.icmpNo X141.here hx rfl (hb hby at_128) rfl (teq (rfl : (4 : Int32) = (4 : Int32))).2 ?_
        show Steps p.tables e below (T141.setTop (mkF m 131 #[.val (.int v0), .val (.int v1), .val (.int v2), .val (.int v3), .val (.int (2 : Int32)), .val (.int (2 : Int32)), .val (.ref b1), .val (.int (1 : Int32))] [])) tt
        refine XS.iconst X141.here hx rfl (hb hby at_131) ?_
        show Steps p.tables e below (T141.setTop (mkF m 132 #[.val (.int v0), .val (.int v1), .val (.int v2), .val (.int v3), .val (.int (2 : Int32)), .val (.int (2 : Int32)), .val (.ref b1), .val (.int (1 : Int32))] [(.int (1 : Int32))])) tt
        refine XS.goto X141.here hx rfl (pc0 := 132) (pc' := 136) rfl (hb hby at_132) (by decide) (by decide) ?_
        exact kk
      exact Goal.retV X141 hx Bd.returns rfl (Or.inl ⟨rfl, Or.inr (Or.inl rfl), _, rfl⟩) (hb hby at_136) hlk e141 ⟨rfl, N141⟩ (by decide) (by decide)
set_option maxRecDepth 65536 in
set_option maxHeartbeats 40000000 in
theorem comes_1 {Post : Tables → Env → Array Value → State → Outcome → State → Prop} (hpost : ∀ tb e args s v u, (limb_1_1.after args s (.returned v) u = true ∧ limb_1_2.after args s (.returned v) u = true ∧ True) → FrameEnd s (.returned v) u (Jvm.fieldLocs frame_1_writes args s ++ Jvm.arrayLocs frame_1_arrays args s ++ Jvm.staticLocs frame_1_statics s) 24 128 → Post tb e args s (.returned v) u) :
    ArmFor flags0 classFile x code maxLocals ret World_1 tables_1 room_1 Calls_1 rest_1 Pre_1 Post := by
  intro l hfl _ _ p e ha hc hk s m args below hf hA hF happ hP
  obtain ⟨hcalls, hrest, hpre⟩ := hP
  obtain ⟨-, -, -, hnamed, -, -, -, hat⟩ := (Spec.applies_iff hf).mp happ
  obtain ⟨hg, hn⟩ := and_e (Cond.before_iff.mp (show (Jvm.Cond.and given_1 narrow_1).before args s = true from hpre))
  obtain ⟨u1, u2⟩ := and_e hg
  obtain ⟨u3, u4⟩ := and_e u2
  obtain ⟨u5, u6⟩ := and_e u4
  obtain ⟨u7, u8⟩ := and_e u6
  obtain ⟨w0, w1, w2, w3, rfl⟩ : ∃ w0 w1 w2 w3 : Value, args = #[w0, w1, w2, w3] := by
    have hs : args.size = 4 := by simpa [Cond.value, given_1] using u1
    obtain ⟨L⟩ := args
    match L, hs with
    | [w0, w1, w2, w3], _ => exact ⟨w0, w1, w2, w3, rfl⟩
  have hw := fun d (hd : d ∈ tables_1) => atoms_spec (ws := Jvm.Cond.code x code maxLocals ret :: tables_1) hat d (List.mem_cons_of_mem _ hd)
  obtain ⟨i0, ei0⟩ := is_v u3
  obtain rfl : w0 = (.int i0) := Option.some.inj ei0
  obtain ⟨i1, ei1⟩ := is_v u5
  obtain rfl : w1 = (.int i1) := Option.some.inj ei1
  obtain ⟨i2, ei2⟩ := is_v u7
  obtain rfl : w2 = (.int i2) := Option.some.inj ei2
  obtain ⟨i3, ei3⟩ := is_v u8
  obtain rfl : w3 = (.int i3) := Option.some.inj ei3
  obtain ⟨n, o, h1, h2, h3, _, L, rfl, ⟨rfl, N⟩, hq⟩ := rm0 l s _ hw tables_1 i0 i1 i2 i3 s.heap s.heap.size (Nat.le_refl _)  p e ha hc hk s m _ below hf ((Spec.applies_iff_loose hf).mp happ).1 ⟨rfl, State.Warmed39.refl s, rfl⟩ trivial
  refine ⟨n, _, h1, h2, h3, hpost _ _ _ _ _ _ ⟨Cond.after_iff.mpr rfl, Cond.after_iff.mpr (eq_i res_at (Term.int_eval (1)) rfl), trivial⟩ ⟨hq.1, hq.2.1, (hq.2.2.sift fun y hy => Or.inr (N y hy)).mono (by decide) (by decide)⟩⟩
theorem main_1_1 : Claimed_1_1 := comes_1 fun _ _ _ _ _ _ h hF => ⟨h.1, hF⟩
theorem main_1_2 : Claimed_1_2 := comes_1 fun _ _ _ _ _ _ h hF => ⟨h.2.1, hF⟩
end Jvm.Pilot.@@N@@
namespace Jvm.Pilot.@@N@@
open Jvm Jvm.ClassFile Sem Op Lib Jvm.Free Jvm.Stand Jvm.Pilot.@@N@@.Jvm.D
/-! MADE BY PROGRAM (witnessworld.py) out of the Statement's table words and the real class files: 12 classes; the members and pool entries that the words name. The judged class is class 1, her method 2. -/
namespace start1
open Jvm.ClassFile
def u (s : String) : CpInfo := .utf8 (stringToUtf16 s)
/-- a pool by its gaps: so many unusable entries, then the entry; so many at the end -/
def gap : Nat → List CpInfo → List CpInfo
  | 0, r => r
  | n + 1, r => .unusable :: gap n r
def poolList (es : List (Nat × CpInfo)) (last : Nat) : List CpInfo := es.foldr (fun e r => gap e.1 (e.2 :: r)) (gap last [])
def pool (es : List (Nat × CpInfo)) (last : Nat) : Array CpInfo := ⟨poolList es last⟩
def fileOf (pool : Array CpInfo) (this : Nat) (attrs : Array Attribute := #[]) (ms : Array MethodInfo := #[]) (fl : Nat := 33) (sup : Nat := 0) (ifs : Array Nat := #[]) (fds : Array FieldInfo := #[]) : ClassFile where
  minorVersion := 0
  majorVersion := 65
  constantPool := pool
  accessFlags := fl
  thisClass := this
  superClass := sup
  interfaces := ifs
  fields := fds
  methods := ms
  attributes := attrs
def plain (name : String) (sup : Option ClassId) : Class where
  name := name
  kind := .ordinary
  loader := none
  accessFlags := 33
  super := sup
  interfaces := #[]
  cf := none
  fields := #[]
  methods := #[]
  instanceTypes := #[]
  staticTypes := #[]
  resolved := #[]
  callSites := []
  init := .initialized
  statics := none
  mirror := none

def pool0 : Array CpInfo := pool [(5, u "<init>"), (0, u "()V"), (1, .class_ 10), (1, u "java/lang/Object")] 113

def k0c0 : Code := { maxStack := 0, maxLocals := 1, code := object_method_1_code, exceptionTable := #[], attributes := #[] }
def k0m0 : Method := { name := "<init>", desc := "()V", sig := { parameters := [], returnType := none }, accessFlags := 1, code := some k0c0 }
/-- java/lang/Object -/
def k0 : Class := { plain "java/lang/Object" none with
  accessFlags := 33
  interfaces := #[]
  cf := some (fileOf pool0 8 #[] #[{ accessFlags := 1, nameIndex := 5, descriptorIndex := 6, attributes := #[] }] 33 0 #[] #[])
  fields := #[]
  methods := #[k0m0]
  instanceTypes := #[]
  staticTypes := #[]
  resolved := Array.replicate 124 none
  statics := none }

def pool1 : Array CpInfo := pool [(2, .class_ 4), (1, u "java/lang/Object"), (0, u "<init>"), (0, u "()V"), (0, .methodref 8 9), (0, .class_ 10), (0, .nameAndType 11 12), (0, u "com/example/pattern_automaton/patternautomaton/NonZeroTransitions"), (0, u "add"), (0, u "(II)V"), (0, .integer 2147483647), (0, .methodref 8 15), (0, .nameAndType 5 16), (0, u "(I)V"), (0, .methodref 18 19), (0, .class_ 20), (0, .nameAndType 21 22), (0, u "com/example/pattern_automaton/patternautomaton/NonZeroTransitionsEndStatePinLaw"), (0, u "addN"), (0, u "(Lcom/example/pattern_automaton/patternautomaton/NonZeroTransitions;III)V"), (0, .methodref 8 24), (0, .nameAndType 25 6), (0, u "endState"), (0, .methodref 8 27), (0, .nameAndType 28 29), (0, u "first"), (0, u "(I)I"), (0, .methodref 8 31), (0, .nameAndType 32 29), (0, u "end"), (3, u "law"), (0, u "(IIII)Z")] 2

def k1m0 : Method := { name := "<init>", desc := "()V", sig := { parameters := [], returnType := none }, accessFlags := 1, code := none }
def k1c1 : Code := { maxStack := 3, maxLocals := 4, code := method_2_code, exceptionTable := #[], attributes := #[] }
def k1m1 : Method := { name := "addN", desc := "(Lcom/example/pattern_automaton/patternautomaton/NonZeroTransitions;III)V", sig := { parameters := [(.object "com/example/pattern_automaton/patternautomaton/NonZeroTransitions"), .int, .int, .int], returnType := none }, accessFlags := 10, code := some k1c1 }
def k1c2 : Code := { maxStack := 4, maxLocals := 8, code := code, exceptionTable := #[], attributes := #[] }
def k1m2 : Method := { name := "law", desc := "(IIII)Z", sig := { parameters := [.int, .int, .int, .int], returnType := some .boolean }, accessFlags := 9, code := some k1c2 }
/-- com/example/pattern_automaton/patternautomaton/NonZeroTransitionsEndStatePinLaw -/
def k1 : Class := { plain "com/example/pattern_automaton/patternautomaton/NonZeroTransitionsEndStatePinLaw" (some 0) with
  accessFlags := 49
  interfaces := #[]
  cf := some (fileOf pool1 18 #[] #[{ accessFlags := 1, nameIndex := 5, descriptorIndex := 6, attributes := #[] }, { accessFlags := 10, nameIndex := 21, descriptorIndex := 22, attributes := #[] }, { accessFlags := 9, nameIndex := 36, descriptorIndex := 37, attributes := #[] }] 49 2 #[] #[])
  fields := #[]
  methods := #[k1m0, k1m1, k1m2]
  instanceTypes := #[]
  staticTypes := #[]
  resolved := Array.replicate 40 none
  statics := none }

def pool2 : Array CpInfo := pool [(1, .methodref 2 3), (0, .class_ 4), (0, .nameAndType 5 6), (0, u "java/lang/Object"), (0, u "<init>"), (0, u "()V"), (0, .fieldref 8 9), (0, .class_ 10), (0, .nameAndType 11 12), (0, u "com/example/pattern_automaton/patternautomaton/NonZeroTransitions"), (0, u "first"), (0, u "[I"), (0, .fieldref 8 14), (0, .nameAndType 15 12), (0, u "rows"), (0, .fieldref 8 17), (0, .nameAndType 18 12), (0, u "targets"), (0, .fieldref 8 20), (0, .nameAndType 21 22), (0, u "size"), (0, u "I"), (0, .methodref 24 25), (0, .class_ 26), (0, .nameAndType 27 28), (0, u "java/util/Arrays"), (0, u "copyOf"), (0, u "([II)[I"), (0, .fieldref 8 30), (0, .nameAndType 31 22), (0, u "ended"), (2, u "end"), (0, u "(I)I"), (0, u "(I)V"), (2, u "add"), (0, u "(II)V"), (1, u "endState")] 5

def k2c0 : Code := { maxStack := 3, maxLocals := 2, code := prog_33_method_1_code, exceptionTable := #[], attributes := #[] }
def k2m0 : Method := { name := "<init>", desc := "(I)V", sig := { parameters := [.int], returnType := none }, accessFlags := 0, code := some k2c0 }
def k2c1 : Code := { maxStack := 4, maxLocals := 3, code := prog_33_method_2_code, exceptionTable := #[], attributes := #[] }
def k2m1 : Method := { name := "add", desc := "(II)V", sig := { parameters := [.int, .int], returnType := none }, accessFlags := 0, code := some k2c1 }
def k2c2 : Code := { maxStack := 3, maxLocals := 1, code := prog_33_method_3_code, exceptionTable := #[], attributes := #[] }
def k2m2 : Method := { name := "endState", desc := "()V", sig := { parameters := [], returnType := none }, accessFlags := 0, code := some k2c2 }
def k2c3 : Code := { maxStack := 2, maxLocals := 2, code := prog_33_method_4_code, exceptionTable := #[], attributes := #[] }
def k2m3 : Method := { name := "first", desc := "(I)I", sig := { parameters := [.int], returnType := some .int }, accessFlags := 0, code := some k2c3 }
def k2c4 : Code := { maxStack := 3, maxLocals := 2, code := prog_33_method_5_code, exceptionTable := #[], attributes := #[] }
def k2m4 : Method := { name := "end", desc := "(I)I", sig := { parameters := [.int], returnType := some .int }, accessFlags := 0, code := some k2c4 }
/-- com/example/pattern_automaton/patternautomaton/NonZeroTransitions -/
def k2 : Class := { plain "com/example/pattern_automaton/patternautomaton/NonZeroTransitions" (some 0) with
  accessFlags := 32
  interfaces := #[]
  cf := some (fileOf pool2 8 #[] #[{ accessFlags := 0, nameIndex := 5, descriptorIndex := 36, attributes := #[] }, { accessFlags := 0, nameIndex := 39, descriptorIndex := 40, attributes := #[] }, { accessFlags := 0, nameIndex := 42, descriptorIndex := 6, attributes := #[] }, { accessFlags := 0, nameIndex := 11, descriptorIndex := 35, attributes := #[] }, { accessFlags := 0, nameIndex := 34, descriptorIndex := 35, attributes := #[] }] 32 2 #[] #[{ accessFlags := 18, nameIndex := 11, descriptorIndex := 12, attributes := #[] }, { accessFlags := 2, nameIndex := 15, descriptorIndex := 12, attributes := #[] }, { accessFlags := 2, nameIndex := 18, descriptorIndex := 12, attributes := #[] }, { accessFlags := 2, nameIndex := 31, descriptorIndex := 22, attributes := #[] }, { accessFlags := 2, nameIndex := 21, descriptorIndex := 22, attributes := #[] }])
  fields := #[{ name := "first", type := (.array .int), accessFlags := 18, slot := 0, constantValue := 0 }, { name := "rows", type := (.array .int), accessFlags := 2, slot := 1, constantValue := 0 }, { name := "targets", type := (.array .int), accessFlags := 2, slot := 2, constantValue := 0 }, { name := "ended", type := .int, accessFlags := 2, slot := 3, constantValue := 0 }, { name := "size", type := .int, accessFlags := 2, slot := 4, constantValue := 0 }]
  methods := #[k2m0, k2m1, k2m2, k2m3, k2m4]
  instanceTypes := #[(.array .int), (.array .int), (.array .int), .int, .int]
  staticTypes := #[]
  resolved := Array.replicate 48 none
  statics := none }

def pool3 : Array CpInfo := pool [(2, .class_ 4), (1, u "java/lang/Object"), (0, u "<init>"), (0, u "()V"), (7, .class_ 16), (1, u "java/util/Arrays"), (57, .class_ 76), (1, u "java/util/Arrays$NaturalOrder"), (36, .class_ 115), (1, u "java/util/Arrays$LegacyMergeSort"), (1, u "Z"), (32, .methodref 151 152), (0, .class_ 153), (0, .nameAndType 154 155), (0, u "java/lang/System"), (0, u "arraycopy"), (0, u "(Ljava/lang/Object;ILjava/lang/Object;II)V"), (146, u "copyOf"), (1, .methodref 305 306), (0, .class_ 307), (0, .nameAndType 308 309), (0, u "java/lang/Math"), (0, u "min"), (0, u "(II)I"), (65, .class_ 376), (0, u "java/util/Arrays$ArrayList"), (68, u "$assertionsDisabled"), (269, u "MIN_ARRAY_SORT_GRAN"), (0, u "I"), (2, u "INSERTIONSORT_THRESHOLD"), (151, u "([II)[I"), (103, .class_ 976), (0, u "java/util/Arrays$ArrayItr")] 52

def k3m0 : Method := { name := "<init>", desc := "()V", sig := { parameters := [], returnType := none }, accessFlags := 2, code := none }
def k3c1 : Code := { maxStack := 6, maxLocals := 3, code := jdk_65_method_123_code, exceptionTable := #[], attributes := #[] }
def k3m1 : Method := { name := "copyOf", desc := "([II)[I", sig := { parameters := [(.array .int), .int], returnType := some (.array .int) }, accessFlags := 9, code := some k3c1 }
/-- java/util/Arrays -/
def k3 : Class := { plain "java/util/Arrays" (some 0) with
  accessFlags := 49
  interfaces := #[]
  cf := some (fileOf pool3 14 #[.nestMembers #[975, 375, 113, 74]] #[{ accessFlags := 2, nameIndex := 5, descriptorIndex := 6, attributes := #[] }, { accessFlags := 9, nameIndex := 302, descriptorIndex := 871, attributes := #[] }] 49 2 #[] #[{ accessFlags := 26, nameIndex := 715, descriptorIndex := 716, attributes := #[] }, { accessFlags := 26, nameIndex := 719, descriptorIndex := 716, attributes := #[] }, { accessFlags := 4120, nameIndex := 445, descriptorIndex := 117, attributes := #[] }])
  fields := #[{ name := "MIN_ARRAY_SORT_GRAN", type := .int, accessFlags := 26, slot := 0, constantValue := 0 }, { name := "INSERTIONSORT_THRESHOLD", type := .int, accessFlags := 26, slot := 1, constantValue := 0 }, { name := "$assertionsDisabled", type := .boolean, accessFlags := 4120, slot := 2, constantValue := 0 }]
  methods := #[k3m0, k3m1]
  instanceTypes := #[]
  staticTypes := #[.int, .int, .boolean]
  resolved := Array.replicate 1029 none
  statics := none }

def pool4 : Array CpInfo := pool [(1, .class_ 2), (0, u "java/lang/Math"), (1, .class_ 6), (1, u "java/lang/Object"), (0, u "<init>"), (0, u "()V"), (89, .class_ 100), (1, u "java/lang/Math$RandomNumberGeneratorHolder"), (71, u "negativeZeroFloatBits"), (0, u "J"), (2, u "negativeZeroDoubleBits"), (24, u "min"), (43, u "$assertionsDisabled"), (0, u "Z"), (88, u "(II)I"), (2, u "twoToTheDoubleScaleDown"), (0, u "D"), (4, u "twoToTheDoubleScaleUp"), (9, u "E"), (3, u "PI"), (2, u "TAU"), (2, u "DEGREES_TO_RADIANS"), (0, u "RADIANS_TO_DEGREES")] 94

def k4m0 : Method := { name := "<init>", desc := "()V", sig := { parameters := [], returnType := none }, accessFlags := 2, code := none }
def k4c1 : Code := { maxStack := 2, maxLocals := 2, code := jdk_29_method_69_code, exceptionTable := #[], attributes := #[] }
def k4m1 : Method := { name := "min", desc := "(II)I", sig := { parameters := [.int, .int], returnType := some .int }, accessFlags := 9, code := some k4c1 }
/-- java/lang/Math -/
def k4 : Class := { plain "java/lang/Math" (some 0) with
  accessFlags := 49
  interfaces := #[]
  cf := some (fileOf pool4 1 #[.nestMembers #[98]] #[{ accessFlags := 2, nameIndex := 7, descriptorIndex := 8, attributes := #[] }, { accessFlags := 9, nameIndex := 201, descriptorIndex := 335, attributes := #[] }] 49 4 #[] #[{ accessFlags := 25, nameIndex := 354, descriptorIndex := 339, attributes := #[] }, { accessFlags := 25, nameIndex := 358, descriptorIndex := 339, attributes := #[] }, { accessFlags := 25, nameIndex := 361, descriptorIndex := 339, attributes := #[] }, { accessFlags := 26, nameIndex := 364, descriptorIndex := 339, attributes := #[] }, { accessFlags := 26, nameIndex := 365, descriptorIndex := 339, attributes := #[] }, { accessFlags := 26, nameIndex := 172, descriptorIndex := 173, attributes := #[] }, { accessFlags := 26, nameIndex := 176, descriptorIndex := 173, attributes := #[] }, { accessFlags := 8, nameIndex := 344, descriptorIndex := 339, attributes := #[] }, { accessFlags := 8, nameIndex := 338, descriptorIndex := 339, attributes := #[] }, { accessFlags := 4120, nameIndex := 245, descriptorIndex := 246, attributes := #[] }])
  fields := #[{ name := "E", type := .double, accessFlags := 25, slot := 0, constantValue := 0 }, { name := "PI", type := .double, accessFlags := 25, slot := 1, constantValue := 0 }, { name := "TAU", type := .double, accessFlags := 25, slot := 2, constantValue := 0 }, { name := "DEGREES_TO_RADIANS", type := .double, accessFlags := 26, slot := 3, constantValue := 0 }, { name := "RADIANS_TO_DEGREES", type := .double, accessFlags := 26, slot := 4, constantValue := 0 }, { name := "negativeZeroFloatBits", type := .long, accessFlags := 26, slot := 5, constantValue := 0 }, { name := "negativeZeroDoubleBits", type := .long, accessFlags := 26, slot := 6, constantValue := 0 }, { name := "twoToTheDoubleScaleUp", type := .double, accessFlags := 8, slot := 7, constantValue := 0 }, { name := "twoToTheDoubleScaleDown", type := .double, accessFlags := 8, slot := 8, constantValue := 0 }, { name := "$assertionsDisabled", type := .boolean, accessFlags := 4120, slot := 9, constantValue := 0 }]
  methods := #[k4m0, k4m1]
  instanceTypes := #[]
  staticTypes := #[.double, .double, .double, .double, .double, .long, .long, .double, .double, .boolean]
  resolved := Array.replicate 460 none
  statics := none }

def pool5 : Array CpInfo := pool [(2, .class_ 4), (1, u "java/lang/Object"), (0, u "<init>"), (0, u "()V"), (1, .class_ 10), (1, u "java/lang/System"), (0, u "allowSecurityManager"), (0, u "I"), (16, u "cons"), (0, u "Ljava/io/Console;"), (77, .class_ 110), (1, u "java/lang/System$CallersHolder"), (43, u "initialErrStream"), (0, u "Ljava/io/PrintStream;"), (19, u "security"), (0, u "Ljava/lang/SecurityManager;"), (31, .class_ 209), (0, u "java/lang/System$1"), (7, u "props"), (0, u "Ljava/util/Properties;"), (2, u "lineSeparator"), (0, u "Ljava/lang/String;"), (96, .class_ 321), (1, u "java/lang/System$LoggerFinder"), (5, .class_ 328), (0, u "java/lang/System$Logger"), (67, u "err"), (2, u "out"), (91, u "notSupportedJnuEncoding"), (15, u "in"), (17, u "initialIn"), (0, u "Ljava/io/InputStream;"), (35, u "bootLayer"), (0, u "Ljava/lang/ModuleLayer;"), (99, .class_ 664), (0, u "java/lang/System$2"), (9, u "NEVER"), (2, u "MAYBE"), (49, u "arraycopy"), (0, u "(Ljava/lang/Object;ILjava/lang/Object;II)V"), (72, .class_ 802), (0, u "java/lang/System$Logger$Level")] 31

def k5m0 : Method := { name := "<init>", desc := "()V", sig := { parameters := [], returnType := none }, accessFlags := 2, code := none }
def k5m1 : Method := { name := "arraycopy", desc := "(Ljava/lang/Object;ILjava/lang/Object;II)V", sig := { parameters := [(.object "java/lang/Object"), .int, (.object "java/lang/Object"), .int, .int], returnType := none }, accessFlags := 265, code := none }
/-- java/lang/System -/
def k5 : Class := { plain "java/lang/System" (some 0) with
  accessFlags := 49
  interfaces := #[]
  cf := some (fileOf pool5 8 #[.nestMembers #[319, 327, 801, 108, 663, 208]] #[{ accessFlags := 2, nameIndex := 5, descriptorIndex := 6, attributes := #[] }, { accessFlags := 265, nameIndex := 727, descriptorIndex := 728, attributes := #[] }] 49 2 #[] #[{ accessFlags := 25, nameIndex := 507, descriptorIndex := 526, attributes := #[] }, { accessFlags := 25, nameIndex := 399, descriptorIndex := 155, attributes := #[] }, { accessFlags := 25, nameIndex := 396, descriptorIndex := 155, attributes := #[] }, { accessFlags := 10, nameIndex := 525, descriptorIndex := 526, attributes := #[] }, { accessFlags := 26, nameIndex := 674, descriptorIndex := 12, attributes := #[] }, { accessFlags := 26, nameIndex := 677, descriptorIndex := 12, attributes := #[] }, { accessFlags := 10, nameIndex := 11, descriptorIndex := 12, attributes := #[] }, { accessFlags := 74, nameIndex := 175, descriptorIndex := 176, attributes := #[] }, { accessFlags := 10, nameIndex := 491, descriptorIndex := 222, attributes := #[] }, { accessFlags := 74, nameIndex := 29, descriptorIndex := 30, attributes := #[] }, { accessFlags := 74, nameIndex := 154, descriptorIndex := 155, attributes := #[] }, { accessFlags := 10, nameIndex := 217, descriptorIndex := 218, attributes := #[] }, { accessFlags := 10, nameIndex := 221, descriptorIndex := 222, attributes := #[] }, { accessFlags := 8, nameIndex := 562, descriptorIndex := 563, attributes := #[] }])
  fields := #[{ name := "in", type := (.object "java/io/InputStream"), accessFlags := 25, slot := 0, constantValue := 0 }, { name := "out", type := (.object "java/io/PrintStream"), accessFlags := 25, slot := 1, constantValue := 0 }, { name := "err", type := (.object "java/io/PrintStream"), accessFlags := 25, slot := 2, constantValue := 0 }, { name := "initialIn", type := (.object "java/io/InputStream"), accessFlags := 10, slot := 3, constantValue := 0 }, { name := "NEVER", type := .int, accessFlags := 26, slot := 4, constantValue := 0 }, { name := "MAYBE", type := .int, accessFlags := 26, slot := 5, constantValue := 0 }, { name := "allowSecurityManager", type := .int, accessFlags := 10, slot := 6, constantValue := 0 }, { name := "security", type := (.object "java/lang/SecurityManager"), accessFlags := 74, slot := 7, constantValue := 0 }, { name := "notSupportedJnuEncoding", type := (.object "java/lang/String"), accessFlags := 10, slot := 8, constantValue := 0 }, { name := "cons", type := (.object "java/io/Console"), accessFlags := 74, slot := 9, constantValue := 0 }, { name := "initialErrStream", type := (.object "java/io/PrintStream"), accessFlags := 74, slot := 10, constantValue := 0 }, { name := "props", type := (.object "java/util/Properties"), accessFlags := 10, slot := 11, constantValue := 0 }, { name := "lineSeparator", type := (.object "java/lang/String"), accessFlags := 10, slot := 12, constantValue := 0 }, { name := "bootLayer", type := (.object "java/lang/ModuleLayer"), accessFlags := 8, slot := 13, constantValue := 0 }]
  methods := #[k5m0, k5m1]
  instanceTypes := #[]
  staticTypes := #[(.object "java/io/InputStream"), (.object "java/io/PrintStream"), (.object "java/io/PrintStream"), (.object "java/io/InputStream"), .int, .int, .int, (.object "java/lang/SecurityManager"), (.object "java/lang/String"), (.object "java/io/Console"), (.object "java/io/PrintStream"), (.object "java/util/Properties"), (.object "java/lang/String"), (.object "java/lang/ModuleLayer")]
  resolved := Array.replicate 834 none
  statics := none }

def pool6 : Array CpInfo := pool [(1, u "java/lang/Cloneable"), (0, .class_ 1), (0, u "java/lang/Object"), (0, .class_ 3)] 3

/-- java/lang/Cloneable -/
def k6 : Class := { plain "java/lang/Cloneable" (some 0) with
  accessFlags := 1537
  interfaces := #[]
  cf := some (fileOf pool6 2 #[] #[] 1537 4 #[] #[])
  fields := #[]
  methods := #[]
  instanceTypes := #[]
  staticTypes := #[]
  resolved := Array.replicate 8 none
  statics := none }

def pool7 : Array CpInfo := pool [(1, u "java/io/Serializable"), (0, .class_ 1), (0, u "java/lang/Object"), (0, .class_ 3)] 3

/-- java/io/Serializable -/
def k7 : Class := { plain "java/io/Serializable" (some 0) with
  accessFlags := 1537
  interfaces := #[]
  cf := some (fileOf pool7 2 #[] #[] 1537 4 #[] #[])
  fields := #[]
  methods := #[]
  instanceTypes := #[]
  staticTypes := #[]
  resolved := Array.replicate 8 none
  statics := none }

/-- the primitive byte -/
def k8 : Class := { plain "byte" none with kind := .primitive 'B', accessFlags := 0x411 }
/-- [B -/
def k9 : Class := { plain "[B" (some 0) with kind := .array 8 .byte, interfaces := #[6, 7], accessFlags := 1041 }

/-- the primitive int -/
def k10 : Class := { plain "int" none with kind := .primitive 'I', accessFlags := 0x411 }
/-- [I -/
def k11 : Class := { plain "[I" (some 0) with kind := .array 10 .int, interfaces := #[6, 7], accessFlags := 1041 }

def heap : Heap := #[]
def classes : Array Class := #[k0, k1, k2, k3, k4, k5, k6, k7, k8, k9, k10, k11]
def interned : List (Array UInt16 × Addr) := []
def slotsUsed : Nat := 0
def theMethod : MethodId := ⟨1, 2⟩
def args0 : Array Value := #[.int 1, .int 2, .int 3, .int 4]
def aboutOver (below : List Frame) : State where
  vm := { classes := classes, interned := interned.toArray }
  heap := heap
  slotsUsed := slotsUsed
  threads := #[{ frames := .invoking theMethod args0 :: below }]
def below0 : List Frame := [.native { method := ⟨0, 0⟩, args := #[] }]
def about1 : State := aboutOver below0
def p0 : Program := .bare "" "" ""
def e0 : Env := launch0.env 0 0 0
theorem w_frames : about1.frames = Frame.invoking theMethod args0 :: below0 := rfl
set_option maxRecDepth 65536 in
theorem w_args : argsFit about1.vm theMethod args0 = true := by decide +kernel
set_option maxRecDepth 65536 in
theorem w_heap : heapFits about1 = true := by decide +kernel
set_option maxRecDepth 65536 in
theorem w_runnable : about1.curStatus? = some .runnable := by decide +kernel
set_option maxRecDepth 65536 in
theorem w_alone : about1.alone = true := by decide +kernel
set_option maxRecDepth 65536 in
theorem w_named : about1.methodNamed? x = some theMethod := by decide +kernel
set_option maxRecDepth 65536 in
theorem w_hears : about1.hears theMethod below0 = true := by decide +kernel
set_option maxRecDepth 65536 in
theorem w_ripe : about1.ripe theMethod args0 below0 = true := by decide +kernel
theorem w_running : about1.status = .running := rfl
set_option maxRecDepth 65536 in
theorem w_room : about1.hasRoom e0.platform room_1 = true :=
  launch0.hasRoom_least _ room_1 (by decide +kernel) (by decide +kernel) (by decide +kernel) (by decide +kernel) (by decide +kernel) (by decide +kernel)
theorem allAtoms_all (ts : List Jvm.Cond) (a : Array Jvm.Value) (st : Jvm.State) : (allAtoms ts).before a st = ts.all (fun c => c.before a st) := by
  induction ts with
  | nil => rfl
  | cons c t ih =>
    show (Jvm.Cond.and c (allAtoms t)).before a st = _
    rw [Jvm.Cond.before_and, ih, List.all_cons]
def words1 : List Jvm.Cond := Jvm.Cond.code x code maxLocals ret :: tables_1
/-- a 'code' word, met by the world's own term for the bytes: nothing is compared byte by byte -/
theorem code_word {y : MethodName} {bytes : ByteArray} {mx : Nat} {rt : Option FieldType} {a : Array Value} {s : State} {m : MethodId} {meth : Method} {c : Code} (h1 : s.methodNamed? y = some m) (h2 : s.vm.method? m = some meth) (h3 : meth.code = some c) (h4 : c.code = bytes)
    (h5 : (c.maxLocals == mx && c.exceptionTable.isEmpty && decide (c.maxStack ≤ mostOperands) && decide (meth.sig.returnType = rt) && !meth.locks && decide (parseMethodDescriptor y.desc = some meth.sig)) = true) : (Jvm.Cond.code y bytes mx rt).before a s = true := by
  simp only [Bool.and_eq_true, beq_iff_eq, Bool.not_eq_true', decide_eq_true_eq] at h5
  obtain ⟨⟨⟨⟨⟨g1, g2⟩, g3⟩, g4⟩, g5⟩, g6⟩ := h5
  simp [Cond.before, Cond.holds, Cond.value, h1, h2, h3, h4, g1, g2, g3, g4, g5, g6]
def isCode : Jvm.Cond → Bool
  | .code _ _ _ _ => true
  | _ => false
theorem all_split {L : List Jvm.Cond} {P : Jvm.Cond → Bool} (h1 : L.all (fun c => isCode c || P c) = true) (h2 : ∀ c ∈ L.filter isCode, P c = true) : L.all P = true := by
  refine List.all_eq_true.mpr fun c hc => ?_
  have h := List.all_eq_true.mp h1 c hc
  rcases Bool.eq_false_or_eq_true (isCode c) with hi | hi
  · exact h2 c (List.mem_filter.mpr ⟨hc, hi⟩)
  · simpa [hi] using h
set_option maxRecDepth 65536 in
theorem w_c0 : (Jvm.Cond.code x code maxLocals ret).before args0 about1 = true := code_word (m := ⟨1, 2⟩) (meth := k1m2) (c := k1c2) (by decide +kernel) rfl rfl rfl (by decide +kernel)
set_option maxRecDepth 65536 in
theorem w_c1 : (Jvm.Cond.code ({ cls := "com/example/pattern_automaton/patternautomaton/NonZeroTransitions", name := "<init>", desc := "(I)V" } : Jvm.MethodName) prog_33_method_1_code (2 : Nat) (Option.none : Option Jvm.ClassFile.FieldType)).before args0 about1 = true := code_word (m := ⟨2, 0⟩) (meth := k2m0) (c := k2c0) (by decide +kernel) rfl rfl rfl (by decide +kernel)
set_option maxRecDepth 65536 in
theorem w_c2 : (Jvm.Cond.code ({ cls := "java/lang/Object", name := "<init>", desc := "()V" } : Jvm.MethodName) object_method_1_code (1 : Nat) (Option.none : Option Jvm.ClassFile.FieldType)).before args0 about1 = true := code_word (m := ⟨0, 0⟩) (meth := k0m0) (c := k0c0) (by decide +kernel) rfl rfl rfl (by decide +kernel)
set_option maxRecDepth 65536 in
theorem w_c3 : (Jvm.Cond.code ({ cls := "com/example/pattern_automaton/patternautomaton/NonZeroTransitionsEndStatePinLaw", name := "addN", desc := "(Lcom/example/pattern_automaton/patternautomaton/NonZeroTransitions;III)V" } : Jvm.MethodName) method_2_code (4 : Nat) (Option.none : Option Jvm.ClassFile.FieldType)).before args0 about1 = true := code_word (m := ⟨1, 1⟩) (meth := k1m1) (c := k1c1) (by decide +kernel) rfl rfl rfl (by decide +kernel)
set_option maxRecDepth 65536 in
theorem w_c4 : (Jvm.Cond.code ({ cls := "com/example/pattern_automaton/patternautomaton/NonZeroTransitions", name := "endState", desc := "()V" } : Jvm.MethodName) prog_33_method_3_code (1 : Nat) (Option.none : Option Jvm.ClassFile.FieldType)).before args0 about1 = true := code_word (m := ⟨2, 2⟩) (meth := k2m2) (c := k2c2) (by decide +kernel) rfl rfl rfl (by decide +kernel)
set_option maxRecDepth 65536 in
theorem w_c5 : (Jvm.Cond.code ({ cls := "com/example/pattern_automaton/patternautomaton/NonZeroTransitions", name := "first", desc := "(I)I" } : Jvm.MethodName) prog_33_method_4_code (2 : Nat) (Option.some Jvm.ClassFile.FieldType.int)).before args0 about1 = true := code_word (m := ⟨2, 3⟩) (meth := k2m3) (c := k2c3) (by decide +kernel) rfl rfl rfl (by decide +kernel)
set_option maxRecDepth 65536 in
theorem w_c6 : (Jvm.Cond.code ({ cls := "com/example/pattern_automaton/patternautomaton/NonZeroTransitions", name := "end", desc := "(I)I" } : Jvm.MethodName) prog_33_method_5_code (2 : Nat) (Option.some Jvm.ClassFile.FieldType.int)).before args0 about1 = true := code_word (m := ⟨2, 4⟩) (meth := k2m4) (c := k2c4) (by decide +kernel) rfl rfl rfl (by decide +kernel)
set_option maxRecDepth 65536 in
theorem w_c7 : (Jvm.Cond.code ({ cls := "com/example/pattern_automaton/patternautomaton/NonZeroTransitions", name := "add", desc := "(II)V" } : Jvm.MethodName) prog_33_method_2_code (3 : Nat) (Option.none : Option Jvm.ClassFile.FieldType)).before args0 about1 = true := code_word (m := ⟨2, 1⟩) (meth := k2m1) (c := k2c1) (by decide +kernel) rfl rfl rfl (by decide +kernel)
set_option maxRecDepth 65536 in
theorem w_c8 : (Jvm.Cond.code ({ cls := "java/util/Arrays", name := "copyOf", desc := "([II)[I" } : Jvm.MethodName) jdk_65_method_123_code (3 : Nat) (Option.some (Jvm.ClassFile.FieldType.array Jvm.ClassFile.FieldType.int))).before args0 about1 = true := code_word (m := ⟨3, 1⟩) (meth := k3m1) (c := k3c1) (by decide +kernel) rfl rfl rfl (by decide +kernel)
set_option maxRecDepth 65536 in
theorem w_c9 : (Jvm.Cond.code ({ cls := "java/lang/Math", name := "min", desc := "(II)I" } : Jvm.MethodName) jdk_29_method_69_code (2 : Nat) (Option.some Jvm.ClassFile.FieldType.int)).before args0 about1 = true := code_word (m := ⟨4, 1⟩) (meth := k4m1) (c := k4c1) (by decide +kernel) rfl rfl rfl (by decide +kernel)
def codes1 : List Jvm.Cond := [Jvm.Cond.code x code maxLocals ret, Jvm.Cond.code ({ cls := "com/example/pattern_automaton/patternautomaton/NonZeroTransitions", name := "<init>", desc := "(I)V" } : Jvm.MethodName) prog_33_method_1_code (2 : Nat) (Option.none : Option Jvm.ClassFile.FieldType), Jvm.Cond.code ({ cls := "java/lang/Object", name := "<init>", desc := "()V" } : Jvm.MethodName) object_method_1_code (1 : Nat) (Option.none : Option Jvm.ClassFile.FieldType), Jvm.Cond.code ({ cls := "com/example/pattern_automaton/patternautomaton/NonZeroTransitionsEndStatePinLaw", name := "addN", desc := "(Lcom/example/pattern_automaton/patternautomaton/NonZeroTransitions;III)V" } : Jvm.MethodName) method_2_code (4 : Nat) (Option.none : Option Jvm.ClassFile.FieldType), Jvm.Cond.code ({ cls := "com/example/pattern_automaton/patternautomaton/NonZeroTransitions", name := "endState", desc := "()V" } : Jvm.MethodName) prog_33_method_3_code (1 : Nat) (Option.none : Option Jvm.ClassFile.FieldType), Jvm.Cond.code ({ cls := "com/example/pattern_automaton/patternautomaton/NonZeroTransitions", name := "first", desc := "(I)I" } : Jvm.MethodName) prog_33_method_4_code (2 : Nat) (Option.some Jvm.ClassFile.FieldType.int), Jvm.Cond.code ({ cls := "com/example/pattern_automaton/patternautomaton/NonZeroTransitions", name := "end", desc := "(I)I" } : Jvm.MethodName) prog_33_method_5_code (2 : Nat) (Option.some Jvm.ClassFile.FieldType.int), Jvm.Cond.code ({ cls := "com/example/pattern_automaton/patternautomaton/NonZeroTransitions", name := "add", desc := "(II)V" } : Jvm.MethodName) prog_33_method_2_code (3 : Nat) (Option.none : Option Jvm.ClassFile.FieldType), Jvm.Cond.code ({ cls := "java/util/Arrays", name := "copyOf", desc := "([II)[I" } : Jvm.MethodName) jdk_65_method_123_code (3 : Nat) (Option.some (Jvm.ClassFile.FieldType.array Jvm.ClassFile.FieldType.int)), Jvm.Cond.code ({ cls := "java/lang/Math", name := "min", desc := "(II)I" } : Jvm.MethodName) jdk_29_method_69_code (2 : Nat) (Option.some Jvm.ClassFile.FieldType.int)]
set_option maxRecDepth 65536 in
theorem codes_eq : words1.filter isCode = codes1 := rfl
theorem w_codes : ∀ c ∈ words1.filter isCode, c.before args0 about1 = true := by
  rw [codes_eq]
  intro c hc
  simp only [codes1, List.mem_cons, List.not_mem_nil, or_false] at hc
  rcases hc with rfl | rfl | rfl | rfl | rfl | rfl | rfl | rfl | rfl | rfl
  · exact w_c0
  · exact w_c1
  · exact w_c2
  · exact w_c3
  · exact w_c4
  · exact w_c5
  · exact w_c6
  · exact w_c7
  · exact w_c8
  · exact w_c9
set_option maxRecDepth 65536 in
theorem w_t1 : (words1.take 24).all (fun c => isCode c || c.before args0 about1) = true := by decide +kernel
set_option maxRecDepth 65536 in
theorem w_t2 : ((words1.drop 24).take 24).all (fun c => isCode c || c.before args0 about1) = true := by decide +kernel
set_option maxRecDepth 65536 in
theorem w_t3 : ((words1.drop 24).drop 24).all (fun c => isCode c || c.before args0 about1) = true := by decide +kernel
theorem w_tables : (allAtoms (Jvm.Cond.code x code maxLocals ret :: tables_1)).before args0 about1 = true := by
  rw [allAtoms_all]
  show words1.all (fun c => c.before args0 about1) = true
  refine all_split ?_ w_codes
  rw [← List.take_append_drop 24 words1, List.all_append, w_t1, ← List.take_append_drop 24 (words1.drop 24), List.all_append, w_t2, w_t3]
  rfl
set_option maxRecDepth 65536 in
theorem w_case : (Jvm.Cond.and given_1 narrow_1).before args0 about1 = true := by decide +kernel
theorem w_applies : (headSpec (Jvm.Cond.code x code maxLocals ret :: tables_1) room_1).applies x e0.platform about1 = true :=
  (Spec.applies_iff w_frames).mpr ⟨w_running, w_runnable, w_alone, w_named, w_hears, w_ripe, w_room, w_tables⟩
theorem atStart : AtStart classFile x code maxLocals ret World_1 tables_1 room_1 Calls_1 rest_1 Pre_1 launch0 p0 e0 about1 theMethod args0 below0 :=
  ⟨lists_1, trivial, launch0.admits_env _ _ _, launch0.least_env, fairChoices_fair.cas, fairChoices_fair.clock, w_frames, w_args, w_heap, w_applies, trivial, trivial, w_case⟩
end start1
theorem witness_1 : WitnessClaimed_1 := ⟨start1.p0, start1.e0, start1.about1, start1.theMethod, start1.args0, start1.below0, start1.atStart⟩
end Jvm.Pilot.@@N@@
