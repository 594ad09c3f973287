import JvmDerived
import JvmDerived.Pilot.@@N@@Statement
import JvmDerived.Pilot.@@N@@Code
set_option linter.unusedVariables false
set_option linter.unusedSimpArgs false
@@BLOCK:NumsL.lean.txt@@
namespace Jvm.RoadKit
open Sem ClassFile Op Lib Jvm.Stand Jvm.Free Jvm.LawKit
section Own
variable {p : Program} {l : Launch} {e : Env} {R : Room} {s : State} {m : MethodId} {args : Array Value} {below : List Frame} {meth : Method} {c : Code} {T : State} {locs : List Loc} {cells slots : Nat} {Z : State} {h h' : Heap} {a b : Addr} {ty : FieldType} {vs : List Value} {cl : Cell} {sl : Nat} {v : Value} {ws : List Addr}
theorem mw {α : Type} {x : α} {L : List α} (i : Nat) (q : L[i]? = some x) : x ∈ L := List.mem_of_getElem? q
/-- from A the body comes to its end, and Q holds there -/
def Goal (p : Program) (e : Env) (below : List Frame) (s : State) (Q : Option Value → Heap → List Loc → Prop) (k n : Nat) (A : State) : Prop :=
  ∃ s₂ o, Steps p.tables e below A s₂ ∧ s₂.status = .running ∧ Ended s₂ below o ∧ ∃ v L, o = .returned v ∧ Q v s₂.heap L ∧ FrameEnd s o s₂ L k n
variable {Q : Option Value → Heap → List Loc → Prop} {k n : Nat} {A B : State}
theorem Goal.to (f : ∀ t, Steps p.tables e below B t → Steps p.tables e below A t) (g : Goal p e below s Q k n B) : Goal p e below s Q k n A := by
  obtain ⟨s₂, o, h1, r⟩ := g
  exact ⟨s₂, o, f _ h1, r⟩
theorem Goal.tr (f : Steps p.tables e below A B) (g : Goal p e below s Q k n B) : Goal p e below s Q k n A := Goal.to (fun t q => f.trans q) g
theorem Goal.retV (X : Stand p l e R s m args below meth c T locs cells slots) (hx : p.tables.exec = Jvm.exec) {pc : Nat} {Ls : Array Slot} {w : Value} {t : FieldType} {i : Instr} {rest : List Value} (hret : meth.sig.returnType = some t) (hn : narrow t w = w)
    (hi : (i = .ireturn ∧ (t = .int ∨ t = .boolean ∨ t = .byte ∨ t = .char ∨ t = .short) ∧ ∃ z, w = .int z) ∨ (i = .lreturn ∧ t = .long ∧ ∃ z, w = .long z) ∨ (i = .dreturn ∧ t = .double ∧ ∃ z, w = .double z) ∨ (i = .freturn ∧ t = .float ∧ ∃ z, w = .float z) ∨ (i = .areturn ∧ t.isReference = true ∧ w.isRef = true))
    (hd : decode c.code pc = .ok (i, 1)) (hlk : meth.locks = false) (eT : T.heap = h) (hq : Q (some w) h locs) (hc : cells ≤ k) (hs : slots ≤ n) : Goal p e below s Q k n (T.setTop (mkF m pc Ls (w :: rest))) := by
  obtain ⟨fs, hr, hrun, hended, hW, hsame⟩ := X.leave (v := some w) (fun h => by rw [hret] at h; cases h) hlk
  refine ⟨_, _, retOut X hx hret hn hi hd hr, hrun, hended, _, _, rfl, ?_, ⟨_, rfl⟩, hW, hsame.mono hc hs⟩
  show Q (some w) T.heap locs
  rw [eT]; exact hq
theorem Goal.retN (X : Stand p l e R s m args below meth c T locs cells slots) (hx : p.tables.exec = Jvm.exec) {pc : Nat} {Ls : Array Slot} (hret : meth.sig.returnType = none)
    (hd : decode c.code pc = .ok (.return_, 1)) (hlk : meth.locks = false) (eT : T.heap = h) (hq : Q none h locs) (hc : cells ≤ k) (hs : slots ≤ n) : Goal p e below s Q k n (T.setTop (mkF m pc Ls [])) := by
  obtain ⟨fs, hr, hrun, hended, hW, hsame⟩ := X.leave (v := none) (fun _ => rfl) hlk
  refine ⟨_, _, X.returnOut hx hret hd hr, hrun, hended, _, _, rfl, ?_, ⟨_, rfl⟩, hW, hsame.mono hc hs⟩
  show Q none T.heap locs
  rw [eT]; exact hq
/-- the same, with the wide end: texts may have been interned -/
def GoalW (p : Program) (e : Env) (below : List Frame) (s : State) (Q : Option Value → Heap → List Loc → Prop) (k n : Nat) (A : State) : Prop :=
  ∃ s₂ o, Steps p.tables e below A s₂ ∧ s₂.status = .running ∧ Ended s₂ below o ∧ ∃ v L, o = .returned v ∧ Q v s₂.heap L ∧ ReturnedEndW s o s₂ L k n
theorem GoalW.to (f : ∀ t, Steps p.tables e below B t → Steps p.tables e below A t) (g : GoalW p e below s Q k n B) : GoalW p e below s Q k n A := by
  obtain ⟨s₂, o, h1, r⟩ := g
  exact ⟨s₂, o, f _ h1, r⟩
theorem GoalW.tr (f : Steps p.tables e below A B) (g : GoalW p e below s Q k n B) : GoalW p e below s Q k n A := GoalW.to (fun t q => f.trans q) g
theorem GoalW.retV {vm0 : Vm} (X : Stand p l e R (s.setVm vm0) m args below meth c T locs cells slots) {k0 : Nat} (hS : s.Since vm0 k0) (hx : p.tables.exec = Jvm.exec) {pc : Nat} {Ls : Array Slot} {w : Value} {t : FieldType} {i : Instr} {rest : List Value} (hret : meth.sig.returnType = some t) (hn : narrow t w = w)
    (hi : (i = .ireturn ∧ (t = .int ∨ t = .boolean ∨ t = .byte ∨ t = .char ∨ t = .short) ∧ ∃ z, w = .int z) ∨ (i = .lreturn ∧ t = .long ∧ ∃ z, w = .long z) ∨ (i = .dreturn ∧ t = .double ∧ ∃ z, w = .double z) ∨ (i = .freturn ∧ t = .float ∧ ∃ z, w = .float z) ∨ (i = .areturn ∧ t.isReference = true ∧ w.isRef = true))
    (hd : decode c.code pc = .ok (i, 1)) (hlk : meth.locks = false) (eT : T.heap = h) (hk : k0 ≤ h.size) (hq : Q (some w) h locs) (hc : cells ≤ k) (hs : slots ≤ n) : GoalW p e below s Q k n (T.setTop (mkF m pc Ls (w :: rest))) := by
  obtain ⟨fs, hr, hrun, hended, e1, e2, e3, e4⟩ := X.leaveW hS (by rw [eT]; exact hk) (v := some w) (fun h => by rw [hret] at h; cases h) hlk
  refine ⟨_, _, retOut X hx hret hn hi hd hr, hrun, hended, _, _, rfl, ?_, e1, e2, e3, e4.mono hc hs⟩
  show Q (some w) T.heap locs
  rw [eT]; exact hq
theorem nar01 {z : Int32} (q : z = 0 ∨ z = 1) : narrow .boolean (.int z) = .int z := by rcases q with rfl | rfl <;> rfl
theorem catV {r : Value} (q : r.isRef = true) : r.category = 1 := by rcases ref_cases q with rfl | ⟨o, rfl⟩ <;> rfl
theorem catR {o : Addr} : (Value.ref o).category = 1 := rfl
theorem catI {z : Int32} : (Value.int z).category = 1 := rfl
theorem catJ {z : Int64} : (Value.long z).category = 2 := rfl
theorem catN : Value.null.category = 1 := rfl
theorem narV {r : Value} {C : String} (q : r.isRef = true) : narrow (.object C) r = r := by rcases ref_cases q with rfl | ⟨o, rfl⟩ <;> rfl
theorem fitV {r : Value} {C : String} (q : r.isRef = true) : fits (.object C) r = true := by rcases ref_cases q with rfl | ⟨o, rfl⟩ <;> rfl
theorem selP {a0 : Array Value} {y : MethodName} {n : Nat} (hZ : Z.Warmed39 s.vm) (hins : (Cond.instantiable y.cls n).before a0 Z = true) (hp : (Cond.privateMethod y).before a0 Z = true) (hi : (Cond.instanceMethod y).before a0 Z = true) (hy : y.cls ≠ "java/lang/invoke/MethodHandle" ∧ y.cls ≠ "java/lang/invoke/VarHandle") : (Cond.selects y.cls y y).before args s = true := by
  obtain ⟨c, k, hc, hk, -, hniab, -, -⟩ := Cond.instantiable_spec (mv (args := args) hZ hins)
  exact selects_self_of_private hc hk (Bool.or_eq_false_iff.mp hniab).1 (Cond.privateMethod_at (mvP (args := args) hZ hp)) (mv hZ hi) hy
theorem Fld.cast {C n d : String} {w : Value} (F : Fld Z h a C n d v) (q : v = w) : Fld Z h a C n d w := q ▸ F
/-- an array of the heap by the whole list of what it holds -/
def Ary (Z : State) (h : Heap) (a : Addr) (ty : FieldType) (vs : List Value) : Prop := ∃ cl : Cell, Arr Z h a cl ty ∧ cl.slots.toList = vs
theorem Ary.cast {ws : List Value} (F : Ary Z h a ty vs) (q : vs = ws) : Ary Z h a ty ws := q ▸ F
theorem Ary.lt (F : Ary Z h a ty vs) : a < h.size := by obtain ⟨cl, A, -⟩ := F; exact A.lt
theorem Ary.ext (F : Ary Z h a ty vs) (E : Ext h h') : Ary Z h' a ty vs := by obtain ⟨cl, A, r⟩ := F; exact ⟨cl, A.ext E, r⟩
theorem Ary.other (F : Ary Z h a ty vs) (W : Wr h h' b sl v) (q : a ≠ b) : Ary Z h' a ty vs := by obtain ⟨cl, A, r⟩ := F; exact ⟨cl, A.other W q, r⟩
theorem Ary.keep (F : Ary Z h a ty vs) (K : Keep h h' ws) (q : a ∉ ws) : Ary Z h' a ty vs := by obtain ⟨cl, A, r⟩ := F; exact ⟨cl, ⟨K.2.1 a cl A.1 q, A.2⟩, r⟩
theorem Ary.new {k : ClassId} {z : Int32} {N : Nat} (A : Arr Z h a (newA k ty z) ty) (hz : z.toNatClampNeg = N) : Ary Z h a ty (List.replicate N (defaultValue ty)) := ⟨_, A, by simp [newA, hz]⟩
theorem Ary.put {j : Nat} {N : Nat} (A : Arr Z h a cl ty) (S : cl.slots.toList = vs) (W : Wr h h' a j v) (q : j = N) : Ary Z h' a ty (vs.set N v) := ⟨_, A.same W, by subst q; simp [Cell.setSlot, S]⟩
theorem sizeA (S : cl.slots.toList = vs) : cl.slots.size = vs.length := by rw [← S]; simp
theorem inA {j : Int32} (S : cl.slots.toList = vs) (q : ¬ j < 0) (r : j.toNatClampNeg < vs.length) : ¬ (j < 0 ∨ cl.slots.size ≤ j.toNatClampNeg) := by rw [sizeA S]; intro u; rcases u with u | u; exact q u; exact absurd r (Nat.not_lt.mpr u)
theorem atA {j : Nat} (S : cl.slots.toList = vs) (q : vs[j]? = some v) : cl.slots[j]? = some v := by rw [← q, ← S]; simp
theorem lenA {z : Int32} (S : cl.slots.toList = vs) (q : vs.length.toInt32 = z) : cl.slots.size.toInt32 = z := by rw [sizeA S]; exact q
/-- a static that stood when the law began, and what it holds -/
def StaN (Z : State) (n0 : Nat) (h : Heap) (C n d : String) (v : Value) : Prop := ∃ (cf i : Nat) (k : Class) (f : Field) (st : Addr) (cell : Cell), Z.fieldFound? C n d = some (cf, k, i, f) ∧ f.isStatic = true ∧ k.init = .initialized ∧ k.statics = some st ∧ h[st]? = some cell ∧ cell.vm.isStatics = true ∧ cell.slots[f.slot]? = some v ∧ st < n0
section StaN
variable {C nm d : String} {n0 : Nat}
theorem StaN.sta (F : StaN Z n0 h C nm d v) : Sta Z h C nm d v := by obtain ⟨cf, i, k, f, st, cell, h1, h2, h3, h4, h5, h6, h7, -⟩ := F; exact ⟨cf, i, k, f, st, cell, h1, h2, h3, h4, h5, h6, h7⟩
theorem Sta.toN (F : Sta Z h C nm d v) : StaN Z h.size h C nm d v := by obtain ⟨cf, i, k, f, st, cell, h1, h2, h3, h4, h5, h6, h7⟩ := F; exact ⟨cf, i, k, f, st, cell, h1, h2, h3, h4, h5, h6, h7, (Array.getElem?_eq_some_iff.mp h5).1⟩
theorem StaN.ext (F : StaN Z n0 h C nm d v) (E : Ext h h') : StaN Z n0 h' C nm d v := by obtain ⟨cf, i, k, f, st, cell, h1, h2, h3, h4, h5, r⟩ := F; exact ⟨cf, i, k, f, st, cell, h1, h2, h3, h4, E.2 _ _ h5, r⟩
theorem StaN.keep (F : StaN Z n0 h C nm d v) (K : Keep h h' ws) (q : ∀ x ∈ ws, n0 ≤ x) : StaN Z n0 h' C nm d v := by
  obtain ⟨cf, i, k, f, st, cell, h1, h2, h3, h4, h5, h6, h7, h8⟩ := F
  exact ⟨cf, i, k, f, st, cell, h1, h2, h3, h4, K.2.1 _ _ h5 (fun z => absurd h8 (Nat.not_lt.mpr (q _ z))), h6, h7, h8⟩
theorem StaN.wr {w : Value} (F : StaN Z n0 h C nm d v) (W : Wr h h' a sl w) : StaN Z n0 h' C nm d v := by
  obtain ⟨cf, i, k, f, st, cell, h1, h2, h3, h4, h5, h6, h7, h8⟩ := F
  obtain ⟨c', e1, -, -, -, e5, -, e7⟩ := wr_at W h5
  have ne : st ≠ a := fun e => by rw [(e7 e).2.2] at h6; cases h6
  exact ⟨cf, i, k, f, st, cell, h1, h2, h3, h4, by rw [← e5 ne]; exact e1, h6, h7, h8⟩
end StaN
/-- what may lie in an array of objects of class C (of arrays of class C) -/
def OvrO (Z : State) (h : Heap) (a : Addr) (C : String) : Prop := ∃ cl : Cell, h[a]? = some cl ∧ Ovr Z cl.cls C
theorem OvrO.ext {C : String} (F : OvrO Z h a C) (E : Ext h h') : OvrO Z h' a C := by obtain ⟨cl, h1, r⟩ := F; exact ⟨cl, E.2 _ _ h1, r⟩
theorem OvrO.wr {C : String} (F : OvrO Z h a C) (W : Wr h h' b sl v) : OvrO Z h' a C := by obtain ⟨cl, h1, r⟩ := F; obtain ⟨c', e1, e2, -⟩ := wr_at W h1; exact ⟨c', e1, by rw [e2]; exact r⟩
theorem OvrO.keep {C : String} (F : OvrO Z h a C) (K : Keep h h' ws) : OvrO Z h' a C := by obtain ⟨cl, h1, r⟩ := F; obtain ⟨c', e1, e2, -⟩ := K.2.2 _ _ h1; exact ⟨c', e1, by rw [e2]; exact r⟩
theorem stoO {C : String} {y : Addr} (A : Arr Z h a cl ty) (O : OvrO Z h a C) (I : Ins Z h y C true) : Sto Z h a (.ref y) := by
  obtain ⟨c', h1, r⟩ := O
  cases A.1.symm.trans h1
  exact Sto.of A r I
def OvrB (Z : State) (h : Heap) (a : Addr) (C : String) : Prop := ∃ (cl : Cell) (t : FieldType), h[a]? = some cl ∧ OvrA Z cl.cls t C
theorem OvrB.ext {C : String} (F : OvrB Z h a C) (E : Ext h h') : OvrB Z h' a C := by obtain ⟨cl, t, h1, r⟩ := F; exact ⟨cl, t, E.2 _ _ h1, r⟩
theorem OvrB.wr {C : String} (F : OvrB Z h a C) (W : Wr h h' b sl v) : OvrB Z h' a C := by obtain ⟨cl, t, h1, r⟩ := F; obtain ⟨c', e1, e2, -⟩ := wr_at W h1; exact ⟨c', t, e1, by rw [e2]; exact r⟩
theorem OvrB.keep {C : String} (F : OvrB Z h a C) (K : Keep h h' ws) : OvrB Z h' a C := by obtain ⟨cl, t, h1, r⟩ := F; obtain ⟨c', e1, e2, -⟩ := K.2.2 _ _ h1; exact ⟨c', t, e1, by rw [e2]; exact r⟩
theorem stoB {C : String} {y : Addr} (A : Arr Z h a cl ty) (O : OvrB Z h a C) (I : Ins Z h y C true) : Sto Z h a (.ref y) := by
  obtain ⟨c', t, h1, r⟩ := O
  cases A.1.symm.trans h1
  exact Sto.ofVA A rfl r I
theorem fits_nil : ∀ w ∈ ([] : List Value), fits ty w = true := fun _ q => nomatch q
theorem fits_cons (q : fits ty v = true) (r : ∀ w ∈ vs, fits ty w = true) : ∀ w ∈ v :: vs, fits ty w = true := fun w z => (List.mem_cons.mp z).elim (fun u => u ▸ q) (r w)
theorem Ary.arv {dv : Value} {z : Int32} (F : Ary Z h a ty vs) (hz : z.toNatClampNeg = vs.length) (h0 : ¬ z < 0) (hf : ∀ w ∈ vs, fits ty w = true) : ∃ k, Arv Z h a k ty z vs dv := by
  obtain ⟨cl, A, S⟩ := F
  have sz : cl.slots.size = vs.length := sizeA S
  refine ⟨_, cl, A, rfl, sz.trans hz.symm, h0, fun i hi => ?_, fun i hi => ?_⟩
  · rw [sz] at hi
    refine atA S ?_
    rw [List.getD_eq_getElem?_getD, List.getElem?_eq_getElem hi]; rfl
  · rw [sz] at hi
    rw [List.getD_eq_getElem?_getD, List.getElem?_eq_getElem hi]
    exact hf _ (List.getElem_mem hi)
theorem Arv.ary {k : ClassId} {z : Int32} {dv : Value} (F : Arv Z h a k ty z vs dv) (hz : z.toNatClampNeg = vs.length) : Ary Z h a ty vs := by
  obtain ⟨cl, A, -, S, -, H, -⟩ := F
  refine ⟨cl, A, List.ext_getElem? fun i => ?_⟩
  by_cases hi : i < cl.slots.size
  · have q := H i hi
    have hv : i < vs.length := by omega
    rw [List.getD_eq_getElem?_getD, List.getElem?_eq_getElem hv] at q
    rw [List.getElem?_eq_getElem hv, Array.getElem?_toList]; exact q
  · rw [List.getElem?_eq_none (by simp; omega), List.getElem?_eq_none (by omega)]
theorem storeV {Ls : Array Slot} {i : Nat} {r : Value} {o : Slot} {l' : Array Slot} (q : r.isRef = true) (ho : o = .unset ∨ ∃ w, o = .val w ∧ w.category = 1) (hold : Ls[i]? = some o := by rfl) (hl : Ls.setIfInBounds i (.val r) = l' := by rfl) : storeLocals Ls i r = some l' := by
  rw [← hl]; exact XS.store1 hold ho (catV q)
end Own
end Jvm.RoadKit
namespace Jvm.Pilot.@@N@@
open Jvm Jvm.ClassFile Sem Op Lib Jvm.Free Jvm.Stand Jvm.LawKit Jvm.RoadKit Bundle Jvm.Pilot.@@N@@.Jvm.D
theorem own_if (P : Prop) [Decidable P] : (if P then (1 : Int32) else (0 : Int32)) = 0 ∨ (if P then (1 : Int32) else (0 : Int32)) = 1 := by
  by_cases h : P
  · exact Or.inr (if_pos h)
  · exact Or.inl (if_neg h)
theorem ef_1 (m : MethodId) (x0 : Int32) (x1 : Int32)  : entryFrame m #[(.int x0), (.int x1)] 2 = mkF m 0 #[.val (.int x0), .val (.int x1)] [] := by first | (simp [entryFrame, mkF, argsToLocals, Value.category]; done) | rfl
theorem d1_0 : decode jdk_29_method_69_code 0 = .ok (.iload_n 0, 1) := by decide +kernel
theorem d1_1 : decode jdk_29_method_69_code 1 = .ok (.iload_n 1, 1) := by decide +kernel
theorem d1_2 : decode jdk_29_method_69_code 2 = .ok (.if_icmp .gt 7, 3) := by decide +kernel
theorem d1_9 : decode jdk_29_method_69_code 9 = .ok (.iload_n 1, 1) := by decide +kernel
theorem d1_5 : decode jdk_29_method_69_code 5 = .ok (.iload_n 0, 1) := by decide +kernel
theorem d1_6 : decode jdk_29_method_69_code 6 = .ok (.goto 4, 3) := by decide +kernel
theorem d1_10 : decode jdk_29_method_69_code 10 = .ok (.ireturn, 1) := by decide +kernel
def Qmi (Z : State) (u0 : Int32) (u1 : Int32) (h0 : Heap) (n0 : Nat) (v : Option Value) (h : Heap) (L : List Loc) : Prop := v = some (.int (if u1 < u0 then u1 else u0)) ∧ Fr n0 L ∧ h = h0
set_option maxRecDepth 65536 in
set_option maxHeartbeats 40000000 in
theorem rmmi (l : Launch) (Z : State) (a0 : Array Value) (hw : ∀ d ∈ tables_1, d.before a0 Z = true) (ws : List Jvm.Cond) (u0 : Int32) (u1 : Int32) (h0 : Heap) (n0 : Nat) (Z0 : n0 ≤ h0.size) :
    MetFree l (⟨"java/lang/Math", "min", "(II)I"⟩ : MethodName) (head1 (Jvm.Cond.code (⟨"java/lang/Math", "min", "(II)I"⟩ : MethodName) jdk_29_method_69_code 2 (some .int) :: ws) ({ frames := 0, cells := 0, slots := 0, locals := 0 } : Room)) (fun a U => a = #[(.int u0), (.int u1)] ∧ Z.Warmed39 U.vm ∧ U.heap = h0) (fun _ _ _ _ _ => True) (fun _ U o U' => ∃ v L, o = .returned v ∧ Qmi Z u0 u1 h0 n0 v U'.heap L ∧ FrameEnd U o U' L 0 0) := by
  refine MetFree.of_bodySF (Jvm.Free.JP.mathPlain rfl (by decide +kernel)) hisR ?_
  intro p e s m args below meth c s₁ Bd hml0 hP hK
  obtain ⟨rfl, hZ, hh⟩ := hP
  have hx := Bd.exec
  have hby := Bd.bytes
  have hml : c.maxLocals = 2 := hml0
  have hown : s.vm.findClass "java/lang/Math" = some m.cls := findClass_of_methodNamed Bd.named
  have hnm := (name_of_methodNamed Bd.named Bd.method).1
  have X0 : Stand p l e ({ frames := 0, cells := 0, slots := 0, locals := 0 } : Room) s m #[(.int u0), (.int u1)] below meth c s₁ [] 0 0 := Stand.of_body Bd
  have e0 : s₁.heap = h0 := by rw [← hh, Bd.state]; rfl
  have N0 := Fr.nil n0
  have hlk : meth.locks = false := BodyLoose.notSynchronized Bd
  show Goal p e below s (Qmi Z u0 u1 h0 n0) 0 0 (s₁.setTop (entryFrame m #[(.int u0), (.int u1)] 2))
  refine Goal.to (B := s₁.setTop (mkF m 0 #[.val (.int u0), .val (.int u1)] [])) (fun tt kk => castTop (ef_1 m u0 u1 ) kk) ?_
  refine Goal.to (B := s₁.setTop (mkF m 2 #[.val (.int u0), .val (.int u1)] [(.int u1), (.int u0)])) (fun tt kk => ?_) ?_
  · show Steps p.tables e below (s₁.setTop (mkF m 0 #[.val (.int u0), .val (.int u1)] [])) tt
    refine XS.iloadN X0.here hx rfl (hb hby d1_0) rfl ?_
    show Steps p.tables e below (s₁.setTop (mkF m 1 #[.val (.int u0), .val (.int u1)] [(.int u0)])) tt
    refine XS.iloadN X0.here hx rfl (hb hby d1_1) rfl ?_
    exact kk
  obtain ⟨w2, hw2⟩ : ∃ z : Int32, z = if u1 < u0 then u1 else u0 := ⟨_, rfl⟩
  refine Goal.to (B := s₁.setTop (mkF m 10 #[.val (.int u0), .val (.int u1)] [(.int w2)])) (fun tt kk => ?_) ?_
  · by_cases hc1 : u1 < u0
    · have qw2 : w2 = u1 := by rw [hw2, if_pos hc1]
      rw [qw2] at kk
      show Steps p.tables e below (s₁.setTop (mkF m 2 #[.val (.int u0), .val (.int u1)] [(.int u1), (.int u0)])) tt
      refine XS.icmpYes X0.here hx rfl (pc0 := 2) (pc' := 9) rfl (hb hby d1_2) rfl (tlt hc1).2.2.1 (by decide) (by decide) ?_
      show Steps p.tables e below (s₁.setTop (mkF m 9 #[.val (.int u0), .val (.int u1)] [])) tt
      refine XS.iloadN X0.here hx rfl (hb hby d1_9) rfl ?_
      exact kk
    · have qw2 : w2 = u0 := by rw [hw2, if_neg hc1]
      rw [qw2] at kk
      show Steps p.tables e below (s₁.setTop (mkF m 2 #[.val (.int u0), .val (.int u1)] [(.int u1), (.int u0)])) tt
      refine XS.icmpNo X0.here hx rfl (hb hby d1_2) rfl (flt hc1).2.2.1 ?_
      show Steps p.tables e below (s₁.setTop (mkF m 5 #[.val (.int u0), .val (.int u1)] [])) tt
      refine XS.iloadN X0.here hx rfl (hb hby d1_5) rfl ?_
      show Steps p.tables e below (s₁.setTop (mkF m 6 #[.val (.int u0), .val (.int u1)] [(.int u0)])) tt
      refine XS.goto X0.here hx rfl (pc0 := 6) (pc' := 10) rfl (hb hby d1_6) (by decide) (by decide) ?_
      exact kk
  exact Goal.retV X0 hx Bd.returns rfl (Or.inl ⟨rfl, Or.inl rfl, _, rfl⟩) (hb hby d1_10) hlk e0 ⟨(congrArg some (by rw [hw2] : ((.int w2) : Value) = (.int (if u1 < u0 then u1 else u0)))), N0, rfl⟩ (by decide) (by decide)
theorem ef_2 (m : MethodId) (x0 : Int32) (x1 : Int32)  : entryFrame m #[(.int x0), (.int x1)] 2 = mkF m 0 #[.val (.int x0), .val (.int x1)] [] := by first | (simp [entryFrame, mkF, argsToLocals, Value.category]; done) | rfl
theorem d2_0 : decode jdk_29_method_65_code 0 = .ok (.iload_n 0, 1) := by decide +kernel
theorem d2_1 : decode jdk_29_method_65_code 1 = .ok (.iload_n 1, 1) := by decide +kernel
theorem d2_2 : decode jdk_29_method_65_code 2 = .ok (.if_icmp .lt 7, 3) := by decide +kernel
theorem d2_9 : decode jdk_29_method_65_code 9 = .ok (.iload_n 1, 1) := by decide +kernel
theorem d2_5 : decode jdk_29_method_65_code 5 = .ok (.iload_n 0, 1) := by decide +kernel
theorem d2_6 : decode jdk_29_method_65_code 6 = .ok (.goto 4, 3) := by decide +kernel
theorem d2_10 : decode jdk_29_method_65_code 10 = .ok (.ireturn, 1) := by decide +kernel
def Qma (Z : State) (u0 : Int32) (u1 : Int32) (h0 : Heap) (n0 : Nat) (v : Option Value) (h : Heap) (L : List Loc) : Prop := v = some (.int (if u0 < u1 then u1 else u0)) ∧ Fr n0 L ∧ h = h0
set_option maxRecDepth 65536 in
set_option maxHeartbeats 40000000 in
theorem rmma (l : Launch) (Z : State) (a0 : Array Value) (hw : ∀ d ∈ tables_1, d.before a0 Z = true) (ws : List Jvm.Cond) (u0 : Int32) (u1 : Int32) (h0 : Heap) (n0 : Nat) (Z0 : n0 ≤ h0.size) :
    MetFree l (⟨"java/lang/Math", "max", "(II)I"⟩ : MethodName) (head1 (Jvm.Cond.code (⟨"java/lang/Math", "max", "(II)I"⟩ : MethodName) jdk_29_method_65_code 2 (some .int) :: ws) ({ frames := 0, cells := 0, slots := 0, locals := 0 } : Room)) (fun a U => a = #[(.int u0), (.int u1)] ∧ Z.Warmed39 U.vm ∧ U.heap = h0) (fun _ _ _ _ _ => True) (fun _ U o U' => ∃ v L, o = .returned v ∧ Qma Z u0 u1 h0 n0 v U'.heap L ∧ FrameEnd U o U' L 0 0) := by
  refine MetFree.of_bodySF (Jvm.Free.JP.mathPlain rfl (by decide +kernel)) hisR ?_
  intro p e s m args below meth c s₁ Bd hml0 hP hK
  obtain ⟨rfl, hZ, hh⟩ := hP
  have hx := Bd.exec
  have hby := Bd.bytes
  have hml : c.maxLocals = 2 := hml0
  have hown : s.vm.findClass "java/lang/Math" = some m.cls := findClass_of_methodNamed Bd.named
  have hnm := (name_of_methodNamed Bd.named Bd.method).1
  have X0 : Stand p l e ({ frames := 0, cells := 0, slots := 0, locals := 0 } : Room) s m #[(.int u0), (.int u1)] below meth c s₁ [] 0 0 := Stand.of_body Bd
  have e0 : s₁.heap = h0 := by rw [← hh, Bd.state]; rfl
  have N0 := Fr.nil n0
  have hlk : meth.locks = false := BodyLoose.notSynchronized Bd
  show Goal p e below s (Qma Z u0 u1 h0 n0) 0 0 (s₁.setTop (entryFrame m #[(.int u0), (.int u1)] 2))
  refine Goal.to (B := s₁.setTop (mkF m 0 #[.val (.int u0), .val (.int u1)] [])) (fun tt kk => castTop (ef_2 m u0 u1 ) kk) ?_
  refine Goal.to (B := s₁.setTop (mkF m 2 #[.val (.int u0), .val (.int u1)] [(.int u1), (.int u0)])) (fun tt kk => ?_) ?_
  · show Steps p.tables e below (s₁.setTop (mkF m 0 #[.val (.int u0), .val (.int u1)] [])) tt
    refine XS.iloadN X0.here hx rfl (hb hby d2_0) rfl ?_
    show Steps p.tables e below (s₁.setTop (mkF m 1 #[.val (.int u0), .val (.int u1)] [(.int u0)])) tt
    refine XS.iloadN X0.here hx rfl (hb hby d2_1) rfl ?_
    exact kk
  obtain ⟨w2, hw2⟩ : ∃ z : Int32, z = if u0 < u1 then u1 else u0 := ⟨_, rfl⟩
  refine Goal.to (B := s₁.setTop (mkF m 10 #[.val (.int u0), .val (.int u1)] [(.int w2)])) (fun tt kk => ?_) ?_
  · by_cases hc1 : u0 < u1
    · have qw2 : w2 = u1 := by rw [hw2, if_pos hc1]
      rw [qw2] at kk
      show Steps p.tables e below (s₁.setTop (mkF m 2 #[.val (.int u0), .val (.int u1)] [(.int u1), (.int u0)])) tt
      refine XS.icmpYes X0.here hx rfl (pc0 := 2) (pc' := 9) rfl (hb hby d2_2) rfl (tlt hc1).1 (by decide) (by decide) ?_
      show Steps p.tables e below (s₁.setTop (mkF m 9 #[.val (.int u0), .val (.int u1)] [])) tt
      refine XS.iloadN X0.here hx rfl (hb hby d2_9) rfl ?_
      exact kk
    · have qw2 : w2 = u0 := by rw [hw2, if_neg hc1]
      rw [qw2] at kk
      show Steps p.tables e below (s₁.setTop (mkF m 2 #[.val (.int u0), .val (.int u1)] [(.int u1), (.int u0)])) tt
      refine XS.icmpNo X0.here hx rfl (hb hby d2_2) rfl (flt hc1).1 ?_
      show Steps p.tables e below (s₁.setTop (mkF m 5 #[.val (.int u0), .val (.int u1)] [])) tt
      refine XS.iloadN X0.here hx rfl (hb hby d2_5) rfl ?_
      show Steps p.tables e below (s₁.setTop (mkF m 6 #[.val (.int u0), .val (.int u1)] [(.int u0)])) tt
      refine XS.goto X0.here hx rfl (pc0 := 6) (pc' := 10) rfl (hb hby d2_6) (by decide) (by decide) ?_
      exact kk
  exact Goal.retV X0 hx Bd.returns rfl (Or.inl ⟨rfl, Or.inl rfl, _, rfl⟩) (hb hby d2_10) hlk e0 ⟨(congrArg some (by rw [hw2] : ((.int w2) : Value) = (.int (if u0 < u1 then u1 else u0)))), N0, rfl⟩ (by decide) (by decide)
theorem ef_3 (m : MethodId) (x0 : Addr) (x1 : Int32)  : entryFrame m #[(.ref x0), (.int x1)] 2 = mkF m 0 #[.val (.ref x0), .val (.int x1)] [] := by first | (simp [entryFrame, mkF, argsToLocals, Value.category]; done) | rfl
theorem pn_3 : plainName "com/example/deferra/deferra/engine/Trail" = true := by first | (simp [plainName, overriddenIn]; done) | decide +kernel
theorem d3_0 : decode prog_36_method_1_code 0 = .ok (.aload_n 0, 1) := by decide +kernel
theorem d3_1 : decode prog_36_method_1_code 1 = .ok (.invokespecial 1, 3) := by decide +kernel
theorem d3_4 : decode prog_36_method_1_code 4 = .ok (.aload_n 0, 1) := by decide +kernel
theorem d3_5 : decode prog_36_method_1_code 5 = .ok (.bipush 16, 2) := by decide +kernel
theorem d3_7 : decode prog_36_method_1_code 7 = .ok (.newarray .int, 2) := by decide +kernel
theorem d3_9 : decode prog_36_method_1_code 9 = .ok (.putfield 9, 3) := by decide +kernel
theorem d3_12 : decode prog_36_method_1_code 12 = .ok (.aload_n 0, 1) := by decide +kernel
theorem d3_13 : decode prog_36_method_1_code 13 = .ok (.bipush 16, 2) := by decide +kernel
theorem d3_15 : decode prog_36_method_1_code 15 = .ok (.newarray .int, 2) := by decide +kernel
theorem d3_17 : decode prog_36_method_1_code 17 = .ok (.putfield 13, 3) := by decide +kernel
theorem d3_20 : decode prog_36_method_1_code 20 = .ok (.aload_n 0, 1) := by decide +kernel
theorem d3_21 : decode prog_36_method_1_code 21 = .ok (.bipush 16, 2) := by decide +kernel
theorem d3_23 : decode prog_36_method_1_code 23 = .ok (.newarray .int, 2) := by decide +kernel
theorem d3_25 : decode prog_36_method_1_code 25 = .ok (.putfield 16, 3) := by decide +kernel
theorem d3_28 : decode prog_36_method_1_code 28 = .ok (.aload_n 0, 1) := by decide +kernel
theorem d3_29 : decode prog_36_method_1_code 29 = .ok (.bipush 16, 2) := by decide +kernel
theorem d3_31 : decode prog_36_method_1_code 31 = .ok (.newarray .int, 2) := by decide +kernel
theorem d3_33 : decode prog_36_method_1_code 33 = .ok (.putfield 19, 3) := by decide +kernel
theorem d3_36 : decode prog_36_method_1_code 36 = .ok (.aload_n 0, 1) := by decide +kernel
theorem d3_37 : decode prog_36_method_1_code 37 = .ok (.iconst 0, 1) := by decide +kernel
theorem d3_38 : decode prog_36_method_1_code 38 = .ok (.putfield 22, 3) := by decide +kernel
theorem d3_41 : decode prog_36_method_1_code 41 = .ok (.aload_n 0, 1) := by decide +kernel
theorem d3_42 : decode prog_36_method_1_code 42 = .ok (.iload_n 1, 1) := by decide +kernel
theorem d3_43 : decode prog_36_method_1_code 43 = .ok (.putfield 26, 3) := by decide +kernel
theorem d3_46 : decode prog_36_method_1_code 46 = .ok (.return_, 1) := by decide +kernel
def QN (Z : State) (va : Addr) (h0 : Heap) (n0 : Nat) (v : Option Value) (h : Heap) (L : List Loc) : Prop := ∃ tl : Addr, ∃ th : Addr, ∃ tv : Addr, ∃ tm : Addr, v = none ∧ Fr n0 L ∧ Keep h0 h [va] ∧ h0.size ≤ tl ∧ h0.size ≤ th ∧ h0.size ≤ tv ∧ h0.size ≤ tm ∧ tl ≠ th ∧ tl ≠ tv ∧ tl ≠ tm ∧ th ≠ tv ∧ th ≠ tm ∧ tv ≠ tm ∧ Fld Z h va "com/example/deferra/deferra/engine/Trail" "lows" "[I" (.ref tl) ∧ Fld Z h va "com/example/deferra/deferra/engine/Trail" "highs" "[I" (.ref th) ∧ Fld Z h va "com/example/deferra/deferra/engine/Trail" "values" "[I" (.ref tv) ∧ Fld Z h va "com/example/deferra/deferra/engine/Trail" "makers" "[I" (.ref tm) ∧ Fld Z h va "com/example/deferra/deferra/engine/Trail" "fromTrace" "Z" (.int (0 : Int32)) ∧ Fld Z h va "com/example/deferra/deferra/engine/Trail" "maxDepth" "I" (.int (8 : Int32)) ∧ Fld Z h va "com/example/deferra/deferra/engine/Trail" "depth" "I" (.int (0 : Int32)) ∧ Fld Z h va "com/example/deferra/deferra/engine/Trail" "size" "I" (.int (0 : Int32)) ∧ Fld Z h va "com/example/deferra/deferra/engine/Trail" "stopping" "Z" (.int (0 : Int32)) ∧ Fld Z h va "com/example/deferra/deferra/engine/Trail" "pools" "Ljava/util/function/Supplier;" .null ∧ Fld Z h va "com/example/deferra/deferra/engine/Trail" "saved" "[[Lcom/example/deferra/deferra/engine/Identities;" .null ∧ Ary Z h tl .int [(.int (0 : Int32)), (.int (0 : Int32)), (.int (0 : Int32)), (.int (0 : Int32)), (.int (0 : Int32)), (.int (0 : Int32)), (.int (0 : Int32)), (.int (0 : Int32)), (.int (0 : Int32)), (.int (0 : Int32)), (.int (0 : Int32)), (.int (0 : Int32)), (.int (0 : Int32)), (.int (0 : Int32)), (.int (0 : Int32)), (.int (0 : Int32))] ∧ Ary Z h th .int [(.int (0 : Int32)), (.int (0 : Int32)), (.int (0 : Int32)), (.int (0 : Int32)), (.int (0 : Int32)), (.int (0 : Int32)), (.int (0 : Int32)), (.int (0 : Int32)), (.int (0 : Int32)), (.int (0 : Int32)), (.int (0 : Int32)), (.int (0 : Int32)), (.int (0 : Int32)), (.int (0 : Int32)), (.int (0 : Int32)), (.int (0 : Int32))] ∧ Ary Z h tv .int [(.int (0 : Int32)), (.int (0 : Int32)), (.int (0 : Int32)), (.int (0 : Int32)), (.int (0 : Int32)), (.int (0 : Int32)), (.int (0 : Int32)), (.int (0 : Int32)), (.int (0 : Int32)), (.int (0 : Int32)), (.int (0 : Int32)), (.int (0 : Int32)), (.int (0 : Int32)), (.int (0 : Int32)), (.int (0 : Int32)), (.int (0 : Int32))] ∧ Ary Z h tm .int [(.int (0 : Int32)), (.int (0 : Int32)), (.int (0 : Int32)), (.int (0 : Int32)), (.int (0 : Int32)), (.int (0 : Int32)), (.int (0 : Int32)), (.int (0 : Int32)), (.int (0 : Int32)), (.int (0 : Int32)), (.int (0 : Int32)), (.int (0 : Int32)), (.int (0 : Int32)), (.int (0 : Int32)), (.int (0 : Int32)), (.int (0 : Int32))]
set_option maxRecDepth 65536 in
set_option maxHeartbeats 40000000 in
theorem rmN (l : Launch) (Z : State) (a0 : Array Value) (hw : ∀ d ∈ tables_1, d.before a0 Z = true) (ws : List Jvm.Cond) (va : Addr) (h0 : Heap) (n0 : Nat) (Z0 : n0 ≤ h0.size) (E_va : Exa Z h0 va "com/example/deferra/deferra/engine/Trail") (F_lows_va : Fld Z h0 va "com/example/deferra/deferra/engine/Trail" "lows" "[I" .null) (F_highs_va : Fld Z h0 va "com/example/deferra/deferra/engine/Trail" "highs" "[I" .null) (F_values_va : Fld Z h0 va "com/example/deferra/deferra/engine/Trail" "values" "[I" .null) (F_makers_va : Fld Z h0 va "com/example/deferra/deferra/engine/Trail" "makers" "[I" .null) (F_fromTrace_va : Fld Z h0 va "com/example/deferra/deferra/engine/Trail" "fromTrace" "Z" (.int (0 : Int32))) (F_maxDepth_va : Fld Z h0 va "com/example/deferra/deferra/engine/Trail" "maxDepth" "I" (.int (0 : Int32))) (F_depth_va : Fld Z h0 va "com/example/deferra/deferra/engine/Trail" "depth" "I" (.int (0 : Int32))) (F_size_va : Fld Z h0 va "com/example/deferra/deferra/engine/Trail" "size" "I" (.int (0 : Int32))) (F_stopping_va : Fld Z h0 va "com/example/deferra/deferra/engine/Trail" "stopping" "Z" (.int (0 : Int32))) (F_pools_va : Fld Z h0 va "com/example/deferra/deferra/engine/Trail" "pools" "Ljava/util/function/Supplier;" .null) (F_saved_va : Fld Z h0 va "com/example/deferra/deferra/engine/Trail" "saved" "[[Lcom/example/deferra/deferra/engine/Identities;" .null) (g_va : n0 ≤ va) :
    MetFree l (⟨"com/example/deferra/deferra/engine/Trail", "<init>", "(I)V"⟩ : MethodName) (head1 (Jvm.Cond.code (⟨"com/example/deferra/deferra/engine/Trail", "<init>", "(I)V"⟩ : MethodName) prog_36_method_1_code 2 none :: ws) ({ frames := 1, cells := 4, slots := 64, locals := 12 } : Room)) (fun a U => a = #[(.ref va), (.int (8 : Int32))] ∧ Z.Warmed39 U.vm ∧ U.heap = h0) (fun _ _ _ _ _ => True) (fun _ U o U' => ∃ v L, o = .returned v ∧ QN Z va h0 n0 v U'.heap L ∧ FrameEnd U o U' L 4 64) := by
  refine MetFree.of_bodySF (plainFor_of_name pn_3) hisR ?_
  intro p e s m args below meth c s₁ Bd hml0 hP hK
  obtain ⟨rfl, hZ, hh⟩ := hP
  have hx := Bd.exec
  have hby := Bd.bytes
  have hml : c.maxLocals = 2 := hml0
  have hown : s.vm.findClass "com/example/deferra/deferra/engine/Trail" = some m.cls := findClass_of_methodNamed Bd.named
  have hnm := (name_of_methodNamed Bd.named Bd.method).1
  have X0 : Stand p l e ({ frames := 1, cells := 4, slots := 64, locals := 12 } : Room) s m #[(.ref va), (.int (8 : Int32))] below meth c s₁ [] 0 0 := Stand.of_body Bd
  have e0 : s₁.heap = h0 := by rw [← hh, Bd.state]; rfl
  have N0 := Fr.nil n0
  have hlk : meth.locks = false := BodyLoose.notSynchronized Bd
  show Goal p e below s (QN Z va h0 n0) 4 64 (s₁.setTop (entryFrame m #[(.ref va), (.int (8 : Int32))] 2))
  refine Goal.to (B := s₁.setTop (mkF m 0 #[.val (.ref va), .val (.int (8 : Int32))] [])) (fun tt kk => castTop (ef_3 m va (8 : Int32) ) kk) ?_
  refine Goal.to (B := s₁.setTop (mkF m 1 #[.val (.ref va), .val (.int (8 : Int32))] [(.ref va)])) (fun tt kk => ?_) ?_
  · show Steps p.tables e below (s₁.setTop (mkF m 0 #[.val (.ref va), .val (.int (8 : Int32))] [])) tt
    refine XS.aloadN X0.here hx rfl (hb hby d3_0) rfl rfl ?_
    exact kk
  obtain ⟨T1, X1, e1, st1⟩ := initO X0 hx hZ hown (hw _ (mw 13 rfl)) (hw _ (mw 14 rfl)) (hw _ (mw 15 rfl)) e0 (g := (mkF m 1 #[.val (.ref va), .val (.int (8 : Int32))] [(.ref va)])) rfl (by rw [hml]; rfl) rfl (hb hby d3_1) (by decide) (W := 0) (by show 2 * 0 + _ ≤ _; exact Nat.le_of_eq rfl) (by decide)
  refine Goal.to (B := T1.setTop (mkF m 4 #[.val (.ref va), .val (.int (8 : Int32))] [])) st1 ?_
  refine Goal.to (B := T1.setTop (mkF m 7 #[.val (.ref va), .val (.int (8 : Int32))] [(.int (16 : Int32)), (.ref va)])) (fun tt kk => ?_) ?_
  · show Steps p.tables e below (T1.setTop (mkF m 4 #[.val (.ref va), .val (.int (8 : Int32))] [])) tt
    refine XS.aloadN X1.here hx rfl (hb hby d3_4) rfl rfl ?_
    show Steps p.tables e below (T1.setTop (mkF m 5 #[.val (.ref va), .val (.int (8 : Int32))] [(.ref va)])) tt
    refine XS.bipush X1.here hx rfl (hb hby d3_5) ?_
    exact kk
  obtain ⟨T2, h2, k2, X2, e2, E2, A2, st2⟩ := newP X1 hx hZ (hw _ (mw 16 rfl)) e1 (g := (mkF m 7 #[.val (.ref va), .val (.int (8 : Int32))] [(.int (16 : Int32)), (.ref va)])) rfl (hb hby d3_7) rfl (by decide) (cap := 16) (by decide) (by decide) (by decide) (by decide)
  obtain ⟨b2, g2⟩ : ∃ z, z = h0.size := ⟨_, rfl⟩
  rw [← g2] at A2 st2
  have ne_va_b2 : va ≠ b2 := Nat.ne_of_lt (Nat.lt_of_lt_of_le E_va.lt (Nat.le_of_eq g2.symm))
  have g_b2 : n0 ≤ b2 := Nat.le_trans Z0 (Nat.le_of_eq g2.symm)
  have sz_b2 : h0.size ≤ b2 := Nat.le_trans (Keep.refl h0 [va]).1 (Nat.le_of_eq g2.symm)
  have V2 : Ary Z h2 b2 .int [(.int (0 : Int32)), (.int (0 : Int32)), (.int (0 : Int32)), (.int (0 : Int32)), (.int (0 : Int32)), (.int (0 : Int32)), (.int (0 : Int32)), (.int (0 : Int32)), (.int (0 : Int32)), (.int (0 : Int32)), (.int (0 : Int32)), (.int (0 : Int32)), (.int (0 : Int32)), (.int (0 : Int32)), (.int (0 : Int32)), (.int (0 : Int32))] := Ary.new A2 rfl
  refine Goal.to (B := T2.setTop (mkF m 9 #[.val (.ref va), .val (.int (8 : Int32))] [(.ref b2), (.ref va)])) st2 ?_
  have f3 : Fld Z h2 va "com/example/deferra/deferra/engine/Trail" "lows" "[I" .null := (F_lows_va.ext E2)
  have f4 : Exa Z h2 va "com/example/deferra/deferra/engine/Trail" := (E_va.ext E2)
  obtain ⟨T5, h5, X5, e5, W5, st5⟩ := putF X2 hx hZ hown (host := "") (Or.inl (hw _ (mw 17 rfl))) Via.refl e2 f3 f4 (Or.inl (hw _ (mw 18 rfl))) (hw _ (mw 8 rfl)) (ty := (.array .int)) (by decide) rfl rfl (g := (mkF m 9 #[.val (.ref va), .val (.int (8 : Int32))] [(.ref b2), (.ref va)])) rfl rfl (hb hby d3_9)
  have Fw5 : Fld Z h5 va "com/example/deferra/deferra/engine/Trail" "lows" "[I" (.ref b2) := f3.same W5
  have N5 := Fr.snoc X5 N0 g_va
  refine Goal.to (B := T5.setTop (mkF m 12 #[.val (.ref va), .val (.int (8 : Int32))] [])) st5 ?_
  refine Goal.to (B := T5.setTop (mkF m 15 #[.val (.ref va), .val (.int (8 : Int32))] [(.int (16 : Int32)), (.ref va)])) (fun tt kk => ?_) ?_
  · show Steps p.tables e below (T5.setTop (mkF m 12 #[.val (.ref va), .val (.int (8 : Int32))] [])) tt
    refine XS.aloadN X5.here hx rfl (hb hby d3_12) rfl rfl ?_
    show Steps p.tables e below (T5.setTop (mkF m 13 #[.val (.ref va), .val (.int (8 : Int32))] [(.ref va)])) tt
    refine XS.bipush X5.here hx rfl (hb hby d3_13) ?_
    exact kk
  have f7 : Exa Z h5 va "com/example/deferra/deferra/engine/Trail" := (f4.wr W5)
  have f8 : Ary Z h5 b2 .int [(.int (0 : Int32)), (.int (0 : Int32)), (.int (0 : Int32)), (.int (0 : Int32)), (.int (0 : Int32)), (.int (0 : Int32)), (.int (0 : Int32)), (.int (0 : Int32)), (.int (0 : Int32)), (.int (0 : Int32)), (.int (0 : Int32)), (.int (0 : Int32)), (.int (0 : Int32)), (.int (0 : Int32)), (.int (0 : Int32)), (.int (0 : Int32))] := (V2.other W5 (Ne.symm ne_va_b2))
  have f9 : n0 ≤ h5.size := (Nat.le_trans (Nat.le_trans Z0 E2.1) (Keep.of_wr W5).1)
  have f10 : Keep h0 h5 [va] := (((Keep.refl h0 [va]).ext E2).wr W5 (Or.inl (List.mem_of_getElem? (i := 0) rfl)))
  obtain ⟨T6, h6, k6, X6, e6, E6, A6, st6⟩ := newP X5 hx hZ (hw _ (mw 16 rfl)) e5 (g := (mkF m 15 #[.val (.ref va), .val (.int (8 : Int32))] [(.int (16 : Int32)), (.ref va)])) rfl (hb hby d3_15) rfl (by decide) (cap := 16) (by decide) (by decide) (by decide) (by decide)
  obtain ⟨b6, g6⟩ : ∃ z, z = h5.size := ⟨_, rfl⟩
  rw [← g6] at A6 st6
  have ne_va_b6 : va ≠ b6 := Nat.ne_of_lt (Nat.lt_of_lt_of_le f7.lt (Nat.le_of_eq g6.symm))
  have ne_b2_b6 : b2 ≠ b6 := Nat.ne_of_lt (Nat.lt_of_lt_of_le f8.lt (Nat.le_of_eq g6.symm))
  have g_b6 : n0 ≤ b6 := Nat.le_trans f9 (Nat.le_of_eq g6.symm)
  have sz_b6 : h0.size ≤ b6 := Nat.le_trans f10.1 (Nat.le_of_eq g6.symm)
  have V6 : Ary Z h6 b6 .int [(.int (0 : Int32)), (.int (0 : Int32)), (.int (0 : Int32)), (.int (0 : Int32)), (.int (0 : Int32)), (.int (0 : Int32)), (.int (0 : Int32)), (.int (0 : Int32)), (.int (0 : Int32)), (.int (0 : Int32)), (.int (0 : Int32)), (.int (0 : Int32)), (.int (0 : Int32)), (.int (0 : Int32)), (.int (0 : Int32)), (.int (0 : Int32))] := Ary.new A6 rfl
  refine Goal.to (B := T6.setTop (mkF m 17 #[.val (.ref va), .val (.int (8 : Int32))] [(.ref b6), (.ref va)])) st6 ?_
  have f11 : Fld Z h6 va "com/example/deferra/deferra/engine/Trail" "highs" "[I" .null := (((F_highs_va.ext E2).other W5 (Or.inr (slot_ne (Or.inl (hw _ (mw 20 rfl))) (Or.inl (hw _ (mw 18 rfl))) (by decide) (t := (.array .int)) (t' := (.array .int)) (by decide) (by decide)))).ext E6)
  have f12 : Exa Z h6 va "com/example/deferra/deferra/engine/Trail" := (f7.ext E6)
  obtain ⟨T13, h13, X13, e13, W13, st13⟩ := putF X6 hx hZ hown (host := "") (Or.inl (hw _ (mw 19 rfl))) Via.refl e6 f11 f12 (Or.inl (hw _ (mw 20 rfl))) (hw _ (mw 8 rfl)) (ty := (.array .int)) (by decide) rfl rfl (g := (mkF m 17 #[.val (.ref va), .val (.int (8 : Int32))] [(.ref b6), (.ref va)])) rfl rfl (hb hby d3_17)
  have Fw13 : Fld Z h13 va "com/example/deferra/deferra/engine/Trail" "highs" "[I" (.ref b6) := f11.same W13
  have N13 := Fr.snoc X13 N5 g_va
  refine Goal.to (B := T13.setTop (mkF m 20 #[.val (.ref va), .val (.int (8 : Int32))] [])) st13 ?_
  refine Goal.to (B := T13.setTop (mkF m 23 #[.val (.ref va), .val (.int (8 : Int32))] [(.int (16 : Int32)), (.ref va)])) (fun tt kk => ?_) ?_
  · show Steps p.tables e below (T13.setTop (mkF m 20 #[.val (.ref va), .val (.int (8 : Int32))] [])) tt
    refine XS.aloadN X13.here hx rfl (hb hby d3_20) rfl rfl ?_
    show Steps p.tables e below (T13.setTop (mkF m 21 #[.val (.ref va), .val (.int (8 : Int32))] [(.ref va)])) tt
    refine XS.bipush X13.here hx rfl (hb hby d3_21) ?_
    exact kk
  have f15 : Exa Z h13 va "com/example/deferra/deferra/engine/Trail" := (f12.wr W13)
  have f16 : Ary Z h13 b2 .int [(.int (0 : Int32)), (.int (0 : Int32)), (.int (0 : Int32)), (.int (0 : Int32)), (.int (0 : Int32)), (.int (0 : Int32)), (.int (0 : Int32)), (.int (0 : Int32)), (.int (0 : Int32)), (.int (0 : Int32)), (.int (0 : Int32)), (.int (0 : Int32)), (.int (0 : Int32)), (.int (0 : Int32)), (.int (0 : Int32)), (.int (0 : Int32))] := ((f8.ext E6).other W13 (Ne.symm ne_va_b2))
  have f17 : Ary Z h13 b6 .int [(.int (0 : Int32)), (.int (0 : Int32)), (.int (0 : Int32)), (.int (0 : Int32)), (.int (0 : Int32)), (.int (0 : Int32)), (.int (0 : Int32)), (.int (0 : Int32)), (.int (0 : Int32)), (.int (0 : Int32)), (.int (0 : Int32)), (.int (0 : Int32)), (.int (0 : Int32)), (.int (0 : Int32)), (.int (0 : Int32)), (.int (0 : Int32))] := (V6.other W13 (Ne.symm ne_va_b6))
  have f18 : n0 ≤ h13.size := (Nat.le_trans (Nat.le_trans f9 E6.1) (Keep.of_wr W13).1)
  have f19 : Keep h0 h13 [va] := ((f10.ext E6).wr W13 (Or.inl (List.mem_of_getElem? (i := 0) rfl)))
  obtain ⟨T14, h14, k14, X14, e14, E14, A14, st14⟩ := newP X13 hx hZ (hw _ (mw 16 rfl)) e13 (g := (mkF m 23 #[.val (.ref va), .val (.int (8 : Int32))] [(.int (16 : Int32)), (.ref va)])) rfl (hb hby d3_23) rfl (by decide) (cap := 16) (by decide) (by decide) (by decide) (by decide)
  obtain ⟨b14, g14⟩ : ∃ z, z = h13.size := ⟨_, rfl⟩
  rw [← g14] at A14 st14
  have ne_va_b14 : va ≠ b14 := Nat.ne_of_lt (Nat.lt_of_lt_of_le f15.lt (Nat.le_of_eq g14.symm))
  have ne_b2_b14 : b2 ≠ b14 := Nat.ne_of_lt (Nat.lt_of_lt_of_le f16.lt (Nat.le_of_eq g14.symm))
  have ne_b6_b14 : b6 ≠ b14 := Nat.ne_of_lt (Nat.lt_of_lt_of_le f17.lt (Nat.le_of_eq g14.symm))
  have g_b14 : n0 ≤ b14 := Nat.le_trans f18 (Nat.le_of_eq g14.symm)
  have sz_b14 : h0.size ≤ b14 := Nat.le_trans f19.1 (Nat.le_of_eq g14.symm)
  have V14 : Ary Z h14 b14 .int [(.int (0 : Int32)), (.int (0 : Int32)), (.int (0 : Int32)), (.int (0 : Int32)), (.int (0 : Int32)), (.int (0 : Int32)), (.int (0 : Int32)), (.int (0 : Int32)), (.int (0 : Int32)), (.int (0 : Int32)), (.int (0 : Int32)), (.int (0 : Int32)), (.int (0 : Int32)), (.int (0 : Int32)), (.int (0 : Int32)), (.int (0 : Int32))] := Ary.new A14 rfl
  refine Goal.to (B := T14.setTop (mkF m 25 #[.val (.ref va), .val (.int (8 : Int32))] [(.ref b14), (.ref va)])) st14 ?_
  have f20 : Fld Z h14 va "com/example/deferra/deferra/engine/Trail" "values" "[I" .null := (((((F_values_va.ext E2).other W5 (Or.inr (slot_ne (Or.inl (hw _ (mw 22 rfl))) (Or.inl (hw _ (mw 18 rfl))) (by decide) (t := (.array .int)) (t' := (.array .int)) (by decide) (by decide)))).ext E6).other W13 (Or.inr (slot_ne (Or.inl (hw _ (mw 22 rfl))) (Or.inl (hw _ (mw 20 rfl))) (by decide) (t := (.array .int)) (t' := (.array .int)) (by decide) (by decide)))).ext E14)
  have f21 : Exa Z h14 va "com/example/deferra/deferra/engine/Trail" := (f15.ext E14)
  obtain ⟨T22, h22, X22, e22, W22, st22⟩ := putF X14 hx hZ hown (host := "") (Or.inl (hw _ (mw 21 rfl))) Via.refl e14 f20 f21 (Or.inl (hw _ (mw 22 rfl))) (hw _ (mw 8 rfl)) (ty := (.array .int)) (by decide) rfl rfl (g := (mkF m 25 #[.val (.ref va), .val (.int (8 : Int32))] [(.ref b14), (.ref va)])) rfl rfl (hb hby d3_25)
  have Fw22 : Fld Z h22 va "com/example/deferra/deferra/engine/Trail" "values" "[I" (.ref b14) := f20.same W22
  have N22 := Fr.snoc X22 N13 g_va
  refine Goal.to (B := T22.setTop (mkF m 28 #[.val (.ref va), .val (.int (8 : Int32))] [])) st22 ?_
  refine Goal.to (B := T22.setTop (mkF m 31 #[.val (.ref va), .val (.int (8 : Int32))] [(.int (16 : Int32)), (.ref va)])) (fun tt kk => ?_) ?_
  · show Steps p.tables e below (T22.setTop (mkF m 28 #[.val (.ref va), .val (.int (8 : Int32))] [])) tt
    refine XS.aloadN X22.here hx rfl (hb hby d3_28) rfl rfl ?_
    show Steps p.tables e below (T22.setTop (mkF m 29 #[.val (.ref va), .val (.int (8 : Int32))] [(.ref va)])) tt
    refine XS.bipush X22.here hx rfl (hb hby d3_29) ?_
    exact kk
  have f24 : Exa Z h22 va "com/example/deferra/deferra/engine/Trail" := (f21.wr W22)
  have f25 : Ary Z h22 b2 .int [(.int (0 : Int32)), (.int (0 : Int32)), (.int (0 : Int32)), (.int (0 : Int32)), (.int (0 : Int32)), (.int (0 : Int32)), (.int (0 : Int32)), (.int (0 : Int32)), (.int (0 : Int32)), (.int (0 : Int32)), (.int (0 : Int32)), (.int (0 : Int32)), (.int (0 : Int32)), (.int (0 : Int32)), (.int (0 : Int32)), (.int (0 : Int32))] := ((f16.ext E14).other W22 (Ne.symm ne_va_b2))
  have f26 : Ary Z h22 b6 .int [(.int (0 : Int32)), (.int (0 : Int32)), (.int (0 : Int32)), (.int (0 : Int32)), (.int (0 : Int32)), (.int (0 : Int32)), (.int (0 : Int32)), (.int (0 : Int32)), (.int (0 : Int32)), (.int (0 : Int32)), (.int (0 : Int32)), (.int (0 : Int32)), (.int (0 : Int32)), (.int (0 : Int32)), (.int (0 : Int32)), (.int (0 : Int32))] := ((f17.ext E14).other W22 (Ne.symm ne_va_b6))
  have f27 : Ary Z h22 b14 .int [(.int (0 : Int32)), (.int (0 : Int32)), (.int (0 : Int32)), (.int (0 : Int32)), (.int (0 : Int32)), (.int (0 : Int32)), (.int (0 : Int32)), (.int (0 : Int32)), (.int (0 : Int32)), (.int (0 : Int32)), (.int (0 : Int32)), (.int (0 : Int32)), (.int (0 : Int32)), (.int (0 : Int32)), (.int (0 : Int32)), (.int (0 : Int32))] := (V14.other W22 (Ne.symm ne_va_b14))
  have f28 : n0 ≤ h22.size := (Nat.le_trans (Nat.le_trans f18 E14.1) (Keep.of_wr W22).1)
  have f29 : Keep h0 h22 [va] := ((f19.ext E14).wr W22 (Or.inl (List.mem_of_getElem? (i := 0) rfl)))
  obtain ⟨T23, h23, k23, X23, e23, E23, A23, st23⟩ := newP X22 hx hZ (hw _ (mw 16 rfl)) e22 (g := (mkF m 31 #[.val (.ref va), .val (.int (8 : Int32))] [(.int (16 : Int32)), (.ref va)])) rfl (hb hby d3_31) rfl (by decide) (cap := 16) (by decide) (by decide) (by decide) (by decide)
  obtain ⟨b23, g23⟩ : ∃ z, z = h22.size := ⟨_, rfl⟩
  rw [← g23] at A23 st23
  have ne_va_b23 : va ≠ b23 := Nat.ne_of_lt (Nat.lt_of_lt_of_le f24.lt (Nat.le_of_eq g23.symm))
  have ne_b2_b23 : b2 ≠ b23 := Nat.ne_of_lt (Nat.lt_of_lt_of_le f25.lt (Nat.le_of_eq g23.symm))
  have ne_b6_b23 : b6 ≠ b23 := Nat.ne_of_lt (Nat.lt_of_lt_of_le f26.lt (Nat.le_of_eq g23.symm))
  have ne_b14_b23 : b14 ≠ b23 := Nat.ne_of_lt (Nat.lt_of_lt_of_le f27.lt (Nat.le_of_eq g23.symm))
  have g_b23 : n0 ≤ b23 := Nat.le_trans f28 (Nat.le_of_eq g23.symm)
  have sz_b23 : h0.size ≤ b23 := Nat.le_trans f29.1 (Nat.le_of_eq g23.symm)
  have V23 : Ary Z h23 b23 .int [(.int (0 : Int32)), (.int (0 : Int32)), (.int (0 : Int32)), (.int (0 : Int32)), (.int (0 : Int32)), (.int (0 : Int32)), (.int (0 : Int32)), (.int (0 : Int32)), (.int (0 : Int32)), (.int (0 : Int32)), (.int (0 : Int32)), (.int (0 : Int32)), (.int (0 : Int32)), (.int (0 : Int32)), (.int (0 : Int32)), (.int (0 : Int32))] := Ary.new A23 rfl
  refine Goal.to (B := T23.setTop (mkF m 33 #[.val (.ref va), .val (.int (8 : Int32))] [(.ref b23), (.ref va)])) st23 ?_
  have f30 : Fld Z h23 va "com/example/deferra/deferra/engine/Trail" "makers" "[I" .null := (((((((F_makers_va.ext E2).other W5 (Or.inr (slot_ne (Or.inl (hw _ (mw 24 rfl))) (Or.inl (hw _ (mw 18 rfl))) (by decide) (t := (.array .int)) (t' := (.array .int)) (by decide) (by decide)))).ext E6).other W13 (Or.inr (slot_ne (Or.inl (hw _ (mw 24 rfl))) (Or.inl (hw _ (mw 20 rfl))) (by decide) (t := (.array .int)) (t' := (.array .int)) (by decide) (by decide)))).ext E14).other W22 (Or.inr (slot_ne (Or.inl (hw _ (mw 24 rfl))) (Or.inl (hw _ (mw 22 rfl))) (by decide) (t := (.array .int)) (t' := (.array .int)) (by decide) (by decide)))).ext E23)
  have f31 : Exa Z h23 va "com/example/deferra/deferra/engine/Trail" := (f24.ext E23)
  obtain ⟨T32, h32, X32, e32, W32, st32⟩ := putF X23 hx hZ hown (host := "") (Or.inl (hw _ (mw 23 rfl))) Via.refl e23 f30 f31 (Or.inl (hw _ (mw 24 rfl))) (hw _ (mw 8 rfl)) (ty := (.array .int)) (by decide) rfl rfl (g := (mkF m 33 #[.val (.ref va), .val (.int (8 : Int32))] [(.ref b23), (.ref va)])) rfl rfl (hb hby d3_33)
  have Fw32 : Fld Z h32 va "com/example/deferra/deferra/engine/Trail" "makers" "[I" (.ref b23) := f30.same W32
  have N32 := Fr.snoc X32 N22 g_va
  refine Goal.to (B := T32.setTop (mkF m 36 #[.val (.ref va), .val (.int (8 : Int32))] [])) st32 ?_
  refine Goal.to (B := T32.setTop (mkF m 38 #[.val (.ref va), .val (.int (8 : Int32))] [(.int (0 : Int32)), (.ref va)])) (fun tt kk => ?_) ?_
  · show Steps p.tables e below (T32.setTop (mkF m 36 #[.val (.ref va), .val (.int (8 : Int32))] [])) tt
    refine XS.aloadN X32.here hx rfl (hb hby d3_36) rfl rfl ?_
    show Steps p.tables e below (T32.setTop (mkF m 37 #[.val (.ref va), .val (.int (8 : Int32))] [(.ref va)])) tt
    refine XS.iconst X32.here hx rfl (hb hby d3_37) ?_
    exact kk
  have f33 : Fld Z h32 va "com/example/deferra/deferra/engine/Trail" "fromTrace" "Z" (.int (0 : Int32)) := ((((((((F_fromTrace_va.ext E2).other W5 (Or.inr (slot_ne (Or.inr (hw _ (mw 26 rfl))) (Or.inl (hw _ (mw 18 rfl))) (by decide) (t := .boolean) (t' := (.array .int)) (by decide) (by decide)))).ext E6).other W13 (Or.inr (slot_ne (Or.inr (hw _ (mw 26 rfl))) (Or.inl (hw _ (mw 20 rfl))) (by decide) (t := .boolean) (t' := (.array .int)) (by decide) (by decide)))).ext E14).other W22 (Or.inr (slot_ne (Or.inr (hw _ (mw 26 rfl))) (Or.inl (hw _ (mw 22 rfl))) (by decide) (t := .boolean) (t' := (.array .int)) (by decide) (by decide)))).ext E23).other W32 (Or.inr (slot_ne (Or.inr (hw _ (mw 26 rfl))) (Or.inl (hw _ (mw 24 rfl))) (by decide) (t := .boolean) (t' := (.array .int)) (by decide) (by decide))))
  have f34 : Exa Z h32 va "com/example/deferra/deferra/engine/Trail" := (f31.wr W32)
  obtain ⟨T35, h35, X35, e35, W35, st35⟩ := putF X32 hx hZ hown (host := "") (Or.inl (hw _ (mw 25 rfl))) Via.refl e32 f33 f34 (Or.inr ⟨(hw _ (mw 26 rfl)), rfl, hnm⟩) (hw _ (mw 8 rfl)) (ty := .boolean) (by decide) rfl rfl (g := (mkF m 38 #[.val (.ref va), .val (.int (8 : Int32))] [(.int (0 : Int32)), (.ref va)])) rfl rfl (hb hby d3_38)
  have Fw35 : Fld Z h35 va "com/example/deferra/deferra/engine/Trail" "fromTrace" "Z" (.int (0 : Int32)) := f33.same W35
  have N35 := Fr.snoc X35 N32 g_va
  refine Goal.to (B := T35.setTop (mkF m 41 #[.val (.ref va), .val (.int (8 : Int32))] [])) st35 ?_
  refine Goal.to (B := T35.setTop (mkF m 43 #[.val (.ref va), .val (.int (8 : Int32))] [(.int (8 : Int32)), (.ref va)])) (fun tt kk => ?_) ?_
  · show Steps p.tables e below (T35.setTop (mkF m 41 #[.val (.ref va), .val (.int (8 : Int32))] [])) tt
    refine XS.aloadN X35.here hx rfl (hb hby d3_41) rfl rfl ?_
    show Steps p.tables e below (T35.setTop (mkF m 42 #[.val (.ref va), .val (.int (8 : Int32))] [(.ref va)])) tt
    refine XS.iloadN X35.here hx rfl (hb hby d3_42) rfl ?_
    exact kk
  have f36 : Fld Z h35 va "com/example/deferra/deferra/engine/Trail" "maxDepth" "I" (.int (0 : Int32)) := (((((((((F_maxDepth_va.ext E2).other W5 (Or.inr (slot_ne (Or.inr (hw _ (mw 28 rfl))) (Or.inl (hw _ (mw 18 rfl))) (by decide) (t := .int) (t' := (.array .int)) (by decide) (by decide)))).ext E6).other W13 (Or.inr (slot_ne (Or.inr (hw _ (mw 28 rfl))) (Or.inl (hw _ (mw 20 rfl))) (by decide) (t := .int) (t' := (.array .int)) (by decide) (by decide)))).ext E14).other W22 (Or.inr (slot_ne (Or.inr (hw _ (mw 28 rfl))) (Or.inl (hw _ (mw 22 rfl))) (by decide) (t := .int) (t' := (.array .int)) (by decide) (by decide)))).ext E23).other W32 (Or.inr (slot_ne (Or.inr (hw _ (mw 28 rfl))) (Or.inl (hw _ (mw 24 rfl))) (by decide) (t := .int) (t' := (.array .int)) (by decide) (by decide)))).other W35 (Or.inr (slot_ne (Or.inr (hw _ (mw 28 rfl))) (Or.inr (hw _ (mw 26 rfl))) (by decide) (t := .int) (t' := .boolean) (by decide) (by decide))))
  have f37 : Exa Z h35 va "com/example/deferra/deferra/engine/Trail" := (f34.wr W35)
  obtain ⟨T38, h38, X38, e38, W38, st38⟩ := putF X35 hx hZ hown (host := "") (Or.inl (hw _ (mw 27 rfl))) Via.refl e35 f36 f37 (Or.inr ⟨(hw _ (mw 28 rfl)), rfl, hnm⟩) (hw _ (mw 8 rfl)) (ty := .int) (by decide) rfl rfl (g := (mkF m 43 #[.val (.ref va), .val (.int (8 : Int32))] [(.int (8 : Int32)), (.ref va)])) rfl rfl (hb hby d3_43)
  have Fw38 : Fld Z h38 va "com/example/deferra/deferra/engine/Trail" "maxDepth" "I" (.int (8 : Int32)) := f36.same W38
  have N38 := Fr.snoc X38 N35 g_va
  refine Goal.to (B := T38.setTop (mkF m 46 #[.val (.ref va), .val (.int (8 : Int32))] [])) st38 ?_
  have f39 : Keep h0 h38 [va] := ((((f29.ext E23).wr W32 (Or.inl (List.mem_of_getElem? (i := 0) rfl))).wr W35 (Or.inl (List.mem_of_getElem? (i := 0) rfl))).wr W38 (Or.inl (List.mem_of_getElem? (i := 0) rfl)))
  have f40 : Fld Z h38 va "com/example/deferra/deferra/engine/Trail" "lows" "[I" (.ref b2) := ((((((((Fw5.ext E6).other W13 (Or.inr (slot_ne (Or.inl (hw _ (mw 18 rfl))) (Or.inl (hw _ (mw 20 rfl))) (by decide) (t := (.array .int)) (t' := (.array .int)) (by decide) (by decide)))).ext E14).other W22 (Or.inr (slot_ne (Or.inl (hw _ (mw 18 rfl))) (Or.inl (hw _ (mw 22 rfl))) (by decide) (t := (.array .int)) (t' := (.array .int)) (by decide) (by decide)))).ext E23).other W32 (Or.inr (slot_ne (Or.inl (hw _ (mw 18 rfl))) (Or.inl (hw _ (mw 24 rfl))) (by decide) (t := (.array .int)) (t' := (.array .int)) (by decide) (by decide)))).other W35 (Or.inr (slot_ne (Or.inl (hw _ (mw 18 rfl))) (Or.inr (hw _ (mw 26 rfl))) (by decide) (t := (.array .int)) (t' := .boolean) (by decide) (by decide)))).other W38 (Or.inr (slot_ne (Or.inl (hw _ (mw 18 rfl))) (Or.inr (hw _ (mw 28 rfl))) (by decide) (t := (.array .int)) (t' := .int) (by decide) (by decide))))
  have f41 : Fld Z h38 va "com/example/deferra/deferra/engine/Trail" "highs" "[I" (.ref b6) := ((((((Fw13.ext E14).other W22 (Or.inr (slot_ne (Or.inl (hw _ (mw 20 rfl))) (Or.inl (hw _ (mw 22 rfl))) (by decide) (t := (.array .int)) (t' := (.array .int)) (by decide) (by decide)))).ext E23).other W32 (Or.inr (slot_ne (Or.inl (hw _ (mw 20 rfl))) (Or.inl (hw _ (mw 24 rfl))) (by decide) (t := (.array .int)) (t' := (.array .int)) (by decide) (by decide)))).other W35 (Or.inr (slot_ne (Or.inl (hw _ (mw 20 rfl))) (Or.inr (hw _ (mw 26 rfl))) (by decide) (t := (.array .int)) (t' := .boolean) (by decide) (by decide)))).other W38 (Or.inr (slot_ne (Or.inl (hw _ (mw 20 rfl))) (Or.inr (hw _ (mw 28 rfl))) (by decide) (t := (.array .int)) (t' := .int) (by decide) (by decide))))
  have f42 : Fld Z h38 va "com/example/deferra/deferra/engine/Trail" "values" "[I" (.ref b14) := ((((Fw22.ext E23).other W32 (Or.inr (slot_ne (Or.inl (hw _ (mw 22 rfl))) (Or.inl (hw _ (mw 24 rfl))) (by decide) (t := (.array .int)) (t' := (.array .int)) (by decide) (by decide)))).other W35 (Or.inr (slot_ne (Or.inl (hw _ (mw 22 rfl))) (Or.inr (hw _ (mw 26 rfl))) (by decide) (t := (.array .int)) (t' := .boolean) (by decide) (by decide)))).other W38 (Or.inr (slot_ne (Or.inl (hw _ (mw 22 rfl))) (Or.inr (hw _ (mw 28 rfl))) (by decide) (t := (.array .int)) (t' := .int) (by decide) (by decide))))
  have f43 : Fld Z h38 va "com/example/deferra/deferra/engine/Trail" "makers" "[I" (.ref b23) := ((Fw32.other W35 (Or.inr (slot_ne (Or.inl (hw _ (mw 24 rfl))) (Or.inr (hw _ (mw 26 rfl))) (by decide) (t := (.array .int)) (t' := .boolean) (by decide) (by decide)))).other W38 (Or.inr (slot_ne (Or.inl (hw _ (mw 24 rfl))) (Or.inr (hw _ (mw 28 rfl))) (by decide) (t := (.array .int)) (t' := .int) (by decide) (by decide))))
  have f44 : Fld Z h38 va "com/example/deferra/deferra/engine/Trail" "fromTrace" "Z" (.int (0 : Int32)) := (Fw35.other W38 (Or.inr (slot_ne (Or.inr (hw _ (mw 26 rfl))) (Or.inr (hw _ (mw 28 rfl))) (by decide) (t := .boolean) (t' := .int) (by decide) (by decide))))
  have f45 : Fld Z h38 va "com/example/deferra/deferra/engine/Trail" "depth" "I" (.int (0 : Int32)) := ((((((((((F_depth_va.ext E2).other W5 (Or.inr (slot_ne (Or.inl (hw _ (mw 35 rfl))) (Or.inl (hw _ (mw 18 rfl))) (by decide) (t := .int) (t' := (.array .int)) (by decide) (by decide)))).ext E6).other W13 (Or.inr (slot_ne (Or.inl (hw _ (mw 35 rfl))) (Or.inl (hw _ (mw 20 rfl))) (by decide) (t := .int) (t' := (.array .int)) (by decide) (by decide)))).ext E14).other W22 (Or.inr (slot_ne (Or.inl (hw _ (mw 35 rfl))) (Or.inl (hw _ (mw 22 rfl))) (by decide) (t := .int) (t' := (.array .int)) (by decide) (by decide)))).ext E23).other W32 (Or.inr (slot_ne (Or.inl (hw _ (mw 35 rfl))) (Or.inl (hw _ (mw 24 rfl))) (by decide) (t := .int) (t' := (.array .int)) (by decide) (by decide)))).other W35 (Or.inr (slot_ne (Or.inl (hw _ (mw 35 rfl))) (Or.inr (hw _ (mw 26 rfl))) (by decide) (t := .int) (t' := .boolean) (by decide) (by decide)))).other W38 (Or.inr (slot_ne (Or.inl (hw _ (mw 35 rfl))) (Or.inr (hw _ (mw 28 rfl))) (by decide) (t := .int) (t' := .int) (by decide) (by decide))))
  have f46 : Fld Z h38 va "com/example/deferra/deferra/engine/Trail" "size" "I" (.int (0 : Int32)) := ((((((((((F_size_va.ext E2).other W5 (Or.inr (slot_ne (Or.inl (hw _ (mw 37 rfl))) (Or.inl (hw _ (mw 18 rfl))) (by decide) (t := .int) (t' := (.array .int)) (by decide) (by decide)))).ext E6).other W13 (Or.inr (slot_ne (Or.inl (hw _ (mw 37 rfl))) (Or.inl (hw _ (mw 20 rfl))) (by decide) (t := .int) (t' := (.array .int)) (by decide) (by decide)))).ext E14).other W22 (Or.inr (slot_ne (Or.inl (hw _ (mw 37 rfl))) (Or.inl (hw _ (mw 22 rfl))) (by decide) (t := .int) (t' := (.array .int)) (by decide) (by decide)))).ext E23).other W32 (Or.inr (slot_ne (Or.inl (hw _ (mw 37 rfl))) (Or.inl (hw _ (mw 24 rfl))) (by decide) (t := .int) (t' := (.array .int)) (by decide) (by decide)))).other W35 (Or.inr (slot_ne (Or.inl (hw _ (mw 37 rfl))) (Or.inr (hw _ (mw 26 rfl))) (by decide) (t := .int) (t' := .boolean) (by decide) (by decide)))).other W38 (Or.inr (slot_ne (Or.inl (hw _ (mw 37 rfl))) (Or.inr (hw _ (mw 28 rfl))) (by decide) (t := .int) (t' := .int) (by decide) (by decide))))
  have f47 : Fld Z h38 va "com/example/deferra/deferra/engine/Trail" "stopping" "Z" (.int (0 : Int32)) := ((((((((((F_stopping_va.ext E2).other W5 (Or.inr (slot_ne (Or.inl (hw _ (mw 47 rfl))) (Or.inl (hw _ (mw 18 rfl))) (by decide) (t := .boolean) (t' := (.array .int)) (by decide) (by decide)))).ext E6).other W13 (Or.inr (slot_ne (Or.inl (hw _ (mw 47 rfl))) (Or.inl (hw _ (mw 20 rfl))) (by decide) (t := .boolean) (t' := (.array .int)) (by decide) (by decide)))).ext E14).other W22 (Or.inr (slot_ne (Or.inl (hw _ (mw 47 rfl))) (Or.inl (hw _ (mw 22 rfl))) (by decide) (t := .boolean) (t' := (.array .int)) (by decide) (by decide)))).ext E23).other W32 (Or.inr (slot_ne (Or.inl (hw _ (mw 47 rfl))) (Or.inl (hw _ (mw 24 rfl))) (by decide) (t := .boolean) (t' := (.array .int)) (by decide) (by decide)))).other W35 (Or.inr (slot_ne (Or.inl (hw _ (mw 47 rfl))) (Or.inr (hw _ (mw 26 rfl))) (by decide) (t := .boolean) (t' := .boolean) (by decide) (by decide)))).other W38 (Or.inr (slot_ne (Or.inl (hw _ (mw 47 rfl))) (Or.inr (hw _ (mw 28 rfl))) (by decide) (t := .boolean) (t' := .int) (by decide) (by decide))))
  have f48 : Fld Z h38 va "com/example/deferra/deferra/engine/Trail" "pools" "Ljava/util/function/Supplier;" .null := ((((((((((F_pools_va.ext E2).other W5 (Or.inr (slot_ne (Or.inl (hw _ (mw 49 rfl))) (Or.inl (hw _ (mw 18 rfl))) (by decide) (t := (.object "java/util/function/Supplier")) (t' := (.array .int)) (by decide) (by decide)))).ext E6).other W13 (Or.inr (slot_ne (Or.inl (hw _ (mw 49 rfl))) (Or.inl (hw _ (mw 20 rfl))) (by decide) (t := (.object "java/util/function/Supplier")) (t' := (.array .int)) (by decide) (by decide)))).ext E14).other W22 (Or.inr (slot_ne (Or.inl (hw _ (mw 49 rfl))) (Or.inl (hw _ (mw 22 rfl))) (by decide) (t := (.object "java/util/function/Supplier")) (t' := (.array .int)) (by decide) (by decide)))).ext E23).other W32 (Or.inr (slot_ne (Or.inl (hw _ (mw 49 rfl))) (Or.inl (hw _ (mw 24 rfl))) (by decide) (t := (.object "java/util/function/Supplier")) (t' := (.array .int)) (by decide) (by decide)))).other W35 (Or.inr (slot_ne (Or.inl (hw _ (mw 49 rfl))) (Or.inr (hw _ (mw 26 rfl))) (by decide) (t := (.object "java/util/function/Supplier")) (t' := .boolean) (by decide) (by decide)))).other W38 (Or.inr (slot_ne (Or.inl (hw _ (mw 49 rfl))) (Or.inr (hw _ (mw 28 rfl))) (by decide) (t := (.object "java/util/function/Supplier")) (t' := .int) (by decide) (by decide))))
  have f49 : Fld Z h38 va "com/example/deferra/deferra/engine/Trail" "saved" "[[Lcom/example/deferra/deferra/engine/Identities;" .null := ((((((((((F_saved_va.ext E2).other W5 (Or.inr (slot_ne (Or.inl (hw _ (mw 60 rfl))) (Or.inl (hw _ (mw 18 rfl))) (by decide) (t := (.array (.array (.object "com/example/deferra/deferra/engine/Identities")))) (t' := (.array .int)) (by decide) (by decide)))).ext E6).other W13 (Or.inr (slot_ne (Or.inl (hw _ (mw 60 rfl))) (Or.inl (hw _ (mw 20 rfl))) (by decide) (t := (.array (.array (.object "com/example/deferra/deferra/engine/Identities")))) (t' := (.array .int)) (by decide) (by decide)))).ext E14).other W22 (Or.inr (slot_ne (Or.inl (hw _ (mw 60 rfl))) (Or.inl (hw _ (mw 22 rfl))) (by decide) (t := (.array (.array (.object "com/example/deferra/deferra/engine/Identities")))) (t' := (.array .int)) (by decide) (by decide)))).ext E23).other W32 (Or.inr (slot_ne (Or.inl (hw _ (mw 60 rfl))) (Or.inl (hw _ (mw 24 rfl))) (by decide) (t := (.array (.array (.object "com/example/deferra/deferra/engine/Identities")))) (t' := (.array .int)) (by decide) (by decide)))).other W35 (Or.inr (slot_ne (Or.inl (hw _ (mw 60 rfl))) (Or.inr (hw _ (mw 26 rfl))) (by decide) (t := (.array (.array (.object "com/example/deferra/deferra/engine/Identities")))) (t' := .boolean) (by decide) (by decide)))).other W38 (Or.inr (slot_ne (Or.inl (hw _ (mw 60 rfl))) (Or.inr (hw _ (mw 28 rfl))) (by decide) (t := (.array (.array (.object "com/example/deferra/deferra/engine/Identities")))) (t' := .int) (by decide) (by decide))))
  have f50 : Ary Z h38 b2 .int [(.int (0 : Int32)), (.int (0 : Int32)), (.int (0 : Int32)), (.int (0 : Int32)), (.int (0 : Int32)), (.int (0 : Int32)), (.int (0 : Int32)), (.int (0 : Int32)), (.int (0 : Int32)), (.int (0 : Int32)), (.int (0 : Int32)), (.int (0 : Int32)), (.int (0 : Int32)), (.int (0 : Int32)), (.int (0 : Int32)), (.int (0 : Int32))] := ((((f25.ext E23).other W32 (Ne.symm ne_va_b2)).other W35 (Ne.symm ne_va_b2)).other W38 (Ne.symm ne_va_b2))
  have f51 : Ary Z h38 b6 .int [(.int (0 : Int32)), (.int (0 : Int32)), (.int (0 : Int32)), (.int (0 : Int32)), (.int (0 : Int32)), (.int (0 : Int32)), (.int (0 : Int32)), (.int (0 : Int32)), (.int (0 : Int32)), (.int (0 : Int32)), (.int (0 : Int32)), (.int (0 : Int32)), (.int (0 : Int32)), (.int (0 : Int32)), (.int (0 : Int32)), (.int (0 : Int32))] := ((((f26.ext E23).other W32 (Ne.symm ne_va_b6)).other W35 (Ne.symm ne_va_b6)).other W38 (Ne.symm ne_va_b6))
  have f52 : Ary Z h38 b14 .int [(.int (0 : Int32)), (.int (0 : Int32)), (.int (0 : Int32)), (.int (0 : Int32)), (.int (0 : Int32)), (.int (0 : Int32)), (.int (0 : Int32)), (.int (0 : Int32)), (.int (0 : Int32)), (.int (0 : Int32)), (.int (0 : Int32)), (.int (0 : Int32)), (.int (0 : Int32)), (.int (0 : Int32)), (.int (0 : Int32)), (.int (0 : Int32))] := ((((f27.ext E23).other W32 (Ne.symm ne_va_b14)).other W35 (Ne.symm ne_va_b14)).other W38 (Ne.symm ne_va_b14))
  have f53 : Ary Z h38 b23 .int [(.int (0 : Int32)), (.int (0 : Int32)), (.int (0 : Int32)), (.int (0 : Int32)), (.int (0 : Int32)), (.int (0 : Int32)), (.int (0 : Int32)), (.int (0 : Int32)), (.int (0 : Int32)), (.int (0 : Int32)), (.int (0 : Int32)), (.int (0 : Int32)), (.int (0 : Int32)), (.int (0 : Int32)), (.int (0 : Int32)), (.int (0 : Int32))] := (((V23.other W32 (Ne.symm ne_va_b23)).other W35 (Ne.symm ne_va_b23)).other W38 (Ne.symm ne_va_b23))
  exact Goal.retN X38 hx Bd.returns (hb hby d3_46) hlk e38 ⟨b2, b6, b14, b23, rfl, N38, f39, sz_b2, sz_b6, sz_b14, sz_b23, ne_b2_b6, ne_b2_b14, ne_b2_b23, ne_b6_b14, ne_b6_b23, ne_b14_b23, f40, f41, f42, f43, f44, Fw38, f45, f46, f47, f48, f49, f50, f51, f52, f53⟩ (by decide) (by decide)
theorem ef_7 (m : MethodId) (x0 : Addr)  : entryFrame m #[(.ref x0)] 1 = mkF m 0 #[.val (.ref x0)] [] := by first | (simp [entryFrame, mkF, argsToLocals, Value.category]; done) | rfl
theorem pn_7 : plainName "com/example/deferra/deferra/engine/Trail" = true := by first | (simp [plainName, overriddenIn]; done) | decide +kernel
theorem d7_0 : decode prog_36_method_15_code 0 = .ok (.aload_n 0, 1) := by decide +kernel
theorem d7_1 : decode prog_36_method_15_code 1 = .ok (.getfield 38, 3) := by decide +kernel
theorem d7_4 : decode prog_36_method_15_code 4 = .ok (.aload_n 0, 1) := by decide +kernel
theorem d7_5 : decode prog_36_method_15_code 5 = .ok (.getfield 26, 3) := by decide +kernel
theorem d7_8 : decode prog_36_method_15_code 8 = .ok (.if_icmp .ne 12, 3) := by decide +kernel
theorem d7_20 : decode prog_36_method_15_code 20 = .ok (.aload_n 0, 1) := by decide +kernel
theorem d7_21 : decode prog_36_method_15_code 21 = .ok (.getfield 125, 3) := by decide +kernel
theorem d7_24 : decode prog_36_method_15_code 24 = .ok (.ifCond .eq 12, 3) := by decide +kernel
theorem d7_36 : decode prog_36_method_15_code 36 = .ok (.return_, 1) := by decide +kernel
def Qrq (Z : State) (va : Addr) (u0 : Int32) (h0 : Heap) (n0 : Nat) (v : Option Value) (h : Heap) (L : List Loc) : Prop := v = none ∧ Fr n0 L ∧ h = h0
set_option maxRecDepth 65536 in
set_option maxHeartbeats 40000000 in
theorem rmrq (l : Launch) (Z : State) (a0 : Array Value) (hw : ∀ d ∈ tables_1, d.before a0 Z = true) (ws : List Jvm.Cond) (va : Addr) (u0 : Int32) (h0 : Heap) (n0 : Nat) (Z0 : n0 ≤ h0.size) (F_depth_va : Fld Z h0 va "com/example/deferra/deferra/engine/Trail" "depth" "I" (.int u0)) (F_maxDepth_va : Fld Z h0 va "com/example/deferra/deferra/engine/Trail" "maxDepth" "I" (.int (8 : Int32))) (F_stopping_va : Fld Z h0 va "com/example/deferra/deferra/engine/Trail" "stopping" "Z" (.int (0 : Int32))) (hd : ¬ (u0 = (8 : Int32))) :
    MetFree l (⟨"com/example/deferra/deferra/engine/Trail", "requireRoom", "()V"⟩ : MethodName) (head1 (Jvm.Cond.code (⟨"com/example/deferra/deferra/engine/Trail", "requireRoom", "()V"⟩ : MethodName) prog_36_method_15_code 1 none :: ws) ({ frames := 0, cells := 0, slots := 0, locals := 0 } : Room)) (fun a U => a = #[(.ref va)] ∧ Z.Warmed39 U.vm ∧ U.heap = h0) (fun _ _ _ _ _ => True) (fun _ U o U' => ∃ v L, o = .returned v ∧ Qrq Z va u0 h0 n0 v U'.heap L ∧ FrameEnd U o U' L 0 0) := by
  refine MetFree.of_bodySF (plainFor_of_name pn_7) hisR ?_
  intro p e s m args below meth c s₁ Bd hml0 hP hK
  obtain ⟨rfl, hZ, hh⟩ := hP
  have hx := Bd.exec
  have hby := Bd.bytes
  have hml : c.maxLocals = 1 := hml0
  have hown : s.vm.findClass "com/example/deferra/deferra/engine/Trail" = some m.cls := findClass_of_methodNamed Bd.named
  have hnm := (name_of_methodNamed Bd.named Bd.method).1
  have X0 : Stand p l e ({ frames := 0, cells := 0, slots := 0, locals := 0 } : Room) s m #[(.ref va)] below meth c s₁ [] 0 0 := Stand.of_body Bd
  have e0 : s₁.heap = h0 := by rw [← hh, Bd.state]; rfl
  have N0 := Fr.nil n0
  have hlk : meth.locks = false := BodyLoose.notSynchronized Bd
  show Goal p e below s (Qrq Z va u0 h0 n0) 0 0 (s₁.setTop (entryFrame m #[(.ref va)] 1))
  refine Goal.to (B := s₁.setTop (mkF m 0 #[.val (.ref va)] [])) (fun tt kk => castTop (ef_7 m va ) kk) ?_
  refine Goal.to (B := s₁.setTop (mkF m 1 #[.val (.ref va)] [(.ref va)])) (fun tt kk => ?_) ?_
  · show Steps p.tables e below (s₁.setTop (mkF m 0 #[.val (.ref va)] [])) tt
    refine XS.aloadN X0.here hx rfl (hb hby d7_0) rfl rfl ?_
    exact kk
  obtain ⟨T1, X1, e1, st1⟩ := getF X0 hx hZ hown (host := "") (Or.inl (hw _ (mw 34 rfl))) Via.refl e0 F_depth_va (g := (mkF m 1 #[.val (.ref va)] [(.ref va)])) rfl rfl (hb hby d7_1)
  refine Goal.to (B := T1.setTop (mkF m 4 #[.val (.ref va)] [(.int u0)])) st1 ?_
  refine Goal.to (B := T1.setTop (mkF m 5 #[.val (.ref va)] [(.ref va), (.int u0)])) (fun tt kk => ?_) ?_
  · show Steps p.tables e below (T1.setTop (mkF m 4 #[.val (.ref va)] [(.int u0)])) tt
    refine XS.aloadN X1.here hx rfl (hb hby d7_4) rfl rfl ?_
    exact kk
  obtain ⟨T2, X2, e2, st2⟩ := getF X1 hx hZ hown (host := "") (Or.inl (hw _ (mw 27 rfl))) Via.refl e1 F_maxDepth_va (g := (mkF m 5 #[.val (.ref va)] [(.ref va), (.int u0)])) rfl rfl (hb hby d7_5)
  refine Goal.to (B := T2.setTop (mkF m 8 #[.val (.ref va)] [(.int (8 : Int32)), (.int u0)])) st2 ?_
  refine Goal.to (B := T2.setTop (mkF m 21 #[.val (.ref va)] [(.ref va)])) (fun tt kk => ?_) ?_
  · show Steps p.tables e below (T2.setTop (mkF m 8 #[.val (.ref va)] [(.int (8 : Int32)), (.int u0)])) tt
    refine XS.icmpYes X2.here hx rfl (pc0 := 8) (pc' := 20) rfl (hb hby d7_8) rfl (feq hd).2 (by decide) (by decide) ?_
    show Steps p.tables e below (T2.setTop (mkF m 20 #[.val (.ref va)] [])) tt
    refine XS.aloadN X2.here hx rfl (hb hby d7_20) rfl rfl ?_
    exact kk
  obtain ⟨T3, X3, e3, st3⟩ := getF X2 hx hZ hown (host := "") (Or.inl (hw _ (mw 46 rfl))) Via.refl e2 F_stopping_va (g := (mkF m 21 #[.val (.ref va)] [(.ref va)])) rfl rfl (hb hby d7_21)
  refine Goal.to (B := T3.setTop (mkF m 24 #[.val (.ref va)] [(.int (0 : Int32))])) st3 ?_
  refine Goal.to (B := T3.setTop (mkF m 36 #[.val (.ref va)] [])) (fun tt kk => ?_) ?_
  · show Steps p.tables e below (T3.setTop (mkF m 24 #[.val (.ref va)] [(.int (0 : Int32))])) tt
    refine XS.ifYes X3.here hx rfl (pc0 := 24) (pc' := 36) rfl (hb hby d7_24) rfl ((if0 _ _).trans (teq (rfl : (0 : Int32) = (0 : Int32))).1) (by decide) (by decide) ?_
    exact kk
  exact Goal.retN X3 hx Bd.returns (hb hby d7_36) hlk e3 ⟨rfl, N0, rfl⟩ (by decide) (by decide)
theorem ef_6 (m : MethodId) (x0 : Addr) (x1 : Int32) (x2 : Int32) (x3 : Int32)  : entryFrame m #[(.ref x0), (.int x1), (.int x2), (.int x3)] 5 = mkF m 0 #[.val (.ref x0), .val (.int x1), .val (.int x2), .val (.int x3), .unset] [] := by first | (simp [entryFrame, mkF, argsToLocals, Value.category]; done) | rfl
theorem pn_6 : plainName "com/example/deferra/deferra/engine/Trail" = true := by first | (simp [plainName, overriddenIn]; done) | decide +kernel
theorem d6_0 : decode prog_36_method_11_code 0 = .ok (.aload_n 0, 1) := by decide +kernel
theorem pd_2 : parseMethodDescriptor "()V" = some ⟨[], none⟩ := by decide +kernel
theorem d6_1 : decode prog_36_method_11_code 1 = .ok (.invokevirtual 93, 3) := by decide +kernel
theorem d6_4 : decode prog_36_method_11_code 4 = .ok (.aload_n 0, 1) := by decide +kernel
theorem d6_5 : decode prog_36_method_11_code 5 = .ok (.getfield 35, 3) := by decide +kernel
theorem d6_8 : decode prog_36_method_11_code 8 = .ok (.aload_n 0, 1) := by decide +kernel
theorem d6_9 : decode prog_36_method_11_code 9 = .ok (.getfield 16, 3) := by decide +kernel
theorem d6_12 : decode prog_36_method_11_code 12 = .ok (.arraylength, 1) := by decide +kernel
theorem d6_13 : decode prog_36_method_11_code 13 = .ok (.if_icmp .ne 86, 3) := by decide +kernel
theorem d6_99 : decode prog_36_method_11_code 99 = .ok (.aload_n 0, 1) := by decide +kernel
theorem d6_100 : decode prog_36_method_11_code 100 = .ok (.getfield 9, 3) := by decide +kernel
theorem d6_103 : decode prog_36_method_11_code 103 = .ok (.aload_n 0, 1) := by decide +kernel
theorem d6_104 : decode prog_36_method_11_code 104 = .ok (.getfield 35, 3) := by decide +kernel
theorem d6_107 : decode prog_36_method_11_code 107 = .ok (.iload_n 1, 1) := by decide +kernel
theorem d6_108 : decode prog_36_method_11_code 108 = .ok (.iastore, 1) := by decide +kernel
theorem d6_109 : decode prog_36_method_11_code 109 = .ok (.aload_n 0, 1) := by decide +kernel
theorem d6_110 : decode prog_36_method_11_code 110 = .ok (.getfield 13, 3) := by decide +kernel
theorem d6_113 : decode prog_36_method_11_code 113 = .ok (.aload_n 0, 1) := by decide +kernel
theorem d6_114 : decode prog_36_method_11_code 114 = .ok (.getfield 35, 3) := by decide +kernel
theorem d6_117 : decode prog_36_method_11_code 117 = .ok (.iload_n 2, 1) := by decide +kernel
theorem d6_118 : decode prog_36_method_11_code 118 = .ok (.iastore, 1) := by decide +kernel
theorem d6_119 : decode prog_36_method_11_code 119 = .ok (.aload_n 0, 1) := by decide +kernel
theorem d6_120 : decode prog_36_method_11_code 120 = .ok (.getfield 16, 3) := by decide +kernel
theorem d6_123 : decode prog_36_method_11_code 123 = .ok (.aload_n 0, 1) := by decide +kernel
theorem d6_124 : decode prog_36_method_11_code 124 = .ok (.getfield 35, 3) := by decide +kernel
theorem d6_127 : decode prog_36_method_11_code 127 = .ok (.iload_n 1, 1) := by decide +kernel
theorem d6_128 : decode prog_36_method_11_code 128 = .ok (.iastore, 1) := by decide +kernel
theorem d6_129 : decode prog_36_method_11_code 129 = .ok (.aload_n 0, 1) := by decide +kernel
theorem d6_130 : decode prog_36_method_11_code 130 = .ok (.getfield 19, 3) := by decide +kernel
theorem d6_133 : decode prog_36_method_11_code 133 = .ok (.aload_n 0, 1) := by decide +kernel
theorem d6_134 : decode prog_36_method_11_code 134 = .ok (.getfield 35, 3) := by decide +kernel
theorem d6_137 : decode prog_36_method_11_code 137 = .ok (.iload_n 3, 1) := by decide +kernel
theorem d6_138 : decode prog_36_method_11_code 138 = .ok (.iastore, 1) := by decide +kernel
theorem d6_139 : decode prog_36_method_11_code 139 = .ok (.aload_n 0, 1) := by decide +kernel
theorem d6_140 : decode prog_36_method_11_code 140 = .ok (.getfield 41, 3) := by decide +kernel
theorem d6_143 : decode prog_36_method_11_code 143 = .ok (.ifnull 52, 3) := by decide +kernel
theorem d6_195 : decode prog_36_method_11_code 195 = .ok (.aload_n 0, 1) := by decide +kernel
theorem d6_196 : decode prog_36_method_11_code 196 = .ok (.dup, 1) := by decide +kernel
theorem d6_197 : decode prog_36_method_11_code 197 = .ok (.getfield 35, 3) := by decide +kernel
theorem d6_200 : decode prog_36_method_11_code 200 = .ok (.iconst 1, 1) := by decide +kernel
theorem d6_201 : decode prog_36_method_11_code 201 = .ok (.iadd, 1) := by decide +kernel
theorem d6_202 : decode prog_36_method_11_code 202 = .ok (.putfield 35, 3) := by decide +kernel
theorem d6_205 : decode prog_36_method_11_code 205 = .ok (.aload_n 0, 1) := by decide +kernel
theorem d6_206 : decode prog_36_method_11_code 206 = .ok (.dup, 1) := by decide +kernel
theorem d6_207 : decode prog_36_method_11_code 207 = .ok (.getfield 38, 3) := by decide +kernel
theorem d6_210 : decode prog_36_method_11_code 210 = .ok (.iconst 1, 1) := by decide +kernel
theorem d6_211 : decode prog_36_method_11_code 211 = .ok (.iadd, 1) := by decide +kernel
theorem d6_212 : decode prog_36_method_11_code 212 = .ok (.putfield 38, 3) := by decide +kernel
theorem d6_215 : decode prog_36_method_11_code 215 = .ok (.iload_n 1, 1) := by decide +kernel
theorem d6_216 : decode prog_36_method_11_code 216 = .ok (.ireturn, 1) := by decide +kernel
def Qad0 (Z : State) (va : Addr) (tl : Addr) (th : Addr) (tv : Addr) (tm : Addr) (u0 : Int32) (u1 : Int32) (h0 : Heap) (n0 : Nat) (v : Option Value) (h : Heap) (L : List Loc) : Prop := v = some (.int u0) ∧ Fr n0 L ∧ Keep h0 h [va, tl, th, tv, tm] ∧ Fld Z h va "com/example/deferra/deferra/engine/Trail" "lows" "[I" (.ref tl) ∧ Fld Z h va "com/example/deferra/deferra/engine/Trail" "highs" "[I" (.ref th) ∧ Fld Z h va "com/example/deferra/deferra/engine/Trail" "values" "[I" (.ref tv) ∧ Fld Z h va "com/example/deferra/deferra/engine/Trail" "makers" "[I" (.ref tm) ∧ Fld Z h va "com/example/deferra/deferra/engine/Trail" "fromTrace" "Z" (.int (0 : Int32)) ∧ Fld Z h va "com/example/deferra/deferra/engine/Trail" "maxDepth" "I" (.int (8 : Int32)) ∧ Fld Z h va "com/example/deferra/deferra/engine/Trail" "depth" "I" (.int (1 : Int32)) ∧ Fld Z h va "com/example/deferra/deferra/engine/Trail" "size" "I" (.int (1 : Int32)) ∧ Fld Z h va "com/example/deferra/deferra/engine/Trail" "stopping" "Z" (.int (0 : Int32)) ∧ Fld Z h va "com/example/deferra/deferra/engine/Trail" "pools" "Ljava/util/function/Supplier;" .null ∧ Fld Z h va "com/example/deferra/deferra/engine/Trail" "saved" "[[Lcom/example/deferra/deferra/engine/Identities;" .null ∧ Ary Z h tl .int [(.int u0), (.int (0 : Int32)), (.int (0 : Int32)), (.int (0 : Int32)), (.int (0 : Int32)), (.int (0 : Int32)), (.int (0 : Int32)), (.int (0 : Int32)), (.int (0 : Int32)), (.int (0 : Int32)), (.int (0 : Int32)), (.int (0 : Int32)), (.int (0 : Int32)), (.int (0 : Int32)), (.int (0 : Int32)), (.int (0 : Int32))] ∧ Ary Z h th .int [(.int u1), (.int (0 : Int32)), (.int (0 : Int32)), (.int (0 : Int32)), (.int (0 : Int32)), (.int (0 : Int32)), (.int (0 : Int32)), (.int (0 : Int32)), (.int (0 : Int32)), (.int (0 : Int32)), (.int (0 : Int32)), (.int (0 : Int32)), (.int (0 : Int32)), (.int (0 : Int32)), (.int (0 : Int32)), (.int (0 : Int32))] ∧ Ary Z h tv .int [(.int u0), (.int (0 : Int32)), (.int (0 : Int32)), (.int (0 : Int32)), (.int (0 : Int32)), (.int (0 : Int32)), (.int (0 : Int32)), (.int (0 : Int32)), (.int (0 : Int32)), (.int (0 : Int32)), (.int (0 : Int32)), (.int (0 : Int32)), (.int (0 : Int32)), (.int (0 : Int32)), (.int (0 : Int32)), (.int (0 : Int32))] ∧ Ary Z h tm .int [(.int (0 : Int32)), (.int (0 : Int32)), (.int (0 : Int32)), (.int (0 : Int32)), (.int (0 : Int32)), (.int (0 : Int32)), (.int (0 : Int32)), (.int (0 : Int32)), (.int (0 : Int32)), (.int (0 : Int32)), (.int (0 : Int32)), (.int (0 : Int32)), (.int (0 : Int32)), (.int (0 : Int32)), (.int (0 : Int32)), (.int (0 : Int32))]
set_option maxRecDepth 65536 in
set_option maxHeartbeats 40000000 in
theorem rmad0 (l : Launch) (Z : State) (a0 : Array Value) (hw : ∀ d ∈ tables_1, d.before a0 Z = true) (ws : List Jvm.Cond) (va : Addr) (tl : Addr) (th : Addr) (tv : Addr) (tm : Addr) (u0 : Int32) (u1 : Int32) (h0 : Heap) (n0 : Nat) (Z0 : n0 ≤ h0.size) (E_va : Exa Z h0 va "com/example/deferra/deferra/engine/Trail") (F_lows_va : Fld Z h0 va "com/example/deferra/deferra/engine/Trail" "lows" "[I" (.ref tl)) (F_highs_va : Fld Z h0 va "com/example/deferra/deferra/engine/Trail" "highs" "[I" (.ref th)) (F_values_va : Fld Z h0 va "com/example/deferra/deferra/engine/Trail" "values" "[I" (.ref tv)) (F_makers_va : Fld Z h0 va "com/example/deferra/deferra/engine/Trail" "makers" "[I" (.ref tm)) (F_fromTrace_va : Fld Z h0 va "com/example/deferra/deferra/engine/Trail" "fromTrace" "Z" (.int (0 : Int32))) (F_maxDepth_va : Fld Z h0 va "com/example/deferra/deferra/engine/Trail" "maxDepth" "I" (.int (8 : Int32))) (F_depth_va : Fld Z h0 va "com/example/deferra/deferra/engine/Trail" "depth" "I" (.int (0 : Int32))) (F_size_va : Fld Z h0 va "com/example/deferra/deferra/engine/Trail" "size" "I" (.int (0 : Int32))) (F_stopping_va : Fld Z h0 va "com/example/deferra/deferra/engine/Trail" "stopping" "Z" (.int (0 : Int32))) (F_pools_va : Fld Z h0 va "com/example/deferra/deferra/engine/Trail" "pools" "Ljava/util/function/Supplier;" .null) (F_saved_va : Fld Z h0 va "com/example/deferra/deferra/engine/Trail" "saved" "[[Lcom/example/deferra/deferra/engine/Identities;" .null) (V_tl : Ary Z h0 tl .int [(.int (0 : Int32)), (.int (0 : Int32)), (.int (0 : Int32)), (.int (0 : Int32)), (.int (0 : Int32)), (.int (0 : Int32)), (.int (0 : Int32)), (.int (0 : Int32)), (.int (0 : Int32)), (.int (0 : Int32)), (.int (0 : Int32)), (.int (0 : Int32)), (.int (0 : Int32)), (.int (0 : Int32)), (.int (0 : Int32)), (.int (0 : Int32))]) (V_th : Ary Z h0 th .int [(.int (0 : Int32)), (.int (0 : Int32)), (.int (0 : Int32)), (.int (0 : Int32)), (.int (0 : Int32)), (.int (0 : Int32)), (.int (0 : Int32)), (.int (0 : Int32)), (.int (0 : Int32)), (.int (0 : Int32)), (.int (0 : Int32)), (.int (0 : Int32)), (.int (0 : Int32)), (.int (0 : Int32)), (.int (0 : Int32)), (.int (0 : Int32))]) (V_tv : Ary Z h0 tv .int [(.int (0 : Int32)), (.int (0 : Int32)), (.int (0 : Int32)), (.int (0 : Int32)), (.int (0 : Int32)), (.int (0 : Int32)), (.int (0 : Int32)), (.int (0 : Int32)), (.int (0 : Int32)), (.int (0 : Int32)), (.int (0 : Int32)), (.int (0 : Int32)), (.int (0 : Int32)), (.int (0 : Int32)), (.int (0 : Int32)), (.int (0 : Int32))]) (V_tm : Ary Z h0 tm .int [(.int (0 : Int32)), (.int (0 : Int32)), (.int (0 : Int32)), (.int (0 : Int32)), (.int (0 : Int32)), (.int (0 : Int32)), (.int (0 : Int32)), (.int (0 : Int32)), (.int (0 : Int32)), (.int (0 : Int32)), (.int (0 : Int32)), (.int (0 : Int32)), (.int (0 : Int32)), (.int (0 : Int32)), (.int (0 : Int32)), (.int (0 : Int32))]) (g_va : n0 ≤ va) (g_tl : n0 ≤ tl) (g_th : n0 ≤ th) (g_tv : n0 ≤ tv) (g_tm : n0 ≤ tm) (ne_va_tl : va ≠ tl) (ne_va_th : va ≠ th) (ne_va_tv : va ≠ tv) (ne_va_tm : va ≠ tm) (ne_tl_th : tl ≠ th) (ne_tl_tv : tl ≠ tv) (ne_tl_tm : tl ≠ tm) (ne_th_tv : th ≠ tv) (ne_th_tm : th ≠ tm) (ne_tv_tm : tv ≠ tm) :
    MetFree l (⟨"com/example/deferra/deferra/engine/Trail", "add", "(III)I"⟩ : MethodName) (head1 (Jvm.Cond.code (⟨"com/example/deferra/deferra/engine/Trail", "add", "(III)I"⟩ : MethodName) prog_36_method_11_code 5 (some .int) :: ws) ({ frames := 1, cells := 0, slots := 0, locals := 12 } : Room)) (fun a U => a = #[(.ref va), (.int u0), (.int u1), (.int (0 : Int32))] ∧ Z.Warmed39 U.vm ∧ U.heap = h0) (fun _ _ _ _ _ => True) (fun _ U o U' => ∃ v L, o = .returned v ∧ Qad0 Z va tl th tv tm u0 u1 h0 n0 v U'.heap L ∧ FrameEnd U o U' L 0 0) := by
  refine MetFree.of_bodySF (plainFor_of_name pn_6) hisR ?_
  intro p e s m args below meth c s₁ Bd hml0 hP hK
  obtain ⟨rfl, hZ, hh⟩ := hP
  have hx := Bd.exec
  have hby := Bd.bytes
  have hml : c.maxLocals = 5 := hml0
  have hown : s.vm.findClass "com/example/deferra/deferra/engine/Trail" = some m.cls := findClass_of_methodNamed Bd.named
  have hnm := (name_of_methodNamed Bd.named Bd.method).1
  have X0 : Stand p l e ({ frames := 1, cells := 0, slots := 0, locals := 12 } : Room) s m #[(.ref va), (.int u0), (.int u1), (.int (0 : Int32))] below meth c s₁ [] 0 0 := Stand.of_body Bd
  have e0 : s₁.heap = h0 := by rw [← hh, Bd.state]; rfl
  have N0 := Fr.nil n0
  have hlk : meth.locks = false := BodyLoose.notSynchronized Bd
  show Goal p e below s (Qad0 Z va tl th tv tm u0 u1 h0 n0) 0 0 (s₁.setTop (entryFrame m #[(.ref va), (.int u0), (.int u1), (.int (0 : Int32))] 5))
  refine Goal.to (B := s₁.setTop (mkF m 0 #[.val (.ref va), .val (.int u0), .val (.int u1), .val (.int (0 : Int32)), .unset] [])) (fun tt kk => castTop (ef_6 m va u0 u1 (0 : Int32) ) kk) ?_
  refine Goal.to (B := s₁.setTop (mkF m 1 #[.val (.ref va), .val (.int u0), .val (.int u1), .val (.int (0 : Int32)), .unset] [(.ref va)])) (fun tt kk => ?_) ?_
  · show Steps p.tables e below (s₁.setTop (mkF m 0 #[.val (.ref va), .val (.int u0), .val (.int u1), .val (.int (0 : Int32)), .unset] [])) tt
    refine XS.aloadN X0.here hx rfl (hb hby d6_0) rfl rfl ?_
    exact kk
  obtain ⟨cq1, q1, q1'⟩ := E_va.cell
  obtain ⟨_, _, ⟨T1, L1, k1, n1⟩, -, X1, ⟨Lc1, hQ1, l1, y1, z1⟩, st1⟩ := X0.privateBack hx (y := (⟨"com/example/deferra/deferra/engine/Trail", "requireRoom", "()V"⟩ : MethodName)) hown (mvT hZ (hw _ (mw 42 rfl))) (mvT hZ (hw _ (mw 43 rfl))) (selP hZ (hw _ (mw 8 rfl)) (hw _ (mw 44 rfl)) (hw _ (mw 43 rfl)) (by decide)) (Cond.privateMethod_at (mvP hZ (hw _ (mw 44 rfl)) (args := #[]))) (mvT hZ (hw _ (mw 45 rfl))) (by decide) (backOf (W := 0) (rmrq l Z a0 hw [] va (0 : Int32) h0 n0 Z0 F_depth_va F_maxDepth_va F_stopping_va (by decide)) hZ (hw _ (mw 45 rfl)) (hw _ (mw 9 rfl)) (by decide) (by decide)) (g := (mkF m 1 #[.val (.ref va), .val (.int u0), .val (.int u1), .val (.int (0 : Int32)), .unset] [(.ref va)])) rfl (by rw [hml]; rfl) (Steps.refl _) (a := va) (by rw [e0]; exact q1) q1' (argsL := []) (rest := []) (lenOf pd_2 rfl) rfl (by show 2 * 0 + _ ≤ _; exact Nat.le_of_eq rfl) (hb hby d6_1) (fun _ _ => ⟨rfl, e0, (by decide : 0 + 0 ≤ _), (by decide : 0 + 0 ≤ _)⟩)
  dsimp only [Pt.U, Pt.locs, Pt.cells, Pt.slots] at X1 l1 y1 z1 st1 hQ1
  subst l1 y1 z1
  obtain ⟨rfl, N1q, e1⟩ := hQ1
  have N1 := Fr.app N0 N1q
  refine Goal.tr (B := T1.setTop (mkF m 4 #[.val (.ref va), .val (.int u0), .val (.int u1), .val (.int (0 : Int32)), .unset] [])) st1 ?_
  refine Goal.to (B := T1.setTop (mkF m 5 #[.val (.ref va), .val (.int u0), .val (.int u1), .val (.int (0 : Int32)), .unset] [(.ref va)])) (fun tt kk => ?_) ?_
  · show Steps p.tables e below (T1.setTop (mkF m 4 #[.val (.ref va), .val (.int u0), .val (.int u1), .val (.int (0 : Int32)), .unset] [])) tt
    refine XS.aloadN X1.here hx rfl (hb hby d6_4) rfl rfl ?_
    exact kk
  obtain ⟨T2, X2, e2, st2⟩ := getF X1 hx hZ hown (host := "") (Or.inl (hw _ (mw 36 rfl))) Via.refl e1 F_size_va (g := (mkF m 5 #[.val (.ref va), .val (.int u0), .val (.int u1), .val (.int (0 : Int32)), .unset] [(.ref va)])) rfl rfl (hb hby d6_5)
  refine Goal.to (B := T2.setTop (mkF m 8 #[.val (.ref va), .val (.int u0), .val (.int u1), .val (.int (0 : Int32)), .unset] [(.int (0 : Int32))])) st2 ?_
  refine Goal.to (B := T2.setTop (mkF m 9 #[.val (.ref va), .val (.int u0), .val (.int u1), .val (.int (0 : Int32)), .unset] [(.ref va), (.int (0 : Int32))])) (fun tt kk => ?_) ?_
  · show Steps p.tables e below (T2.setTop (mkF m 8 #[.val (.ref va), .val (.int u0), .val (.int u1), .val (.int (0 : Int32)), .unset] [(.int (0 : Int32))])) tt
    refine XS.aloadN X2.here hx rfl (hb hby d6_8) rfl rfl ?_
    exact kk
  obtain ⟨T3, X3, e3, st3⟩ := getF X2 hx hZ hown (host := "") (Or.inl (hw _ (mw 21 rfl))) Via.refl e2 F_values_va (g := (mkF m 9 #[.val (.ref va), .val (.int u0), .val (.int u1), .val (.int (0 : Int32)), .unset] [(.ref va), (.int (0 : Int32))])) rfl rfl (hb hby d6_9)
  refine Goal.to (B := T3.setTop (mkF m 12 #[.val (.ref va), .val (.int u0), .val (.int u1), .val (.int (0 : Int32)), .unset] [(.ref tv), (.int (0 : Int32))])) st3 ?_
  obtain ⟨cl4, Ar4, Sl4⟩ := id V_tv
  have ln4 : cl4.slots.size.toInt32 = (16 : Int32) := lenA Sl4 rfl
  refine Goal.to (B := T3.setTop (mkF m 100 #[.val (.ref va), .val (.int u0), .val (.int u1), .val (.int (0 : Int32)), .unset] [(.ref va)])) (fun tt kk => ?_) ?_
  · show Steps p.tables e below (T3.setTop (mkF m 12 #[.val (.ref va), .val (.int u0), .val (.int u1), .val (.int (0 : Int32)), .unset] [(.ref tv), (.int (0 : Int32))])) tt
    refine X3.arraylength hx (by rw [e3]; exact Ar4.1) (State.isArrayOf_alike hZ.alike Ar4.2.1) (g := (mkF m 12 #[.val (.ref va), .val (.int u0), .val (.int u1), .val (.int (0 : Int32)), .unset] [(.ref tv), (.int (0 : Int32))])) rfl rfl (hb hby d6_12) _ ?_
    rw [ln4]
    show Steps p.tables e below (T3.setTop (mkF m 13 #[.val (.ref va), .val (.int u0), .val (.int u1), .val (.int (0 : Int32)), .unset] [(.int (16 : Int32)), (.int (0 : Int32))])) tt
    refine XS.icmpYes X3.here hx rfl (pc0 := 13) (pc' := 99) rfl (hb hby d6_13) rfl (feq ((by decide) : ¬ ((0 : Int32) = (16 : Int32)))).2 (by decide) (by decide) ?_
    show Steps p.tables e below (T3.setTop (mkF m 99 #[.val (.ref va), .val (.int u0), .val (.int u1), .val (.int (0 : Int32)), .unset] [])) tt
    refine XS.aloadN X3.here hx rfl (hb hby d6_99) rfl rfl ?_
    exact kk
  obtain ⟨T5, X5, e5, st5⟩ := getF X3 hx hZ hown (host := "") (Or.inl (hw _ (mw 17 rfl))) Via.refl e3 F_lows_va (g := (mkF m 100 #[.val (.ref va), .val (.int u0), .val (.int u1), .val (.int (0 : Int32)), .unset] [(.ref va)])) rfl rfl (hb hby d6_100)
  refine Goal.to (B := T5.setTop (mkF m 103 #[.val (.ref va), .val (.int u0), .val (.int u1), .val (.int (0 : Int32)), .unset] [(.ref tl)])) st5 ?_
  refine Goal.to (B := T5.setTop (mkF m 104 #[.val (.ref va), .val (.int u0), .val (.int u1), .val (.int (0 : Int32)), .unset] [(.ref va), (.ref tl)])) (fun tt kk => ?_) ?_
  · show Steps p.tables e below (T5.setTop (mkF m 103 #[.val (.ref va), .val (.int u0), .val (.int u1), .val (.int (0 : Int32)), .unset] [(.ref tl)])) tt
    refine XS.aloadN X5.here hx rfl (hb hby d6_103) rfl rfl ?_
    exact kk
  obtain ⟨T6, X6, e6, st6⟩ := getF X5 hx hZ hown (host := "") (Or.inl (hw _ (mw 36 rfl))) Via.refl e5 F_size_va (g := (mkF m 104 #[.val (.ref va), .val (.int u0), .val (.int u1), .val (.int (0 : Int32)), .unset] [(.ref va), (.ref tl)])) rfl rfl (hb hby d6_104)
  refine Goal.to (B := T6.setTop (mkF m 107 #[.val (.ref va), .val (.int u0), .val (.int u1), .val (.int (0 : Int32)), .unset] [(.int (0 : Int32)), (.ref tl)])) st6 ?_
  refine Goal.to (B := T6.setTop (mkF m 108 #[.val (.ref va), .val (.int u0), .val (.int u1), .val (.int (0 : Int32)), .unset] [(.int u0), (.int (0 : Int32)), (.ref tl)])) (fun tt kk => ?_) ?_
  · show Steps p.tables e below (T6.setTop (mkF m 107 #[.val (.ref va), .val (.int u0), .val (.int u1), .val (.int (0 : Int32)), .unset] [(.int (0 : Int32)), (.ref tl)])) tt
    refine XS.iloadN X6.here hx rfl (hb hby d6_107) rfl ?_
    exact kk
  obtain ⟨cl7, Ar7, Sl7⟩ := id V_tl
  have hin7 := inA (cl := cl7) Sl7 (j := (0 : Int32)) (by decide) (Nat.le_of_ble_eq_true rfl)
  obtain ⟨T7, h7, X7, e7, W7, st7⟩ := stI X6 hx hZ e6 Ar7 (j := (0 : Int32)) hin7 (g := (mkF m 108 #[.val (.ref va), .val (.int u0), .val (.int u1), .val (.int (0 : Int32)), .unset] [(.int u0), (.int (0 : Int32)), (.ref tl)])) rfl rfl (hb hby d6_108)
  have V7 : Ary Z h7 tl .int [(.int u0), (.int (0 : Int32)), (.int (0 : Int32)), (.int (0 : Int32)), (.int (0 : Int32)), (.int (0 : Int32)), (.int (0 : Int32)), (.int (0 : Int32)), (.int (0 : Int32)), (.int (0 : Int32)), (.int (0 : Int32)), (.int (0 : Int32)), (.int (0 : Int32)), (.int (0 : Int32)), (.int (0 : Int32)), (.int (0 : Int32))] := Ary.put Ar7 Sl7 W7 rfl
  have N7 := Fr.snoc X7 N1 g_tl
  refine Goal.to (B := T7.setTop (mkF m 109 #[.val (.ref va), .val (.int u0), .val (.int u1), .val (.int (0 : Int32)), .unset] [])) st7 ?_
  refine Goal.to (B := T7.setTop (mkF m 110 #[.val (.ref va), .val (.int u0), .val (.int u1), .val (.int (0 : Int32)), .unset] [(.ref va)])) (fun tt kk => ?_) ?_
  · show Steps p.tables e below (T7.setTop (mkF m 109 #[.val (.ref va), .val (.int u0), .val (.int u1), .val (.int (0 : Int32)), .unset] [])) tt
    refine XS.aloadN X7.here hx rfl (hb hby d6_109) rfl rfl ?_
    exact kk
  have f8 : Fld Z h7 va "com/example/deferra/deferra/engine/Trail" "highs" "[I" (.ref th) := (F_highs_va.other W7 (Or.inl ne_va_tl))
  obtain ⟨T9, X9, e9, st9⟩ := getF X7 hx hZ hown (host := "") (Or.inl (hw _ (mw 19 rfl))) Via.refl e7 f8 (g := (mkF m 110 #[.val (.ref va), .val (.int u0), .val (.int u1), .val (.int (0 : Int32)), .unset] [(.ref va)])) rfl rfl (hb hby d6_110)
  refine Goal.to (B := T9.setTop (mkF m 113 #[.val (.ref va), .val (.int u0), .val (.int u1), .val (.int (0 : Int32)), .unset] [(.ref th)])) st9 ?_
  refine Goal.to (B := T9.setTop (mkF m 114 #[.val (.ref va), .val (.int u0), .val (.int u1), .val (.int (0 : Int32)), .unset] [(.ref va), (.ref th)])) (fun tt kk => ?_) ?_
  · show Steps p.tables e below (T9.setTop (mkF m 113 #[.val (.ref va), .val (.int u0), .val (.int u1), .val (.int (0 : Int32)), .unset] [(.ref th)])) tt
    refine XS.aloadN X9.here hx rfl (hb hby d6_113) rfl rfl ?_
    exact kk
  have f10 : Fld Z h7 va "com/example/deferra/deferra/engine/Trail" "size" "I" (.int (0 : Int32)) := (F_size_va.other W7 (Or.inl ne_va_tl))
  obtain ⟨T11, X11, e11, st11⟩ := getF X9 hx hZ hown (host := "") (Or.inl (hw _ (mw 36 rfl))) Via.refl e9 f10 (g := (mkF m 114 #[.val (.ref va), .val (.int u0), .val (.int u1), .val (.int (0 : Int32)), .unset] [(.ref va), (.ref th)])) rfl rfl (hb hby d6_114)
  refine Goal.to (B := T11.setTop (mkF m 117 #[.val (.ref va), .val (.int u0), .val (.int u1), .val (.int (0 : Int32)), .unset] [(.int (0 : Int32)), (.ref th)])) st11 ?_
  refine Goal.to (B := T11.setTop (mkF m 118 #[.val (.ref va), .val (.int u0), .val (.int u1), .val (.int (0 : Int32)), .unset] [(.int u1), (.int (0 : Int32)), (.ref th)])) (fun tt kk => ?_) ?_
  · show Steps p.tables e below (T11.setTop (mkF m 117 #[.val (.ref va), .val (.int u0), .val (.int u1), .val (.int (0 : Int32)), .unset] [(.int (0 : Int32)), (.ref th)])) tt
    refine XS.iloadN X11.here hx rfl (hb hby d6_117) rfl ?_
    exact kk
  have f12 : Ary Z h7 th .int [(.int (0 : Int32)), (.int (0 : Int32)), (.int (0 : Int32)), (.int (0 : Int32)), (.int (0 : Int32)), (.int (0 : Int32)), (.int (0 : Int32)), (.int (0 : Int32)), (.int (0 : Int32)), (.int (0 : Int32)), (.int (0 : Int32)), (.int (0 : Int32)), (.int (0 : Int32)), (.int (0 : Int32)), (.int (0 : Int32)), (.int (0 : Int32))] := (V_th.other W7 (Ne.symm ne_tl_th))
  obtain ⟨cl13, Ar13, Sl13⟩ := id f12
  have hin13 := inA (cl := cl13) Sl13 (j := (0 : Int32)) (by decide) (Nat.le_of_ble_eq_true rfl)
  obtain ⟨T13, h13, X13, e13, W13, st13⟩ := stI X11 hx hZ e11 Ar13 (j := (0 : Int32)) hin13 (g := (mkF m 118 #[.val (.ref va), .val (.int u0), .val (.int u1), .val (.int (0 : Int32)), .unset] [(.int u1), (.int (0 : Int32)), (.ref th)])) rfl rfl (hb hby d6_118)
  have V13 : Ary Z h13 th .int [(.int u1), (.int (0 : Int32)), (.int (0 : Int32)), (.int (0 : Int32)), (.int (0 : Int32)), (.int (0 : Int32)), (.int (0 : Int32)), (.int (0 : Int32)), (.int (0 : Int32)), (.int (0 : Int32)), (.int (0 : Int32)), (.int (0 : Int32)), (.int (0 : Int32)), (.int (0 : Int32)), (.int (0 : Int32)), (.int (0 : Int32))] := Ary.put Ar13 Sl13 W13 rfl
  have N13 := Fr.snoc X13 N7 g_th
  refine Goal.to (B := T13.setTop (mkF m 119 #[.val (.ref va), .val (.int u0), .val (.int u1), .val (.int (0 : Int32)), .unset] [])) st13 ?_
  refine Goal.to (B := T13.setTop (mkF m 120 #[.val (.ref va), .val (.int u0), .val (.int u1), .val (.int (0 : Int32)), .unset] [(.ref va)])) (fun tt kk => ?_) ?_
  · show Steps p.tables e below (T13.setTop (mkF m 119 #[.val (.ref va), .val (.int u0), .val (.int u1), .val (.int (0 : Int32)), .unset] [])) tt
    refine XS.aloadN X13.here hx rfl (hb hby d6_119) rfl rfl ?_
    exact kk
  have f14 : Fld Z h13 va "com/example/deferra/deferra/engine/Trail" "values" "[I" (.ref tv) := ((F_values_va.other W7 (Or.inl ne_va_tl)).other W13 (Or.inl ne_va_th))
  obtain ⟨T15, X15, e15, st15⟩ := getF X13 hx hZ hown (host := "") (Or.inl (hw _ (mw 21 rfl))) Via.refl e13 f14 (g := (mkF m 120 #[.val (.ref va), .val (.int u0), .val (.int u1), .val (.int (0 : Int32)), .unset] [(.ref va)])) rfl rfl (hb hby d6_120)
  refine Goal.to (B := T15.setTop (mkF m 123 #[.val (.ref va), .val (.int u0), .val (.int u1), .val (.int (0 : Int32)), .unset] [(.ref tv)])) st15 ?_
  refine Goal.to (B := T15.setTop (mkF m 124 #[.val (.ref va), .val (.int u0), .val (.int u1), .val (.int (0 : Int32)), .unset] [(.ref va), (.ref tv)])) (fun tt kk => ?_) ?_
  · show Steps p.tables e below (T15.setTop (mkF m 123 #[.val (.ref va), .val (.int u0), .val (.int u1), .val (.int (0 : Int32)), .unset] [(.ref tv)])) tt
    refine XS.aloadN X15.here hx rfl (hb hby d6_123) rfl rfl ?_
    exact kk
  have f16 : Fld Z h13 va "com/example/deferra/deferra/engine/Trail" "size" "I" (.int (0 : Int32)) := (f10.other W13 (Or.inl ne_va_th))
  obtain ⟨T17, X17, e17, st17⟩ := getF X15 hx hZ hown (host := "") (Or.inl (hw _ (mw 36 rfl))) Via.refl e15 f16 (g := (mkF m 124 #[.val (.ref va), .val (.int u0), .val (.int u1), .val (.int (0 : Int32)), .unset] [(.ref va), (.ref tv)])) rfl rfl (hb hby d6_124)
  refine Goal.to (B := T17.setTop (mkF m 127 #[.val (.ref va), .val (.int u0), .val (.int u1), .val (.int (0 : Int32)), .unset] [(.int (0 : Int32)), (.ref tv)])) st17 ?_
  refine Goal.to (B := T17.setTop (mkF m 128 #[.val (.ref va), .val (.int u0), .val (.int u1), .val (.int (0 : Int32)), .unset] [(.int u0), (.int (0 : Int32)), (.ref tv)])) (fun tt kk => ?_) ?_
  · show Steps p.tables e below (T17.setTop (mkF m 127 #[.val (.ref va), .val (.int u0), .val (.int u1), .val (.int (0 : Int32)), .unset] [(.int (0 : Int32)), (.ref tv)])) tt
    refine XS.iloadN X17.here hx rfl (hb hby d6_127) rfl ?_
    exact kk
  have f18 : Ary Z h13 tv .int [(.int (0 : Int32)), (.int (0 : Int32)), (.int (0 : Int32)), (.int (0 : Int32)), (.int (0 : Int32)), (.int (0 : Int32)), (.int (0 : Int32)), (.int (0 : Int32)), (.int (0 : Int32)), (.int (0 : Int32)), (.int (0 : Int32)), (.int (0 : Int32)), (.int (0 : Int32)), (.int (0 : Int32)), (.int (0 : Int32)), (.int (0 : Int32))] := ((V_tv.other W7 (Ne.symm ne_tl_tv)).other W13 (Ne.symm ne_th_tv))
  obtain ⟨cl19, Ar19, Sl19⟩ := id f18
  have hin19 := inA (cl := cl19) Sl19 (j := (0 : Int32)) (by decide) (Nat.le_of_ble_eq_true rfl)
  obtain ⟨T19, h19, X19, e19, W19, st19⟩ := stI X17 hx hZ e17 Ar19 (j := (0 : Int32)) hin19 (g := (mkF m 128 #[.val (.ref va), .val (.int u0), .val (.int u1), .val (.int (0 : Int32)), .unset] [(.int u0), (.int (0 : Int32)), (.ref tv)])) rfl rfl (hb hby d6_128)
  have V19 : Ary Z h19 tv .int [(.int u0), (.int (0 : Int32)), (.int (0 : Int32)), (.int (0 : Int32)), (.int (0 : Int32)), (.int (0 : Int32)), (.int (0 : Int32)), (.int (0 : Int32)), (.int (0 : Int32)), (.int (0 : Int32)), (.int (0 : Int32)), (.int (0 : Int32)), (.int (0 : Int32)), (.int (0 : Int32)), (.int (0 : Int32)), (.int (0 : Int32))] := Ary.put Ar19 Sl19 W19 rfl
  have N19 := Fr.snoc X19 N13 g_tv
  refine Goal.to (B := T19.setTop (mkF m 129 #[.val (.ref va), .val (.int u0), .val (.int u1), .val (.int (0 : Int32)), .unset] [])) st19 ?_
  refine Goal.to (B := T19.setTop (mkF m 130 #[.val (.ref va), .val (.int u0), .val (.int u1), .val (.int (0 : Int32)), .unset] [(.ref va)])) (fun tt kk => ?_) ?_
  · show Steps p.tables e below (T19.setTop (mkF m 129 #[.val (.ref va), .val (.int u0), .val (.int u1), .val (.int (0 : Int32)), .unset] [])) tt
    refine XS.aloadN X19.here hx rfl (hb hby d6_129) rfl rfl ?_
    exact kk
  have f20 : Fld Z h19 va "com/example/deferra/deferra/engine/Trail" "makers" "[I" (.ref tm) := (((F_makers_va.other W7 (Or.inl ne_va_tl)).other W13 (Or.inl ne_va_th)).other W19 (Or.inl ne_va_tv))
  obtain ⟨T21, X21, e21, st21⟩ := getF X19 hx hZ hown (host := "") (Or.inl (hw _ (mw 23 rfl))) Via.refl e19 f20 (g := (mkF m 130 #[.val (.ref va), .val (.int u0), .val (.int u1), .val (.int (0 : Int32)), .unset] [(.ref va)])) rfl rfl (hb hby d6_130)
  refine Goal.to (B := T21.setTop (mkF m 133 #[.val (.ref va), .val (.int u0), .val (.int u1), .val (.int (0 : Int32)), .unset] [(.ref tm)])) st21 ?_
  refine Goal.to (B := T21.setTop (mkF m 134 #[.val (.ref va), .val (.int u0), .val (.int u1), .val (.int (0 : Int32)), .unset] [(.ref va), (.ref tm)])) (fun tt kk => ?_) ?_
  · show Steps p.tables e below (T21.setTop (mkF m 133 #[.val (.ref va), .val (.int u0), .val (.int u1), .val (.int (0 : Int32)), .unset] [(.ref tm)])) tt
    refine XS.aloadN X21.here hx rfl (hb hby d6_133) rfl rfl ?_
    exact kk
  have f22 : Fld Z h19 va "com/example/deferra/deferra/engine/Trail" "size" "I" (.int (0 : Int32)) := (f16.other W19 (Or.inl ne_va_tv))
  obtain ⟨T23, X23, e23, st23⟩ := getF X21 hx hZ hown (host := "") (Or.inl (hw _ (mw 36 rfl))) Via.refl e21 f22 (g := (mkF m 134 #[.val (.ref va), .val (.int u0), .val (.int u1), .val (.int (0 : Int32)), .unset] [(.ref va), (.ref tm)])) rfl rfl (hb hby d6_134)
  refine Goal.to (B := T23.setTop (mkF m 137 #[.val (.ref va), .val (.int u0), .val (.int u1), .val (.int (0 : Int32)), .unset] [(.int (0 : Int32)), (.ref tm)])) st23 ?_
  refine Goal.to (B := T23.setTop (mkF m 138 #[.val (.ref va), .val (.int u0), .val (.int u1), .val (.int (0 : Int32)), .unset] [(.int (0 : Int32)), (.int (0 : Int32)), (.ref tm)])) (fun tt kk => ?_) ?_
  · show Steps p.tables e below (T23.setTop (mkF m 137 #[.val (.ref va), .val (.int u0), .val (.int u1), .val (.int (0 : Int32)), .unset] [(.int (0 : Int32)), (.ref tm)])) tt
    refine XS.iloadN X23.here hx rfl (hb hby d6_137) rfl ?_
    exact kk
  have f24 : Ary Z h19 tm .int [(.int (0 : Int32)), (.int (0 : Int32)), (.int (0 : Int32)), (.int (0 : Int32)), (.int (0 : Int32)), (.int (0 : Int32)), (.int (0 : Int32)), (.int (0 : Int32)), (.int (0 : Int32)), (.int (0 : Int32)), (.int (0 : Int32)), (.int (0 : Int32)), (.int (0 : Int32)), (.int (0 : Int32)), (.int (0 : Int32)), (.int (0 : Int32))] := (((V_tm.other W7 (Ne.symm ne_tl_tm)).other W13 (Ne.symm ne_th_tm)).other W19 (Ne.symm ne_tv_tm))
  obtain ⟨cl25, Ar25, Sl25⟩ := id f24
  have hin25 := inA (cl := cl25) Sl25 (j := (0 : Int32)) (by decide) (Nat.le_of_ble_eq_true rfl)
  obtain ⟨T25, h25, X25, e25, W25, st25⟩ := stI X23 hx hZ e23 Ar25 (j := (0 : Int32)) hin25 (g := (mkF m 138 #[.val (.ref va), .val (.int u0), .val (.int u1), .val (.int (0 : Int32)), .unset] [(.int (0 : Int32)), (.int (0 : Int32)), (.ref tm)])) rfl rfl (hb hby d6_138)
  have V25 : Ary Z h25 tm .int [(.int (0 : Int32)), (.int (0 : Int32)), (.int (0 : Int32)), (.int (0 : Int32)), (.int (0 : Int32)), (.int (0 : Int32)), (.int (0 : Int32)), (.int (0 : Int32)), (.int (0 : Int32)), (.int (0 : Int32)), (.int (0 : Int32)), (.int (0 : Int32)), (.int (0 : Int32)), (.int (0 : Int32)), (.int (0 : Int32)), (.int (0 : Int32))] := Ary.put Ar25 Sl25 W25 rfl
  have N25 := Fr.snoc X25 N19 g_tm
  refine Goal.to (B := T25.setTop (mkF m 139 #[.val (.ref va), .val (.int u0), .val (.int u1), .val (.int (0 : Int32)), .unset] [])) st25 ?_
  refine Goal.to (B := T25.setTop (mkF m 140 #[.val (.ref va), .val (.int u0), .val (.int u1), .val (.int (0 : Int32)), .unset] [(.ref va)])) (fun tt kk => ?_) ?_
  · show Steps p.tables e below (T25.setTop (mkF m 139 #[.val (.ref va), .val (.int u0), .val (.int u1), .val (.int (0 : Int32)), .unset] [])) tt
    refine XS.aloadN X25.here hx rfl (hb hby d6_139) rfl rfl ?_
    exact kk
  have f26 : Fld Z h25 va "com/example/deferra/deferra/engine/Trail" "pools" "Ljava/util/function/Supplier;" .null := ((((F_pools_va.other W7 (Or.inl ne_va_tl)).other W13 (Or.inl ne_va_th)).other W19 (Or.inl ne_va_tv)).other W25 (Or.inl ne_va_tm))
  obtain ⟨T27, X27, e27, st27⟩ := getF X25 hx hZ hown (host := "") (Or.inl (hw _ (mw 48 rfl))) Via.refl e25 f26 (g := (mkF m 140 #[.val (.ref va), .val (.int u0), .val (.int u1), .val (.int (0 : Int32)), .unset] [(.ref va)])) rfl rfl (hb hby d6_140)
  refine Goal.to (B := T27.setTop (mkF m 143 #[.val (.ref va), .val (.int u0), .val (.int u1), .val (.int (0 : Int32)), .unset] [.null])) st27 ?_
  refine Goal.to (B := T27.setTop (mkF m 197 #[.val (.ref va), .val (.int u0), .val (.int u1), .val (.int (0 : Int32)), .unset] [(.ref va), (.ref va)])) (fun tt kk => ?_) ?_
  · show Steps p.tables e below (T27.setTop (mkF m 143 #[.val (.ref va), .val (.int u0), .val (.int u1), .val (.int (0 : Int32)), .unset] [.null])) tt
    refine XS.ifnullYes X27.here hx rfl (pc0 := 143) (pc' := 195) rfl (hb hby d6_143) rfl (by decide) (by decide) ?_
    show Steps p.tables e below (T27.setTop (mkF m 195 #[.val (.ref va), .val (.int u0), .val (.int u1), .val (.int (0 : Int32)), .unset] [])) tt
    refine XS.aloadN X27.here hx rfl (hb hby d6_195) rfl rfl ?_
    show Steps p.tables e below (T27.setTop (mkF m 196 #[.val (.ref va), .val (.int u0), .val (.int u1), .val (.int (0 : Int32)), .unset] [(.ref va)])) tt
    refine XS.dup X27.here hx rfl (hb hby d6_196) rfl rfl ?_
    exact kk
  have f28 : Fld Z h25 va "com/example/deferra/deferra/engine/Trail" "size" "I" (.int (0 : Int32)) := (f22.other W25 (Or.inl ne_va_tm))
  obtain ⟨T29, X29, e29, st29⟩ := getF X27 hx hZ hown (host := "") (Or.inl (hw _ (mw 36 rfl))) Via.refl e27 f28 (g := (mkF m 197 #[.val (.ref va), .val (.int u0), .val (.int u1), .val (.int (0 : Int32)), .unset] [(.ref va), (.ref va)])) rfl rfl (hb hby d6_197)
  refine Goal.to (B := T29.setTop (mkF m 200 #[.val (.ref va), .val (.int u0), .val (.int u1), .val (.int (0 : Int32)), .unset] [(.int (0 : Int32)), (.ref va)])) st29 ?_
  refine Goal.to (B := T29.setTop (mkF m 202 #[.val (.ref va), .val (.int u0), .val (.int u1), .val (.int (0 : Int32)), .unset] [(.int (1 : Int32)), (.ref va)])) (fun tt kk => ?_) ?_
  · show Steps p.tables e below (T29.setTop (mkF m 200 #[.val (.ref va), .val (.int u0), .val (.int u1), .val (.int (0 : Int32)), .unset] [(.int (0 : Int32)), (.ref va)])) tt
    refine XS.iconst X29.here hx rfl (hb hby d6_200) ?_
    show Steps p.tables e below (T29.setTop (mkF m 201 #[.val (.ref va), .val (.int u0), .val (.int u1), .val (.int (0 : Int32)), .unset] [(.int (1 : Int32)), (.int (0 : Int32)), (.ref va)])) tt
    refine XS.iadd X29.here hx rfl (hb hby d6_201) rfl ?_
    exact kk
  have f30 : Exa Z h25 va "com/example/deferra/deferra/engine/Trail" := ((((E_va.wr W7).wr W13).wr W19).wr W25)
  obtain ⟨T31, h31, X31, e31, W31, st31⟩ := putF X29 hx hZ hown (host := "") (Or.inl (hw _ (mw 36 rfl))) Via.refl e29 f28 f30 (Or.inl (hw _ (mw 37 rfl))) (hw _ (mw 8 rfl)) (ty := .int) (by decide) rfl rfl (g := (mkF m 202 #[.val (.ref va), .val (.int u0), .val (.int u1), .val (.int (0 : Int32)), .unset] [(.int (1 : Int32)), (.ref va)])) rfl rfl (hb hby d6_202)
  have Fw31 : Fld Z h31 va "com/example/deferra/deferra/engine/Trail" "size" "I" (.int (1 : Int32)) := f28.same W31
  have N31 := Fr.snoc X31 N25 g_va
  refine Goal.to (B := T31.setTop (mkF m 205 #[.val (.ref va), .val (.int u0), .val (.int u1), .val (.int (0 : Int32)), .unset] [])) st31 ?_
  refine Goal.to (B := T31.setTop (mkF m 207 #[.val (.ref va), .val (.int u0), .val (.int u1), .val (.int (0 : Int32)), .unset] [(.ref va), (.ref va)])) (fun tt kk => ?_) ?_
  · show Steps p.tables e below (T31.setTop (mkF m 205 #[.val (.ref va), .val (.int u0), .val (.int u1), .val (.int (0 : Int32)), .unset] [])) tt
    refine XS.aloadN X31.here hx rfl (hb hby d6_205) rfl rfl ?_
    show Steps p.tables e below (T31.setTop (mkF m 206 #[.val (.ref va), .val (.int u0), .val (.int u1), .val (.int (0 : Int32)), .unset] [(.ref va)])) tt
    refine XS.dup X31.here hx rfl (hb hby d6_206) rfl rfl ?_
    exact kk
  have f32 : Fld Z h31 va "com/example/deferra/deferra/engine/Trail" "depth" "I" (.int (0 : Int32)) := (((((F_depth_va.other W7 (Or.inl ne_va_tl)).other W13 (Or.inl ne_va_th)).other W19 (Or.inl ne_va_tv)).other W25 (Or.inl ne_va_tm)).other W31 (Or.inr (slot_ne (Or.inl (hw _ (mw 35 rfl))) (Or.inl (hw _ (mw 37 rfl))) (by decide) (t := .int) (t' := .int) (by decide) (by decide))))
  obtain ⟨T33, X33, e33, st33⟩ := getF X31 hx hZ hown (host := "") (Or.inl (hw _ (mw 34 rfl))) Via.refl e31 f32 (g := (mkF m 207 #[.val (.ref va), .val (.int u0), .val (.int u1), .val (.int (0 : Int32)), .unset] [(.ref va), (.ref va)])) rfl rfl (hb hby d6_207)
  refine Goal.to (B := T33.setTop (mkF m 210 #[.val (.ref va), .val (.int u0), .val (.int u1), .val (.int (0 : Int32)), .unset] [(.int (0 : Int32)), (.ref va)])) st33 ?_
  refine Goal.to (B := T33.setTop (mkF m 212 #[.val (.ref va), .val (.int u0), .val (.int u1), .val (.int (0 : Int32)), .unset] [(.int (1 : Int32)), (.ref va)])) (fun tt kk => ?_) ?_
  · show Steps p.tables e below (T33.setTop (mkF m 210 #[.val (.ref va), .val (.int u0), .val (.int u1), .val (.int (0 : Int32)), .unset] [(.int (0 : Int32)), (.ref va)])) tt
    refine XS.iconst X33.here hx rfl (hb hby d6_210) ?_
    show Steps p.tables e below (T33.setTop (mkF m 211 #[.val (.ref va), .val (.int u0), .val (.int u1), .val (.int (0 : Int32)), .unset] [(.int (1 : Int32)), (.int (0 : Int32)), (.ref va)])) tt
    refine XS.iadd X33.here hx rfl (hb hby d6_211) rfl ?_
    exact kk
  have f34 : Exa Z h31 va "com/example/deferra/deferra/engine/Trail" := (f30.wr W31)
  obtain ⟨T35, h35, X35, e35, W35, st35⟩ := putF X33 hx hZ hown (host := "") (Or.inl (hw _ (mw 34 rfl))) Via.refl e33 f32 f34 (Or.inl (hw _ (mw 35 rfl))) (hw _ (mw 8 rfl)) (ty := .int) (by decide) rfl rfl (g := (mkF m 212 #[.val (.ref va), .val (.int u0), .val (.int u1), .val (.int (0 : Int32)), .unset] [(.int (1 : Int32)), (.ref va)])) rfl rfl (hb hby d6_212)
  have Fw35 : Fld Z h35 va "com/example/deferra/deferra/engine/Trail" "depth" "I" (.int (1 : Int32)) := f32.same W35
  have N35 := Fr.snoc X35 N31 g_va
  refine Goal.to (B := T35.setTop (mkF m 215 #[.val (.ref va), .val (.int u0), .val (.int u1), .val (.int (0 : Int32)), .unset] [])) st35 ?_
  refine Goal.to (B := T35.setTop (mkF m 216 #[.val (.ref va), .val (.int u0), .val (.int u1), .val (.int (0 : Int32)), .unset] [(.int u0)])) (fun tt kk => ?_) ?_
  · show Steps p.tables e below (T35.setTop (mkF m 215 #[.val (.ref va), .val (.int u0), .val (.int u1), .val (.int (0 : Int32)), .unset] [])) tt
    refine XS.iloadN X35.here hx rfl (hb hby d6_215) rfl ?_
    exact kk
  have f36 : Keep h0 h35 [va, tl, th, tv, tm] := (((((((Keep.refl h0 [va, tl, th, tv, tm]).wr W7 (Or.inl (List.mem_of_getElem? (i := 1) rfl))).wr W13 (Or.inl (List.mem_of_getElem? (i := 2) rfl))).wr W19 (Or.inl (List.mem_of_getElem? (i := 3) rfl))).wr W25 (Or.inl (List.mem_of_getElem? (i := 4) rfl))).wr W31 (Or.inl (List.mem_of_getElem? (i := 0) rfl))).wr W35 (Or.inl (List.mem_of_getElem? (i := 0) rfl)))
  have f37 : Fld Z h35 va "com/example/deferra/deferra/engine/Trail" "lows" "[I" (.ref tl) := ((((((F_lows_va.other W7 (Or.inl ne_va_tl)).other W13 (Or.inl ne_va_th)).other W19 (Or.inl ne_va_tv)).other W25 (Or.inl ne_va_tm)).other W31 (Or.inr (slot_ne (Or.inl (hw _ (mw 18 rfl))) (Or.inl (hw _ (mw 37 rfl))) (by decide) (t := (.array .int)) (t' := .int) (by decide) (by decide)))).other W35 (Or.inr (slot_ne (Or.inl (hw _ (mw 18 rfl))) (Or.inl (hw _ (mw 35 rfl))) (by decide) (t := (.array .int)) (t' := .int) (by decide) (by decide))))
  have f38 : Fld Z h35 va "com/example/deferra/deferra/engine/Trail" "highs" "[I" (.ref th) := (((((f8.other W13 (Or.inl ne_va_th)).other W19 (Or.inl ne_va_tv)).other W25 (Or.inl ne_va_tm)).other W31 (Or.inr (slot_ne (Or.inl (hw _ (mw 20 rfl))) (Or.inl (hw _ (mw 37 rfl))) (by decide) (t := (.array .int)) (t' := .int) (by decide) (by decide)))).other W35 (Or.inr (slot_ne (Or.inl (hw _ (mw 20 rfl))) (Or.inl (hw _ (mw 35 rfl))) (by decide) (t := (.array .int)) (t' := .int) (by decide) (by decide))))
  have f39 : Fld Z h35 va "com/example/deferra/deferra/engine/Trail" "values" "[I" (.ref tv) := ((((f14.other W19 (Or.inl ne_va_tv)).other W25 (Or.inl ne_va_tm)).other W31 (Or.inr (slot_ne (Or.inl (hw _ (mw 22 rfl))) (Or.inl (hw _ (mw 37 rfl))) (by decide) (t := (.array .int)) (t' := .int) (by decide) (by decide)))).other W35 (Or.inr (slot_ne (Or.inl (hw _ (mw 22 rfl))) (Or.inl (hw _ (mw 35 rfl))) (by decide) (t := (.array .int)) (t' := .int) (by decide) (by decide))))
  have f40 : Fld Z h35 va "com/example/deferra/deferra/engine/Trail" "makers" "[I" (.ref tm) := (((f20.other W25 (Or.inl ne_va_tm)).other W31 (Or.inr (slot_ne (Or.inl (hw _ (mw 24 rfl))) (Or.inl (hw _ (mw 37 rfl))) (by decide) (t := (.array .int)) (t' := .int) (by decide) (by decide)))).other W35 (Or.inr (slot_ne (Or.inl (hw _ (mw 24 rfl))) (Or.inl (hw _ (mw 35 rfl))) (by decide) (t := (.array .int)) (t' := .int) (by decide) (by decide))))
  have f41 : Fld Z h35 va "com/example/deferra/deferra/engine/Trail" "fromTrace" "Z" (.int (0 : Int32)) := ((((((F_fromTrace_va.other W7 (Or.inl ne_va_tl)).other W13 (Or.inl ne_va_th)).other W19 (Or.inl ne_va_tv)).other W25 (Or.inl ne_va_tm)).other W31 (Or.inr (slot_ne (Or.inr (hw _ (mw 26 rfl))) (Or.inl (hw _ (mw 37 rfl))) (by decide) (t := .boolean) (t' := .int) (by decide) (by decide)))).other W35 (Or.inr (slot_ne (Or.inr (hw _ (mw 26 rfl))) (Or.inl (hw _ (mw 35 rfl))) (by decide) (t := .boolean) (t' := .int) (by decide) (by decide))))
  have f42 : Fld Z h35 va "com/example/deferra/deferra/engine/Trail" "maxDepth" "I" (.int (8 : Int32)) := ((((((F_maxDepth_va.other W7 (Or.inl ne_va_tl)).other W13 (Or.inl ne_va_th)).other W19 (Or.inl ne_va_tv)).other W25 (Or.inl ne_va_tm)).other W31 (Or.inr (slot_ne (Or.inr (hw _ (mw 28 rfl))) (Or.inl (hw _ (mw 37 rfl))) (by decide) (t := .int) (t' := .int) (by decide) (by decide)))).other W35 (Or.inr (slot_ne (Or.inr (hw _ (mw 28 rfl))) (Or.inl (hw _ (mw 35 rfl))) (by decide) (t := .int) (t' := .int) (by decide) (by decide))))
  have f43 : Fld Z h35 va "com/example/deferra/deferra/engine/Trail" "size" "I" (.int (1 : Int32)) := (Fw31.other W35 (Or.inr (slot_ne (Or.inl (hw _ (mw 37 rfl))) (Or.inl (hw _ (mw 35 rfl))) (by decide) (t := .int) (t' := .int) (by decide) (by decide))))
  have f44 : Fld Z h35 va "com/example/deferra/deferra/engine/Trail" "stopping" "Z" (.int (0 : Int32)) := ((((((F_stopping_va.other W7 (Or.inl ne_va_tl)).other W13 (Or.inl ne_va_th)).other W19 (Or.inl ne_va_tv)).other W25 (Or.inl ne_va_tm)).other W31 (Or.inr (slot_ne (Or.inl (hw _ (mw 47 rfl))) (Or.inl (hw _ (mw 37 rfl))) (by decide) (t := .boolean) (t' := .int) (by decide) (by decide)))).other W35 (Or.inr (slot_ne (Or.inl (hw _ (mw 47 rfl))) (Or.inl (hw _ (mw 35 rfl))) (by decide) (t := .boolean) (t' := .int) (by decide) (by decide))))
  have f45 : Fld Z h35 va "com/example/deferra/deferra/engine/Trail" "pools" "Ljava/util/function/Supplier;" .null := ((f26.other W31 (Or.inr (slot_ne (Or.inl (hw _ (mw 49 rfl))) (Or.inl (hw _ (mw 37 rfl))) (by decide) (t := (.object "java/util/function/Supplier")) (t' := .int) (by decide) (by decide)))).other W35 (Or.inr (slot_ne (Or.inl (hw _ (mw 49 rfl))) (Or.inl (hw _ (mw 35 rfl))) (by decide) (t := (.object "java/util/function/Supplier")) (t' := .int) (by decide) (by decide))))
  have f46 : Fld Z h35 va "com/example/deferra/deferra/engine/Trail" "saved" "[[Lcom/example/deferra/deferra/engine/Identities;" .null := ((((((F_saved_va.other W7 (Or.inl ne_va_tl)).other W13 (Or.inl ne_va_th)).other W19 (Or.inl ne_va_tv)).other W25 (Or.inl ne_va_tm)).other W31 (Or.inr (slot_ne (Or.inl (hw _ (mw 60 rfl))) (Or.inl (hw _ (mw 37 rfl))) (by decide) (t := (.array (.array (.object "com/example/deferra/deferra/engine/Identities")))) (t' := .int) (by decide) (by decide)))).other W35 (Or.inr (slot_ne (Or.inl (hw _ (mw 60 rfl))) (Or.inl (hw _ (mw 35 rfl))) (by decide) (t := (.array (.array (.object "com/example/deferra/deferra/engine/Identities")))) (t' := .int) (by decide) (by decide))))
  have f47 : Ary Z h35 tl .int [(.int u0), (.int (0 : Int32)), (.int (0 : Int32)), (.int (0 : Int32)), (.int (0 : Int32)), (.int (0 : Int32)), (.int (0 : Int32)), (.int (0 : Int32)), (.int (0 : Int32)), (.int (0 : Int32)), (.int (0 : Int32)), (.int (0 : Int32)), (.int (0 : Int32)), (.int (0 : Int32)), (.int (0 : Int32)), (.int (0 : Int32))] := (((((V7.other W13 ne_tl_th).other W19 ne_tl_tv).other W25 ne_tl_tm).other W31 (Ne.symm ne_va_tl)).other W35 (Ne.symm ne_va_tl))
  have f48 : Ary Z h35 th .int [(.int u1), (.int (0 : Int32)), (.int (0 : Int32)), (.int (0 : Int32)), (.int (0 : Int32)), (.int (0 : Int32)), (.int (0 : Int32)), (.int (0 : Int32)), (.int (0 : Int32)), (.int (0 : Int32)), (.int (0 : Int32)), (.int (0 : Int32)), (.int (0 : Int32)), (.int (0 : Int32)), (.int (0 : Int32)), (.int (0 : Int32))] := ((((V13.other W19 ne_th_tv).other W25 ne_th_tm).other W31 (Ne.symm ne_va_th)).other W35 (Ne.symm ne_va_th))
  have f49 : Ary Z h35 tv .int [(.int u0), (.int (0 : Int32)), (.int (0 : Int32)), (.int (0 : Int32)), (.int (0 : Int32)), (.int (0 : Int32)), (.int (0 : Int32)), (.int (0 : Int32)), (.int (0 : Int32)), (.int (0 : Int32)), (.int (0 : Int32)), (.int (0 : Int32)), (.int (0 : Int32)), (.int (0 : Int32)), (.int (0 : Int32)), (.int (0 : Int32))] := (((V19.other W25 ne_tv_tm).other W31 (Ne.symm ne_va_tv)).other W35 (Ne.symm ne_va_tv))
  have f50 : Ary Z h35 tm .int [(.int (0 : Int32)), (.int (0 : Int32)), (.int (0 : Int32)), (.int (0 : Int32)), (.int (0 : Int32)), (.int (0 : Int32)), (.int (0 : Int32)), (.int (0 : Int32)), (.int (0 : Int32)), (.int (0 : Int32)), (.int (0 : Int32)), (.int (0 : Int32)), (.int (0 : Int32)), (.int (0 : Int32)), (.int (0 : Int32)), (.int (0 : Int32))] := ((V25.other W31 (Ne.symm ne_va_tm)).other W35 (Ne.symm ne_va_tm))
  exact Goal.retV X35 hx Bd.returns rfl (Or.inl ⟨rfl, Or.inl rfl, _, rfl⟩) (hb hby d6_216) hlk e35 ⟨rfl, N35, f36, f37, f38, f39, f40, f41, f42, Fw35, f43, f44, f45, f46, f47, f48, f49, f50⟩ (by decide) (by decide)
theorem ef_5 (m : MethodId) (x0 : Addr) (x1 : Int32) (x2 : Int32)  : entryFrame m #[(.ref x0), (.int x1), (.int x2)] 4 = mkF m 0 #[.val (.ref x0), .val (.int x1), .val (.int x2), .unset] [] := by first | (simp [entryFrame, mkF, argsToLocals, Value.category]; done) | rfl
theorem pn_5 : plainName "com/example/deferra/deferra/engine/Trail" = true := by first | (simp [plainName, overriddenIn]; done) | decide +kernel
theorem d5_0 : decode prog_36_method_5_code 0 = .ok (.aload_n 0, 1) := by decide +kernel
theorem d5_1 : decode prog_36_method_5_code 1 = .ok (.getfield 22, 3) := by decide +kernel
theorem d5_4 : decode prog_36_method_5_code 4 = .ok (.ifCond .eq 13, 3) := by decide +kernel
theorem d5_17 : decode prog_36_method_5_code 17 = .ok (.aload_n 0, 1) := by decide +kernel
theorem d5_18 : decode prog_36_method_5_code 18 = .ok (.getfield 38, 3) := by decide +kernel
theorem d5_21 : decode prog_36_method_5_code 21 = .ok (.aload_n 0, 1) := by decide +kernel
theorem d5_22 : decode prog_36_method_5_code 22 = .ok (.getfield 35, 3) := by decide +kernel
theorem d5_25 : decode prog_36_method_5_code 25 = .ok (.if_icmp .ge 84, 3) := by decide +kernel
theorem d5_109 : decode prog_36_method_5_code 109 = .ok (.aload_n 0, 1) := by decide +kernel
theorem d5_110 : decode prog_36_method_5_code 110 = .ok (.iload_n 1, 1) := by decide +kernel
theorem d5_111 : decode prog_36_method_5_code 111 = .ok (.iload_n 2, 1) := by decide +kernel
theorem d5_112 : decode prog_36_method_5_code 112 = .ok (.iconst 0, 1) := by decide +kernel
theorem pd_3 : parseMethodDescriptor "(III)I" = some ⟨[.int, .int, .int], some .int⟩ := by decide +kernel
theorem d5_113 : decode prog_36_method_5_code 113 = .ok (.invokevirtual 66, 3) := by decide +kernel
theorem d5_116 : decode prog_36_method_5_code 116 = .ok (.istore_n 3, 1) := by decide +kernel
theorem d5_117 : decode prog_36_method_5_code 117 = .ok (.iload_n 3, 1) := by decide +kernel
theorem d5_118 : decode prog_36_method_5_code 118 = .ok (.ireturn, 1) := by decide +kernel
def Qnx0 (Z : State) (va : Addr) (tl : Addr) (th : Addr) (tv : Addr) (tm : Addr) (u0 : Int32) (u1 : Int32) (h0 : Heap) (n0 : Nat) (v : Option Value) (h : Heap) (L : List Loc) : Prop := v = some (.int u0) ∧ Fr n0 L ∧ Keep h0 h [va, tl, th, tv, tm] ∧ Fld Z h va "com/example/deferra/deferra/engine/Trail" "lows" "[I" (.ref tl) ∧ Fld Z h va "com/example/deferra/deferra/engine/Trail" "highs" "[I" (.ref th) ∧ Fld Z h va "com/example/deferra/deferra/engine/Trail" "values" "[I" (.ref tv) ∧ Fld Z h va "com/example/deferra/deferra/engine/Trail" "makers" "[I" (.ref tm) ∧ Fld Z h va "com/example/deferra/deferra/engine/Trail" "fromTrace" "Z" (.int (0 : Int32)) ∧ Fld Z h va "com/example/deferra/deferra/engine/Trail" "maxDepth" "I" (.int (8 : Int32)) ∧ Fld Z h va "com/example/deferra/deferra/engine/Trail" "depth" "I" (.int (1 : Int32)) ∧ Fld Z h va "com/example/deferra/deferra/engine/Trail" "size" "I" (.int (1 : Int32)) ∧ Fld Z h va "com/example/deferra/deferra/engine/Trail" "stopping" "Z" (.int (0 : Int32)) ∧ Fld Z h va "com/example/deferra/deferra/engine/Trail" "pools" "Ljava/util/function/Supplier;" .null ∧ Fld Z h va "com/example/deferra/deferra/engine/Trail" "saved" "[[Lcom/example/deferra/deferra/engine/Identities;" .null ∧ Ary Z h tl .int [(.int u0), (.int (0 : Int32)), (.int (0 : Int32)), (.int (0 : Int32)), (.int (0 : Int32)), (.int (0 : Int32)), (.int (0 : Int32)), (.int (0 : Int32)), (.int (0 : Int32)), (.int (0 : Int32)), (.int (0 : Int32)), (.int (0 : Int32)), (.int (0 : Int32)), (.int (0 : Int32)), (.int (0 : Int32)), (.int (0 : Int32))] ∧ Ary Z h th .int [(.int u1), (.int (0 : Int32)), (.int (0 : Int32)), (.int (0 : Int32)), (.int (0 : Int32)), (.int (0 : Int32)), (.int (0 : Int32)), (.int (0 : Int32)), (.int (0 : Int32)), (.int (0 : Int32)), (.int (0 : Int32)), (.int (0 : Int32)), (.int (0 : Int32)), (.int (0 : Int32)), (.int (0 : Int32)), (.int (0 : Int32))] ∧ Ary Z h tv .int [(.int u0), (.int (0 : Int32)), (.int (0 : Int32)), (.int (0 : Int32)), (.int (0 : Int32)), (.int (0 : Int32)), (.int (0 : Int32)), (.int (0 : Int32)), (.int (0 : Int32)), (.int (0 : Int32)), (.int (0 : Int32)), (.int (0 : Int32)), (.int (0 : Int32)), (.int (0 : Int32)), (.int (0 : Int32)), (.int (0 : Int32))] ∧ Ary Z h tm .int [(.int (0 : Int32)), (.int (0 : Int32)), (.int (0 : Int32)), (.int (0 : Int32)), (.int (0 : Int32)), (.int (0 : Int32)), (.int (0 : Int32)), (.int (0 : Int32)), (.int (0 : Int32)), (.int (0 : Int32)), (.int (0 : Int32)), (.int (0 : Int32)), (.int (0 : Int32)), (.int (0 : Int32)), (.int (0 : Int32)), (.int (0 : Int32))]
set_option maxRecDepth 65536 in
set_option maxHeartbeats 40000000 in
theorem rmnx0 (l : Launch) (Z : State) (a0 : Array Value) (hw : ∀ d ∈ tables_1, d.before a0 Z = true) (ws : List Jvm.Cond) (va : Addr) (tl : Addr) (th : Addr) (tv : Addr) (tm : Addr) (u0 : Int32) (u1 : Int32) (h0 : Heap) (n0 : Nat) (Z0 : n0 ≤ h0.size) (E_va : Exa Z h0 va "com/example/deferra/deferra/engine/Trail") (F_lows_va : Fld Z h0 va "com/example/deferra/deferra/engine/Trail" "lows" "[I" (.ref tl)) (F_highs_va : Fld Z h0 va "com/example/deferra/deferra/engine/Trail" "highs" "[I" (.ref th)) (F_values_va : Fld Z h0 va "com/example/deferra/deferra/engine/Trail" "values" "[I" (.ref tv)) (F_makers_va : Fld Z h0 va "com/example/deferra/deferra/engine/Trail" "makers" "[I" (.ref tm)) (F_fromTrace_va : Fld Z h0 va "com/example/deferra/deferra/engine/Trail" "fromTrace" "Z" (.int (0 : Int32))) (F_maxDepth_va : Fld Z h0 va "com/example/deferra/deferra/engine/Trail" "maxDepth" "I" (.int (8 : Int32))) (F_depth_va : Fld Z h0 va "com/example/deferra/deferra/engine/Trail" "depth" "I" (.int (0 : Int32))) (F_size_va : Fld Z h0 va "com/example/deferra/deferra/engine/Trail" "size" "I" (.int (0 : Int32))) (F_stopping_va : Fld Z h0 va "com/example/deferra/deferra/engine/Trail" "stopping" "Z" (.int (0 : Int32))) (F_pools_va : Fld Z h0 va "com/example/deferra/deferra/engine/Trail" "pools" "Ljava/util/function/Supplier;" .null) (F_saved_va : Fld Z h0 va "com/example/deferra/deferra/engine/Trail" "saved" "[[Lcom/example/deferra/deferra/engine/Identities;" .null) (V_tl : Ary Z h0 tl .int [(.int (0 : Int32)), (.int (0 : Int32)), (.int (0 : Int32)), (.int (0 : Int32)), (.int (0 : Int32)), (.int (0 : Int32)), (.int (0 : Int32)), (.int (0 : Int32)), (.int (0 : Int32)), (.int (0 : Int32)), (.int (0 : Int32)), (.int (0 : Int32)), (.int (0 : Int32)), (.int (0 : Int32)), (.int (0 : Int32)), (.int (0 : Int32))]) (V_th : Ary Z h0 th .int [(.int (0 : Int32)), (.int (0 : Int32)), (.int (0 : Int32)), (.int (0 : Int32)), (.int (0 : Int32)), (.int (0 : Int32)), (.int (0 : Int32)), (.int (0 : Int32)), (.int (0 : Int32)), (.int (0 : Int32)), (.int (0 : Int32)), (.int (0 : Int32)), (.int (0 : Int32)), (.int (0 : Int32)), (.int (0 : Int32)), (.int (0 : Int32))]) (V_tv : Ary Z h0 tv .int [(.int (0 : Int32)), (.int (0 : Int32)), (.int (0 : Int32)), (.int (0 : Int32)), (.int (0 : Int32)), (.int (0 : Int32)), (.int (0 : Int32)), (.int (0 : Int32)), (.int (0 : Int32)), (.int (0 : Int32)), (.int (0 : Int32)), (.int (0 : Int32)), (.int (0 : Int32)), (.int (0 : Int32)), (.int (0 : Int32)), (.int (0 : Int32))]) (V_tm : Ary Z h0 tm .int [(.int (0 : Int32)), (.int (0 : Int32)), (.int (0 : Int32)), (.int (0 : Int32)), (.int (0 : Int32)), (.int (0 : Int32)), (.int (0 : Int32)), (.int (0 : Int32)), (.int (0 : Int32)), (.int (0 : Int32)), (.int (0 : Int32)), (.int (0 : Int32)), (.int (0 : Int32)), (.int (0 : Int32)), (.int (0 : Int32)), (.int (0 : Int32))]) (g_va : n0 ≤ va) (g_tl : n0 ≤ tl) (g_th : n0 ≤ th) (g_tv : n0 ≤ tv) (g_tm : n0 ≤ tm) (ne_va_tl : va ≠ tl) (ne_va_th : va ≠ th) (ne_va_tv : va ≠ tv) (ne_va_tm : va ≠ tm) (ne_tl_th : tl ≠ th) (ne_tl_tv : tl ≠ tv) (ne_tl_tm : tl ≠ tm) (ne_th_tv : th ≠ tv) (ne_th_tm : th ≠ tm) (ne_tv_tm : tv ≠ tm) :
    MetFree l (⟨"com/example/deferra/deferra/engine/Trail", "next", "(II)I"⟩ : MethodName) (head1 (Jvm.Cond.code (⟨"com/example/deferra/deferra/engine/Trail", "next", "(II)I"⟩ : MethodName) prog_36_method_5_code 4 (some .int) :: ws) ({ frames := 2, cells := 0, slots := 0, locals := 28 } : Room)) (fun a U => a = #[(.ref va), (.int u0), (.int u1)] ∧ Z.Warmed39 U.vm ∧ U.heap = h0) (fun _ _ _ _ _ => True) (fun _ U o U' => ∃ v L, o = .returned v ∧ Qnx0 Z va tl th tv tm u0 u1 h0 n0 v U'.heap L ∧ FrameEnd U o U' L 0 0) := by
  refine MetFree.of_bodySF (plainFor_of_name pn_5) hisR ?_
  intro p e s m args below meth c s₁ Bd hml0 hP hK
  obtain ⟨rfl, hZ, hh⟩ := hP
  have hx := Bd.exec
  have hby := Bd.bytes
  have hml : c.maxLocals = 4 := hml0
  have hown : s.vm.findClass "com/example/deferra/deferra/engine/Trail" = some m.cls := findClass_of_methodNamed Bd.named
  have hnm := (name_of_methodNamed Bd.named Bd.method).1
  have X0 : Stand p l e ({ frames := 2, cells := 0, slots := 0, locals := 28 } : Room) s m #[(.ref va), (.int u0), (.int u1)] below meth c s₁ [] 0 0 := Stand.of_body Bd
  have e0 : s₁.heap = h0 := by rw [← hh, Bd.state]; rfl
  have N0 := Fr.nil n0
  have hlk : meth.locks = false := BodyLoose.notSynchronized Bd
  show Goal p e below s (Qnx0 Z va tl th tv tm u0 u1 h0 n0) 0 0 (s₁.setTop (entryFrame m #[(.ref va), (.int u0), (.int u1)] 4))
  refine Goal.to (B := s₁.setTop (mkF m 0 #[.val (.ref va), .val (.int u0), .val (.int u1), .unset] [])) (fun tt kk => castTop (ef_5 m va u0 u1 ) kk) ?_
  refine Goal.to (B := s₁.setTop (mkF m 1 #[.val (.ref va), .val (.int u0), .val (.int u1), .unset] [(.ref va)])) (fun tt kk => ?_) ?_
  · show Steps p.tables e below (s₁.setTop (mkF m 0 #[.val (.ref va), .val (.int u0), .val (.int u1), .unset] [])) tt
    refine XS.aloadN X0.here hx rfl (hb hby d5_0) rfl rfl ?_
    exact kk
  obtain ⟨T1, X1, e1, st1⟩ := getF X0 hx hZ hown (host := "") (Or.inl (hw _ (mw 25 rfl))) Via.refl e0 F_fromTrace_va (g := (mkF m 1 #[.val (.ref va), .val (.int u0), .val (.int u1), .unset] [(.ref va)])) rfl rfl (hb hby d5_1)
  refine Goal.to (B := T1.setTop (mkF m 4 #[.val (.ref va), .val (.int u0), .val (.int u1), .unset] [(.int (0 : Int32))])) st1 ?_
  refine Goal.to (B := T1.setTop (mkF m 18 #[.val (.ref va), .val (.int u0), .val (.int u1), .unset] [(.ref va)])) (fun tt kk => ?_) ?_
  · show Steps p.tables e below (T1.setTop (mkF m 4 #[.val (.ref va), .val (.int u0), .val (.int u1), .unset] [(.int (0 : Int32))])) tt
    refine XS.ifYes X1.here hx rfl (pc0 := 4) (pc' := 17) rfl (hb hby d5_4) rfl ((if0 _ _).trans (teq (rfl : (0 : Int32) = (0 : Int32))).1) (by decide) (by decide) ?_
    show Steps p.tables e below (T1.setTop (mkF m 17 #[.val (.ref va), .val (.int u0), .val (.int u1), .unset] [])) tt
    refine XS.aloadN X1.here hx rfl (hb hby d5_17) rfl rfl ?_
    exact kk
  obtain ⟨T2, X2, e2, st2⟩ := getF X1 hx hZ hown (host := "") (Or.inl (hw _ (mw 34 rfl))) Via.refl e1 F_depth_va (g := (mkF m 18 #[.val (.ref va), .val (.int u0), .val (.int u1), .unset] [(.ref va)])) rfl rfl (hb hby d5_18)
  refine Goal.to (B := T2.setTop (mkF m 21 #[.val (.ref va), .val (.int u0), .val (.int u1), .unset] [(.int (0 : Int32))])) st2 ?_
  refine Goal.to (B := T2.setTop (mkF m 22 #[.val (.ref va), .val (.int u0), .val (.int u1), .unset] [(.ref va), (.int (0 : Int32))])) (fun tt kk => ?_) ?_
  · show Steps p.tables e below (T2.setTop (mkF m 21 #[.val (.ref va), .val (.int u0), .val (.int u1), .unset] [(.int (0 : Int32))])) tt
    refine XS.aloadN X2.here hx rfl (hb hby d5_21) rfl rfl ?_
    exact kk
  obtain ⟨T3, X3, e3, st3⟩ := getF X2 hx hZ hown (host := "") (Or.inl (hw _ (mw 36 rfl))) Via.refl e2 F_size_va (g := (mkF m 22 #[.val (.ref va), .val (.int u0), .val (.int u1), .unset] [(.ref va), (.int (0 : Int32))])) rfl rfl (hb hby d5_22)
  refine Goal.to (B := T3.setTop (mkF m 25 #[.val (.ref va), .val (.int u0), .val (.int u1), .unset] [(.int (0 : Int32)), (.int (0 : Int32))])) st3 ?_
  refine Goal.to (B := T3.setTop (mkF m 113 #[.val (.ref va), .val (.int u0), .val (.int u1), .unset] [(.int (0 : Int32)), (.int u1), (.int u0), (.ref va)])) (fun tt kk => ?_) ?_
  · show Steps p.tables e below (T3.setTop (mkF m 25 #[.val (.ref va), .val (.int u0), .val (.int u1), .unset] [(.int (0 : Int32)), (.int (0 : Int32))])) tt
    refine XS.icmpYes X3.here hx rfl (pc0 := 25) (pc' := 109) rfl (hb hby d5_25) rfl (flt (Int32.lt_irrefl : ¬ ((0 : Int32) < (0 : Int32)))).2.1 (by decide) (by decide) ?_
    show Steps p.tables e below (T3.setTop (mkF m 109 #[.val (.ref va), .val (.int u0), .val (.int u1), .unset] [])) tt
    refine XS.aloadN X3.here hx rfl (hb hby d5_109) rfl rfl ?_
    show Steps p.tables e below (T3.setTop (mkF m 110 #[.val (.ref va), .val (.int u0), .val (.int u1), .unset] [(.ref va)])) tt
    refine XS.iloadN X3.here hx rfl (hb hby d5_110) rfl ?_
    show Steps p.tables e below (T3.setTop (mkF m 111 #[.val (.ref va), .val (.int u0), .val (.int u1), .unset] [(.int u0), (.ref va)])) tt
    refine XS.iloadN X3.here hx rfl (hb hby d5_111) rfl ?_
    show Steps p.tables e below (T3.setTop (mkF m 112 #[.val (.ref va), .val (.int u0), .val (.int u1), .unset] [(.int u1), (.int u0), (.ref va)])) tt
    refine XS.iconst X3.here hx rfl (hb hby d5_112) ?_
    exact kk
  obtain ⟨cq4, q4, q4'⟩ := E_va.cell
  obtain ⟨_, _, ⟨T4, L4, k4, n4⟩, -, X4, ⟨Lc4, hQ4, l4, y4, z4⟩, st4⟩ := X3.privateBack hx (y := (⟨"com/example/deferra/deferra/engine/Trail", "add", "(III)I"⟩ : MethodName)) hown (mvT hZ (hw _ (mw 38 rfl))) (mvT hZ (hw _ (mw 39 rfl))) (selP hZ (hw _ (mw 8 rfl)) (hw _ (mw 40 rfl)) (hw _ (mw 39 rfl)) (by decide)) (Cond.privateMethod_at (mvP hZ (hw _ (mw 40 rfl)) (args := #[]))) (mvT hZ (hw _ (mw 41 rfl))) (by decide) (backOf (W := 0) (rmad0 l Z a0 hw [] va tl th tv tm u0 u1 h0 n0 Z0 E_va F_lows_va F_highs_va F_values_va F_makers_va F_fromTrace_va F_maxDepth_va F_depth_va F_size_va F_stopping_va F_pools_va F_saved_va V_tl V_th V_tv V_tm g_va g_tl g_th g_tv g_tm ne_va_tl ne_va_th ne_va_tv ne_va_tm ne_tl_th ne_tl_tv ne_tl_tm ne_th_tv ne_th_tm ne_tv_tm) hZ (hw _ (mw 41 rfl)) (hw _ (mw 9 rfl)) (by decide) (by decide)) (g := (mkF m 113 #[.val (.ref va), .val (.int u0), .val (.int u1), .unset] [(.int (0 : Int32)), (.int u1), (.int u0), (.ref va)])) rfl (by rw [hml]; rfl) (Steps.refl _) (a := va) (by rw [e3]; exact q4) q4' (argsL := [(.int u0), (.int u1), (.int (0 : Int32))]) (rest := []) (lenOf pd_3 rfl) rfl (by show 2 * 0 + _ ≤ _; exact Nat.le_of_eq rfl) (hb hby d5_113) (fun _ _ => ⟨rfl, e3, (by decide : 0 + 0 ≤ _), (by decide : 0 + 0 ≤ _)⟩)
  dsimp only [Pt.U, Pt.locs, Pt.cells, Pt.slots] at X4 l4 y4 z4 st4 hQ4
  subst l4 y4 z4
  obtain ⟨rfl, N4q, K4, P4_0, P4_1, P4_2, P4_3, P4_4, P4_5, P4_6, P4_7, P4_8, P4_9, P4_10, P4_11, P4_12, P4_13, P4_14⟩ := hQ4
  have N4 := Fr.app N0 N4q
  refine Goal.tr (B := T4.setTop (mkF m 116 #[.val (.ref va), .val (.int u0), .val (.int u1), .unset] [(.int u0)])) st4 ?_
  refine Goal.to (B := T4.setTop (mkF m 118 #[.val (.ref va), .val (.int u0), .val (.int u1), .val (.int u0)] [(.int u0)])) (fun tt kk => ?_) ?_
  · show Steps p.tables e below (T4.setTop (mkF m 116 #[.val (.ref va), .val (.int u0), .val (.int u1), .unset] [(.int u0)])) tt
    refine XS.istoreN X4.here hx rfl (hb hby d5_116) rfl (l' := #[.val (.ref va), .val (.int u0), .val (.int u1), .val (.int u0)]) rfl ?_
    show Steps p.tables e below (T4.setTop (mkF m 117 #[.val (.ref va), .val (.int u0), .val (.int u1), .val (.int u0)] [])) tt
    refine XS.iloadN X4.here hx rfl (hb hby d5_117) rfl ?_
    exact kk
  have f5 : Keep h0 T4.heap [va, tl, th, tv, tm] := ((Keep.refl h0 [va, tl, th, tv, tm]).trans K4 (allS (Or.inl (List.mem_of_getElem? (i := 0) rfl)) (allS (Or.inl (List.mem_of_getElem? (i := 1) rfl)) (allS (Or.inl (List.mem_of_getElem? (i := 2) rfl)) (allS (Or.inl (List.mem_of_getElem? (i := 3) rfl)) (allS (Or.inl (List.mem_of_getElem? (i := 4) rfl)) all0))))))
  exact Goal.retV X4 hx Bd.returns rfl (Or.inl ⟨rfl, Or.inl rfl, _, rfl⟩) (hb hby d5_118) hlk rfl ⟨rfl, N4, f5, P4_0, P4_1, P4_2, P4_3, P4_4, P4_5, P4_6, P4_7, P4_8, P4_9, P4_10, P4_11, P4_12, P4_13, P4_14⟩ (by decide) (by decide)
def Qad1 (Z : State) (va : Addr) (tl : Addr) (th : Addr) (tv : Addr) (tm : Addr) (p0 : Int32) (q0 : Int32) (r0 : Int32) (u0 : Int32) (u1 : Int32) (h0 : Heap) (n0 : Nat) (v : Option Value) (h : Heap) (L : List Loc) : Prop := v = some (.int u0) ∧ Fr n0 L ∧ Keep h0 h [va, tl, th, tv, tm] ∧ Fld Z h va "com/example/deferra/deferra/engine/Trail" "lows" "[I" (.ref tl) ∧ Fld Z h va "com/example/deferra/deferra/engine/Trail" "highs" "[I" (.ref th) ∧ Fld Z h va "com/example/deferra/deferra/engine/Trail" "values" "[I" (.ref tv) ∧ Fld Z h va "com/example/deferra/deferra/engine/Trail" "makers" "[I" (.ref tm) ∧ Fld Z h va "com/example/deferra/deferra/engine/Trail" "fromTrace" "Z" (.int (0 : Int32)) ∧ Fld Z h va "com/example/deferra/deferra/engine/Trail" "maxDepth" "I" (.int (8 : Int32)) ∧ Fld Z h va "com/example/deferra/deferra/engine/Trail" "depth" "I" (.int (2 : Int32)) ∧ Fld Z h va "com/example/deferra/deferra/engine/Trail" "size" "I" (.int (2 : Int32)) ∧ Fld Z h va "com/example/deferra/deferra/engine/Trail" "stopping" "Z" (.int (0 : Int32)) ∧ Fld Z h va "com/example/deferra/deferra/engine/Trail" "pools" "Ljava/util/function/Supplier;" .null ∧ Fld Z h va "com/example/deferra/deferra/engine/Trail" "saved" "[[Lcom/example/deferra/deferra/engine/Identities;" .null ∧ Ary Z h tl .int [(.int p0), (.int u0), (.int (0 : Int32)), (.int (0 : Int32)), (.int (0 : Int32)), (.int (0 : Int32)), (.int (0 : Int32)), (.int (0 : Int32)), (.int (0 : Int32)), (.int (0 : Int32)), (.int (0 : Int32)), (.int (0 : Int32)), (.int (0 : Int32)), (.int (0 : Int32)), (.int (0 : Int32)), (.int (0 : Int32))] ∧ Ary Z h th .int [(.int q0), (.int u1), (.int (0 : Int32)), (.int (0 : Int32)), (.int (0 : Int32)), (.int (0 : Int32)), (.int (0 : Int32)), (.int (0 : Int32)), (.int (0 : Int32)), (.int (0 : Int32)), (.int (0 : Int32)), (.int (0 : Int32)), (.int (0 : Int32)), (.int (0 : Int32)), (.int (0 : Int32)), (.int (0 : Int32))] ∧ Ary Z h tv .int [(.int r0), (.int u0), (.int (0 : Int32)), (.int (0 : Int32)), (.int (0 : Int32)), (.int (0 : Int32)), (.int (0 : Int32)), (.int (0 : Int32)), (.int (0 : Int32)), (.int (0 : Int32)), (.int (0 : Int32)), (.int (0 : Int32)), (.int (0 : Int32)), (.int (0 : Int32)), (.int (0 : Int32)), (.int (0 : Int32))] ∧ Ary Z h tm .int [(.int (0 : Int32)), (.int (0 : Int32)), (.int (0 : Int32)), (.int (0 : Int32)), (.int (0 : Int32)), (.int (0 : Int32)), (.int (0 : Int32)), (.int (0 : Int32)), (.int (0 : Int32)), (.int (0 : Int32)), (.int (0 : Int32)), (.int (0 : Int32)), (.int (0 : Int32)), (.int (0 : Int32)), (.int (0 : Int32)), (.int (0 : Int32))]
set_option maxRecDepth 65536 in
set_option maxHeartbeats 40000000 in
theorem rmad1 (l : Launch) (Z : State) (a0 : Array Value) (hw : ∀ d ∈ tables_1, d.before a0 Z = true) (ws : List Jvm.Cond) (va : Addr) (tl : Addr) (th : Addr) (tv : Addr) (tm : Addr) (p0 : Int32) (q0 : Int32) (r0 : Int32) (u0 : Int32) (u1 : Int32) (h0 : Heap) (n0 : Nat) (Z0 : n0 ≤ h0.size) (E_va : Exa Z h0 va "com/example/deferra/deferra/engine/Trail") (F_lows_va : Fld Z h0 va "com/example/deferra/deferra/engine/Trail" "lows" "[I" (.ref tl)) (F_highs_va : Fld Z h0 va "com/example/deferra/deferra/engine/Trail" "highs" "[I" (.ref th)) (F_values_va : Fld Z h0 va "com/example/deferra/deferra/engine/Trail" "values" "[I" (.ref tv)) (F_makers_va : Fld Z h0 va "com/example/deferra/deferra/engine/Trail" "makers" "[I" (.ref tm)) (F_fromTrace_va : Fld Z h0 va "com/example/deferra/deferra/engine/Trail" "fromTrace" "Z" (.int (0 : Int32))) (F_maxDepth_va : Fld Z h0 va "com/example/deferra/deferra/engine/Trail" "maxDepth" "I" (.int (8 : Int32))) (F_depth_va : Fld Z h0 va "com/example/deferra/deferra/engine/Trail" "depth" "I" (.int (1 : Int32))) (F_size_va : Fld Z h0 va "com/example/deferra/deferra/engine/Trail" "size" "I" (.int (1 : Int32))) (F_stopping_va : Fld Z h0 va "com/example/deferra/deferra/engine/Trail" "stopping" "Z" (.int (0 : Int32))) (F_pools_va : Fld Z h0 va "com/example/deferra/deferra/engine/Trail" "pools" "Ljava/util/function/Supplier;" .null) (F_saved_va : Fld Z h0 va "com/example/deferra/deferra/engine/Trail" "saved" "[[Lcom/example/deferra/deferra/engine/Identities;" .null) (V_tl : Ary Z h0 tl .int [(.int p0), (.int (0 : Int32)), (.int (0 : Int32)), (.int (0 : Int32)), (.int (0 : Int32)), (.int (0 : Int32)), (.int (0 : Int32)), (.int (0 : Int32)), (.int (0 : Int32)), (.int (0 : Int32)), (.int (0 : Int32)), (.int (0 : Int32)), (.int (0 : Int32)), (.int (0 : Int32)), (.int (0 : Int32)), (.int (0 : Int32))]) (V_th : Ary Z h0 th .int [(.int q0), (.int (0 : Int32)), (.int (0 : Int32)), (.int (0 : Int32)), (.int (0 : Int32)), (.int (0 : Int32)), (.int (0 : Int32)), (.int (0 : Int32)), (.int (0 : Int32)), (.int (0 : Int32)), (.int (0 : Int32)), (.int (0 : Int32)), (.int (0 : Int32)), (.int (0 : Int32)), (.int (0 : Int32)), (.int (0 : Int32))]) (V_tv : Ary Z h0 tv .int [(.int r0), (.int (0 : Int32)), (.int (0 : Int32)), (.int (0 : Int32)), (.int (0 : Int32)), (.int (0 : Int32)), (.int (0 : Int32)), (.int (0 : Int32)), (.int (0 : Int32)), (.int (0 : Int32)), (.int (0 : Int32)), (.int (0 : Int32)), (.int (0 : Int32)), (.int (0 : Int32)), (.int (0 : Int32)), (.int (0 : Int32))]) (V_tm : Ary Z h0 tm .int [(.int (0 : Int32)), (.int (0 : Int32)), (.int (0 : Int32)), (.int (0 : Int32)), (.int (0 : Int32)), (.int (0 : Int32)), (.int (0 : Int32)), (.int (0 : Int32)), (.int (0 : Int32)), (.int (0 : Int32)), (.int (0 : Int32)), (.int (0 : Int32)), (.int (0 : Int32)), (.int (0 : Int32)), (.int (0 : Int32)), (.int (0 : Int32))]) (g_va : n0 ≤ va) (g_tl : n0 ≤ tl) (g_th : n0 ≤ th) (g_tv : n0 ≤ tv) (g_tm : n0 ≤ tm) (ne_va_tl : va ≠ tl) (ne_va_th : va ≠ th) (ne_va_tv : va ≠ tv) (ne_va_tm : va ≠ tm) (ne_tl_th : tl ≠ th) (ne_tl_tv : tl ≠ tv) (ne_tl_tm : tl ≠ tm) (ne_th_tv : th ≠ tv) (ne_th_tm : th ≠ tm) (ne_tv_tm : tv ≠ tm) :
    MetFree l (⟨"com/example/deferra/deferra/engine/Trail", "add", "(III)I"⟩ : MethodName) (head1 (Jvm.Cond.code (⟨"com/example/deferra/deferra/engine/Trail", "add", "(III)I"⟩ : MethodName) prog_36_method_11_code 5 (some .int) :: ws) ({ frames := 1, cells := 0, slots := 0, locals := 12 } : Room)) (fun a U => a = #[(.ref va), (.int u0), (.int u1), (.int (0 : Int32))] ∧ Z.Warmed39 U.vm ∧ U.heap = h0) (fun _ _ _ _ _ => True) (fun _ U o U' => ∃ v L, o = .returned v ∧ Qad1 Z va tl th tv tm p0 q0 r0 u0 u1 h0 n0 v U'.heap L ∧ FrameEnd U o U' L 0 0) := by
  refine MetFree.of_bodySF (plainFor_of_name pn_6) hisR ?_
  intro p e s m args below meth c s₁ Bd hml0 hP hK
  obtain ⟨rfl, hZ, hh⟩ := hP
  have hx := Bd.exec
  have hby := Bd.bytes
  have hml : c.maxLocals = 5 := hml0
  have hown : s.vm.findClass "com/example/deferra/deferra/engine/Trail" = some m.cls := findClass_of_methodNamed Bd.named
  have hnm := (name_of_methodNamed Bd.named Bd.method).1
  have X0 : Stand p l e ({ frames := 1, cells := 0, slots := 0, locals := 12 } : Room) s m #[(.ref va), (.int u0), (.int u1), (.int (0 : Int32))] below meth c s₁ [] 0 0 := Stand.of_body Bd
  have e0 : s₁.heap = h0 := by rw [← hh, Bd.state]; rfl
  have N0 := Fr.nil n0
  have hlk : meth.locks = false := BodyLoose.notSynchronized Bd
  show Goal p e below s (Qad1 Z va tl th tv tm p0 q0 r0 u0 u1 h0 n0) 0 0 (s₁.setTop (entryFrame m #[(.ref va), (.int u0), (.int u1), (.int (0 : Int32))] 5))
  refine Goal.to (B := s₁.setTop (mkF m 0 #[.val (.ref va), .val (.int u0), .val (.int u1), .val (.int (0 : Int32)), .unset] [])) (fun tt kk => castTop (ef_6 m va u0 u1 (0 : Int32) ) kk) ?_
  refine Goal.to (B := s₁.setTop (mkF m 1 #[.val (.ref va), .val (.int u0), .val (.int u1), .val (.int (0 : Int32)), .unset] [(.ref va)])) (fun tt kk => ?_) ?_
  · show Steps p.tables e below (s₁.setTop (mkF m 0 #[.val (.ref va), .val (.int u0), .val (.int u1), .val (.int (0 : Int32)), .unset] [])) tt
    refine XS.aloadN X0.here hx rfl (hb hby d6_0) rfl rfl ?_
    exact kk
  obtain ⟨cq1, q1, q1'⟩ := E_va.cell
  obtain ⟨_, _, ⟨T1, L1, k1, n1⟩, -, X1, ⟨Lc1, hQ1, l1, y1, z1⟩, st1⟩ := X0.privateBack hx (y := (⟨"com/example/deferra/deferra/engine/Trail", "requireRoom", "()V"⟩ : MethodName)) hown (mvT hZ (hw _ (mw 42 rfl))) (mvT hZ (hw _ (mw 43 rfl))) (selP hZ (hw _ (mw 8 rfl)) (hw _ (mw 44 rfl)) (hw _ (mw 43 rfl)) (by decide)) (Cond.privateMethod_at (mvP hZ (hw _ (mw 44 rfl)) (args := #[]))) (mvT hZ (hw _ (mw 45 rfl))) (by decide) (backOf (W := 0) (rmrq l Z a0 hw [] va (1 : Int32) h0 n0 Z0 F_depth_va F_maxDepth_va F_stopping_va (by decide)) hZ (hw _ (mw 45 rfl)) (hw _ (mw 9 rfl)) (by decide) (by decide)) (g := (mkF m 1 #[.val (.ref va), .val (.int u0), .val (.int u1), .val (.int (0 : Int32)), .unset] [(.ref va)])) rfl (by rw [hml]; rfl) (Steps.refl _) (a := va) (by rw [e0]; exact q1) q1' (argsL := []) (rest := []) (lenOf pd_2 rfl) rfl (by show 2 * 0 + _ ≤ _; exact Nat.le_of_eq rfl) (hb hby d6_1) (fun _ _ => ⟨rfl, e0, (by decide : 0 + 0 ≤ _), (by decide : 0 + 0 ≤ _)⟩)
  dsimp only [Pt.U, Pt.locs, Pt.cells, Pt.slots] at X1 l1 y1 z1 st1 hQ1
  subst l1 y1 z1
  obtain ⟨rfl, N1q, e1⟩ := hQ1
  have N1 := Fr.app N0 N1q
  refine Goal.tr (B := T1.setTop (mkF m 4 #[.val (.ref va), .val (.int u0), .val (.int u1), .val (.int (0 : Int32)), .unset] [])) st1 ?_
  refine Goal.to (B := T1.setTop (mkF m 5 #[.val (.ref va), .val (.int u0), .val (.int u1), .val (.int (0 : Int32)), .unset] [(.ref va)])) (fun tt kk => ?_) ?_
  · show Steps p.tables e below (T1.setTop (mkF m 4 #[.val (.ref va), .val (.int u0), .val (.int u1), .val (.int (0 : Int32)), .unset] [])) tt
    refine XS.aloadN X1.here hx rfl (hb hby d6_4) rfl rfl ?_
    exact kk
  obtain ⟨T2, X2, e2, st2⟩ := getF X1 hx hZ hown (host := "") (Or.inl (hw _ (mw 36 rfl))) Via.refl e1 F_size_va (g := (mkF m 5 #[.val (.ref va), .val (.int u0), .val (.int u1), .val (.int (0 : Int32)), .unset] [(.ref va)])) rfl rfl (hb hby d6_5)
  refine Goal.to (B := T2.setTop (mkF m 8 #[.val (.ref va), .val (.int u0), .val (.int u1), .val (.int (0 : Int32)), .unset] [(.int (1 : Int32))])) st2 ?_
  refine Goal.to (B := T2.setTop (mkF m 9 #[.val (.ref va), .val (.int u0), .val (.int u1), .val (.int (0 : Int32)), .unset] [(.ref va), (.int (1 : Int32))])) (fun tt kk => ?_) ?_
  · show Steps p.tables e below (T2.setTop (mkF m 8 #[.val (.ref va), .val (.int u0), .val (.int u1), .val (.int (0 : Int32)), .unset] [(.int (1 : Int32))])) tt
    refine XS.aloadN X2.here hx rfl (hb hby d6_8) rfl rfl ?_
    exact kk
  obtain ⟨T3, X3, e3, st3⟩ := getF X2 hx hZ hown (host := "") (Or.inl (hw _ (mw 21 rfl))) Via.refl e2 F_values_va (g := (mkF m 9 #[.val (.ref va), .val (.int u0), .val (.int u1), .val (.int (0 : Int32)), .unset] [(.ref va), (.int (1 : Int32))])) rfl rfl (hb hby d6_9)
  refine Goal.to (B := T3.setTop (mkF m 12 #[.val (.ref va), .val (.int u0), .val (.int u1), .val (.int (0 : Int32)), .unset] [(.ref tv), (.int (1 : Int32))])) st3 ?_
  obtain ⟨cl4, Ar4, Sl4⟩ := id V_tv
  have ln4 : cl4.slots.size.toInt32 = (16 : Int32) := lenA Sl4 rfl
  refine Goal.to (B := T3.setTop (mkF m 100 #[.val (.ref va), .val (.int u0), .val (.int u1), .val (.int (0 : Int32)), .unset] [(.ref va)])) (fun tt kk => ?_) ?_
  · show Steps p.tables e below (T3.setTop (mkF m 12 #[.val (.ref va), .val (.int u0), .val (.int u1), .val (.int (0 : Int32)), .unset] [(.ref tv), (.int (1 : Int32))])) tt
    refine X3.arraylength hx (by rw [e3]; exact Ar4.1) (State.isArrayOf_alike hZ.alike Ar4.2.1) (g := (mkF m 12 #[.val (.ref va), .val (.int u0), .val (.int u1), .val (.int (0 : Int32)), .unset] [(.ref tv), (.int (1 : Int32))])) rfl rfl (hb hby d6_12) _ ?_
    rw [ln4]
    show Steps p.tables e below (T3.setTop (mkF m 13 #[.val (.ref va), .val (.int u0), .val (.int u1), .val (.int (0 : Int32)), .unset] [(.int (16 : Int32)), (.int (1 : Int32))])) tt
    refine XS.icmpYes X3.here hx rfl (pc0 := 13) (pc' := 99) rfl (hb hby d6_13) rfl (feq ((by decide) : ¬ ((1 : Int32) = (16 : Int32)))).2 (by decide) (by decide) ?_
    show Steps p.tables e below (T3.setTop (mkF m 99 #[.val (.ref va), .val (.int u0), .val (.int u1), .val (.int (0 : Int32)), .unset] [])) tt
    refine XS.aloadN X3.here hx rfl (hb hby d6_99) rfl rfl ?_
    exact kk
  obtain ⟨T5, X5, e5, st5⟩ := getF X3 hx hZ hown (host := "") (Or.inl (hw _ (mw 17 rfl))) Via.refl e3 F_lows_va (g := (mkF m 100 #[.val (.ref va), .val (.int u0), .val (.int u1), .val (.int (0 : Int32)), .unset] [(.ref va)])) rfl rfl (hb hby d6_100)
  refine Goal.to (B := T5.setTop (mkF m 103 #[.val (.ref va), .val (.int u0), .val (.int u1), .val (.int (0 : Int32)), .unset] [(.ref tl)])) st5 ?_
  refine Goal.to (B := T5.setTop (mkF m 104 #[.val (.ref va), .val (.int u0), .val (.int u1), .val (.int (0 : Int32)), .unset] [(.ref va), (.ref tl)])) (fun tt kk => ?_) ?_
  · show Steps p.tables e below (T5.setTop (mkF m 103 #[.val (.ref va), .val (.int u0), .val (.int u1), .val (.int (0 : Int32)), .unset] [(.ref tl)])) tt
    refine XS.aloadN X5.here hx rfl (hb hby d6_103) rfl rfl ?_
    exact kk
  obtain ⟨T6, X6, e6, st6⟩ := getF X5 hx hZ hown (host := "") (Or.inl (hw _ (mw 36 rfl))) Via.refl e5 F_size_va (g := (mkF m 104 #[.val (.ref va), .val (.int u0), .val (.int u1), .val (.int (0 : Int32)), .unset] [(.ref va), (.ref tl)])) rfl rfl (hb hby d6_104)
  refine Goal.to (B := T6.setTop (mkF m 107 #[.val (.ref va), .val (.int u0), .val (.int u1), .val (.int (0 : Int32)), .unset] [(.int (1 : Int32)), (.ref tl)])) st6 ?_
  refine Goal.to (B := T6.setTop (mkF m 108 #[.val (.ref va), .val (.int u0), .val (.int u1), .val (.int (0 : Int32)), .unset] [(.int u0), (.int (1 : Int32)), (.ref tl)])) (fun tt kk => ?_) ?_
  · show Steps p.tables e below (T6.setTop (mkF m 107 #[.val (.ref va), .val (.int u0), .val (.int u1), .val (.int (0 : Int32)), .unset] [(.int (1 : Int32)), (.ref tl)])) tt
    refine XS.iloadN X6.here hx rfl (hb hby d6_107) rfl ?_
    exact kk
  obtain ⟨cl7, Ar7, Sl7⟩ := id V_tl
  have hin7 := inA (cl := cl7) Sl7 (j := (1 : Int32)) (by decide) (Nat.le_of_ble_eq_true rfl)
  obtain ⟨T7, h7, X7, e7, W7, st7⟩ := stI X6 hx hZ e6 Ar7 (j := (1 : Int32)) hin7 (g := (mkF m 108 #[.val (.ref va), .val (.int u0), .val (.int u1), .val (.int (0 : Int32)), .unset] [(.int u0), (.int (1 : Int32)), (.ref tl)])) rfl rfl (hb hby d6_108)
  have V7 : Ary Z h7 tl .int [(.int p0), (.int u0), (.int (0 : Int32)), (.int (0 : Int32)), (.int (0 : Int32)), (.int (0 : Int32)), (.int (0 : Int32)), (.int (0 : Int32)), (.int (0 : Int32)), (.int (0 : Int32)), (.int (0 : Int32)), (.int (0 : Int32)), (.int (0 : Int32)), (.int (0 : Int32)), (.int (0 : Int32)), (.int (0 : Int32))] := Ary.put Ar7 Sl7 W7 rfl
  have N7 := Fr.snoc X7 N1 g_tl
  refine Goal.to (B := T7.setTop (mkF m 109 #[.val (.ref va), .val (.int u0), .val (.int u1), .val (.int (0 : Int32)), .unset] [])) st7 ?_
  refine Goal.to (B := T7.setTop (mkF m 110 #[.val (.ref va), .val (.int u0), .val (.int u1), .val (.int (0 : Int32)), .unset] [(.ref va)])) (fun tt kk => ?_) ?_
  · show Steps p.tables e below (T7.setTop (mkF m 109 #[.val (.ref va), .val (.int u0), .val (.int u1), .val (.int (0 : Int32)), .unset] [])) tt
    refine XS.aloadN X7.here hx rfl (hb hby d6_109) rfl rfl ?_
    exact kk
  have f8 : Fld Z h7 va "com/example/deferra/deferra/engine/Trail" "highs" "[I" (.ref th) := (F_highs_va.other W7 (Or.inl ne_va_tl))
  obtain ⟨T9, X9, e9, st9⟩ := getF X7 hx hZ hown (host := "") (Or.inl (hw _ (mw 19 rfl))) Via.refl e7 f8 (g := (mkF m 110 #[.val (.ref va), .val (.int u0), .val (.int u1), .val (.int (0 : Int32)), .unset] [(.ref va)])) rfl rfl (hb hby d6_110)
  refine Goal.to (B := T9.setTop (mkF m 113 #[.val (.ref va), .val (.int u0), .val (.int u1), .val (.int (0 : Int32)), .unset] [(.ref th)])) st9 ?_
  refine Goal.to (B := T9.setTop (mkF m 114 #[.val (.ref va), .val (.int u0), .val (.int u1), .val (.int (0 : Int32)), .unset] [(.ref va), (.ref th)])) (fun tt kk => ?_) ?_
  · show Steps p.tables e below (T9.setTop (mkF m 113 #[.val (.ref va), .val (.int u0), .val (.int u1), .val (.int (0 : Int32)), .unset] [(.ref th)])) tt
    refine XS.aloadN X9.here hx rfl (hb hby d6_113) rfl rfl ?_
    exact kk
  have f10 : Fld Z h7 va "com/example/deferra/deferra/engine/Trail" "size" "I" (.int (1 : Int32)) := (F_size_va.other W7 (Or.inl ne_va_tl))
  obtain ⟨T11, X11, e11, st11⟩ := getF X9 hx hZ hown (host := "") (Or.inl (hw _ (mw 36 rfl))) Via.refl e9 f10 (g := (mkF m 114 #[.val (.ref va), .val (.int u0), .val (.int u1), .val (.int (0 : Int32)), .unset] [(.ref va), (.ref th)])) rfl rfl (hb hby d6_114)
  refine Goal.to (B := T11.setTop (mkF m 117 #[.val (.ref va), .val (.int u0), .val (.int u1), .val (.int (0 : Int32)), .unset] [(.int (1 : Int32)), (.ref th)])) st11 ?_
  refine Goal.to (B := T11.setTop (mkF m 118 #[.val (.ref va), .val (.int u0), .val (.int u1), .val (.int (0 : Int32)), .unset] [(.int u1), (.int (1 : Int32)), (.ref th)])) (fun tt kk => ?_) ?_
  · show Steps p.tables e below (T11.setTop (mkF m 117 #[.val (.ref va), .val (.int u0), .val (.int u1), .val (.int (0 : Int32)), .unset] [(.int (1 : Int32)), (.ref th)])) tt
    refine XS.iloadN X11.here hx rfl (hb hby d6_117) rfl ?_
    exact kk
  have f12 : Ary Z h7 th .int [(.int q0), (.int (0 : Int32)), (.int (0 : Int32)), (.int (0 : Int32)), (.int (0 : Int32)), (.int (0 : Int32)), (.int (0 : Int32)), (.int (0 : Int32)), (.int (0 : Int32)), (.int (0 : Int32)), (.int (0 : Int32)), (.int (0 : Int32)), (.int (0 : Int32)), (.int (0 : Int32)), (.int (0 : Int32)), (.int (0 : Int32))] := (V_th.other W7 (Ne.symm ne_tl_th))
  obtain ⟨cl13, Ar13, Sl13⟩ := id f12
  have hin13 := inA (cl := cl13) Sl13 (j := (1 : Int32)) (by decide) (Nat.le_of_ble_eq_true rfl)
  obtain ⟨T13, h13, X13, e13, W13, st13⟩ := stI X11 hx hZ e11 Ar13 (j := (1 : Int32)) hin13 (g := (mkF m 118 #[.val (.ref va), .val (.int u0), .val (.int u1), .val (.int (0 : Int32)), .unset] [(.int u1), (.int (1 : Int32)), (.ref th)])) rfl rfl (hb hby d6_118)
  have V13 : Ary Z h13 th .int [(.int q0), (.int u1), (.int (0 : Int32)), (.int (0 : Int32)), (.int (0 : Int32)), (.int (0 : Int32)), (.int (0 : Int32)), (.int (0 : Int32)), (.int (0 : Int32)), (.int (0 : Int32)), (.int (0 : Int32)), (.int (0 : Int32)), (.int (0 : Int32)), (.int (0 : Int32)), (.int (0 : Int32)), (.int (0 : Int32))] := Ary.put Ar13 Sl13 W13 rfl
  have N13 := Fr.snoc X13 N7 g_th
  refine Goal.to (B := T13.setTop (mkF m 119 #[.val (.ref va), .val (.int u0), .val (.int u1), .val (.int (0 : Int32)), .unset] [])) st13 ?_
  refine Goal.to (B := T13.setTop (mkF m 120 #[.val (.ref va), .val (.int u0), .val (.int u1), .val (.int (0 : Int32)), .unset] [(.ref va)])) (fun tt kk => ?_) ?_
  · show Steps p.tables e below (T13.setTop (mkF m 119 #[.val (.ref va), .val (.int u0), .val (.int u1), .val (.int (0 : Int32)), .unset] [])) tt
    refine XS.aloadN X13.here hx rfl (hb hby d6_119) rfl rfl ?_
    exact kk
  have f14 : Fld Z h13 va "com/example/deferra/deferra/engine/Trail" "values" "[I" (.ref tv) := ((F_values_va.other W7 (Or.inl ne_va_tl)).other W13 (Or.inl ne_va_th))
  obtain ⟨T15, X15, e15, st15⟩ := getF X13 hx hZ hown (host := "") (Or.inl (hw _ (mw 21 rfl))) Via.refl e13 f14 (g := (mkF m 120 #[.val (.ref va), .val (.int u0), .val (.int u1), .val (.int (0 : Int32)), .unset] [(.ref va)])) rfl rfl (hb hby d6_120)
  refine Goal.to (B := T15.setTop (mkF m 123 #[.val (.ref va), .val (.int u0), .val (.int u1), .val (.int (0 : Int32)), .unset] [(.ref tv)])) st15 ?_
  refine Goal.to (B := T15.setTop (mkF m 124 #[.val (.ref va), .val (.int u0), .val (.int u1), .val (.int (0 : Int32)), .unset] [(.ref va), (.ref tv)])) (fun tt kk => ?_) ?_
  · show Steps p.tables e below (T15.setTop (mkF m 123 #[.val (.ref va), .val (.int u0), .val (.int u1), .val (.int (0 : Int32)), .unset] [(.ref tv)])) tt
    refine XS.aloadN X15.here hx rfl (hb hby d6_123) rfl rfl ?_
    exact kk
  have f16 : Fld Z h13 va "com/example/deferra/deferra/engine/Trail" "size" "I" (.int (1 : Int32)) := (f10.other W13 (Or.inl ne_va_th))
  obtain ⟨T17, X17, e17, st17⟩ := getF X15 hx hZ hown (host := "") (Or.inl (hw _ (mw 36 rfl))) Via.refl e15 f16 (g := (mkF m 124 #[.val (.ref va), .val (.int u0), .val (.int u1), .val (.int (0 : Int32)), .unset] [(.ref va), (.ref tv)])) rfl rfl (hb hby d6_124)
  refine Goal.to (B := T17.setTop (mkF m 127 #[.val (.ref va), .val (.int u0), .val (.int u1), .val (.int (0 : Int32)), .unset] [(.int (1 : Int32)), (.ref tv)])) st17 ?_
  refine Goal.to (B := T17.setTop (mkF m 128 #[.val (.ref va), .val (.int u0), .val (.int u1), .val (.int (0 : Int32)), .unset] [(.int u0), (.int (1 : Int32)), (.ref tv)])) (fun tt kk => ?_) ?_
  · show Steps p.tables e below (T17.setTop (mkF m 127 #[.val (.ref va), .val (.int u0), .val (.int u1), .val (.int (0 : Int32)), .unset] [(.int (1 : Int32)), (.ref tv)])) tt
    refine XS.iloadN X17.here hx rfl (hb hby d6_127) rfl ?_
    exact kk
  have f18 : Ary Z h13 tv .int [(.int r0), (.int (0 : Int32)), (.int (0 : Int32)), (.int (0 : Int32)), (.int (0 : Int32)), (.int (0 : Int32)), (.int (0 : Int32)), (.int (0 : Int32)), (.int (0 : Int32)), (.int (0 : Int32)), (.int (0 : Int32)), (.int (0 : Int32)), (.int (0 : Int32)), (.int (0 : Int32)), (.int (0 : Int32)), (.int (0 : Int32))] := ((V_tv.other W7 (Ne.symm ne_tl_tv)).other W13 (Ne.symm ne_th_tv))
  obtain ⟨cl19, Ar19, Sl19⟩ := id f18
  have hin19 := inA (cl := cl19) Sl19 (j := (1 : Int32)) (by decide) (Nat.le_of_ble_eq_true rfl)
  obtain ⟨T19, h19, X19, e19, W19, st19⟩ := stI X17 hx hZ e17 Ar19 (j := (1 : Int32)) hin19 (g := (mkF m 128 #[.val (.ref va), .val (.int u0), .val (.int u1), .val (.int (0 : Int32)), .unset] [(.int u0), (.int (1 : Int32)), (.ref tv)])) rfl rfl (hb hby d6_128)
  have V19 : Ary Z h19 tv .int [(.int r0), (.int u0), (.int (0 : Int32)), (.int (0 : Int32)), (.int (0 : Int32)), (.int (0 : Int32)), (.int (0 : Int32)), (.int (0 : Int32)), (.int (0 : Int32)), (.int (0 : Int32)), (.int (0 : Int32)), (.int (0 : Int32)), (.int (0 : Int32)), (.int (0 : Int32)), (.int (0 : Int32)), (.int (0 : Int32))] := Ary.put Ar19 Sl19 W19 rfl
  have N19 := Fr.snoc X19 N13 g_tv
  refine Goal.to (B := T19.setTop (mkF m 129 #[.val (.ref va), .val (.int u0), .val (.int u1), .val (.int (0 : Int32)), .unset] [])) st19 ?_
  refine Goal.to (B := T19.setTop (mkF m 130 #[.val (.ref va), .val (.int u0), .val (.int u1), .val (.int (0 : Int32)), .unset] [(.ref va)])) (fun tt kk => ?_) ?_
  · show Steps p.tables e below (T19.setTop (mkF m 129 #[.val (.ref va), .val (.int u0), .val (.int u1), .val (.int (0 : Int32)), .unset] [])) tt
    refine XS.aloadN X19.here hx rfl (hb hby d6_129) rfl rfl ?_
    exact kk
  have f20 : Fld Z h19 va "com/example/deferra/deferra/engine/Trail" "makers" "[I" (.ref tm) := (((F_makers_va.other W7 (Or.inl ne_va_tl)).other W13 (Or.inl ne_va_th)).other W19 (Or.inl ne_va_tv))
  obtain ⟨T21, X21, e21, st21⟩ := getF X19 hx hZ hown (host := "") (Or.inl (hw _ (mw 23 rfl))) Via.refl e19 f20 (g := (mkF m 130 #[.val (.ref va), .val (.int u0), .val (.int u1), .val (.int (0 : Int32)), .unset] [(.ref va)])) rfl rfl (hb hby d6_130)
  refine Goal.to (B := T21.setTop (mkF m 133 #[.val (.ref va), .val (.int u0), .val (.int u1), .val (.int (0 : Int32)), .unset] [(.ref tm)])) st21 ?_
  refine Goal.to (B := T21.setTop (mkF m 134 #[.val (.ref va), .val (.int u0), .val (.int u1), .val (.int (0 : Int32)), .unset] [(.ref va), (.ref tm)])) (fun tt kk => ?_) ?_
  · show Steps p.tables e below (T21.setTop (mkF m 133 #[.val (.ref va), .val (.int u0), .val (.int u1), .val (.int (0 : Int32)), .unset] [(.ref tm)])) tt
    refine XS.aloadN X21.here hx rfl (hb hby d6_133) rfl rfl ?_
    exact kk
  have f22 : Fld Z h19 va "com/example/deferra/deferra/engine/Trail" "size" "I" (.int (1 : Int32)) := (f16.other W19 (Or.inl ne_va_tv))
  obtain ⟨T23, X23, e23, st23⟩ := getF X21 hx hZ hown (host := "") (Or.inl (hw _ (mw 36 rfl))) Via.refl e21 f22 (g := (mkF m 134 #[.val (.ref va), .val (.int u0), .val (.int u1), .val (.int (0 : Int32)), .unset] [(.ref va), (.ref tm)])) rfl rfl (hb hby d6_134)
  refine Goal.to (B := T23.setTop (mkF m 137 #[.val (.ref va), .val (.int u0), .val (.int u1), .val (.int (0 : Int32)), .unset] [(.int (1 : Int32)), (.ref tm)])) st23 ?_
  refine Goal.to (B := T23.setTop (mkF m 138 #[.val (.ref va), .val (.int u0), .val (.int u1), .val (.int (0 : Int32)), .unset] [(.int (0 : Int32)), (.int (1 : Int32)), (.ref tm)])) (fun tt kk => ?_) ?_
  · show Steps p.tables e below (T23.setTop (mkF m 137 #[.val (.ref va), .val (.int u0), .val (.int u1), .val (.int (0 : Int32)), .unset] [(.int (1 : Int32)), (.ref tm)])) tt
    refine XS.iloadN X23.here hx rfl (hb hby d6_137) rfl ?_
    exact kk
  have f24 : Ary Z h19 tm .int [(.int (0 : Int32)), (.int (0 : Int32)), (.int (0 : Int32)), (.int (0 : Int32)), (.int (0 : Int32)), (.int (0 : Int32)), (.int (0 : Int32)), (.int (0 : Int32)), (.int (0 : Int32)), (.int (0 : Int32)), (.int (0 : Int32)), (.int (0 : Int32)), (.int (0 : Int32)), (.int (0 : Int32)), (.int (0 : Int32)), (.int (0 : Int32))] := (((V_tm.other W7 (Ne.symm ne_tl_tm)).other W13 (Ne.symm ne_th_tm)).other W19 (Ne.symm ne_tv_tm))
  obtain ⟨cl25, Ar25, Sl25⟩ := id f24
  have hin25 := inA (cl := cl25) Sl25 (j := (1 : Int32)) (by decide) (Nat.le_of_ble_eq_true rfl)
  obtain ⟨T25, h25, X25, e25, W25, st25⟩ := stI X23 hx hZ e23 Ar25 (j := (1 : Int32)) hin25 (g := (mkF m 138 #[.val (.ref va), .val (.int u0), .val (.int u1), .val (.int (0 : Int32)), .unset] [(.int (0 : Int32)), (.int (1 : Int32)), (.ref tm)])) rfl rfl (hb hby d6_138)
  have V25 : Ary Z h25 tm .int [(.int (0 : Int32)), (.int (0 : Int32)), (.int (0 : Int32)), (.int (0 : Int32)), (.int (0 : Int32)), (.int (0 : Int32)), (.int (0 : Int32)), (.int (0 : Int32)), (.int (0 : Int32)), (.int (0 : Int32)), (.int (0 : Int32)), (.int (0 : Int32)), (.int (0 : Int32)), (.int (0 : Int32)), (.int (0 : Int32)), (.int (0 : Int32))] := Ary.put Ar25 Sl25 W25 rfl
  have N25 := Fr.snoc X25 N19 g_tm
  refine Goal.to (B := T25.setTop (mkF m 139 #[.val (.ref va), .val (.int u0), .val (.int u1), .val (.int (0 : Int32)), .unset] [])) st25 ?_
  refine Goal.to (B := T25.setTop (mkF m 140 #[.val (.ref va), .val (.int u0), .val (.int u1), .val (.int (0 : Int32)), .unset] [(.ref va)])) (fun tt kk => ?_) ?_
  · show Steps p.tables e below (T25.setTop (mkF m 139 #[.val (.ref va), .val (.int u0), .val (.int u1), .val (.int (0 : Int32)), .unset] [])) tt
    refine XS.aloadN X25.here hx rfl (hb hby d6_139) rfl rfl ?_
    exact kk
  have f26 : Fld Z h25 va "com/example/deferra/deferra/engine/Trail" "pools" "Ljava/util/function/Supplier;" .null := ((((F_pools_va.other W7 (Or.inl ne_va_tl)).other W13 (Or.inl ne_va_th)).other W19 (Or.inl ne_va_tv)).other W25 (Or.inl ne_va_tm))
  obtain ⟨T27, X27, e27, st27⟩ := getF X25 hx hZ hown (host := "") (Or.inl (hw _ (mw 48 rfl))) Via.refl e25 f26 (g := (mkF m 140 #[.val (.ref va), .val (.int u0), .val (.int u1), .val (.int (0 : Int32)), .unset] [(.ref va)])) rfl rfl (hb hby d6_140)
  refine Goal.to (B := T27.setTop (mkF m 143 #[.val (.ref va), .val (.int u0), .val (.int u1), .val (.int (0 : Int32)), .unset] [.null])) st27 ?_
  refine Goal.to (B := T27.setTop (mkF m 197 #[.val (.ref va), .val (.int u0), .val (.int u1), .val (.int (0 : Int32)), .unset] [(.ref va), (.ref va)])) (fun tt kk => ?_) ?_
  · show Steps p.tables e below (T27.setTop (mkF m 143 #[.val (.ref va), .val (.int u0), .val (.int u1), .val (.int (0 : Int32)), .unset] [.null])) tt
    refine XS.ifnullYes X27.here hx rfl (pc0 := 143) (pc' := 195) rfl (hb hby d6_143) rfl (by decide) (by decide) ?_
    show Steps p.tables e below (T27.setTop (mkF m 195 #[.val (.ref va), .val (.int u0), .val (.int u1), .val (.int (0 : Int32)), .unset] [])) tt
    refine XS.aloadN X27.here hx rfl (hb hby d6_195) rfl rfl ?_
    show Steps p.tables e below (T27.setTop (mkF m 196 #[.val (.ref va), .val (.int u0), .val (.int u1), .val (.int (0 : Int32)), .unset] [(.ref va)])) tt
    refine XS.dup X27.here hx rfl (hb hby d6_196) rfl rfl ?_
    exact kk
  have f28 : Fld Z h25 va "com/example/deferra/deferra/engine/Trail" "size" "I" (.int (1 : Int32)) := (f22.other W25 (Or.inl ne_va_tm))
  obtain ⟨T29, X29, e29, st29⟩ := getF X27 hx hZ hown (host := "") (Or.inl (hw _ (mw 36 rfl))) Via.refl e27 f28 (g := (mkF m 197 #[.val (.ref va), .val (.int u0), .val (.int u1), .val (.int (0 : Int32)), .unset] [(.ref va), (.ref va)])) rfl rfl (hb hby d6_197)
  refine Goal.to (B := T29.setTop (mkF m 200 #[.val (.ref va), .val (.int u0), .val (.int u1), .val (.int (0 : Int32)), .unset] [(.int (1 : Int32)), (.ref va)])) st29 ?_
  refine Goal.to (B := T29.setTop (mkF m 202 #[.val (.ref va), .val (.int u0), .val (.int u1), .val (.int (0 : Int32)), .unset] [(.int (2 : Int32)), (.ref va)])) (fun tt kk => ?_) ?_
  · show Steps p.tables e below (T29.setTop (mkF m 200 #[.val (.ref va), .val (.int u0), .val (.int u1), .val (.int (0 : Int32)), .unset] [(.int (1 : Int32)), (.ref va)])) tt
    refine XS.iconst X29.here hx rfl (hb hby d6_200) ?_
    show Steps p.tables e below (T29.setTop (mkF m 201 #[.val (.ref va), .val (.int u0), .val (.int u1), .val (.int (0 : Int32)), .unset] [(.int (1 : Int32)), (.int (1 : Int32)), (.ref va)])) tt
    refine XS.iadd X29.here hx rfl (hb hby d6_201) rfl ?_
    exact kk
  have f30 : Exa Z h25 va "com/example/deferra/deferra/engine/Trail" := ((((E_va.wr W7).wr W13).wr W19).wr W25)
  obtain ⟨T31, h31, X31, e31, W31, st31⟩ := putF X29 hx hZ hown (host := "") (Or.inl (hw _ (mw 36 rfl))) Via.refl e29 f28 f30 (Or.inl (hw _ (mw 37 rfl))) (hw _ (mw 8 rfl)) (ty := .int) (by decide) rfl rfl (g := (mkF m 202 #[.val (.ref va), .val (.int u0), .val (.int u1), .val (.int (0 : Int32)), .unset] [(.int (2 : Int32)), (.ref va)])) rfl rfl (hb hby d6_202)
  have Fw31 : Fld Z h31 va "com/example/deferra/deferra/engine/Trail" "size" "I" (.int (2 : Int32)) := f28.same W31
  have N31 := Fr.snoc X31 N25 g_va
  refine Goal.to (B := T31.setTop (mkF m 205 #[.val (.ref va), .val (.int u0), .val (.int u1), .val (.int (0 : Int32)), .unset] [])) st31 ?_
  refine Goal.to (B := T31.setTop (mkF m 207 #[.val (.ref va), .val (.int u0), .val (.int u1), .val (.int (0 : Int32)), .unset] [(.ref va), (.ref va)])) (fun tt kk => ?_) ?_
  · show Steps p.tables e below (T31.setTop (mkF m 205 #[.val (.ref va), .val (.int u0), .val (.int u1), .val (.int (0 : Int32)), .unset] [])) tt
    refine XS.aloadN X31.here hx rfl (hb hby d6_205) rfl rfl ?_
    show Steps p.tables e below (T31.setTop (mkF m 206 #[.val (.ref va), .val (.int u0), .val (.int u1), .val (.int (0 : Int32)), .unset] [(.ref va)])) tt
    refine XS.dup X31.here hx rfl (hb hby d6_206) rfl rfl ?_
    exact kk
  have f32 : Fld Z h31 va "com/example/deferra/deferra/engine/Trail" "depth" "I" (.int (1 : Int32)) := (((((F_depth_va.other W7 (Or.inl ne_va_tl)).other W13 (Or.inl ne_va_th)).other W19 (Or.inl ne_va_tv)).other W25 (Or.inl ne_va_tm)).other W31 (Or.inr (slot_ne (Or.inl (hw _ (mw 35 rfl))) (Or.inl (hw _ (mw 37 rfl))) (by decide) (t := .int) (t' := .int) (by decide) (by decide))))
  obtain ⟨T33, X33, e33, st33⟩ := getF X31 hx hZ hown (host := "") (Or.inl (hw _ (mw 34 rfl))) Via.refl e31 f32 (g := (mkF m 207 #[.val (.ref va), .val (.int u0), .val (.int u1), .val (.int (0 : Int32)), .unset] [(.ref va), (.ref va)])) rfl rfl (hb hby d6_207)
  refine Goal.to (B := T33.setTop (mkF m 210 #[.val (.ref va), .val (.int u0), .val (.int u1), .val (.int (0 : Int32)), .unset] [(.int (1 : Int32)), (.ref va)])) st33 ?_
  refine Goal.to (B := T33.setTop (mkF m 212 #[.val (.ref va), .val (.int u0), .val (.int u1), .val (.int (0 : Int32)), .unset] [(.int (2 : Int32)), (.ref va)])) (fun tt kk => ?_) ?_
  · show Steps p.tables e below (T33.setTop (mkF m 210 #[.val (.ref va), .val (.int u0), .val (.int u1), .val (.int (0 : Int32)), .unset] [(.int (1 : Int32)), (.ref va)])) tt
    refine XS.iconst X33.here hx rfl (hb hby d6_210) ?_
    show Steps p.tables e below (T33.setTop (mkF m 211 #[.val (.ref va), .val (.int u0), .val (.int u1), .val (.int (0 : Int32)), .unset] [(.int (1 : Int32)), (.int (1 : Int32)), (.ref va)])) tt
    refine XS.iadd X33.here hx rfl (hb hby d6_211) rfl ?_
    exact kk
  have f34 : Exa Z h31 va "com/example/deferra/deferra/engine/Trail" := (f30.wr W31)
  obtain ⟨T35, h35, X35, e35, W35, st35⟩ := putF X33 hx hZ hown (host := "") (Or.inl (hw _ (mw 34 rfl))) Via.refl e33 f32 f34 (Or.inl (hw _ (mw 35 rfl))) (hw _ (mw 8 rfl)) (ty := .int) (by decide) rfl rfl (g := (mkF m 212 #[.val (.ref va), .val (.int u0), .val (.int u1), .val (.int (0 : Int32)), .unset] [(.int (2 : Int32)), (.ref va)])) rfl rfl (hb hby d6_212)
  have Fw35 : Fld Z h35 va "com/example/deferra/deferra/engine/Trail" "depth" "I" (.int (2 : Int32)) := f32.same W35
  have N35 := Fr.snoc X35 N31 g_va
  refine Goal.to (B := T35.setTop (mkF m 215 #[.val (.ref va), .val (.int u0), .val (.int u1), .val (.int (0 : Int32)), .unset] [])) st35 ?_
  refine Goal.to (B := T35.setTop (mkF m 216 #[.val (.ref va), .val (.int u0), .val (.int u1), .val (.int (0 : Int32)), .unset] [(.int u0)])) (fun tt kk => ?_) ?_
  · show Steps p.tables e below (T35.setTop (mkF m 215 #[.val (.ref va), .val (.int u0), .val (.int u1), .val (.int (0 : Int32)), .unset] [])) tt
    refine XS.iloadN X35.here hx rfl (hb hby d6_215) rfl ?_
    exact kk
  have f36 : Keep h0 h35 [va, tl, th, tv, tm] := (((((((Keep.refl h0 [va, tl, th, tv, tm]).wr W7 (Or.inl (List.mem_of_getElem? (i := 1) rfl))).wr W13 (Or.inl (List.mem_of_getElem? (i := 2) rfl))).wr W19 (Or.inl (List.mem_of_getElem? (i := 3) rfl))).wr W25 (Or.inl (List.mem_of_getElem? (i := 4) rfl))).wr W31 (Or.inl (List.mem_of_getElem? (i := 0) rfl))).wr W35 (Or.inl (List.mem_of_getElem? (i := 0) rfl)))
  have f37 : Fld Z h35 va "com/example/deferra/deferra/engine/Trail" "lows" "[I" (.ref tl) := ((((((F_lows_va.other W7 (Or.inl ne_va_tl)).other W13 (Or.inl ne_va_th)).other W19 (Or.inl ne_va_tv)).other W25 (Or.inl ne_va_tm)).other W31 (Or.inr (slot_ne (Or.inl (hw _ (mw 18 rfl))) (Or.inl (hw _ (mw 37 rfl))) (by decide) (t := (.array .int)) (t' := .int) (by decide) (by decide)))).other W35 (Or.inr (slot_ne (Or.inl (hw _ (mw 18 rfl))) (Or.inl (hw _ (mw 35 rfl))) (by decide) (t := (.array .int)) (t' := .int) (by decide) (by decide))))
  have f38 : Fld Z h35 va "com/example/deferra/deferra/engine/Trail" "highs" "[I" (.ref th) := (((((f8.other W13 (Or.inl ne_va_th)).other W19 (Or.inl ne_va_tv)).other W25 (Or.inl ne_va_tm)).other W31 (Or.inr (slot_ne (Or.inl (hw _ (mw 20 rfl))) (Or.inl (hw _ (mw 37 rfl))) (by decide) (t := (.array .int)) (t' := .int) (by decide) (by decide)))).other W35 (Or.inr (slot_ne (Or.inl (hw _ (mw 20 rfl))) (Or.inl (hw _ (mw 35 rfl))) (by decide) (t := (.array .int)) (t' := .int) (by decide) (by decide))))
  have f39 : Fld Z h35 va "com/example/deferra/deferra/engine/Trail" "values" "[I" (.ref tv) := ((((f14.other W19 (Or.inl ne_va_tv)).other W25 (Or.inl ne_va_tm)).other W31 (Or.inr (slot_ne (Or.inl (hw _ (mw 22 rfl))) (Or.inl (hw _ (mw 37 rfl))) (by decide) (t := (.array .int)) (t' := .int) (by decide) (by decide)))).other W35 (Or.inr (slot_ne (Or.inl (hw _ (mw 22 rfl))) (Or.inl (hw _ (mw 35 rfl))) (by decide) (t := (.array .int)) (t' := .int) (by decide) (by decide))))
  have f40 : Fld Z h35 va "com/example/deferra/deferra/engine/Trail" "makers" "[I" (.ref tm) := (((f20.other W25 (Or.inl ne_va_tm)).other W31 (Or.inr (slot_ne (Or.inl (hw _ (mw 24 rfl))) (Or.inl (hw _ (mw 37 rfl))) (by decide) (t := (.array .int)) (t' := .int) (by decide) (by decide)))).other W35 (Or.inr (slot_ne (Or.inl (hw _ (mw 24 rfl))) (Or.inl (hw _ (mw 35 rfl))) (by decide) (t := (.array .int)) (t' := .int) (by decide) (by decide))))
  have f41 : Fld Z h35 va "com/example/deferra/deferra/engine/Trail" "fromTrace" "Z" (.int (0 : Int32)) := ((((((F_fromTrace_va.other W7 (Or.inl ne_va_tl)).other W13 (Or.inl ne_va_th)).other W19 (Or.inl ne_va_tv)).other W25 (Or.inl ne_va_tm)).other W31 (Or.inr (slot_ne (Or.inr (hw _ (mw 26 rfl))) (Or.inl (hw _ (mw 37 rfl))) (by decide) (t := .boolean) (t' := .int) (by decide) (by decide)))).other W35 (Or.inr (slot_ne (Or.inr (hw _ (mw 26 rfl))) (Or.inl (hw _ (mw 35 rfl))) (by decide) (t := .boolean) (t' := .int) (by decide) (by decide))))
  have f42 : Fld Z h35 va "com/example/deferra/deferra/engine/Trail" "maxDepth" "I" (.int (8 : Int32)) := ((((((F_maxDepth_va.other W7 (Or.inl ne_va_tl)).other W13 (Or.inl ne_va_th)).other W19 (Or.inl ne_va_tv)).other W25 (Or.inl ne_va_tm)).other W31 (Or.inr (slot_ne (Or.inr (hw _ (mw 28 rfl))) (Or.inl (hw _ (mw 37 rfl))) (by decide) (t := .int) (t' := .int) (by decide) (by decide)))).other W35 (Or.inr (slot_ne (Or.inr (hw _ (mw 28 rfl))) (Or.inl (hw _ (mw 35 rfl))) (by decide) (t := .int) (t' := .int) (by decide) (by decide))))
  have f43 : Fld Z h35 va "com/example/deferra/deferra/engine/Trail" "size" "I" (.int (2 : Int32)) := (Fw31.other W35 (Or.inr (slot_ne (Or.inl (hw _ (mw 37 rfl))) (Or.inl (hw _ (mw 35 rfl))) (by decide) (t := .int) (t' := .int) (by decide) (by decide))))
  have f44 : Fld Z h35 va "com/example/deferra/deferra/engine/Trail" "stopping" "Z" (.int (0 : Int32)) := ((((((F_stopping_va.other W7 (Or.inl ne_va_tl)).other W13 (Or.inl ne_va_th)).other W19 (Or.inl ne_va_tv)).other W25 (Or.inl ne_va_tm)).other W31 (Or.inr (slot_ne (Or.inl (hw _ (mw 47 rfl))) (Or.inl (hw _ (mw 37 rfl))) (by decide) (t := .boolean) (t' := .int) (by decide) (by decide)))).other W35 (Or.inr (slot_ne (Or.inl (hw _ (mw 47 rfl))) (Or.inl (hw _ (mw 35 rfl))) (by decide) (t := .boolean) (t' := .int) (by decide) (by decide))))
  have f45 : Fld Z h35 va "com/example/deferra/deferra/engine/Trail" "pools" "Ljava/util/function/Supplier;" .null := ((f26.other W31 (Or.inr (slot_ne (Or.inl (hw _ (mw 49 rfl))) (Or.inl (hw _ (mw 37 rfl))) (by decide) (t := (.object "java/util/function/Supplier")) (t' := .int) (by decide) (by decide)))).other W35 (Or.inr (slot_ne (Or.inl (hw _ (mw 49 rfl))) (Or.inl (hw _ (mw 35 rfl))) (by decide) (t := (.object "java/util/function/Supplier")) (t' := .int) (by decide) (by decide))))
  have f46 : Fld Z h35 va "com/example/deferra/deferra/engine/Trail" "saved" "[[Lcom/example/deferra/deferra/engine/Identities;" .null := ((((((F_saved_va.other W7 (Or.inl ne_va_tl)).other W13 (Or.inl ne_va_th)).other W19 (Or.inl ne_va_tv)).other W25 (Or.inl ne_va_tm)).other W31 (Or.inr (slot_ne (Or.inl (hw _ (mw 60 rfl))) (Or.inl (hw _ (mw 37 rfl))) (by decide) (t := (.array (.array (.object "com/example/deferra/deferra/engine/Identities")))) (t' := .int) (by decide) (by decide)))).other W35 (Or.inr (slot_ne (Or.inl (hw _ (mw 60 rfl))) (Or.inl (hw _ (mw 35 rfl))) (by decide) (t := (.array (.array (.object "com/example/deferra/deferra/engine/Identities")))) (t' := .int) (by decide) (by decide))))
  have f47 : Ary Z h35 tl .int [(.int p0), (.int u0), (.int (0 : Int32)), (.int (0 : Int32)), (.int (0 : Int32)), (.int (0 : Int32)), (.int (0 : Int32)), (.int (0 : Int32)), (.int (0 : Int32)), (.int (0 : Int32)), (.int (0 : Int32)), (.int (0 : Int32)), (.int (0 : Int32)), (.int (0 : Int32)), (.int (0 : Int32)), (.int (0 : Int32))] := (((((V7.other W13 ne_tl_th).other W19 ne_tl_tv).other W25 ne_tl_tm).other W31 (Ne.symm ne_va_tl)).other W35 (Ne.symm ne_va_tl))
  have f48 : Ary Z h35 th .int [(.int q0), (.int u1), (.int (0 : Int32)), (.int (0 : Int32)), (.int (0 : Int32)), (.int (0 : Int32)), (.int (0 : Int32)), (.int (0 : Int32)), (.int (0 : Int32)), (.int (0 : Int32)), (.int (0 : Int32)), (.int (0 : Int32)), (.int (0 : Int32)), (.int (0 : Int32)), (.int (0 : Int32)), (.int (0 : Int32))] := ((((V13.other W19 ne_th_tv).other W25 ne_th_tm).other W31 (Ne.symm ne_va_th)).other W35 (Ne.symm ne_va_th))
  have f49 : Ary Z h35 tv .int [(.int r0), (.int u0), (.int (0 : Int32)), (.int (0 : Int32)), (.int (0 : Int32)), (.int (0 : Int32)), (.int (0 : Int32)), (.int (0 : Int32)), (.int (0 : Int32)), (.int (0 : Int32)), (.int (0 : Int32)), (.int (0 : Int32)), (.int (0 : Int32)), (.int (0 : Int32)), (.int (0 : Int32)), (.int (0 : Int32))] := (((V19.other W25 ne_tv_tm).other W31 (Ne.symm ne_va_tv)).other W35 (Ne.symm ne_va_tv))
  have f50 : Ary Z h35 tm .int [(.int (0 : Int32)), (.int (0 : Int32)), (.int (0 : Int32)), (.int (0 : Int32)), (.int (0 : Int32)), (.int (0 : Int32)), (.int (0 : Int32)), (.int (0 : Int32)), (.int (0 : Int32)), (.int (0 : Int32)), (.int (0 : Int32)), (.int (0 : Int32)), (.int (0 : Int32)), (.int (0 : Int32)), (.int (0 : Int32)), (.int (0 : Int32))] := ((V25.other W31 (Ne.symm ne_va_tm)).other W35 (Ne.symm ne_va_tm))
  exact Goal.retV X35 hx Bd.returns rfl (Or.inl ⟨rfl, Or.inl rfl, _, rfl⟩) (hb hby d6_216) hlk e35 ⟨rfl, N35, f36, f37, f38, f39, f40, f41, f42, Fw35, f43, f44, f45, f46, f47, f48, f49, f50⟩ (by decide) (by decide)
def Qnx1 (Z : State) (va : Addr) (tl : Addr) (th : Addr) (tv : Addr) (tm : Addr) (p0 : Int32) (q0 : Int32) (r0 : Int32) (u0 : Int32) (u1 : Int32) (h0 : Heap) (n0 : Nat) (v : Option Value) (h : Heap) (L : List Loc) : Prop := v = some (.int u0) ∧ Fr n0 L ∧ Keep h0 h [va, tl, th, tv, tm] ∧ Fld Z h va "com/example/deferra/deferra/engine/Trail" "lows" "[I" (.ref tl) ∧ Fld Z h va "com/example/deferra/deferra/engine/Trail" "highs" "[I" (.ref th) ∧ Fld Z h va "com/example/deferra/deferra/engine/Trail" "values" "[I" (.ref tv) ∧ Fld Z h va "com/example/deferra/deferra/engine/Trail" "makers" "[I" (.ref tm) ∧ Fld Z h va "com/example/deferra/deferra/engine/Trail" "fromTrace" "Z" (.int (0 : Int32)) ∧ Fld Z h va "com/example/deferra/deferra/engine/Trail" "maxDepth" "I" (.int (8 : Int32)) ∧ Fld Z h va "com/example/deferra/deferra/engine/Trail" "depth" "I" (.int (2 : Int32)) ∧ Fld Z h va "com/example/deferra/deferra/engine/Trail" "size" "I" (.int (2 : Int32)) ∧ Fld Z h va "com/example/deferra/deferra/engine/Trail" "stopping" "Z" (.int (0 : Int32)) ∧ Fld Z h va "com/example/deferra/deferra/engine/Trail" "pools" "Ljava/util/function/Supplier;" .null ∧ Fld Z h va "com/example/deferra/deferra/engine/Trail" "saved" "[[Lcom/example/deferra/deferra/engine/Identities;" .null ∧ Ary Z h tl .int [(.int p0), (.int u0), (.int (0 : Int32)), (.int (0 : Int32)), (.int (0 : Int32)), (.int (0 : Int32)), (.int (0 : Int32)), (.int (0 : Int32)), (.int (0 : Int32)), (.int (0 : Int32)), (.int (0 : Int32)), (.int (0 : Int32)), (.int (0 : Int32)), (.int (0 : Int32)), (.int (0 : Int32)), (.int (0 : Int32))] ∧ Ary Z h th .int [(.int q0), (.int u1), (.int (0 : Int32)), (.int (0 : Int32)), (.int (0 : Int32)), (.int (0 : Int32)), (.int (0 : Int32)), (.int (0 : Int32)), (.int (0 : Int32)), (.int (0 : Int32)), (.int (0 : Int32)), (.int (0 : Int32)), (.int (0 : Int32)), (.int (0 : Int32)), (.int (0 : Int32)), (.int (0 : Int32))] ∧ Ary Z h tv .int [(.int r0), (.int u0), (.int (0 : Int32)), (.int (0 : Int32)), (.int (0 : Int32)), (.int (0 : Int32)), (.int (0 : Int32)), (.int (0 : Int32)), (.int (0 : Int32)), (.int (0 : Int32)), (.int (0 : Int32)), (.int (0 : Int32)), (.int (0 : Int32)), (.int (0 : Int32)), (.int (0 : Int32)), (.int (0 : Int32))] ∧ Ary Z h tm .int [(.int (0 : Int32)), (.int (0 : Int32)), (.int (0 : Int32)), (.int (0 : Int32)), (.int (0 : Int32)), (.int (0 : Int32)), (.int (0 : Int32)), (.int (0 : Int32)), (.int (0 : Int32)), (.int (0 : Int32)), (.int (0 : Int32)), (.int (0 : Int32)), (.int (0 : Int32)), (.int (0 : Int32)), (.int (0 : Int32)), (.int (0 : Int32))]
set_option maxRecDepth 65536 in
set_option maxHeartbeats 40000000 in
theorem rmnx1 (l : Launch) (Z : State) (a0 : Array Value) (hw : ∀ d ∈ tables_1, d.before a0 Z = true) (ws : List Jvm.Cond) (va : Addr) (tl : Addr) (th : Addr) (tv : Addr) (tm : Addr) (p0 : Int32) (q0 : Int32) (r0 : Int32) (u0 : Int32) (u1 : Int32) (h0 : Heap) (n0 : Nat) (Z0 : n0 ≤ h0.size) (E_va : Exa Z h0 va "com/example/deferra/deferra/engine/Trail") (F_lows_va : Fld Z h0 va "com/example/deferra/deferra/engine/Trail" "lows" "[I" (.ref tl)) (F_highs_va : Fld Z h0 va "com/example/deferra/deferra/engine/Trail" "highs" "[I" (.ref th)) (F_values_va : Fld Z h0 va "com/example/deferra/deferra/engine/Trail" "values" "[I" (.ref tv)) (F_makers_va : Fld Z h0 va "com/example/deferra/deferra/engine/Trail" "makers" "[I" (.ref tm)) (F_fromTrace_va : Fld Z h0 va "com/example/deferra/deferra/engine/Trail" "fromTrace" "Z" (.int (0 : Int32))) (F_maxDepth_va : Fld Z h0 va "com/example/deferra/deferra/engine/Trail" "maxDepth" "I" (.int (8 : Int32))) (F_depth_va : Fld Z h0 va "com/example/deferra/deferra/engine/Trail" "depth" "I" (.int (1 : Int32))) (F_size_va : Fld Z h0 va "com/example/deferra/deferra/engine/Trail" "size" "I" (.int (1 : Int32))) (F_stopping_va : Fld Z h0 va "com/example/deferra/deferra/engine/Trail" "stopping" "Z" (.int (0 : Int32))) (F_pools_va : Fld Z h0 va "com/example/deferra/deferra/engine/Trail" "pools" "Ljava/util/function/Supplier;" .null) (F_saved_va : Fld Z h0 va "com/example/deferra/deferra/engine/Trail" "saved" "[[Lcom/example/deferra/deferra/engine/Identities;" .null) (V_tl : Ary Z h0 tl .int [(.int p0), (.int (0 : Int32)), (.int (0 : Int32)), (.int (0 : Int32)), (.int (0 : Int32)), (.int (0 : Int32)), (.int (0 : Int32)), (.int (0 : Int32)), (.int (0 : Int32)), (.int (0 : Int32)), (.int (0 : Int32)), (.int (0 : Int32)), (.int (0 : Int32)), (.int (0 : Int32)), (.int (0 : Int32)), (.int (0 : Int32))]) (V_th : Ary Z h0 th .int [(.int q0), (.int (0 : Int32)), (.int (0 : Int32)), (.int (0 : Int32)), (.int (0 : Int32)), (.int (0 : Int32)), (.int (0 : Int32)), (.int (0 : Int32)), (.int (0 : Int32)), (.int (0 : Int32)), (.int (0 : Int32)), (.int (0 : Int32)), (.int (0 : Int32)), (.int (0 : Int32)), (.int (0 : Int32)), (.int (0 : Int32))]) (V_tv : Ary Z h0 tv .int [(.int r0), (.int (0 : Int32)), (.int (0 : Int32)), (.int (0 : Int32)), (.int (0 : Int32)), (.int (0 : Int32)), (.int (0 : Int32)), (.int (0 : Int32)), (.int (0 : Int32)), (.int (0 : Int32)), (.int (0 : Int32)), (.int (0 : Int32)), (.int (0 : Int32)), (.int (0 : Int32)), (.int (0 : Int32)), (.int (0 : Int32))]) (V_tm : Ary Z h0 tm .int [(.int (0 : Int32)), (.int (0 : Int32)), (.int (0 : Int32)), (.int (0 : Int32)), (.int (0 : Int32)), (.int (0 : Int32)), (.int (0 : Int32)), (.int (0 : Int32)), (.int (0 : Int32)), (.int (0 : Int32)), (.int (0 : Int32)), (.int (0 : Int32)), (.int (0 : Int32)), (.int (0 : Int32)), (.int (0 : Int32)), (.int (0 : Int32))]) (g_va : n0 ≤ va) (g_tl : n0 ≤ tl) (g_th : n0 ≤ th) (g_tv : n0 ≤ tv) (g_tm : n0 ≤ tm) (ne_va_tl : va ≠ tl) (ne_va_th : va ≠ th) (ne_va_tv : va ≠ tv) (ne_va_tm : va ≠ tm) (ne_tl_th : tl ≠ th) (ne_tl_tv : tl ≠ tv) (ne_tl_tm : tl ≠ tm) (ne_th_tv : th ≠ tv) (ne_th_tm : th ≠ tm) (ne_tv_tm : tv ≠ tm) :
    MetFree l (⟨"com/example/deferra/deferra/engine/Trail", "next", "(II)I"⟩ : MethodName) (head1 (Jvm.Cond.code (⟨"com/example/deferra/deferra/engine/Trail", "next", "(II)I"⟩ : MethodName) prog_36_method_5_code 4 (some .int) :: ws) ({ frames := 2, cells := 0, slots := 0, locals := 28 } : Room)) (fun a U => a = #[(.ref va), (.int u0), (.int u1)] ∧ Z.Warmed39 U.vm ∧ U.heap = h0) (fun _ _ _ _ _ => True) (fun _ U o U' => ∃ v L, o = .returned v ∧ Qnx1 Z va tl th tv tm p0 q0 r0 u0 u1 h0 n0 v U'.heap L ∧ FrameEnd U o U' L 0 0) := by
  refine MetFree.of_bodySF (plainFor_of_name pn_5) hisR ?_
  intro p e s m args below meth c s₁ Bd hml0 hP hK
  obtain ⟨rfl, hZ, hh⟩ := hP
  have hx := Bd.exec
  have hby := Bd.bytes
  have hml : c.maxLocals = 4 := hml0
  have hown : s.vm.findClass "com/example/deferra/deferra/engine/Trail" = some m.cls := findClass_of_methodNamed Bd.named
  have hnm := (name_of_methodNamed Bd.named Bd.method).1
  have X0 : Stand p l e ({ frames := 2, cells := 0, slots := 0, locals := 28 } : Room) s m #[(.ref va), (.int u0), (.int u1)] below meth c s₁ [] 0 0 := Stand.of_body Bd
  have e0 : s₁.heap = h0 := by rw [← hh, Bd.state]; rfl
  have N0 := Fr.nil n0
  have hlk : meth.locks = false := BodyLoose.notSynchronized Bd
  show Goal p e below s (Qnx1 Z va tl th tv tm p0 q0 r0 u0 u1 h0 n0) 0 0 (s₁.setTop (entryFrame m #[(.ref va), (.int u0), (.int u1)] 4))
  refine Goal.to (B := s₁.setTop (mkF m 0 #[.val (.ref va), .val (.int u0), .val (.int u1), .unset] [])) (fun tt kk => castTop (ef_5 m va u0 u1 ) kk) ?_
  refine Goal.to (B := s₁.setTop (mkF m 1 #[.val (.ref va), .val (.int u0), .val (.int u1), .unset] [(.ref va)])) (fun tt kk => ?_) ?_
  · show Steps p.tables e below (s₁.setTop (mkF m 0 #[.val (.ref va), .val (.int u0), .val (.int u1), .unset] [])) tt
    refine XS.aloadN X0.here hx rfl (hb hby d5_0) rfl rfl ?_
    exact kk
  obtain ⟨T1, X1, e1, st1⟩ := getF X0 hx hZ hown (host := "") (Or.inl (hw _ (mw 25 rfl))) Via.refl e0 F_fromTrace_va (g := (mkF m 1 #[.val (.ref va), .val (.int u0), .val (.int u1), .unset] [(.ref va)])) rfl rfl (hb hby d5_1)
  refine Goal.to (B := T1.setTop (mkF m 4 #[.val (.ref va), .val (.int u0), .val (.int u1), .unset] [(.int (0 : Int32))])) st1 ?_
  refine Goal.to (B := T1.setTop (mkF m 18 #[.val (.ref va), .val (.int u0), .val (.int u1), .unset] [(.ref va)])) (fun tt kk => ?_) ?_
  · show Steps p.tables e below (T1.setTop (mkF m 4 #[.val (.ref va), .val (.int u0), .val (.int u1), .unset] [(.int (0 : Int32))])) tt
    refine XS.ifYes X1.here hx rfl (pc0 := 4) (pc' := 17) rfl (hb hby d5_4) rfl ((if0 _ _).trans (teq (rfl : (0 : Int32) = (0 : Int32))).1) (by decide) (by decide) ?_
    show Steps p.tables e below (T1.setTop (mkF m 17 #[.val (.ref va), .val (.int u0), .val (.int u1), .unset] [])) tt
    refine XS.aloadN X1.here hx rfl (hb hby d5_17) rfl rfl ?_
    exact kk
  obtain ⟨T2, X2, e2, st2⟩ := getF X1 hx hZ hown (host := "") (Or.inl (hw _ (mw 34 rfl))) Via.refl e1 F_depth_va (g := (mkF m 18 #[.val (.ref va), .val (.int u0), .val (.int u1), .unset] [(.ref va)])) rfl rfl (hb hby d5_18)
  refine Goal.to (B := T2.setTop (mkF m 21 #[.val (.ref va), .val (.int u0), .val (.int u1), .unset] [(.int (1 : Int32))])) st2 ?_
  refine Goal.to (B := T2.setTop (mkF m 22 #[.val (.ref va), .val (.int u0), .val (.int u1), .unset] [(.ref va), (.int (1 : Int32))])) (fun tt kk => ?_) ?_
  · show Steps p.tables e below (T2.setTop (mkF m 21 #[.val (.ref va), .val (.int u0), .val (.int u1), .unset] [(.int (1 : Int32))])) tt
    refine XS.aloadN X2.here hx rfl (hb hby d5_21) rfl rfl ?_
    exact kk
  obtain ⟨T3, X3, e3, st3⟩ := getF X2 hx hZ hown (host := "") (Or.inl (hw _ (mw 36 rfl))) Via.refl e2 F_size_va (g := (mkF m 22 #[.val (.ref va), .val (.int u0), .val (.int u1), .unset] [(.ref va), (.int (1 : Int32))])) rfl rfl (hb hby d5_22)
  refine Goal.to (B := T3.setTop (mkF m 25 #[.val (.ref va), .val (.int u0), .val (.int u1), .unset] [(.int (1 : Int32)), (.int (1 : Int32))])) st3 ?_
  refine Goal.to (B := T3.setTop (mkF m 113 #[.val (.ref va), .val (.int u0), .val (.int u1), .unset] [(.int (0 : Int32)), (.int u1), (.int u0), (.ref va)])) (fun tt kk => ?_) ?_
  · show Steps p.tables e below (T3.setTop (mkF m 25 #[.val (.ref va), .val (.int u0), .val (.int u1), .unset] [(.int (1 : Int32)), (.int (1 : Int32))])) tt
    refine XS.icmpYes X3.here hx rfl (pc0 := 25) (pc' := 109) rfl (hb hby d5_25) rfl (flt (Int32.lt_irrefl : ¬ ((1 : Int32) < (1 : Int32)))).2.1 (by decide) (by decide) ?_
    show Steps p.tables e below (T3.setTop (mkF m 109 #[.val (.ref va), .val (.int u0), .val (.int u1), .unset] [])) tt
    refine XS.aloadN X3.here hx rfl (hb hby d5_109) rfl rfl ?_
    show Steps p.tables e below (T3.setTop (mkF m 110 #[.val (.ref va), .val (.int u0), .val (.int u1), .unset] [(.ref va)])) tt
    refine XS.iloadN X3.here hx rfl (hb hby d5_110) rfl ?_
    show Steps p.tables e below (T3.setTop (mkF m 111 #[.val (.ref va), .val (.int u0), .val (.int u1), .unset] [(.int u0), (.ref va)])) tt
    refine XS.iloadN X3.here hx rfl (hb hby d5_111) rfl ?_
    show Steps p.tables e below (T3.setTop (mkF m 112 #[.val (.ref va), .val (.int u0), .val (.int u1), .unset] [(.int u1), (.int u0), (.ref va)])) tt
    refine XS.iconst X3.here hx rfl (hb hby d5_112) ?_
    exact kk
  obtain ⟨cq4, q4, q4'⟩ := E_va.cell
  obtain ⟨_, _, ⟨T4, L4, k4, n4⟩, -, X4, ⟨Lc4, hQ4, l4, y4, z4⟩, st4⟩ := X3.privateBack hx (y := (⟨"com/example/deferra/deferra/engine/Trail", "add", "(III)I"⟩ : MethodName)) hown (mvT hZ (hw _ (mw 38 rfl))) (mvT hZ (hw _ (mw 39 rfl))) (selP hZ (hw _ (mw 8 rfl)) (hw _ (mw 40 rfl)) (hw _ (mw 39 rfl)) (by decide)) (Cond.privateMethod_at (mvP hZ (hw _ (mw 40 rfl)) (args := #[]))) (mvT hZ (hw _ (mw 41 rfl))) (by decide) (backOf (W := 0) (rmad1 l Z a0 hw [] va tl th tv tm p0 q0 r0 u0 u1 h0 n0 Z0 E_va F_lows_va F_highs_va F_values_va F_makers_va F_fromTrace_va F_maxDepth_va F_depth_va F_size_va F_stopping_va F_pools_va F_saved_va V_tl V_th V_tv V_tm g_va g_tl g_th g_tv g_tm ne_va_tl ne_va_th ne_va_tv ne_va_tm ne_tl_th ne_tl_tv ne_tl_tm ne_th_tv ne_th_tm ne_tv_tm) hZ (hw _ (mw 41 rfl)) (hw _ (mw 9 rfl)) (by decide) (by decide)) (g := (mkF m 113 #[.val (.ref va), .val (.int u0), .val (.int u1), .unset] [(.int (0 : Int32)), (.int u1), (.int u0), (.ref va)])) rfl (by rw [hml]; rfl) (Steps.refl _) (a := va) (by rw [e3]; exact q4) q4' (argsL := [(.int u0), (.int u1), (.int (0 : Int32))]) (rest := []) (lenOf pd_3 rfl) rfl (by show 2 * 0 + _ ≤ _; exact Nat.le_of_eq rfl) (hb hby d5_113) (fun _ _ => ⟨rfl, e3, (by decide : 0 + 0 ≤ _), (by decide : 0 + 0 ≤ _)⟩)
  dsimp only [Pt.U, Pt.locs, Pt.cells, Pt.slots] at X4 l4 y4 z4 st4 hQ4
  subst l4 y4 z4
  obtain ⟨rfl, N4q, K4, P4_0, P4_1, P4_2, P4_3, P4_4, P4_5, P4_6, P4_7, P4_8, P4_9, P4_10, P4_11, P4_12, P4_13, P4_14⟩ := hQ4
  have N4 := Fr.app N0 N4q
  refine Goal.tr (B := T4.setTop (mkF m 116 #[.val (.ref va), .val (.int u0), .val (.int u1), .unset] [(.int u0)])) st4 ?_
  refine Goal.to (B := T4.setTop (mkF m 118 #[.val (.ref va), .val (.int u0), .val (.int u1), .val (.int u0)] [(.int u0)])) (fun tt kk => ?_) ?_
  · show Steps p.tables e below (T4.setTop (mkF m 116 #[.val (.ref va), .val (.int u0), .val (.int u1), .unset] [(.int u0)])) tt
    refine XS.istoreN X4.here hx rfl (hb hby d5_116) rfl (l' := #[.val (.ref va), .val (.int u0), .val (.int u1), .val (.int u0)]) rfl ?_
    show Steps p.tables e below (T4.setTop (mkF m 117 #[.val (.ref va), .val (.int u0), .val (.int u1), .val (.int u0)] [])) tt
    refine XS.iloadN X4.here hx rfl (hb hby d5_117) rfl ?_
    exact kk
  have f5 : Keep h0 T4.heap [va, tl, th, tv, tm] := ((Keep.refl h0 [va, tl, th, tv, tm]).trans K4 (allS (Or.inl (List.mem_of_getElem? (i := 0) rfl)) (allS (Or.inl (List.mem_of_getElem? (i := 1) rfl)) (allS (Or.inl (List.mem_of_getElem? (i := 2) rfl)) (allS (Or.inl (List.mem_of_getElem? (i := 3) rfl)) (allS (Or.inl (List.mem_of_getElem? (i := 4) rfl)) all0))))))
  exact Goal.retV X4 hx Bd.returns rfl (Or.inl ⟨rfl, Or.inl rfl, _, rfl⟩) (hb hby d5_118) hlk rfl ⟨rfl, N4, f5, P4_0, P4_1, P4_2, P4_3, P4_4, P4_5, P4_6, P4_7, P4_8, P4_9, P4_10, P4_11, P4_12, P4_13, P4_14⟩ (by decide) (by decide)
theorem ef_9 (m : MethodId) (x0 : Addr) (x1 : Int32)  : entryFrame m #[(.ref x0), (.int x1)] 2 = mkF m 0 #[.val (.ref x0), .val (.int x1)] [] := by first | (simp [entryFrame, mkF, argsToLocals, Value.category]; done) | rfl
theorem pn_9 : plainName "com/example/deferra/deferra/engine/Trail" = true := by first | (simp [plainName, overriddenIn]; done) | decide +kernel
theorem d9_0 : decode prog_36_method_23_code 0 = .ok (.aload_n 0, 1) := by decide +kernel
theorem d9_1 : decode prog_36_method_23_code 1 = .ok (.getfield 103, 3) := by decide +kernel
theorem d9_4 : decode prog_36_method_23_code 4 = .ok (.ifnull 16, 3) := by decide +kernel
theorem d9_20 : decode prog_36_method_23_code 20 = .ok (.return_, 1) := by decide +kernel
def Qfg (Z : State) (va : Addr) (u0 : Int32) (h0 : Heap) (n0 : Nat) (v : Option Value) (h : Heap) (L : List Loc) : Prop := v = none ∧ Fr n0 L ∧ h = h0
set_option maxRecDepth 65536 in
set_option maxHeartbeats 40000000 in
theorem rmfg (l : Launch) (Z : State) (a0 : Array Value) (hw : ∀ d ∈ tables_1, d.before a0 Z = true) (ws : List Jvm.Cond) (va : Addr) (u0 : Int32) (h0 : Heap) (n0 : Nat) (Z0 : n0 ≤ h0.size) (F_saved_va : Fld Z h0 va "com/example/deferra/deferra/engine/Trail" "saved" "[[Lcom/example/deferra/deferra/engine/Identities;" .null) :
    MetFree l (⟨"com/example/deferra/deferra/engine/Trail", "forget", "(I)V"⟩ : MethodName) (head1 (Jvm.Cond.code (⟨"com/example/deferra/deferra/engine/Trail", "forget", "(I)V"⟩ : MethodName) prog_36_method_23_code 2 none :: ws) ({ frames := 0, cells := 0, slots := 0, locals := 0 } : Room)) (fun a U => a = #[(.ref va), (.int u0)] ∧ Z.Warmed39 U.vm ∧ U.heap = h0) (fun _ _ _ _ _ => True) (fun _ U o U' => ∃ v L, o = .returned v ∧ Qfg Z va u0 h0 n0 v U'.heap L ∧ FrameEnd U o U' L 0 0) := by
  refine MetFree.of_bodySF (plainFor_of_name pn_9) hisR ?_
  intro p e s m args below meth c s₁ Bd hml0 hP hK
  obtain ⟨rfl, hZ, hh⟩ := hP
  have hx := Bd.exec
  have hby := Bd.bytes
  have hml : c.maxLocals = 2 := hml0
  have hown : s.vm.findClass "com/example/deferra/deferra/engine/Trail" = some m.cls := findClass_of_methodNamed Bd.named
  have hnm := (name_of_methodNamed Bd.named Bd.method).1
  have X0 : Stand p l e ({ frames := 0, cells := 0, slots := 0, locals := 0 } : Room) s m #[(.ref va), (.int u0)] below meth c s₁ [] 0 0 := Stand.of_body Bd
  have e0 : s₁.heap = h0 := by rw [← hh, Bd.state]; rfl
  have N0 := Fr.nil n0
  have hlk : meth.locks = false := BodyLoose.notSynchronized Bd
  show Goal p e below s (Qfg Z va u0 h0 n0) 0 0 (s₁.setTop (entryFrame m #[(.ref va), (.int u0)] 2))
  refine Goal.to (B := s₁.setTop (mkF m 0 #[.val (.ref va), .val (.int u0)] [])) (fun tt kk => castTop (ef_9 m va u0 ) kk) ?_
  refine Goal.to (B := s₁.setTop (mkF m 1 #[.val (.ref va), .val (.int u0)] [(.ref va)])) (fun tt kk => ?_) ?_
  · show Steps p.tables e below (s₁.setTop (mkF m 0 #[.val (.ref va), .val (.int u0)] [])) tt
    refine XS.aloadN X0.here hx rfl (hb hby d9_0) rfl rfl ?_
    exact kk
  obtain ⟨T1, X1, e1, st1⟩ := getF X0 hx hZ hown (host := "") (Or.inl (hw _ (mw 59 rfl))) Via.refl e0 F_saved_va (g := (mkF m 1 #[.val (.ref va), .val (.int u0)] [(.ref va)])) rfl rfl (hb hby d9_1)
  refine Goal.to (B := T1.setTop (mkF m 4 #[.val (.ref va), .val (.int u0)] [.null])) st1 ?_
  refine Goal.to (B := T1.setTop (mkF m 20 #[.val (.ref va), .val (.int u0)] [])) (fun tt kk => ?_) ?_
  · show Steps p.tables e below (T1.setTop (mkF m 4 #[.val (.ref va), .val (.int u0)] [.null])) tt
    refine XS.ifnullYes X1.here hx rfl (pc0 := 4) (pc' := 20) rfl (hb hby d9_4) rfl (by decide) (by decide) ?_
    exact kk
  exact Goal.retN X1 hx Bd.returns (hb hby d9_20) hlk e1 ⟨rfl, N0, rfl⟩ (by decide) (by decide)
theorem ef_8 (m : MethodId) (x0 : Addr)  : entryFrame m #[(.ref x0)] 2 = mkF m 0 #[.val (.ref x0), .unset] [] := by first | (simp [entryFrame, mkF, argsToLocals, Value.category]; done) | rfl
theorem pn_8 : plainName "com/example/deferra/deferra/engine/Trail" = true := by first | (simp [plainName, overriddenIn]; done) | decide +kernel
theorem d8_0 : decode prog_36_method_22_code 0 = .ok (.aload_n 0, 1) := by decide +kernel
theorem d8_1 : decode prog_36_method_22_code 1 = .ok (.getfield 22, 3) := by decide +kernel
theorem d8_4 : decode prog_36_method_22_code 4 = .ok (.ifCond .eq 5, 3) := by decide +kernel
theorem d8_9 : decode prog_36_method_22_code 9 = .ok (.aload_n 0, 1) := by decide +kernel
theorem d8_10 : decode prog_36_method_22_code 10 = .ok (.getfield 35, 3) := by decide +kernel
theorem d8_13 : decode prog_36_method_22_code 13 = .ok (.iconst 1, 1) := by decide +kernel
theorem d8_14 : decode prog_36_method_22_code 14 = .ok (.isub, 1) := by decide +kernel
theorem d8_15 : decode prog_36_method_22_code 15 = .ok (.istore_n 1, 1) := by decide +kernel
theorem d8_16 : decode prog_36_method_22_code 16 = .ok (.iload_n 1, 1) := by decide +kernel
theorem d8_17 : decode prog_36_method_22_code 17 = .ok (.ifCond .lt 24, 3) := by decide +kernel
theorem d8_20 : decode prog_36_method_22_code 20 = .ok (.aload_n 0, 1) := by decide +kernel
theorem d8_21 : decode prog_36_method_22_code 21 = .ok (.getfield 16, 3) := by decide +kernel
theorem d8_24 : decode prog_36_method_22_code 24 = .ok (.iload_n 1, 1) := by decide +kernel
theorem d8_25 : decode prog_36_method_22_code 25 = .ok (.iaload, 1) := by decide +kernel
theorem d8_26 : decode prog_36_method_22_code 26 = .ok (.aload_n 0, 1) := by decide +kernel
theorem d8_27 : decode prog_36_method_22_code 27 = .ok (.getfield 13, 3) := by decide +kernel
theorem d8_30 : decode prog_36_method_22_code 30 = .ok (.iload_n 1, 1) := by decide +kernel
theorem d8_31 : decode prog_36_method_22_code 31 = .ok (.iaload, 1) := by decide +kernel
theorem d8_32 : decode prog_36_method_22_code 32 = .ok (.if_icmp .ne 9, 3) := by decide +kernel
theorem d8_41 : decode prog_36_method_22_code 41 = .ok (.iload_n 1, 1) := by decide +kernel
theorem d8_42 : decode prog_36_method_22_code 42 = .ok (.ifCond .ge 5, 3) := by decide +kernel
theorem d8_47 : decode prog_36_method_22_code 47 = .ok (.aload_n 0, 1) := by decide +kernel
theorem d8_48 : decode prog_36_method_22_code 48 = .ok (.getfield 16, 3) := by decide +kernel
theorem d8_51 : decode prog_36_method_22_code 51 = .ok (.iload_n 1, 1) := by decide +kernel
theorem d8_52 : decode prog_36_method_22_code 52 = .ok (.dup2, 1) := by decide +kernel
theorem d8_53 : decode prog_36_method_22_code 53 = .ok (.iaload, 1) := by decide +kernel
theorem d8_54 : decode prog_36_method_22_code 54 = .ok (.iconst 1, 1) := by decide +kernel
theorem d8_55 : decode prog_36_method_22_code 55 = .ok (.iadd, 1) := by decide +kernel
theorem d8_56 : decode prog_36_method_22_code 56 = .ok (.iastore, 1) := by decide +kernel
theorem d8_57 : decode prog_36_method_22_code 57 = .ok (.aload_n 0, 1) := by decide +kernel
theorem d8_58 : decode prog_36_method_22_code 58 = .ok (.iload_n 1, 1) := by decide +kernel
theorem d8_59 : decode prog_36_method_22_code 59 = .ok (.iconst 1, 1) := by decide +kernel
theorem d8_60 : decode prog_36_method_22_code 60 = .ok (.iadd, 1) := by decide +kernel
theorem pd_1 : parseMethodDescriptor "(I)V" = some ⟨[.int], none⟩ := by decide +kernel
theorem d8_61 : decode prog_36_method_22_code 61 = .ok (.invokevirtual 135, 3) := by decide +kernel
theorem d8_64 : decode prog_36_method_22_code 64 = .ok (.aload_n 0, 1) := by decide +kernel
theorem d8_65 : decode prog_36_method_22_code 65 = .ok (.iload_n 1, 1) := by decide +kernel
theorem d8_66 : decode prog_36_method_22_code 66 = .ok (.iconst 1, 1) := by decide +kernel
theorem d8_67 : decode prog_36_method_22_code 67 = .ok (.iadd, 1) := by decide +kernel
theorem d8_68 : decode prog_36_method_22_code 68 = .ok (.putfield 35, 3) := by decide +kernel
theorem d8_71 : decode prog_36_method_22_code 71 = .ok (.iconst 1, 1) := by decide +kernel
theorem d8_72 : decode prog_36_method_22_code 72 = .ok (.ireturn, 1) := by decide +kernel
def Qav2A (Z : State) (va : Addr) (th : Addr) (tv : Addr) (q0 : Int32) (q1 : Int32) (r0 : Int32) (r1 : Int32) (h0 : Heap) (n0 : Nat) (v : Option Value) (h : Heap) (L : List Loc) : Prop := v = some (.int (1 : Int32)) ∧ Fr n0 L ∧ Keep h0 h [va, tv] ∧ Fld Z h va "com/example/deferra/deferra/engine/Trail" "fromTrace" "Z" (.int (0 : Int32)) ∧ Fld Z h va "com/example/deferra/deferra/engine/Trail" "size" "I" (.int (2 : Int32)) ∧ Fld Z h va "com/example/deferra/deferra/engine/Trail" "values" "[I" (.ref tv) ∧ Fld Z h va "com/example/deferra/deferra/engine/Trail" "highs" "[I" (.ref th) ∧ Fld Z h va "com/example/deferra/deferra/engine/Trail" "saved" "[[Lcom/example/deferra/deferra/engine/Identities;" .null ∧ Ary Z h tv .int [(.int r0), (.int (r1 + (1 : Int32))), (.int (0 : Int32)), (.int (0 : Int32)), (.int (0 : Int32)), (.int (0 : Int32)), (.int (0 : Int32)), (.int (0 : Int32)), (.int (0 : Int32)), (.int (0 : Int32)), (.int (0 : Int32)), (.int (0 : Int32)), (.int (0 : Int32)), (.int (0 : Int32)), (.int (0 : Int32)), (.int (0 : Int32))]
set_option maxRecDepth 65536 in
set_option maxHeartbeats 40000000 in
theorem rmav2A (l : Launch) (Z : State) (a0 : Array Value) (hw : ∀ d ∈ tables_1, d.before a0 Z = true) (ws : List Jvm.Cond) (va : Addr) (th : Addr) (tv : Addr) (q0 : Int32) (q1 : Int32) (r0 : Int32) (r1 : Int32) (h0 : Heap) (n0 : Nat) (Z0 : n0 ≤ h0.size) (E_va : Exa Z h0 va "com/example/deferra/deferra/engine/Trail") (F_fromTrace_va : Fld Z h0 va "com/example/deferra/deferra/engine/Trail" "fromTrace" "Z" (.int (0 : Int32))) (F_size_va : Fld Z h0 va "com/example/deferra/deferra/engine/Trail" "size" "I" (.int (2 : Int32))) (F_values_va : Fld Z h0 va "com/example/deferra/deferra/engine/Trail" "values" "[I" (.ref tv)) (F_highs_va : Fld Z h0 va "com/example/deferra/deferra/engine/Trail" "highs" "[I" (.ref th)) (F_saved_va : Fld Z h0 va "com/example/deferra/deferra/engine/Trail" "saved" "[[Lcom/example/deferra/deferra/engine/Identities;" .null) (V_th : Ary Z h0 th .int [(.int q0), (.int q1), (.int (0 : Int32)), (.int (0 : Int32)), (.int (0 : Int32)), (.int (0 : Int32)), (.int (0 : Int32)), (.int (0 : Int32)), (.int (0 : Int32)), (.int (0 : Int32)), (.int (0 : Int32)), (.int (0 : Int32)), (.int (0 : Int32)), (.int (0 : Int32)), (.int (0 : Int32)), (.int (0 : Int32))]) (V_tv : Ary Z h0 tv .int [(.int r0), (.int r1), (.int (0 : Int32)), (.int (0 : Int32)), (.int (0 : Int32)), (.int (0 : Int32)), (.int (0 : Int32)), (.int (0 : Int32)), (.int (0 : Int32)), (.int (0 : Int32)), (.int (0 : Int32)), (.int (0 : Int32)), (.int (0 : Int32)), (.int (0 : Int32)), (.int (0 : Int32)), (.int (0 : Int32))]) (g_va : n0 ≤ va) (g_tv : n0 ≤ tv) (ne_va_tv : va ≠ tv) (ne_va_th : va ≠ th) (ne_th_tv : th ≠ tv) (hA : ¬ (r1 = q1)) :
    MetFree l (⟨"com/example/deferra/deferra/engine/Trail", "advance", "()Z"⟩ : MethodName) (head1 (Jvm.Cond.code (⟨"com/example/deferra/deferra/engine/Trail", "advance", "()Z"⟩ : MethodName) prog_36_method_22_code 2 (some .boolean) :: ws) ({ frames := 1, cells := 0, slots := 0, locals := 13 } : Room)) (fun a U => a = #[(.ref va)] ∧ Z.Warmed39 U.vm ∧ U.heap = h0) (fun _ _ _ _ _ => True) (fun _ U o U' => ∃ v L, o = .returned v ∧ Qav2A Z va th tv q0 q1 r0 r1 h0 n0 v U'.heap L ∧ FrameEnd U o U' L 0 0) := by
  refine MetFree.of_bodySF (plainFor_of_name pn_8) hisR ?_
  intro p e s m args below meth c s₁ Bd hml0 hP hK
  obtain ⟨rfl, hZ, hh⟩ := hP
  have hx := Bd.exec
  have hby := Bd.bytes
  have hml : c.maxLocals = 2 := hml0
  have hown : s.vm.findClass "com/example/deferra/deferra/engine/Trail" = some m.cls := findClass_of_methodNamed Bd.named
  have hnm := (name_of_methodNamed Bd.named Bd.method).1
  have X0 : Stand p l e ({ frames := 1, cells := 0, slots := 0, locals := 13 } : Room) s m #[(.ref va)] below meth c s₁ [] 0 0 := Stand.of_body Bd
  have e0 : s₁.heap = h0 := by rw [← hh, Bd.state]; rfl
  have N0 := Fr.nil n0
  have hlk : meth.locks = false := BodyLoose.notSynchronized Bd
  show Goal p e below s (Qav2A Z va th tv q0 q1 r0 r1 h0 n0) 0 0 (s₁.setTop (entryFrame m #[(.ref va)] 2))
  refine Goal.to (B := s₁.setTop (mkF m 0 #[.val (.ref va), .unset] [])) (fun tt kk => castTop (ef_8 m va ) kk) ?_
  refine Goal.to (B := s₁.setTop (mkF m 1 #[.val (.ref va), .unset] [(.ref va)])) (fun tt kk => ?_) ?_
  · show Steps p.tables e below (s₁.setTop (mkF m 0 #[.val (.ref va), .unset] [])) tt
    refine XS.aloadN X0.here hx rfl (hb hby d8_0) rfl rfl ?_
    exact kk
  obtain ⟨T1, X1, e1, st1⟩ := getF X0 hx hZ hown (host := "") (Or.inl (hw _ (mw 25 rfl))) Via.refl e0 F_fromTrace_va (g := (mkF m 1 #[.val (.ref va), .unset] [(.ref va)])) rfl rfl (hb hby d8_1)
  refine Goal.to (B := T1.setTop (mkF m 4 #[.val (.ref va), .unset] [(.int (0 : Int32))])) st1 ?_
  refine Goal.to (B := T1.setTop (mkF m 10 #[.val (.ref va), .unset] [(.ref va)])) (fun tt kk => ?_) ?_
  · show Steps p.tables e below (T1.setTop (mkF m 4 #[.val (.ref va), .unset] [(.int (0 : Int32))])) tt
    refine XS.ifYes X1.here hx rfl (pc0 := 4) (pc' := 9) rfl (hb hby d8_4) rfl ((if0 _ _).trans (teq (rfl : (0 : Int32) = (0 : Int32))).1) (by decide) (by decide) ?_
    show Steps p.tables e below (T1.setTop (mkF m 9 #[.val (.ref va), .unset] [])) tt
    refine XS.aloadN X1.here hx rfl (hb hby d8_9) rfl rfl ?_
    exact kk
  obtain ⟨T2, X2, e2, st2⟩ := getF X1 hx hZ hown (host := "") (Or.inl (hw _ (mw 36 rfl))) Via.refl e1 F_size_va (g := (mkF m 10 #[.val (.ref va), .unset] [(.ref va)])) rfl rfl (hb hby d8_10)
  refine Goal.to (B := T2.setTop (mkF m 13 #[.val (.ref va), .unset] [(.int (2 : Int32))])) st2 ?_
  refine Goal.to (B := T2.setTop (mkF m 21 #[.val (.ref va), .val (.int (1 : Int32))] [(.ref va)])) (fun tt kk => ?_) ?_
  · show Steps p.tables e below (T2.setTop (mkF m 13 #[.val (.ref va), .unset] [(.int (2 : Int32))])) tt
    refine XS.iconst X2.here hx rfl (hb hby d8_13) ?_
    show Steps p.tables e below (T2.setTop (mkF m 14 #[.val (.ref va), .unset] [(.int (1 : Int32)), (.int (2 : Int32))])) tt
    refine XS.isub X2.here hx rfl (hb hby d8_14) rfl ?_
    show Steps p.tables e below (T2.setTop (mkF m 15 #[.val (.ref va), .unset] [(.int (1 : Int32))])) tt
    refine XS.istoreN X2.here hx rfl (hb hby d8_15) rfl (l' := #[.val (.ref va), .val (.int (1 : Int32))]) rfl ?_
    show Steps p.tables e below (T2.setTop (mkF m 16 #[.val (.ref va), .val (.int (1 : Int32))] [])) tt
    refine XS.iloadN X2.here hx rfl (hb hby d8_16) rfl ?_
    show Steps p.tables e below (T2.setTop (mkF m 17 #[.val (.ref va), .val (.int (1 : Int32))] [(.int (1 : Int32))])) tt
    refine XS.ifNo X2.here hx rfl (hb hby d8_17) rfl ((if0 _ _).trans (flt ((by decide) : ¬ ((1 : Int32) < (0 : Int32)))).1) ?_
    show Steps p.tables e below (T2.setTop (mkF m 20 #[.val (.ref va), .val (.int (1 : Int32))] [])) tt
    refine XS.aloadN X2.here hx rfl (hb hby d8_20) rfl rfl ?_
    exact kk
  obtain ⟨T3, X3, e3, st3⟩ := getF X2 hx hZ hown (host := "") (Or.inl (hw _ (mw 21 rfl))) Via.refl e2 F_values_va (g := (mkF m 21 #[.val (.ref va), .val (.int (1 : Int32))] [(.ref va)])) rfl rfl (hb hby d8_21)
  refine Goal.to (B := T3.setTop (mkF m 24 #[.val (.ref va), .val (.int (1 : Int32))] [(.ref tv)])) st3 ?_
  refine Goal.to (B := T3.setTop (mkF m 25 #[.val (.ref va), .val (.int (1 : Int32))] [(.int (1 : Int32)), (.ref tv)])) (fun tt kk => ?_) ?_
  · show Steps p.tables e below (T3.setTop (mkF m 24 #[.val (.ref va), .val (.int (1 : Int32))] [(.ref tv)])) tt
    refine XS.iloadN X3.here hx rfl (hb hby d8_24) rfl ?_
    exact kk
  obtain ⟨cl4, Ar4, Sl4⟩ := id V_tv
  have hin4 := inA (cl := cl4) Sl4 (j := (1 : Int32)) (by decide) (Nat.le_of_ble_eq_true rfl)
  have hat4 : cl4.slots[((1 : Int32)).toNatClampNeg]? = some (.int r1) := atA Sl4 rfl
  refine Goal.to (B := T3.setTop (mkF m 27 #[.val (.ref va), .val (.int (1 : Int32))] [(.ref va), (.int r1)])) (fun tt kk => ?_) ?_
  · show Steps p.tables e below (T3.setTop (mkF m 25 #[.val (.ref va), .val (.int (1 : Int32))] [(.int (1 : Int32)), (.ref tv)])) tt
    refine X3.iaload hx (j := (1 : Int32)) (v := (.int r1)) (by rw [e3]; exact Ar4.1) (State.isArrayOf_alike hZ.alike Ar4.2.1) Ar4.2.2 hin4 hat4 (g := (mkF m 25 #[.val (.ref va), .val (.int (1 : Int32))] [(.int (1 : Int32)), (.ref tv)])) rfl rfl (hb hby d8_25) _ ?_
    show Steps p.tables e below (T3.setTop (mkF m 26 #[.val (.ref va), .val (.int (1 : Int32))] [(.int r1)])) tt
    refine XS.aloadN X3.here hx rfl (hb hby d8_26) rfl rfl ?_
    exact kk
  obtain ⟨T5, X5, e5, st5⟩ := getF X3 hx hZ hown (host := "") (Or.inl (hw _ (mw 19 rfl))) Via.refl e3 F_highs_va (g := (mkF m 27 #[.val (.ref va), .val (.int (1 : Int32))] [(.ref va), (.int r1)])) rfl rfl (hb hby d8_27)
  refine Goal.to (B := T5.setTop (mkF m 30 #[.val (.ref va), .val (.int (1 : Int32))] [(.ref th), (.int r1)])) st5 ?_
  refine Goal.to (B := T5.setTop (mkF m 31 #[.val (.ref va), .val (.int (1 : Int32))] [(.int (1 : Int32)), (.ref th), (.int r1)])) (fun tt kk => ?_) ?_
  · show Steps p.tables e below (T5.setTop (mkF m 30 #[.val (.ref va), .val (.int (1 : Int32))] [(.ref th), (.int r1)])) tt
    refine XS.iloadN X5.here hx rfl (hb hby d8_30) rfl ?_
    exact kk
  obtain ⟨cl6, Ar6, Sl6⟩ := id V_th
  have hin6 := inA (cl := cl6) Sl6 (j := (1 : Int32)) (by decide) (Nat.le_of_ble_eq_true rfl)
  have hat6 : cl6.slots[((1 : Int32)).toNatClampNeg]? = some (.int q1) := atA Sl6 rfl
  refine Goal.to (B := T5.setTop (mkF m 48 #[.val (.ref va), .val (.int (1 : Int32))] [(.ref va)])) (fun tt kk => ?_) ?_
  · show Steps p.tables e below (T5.setTop (mkF m 31 #[.val (.ref va), .val (.int (1 : Int32))] [(.int (1 : Int32)), (.ref th), (.int r1)])) tt
    refine X5.iaload hx (j := (1 : Int32)) (v := (.int q1)) (by rw [e5]; exact Ar6.1) (State.isArrayOf_alike hZ.alike Ar6.2.1) Ar6.2.2 hin6 hat6 (g := (mkF m 31 #[.val (.ref va), .val (.int (1 : Int32))] [(.int (1 : Int32)), (.ref th), (.int r1)])) rfl rfl (hb hby d8_31) _ ?_
    show Steps p.tables e below (T5.setTop (mkF m 32 #[.val (.ref va), .val (.int (1 : Int32))] [(.int q1), (.int r1)])) tt
    refine XS.icmpYes X5.here hx rfl (pc0 := 32) (pc' := 41) rfl (hb hby d8_32) rfl (feq hA).2 (by decide) (by decide) ?_
    show Steps p.tables e below (T5.setTop (mkF m 41 #[.val (.ref va), .val (.int (1 : Int32))] [])) tt
    refine XS.iloadN X5.here hx rfl (hb hby d8_41) rfl ?_
    show Steps p.tables e below (T5.setTop (mkF m 42 #[.val (.ref va), .val (.int (1 : Int32))] [(.int (1 : Int32))])) tt
    refine XS.ifYes X5.here hx rfl (pc0 := 42) (pc' := 47) rfl (hb hby d8_42) rfl ((if0 _ _).trans (flt ((by decide) : ¬ ((1 : Int32) < (0 : Int32)))).2.1) (by decide) (by decide) ?_
    show Steps p.tables e below (T5.setTop (mkF m 47 #[.val (.ref va), .val (.int (1 : Int32))] [])) tt
    refine XS.aloadN X5.here hx rfl (hb hby d8_47) rfl rfl ?_
    exact kk
  obtain ⟨T7, X7, e7, st7⟩ := getF X5 hx hZ hown (host := "") (Or.inl (hw _ (mw 21 rfl))) Via.refl e5 F_values_va (g := (mkF m 48 #[.val (.ref va), .val (.int (1 : Int32))] [(.ref va)])) rfl rfl (hb hby d8_48)
  refine Goal.to (B := T7.setTop (mkF m 51 #[.val (.ref va), .val (.int (1 : Int32))] [(.ref tv)])) st7 ?_
  refine Goal.to (B := T7.setTop (mkF m 53 #[.val (.ref va), .val (.int (1 : Int32))] [(.int (1 : Int32)), (.ref tv), (.int (1 : Int32)), (.ref tv)])) (fun tt kk => ?_) ?_
  · show Steps p.tables e below (T7.setTop (mkF m 51 #[.val (.ref va), .val (.int (1 : Int32))] [(.ref tv)])) tt
    refine XS.iloadN X7.here hx rfl (hb hby d8_51) rfl ?_
    show Steps p.tables e below (T7.setTop (mkF m 52 #[.val (.ref va), .val (.int (1 : Int32))] [(.int (1 : Int32)), (.ref tv)])) tt
    refine Jvm.Free.XT.dup2 X7.here hx rfl (hb hby d8_52) rfl rfl rfl ?_
    exact kk
  obtain ⟨cl8, Ar8, Sl8⟩ := id V_tv
  have hin8 := inA (cl := cl8) Sl8 (j := (1 : Int32)) (by decide) (Nat.le_of_ble_eq_true rfl)
  have hat8 : cl8.slots[((1 : Int32)).toNatClampNeg]? = some (.int r1) := atA Sl8 rfl
  refine Goal.to (B := T7.setTop (mkF m 56 #[.val (.ref va), .val (.int (1 : Int32))] [(.int (r1 + (1 : Int32))), (.int (1 : Int32)), (.ref tv)])) (fun tt kk => ?_) ?_
  · show Steps p.tables e below (T7.setTop (mkF m 53 #[.val (.ref va), .val (.int (1 : Int32))] [(.int (1 : Int32)), (.ref tv), (.int (1 : Int32)), (.ref tv)])) tt
    refine X7.iaload hx (j := (1 : Int32)) (v := (.int r1)) (by rw [e7]; exact Ar8.1) (State.isArrayOf_alike hZ.alike Ar8.2.1) Ar8.2.2 hin8 hat8 (g := (mkF m 53 #[.val (.ref va), .val (.int (1 : Int32))] [(.int (1 : Int32)), (.ref tv), (.int (1 : Int32)), (.ref tv)])) rfl rfl (hb hby d8_53) _ ?_
    show Steps p.tables e below (T7.setTop (mkF m 54 #[.val (.ref va), .val (.int (1 : Int32))] [(.int r1), (.int (1 : Int32)), (.ref tv)])) tt
    refine XS.iconst X7.here hx rfl (hb hby d8_54) ?_
    show Steps p.tables e below (T7.setTop (mkF m 55 #[.val (.ref va), .val (.int (1 : Int32))] [(.int (1 : Int32)), (.int r1), (.int (1 : Int32)), (.ref tv)])) tt
    refine XS.iadd X7.here hx rfl (hb hby d8_55) rfl ?_
    exact kk
  obtain ⟨cl9, Ar9, Sl9⟩ := id V_tv
  have hin9 := inA (cl := cl9) Sl9 (j := (1 : Int32)) (by decide) (Nat.le_of_ble_eq_true rfl)
  obtain ⟨T9, h9, X9, e9, W9, st9⟩ := stI X7 hx hZ e7 Ar9 (j := (1 : Int32)) hin9 (g := (mkF m 56 #[.val (.ref va), .val (.int (1 : Int32))] [(.int (r1 + (1 : Int32))), (.int (1 : Int32)), (.ref tv)])) rfl rfl (hb hby d8_56)
  have V9 : Ary Z h9 tv .int [(.int r0), (.int (r1 + (1 : Int32))), (.int (0 : Int32)), (.int (0 : Int32)), (.int (0 : Int32)), (.int (0 : Int32)), (.int (0 : Int32)), (.int (0 : Int32)), (.int (0 : Int32)), (.int (0 : Int32)), (.int (0 : Int32)), (.int (0 : Int32)), (.int (0 : Int32)), (.int (0 : Int32)), (.int (0 : Int32)), (.int (0 : Int32))] := Ary.put Ar9 Sl9 W9 rfl
  have N9 := Fr.snoc X9 N0 g_tv
  refine Goal.to (B := T9.setTop (mkF m 57 #[.val (.ref va), .val (.int (1 : Int32))] [])) st9 ?_
  refine Goal.to (B := T9.setTop (mkF m 61 #[.val (.ref va), .val (.int (1 : Int32))] [(.int (2 : Int32)), (.ref va)])) (fun tt kk => ?_) ?_
  · show Steps p.tables e below (T9.setTop (mkF m 57 #[.val (.ref va), .val (.int (1 : Int32))] [])) tt
    refine XS.aloadN X9.here hx rfl (hb hby d8_57) rfl rfl ?_
    show Steps p.tables e below (T9.setTop (mkF m 58 #[.val (.ref va), .val (.int (1 : Int32))] [(.ref va)])) tt
    refine XS.iloadN X9.here hx rfl (hb hby d8_58) rfl ?_
    show Steps p.tables e below (T9.setTop (mkF m 59 #[.val (.ref va), .val (.int (1 : Int32))] [(.int (1 : Int32)), (.ref va)])) tt
    refine XS.iconst X9.here hx rfl (hb hby d8_59) ?_
    show Steps p.tables e below (T9.setTop (mkF m 60 #[.val (.ref va), .val (.int (1 : Int32))] [(.int (1 : Int32)), (.int (1 : Int32)), (.ref va)])) tt
    refine XS.iadd X9.here hx rfl (hb hby d8_60) rfl ?_
    exact kk
  have f10 : Fld Z h9 va "com/example/deferra/deferra/engine/Trail" "saved" "[[Lcom/example/deferra/deferra/engine/Identities;" .null := (F_saved_va.other W9 (Or.inl ne_va_tv))
  have f11 : n0 ≤ h9.size := (Nat.le_trans Z0 (Keep.of_wr W9).1)
  have f13 : Exa Z h9 va "com/example/deferra/deferra/engine/Trail" := (E_va.wr W9)
  obtain ⟨cq12, q12, q12'⟩ := f13.cell
  obtain ⟨_, _, ⟨T12, L12, k12, n12⟩, -, X12, ⟨Lc12, hQ12, l12, y12, z12⟩, st12⟩ := X9.privateBack hx (y := (⟨"com/example/deferra/deferra/engine/Trail", "forget", "(I)V"⟩ : MethodName)) hown (mvT hZ (hw _ (mw 55 rfl))) (mvT hZ (hw _ (mw 56 rfl))) (selP hZ (hw _ (mw 8 rfl)) (hw _ (mw 57 rfl)) (hw _ (mw 56 rfl)) (by decide)) (Cond.privateMethod_at (mvP hZ (hw _ (mw 57 rfl)) (args := #[]))) (mvT hZ (hw _ (mw 58 rfl))) (by decide) (backOf (W := 0) (rmfg l Z a0 hw [] va (2 : Int32) h9 n0 f11 f10) hZ (hw _ (mw 58 rfl)) (hw _ (mw 9 rfl)) (by decide) (by decide)) (g := (mkF m 61 #[.val (.ref va), .val (.int (1 : Int32))] [(.int (2 : Int32)), (.ref va)])) rfl (by rw [hml]; rfl) (Steps.refl _) (a := va) (by rw [e9]; exact q12) q12' (argsL := [(.int (2 : Int32))]) (rest := []) (lenOf pd_1 rfl) rfl (by show 2 * 0 + _ ≤ _; exact Nat.le_of_eq rfl) (hb hby d8_61) (fun _ _ => ⟨rfl, e9, (by decide : 0 + 0 ≤ _), (by decide : 0 + 0 ≤ _)⟩)
  dsimp only [Pt.U, Pt.locs, Pt.cells, Pt.slots] at X12 l12 y12 z12 st12 hQ12
  subst l12 y12 z12
  obtain ⟨rfl, N12q, e12⟩ := hQ12
  have N12 := Fr.app N9 N12q
  refine Goal.tr (B := T12.setTop (mkF m 64 #[.val (.ref va), .val (.int (1 : Int32))] [])) st12 ?_
  refine Goal.to (B := T12.setTop (mkF m 68 #[.val (.ref va), .val (.int (1 : Int32))] [(.int (2 : Int32)), (.ref va)])) (fun tt kk => ?_) ?_
  · show Steps p.tables e below (T12.setTop (mkF m 64 #[.val (.ref va), .val (.int (1 : Int32))] [])) tt
    refine XS.aloadN X12.here hx rfl (hb hby d8_64) rfl rfl ?_
    show Steps p.tables e below (T12.setTop (mkF m 65 #[.val (.ref va), .val (.int (1 : Int32))] [(.ref va)])) tt
    refine XS.iloadN X12.here hx rfl (hb hby d8_65) rfl ?_
    show Steps p.tables e below (T12.setTop (mkF m 66 #[.val (.ref va), .val (.int (1 : Int32))] [(.int (1 : Int32)), (.ref va)])) tt
    refine XS.iconst X12.here hx rfl (hb hby d8_66) ?_
    show Steps p.tables e below (T12.setTop (mkF m 67 #[.val (.ref va), .val (.int (1 : Int32))] [(.int (1 : Int32)), (.int (1 : Int32)), (.ref va)])) tt
    refine XS.iadd X12.here hx rfl (hb hby d8_67) rfl ?_
    exact kk
  have f14 : Fld Z h9 va "com/example/deferra/deferra/engine/Trail" "size" "I" (.int (2 : Int32)) := (F_size_va.other W9 (Or.inl ne_va_tv))
  obtain ⟨T15, h15, X15, e15, W15, st15⟩ := putF X12 hx hZ hown (host := "") (Or.inl (hw _ (mw 36 rfl))) Via.refl e12 f14 f13 (Or.inl (hw _ (mw 37 rfl))) (hw _ (mw 8 rfl)) (ty := .int) (by decide) rfl rfl (g := (mkF m 68 #[.val (.ref va), .val (.int (1 : Int32))] [(.int (2 : Int32)), (.ref va)])) rfl rfl (hb hby d8_68)
  have Fw15 : Fld Z h15 va "com/example/deferra/deferra/engine/Trail" "size" "I" (.int (2 : Int32)) := f14.same W15
  have N15 := Fr.snoc X15 N12 g_va
  refine Goal.to (B := T15.setTop (mkF m 71 #[.val (.ref va), .val (.int (1 : Int32))] [])) st15 ?_
  refine Goal.to (B := T15.setTop (mkF m 72 #[.val (.ref va), .val (.int (1 : Int32))] [(.int (1 : Int32))])) (fun tt kk => ?_) ?_
  · show Steps p.tables e below (T15.setTop (mkF m 71 #[.val (.ref va), .val (.int (1 : Int32))] [])) tt
    refine XS.iconst X15.here hx rfl (hb hby d8_71) ?_
    exact kk
  have f16 : Keep h0 h15 [va, tv] := (((Keep.refl h0 [va, tv]).wr W9 (Or.inl (List.mem_of_getElem? (i := 1) rfl))).wr W15 (Or.inl (List.mem_of_getElem? (i := 0) rfl)))
  have f17 : Fld Z h15 va "com/example/deferra/deferra/engine/Trail" "fromTrace" "Z" (.int (0 : Int32)) := ((F_fromTrace_va.other W9 (Or.inl ne_va_tv)).other W15 (Or.inr (slot_ne (Or.inr (hw _ (mw 26 rfl))) (Or.inl (hw _ (mw 37 rfl))) (by decide) (t := .boolean) (t' := .int) (by decide) (by decide))))
  have f18 : Fld Z h15 va "com/example/deferra/deferra/engine/Trail" "values" "[I" (.ref tv) := ((F_values_va.other W9 (Or.inl ne_va_tv)).other W15 (Or.inr (slot_ne (Or.inl (hw _ (mw 22 rfl))) (Or.inl (hw _ (mw 37 rfl))) (by decide) (t := (.array .int)) (t' := .int) (by decide) (by decide))))
  have f19 : Fld Z h15 va "com/example/deferra/deferra/engine/Trail" "highs" "[I" (.ref th) := ((F_highs_va.other W9 (Or.inl ne_va_tv)).other W15 (Or.inr (slot_ne (Or.inl (hw _ (mw 20 rfl))) (Or.inl (hw _ (mw 37 rfl))) (by decide) (t := (.array .int)) (t' := .int) (by decide) (by decide))))
  have f20 : Fld Z h15 va "com/example/deferra/deferra/engine/Trail" "saved" "[[Lcom/example/deferra/deferra/engine/Identities;" .null := (f10.other W15 (Or.inr (slot_ne (Or.inl (hw _ (mw 60 rfl))) (Or.inl (hw _ (mw 37 rfl))) (by decide) (t := (.array (.array (.object "com/example/deferra/deferra/engine/Identities")))) (t' := .int) (by decide) (by decide))))
  have f21 : Ary Z h15 tv .int [(.int r0), (.int (r1 + (1 : Int32))), (.int (0 : Int32)), (.int (0 : Int32)), (.int (0 : Int32)), (.int (0 : Int32)), (.int (0 : Int32)), (.int (0 : Int32)), (.int (0 : Int32)), (.int (0 : Int32)), (.int (0 : Int32)), (.int (0 : Int32)), (.int (0 : Int32)), (.int (0 : Int32)), (.int (0 : Int32)), (.int (0 : Int32))] := (V9.other W15 (Ne.symm ne_va_tv))
  exact Goal.retV X15 hx Bd.returns rfl (Or.inl ⟨rfl, Or.inr (Or.inl rfl), _, rfl⟩) (hb hby d8_72) hlk e15 ⟨rfl, N15, f16, f17, Fw15, f18, f19, f20, f21⟩ (by decide) (by decide)
theorem d8_35 : decode prog_36_method_22_code 35 = .ok (.iinc 1 (-1), 3) := by decide +kernel
theorem d8_38 : decode prog_36_method_22_code 38 = .ok (.goto (-22), 3) := by decide +kernel
def Qav2B (Z : State) (va : Addr) (th : Addr) (tv : Addr) (q0 : Int32) (q1 : Int32) (r0 : Int32) (r1 : Int32) (h0 : Heap) (n0 : Nat) (v : Option Value) (h : Heap) (L : List Loc) : Prop := v = some (.int (1 : Int32)) ∧ Fr n0 L ∧ Keep h0 h [va, tv] ∧ Fld Z h va "com/example/deferra/deferra/engine/Trail" "fromTrace" "Z" (.int (0 : Int32)) ∧ Fld Z h va "com/example/deferra/deferra/engine/Trail" "size" "I" (.int (1 : Int32)) ∧ Fld Z h va "com/example/deferra/deferra/engine/Trail" "values" "[I" (.ref tv) ∧ Fld Z h va "com/example/deferra/deferra/engine/Trail" "highs" "[I" (.ref th) ∧ Fld Z h va "com/example/deferra/deferra/engine/Trail" "saved" "[[Lcom/example/deferra/deferra/engine/Identities;" .null ∧ Ary Z h tv .int [(.int (r0 + (1 : Int32))), (.int r1), (.int (0 : Int32)), (.int (0 : Int32)), (.int (0 : Int32)), (.int (0 : Int32)), (.int (0 : Int32)), (.int (0 : Int32)), (.int (0 : Int32)), (.int (0 : Int32)), (.int (0 : Int32)), (.int (0 : Int32)), (.int (0 : Int32)), (.int (0 : Int32)), (.int (0 : Int32)), (.int (0 : Int32))]
set_option maxRecDepth 65536 in
set_option maxHeartbeats 40000000 in
theorem rmav2B (l : Launch) (Z : State) (a0 : Array Value) (hw : ∀ d ∈ tables_1, d.before a0 Z = true) (ws : List Jvm.Cond) (va : Addr) (th : Addr) (tv : Addr) (q0 : Int32) (q1 : Int32) (r0 : Int32) (r1 : Int32) (h0 : Heap) (n0 : Nat) (Z0 : n0 ≤ h0.size) (E_va : Exa Z h0 va "com/example/deferra/deferra/engine/Trail") (F_fromTrace_va : Fld Z h0 va "com/example/deferra/deferra/engine/Trail" "fromTrace" "Z" (.int (0 : Int32))) (F_size_va : Fld Z h0 va "com/example/deferra/deferra/engine/Trail" "size" "I" (.int (2 : Int32))) (F_values_va : Fld Z h0 va "com/example/deferra/deferra/engine/Trail" "values" "[I" (.ref tv)) (F_highs_va : Fld Z h0 va "com/example/deferra/deferra/engine/Trail" "highs" "[I" (.ref th)) (F_saved_va : Fld Z h0 va "com/example/deferra/deferra/engine/Trail" "saved" "[[Lcom/example/deferra/deferra/engine/Identities;" .null) (V_th : Ary Z h0 th .int [(.int q0), (.int q1), (.int (0 : Int32)), (.int (0 : Int32)), (.int (0 : Int32)), (.int (0 : Int32)), (.int (0 : Int32)), (.int (0 : Int32)), (.int (0 : Int32)), (.int (0 : Int32)), (.int (0 : Int32)), (.int (0 : Int32)), (.int (0 : Int32)), (.int (0 : Int32)), (.int (0 : Int32)), (.int (0 : Int32))]) (V_tv : Ary Z h0 tv .int [(.int r0), (.int r1), (.int (0 : Int32)), (.int (0 : Int32)), (.int (0 : Int32)), (.int (0 : Int32)), (.int (0 : Int32)), (.int (0 : Int32)), (.int (0 : Int32)), (.int (0 : Int32)), (.int (0 : Int32)), (.int (0 : Int32)), (.int (0 : Int32)), (.int (0 : Int32)), (.int (0 : Int32)), (.int (0 : Int32))]) (g_va : n0 ≤ va) (g_tv : n0 ≤ tv) (ne_va_tv : va ≠ tv) (ne_va_th : va ≠ th) (ne_th_tv : th ≠ tv) (hA : r1 = q1) (hB : ¬ (r0 = q0)) :
    MetFree l (⟨"com/example/deferra/deferra/engine/Trail", "advance", "()Z"⟩ : MethodName) (head1 (Jvm.Cond.code (⟨"com/example/deferra/deferra/engine/Trail", "advance", "()Z"⟩ : MethodName) prog_36_method_22_code 2 (some .boolean) :: ws) ({ frames := 1, cells := 0, slots := 0, locals := 13 } : Room)) (fun a U => a = #[(.ref va)] ∧ Z.Warmed39 U.vm ∧ U.heap = h0) (fun _ _ _ _ _ => True) (fun _ U o U' => ∃ v L, o = .returned v ∧ Qav2B Z va th tv q0 q1 r0 r1 h0 n0 v U'.heap L ∧ FrameEnd U o U' L 0 0) := by
  refine MetFree.of_bodySF (plainFor_of_name pn_8) hisR ?_
  intro p e s m args below meth c s₁ Bd hml0 hP hK
  obtain ⟨rfl, hZ, hh⟩ := hP
  have hx := Bd.exec
  have hby := Bd.bytes
  have hml : c.maxLocals = 2 := hml0
  have hown : s.vm.findClass "com/example/deferra/deferra/engine/Trail" = some m.cls := findClass_of_methodNamed Bd.named
  have hnm := (name_of_methodNamed Bd.named Bd.method).1
  have X0 : Stand p l e ({ frames := 1, cells := 0, slots := 0, locals := 13 } : Room) s m #[(.ref va)] below meth c s₁ [] 0 0 := Stand.of_body Bd
  have e0 : s₁.heap = h0 := by rw [← hh, Bd.state]; rfl
  have N0 := Fr.nil n0
  have hlk : meth.locks = false := BodyLoose.notSynchronized Bd
  show Goal p e below s (Qav2B Z va th tv q0 q1 r0 r1 h0 n0) 0 0 (s₁.setTop (entryFrame m #[(.ref va)] 2))
  refine Goal.to (B := s₁.setTop (mkF m 0 #[.val (.ref va), .unset] [])) (fun tt kk => castTop (ef_8 m va ) kk) ?_
  refine Goal.to (B := s₁.setTop (mkF m 1 #[.val (.ref va), .unset] [(.ref va)])) (fun tt kk => ?_) ?_
  · show Steps p.tables e below (s₁.setTop (mkF m 0 #[.val (.ref va), .unset] [])) tt
    refine XS.aloadN X0.here hx rfl (hb hby d8_0) rfl rfl ?_
    exact kk
  obtain ⟨T1, X1, e1, st1⟩ := getF X0 hx hZ hown (host := "") (Or.inl (hw _ (mw 25 rfl))) Via.refl e0 F_fromTrace_va (g := (mkF m 1 #[.val (.ref va), .unset] [(.ref va)])) rfl rfl (hb hby d8_1)
  refine Goal.to (B := T1.setTop (mkF m 4 #[.val (.ref va), .unset] [(.int (0 : Int32))])) st1 ?_
  refine Goal.to (B := T1.setTop (mkF m 10 #[.val (.ref va), .unset] [(.ref va)])) (fun tt kk => ?_) ?_
  · show Steps p.tables e below (T1.setTop (mkF m 4 #[.val (.ref va), .unset] [(.int (0 : Int32))])) tt
    refine XS.ifYes X1.here hx rfl (pc0 := 4) (pc' := 9) rfl (hb hby d8_4) rfl ((if0 _ _).trans (teq (rfl : (0 : Int32) = (0 : Int32))).1) (by decide) (by decide) ?_
    show Steps p.tables e below (T1.setTop (mkF m 9 #[.val (.ref va), .unset] [])) tt
    refine XS.aloadN X1.here hx rfl (hb hby d8_9) rfl rfl ?_
    exact kk
  obtain ⟨T2, X2, e2, st2⟩ := getF X1 hx hZ hown (host := "") (Or.inl (hw _ (mw 36 rfl))) Via.refl e1 F_size_va (g := (mkF m 10 #[.val (.ref va), .unset] [(.ref va)])) rfl rfl (hb hby d8_10)
  refine Goal.to (B := T2.setTop (mkF m 13 #[.val (.ref va), .unset] [(.int (2 : Int32))])) st2 ?_
  refine Goal.to (B := T2.setTop (mkF m 21 #[.val (.ref va), .val (.int (1 : Int32))] [(.ref va)])) (fun tt kk => ?_) ?_
  · show Steps p.tables e below (T2.setTop (mkF m 13 #[.val (.ref va), .unset] [(.int (2 : Int32))])) tt
    refine XS.iconst X2.here hx rfl (hb hby d8_13) ?_
    show Steps p.tables e below (T2.setTop (mkF m 14 #[.val (.ref va), .unset] [(.int (1 : Int32)), (.int (2 : Int32))])) tt
    refine XS.isub X2.here hx rfl (hb hby d8_14) rfl ?_
    show Steps p.tables e below (T2.setTop (mkF m 15 #[.val (.ref va), .unset] [(.int (1 : Int32))])) tt
    refine XS.istoreN X2.here hx rfl (hb hby d8_15) rfl (l' := #[.val (.ref va), .val (.int (1 : Int32))]) rfl ?_
    show Steps p.tables e below (T2.setTop (mkF m 16 #[.val (.ref va), .val (.int (1 : Int32))] [])) tt
    refine XS.iloadN X2.here hx rfl (hb hby d8_16) rfl ?_
    show Steps p.tables e below (T2.setTop (mkF m 17 #[.val (.ref va), .val (.int (1 : Int32))] [(.int (1 : Int32))])) tt
    refine XS.ifNo X2.here hx rfl (hb hby d8_17) rfl ((if0 _ _).trans (flt ((by decide) : ¬ ((1 : Int32) < (0 : Int32)))).1) ?_
    show Steps p.tables e below (T2.setTop (mkF m 20 #[.val (.ref va), .val (.int (1 : Int32))] [])) tt
    refine XS.aloadN X2.here hx rfl (hb hby d8_20) rfl rfl ?_
    exact kk
  obtain ⟨T3, X3, e3, st3⟩ := getF X2 hx hZ hown (host := "") (Or.inl (hw _ (mw 21 rfl))) Via.refl e2 F_values_va (g := (mkF m 21 #[.val (.ref va), .val (.int (1 : Int32))] [(.ref va)])) rfl rfl (hb hby d8_21)
  refine Goal.to (B := T3.setTop (mkF m 24 #[.val (.ref va), .val (.int (1 : Int32))] [(.ref tv)])) st3 ?_
  refine Goal.to (B := T3.setTop (mkF m 25 #[.val (.ref va), .val (.int (1 : Int32))] [(.int (1 : Int32)), (.ref tv)])) (fun tt kk => ?_) ?_
  · show Steps p.tables e below (T3.setTop (mkF m 24 #[.val (.ref va), .val (.int (1 : Int32))] [(.ref tv)])) tt
    refine XS.iloadN X3.here hx rfl (hb hby d8_24) rfl ?_
    exact kk
  obtain ⟨cl4, Ar4, Sl4⟩ := id V_tv
  have hin4 := inA (cl := cl4) Sl4 (j := (1 : Int32)) (by decide) (Nat.le_of_ble_eq_true rfl)
  have hat4 : cl4.slots[((1 : Int32)).toNatClampNeg]? = some (.int r1) := atA Sl4 rfl
  refine Goal.to (B := T3.setTop (mkF m 27 #[.val (.ref va), .val (.int (1 : Int32))] [(.ref va), (.int r1)])) (fun tt kk => ?_) ?_
  · show Steps p.tables e below (T3.setTop (mkF m 25 #[.val (.ref va), .val (.int (1 : Int32))] [(.int (1 : Int32)), (.ref tv)])) tt
    refine X3.iaload hx (j := (1 : Int32)) (v := (.int r1)) (by rw [e3]; exact Ar4.1) (State.isArrayOf_alike hZ.alike Ar4.2.1) Ar4.2.2 hin4 hat4 (g := (mkF m 25 #[.val (.ref va), .val (.int (1 : Int32))] [(.int (1 : Int32)), (.ref tv)])) rfl rfl (hb hby d8_25) _ ?_
    show Steps p.tables e below (T3.setTop (mkF m 26 #[.val (.ref va), .val (.int (1 : Int32))] [(.int r1)])) tt
    refine XS.aloadN X3.here hx rfl (hb hby d8_26) rfl rfl ?_
    exact kk
  obtain ⟨T5, X5, e5, st5⟩ := getF X3 hx hZ hown (host := "") (Or.inl (hw _ (mw 19 rfl))) Via.refl e3 F_highs_va (g := (mkF m 27 #[.val (.ref va), .val (.int (1 : Int32))] [(.ref va), (.int r1)])) rfl rfl (hb hby d8_27)
  refine Goal.to (B := T5.setTop (mkF m 30 #[.val (.ref va), .val (.int (1 : Int32))] [(.ref th), (.int r1)])) st5 ?_
  refine Goal.to (B := T5.setTop (mkF m 31 #[.val (.ref va), .val (.int (1 : Int32))] [(.int (1 : Int32)), (.ref th), (.int r1)])) (fun tt kk => ?_) ?_
  · show Steps p.tables e below (T5.setTop (mkF m 30 #[.val (.ref va), .val (.int (1 : Int32))] [(.ref th), (.int r1)])) tt
    refine XS.iloadN X5.here hx rfl (hb hby d8_30) rfl ?_
    exact kk
  obtain ⟨cl6, Ar6, Sl6⟩ := id V_th
  have hin6 := inA (cl := cl6) Sl6 (j := (1 : Int32)) (by decide) (Nat.le_of_ble_eq_true rfl)
  have hat6 : cl6.slots[((1 : Int32)).toNatClampNeg]? = some (.int q1) := atA Sl6 rfl
  refine Goal.to (B := T5.setTop (mkF m 21 #[.val (.ref va), .val (.int (0 : Int32))] [(.ref va)])) (fun tt kk => ?_) ?_
  · show Steps p.tables e below (T5.setTop (mkF m 31 #[.val (.ref va), .val (.int (1 : Int32))] [(.int (1 : Int32)), (.ref th), (.int r1)])) tt
    refine X5.iaload hx (j := (1 : Int32)) (v := (.int q1)) (by rw [e5]; exact Ar6.1) (State.isArrayOf_alike hZ.alike Ar6.2.1) Ar6.2.2 hin6 hat6 (g := (mkF m 31 #[.val (.ref va), .val (.int (1 : Int32))] [(.int (1 : Int32)), (.ref th), (.int r1)])) rfl rfl (hb hby d8_31) _ ?_
    show Steps p.tables e below (T5.setTop (mkF m 32 #[.val (.ref va), .val (.int (1 : Int32))] [(.int q1), (.int r1)])) tt
    refine XS.icmpNo X5.here hx rfl (hb hby d8_32) rfl (teq hA).2 ?_
    show Steps p.tables e below (T5.setTop (mkF m 35 #[.val (.ref va), .val (.int (1 : Int32))] [])) tt
    refine XS.iinc X5.here hx rfl (hb hby d8_35) rfl (l' := #[.val (.ref va), .val (.int (0 : Int32))]) rfl ?_
    show Steps p.tables e below (T5.setTop (mkF m 38 #[.val (.ref va), .val (.int (0 : Int32))] [])) tt
    refine XS.goto X5.here hx rfl (pc0 := 38) (pc' := 16) rfl (hb hby d8_38) (by decide) (by decide) ?_
    show Steps p.tables e below (T5.setTop (mkF m 16 #[.val (.ref va), .val (.int (0 : Int32))] [])) tt
    refine XS.iloadN X5.here hx rfl (hb hby d8_16) rfl ?_
    show Steps p.tables e below (T5.setTop (mkF m 17 #[.val (.ref va), .val (.int (0 : Int32))] [(.int (0 : Int32))])) tt
    refine XS.ifNo X5.here hx rfl (hb hby d8_17) rfl ((if0 _ _).trans (flt (Int32.lt_irrefl : ¬ ((0 : Int32) < (0 : Int32)))).1) ?_
    show Steps p.tables e below (T5.setTop (mkF m 20 #[.val (.ref va), .val (.int (0 : Int32))] [])) tt
    refine XS.aloadN X5.here hx rfl (hb hby d8_20) rfl rfl ?_
    exact kk
  obtain ⟨T7, X7, e7, st7⟩ := getF X5 hx hZ hown (host := "") (Or.inl (hw _ (mw 21 rfl))) Via.refl e5 F_values_va (g := (mkF m 21 #[.val (.ref va), .val (.int (0 : Int32))] [(.ref va)])) rfl rfl (hb hby d8_21)
  refine Goal.to (B := T7.setTop (mkF m 24 #[.val (.ref va), .val (.int (0 : Int32))] [(.ref tv)])) st7 ?_
  refine Goal.to (B := T7.setTop (mkF m 25 #[.val (.ref va), .val (.int (0 : Int32))] [(.int (0 : Int32)), (.ref tv)])) (fun tt kk => ?_) ?_
  · show Steps p.tables e below (T7.setTop (mkF m 24 #[.val (.ref va), .val (.int (0 : Int32))] [(.ref tv)])) tt
    refine XS.iloadN X7.here hx rfl (hb hby d8_24) rfl ?_
    exact kk
  obtain ⟨cl8, Ar8, Sl8⟩ := id V_tv
  have hin8 := inA (cl := cl8) Sl8 (j := (0 : Int32)) (by decide) (Nat.le_of_ble_eq_true rfl)
  have hat8 : cl8.slots[((0 : Int32)).toNatClampNeg]? = some (.int r0) := atA Sl8 rfl
  refine Goal.to (B := T7.setTop (mkF m 27 #[.val (.ref va), .val (.int (0 : Int32))] [(.ref va), (.int r0)])) (fun tt kk => ?_) ?_
  · show Steps p.tables e below (T7.setTop (mkF m 25 #[.val (.ref va), .val (.int (0 : Int32))] [(.int (0 : Int32)), (.ref tv)])) tt
    refine X7.iaload hx (j := (0 : Int32)) (v := (.int r0)) (by rw [e7]; exact Ar8.1) (State.isArrayOf_alike hZ.alike Ar8.2.1) Ar8.2.2 hin8 hat8 (g := (mkF m 25 #[.val (.ref va), .val (.int (0 : Int32))] [(.int (0 : Int32)), (.ref tv)])) rfl rfl (hb hby d8_25) _ ?_
    show Steps p.tables e below (T7.setTop (mkF m 26 #[.val (.ref va), .val (.int (0 : Int32))] [(.int r0)])) tt
    refine XS.aloadN X7.here hx rfl (hb hby d8_26) rfl rfl ?_
    exact kk
  obtain ⟨T9, X9, e9, st9⟩ := getF X7 hx hZ hown (host := "") (Or.inl (hw _ (mw 19 rfl))) Via.refl e7 F_highs_va (g := (mkF m 27 #[.val (.ref va), .val (.int (0 : Int32))] [(.ref va), (.int r0)])) rfl rfl (hb hby d8_27)
  refine Goal.to (B := T9.setTop (mkF m 30 #[.val (.ref va), .val (.int (0 : Int32))] [(.ref th), (.int r0)])) st9 ?_
  refine Goal.to (B := T9.setTop (mkF m 31 #[.val (.ref va), .val (.int (0 : Int32))] [(.int (0 : Int32)), (.ref th), (.int r0)])) (fun tt kk => ?_) ?_
  · show Steps p.tables e below (T9.setTop (mkF m 30 #[.val (.ref va), .val (.int (0 : Int32))] [(.ref th), (.int r0)])) tt
    refine XS.iloadN X9.here hx rfl (hb hby d8_30) rfl ?_
    exact kk
  obtain ⟨cl10, Ar10, Sl10⟩ := id V_th
  have hin10 := inA (cl := cl10) Sl10 (j := (0 : Int32)) (by decide) (Nat.le_of_ble_eq_true rfl)
  have hat10 : cl10.slots[((0 : Int32)).toNatClampNeg]? = some (.int q0) := atA Sl10 rfl
  refine Goal.to (B := T9.setTop (mkF m 48 #[.val (.ref va), .val (.int (0 : Int32))] [(.ref va)])) (fun tt kk => ?_) ?_
  · show Steps p.tables e below (T9.setTop (mkF m 31 #[.val (.ref va), .val (.int (0 : Int32))] [(.int (0 : Int32)), (.ref th), (.int r0)])) tt
    refine X9.iaload hx (j := (0 : Int32)) (v := (.int q0)) (by rw [e9]; exact Ar10.1) (State.isArrayOf_alike hZ.alike Ar10.2.1) Ar10.2.2 hin10 hat10 (g := (mkF m 31 #[.val (.ref va), .val (.int (0 : Int32))] [(.int (0 : Int32)), (.ref th), (.int r0)])) rfl rfl (hb hby d8_31) _ ?_
    show Steps p.tables e below (T9.setTop (mkF m 32 #[.val (.ref va), .val (.int (0 : Int32))] [(.int q0), (.int r0)])) tt
    refine XS.icmpYes X9.here hx rfl (pc0 := 32) (pc' := 41) rfl (hb hby d8_32) rfl (feq hB).2 (by decide) (by decide) ?_
    show Steps p.tables e below (T9.setTop (mkF m 41 #[.val (.ref va), .val (.int (0 : Int32))] [])) tt
    refine XS.iloadN X9.here hx rfl (hb hby d8_41) rfl ?_
    show Steps p.tables e below (T9.setTop (mkF m 42 #[.val (.ref va), .val (.int (0 : Int32))] [(.int (0 : Int32))])) tt
    refine XS.ifYes X9.here hx rfl (pc0 := 42) (pc' := 47) rfl (hb hby d8_42) rfl ((if0 _ _).trans (flt (Int32.lt_irrefl : ¬ ((0 : Int32) < (0 : Int32)))).2.1) (by decide) (by decide) ?_
    show Steps p.tables e below (T9.setTop (mkF m 47 #[.val (.ref va), .val (.int (0 : Int32))] [])) tt
    refine XS.aloadN X9.here hx rfl (hb hby d8_47) rfl rfl ?_
    exact kk
  obtain ⟨T11, X11, e11, st11⟩ := getF X9 hx hZ hown (host := "") (Or.inl (hw _ (mw 21 rfl))) Via.refl e9 F_values_va (g := (mkF m 48 #[.val (.ref va), .val (.int (0 : Int32))] [(.ref va)])) rfl rfl (hb hby d8_48)
  refine Goal.to (B := T11.setTop (mkF m 51 #[.val (.ref va), .val (.int (0 : Int32))] [(.ref tv)])) st11 ?_
  refine Goal.to (B := T11.setTop (mkF m 53 #[.val (.ref va), .val (.int (0 : Int32))] [(.int (0 : Int32)), (.ref tv), (.int (0 : Int32)), (.ref tv)])) (fun tt kk => ?_) ?_
  · show Steps p.tables e below (T11.setTop (mkF m 51 #[.val (.ref va), .val (.int (0 : Int32))] [(.ref tv)])) tt
    refine XS.iloadN X11.here hx rfl (hb hby d8_51) rfl ?_
    show Steps p.tables e below (T11.setTop (mkF m 52 #[.val (.ref va), .val (.int (0 : Int32))] [(.int (0 : Int32)), (.ref tv)])) tt
    refine Jvm.Free.XT.dup2 X11.here hx rfl (hb hby d8_52) rfl rfl rfl ?_
    exact kk
  obtain ⟨cl12, Ar12, Sl12⟩ := id V_tv
  have hin12 := inA (cl := cl12) Sl12 (j := (0 : Int32)) (by decide) (Nat.le_of_ble_eq_true rfl)
  have hat12 : cl12.slots[((0 : Int32)).toNatClampNeg]? = some (.int r0) := atA Sl12 rfl
  refine Goal.to (B := T11.setTop (mkF m 56 #[.val (.ref va), .val (.int (0 : Int32))] [(.int (r0 + (1 : Int32))), (.int (0 : Int32)), (.ref tv)])) (fun tt kk => ?_) ?_
  · show Steps p.tables e below (T11.setTop (mkF m 53 #[.val (.ref va), .val (.int (0 : Int32))] [(.int (0 : Int32)), (.ref tv), (.int (0 : Int32)), (.ref tv)])) tt
    refine X11.iaload hx (j := (0 : Int32)) (v := (.int r0)) (by rw [e11]; exact Ar12.1) (State.isArrayOf_alike hZ.alike Ar12.2.1) Ar12.2.2 hin12 hat12 (g := (mkF m 53 #[.val (.ref va), .val (.int (0 : Int32))] [(.int (0 : Int32)), (.ref tv), (.int (0 : Int32)), (.ref tv)])) rfl rfl (hb hby d8_53) _ ?_
    show Steps p.tables e below (T11.setTop (mkF m 54 #[.val (.ref va), .val (.int (0 : Int32))] [(.int r0), (.int (0 : Int32)), (.ref tv)])) tt
    refine XS.iconst X11.here hx rfl (hb hby d8_54) ?_
    show Steps p.tables e below (T11.setTop (mkF m 55 #[.val (.ref va), .val (.int (0 : Int32))] [(.int (1 : Int32)), (.int r0), (.int (0 : Int32)), (.ref tv)])) tt
    refine XS.iadd X11.here hx rfl (hb hby d8_55) rfl ?_
    exact kk
  obtain ⟨cl13, Ar13, Sl13⟩ := id V_tv
  have hin13 := inA (cl := cl13) Sl13 (j := (0 : Int32)) (by decide) (Nat.le_of_ble_eq_true rfl)
  obtain ⟨T13, h13, X13, e13, W13, st13⟩ := stI X11 hx hZ e11 Ar13 (j := (0 : Int32)) hin13 (g := (mkF m 56 #[.val (.ref va), .val (.int (0 : Int32))] [(.int (r0 + (1 : Int32))), (.int (0 : Int32)), (.ref tv)])) rfl rfl (hb hby d8_56)
  have V13 : Ary Z h13 tv .int [(.int (r0 + (1 : Int32))), (.int r1), (.int (0 : Int32)), (.int (0 : Int32)), (.int (0 : Int32)), (.int (0 : Int32)), (.int (0 : Int32)), (.int (0 : Int32)), (.int (0 : Int32)), (.int (0 : Int32)), (.int (0 : Int32)), (.int (0 : Int32)), (.int (0 : Int32)), (.int (0 : Int32)), (.int (0 : Int32)), (.int (0 : Int32))] := Ary.put Ar13 Sl13 W13 rfl
  have N13 := Fr.snoc X13 N0 g_tv
  refine Goal.to (B := T13.setTop (mkF m 57 #[.val (.ref va), .val (.int (0 : Int32))] [])) st13 ?_
  refine Goal.to (B := T13.setTop (mkF m 61 #[.val (.ref va), .val (.int (0 : Int32))] [(.int (1 : Int32)), (.ref va)])) (fun tt kk => ?_) ?_
  · show Steps p.tables e below (T13.setTop (mkF m 57 #[.val (.ref va), .val (.int (0 : Int32))] [])) tt
    refine XS.aloadN X13.here hx rfl (hb hby d8_57) rfl rfl ?_
    show Steps p.tables e below (T13.setTop (mkF m 58 #[.val (.ref va), .val (.int (0 : Int32))] [(.ref va)])) tt
    refine XS.iloadN X13.here hx rfl (hb hby d8_58) rfl ?_
    show Steps p.tables e below (T13.setTop (mkF m 59 #[.val (.ref va), .val (.int (0 : Int32))] [(.int (0 : Int32)), (.ref va)])) tt
    refine XS.iconst X13.here hx rfl (hb hby d8_59) ?_
    show Steps p.tables e below (T13.setTop (mkF m 60 #[.val (.ref va), .val (.int (0 : Int32))] [(.int (1 : Int32)), (.int (0 : Int32)), (.ref va)])) tt
    refine XS.iadd X13.here hx rfl (hb hby d8_60) rfl ?_
    exact kk
  have f14 : Fld Z h13 va "com/example/deferra/deferra/engine/Trail" "saved" "[[Lcom/example/deferra/deferra/engine/Identities;" .null := (F_saved_va.other W13 (Or.inl ne_va_tv))
  have f15 : n0 ≤ h13.size := (Nat.le_trans Z0 (Keep.of_wr W13).1)
  have f17 : Exa Z h13 va "com/example/deferra/deferra/engine/Trail" := (E_va.wr W13)
  obtain ⟨cq16, q16, q16'⟩ := f17.cell
  obtain ⟨_, _, ⟨T16, L16, k16, n16⟩, -, X16, ⟨Lc16, hQ16, l16, y16, z16⟩, st16⟩ := X13.privateBack hx (y := (⟨"com/example/deferra/deferra/engine/Trail", "forget", "(I)V"⟩ : MethodName)) hown (mvT hZ (hw _ (mw 55 rfl))) (mvT hZ (hw _ (mw 56 rfl))) (selP hZ (hw _ (mw 8 rfl)) (hw _ (mw 57 rfl)) (hw _ (mw 56 rfl)) (by decide)) (Cond.privateMethod_at (mvP hZ (hw _ (mw 57 rfl)) (args := #[]))) (mvT hZ (hw _ (mw 58 rfl))) (by decide) (backOf (W := 0) (rmfg l Z a0 hw [] va (1 : Int32) h13 n0 f15 f14) hZ (hw _ (mw 58 rfl)) (hw _ (mw 9 rfl)) (by decide) (by decide)) (g := (mkF m 61 #[.val (.ref va), .val (.int (0 : Int32))] [(.int (1 : Int32)), (.ref va)])) rfl (by rw [hml]; rfl) (Steps.refl _) (a := va) (by rw [e13]; exact q16) q16' (argsL := [(.int (1 : Int32))]) (rest := []) (lenOf pd_1 rfl) rfl (by show 2 * 0 + _ ≤ _; exact Nat.le_of_eq rfl) (hb hby d8_61) (fun _ _ => ⟨rfl, e13, (by decide : 0 + 0 ≤ _), (by decide : 0 + 0 ≤ _)⟩)
  dsimp only [Pt.U, Pt.locs, Pt.cells, Pt.slots] at X16 l16 y16 z16 st16 hQ16
  subst l16 y16 z16
  obtain ⟨rfl, N16q, e16⟩ := hQ16
  have N16 := Fr.app N13 N16q
  refine Goal.tr (B := T16.setTop (mkF m 64 #[.val (.ref va), .val (.int (0 : Int32))] [])) st16 ?_
  refine Goal.to (B := T16.setTop (mkF m 68 #[.val (.ref va), .val (.int (0 : Int32))] [(.int (1 : Int32)), (.ref va)])) (fun tt kk => ?_) ?_
  · show Steps p.tables e below (T16.setTop (mkF m 64 #[.val (.ref va), .val (.int (0 : Int32))] [])) tt
    refine XS.aloadN X16.here hx rfl (hb hby d8_64) rfl rfl ?_
    show Steps p.tables e below (T16.setTop (mkF m 65 #[.val (.ref va), .val (.int (0 : Int32))] [(.ref va)])) tt
    refine XS.iloadN X16.here hx rfl (hb hby d8_65) rfl ?_
    show Steps p.tables e below (T16.setTop (mkF m 66 #[.val (.ref va), .val (.int (0 : Int32))] [(.int (0 : Int32)), (.ref va)])) tt
    refine XS.iconst X16.here hx rfl (hb hby d8_66) ?_
    show Steps p.tables e below (T16.setTop (mkF m 67 #[.val (.ref va), .val (.int (0 : Int32))] [(.int (1 : Int32)), (.int (0 : Int32)), (.ref va)])) tt
    refine XS.iadd X16.here hx rfl (hb hby d8_67) rfl ?_
    exact kk
  have f18 : Fld Z h13 va "com/example/deferra/deferra/engine/Trail" "size" "I" (.int (2 : Int32)) := (F_size_va.other W13 (Or.inl ne_va_tv))
  obtain ⟨T19, h19, X19, e19, W19, st19⟩ := putF X16 hx hZ hown (host := "") (Or.inl (hw _ (mw 36 rfl))) Via.refl e16 f18 f17 (Or.inl (hw _ (mw 37 rfl))) (hw _ (mw 8 rfl)) (ty := .int) (by decide) rfl rfl (g := (mkF m 68 #[.val (.ref va), .val (.int (0 : Int32))] [(.int (1 : Int32)), (.ref va)])) rfl rfl (hb hby d8_68)
  have Fw19 : Fld Z h19 va "com/example/deferra/deferra/engine/Trail" "size" "I" (.int (1 : Int32)) := f18.same W19
  have N19 := Fr.snoc X19 N16 g_va
  refine Goal.to (B := T19.setTop (mkF m 71 #[.val (.ref va), .val (.int (0 : Int32))] [])) st19 ?_
  refine Goal.to (B := T19.setTop (mkF m 72 #[.val (.ref va), .val (.int (0 : Int32))] [(.int (1 : Int32))])) (fun tt kk => ?_) ?_
  · show Steps p.tables e below (T19.setTop (mkF m 71 #[.val (.ref va), .val (.int (0 : Int32))] [])) tt
    refine XS.iconst X19.here hx rfl (hb hby d8_71) ?_
    exact kk
  have f20 : Keep h0 h19 [va, tv] := (((Keep.refl h0 [va, tv]).wr W13 (Or.inl (List.mem_of_getElem? (i := 1) rfl))).wr W19 (Or.inl (List.mem_of_getElem? (i := 0) rfl)))
  have f21 : Fld Z h19 va "com/example/deferra/deferra/engine/Trail" "fromTrace" "Z" (.int (0 : Int32)) := ((F_fromTrace_va.other W13 (Or.inl ne_va_tv)).other W19 (Or.inr (slot_ne (Or.inr (hw _ (mw 26 rfl))) (Or.inl (hw _ (mw 37 rfl))) (by decide) (t := .boolean) (t' := .int) (by decide) (by decide))))
  have f22 : Fld Z h19 va "com/example/deferra/deferra/engine/Trail" "values" "[I" (.ref tv) := ((F_values_va.other W13 (Or.inl ne_va_tv)).other W19 (Or.inr (slot_ne (Or.inl (hw _ (mw 22 rfl))) (Or.inl (hw _ (mw 37 rfl))) (by decide) (t := (.array .int)) (t' := .int) (by decide) (by decide))))
  have f23 : Fld Z h19 va "com/example/deferra/deferra/engine/Trail" "highs" "[I" (.ref th) := ((F_highs_va.other W13 (Or.inl ne_va_tv)).other W19 (Or.inr (slot_ne (Or.inl (hw _ (mw 20 rfl))) (Or.inl (hw _ (mw 37 rfl))) (by decide) (t := (.array .int)) (t' := .int) (by decide) (by decide))))
  have f24 : Fld Z h19 va "com/example/deferra/deferra/engine/Trail" "saved" "[[Lcom/example/deferra/deferra/engine/Identities;" .null := (f14.other W19 (Or.inr (slot_ne (Or.inl (hw _ (mw 60 rfl))) (Or.inl (hw _ (mw 37 rfl))) (by decide) (t := (.array (.array (.object "com/example/deferra/deferra/engine/Identities")))) (t' := .int) (by decide) (by decide))))
  have f25 : Ary Z h19 tv .int [(.int (r0 + (1 : Int32))), (.int r1), (.int (0 : Int32)), (.int (0 : Int32)), (.int (0 : Int32)), (.int (0 : Int32)), (.int (0 : Int32)), (.int (0 : Int32)), (.int (0 : Int32)), (.int (0 : Int32)), (.int (0 : Int32)), (.int (0 : Int32)), (.int (0 : Int32)), (.int (0 : Int32)), (.int (0 : Int32)), (.int (0 : Int32))] := (V13.other W19 (Ne.symm ne_va_tv))
  exact Goal.retV X19 hx Bd.returns rfl (Or.inl ⟨rfl, Or.inr (Or.inl rfl), _, rfl⟩) (hb hby d8_72) hlk e19 ⟨rfl, N19, f20, f21, Fw19, f22, f23, f24, f25⟩ (by decide) (by decide)
theorem d8_45 : decode prog_36_method_22_code 45 = .ok (.iconst 0, 1) := by decide +kernel
theorem d8_46 : decode prog_36_method_22_code 46 = .ok (.ireturn, 1) := by decide +kernel
def Qav2C (Z : State) (va : Addr) (th : Addr) (tv : Addr) (q0 : Int32) (q1 : Int32) (r0 : Int32) (r1 : Int32) (h0 : Heap) (n0 : Nat) (v : Option Value) (h : Heap) (L : List Loc) : Prop := v = some (.int (0 : Int32)) ∧ Fr n0 L ∧ h = h0
set_option maxRecDepth 65536 in
set_option maxHeartbeats 40000000 in
theorem rmav2C (l : Launch) (Z : State) (a0 : Array Value) (hw : ∀ d ∈ tables_1, d.before a0 Z = true) (ws : List Jvm.Cond) (va : Addr) (th : Addr) (tv : Addr) (q0 : Int32) (q1 : Int32) (r0 : Int32) (r1 : Int32) (h0 : Heap) (n0 : Nat) (Z0 : n0 ≤ h0.size) (E_va : Exa Z h0 va "com/example/deferra/deferra/engine/Trail") (F_fromTrace_va : Fld Z h0 va "com/example/deferra/deferra/engine/Trail" "fromTrace" "Z" (.int (0 : Int32))) (F_size_va : Fld Z h0 va "com/example/deferra/deferra/engine/Trail" "size" "I" (.int (2 : Int32))) (F_values_va : Fld Z h0 va "com/example/deferra/deferra/engine/Trail" "values" "[I" (.ref tv)) (F_highs_va : Fld Z h0 va "com/example/deferra/deferra/engine/Trail" "highs" "[I" (.ref th)) (F_saved_va : Fld Z h0 va "com/example/deferra/deferra/engine/Trail" "saved" "[[Lcom/example/deferra/deferra/engine/Identities;" .null) (V_th : Ary Z h0 th .int [(.int q0), (.int q1), (.int (0 : Int32)), (.int (0 : Int32)), (.int (0 : Int32)), (.int (0 : Int32)), (.int (0 : Int32)), (.int (0 : Int32)), (.int (0 : Int32)), (.int (0 : Int32)), (.int (0 : Int32)), (.int (0 : Int32)), (.int (0 : Int32)), (.int (0 : Int32)), (.int (0 : Int32)), (.int (0 : Int32))]) (V_tv : Ary Z h0 tv .int [(.int r0), (.int r1), (.int (0 : Int32)), (.int (0 : Int32)), (.int (0 : Int32)), (.int (0 : Int32)), (.int (0 : Int32)), (.int (0 : Int32)), (.int (0 : Int32)), (.int (0 : Int32)), (.int (0 : Int32)), (.int (0 : Int32)), (.int (0 : Int32)), (.int (0 : Int32)), (.int (0 : Int32)), (.int (0 : Int32))]) (g_va : n0 ≤ va) (g_tv : n0 ≤ tv) (ne_va_tv : va ≠ tv) (ne_va_th : va ≠ th) (ne_th_tv : th ≠ tv) (hA : r1 = q1) (hB : r0 = q0) :
    MetFree l (⟨"com/example/deferra/deferra/engine/Trail", "advance", "()Z"⟩ : MethodName) (head1 (Jvm.Cond.code (⟨"com/example/deferra/deferra/engine/Trail", "advance", "()Z"⟩ : MethodName) prog_36_method_22_code 2 (some .boolean) :: ws) ({ frames := 0, cells := 0, slots := 0, locals := 0 } : Room)) (fun a U => a = #[(.ref va)] ∧ Z.Warmed39 U.vm ∧ U.heap = h0) (fun _ _ _ _ _ => True) (fun _ U o U' => ∃ v L, o = .returned v ∧ Qav2C Z va th tv q0 q1 r0 r1 h0 n0 v U'.heap L ∧ FrameEnd U o U' L 0 0) := by
  refine MetFree.of_bodySF (plainFor_of_name pn_8) hisR ?_
  intro p e s m args below meth c s₁ Bd hml0 hP hK
  obtain ⟨rfl, hZ, hh⟩ := hP
  have hx := Bd.exec
  have hby := Bd.bytes
  have hml : c.maxLocals = 2 := hml0
  have hown : s.vm.findClass "com/example/deferra/deferra/engine/Trail" = some m.cls := findClass_of_methodNamed Bd.named
  have hnm := (name_of_methodNamed Bd.named Bd.method).1
  have X0 : Stand p l e ({ frames := 0, cells := 0, slots := 0, locals := 0 } : Room) s m #[(.ref va)] below meth c s₁ [] 0 0 := Stand.of_body Bd
  have e0 : s₁.heap = h0 := by rw [← hh, Bd.state]; rfl
  have N0 := Fr.nil n0
  have hlk : meth.locks = false := BodyLoose.notSynchronized Bd
  show Goal p e below s (Qav2C Z va th tv q0 q1 r0 r1 h0 n0) 0 0 (s₁.setTop (entryFrame m #[(.ref va)] 2))
  refine Goal.to (B := s₁.setTop (mkF m 0 #[.val (.ref va), .unset] [])) (fun tt kk => castTop (ef_8 m va ) kk) ?_
  refine Goal.to (B := s₁.setTop (mkF m 1 #[.val (.ref va), .unset] [(.ref va)])) (fun tt kk => ?_) ?_
  · show Steps p.tables e below (s₁.setTop (mkF m 0 #[.val (.ref va), .unset] [])) tt
    refine XS.aloadN X0.here hx rfl (hb hby d8_0) rfl rfl ?_
    exact kk
  obtain ⟨T1, X1, e1, st1⟩ := getF X0 hx hZ hown (host := "") (Or.inl (hw _ (mw 25 rfl))) Via.refl e0 F_fromTrace_va (g := (mkF m 1 #[.val (.ref va), .unset] [(.ref va)])) rfl rfl (hb hby d8_1)
  refine Goal.to (B := T1.setTop (mkF m 4 #[.val (.ref va), .unset] [(.int (0 : Int32))])) st1 ?_
  refine Goal.to (B := T1.setTop (mkF m 10 #[.val (.ref va), .unset] [(.ref va)])) (fun tt kk => ?_) ?_
  · show Steps p.tables e below (T1.setTop (mkF m 4 #[.val (.ref va), .unset] [(.int (0 : Int32))])) tt
    refine XS.ifYes X1.here hx rfl (pc0 := 4) (pc' := 9) rfl (hb hby d8_4) rfl ((if0 _ _).trans (teq (rfl : (0 : Int32) = (0 : Int32))).1) (by decide) (by decide) ?_
    show Steps p.tables e below (T1.setTop (mkF m 9 #[.val (.ref va), .unset] [])) tt
    refine XS.aloadN X1.here hx rfl (hb hby d8_9) rfl rfl ?_
    exact kk
  obtain ⟨T2, X2, e2, st2⟩ := getF X1 hx hZ hown (host := "") (Or.inl (hw _ (mw 36 rfl))) Via.refl e1 F_size_va (g := (mkF m 10 #[.val (.ref va), .unset] [(.ref va)])) rfl rfl (hb hby d8_10)
  refine Goal.to (B := T2.setTop (mkF m 13 #[.val (.ref va), .unset] [(.int (2 : Int32))])) st2 ?_
  refine Goal.to (B := T2.setTop (mkF m 21 #[.val (.ref va), .val (.int (1 : Int32))] [(.ref va)])) (fun tt kk => ?_) ?_
  · show Steps p.tables e below (T2.setTop (mkF m 13 #[.val (.ref va), .unset] [(.int (2 : Int32))])) tt
    refine XS.iconst X2.here hx rfl (hb hby d8_13) ?_
    show Steps p.tables e below (T2.setTop (mkF m 14 #[.val (.ref va), .unset] [(.int (1 : Int32)), (.int (2 : Int32))])) tt
    refine XS.isub X2.here hx rfl (hb hby d8_14) rfl ?_
    show Steps p.tables e below (T2.setTop (mkF m 15 #[.val (.ref va), .unset] [(.int (1 : Int32))])) tt
    refine XS.istoreN X2.here hx rfl (hb hby d8_15) rfl (l' := #[.val (.ref va), .val (.int (1 : Int32))]) rfl ?_
    show Steps p.tables e below (T2.setTop (mkF m 16 #[.val (.ref va), .val (.int (1 : Int32))] [])) tt
    refine XS.iloadN X2.here hx rfl (hb hby d8_16) rfl ?_
    show Steps p.tables e below (T2.setTop (mkF m 17 #[.val (.ref va), .val (.int (1 : Int32))] [(.int (1 : Int32))])) tt
    refine XS.ifNo X2.here hx rfl (hb hby d8_17) rfl ((if0 _ _).trans (flt ((by decide) : ¬ ((1 : Int32) < (0 : Int32)))).1) ?_
    show Steps p.tables e below (T2.setTop (mkF m 20 #[.val (.ref va), .val (.int (1 : Int32))] [])) tt
    refine XS.aloadN X2.here hx rfl (hb hby d8_20) rfl rfl ?_
    exact kk
  obtain ⟨T3, X3, e3, st3⟩ := getF X2 hx hZ hown (host := "") (Or.inl (hw _ (mw 21 rfl))) Via.refl e2 F_values_va (g := (mkF m 21 #[.val (.ref va), .val (.int (1 : Int32))] [(.ref va)])) rfl rfl (hb hby d8_21)
  refine Goal.to (B := T3.setTop (mkF m 24 #[.val (.ref va), .val (.int (1 : Int32))] [(.ref tv)])) st3 ?_
  refine Goal.to (B := T3.setTop (mkF m 25 #[.val (.ref va), .val (.int (1 : Int32))] [(.int (1 : Int32)), (.ref tv)])) (fun tt kk => ?_) ?_
  · show Steps p.tables e below (T3.setTop (mkF m 24 #[.val (.ref va), .val (.int (1 : Int32))] [(.ref tv)])) tt
    refine XS.iloadN X3.here hx rfl (hb hby d8_24) rfl ?_
    exact kk
  obtain ⟨cl4, Ar4, Sl4⟩ := id V_tv
  have hin4 := inA (cl := cl4) Sl4 (j := (1 : Int32)) (by decide) (Nat.le_of_ble_eq_true rfl)
  have hat4 : cl4.slots[((1 : Int32)).toNatClampNeg]? = some (.int r1) := atA Sl4 rfl
  refine Goal.to (B := T3.setTop (mkF m 27 #[.val (.ref va), .val (.int (1 : Int32))] [(.ref va), (.int r1)])) (fun tt kk => ?_) ?_
  · show Steps p.tables e below (T3.setTop (mkF m 25 #[.val (.ref va), .val (.int (1 : Int32))] [(.int (1 : Int32)), (.ref tv)])) tt
    refine X3.iaload hx (j := (1 : Int32)) (v := (.int r1)) (by rw [e3]; exact Ar4.1) (State.isArrayOf_alike hZ.alike Ar4.2.1) Ar4.2.2 hin4 hat4 (g := (mkF m 25 #[.val (.ref va), .val (.int (1 : Int32))] [(.int (1 : Int32)), (.ref tv)])) rfl rfl (hb hby d8_25) _ ?_
    show Steps p.tables e below (T3.setTop (mkF m 26 #[.val (.ref va), .val (.int (1 : Int32))] [(.int r1)])) tt
    refine XS.aloadN X3.here hx rfl (hb hby d8_26) rfl rfl ?_
    exact kk
  obtain ⟨T5, X5, e5, st5⟩ := getF X3 hx hZ hown (host := "") (Or.inl (hw _ (mw 19 rfl))) Via.refl e3 F_highs_va (g := (mkF m 27 #[.val (.ref va), .val (.int (1 : Int32))] [(.ref va), (.int r1)])) rfl rfl (hb hby d8_27)
  refine Goal.to (B := T5.setTop (mkF m 30 #[.val (.ref va), .val (.int (1 : Int32))] [(.ref th), (.int r1)])) st5 ?_
  refine Goal.to (B := T5.setTop (mkF m 31 #[.val (.ref va), .val (.int (1 : Int32))] [(.int (1 : Int32)), (.ref th), (.int r1)])) (fun tt kk => ?_) ?_
  · show Steps p.tables e below (T5.setTop (mkF m 30 #[.val (.ref va), .val (.int (1 : Int32))] [(.ref th), (.int r1)])) tt
    refine XS.iloadN X5.here hx rfl (hb hby d8_30) rfl ?_
    exact kk
  obtain ⟨cl6, Ar6, Sl6⟩ := id V_th
  have hin6 := inA (cl := cl6) Sl6 (j := (1 : Int32)) (by decide) (Nat.le_of_ble_eq_true rfl)
  have hat6 : cl6.slots[((1 : Int32)).toNatClampNeg]? = some (.int q1) := atA Sl6 rfl
  refine Goal.to (B := T5.setTop (mkF m 21 #[.val (.ref va), .val (.int (0 : Int32))] [(.ref va)])) (fun tt kk => ?_) ?_
  · show Steps p.tables e below (T5.setTop (mkF m 31 #[.val (.ref va), .val (.int (1 : Int32))] [(.int (1 : Int32)), (.ref th), (.int r1)])) tt
    refine X5.iaload hx (j := (1 : Int32)) (v := (.int q1)) (by rw [e5]; exact Ar6.1) (State.isArrayOf_alike hZ.alike Ar6.2.1) Ar6.2.2 hin6 hat6 (g := (mkF m 31 #[.val (.ref va), .val (.int (1 : Int32))] [(.int (1 : Int32)), (.ref th), (.int r1)])) rfl rfl (hb hby d8_31) _ ?_
    show Steps p.tables e below (T5.setTop (mkF m 32 #[.val (.ref va), .val (.int (1 : Int32))] [(.int q1), (.int r1)])) tt
    refine XS.icmpNo X5.here hx rfl (hb hby d8_32) rfl (teq hA).2 ?_
    show Steps p.tables e below (T5.setTop (mkF m 35 #[.val (.ref va), .val (.int (1 : Int32))] [])) tt
    refine XS.iinc X5.here hx rfl (hb hby d8_35) rfl (l' := #[.val (.ref va), .val (.int (0 : Int32))]) rfl ?_
    show Steps p.tables e below (T5.setTop (mkF m 38 #[.val (.ref va), .val (.int (0 : Int32))] [])) tt
    refine XS.goto X5.here hx rfl (pc0 := 38) (pc' := 16) rfl (hb hby d8_38) (by decide) (by decide) ?_
    show Steps p.tables e below (T5.setTop (mkF m 16 #[.val (.ref va), .val (.int (0 : Int32))] [])) tt
    refine XS.iloadN X5.here hx rfl (hb hby d8_16) rfl ?_
    show Steps p.tables e below (T5.setTop (mkF m 17 #[.val (.ref va), .val (.int (0 : Int32))] [(.int (0 : Int32))])) tt
    refine XS.ifNo X5.here hx rfl (hb hby d8_17) rfl ((if0 _ _).trans (flt (Int32.lt_irrefl : ¬ ((0 : Int32) < (0 : Int32)))).1) ?_
    show Steps p.tables e below (T5.setTop (mkF m 20 #[.val (.ref va), .val (.int (0 : Int32))] [])) tt
    refine XS.aloadN X5.here hx rfl (hb hby d8_20) rfl rfl ?_
    exact kk
  obtain ⟨T7, X7, e7, st7⟩ := getF X5 hx hZ hown (host := "") (Or.inl (hw _ (mw 21 rfl))) Via.refl e5 F_values_va (g := (mkF m 21 #[.val (.ref va), .val (.int (0 : Int32))] [(.ref va)])) rfl rfl (hb hby d8_21)
  refine Goal.to (B := T7.setTop (mkF m 24 #[.val (.ref va), .val (.int (0 : Int32))] [(.ref tv)])) st7 ?_
  refine Goal.to (B := T7.setTop (mkF m 25 #[.val (.ref va), .val (.int (0 : Int32))] [(.int (0 : Int32)), (.ref tv)])) (fun tt kk => ?_) ?_
  · show Steps p.tables e below (T7.setTop (mkF m 24 #[.val (.ref va), .val (.int (0 : Int32))] [(.ref tv)])) tt
    refine XS.iloadN X7.here hx rfl (hb hby d8_24) rfl ?_
    exact kk
  obtain ⟨cl8, Ar8, Sl8⟩ := id V_tv
  have hin8 := inA (cl := cl8) Sl8 (j := (0 : Int32)) (by decide) (Nat.le_of_ble_eq_true rfl)
  have hat8 : cl8.slots[((0 : Int32)).toNatClampNeg]? = some (.int r0) := atA Sl8 rfl
  refine Goal.to (B := T7.setTop (mkF m 27 #[.val (.ref va), .val (.int (0 : Int32))] [(.ref va), (.int r0)])) (fun tt kk => ?_) ?_
  · show Steps p.tables e below (T7.setTop (mkF m 25 #[.val (.ref va), .val (.int (0 : Int32))] [(.int (0 : Int32)), (.ref tv)])) tt
    refine X7.iaload hx (j := (0 : Int32)) (v := (.int r0)) (by rw [e7]; exact Ar8.1) (State.isArrayOf_alike hZ.alike Ar8.2.1) Ar8.2.2 hin8 hat8 (g := (mkF m 25 #[.val (.ref va), .val (.int (0 : Int32))] [(.int (0 : Int32)), (.ref tv)])) rfl rfl (hb hby d8_25) _ ?_
    show Steps p.tables e below (T7.setTop (mkF m 26 #[.val (.ref va), .val (.int (0 : Int32))] [(.int r0)])) tt
    refine XS.aloadN X7.here hx rfl (hb hby d8_26) rfl rfl ?_
    exact kk
  obtain ⟨T9, X9, e9, st9⟩ := getF X7 hx hZ hown (host := "") (Or.inl (hw _ (mw 19 rfl))) Via.refl e7 F_highs_va (g := (mkF m 27 #[.val (.ref va), .val (.int (0 : Int32))] [(.ref va), (.int r0)])) rfl rfl (hb hby d8_27)
  refine Goal.to (B := T9.setTop (mkF m 30 #[.val (.ref va), .val (.int (0 : Int32))] [(.ref th), (.int r0)])) st9 ?_
  refine Goal.to (B := T9.setTop (mkF m 31 #[.val (.ref va), .val (.int (0 : Int32))] [(.int (0 : Int32)), (.ref th), (.int r0)])) (fun tt kk => ?_) ?_
  · show Steps p.tables e below (T9.setTop (mkF m 30 #[.val (.ref va), .val (.int (0 : Int32))] [(.ref th), (.int r0)])) tt
    refine XS.iloadN X9.here hx rfl (hb hby d8_30) rfl ?_
    exact kk
  obtain ⟨cl10, Ar10, Sl10⟩ := id V_th
  have hin10 := inA (cl := cl10) Sl10 (j := (0 : Int32)) (by decide) (Nat.le_of_ble_eq_true rfl)
  have hat10 : cl10.slots[((0 : Int32)).toNatClampNeg]? = some (.int q0) := atA Sl10 rfl
  refine Goal.to (B := T9.setTop (mkF m 46 #[.val (.ref va), .val (.int (-1 : Int32))] [(.int (0 : Int32))])) (fun tt kk => ?_) ?_
  · show Steps p.tables e below (T9.setTop (mkF m 31 #[.val (.ref va), .val (.int (0 : Int32))] [(.int (0 : Int32)), (.ref th), (.int r0)])) tt
    refine X9.iaload hx (j := (0 : Int32)) (v := (.int q0)) (by rw [e9]; exact Ar10.1) (State.isArrayOf_alike hZ.alike Ar10.2.1) Ar10.2.2 hin10 hat10 (g := (mkF m 31 #[.val (.ref va), .val (.int (0 : Int32))] [(.int (0 : Int32)), (.ref th), (.int r0)])) rfl rfl (hb hby d8_31) _ ?_
    show Steps p.tables e below (T9.setTop (mkF m 32 #[.val (.ref va), .val (.int (0 : Int32))] [(.int q0), (.int r0)])) tt
    refine XS.icmpNo X9.here hx rfl (hb hby d8_32) rfl (teq hB).2 ?_
    show Steps p.tables e below (T9.setTop (mkF m 35 #[.val (.ref va), .val (.int (0 : Int32))] [])) tt
    refine XS.iinc X9.here hx rfl (hb hby d8_35) rfl (l' := #[.val (.ref va), .val (.int (-1 : Int32))]) rfl ?_
    show Steps p.tables e below (T9.setTop (mkF m 38 #[.val (.ref va), .val (.int (-1 : Int32))] [])) tt
    refine XS.goto X9.here hx rfl (pc0 := 38) (pc' := 16) rfl (hb hby d8_38) (by decide) (by decide) ?_
    show Steps p.tables e below (T9.setTop (mkF m 16 #[.val (.ref va), .val (.int (-1 : Int32))] [])) tt
    refine XS.iloadN X9.here hx rfl (hb hby d8_16) rfl ?_
    show Steps p.tables e below (T9.setTop (mkF m 17 #[.val (.ref va), .val (.int (-1 : Int32))] [(.int (-1 : Int32))])) tt
    refine XS.ifYes X9.here hx rfl (pc0 := 17) (pc' := 41) rfl (hb hby d8_17) rfl ((if0 _ _).trans (tlt ((by decide) : (-1 : Int32) < (0 : Int32))).1) (by decide) (by decide) ?_
    show Steps p.tables e below (T9.setTop (mkF m 41 #[.val (.ref va), .val (.int (-1 : Int32))] [])) tt
    refine XS.iloadN X9.here hx rfl (hb hby d8_41) rfl ?_
    show Steps p.tables e below (T9.setTop (mkF m 42 #[.val (.ref va), .val (.int (-1 : Int32))] [(.int (-1 : Int32))])) tt
    refine XS.ifNo X9.here hx rfl (hb hby d8_42) rfl ((if0 _ _).trans (tlt ((by decide) : (-1 : Int32) < (0 : Int32))).2.1) ?_
    show Steps p.tables e below (T9.setTop (mkF m 45 #[.val (.ref va), .val (.int (-1 : Int32))] [])) tt
    refine XS.iconst X9.here hx rfl (hb hby d8_45) ?_
    exact kk
  exact Goal.retV X9 hx Bd.returns rfl (Or.inl ⟨rfl, Or.inr (Or.inl rfl), _, rfl⟩) (hb hby d8_46) hlk e9 ⟨rfl, N0, rfl⟩ (by decide) (by decide)
def Qav1D (Z : State) (va : Addr) (th : Addr) (tv : Addr) (q0 : Int32) (q1 : Int32) (r0 : Int32) (r1 : Int32) (h0 : Heap) (n0 : Nat) (v : Option Value) (h : Heap) (L : List Loc) : Prop := v = some (.int (1 : Int32)) ∧ Fr n0 L ∧ Keep h0 h [va, tv] ∧ Fld Z h va "com/example/deferra/deferra/engine/Trail" "fromTrace" "Z" (.int (0 : Int32)) ∧ Fld Z h va "com/example/deferra/deferra/engine/Trail" "size" "I" (.int (1 : Int32)) ∧ Fld Z h va "com/example/deferra/deferra/engine/Trail" "values" "[I" (.ref tv) ∧ Fld Z h va "com/example/deferra/deferra/engine/Trail" "highs" "[I" (.ref th) ∧ Fld Z h va "com/example/deferra/deferra/engine/Trail" "saved" "[[Lcom/example/deferra/deferra/engine/Identities;" .null ∧ Ary Z h tv .int [(.int (r0 + (1 : Int32))), (.int r1), (.int (0 : Int32)), (.int (0 : Int32)), (.int (0 : Int32)), (.int (0 : Int32)), (.int (0 : Int32)), (.int (0 : Int32)), (.int (0 : Int32)), (.int (0 : Int32)), (.int (0 : Int32)), (.int (0 : Int32)), (.int (0 : Int32)), (.int (0 : Int32)), (.int (0 : Int32)), (.int (0 : Int32))]
set_option maxRecDepth 65536 in
set_option maxHeartbeats 40000000 in
theorem rmav1D (l : Launch) (Z : State) (a0 : Array Value) (hw : ∀ d ∈ tables_1, d.before a0 Z = true) (ws : List Jvm.Cond) (va : Addr) (th : Addr) (tv : Addr) (q0 : Int32) (q1 : Int32) (r0 : Int32) (r1 : Int32) (h0 : Heap) (n0 : Nat) (Z0 : n0 ≤ h0.size) (E_va : Exa Z h0 va "com/example/deferra/deferra/engine/Trail") (F_fromTrace_va : Fld Z h0 va "com/example/deferra/deferra/engine/Trail" "fromTrace" "Z" (.int (0 : Int32))) (F_size_va : Fld Z h0 va "com/example/deferra/deferra/engine/Trail" "size" "I" (.int (1 : Int32))) (F_values_va : Fld Z h0 va "com/example/deferra/deferra/engine/Trail" "values" "[I" (.ref tv)) (F_highs_va : Fld Z h0 va "com/example/deferra/deferra/engine/Trail" "highs" "[I" (.ref th)) (F_saved_va : Fld Z h0 va "com/example/deferra/deferra/engine/Trail" "saved" "[[Lcom/example/deferra/deferra/engine/Identities;" .null) (V_th : Ary Z h0 th .int [(.int q0), (.int q1), (.int (0 : Int32)), (.int (0 : Int32)), (.int (0 : Int32)), (.int (0 : Int32)), (.int (0 : Int32)), (.int (0 : Int32)), (.int (0 : Int32)), (.int (0 : Int32)), (.int (0 : Int32)), (.int (0 : Int32)), (.int (0 : Int32)), (.int (0 : Int32)), (.int (0 : Int32)), (.int (0 : Int32))]) (V_tv : Ary Z h0 tv .int [(.int r0), (.int r1), (.int (0 : Int32)), (.int (0 : Int32)), (.int (0 : Int32)), (.int (0 : Int32)), (.int (0 : Int32)), (.int (0 : Int32)), (.int (0 : Int32)), (.int (0 : Int32)), (.int (0 : Int32)), (.int (0 : Int32)), (.int (0 : Int32)), (.int (0 : Int32)), (.int (0 : Int32)), (.int (0 : Int32))]) (g_va : n0 ≤ va) (g_tv : n0 ≤ tv) (ne_va_tv : va ≠ tv) (ne_va_th : va ≠ th) (ne_th_tv : th ≠ tv) (hB : ¬ (r0 = q0)) :
    MetFree l (⟨"com/example/deferra/deferra/engine/Trail", "advance", "()Z"⟩ : MethodName) (head1 (Jvm.Cond.code (⟨"com/example/deferra/deferra/engine/Trail", "advance", "()Z"⟩ : MethodName) prog_36_method_22_code 2 (some .boolean) :: ws) ({ frames := 1, cells := 0, slots := 0, locals := 13 } : Room)) (fun a U => a = #[(.ref va)] ∧ Z.Warmed39 U.vm ∧ U.heap = h0) (fun _ _ _ _ _ => True) (fun _ U o U' => ∃ v L, o = .returned v ∧ Qav1D Z va th tv q0 q1 r0 r1 h0 n0 v U'.heap L ∧ FrameEnd U o U' L 0 0) := by
  refine MetFree.of_bodySF (plainFor_of_name pn_8) hisR ?_
  intro p e s m args below meth c s₁ Bd hml0 hP hK
  obtain ⟨rfl, hZ, hh⟩ := hP
  have hx := Bd.exec
  have hby := Bd.bytes
  have hml : c.maxLocals = 2 := hml0
  have hown : s.vm.findClass "com/example/deferra/deferra/engine/Trail" = some m.cls := findClass_of_methodNamed Bd.named
  have hnm := (name_of_methodNamed Bd.named Bd.method).1
  have X0 : Stand p l e ({ frames := 1, cells := 0, slots := 0, locals := 13 } : Room) s m #[(.ref va)] below meth c s₁ [] 0 0 := Stand.of_body Bd
  have e0 : s₁.heap = h0 := by rw [← hh, Bd.state]; rfl
  have N0 := Fr.nil n0
  have hlk : meth.locks = false := BodyLoose.notSynchronized Bd
  show Goal p e below s (Qav1D Z va th tv q0 q1 r0 r1 h0 n0) 0 0 (s₁.setTop (entryFrame m #[(.ref va)] 2))
  refine Goal.to (B := s₁.setTop (mkF m 0 #[.val (.ref va), .unset] [])) (fun tt kk => castTop (ef_8 m va ) kk) ?_
  refine Goal.to (B := s₁.setTop (mkF m 1 #[.val (.ref va), .unset] [(.ref va)])) (fun tt kk => ?_) ?_
  · show Steps p.tables e below (s₁.setTop (mkF m 0 #[.val (.ref va), .unset] [])) tt
    refine XS.aloadN X0.here hx rfl (hb hby d8_0) rfl rfl ?_
    exact kk
  obtain ⟨T1, X1, e1, st1⟩ := getF X0 hx hZ hown (host := "") (Or.inl (hw _ (mw 25 rfl))) Via.refl e0 F_fromTrace_va (g := (mkF m 1 #[.val (.ref va), .unset] [(.ref va)])) rfl rfl (hb hby d8_1)
  refine Goal.to (B := T1.setTop (mkF m 4 #[.val (.ref va), .unset] [(.int (0 : Int32))])) st1 ?_
  refine Goal.to (B := T1.setTop (mkF m 10 #[.val (.ref va), .unset] [(.ref va)])) (fun tt kk => ?_) ?_
  · show Steps p.tables e below (T1.setTop (mkF m 4 #[.val (.ref va), .unset] [(.int (0 : Int32))])) tt
    refine XS.ifYes X1.here hx rfl (pc0 := 4) (pc' := 9) rfl (hb hby d8_4) rfl ((if0 _ _).trans (teq (rfl : (0 : Int32) = (0 : Int32))).1) (by decide) (by decide) ?_
    show Steps p.tables e below (T1.setTop (mkF m 9 #[.val (.ref va), .unset] [])) tt
    refine XS.aloadN X1.here hx rfl (hb hby d8_9) rfl rfl ?_
    exact kk
  obtain ⟨T2, X2, e2, st2⟩ := getF X1 hx hZ hown (host := "") (Or.inl (hw _ (mw 36 rfl))) Via.refl e1 F_size_va (g := (mkF m 10 #[.val (.ref va), .unset] [(.ref va)])) rfl rfl (hb hby d8_10)
  refine Goal.to (B := T2.setTop (mkF m 13 #[.val (.ref va), .unset] [(.int (1 : Int32))])) st2 ?_
  refine Goal.to (B := T2.setTop (mkF m 21 #[.val (.ref va), .val (.int (0 : Int32))] [(.ref va)])) (fun tt kk => ?_) ?_
  · show Steps p.tables e below (T2.setTop (mkF m 13 #[.val (.ref va), .unset] [(.int (1 : Int32))])) tt
    refine XS.iconst X2.here hx rfl (hb hby d8_13) ?_
    show Steps p.tables e below (T2.setTop (mkF m 14 #[.val (.ref va), .unset] [(.int (1 : Int32)), (.int (1 : Int32))])) tt
    refine XS.isub X2.here hx rfl (hb hby d8_14) rfl ?_
    show Steps p.tables e below (T2.setTop (mkF m 15 #[.val (.ref va), .unset] [(.int (0 : Int32))])) tt
    refine XS.istoreN X2.here hx rfl (hb hby d8_15) rfl (l' := #[.val (.ref va), .val (.int (0 : Int32))]) rfl ?_
    show Steps p.tables e below (T2.setTop (mkF m 16 #[.val (.ref va), .val (.int (0 : Int32))] [])) tt
    refine XS.iloadN X2.here hx rfl (hb hby d8_16) rfl ?_
    show Steps p.tables e below (T2.setTop (mkF m 17 #[.val (.ref va), .val (.int (0 : Int32))] [(.int (0 : Int32))])) tt
    refine XS.ifNo X2.here hx rfl (hb hby d8_17) rfl ((if0 _ _).trans (flt (Int32.lt_irrefl : ¬ ((0 : Int32) < (0 : Int32)))).1) ?_
    show Steps p.tables e below (T2.setTop (mkF m 20 #[.val (.ref va), .val (.int (0 : Int32))] [])) tt
    refine XS.aloadN X2.here hx rfl (hb hby d8_20) rfl rfl ?_
    exact kk
  obtain ⟨T3, X3, e3, st3⟩ := getF X2 hx hZ hown (host := "") (Or.inl (hw _ (mw 21 rfl))) Via.refl e2 F_values_va (g := (mkF m 21 #[.val (.ref va), .val (.int (0 : Int32))] [(.ref va)])) rfl rfl (hb hby d8_21)
  refine Goal.to (B := T3.setTop (mkF m 24 #[.val (.ref va), .val (.int (0 : Int32))] [(.ref tv)])) st3 ?_
  refine Goal.to (B := T3.setTop (mkF m 25 #[.val (.ref va), .val (.int (0 : Int32))] [(.int (0 : Int32)), (.ref tv)])) (fun tt kk => ?_) ?_
  · show Steps p.tables e below (T3.setTop (mkF m 24 #[.val (.ref va), .val (.int (0 : Int32))] [(.ref tv)])) tt
    refine XS.iloadN X3.here hx rfl (hb hby d8_24) rfl ?_
    exact kk
  obtain ⟨cl4, Ar4, Sl4⟩ := id V_tv
  have hin4 := inA (cl := cl4) Sl4 (j := (0 : Int32)) (by decide) (Nat.le_of_ble_eq_true rfl)
  have hat4 : cl4.slots[((0 : Int32)).toNatClampNeg]? = some (.int r0) := atA Sl4 rfl
  refine Goal.to (B := T3.setTop (mkF m 27 #[.val (.ref va), .val (.int (0 : Int32))] [(.ref va), (.int r0)])) (fun tt kk => ?_) ?_
  · show Steps p.tables e below (T3.setTop (mkF m 25 #[.val (.ref va), .val (.int (0 : Int32))] [(.int (0 : Int32)), (.ref tv)])) tt
    refine X3.iaload hx (j := (0 : Int32)) (v := (.int r0)) (by rw [e3]; exact Ar4.1) (State.isArrayOf_alike hZ.alike Ar4.2.1) Ar4.2.2 hin4 hat4 (g := (mkF m 25 #[.val (.ref va), .val (.int (0 : Int32))] [(.int (0 : Int32)), (.ref tv)])) rfl rfl (hb hby d8_25) _ ?_
    show Steps p.tables e below (T3.setTop (mkF m 26 #[.val (.ref va), .val (.int (0 : Int32))] [(.int r0)])) tt
    refine XS.aloadN X3.here hx rfl (hb hby d8_26) rfl rfl ?_
    exact kk
  obtain ⟨T5, X5, e5, st5⟩ := getF X3 hx hZ hown (host := "") (Or.inl (hw _ (mw 19 rfl))) Via.refl e3 F_highs_va (g := (mkF m 27 #[.val (.ref va), .val (.int (0 : Int32))] [(.ref va), (.int r0)])) rfl rfl (hb hby d8_27)
  refine Goal.to (B := T5.setTop (mkF m 30 #[.val (.ref va), .val (.int (0 : Int32))] [(.ref th), (.int r0)])) st5 ?_
  refine Goal.to (B := T5.setTop (mkF m 31 #[.val (.ref va), .val (.int (0 : Int32))] [(.int (0 : Int32)), (.ref th), (.int r0)])) (fun tt kk => ?_) ?_
  · show Steps p.tables e below (T5.setTop (mkF m 30 #[.val (.ref va), .val (.int (0 : Int32))] [(.ref th), (.int r0)])) tt
    refine XS.iloadN X5.here hx rfl (hb hby d8_30) rfl ?_
    exact kk
  obtain ⟨cl6, Ar6, Sl6⟩ := id V_th
  have hin6 := inA (cl := cl6) Sl6 (j := (0 : Int32)) (by decide) (Nat.le_of_ble_eq_true rfl)
  have hat6 : cl6.slots[((0 : Int32)).toNatClampNeg]? = some (.int q0) := atA Sl6 rfl
  refine Goal.to (B := T5.setTop (mkF m 48 #[.val (.ref va), .val (.int (0 : Int32))] [(.ref va)])) (fun tt kk => ?_) ?_
  · show Steps p.tables e below (T5.setTop (mkF m 31 #[.val (.ref va), .val (.int (0 : Int32))] [(.int (0 : Int32)), (.ref th), (.int r0)])) tt
    refine X5.iaload hx (j := (0 : Int32)) (v := (.int q0)) (by rw [e5]; exact Ar6.1) (State.isArrayOf_alike hZ.alike Ar6.2.1) Ar6.2.2 hin6 hat6 (g := (mkF m 31 #[.val (.ref va), .val (.int (0 : Int32))] [(.int (0 : Int32)), (.ref th), (.int r0)])) rfl rfl (hb hby d8_31) _ ?_
    show Steps p.tables e below (T5.setTop (mkF m 32 #[.val (.ref va), .val (.int (0 : Int32))] [(.int q0), (.int r0)])) tt
    refine XS.icmpYes X5.here hx rfl (pc0 := 32) (pc' := 41) rfl (hb hby d8_32) rfl (feq hB).2 (by decide) (by decide) ?_
    show Steps p.tables e below (T5.setTop (mkF m 41 #[.val (.ref va), .val (.int (0 : Int32))] [])) tt
    refine XS.iloadN X5.here hx rfl (hb hby d8_41) rfl ?_
    show Steps p.tables e below (T5.setTop (mkF m 42 #[.val (.ref va), .val (.int (0 : Int32))] [(.int (0 : Int32))])) tt
    refine XS.ifYes X5.here hx rfl (pc0 := 42) (pc' := 47) rfl (hb hby d8_42) rfl ((if0 _ _).trans (flt (Int32.lt_irrefl : ¬ ((0 : Int32) < (0 : Int32)))).2.1) (by decide) (by decide) ?_
    show Steps p.tables e below (T5.setTop (mkF m 47 #[.val (.ref va), .val (.int (0 : Int32))] [])) tt
    refine XS.aloadN X5.here hx rfl (hb hby d8_47) rfl rfl ?_
    exact kk
  obtain ⟨T7, X7, e7, st7⟩ := getF X5 hx hZ hown (host := "") (Or.inl (hw _ (mw 21 rfl))) Via.refl e5 F_values_va (g := (mkF m 48 #[.val (.ref va), .val (.int (0 : Int32))] [(.ref va)])) rfl rfl (hb hby d8_48)
  refine Goal.to (B := T7.setTop (mkF m 51 #[.val (.ref va), .val (.int (0 : Int32))] [(.ref tv)])) st7 ?_
  refine Goal.to (B := T7.setTop (mkF m 53 #[.val (.ref va), .val (.int (0 : Int32))] [(.int (0 : Int32)), (.ref tv), (.int (0 : Int32)), (.ref tv)])) (fun tt kk => ?_) ?_
  · show Steps p.tables e below (T7.setTop (mkF m 51 #[.val (.ref va), .val (.int (0 : Int32))] [(.ref tv)])) tt
    refine XS.iloadN X7.here hx rfl (hb hby d8_51) rfl ?_
    show Steps p.tables e below (T7.setTop (mkF m 52 #[.val (.ref va), .val (.int (0 : Int32))] [(.int (0 : Int32)), (.ref tv)])) tt
    refine Jvm.Free.XT.dup2 X7.here hx rfl (hb hby d8_52) rfl rfl rfl ?_
    exact kk
  obtain ⟨cl8, Ar8, Sl8⟩ := id V_tv
  have hin8 := inA (cl := cl8) Sl8 (j := (0 : Int32)) (by decide) (Nat.le_of_ble_eq_true rfl)
  have hat8 : cl8.slots[((0 : Int32)).toNatClampNeg]? = some (.int r0) := atA Sl8 rfl
  refine Goal.to (B := T7.setTop (mkF m 56 #[.val (.ref va), .val (.int (0 : Int32))] [(.int (r0 + (1 : Int32))), (.int (0 : Int32)), (.ref tv)])) (fun tt kk => ?_) ?_
  · show Steps p.tables e below (T7.setTop (mkF m 53 #[.val (.ref va), .val (.int (0 : Int32))] [(.int (0 : Int32)), (.ref tv), (.int (0 : Int32)), (.ref tv)])) tt
    refine X7.iaload hx (j := (0 : Int32)) (v := (.int r0)) (by rw [e7]; exact Ar8.1) (State.isArrayOf_alike hZ.alike Ar8.2.1) Ar8.2.2 hin8 hat8 (g := (mkF m 53 #[.val (.ref va), .val (.int (0 : Int32))] [(.int (0 : Int32)), (.ref tv), (.int (0 : Int32)), (.ref tv)])) rfl rfl (hb hby d8_53) _ ?_
    show Steps p.tables e below (T7.setTop (mkF m 54 #[.val (.ref va), .val (.int (0 : Int32))] [(.int r0), (.int (0 : Int32)), (.ref tv)])) tt
    refine XS.iconst X7.here hx rfl (hb hby d8_54) ?_
    show Steps p.tables e below (T7.setTop (mkF m 55 #[.val (.ref va), .val (.int (0 : Int32))] [(.int (1 : Int32)), (.int r0), (.int (0 : Int32)), (.ref tv)])) tt
    refine XS.iadd X7.here hx rfl (hb hby d8_55) rfl ?_
    exact kk
  obtain ⟨cl9, Ar9, Sl9⟩ := id V_tv
  have hin9 := inA (cl := cl9) Sl9 (j := (0 : Int32)) (by decide) (Nat.le_of_ble_eq_true rfl)
  obtain ⟨T9, h9, X9, e9, W9, st9⟩ := stI X7 hx hZ e7 Ar9 (j := (0 : Int32)) hin9 (g := (mkF m 56 #[.val (.ref va), .val (.int (0 : Int32))] [(.int (r0 + (1 : Int32))), (.int (0 : Int32)), (.ref tv)])) rfl rfl (hb hby d8_56)
  have V9 : Ary Z h9 tv .int [(.int (r0 + (1 : Int32))), (.int r1), (.int (0 : Int32)), (.int (0 : Int32)), (.int (0 : Int32)), (.int (0 : Int32)), (.int (0 : Int32)), (.int (0 : Int32)), (.int (0 : Int32)), (.int (0 : Int32)), (.int (0 : Int32)), (.int (0 : Int32)), (.int (0 : Int32)), (.int (0 : Int32)), (.int (0 : Int32)), (.int (0 : Int32))] := Ary.put Ar9 Sl9 W9 rfl
  have N9 := Fr.snoc X9 N0 g_tv
  refine Goal.to (B := T9.setTop (mkF m 57 #[.val (.ref va), .val (.int (0 : Int32))] [])) st9 ?_
  refine Goal.to (B := T9.setTop (mkF m 61 #[.val (.ref va), .val (.int (0 : Int32))] [(.int (1 : Int32)), (.ref va)])) (fun tt kk => ?_) ?_
  · show Steps p.tables e below (T9.setTop (mkF m 57 #[.val (.ref va), .val (.int (0 : Int32))] [])) tt
    refine XS.aloadN X9.here hx rfl (hb hby d8_57) rfl rfl ?_
    show Steps p.tables e below (T9.setTop (mkF m 58 #[.val (.ref va), .val (.int (0 : Int32))] [(.ref va)])) tt
    refine XS.iloadN X9.here hx rfl (hb hby d8_58) rfl ?_
    show Steps p.tables e below (T9.setTop (mkF m 59 #[.val (.ref va), .val (.int (0 : Int32))] [(.int (0 : Int32)), (.ref va)])) tt
    refine XS.iconst X9.here hx rfl (hb hby d8_59) ?_
    show Steps p.tables e below (T9.setTop (mkF m 60 #[.val (.ref va), .val (.int (0 : Int32))] [(.int (1 : Int32)), (.int (0 : Int32)), (.ref va)])) tt
    refine XS.iadd X9.here hx rfl (hb hby d8_60) rfl ?_
    exact kk
  have f10 : Fld Z h9 va "com/example/deferra/deferra/engine/Trail" "saved" "[[Lcom/example/deferra/deferra/engine/Identities;" .null := (F_saved_va.other W9 (Or.inl ne_va_tv))
  have f11 : n0 ≤ h9.size := (Nat.le_trans Z0 (Keep.of_wr W9).1)
  have f13 : Exa Z h9 va "com/example/deferra/deferra/engine/Trail" := (E_va.wr W9)
  obtain ⟨cq12, q12, q12'⟩ := f13.cell
  obtain ⟨_, _, ⟨T12, L12, k12, n12⟩, -, X12, ⟨Lc12, hQ12, l12, y12, z12⟩, st12⟩ := X9.privateBack hx (y := (⟨"com/example/deferra/deferra/engine/Trail", "forget", "(I)V"⟩ : MethodName)) hown (mvT hZ (hw _ (mw 55 rfl))) (mvT hZ (hw _ (mw 56 rfl))) (selP hZ (hw _ (mw 8 rfl)) (hw _ (mw 57 rfl)) (hw _ (mw 56 rfl)) (by decide)) (Cond.privateMethod_at (mvP hZ (hw _ (mw 57 rfl)) (args := #[]))) (mvT hZ (hw _ (mw 58 rfl))) (by decide) (backOf (W := 0) (rmfg l Z a0 hw [] va (1 : Int32) h9 n0 f11 f10) hZ (hw _ (mw 58 rfl)) (hw _ (mw 9 rfl)) (by decide) (by decide)) (g := (mkF m 61 #[.val (.ref va), .val (.int (0 : Int32))] [(.int (1 : Int32)), (.ref va)])) rfl (by rw [hml]; rfl) (Steps.refl _) (a := va) (by rw [e9]; exact q12) q12' (argsL := [(.int (1 : Int32))]) (rest := []) (lenOf pd_1 rfl) rfl (by show 2 * 0 + _ ≤ _; exact Nat.le_of_eq rfl) (hb hby d8_61) (fun _ _ => ⟨rfl, e9, (by decide : 0 + 0 ≤ _), (by decide : 0 + 0 ≤ _)⟩)
  dsimp only [Pt.U, Pt.locs, Pt.cells, Pt.slots] at X12 l12 y12 z12 st12 hQ12
  subst l12 y12 z12
  obtain ⟨rfl, N12q, e12⟩ := hQ12
  have N12 := Fr.app N9 N12q
  refine Goal.tr (B := T12.setTop (mkF m 64 #[.val (.ref va), .val (.int (0 : Int32))] [])) st12 ?_
  refine Goal.to (B := T12.setTop (mkF m 68 #[.val (.ref va), .val (.int (0 : Int32))] [(.int (1 : Int32)), (.ref va)])) (fun tt kk => ?_) ?_
  · show Steps p.tables e below (T12.setTop (mkF m 64 #[.val (.ref va), .val (.int (0 : Int32))] [])) tt
    refine XS.aloadN X12.here hx rfl (hb hby d8_64) rfl rfl ?_
    show Steps p.tables e below (T12.setTop (mkF m 65 #[.val (.ref va), .val (.int (0 : Int32))] [(.ref va)])) tt
    refine XS.iloadN X12.here hx rfl (hb hby d8_65) rfl ?_
    show Steps p.tables e below (T12.setTop (mkF m 66 #[.val (.ref va), .val (.int (0 : Int32))] [(.int (0 : Int32)), (.ref va)])) tt
    refine XS.iconst X12.here hx rfl (hb hby d8_66) ?_
    show Steps p.tables e below (T12.setTop (mkF m 67 #[.val (.ref va), .val (.int (0 : Int32))] [(.int (1 : Int32)), (.int (0 : Int32)), (.ref va)])) tt
    refine XS.iadd X12.here hx rfl (hb hby d8_67) rfl ?_
    exact kk
  have f14 : Fld Z h9 va "com/example/deferra/deferra/engine/Trail" "size" "I" (.int (1 : Int32)) := (F_size_va.other W9 (Or.inl ne_va_tv))
  obtain ⟨T15, h15, X15, e15, W15, st15⟩ := putF X12 hx hZ hown (host := "") (Or.inl (hw _ (mw 36 rfl))) Via.refl e12 f14 f13 (Or.inl (hw _ (mw 37 rfl))) (hw _ (mw 8 rfl)) (ty := .int) (by decide) rfl rfl (g := (mkF m 68 #[.val (.ref va), .val (.int (0 : Int32))] [(.int (1 : Int32)), (.ref va)])) rfl rfl (hb hby d8_68)
  have Fw15 : Fld Z h15 va "com/example/deferra/deferra/engine/Trail" "size" "I" (.int (1 : Int32)) := f14.same W15
  have N15 := Fr.snoc X15 N12 g_va
  refine Goal.to (B := T15.setTop (mkF m 71 #[.val (.ref va), .val (.int (0 : Int32))] [])) st15 ?_
  refine Goal.to (B := T15.setTop (mkF m 72 #[.val (.ref va), .val (.int (0 : Int32))] [(.int (1 : Int32))])) (fun tt kk => ?_) ?_
  · show Steps p.tables e below (T15.setTop (mkF m 71 #[.val (.ref va), .val (.int (0 : Int32))] [])) tt
    refine XS.iconst X15.here hx rfl (hb hby d8_71) ?_
    exact kk
  have f16 : Keep h0 h15 [va, tv] := (((Keep.refl h0 [va, tv]).wr W9 (Or.inl (List.mem_of_getElem? (i := 1) rfl))).wr W15 (Or.inl (List.mem_of_getElem? (i := 0) rfl)))
  have f17 : Fld Z h15 va "com/example/deferra/deferra/engine/Trail" "fromTrace" "Z" (.int (0 : Int32)) := ((F_fromTrace_va.other W9 (Or.inl ne_va_tv)).other W15 (Or.inr (slot_ne (Or.inr (hw _ (mw 26 rfl))) (Or.inl (hw _ (mw 37 rfl))) (by decide) (t := .boolean) (t' := .int) (by decide) (by decide))))
  have f18 : Fld Z h15 va "com/example/deferra/deferra/engine/Trail" "values" "[I" (.ref tv) := ((F_values_va.other W9 (Or.inl ne_va_tv)).other W15 (Or.inr (slot_ne (Or.inl (hw _ (mw 22 rfl))) (Or.inl (hw _ (mw 37 rfl))) (by decide) (t := (.array .int)) (t' := .int) (by decide) (by decide))))
  have f19 : Fld Z h15 va "com/example/deferra/deferra/engine/Trail" "highs" "[I" (.ref th) := ((F_highs_va.other W9 (Or.inl ne_va_tv)).other W15 (Or.inr (slot_ne (Or.inl (hw _ (mw 20 rfl))) (Or.inl (hw _ (mw 37 rfl))) (by decide) (t := (.array .int)) (t' := .int) (by decide) (by decide))))
  have f20 : Fld Z h15 va "com/example/deferra/deferra/engine/Trail" "saved" "[[Lcom/example/deferra/deferra/engine/Identities;" .null := (f10.other W15 (Or.inr (slot_ne (Or.inl (hw _ (mw 60 rfl))) (Or.inl (hw _ (mw 37 rfl))) (by decide) (t := (.array (.array (.object "com/example/deferra/deferra/engine/Identities")))) (t' := .int) (by decide) (by decide))))
  have f21 : Ary Z h15 tv .int [(.int (r0 + (1 : Int32))), (.int r1), (.int (0 : Int32)), (.int (0 : Int32)), (.int (0 : Int32)), (.int (0 : Int32)), (.int (0 : Int32)), (.int (0 : Int32)), (.int (0 : Int32)), (.int (0 : Int32)), (.int (0 : Int32)), (.int (0 : Int32)), (.int (0 : Int32)), (.int (0 : Int32)), (.int (0 : Int32)), (.int (0 : Int32))] := (V9.other W15 (Ne.symm ne_va_tv))
  exact Goal.retV X15 hx Bd.returns rfl (Or.inl ⟨rfl, Or.inr (Or.inl rfl), _, rfl⟩) (hb hby d8_72) hlk e15 ⟨rfl, N15, f16, f17, Fw15, f18, f19, f20, f21⟩ (by decide) (by decide)
def Qav1E (Z : State) (va : Addr) (th : Addr) (tv : Addr) (q0 : Int32) (q1 : Int32) (r0 : Int32) (r1 : Int32) (h0 : Heap) (n0 : Nat) (v : Option Value) (h : Heap) (L : List Loc) : Prop := v = some (.int (0 : Int32)) ∧ Fr n0 L ∧ h = h0
set_option maxRecDepth 65536 in
set_option maxHeartbeats 40000000 in
theorem rmav1E (l : Launch) (Z : State) (a0 : Array Value) (hw : ∀ d ∈ tables_1, d.before a0 Z = true) (ws : List Jvm.Cond) (va : Addr) (th : Addr) (tv : Addr) (q0 : Int32) (q1 : Int32) (r0 : Int32) (r1 : Int32) (h0 : Heap) (n0 : Nat) (Z0 : n0 ≤ h0.size) (E_va : Exa Z h0 va "com/example/deferra/deferra/engine/Trail") (F_fromTrace_va : Fld Z h0 va "com/example/deferra/deferra/engine/Trail" "fromTrace" "Z" (.int (0 : Int32))) (F_size_va : Fld Z h0 va "com/example/deferra/deferra/engine/Trail" "size" "I" (.int (1 : Int32))) (F_values_va : Fld Z h0 va "com/example/deferra/deferra/engine/Trail" "values" "[I" (.ref tv)) (F_highs_va : Fld Z h0 va "com/example/deferra/deferra/engine/Trail" "highs" "[I" (.ref th)) (F_saved_va : Fld Z h0 va "com/example/deferra/deferra/engine/Trail" "saved" "[[Lcom/example/deferra/deferra/engine/Identities;" .null) (V_th : Ary Z h0 th .int [(.int q0), (.int q1), (.int (0 : Int32)), (.int (0 : Int32)), (.int (0 : Int32)), (.int (0 : Int32)), (.int (0 : Int32)), (.int (0 : Int32)), (.int (0 : Int32)), (.int (0 : Int32)), (.int (0 : Int32)), (.int (0 : Int32)), (.int (0 : Int32)), (.int (0 : Int32)), (.int (0 : Int32)), (.int (0 : Int32))]) (V_tv : Ary Z h0 tv .int [(.int r0), (.int r1), (.int (0 : Int32)), (.int (0 : Int32)), (.int (0 : Int32)), (.int (0 : Int32)), (.int (0 : Int32)), (.int (0 : Int32)), (.int (0 : Int32)), (.int (0 : Int32)), (.int (0 : Int32)), (.int (0 : Int32)), (.int (0 : Int32)), (.int (0 : Int32)), (.int (0 : Int32)), (.int (0 : Int32))]) (g_va : n0 ≤ va) (g_tv : n0 ≤ tv) (ne_va_tv : va ≠ tv) (ne_va_th : va ≠ th) (ne_th_tv : th ≠ tv) (hB : r0 = q0) :
    MetFree l (⟨"com/example/deferra/deferra/engine/Trail", "advance", "()Z"⟩ : MethodName) (head1 (Jvm.Cond.code (⟨"com/example/deferra/deferra/engine/Trail", "advance", "()Z"⟩ : MethodName) prog_36_method_22_code 2 (some .boolean) :: ws) ({ frames := 0, cells := 0, slots := 0, locals := 0 } : Room)) (fun a U => a = #[(.ref va)] ∧ Z.Warmed39 U.vm ∧ U.heap = h0) (fun _ _ _ _ _ => True) (fun _ U o U' => ∃ v L, o = .returned v ∧ Qav1E Z va th tv q0 q1 r0 r1 h0 n0 v U'.heap L ∧ FrameEnd U o U' L 0 0) := by
  refine MetFree.of_bodySF (plainFor_of_name pn_8) hisR ?_
  intro p e s m args below meth c s₁ Bd hml0 hP hK
  obtain ⟨rfl, hZ, hh⟩ := hP
  have hx := Bd.exec
  have hby := Bd.bytes
  have hml : c.maxLocals = 2 := hml0
  have hown : s.vm.findClass "com/example/deferra/deferra/engine/Trail" = some m.cls := findClass_of_methodNamed Bd.named
  have hnm := (name_of_methodNamed Bd.named Bd.method).1
  have X0 : Stand p l e ({ frames := 0, cells := 0, slots := 0, locals := 0 } : Room) s m #[(.ref va)] below meth c s₁ [] 0 0 := Stand.of_body Bd
  have e0 : s₁.heap = h0 := by rw [← hh, Bd.state]; rfl
  have N0 := Fr.nil n0
  have hlk : meth.locks = false := BodyLoose.notSynchronized Bd
  show Goal p e below s (Qav1E Z va th tv q0 q1 r0 r1 h0 n0) 0 0 (s₁.setTop (entryFrame m #[(.ref va)] 2))
  refine Goal.to (B := s₁.setTop (mkF m 0 #[.val (.ref va), .unset] [])) (fun tt kk => castTop (ef_8 m va ) kk) ?_
  refine Goal.to (B := s₁.setTop (mkF m 1 #[.val (.ref va), .unset] [(.ref va)])) (fun tt kk => ?_) ?_
  · show Steps p.tables e below (s₁.setTop (mkF m 0 #[.val (.ref va), .unset] [])) tt
    refine XS.aloadN X0.here hx rfl (hb hby d8_0) rfl rfl ?_
    exact kk
  obtain ⟨T1, X1, e1, st1⟩ := getF X0 hx hZ hown (host := "") (Or.inl (hw _ (mw 25 rfl))) Via.refl e0 F_fromTrace_va (g := (mkF m 1 #[.val (.ref va), .unset] [(.ref va)])) rfl rfl (hb hby d8_1)
  refine Goal.to (B := T1.setTop (mkF m 4 #[.val (.ref va), .unset] [(.int (0 : Int32))])) st1 ?_
  refine Goal.to (B := T1.setTop (mkF m 10 #[.val (.ref va), .unset] [(.ref va)])) (fun tt kk => ?_) ?_
  · show Steps p.tables e below (T1.setTop (mkF m 4 #[.val (.ref va), .unset] [(.int (0 : Int32))])) tt
    refine XS.ifYes X1.here hx rfl (pc0 := 4) (pc' := 9) rfl (hb hby d8_4) rfl ((if0 _ _).trans (teq (rfl : (0 : Int32) = (0 : Int32))).1) (by decide) (by decide) ?_
    show Steps p.tables e below (T1.setTop (mkF m 9 #[.val (.ref va), .unset] [])) tt
    refine XS.aloadN X1.here hx rfl (hb hby d8_9) rfl rfl ?_
    exact kk
  obtain ⟨T2, X2, e2, st2⟩ := getF X1 hx hZ hown (host := "") (Or.inl (hw _ (mw 36 rfl))) Via.refl e1 F_size_va (g := (mkF m 10 #[.val (.ref va), .unset] [(.ref va)])) rfl rfl (hb hby d8_10)
  refine Goal.to (B := T2.setTop (mkF m 13 #[.val (.ref va), .unset] [(.int (1 : Int32))])) st2 ?_
  refine Goal.to (B := T2.setTop (mkF m 21 #[.val (.ref va), .val (.int (0 : Int32))] [(.ref va)])) (fun tt kk => ?_) ?_
  · show Steps p.tables e below (T2.setTop (mkF m 13 #[.val (.ref va), .unset] [(.int (1 : Int32))])) tt
    refine XS.iconst X2.here hx rfl (hb hby d8_13) ?_
    show Steps p.tables e below (T2.setTop (mkF m 14 #[.val (.ref va), .unset] [(.int (1 : Int32)), (.int (1 : Int32))])) tt
    refine XS.isub X2.here hx rfl (hb hby d8_14) rfl ?_
    show Steps p.tables e below (T2.setTop (mkF m 15 #[.val (.ref va), .unset] [(.int (0 : Int32))])) tt
    refine XS.istoreN X2.here hx rfl (hb hby d8_15) rfl (l' := #[.val (.ref va), .val (.int (0 : Int32))]) rfl ?_
    show Steps p.tables e below (T2.setTop (mkF m 16 #[.val (.ref va), .val (.int (0 : Int32))] [])) tt
    refine XS.iloadN X2.here hx rfl (hb hby d8_16) rfl ?_
    show Steps p.tables e below (T2.setTop (mkF m 17 #[.val (.ref va), .val (.int (0 : Int32))] [(.int (0 : Int32))])) tt
    refine XS.ifNo X2.here hx rfl (hb hby d8_17) rfl ((if0 _ _).trans (flt (Int32.lt_irrefl : ¬ ((0 : Int32) < (0 : Int32)))).1) ?_
    show Steps p.tables e below (T2.setTop (mkF m 20 #[.val (.ref va), .val (.int (0 : Int32))] [])) tt
    refine XS.aloadN X2.here hx rfl (hb hby d8_20) rfl rfl ?_
    exact kk
  obtain ⟨T3, X3, e3, st3⟩ := getF X2 hx hZ hown (host := "") (Or.inl (hw _ (mw 21 rfl))) Via.refl e2 F_values_va (g := (mkF m 21 #[.val (.ref va), .val (.int (0 : Int32))] [(.ref va)])) rfl rfl (hb hby d8_21)
  refine Goal.to (B := T3.setTop (mkF m 24 #[.val (.ref va), .val (.int (0 : Int32))] [(.ref tv)])) st3 ?_
  refine Goal.to (B := T3.setTop (mkF m 25 #[.val (.ref va), .val (.int (0 : Int32))] [(.int (0 : Int32)), (.ref tv)])) (fun tt kk => ?_) ?_
  · show Steps p.tables e below (T3.setTop (mkF m 24 #[.val (.ref va), .val (.int (0 : Int32))] [(.ref tv)])) tt
    refine XS.iloadN X3.here hx rfl (hb hby d8_24) rfl ?_
    exact kk
  obtain ⟨cl4, Ar4, Sl4⟩ := id V_tv
  have hin4 := inA (cl := cl4) Sl4 (j := (0 : Int32)) (by decide) (Nat.le_of_ble_eq_true rfl)
  have hat4 : cl4.slots[((0 : Int32)).toNatClampNeg]? = some (.int r0) := atA Sl4 rfl
  refine Goal.to (B := T3.setTop (mkF m 27 #[.val (.ref va), .val (.int (0 : Int32))] [(.ref va), (.int r0)])) (fun tt kk => ?_) ?_
  · show Steps p.tables e below (T3.setTop (mkF m 25 #[.val (.ref va), .val (.int (0 : Int32))] [(.int (0 : Int32)), (.ref tv)])) tt
    refine X3.iaload hx (j := (0 : Int32)) (v := (.int r0)) (by rw [e3]; exact Ar4.1) (State.isArrayOf_alike hZ.alike Ar4.2.1) Ar4.2.2 hin4 hat4 (g := (mkF m 25 #[.val (.ref va), .val (.int (0 : Int32))] [(.int (0 : Int32)), (.ref tv)])) rfl rfl (hb hby d8_25) _ ?_
    show Steps p.tables e below (T3.setTop (mkF m 26 #[.val (.ref va), .val (.int (0 : Int32))] [(.int r0)])) tt
    refine XS.aloadN X3.here hx rfl (hb hby d8_26) rfl rfl ?_
    exact kk
  obtain ⟨T5, X5, e5, st5⟩ := getF X3 hx hZ hown (host := "") (Or.inl (hw _ (mw 19 rfl))) Via.refl e3 F_highs_va (g := (mkF m 27 #[.val (.ref va), .val (.int (0 : Int32))] [(.ref va), (.int r0)])) rfl rfl (hb hby d8_27)
  refine Goal.to (B := T5.setTop (mkF m 30 #[.val (.ref va), .val (.int (0 : Int32))] [(.ref th), (.int r0)])) st5 ?_
  refine Goal.to (B := T5.setTop (mkF m 31 #[.val (.ref va), .val (.int (0 : Int32))] [(.int (0 : Int32)), (.ref th), (.int r0)])) (fun tt kk => ?_) ?_
  · show Steps p.tables e below (T5.setTop (mkF m 30 #[.val (.ref va), .val (.int (0 : Int32))] [(.ref th), (.int r0)])) tt
    refine XS.iloadN X5.here hx rfl (hb hby d8_30) rfl ?_
    exact kk
  obtain ⟨cl6, Ar6, Sl6⟩ := id V_th
  have hin6 := inA (cl := cl6) Sl6 (j := (0 : Int32)) (by decide) (Nat.le_of_ble_eq_true rfl)
  have hat6 : cl6.slots[((0 : Int32)).toNatClampNeg]? = some (.int q0) := atA Sl6 rfl
  refine Goal.to (B := T5.setTop (mkF m 46 #[.val (.ref va), .val (.int (-1 : Int32))] [(.int (0 : Int32))])) (fun tt kk => ?_) ?_
  · show Steps p.tables e below (T5.setTop (mkF m 31 #[.val (.ref va), .val (.int (0 : Int32))] [(.int (0 : Int32)), (.ref th), (.int r0)])) tt
    refine X5.iaload hx (j := (0 : Int32)) (v := (.int q0)) (by rw [e5]; exact Ar6.1) (State.isArrayOf_alike hZ.alike Ar6.2.1) Ar6.2.2 hin6 hat6 (g := (mkF m 31 #[.val (.ref va), .val (.int (0 : Int32))] [(.int (0 : Int32)), (.ref th), (.int r0)])) rfl rfl (hb hby d8_31) _ ?_
    show Steps p.tables e below (T5.setTop (mkF m 32 #[.val (.ref va), .val (.int (0 : Int32))] [(.int q0), (.int r0)])) tt
    refine XS.icmpNo X5.here hx rfl (hb hby d8_32) rfl (teq hB).2 ?_
    show Steps p.tables e below (T5.setTop (mkF m 35 #[.val (.ref va), .val (.int (0 : Int32))] [])) tt
    refine XS.iinc X5.here hx rfl (hb hby d8_35) rfl (l' := #[.val (.ref va), .val (.int (-1 : Int32))]) rfl ?_
    show Steps p.tables e below (T5.setTop (mkF m 38 #[.val (.ref va), .val (.int (-1 : Int32))] [])) tt
    refine XS.goto X5.here hx rfl (pc0 := 38) (pc' := 16) rfl (hb hby d8_38) (by decide) (by decide) ?_
    show Steps p.tables e below (T5.setTop (mkF m 16 #[.val (.ref va), .val (.int (-1 : Int32))] [])) tt
    refine XS.iloadN X5.here hx rfl (hb hby d8_16) rfl ?_
    show Steps p.tables e below (T5.setTop (mkF m 17 #[.val (.ref va), .val (.int (-1 : Int32))] [(.int (-1 : Int32))])) tt
    refine XS.ifYes X5.here hx rfl (pc0 := 17) (pc' := 41) rfl (hb hby d8_17) rfl ((if0 _ _).trans (tlt ((by decide) : (-1 : Int32) < (0 : Int32))).1) (by decide) (by decide) ?_
    show Steps p.tables e below (T5.setTop (mkF m 41 #[.val (.ref va), .val (.int (-1 : Int32))] [])) tt
    refine XS.iloadN X5.here hx rfl (hb hby d8_41) rfl ?_
    show Steps p.tables e below (T5.setTop (mkF m 42 #[.val (.ref va), .val (.int (-1 : Int32))] [(.int (-1 : Int32))])) tt
    refine XS.ifNo X5.here hx rfl (hb hby d8_42) rfl ((if0 _ _).trans (tlt ((by decide) : (-1 : Int32) < (0 : Int32))).2.1) ?_
    show Steps p.tables e below (T5.setTop (mkF m 45 #[.val (.ref va), .val (.int (-1 : Int32))] [])) tt
    refine XS.iconst X5.here hx rfl (hb hby d8_45) ?_
    exact kk
  exact Goal.retV X5 hx Bd.returns rfl (Or.inl ⟨rfl, Or.inr (Or.inl rfl), _, rfl⟩) (hb hby d8_46) hlk e5 ⟨rfl, N0, rfl⟩ (by decide) (by decide)
theorem ef_10 (m : MethodId) (x0 : Addr)  : entryFrame m #[(.ref x0)] 1 = mkF m 0 #[.val (.ref x0)] [] := by first | (simp [entryFrame, mkF, argsToLocals, Value.category]; done) | rfl
theorem pn_10 : plainName "com/example/deferra/deferra/engine/Trail" = true := by first | (simp [plainName, overriddenIn]; done) | decide +kernel
theorem d10_0 : decode prog_36_method_14_code 0 = .ok (.aload_n 0, 1) := by decide +kernel
theorem d10_1 : decode prog_36_method_14_code 1 = .ok (.getfield 16, 3) := by decide +kernel
theorem d10_4 : decode prog_36_method_14_code 4 = .ok (.aload_n 0, 1) := by decide +kernel
theorem d10_5 : decode prog_36_method_14_code 5 = .ok (.getfield 35, 3) := by decide +kernel
theorem d10_8 : decode prog_36_method_14_code 8 = .ok (.iconst 1, 1) := by decide +kernel
theorem d10_9 : decode prog_36_method_14_code 9 = .ok (.isub, 1) := by decide +kernel
theorem d10_10 : decode prog_36_method_14_code 10 = .ok (.iaload, 1) := by decide +kernel
theorem d10_11 : decode prog_36_method_14_code 11 = .ok (.aload_n 0, 1) := by decide +kernel
theorem d10_12 : decode prog_36_method_14_code 12 = .ok (.getfield 13, 3) := by decide +kernel
theorem d10_15 : decode prog_36_method_14_code 15 = .ok (.aload_n 0, 1) := by decide +kernel
theorem d10_16 : decode prog_36_method_14_code 16 = .ok (.getfield 35, 3) := by decide +kernel
theorem d10_19 : decode prog_36_method_14_code 19 = .ok (.iconst 1, 1) := by decide +kernel
theorem d10_20 : decode prog_36_method_14_code 20 = .ok (.isub, 1) := by decide +kernel
theorem d10_21 : decode prog_36_method_14_code 21 = .ok (.iaload, 1) := by decide +kernel
theorem d10_22 : decode prog_36_method_14_code 22 = .ok (.if_icmp .ne 7, 3) := by decide +kernel
theorem d10_25 : decode prog_36_method_14_code 25 = .ok (.iconst 1, 1) := by decide +kernel
theorem d10_26 : decode prog_36_method_14_code 26 = .ok (.goto 4, 3) := by decide +kernel
theorem d10_29 : decode prog_36_method_14_code 29 = .ok (.iconst 0, 1) := by decide +kernel
theorem d10_30 : decode prog_36_method_14_code 30 = .ok (.ireturn, 1) := by decide +kernel
def Qcl1 (Z : State) (va : Addr) (th : Addr) (tv : Addr) (q0 : Int32) (q1 : Int32) (r0 : Int32) (r1 : Int32) (h0 : Heap) (n0 : Nat) (v : Option Value) (h : Heap) (L : List Loc) : Prop := v = some (.int (if r0 = q0 then (1 : Int32) else (0 : Int32))) ∧ Fr n0 L ∧ h = h0
set_option maxRecDepth 65536 in
set_option maxHeartbeats 40000000 in
theorem rmcl1 (l : Launch) (Z : State) (a0 : Array Value) (hw : ∀ d ∈ tables_1, d.before a0 Z = true) (ws : List Jvm.Cond) (va : Addr) (th : Addr) (tv : Addr) (q0 : Int32) (q1 : Int32) (r0 : Int32) (r1 : Int32) (h0 : Heap) (n0 : Nat) (Z0 : n0 ≤ h0.size) (F_size_va : Fld Z h0 va "com/example/deferra/deferra/engine/Trail" "size" "I" (.int (1 : Int32))) (F_values_va : Fld Z h0 va "com/example/deferra/deferra/engine/Trail" "values" "[I" (.ref tv)) (F_highs_va : Fld Z h0 va "com/example/deferra/deferra/engine/Trail" "highs" "[I" (.ref th)) (V_th : Ary Z h0 th .int [(.int q0), (.int q1), (.int (0 : Int32)), (.int (0 : Int32)), (.int (0 : Int32)), (.int (0 : Int32)), (.int (0 : Int32)), (.int (0 : Int32)), (.int (0 : Int32)), (.int (0 : Int32)), (.int (0 : Int32)), (.int (0 : Int32)), (.int (0 : Int32)), (.int (0 : Int32)), (.int (0 : Int32)), (.int (0 : Int32))]) (V_tv : Ary Z h0 tv .int [(.int r0), (.int r1), (.int (0 : Int32)), (.int (0 : Int32)), (.int (0 : Int32)), (.int (0 : Int32)), (.int (0 : Int32)), (.int (0 : Int32)), (.int (0 : Int32)), (.int (0 : Int32)), (.int (0 : Int32)), (.int (0 : Int32)), (.int (0 : Int32)), (.int (0 : Int32)), (.int (0 : Int32)), (.int (0 : Int32))]) :
    MetFree l (⟨"com/example/deferra/deferra/engine/Trail", "changeIsLast", "()Z"⟩ : MethodName) (head1 (Jvm.Cond.code (⟨"com/example/deferra/deferra/engine/Trail", "changeIsLast", "()Z"⟩ : MethodName) prog_36_method_14_code 1 (some .boolean) :: ws) ({ frames := 0, cells := 0, slots := 0, locals := 0 } : Room)) (fun a U => a = #[(.ref va)] ∧ Z.Warmed39 U.vm ∧ U.heap = h0) (fun _ _ _ _ _ => True) (fun _ U o U' => ∃ v L, o = .returned v ∧ Qcl1 Z va th tv q0 q1 r0 r1 h0 n0 v U'.heap L ∧ FrameEnd U o U' L 0 0) := by
  refine MetFree.of_bodySF (plainFor_of_name pn_10) hisR ?_
  intro p e s m args below meth c s₁ Bd hml0 hP hK
  obtain ⟨rfl, hZ, hh⟩ := hP
  have hx := Bd.exec
  have hby := Bd.bytes
  have hml : c.maxLocals = 1 := hml0
  have hown : s.vm.findClass "com/example/deferra/deferra/engine/Trail" = some m.cls := findClass_of_methodNamed Bd.named
  have hnm := (name_of_methodNamed Bd.named Bd.method).1
  have X0 : Stand p l e ({ frames := 0, cells := 0, slots := 0, locals := 0 } : Room) s m #[(.ref va)] below meth c s₁ [] 0 0 := Stand.of_body Bd
  have e0 : s₁.heap = h0 := by rw [← hh, Bd.state]; rfl
  have N0 := Fr.nil n0
  have hlk : meth.locks = false := BodyLoose.notSynchronized Bd
  show Goal p e below s (Qcl1 Z va th tv q0 q1 r0 r1 h0 n0) 0 0 (s₁.setTop (entryFrame m #[(.ref va)] 1))
  refine Goal.to (B := s₁.setTop (mkF m 0 #[.val (.ref va)] [])) (fun tt kk => castTop (ef_10 m va ) kk) ?_
  refine Goal.to (B := s₁.setTop (mkF m 1 #[.val (.ref va)] [(.ref va)])) (fun tt kk => ?_) ?_
  · show Steps p.tables e below (s₁.setTop (mkF m 0 #[.val (.ref va)] [])) tt
    refine XS.aloadN X0.here hx rfl (hb hby d10_0) rfl rfl ?_
    exact kk
  obtain ⟨T1, X1, e1, st1⟩ := getF X0 hx hZ hown (host := "") (Or.inl (hw _ (mw 21 rfl))) Via.refl e0 F_values_va (g := (mkF m 1 #[.val (.ref va)] [(.ref va)])) rfl rfl (hb hby d10_1)
  refine Goal.to (B := T1.setTop (mkF m 4 #[.val (.ref va)] [(.ref tv)])) st1 ?_
  refine Goal.to (B := T1.setTop (mkF m 5 #[.val (.ref va)] [(.ref va), (.ref tv)])) (fun tt kk => ?_) ?_
  · show Steps p.tables e below (T1.setTop (mkF m 4 #[.val (.ref va)] [(.ref tv)])) tt
    refine XS.aloadN X1.here hx rfl (hb hby d10_4) rfl rfl ?_
    exact kk
  obtain ⟨T2, X2, e2, st2⟩ := getF X1 hx hZ hown (host := "") (Or.inl (hw _ (mw 36 rfl))) Via.refl e1 F_size_va (g := (mkF m 5 #[.val (.ref va)] [(.ref va), (.ref tv)])) rfl rfl (hb hby d10_5)
  refine Goal.to (B := T2.setTop (mkF m 8 #[.val (.ref va)] [(.int (1 : Int32)), (.ref tv)])) st2 ?_
  refine Goal.to (B := T2.setTop (mkF m 10 #[.val (.ref va)] [(.int (0 : Int32)), (.ref tv)])) (fun tt kk => ?_) ?_
  · show Steps p.tables e below (T2.setTop (mkF m 8 #[.val (.ref va)] [(.int (1 : Int32)), (.ref tv)])) tt
    refine XS.iconst X2.here hx rfl (hb hby d10_8) ?_
    show Steps p.tables e below (T2.setTop (mkF m 9 #[.val (.ref va)] [(.int (1 : Int32)), (.int (1 : Int32)), (.ref tv)])) tt
    refine XS.isub X2.here hx rfl (hb hby d10_9) rfl ?_
    exact kk
  obtain ⟨cl3, Ar3, Sl3⟩ := id V_tv
  have hin3 := inA (cl := cl3) Sl3 (j := (0 : Int32)) (by decide) (Nat.le_of_ble_eq_true rfl)
  have hat3 : cl3.slots[((0 : Int32)).toNatClampNeg]? = some (.int r0) := atA Sl3 rfl
  refine Goal.to (B := T2.setTop (mkF m 12 #[.val (.ref va)] [(.ref va), (.int r0)])) (fun tt kk => ?_) ?_
  · show Steps p.tables e below (T2.setTop (mkF m 10 #[.val (.ref va)] [(.int (0 : Int32)), (.ref tv)])) tt
    refine X2.iaload hx (j := (0 : Int32)) (v := (.int r0)) (by rw [e2]; exact Ar3.1) (State.isArrayOf_alike hZ.alike Ar3.2.1) Ar3.2.2 hin3 hat3 (g := (mkF m 10 #[.val (.ref va)] [(.int (0 : Int32)), (.ref tv)])) rfl rfl (hb hby d10_10) _ ?_
    show Steps p.tables e below (T2.setTop (mkF m 11 #[.val (.ref va)] [(.int r0)])) tt
    refine XS.aloadN X2.here hx rfl (hb hby d10_11) rfl rfl ?_
    exact kk
  obtain ⟨T4, X4, e4, st4⟩ := getF X2 hx hZ hown (host := "") (Or.inl (hw _ (mw 19 rfl))) Via.refl e2 F_highs_va (g := (mkF m 12 #[.val (.ref va)] [(.ref va), (.int r0)])) rfl rfl (hb hby d10_12)
  refine Goal.to (B := T4.setTop (mkF m 15 #[.val (.ref va)] [(.ref th), (.int r0)])) st4 ?_
  refine Goal.to (B := T4.setTop (mkF m 16 #[.val (.ref va)] [(.ref va), (.ref th), (.int r0)])) (fun tt kk => ?_) ?_
  · show Steps p.tables e below (T4.setTop (mkF m 15 #[.val (.ref va)] [(.ref th), (.int r0)])) tt
    refine XS.aloadN X4.here hx rfl (hb hby d10_15) rfl rfl ?_
    exact kk
  obtain ⟨T5, X5, e5, st5⟩ := getF X4 hx hZ hown (host := "") (Or.inl (hw _ (mw 36 rfl))) Via.refl e4 F_size_va (g := (mkF m 16 #[.val (.ref va)] [(.ref va), (.ref th), (.int r0)])) rfl rfl (hb hby d10_16)
  refine Goal.to (B := T5.setTop (mkF m 19 #[.val (.ref va)] [(.int (1 : Int32)), (.ref th), (.int r0)])) st5 ?_
  refine Goal.to (B := T5.setTop (mkF m 21 #[.val (.ref va)] [(.int (0 : Int32)), (.ref th), (.int r0)])) (fun tt kk => ?_) ?_
  · show Steps p.tables e below (T5.setTop (mkF m 19 #[.val (.ref va)] [(.int (1 : Int32)), (.ref th), (.int r0)])) tt
    refine XS.iconst X5.here hx rfl (hb hby d10_19) ?_
    show Steps p.tables e below (T5.setTop (mkF m 20 #[.val (.ref va)] [(.int (1 : Int32)), (.int (1 : Int32)), (.ref th), (.int r0)])) tt
    refine XS.isub X5.here hx rfl (hb hby d10_20) rfl ?_
    exact kk
  obtain ⟨cl6, Ar6, Sl6⟩ := id V_th
  have hin6 := inA (cl := cl6) Sl6 (j := (0 : Int32)) (by decide) (Nat.le_of_ble_eq_true rfl)
  have hat6 : cl6.slots[((0 : Int32)).toNatClampNeg]? = some (.int q0) := atA Sl6 rfl
  refine Goal.to (B := T5.setTop (mkF m 22 #[.val (.ref va)] [(.int q0), (.int r0)])) (fun tt kk => ?_) ?_
  · show Steps p.tables e below (T5.setTop (mkF m 21 #[.val (.ref va)] [(.int (0 : Int32)), (.ref th), (.int r0)])) tt
    refine X5.iaload hx (j := (0 : Int32)) (v := (.int q0)) (by rw [e5]; exact Ar6.1) (State.isArrayOf_alike hZ.alike Ar6.2.1) Ar6.2.2 hin6 hat6 (g := (mkF m 21 #[.val (.ref va)] [(.int (0 : Int32)), (.ref th), (.int r0)])) rfl rfl (hb hby d10_21) _ ?_
    exact kk
  obtain ⟨w8, hw8⟩ : ∃ z : Int32, z = if r0 = q0 then (1 : Int32) else (0 : Int32) := ⟨_, rfl⟩
  refine Goal.to (B := T5.setTop (mkF m 30 #[.val (.ref va)] [(.int w8)])) (fun tt kk => ?_) ?_
  · by_cases hc7 : r0 = q0
    · have qw8 : w8 = (1 : Int32) := by rw [hw8, if_pos hc7]
      rw [qw8] at kk
      show Steps p.tables e below (T5.setTop (mkF m 22 #[.val (.ref va)] [(.int q0), (.int r0)])) tt
      refine XS.icmpNo X5.here hx rfl (hb hby d10_22) rfl (teq hc7).2 ?_
      show Steps p.tables e below (T5.setTop (mkF m 25 #[.val (.ref va)] [])) tt
      refine XS.iconst X5.here hx rfl (hb hby d10_25) ?_
      show Steps p.tables e below (T5.setTop (mkF m 26 #[.val (.ref va)] [(.int (1 : Int32))])) tt
      refine XS.goto X5.here hx rfl (pc0 := 26) (pc' := 30) rfl (hb hby d10_26) (by decide) (by decide) ?_
      exact kk
    · have qw8 : w8 = (0 : Int32) := by rw [hw8, if_neg hc7]
      rw [qw8] at kk
      show Steps p.tables e below (T5.setTop (mkF m 22 #[.val (.ref va)] [(.int q0), (.int r0)])) tt
      refine XS.icmpYes X5.here hx rfl (pc0 := 22) (pc' := 29) rfl (hb hby d10_22) rfl (feq hc7).2 (by decide) (by decide) ?_
      show Steps p.tables e below (T5.setTop (mkF m 29 #[.val (.ref va)] [])) tt
      refine XS.iconst X5.here hx rfl (hb hby d10_29) ?_
      exact kk
  exact Goal.retV X5 hx Bd.returns (nar01 (by rw [hw8]; exact own_if _)) (Or.inl ⟨rfl, Or.inr (Or.inl rfl), _, rfl⟩) (hb hby d10_30) hlk e5 ⟨(congrArg some (by rw [hw8] : ((.int w8) : Value) = (.int (if r0 = q0 then (1 : Int32) else (0 : Int32))))), N0, rfl⟩ (by decide) (by decide)
def Qcl2 (Z : State) (va : Addr) (th : Addr) (tv : Addr) (q0 : Int32) (q1 : Int32) (r0 : Int32) (r1 : Int32) (h0 : Heap) (n0 : Nat) (v : Option Value) (h : Heap) (L : List Loc) : Prop := v = some (.int (if r1 = q1 then (1 : Int32) else (0 : Int32))) ∧ Fr n0 L ∧ h = h0
set_option maxRecDepth 65536 in
set_option maxHeartbeats 40000000 in
theorem rmcl2 (l : Launch) (Z : State) (a0 : Array Value) (hw : ∀ d ∈ tables_1, d.before a0 Z = true) (ws : List Jvm.Cond) (va : Addr) (th : Addr) (tv : Addr) (q0 : Int32) (q1 : Int32) (r0 : Int32) (r1 : Int32) (h0 : Heap) (n0 : Nat) (Z0 : n0 ≤ h0.size) (F_size_va : Fld Z h0 va "com/example/deferra/deferra/engine/Trail" "size" "I" (.int (2 : Int32))) (F_values_va : Fld Z h0 va "com/example/deferra/deferra/engine/Trail" "values" "[I" (.ref tv)) (F_highs_va : Fld Z h0 va "com/example/deferra/deferra/engine/Trail" "highs" "[I" (.ref th)) (V_th : Ary Z h0 th .int [(.int q0), (.int q1), (.int (0 : Int32)), (.int (0 : Int32)), (.int (0 : Int32)), (.int (0 : Int32)), (.int (0 : Int32)), (.int (0 : Int32)), (.int (0 : Int32)), (.int (0 : Int32)), (.int (0 : Int32)), (.int (0 : Int32)), (.int (0 : Int32)), (.int (0 : Int32)), (.int (0 : Int32)), (.int (0 : Int32))]) (V_tv : Ary Z h0 tv .int [(.int r0), (.int r1), (.int (0 : Int32)), (.int (0 : Int32)), (.int (0 : Int32)), (.int (0 : Int32)), (.int (0 : Int32)), (.int (0 : Int32)), (.int (0 : Int32)), (.int (0 : Int32)), (.int (0 : Int32)), (.int (0 : Int32)), (.int (0 : Int32)), (.int (0 : Int32)), (.int (0 : Int32)), (.int (0 : Int32))]) :
    MetFree l (⟨"com/example/deferra/deferra/engine/Trail", "changeIsLast", "()Z"⟩ : MethodName) (head1 (Jvm.Cond.code (⟨"com/example/deferra/deferra/engine/Trail", "changeIsLast", "()Z"⟩ : MethodName) prog_36_method_14_code 1 (some .boolean) :: ws) ({ frames := 0, cells := 0, slots := 0, locals := 0 } : Room)) (fun a U => a = #[(.ref va)] ∧ Z.Warmed39 U.vm ∧ U.heap = h0) (fun _ _ _ _ _ => True) (fun _ U o U' => ∃ v L, o = .returned v ∧ Qcl2 Z va th tv q0 q1 r0 r1 h0 n0 v U'.heap L ∧ FrameEnd U o U' L 0 0) := by
  refine MetFree.of_bodySF (plainFor_of_name pn_10) hisR ?_
  intro p e s m args below meth c s₁ Bd hml0 hP hK
  obtain ⟨rfl, hZ, hh⟩ := hP
  have hx := Bd.exec
  have hby := Bd.bytes
  have hml : c.maxLocals = 1 := hml0
  have hown : s.vm.findClass "com/example/deferra/deferra/engine/Trail" = some m.cls := findClass_of_methodNamed Bd.named
  have hnm := (name_of_methodNamed Bd.named Bd.method).1
  have X0 : Stand p l e ({ frames := 0, cells := 0, slots := 0, locals := 0 } : Room) s m #[(.ref va)] below meth c s₁ [] 0 0 := Stand.of_body Bd
  have e0 : s₁.heap = h0 := by rw [← hh, Bd.state]; rfl
  have N0 := Fr.nil n0
  have hlk : meth.locks = false := BodyLoose.notSynchronized Bd
  show Goal p e below s (Qcl2 Z va th tv q0 q1 r0 r1 h0 n0) 0 0 (s₁.setTop (entryFrame m #[(.ref va)] 1))
  refine Goal.to (B := s₁.setTop (mkF m 0 #[.val (.ref va)] [])) (fun tt kk => castTop (ef_10 m va ) kk) ?_
  refine Goal.to (B := s₁.setTop (mkF m 1 #[.val (.ref va)] [(.ref va)])) (fun tt kk => ?_) ?_
  · show Steps p.tables e below (s₁.setTop (mkF m 0 #[.val (.ref va)] [])) tt
    refine XS.aloadN X0.here hx rfl (hb hby d10_0) rfl rfl ?_
    exact kk
  obtain ⟨T1, X1, e1, st1⟩ := getF X0 hx hZ hown (host := "") (Or.inl (hw _ (mw 21 rfl))) Via.refl e0 F_values_va (g := (mkF m 1 #[.val (.ref va)] [(.ref va)])) rfl rfl (hb hby d10_1)
  refine Goal.to (B := T1.setTop (mkF m 4 #[.val (.ref va)] [(.ref tv)])) st1 ?_
  refine Goal.to (B := T1.setTop (mkF m 5 #[.val (.ref va)] [(.ref va), (.ref tv)])) (fun tt kk => ?_) ?_
  · show Steps p.tables e below (T1.setTop (mkF m 4 #[.val (.ref va)] [(.ref tv)])) tt
    refine XS.aloadN X1.here hx rfl (hb hby d10_4) rfl rfl ?_
    exact kk
  obtain ⟨T2, X2, e2, st2⟩ := getF X1 hx hZ hown (host := "") (Or.inl (hw _ (mw 36 rfl))) Via.refl e1 F_size_va (g := (mkF m 5 #[.val (.ref va)] [(.ref va), (.ref tv)])) rfl rfl (hb hby d10_5)
  refine Goal.to (B := T2.setTop (mkF m 8 #[.val (.ref va)] [(.int (2 : Int32)), (.ref tv)])) st2 ?_
  refine Goal.to (B := T2.setTop (mkF m 10 #[.val (.ref va)] [(.int (1 : Int32)), (.ref tv)])) (fun tt kk => ?_) ?_
  · show Steps p.tables e below (T2.setTop (mkF m 8 #[.val (.ref va)] [(.int (2 : Int32)), (.ref tv)])) tt
    refine XS.iconst X2.here hx rfl (hb hby d10_8) ?_
    show Steps p.tables e below (T2.setTop (mkF m 9 #[.val (.ref va)] [(.int (1 : Int32)), (.int (2 : Int32)), (.ref tv)])) tt
    refine XS.isub X2.here hx rfl (hb hby d10_9) rfl ?_
    exact kk
  obtain ⟨cl3, Ar3, Sl3⟩ := id V_tv
  have hin3 := inA (cl := cl3) Sl3 (j := (1 : Int32)) (by decide) (Nat.le_of_ble_eq_true rfl)
  have hat3 : cl3.slots[((1 : Int32)).toNatClampNeg]? = some (.int r1) := atA Sl3 rfl
  refine Goal.to (B := T2.setTop (mkF m 12 #[.val (.ref va)] [(.ref va), (.int r1)])) (fun tt kk => ?_) ?_
  · show Steps p.tables e below (T2.setTop (mkF m 10 #[.val (.ref va)] [(.int (1 : Int32)), (.ref tv)])) tt
    refine X2.iaload hx (j := (1 : Int32)) (v := (.int r1)) (by rw [e2]; exact Ar3.1) (State.isArrayOf_alike hZ.alike Ar3.2.1) Ar3.2.2 hin3 hat3 (g := (mkF m 10 #[.val (.ref va)] [(.int (1 : Int32)), (.ref tv)])) rfl rfl (hb hby d10_10) _ ?_
    show Steps p.tables e below (T2.setTop (mkF m 11 #[.val (.ref va)] [(.int r1)])) tt
    refine XS.aloadN X2.here hx rfl (hb hby d10_11) rfl rfl ?_
    exact kk
  obtain ⟨T4, X4, e4, st4⟩ := getF X2 hx hZ hown (host := "") (Or.inl (hw _ (mw 19 rfl))) Via.refl e2 F_highs_va (g := (mkF m 12 #[.val (.ref va)] [(.ref va), (.int r1)])) rfl rfl (hb hby d10_12)
  refine Goal.to (B := T4.setTop (mkF m 15 #[.val (.ref va)] [(.ref th), (.int r1)])) st4 ?_
  refine Goal.to (B := T4.setTop (mkF m 16 #[.val (.ref va)] [(.ref va), (.ref th), (.int r1)])) (fun tt kk => ?_) ?_
  · show Steps p.tables e below (T4.setTop (mkF m 15 #[.val (.ref va)] [(.ref th), (.int r1)])) tt
    refine XS.aloadN X4.here hx rfl (hb hby d10_15) rfl rfl ?_
    exact kk
  obtain ⟨T5, X5, e5, st5⟩ := getF X4 hx hZ hown (host := "") (Or.inl (hw _ (mw 36 rfl))) Via.refl e4 F_size_va (g := (mkF m 16 #[.val (.ref va)] [(.ref va), (.ref th), (.int r1)])) rfl rfl (hb hby d10_16)
  refine Goal.to (B := T5.setTop (mkF m 19 #[.val (.ref va)] [(.int (2 : Int32)), (.ref th), (.int r1)])) st5 ?_
  refine Goal.to (B := T5.setTop (mkF m 21 #[.val (.ref va)] [(.int (1 : Int32)), (.ref th), (.int r1)])) (fun tt kk => ?_) ?_
  · show Steps p.tables e below (T5.setTop (mkF m 19 #[.val (.ref va)] [(.int (2 : Int32)), (.ref th), (.int r1)])) tt
    refine XS.iconst X5.here hx rfl (hb hby d10_19) ?_
    show Steps p.tables e below (T5.setTop (mkF m 20 #[.val (.ref va)] [(.int (1 : Int32)), (.int (2 : Int32)), (.ref th), (.int r1)])) tt
    refine XS.isub X5.here hx rfl (hb hby d10_20) rfl ?_
    exact kk
  obtain ⟨cl6, Ar6, Sl6⟩ := id V_th
  have hin6 := inA (cl := cl6) Sl6 (j := (1 : Int32)) (by decide) (Nat.le_of_ble_eq_true rfl)
  have hat6 : cl6.slots[((1 : Int32)).toNatClampNeg]? = some (.int q1) := atA Sl6 rfl
  refine Goal.to (B := T5.setTop (mkF m 22 #[.val (.ref va)] [(.int q1), (.int r1)])) (fun tt kk => ?_) ?_
  · show Steps p.tables e below (T5.setTop (mkF m 21 #[.val (.ref va)] [(.int (1 : Int32)), (.ref th), (.int r1)])) tt
    refine X5.iaload hx (j := (1 : Int32)) (v := (.int q1)) (by rw [e5]; exact Ar6.1) (State.isArrayOf_alike hZ.alike Ar6.2.1) Ar6.2.2 hin6 hat6 (g := (mkF m 21 #[.val (.ref va)] [(.int (1 : Int32)), (.ref th), (.int r1)])) rfl rfl (hb hby d10_21) _ ?_
    exact kk
  obtain ⟨w8, hw8⟩ : ∃ z : Int32, z = if r1 = q1 then (1 : Int32) else (0 : Int32) := ⟨_, rfl⟩
  refine Goal.to (B := T5.setTop (mkF m 30 #[.val (.ref va)] [(.int w8)])) (fun tt kk => ?_) ?_
  · by_cases hc7 : r1 = q1
    · have qw8 : w8 = (1 : Int32) := by rw [hw8, if_pos hc7]
      rw [qw8] at kk
      show Steps p.tables e below (T5.setTop (mkF m 22 #[.val (.ref va)] [(.int q1), (.int r1)])) tt
      refine XS.icmpNo X5.here hx rfl (hb hby d10_22) rfl (teq hc7).2 ?_
      show Steps p.tables e below (T5.setTop (mkF m 25 #[.val (.ref va)] [])) tt
      refine XS.iconst X5.here hx rfl (hb hby d10_25) ?_
      show Steps p.tables e below (T5.setTop (mkF m 26 #[.val (.ref va)] [(.int (1 : Int32))])) tt
      refine XS.goto X5.here hx rfl (pc0 := 26) (pc' := 30) rfl (hb hby d10_26) (by decide) (by decide) ?_
      exact kk
    · have qw8 : w8 = (0 : Int32) := by rw [hw8, if_neg hc7]
      rw [qw8] at kk
      show Steps p.tables e below (T5.setTop (mkF m 22 #[.val (.ref va)] [(.int q1), (.int r1)])) tt
      refine XS.icmpYes X5.here hx rfl (pc0 := 22) (pc' := 29) rfl (hb hby d10_22) rfl (feq hc7).2 (by decide) (by decide) ?_
      show Steps p.tables e below (T5.setTop (mkF m 29 #[.val (.ref va)] [])) tt
      refine XS.iconst X5.here hx rfl (hb hby d10_29) ?_
      exact kk
  exact Goal.retV X5 hx Bd.returns (nar01 (by rw [hw8]; exact own_if _)) (Or.inl ⟨rfl, Or.inr (Or.inl rfl), _, rfl⟩) (hb hby d10_30) hlk e5 ⟨(congrArg some (by rw [hw8] : ((.int w8) : Value) = (.int (if r1 = q1 then (1 : Int32) else (0 : Int32))))), N0, rfl⟩ (by decide) (by decide)
theorem ef_0 (m : MethodId) (x0 : Int32) (x1 : Int32) (x2 : Int32) (x3 : Int32)  : entryFrame m #[(.int x0), (.int x1), (.int x2), (.int x3)] maxLocals = mkF m 0 #[.val (.int x0), .val (.int x1), .val (.int x2), .val (.int x3), .unset, .unset, .unset, .unset, .unset, .unset, .unset, .unset, .unset, .unset, .unset, .unset, .unset, .unset, .unset, .unset, .unset] [] := by first | (simp [entryFrame, mkF, argsToLocals, Value.category, maxLocals]; done) | rfl
theorem pn_0 : plainName "com/example/deferra/deferra/engine/TrailChangeIsLastPinLaw" = true := by first | (simp [plainName, overriddenIn]; done) | decide +kernel
theorem pd_0 : parseMethodDescriptor "(II)I" = some ⟨[.int, .int], some .int⟩ := by decide +kernel
theorem pd_4 : parseMethodDescriptor "()Z" = some ⟨[], some .boolean⟩ := by decide +kernel
def Q0 (Z : State) (u0 : Int32) (u1 : Int32) (u2 : Int32) (u3 : Int32) (h0 : Heap) (n0 : Nat) (v : Option Value) (h : Heap) (L : List Loc) : Prop := v = some (.int (1 : Int32)) ∧ Fr n0 L
set_option maxRecDepth 65536 in
set_option maxHeartbeats 40000000 in
theorem rm0 (l : Launch) (Z : State) (a0 : Array Value) (hw : ∀ d ∈ tables_1, d.before a0 Z = true) (ws : List Jvm.Cond) (u0 : Int32) (u1 : Int32) (u2 : Int32) (u3 : Int32) (h0 : Heap) (n0 : Nat) (Z0 : n0 ≤ h0.size) :
    MetFree l x (head1 (Jvm.Cond.code x code maxLocals ret :: ws) room_1) (fun a U => a = #[(.int u0), (.int u1), (.int u2), (.int u3)] ∧ Z.Warmed39 U.vm ∧ U.heap = h0) (fun _ _ _ _ _ => True) (fun _ U o U' => ∃ v L, o = .returned v ∧ Q0 Z u0 u1 u2 u3 h0 n0 v U'.heap L ∧ FrameEnd U o U' L 24 256) := by
  refine MetFree.of_bodySF (plainFor_of_name pn_0) hisR ?_
  intro p e s m args below meth c s₁ Bd hml0 hP hK
  obtain ⟨rfl, hZ, hh⟩ := hP
  have hx := Bd.exec
  have hby := Bd.bytes
  have hml : c.maxLocals = 21 := hml0
  have hown : s.vm.findClass "com/example/deferra/deferra/engine/TrailChangeIsLastPinLaw" = some m.cls := findClass_of_methodNamed Bd.named
  have hnm := (name_of_methodNamed Bd.named Bd.method).1
  have X0 : Stand p l e room_1 s m #[(.int u0), (.int u1), (.int u2), (.int u3)] below meth c s₁ [] 0 0 := Stand.of_body Bd
  have e0 : s₁.heap = h0 := by rw [← hh, Bd.state]; rfl
  have N0 := Fr.nil n0
  have hlk : meth.locks = false := BodyLoose.notSynchronized Bd
  show Goal p e below s (Q0 Z u0 u1 u2 u3 h0 n0) 24 256 (s₁.setTop (entryFrame m #[(.int u0), (.int u1), (.int u2), (.int u3)] maxLocals))
  refine Goal.to (B := s₁.setTop (mkF m 0 #[.val (.int u0), .val (.int u1), .val (.int u2), .val (.int u3), .unset, .unset, .unset, .unset, .unset, .unset, .unset, .unset, .unset, .unset, .unset, .unset, .unset, .unset, .unset, .unset, .unset] [])) (fun tt kk => castTop (ef_0 m u0 u1 u2 u3 ) kk) ?_
  refine Goal.to (B := s₁.setTop (mkF m 2 #[.val (.int u0), .val (.int u1), .val (.int u2), .val (.int u3), .unset, .unset, .unset, .unset, .unset, .unset, .unset, .unset, .unset, .unset, .unset, .unset, .unset, .unset, .unset, .unset, .unset] [(.int u1), (.int u0)])) (fun tt kk => ?_) ?_
  · show Steps p.tables e below (s₁.setTop (mkF m 0 #[.val (.int u0), .val (.int u1), .val (.int u2), .val (.int u3), .unset, .unset, .unset, .unset, .unset, .unset, .unset, .unset, .unset, .unset, .unset, .unset, .unset, .unset, .unset, .unset, .unset] [])) tt
    refine XS.iloadN X0.here hx rfl (hb hby at_0) rfl ?_
    show Steps p.tables e below (s₁.setTop (mkF m 1 #[.val (.int u0), .val (.int u1), .val (.int u2), .val (.int u3), .unset, .unset, .unset, .unset, .unset, .unset, .unset, .unset, .unset, .unset, .unset, .unset, .unset, .unset, .unset, .unset, .unset] [(.int u0)])) tt
    refine XS.iloadN X0.here hx rfl (hb hby at_1) rfl ?_
    exact kk
  obtain ⟨_, _, ⟨T1, L1, k1, n1⟩, -, X1, ⟨Lc1, hQ1, l1, y1, z1⟩, st1⟩ := Jvm.LawKit.callS X0 hx (y := (⟨"java/lang/Math", "min", "(II)I"⟩ : MethodName)) hown (mvT hZ (hw _ (mw 0 rfl))) (mvT hZ (hw _ (mw 1 rfl))) (mvT hZ (hw _ (mw 2 rfl))) (mvT hZ (hw _ (mw 3 rfl))) (by decide) (backOf (W := 0) (rmmi l Z a0 hw [] u0 u1 h0 n0 Z0 ) hZ (hw _ (mw 3 rfl)) (hw _ (mw 2 rfl)) (by decide) (by decide)) (g := (mkF m 2 #[.val (.int u0), .val (.int u1), .val (.int u2), .val (.int u3), .unset, .unset, .unset, .unset, .unset, .unset, .unset, .unset, .unset, .unset, .unset, .unset, .unset, .unset, .unset, .unset, .unset] [(.int u1), (.int u0)])) rfl (by rw [hml]; rfl) (argsL := [(.int u0), (.int u1)]) (rest := []) (lenOf pd_0 rfl) rfl (by show 2 * 0 + _ ≤ _; exact Nat.le_of_eq rfl) (hb hby at_2) (fun _ _ => ⟨rfl, e0, (by decide : 0 + 0 ≤ _), (by decide : 0 + 0 ≤ _)⟩)
  dsimp only [Pt.U, Pt.locs, Pt.cells, Pt.slots] at X1 l1 y1 z1 st1 hQ1
  subst l1 y1 z1
  obtain ⟨rfl, N1q, e1⟩ := hQ1
  have N1 := Fr.app N0 N1q
  refine Goal.to (B := T1.setTop (mkF m 5 #[.val (.int u0), .val (.int u1), .val (.int u2), .val (.int u3), .unset, .unset, .unset, .unset, .unset, .unset, .unset, .unset, .unset, .unset, .unset, .unset, .unset, .unset, .unset, .unset, .unset] [(.int (if u1 < u0 then u1 else u0))])) st1 ?_
  obtain ⟨lo1, hlo1⟩ : ∃ z : Int32, z = (if u1 < u0 then u1 else u0) := ⟨_, rfl⟩
  refine Goal.to (B := T1.setTop (mkF m 7 #[.val (.int u0), .val (.int u1), .val (.int u2), .val (.int u3), .val (.int lo1), .unset, .unset, .unset, .unset, .unset, .unset, .unset, .unset, .unset, .unset, .unset, .unset, .unset, .unset, .unset, .unset] [])) (fun tt kk => ?_) ?_
  · subst hlo1
    show Steps p.tables e below (T1.setTop (mkF m 5 #[.val (.int u0), .val (.int u1), .val (.int u2), .val (.int u3), .unset, .unset, .unset, .unset, .unset, .unset, .unset, .unset, .unset, .unset, .unset, .unset, .unset, .unset, .unset, .unset, .unset] [(.int (if u1 < u0 then u1 else u0))])) tt
    refine XS.istore X1.here hx rfl (hb hby at_5) rfl (l' := #[.val (.int u0), .val (.int u1), .val (.int u2), .val (.int u3), .val (.int (if u1 < u0 then u1 else u0)), .unset, .unset, .unset, .unset, .unset, .unset, .unset, .unset, .unset, .unset, .unset, .unset, .unset, .unset, .unset, .unset]) rfl ?_
    exact kk
  refine Goal.to (B := T1.setTop (mkF m 9 #[.val (.int u0), .val (.int u1), .val (.int u2), .val (.int u3), .val (.int lo1), .unset, .unset, .unset, .unset, .unset, .unset, .unset, .unset, .unset, .unset, .unset, .unset, .unset, .unset, .unset, .unset] [(.int u1), (.int u0)])) (fun tt kk => ?_) ?_
  · show Steps p.tables e below (T1.setTop (mkF m 7 #[.val (.int u0), .val (.int u1), .val (.int u2), .val (.int u3), .val (.int lo1), .unset, .unset, .unset, .unset, .unset, .unset, .unset, .unset, .unset, .unset, .unset, .unset, .unset, .unset, .unset, .unset] [])) tt
    refine XS.iloadN X1.here hx rfl (hb hby at_7) rfl ?_
    show Steps p.tables e below (T1.setTop (mkF m 8 #[.val (.int u0), .val (.int u1), .val (.int u2), .val (.int u3), .val (.int lo1), .unset, .unset, .unset, .unset, .unset, .unset, .unset, .unset, .unset, .unset, .unset, .unset, .unset, .unset, .unset, .unset] [(.int u0)])) tt
    refine XS.iloadN X1.here hx rfl (hb hby at_8) rfl ?_
    exact kk
  obtain ⟨_, _, ⟨T2, L2, k2, n2⟩, -, X2, ⟨Lc2, hQ2, l2, y2, z2⟩, st2⟩ := Jvm.LawKit.callS X1 hx (y := (⟨"java/lang/Math", "max", "(II)I"⟩ : MethodName)) hown (mvT hZ (hw _ (mw 4 rfl))) (mvT hZ (hw _ (mw 5 rfl))) (mvT hZ (hw _ (mw 2 rfl))) (mvT hZ (hw _ (mw 6 rfl))) (by decide) (backOf (W := 0) (rmma l Z a0 hw [] u0 u1 h0 n0 Z0 ) hZ (hw _ (mw 6 rfl)) (hw _ (mw 2 rfl)) (by decide) (by decide)) (g := (mkF m 9 #[.val (.int u0), .val (.int u1), .val (.int u2), .val (.int u3), .val (.int lo1), .unset, .unset, .unset, .unset, .unset, .unset, .unset, .unset, .unset, .unset, .unset, .unset, .unset, .unset, .unset, .unset] [(.int u1), (.int u0)])) rfl (by rw [hml]; rfl) (argsL := [(.int u0), (.int u1)]) (rest := []) (lenOf pd_0 rfl) rfl (by show 2 * 0 + _ ≤ _; exact Nat.le_of_eq rfl) (hb hby at_9) (fun _ _ => ⟨rfl, e1, (by decide : 0 + 0 ≤ _), (by decide : 0 + 0 ≤ _)⟩)
  dsimp only [Pt.U, Pt.locs, Pt.cells, Pt.slots] at X2 l2 y2 z2 st2 hQ2
  subst l2 y2 z2
  obtain ⟨rfl, N2q, e2⟩ := hQ2
  have N2 := Fr.app N1 N2q
  refine Goal.to (B := T2.setTop (mkF m 12 #[.val (.int u0), .val (.int u1), .val (.int u2), .val (.int u3), .val (.int lo1), .unset, .unset, .unset, .unset, .unset, .unset, .unset, .unset, .unset, .unset, .unset, .unset, .unset, .unset, .unset, .unset] [(.int (if u0 < u1 then u1 else u0))])) st2 ?_
  obtain ⟨hi1, hhi1⟩ : ∃ z : Int32, z = (if u0 < u1 then u1 else u0) := ⟨_, rfl⟩
  refine Goal.to (B := T2.setTop (mkF m 14 #[.val (.int u0), .val (.int u1), .val (.int u2), .val (.int u3), .val (.int lo1), .val (.int hi1), .unset, .unset, .unset, .unset, .unset, .unset, .unset, .unset, .unset, .unset, .unset, .unset, .unset, .unset, .unset] [])) (fun tt kk => ?_) ?_
  · subst hhi1
    show Steps p.tables e below (T2.setTop (mkF m 12 #[.val (.int u0), .val (.int u1), .val (.int u2), .val (.int u3), .val (.int lo1), .unset, .unset, .unset, .unset, .unset, .unset, .unset, .unset, .unset, .unset, .unset, .unset, .unset, .unset, .unset, .unset] [(.int (if u0 < u1 then u1 else u0))])) tt
    refine XS.istore X2.here hx rfl (hb hby at_12) rfl (l' := #[.val (.int u0), .val (.int u1), .val (.int u2), .val (.int u3), .val (.int lo1), .val (.int (if u0 < u1 then u1 else u0)), .unset, .unset, .unset, .unset, .unset, .unset, .unset, .unset, .unset, .unset, .unset, .unset, .unset, .unset, .unset]) rfl ?_
    exact kk
  refine Goal.to (B := T2.setTop (mkF m 16 #[.val (.int u0), .val (.int u1), .val (.int u2), .val (.int u3), .val (.int lo1), .val (.int hi1), .unset, .unset, .unset, .unset, .unset, .unset, .unset, .unset, .unset, .unset, .unset, .unset, .unset, .unset, .unset] [(.int u3), (.int u2)])) (fun tt kk => ?_) ?_
  · show Steps p.tables e below (T2.setTop (mkF m 14 #[.val (.int u0), .val (.int u1), .val (.int u2), .val (.int u3), .val (.int lo1), .val (.int hi1), .unset, .unset, .unset, .unset, .unset, .unset, .unset, .unset, .unset, .unset, .unset, .unset, .unset, .unset, .unset] [])) tt
    refine XS.iloadN X2.here hx rfl (hb hby at_14) rfl ?_
    show Steps p.tables e below (T2.setTop (mkF m 15 #[.val (.int u0), .val (.int u1), .val (.int u2), .val (.int u3), .val (.int lo1), .val (.int hi1), .unset, .unset, .unset, .unset, .unset, .unset, .unset, .unset, .unset, .unset, .unset, .unset, .unset, .unset, .unset] [(.int u2)])) tt
    refine XS.iloadN X2.here hx rfl (hb hby at_15) rfl ?_
    exact kk
  obtain ⟨_, _, ⟨T3, L3, k3, n3⟩, -, X3, ⟨Lc3, hQ3, l3, y3, z3⟩, st3⟩ := Jvm.LawKit.callS X2 hx (y := (⟨"java/lang/Math", "min", "(II)I"⟩ : MethodName)) hown (mvT hZ (hw _ (mw 0 rfl))) (mvT hZ (hw _ (mw 1 rfl))) (mvT hZ (hw _ (mw 2 rfl))) (mvT hZ (hw _ (mw 3 rfl))) (by decide) (backOf (W := 0) (rmmi l Z a0 hw [] u2 u3 h0 n0 Z0 ) hZ (hw _ (mw 3 rfl)) (hw _ (mw 2 rfl)) (by decide) (by decide)) (g := (mkF m 16 #[.val (.int u0), .val (.int u1), .val (.int u2), .val (.int u3), .val (.int lo1), .val (.int hi1), .unset, .unset, .unset, .unset, .unset, .unset, .unset, .unset, .unset, .unset, .unset, .unset, .unset, .unset, .unset] [(.int u3), (.int u2)])) rfl (by rw [hml]; rfl) (argsL := [(.int u2), (.int u3)]) (rest := []) (lenOf pd_0 rfl) rfl (by show 2 * 0 + _ ≤ _; exact Nat.le_of_eq rfl) (hb hby at_16) (fun _ _ => ⟨rfl, e2, (by decide : 0 + 0 ≤ _), (by decide : 0 + 0 ≤ _)⟩)
  dsimp only [Pt.U, Pt.locs, Pt.cells, Pt.slots] at X3 l3 y3 z3 st3 hQ3
  subst l3 y3 z3
  obtain ⟨rfl, N3q, e3⟩ := hQ3
  have N3 := Fr.app N2 N3q
  refine Goal.to (B := T3.setTop (mkF m 19 #[.val (.int u0), .val (.int u1), .val (.int u2), .val (.int u3), .val (.int lo1), .val (.int hi1), .unset, .unset, .unset, .unset, .unset, .unset, .unset, .unset, .unset, .unset, .unset, .unset, .unset, .unset, .unset] [(.int (if u3 < u2 then u3 else u2))])) st3 ?_
  obtain ⟨lo2, hlo2⟩ : ∃ z : Int32, z = (if u3 < u2 then u3 else u2) := ⟨_, rfl⟩
  refine Goal.to (B := T3.setTop (mkF m 21 #[.val (.int u0), .val (.int u1), .val (.int u2), .val (.int u3), .val (.int lo1), .val (.int hi1), .val (.int lo2), .unset, .unset, .unset, .unset, .unset, .unset, .unset, .unset, .unset, .unset, .unset, .unset, .unset, .unset] [])) (fun tt kk => ?_) ?_
  · subst hlo2
    show Steps p.tables e below (T3.setTop (mkF m 19 #[.val (.int u0), .val (.int u1), .val (.int u2), .val (.int u3), .val (.int lo1), .val (.int hi1), .unset, .unset, .unset, .unset, .unset, .unset, .unset, .unset, .unset, .unset, .unset, .unset, .unset, .unset, .unset] [(.int (if u3 < u2 then u3 else u2))])) tt
    refine XS.istore X3.here hx rfl (hb hby at_19) rfl (l' := #[.val (.int u0), .val (.int u1), .val (.int u2), .val (.int u3), .val (.int lo1), .val (.int hi1), .val (.int (if u3 < u2 then u3 else u2)), .unset, .unset, .unset, .unset, .unset, .unset, .unset, .unset, .unset, .unset, .unset, .unset, .unset, .unset]) rfl ?_
    exact kk
  refine Goal.to (B := T3.setTop (mkF m 23 #[.val (.int u0), .val (.int u1), .val (.int u2), .val (.int u3), .val (.int lo1), .val (.int hi1), .val (.int lo2), .unset, .unset, .unset, .unset, .unset, .unset, .unset, .unset, .unset, .unset, .unset, .unset, .unset, .unset] [(.int u3), (.int u2)])) (fun tt kk => ?_) ?_
  · show Steps p.tables e below (T3.setTop (mkF m 21 #[.val (.int u0), .val (.int u1), .val (.int u2), .val (.int u3), .val (.int lo1), .val (.int hi1), .val (.int lo2), .unset, .unset, .unset, .unset, .unset, .unset, .unset, .unset, .unset, .unset, .unset, .unset, .unset, .unset] [])) tt
    refine XS.iloadN X3.here hx rfl (hb hby at_21) rfl ?_
    show Steps p.tables e below (T3.setTop (mkF m 22 #[.val (.int u0), .val (.int u1), .val (.int u2), .val (.int u3), .val (.int lo1), .val (.int hi1), .val (.int lo2), .unset, .unset, .unset, .unset, .unset, .unset, .unset, .unset, .unset, .unset, .unset, .unset, .unset, .unset] [(.int u2)])) tt
    refine XS.iloadN X3.here hx rfl (hb hby at_22) rfl ?_
    exact kk
  obtain ⟨_, _, ⟨T4, L4, k4, n4⟩, -, X4, ⟨Lc4, hQ4, l4, y4, z4⟩, st4⟩ := Jvm.LawKit.callS X3 hx (y := (⟨"java/lang/Math", "max", "(II)I"⟩ : MethodName)) hown (mvT hZ (hw _ (mw 4 rfl))) (mvT hZ (hw _ (mw 5 rfl))) (mvT hZ (hw _ (mw 2 rfl))) (mvT hZ (hw _ (mw 6 rfl))) (by decide) (backOf (W := 0) (rmma l Z a0 hw [] u2 u3 h0 n0 Z0 ) hZ (hw _ (mw 6 rfl)) (hw _ (mw 2 rfl)) (by decide) (by decide)) (g := (mkF m 23 #[.val (.int u0), .val (.int u1), .val (.int u2), .val (.int u3), .val (.int lo1), .val (.int hi1), .val (.int lo2), .unset, .unset, .unset, .unset, .unset, .unset, .unset, .unset, .unset, .unset, .unset, .unset, .unset, .unset] [(.int u3), (.int u2)])) rfl (by rw [hml]; rfl) (argsL := [(.int u2), (.int u3)]) (rest := []) (lenOf pd_0 rfl) rfl (by show 2 * 0 + _ ≤ _; exact Nat.le_of_eq rfl) (hb hby at_23) (fun _ _ => ⟨rfl, e3, (by decide : 0 + 0 ≤ _), (by decide : 0 + 0 ≤ _)⟩)
  dsimp only [Pt.U, Pt.locs, Pt.cells, Pt.slots] at X4 l4 y4 z4 st4 hQ4
  subst l4 y4 z4
  obtain ⟨rfl, N4q, e4⟩ := hQ4
  have N4 := Fr.app N3 N4q
  refine Goal.to (B := T4.setTop (mkF m 26 #[.val (.int u0), .val (.int u1), .val (.int u2), .val (.int u3), .val (.int lo1), .val (.int hi1), .val (.int lo2), .unset, .unset, .unset, .unset, .unset, .unset, .unset, .unset, .unset, .unset, .unset, .unset, .unset, .unset] [(.int (if u2 < u3 then u3 else u2))])) st4 ?_
  obtain ⟨hi2, hhi2⟩ : ∃ z : Int32, z = (if u2 < u3 then u3 else u2) := ⟨_, rfl⟩
  refine Goal.to (B := T4.setTop (mkF m 28 #[.val (.int u0), .val (.int u1), .val (.int u2), .val (.int u3), .val (.int lo1), .val (.int hi1), .val (.int lo2), .val (.int hi2), .unset, .unset, .unset, .unset, .unset, .unset, .unset, .unset, .unset, .unset, .unset, .unset, .unset] [])) (fun tt kk => ?_) ?_
  · subst hhi2
    show Steps p.tables e below (T4.setTop (mkF m 26 #[.val (.int u0), .val (.int u1), .val (.int u2), .val (.int u3), .val (.int lo1), .val (.int hi1), .val (.int lo2), .unset, .unset, .unset, .unset, .unset, .unset, .unset, .unset, .unset, .unset, .unset, .unset, .unset, .unset] [(.int (if u2 < u3 then u3 else u2))])) tt
    refine XS.istore X4.here hx rfl (hb hby at_26) rfl (l' := #[.val (.int u0), .val (.int u1), .val (.int u2), .val (.int u3), .val (.int lo1), .val (.int hi1), .val (.int lo2), .val (.int (if u2 < u3 then u3 else u2)), .unset, .unset, .unset, .unset, .unset, .unset, .unset, .unset, .unset, .unset, .unset, .unset, .unset]) rfl ?_
    exact kk
  obtain ⟨T5, h5, X5, e5, E5, A5, D5, -, st5⟩ := newO X4 hx hZ hown (hw _ (mw 7 rfl)) (hw _ (mw 8 rfl)) (hw _ (mw 9 rfl)) e4 (g := (mkF m 28 #[.val (.int u0), .val (.int u1), .val (.int u2), .val (.int u3), .val (.int lo1), .val (.int hi1), .val (.int lo2), .val (.int hi2), .unset, .unset, .unset, .unset, .unset, .unset, .unset, .unset, .unset, .unset, .unset, .unset, .unset] [])) rfl (hb hby at_28) (by decide) (by decide)
  obtain ⟨b5, g5⟩ : ∃ z, z = h0.size := ⟨_, rfl⟩
  rw [← g5] at A5 D5 st5
  have g_b5 : n0 ≤ b5 := Nat.le_trans Z0 (Nat.le_of_eq g5.symm)
  have F_lows_b5 : Fld Z h5 b5 "com/example/deferra/deferra/engine/Trail" "lows" "[I" .null := D5 (Or.inl (hw _ (mw 18 rfl))) (ty := (.array .int)) (by decide)
  have F_highs_b5 : Fld Z h5 b5 "com/example/deferra/deferra/engine/Trail" "highs" "[I" .null := D5 (Or.inl (hw _ (mw 20 rfl))) (ty := (.array .int)) (by decide)
  have F_values_b5 : Fld Z h5 b5 "com/example/deferra/deferra/engine/Trail" "values" "[I" .null := D5 (Or.inl (hw _ (mw 22 rfl))) (ty := (.array .int)) (by decide)
  have F_makers_b5 : Fld Z h5 b5 "com/example/deferra/deferra/engine/Trail" "makers" "[I" .null := D5 (Or.inl (hw _ (mw 24 rfl))) (ty := (.array .int)) (by decide)
  have F_fromTrace_b5 : Fld Z h5 b5 "com/example/deferra/deferra/engine/Trail" "fromTrace" "Z" (.int (0 : Int32)) := D5 (Or.inr (hw _ (mw 26 rfl))) (ty := .boolean) (by decide)
  have F_maxDepth_b5 : Fld Z h5 b5 "com/example/deferra/deferra/engine/Trail" "maxDepth" "I" (.int (0 : Int32)) := D5 (Or.inr (hw _ (mw 28 rfl))) (ty := .int) (by decide)
  have F_depth_b5 : Fld Z h5 b5 "com/example/deferra/deferra/engine/Trail" "depth" "I" (.int (0 : Int32)) := D5 (Or.inl (hw _ (mw 35 rfl))) (ty := .int) (by decide)
  have F_size_b5 : Fld Z h5 b5 "com/example/deferra/deferra/engine/Trail" "size" "I" (.int (0 : Int32)) := D5 (Or.inl (hw _ (mw 37 rfl))) (ty := .int) (by decide)
  have F_stopping_b5 : Fld Z h5 b5 "com/example/deferra/deferra/engine/Trail" "stopping" "Z" (.int (0 : Int32)) := D5 (Or.inl (hw _ (mw 47 rfl))) (ty := .boolean) (by decide)
  have F_pools_b5 : Fld Z h5 b5 "com/example/deferra/deferra/engine/Trail" "pools" "Ljava/util/function/Supplier;" .null := D5 (Or.inl (hw _ (mw 49 rfl))) (ty := (.object "java/util/function/Supplier")) (by decide)
  have F_saved_b5 : Fld Z h5 b5 "com/example/deferra/deferra/engine/Trail" "saved" "[[Lcom/example/deferra/deferra/engine/Identities;" .null := D5 (Or.inl (hw _ (mw 60 rfl))) (ty := (.array (.array (.object "com/example/deferra/deferra/engine/Identities")))) (by decide)
  refine Goal.to (B := T5.setTop (mkF m 31 #[.val (.int u0), .val (.int u1), .val (.int u2), .val (.int u3), .val (.int lo1), .val (.int hi1), .val (.int lo2), .val (.int hi2), .unset, .unset, .unset, .unset, .unset, .unset, .unset, .unset, .unset, .unset, .unset, .unset, .unset] [(.ref b5)])) st5 ?_
  refine Goal.to (B := T5.setTop (mkF m 34 #[.val (.int u0), .val (.int u1), .val (.int u2), .val (.int u3), .val (.int lo1), .val (.int hi1), .val (.int lo2), .val (.int hi2), .unset, .unset, .unset, .unset, .unset, .unset, .unset, .unset, .unset, .unset, .unset, .unset, .unset] [(.int (8 : Int32)), (.ref b5), (.ref b5)])) (fun tt kk => ?_) ?_
  · show Steps p.tables e below (T5.setTop (mkF m 31 #[.val (.int u0), .val (.int u1), .val (.int u2), .val (.int u3), .val (.int lo1), .val (.int hi1), .val (.int lo2), .val (.int hi2), .unset, .unset, .unset, .unset, .unset, .unset, .unset, .unset, .unset, .unset, .unset, .unset, .unset] [(.ref b5)])) tt
    refine XS.dup X5.here hx rfl (hb hby at_31) rfl rfl ?_
    show Steps p.tables e below (T5.setTop (mkF m 32 #[.val (.int u0), .val (.int u1), .val (.int u2), .val (.int u3), .val (.int lo1), .val (.int hi1), .val (.int lo2), .val (.int hi2), .unset, .unset, .unset, .unset, .unset, .unset, .unset, .unset, .unset, .unset, .unset, .unset, .unset] [(.ref b5), (.ref b5)])) tt
    refine XS.bipush X5.here hx rfl (hb hby at_32) ?_
    exact kk
  have f6 : n0 ≤ h5.size := (Nat.le_trans Z0 E5.1)
  obtain ⟨_, _, ⟨T7, L7, k7, n7⟩, -, X7, ⟨Lc7, hQ7, l7, y7, z7⟩, st7⟩ := X5.specialBack hx (y := (⟨"com/example/deferra/deferra/engine/Trail", "<init>", "(I)V"⟩ : MethodName)) rfl hown (mvT hZ (hw _ (mw 10 rfl))) (mvT hZ (hw _ (mw 11 rfl))) (mvT hZ (hw _ (mw 12 rfl))) (by decide) (backOf (W := 1) (rmN l Z a0 hw [] b5 h5 n0 f6 A5 F_lows_b5 F_highs_b5 F_values_b5 F_makers_b5 F_fromTrace_b5 F_maxDepth_b5 F_depth_b5 F_size_b5 F_stopping_b5 F_pools_b5 F_saved_b5 g_b5) hZ (hw _ (mw 12 rfl)) (hw _ (mw 9 rfl)) (by decide) (by decide)) (g := (mkF m 34 #[.val (.int u0), .val (.int u1), .val (.int u2), .val (.int u3), .val (.int lo1), .val (.int hi1), .val (.int lo2), .val (.int hi2), .unset, .unset, .unset, .unset, .unset, .unset, .unset, .unset, .unset, .unset, .unset, .unset, .unset] [(.int (8 : Int32)), (.ref b5), (.ref b5)])) rfl (by rw [hml]; rfl) (Steps.refl _) (a := b5) (argsL := [(.int (8 : Int32))]) (rest := [(.ref b5)]) (lenOf pd_1 rfl) rfl (by show 2 * 0 + _ ≤ _; exact Nat.le_of_eq rfl) (hb hby at_34) (fun _ _ => ⟨rfl, e5, (by decide : 1 + 4 ≤ _), (by decide : 14 + 64 ≤ _)⟩)
  dsimp only [Pt.U, Pt.locs, Pt.cells, Pt.slots] at X7 l7 y7 z7 st7 hQ7
  subst l7 y7 z7
  obtain ⟨tl_7, th_7, tv_7, tm_7, rfl, N7q, K7, sz7_tl, sz7_th, sz7_tv, sz7_tm, ne7_tl_th, ne7_tl_tv, ne7_tl_tm, ne7_th_tv, ne7_th_tm, ne7_tv_tm, P7_0, P7_1, P7_2, P7_3, P7_4, P7_5, P7_6, P7_7, P7_8, P7_9, P7_10, P7_11, P7_12, P7_13, P7_14⟩ := hQ7
  have N7 := Fr.app N4 N7q
  have ne_b5_tl_7 : b5 ≠ tl_7 := Nat.ne_of_lt (Nat.lt_of_lt_of_le A5.lt sz7_tl)
  have g_tl_7 : n0 ≤ tl_7 := Nat.le_trans f6 sz7_tl
  have ne_b5_th_7 : b5 ≠ th_7 := Nat.ne_of_lt (Nat.lt_of_lt_of_le A5.lt sz7_th)
  have g_th_7 : n0 ≤ th_7 := Nat.le_trans f6 sz7_th
  have ne_b5_tv_7 : b5 ≠ tv_7 := Nat.ne_of_lt (Nat.lt_of_lt_of_le A5.lt sz7_tv)
  have g_tv_7 : n0 ≤ tv_7 := Nat.le_trans f6 sz7_tv
  have ne_b5_tm_7 : b5 ≠ tm_7 := Nat.ne_of_lt (Nat.lt_of_lt_of_le A5.lt sz7_tm)
  have g_tm_7 : n0 ≤ tm_7 := Nat.le_trans f6 sz7_tm
  refine Goal.tr (B := T7.setTop (mkF m 37 #[.val (.int u0), .val (.int u1), .val (.int u2), .val (.int u3), .val (.int lo1), .val (.int hi1), .val (.int lo2), .val (.int hi2), .unset, .unset, .unset, .unset, .unset, .unset, .unset, .unset, .unset, .unset, .unset, .unset, .unset] [(.ref b5)])) st7 ?_
  refine Goal.to (B := T7.setTop (mkF m 45 #[.val (.int u0), .val (.int u1), .val (.int u2), .val (.int u3), .val (.int lo1), .val (.int hi1), .val (.int lo2), .val (.int hi2), .val (.ref b5), .unset, .unset, .unset, .unset, .unset, .unset, .unset, .unset, .unset, .unset, .unset, .unset] [(.int hi1), (.int lo1), (.ref b5)])) (fun tt kk => ?_) ?_
  · show Steps p.tables e below (T7.setTop (mkF m 37 #[.val (.int u0), .val (.int u1), .val (.int u2), .val (.int u3), .val (.int lo1), .val (.int hi1), .val (.int lo2), .val (.int hi2), .unset, .unset, .unset, .unset, .unset, .unset, .unset, .unset, .unset, .unset, .unset, .unset, .unset] [(.ref b5)])) tt
    refine XS.astore X7.here hx rfl (hb hby at_37) rfl rfl (l' := #[.val (.int u0), .val (.int u1), .val (.int u2), .val (.int u3), .val (.int lo1), .val (.int hi1), .val (.int lo2), .val (.int hi2), .val (.ref b5), .unset, .unset, .unset, .unset, .unset, .unset, .unset, .unset, .unset, .unset, .unset, .unset]) rfl ?_
    show Steps p.tables e below (T7.setTop (mkF m 39 #[.val (.int u0), .val (.int u1), .val (.int u2), .val (.int u3), .val (.int lo1), .val (.int hi1), .val (.int lo2), .val (.int hi2), .val (.ref b5), .unset, .unset, .unset, .unset, .unset, .unset, .unset, .unset, .unset, .unset, .unset, .unset] [])) tt
    refine XS.aload X7.here hx rfl (hb hby at_39) rfl rfl ?_
    show Steps p.tables e below (T7.setTop (mkF m 41 #[.val (.int u0), .val (.int u1), .val (.int u2), .val (.int u3), .val (.int lo1), .val (.int hi1), .val (.int lo2), .val (.int hi2), .val (.ref b5), .unset, .unset, .unset, .unset, .unset, .unset, .unset, .unset, .unset, .unset, .unset, .unset] [(.ref b5)])) tt
    refine XS.iload X7.here hx rfl (hb hby at_41) rfl ?_
    show Steps p.tables e below (T7.setTop (mkF m 43 #[.val (.int u0), .val (.int u1), .val (.int u2), .val (.int u3), .val (.int lo1), .val (.int hi1), .val (.int lo2), .val (.int hi2), .val (.ref b5), .unset, .unset, .unset, .unset, .unset, .unset, .unset, .unset, .unset, .unset, .unset, .unset] [(.int lo1), (.ref b5)])) tt
    refine XS.iload X7.here hx rfl (hb hby at_43) rfl ?_
    exact kk
  have f8 : Exa Z T7.heap b5 "com/example/deferra/deferra/engine/Trail" := (A5.keep K7)
  have f9 : n0 ≤ T7.heap.size := (Nat.le_trans f6 K7.1)
  obtain ⟨cq10, kq10, q10a, q10b, q10c⟩ := isOf hZ rfl f8
  obtain ⟨_, _, ⟨T10, L10, k10, n10⟩, -, X10, ⟨Lc10, hQ10, l10, y10, z10⟩, st10⟩ := X7.virtualBack hx (y := (⟨"com/example/deferra/deferra/engine/Trail", "next", "(II)I"⟩ : MethodName)) (z := (⟨"com/example/deferra/deferra/engine/Trail", "next", "(II)I"⟩ : MethodName)) hown (mvT hZ (hw _ (mw 29 rfl))) (mvT hZ (hw _ (mw 30 rfl))) (notFace_of_selects (args := #[]) (mvT hZ (hw _ (mw 32 rfl)))) (mvT hZ (hw _ (mw 32 rfl))) (mvT hZ (hw _ (mw 31 rfl))) (by decide) (backOf (W := 0) (rmnx0 l Z a0 hw [] b5 tl_7 th_7 tv_7 tm_7 lo1 hi1 T7.heap n0 f9 f8 P7_0 P7_1 P7_2 P7_3 P7_4 P7_5 P7_6 P7_7 P7_8 P7_9 P7_10 P7_11 P7_12 P7_13 P7_14 g_b5 g_tl_7 g_th_7 g_tv_7 g_tm_7 ne_b5_tl_7 ne_b5_th_7 ne_b5_tv_7 ne_b5_tm_7 ne7_tl_th ne7_tl_tv ne7_tl_tm ne7_th_tv ne7_th_tm ne7_tv_tm) hZ (hw _ (mw 33 rfl)) (hw _ (mw 9 rfl)) (by decide) (by decide)) q10a q10c (g := (mkF m 45 #[.val (.int u0), .val (.int u1), .val (.int u2), .val (.int u3), .val (.int lo1), .val (.int hi1), .val (.int lo2), .val (.int hi2), .val (.ref b5), .unset, .unset, .unset, .unset, .unset, .unset, .unset, .unset, .unset, .unset, .unset, .unset] [(.int hi1), (.int lo1), (.ref b5)])) rfl (by rw [hml]; rfl) (Steps.refl _) (argsL := [(.int lo1), (.int hi1)]) (rest := []) (lenOf pd_0 rfl) rfl (by show 2 * 0 + _ ≤ _; exact Nat.le_of_eq rfl) (hb hby at_45) (fun _ _ => ⟨rfl, rfl, (by decide : 5 + 0 ≤ _), (by decide : 78 + 0 ≤ _)⟩)
  dsimp only [Pt.U, Pt.locs, Pt.cells, Pt.slots] at X10 l10 y10 z10 st10 hQ10
  subst l10 y10 z10
  obtain ⟨rfl, N10q, K10, P10_0, P10_1, P10_2, P10_3, P10_4, P10_5, P10_6, P10_7, P10_8, P10_9, P10_10, P10_11, P10_12, P10_13, P10_14⟩ := hQ10
  have N10 := Fr.app N7 N10q
  refine Goal.tr (B := T10.setTop (mkF m 48 #[.val (.int u0), .val (.int u1), .val (.int u2), .val (.int u3), .val (.int lo1), .val (.int hi1), .val (.int lo2), .val (.int hi2), .val (.ref b5), .unset, .unset, .unset, .unset, .unset, .unset, .unset, .unset, .unset, .unset, .unset, .unset] [(.int lo1)])) st10 ?_
  refine Goal.to (B := T10.setTop (mkF m 56 #[.val (.int u0), .val (.int u1), .val (.int u2), .val (.int u3), .val (.int lo1), .val (.int hi1), .val (.int lo2), .val (.int hi2), .val (.ref b5), .val (.int lo1), .unset, .unset, .unset, .unset, .unset, .unset, .unset, .unset, .unset, .unset, .unset] [(.int hi2), (.int lo2), (.ref b5)])) (fun tt kk => ?_) ?_
  · show Steps p.tables e below (T10.setTop (mkF m 48 #[.val (.int u0), .val (.int u1), .val (.int u2), .val (.int u3), .val (.int lo1), .val (.int hi1), .val (.int lo2), .val (.int hi2), .val (.ref b5), .unset, .unset, .unset, .unset, .unset, .unset, .unset, .unset, .unset, .unset, .unset, .unset] [(.int lo1)])) tt
    refine XS.istore X10.here hx rfl (hb hby at_48) rfl (l' := #[.val (.int u0), .val (.int u1), .val (.int u2), .val (.int u3), .val (.int lo1), .val (.int hi1), .val (.int lo2), .val (.int hi2), .val (.ref b5), .val (.int lo1), .unset, .unset, .unset, .unset, .unset, .unset, .unset, .unset, .unset, .unset, .unset]) rfl ?_
    show Steps p.tables e below (T10.setTop (mkF m 50 #[.val (.int u0), .val (.int u1), .val (.int u2), .val (.int u3), .val (.int lo1), .val (.int hi1), .val (.int lo2), .val (.int hi2), .val (.ref b5), .val (.int lo1), .unset, .unset, .unset, .unset, .unset, .unset, .unset, .unset, .unset, .unset, .unset] [])) tt
    refine XS.aload X10.here hx rfl (hb hby at_50) rfl rfl ?_
    show Steps p.tables e below (T10.setTop (mkF m 52 #[.val (.int u0), .val (.int u1), .val (.int u2), .val (.int u3), .val (.int lo1), .val (.int hi1), .val (.int lo2), .val (.int hi2), .val (.ref b5), .val (.int lo1), .unset, .unset, .unset, .unset, .unset, .unset, .unset, .unset, .unset, .unset, .unset] [(.ref b5)])) tt
    refine XS.iload X10.here hx rfl (hb hby at_52) rfl ?_
    show Steps p.tables e below (T10.setTop (mkF m 54 #[.val (.int u0), .val (.int u1), .val (.int u2), .val (.int u3), .val (.int lo1), .val (.int hi1), .val (.int lo2), .val (.int hi2), .val (.ref b5), .val (.int lo1), .unset, .unset, .unset, .unset, .unset, .unset, .unset, .unset, .unset, .unset, .unset] [(.int lo2), (.ref b5)])) tt
    refine XS.iload X10.here hx rfl (hb hby at_54) rfl ?_
    exact kk
  have f11 : Exa Z T10.heap b5 "com/example/deferra/deferra/engine/Trail" := (f8.keep K10)
  have f12 : n0 ≤ T10.heap.size := (Nat.le_trans f9 K10.1)
  obtain ⟨cq13, kq13, q13a, q13b, q13c⟩ := isOf hZ rfl f11
  obtain ⟨_, _, ⟨T13, L13, k13, n13⟩, -, X13, ⟨Lc13, hQ13, l13, y13, z13⟩, st13⟩ := X10.virtualBack hx (y := (⟨"com/example/deferra/deferra/engine/Trail", "next", "(II)I"⟩ : MethodName)) (z := (⟨"com/example/deferra/deferra/engine/Trail", "next", "(II)I"⟩ : MethodName)) hown (mvT hZ (hw _ (mw 29 rfl))) (mvT hZ (hw _ (mw 30 rfl))) (notFace_of_selects (args := #[]) (mvT hZ (hw _ (mw 32 rfl)))) (mvT hZ (hw _ (mw 32 rfl))) (mvT hZ (hw _ (mw 31 rfl))) (by decide) (backOf (W := 0) (rmnx1 l Z a0 hw [] b5 tl_7 th_7 tv_7 tm_7 lo1 hi1 lo1 lo2 hi2 T10.heap n0 f12 f11 P10_0 P10_1 P10_2 P10_3 P10_4 P10_5 P10_6 P10_7 P10_8 P10_9 P10_10 P10_11 P10_12 P10_13 P10_14 g_b5 g_tl_7 g_th_7 g_tv_7 g_tm_7 ne_b5_tl_7 ne_b5_th_7 ne_b5_tv_7 ne_b5_tm_7 ne7_tl_th ne7_tl_tv ne7_tl_tm ne7_th_tv ne7_th_tm ne7_tv_tm) hZ (hw _ (mw 33 rfl)) (hw _ (mw 9 rfl)) (by decide) (by decide)) q13a q13c (g := (mkF m 56 #[.val (.int u0), .val (.int u1), .val (.int u2), .val (.int u3), .val (.int lo1), .val (.int hi1), .val (.int lo2), .val (.int hi2), .val (.ref b5), .val (.int lo1), .unset, .unset, .unset, .unset, .unset, .unset, .unset, .unset, .unset, .unset, .unset] [(.int hi2), (.int lo2), (.ref b5)])) rfl (by rw [hml]; rfl) (Steps.refl _) (argsL := [(.int lo2), (.int hi2)]) (rest := []) (lenOf pd_0 rfl) rfl (by show 2 * 0 + _ ≤ _; exact Nat.le_of_eq rfl) (hb hby at_56) (fun _ _ => ⟨rfl, rfl, (by decide : 5 + 0 ≤ _), (by decide : 78 + 0 ≤ _)⟩)
  dsimp only [Pt.U, Pt.locs, Pt.cells, Pt.slots] at X13 l13 y13 z13 st13 hQ13
  subst l13 y13 z13
  obtain ⟨rfl, N13q, K13, P13_0, P13_1, P13_2, P13_3, P13_4, P13_5, P13_6, P13_7, P13_8, P13_9, P13_10, P13_11, P13_12, P13_13, P13_14⟩ := hQ13
  have N13 := Fr.app N10 N13q
  refine Goal.tr (B := T13.setTop (mkF m 59 #[.val (.int u0), .val (.int u1), .val (.int u2), .val (.int u3), .val (.int lo1), .val (.int hi1), .val (.int lo2), .val (.int hi2), .val (.ref b5), .val (.int lo1), .unset, .unset, .unset, .unset, .unset, .unset, .unset, .unset, .unset, .unset, .unset] [(.int lo2)])) st13 ?_
  refine Goal.to (B := T13.setTop (mkF m 103 #[.val (.int u0), .val (.int u1), .val (.int u2), .val (.int u3), .val (.int lo1), .val (.int hi1), .val (.int lo2), .val (.int hi2), .val (.ref b5), .val (.int lo1), .val (.int lo2), .val (.int (1 : Int32)), .val (.int lo1), .val (.int lo2), .val (.int (2 : Int32)), .unset, .unset, .unset, .unset, .unset, .unset] [(.int hi2), (.int lo2)])) (fun tt kk => ?_) ?_
  · show Steps p.tables e below (T13.setTop (mkF m 59 #[.val (.int u0), .val (.int u1), .val (.int u2), .val (.int u3), .val (.int lo1), .val (.int hi1), .val (.int lo2), .val (.int hi2), .val (.ref b5), .val (.int lo1), .unset, .unset, .unset, .unset, .unset, .unset, .unset, .unset, .unset, .unset, .unset] [(.int lo2)])) tt
    refine XS.istore X13.here hx rfl (hb hby at_59) rfl (l' := #[.val (.int u0), .val (.int u1), .val (.int u2), .val (.int u3), .val (.int lo1), .val (.int hi1), .val (.int lo2), .val (.int hi2), .val (.ref b5), .val (.int lo1), .val (.int lo2), .unset, .unset, .unset, .unset, .unset, .unset, .unset, .unset, .unset, .unset]) rfl ?_
    show Steps p.tables e below (T13.setTop (mkF m 61 #[.val (.int u0), .val (.int u1), .val (.int u2), .val (.int u3), .val (.int lo1), .val (.int hi1), .val (.int lo2), .val (.int hi2), .val (.ref b5), .val (.int lo1), .val (.int lo2), .unset, .unset, .unset, .unset, .unset, .unset, .unset, .unset, .unset, .unset] [])) tt
    refine XS.iload X13.here hx rfl (hb hby at_61) rfl ?_
    show Steps p.tables e below (T13.setTop (mkF m 63 #[.val (.int u0), .val (.int u1), .val (.int u2), .val (.int u3), .val (.int lo1), .val (.int hi1), .val (.int lo2), .val (.int hi2), .val (.ref b5), .val (.int lo1), .val (.int lo2), .unset, .unset, .unset, .unset, .unset, .unset, .unset, .unset, .unset, .unset] [(.int lo1)])) tt
    refine XS.iload X13.here hx rfl (hb hby at_63) rfl ?_
    show Steps p.tables e below (T13.setTop (mkF m 65 #[.val (.int u0), .val (.int u1), .val (.int u2), .val (.int u3), .val (.int lo1), .val (.int hi1), .val (.int lo2), .val (.int hi2), .val (.ref b5), .val (.int lo1), .val (.int lo2), .unset, .unset, .unset, .unset, .unset, .unset, .unset, .unset, .unset, .unset] [(.int lo1), (.int lo1)])) tt
    refine XS.icmpNo X13.here hx rfl (hb hby at_65) rfl (teq (rfl : lo1 = lo1)).2 ?_
    show Steps p.tables e below (T13.setTop (mkF m 68 #[.val (.int u0), .val (.int u1), .val (.int u2), .val (.int u3), .val (.int lo1), .val (.int hi1), .val (.int lo2), .val (.int hi2), .val (.ref b5), .val (.int lo1), .val (.int lo2), .unset, .unset, .unset, .unset, .unset, .unset, .unset, .unset, .unset, .unset] [])) tt
    refine XS.iload X13.here hx rfl (hb hby at_68) rfl ?_
    show Steps p.tables e below (T13.setTop (mkF m 70 #[.val (.int u0), .val (.int u1), .val (.int u2), .val (.int u3), .val (.int lo1), .val (.int hi1), .val (.int lo2), .val (.int hi2), .val (.ref b5), .val (.int lo1), .val (.int lo2), .unset, .unset, .unset, .unset, .unset, .unset, .unset, .unset, .unset, .unset] [(.int lo2)])) tt
    refine XS.iload X13.here hx rfl (hb hby at_70) rfl ?_
    show Steps p.tables e below (T13.setTop (mkF m 72 #[.val (.int u0), .val (.int u1), .val (.int u2), .val (.int u3), .val (.int lo1), .val (.int hi1), .val (.int lo2), .val (.int hi2), .val (.ref b5), .val (.int lo1), .val (.int lo2), .unset, .unset, .unset, .unset, .unset, .unset, .unset, .unset, .unset, .unset] [(.int lo2), (.int lo2)])) tt
    refine XS.icmpNo X13.here hx rfl (hb hby at_72) rfl (teq (rfl : lo2 = lo2)).2 ?_
    show Steps p.tables e below (T13.setTop (mkF m 75 #[.val (.int u0), .val (.int u1), .val (.int u2), .val (.int u3), .val (.int lo1), .val (.int hi1), .val (.int lo2), .val (.int hi2), .val (.ref b5), .val (.int lo1), .val (.int lo2), .unset, .unset, .unset, .unset, .unset, .unset, .unset, .unset, .unset, .unset] [])) tt
    refine XS.iconst X13.here hx rfl (hb hby at_75) ?_
    show Steps p.tables e below (T13.setTop (mkF m 76 #[.val (.int u0), .val (.int u1), .val (.int u2), .val (.int u3), .val (.int lo1), .val (.int hi1), .val (.int lo2), .val (.int hi2), .val (.ref b5), .val (.int lo1), .val (.int lo2), .unset, .unset, .unset, .unset, .unset, .unset, .unset, .unset, .unset, .unset] [(.int (1 : Int32))])) tt
    refine XS.goto X13.here hx rfl (pc0 := 76) (pc' := 80) rfl (hb hby at_76) (by decide) (by decide) ?_
    show Steps p.tables e below (T13.setTop (mkF m 80 #[.val (.int u0), .val (.int u1), .val (.int u2), .val (.int u3), .val (.int lo1), .val (.int hi1), .val (.int lo2), .val (.int hi2), .val (.ref b5), .val (.int lo1), .val (.int lo2), .unset, .unset, .unset, .unset, .unset, .unset, .unset, .unset, .unset, .unset] [(.int (1 : Int32))])) tt
    refine XS.istore X13.here hx rfl (hb hby at_80) rfl (l' := #[.val (.int u0), .val (.int u1), .val (.int u2), .val (.int u3), .val (.int lo1), .val (.int hi1), .val (.int lo2), .val (.int hi2), .val (.ref b5), .val (.int lo1), .val (.int lo2), .val (.int (1 : Int32)), .unset, .unset, .unset, .unset, .unset, .unset, .unset, .unset, .unset]) rfl ?_
    show Steps p.tables e below (T13.setTop (mkF m 82 #[.val (.int u0), .val (.int u1), .val (.int u2), .val (.int u3), .val (.int lo1), .val (.int hi1), .val (.int lo2), .val (.int hi2), .val (.ref b5), .val (.int lo1), .val (.int lo2), .val (.int (1 : Int32)), .unset, .unset, .unset, .unset, .unset, .unset, .unset, .unset, .unset] [])) tt
    refine XS.iload X13.here hx rfl (hb hby at_82) rfl ?_
    show Steps p.tables e below (T13.setTop (mkF m 84 #[.val (.int u0), .val (.int u1), .val (.int u2), .val (.int u3), .val (.int lo1), .val (.int hi1), .val (.int lo2), .val (.int hi2), .val (.ref b5), .val (.int lo1), .val (.int lo2), .val (.int (1 : Int32)), .unset, .unset, .unset, .unset, .unset, .unset, .unset, .unset, .unset] [(.int lo1)])) tt
    refine XS.istore X13.here hx rfl (hb hby at_84) rfl (l' := #[.val (.int u0), .val (.int u1), .val (.int u2), .val (.int u3), .val (.int lo1), .val (.int hi1), .val (.int lo2), .val (.int hi2), .val (.ref b5), .val (.int lo1), .val (.int lo2), .val (.int (1 : Int32)), .val (.int lo1), .unset, .unset, .unset, .unset, .unset, .unset, .unset, .unset]) rfl ?_
    show Steps p.tables e below (T13.setTop (mkF m 86 #[.val (.int u0), .val (.int u1), .val (.int u2), .val (.int u3), .val (.int lo1), .val (.int hi1), .val (.int lo2), .val (.int hi2), .val (.ref b5), .val (.int lo1), .val (.int lo2), .val (.int (1 : Int32)), .val (.int lo1), .unset, .unset, .unset, .unset, .unset, .unset, .unset, .unset] [])) tt
    refine XS.iload X13.here hx rfl (hb hby at_86) rfl ?_
    show Steps p.tables e below (T13.setTop (mkF m 88 #[.val (.int u0), .val (.int u1), .val (.int u2), .val (.int u3), .val (.int lo1), .val (.int hi1), .val (.int lo2), .val (.int hi2), .val (.ref b5), .val (.int lo1), .val (.int lo2), .val (.int (1 : Int32)), .val (.int lo1), .unset, .unset, .unset, .unset, .unset, .unset, .unset, .unset] [(.int lo2)])) tt
    refine XS.istore X13.here hx rfl (hb hby at_88) rfl (l' := #[.val (.int u0), .val (.int u1), .val (.int u2), .val (.int u3), .val (.int lo1), .val (.int hi1), .val (.int lo2), .val (.int hi2), .val (.ref b5), .val (.int lo1), .val (.int lo2), .val (.int (1 : Int32)), .val (.int lo1), .val (.int lo2), .unset, .unset, .unset, .unset, .unset, .unset, .unset]) rfl ?_
    show Steps p.tables e below (T13.setTop (mkF m 90 #[.val (.int u0), .val (.int u1), .val (.int u2), .val (.int u3), .val (.int lo1), .val (.int hi1), .val (.int lo2), .val (.int hi2), .val (.ref b5), .val (.int lo1), .val (.int lo2), .val (.int (1 : Int32)), .val (.int lo1), .val (.int lo2), .unset, .unset, .unset, .unset, .unset, .unset, .unset] [])) tt
    refine XS.iconst X13.here hx rfl (hb hby at_90) ?_
    show Steps p.tables e below (T13.setTop (mkF m 91 #[.val (.int u0), .val (.int u1), .val (.int u2), .val (.int u3), .val (.int lo1), .val (.int hi1), .val (.int lo2), .val (.int hi2), .val (.ref b5), .val (.int lo1), .val (.int lo2), .val (.int (1 : Int32)), .val (.int lo1), .val (.int lo2), .unset, .unset, .unset, .unset, .unset, .unset, .unset] [(.int (2 : Int32))])) tt
    refine XS.istore X13.here hx rfl (hb hby at_91) rfl (l' := #[.val (.int u0), .val (.int u1), .val (.int u2), .val (.int u3), .val (.int lo1), .val (.int hi1), .val (.int lo2), .val (.int hi2), .val (.ref b5), .val (.int lo1), .val (.int lo2), .val (.int (1 : Int32)), .val (.int lo1), .val (.int lo2), .val (.int (2 : Int32)), .unset, .unset, .unset, .unset, .unset, .unset]) rfl ?_
    show Steps p.tables e below (T13.setTop (mkF m 93 #[.val (.int u0), .val (.int u1), .val (.int u2), .val (.int u3), .val (.int lo1), .val (.int hi1), .val (.int lo2), .val (.int hi2), .val (.ref b5), .val (.int lo1), .val (.int lo2), .val (.int (1 : Int32)), .val (.int lo1), .val (.int lo2), .val (.int (2 : Int32)), .unset, .unset, .unset, .unset, .unset, .unset] [])) tt
    refine XS.iload X13.here hx rfl (hb hby at_93) rfl ?_
    show Steps p.tables e below (T13.setTop (mkF m 95 #[.val (.int u0), .val (.int u1), .val (.int u2), .val (.int u3), .val (.int lo1), .val (.int hi1), .val (.int lo2), .val (.int hi2), .val (.ref b5), .val (.int lo1), .val (.int lo2), .val (.int (1 : Int32)), .val (.int lo1), .val (.int lo2), .val (.int (2 : Int32)), .unset, .unset, .unset, .unset, .unset, .unset] [(.int (2 : Int32))])) tt
    refine XS.iconst X13.here hx rfl (hb hby at_95) ?_
    show Steps p.tables e below (T13.setTop (mkF m 96 #[.val (.int u0), .val (.int u1), .val (.int u2), .val (.int u3), .val (.int lo1), .val (.int hi1), .val (.int lo2), .val (.int hi2), .val (.ref b5), .val (.int lo1), .val (.int lo2), .val (.int (1 : Int32)), .val (.int lo1), .val (.int lo2), .val (.int (2 : Int32)), .unset, .unset, .unset, .unset, .unset, .unset] [(.int (2 : Int32)), (.int (2 : Int32))])) tt
    refine XS.icmpNo X13.here hx rfl (hb hby at_96) rfl (teq (rfl : (2 : Int32) = (2 : Int32))).2 ?_
    show Steps p.tables e below (T13.setTop (mkF m 99 #[.val (.int u0), .val (.int u1), .val (.int u2), .val (.int u3), .val (.int lo1), .val (.int hi1), .val (.int lo2), .val (.int hi2), .val (.ref b5), .val (.int lo1), .val (.int lo2), .val (.int (1 : Int32)), .val (.int lo1), .val (.int lo2), .val (.int (2 : Int32)), .unset, .unset, .unset, .unset, .unset, .unset] [])) tt
    refine XS.iload X13.here hx rfl (hb hby at_99) rfl ?_
    show Steps p.tables e below (T13.setTop (mkF m 101 #[.val (.int u0), .val (.int u1), .val (.int u2), .val (.int u3), .val (.int lo1), .val (.int hi1), .val (.int lo2), .val (.int hi2), .val (.ref b5), .val (.int lo1), .val (.int lo2), .val (.int (1 : Int32)), .val (.int lo1), .val (.int lo2), .val (.int (2 : Int32)), .unset, .unset, .unset, .unset, .unset, .unset] [(.int lo2)])) tt
    refine XS.iload X13.here hx rfl (hb hby at_101) rfl ?_
    exact kk
  by_cases hc14 : lo2 = hi2
  · refine Goal.to (B := T13.setTop (mkF m 136 #[.val (.int u0), .val (.int u1), .val (.int u2), .val (.int u3), .val (.int lo1), .val (.int hi1), .val (.int lo2), .val (.int hi2), .val (.ref b5), .val (.int lo1), .val (.int lo2), .val (.int (1 : Int32)), .val (.int lo1), .val (.int lo2), .val (.int (2 : Int32)), .unset, .unset, .unset, .unset, .unset, .unset] [(.int hi1), (.int lo1)])) (fun tt kk => ?_) ?_
    · show Steps p.tables e below (T13.setTop (mkF m 103 #[.val (.int u0), .val (.int u1), .val (.int u2), .val (.int u3), .val (.int lo1), .val (.int hi1), .val (.int lo2), .val (.int hi2), .val (.ref b5), .val (.int lo1), .val (.int lo2), .val (.int (1 : Int32)), .val (.int lo1), .val (.int lo2), .val (.int (2 : Int32)), .unset, .unset, .unset, .unset, .unset, .unset] [(.int hi2), (.int lo2)])) tt
      refine XS.icmpYes X13.here hx rfl (pc0 := 103) (pc' := 132) rfl (hb hby at_103) rfl (teq hc14).1 (by decide) (by decide) ?_
      show Steps p.tables e below (T13.setTop (mkF m 132 #[.val (.int u0), .val (.int u1), .val (.int u2), .val (.int u3), .val (.int lo1), .val (.int hi1), .val (.int lo2), .val (.int hi2), .val (.ref b5), .val (.int lo1), .val (.int lo2), .val (.int (1 : Int32)), .val (.int lo1), .val (.int lo2), .val (.int (2 : Int32)), .unset, .unset, .unset, .unset, .unset, .unset] [])) tt
      refine XS.iload X13.here hx rfl (hb hby at_132) rfl ?_
      show Steps p.tables e below (T13.setTop (mkF m 134 #[.val (.int u0), .val (.int u1), .val (.int u2), .val (.int u3), .val (.int lo1), .val (.int hi1), .val (.int lo2), .val (.int hi2), .val (.ref b5), .val (.int lo1), .val (.int lo2), .val (.int (1 : Int32)), .val (.int lo1), .val (.int lo2), .val (.int (2 : Int32)), .unset, .unset, .unset, .unset, .unset, .unset] [(.int lo1)])) tt
      refine XS.iload X13.here hx rfl (hb hby at_134) rfl ?_
      exact kk
    by_cases hc15 : lo1 = hi1
    · refine Goal.to (B := T13.setTop (mkF m 208 #[.val (.int u0), .val (.int u1), .val (.int u2), .val (.int u3), .val (.int lo1), .val (.int hi1), .val (.int lo2), .val (.int hi2), .val (.ref b5), .val (.int lo1), .val (.int lo2), .val (.int (1 : Int32)), .val (.int lo1), .val (.int lo2), .val (.int (2 : Int32)), .val (.int (0 : Int32)), .val (.int (1 : Int32)), .unset, .unset, .unset, .unset] [(.ref b5)])) (fun tt kk => ?_) ?_
      · show Steps p.tables e below (T13.setTop (mkF m 136 #[.val (.int u0), .val (.int u1), .val (.int u2), .val (.int u3), .val (.int lo1), .val (.int hi1), .val (.int lo2), .val (.int hi2), .val (.ref b5), .val (.int lo1), .val (.int lo2), .val (.int (1 : Int32)), .val (.int lo1), .val (.int lo2), .val (.int (2 : Int32)), .unset, .unset, .unset, .unset, .unset, .unset] [(.int hi1), (.int lo1)])) tt
        refine XS.icmpYes X13.here hx rfl (pc0 := 136) (pc' := 168) rfl (hb hby at_136) rfl (teq hc15).1 (by decide) (by decide) ?_
        show Steps p.tables e below (T13.setTop (mkF m 168 #[.val (.int u0), .val (.int u1), .val (.int u2), .val (.int u3), .val (.int lo1), .val (.int hi1), .val (.int lo2), .val (.int hi2), .val (.ref b5), .val (.int lo1), .val (.int lo2), .val (.int (1 : Int32)), .val (.int lo1), .val (.int lo2), .val (.int (2 : Int32)), .unset, .unset, .unset, .unset, .unset, .unset] [])) tt
        refine XS.iconst X13.here hx rfl (hb hby at_168) ?_
        show Steps p.tables e below (T13.setTop (mkF m 169 #[.val (.int u0), .val (.int u1), .val (.int u2), .val (.int u3), .val (.int lo1), .val (.int hi1), .val (.int lo2), .val (.int hi2), .val (.ref b5), .val (.int lo1), .val (.int lo2), .val (.int (1 : Int32)), .val (.int lo1), .val (.int lo2), .val (.int (2 : Int32)), .unset, .unset, .unset, .unset, .unset, .unset] [(.int (0 : Int32))])) tt
        refine XS.istore X13.here hx rfl (hb hby at_169) rfl (l' := #[.val (.int u0), .val (.int u1), .val (.int u2), .val (.int u3), .val (.int lo1), .val (.int hi1), .val (.int lo2), .val (.int hi2), .val (.ref b5), .val (.int lo1), .val (.int lo2), .val (.int (1 : Int32)), .val (.int lo1), .val (.int lo2), .val (.int (2 : Int32)), .val (.int (0 : Int32)), .unset, .unset, .unset, .unset, .unset]) rfl ?_
        show Steps p.tables e below (T13.setTop (mkF m 171 #[.val (.int u0), .val (.int u1), .val (.int u2), .val (.int u3), .val (.int lo1), .val (.int hi1), .val (.int lo2), .val (.int hi2), .val (.ref b5), .val (.int lo1), .val (.int lo2), .val (.int (1 : Int32)), .val (.int lo1), .val (.int lo2), .val (.int (2 : Int32)), .val (.int (0 : Int32)), .unset, .unset, .unset, .unset, .unset] [])) tt
        refine XS.iload X13.here hx rfl (hb hby at_171) rfl ?_
        show Steps p.tables e below (T13.setTop (mkF m 173 #[.val (.int u0), .val (.int u1), .val (.int u2), .val (.int u3), .val (.int lo1), .val (.int hi1), .val (.int lo2), .val (.int hi2), .val (.ref b5), .val (.int lo1), .val (.int lo2), .val (.int (1 : Int32)), .val (.int lo1), .val (.int lo2), .val (.int (2 : Int32)), .val (.int (0 : Int32)), .unset, .unset, .unset, .unset, .unset] [(.int (2 : Int32))])) tt
        refine XS.iconst X13.here hx rfl (hb hby at_173) ?_
        show Steps p.tables e below (T13.setTop (mkF m 174 #[.val (.int u0), .val (.int u1), .val (.int u2), .val (.int u3), .val (.int lo1), .val (.int hi1), .val (.int lo2), .val (.int hi2), .val (.ref b5), .val (.int lo1), .val (.int lo2), .val (.int (1 : Int32)), .val (.int lo1), .val (.int lo2), .val (.int (2 : Int32)), .val (.int (0 : Int32)), .unset, .unset, .unset, .unset, .unset] [(.int (2 : Int32)), (.int (2 : Int32))])) tt
        refine XS.icmpNo X13.here hx rfl (hb hby at_174) rfl (teq (rfl : (2 : Int32) = (2 : Int32))).2 ?_
        show Steps p.tables e below (T13.setTop (mkF m 177 #[.val (.int u0), .val (.int u1), .val (.int u2), .val (.int u3), .val (.int lo1), .val (.int hi1), .val (.int lo2), .val (.int hi2), .val (.ref b5), .val (.int lo1), .val (.int lo2), .val (.int (1 : Int32)), .val (.int lo1), .val (.int lo2), .val (.int (2 : Int32)), .val (.int (0 : Int32)), .unset, .unset, .unset, .unset, .unset] [])) tt
        refine XS.iload X13.here hx rfl (hb hby at_177) rfl ?_
        show Steps p.tables e below (T13.setTop (mkF m 179 #[.val (.int u0), .val (.int u1), .val (.int u2), .val (.int u3), .val (.int lo1), .val (.int hi1), .val (.int lo2), .val (.int hi2), .val (.ref b5), .val (.int lo1), .val (.int lo2), .val (.int (1 : Int32)), .val (.int lo1), .val (.int lo2), .val (.int (2 : Int32)), .val (.int (0 : Int32)), .unset, .unset, .unset, .unset, .unset] [(.int lo2)])) tt
        refine XS.iload X13.here hx rfl (hb hby at_179) rfl ?_
        show Steps p.tables e below (T13.setTop (mkF m 181 #[.val (.int u0), .val (.int u1), .val (.int u2), .val (.int u3), .val (.int lo1), .val (.int hi1), .val (.int lo2), .val (.int hi2), .val (.ref b5), .val (.int lo1), .val (.int lo2), .val (.int (1 : Int32)), .val (.int lo1), .val (.int lo2), .val (.int (2 : Int32)), .val (.int (0 : Int32)), .unset, .unset, .unset, .unset, .unset] [(.int hi2), (.int lo2)])) tt
        refine XS.icmpNo X13.here hx rfl (hb hby at_181) rfl (teq hc14).2 ?_
        show Steps p.tables e below (T13.setTop (mkF m 184 #[.val (.int u0), .val (.int u1), .val (.int u2), .val (.int u3), .val (.int lo1), .val (.int hi1), .val (.int lo2), .val (.int hi2), .val (.ref b5), .val (.int lo1), .val (.int lo2), .val (.int (1 : Int32)), .val (.int lo1), .val (.int lo2), .val (.int (2 : Int32)), .val (.int (0 : Int32)), .unset, .unset, .unset, .unset, .unset] [])) tt
        refine XS.iconst X13.here hx rfl (hb hby at_184) ?_
        show Steps p.tables e below (T13.setTop (mkF m 185 #[.val (.int u0), .val (.int u1), .val (.int u2), .val (.int u3), .val (.int lo1), .val (.int hi1), .val (.int lo2), .val (.int hi2), .val (.ref b5), .val (.int lo1), .val (.int lo2), .val (.int (1 : Int32)), .val (.int lo1), .val (.int lo2), .val (.int (2 : Int32)), .val (.int (0 : Int32)), .unset, .unset, .unset, .unset, .unset] [(.int (1 : Int32))])) tt
        refine XS.goto X13.here hx rfl (pc0 := 185) (pc' := 204) rfl (hb hby at_185) (by decide) (by decide) ?_
        show Steps p.tables e below (T13.setTop (mkF m 204 #[.val (.int u0), .val (.int u1), .val (.int u2), .val (.int u3), .val (.int lo1), .val (.int hi1), .val (.int lo2), .val (.int hi2), .val (.ref b5), .val (.int lo1), .val (.int lo2), .val (.int (1 : Int32)), .val (.int lo1), .val (.int lo2), .val (.int (2 : Int32)), .val (.int (0 : Int32)), .unset, .unset, .unset, .unset, .unset] [(.int (1 : Int32))])) tt
        refine XS.istore X13.here hx rfl (hb hby at_204) rfl (l' := #[.val (.int u0), .val (.int u1), .val (.int u2), .val (.int u3), .val (.int lo1), .val (.int hi1), .val (.int lo2), .val (.int hi2), .val (.ref b5), .val (.int lo1), .val (.int lo2), .val (.int (1 : Int32)), .val (.int lo1), .val (.int lo2), .val (.int (2 : Int32)), .val (.int (0 : Int32)), .val (.int (1 : Int32)), .unset, .unset, .unset, .unset]) rfl ?_
        show Steps p.tables e below (T13.setTop (mkF m 206 #[.val (.int u0), .val (.int u1), .val (.int u2), .val (.int u3), .val (.int lo1), .val (.int hi1), .val (.int lo2), .val (.int hi2), .val (.ref b5), .val (.int lo1), .val (.int lo2), .val (.int (1 : Int32)), .val (.int lo1), .val (.int lo2), .val (.int (2 : Int32)), .val (.int (0 : Int32)), .val (.int (1 : Int32)), .unset, .unset, .unset, .unset] [])) tt
        refine XS.aload X13.here hx rfl (hb hby at_206) rfl rfl ?_
        exact kk
      have f16 : Exa Z T13.heap b5 "com/example/deferra/deferra/engine/Trail" := (f11.keep K13)
      have f17 : n0 ≤ T13.heap.size := (Nat.le_trans f12 K13.1)
      obtain ⟨cq18, kq18, q18a, q18b, q18c⟩ := isOf hZ rfl f16
      obtain ⟨_, _, ⟨T18, L18, k18, n18⟩, -, X18, ⟨Lc18, hQ18, l18, y18, z18⟩, st18⟩ := X13.virtualBack hx (y := (⟨"com/example/deferra/deferra/engine/Trail", "advance", "()Z"⟩ : MethodName)) (z := (⟨"com/example/deferra/deferra/engine/Trail", "advance", "()Z"⟩ : MethodName)) hown (mvT hZ (hw _ (mw 50 rfl))) (mvT hZ (hw _ (mw 51 rfl))) (notFace_of_selects (args := #[]) (mvT hZ (hw _ (mw 53 rfl)))) (mvT hZ (hw _ (mw 53 rfl))) (mvT hZ (hw _ (mw 52 rfl))) (by decide) (backOf (W := 0) (rmav2C l Z a0 hw [] b5 th_7 tv_7 hi1 hi2 lo1 lo2 T13.heap n0 f17 f16 P13_4 P13_7 P13_2 P13_1 P13_10 P13_12 P13_13 g_b5 g_tv_7 ne_b5_tv_7 ne_b5_th_7 ne7_th_tv (by assumption) (by assumption)) hZ (hw _ (mw 54 rfl)) (hw _ (mw 9 rfl)) (by decide) (by decide)) q18a q18c (g := (mkF m 208 #[.val (.int u0), .val (.int u1), .val (.int u2), .val (.int u3), .val (.int lo1), .val (.int hi1), .val (.int lo2), .val (.int hi2), .val (.ref b5), .val (.int lo1), .val (.int lo2), .val (.int (1 : Int32)), .val (.int lo1), .val (.int lo2), .val (.int (2 : Int32)), .val (.int (0 : Int32)), .val (.int (1 : Int32)), .unset, .unset, .unset, .unset] [(.ref b5)])) rfl (by rw [hml]; rfl) (Steps.refl _) (argsL := []) (rest := []) (lenOf pd_4 rfl) rfl (by show 2 * 0 + _ ≤ _; exact Nat.le_of_eq rfl) (hb hby at_208) (fun _ _ => ⟨rfl, rfl, (by decide : 5 + 0 ≤ _), (by decide : 78 + 0 ≤ _)⟩)
      dsimp only [Pt.U, Pt.locs, Pt.cells, Pt.slots] at X18 l18 y18 z18 st18 hQ18
      subst l18 y18 z18
      obtain ⟨rfl, N18q, e18⟩ := hQ18
      have N18 := Fr.app N13 N18q
      refine Goal.tr (B := T18.setTop (mkF m 211 #[.val (.int u0), .val (.int u1), .val (.int u2), .val (.int u3), .val (.int lo1), .val (.int hi1), .val (.int lo2), .val (.int hi2), .val (.ref b5), .val (.int lo1), .val (.int lo2), .val (.int (1 : Int32)), .val (.int lo1), .val (.int lo2), .val (.int (2 : Int32)), .val (.int (0 : Int32)), .val (.int (1 : Int32)), .unset, .unset, .unset, .unset] [(.int (0 : Int32))])) st18 ?_
      refine Goal.to (B := T18.setTop (mkF m 215 #[.val (.int u0), .val (.int u1), .val (.int u2), .val (.int u3), .val (.int lo1), .val (.int hi1), .val (.int lo2), .val (.int hi2), .val (.ref b5), .val (.int lo1), .val (.int lo2), .val (.int (1 : Int32)), .val (.int lo1), .val (.int lo2), .val (.int (2 : Int32)), .val (.int (0 : Int32)), .val (.int (1 : Int32)), .val (.int (0 : Int32)), .unset, .unset, .unset] [(.ref b5)])) (fun tt kk => ?_) ?_
      · show Steps p.tables e below (T18.setTop (mkF m 211 #[.val (.int u0), .val (.int u1), .val (.int u2), .val (.int u3), .val (.int lo1), .val (.int hi1), .val (.int lo2), .val (.int hi2), .val (.ref b5), .val (.int lo1), .val (.int lo2), .val (.int (1 : Int32)), .val (.int lo1), .val (.int lo2), .val (.int (2 : Int32)), .val (.int (0 : Int32)), .val (.int (1 : Int32)), .unset, .unset, .unset, .unset] [(.int (0 : Int32))])) tt
        refine XS.istore X18.here hx rfl (hb hby at_211) rfl (l' := #[.val (.int u0), .val (.int u1), .val (.int u2), .val (.int u3), .val (.int lo1), .val (.int hi1), .val (.int lo2), .val (.int hi2), .val (.ref b5), .val (.int lo1), .val (.int lo2), .val (.int (1 : Int32)), .val (.int lo1), .val (.int lo2), .val (.int (2 : Int32)), .val (.int (0 : Int32)), .val (.int (1 : Int32)), .val (.int (0 : Int32)), .unset, .unset, .unset]) rfl ?_
        show Steps p.tables e below (T18.setTop (mkF m 213 #[.val (.int u0), .val (.int u1), .val (.int u2), .val (.int u3), .val (.int lo1), .val (.int hi1), .val (.int lo2), .val (.int hi2), .val (.ref b5), .val (.int lo1), .val (.int lo2), .val (.int (1 : Int32)), .val (.int lo1), .val (.int lo2), .val (.int (2 : Int32)), .val (.int (0 : Int32)), .val (.int (1 : Int32)), .val (.int (0 : Int32)), .unset, .unset, .unset] [])) tt
        refine XS.aload X18.here hx rfl (hb hby at_213) rfl rfl ?_
        exact kk
      obtain ⟨cq19, kq19, q19a, q19b, q19c⟩ := isOf hZ e18 f16
      obtain ⟨_, _, ⟨T19, L19, k19, n19⟩, -, X19, ⟨Lc19, hQ19, l19, y19, z19⟩, st19⟩ := X18.virtualBack hx (y := (⟨"com/example/deferra/deferra/engine/Trail", "changeIsLast", "()Z"⟩ : MethodName)) (z := (⟨"com/example/deferra/deferra/engine/Trail", "changeIsLast", "()Z"⟩ : MethodName)) hown (mvT hZ (hw _ (mw 61 rfl))) (mvT hZ (hw _ (mw 62 rfl))) (notFace_of_selects (args := #[]) (mvT hZ (hw _ (mw 64 rfl)))) (mvT hZ (hw _ (mw 64 rfl))) (mvT hZ (hw _ (mw 63 rfl))) (by decide) (backOf (W := 0) (rmcl2 l Z a0 hw [] b5 th_7 tv_7 hi1 hi2 lo1 lo2 T13.heap n0 f17 P13_7 P13_2 P13_1 P13_12 P13_13) hZ (hw _ (mw 65 rfl)) (hw _ (mw 9 rfl)) (by decide) (by decide)) q19a q19c (g := (mkF m 215 #[.val (.int u0), .val (.int u1), .val (.int u2), .val (.int u3), .val (.int lo1), .val (.int hi1), .val (.int lo2), .val (.int hi2), .val (.ref b5), .val (.int lo1), .val (.int lo2), .val (.int (1 : Int32)), .val (.int lo1), .val (.int lo2), .val (.int (2 : Int32)), .val (.int (0 : Int32)), .val (.int (1 : Int32)), .val (.int (0 : Int32)), .unset, .unset, .unset] [(.ref b5)])) rfl (by rw [hml]; rfl) (Steps.refl _) (argsL := []) (rest := []) (lenOf pd_4 rfl) rfl (by show 2 * 0 + _ ≤ _; exact Nat.le_of_eq rfl) (hb hby at_215) (fun _ _ => ⟨rfl, e18, (by decide : 5 + 0 ≤ _), (by decide : 78 + 0 ≤ _)⟩)
      dsimp only [Pt.U, Pt.locs, Pt.cells, Pt.slots] at X19 l19 y19 z19 st19 hQ19
      subst l19 y19 z19
      obtain ⟨rfl, N19q, e19⟩ := hQ19
      have N19 := Fr.app N18 N19q
      refine Goal.tr (B := T19.setTop (mkF m 218 #[.val (.int u0), .val (.int u1), .val (.int u2), .val (.int u3), .val (.int lo1), .val (.int hi1), .val (.int lo2), .val (.int hi2), .val (.ref b5), .val (.int lo1), .val (.int lo2), .val (.int (1 : Int32)), .val (.int lo1), .val (.int lo2), .val (.int (2 : Int32)), .val (.int (0 : Int32)), .val (.int (1 : Int32)), .val (.int (0 : Int32)), .unset, .unset, .unset] [(.int (if lo2 = hi2 then (1 : Int32) else (0 : Int32)))])) st19 ?_
      refine Goal.to (B := T19.setTop (mkF m 361 #[.val (.int u0), .val (.int u1), .val (.int u2), .val (.int u3), .val (.int lo1), .val (.int hi1), .val (.int lo2), .val (.int hi2), .val (.ref b5), .val (.int lo1), .val (.int lo2), .val (.int (1 : Int32)), .val (.int lo1), .val (.int lo2), .val (.int (2 : Int32)), .val (.int (0 : Int32)), .val (.int (1 : Int32)), .val (.int (0 : Int32)), .val (.int (if lo2 = hi2 then (1 : Int32) else (0 : Int32))), .unset, .unset] [(.ref b5)])) (fun tt kk => ?_) ?_
      · show Steps p.tables e below (T19.setTop (mkF m 218 #[.val (.int u0), .val (.int u1), .val (.int u2), .val (.int u3), .val (.int lo1), .val (.int hi1), .val (.int lo2), .val (.int hi2), .val (.ref b5), .val (.int lo1), .val (.int lo2), .val (.int (1 : Int32)), .val (.int lo1), .val (.int lo2), .val (.int (2 : Int32)), .val (.int (0 : Int32)), .val (.int (1 : Int32)), .val (.int (0 : Int32)), .unset, .unset, .unset] [(.int (if lo2 = hi2 then (1 : Int32) else (0 : Int32)))])) tt
        refine XS.istore X19.here hx rfl (hb hby at_218) rfl (l' := #[.val (.int u0), .val (.int u1), .val (.int u2), .val (.int u3), .val (.int lo1), .val (.int hi1), .val (.int lo2), .val (.int hi2), .val (.ref b5), .val (.int lo1), .val (.int lo2), .val (.int (1 : Int32)), .val (.int lo1), .val (.int lo2), .val (.int (2 : Int32)), .val (.int (0 : Int32)), .val (.int (1 : Int32)), .val (.int (0 : Int32)), .val (.int (if lo2 = hi2 then (1 : Int32) else (0 : Int32))), .unset, .unset]) rfl ?_
        show Steps p.tables e below (T19.setTop (mkF m 220 #[.val (.int u0), .val (.int u1), .val (.int u2), .val (.int u3), .val (.int lo1), .val (.int hi1), .val (.int lo2), .val (.int hi2), .val (.ref b5), .val (.int lo1), .val (.int lo2), .val (.int (1 : Int32)), .val (.int lo1), .val (.int lo2), .val (.int (2 : Int32)), .val (.int (0 : Int32)), .val (.int (1 : Int32)), .val (.int (0 : Int32)), .val (.int (if lo2 = hi2 then (1 : Int32) else (0 : Int32))), .unset, .unset] [])) tt
        refine XS.iload X19.here hx rfl (hb hby at_220) rfl ?_
        show Steps p.tables e below (T19.setTop (mkF m 222 #[.val (.int u0), .val (.int u1), .val (.int u2), .val (.int u3), .val (.int lo1), .val (.int hi1), .val (.int lo2), .val (.int hi2), .val (.ref b5), .val (.int lo1), .val (.int lo2), .val (.int (1 : Int32)), .val (.int lo1), .val (.int lo2), .val (.int (2 : Int32)), .val (.int (0 : Int32)), .val (.int (1 : Int32)), .val (.int (0 : Int32)), .val (.int (if lo2 = hi2 then (1 : Int32) else (0 : Int32))), .unset, .unset] [(.int (1 : Int32))])) tt
        refine XS.ifNo X19.here hx rfl (hb hby at_222) rfl ((if0 _ _).trans (feq ((by decide) : ¬ ((1 : Int32) = (0 : Int32)))).1) ?_
        show Steps p.tables e below (T19.setTop (mkF m 225 #[.val (.int u0), .val (.int u1), .val (.int u2), .val (.int u3), .val (.int lo1), .val (.int hi1), .val (.int lo2), .val (.int hi2), .val (.ref b5), .val (.int lo1), .val (.int lo2), .val (.int (1 : Int32)), .val (.int lo1), .val (.int lo2), .val (.int (2 : Int32)), .val (.int (0 : Int32)), .val (.int (1 : Int32)), .val (.int (0 : Int32)), .val (.int (if lo2 = hi2 then (1 : Int32) else (0 : Int32))), .unset, .unset] [])) tt
        refine XS.iload X19.here hx rfl (hb hby at_225) rfl ?_
        show Steps p.tables e below (T19.setTop (mkF m 227 #[.val (.int u0), .val (.int u1), .val (.int u2), .val (.int u3), .val (.int lo1), .val (.int hi1), .val (.int lo2), .val (.int hi2), .val (.ref b5), .val (.int lo1), .val (.int lo2), .val (.int (1 : Int32)), .val (.int lo1), .val (.int lo2), .val (.int (2 : Int32)), .val (.int (0 : Int32)), .val (.int (1 : Int32)), .val (.int (0 : Int32)), .val (.int (if lo2 = hi2 then (1 : Int32) else (0 : Int32))), .unset, .unset] [(.int (0 : Int32))])) tt
        refine XS.iload X19.here hx rfl (hb hby at_227) rfl ?_
        show Steps p.tables e below (T19.setTop (mkF m 229 #[.val (.int u0), .val (.int u1), .val (.int u2), .val (.int u3), .val (.int lo1), .val (.int hi1), .val (.int lo2), .val (.int hi2), .val (.ref b5), .val (.int lo1), .val (.int lo2), .val (.int (1 : Int32)), .val (.int lo1), .val (.int lo2), .val (.int (2 : Int32)), .val (.int (0 : Int32)), .val (.int (1 : Int32)), .val (.int (0 : Int32)), .val (.int (if lo2 = hi2 then (1 : Int32) else (0 : Int32))), .unset, .unset] [(.int (0 : Int32)), (.int (0 : Int32))])) tt
        refine XS.icmpNo X19.here hx rfl (hb hby at_229) rfl (teq (rfl : (0 : Int32) = (0 : Int32))).2 ?_
        show Steps p.tables e below (T19.setTop (mkF m 232 #[.val (.int u0), .val (.int u1), .val (.int u2), .val (.int u3), .val (.int lo1), .val (.int hi1), .val (.int lo2), .val (.int hi2), .val (.ref b5), .val (.int lo1), .val (.int lo2), .val (.int (1 : Int32)), .val (.int lo1), .val (.int lo2), .val (.int (2 : Int32)), .val (.int (0 : Int32)), .val (.int (1 : Int32)), .val (.int (0 : Int32)), .val (.int (if lo2 = hi2 then (1 : Int32) else (0 : Int32))), .unset, .unset] [])) tt
        refine XS.iload X19.here hx rfl (hb hby at_232) rfl ?_
        show Steps p.tables e below (T19.setTop (mkF m 234 #[.val (.int u0), .val (.int u1), .val (.int u2), .val (.int u3), .val (.int lo1), .val (.int hi1), .val (.int lo2), .val (.int hi2), .val (.ref b5), .val (.int lo1), .val (.int lo2), .val (.int (1 : Int32)), .val (.int lo1), .val (.int lo2), .val (.int (2 : Int32)), .val (.int (0 : Int32)), .val (.int (1 : Int32)), .val (.int (0 : Int32)), .val (.int (if lo2 = hi2 then (1 : Int32) else (0 : Int32))), .unset, .unset] [(.int (if lo2 = hi2 then (1 : Int32) else (0 : Int32)))])) tt
        refine XS.iload X19.here hx rfl (hb hby at_234) rfl ?_
        show Steps p.tables e below (T19.setTop (mkF m 236 #[.val (.int u0), .val (.int u1), .val (.int u2), .val (.int u3), .val (.int lo1), .val (.int hi1), .val (.int lo2), .val (.int hi2), .val (.ref b5), .val (.int lo1), .val (.int lo2), .val (.int (1 : Int32)), .val (.int lo1), .val (.int lo2), .val (.int (2 : Int32)), .val (.int (0 : Int32)), .val (.int (1 : Int32)), .val (.int (0 : Int32)), .val (.int (if lo2 = hi2 then (1 : Int32) else (0 : Int32))), .unset, .unset] [(.int (1 : Int32)), (.int (if lo2 = hi2 then (1 : Int32) else (0 : Int32)))])) tt
        refine XS.icmpNo X19.here hx rfl (hb hby at_236) rfl (teq (if_pos (by assumption) : (if lo2 = hi2 then (1 : Int32) else (0 : Int32)) = (1 : Int32))).2 ?_
        show Steps p.tables e below (T19.setTop (mkF m 239 #[.val (.int u0), .val (.int u1), .val (.int u2), .val (.int u3), .val (.int lo1), .val (.int hi1), .val (.int lo2), .val (.int hi2), .val (.ref b5), .val (.int lo1), .val (.int lo2), .val (.int (1 : Int32)), .val (.int lo1), .val (.int lo2), .val (.int (2 : Int32)), .val (.int (0 : Int32)), .val (.int (1 : Int32)), .val (.int (0 : Int32)), .val (.int (if lo2 = hi2 then (1 : Int32) else (0 : Int32))), .unset, .unset] [])) tt
        refine XS.iconst X19.here hx rfl (hb hby at_239) ?_
        show Steps p.tables e below (T19.setTop (mkF m 240 #[.val (.int u0), .val (.int u1), .val (.int u2), .val (.int u3), .val (.int lo1), .val (.int hi1), .val (.int lo2), .val (.int hi2), .val (.ref b5), .val (.int lo1), .val (.int lo2), .val (.int (1 : Int32)), .val (.int lo1), .val (.int lo2), .val (.int (2 : Int32)), .val (.int (0 : Int32)), .val (.int (1 : Int32)), .val (.int (0 : Int32)), .val (.int (if lo2 = hi2 then (1 : Int32) else (0 : Int32))), .unset, .unset] [(.int (1 : Int32))])) tt
        refine XS.goto X19.here hx rfl (pc0 := 240) (pc' := 244) rfl (hb hby at_240) (by decide) (by decide) ?_
        show Steps p.tables e below (T19.setTop (mkF m 244 #[.val (.int u0), .val (.int u1), .val (.int u2), .val (.int u3), .val (.int lo1), .val (.int hi1), .val (.int lo2), .val (.int hi2), .val (.ref b5), .val (.int lo1), .val (.int lo2), .val (.int (1 : Int32)), .val (.int lo1), .val (.int lo2), .val (.int (2 : Int32)), .val (.int (0 : Int32)), .val (.int (1 : Int32)), .val (.int (0 : Int32)), .val (.int (if lo2 = hi2 then (1 : Int32) else (0 : Int32))), .unset, .unset] [(.int (1 : Int32))])) tt
        refine XS.istore X19.here hx rfl (hb hby at_244) rfl (l' := #[.val (.int u0), .val (.int u1), .val (.int u2), .val (.int u3), .val (.int lo1), .val (.int hi1), .val (.int lo2), .val (.int hi2), .val (.ref b5), .val (.int lo1), .val (.int lo2), .val (.int (1 : Int32)), .val (.int lo1), .val (.int lo2), .val (.int (2 : Int32)), .val (.int (0 : Int32)), .val (.int (1 : Int32)), .val (.int (0 : Int32)), .val (.int (if lo2 = hi2 then (1 : Int32) else (0 : Int32))), .unset, .unset]) rfl ?_
        show Steps p.tables e below (T19.setTop (mkF m 246 #[.val (.int u0), .val (.int u1), .val (.int u2), .val (.int u3), .val (.int lo1), .val (.int hi1), .val (.int lo2), .val (.int hi2), .val (.ref b5), .val (.int lo1), .val (.int lo2), .val (.int (1 : Int32)), .val (.int lo1), .val (.int lo2), .val (.int (2 : Int32)), .val (.int (0 : Int32)), .val (.int (1 : Int32)), .val (.int (0 : Int32)), .val (.int (if lo2 = hi2 then (1 : Int32) else (0 : Int32))), .unset, .unset] [])) tt
        refine XS.iload X19.here hx rfl (hb hby at_246) rfl ?_
        show Steps p.tables e below (T19.setTop (mkF m 248 #[.val (.int u0), .val (.int u1), .val (.int u2), .val (.int u3), .val (.int lo1), .val (.int hi1), .val (.int lo2), .val (.int hi2), .val (.ref b5), .val (.int lo1), .val (.int lo2), .val (.int (1 : Int32)), .val (.int lo1), .val (.int lo2), .val (.int (2 : Int32)), .val (.int (0 : Int32)), .val (.int (1 : Int32)), .val (.int (0 : Int32)), .val (.int (if lo2 = hi2 then (1 : Int32) else (0 : Int32))), .unset, .unset] [(.int (2 : Int32))])) tt
        refine XS.iconst X19.here hx rfl (hb hby at_248) ?_
        show Steps p.tables e below (T19.setTop (mkF m 249 #[.val (.int u0), .val (.int u1), .val (.int u2), .val (.int u3), .val (.int lo1), .val (.int hi1), .val (.int lo2), .val (.int hi2), .val (.ref b5), .val (.int lo1), .val (.int lo2), .val (.int (1 : Int32)), .val (.int lo1), .val (.int lo2), .val (.int (2 : Int32)), .val (.int (0 : Int32)), .val (.int (1 : Int32)), .val (.int (0 : Int32)), .val (.int (if lo2 = hi2 then (1 : Int32) else (0 : Int32))), .unset, .unset] [(.int (2 : Int32)), (.int (2 : Int32))])) tt
        refine XS.icmpNo X19.here hx rfl (hb hby at_249) rfl (teq (rfl : (2 : Int32) = (2 : Int32))).2 ?_
        show Steps p.tables e below (T19.setTop (mkF m 252 #[.val (.int u0), .val (.int u1), .val (.int u2), .val (.int u3), .val (.int lo1), .val (.int hi1), .val (.int lo2), .val (.int hi2), .val (.ref b5), .val (.int lo1), .val (.int lo2), .val (.int (1 : Int32)), .val (.int lo1), .val (.int lo2), .val (.int (2 : Int32)), .val (.int (0 : Int32)), .val (.int (1 : Int32)), .val (.int (0 : Int32)), .val (.int (if lo2 = hi2 then (1 : Int32) else (0 : Int32))), .unset, .unset] [])) tt
        refine XS.iload X19.here hx rfl (hb hby at_252) rfl ?_
        show Steps p.tables e below (T19.setTop (mkF m 254 #[.val (.int u0), .val (.int u1), .val (.int u2), .val (.int u3), .val (.int lo1), .val (.int hi1), .val (.int lo2), .val (.int hi2), .val (.ref b5), .val (.int lo1), .val (.int lo2), .val (.int (1 : Int32)), .val (.int lo1), .val (.int lo2), .val (.int (2 : Int32)), .val (.int (0 : Int32)), .val (.int (1 : Int32)), .val (.int (0 : Int32)), .val (.int (if lo2 = hi2 then (1 : Int32) else (0 : Int32))), .unset, .unset] [(.int lo2)])) tt
        refine XS.iload X19.here hx rfl (hb hby at_254) rfl ?_
        show Steps p.tables e below (T19.setTop (mkF m 256 #[.val (.int u0), .val (.int u1), .val (.int u2), .val (.int u3), .val (.int lo1), .val (.int hi1), .val (.int lo2), .val (.int hi2), .val (.ref b5), .val (.int lo1), .val (.int lo2), .val (.int (1 : Int32)), .val (.int lo1), .val (.int lo2), .val (.int (2 : Int32)), .val (.int (0 : Int32)), .val (.int (1 : Int32)), .val (.int (0 : Int32)), .val (.int (if lo2 = hi2 then (1 : Int32) else (0 : Int32))), .unset, .unset] [(.int hi2), (.int lo2)])) tt
        refine XS.icmpYes X19.here hx rfl (pc0 := 256) (pc' := 285) rfl (hb hby at_256) rfl (teq hc14).1 (by decide) (by decide) ?_
        show Steps p.tables e below (T19.setTop (mkF m 285 #[.val (.int u0), .val (.int u1), .val (.int u2), .val (.int u3), .val (.int lo1), .val (.int hi1), .val (.int lo2), .val (.int hi2), .val (.ref b5), .val (.int lo1), .val (.int lo2), .val (.int (1 : Int32)), .val (.int lo1), .val (.int lo2), .val (.int (2 : Int32)), .val (.int (0 : Int32)), .val (.int (1 : Int32)), .val (.int (0 : Int32)), .val (.int (if lo2 = hi2 then (1 : Int32) else (0 : Int32))), .unset, .unset] [])) tt
        refine XS.iload X19.here hx rfl (hb hby at_285) rfl ?_
        show Steps p.tables e below (T19.setTop (mkF m 287 #[.val (.int u0), .val (.int u1), .val (.int u2), .val (.int u3), .val (.int lo1), .val (.int hi1), .val (.int lo2), .val (.int hi2), .val (.ref b5), .val (.int lo1), .val (.int lo2), .val (.int (1 : Int32)), .val (.int lo1), .val (.int lo2), .val (.int (2 : Int32)), .val (.int (0 : Int32)), .val (.int (1 : Int32)), .val (.int (0 : Int32)), .val (.int (if lo2 = hi2 then (1 : Int32) else (0 : Int32))), .unset, .unset] [(.int lo1)])) tt
        refine XS.iload X19.here hx rfl (hb hby at_287) rfl ?_
        show Steps p.tables e below (T19.setTop (mkF m 289 #[.val (.int u0), .val (.int u1), .val (.int u2), .val (.int u3), .val (.int lo1), .val (.int hi1), .val (.int lo2), .val (.int hi2), .val (.ref b5), .val (.int lo1), .val (.int lo2), .val (.int (1 : Int32)), .val (.int lo1), .val (.int lo2), .val (.int (2 : Int32)), .val (.int (0 : Int32)), .val (.int (1 : Int32)), .val (.int (0 : Int32)), .val (.int (if lo2 = hi2 then (1 : Int32) else (0 : Int32))), .unset, .unset] [(.int hi1), (.int lo1)])) tt
        refine XS.icmpYes X19.here hx rfl (pc0 := 289) (pc' := 321) rfl (hb hby at_289) rfl (teq hc15).1 (by decide) (by decide) ?_
        show Steps p.tables e below (T19.setTop (mkF m 321 #[.val (.int u0), .val (.int u1), .val (.int u2), .val (.int u3), .val (.int lo1), .val (.int hi1), .val (.int lo2), .val (.int hi2), .val (.ref b5), .val (.int lo1), .val (.int lo2), .val (.int (1 : Int32)), .val (.int lo1), .val (.int lo2), .val (.int (2 : Int32)), .val (.int (0 : Int32)), .val (.int (1 : Int32)), .val (.int (0 : Int32)), .val (.int (if lo2 = hi2 then (1 : Int32) else (0 : Int32))), .unset, .unset] [])) tt
        refine XS.iconst X19.here hx rfl (hb hby at_321) ?_
        show Steps p.tables e below (T19.setTop (mkF m 322 #[.val (.int u0), .val (.int u1), .val (.int u2), .val (.int u3), .val (.int lo1), .val (.int hi1), .val (.int lo2), .val (.int hi2), .val (.ref b5), .val (.int lo1), .val (.int lo2), .val (.int (1 : Int32)), .val (.int lo1), .val (.int lo2), .val (.int (2 : Int32)), .val (.int (0 : Int32)), .val (.int (1 : Int32)), .val (.int (0 : Int32)), .val (.int (if lo2 = hi2 then (1 : Int32) else (0 : Int32))), .unset, .unset] [(.int (0 : Int32))])) tt
        refine XS.istore X19.here hx rfl (hb hby at_322) rfl (l' := #[.val (.int u0), .val (.int u1), .val (.int u2), .val (.int u3), .val (.int lo1), .val (.int hi1), .val (.int lo2), .val (.int hi2), .val (.ref b5), .val (.int lo1), .val (.int lo2), .val (.int (1 : Int32)), .val (.int lo1), .val (.int lo2), .val (.int (2 : Int32)), .val (.int (0 : Int32)), .val (.int (1 : Int32)), .val (.int (0 : Int32)), .val (.int (if lo2 = hi2 then (1 : Int32) else (0 : Int32))), .unset, .unset]) rfl ?_
        show Steps p.tables e below (T19.setTop (mkF m 324 #[.val (.int u0), .val (.int u1), .val (.int u2), .val (.int u3), .val (.int lo1), .val (.int hi1), .val (.int lo2), .val (.int hi2), .val (.ref b5), .val (.int lo1), .val (.int lo2), .val (.int (1 : Int32)), .val (.int lo1), .val (.int lo2), .val (.int (2 : Int32)), .val (.int (0 : Int32)), .val (.int (1 : Int32)), .val (.int (0 : Int32)), .val (.int (if lo2 = hi2 then (1 : Int32) else (0 : Int32))), .unset, .unset] [])) tt
        refine XS.iload X19.here hx rfl (hb hby at_324) rfl ?_
        show Steps p.tables e below (T19.setTop (mkF m 326 #[.val (.int u0), .val (.int u1), .val (.int u2), .val (.int u3), .val (.int lo1), .val (.int hi1), .val (.int lo2), .val (.int hi2), .val (.ref b5), .val (.int lo1), .val (.int lo2), .val (.int (1 : Int32)), .val (.int lo1), .val (.int lo2), .val (.int (2 : Int32)), .val (.int (0 : Int32)), .val (.int (1 : Int32)), .val (.int (0 : Int32)), .val (.int (if lo2 = hi2 then (1 : Int32) else (0 : Int32))), .unset, .unset] [(.int (2 : Int32))])) tt
        refine XS.iconst X19.here hx rfl (hb hby at_326) ?_
        show Steps p.tables e below (T19.setTop (mkF m 327 #[.val (.int u0), .val (.int u1), .val (.int u2), .val (.int u3), .val (.int lo1), .val (.int hi1), .val (.int lo2), .val (.int hi2), .val (.ref b5), .val (.int lo1), .val (.int lo2), .val (.int (1 : Int32)), .val (.int lo1), .val (.int lo2), .val (.int (2 : Int32)), .val (.int (0 : Int32)), .val (.int (1 : Int32)), .val (.int (0 : Int32)), .val (.int (if lo2 = hi2 then (1 : Int32) else (0 : Int32))), .unset, .unset] [(.int (2 : Int32)), (.int (2 : Int32))])) tt
        refine XS.icmpNo X19.here hx rfl (hb hby at_327) rfl (teq (rfl : (2 : Int32) = (2 : Int32))).2 ?_
        show Steps p.tables e below (T19.setTop (mkF m 330 #[.val (.int u0), .val (.int u1), .val (.int u2), .val (.int u3), .val (.int lo1), .val (.int hi1), .val (.int lo2), .val (.int hi2), .val (.ref b5), .val (.int lo1), .val (.int lo2), .val (.int (1 : Int32)), .val (.int lo1), .val (.int lo2), .val (.int (2 : Int32)), .val (.int (0 : Int32)), .val (.int (1 : Int32)), .val (.int (0 : Int32)), .val (.int (if lo2 = hi2 then (1 : Int32) else (0 : Int32))), .unset, .unset] [])) tt
        refine XS.iload X19.here hx rfl (hb hby at_330) rfl ?_
        show Steps p.tables e below (T19.setTop (mkF m 332 #[.val (.int u0), .val (.int u1), .val (.int u2), .val (.int u3), .val (.int lo1), .val (.int hi1), .val (.int lo2), .val (.int hi2), .val (.ref b5), .val (.int lo1), .val (.int lo2), .val (.int (1 : Int32)), .val (.int lo1), .val (.int lo2), .val (.int (2 : Int32)), .val (.int (0 : Int32)), .val (.int (1 : Int32)), .val (.int (0 : Int32)), .val (.int (if lo2 = hi2 then (1 : Int32) else (0 : Int32))), .unset, .unset] [(.int lo2)])) tt
        refine XS.iload X19.here hx rfl (hb hby at_332) rfl ?_
        show Steps p.tables e below (T19.setTop (mkF m 334 #[.val (.int u0), .val (.int u1), .val (.int u2), .val (.int u3), .val (.int lo1), .val (.int hi1), .val (.int lo2), .val (.int hi2), .val (.ref b5), .val (.int lo1), .val (.int lo2), .val (.int (1 : Int32)), .val (.int lo1), .val (.int lo2), .val (.int (2 : Int32)), .val (.int (0 : Int32)), .val (.int (1 : Int32)), .val (.int (0 : Int32)), .val (.int (if lo2 = hi2 then (1 : Int32) else (0 : Int32))), .unset, .unset] [(.int hi2), (.int lo2)])) tt
        refine XS.icmpNo X19.here hx rfl (hb hby at_334) rfl (teq hc14).2 ?_
        show Steps p.tables e below (T19.setTop (mkF m 337 #[.val (.int u0), .val (.int u1), .val (.int u2), .val (.int u3), .val (.int lo1), .val (.int hi1), .val (.int lo2), .val (.int hi2), .val (.ref b5), .val (.int lo1), .val (.int lo2), .val (.int (1 : Int32)), .val (.int lo1), .val (.int lo2), .val (.int (2 : Int32)), .val (.int (0 : Int32)), .val (.int (1 : Int32)), .val (.int (0 : Int32)), .val (.int (if lo2 = hi2 then (1 : Int32) else (0 : Int32))), .unset, .unset] [])) tt
        refine XS.iconst X19.here hx rfl (hb hby at_337) ?_
        show Steps p.tables e below (T19.setTop (mkF m 338 #[.val (.int u0), .val (.int u1), .val (.int u2), .val (.int u3), .val (.int lo1), .val (.int hi1), .val (.int lo2), .val (.int hi2), .val (.ref b5), .val (.int lo1), .val (.int lo2), .val (.int (1 : Int32)), .val (.int lo1), .val (.int lo2), .val (.int (2 : Int32)), .val (.int (0 : Int32)), .val (.int (1 : Int32)), .val (.int (0 : Int32)), .val (.int (if lo2 = hi2 then (1 : Int32) else (0 : Int32))), .unset, .unset] [(.int (1 : Int32))])) tt
        refine XS.goto X19.here hx rfl (pc0 := 338) (pc' := 357) rfl (hb hby at_338) (by decide) (by decide) ?_
        show Steps p.tables e below (T19.setTop (mkF m 357 #[.val (.int u0), .val (.int u1), .val (.int u2), .val (.int u3), .val (.int lo1), .val (.int hi1), .val (.int lo2), .val (.int hi2), .val (.ref b5), .val (.int lo1), .val (.int lo2), .val (.int (1 : Int32)), .val (.int lo1), .val (.int lo2), .val (.int (2 : Int32)), .val (.int (0 : Int32)), .val (.int (1 : Int32)), .val (.int (0 : Int32)), .val (.int (if lo2 = hi2 then (1 : Int32) else (0 : Int32))), .unset, .unset] [(.int (1 : Int32))])) tt
        refine XS.istore X19.here hx rfl (hb hby at_357) rfl (l' := #[.val (.int u0), .val (.int u1), .val (.int u2), .val (.int u3), .val (.int lo1), .val (.int hi1), .val (.int lo2), .val (.int hi2), .val (.ref b5), .val (.int lo1), .val (.int lo2), .val (.int (1 : Int32)), .val (.int lo1), .val (.int lo2), .val (.int (2 : Int32)), .val (.int (0 : Int32)), .val (.int (1 : Int32)), .val (.int (0 : Int32)), .val (.int (if lo2 = hi2 then (1 : Int32) else (0 : Int32))), .unset, .unset]) rfl ?_
        show Steps p.tables e below (T19.setTop (mkF m 359 #[.val (.int u0), .val (.int u1), .val (.int u2), .val (.int u3), .val (.int lo1), .val (.int hi1), .val (.int lo2), .val (.int hi2), .val (.ref b5), .val (.int lo1), .val (.int lo2), .val (.int (1 : Int32)), .val (.int lo1), .val (.int lo2), .val (.int (2 : Int32)), .val (.int (0 : Int32)), .val (.int (1 : Int32)), .val (.int (0 : Int32)), .val (.int (if lo2 = hi2 then (1 : Int32) else (0 : Int32))), .unset, .unset] [])) tt
        refine XS.aload X19.here hx rfl (hb hby at_359) rfl rfl ?_
        exact kk
      obtain ⟨cq20, kq20, q20a, q20b, q20c⟩ := isOf hZ e19 f16
      obtain ⟨_, _, ⟨T20, L20, k20, n20⟩, -, X20, ⟨Lc20, hQ20, l20, y20, z20⟩, st20⟩ := X19.virtualBack hx (y := (⟨"com/example/deferra/deferra/engine/Trail", "advance", "()Z"⟩ : MethodName)) (z := (⟨"com/example/deferra/deferra/engine/Trail", "advance", "()Z"⟩ : MethodName)) hown (mvT hZ (hw _ (mw 50 rfl))) (mvT hZ (hw _ (mw 51 rfl))) (notFace_of_selects (args := #[]) (mvT hZ (hw _ (mw 53 rfl)))) (mvT hZ (hw _ (mw 53 rfl))) (mvT hZ (hw _ (mw 52 rfl))) (by decide) (backOf (W := 0) (rmav2C l Z a0 hw [] b5 th_7 tv_7 hi1 hi2 lo1 lo2 T13.heap n0 f17 f16 P13_4 P13_7 P13_2 P13_1 P13_10 P13_12 P13_13 g_b5 g_tv_7 ne_b5_tv_7 ne_b5_th_7 ne7_th_tv (by assumption) (by assumption)) hZ (hw _ (mw 54 rfl)) (hw _ (mw 9 rfl)) (by decide) (by decide)) q20a q20c (g := (mkF m 361 #[.val (.int u0), .val (.int u1), .val (.int u2), .val (.int u3), .val (.int lo1), .val (.int hi1), .val (.int lo2), .val (.int hi2), .val (.ref b5), .val (.int lo1), .val (.int lo2), .val (.int (1 : Int32)), .val (.int lo1), .val (.int lo2), .val (.int (2 : Int32)), .val (.int (0 : Int32)), .val (.int (1 : Int32)), .val (.int (0 : Int32)), .val (.int (if lo2 = hi2 then (1 : Int32) else (0 : Int32))), .unset, .unset] [(.ref b5)])) rfl (by rw [hml]; rfl) (Steps.refl _) (argsL := []) (rest := []) (lenOf pd_4 rfl) rfl (by show 2 * 0 + _ ≤ _; exact Nat.le_of_eq rfl) (hb hby at_361) (fun _ _ => ⟨rfl, e19, (by decide : 5 + 0 ≤ _), (by decide : 78 + 0 ≤ _)⟩)
      dsimp only [Pt.U, Pt.locs, Pt.cells, Pt.slots] at X20 l20 y20 z20 st20 hQ20
      subst l20 y20 z20
      obtain ⟨rfl, N20q, e20⟩ := hQ20
      have N20 := Fr.app N19 N20q
      refine Goal.tr (B := T20.setTop (mkF m 364 #[.val (.int u0), .val (.int u1), .val (.int u2), .val (.int u3), .val (.int lo1), .val (.int hi1), .val (.int lo2), .val (.int hi2), .val (.ref b5), .val (.int lo1), .val (.int lo2), .val (.int (1 : Int32)), .val (.int lo1), .val (.int lo2), .val (.int (2 : Int32)), .val (.int (0 : Int32)), .val (.int (1 : Int32)), .val (.int (0 : Int32)), .val (.int (if lo2 = hi2 then (1 : Int32) else (0 : Int32))), .unset, .unset] [(.int (0 : Int32))])) st20 ?_
      refine Goal.to (B := T20.setTop (mkF m 368 #[.val (.int u0), .val (.int u1), .val (.int u2), .val (.int u3), .val (.int lo1), .val (.int hi1), .val (.int lo2), .val (.int hi2), .val (.ref b5), .val (.int lo1), .val (.int lo2), .val (.int (1 : Int32)), .val (.int lo1), .val (.int lo2), .val (.int (2 : Int32)), .val (.int (0 : Int32)), .val (.int (1 : Int32)), .val (.int (0 : Int32)), .val (.int (if lo2 = hi2 then (1 : Int32) else (0 : Int32))), .val (.int (0 : Int32)), .unset] [(.ref b5)])) (fun tt kk => ?_) ?_
      · show Steps p.tables e below (T20.setTop (mkF m 364 #[.val (.int u0), .val (.int u1), .val (.int u2), .val (.int u3), .val (.int lo1), .val (.int hi1), .val (.int lo2), .val (.int hi2), .val (.ref b5), .val (.int lo1), .val (.int lo2), .val (.int (1 : Int32)), .val (.int lo1), .val (.int lo2), .val (.int (2 : Int32)), .val (.int (0 : Int32)), .val (.int (1 : Int32)), .val (.int (0 : Int32)), .val (.int (if lo2 = hi2 then (1 : Int32) else (0 : Int32))), .unset, .unset] [(.int (0 : Int32))])) tt
        refine XS.istore X20.here hx rfl (hb hby at_364) rfl (l' := #[.val (.int u0), .val (.int u1), .val (.int u2), .val (.int u3), .val (.int lo1), .val (.int hi1), .val (.int lo2), .val (.int hi2), .val (.ref b5), .val (.int lo1), .val (.int lo2), .val (.int (1 : Int32)), .val (.int lo1), .val (.int lo2), .val (.int (2 : Int32)), .val (.int (0 : Int32)), .val (.int (1 : Int32)), .val (.int (0 : Int32)), .val (.int (if lo2 = hi2 then (1 : Int32) else (0 : Int32))), .val (.int (0 : Int32)), .unset]) rfl ?_
        show Steps p.tables e below (T20.setTop (mkF m 366 #[.val (.int u0), .val (.int u1), .val (.int u2), .val (.int u3), .val (.int lo1), .val (.int hi1), .val (.int lo2), .val (.int hi2), .val (.ref b5), .val (.int lo1), .val (.int lo2), .val (.int (1 : Int32)), .val (.int lo1), .val (.int lo2), .val (.int (2 : Int32)), .val (.int (0 : Int32)), .val (.int (1 : Int32)), .val (.int (0 : Int32)), .val (.int (if lo2 = hi2 then (1 : Int32) else (0 : Int32))), .val (.int (0 : Int32)), .unset] [])) tt
        refine XS.aload X20.here hx rfl (hb hby at_366) rfl rfl ?_
        exact kk
      obtain ⟨cq21, kq21, q21a, q21b, q21c⟩ := isOf hZ e20 f16
      obtain ⟨_, _, ⟨T21, L21, k21, n21⟩, -, X21, ⟨Lc21, hQ21, l21, y21, z21⟩, st21⟩ := X20.virtualBack hx (y := (⟨"com/example/deferra/deferra/engine/Trail", "changeIsLast", "()Z"⟩ : MethodName)) (z := (⟨"com/example/deferra/deferra/engine/Trail", "changeIsLast", "()Z"⟩ : MethodName)) hown (mvT hZ (hw _ (mw 61 rfl))) (mvT hZ (hw _ (mw 62 rfl))) (notFace_of_selects (args := #[]) (mvT hZ (hw _ (mw 64 rfl)))) (mvT hZ (hw _ (mw 64 rfl))) (mvT hZ (hw _ (mw 63 rfl))) (by decide) (backOf (W := 0) (rmcl2 l Z a0 hw [] b5 th_7 tv_7 hi1 hi2 lo1 lo2 T13.heap n0 f17 P13_7 P13_2 P13_1 P13_12 P13_13) hZ (hw _ (mw 65 rfl)) (hw _ (mw 9 rfl)) (by decide) (by decide)) q21a q21c (g := (mkF m 368 #[.val (.int u0), .val (.int u1), .val (.int u2), .val (.int u3), .val (.int lo1), .val (.int hi1), .val (.int lo2), .val (.int hi2), .val (.ref b5), .val (.int lo1), .val (.int lo2), .val (.int (1 : Int32)), .val (.int lo1), .val (.int lo2), .val (.int (2 : Int32)), .val (.int (0 : Int32)), .val (.int (1 : Int32)), .val (.int (0 : Int32)), .val (.int (if lo2 = hi2 then (1 : Int32) else (0 : Int32))), .val (.int (0 : Int32)), .unset] [(.ref b5)])) rfl (by rw [hml]; rfl) (Steps.refl _) (argsL := []) (rest := []) (lenOf pd_4 rfl) rfl (by show 2 * 0 + _ ≤ _; exact Nat.le_of_eq rfl) (hb hby at_368) (fun _ _ => ⟨rfl, e20, (by decide : 5 + 0 ≤ _), (by decide : 78 + 0 ≤ _)⟩)
      dsimp only [Pt.U, Pt.locs, Pt.cells, Pt.slots] at X21 l21 y21 z21 st21 hQ21
      subst l21 y21 z21
      obtain ⟨rfl, N21q, e21⟩ := hQ21
      have N21 := Fr.app N20 N21q
      refine Goal.tr (B := T21.setTop (mkF m 371 #[.val (.int u0), .val (.int u1), .val (.int u2), .val (.int u3), .val (.int lo1), .val (.int hi1), .val (.int lo2), .val (.int hi2), .val (.ref b5), .val (.int lo1), .val (.int lo2), .val (.int (1 : Int32)), .val (.int lo1), .val (.int lo2), .val (.int (2 : Int32)), .val (.int (0 : Int32)), .val (.int (1 : Int32)), .val (.int (0 : Int32)), .val (.int (if lo2 = hi2 then (1 : Int32) else (0 : Int32))), .val (.int (0 : Int32)), .unset] [(.int (if lo2 = hi2 then (1 : Int32) else (0 : Int32)))])) st21 ?_
      refine Goal.to (B := T21.setTop (mkF m 401 #[.val (.int u0), .val (.int u1), .val (.int u2), .val (.int u3), .val (.int lo1), .val (.int hi1), .val (.int lo2), .val (.int hi2), .val (.ref b5), .val (.int lo1), .val (.int lo2), .val (.int (1 : Int32)), .val (.int lo1), .val (.int lo2), .val (.int (2 : Int32)), .val (.int (0 : Int32)), .val (.int (1 : Int32)), .val (.int (0 : Int32)), .val (.int (if lo2 = hi2 then (1 : Int32) else (0 : Int32))), .val (.int (0 : Int32)), .val (.int (if lo2 = hi2 then (1 : Int32) else (0 : Int32)))] [(.int (1 : Int32))])) (fun tt kk => ?_) ?_
      · show Steps p.tables e below (T21.setTop (mkF m 371 #[.val (.int u0), .val (.int u1), .val (.int u2), .val (.int u3), .val (.int lo1), .val (.int hi1), .val (.int lo2), .val (.int hi2), .val (.ref b5), .val (.int lo1), .val (.int lo2), .val (.int (1 : Int32)), .val (.int lo1), .val (.int lo2), .val (.int (2 : Int32)), .val (.int (0 : Int32)), .val (.int (1 : Int32)), .val (.int (0 : Int32)), .val (.int (if lo2 = hi2 then (1 : Int32) else (0 : Int32))), .val (.int (0 : Int32)), .unset] [(.int (if lo2 = hi2 then (1 : Int32) else (0 : Int32)))])) tt
        refine XS.istore X21.here hx rfl (hb hby at_371) rfl (l' := #[.val (.int u0), .val (.int u1), .val (.int u2), .val (.int u3), .val (.int lo1), .val (.int hi1), .val (.int lo2), .val (.int hi2), .val (.ref b5), .val (.int lo1), .val (.int lo2), .val (.int (1 : Int32)), .val (.int lo1), .val (.int lo2), .val (.int (2 : Int32)), .val (.int (0 : Int32)), .val (.int (1 : Int32)), .val (.int (0 : Int32)), .val (.int (if lo2 = hi2 then (1 : Int32) else (0 : Int32))), .val (.int (0 : Int32)), .val (.int (if lo2 = hi2 then (1 : Int32) else (0 : Int32)))]) rfl ?_
        show Steps p.tables e below (T21.setTop (mkF m 373 #[.val (.int u0), .val (.int u1), .val (.int u2), .val (.int u3), .val (.int lo1), .val (.int hi1), .val (.int lo2), .val (.int hi2), .val (.ref b5), .val (.int lo1), .val (.int lo2), .val (.int (1 : Int32)), .val (.int lo1), .val (.int lo2), .val (.int (2 : Int32)), .val (.int (0 : Int32)), .val (.int (1 : Int32)), .val (.int (0 : Int32)), .val (.int (if lo2 = hi2 then (1 : Int32) else (0 : Int32))), .val (.int (0 : Int32)), .val (.int (if lo2 = hi2 then (1 : Int32) else (0 : Int32)))] [])) tt
        refine XS.iload X21.here hx rfl (hb hby at_373) rfl ?_
        show Steps p.tables e below (T21.setTop (mkF m 375 #[.val (.int u0), .val (.int u1), .val (.int u2), .val (.int u3), .val (.int lo1), .val (.int hi1), .val (.int lo2), .val (.int hi2), .val (.ref b5), .val (.int lo1), .val (.int lo2), .val (.int (1 : Int32)), .val (.int lo1), .val (.int lo2), .val (.int (2 : Int32)), .val (.int (0 : Int32)), .val (.int (1 : Int32)), .val (.int (0 : Int32)), .val (.int (if lo2 = hi2 then (1 : Int32) else (0 : Int32))), .val (.int (0 : Int32)), .val (.int (if lo2 = hi2 then (1 : Int32) else (0 : Int32)))] [(.int (1 : Int32))])) tt
        refine XS.ifNo X21.here hx rfl (hb hby at_375) rfl ((if0 _ _).trans (feq ((by decide) : ¬ ((1 : Int32) = (0 : Int32)))).1) ?_
        show Steps p.tables e below (T21.setTop (mkF m 378 #[.val (.int u0), .val (.int u1), .val (.int u2), .val (.int u3), .val (.int lo1), .val (.int hi1), .val (.int lo2), .val (.int hi2), .val (.ref b5), .val (.int lo1), .val (.int lo2), .val (.int (1 : Int32)), .val (.int lo1), .val (.int lo2), .val (.int (2 : Int32)), .val (.int (0 : Int32)), .val (.int (1 : Int32)), .val (.int (0 : Int32)), .val (.int (if lo2 = hi2 then (1 : Int32) else (0 : Int32))), .val (.int (0 : Int32)), .val (.int (if lo2 = hi2 then (1 : Int32) else (0 : Int32)))] [])) tt
        refine XS.iload X21.here hx rfl (hb hby at_378) rfl ?_
        show Steps p.tables e below (T21.setTop (mkF m 380 #[.val (.int u0), .val (.int u1), .val (.int u2), .val (.int u3), .val (.int lo1), .val (.int hi1), .val (.int lo2), .val (.int hi2), .val (.ref b5), .val (.int lo1), .val (.int lo2), .val (.int (1 : Int32)), .val (.int lo1), .val (.int lo2), .val (.int (2 : Int32)), .val (.int (0 : Int32)), .val (.int (1 : Int32)), .val (.int (0 : Int32)), .val (.int (if lo2 = hi2 then (1 : Int32) else (0 : Int32))), .val (.int (0 : Int32)), .val (.int (if lo2 = hi2 then (1 : Int32) else (0 : Int32)))] [(.int (0 : Int32))])) tt
        refine XS.iload X21.here hx rfl (hb hby at_380) rfl ?_
        show Steps p.tables e below (T21.setTop (mkF m 382 #[.val (.int u0), .val (.int u1), .val (.int u2), .val (.int u3), .val (.int lo1), .val (.int hi1), .val (.int lo2), .val (.int hi2), .val (.ref b5), .val (.int lo1), .val (.int lo2), .val (.int (1 : Int32)), .val (.int lo1), .val (.int lo2), .val (.int (2 : Int32)), .val (.int (0 : Int32)), .val (.int (1 : Int32)), .val (.int (0 : Int32)), .val (.int (if lo2 = hi2 then (1 : Int32) else (0 : Int32))), .val (.int (0 : Int32)), .val (.int (if lo2 = hi2 then (1 : Int32) else (0 : Int32)))] [(.int (0 : Int32)), (.int (0 : Int32))])) tt
        refine XS.icmpNo X21.here hx rfl (hb hby at_382) rfl (teq (rfl : (0 : Int32) = (0 : Int32))).2 ?_
        show Steps p.tables e below (T21.setTop (mkF m 385 #[.val (.int u0), .val (.int u1), .val (.int u2), .val (.int u3), .val (.int lo1), .val (.int hi1), .val (.int lo2), .val (.int hi2), .val (.ref b5), .val (.int lo1), .val (.int lo2), .val (.int (1 : Int32)), .val (.int lo1), .val (.int lo2), .val (.int (2 : Int32)), .val (.int (0 : Int32)), .val (.int (1 : Int32)), .val (.int (0 : Int32)), .val (.int (if lo2 = hi2 then (1 : Int32) else (0 : Int32))), .val (.int (0 : Int32)), .val (.int (if lo2 = hi2 then (1 : Int32) else (0 : Int32)))] [])) tt
        refine XS.iload X21.here hx rfl (hb hby at_385) rfl ?_
        show Steps p.tables e below (T21.setTop (mkF m 387 #[.val (.int u0), .val (.int u1), .val (.int u2), .val (.int u3), .val (.int lo1), .val (.int hi1), .val (.int lo2), .val (.int hi2), .val (.ref b5), .val (.int lo1), .val (.int lo2), .val (.int (1 : Int32)), .val (.int lo1), .val (.int lo2), .val (.int (2 : Int32)), .val (.int (0 : Int32)), .val (.int (1 : Int32)), .val (.int (0 : Int32)), .val (.int (if lo2 = hi2 then (1 : Int32) else (0 : Int32))), .val (.int (0 : Int32)), .val (.int (if lo2 = hi2 then (1 : Int32) else (0 : Int32)))] [(.int (if lo2 = hi2 then (1 : Int32) else (0 : Int32)))])) tt
        refine XS.iload X21.here hx rfl (hb hby at_387) rfl ?_
        show Steps p.tables e below (T21.setTop (mkF m 389 #[.val (.int u0), .val (.int u1), .val (.int u2), .val (.int u3), .val (.int lo1), .val (.int hi1), .val (.int lo2), .val (.int hi2), .val (.ref b5), .val (.int lo1), .val (.int lo2), .val (.int (1 : Int32)), .val (.int lo1), .val (.int lo2), .val (.int (2 : Int32)), .val (.int (0 : Int32)), .val (.int (1 : Int32)), .val (.int (0 : Int32)), .val (.int (if lo2 = hi2 then (1 : Int32) else (0 : Int32))), .val (.int (0 : Int32)), .val (.int (if lo2 = hi2 then (1 : Int32) else (0 : Int32)))] [(.int (1 : Int32)), (.int (if lo2 = hi2 then (1 : Int32) else (0 : Int32)))])) tt
        refine XS.icmpNo X21.here hx rfl (hb hby at_389) rfl (teq (if_pos (by assumption) : (if lo2 = hi2 then (1 : Int32) else (0 : Int32)) = (1 : Int32))).2 ?_
        show Steps p.tables e below (T21.setTop (mkF m 392 #[.val (.int u0), .val (.int u1), .val (.int u2), .val (.int u3), .val (.int lo1), .val (.int hi1), .val (.int lo2), .val (.int hi2), .val (.ref b5), .val (.int lo1), .val (.int lo2), .val (.int (1 : Int32)), .val (.int lo1), .val (.int lo2), .val (.int (2 : Int32)), .val (.int (0 : Int32)), .val (.int (1 : Int32)), .val (.int (0 : Int32)), .val (.int (if lo2 = hi2 then (1 : Int32) else (0 : Int32))), .val (.int (0 : Int32)), .val (.int (if lo2 = hi2 then (1 : Int32) else (0 : Int32)))] [])) tt
        refine XS.iconst X21.here hx rfl (hb hby at_392) ?_
        show Steps p.tables e below (T21.setTop (mkF m 393 #[.val (.int u0), .val (.int u1), .val (.int u2), .val (.int u3), .val (.int lo1), .val (.int hi1), .val (.int lo2), .val (.int hi2), .val (.ref b5), .val (.int lo1), .val (.int lo2), .val (.int (1 : Int32)), .val (.int lo1), .val (.int lo2), .val (.int (2 : Int32)), .val (.int (0 : Int32)), .val (.int (1 : Int32)), .val (.int (0 : Int32)), .val (.int (if lo2 = hi2 then (1 : Int32) else (0 : Int32))), .val (.int (0 : Int32)), .val (.int (if lo2 = hi2 then (1 : Int32) else (0 : Int32)))] [(.int (1 : Int32))])) tt
        refine XS.goto X21.here hx rfl (pc0 := 393) (pc' := 397) rfl (hb hby at_393) (by decide) (by decide) ?_
        show Steps p.tables e below (T21.setTop (mkF m 397 #[.val (.int u0), .val (.int u1), .val (.int u2), .val (.int u3), .val (.int lo1), .val (.int hi1), .val (.int lo2), .val (.int hi2), .val (.ref b5), .val (.int lo1), .val (.int lo2), .val (.int (1 : Int32)), .val (.int lo1), .val (.int lo2), .val (.int (2 : Int32)), .val (.int (0 : Int32)), .val (.int (1 : Int32)), .val (.int (0 : Int32)), .val (.int (if lo2 = hi2 then (1 : Int32) else (0 : Int32))), .val (.int (0 : Int32)), .val (.int (if lo2 = hi2 then (1 : Int32) else (0 : Int32)))] [(.int (1 : Int32))])) tt
        refine XS.istore X21.here hx rfl (hb hby at_397) rfl (l' := #[.val (.int u0), .val (.int u1), .val (.int u2), .val (.int u3), .val (.int lo1), .val (.int hi1), .val (.int lo2), .val (.int hi2), .val (.ref b5), .val (.int lo1), .val (.int lo2), .val (.int (1 : Int32)), .val (.int lo1), .val (.int lo2), .val (.int (2 : Int32)), .val (.int (0 : Int32)), .val (.int (1 : Int32)), .val (.int (0 : Int32)), .val (.int (if lo2 = hi2 then (1 : Int32) else (0 : Int32))), .val (.int (0 : Int32)), .val (.int (if lo2 = hi2 then (1 : Int32) else (0 : Int32)))]) rfl ?_
        show Steps p.tables e below (T21.setTop (mkF m 399 #[.val (.int u0), .val (.int u1), .val (.int u2), .val (.int u3), .val (.int lo1), .val (.int hi1), .val (.int lo2), .val (.int hi2), .val (.ref b5), .val (.int lo1), .val (.int lo2), .val (.int (1 : Int32)), .val (.int lo1), .val (.int lo2), .val (.int (2 : Int32)), .val (.int (0 : Int32)), .val (.int (1 : Int32)), .val (.int (0 : Int32)), .val (.int (if lo2 = hi2 then (1 : Int32) else (0 : Int32))), .val (.int (0 : Int32)), .val (.int (if lo2 = hi2 then (1 : Int32) else (0 : Int32)))] [])) tt
        refine XS.iload X21.here hx rfl (hb hby at_399) rfl ?_
        exact kk
      exact Goal.retV X21 hx Bd.returns rfl (Or.inl ⟨rfl, Or.inr (Or.inl rfl), _, rfl⟩) (hb hby at_401) hlk e21 ⟨rfl, N21⟩ (by decide) (by decide)
    · refine Goal.to (B := T13.setTop (mkF m 155 #[.val (.int u0), .val (.int u1), .val (.int u2), .val (.int u3), .val (.int lo1), .val (.int hi1), .val (.int lo2), .val (.int hi2), .val (.ref b5), .val (.int lo1), .val (.int lo2), .val (.int (1 : Int32)), .val (.int (lo1 + (1 : Int32))), .val (.int lo2), .val (.int (1 : Int32)), .val (.int (1 : Int32)), .unset, .unset, .unset, .unset, .unset] [(.int hi1), (.int (lo1 + (1 : Int32)))])) (fun tt kk => ?_) ?_
      · show Steps p.tables e below (T13.setTop (mkF m 136 #[.val (.int u0), .val (.int u1), .val (.int u2), .val (.int u3), .val (.int lo1), .val (.int hi1), .val (.int lo2), .val (.int hi2), .val (.ref b5), .val (.int lo1), .val (.int lo2), .val (.int (1 : Int32)), .val (.int lo1), .val (.int lo2), .val (.int (2 : Int32)), .unset, .unset, .unset, .unset, .unset, .unset] [(.int hi1), (.int lo1)])) tt
        refine XS.icmpNo X13.here hx rfl (hb hby at_136) rfl (feq hc15).1 ?_
        show Steps p.tables e below (T13.setTop (mkF m 139 #[.val (.int u0), .val (.int u1), .val (.int u2), .val (.int u3), .val (.int lo1), .val (.int hi1), .val (.int lo2), .val (.int hi2), .val (.ref b5), .val (.int lo1), .val (.int lo2), .val (.int (1 : Int32)), .val (.int lo1), .val (.int lo2), .val (.int (2 : Int32)), .unset, .unset, .unset, .unset, .unset, .unset] [])) tt
        refine XS.iload X13.here hx rfl (hb hby at_139) rfl ?_
        show Steps p.tables e below (T13.setTop (mkF m 141 #[.val (.int u0), .val (.int u1), .val (.int u2), .val (.int u3), .val (.int lo1), .val (.int hi1), .val (.int lo2), .val (.int hi2), .val (.ref b5), .val (.int lo1), .val (.int lo2), .val (.int (1 : Int32)), .val (.int lo1), .val (.int lo2), .val (.int (2 : Int32)), .unset, .unset, .unset, .unset, .unset, .unset] [(.int lo1)])) tt
        refine XS.iconst X13.here hx rfl (hb hby at_141) ?_
        show Steps p.tables e below (T13.setTop (mkF m 142 #[.val (.int u0), .val (.int u1), .val (.int u2), .val (.int u3), .val (.int lo1), .val (.int hi1), .val (.int lo2), .val (.int hi2), .val (.ref b5), .val (.int lo1), .val (.int lo2), .val (.int (1 : Int32)), .val (.int lo1), .val (.int lo2), .val (.int (2 : Int32)), .unset, .unset, .unset, .unset, .unset, .unset] [(.int (1 : Int32)), (.int lo1)])) tt
        refine XS.iadd X13.here hx rfl (hb hby at_142) rfl ?_
        show Steps p.tables e below (T13.setTop (mkF m 143 #[.val (.int u0), .val (.int u1), .val (.int u2), .val (.int u3), .val (.int lo1), .val (.int hi1), .val (.int lo2), .val (.int hi2), .val (.ref b5), .val (.int lo1), .val (.int lo2), .val (.int (1 : Int32)), .val (.int lo1), .val (.int lo2), .val (.int (2 : Int32)), .unset, .unset, .unset, .unset, .unset, .unset] [(.int (lo1 + (1 : Int32)))])) tt
        refine XS.istore X13.here hx rfl (hb hby at_143) rfl (l' := #[.val (.int u0), .val (.int u1), .val (.int u2), .val (.int u3), .val (.int lo1), .val (.int hi1), .val (.int lo2), .val (.int hi2), .val (.ref b5), .val (.int lo1), .val (.int lo2), .val (.int (1 : Int32)), .val (.int (lo1 + (1 : Int32))), .val (.int lo2), .val (.int (2 : Int32)), .unset, .unset, .unset, .unset, .unset, .unset]) rfl ?_
        show Steps p.tables e below (T13.setTop (mkF m 145 #[.val (.int u0), .val (.int u1), .val (.int u2), .val (.int u3), .val (.int lo1), .val (.int hi1), .val (.int lo2), .val (.int hi2), .val (.ref b5), .val (.int lo1), .val (.int lo2), .val (.int (1 : Int32)), .val (.int (lo1 + (1 : Int32))), .val (.int lo2), .val (.int (2 : Int32)), .unset, .unset, .unset, .unset, .unset, .unset] [])) tt
        refine XS.iconst X13.here hx rfl (hb hby at_145) ?_
        show Steps p.tables e below (T13.setTop (mkF m 146 #[.val (.int u0), .val (.int u1), .val (.int u2), .val (.int u3), .val (.int lo1), .val (.int hi1), .val (.int lo2), .val (.int hi2), .val (.ref b5), .val (.int lo1), .val (.int lo2), .val (.int (1 : Int32)), .val (.int (lo1 + (1 : Int32))), .val (.int lo2), .val (.int (2 : Int32)), .unset, .unset, .unset, .unset, .unset, .unset] [(.int (1 : Int32))])) tt
        refine XS.istore X13.here hx rfl (hb hby at_146) rfl (l' := #[.val (.int u0), .val (.int u1), .val (.int u2), .val (.int u3), .val (.int lo1), .val (.int hi1), .val (.int lo2), .val (.int hi2), .val (.ref b5), .val (.int lo1), .val (.int lo2), .val (.int (1 : Int32)), .val (.int (lo1 + (1 : Int32))), .val (.int lo2), .val (.int (1 : Int32)), .unset, .unset, .unset, .unset, .unset, .unset]) rfl ?_
        show Steps p.tables e below (T13.setTop (mkF m 148 #[.val (.int u0), .val (.int u1), .val (.int u2), .val (.int u3), .val (.int lo1), .val (.int hi1), .val (.int lo2), .val (.int hi2), .val (.ref b5), .val (.int lo1), .val (.int lo2), .val (.int (1 : Int32)), .val (.int (lo1 + (1 : Int32))), .val (.int lo2), .val (.int (1 : Int32)), .unset, .unset, .unset, .unset, .unset, .unset] [])) tt
        refine XS.iconst X13.here hx rfl (hb hby at_148) ?_
        show Steps p.tables e below (T13.setTop (mkF m 149 #[.val (.int u0), .val (.int u1), .val (.int u2), .val (.int u3), .val (.int lo1), .val (.int hi1), .val (.int lo2), .val (.int hi2), .val (.ref b5), .val (.int lo1), .val (.int lo2), .val (.int (1 : Int32)), .val (.int (lo1 + (1 : Int32))), .val (.int lo2), .val (.int (1 : Int32)), .unset, .unset, .unset, .unset, .unset, .unset] [(.int (1 : Int32))])) tt
        refine XS.istore X13.here hx rfl (hb hby at_149) rfl (l' := #[.val (.int u0), .val (.int u1), .val (.int u2), .val (.int u3), .val (.int lo1), .val (.int hi1), .val (.int lo2), .val (.int hi2), .val (.ref b5), .val (.int lo1), .val (.int lo2), .val (.int (1 : Int32)), .val (.int (lo1 + (1 : Int32))), .val (.int lo2), .val (.int (1 : Int32)), .val (.int (1 : Int32)), .unset, .unset, .unset, .unset, .unset]) rfl ?_
        show Steps p.tables e below (T13.setTop (mkF m 151 #[.val (.int u0), .val (.int u1), .val (.int u2), .val (.int u3), .val (.int lo1), .val (.int hi1), .val (.int lo2), .val (.int hi2), .val (.ref b5), .val (.int lo1), .val (.int lo2), .val (.int (1 : Int32)), .val (.int (lo1 + (1 : Int32))), .val (.int lo2), .val (.int (1 : Int32)), .val (.int (1 : Int32)), .unset, .unset, .unset, .unset, .unset] [])) tt
        refine XS.iload X13.here hx rfl (hb hby at_151) rfl ?_
        show Steps p.tables e below (T13.setTop (mkF m 153 #[.val (.int u0), .val (.int u1), .val (.int u2), .val (.int u3), .val (.int lo1), .val (.int hi1), .val (.int lo2), .val (.int hi2), .val (.ref b5), .val (.int lo1), .val (.int lo2), .val (.int (1 : Int32)), .val (.int (lo1 + (1 : Int32))), .val (.int lo2), .val (.int (1 : Int32)), .val (.int (1 : Int32)), .unset, .unset, .unset, .unset, .unset] [(.int (lo1 + (1 : Int32)))])) tt
        refine XS.iload X13.here hx rfl (hb hby at_153) rfl ?_
        exact kk
      obtain ⟨w23, hw23⟩ : ∃ z : Int32, z = if (lo1 + (1 : Int32)) = hi1 then (1 : Int32) else (0 : Int32) := ⟨_, rfl⟩
      refine Goal.to (B := T13.setTop (mkF m 163 #[.val (.int u0), .val (.int u1), .val (.int u2), .val (.int u3), .val (.int lo1), .val (.int hi1), .val (.int lo2), .val (.int hi2), .val (.ref b5), .val (.int lo1), .val (.int lo2), .val (.int (1 : Int32)), .val (.int (lo1 + (1 : Int32))), .val (.int lo2), .val (.int (1 : Int32)), .val (.int (1 : Int32)), .unset, .unset, .unset, .unset, .unset] [(.int w23)])) (fun tt kk => ?_) ?_
      · by_cases hc22 : (lo1 + (1 : Int32)) = hi1
        · have qw23 : w23 = (1 : Int32) := by rw [hw23, if_pos hc22]
          rw [qw23] at kk
          show Steps p.tables e below (T13.setTop (mkF m 155 #[.val (.int u0), .val (.int u1), .val (.int u2), .val (.int u3), .val (.int lo1), .val (.int hi1), .val (.int lo2), .val (.int hi2), .val (.ref b5), .val (.int lo1), .val (.int lo2), .val (.int (1 : Int32)), .val (.int (lo1 + (1 : Int32))), .val (.int lo2), .val (.int (1 : Int32)), .val (.int (1 : Int32)), .unset, .unset, .unset, .unset, .unset] [(.int hi1), (.int (lo1 + (1 : Int32)))])) tt
          refine XS.icmpNo X13.here hx rfl (hb hby at_155) rfl (teq hc22).2 ?_
          show Steps p.tables e below (T13.setTop (mkF m 158 #[.val (.int u0), .val (.int u1), .val (.int u2), .val (.int u3), .val (.int lo1), .val (.int hi1), .val (.int lo2), .val (.int hi2), .val (.ref b5), .val (.int lo1), .val (.int lo2), .val (.int (1 : Int32)), .val (.int (lo1 + (1 : Int32))), .val (.int lo2), .val (.int (1 : Int32)), .val (.int (1 : Int32)), .unset, .unset, .unset, .unset, .unset] [])) tt
          refine XS.iconst X13.here hx rfl (hb hby at_158) ?_
          show Steps p.tables e below (T13.setTop (mkF m 159 #[.val (.int u0), .val (.int u1), .val (.int u2), .val (.int u3), .val (.int lo1), .val (.int hi1), .val (.int lo2), .val (.int hi2), .val (.ref b5), .val (.int lo1), .val (.int lo2), .val (.int (1 : Int32)), .val (.int (lo1 + (1 : Int32))), .val (.int lo2), .val (.int (1 : Int32)), .val (.int (1 : Int32)), .unset, .unset, .unset, .unset, .unset] [(.int (1 : Int32))])) tt
          refine XS.goto X13.here hx rfl (pc0 := 159) (pc' := 163) rfl (hb hby at_159) (by decide) (by decide) ?_
          exact kk
        · have qw23 : w23 = (0 : Int32) := by rw [hw23, if_neg hc22]
          rw [qw23] at kk
          show Steps p.tables e below (T13.setTop (mkF m 155 #[.val (.int u0), .val (.int u1), .val (.int u2), .val (.int u3), .val (.int lo1), .val (.int hi1), .val (.int lo2), .val (.int hi2), .val (.ref b5), .val (.int lo1), .val (.int lo2), .val (.int (1 : Int32)), .val (.int (lo1 + (1 : Int32))), .val (.int lo2), .val (.int (1 : Int32)), .val (.int (1 : Int32)), .unset, .unset, .unset, .unset, .unset] [(.int hi1), (.int (lo1 + (1 : Int32)))])) tt
          refine XS.icmpYes X13.here hx rfl (pc0 := 155) (pc' := 162) rfl (hb hby at_155) rfl (feq hc22).2 (by decide) (by decide) ?_
          show Steps p.tables e below (T13.setTop (mkF m 162 #[.val (.int u0), .val (.int u1), .val (.int u2), .val (.int u3), .val (.int lo1), .val (.int hi1), .val (.int lo2), .val (.int hi2), .val (.ref b5), .val (.int lo1), .val (.int lo2), .val (.int (1 : Int32)), .val (.int (lo1 + (1 : Int32))), .val (.int lo2), .val (.int (1 : Int32)), .val (.int (1 : Int32)), .unset, .unset, .unset, .unset, .unset] [])) tt
          refine XS.iconst X13.here hx rfl (hb hby at_162) ?_
          exact kk
      refine Goal.to (B := T13.setTop (mkF m 208 #[.val (.int u0), .val (.int u1), .val (.int u2), .val (.int u3), .val (.int lo1), .val (.int hi1), .val (.int lo2), .val (.int hi2), .val (.ref b5), .val (.int lo1), .val (.int lo2), .val (.int (1 : Int32)), .val (.int (lo1 + (1 : Int32))), .val (.int lo2), .val (.int (1 : Int32)), .val (.int (1 : Int32)), .val (.int w23), .unset, .unset, .unset, .unset] [(.ref b5)])) (fun tt kk => ?_) ?_
      · show Steps p.tables e below (T13.setTop (mkF m 163 #[.val (.int u0), .val (.int u1), .val (.int u2), .val (.int u3), .val (.int lo1), .val (.int hi1), .val (.int lo2), .val (.int hi2), .val (.ref b5), .val (.int lo1), .val (.int lo2), .val (.int (1 : Int32)), .val (.int (lo1 + (1 : Int32))), .val (.int lo2), .val (.int (1 : Int32)), .val (.int (1 : Int32)), .unset, .unset, .unset, .unset, .unset] [(.int w23)])) tt
        refine XS.istore X13.here hx rfl (hb hby at_163) rfl (l' := #[.val (.int u0), .val (.int u1), .val (.int u2), .val (.int u3), .val (.int lo1), .val (.int hi1), .val (.int lo2), .val (.int hi2), .val (.ref b5), .val (.int lo1), .val (.int lo2), .val (.int (1 : Int32)), .val (.int (lo1 + (1 : Int32))), .val (.int lo2), .val (.int (1 : Int32)), .val (.int (1 : Int32)), .val (.int w23), .unset, .unset, .unset, .unset]) rfl ?_
        show Steps p.tables e below (T13.setTop (mkF m 165 #[.val (.int u0), .val (.int u1), .val (.int u2), .val (.int u3), .val (.int lo1), .val (.int hi1), .val (.int lo2), .val (.int hi2), .val (.ref b5), .val (.int lo1), .val (.int lo2), .val (.int (1 : Int32)), .val (.int (lo1 + (1 : Int32))), .val (.int lo2), .val (.int (1 : Int32)), .val (.int (1 : Int32)), .val (.int w23), .unset, .unset, .unset, .unset] [])) tt
        refine XS.goto X13.here hx rfl (pc0 := 165) (pc' := 206) rfl (hb hby at_165) (by decide) (by decide) ?_
        show Steps p.tables e below (T13.setTop (mkF m 206 #[.val (.int u0), .val (.int u1), .val (.int u2), .val (.int u3), .val (.int lo1), .val (.int hi1), .val (.int lo2), .val (.int hi2), .val (.ref b5), .val (.int lo1), .val (.int lo2), .val (.int (1 : Int32)), .val (.int (lo1 + (1 : Int32))), .val (.int lo2), .val (.int (1 : Int32)), .val (.int (1 : Int32)), .val (.int w23), .unset, .unset, .unset, .unset] [])) tt
        refine XS.aload X13.here hx rfl (hb hby at_206) rfl rfl ?_
        exact kk
      have f24 : Exa Z T13.heap b5 "com/example/deferra/deferra/engine/Trail" := (f11.keep K13)
      have f25 : n0 ≤ T13.heap.size := (Nat.le_trans f12 K13.1)
      obtain ⟨cq26, kq26, q26a, q26b, q26c⟩ := isOf hZ rfl f24
      obtain ⟨_, _, ⟨T26, L26, k26, n26⟩, -, X26, ⟨Lc26, hQ26, l26, y26, z26⟩, st26⟩ := X13.virtualBack hx (y := (⟨"com/example/deferra/deferra/engine/Trail", "advance", "()Z"⟩ : MethodName)) (z := (⟨"com/example/deferra/deferra/engine/Trail", "advance", "()Z"⟩ : MethodName)) hown (mvT hZ (hw _ (mw 50 rfl))) (mvT hZ (hw _ (mw 51 rfl))) (notFace_of_selects (args := #[]) (mvT hZ (hw _ (mw 53 rfl)))) (mvT hZ (hw _ (mw 53 rfl))) (mvT hZ (hw _ (mw 52 rfl))) (by decide) (backOf (W := 0) (rmav2B l Z a0 hw [] b5 th_7 tv_7 hi1 hi2 lo1 lo2 T13.heap n0 f25 f24 P13_4 P13_7 P13_2 P13_1 P13_10 P13_12 P13_13 g_b5 g_tv_7 ne_b5_tv_7 ne_b5_th_7 ne7_th_tv (by assumption) (by assumption)) hZ (hw _ (mw 54 rfl)) (hw _ (mw 9 rfl)) (by decide) (by decide)) q26a q26c (g := (mkF m 208 #[.val (.int u0), .val (.int u1), .val (.int u2), .val (.int u3), .val (.int lo1), .val (.int hi1), .val (.int lo2), .val (.int hi2), .val (.ref b5), .val (.int lo1), .val (.int lo2), .val (.int (1 : Int32)), .val (.int (lo1 + (1 : Int32))), .val (.int lo2), .val (.int (1 : Int32)), .val (.int (1 : Int32)), .val (.int w23), .unset, .unset, .unset, .unset] [(.ref b5)])) rfl (by rw [hml]; rfl) (Steps.refl _) (argsL := []) (rest := []) (lenOf pd_4 rfl) rfl (by show 2 * 0 + _ ≤ _; exact Nat.le_of_eq rfl) (hb hby at_208) (fun _ _ => ⟨rfl, rfl, (by decide : 5 + 0 ≤ _), (by decide : 78 + 0 ≤ _)⟩)
      dsimp only [Pt.U, Pt.locs, Pt.cells, Pt.slots] at X26 l26 y26 z26 st26 hQ26
      subst l26 y26 z26
      obtain ⟨rfl, N26q, K26, P26_0, P26_1, P26_2, P26_3, P26_4, P26_5⟩ := hQ26
      have N26 := Fr.app N13 N26q
      refine Goal.tr (B := T26.setTop (mkF m 211 #[.val (.int u0), .val (.int u1), .val (.int u2), .val (.int u3), .val (.int lo1), .val (.int hi1), .val (.int lo2), .val (.int hi2), .val (.ref b5), .val (.int lo1), .val (.int lo2), .val (.int (1 : Int32)), .val (.int (lo1 + (1 : Int32))), .val (.int lo2), .val (.int (1 : Int32)), .val (.int (1 : Int32)), .val (.int w23), .unset, .unset, .unset, .unset] [(.int (1 : Int32))])) st26 ?_
      refine Goal.to (B := T26.setTop (mkF m 215 #[.val (.int u0), .val (.int u1), .val (.int u2), .val (.int u3), .val (.int lo1), .val (.int hi1), .val (.int lo2), .val (.int hi2), .val (.ref b5), .val (.int lo1), .val (.int lo2), .val (.int (1 : Int32)), .val (.int (lo1 + (1 : Int32))), .val (.int lo2), .val (.int (1 : Int32)), .val (.int (1 : Int32)), .val (.int w23), .val (.int (1 : Int32)), .unset, .unset, .unset] [(.ref b5)])) (fun tt kk => ?_) ?_
      · show Steps p.tables e below (T26.setTop (mkF m 211 #[.val (.int u0), .val (.int u1), .val (.int u2), .val (.int u3), .val (.int lo1), .val (.int hi1), .val (.int lo2), .val (.int hi2), .val (.ref b5), .val (.int lo1), .val (.int lo2), .val (.int (1 : Int32)), .val (.int (lo1 + (1 : Int32))), .val (.int lo2), .val (.int (1 : Int32)), .val (.int (1 : Int32)), .val (.int w23), .unset, .unset, .unset, .unset] [(.int (1 : Int32))])) tt
        refine XS.istore X26.here hx rfl (hb hby at_211) rfl (l' := #[.val (.int u0), .val (.int u1), .val (.int u2), .val (.int u3), .val (.int lo1), .val (.int hi1), .val (.int lo2), .val (.int hi2), .val (.ref b5), .val (.int lo1), .val (.int lo2), .val (.int (1 : Int32)), .val (.int (lo1 + (1 : Int32))), .val (.int lo2), .val (.int (1 : Int32)), .val (.int (1 : Int32)), .val (.int w23), .val (.int (1 : Int32)), .unset, .unset, .unset]) rfl ?_
        show Steps p.tables e below (T26.setTop (mkF m 213 #[.val (.int u0), .val (.int u1), .val (.int u2), .val (.int u3), .val (.int lo1), .val (.int hi1), .val (.int lo2), .val (.int hi2), .val (.ref b5), .val (.int lo1), .val (.int lo2), .val (.int (1 : Int32)), .val (.int (lo1 + (1 : Int32))), .val (.int lo2), .val (.int (1 : Int32)), .val (.int (1 : Int32)), .val (.int w23), .val (.int (1 : Int32)), .unset, .unset, .unset] [])) tt
        refine XS.aload X26.here hx rfl (hb hby at_213) rfl rfl ?_
        exact kk
      have f27 : Ary Z T26.heap th_7 .int [(.int hi1), (.int hi2), (.int (0 : Int32)), (.int (0 : Int32)), (.int (0 : Int32)), (.int (0 : Int32)), (.int (0 : Int32)), (.int (0 : Int32)), (.int (0 : Int32)), (.int (0 : Int32)), (.int (0 : Int32)), (.int (0 : Int32)), (.int (0 : Int32)), (.int (0 : Int32)), (.int (0 : Int32)), (.int (0 : Int32))] := (P13_12.keep K26 (ninS (Ne.symm ne_b5_th_7) (ninS ne7_th_tv nin0)))
      have f28 : n0 ≤ T26.heap.size := (Nat.le_trans f25 K26.1)
      have f30 : Exa Z T26.heap b5 "com/example/deferra/deferra/engine/Trail" := (f24.keep K26)
      obtain ⟨cq29, kq29, q29a, q29b, q29c⟩ := isOf hZ rfl f30
      obtain ⟨_, _, ⟨T29, L29, k29, n29⟩, -, X29, ⟨Lc29, hQ29, l29, y29, z29⟩, st29⟩ := X26.virtualBack hx (y := (⟨"com/example/deferra/deferra/engine/Trail", "changeIsLast", "()Z"⟩ : MethodName)) (z := (⟨"com/example/deferra/deferra/engine/Trail", "changeIsLast", "()Z"⟩ : MethodName)) hown (mvT hZ (hw _ (mw 61 rfl))) (mvT hZ (hw _ (mw 62 rfl))) (notFace_of_selects (args := #[]) (mvT hZ (hw _ (mw 64 rfl)))) (mvT hZ (hw _ (mw 64 rfl))) (mvT hZ (hw _ (mw 63 rfl))) (by decide) (backOf (W := 0) (rmcl1 l Z a0 hw [] b5 th_7 tv_7 hi1 hi2 (lo1 + (1 : Int32)) lo2 T26.heap n0 f28 P26_1 P26_2 P26_3 f27 P26_5) hZ (hw _ (mw 65 rfl)) (hw _ (mw 9 rfl)) (by decide) (by decide)) q29a q29c (g := (mkF m 215 #[.val (.int u0), .val (.int u1), .val (.int u2), .val (.int u3), .val (.int lo1), .val (.int hi1), .val (.int lo2), .val (.int hi2), .val (.ref b5), .val (.int lo1), .val (.int lo2), .val (.int (1 : Int32)), .val (.int (lo1 + (1 : Int32))), .val (.int lo2), .val (.int (1 : Int32)), .val (.int (1 : Int32)), .val (.int w23), .val (.int (1 : Int32)), .unset, .unset, .unset] [(.ref b5)])) rfl (by rw [hml]; rfl) (Steps.refl _) (argsL := []) (rest := []) (lenOf pd_4 rfl) rfl (by show 2 * 0 + _ ≤ _; exact Nat.le_of_eq rfl) (hb hby at_215) (fun _ _ => ⟨rfl, rfl, (by decide : 5 + 0 ≤ _), (by decide : 78 + 0 ≤ _)⟩)
      dsimp only [Pt.U, Pt.locs, Pt.cells, Pt.slots] at X29 l29 y29 z29 st29 hQ29
      subst l29 y29 z29
      obtain ⟨rfl, N29q, e29⟩ := hQ29
      have N29 := Fr.app N26 N29q
      refine Goal.tr (B := T29.setTop (mkF m 218 #[.val (.int u0), .val (.int u1), .val (.int u2), .val (.int u3), .val (.int lo1), .val (.int hi1), .val (.int lo2), .val (.int hi2), .val (.ref b5), .val (.int lo1), .val (.int lo2), .val (.int (1 : Int32)), .val (.int (lo1 + (1 : Int32))), .val (.int lo2), .val (.int (1 : Int32)), .val (.int (1 : Int32)), .val (.int w23), .val (.int (1 : Int32)), .unset, .unset, .unset] [(.int (if (lo1 + (1 : Int32)) = hi1 then (1 : Int32) else (0 : Int32)))])) st29 ?_
      refine Goal.to (B := T29.setTop (mkF m 289 #[.val (.int u0), .val (.int u1), .val (.int u2), .val (.int u3), .val (.int lo1), .val (.int hi1), .val (.int lo2), .val (.int hi2), .val (.ref b5), .val (.int lo1), .val (.int lo2), .val (.int (1 : Int32)), .val (.int (lo1 + (1 : Int32))), .val (.int lo2), .val (.int (1 : Int32)), .val (.int (1 : Int32)), .val (.int w23), .val (.int (1 : Int32)), .val (.int (if (lo1 + (1 : Int32)) = hi1 then (1 : Int32) else (0 : Int32))), .unset, .unset] [(.int hi1), (.int (lo1 + (1 : Int32)))])) (fun tt kk => ?_) ?_
      · show Steps p.tables e below (T29.setTop (mkF m 218 #[.val (.int u0), .val (.int u1), .val (.int u2), .val (.int u3), .val (.int lo1), .val (.int hi1), .val (.int lo2), .val (.int hi2), .val (.ref b5), .val (.int lo1), .val (.int lo2), .val (.int (1 : Int32)), .val (.int (lo1 + (1 : Int32))), .val (.int lo2), .val (.int (1 : Int32)), .val (.int (1 : Int32)), .val (.int w23), .val (.int (1 : Int32)), .unset, .unset, .unset] [(.int (if (lo1 + (1 : Int32)) = hi1 then (1 : Int32) else (0 : Int32)))])) tt
        refine XS.istore X29.here hx rfl (hb hby at_218) rfl (l' := #[.val (.int u0), .val (.int u1), .val (.int u2), .val (.int u3), .val (.int lo1), .val (.int hi1), .val (.int lo2), .val (.int hi2), .val (.ref b5), .val (.int lo1), .val (.int lo2), .val (.int (1 : Int32)), .val (.int (lo1 + (1 : Int32))), .val (.int lo2), .val (.int (1 : Int32)), .val (.int (1 : Int32)), .val (.int w23), .val (.int (1 : Int32)), .val (.int (if (lo1 + (1 : Int32)) = hi1 then (1 : Int32) else (0 : Int32))), .unset, .unset]) rfl ?_
        show Steps p.tables e below (T29.setTop (mkF m 220 #[.val (.int u0), .val (.int u1), .val (.int u2), .val (.int u3), .val (.int lo1), .val (.int hi1), .val (.int lo2), .val (.int hi2), .val (.ref b5), .val (.int lo1), .val (.int lo2), .val (.int (1 : Int32)), .val (.int (lo1 + (1 : Int32))), .val (.int lo2), .val (.int (1 : Int32)), .val (.int (1 : Int32)), .val (.int w23), .val (.int (1 : Int32)), .val (.int (if (lo1 + (1 : Int32)) = hi1 then (1 : Int32) else (0 : Int32))), .unset, .unset] [])) tt
        refine XS.iload X29.here hx rfl (hb hby at_220) rfl ?_
        show Steps p.tables e below (T29.setTop (mkF m 222 #[.val (.int u0), .val (.int u1), .val (.int u2), .val (.int u3), .val (.int lo1), .val (.int hi1), .val (.int lo2), .val (.int hi2), .val (.ref b5), .val (.int lo1), .val (.int lo2), .val (.int (1 : Int32)), .val (.int (lo1 + (1 : Int32))), .val (.int lo2), .val (.int (1 : Int32)), .val (.int (1 : Int32)), .val (.int w23), .val (.int (1 : Int32)), .val (.int (if (lo1 + (1 : Int32)) = hi1 then (1 : Int32) else (0 : Int32))), .unset, .unset] [(.int (1 : Int32))])) tt
        refine XS.ifNo X29.here hx rfl (hb hby at_222) rfl ((if0 _ _).trans (feq ((by decide) : ¬ ((1 : Int32) = (0 : Int32)))).1) ?_
        show Steps p.tables e below (T29.setTop (mkF m 225 #[.val (.int u0), .val (.int u1), .val (.int u2), .val (.int u3), .val (.int lo1), .val (.int hi1), .val (.int lo2), .val (.int hi2), .val (.ref b5), .val (.int lo1), .val (.int lo2), .val (.int (1 : Int32)), .val (.int (lo1 + (1 : Int32))), .val (.int lo2), .val (.int (1 : Int32)), .val (.int (1 : Int32)), .val (.int w23), .val (.int (1 : Int32)), .val (.int (if (lo1 + (1 : Int32)) = hi1 then (1 : Int32) else (0 : Int32))), .unset, .unset] [])) tt
        refine XS.iload X29.here hx rfl (hb hby at_225) rfl ?_
        show Steps p.tables e below (T29.setTop (mkF m 227 #[.val (.int u0), .val (.int u1), .val (.int u2), .val (.int u3), .val (.int lo1), .val (.int hi1), .val (.int lo2), .val (.int hi2), .val (.ref b5), .val (.int lo1), .val (.int lo2), .val (.int (1 : Int32)), .val (.int (lo1 + (1 : Int32))), .val (.int lo2), .val (.int (1 : Int32)), .val (.int (1 : Int32)), .val (.int w23), .val (.int (1 : Int32)), .val (.int (if (lo1 + (1 : Int32)) = hi1 then (1 : Int32) else (0 : Int32))), .unset, .unset] [(.int (1 : Int32))])) tt
        refine XS.iload X29.here hx rfl (hb hby at_227) rfl ?_
        show Steps p.tables e below (T29.setTop (mkF m 229 #[.val (.int u0), .val (.int u1), .val (.int u2), .val (.int u3), .val (.int lo1), .val (.int hi1), .val (.int lo2), .val (.int hi2), .val (.ref b5), .val (.int lo1), .val (.int lo2), .val (.int (1 : Int32)), .val (.int (lo1 + (1 : Int32))), .val (.int lo2), .val (.int (1 : Int32)), .val (.int (1 : Int32)), .val (.int w23), .val (.int (1 : Int32)), .val (.int (if (lo1 + (1 : Int32)) = hi1 then (1 : Int32) else (0 : Int32))), .unset, .unset] [(.int (1 : Int32)), (.int (1 : Int32))])) tt
        refine XS.icmpNo X29.here hx rfl (hb hby at_229) rfl (teq (rfl : (1 : Int32) = (1 : Int32))).2 ?_
        show Steps p.tables e below (T29.setTop (mkF m 232 #[.val (.int u0), .val (.int u1), .val (.int u2), .val (.int u3), .val (.int lo1), .val (.int hi1), .val (.int lo2), .val (.int hi2), .val (.ref b5), .val (.int lo1), .val (.int lo2), .val (.int (1 : Int32)), .val (.int (lo1 + (1 : Int32))), .val (.int lo2), .val (.int (1 : Int32)), .val (.int (1 : Int32)), .val (.int w23), .val (.int (1 : Int32)), .val (.int (if (lo1 + (1 : Int32)) = hi1 then (1 : Int32) else (0 : Int32))), .unset, .unset] [])) tt
        refine XS.iload X29.here hx rfl (hb hby at_232) rfl ?_
        show Steps p.tables e below (T29.setTop (mkF m 234 #[.val (.int u0), .val (.int u1), .val (.int u2), .val (.int u3), .val (.int lo1), .val (.int hi1), .val (.int lo2), .val (.int hi2), .val (.ref b5), .val (.int lo1), .val (.int lo2), .val (.int (1 : Int32)), .val (.int (lo1 + (1 : Int32))), .val (.int lo2), .val (.int (1 : Int32)), .val (.int (1 : Int32)), .val (.int w23), .val (.int (1 : Int32)), .val (.int (if (lo1 + (1 : Int32)) = hi1 then (1 : Int32) else (0 : Int32))), .unset, .unset] [(.int (if (lo1 + (1 : Int32)) = hi1 then (1 : Int32) else (0 : Int32)))])) tt
        refine XS.iload X29.here hx rfl (hb hby at_234) rfl ?_
        show Steps p.tables e below (T29.setTop (mkF m 236 #[.val (.int u0), .val (.int u1), .val (.int u2), .val (.int u3), .val (.int lo1), .val (.int hi1), .val (.int lo2), .val (.int hi2), .val (.ref b5), .val (.int lo1), .val (.int lo2), .val (.int (1 : Int32)), .val (.int (lo1 + (1 : Int32))), .val (.int lo2), .val (.int (1 : Int32)), .val (.int (1 : Int32)), .val (.int w23), .val (.int (1 : Int32)), .val (.int (if (lo1 + (1 : Int32)) = hi1 then (1 : Int32) else (0 : Int32))), .unset, .unset] [(.int w23), (.int (if (lo1 + (1 : Int32)) = hi1 then (1 : Int32) else (0 : Int32)))])) tt
        refine XS.icmpNo X29.here hx rfl (hb hby at_236) rfl (teq (hw23.symm : (if (lo1 + (1 : Int32)) = hi1 then (1 : Int32) else (0 : Int32)) = w23)).2 ?_
        show Steps p.tables e below (T29.setTop (mkF m 239 #[.val (.int u0), .val (.int u1), .val (.int u2), .val (.int u3), .val (.int lo1), .val (.int hi1), .val (.int lo2), .val (.int hi2), .val (.ref b5), .val (.int lo1), .val (.int lo2), .val (.int (1 : Int32)), .val (.int (lo1 + (1 : Int32))), .val (.int lo2), .val (.int (1 : Int32)), .val (.int (1 : Int32)), .val (.int w23), .val (.int (1 : Int32)), .val (.int (if (lo1 + (1 : Int32)) = hi1 then (1 : Int32) else (0 : Int32))), .unset, .unset] [])) tt
        refine XS.iconst X29.here hx rfl (hb hby at_239) ?_
        show Steps p.tables e below (T29.setTop (mkF m 240 #[.val (.int u0), .val (.int u1), .val (.int u2), .val (.int u3), .val (.int lo1), .val (.int hi1), .val (.int lo2), .val (.int hi2), .val (.ref b5), .val (.int lo1), .val (.int lo2), .val (.int (1 : Int32)), .val (.int (lo1 + (1 : Int32))), .val (.int lo2), .val (.int (1 : Int32)), .val (.int (1 : Int32)), .val (.int w23), .val (.int (1 : Int32)), .val (.int (if (lo1 + (1 : Int32)) = hi1 then (1 : Int32) else (0 : Int32))), .unset, .unset] [(.int (1 : Int32))])) tt
        refine XS.goto X29.here hx rfl (pc0 := 240) (pc' := 244) rfl (hb hby at_240) (by decide) (by decide) ?_
        show Steps p.tables e below (T29.setTop (mkF m 244 #[.val (.int u0), .val (.int u1), .val (.int u2), .val (.int u3), .val (.int lo1), .val (.int hi1), .val (.int lo2), .val (.int hi2), .val (.ref b5), .val (.int lo1), .val (.int lo2), .val (.int (1 : Int32)), .val (.int (lo1 + (1 : Int32))), .val (.int lo2), .val (.int (1 : Int32)), .val (.int (1 : Int32)), .val (.int w23), .val (.int (1 : Int32)), .val (.int (if (lo1 + (1 : Int32)) = hi1 then (1 : Int32) else (0 : Int32))), .unset, .unset] [(.int (1 : Int32))])) tt
        refine XS.istore X29.here hx rfl (hb hby at_244) rfl (l' := #[.val (.int u0), .val (.int u1), .val (.int u2), .val (.int u3), .val (.int lo1), .val (.int hi1), .val (.int lo2), .val (.int hi2), .val (.ref b5), .val (.int lo1), .val (.int lo2), .val (.int (1 : Int32)), .val (.int (lo1 + (1 : Int32))), .val (.int lo2), .val (.int (1 : Int32)), .val (.int (1 : Int32)), .val (.int w23), .val (.int (1 : Int32)), .val (.int (if (lo1 + (1 : Int32)) = hi1 then (1 : Int32) else (0 : Int32))), .unset, .unset]) rfl ?_
        show Steps p.tables e below (T29.setTop (mkF m 246 #[.val (.int u0), .val (.int u1), .val (.int u2), .val (.int u3), .val (.int lo1), .val (.int hi1), .val (.int lo2), .val (.int hi2), .val (.ref b5), .val (.int lo1), .val (.int lo2), .val (.int (1 : Int32)), .val (.int (lo1 + (1 : Int32))), .val (.int lo2), .val (.int (1 : Int32)), .val (.int (1 : Int32)), .val (.int w23), .val (.int (1 : Int32)), .val (.int (if (lo1 + (1 : Int32)) = hi1 then (1 : Int32) else (0 : Int32))), .unset, .unset] [])) tt
        refine XS.iload X29.here hx rfl (hb hby at_246) rfl ?_
        show Steps p.tables e below (T29.setTop (mkF m 248 #[.val (.int u0), .val (.int u1), .val (.int u2), .val (.int u3), .val (.int lo1), .val (.int hi1), .val (.int lo2), .val (.int hi2), .val (.ref b5), .val (.int lo1), .val (.int lo2), .val (.int (1 : Int32)), .val (.int (lo1 + (1 : Int32))), .val (.int lo2), .val (.int (1 : Int32)), .val (.int (1 : Int32)), .val (.int w23), .val (.int (1 : Int32)), .val (.int (if (lo1 + (1 : Int32)) = hi1 then (1 : Int32) else (0 : Int32))), .unset, .unset] [(.int (1 : Int32))])) tt
        refine XS.iconst X29.here hx rfl (hb hby at_248) ?_
        show Steps p.tables e below (T29.setTop (mkF m 249 #[.val (.int u0), .val (.int u1), .val (.int u2), .val (.int u3), .val (.int lo1), .val (.int hi1), .val (.int lo2), .val (.int hi2), .val (.ref b5), .val (.int lo1), .val (.int lo2), .val (.int (1 : Int32)), .val (.int (lo1 + (1 : Int32))), .val (.int lo2), .val (.int (1 : Int32)), .val (.int (1 : Int32)), .val (.int w23), .val (.int (1 : Int32)), .val (.int (if (lo1 + (1 : Int32)) = hi1 then (1 : Int32) else (0 : Int32))), .unset, .unset] [(.int (2 : Int32)), (.int (1 : Int32))])) tt
        refine XS.icmpYes X29.here hx rfl (pc0 := 249) (pc' := 285) rfl (hb hby at_249) rfl (feq ((by decide) : ¬ ((1 : Int32) = (2 : Int32)))).2 (by decide) (by decide) ?_
        show Steps p.tables e below (T29.setTop (mkF m 285 #[.val (.int u0), .val (.int u1), .val (.int u2), .val (.int u3), .val (.int lo1), .val (.int hi1), .val (.int lo2), .val (.int hi2), .val (.ref b5), .val (.int lo1), .val (.int lo2), .val (.int (1 : Int32)), .val (.int (lo1 + (1 : Int32))), .val (.int lo2), .val (.int (1 : Int32)), .val (.int (1 : Int32)), .val (.int w23), .val (.int (1 : Int32)), .val (.int (if (lo1 + (1 : Int32)) = hi1 then (1 : Int32) else (0 : Int32))), .unset, .unset] [])) tt
        refine XS.iload X29.here hx rfl (hb hby at_285) rfl ?_
        show Steps p.tables e below (T29.setTop (mkF m 287 #[.val (.int u0), .val (.int u1), .val (.int u2), .val (.int u3), .val (.int lo1), .val (.int hi1), .val (.int lo2), .val (.int hi2), .val (.ref b5), .val (.int lo1), .val (.int lo2), .val (.int (1 : Int32)), .val (.int (lo1 + (1 : Int32))), .val (.int lo2), .val (.int (1 : Int32)), .val (.int (1 : Int32)), .val (.int w23), .val (.int (1 : Int32)), .val (.int (if (lo1 + (1 : Int32)) = hi1 then (1 : Int32) else (0 : Int32))), .unset, .unset] [(.int (lo1 + (1 : Int32)))])) tt
        refine XS.iload X29.here hx rfl (hb hby at_287) rfl ?_
        exact kk
      by_cases hc31 : (lo1 + (1 : Int32)) = hi1
      · refine Goal.to (B := T29.setTop (mkF m 361 #[.val (.int u0), .val (.int u1), .val (.int u2), .val (.int u3), .val (.int lo1), .val (.int hi1), .val (.int lo2), .val (.int hi2), .val (.ref b5), .val (.int lo1), .val (.int lo2), .val (.int (1 : Int32)), .val (.int (lo1 + (1 : Int32))), .val (.int lo2), .val (.int (1 : Int32)), .val (.int (0 : Int32)), .val (.int (1 : Int32)), .val (.int (1 : Int32)), .val (.int (if (lo1 + (1 : Int32)) = hi1 then (1 : Int32) else (0 : Int32))), .unset, .unset] [(.ref b5)])) (fun tt kk => ?_) ?_
        · show Steps p.tables e below (T29.setTop (mkF m 289 #[.val (.int u0), .val (.int u1), .val (.int u2), .val (.int u3), .val (.int lo1), .val (.int hi1), .val (.int lo2), .val (.int hi2), .val (.ref b5), .val (.int lo1), .val (.int lo2), .val (.int (1 : Int32)), .val (.int (lo1 + (1 : Int32))), .val (.int lo2), .val (.int (1 : Int32)), .val (.int (1 : Int32)), .val (.int w23), .val (.int (1 : Int32)), .val (.int (if (lo1 + (1 : Int32)) = hi1 then (1 : Int32) else (0 : Int32))), .unset, .unset] [(.int hi1), (.int (lo1 + (1 : Int32)))])) tt
          refine XS.icmpYes X29.here hx rfl (pc0 := 289) (pc' := 321) rfl (hb hby at_289) rfl (teq hc31).1 (by decide) (by decide) ?_
          show Steps p.tables e below (T29.setTop (mkF m 321 #[.val (.int u0), .val (.int u1), .val (.int u2), .val (.int u3), .val (.int lo1), .val (.int hi1), .val (.int lo2), .val (.int hi2), .val (.ref b5), .val (.int lo1), .val (.int lo2), .val (.int (1 : Int32)), .val (.int (lo1 + (1 : Int32))), .val (.int lo2), .val (.int (1 : Int32)), .val (.int (1 : Int32)), .val (.int w23), .val (.int (1 : Int32)), .val (.int (if (lo1 + (1 : Int32)) = hi1 then (1 : Int32) else (0 : Int32))), .unset, .unset] [])) tt
          refine XS.iconst X29.here hx rfl (hb hby at_321) ?_
          show Steps p.tables e below (T29.setTop (mkF m 322 #[.val (.int u0), .val (.int u1), .val (.int u2), .val (.int u3), .val (.int lo1), .val (.int hi1), .val (.int lo2), .val (.int hi2), .val (.ref b5), .val (.int lo1), .val (.int lo2), .val (.int (1 : Int32)), .val (.int (lo1 + (1 : Int32))), .val (.int lo2), .val (.int (1 : Int32)), .val (.int (1 : Int32)), .val (.int w23), .val (.int (1 : Int32)), .val (.int (if (lo1 + (1 : Int32)) = hi1 then (1 : Int32) else (0 : Int32))), .unset, .unset] [(.int (0 : Int32))])) tt
          refine XS.istore X29.here hx rfl (hb hby at_322) rfl (l' := #[.val (.int u0), .val (.int u1), .val (.int u2), .val (.int u3), .val (.int lo1), .val (.int hi1), .val (.int lo2), .val (.int hi2), .val (.ref b5), .val (.int lo1), .val (.int lo2), .val (.int (1 : Int32)), .val (.int (lo1 + (1 : Int32))), .val (.int lo2), .val (.int (1 : Int32)), .val (.int (0 : Int32)), .val (.int w23), .val (.int (1 : Int32)), .val (.int (if (lo1 + (1 : Int32)) = hi1 then (1 : Int32) else (0 : Int32))), .unset, .unset]) rfl ?_
          show Steps p.tables e below (T29.setTop (mkF m 324 #[.val (.int u0), .val (.int u1), .val (.int u2), .val (.int u3), .val (.int lo1), .val (.int hi1), .val (.int lo2), .val (.int hi2), .val (.ref b5), .val (.int lo1), .val (.int lo2), .val (.int (1 : Int32)), .val (.int (lo1 + (1 : Int32))), .val (.int lo2), .val (.int (1 : Int32)), .val (.int (0 : Int32)), .val (.int w23), .val (.int (1 : Int32)), .val (.int (if (lo1 + (1 : Int32)) = hi1 then (1 : Int32) else (0 : Int32))), .unset, .unset] [])) tt
          refine XS.iload X29.here hx rfl (hb hby at_324) rfl ?_
          show Steps p.tables e below (T29.setTop (mkF m 326 #[.val (.int u0), .val (.int u1), .val (.int u2), .val (.int u3), .val (.int lo1), .val (.int hi1), .val (.int lo2), .val (.int hi2), .val (.ref b5), .val (.int lo1), .val (.int lo2), .val (.int (1 : Int32)), .val (.int (lo1 + (1 : Int32))), .val (.int lo2), .val (.int (1 : Int32)), .val (.int (0 : Int32)), .val (.int w23), .val (.int (1 : Int32)), .val (.int (if (lo1 + (1 : Int32)) = hi1 then (1 : Int32) else (0 : Int32))), .unset, .unset] [(.int (1 : Int32))])) tt
          refine XS.iconst X29.here hx rfl (hb hby at_326) ?_
          show Steps p.tables e below (T29.setTop (mkF m 327 #[.val (.int u0), .val (.int u1), .val (.int u2), .val (.int u3), .val (.int lo1), .val (.int hi1), .val (.int lo2), .val (.int hi2), .val (.ref b5), .val (.int lo1), .val (.int lo2), .val (.int (1 : Int32)), .val (.int (lo1 + (1 : Int32))), .val (.int lo2), .val (.int (1 : Int32)), .val (.int (0 : Int32)), .val (.int w23), .val (.int (1 : Int32)), .val (.int (if (lo1 + (1 : Int32)) = hi1 then (1 : Int32) else (0 : Int32))), .unset, .unset] [(.int (2 : Int32)), (.int (1 : Int32))])) tt
          refine XS.icmpYes X29.here hx rfl (pc0 := 327) (pc' := 345) rfl (hb hby at_327) rfl (feq ((by decide) : ¬ ((1 : Int32) = (2 : Int32)))).2 (by decide) (by decide) ?_
          show Steps p.tables e below (T29.setTop (mkF m 345 #[.val (.int u0), .val (.int u1), .val (.int u2), .val (.int u3), .val (.int lo1), .val (.int hi1), .val (.int lo2), .val (.int hi2), .val (.ref b5), .val (.int lo1), .val (.int lo2), .val (.int (1 : Int32)), .val (.int (lo1 + (1 : Int32))), .val (.int lo2), .val (.int (1 : Int32)), .val (.int (0 : Int32)), .val (.int w23), .val (.int (1 : Int32)), .val (.int (if (lo1 + (1 : Int32)) = hi1 then (1 : Int32) else (0 : Int32))), .unset, .unset] [])) tt
          refine XS.iload X29.here hx rfl (hb hby at_345) rfl ?_
          show Steps p.tables e below (T29.setTop (mkF m 347 #[.val (.int u0), .val (.int u1), .val (.int u2), .val (.int u3), .val (.int lo1), .val (.int hi1), .val (.int lo2), .val (.int hi2), .val (.ref b5), .val (.int lo1), .val (.int lo2), .val (.int (1 : Int32)), .val (.int (lo1 + (1 : Int32))), .val (.int lo2), .val (.int (1 : Int32)), .val (.int (0 : Int32)), .val (.int w23), .val (.int (1 : Int32)), .val (.int (if (lo1 + (1 : Int32)) = hi1 then (1 : Int32) else (0 : Int32))), .unset, .unset] [(.int (lo1 + (1 : Int32)))])) tt
          refine XS.iload X29.here hx rfl (hb hby at_347) rfl ?_
          show Steps p.tables e below (T29.setTop (mkF m 349 #[.val (.int u0), .val (.int u1), .val (.int u2), .val (.int u3), .val (.int lo1), .val (.int hi1), .val (.int lo2), .val (.int hi2), .val (.ref b5), .val (.int lo1), .val (.int lo2), .val (.int (1 : Int32)), .val (.int (lo1 + (1 : Int32))), .val (.int lo2), .val (.int (1 : Int32)), .val (.int (0 : Int32)), .val (.int w23), .val (.int (1 : Int32)), .val (.int (if (lo1 + (1 : Int32)) = hi1 then (1 : Int32) else (0 : Int32))), .unset, .unset] [(.int hi1), (.int (lo1 + (1 : Int32)))])) tt
          refine XS.icmpNo X29.here hx rfl (hb hby at_349) rfl (teq hc31).2 ?_
          show Steps p.tables e below (T29.setTop (mkF m 352 #[.val (.int u0), .val (.int u1), .val (.int u2), .val (.int u3), .val (.int lo1), .val (.int hi1), .val (.int lo2), .val (.int hi2), .val (.ref b5), .val (.int lo1), .val (.int lo2), .val (.int (1 : Int32)), .val (.int (lo1 + (1 : Int32))), .val (.int lo2), .val (.int (1 : Int32)), .val (.int (0 : Int32)), .val (.int w23), .val (.int (1 : Int32)), .val (.int (if (lo1 + (1 : Int32)) = hi1 then (1 : Int32) else (0 : Int32))), .unset, .unset] [])) tt
          refine XS.iconst X29.here hx rfl (hb hby at_352) ?_
          show Steps p.tables e below (T29.setTop (mkF m 353 #[.val (.int u0), .val (.int u1), .val (.int u2), .val (.int u3), .val (.int lo1), .val (.int hi1), .val (.int lo2), .val (.int hi2), .val (.ref b5), .val (.int lo1), .val (.int lo2), .val (.int (1 : Int32)), .val (.int (lo1 + (1 : Int32))), .val (.int lo2), .val (.int (1 : Int32)), .val (.int (0 : Int32)), .val (.int w23), .val (.int (1 : Int32)), .val (.int (if (lo1 + (1 : Int32)) = hi1 then (1 : Int32) else (0 : Int32))), .unset, .unset] [(.int (1 : Int32))])) tt
          refine XS.goto X29.here hx rfl (pc0 := 353) (pc' := 357) rfl (hb hby at_353) (by decide) (by decide) ?_
          show Steps p.tables e below (T29.setTop (mkF m 357 #[.val (.int u0), .val (.int u1), .val (.int u2), .val (.int u3), .val (.int lo1), .val (.int hi1), .val (.int lo2), .val (.int hi2), .val (.ref b5), .val (.int lo1), .val (.int lo2), .val (.int (1 : Int32)), .val (.int (lo1 + (1 : Int32))), .val (.int lo2), .val (.int (1 : Int32)), .val (.int (0 : Int32)), .val (.int w23), .val (.int (1 : Int32)), .val (.int (if (lo1 + (1 : Int32)) = hi1 then (1 : Int32) else (0 : Int32))), .unset, .unset] [(.int (1 : Int32))])) tt
          refine XS.istore X29.here hx rfl (hb hby at_357) rfl (l' := #[.val (.int u0), .val (.int u1), .val (.int u2), .val (.int u3), .val (.int lo1), .val (.int hi1), .val (.int lo2), .val (.int hi2), .val (.ref b5), .val (.int lo1), .val (.int lo2), .val (.int (1 : Int32)), .val (.int (lo1 + (1 : Int32))), .val (.int lo2), .val (.int (1 : Int32)), .val (.int (0 : Int32)), .val (.int (1 : Int32)), .val (.int (1 : Int32)), .val (.int (if (lo1 + (1 : Int32)) = hi1 then (1 : Int32) else (0 : Int32))), .unset, .unset]) rfl ?_
          show Steps p.tables e below (T29.setTop (mkF m 359 #[.val (.int u0), .val (.int u1), .val (.int u2), .val (.int u3), .val (.int lo1), .val (.int hi1), .val (.int lo2), .val (.int hi2), .val (.ref b5), .val (.int lo1), .val (.int lo2), .val (.int (1 : Int32)), .val (.int (lo1 + (1 : Int32))), .val (.int lo2), .val (.int (1 : Int32)), .val (.int (0 : Int32)), .val (.int (1 : Int32)), .val (.int (1 : Int32)), .val (.int (if (lo1 + (1 : Int32)) = hi1 then (1 : Int32) else (0 : Int32))), .unset, .unset] [])) tt
          refine XS.aload X29.here hx rfl (hb hby at_359) rfl rfl ?_
          exact kk
        obtain ⟨cq32, kq32, q32a, q32b, q32c⟩ := isOf hZ e29 f30
        obtain ⟨_, _, ⟨T32, L32, k32, n32⟩, -, X32, ⟨Lc32, hQ32, l32, y32, z32⟩, st32⟩ := X29.virtualBack hx (y := (⟨"com/example/deferra/deferra/engine/Trail", "advance", "()Z"⟩ : MethodName)) (z := (⟨"com/example/deferra/deferra/engine/Trail", "advance", "()Z"⟩ : MethodName)) hown (mvT hZ (hw _ (mw 50 rfl))) (mvT hZ (hw _ (mw 51 rfl))) (notFace_of_selects (args := #[]) (mvT hZ (hw _ (mw 53 rfl)))) (mvT hZ (hw _ (mw 53 rfl))) (mvT hZ (hw _ (mw 52 rfl))) (by decide) (backOf (W := 0) (rmav1E l Z a0 hw [] b5 th_7 tv_7 hi1 hi2 (lo1 + (1 : Int32)) lo2 T26.heap n0 f28 f30 P26_0 P26_1 P26_2 P26_3 P26_4 f27 P26_5 g_b5 g_tv_7 ne_b5_tv_7 ne_b5_th_7 ne7_th_tv (by assumption)) hZ (hw _ (mw 54 rfl)) (hw _ (mw 9 rfl)) (by decide) (by decide)) q32a q32c (g := (mkF m 361 #[.val (.int u0), .val (.int u1), .val (.int u2), .val (.int u3), .val (.int lo1), .val (.int hi1), .val (.int lo2), .val (.int hi2), .val (.ref b5), .val (.int lo1), .val (.int lo2), .val (.int (1 : Int32)), .val (.int (lo1 + (1 : Int32))), .val (.int lo2), .val (.int (1 : Int32)), .val (.int (0 : Int32)), .val (.int (1 : Int32)), .val (.int (1 : Int32)), .val (.int (if (lo1 + (1 : Int32)) = hi1 then (1 : Int32) else (0 : Int32))), .unset, .unset] [(.ref b5)])) rfl (by rw [hml]; rfl) (Steps.refl _) (argsL := []) (rest := []) (lenOf pd_4 rfl) rfl (by show 2 * 0 + _ ≤ _; exact Nat.le_of_eq rfl) (hb hby at_361) (fun _ _ => ⟨rfl, e29, (by decide : 5 + 0 ≤ _), (by decide : 78 + 0 ≤ _)⟩)
        dsimp only [Pt.U, Pt.locs, Pt.cells, Pt.slots] at X32 l32 y32 z32 st32 hQ32
        subst l32 y32 z32
        obtain ⟨rfl, N32q, e32⟩ := hQ32
        have N32 := Fr.app N29 N32q
        refine Goal.tr (B := T32.setTop (mkF m 364 #[.val (.int u0), .val (.int u1), .val (.int u2), .val (.int u3), .val (.int lo1), .val (.int hi1), .val (.int lo2), .val (.int hi2), .val (.ref b5), .val (.int lo1), .val (.int lo2), .val (.int (1 : Int32)), .val (.int (lo1 + (1 : Int32))), .val (.int lo2), .val (.int (1 : Int32)), .val (.int (0 : Int32)), .val (.int (1 : Int32)), .val (.int (1 : Int32)), .val (.int (if (lo1 + (1 : Int32)) = hi1 then (1 : Int32) else (0 : Int32))), .unset, .unset] [(.int (0 : Int32))])) st32 ?_
        refine Goal.to (B := T32.setTop (mkF m 368 #[.val (.int u0), .val (.int u1), .val (.int u2), .val (.int u3), .val (.int lo1), .val (.int hi1), .val (.int lo2), .val (.int hi2), .val (.ref b5), .val (.int lo1), .val (.int lo2), .val (.int (1 : Int32)), .val (.int (lo1 + (1 : Int32))), .val (.int lo2), .val (.int (1 : Int32)), .val (.int (0 : Int32)), .val (.int (1 : Int32)), .val (.int (1 : Int32)), .val (.int (if (lo1 + (1 : Int32)) = hi1 then (1 : Int32) else (0 : Int32))), .val (.int (0 : Int32)), .unset] [(.ref b5)])) (fun tt kk => ?_) ?_
        · show Steps p.tables e below (T32.setTop (mkF m 364 #[.val (.int u0), .val (.int u1), .val (.int u2), .val (.int u3), .val (.int lo1), .val (.int hi1), .val (.int lo2), .val (.int hi2), .val (.ref b5), .val (.int lo1), .val (.int lo2), .val (.int (1 : Int32)), .val (.int (lo1 + (1 : Int32))), .val (.int lo2), .val (.int (1 : Int32)), .val (.int (0 : Int32)), .val (.int (1 : Int32)), .val (.int (1 : Int32)), .val (.int (if (lo1 + (1 : Int32)) = hi1 then (1 : Int32) else (0 : Int32))), .unset, .unset] [(.int (0 : Int32))])) tt
          refine XS.istore X32.here hx rfl (hb hby at_364) rfl (l' := #[.val (.int u0), .val (.int u1), .val (.int u2), .val (.int u3), .val (.int lo1), .val (.int hi1), .val (.int lo2), .val (.int hi2), .val (.ref b5), .val (.int lo1), .val (.int lo2), .val (.int (1 : Int32)), .val (.int (lo1 + (1 : Int32))), .val (.int lo2), .val (.int (1 : Int32)), .val (.int (0 : Int32)), .val (.int (1 : Int32)), .val (.int (1 : Int32)), .val (.int (if (lo1 + (1 : Int32)) = hi1 then (1 : Int32) else (0 : Int32))), .val (.int (0 : Int32)), .unset]) rfl ?_
          show Steps p.tables e below (T32.setTop (mkF m 366 #[.val (.int u0), .val (.int u1), .val (.int u2), .val (.int u3), .val (.int lo1), .val (.int hi1), .val (.int lo2), .val (.int hi2), .val (.ref b5), .val (.int lo1), .val (.int lo2), .val (.int (1 : Int32)), .val (.int (lo1 + (1 : Int32))), .val (.int lo2), .val (.int (1 : Int32)), .val (.int (0 : Int32)), .val (.int (1 : Int32)), .val (.int (1 : Int32)), .val (.int (if (lo1 + (1 : Int32)) = hi1 then (1 : Int32) else (0 : Int32))), .val (.int (0 : Int32)), .unset] [])) tt
          refine XS.aload X32.here hx rfl (hb hby at_366) rfl rfl ?_
          exact kk
        obtain ⟨cq33, kq33, q33a, q33b, q33c⟩ := isOf hZ e32 f30
        obtain ⟨_, _, ⟨T33, L33, k33, n33⟩, -, X33, ⟨Lc33, hQ33, l33, y33, z33⟩, st33⟩ := X32.virtualBack hx (y := (⟨"com/example/deferra/deferra/engine/Trail", "changeIsLast", "()Z"⟩ : MethodName)) (z := (⟨"com/example/deferra/deferra/engine/Trail", "changeIsLast", "()Z"⟩ : MethodName)) hown (mvT hZ (hw _ (mw 61 rfl))) (mvT hZ (hw _ (mw 62 rfl))) (notFace_of_selects (args := #[]) (mvT hZ (hw _ (mw 64 rfl)))) (mvT hZ (hw _ (mw 64 rfl))) (mvT hZ (hw _ (mw 63 rfl))) (by decide) (backOf (W := 0) (rmcl1 l Z a0 hw [] b5 th_7 tv_7 hi1 hi2 (lo1 + (1 : Int32)) lo2 T26.heap n0 f28 P26_1 P26_2 P26_3 f27 P26_5) hZ (hw _ (mw 65 rfl)) (hw _ (mw 9 rfl)) (by decide) (by decide)) q33a q33c (g := (mkF m 368 #[.val (.int u0), .val (.int u1), .val (.int u2), .val (.int u3), .val (.int lo1), .val (.int hi1), .val (.int lo2), .val (.int hi2), .val (.ref b5), .val (.int lo1), .val (.int lo2), .val (.int (1 : Int32)), .val (.int (lo1 + (1 : Int32))), .val (.int lo2), .val (.int (1 : Int32)), .val (.int (0 : Int32)), .val (.int (1 : Int32)), .val (.int (1 : Int32)), .val (.int (if (lo1 + (1 : Int32)) = hi1 then (1 : Int32) else (0 : Int32))), .val (.int (0 : Int32)), .unset] [(.ref b5)])) rfl (by rw [hml]; rfl) (Steps.refl _) (argsL := []) (rest := []) (lenOf pd_4 rfl) rfl (by show 2 * 0 + _ ≤ _; exact Nat.le_of_eq rfl) (hb hby at_368) (fun _ _ => ⟨rfl, e32, (by decide : 5 + 0 ≤ _), (by decide : 78 + 0 ≤ _)⟩)
        dsimp only [Pt.U, Pt.locs, Pt.cells, Pt.slots] at X33 l33 y33 z33 st33 hQ33
        subst l33 y33 z33
        obtain ⟨rfl, N33q, e33⟩ := hQ33
        have N33 := Fr.app N32 N33q
        refine Goal.tr (B := T33.setTop (mkF m 371 #[.val (.int u0), .val (.int u1), .val (.int u2), .val (.int u3), .val (.int lo1), .val (.int hi1), .val (.int lo2), .val (.int hi2), .val (.ref b5), .val (.int lo1), .val (.int lo2), .val (.int (1 : Int32)), .val (.int (lo1 + (1 : Int32))), .val (.int lo2), .val (.int (1 : Int32)), .val (.int (0 : Int32)), .val (.int (1 : Int32)), .val (.int (1 : Int32)), .val (.int (if (lo1 + (1 : Int32)) = hi1 then (1 : Int32) else (0 : Int32))), .val (.int (0 : Int32)), .unset] [(.int (if (lo1 + (1 : Int32)) = hi1 then (1 : Int32) else (0 : Int32)))])) st33 ?_
        refine Goal.to (B := T33.setTop (mkF m 401 #[.val (.int u0), .val (.int u1), .val (.int u2), .val (.int u3), .val (.int lo1), .val (.int hi1), .val (.int lo2), .val (.int hi2), .val (.ref b5), .val (.int lo1), .val (.int lo2), .val (.int (1 : Int32)), .val (.int (lo1 + (1 : Int32))), .val (.int lo2), .val (.int (1 : Int32)), .val (.int (0 : Int32)), .val (.int (1 : Int32)), .val (.int (1 : Int32)), .val (.int (if (lo1 + (1 : Int32)) = hi1 then (1 : Int32) else (0 : Int32))), .val (.int (0 : Int32)), .val (.int (if (lo1 + (1 : Int32)) = hi1 then (1 : Int32) else (0 : Int32)))] [(.int (1 : Int32))])) (fun tt kk => ?_) ?_
        · show Steps p.tables e below (T33.setTop (mkF m 371 #[.val (.int u0), .val (.int u1), .val (.int u2), .val (.int u3), .val (.int lo1), .val (.int hi1), .val (.int lo2), .val (.int hi2), .val (.ref b5), .val (.int lo1), .val (.int lo2), .val (.int (1 : Int32)), .val (.int (lo1 + (1 : Int32))), .val (.int lo2), .val (.int (1 : Int32)), .val (.int (0 : Int32)), .val (.int (1 : Int32)), .val (.int (1 : Int32)), .val (.int (if (lo1 + (1 : Int32)) = hi1 then (1 : Int32) else (0 : Int32))), .val (.int (0 : Int32)), .unset] [(.int (if (lo1 + (1 : Int32)) = hi1 then (1 : Int32) else (0 : Int32)))])) tt
          refine XS.istore X33.here hx rfl (hb hby at_371) rfl (l' := #[.val (.int u0), .val (.int u1), .val (.int u2), .val (.int u3), .val (.int lo1), .val (.int hi1), .val (.int lo2), .val (.int hi2), .val (.ref b5), .val (.int lo1), .val (.int lo2), .val (.int (1 : Int32)), .val (.int (lo1 + (1 : Int32))), .val (.int lo2), .val (.int (1 : Int32)), .val (.int (0 : Int32)), .val (.int (1 : Int32)), .val (.int (1 : Int32)), .val (.int (if (lo1 + (1 : Int32)) = hi1 then (1 : Int32) else (0 : Int32))), .val (.int (0 : Int32)), .val (.int (if (lo1 + (1 : Int32)) = hi1 then (1 : Int32) else (0 : Int32)))]) rfl ?_
          show Steps p.tables e below (T33.setTop (mkF m 373 #[.val (.int u0), .val (.int u1), .val (.int u2), .val (.int u3), .val (.int lo1), .val (.int hi1), .val (.int lo2), .val (.int hi2), .val (.ref b5), .val (.int lo1), .val (.int lo2), .val (.int (1 : Int32)), .val (.int (lo1 + (1 : Int32))), .val (.int lo2), .val (.int (1 : Int32)), .val (.int (0 : Int32)), .val (.int (1 : Int32)), .val (.int (1 : Int32)), .val (.int (if (lo1 + (1 : Int32)) = hi1 then (1 : Int32) else (0 : Int32))), .val (.int (0 : Int32)), .val (.int (if (lo1 + (1 : Int32)) = hi1 then (1 : Int32) else (0 : Int32)))] [])) tt
          refine XS.iload X33.here hx rfl (hb hby at_373) rfl ?_
          show Steps p.tables e below (T33.setTop (mkF m 375 #[.val (.int u0), .val (.int u1), .val (.int u2), .val (.int u3), .val (.int lo1), .val (.int hi1), .val (.int lo2), .val (.int hi2), .val (.ref b5), .val (.int lo1), .val (.int lo2), .val (.int (1 : Int32)), .val (.int (lo1 + (1 : Int32))), .val (.int lo2), .val (.int (1 : Int32)), .val (.int (0 : Int32)), .val (.int (1 : Int32)), .val (.int (1 : Int32)), .val (.int (if (lo1 + (1 : Int32)) = hi1 then (1 : Int32) else (0 : Int32))), .val (.int (0 : Int32)), .val (.int (if (lo1 + (1 : Int32)) = hi1 then (1 : Int32) else (0 : Int32)))] [(.int (1 : Int32))])) tt
          refine XS.ifNo X33.here hx rfl (hb hby at_375) rfl ((if0 _ _).trans (feq ((by decide) : ¬ ((1 : Int32) = (0 : Int32)))).1) ?_
          show Steps p.tables e below (T33.setTop (mkF m 378 #[.val (.int u0), .val (.int u1), .val (.int u2), .val (.int u3), .val (.int lo1), .val (.int hi1), .val (.int lo2), .val (.int hi2), .val (.ref b5), .val (.int lo1), .val (.int lo2), .val (.int (1 : Int32)), .val (.int (lo1 + (1 : Int32))), .val (.int lo2), .val (.int (1 : Int32)), .val (.int (0 : Int32)), .val (.int (1 : Int32)), .val (.int (1 : Int32)), .val (.int (if (lo1 + (1 : Int32)) = hi1 then (1 : Int32) else (0 : Int32))), .val (.int (0 : Int32)), .val (.int (if (lo1 + (1 : Int32)) = hi1 then (1 : Int32) else (0 : Int32)))] [])) tt
          refine XS.iload X33.here hx rfl (hb hby at_378) rfl ?_
          show Steps p.tables e below (T33.setTop (mkF m 380 #[.val (.int u0), .val (.int u1), .val (.int u2), .val (.int u3), .val (.int lo1), .val (.int hi1), .val (.int lo2), .val (.int hi2), .val (.ref b5), .val (.int lo1), .val (.int lo2), .val (.int (1 : Int32)), .val (.int (lo1 + (1 : Int32))), .val (.int lo2), .val (.int (1 : Int32)), .val (.int (0 : Int32)), .val (.int (1 : Int32)), .val (.int (1 : Int32)), .val (.int (if (lo1 + (1 : Int32)) = hi1 then (1 : Int32) else (0 : Int32))), .val (.int (0 : Int32)), .val (.int (if (lo1 + (1 : Int32)) = hi1 then (1 : Int32) else (0 : Int32)))] [(.int (0 : Int32))])) tt
          refine XS.iload X33.here hx rfl (hb hby at_380) rfl ?_
          show Steps p.tables e below (T33.setTop (mkF m 382 #[.val (.int u0), .val (.int u1), .val (.int u2), .val (.int u3), .val (.int lo1), .val (.int hi1), .val (.int lo2), .val (.int hi2), .val (.ref b5), .val (.int lo1), .val (.int lo2), .val (.int (1 : Int32)), .val (.int (lo1 + (1 : Int32))), .val (.int lo2), .val (.int (1 : Int32)), .val (.int (0 : Int32)), .val (.int (1 : Int32)), .val (.int (1 : Int32)), .val (.int (if (lo1 + (1 : Int32)) = hi1 then (1 : Int32) else (0 : Int32))), .val (.int (0 : Int32)), .val (.int (if (lo1 + (1 : Int32)) = hi1 then (1 : Int32) else (0 : Int32)))] [(.int (0 : Int32)), (.int (0 : Int32))])) tt
          refine XS.icmpNo X33.here hx rfl (hb hby at_382) rfl (teq (rfl : (0 : Int32) = (0 : Int32))).2 ?_
          show Steps p.tables e below (T33.setTop (mkF m 385 #[.val (.int u0), .val (.int u1), .val (.int u2), .val (.int u3), .val (.int lo1), .val (.int hi1), .val (.int lo2), .val (.int hi2), .val (.ref b5), .val (.int lo1), .val (.int lo2), .val (.int (1 : Int32)), .val (.int (lo1 + (1 : Int32))), .val (.int lo2), .val (.int (1 : Int32)), .val (.int (0 : Int32)), .val (.int (1 : Int32)), .val (.int (1 : Int32)), .val (.int (if (lo1 + (1 : Int32)) = hi1 then (1 : Int32) else (0 : Int32))), .val (.int (0 : Int32)), .val (.int (if (lo1 + (1 : Int32)) = hi1 then (1 : Int32) else (0 : Int32)))] [])) tt
          refine XS.iload X33.here hx rfl (hb hby at_385) rfl ?_
          show Steps p.tables e below (T33.setTop (mkF m 387 #[.val (.int u0), .val (.int u1), .val (.int u2), .val (.int u3), .val (.int lo1), .val (.int hi1), .val (.int lo2), .val (.int hi2), .val (.ref b5), .val (.int lo1), .val (.int lo2), .val (.int (1 : Int32)), .val (.int (lo1 + (1 : Int32))), .val (.int lo2), .val (.int (1 : Int32)), .val (.int (0 : Int32)), .val (.int (1 : Int32)), .val (.int (1 : Int32)), .val (.int (if (lo1 + (1 : Int32)) = hi1 then (1 : Int32) else (0 : Int32))), .val (.int (0 : Int32)), .val (.int (if (lo1 + (1 : Int32)) = hi1 then (1 : Int32) else (0 : Int32)))] [(.int (if (lo1 + (1 : Int32)) = hi1 then (1 : Int32) else (0 : Int32)))])) tt
          refine XS.iload X33.here hx rfl (hb hby at_387) rfl ?_
          show Steps p.tables e below (T33.setTop (mkF m 389 #[.val (.int u0), .val (.int u1), .val (.int u2), .val (.int u3), .val (.int lo1), .val (.int hi1), .val (.int lo2), .val (.int hi2), .val (.ref b5), .val (.int lo1), .val (.int lo2), .val (.int (1 : Int32)), .val (.int (lo1 + (1 : Int32))), .val (.int lo2), .val (.int (1 : Int32)), .val (.int (0 : Int32)), .val (.int (1 : Int32)), .val (.int (1 : Int32)), .val (.int (if (lo1 + (1 : Int32)) = hi1 then (1 : Int32) else (0 : Int32))), .val (.int (0 : Int32)), .val (.int (if (lo1 + (1 : Int32)) = hi1 then (1 : Int32) else (0 : Int32)))] [(.int (1 : Int32)), (.int (if (lo1 + (1 : Int32)) = hi1 then (1 : Int32) else (0 : Int32)))])) tt
          refine XS.icmpNo X33.here hx rfl (hb hby at_389) rfl (teq (if_pos (by assumption) : (if (lo1 + (1 : Int32)) = hi1 then (1 : Int32) else (0 : Int32)) = (1 : Int32))).2 ?_
          show Steps p.tables e below (T33.setTop (mkF m 392 #[.val (.int u0), .val (.int u1), .val (.int u2), .val (.int u3), .val (.int lo1), .val (.int hi1), .val (.int lo2), .val (.int hi2), .val (.ref b5), .val (.int lo1), .val (.int lo2), .val (.int (1 : Int32)), .val (.int (lo1 + (1 : Int32))), .val (.int lo2), .val (.int (1 : Int32)), .val (.int (0 : Int32)), .val (.int (1 : Int32)), .val (.int (1 : Int32)), .val (.int (if (lo1 + (1 : Int32)) = hi1 then (1 : Int32) else (0 : Int32))), .val (.int (0 : Int32)), .val (.int (if (lo1 + (1 : Int32)) = hi1 then (1 : Int32) else (0 : Int32)))] [])) tt
          refine XS.iconst X33.here hx rfl (hb hby at_392) ?_
          show Steps p.tables e below (T33.setTop (mkF m 393 #[.val (.int u0), .val (.int u1), .val (.int u2), .val (.int u3), .val (.int lo1), .val (.int hi1), .val (.int lo2), .val (.int hi2), .val (.ref b5), .val (.int lo1), .val (.int lo2), .val (.int (1 : Int32)), .val (.int (lo1 + (1 : Int32))), .val (.int lo2), .val (.int (1 : Int32)), .val (.int (0 : Int32)), .val (.int (1 : Int32)), .val (.int (1 : Int32)), .val (.int (if (lo1 + (1 : Int32)) = hi1 then (1 : Int32) else (0 : Int32))), .val (.int (0 : Int32)), .val (.int (if (lo1 + (1 : Int32)) = hi1 then (1 : Int32) else (0 : Int32)))] [(.int (1 : Int32))])) tt
          refine XS.goto X33.here hx rfl (pc0 := 393) (pc' := 397) rfl (hb hby at_393) (by decide) (by decide) ?_
          show Steps p.tables e below (T33.setTop (mkF m 397 #[.val (.int u0), .val (.int u1), .val (.int u2), .val (.int u3), .val (.int lo1), .val (.int hi1), .val (.int lo2), .val (.int hi2), .val (.ref b5), .val (.int lo1), .val (.int lo2), .val (.int (1 : Int32)), .val (.int (lo1 + (1 : Int32))), .val (.int lo2), .val (.int (1 : Int32)), .val (.int (0 : Int32)), .val (.int (1 : Int32)), .val (.int (1 : Int32)), .val (.int (if (lo1 + (1 : Int32)) = hi1 then (1 : Int32) else (0 : Int32))), .val (.int (0 : Int32)), .val (.int (if (lo1 + (1 : Int32)) = hi1 then (1 : Int32) else (0 : Int32)))] [(.int (1 : Int32))])) tt
          refine XS.istore X33.here hx rfl (hb hby at_397) rfl (l' := #[.val (.int u0), .val (.int u1), .val (.int u2), .val (.int u3), .val (.int lo1), .val (.int hi1), .val (.int lo2), .val (.int hi2), .val (.ref b5), .val (.int lo1), .val (.int lo2), .val (.int (1 : Int32)), .val (.int (lo1 + (1 : Int32))), .val (.int lo2), .val (.int (1 : Int32)), .val (.int (0 : Int32)), .val (.int (1 : Int32)), .val (.int (1 : Int32)), .val (.int (if (lo1 + (1 : Int32)) = hi1 then (1 : Int32) else (0 : Int32))), .val (.int (0 : Int32)), .val (.int (if (lo1 + (1 : Int32)) = hi1 then (1 : Int32) else (0 : Int32)))]) rfl ?_
          show Steps p.tables e below (T33.setTop (mkF m 399 #[.val (.int u0), .val (.int u1), .val (.int u2), .val (.int u3), .val (.int lo1), .val (.int hi1), .val (.int lo2), .val (.int hi2), .val (.ref b5), .val (.int lo1), .val (.int lo2), .val (.int (1 : Int32)), .val (.int (lo1 + (1 : Int32))), .val (.int lo2), .val (.int (1 : Int32)), .val (.int (0 : Int32)), .val (.int (1 : Int32)), .val (.int (1 : Int32)), .val (.int (if (lo1 + (1 : Int32)) = hi1 then (1 : Int32) else (0 : Int32))), .val (.int (0 : Int32)), .val (.int (if (lo1 + (1 : Int32)) = hi1 then (1 : Int32) else (0 : Int32)))] [])) tt
          refine XS.iload X33.here hx rfl (hb hby at_399) rfl ?_
          exact kk
        exact Goal.retV X33 hx Bd.returns rfl (Or.inl ⟨rfl, Or.inr (Or.inl rfl), _, rfl⟩) (hb hby at_401) hlk e33 ⟨rfl, N33⟩ (by decide) (by decide)
      · refine Goal.to (B := T29.setTop (mkF m 308 #[.val (.int u0), .val (.int u1), .val (.int u2), .val (.int u3), .val (.int lo1), .val (.int hi1), .val (.int lo2), .val (.int hi2), .val (.ref b5), .val (.int lo1), .val (.int lo2), .val (.int (1 : Int32)), .val (.int ((lo1 + (1 : Int32)) + (1 : Int32))), .val (.int lo2), .val (.int (1 : Int32)), .val (.int (1 : Int32)), .val (.int w23), .val (.int (1 : Int32)), .val (.int (if (lo1 + (1 : Int32)) = hi1 then (1 : Int32) else (0 : Int32))), .unset, .unset] [(.int hi1), (.int ((lo1 + (1 : Int32)) + (1 : Int32)))])) (fun tt kk => ?_) ?_
        · show Steps p.tables e below (T29.setTop (mkF m 289 #[.val (.int u0), .val (.int u1), .val (.int u2), .val (.int u3), .val (.int lo1), .val (.int hi1), .val (.int lo2), .val (.int hi2), .val (.ref b5), .val (.int lo1), .val (.int lo2), .val (.int (1 : Int32)), .val (.int (lo1 + (1 : Int32))), .val (.int lo2), .val (.int (1 : Int32)), .val (.int (1 : Int32)), .val (.int w23), .val (.int (1 : Int32)), .val (.int (if (lo1 + (1 : Int32)) = hi1 then (1 : Int32) else (0 : Int32))), .unset, .unset] [(.int hi1), (.int (lo1 + (1 : Int32)))])) tt
          refine XS.icmpNo X29.here hx rfl (hb hby at_289) rfl (feq hc31).1 ?_
          show Steps p.tables e below (T29.setTop (mkF m 292 #[.val (.int u0), .val (.int u1), .val (.int u2), .val (.int u3), .val (.int lo1), .val (.int hi1), .val (.int lo2), .val (.int hi2), .val (.ref b5), .val (.int lo1), .val (.int lo2), .val (.int (1 : Int32)), .val (.int (lo1 + (1 : Int32))), .val (.int lo2), .val (.int (1 : Int32)), .val (.int (1 : Int32)), .val (.int w23), .val (.int (1 : Int32)), .val (.int (if (lo1 + (1 : Int32)) = hi1 then (1 : Int32) else (0 : Int32))), .unset, .unset] [])) tt
          refine XS.iload X29.here hx rfl (hb hby at_292) rfl ?_
          show Steps p.tables e below (T29.setTop (mkF m 294 #[.val (.int u0), .val (.int u1), .val (.int u2), .val (.int u3), .val (.int lo1), .val (.int hi1), .val (.int lo2), .val (.int hi2), .val (.ref b5), .val (.int lo1), .val (.int lo2), .val (.int (1 : Int32)), .val (.int (lo1 + (1 : Int32))), .val (.int lo2), .val (.int (1 : Int32)), .val (.int (1 : Int32)), .val (.int w23), .val (.int (1 : Int32)), .val (.int (if (lo1 + (1 : Int32)) = hi1 then (1 : Int32) else (0 : Int32))), .unset, .unset] [(.int (lo1 + (1 : Int32)))])) tt
          refine XS.iconst X29.here hx rfl (hb hby at_294) ?_
          show Steps p.tables e below (T29.setTop (mkF m 295 #[.val (.int u0), .val (.int u1), .val (.int u2), .val (.int u3), .val (.int lo1), .val (.int hi1), .val (.int lo2), .val (.int hi2), .val (.ref b5), .val (.int lo1), .val (.int lo2), .val (.int (1 : Int32)), .val (.int (lo1 + (1 : Int32))), .val (.int lo2), .val (.int (1 : Int32)), .val (.int (1 : Int32)), .val (.int w23), .val (.int (1 : Int32)), .val (.int (if (lo1 + (1 : Int32)) = hi1 then (1 : Int32) else (0 : Int32))), .unset, .unset] [(.int (1 : Int32)), (.int (lo1 + (1 : Int32)))])) tt
          refine XS.iadd X29.here hx rfl (hb hby at_295) rfl ?_
          show Steps p.tables e below (T29.setTop (mkF m 296 #[.val (.int u0), .val (.int u1), .val (.int u2), .val (.int u3), .val (.int lo1), .val (.int hi1), .val (.int lo2), .val (.int hi2), .val (.ref b5), .val (.int lo1), .val (.int lo2), .val (.int (1 : Int32)), .val (.int (lo1 + (1 : Int32))), .val (.int lo2), .val (.int (1 : Int32)), .val (.int (1 : Int32)), .val (.int w23), .val (.int (1 : Int32)), .val (.int (if (lo1 + (1 : Int32)) = hi1 then (1 : Int32) else (0 : Int32))), .unset, .unset] [(.int ((lo1 + (1 : Int32)) + (1 : Int32)))])) tt
          refine XS.istore X29.here hx rfl (hb hby at_296) rfl (l' := #[.val (.int u0), .val (.int u1), .val (.int u2), .val (.int u3), .val (.int lo1), .val (.int hi1), .val (.int lo2), .val (.int hi2), .val (.ref b5), .val (.int lo1), .val (.int lo2), .val (.int (1 : Int32)), .val (.int ((lo1 + (1 : Int32)) + (1 : Int32))), .val (.int lo2), .val (.int (1 : Int32)), .val (.int (1 : Int32)), .val (.int w23), .val (.int (1 : Int32)), .val (.int (if (lo1 + (1 : Int32)) = hi1 then (1 : Int32) else (0 : Int32))), .unset, .unset]) rfl ?_
          show Steps p.tables e below (T29.setTop (mkF m 298 #[.val (.int u0), .val (.int u1), .val (.int u2), .val (.int u3), .val (.int lo1), .val (.int hi1), .val (.int lo2), .val (.int hi2), .val (.ref b5), .val (.int lo1), .val (.int lo2), .val (.int (1 : Int32)), .val (.int ((lo1 + (1 : Int32)) + (1 : Int32))), .val (.int lo2), .val (.int (1 : Int32)), .val (.int (1 : Int32)), .val (.int w23), .val (.int (1 : Int32)), .val (.int (if (lo1 + (1 : Int32)) = hi1 then (1 : Int32) else (0 : Int32))), .unset, .unset] [])) tt
          refine XS.iconst X29.here hx rfl (hb hby at_298) ?_
          show Steps p.tables e below (T29.setTop (mkF m 299 #[.val (.int u0), .val (.int u1), .val (.int u2), .val (.int u3), .val (.int lo1), .val (.int hi1), .val (.int lo2), .val (.int hi2), .val (.ref b5), .val (.int lo1), .val (.int lo2), .val (.int (1 : Int32)), .val (.int ((lo1 + (1 : Int32)) + (1 : Int32))), .val (.int lo2), .val (.int (1 : Int32)), .val (.int (1 : Int32)), .val (.int w23), .val (.int (1 : Int32)), .val (.int (if (lo1 + (1 : Int32)) = hi1 then (1 : Int32) else (0 : Int32))), .unset, .unset] [(.int (1 : Int32))])) tt
          refine XS.istore X29.here hx rfl (hb hby at_299) rfl (l' := #[.val (.int u0), .val (.int u1), .val (.int u2), .val (.int u3), .val (.int lo1), .val (.int hi1), .val (.int lo2), .val (.int hi2), .val (.ref b5), .val (.int lo1), .val (.int lo2), .val (.int (1 : Int32)), .val (.int ((lo1 + (1 : Int32)) + (1 : Int32))), .val (.int lo2), .val (.int (1 : Int32)), .val (.int (1 : Int32)), .val (.int w23), .val (.int (1 : Int32)), .val (.int (if (lo1 + (1 : Int32)) = hi1 then (1 : Int32) else (0 : Int32))), .unset, .unset]) rfl ?_
          show Steps p.tables e below (T29.setTop (mkF m 301 #[.val (.int u0), .val (.int u1), .val (.int u2), .val (.int u3), .val (.int lo1), .val (.int hi1), .val (.int lo2), .val (.int hi2), .val (.ref b5), .val (.int lo1), .val (.int lo2), .val (.int (1 : Int32)), .val (.int ((lo1 + (1 : Int32)) + (1 : Int32))), .val (.int lo2), .val (.int (1 : Int32)), .val (.int (1 : Int32)), .val (.int w23), .val (.int (1 : Int32)), .val (.int (if (lo1 + (1 : Int32)) = hi1 then (1 : Int32) else (0 : Int32))), .unset, .unset] [])) tt
          refine XS.iconst X29.here hx rfl (hb hby at_301) ?_
          show Steps p.tables e below (T29.setTop (mkF m 302 #[.val (.int u0), .val (.int u1), .val (.int u2), .val (.int u3), .val (.int lo1), .val (.int hi1), .val (.int lo2), .val (.int hi2), .val (.ref b5), .val (.int lo1), .val (.int lo2), .val (.int (1 : Int32)), .val (.int ((lo1 + (1 : Int32)) + (1 : Int32))), .val (.int lo2), .val (.int (1 : Int32)), .val (.int (1 : Int32)), .val (.int w23), .val (.int (1 : Int32)), .val (.int (if (lo1 + (1 : Int32)) = hi1 then (1 : Int32) else (0 : Int32))), .unset, .unset] [(.int (1 : Int32))])) tt
          refine XS.istore X29.here hx rfl (hb hby at_302) rfl (l' := #[.val (.int u0), .val (.int u1), .val (.int u2), .val (.int u3), .val (.int lo1), .val (.int hi1), .val (.int lo2), .val (.int hi2), .val (.ref b5), .val (.int lo1), .val (.int lo2), .val (.int (1 : Int32)), .val (.int ((lo1 + (1 : Int32)) + (1 : Int32))), .val (.int lo2), .val (.int (1 : Int32)), .val (.int (1 : Int32)), .val (.int w23), .val (.int (1 : Int32)), .val (.int (if (lo1 + (1 : Int32)) = hi1 then (1 : Int32) else (0 : Int32))), .unset, .unset]) rfl ?_
          show Steps p.tables e below (T29.setTop (mkF m 304 #[.val (.int u0), .val (.int u1), .val (.int u2), .val (.int u3), .val (.int lo1), .val (.int hi1), .val (.int lo2), .val (.int hi2), .val (.ref b5), .val (.int lo1), .val (.int lo2), .val (.int (1 : Int32)), .val (.int ((lo1 + (1 : Int32)) + (1 : Int32))), .val (.int lo2), .val (.int (1 : Int32)), .val (.int (1 : Int32)), .val (.int w23), .val (.int (1 : Int32)), .val (.int (if (lo1 + (1 : Int32)) = hi1 then (1 : Int32) else (0 : Int32))), .unset, .unset] [])) tt
          refine XS.iload X29.here hx rfl (hb hby at_304) rfl ?_
          show Steps p.tables e below (T29.setTop (mkF m 306 #[.val (.int u0), .val (.int u1), .val (.int u2), .val (.int u3), .val (.int lo1), .val (.int hi1), .val (.int lo2), .val (.int hi2), .val (.ref b5), .val (.int lo1), .val (.int lo2), .val (.int (1 : Int32)), .val (.int ((lo1 + (1 : Int32)) + (1 : Int32))), .val (.int lo2), .val (.int (1 : Int32)), .val (.int (1 : Int32)), .val (.int w23), .val (.int (1 : Int32)), .val (.int (if (lo1 + (1 : Int32)) = hi1 then (1 : Int32) else (0 : Int32))), .unset, .unset] [(.int ((lo1 + (1 : Int32)) + (1 : Int32)))])) tt
          refine XS.iload X29.here hx rfl (hb hby at_306) rfl ?_
          exact kk
        obtain ⟨w35, hw35⟩ : ∃ z : Int32, z = if ((lo1 + (1 : Int32)) + (1 : Int32)) = hi1 then (1 : Int32) else (0 : Int32) := ⟨_, rfl⟩
        refine Goal.to (B := T29.setTop (mkF m 316 #[.val (.int u0), .val (.int u1), .val (.int u2), .val (.int u3), .val (.int lo1), .val (.int hi1), .val (.int lo2), .val (.int hi2), .val (.ref b5), .val (.int lo1), .val (.int lo2), .val (.int (1 : Int32)), .val (.int ((lo1 + (1 : Int32)) + (1 : Int32))), .val (.int lo2), .val (.int (1 : Int32)), .val (.int (1 : Int32)), .val (.int w23), .val (.int (1 : Int32)), .val (.int (if (lo1 + (1 : Int32)) = hi1 then (1 : Int32) else (0 : Int32))), .unset, .unset] [(.int w35)])) (fun tt kk => ?_) ?_
        · by_cases hc34 : ((lo1 + (1 : Int32)) + (1 : Int32)) = hi1
          · have qw35 : w35 = (1 : Int32) := by rw [hw35, if_pos hc34]
            rw [qw35] at kk
            show Steps p.tables e below (T29.setTop (mkF m 308 #[.val (.int u0), .val (.int u1), .val (.int u2), .val (.int u3), .val (.int lo1), .val (.int hi1), .val (.int lo2), .val (.int hi2), .val (.ref b5), .val (.int lo1), .val (.int lo2), .val (.int (1 : Int32)), .val (.int ((lo1 + (1 : Int32)) + (1 : Int32))), .val (.int lo2), .val (.int (1 : Int32)), .val (.int (1 : Int32)), .val (.int w23), .val (.int (1 : Int32)), .val (.int (if (lo1 + (1 : Int32)) = hi1 then (1 : Int32) else (0 : Int32))), .unset, .unset] [(.int hi1), (.int ((lo1 + (1 : Int32)) + (1 : Int32)))])) tt
            refine XS.icmpNo X29.here hx rfl (hb hby at_308) rfl (teq hc34).2 ?_
            show Steps p.tables e below (T29.setTop (mkF m 311 #[.val (.int u0), .val (.int u1), .val (.int u2), .val (.int u3), .val (.int lo1), .val (.int hi1), .val (.int lo2), .val (.int hi2), .val (.ref b5), .val (.int lo1), .val (.int lo2), .val (.int (1 : Int32)), .val (.int ((lo1 + (1 : Int32)) + (1 : Int32))), .val (.int lo2), .val (.int (1 : Int32)), .val (.int (1 : Int32)), .val (.int w23), .val (.int (1 : Int32)), .val (.int (if (lo1 + (1 : Int32)) = hi1 then (1 : Int32) else (0 : Int32))), .unset, .unset] [])) tt
            refine XS.iconst X29.here hx rfl (hb hby at_311) ?_
            show Steps p.tables e below (T29.setTop (mkF m 312 #[.val (.int u0), .val (.int u1), .val (.int u2), .val (.int u3), .val (.int lo1), .val (.int hi1), .val (.int lo2), .val (.int hi2), .val (.ref b5), .val (.int lo1), .val (.int lo2), .val (.int (1 : Int32)), .val (.int ((lo1 + (1 : Int32)) + (1 : Int32))), .val (.int lo2), .val (.int (1 : Int32)), .val (.int (1 : Int32)), .val (.int w23), .val (.int (1 : Int32)), .val (.int (if (lo1 + (1 : Int32)) = hi1 then (1 : Int32) else (0 : Int32))), .unset, .unset] [(.int (1 : Int32))])) tt
            refine XS.goto X29.here hx rfl (pc0 := 312) (pc' := 316) rfl (hb hby at_312) (by decide) (by decide) ?_
            exact kk
          · have qw35 : w35 = (0 : Int32) := by rw [hw35, if_neg hc34]
            rw [qw35] at kk
            show Steps p.tables e below (T29.setTop (mkF m 308 #[.val (.int u0), .val (.int u1), .val (.int u2), .val (.int u3), .val (.int lo1), .val (.int hi1), .val (.int lo2), .val (.int hi2), .val (.ref b5), .val (.int lo1), .val (.int lo2), .val (.int (1 : Int32)), .val (.int ((lo1 + (1 : Int32)) + (1 : Int32))), .val (.int lo2), .val (.int (1 : Int32)), .val (.int (1 : Int32)), .val (.int w23), .val (.int (1 : Int32)), .val (.int (if (lo1 + (1 : Int32)) = hi1 then (1 : Int32) else (0 : Int32))), .unset, .unset] [(.int hi1), (.int ((lo1 + (1 : Int32)) + (1 : Int32)))])) tt
            refine XS.icmpYes X29.here hx rfl (pc0 := 308) (pc' := 315) rfl (hb hby at_308) rfl (feq hc34).2 (by decide) (by decide) ?_
            show Steps p.tables e below (T29.setTop (mkF m 315 #[.val (.int u0), .val (.int u1), .val (.int u2), .val (.int u3), .val (.int lo1), .val (.int hi1), .val (.int lo2), .val (.int hi2), .val (.ref b5), .val (.int lo1), .val (.int lo2), .val (.int (1 : Int32)), .val (.int ((lo1 + (1 : Int32)) + (1 : Int32))), .val (.int lo2), .val (.int (1 : Int32)), .val (.int (1 : Int32)), .val (.int w23), .val (.int (1 : Int32)), .val (.int (if (lo1 + (1 : Int32)) = hi1 then (1 : Int32) else (0 : Int32))), .unset, .unset] [])) tt
            refine XS.iconst X29.here hx rfl (hb hby at_315) ?_
            exact kk
        refine Goal.to (B := T29.setTop (mkF m 361 #[.val (.int u0), .val (.int u1), .val (.int u2), .val (.int u3), .val (.int lo1), .val (.int hi1), .val (.int lo2), .val (.int hi2), .val (.ref b5), .val (.int lo1), .val (.int lo2), .val (.int (1 : Int32)), .val (.int ((lo1 + (1 : Int32)) + (1 : Int32))), .val (.int lo2), .val (.int (1 : Int32)), .val (.int (1 : Int32)), .val (.int w35), .val (.int (1 : Int32)), .val (.int (if (lo1 + (1 : Int32)) = hi1 then (1 : Int32) else (0 : Int32))), .unset, .unset] [(.ref b5)])) (fun tt kk => ?_) ?_
        · show Steps p.tables e below (T29.setTop (mkF m 316 #[.val (.int u0), .val (.int u1), .val (.int u2), .val (.int u3), .val (.int lo1), .val (.int hi1), .val (.int lo2), .val (.int hi2), .val (.ref b5), .val (.int lo1), .val (.int lo2), .val (.int (1 : Int32)), .val (.int ((lo1 + (1 : Int32)) + (1 : Int32))), .val (.int lo2), .val (.int (1 : Int32)), .val (.int (1 : Int32)), .val (.int w23), .val (.int (1 : Int32)), .val (.int (if (lo1 + (1 : Int32)) = hi1 then (1 : Int32) else (0 : Int32))), .unset, .unset] [(.int w35)])) tt
          refine XS.istore X29.here hx rfl (hb hby at_316) rfl (l' := #[.val (.int u0), .val (.int u1), .val (.int u2), .val (.int u3), .val (.int lo1), .val (.int hi1), .val (.int lo2), .val (.int hi2), .val (.ref b5), .val (.int lo1), .val (.int lo2), .val (.int (1 : Int32)), .val (.int ((lo1 + (1 : Int32)) + (1 : Int32))), .val (.int lo2), .val (.int (1 : Int32)), .val (.int (1 : Int32)), .val (.int w35), .val (.int (1 : Int32)), .val (.int (if (lo1 + (1 : Int32)) = hi1 then (1 : Int32) else (0 : Int32))), .unset, .unset]) rfl ?_
          show Steps p.tables e below (T29.setTop (mkF m 318 #[.val (.int u0), .val (.int u1), .val (.int u2), .val (.int u3), .val (.int lo1), .val (.int hi1), .val (.int lo2), .val (.int hi2), .val (.ref b5), .val (.int lo1), .val (.int lo2), .val (.int (1 : Int32)), .val (.int ((lo1 + (1 : Int32)) + (1 : Int32))), .val (.int lo2), .val (.int (1 : Int32)), .val (.int (1 : Int32)), .val (.int w35), .val (.int (1 : Int32)), .val (.int (if (lo1 + (1 : Int32)) = hi1 then (1 : Int32) else (0 : Int32))), .unset, .unset] [])) tt
          refine XS.goto X29.here hx rfl (pc0 := 318) (pc' := 359) rfl (hb hby at_318) (by decide) (by decide) ?_
          show Steps p.tables e below (T29.setTop (mkF m 359 #[.val (.int u0), .val (.int u1), .val (.int u2), .val (.int u3), .val (.int lo1), .val (.int hi1), .val (.int lo2), .val (.int hi2), .val (.ref b5), .val (.int lo1), .val (.int lo2), .val (.int (1 : Int32)), .val (.int ((lo1 + (1 : Int32)) + (1 : Int32))), .val (.int lo2), .val (.int (1 : Int32)), .val (.int (1 : Int32)), .val (.int w35), .val (.int (1 : Int32)), .val (.int (if (lo1 + (1 : Int32)) = hi1 then (1 : Int32) else (0 : Int32))), .unset, .unset] [])) tt
          refine XS.aload X29.here hx rfl (hb hby at_359) rfl rfl ?_
          exact kk
        obtain ⟨cq36, kq36, q36a, q36b, q36c⟩ := isOf hZ e29 f30
        obtain ⟨_, _, ⟨T36, L36, k36, n36⟩, -, X36, ⟨Lc36, hQ36, l36, y36, z36⟩, st36⟩ := X29.virtualBack hx (y := (⟨"com/example/deferra/deferra/engine/Trail", "advance", "()Z"⟩ : MethodName)) (z := (⟨"com/example/deferra/deferra/engine/Trail", "advance", "()Z"⟩ : MethodName)) hown (mvT hZ (hw _ (mw 50 rfl))) (mvT hZ (hw _ (mw 51 rfl))) (notFace_of_selects (args := #[]) (mvT hZ (hw _ (mw 53 rfl)))) (mvT hZ (hw _ (mw 53 rfl))) (mvT hZ (hw _ (mw 52 rfl))) (by decide) (backOf (W := 0) (rmav1D l Z a0 hw [] b5 th_7 tv_7 hi1 hi2 (lo1 + (1 : Int32)) lo2 T26.heap n0 f28 f30 P26_0 P26_1 P26_2 P26_3 P26_4 f27 P26_5 g_b5 g_tv_7 ne_b5_tv_7 ne_b5_th_7 ne7_th_tv (by assumption)) hZ (hw _ (mw 54 rfl)) (hw _ (mw 9 rfl)) (by decide) (by decide)) q36a q36c (g := (mkF m 361 #[.val (.int u0), .val (.int u1), .val (.int u2), .val (.int u3), .val (.int lo1), .val (.int hi1), .val (.int lo2), .val (.int hi2), .val (.ref b5), .val (.int lo1), .val (.int lo2), .val (.int (1 : Int32)), .val (.int ((lo1 + (1 : Int32)) + (1 : Int32))), .val (.int lo2), .val (.int (1 : Int32)), .val (.int (1 : Int32)), .val (.int w35), .val (.int (1 : Int32)), .val (.int (if (lo1 + (1 : Int32)) = hi1 then (1 : Int32) else (0 : Int32))), .unset, .unset] [(.ref b5)])) rfl (by rw [hml]; rfl) (Steps.refl _) (argsL := []) (rest := []) (lenOf pd_4 rfl) rfl (by show 2 * 0 + _ ≤ _; exact Nat.le_of_eq rfl) (hb hby at_361) (fun _ _ => ⟨rfl, e29, (by decide : 5 + 0 ≤ _), (by decide : 78 + 0 ≤ _)⟩)
        dsimp only [Pt.U, Pt.locs, Pt.cells, Pt.slots] at X36 l36 y36 z36 st36 hQ36
        subst l36 y36 z36
        obtain ⟨rfl, N36q, K36, P36_0, P36_1, P36_2, P36_3, P36_4, P36_5⟩ := hQ36
        have N36 := Fr.app N29 N36q
        refine Goal.tr (B := T36.setTop (mkF m 364 #[.val (.int u0), .val (.int u1), .val (.int u2), .val (.int u3), .val (.int lo1), .val (.int hi1), .val (.int lo2), .val (.int hi2), .val (.ref b5), .val (.int lo1), .val (.int lo2), .val (.int (1 : Int32)), .val (.int ((lo1 + (1 : Int32)) + (1 : Int32))), .val (.int lo2), .val (.int (1 : Int32)), .val (.int (1 : Int32)), .val (.int w35), .val (.int (1 : Int32)), .val (.int (if (lo1 + (1 : Int32)) = hi1 then (1 : Int32) else (0 : Int32))), .unset, .unset] [(.int (1 : Int32))])) st36 ?_
        refine Goal.to (B := T36.setTop (mkF m 368 #[.val (.int u0), .val (.int u1), .val (.int u2), .val (.int u3), .val (.int lo1), .val (.int hi1), .val (.int lo2), .val (.int hi2), .val (.ref b5), .val (.int lo1), .val (.int lo2), .val (.int (1 : Int32)), .val (.int ((lo1 + (1 : Int32)) + (1 : Int32))), .val (.int lo2), .val (.int (1 : Int32)), .val (.int (1 : Int32)), .val (.int w35), .val (.int (1 : Int32)), .val (.int (if (lo1 + (1 : Int32)) = hi1 then (1 : Int32) else (0 : Int32))), .val (.int (1 : Int32)), .unset] [(.ref b5)])) (fun tt kk => ?_) ?_
        · show Steps p.tables e below (T36.setTop (mkF m 364 #[.val (.int u0), .val (.int u1), .val (.int u2), .val (.int u3), .val (.int lo1), .val (.int hi1), .val (.int lo2), .val (.int hi2), .val (.ref b5), .val (.int lo1), .val (.int lo2), .val (.int (1 : Int32)), .val (.int ((lo1 + (1 : Int32)) + (1 : Int32))), .val (.int lo2), .val (.int (1 : Int32)), .val (.int (1 : Int32)), .val (.int w35), .val (.int (1 : Int32)), .val (.int (if (lo1 + (1 : Int32)) = hi1 then (1 : Int32) else (0 : Int32))), .unset, .unset] [(.int (1 : Int32))])) tt
          refine XS.istore X36.here hx rfl (hb hby at_364) rfl (l' := #[.val (.int u0), .val (.int u1), .val (.int u2), .val (.int u3), .val (.int lo1), .val (.int hi1), .val (.int lo2), .val (.int hi2), .val (.ref b5), .val (.int lo1), .val (.int lo2), .val (.int (1 : Int32)), .val (.int ((lo1 + (1 : Int32)) + (1 : Int32))), .val (.int lo2), .val (.int (1 : Int32)), .val (.int (1 : Int32)), .val (.int w35), .val (.int (1 : Int32)), .val (.int (if (lo1 + (1 : Int32)) = hi1 then (1 : Int32) else (0 : Int32))), .val (.int (1 : Int32)), .unset]) rfl ?_
          show Steps p.tables e below (T36.setTop (mkF m 366 #[.val (.int u0), .val (.int u1), .val (.int u2), .val (.int u3), .val (.int lo1), .val (.int hi1), .val (.int lo2), .val (.int hi2), .val (.ref b5), .val (.int lo1), .val (.int lo2), .val (.int (1 : Int32)), .val (.int ((lo1 + (1 : Int32)) + (1 : Int32))), .val (.int lo2), .val (.int (1 : Int32)), .val (.int (1 : Int32)), .val (.int w35), .val (.int (1 : Int32)), .val (.int (if (lo1 + (1 : Int32)) = hi1 then (1 : Int32) else (0 : Int32))), .val (.int (1 : Int32)), .unset] [])) tt
          refine XS.aload X36.here hx rfl (hb hby at_366) rfl rfl ?_
          exact kk
        have f37 : Ary Z T36.heap th_7 .int [(.int hi1), (.int hi2), (.int (0 : Int32)), (.int (0 : Int32)), (.int (0 : Int32)), (.int (0 : Int32)), (.int (0 : Int32)), (.int (0 : Int32)), (.int (0 : Int32)), (.int (0 : Int32)), (.int (0 : Int32)), (.int (0 : Int32)), (.int (0 : Int32)), (.int (0 : Int32)), (.int (0 : Int32)), (.int (0 : Int32))] := (f27.keep K36 (ninS (Ne.symm ne_b5_th_7) (ninS ne7_th_tv nin0)))
        have f38 : n0 ≤ T36.heap.size := (Nat.le_trans f28 K36.1)
        have f40 : Exa Z T36.heap b5 "com/example/deferra/deferra/engine/Trail" := (f30.keep K36)
        obtain ⟨cq39, kq39, q39a, q39b, q39c⟩ := isOf hZ rfl f40
        obtain ⟨_, _, ⟨T39, L39, k39, n39⟩, -, X39, ⟨Lc39, hQ39, l39, y39, z39⟩, st39⟩ := X36.virtualBack hx (y := (⟨"com/example/deferra/deferra/engine/Trail", "changeIsLast", "()Z"⟩ : MethodName)) (z := (⟨"com/example/deferra/deferra/engine/Trail", "changeIsLast", "()Z"⟩ : MethodName)) hown (mvT hZ (hw _ (mw 61 rfl))) (mvT hZ (hw _ (mw 62 rfl))) (notFace_of_selects (args := #[]) (mvT hZ (hw _ (mw 64 rfl)))) (mvT hZ (hw _ (mw 64 rfl))) (mvT hZ (hw _ (mw 63 rfl))) (by decide) (backOf (W := 0) (rmcl1 l Z a0 hw [] b5 th_7 tv_7 hi1 hi2 ((lo1 + (1 : Int32)) + (1 : Int32)) lo2 T36.heap n0 f38 P36_1 P36_2 P36_3 f37 P36_5) hZ (hw _ (mw 65 rfl)) (hw _ (mw 9 rfl)) (by decide) (by decide)) q39a q39c (g := (mkF m 368 #[.val (.int u0), .val (.int u1), .val (.int u2), .val (.int u3), .val (.int lo1), .val (.int hi1), .val (.int lo2), .val (.int hi2), .val (.ref b5), .val (.int lo1), .val (.int lo2), .val (.int (1 : Int32)), .val (.int ((lo1 + (1 : Int32)) + (1 : Int32))), .val (.int lo2), .val (.int (1 : Int32)), .val (.int (1 : Int32)), .val (.int w35), .val (.int (1 : Int32)), .val (.int (if (lo1 + (1 : Int32)) = hi1 then (1 : Int32) else (0 : Int32))), .val (.int (1 : Int32)), .unset] [(.ref b5)])) rfl (by rw [hml]; rfl) (Steps.refl _) (argsL := []) (rest := []) (lenOf pd_4 rfl) rfl (by show 2 * 0 + _ ≤ _; exact Nat.le_of_eq rfl) (hb hby at_368) (fun _ _ => ⟨rfl, rfl, (by decide : 5 + 0 ≤ _), (by decide : 78 + 0 ≤ _)⟩)
        dsimp only [Pt.U, Pt.locs, Pt.cells, Pt.slots] at X39 l39 y39 z39 st39 hQ39
        subst l39 y39 z39
        obtain ⟨rfl, N39q, e39⟩ := hQ39
        have N39 := Fr.app N36 N39q
        refine Goal.tr (B := T39.setTop (mkF m 371 #[.val (.int u0), .val (.int u1), .val (.int u2), .val (.int u3), .val (.int lo1), .val (.int hi1), .val (.int lo2), .val (.int hi2), .val (.ref b5), .val (.int lo1), .val (.int lo2), .val (.int (1 : Int32)), .val (.int ((lo1 + (1 : Int32)) + (1 : Int32))), .val (.int lo2), .val (.int (1 : Int32)), .val (.int (1 : Int32)), .val (.int w35), .val (.int (1 : Int32)), .val (.int (if (lo1 + (1 : Int32)) = hi1 then (1 : Int32) else (0 : Int32))), .val (.int (1 : Int32)), .unset] [(.int (if ((lo1 + (1 : Int32)) + (1 : Int32)) = hi1 then (1 : Int32) else (0 : Int32)))])) st39 ?_
        refine Goal.to (B := T39.setTop (mkF m 401 #[.val (.int u0), .val (.int u1), .val (.int u2), .val (.int u3), .val (.int lo1), .val (.int hi1), .val (.int lo2), .val (.int hi2), .val (.ref b5), .val (.int lo1), .val (.int lo2), .val (.int (1 : Int32)), .val (.int ((lo1 + (1 : Int32)) + (1 : Int32))), .val (.int lo2), .val (.int (1 : Int32)), .val (.int (1 : Int32)), .val (.int w35), .val (.int (1 : Int32)), .val (.int (if (lo1 + (1 : Int32)) = hi1 then (1 : Int32) else (0 : Int32))), .val (.int (1 : Int32)), .val (.int (if ((lo1 + (1 : Int32)) + (1 : Int32)) = hi1 then (1 : Int32) else (0 : Int32)))] [(.int (1 : Int32))])) (fun tt kk => ?_) ?_
        · show Steps p.tables e below (T39.setTop (mkF m 371 #[.val (.int u0), .val (.int u1), .val (.int u2), .val (.int u3), .val (.int lo1), .val (.int hi1), .val (.int lo2), .val (.int hi2), .val (.ref b5), .val (.int lo1), .val (.int lo2), .val (.int (1 : Int32)), .val (.int ((lo1 + (1 : Int32)) + (1 : Int32))), .val (.int lo2), .val (.int (1 : Int32)), .val (.int (1 : Int32)), .val (.int w35), .val (.int (1 : Int32)), .val (.int (if (lo1 + (1 : Int32)) = hi1 then (1 : Int32) else (0 : Int32))), .val (.int (1 : Int32)), .unset] [(.int (if ((lo1 + (1 : Int32)) + (1 : Int32)) = hi1 then (1 : Int32) else (0 : Int32)))])) tt
          refine XS.istore X39.here hx rfl (hb hby at_371) rfl (l' := #[.val (.int u0), .val (.int u1), .val (.int u2), .val (.int u3), .val (.int lo1), .val (.int hi1), .val (.int lo2), .val (.int hi2), .val (.ref b5), .val (.int lo1), .val (.int lo2), .val (.int (1 : Int32)), .val (.int ((lo1 + (1 : Int32)) + (1 : Int32))), .val (.int lo2), .val (.int (1 : Int32)), .val (.int (1 : Int32)), .val (.int w35), .val (.int (1 : Int32)), .val (.int (if (lo1 + (1 : Int32)) = hi1 then (1 : Int32) else (0 : Int32))), .val (.int (1 : Int32)), .val (.int (if ((lo1 + (1 : Int32)) + (1 : Int32)) = hi1 then (1 : Int32) else (0 : Int32)))]) rfl ?_
          show Steps p.tables e below (T39.setTop (mkF m 373 #[.val (.int u0), .val (.int u1), .val (.int u2), .val (.int u3), .val (.int lo1), .val (.int hi1), .val (.int lo2), .val (.int hi2), .val (.ref b5), .val (.int lo1), .val (.int lo2), .val (.int (1 : Int32)), .val (.int ((lo1 + (1 : Int32)) + (1 : Int32))), .val (.int lo2), .val (.int (1 : Int32)), .val (.int (1 : Int32)), .val (.int w35), .val (.int (1 : Int32)), .val (.int (if (lo1 + (1 : Int32)) = hi1 then (1 : Int32) else (0 : Int32))), .val (.int (1 : Int32)), .val (.int (if ((lo1 + (1 : Int32)) + (1 : Int32)) = hi1 then (1 : Int32) else (0 : Int32)))] [])) tt
          refine XS.iload X39.here hx rfl (hb hby at_373) rfl ?_
          show Steps p.tables e below (T39.setTop (mkF m 375 #[.val (.int u0), .val (.int u1), .val (.int u2), .val (.int u3), .val (.int lo1), .val (.int hi1), .val (.int lo2), .val (.int hi2), .val (.ref b5), .val (.int lo1), .val (.int lo2), .val (.int (1 : Int32)), .val (.int ((lo1 + (1 : Int32)) + (1 : Int32))), .val (.int lo2), .val (.int (1 : Int32)), .val (.int (1 : Int32)), .val (.int w35), .val (.int (1 : Int32)), .val (.int (if (lo1 + (1 : Int32)) = hi1 then (1 : Int32) else (0 : Int32))), .val (.int (1 : Int32)), .val (.int (if ((lo1 + (1 : Int32)) + (1 : Int32)) = hi1 then (1 : Int32) else (0 : Int32)))] [(.int (1 : Int32))])) tt
          refine XS.ifNo X39.here hx rfl (hb hby at_375) rfl ((if0 _ _).trans (feq ((by decide) : ¬ ((1 : Int32) = (0 : Int32)))).1) ?_
          show Steps p.tables e below (T39.setTop (mkF m 378 #[.val (.int u0), .val (.int u1), .val (.int u2), .val (.int u3), .val (.int lo1), .val (.int hi1), .val (.int lo2), .val (.int hi2), .val (.ref b5), .val (.int lo1), .val (.int lo2), .val (.int (1 : Int32)), .val (.int ((lo1 + (1 : Int32)) + (1 : Int32))), .val (.int lo2), .val (.int (1 : Int32)), .val (.int (1 : Int32)), .val (.int w35), .val (.int (1 : Int32)), .val (.int (if (lo1 + (1 : Int32)) = hi1 then (1 : Int32) else (0 : Int32))), .val (.int (1 : Int32)), .val (.int (if ((lo1 + (1 : Int32)) + (1 : Int32)) = hi1 then (1 : Int32) else (0 : Int32)))] [])) tt
          refine XS.iload X39.here hx rfl (hb hby at_378) rfl ?_
          show Steps p.tables e below (T39.setTop (mkF m 380 #[.val (.int u0), .val (.int u1), .val (.int u2), .val (.int u3), .val (.int lo1), .val (.int hi1), .val (.int lo2), .val (.int hi2), .val (.ref b5), .val (.int lo1), .val (.int lo2), .val (.int (1 : Int32)), .val (.int ((lo1 + (1 : Int32)) + (1 : Int32))), .val (.int lo2), .val (.int (1 : Int32)), .val (.int (1 : Int32)), .val (.int w35), .val (.int (1 : Int32)), .val (.int (if (lo1 + (1 : Int32)) = hi1 then (1 : Int32) else (0 : Int32))), .val (.int (1 : Int32)), .val (.int (if ((lo1 + (1 : Int32)) + (1 : Int32)) = hi1 then (1 : Int32) else (0 : Int32)))] [(.int (1 : Int32))])) tt
          refine XS.iload X39.here hx rfl (hb hby at_380) rfl ?_
          show Steps p.tables e below (T39.setTop (mkF m 382 #[.val (.int u0), .val (.int u1), .val (.int u2), .val (.int u3), .val (.int lo1), .val (.int hi1), .val (.int lo2), .val (.int hi2), .val (.ref b5), .val (.int lo1), .val (.int lo2), .val (.int (1 : Int32)), .val (.int ((lo1 + (1 : Int32)) + (1 : Int32))), .val (.int lo2), .val (.int (1 : Int32)), .val (.int (1 : Int32)), .val (.int w35), .val (.int (1 : Int32)), .val (.int (if (lo1 + (1 : Int32)) = hi1 then (1 : Int32) else (0 : Int32))), .val (.int (1 : Int32)), .val (.int (if ((lo1 + (1 : Int32)) + (1 : Int32)) = hi1 then (1 : Int32) else (0 : Int32)))] [(.int (1 : Int32)), (.int (1 : Int32))])) tt
          refine XS.icmpNo X39.here hx rfl (hb hby at_382) rfl (teq (rfl : (1 : Int32) = (1 : Int32))).2 ?_
          show Steps p.tables e below (T39.setTop (mkF m 385 #[.val (.int u0), .val (.int u1), .val (.int u2), .val (.int u3), .val (.int lo1), .val (.int hi1), .val (.int lo2), .val (.int hi2), .val (.ref b5), .val (.int lo1), .val (.int lo2), .val (.int (1 : Int32)), .val (.int ((lo1 + (1 : Int32)) + (1 : Int32))), .val (.int lo2), .val (.int (1 : Int32)), .val (.int (1 : Int32)), .val (.int w35), .val (.int (1 : Int32)), .val (.int (if (lo1 + (1 : Int32)) = hi1 then (1 : Int32) else (0 : Int32))), .val (.int (1 : Int32)), .val (.int (if ((lo1 + (1 : Int32)) + (1 : Int32)) = hi1 then (1 : Int32) else (0 : Int32)))] [])) tt
          refine XS.iload X39.here hx rfl (hb hby at_385) rfl ?_
          show Steps p.tables e below (T39.setTop (mkF m 387 #[.val (.int u0), .val (.int u1), .val (.int u2), .val (.int u3), .val (.int lo1), .val (.int hi1), .val (.int lo2), .val (.int hi2), .val (.ref b5), .val (.int lo1), .val (.int lo2), .val (.int (1 : Int32)), .val (.int ((lo1 + (1 : Int32)) + (1 : Int32))), .val (.int lo2), .val (.int (1 : Int32)), .val (.int (1 : Int32)), .val (.int w35), .val (.int (1 : Int32)), .val (.int (if (lo1 + (1 : Int32)) = hi1 then (1 : Int32) else (0 : Int32))), .val (.int (1 : Int32)), .val (.int (if ((lo1 + (1 : Int32)) + (1 : Int32)) = hi1 then (1 : Int32) else (0 : Int32)))] [(.int (if ((lo1 + (1 : Int32)) + (1 : Int32)) = hi1 then (1 : Int32) else (0 : Int32)))])) tt
          refine XS.iload X39.here hx rfl (hb hby at_387) rfl ?_
          show Steps p.tables e below (T39.setTop (mkF m 389 #[.val (.int u0), .val (.int u1), .val (.int u2), .val (.int u3), .val (.int lo1), .val (.int hi1), .val (.int lo2), .val (.int hi2), .val (.ref b5), .val (.int lo1), .val (.int lo2), .val (.int (1 : Int32)), .val (.int ((lo1 + (1 : Int32)) + (1 : Int32))), .val (.int lo2), .val (.int (1 : Int32)), .val (.int (1 : Int32)), .val (.int w35), .val (.int (1 : Int32)), .val (.int (if (lo1 + (1 : Int32)) = hi1 then (1 : Int32) else (0 : Int32))), .val (.int (1 : Int32)), .val (.int (if ((lo1 + (1 : Int32)) + (1 : Int32)) = hi1 then (1 : Int32) else (0 : Int32)))] [(.int w35), (.int (if ((lo1 + (1 : Int32)) + (1 : Int32)) = hi1 then (1 : Int32) else (0 : Int32)))])) tt
          refine XS.icmpNo X39.here hx rfl (hb hby at_389) rfl (teq (hw35.symm : (if ((lo1 + (1 : Int32)) + (1 : Int32)) = hi1 then (1 : Int32) else (0 : Int32)) = w35)).2 ?_
          show Steps p.tables e below (T39.setTop (mkF m 392 #[.val (.int u0), .val (.int u1), .val (.int u2), .val (.int u3), .val (.int lo1), .val (.int hi1), .val (.int lo2), .val (.int hi2), .val (.ref b5), .val (.int lo1), .val (.int lo2), .val (.int (1 : Int32)), .val (.int ((lo1 + (1 : Int32)) + (1 : Int32))), .val (.int lo2), .val (.int (1 : Int32)), .val (.int (1 : Int32)), .val (.int w35), .val (.int (1 : Int32)), .val (.int (if (lo1 + (1 : Int32)) = hi1 then (1 : Int32) else (0 : Int32))), .val (.int (1 : Int32)), .val (.int (if ((lo1 + (1 : Int32)) + (1 : Int32)) = hi1 then (1 : Int32) else (0 : Int32)))] [])) tt
          refine XS.iconst X39.here hx rfl (hb hby at_392) ?_
          show Steps p.tables e below (T39.setTop (mkF m 393 #[.val (.int u0), .val (.int u1), .val (.int u2), .val (.int u3), .val (.int lo1), .val (.int hi1), .val (.int lo2), .val (.int hi2), .val (.ref b5), .val (.int lo1), .val (.int lo2), .val (.int (1 : Int32)), .val (.int ((lo1 + (1 : Int32)) + (1 : Int32))), .val (.int lo2), .val (.int (1 : Int32)), .val (.int (1 : Int32)), .val (.int w35), .val (.int (1 : Int32)), .val (.int (if (lo1 + (1 : Int32)) = hi1 then (1 : Int32) else (0 : Int32))), .val (.int (1 : Int32)), .val (.int (if ((lo1 + (1 : Int32)) + (1 : Int32)) = hi1 then (1 : Int32) else (0 : Int32)))] [(.int (1 : Int32))])) tt
          refine XS.goto X39.here hx rfl (pc0 := 393) (pc' := 397) rfl (hb hby at_393) (by decide) (by decide) ?_
          show Steps p.tables e below (T39.setTop (mkF m 397 #[.val (.int u0), .val (.int u1), .val (.int u2), .val (.int u3), .val (.int lo1), .val (.int hi1), .val (.int lo2), .val (.int hi2), .val (.ref b5), .val (.int lo1), .val (.int lo2), .val (.int (1 : Int32)), .val (.int ((lo1 + (1 : Int32)) + (1 : Int32))), .val (.int lo2), .val (.int (1 : Int32)), .val (.int (1 : Int32)), .val (.int w35), .val (.int (1 : Int32)), .val (.int (if (lo1 + (1 : Int32)) = hi1 then (1 : Int32) else (0 : Int32))), .val (.int (1 : Int32)), .val (.int (if ((lo1 + (1 : Int32)) + (1 : Int32)) = hi1 then (1 : Int32) else (0 : Int32)))] [(.int (1 : Int32))])) tt
          refine XS.istore X39.here hx rfl (hb hby at_397) rfl (l' := #[.val (.int u0), .val (.int u1), .val (.int u2), .val (.int u3), .val (.int lo1), .val (.int hi1), .val (.int lo2), .val (.int hi2), .val (.ref b5), .val (.int lo1), .val (.int lo2), .val (.int (1 : Int32)), .val (.int ((lo1 + (1 : Int32)) + (1 : Int32))), .val (.int lo2), .val (.int (1 : Int32)), .val (.int (1 : Int32)), .val (.int w35), .val (.int (1 : Int32)), .val (.int (if (lo1 + (1 : Int32)) = hi1 then (1 : Int32) else (0 : Int32))), .val (.int (1 : Int32)), .val (.int (if ((lo1 + (1 : Int32)) + (1 : Int32)) = hi1 then (1 : Int32) else (0 : Int32)))]) rfl ?_
          show Steps p.tables e below (T39.setTop (mkF m 399 #[.val (.int u0), .val (.int u1), .val (.int u2), .val (.int u3), .val (.int lo1), .val (.int hi1), .val (.int lo2), .val (.int hi2), .val (.ref b5), .val (.int lo1), .val (.int lo2), .val (.int (1 : Int32)), .val (.int ((lo1 + (1 : Int32)) + (1 : Int32))), .val (.int lo2), .val (.int (1 : Int32)), .val (.int (1 : Int32)), .val (.int w35), .val (.int (1 : Int32)), .val (.int (if (lo1 + (1 : Int32)) = hi1 then (1 : Int32) else (0 : Int32))), .val (.int (1 : Int32)), .val (.int (if ((lo1 + (1 : Int32)) + (1 : Int32)) = hi1 then (1 : Int32) else (0 : Int32)))] [])) tt
          refine XS.iload X39.here hx rfl (hb hby at_399) rfl ?_
          exact kk
        exact Goal.retV X39 hx Bd.returns rfl (Or.inl ⟨rfl, Or.inr (Or.inl rfl), _, rfl⟩) (hb hby at_401) hlk e39 ⟨rfl, N39⟩ (by decide) (by decide)
  · refine Goal.to (B := T13.setTop (mkF m 119 #[.val (.int u0), .val (.int u1), .val (.int u2), .val (.int u3), .val (.int lo1), .val (.int hi1), .val (.int lo2), .val (.int hi2), .val (.ref b5), .val (.int lo1), .val (.int lo2), .val (.int (1 : Int32)), .val (.int lo1), .val (.int (lo2 + (1 : Int32))), .val (.int (2 : Int32)), .val (.int (1 : Int32)), .unset, .unset, .unset, .unset, .unset] [(.int hi2), (.int (lo2 + (1 : Int32)))])) (fun tt kk => ?_) ?_
    · show Steps p.tables e below (T13.setTop (mkF m 103 #[.val (.int u0), .val (.int u1), .val (.int u2), .val (.int u3), .val (.int lo1), .val (.int hi1), .val (.int lo2), .val (.int hi2), .val (.ref b5), .val (.int lo1), .val (.int lo2), .val (.int (1 : Int32)), .val (.int lo1), .val (.int lo2), .val (.int (2 : Int32)), .unset, .unset, .unset, .unset, .unset, .unset] [(.int hi2), (.int lo2)])) tt
      refine XS.icmpNo X13.here hx rfl (hb hby at_103) rfl (feq hc14).1 ?_
      show Steps p.tables e below (T13.setTop (mkF m 106 #[.val (.int u0), .val (.int u1), .val (.int u2), .val (.int u3), .val (.int lo1), .val (.int hi1), .val (.int lo2), .val (.int hi2), .val (.ref b5), .val (.int lo1), .val (.int lo2), .val (.int (1 : Int32)), .val (.int lo1), .val (.int lo2), .val (.int (2 : Int32)), .unset, .unset, .unset, .unset, .unset, .unset] [])) tt
      refine XS.iload X13.here hx rfl (hb hby at_106) rfl ?_
      show Steps p.tables e below (T13.setTop (mkF m 108 #[.val (.int u0), .val (.int u1), .val (.int u2), .val (.int u3), .val (.int lo1), .val (.int hi1), .val (.int lo2), .val (.int hi2), .val (.ref b5), .val (.int lo1), .val (.int lo2), .val (.int (1 : Int32)), .val (.int lo1), .val (.int lo2), .val (.int (2 : Int32)), .unset, .unset, .unset, .unset, .unset, .unset] [(.int lo2)])) tt
      refine XS.iconst X13.here hx rfl (hb hby at_108) ?_
      show Steps p.tables e below (T13.setTop (mkF m 109 #[.val (.int u0), .val (.int u1), .val (.int u2), .val (.int u3), .val (.int lo1), .val (.int hi1), .val (.int lo2), .val (.int hi2), .val (.ref b5), .val (.int lo1), .val (.int lo2), .val (.int (1 : Int32)), .val (.int lo1), .val (.int lo2), .val (.int (2 : Int32)), .unset, .unset, .unset, .unset, .unset, .unset] [(.int (1 : Int32)), (.int lo2)])) tt
      refine XS.iadd X13.here hx rfl (hb hby at_109) rfl ?_
      show Steps p.tables e below (T13.setTop (mkF m 110 #[.val (.int u0), .val (.int u1), .val (.int u2), .val (.int u3), .val (.int lo1), .val (.int hi1), .val (.int lo2), .val (.int hi2), .val (.ref b5), .val (.int lo1), .val (.int lo2), .val (.int (1 : Int32)), .val (.int lo1), .val (.int lo2), .val (.int (2 : Int32)), .unset, .unset, .unset, .unset, .unset, .unset] [(.int (lo2 + (1 : Int32)))])) tt
      refine XS.istore X13.here hx rfl (hb hby at_110) rfl (l' := #[.val (.int u0), .val (.int u1), .val (.int u2), .val (.int u3), .val (.int lo1), .val (.int hi1), .val (.int lo2), .val (.int hi2), .val (.ref b5), .val (.int lo1), .val (.int lo2), .val (.int (1 : Int32)), .val (.int lo1), .val (.int (lo2 + (1 : Int32))), .val (.int (2 : Int32)), .unset, .unset, .unset, .unset, .unset, .unset]) rfl ?_
      show Steps p.tables e below (T13.setTop (mkF m 112 #[.val (.int u0), .val (.int u1), .val (.int u2), .val (.int u3), .val (.int lo1), .val (.int hi1), .val (.int lo2), .val (.int hi2), .val (.ref b5), .val (.int lo1), .val (.int lo2), .val (.int (1 : Int32)), .val (.int lo1), .val (.int (lo2 + (1 : Int32))), .val (.int (2 : Int32)), .unset, .unset, .unset, .unset, .unset, .unset] [])) tt
      refine XS.iconst X13.here hx rfl (hb hby at_112) ?_
      show Steps p.tables e below (T13.setTop (mkF m 113 #[.val (.int u0), .val (.int u1), .val (.int u2), .val (.int u3), .val (.int lo1), .val (.int hi1), .val (.int lo2), .val (.int hi2), .val (.ref b5), .val (.int lo1), .val (.int lo2), .val (.int (1 : Int32)), .val (.int lo1), .val (.int (lo2 + (1 : Int32))), .val (.int (2 : Int32)), .unset, .unset, .unset, .unset, .unset, .unset] [(.int (1 : Int32))])) tt
      refine XS.istore X13.here hx rfl (hb hby at_113) rfl (l' := #[.val (.int u0), .val (.int u1), .val (.int u2), .val (.int u3), .val (.int lo1), .val (.int hi1), .val (.int lo2), .val (.int hi2), .val (.ref b5), .val (.int lo1), .val (.int lo2), .val (.int (1 : Int32)), .val (.int lo1), .val (.int (lo2 + (1 : Int32))), .val (.int (2 : Int32)), .val (.int (1 : Int32)), .unset, .unset, .unset, .unset, .unset]) rfl ?_
      show Steps p.tables e below (T13.setTop (mkF m 115 #[.val (.int u0), .val (.int u1), .val (.int u2), .val (.int u3), .val (.int lo1), .val (.int hi1), .val (.int lo2), .val (.int hi2), .val (.ref b5), .val (.int lo1), .val (.int lo2), .val (.int (1 : Int32)), .val (.int lo1), .val (.int (lo2 + (1 : Int32))), .val (.int (2 : Int32)), .val (.int (1 : Int32)), .unset, .unset, .unset, .unset, .unset] [])) tt
      refine XS.iload X13.here hx rfl (hb hby at_115) rfl ?_
      show Steps p.tables e below (T13.setTop (mkF m 117 #[.val (.int u0), .val (.int u1), .val (.int u2), .val (.int u3), .val (.int lo1), .val (.int hi1), .val (.int lo2), .val (.int hi2), .val (.ref b5), .val (.int lo1), .val (.int lo2), .val (.int (1 : Int32)), .val (.int lo1), .val (.int (lo2 + (1 : Int32))), .val (.int (2 : Int32)), .val (.int (1 : Int32)), .unset, .unset, .unset, .unset, .unset] [(.int (lo2 + (1 : Int32)))])) tt
      refine XS.iload X13.here hx rfl (hb hby at_117) rfl ?_
      exact kk
    obtain ⟨w42, hw42⟩ : ∃ z : Int32, z = if (lo2 + (1 : Int32)) = hi2 then (1 : Int32) else (0 : Int32) := ⟨_, rfl⟩
    refine Goal.to (B := T13.setTop (mkF m 127 #[.val (.int u0), .val (.int u1), .val (.int u2), .val (.int u3), .val (.int lo1), .val (.int hi1), .val (.int lo2), .val (.int hi2), .val (.ref b5), .val (.int lo1), .val (.int lo2), .val (.int (1 : Int32)), .val (.int lo1), .val (.int (lo2 + (1 : Int32))), .val (.int (2 : Int32)), .val (.int (1 : Int32)), .unset, .unset, .unset, .unset, .unset] [(.int w42)])) (fun tt kk => ?_) ?_
    · by_cases hc41 : (lo2 + (1 : Int32)) = hi2
      · have qw42 : w42 = (1 : Int32) := by rw [hw42, if_pos hc41]
        rw [qw42] at kk
        show Steps p.tables e below (T13.setTop (mkF m 119 #[.val (.int u0), .val (.int u1), .val (.int u2), .val (.int u3), .val (.int lo1), .val (.int hi1), .val (.int lo2), .val (.int hi2), .val (.ref b5), .val (.int lo1), .val (.int lo2), .val (.int (1 : Int32)), .val (.int lo1), .val (.int (lo2 + (1 : Int32))), .val (.int (2 : Int32)), .val (.int (1 : Int32)), .unset, .unset, .unset, .unset, .unset] [(.int hi2), (.int (lo2 + (1 : Int32)))])) tt
        refine XS.icmpNo X13.here hx rfl (hb hby at_119) rfl (teq hc41).2 ?_
        show Steps p.tables e below (T13.setTop (mkF m 122 #[.val (.int u0), .val (.int u1), .val (.int u2), .val (.int u3), .val (.int lo1), .val (.int hi1), .val (.int lo2), .val (.int hi2), .val (.ref b5), .val (.int lo1), .val (.int lo2), .val (.int (1 : Int32)), .val (.int lo1), .val (.int (lo2 + (1 : Int32))), .val (.int (2 : Int32)), .val (.int (1 : Int32)), .unset, .unset, .unset, .unset, .unset] [])) tt
        refine XS.iconst X13.here hx rfl (hb hby at_122) ?_
        show Steps p.tables e below (T13.setTop (mkF m 123 #[.val (.int u0), .val (.int u1), .val (.int u2), .val (.int u3), .val (.int lo1), .val (.int hi1), .val (.int lo2), .val (.int hi2), .val (.ref b5), .val (.int lo1), .val (.int lo2), .val (.int (1 : Int32)), .val (.int lo1), .val (.int (lo2 + (1 : Int32))), .val (.int (2 : Int32)), .val (.int (1 : Int32)), .unset, .unset, .unset, .unset, .unset] [(.int (1 : Int32))])) tt
        refine XS.goto X13.here hx rfl (pc0 := 123) (pc' := 127) rfl (hb hby at_123) (by decide) (by decide) ?_
        exact kk
      · have qw42 : w42 = (0 : Int32) := by rw [hw42, if_neg hc41]
        rw [qw42] at kk
        show Steps p.tables e below (T13.setTop (mkF m 119 #[.val (.int u0), .val (.int u1), .val (.int u2), .val (.int u3), .val (.int lo1), .val (.int hi1), .val (.int lo2), .val (.int hi2), .val (.ref b5), .val (.int lo1), .val (.int lo2), .val (.int (1 : Int32)), .val (.int lo1), .val (.int (lo2 + (1 : Int32))), .val (.int (2 : Int32)), .val (.int (1 : Int32)), .unset, .unset, .unset, .unset, .unset] [(.int hi2), (.int (lo2 + (1 : Int32)))])) tt
        refine XS.icmpYes X13.here hx rfl (pc0 := 119) (pc' := 126) rfl (hb hby at_119) rfl (feq hc41).2 (by decide) (by decide) ?_
        show Steps p.tables e below (T13.setTop (mkF m 126 #[.val (.int u0), .val (.int u1), .val (.int u2), .val (.int u3), .val (.int lo1), .val (.int hi1), .val (.int lo2), .val (.int hi2), .val (.ref b5), .val (.int lo1), .val (.int lo2), .val (.int (1 : Int32)), .val (.int lo1), .val (.int (lo2 + (1 : Int32))), .val (.int (2 : Int32)), .val (.int (1 : Int32)), .unset, .unset, .unset, .unset, .unset] [])) tt
        refine XS.iconst X13.here hx rfl (hb hby at_126) ?_
        exact kk
    refine Goal.to (B := T13.setTop (mkF m 208 #[.val (.int u0), .val (.int u1), .val (.int u2), .val (.int u3), .val (.int lo1), .val (.int hi1), .val (.int lo2), .val (.int hi2), .val (.ref b5), .val (.int lo1), .val (.int lo2), .val (.int (1 : Int32)), .val (.int lo1), .val (.int (lo2 + (1 : Int32))), .val (.int (2 : Int32)), .val (.int (1 : Int32)), .val (.int w42), .unset, .unset, .unset, .unset] [(.ref b5)])) (fun tt kk => ?_) ?_
    · show Steps p.tables e below (T13.setTop (mkF m 127 #[.val (.int u0), .val (.int u1), .val (.int u2), .val (.int u3), .val (.int lo1), .val (.int hi1), .val (.int lo2), .val (.int hi2), .val (.ref b5), .val (.int lo1), .val (.int lo2), .val (.int (1 : Int32)), .val (.int lo1), .val (.int (lo2 + (1 : Int32))), .val (.int (2 : Int32)), .val (.int (1 : Int32)), .unset, .unset, .unset, .unset, .unset] [(.int w42)])) tt
      refine XS.istore X13.here hx rfl (hb hby at_127) rfl (l' := #[.val (.int u0), .val (.int u1), .val (.int u2), .val (.int u3), .val (.int lo1), .val (.int hi1), .val (.int lo2), .val (.int hi2), .val (.ref b5), .val (.int lo1), .val (.int lo2), .val (.int (1 : Int32)), .val (.int lo1), .val (.int (lo2 + (1 : Int32))), .val (.int (2 : Int32)), .val (.int (1 : Int32)), .val (.int w42), .unset, .unset, .unset, .unset]) rfl ?_
      show Steps p.tables e below (T13.setTop (mkF m 129 #[.val (.int u0), .val (.int u1), .val (.int u2), .val (.int u3), .val (.int lo1), .val (.int hi1), .val (.int lo2), .val (.int hi2), .val (.ref b5), .val (.int lo1), .val (.int lo2), .val (.int (1 : Int32)), .val (.int lo1), .val (.int (lo2 + (1 : Int32))), .val (.int (2 : Int32)), .val (.int (1 : Int32)), .val (.int w42), .unset, .unset, .unset, .unset] [])) tt
      refine XS.goto X13.here hx rfl (pc0 := 129) (pc' := 206) rfl (hb hby at_129) (by decide) (by decide) ?_
      show Steps p.tables e below (T13.setTop (mkF m 206 #[.val (.int u0), .val (.int u1), .val (.int u2), .val (.int u3), .val (.int lo1), .val (.int hi1), .val (.int lo2), .val (.int hi2), .val (.ref b5), .val (.int lo1), .val (.int lo2), .val (.int (1 : Int32)), .val (.int lo1), .val (.int (lo2 + (1 : Int32))), .val (.int (2 : Int32)), .val (.int (1 : Int32)), .val (.int w42), .unset, .unset, .unset, .unset] [])) tt
      refine XS.aload X13.here hx rfl (hb hby at_206) rfl rfl ?_
      exact kk
    have f43 : Exa Z T13.heap b5 "com/example/deferra/deferra/engine/Trail" := (f11.keep K13)
    have f44 : n0 ≤ T13.heap.size := (Nat.le_trans f12 K13.1)
    obtain ⟨cq45, kq45, q45a, q45b, q45c⟩ := isOf hZ rfl f43
    obtain ⟨_, _, ⟨T45, L45, k45, n45⟩, -, X45, ⟨Lc45, hQ45, l45, y45, z45⟩, st45⟩ := X13.virtualBack hx (y := (⟨"com/example/deferra/deferra/engine/Trail", "advance", "()Z"⟩ : MethodName)) (z := (⟨"com/example/deferra/deferra/engine/Trail", "advance", "()Z"⟩ : MethodName)) hown (mvT hZ (hw _ (mw 50 rfl))) (mvT hZ (hw _ (mw 51 rfl))) (notFace_of_selects (args := #[]) (mvT hZ (hw _ (mw 53 rfl)))) (mvT hZ (hw _ (mw 53 rfl))) (mvT hZ (hw _ (mw 52 rfl))) (by decide) (backOf (W := 0) (rmav2A l Z a0 hw [] b5 th_7 tv_7 hi1 hi2 lo1 lo2 T13.heap n0 f44 f43 P13_4 P13_7 P13_2 P13_1 P13_10 P13_12 P13_13 g_b5 g_tv_7 ne_b5_tv_7 ne_b5_th_7 ne7_th_tv (by assumption)) hZ (hw _ (mw 54 rfl)) (hw _ (mw 9 rfl)) (by decide) (by decide)) q45a q45c (g := (mkF m 208 #[.val (.int u0), .val (.int u1), .val (.int u2), .val (.int u3), .val (.int lo1), .val (.int hi1), .val (.int lo2), .val (.int hi2), .val (.ref b5), .val (.int lo1), .val (.int lo2), .val (.int (1 : Int32)), .val (.int lo1), .val (.int (lo2 + (1 : Int32))), .val (.int (2 : Int32)), .val (.int (1 : Int32)), .val (.int w42), .unset, .unset, .unset, .unset] [(.ref b5)])) rfl (by rw [hml]; rfl) (Steps.refl _) (argsL := []) (rest := []) (lenOf pd_4 rfl) rfl (by show 2 * 0 + _ ≤ _; exact Nat.le_of_eq rfl) (hb hby at_208) (fun _ _ => ⟨rfl, rfl, (by decide : 5 + 0 ≤ _), (by decide : 78 + 0 ≤ _)⟩)
    dsimp only [Pt.U, Pt.locs, Pt.cells, Pt.slots] at X45 l45 y45 z45 st45 hQ45
    subst l45 y45 z45
    obtain ⟨rfl, N45q, K45, P45_0, P45_1, P45_2, P45_3, P45_4, P45_5⟩ := hQ45
    have N45 := Fr.app N13 N45q
    refine Goal.tr (B := T45.setTop (mkF m 211 #[.val (.int u0), .val (.int u1), .val (.int u2), .val (.int u3), .val (.int lo1), .val (.int hi1), .val (.int lo2), .val (.int hi2), .val (.ref b5), .val (.int lo1), .val (.int lo2), .val (.int (1 : Int32)), .val (.int lo1), .val (.int (lo2 + (1 : Int32))), .val (.int (2 : Int32)), .val (.int (1 : Int32)), .val (.int w42), .unset, .unset, .unset, .unset] [(.int (1 : Int32))])) st45 ?_
    refine Goal.to (B := T45.setTop (mkF m 215 #[.val (.int u0), .val (.int u1), .val (.int u2), .val (.int u3), .val (.int lo1), .val (.int hi1), .val (.int lo2), .val (.int hi2), .val (.ref b5), .val (.int lo1), .val (.int lo2), .val (.int (1 : Int32)), .val (.int lo1), .val (.int (lo2 + (1 : Int32))), .val (.int (2 : Int32)), .val (.int (1 : Int32)), .val (.int w42), .val (.int (1 : Int32)), .unset, .unset, .unset] [(.ref b5)])) (fun tt kk => ?_) ?_
    · show Steps p.tables e below (T45.setTop (mkF m 211 #[.val (.int u0), .val (.int u1), .val (.int u2), .val (.int u3), .val (.int lo1), .val (.int hi1), .val (.int lo2), .val (.int hi2), .val (.ref b5), .val (.int lo1), .val (.int lo2), .val (.int (1 : Int32)), .val (.int lo1), .val (.int (lo2 + (1 : Int32))), .val (.int (2 : Int32)), .val (.int (1 : Int32)), .val (.int w42), .unset, .unset, .unset, .unset] [(.int (1 : Int32))])) tt
      refine XS.istore X45.here hx rfl (hb hby at_211) rfl (l' := #[.val (.int u0), .val (.int u1), .val (.int u2), .val (.int u3), .val (.int lo1), .val (.int hi1), .val (.int lo2), .val (.int hi2), .val (.ref b5), .val (.int lo1), .val (.int lo2), .val (.int (1 : Int32)), .val (.int lo1), .val (.int (lo2 + (1 : Int32))), .val (.int (2 : Int32)), .val (.int (1 : Int32)), .val (.int w42), .val (.int (1 : Int32)), .unset, .unset, .unset]) rfl ?_
      show Steps p.tables e below (T45.setTop (mkF m 213 #[.val (.int u0), .val (.int u1), .val (.int u2), .val (.int u3), .val (.int lo1), .val (.int hi1), .val (.int lo2), .val (.int hi2), .val (.ref b5), .val (.int lo1), .val (.int lo2), .val (.int (1 : Int32)), .val (.int lo1), .val (.int (lo2 + (1 : Int32))), .val (.int (2 : Int32)), .val (.int (1 : Int32)), .val (.int w42), .val (.int (1 : Int32)), .unset, .unset, .unset] [])) tt
      refine XS.aload X45.here hx rfl (hb hby at_213) rfl rfl ?_
      exact kk
    have f46 : Ary Z T45.heap th_7 .int [(.int hi1), (.int hi2), (.int (0 : Int32)), (.int (0 : Int32)), (.int (0 : Int32)), (.int (0 : Int32)), (.int (0 : Int32)), (.int (0 : Int32)), (.int (0 : Int32)), (.int (0 : Int32)), (.int (0 : Int32)), (.int (0 : Int32)), (.int (0 : Int32)), (.int (0 : Int32)), (.int (0 : Int32)), (.int (0 : Int32))] := (P13_12.keep K45 (ninS (Ne.symm ne_b5_th_7) (ninS ne7_th_tv nin0)))
    have f47 : n0 ≤ T45.heap.size := (Nat.le_trans f44 K45.1)
    have f49 : Exa Z T45.heap b5 "com/example/deferra/deferra/engine/Trail" := (f43.keep K45)
    obtain ⟨cq48, kq48, q48a, q48b, q48c⟩ := isOf hZ rfl f49
    obtain ⟨_, _, ⟨T48, L48, k48, n48⟩, -, X48, ⟨Lc48, hQ48, l48, y48, z48⟩, st48⟩ := X45.virtualBack hx (y := (⟨"com/example/deferra/deferra/engine/Trail", "changeIsLast", "()Z"⟩ : MethodName)) (z := (⟨"com/example/deferra/deferra/engine/Trail", "changeIsLast", "()Z"⟩ : MethodName)) hown (mvT hZ (hw _ (mw 61 rfl))) (mvT hZ (hw _ (mw 62 rfl))) (notFace_of_selects (args := #[]) (mvT hZ (hw _ (mw 64 rfl)))) (mvT hZ (hw _ (mw 64 rfl))) (mvT hZ (hw _ (mw 63 rfl))) (by decide) (backOf (W := 0) (rmcl2 l Z a0 hw [] b5 th_7 tv_7 hi1 hi2 lo1 (lo2 + (1 : Int32)) T45.heap n0 f47 P45_1 P45_2 P45_3 f46 P45_5) hZ (hw _ (mw 65 rfl)) (hw _ (mw 9 rfl)) (by decide) (by decide)) q48a q48c (g := (mkF m 215 #[.val (.int u0), .val (.int u1), .val (.int u2), .val (.int u3), .val (.int lo1), .val (.int hi1), .val (.int lo2), .val (.int hi2), .val (.ref b5), .val (.int lo1), .val (.int lo2), .val (.int (1 : Int32)), .val (.int lo1), .val (.int (lo2 + (1 : Int32))), .val (.int (2 : Int32)), .val (.int (1 : Int32)), .val (.int w42), .val (.int (1 : Int32)), .unset, .unset, .unset] [(.ref b5)])) rfl (by rw [hml]; rfl) (Steps.refl _) (argsL := []) (rest := []) (lenOf pd_4 rfl) rfl (by show 2 * 0 + _ ≤ _; exact Nat.le_of_eq rfl) (hb hby at_215) (fun _ _ => ⟨rfl, rfl, (by decide : 5 + 0 ≤ _), (by decide : 78 + 0 ≤ _)⟩)
    dsimp only [Pt.U, Pt.locs, Pt.cells, Pt.slots] at X48 l48 y48 z48 st48 hQ48
    subst l48 y48 z48
    obtain ⟨rfl, N48q, e48⟩ := hQ48
    have N48 := Fr.app N45 N48q
    refine Goal.tr (B := T48.setTop (mkF m 218 #[.val (.int u0), .val (.int u1), .val (.int u2), .val (.int u3), .val (.int lo1), .val (.int hi1), .val (.int lo2), .val (.int hi2), .val (.ref b5), .val (.int lo1), .val (.int lo2), .val (.int (1 : Int32)), .val (.int lo1), .val (.int (lo2 + (1 : Int32))), .val (.int (2 : Int32)), .val (.int (1 : Int32)), .val (.int w42), .val (.int (1 : Int32)), .unset, .unset, .unset] [(.int (if (lo2 + (1 : Int32)) = hi2 then (1 : Int32) else (0 : Int32)))])) st48 ?_
    refine Goal.to (B := T48.setTop (mkF m 256 #[.val (.int u0), .val (.int u1), .val (.int u2), .val (.int u3), .val (.int lo1), .val (.int hi1), .val (.int lo2), .val (.int hi2), .val (.ref b5), .val (.int lo1), .val (.int lo2), .val (.int (1 : Int32)), .val (.int lo1), .val (.int (lo2 + (1 : Int32))), .val (.int (2 : Int32)), .val (.int (1 : Int32)), .val (.int w42), .val (.int (1 : Int32)), .val (.int (if (lo2 + (1 : Int32)) = hi2 then (1 : Int32) else (0 : Int32))), .unset, .unset] [(.int hi2), (.int (lo2 + (1 : Int32)))])) (fun tt kk => ?_) ?_
    · show Steps p.tables e below (T48.setTop (mkF m 218 #[.val (.int u0), .val (.int u1), .val (.int u2), .val (.int u3), .val (.int lo1), .val (.int hi1), .val (.int lo2), .val (.int hi2), .val (.ref b5), .val (.int lo1), .val (.int lo2), .val (.int (1 : Int32)), .val (.int lo1), .val (.int (lo2 + (1 : Int32))), .val (.int (2 : Int32)), .val (.int (1 : Int32)), .val (.int w42), .val (.int (1 : Int32)), .unset, .unset, .unset] [(.int (if (lo2 + (1 : Int32)) = hi2 then (1 : Int32) else (0 : Int32)))])) tt
      refine XS.istore X48.here hx rfl (hb hby at_218) rfl (l' := #[.val (.int u0), .val (.int u1), .val (.int u2), .val (.int u3), .val (.int lo1), .val (.int hi1), .val (.int lo2), .val (.int hi2), .val (.ref b5), .val (.int lo1), .val (.int lo2), .val (.int (1 : Int32)), .val (.int lo1), .val (.int (lo2 + (1 : Int32))), .val (.int (2 : Int32)), .val (.int (1 : Int32)), .val (.int w42), .val (.int (1 : Int32)), .val (.int (if (lo2 + (1 : Int32)) = hi2 then (1 : Int32) else (0 : Int32))), .unset, .unset]) rfl ?_
      show Steps p.tables e below (T48.setTop (mkF m 220 #[.val (.int u0), .val (.int u1), .val (.int u2), .val (.int u3), .val (.int lo1), .val (.int hi1), .val (.int lo2), .val (.int hi2), .val (.ref b5), .val (.int lo1), .val (.int lo2), .val (.int (1 : Int32)), .val (.int lo1), .val (.int (lo2 + (1 : Int32))), .val (.int (2 : Int32)), .val (.int (1 : Int32)), .val (.int w42), .val (.int (1 : Int32)), .val (.int (if (lo2 + (1 : Int32)) = hi2 then (1 : Int32) else (0 : Int32))), .unset, .unset] [])) tt
      refine XS.iload X48.here hx rfl (hb hby at_220) rfl ?_
      show Steps p.tables e below (T48.setTop (mkF m 222 #[.val (.int u0), .val (.int u1), .val (.int u2), .val (.int u3), .val (.int lo1), .val (.int hi1), .val (.int lo2), .val (.int hi2), .val (.ref b5), .val (.int lo1), .val (.int lo2), .val (.int (1 : Int32)), .val (.int lo1), .val (.int (lo2 + (1 : Int32))), .val (.int (2 : Int32)), .val (.int (1 : Int32)), .val (.int w42), .val (.int (1 : Int32)), .val (.int (if (lo2 + (1 : Int32)) = hi2 then (1 : Int32) else (0 : Int32))), .unset, .unset] [(.int (1 : Int32))])) tt
      refine XS.ifNo X48.here hx rfl (hb hby at_222) rfl ((if0 _ _).trans (feq ((by decide) : ¬ ((1 : Int32) = (0 : Int32)))).1) ?_
      show Steps p.tables e below (T48.setTop (mkF m 225 #[.val (.int u0), .val (.int u1), .val (.int u2), .val (.int u3), .val (.int lo1), .val (.int hi1), .val (.int lo2), .val (.int hi2), .val (.ref b5), .val (.int lo1), .val (.int lo2), .val (.int (1 : Int32)), .val (.int lo1), .val (.int (lo2 + (1 : Int32))), .val (.int (2 : Int32)), .val (.int (1 : Int32)), .val (.int w42), .val (.int (1 : Int32)), .val (.int (if (lo2 + (1 : Int32)) = hi2 then (1 : Int32) else (0 : Int32))), .unset, .unset] [])) tt
      refine XS.iload X48.here hx rfl (hb hby at_225) rfl ?_
      show Steps p.tables e below (T48.setTop (mkF m 227 #[.val (.int u0), .val (.int u1), .val (.int u2), .val (.int u3), .val (.int lo1), .val (.int hi1), .val (.int lo2), .val (.int hi2), .val (.ref b5), .val (.int lo1), .val (.int lo2), .val (.int (1 : Int32)), .val (.int lo1), .val (.int (lo2 + (1 : Int32))), .val (.int (2 : Int32)), .val (.int (1 : Int32)), .val (.int w42), .val (.int (1 : Int32)), .val (.int (if (lo2 + (1 : Int32)) = hi2 then (1 : Int32) else (0 : Int32))), .unset, .unset] [(.int (1 : Int32))])) tt
      refine XS.iload X48.here hx rfl (hb hby at_227) rfl ?_
      show Steps p.tables e below (T48.setTop (mkF m 229 #[.val (.int u0), .val (.int u1), .val (.int u2), .val (.int u3), .val (.int lo1), .val (.int hi1), .val (.int lo2), .val (.int hi2), .val (.ref b5), .val (.int lo1), .val (.int lo2), .val (.int (1 : Int32)), .val (.int lo1), .val (.int (lo2 + (1 : Int32))), .val (.int (2 : Int32)), .val (.int (1 : Int32)), .val (.int w42), .val (.int (1 : Int32)), .val (.int (if (lo2 + (1 : Int32)) = hi2 then (1 : Int32) else (0 : Int32))), .unset, .unset] [(.int (1 : Int32)), (.int (1 : Int32))])) tt
      refine XS.icmpNo X48.here hx rfl (hb hby at_229) rfl (teq (rfl : (1 : Int32) = (1 : Int32))).2 ?_
      show Steps p.tables e below (T48.setTop (mkF m 232 #[.val (.int u0), .val (.int u1), .val (.int u2), .val (.int u3), .val (.int lo1), .val (.int hi1), .val (.int lo2), .val (.int hi2), .val (.ref b5), .val (.int lo1), .val (.int lo2), .val (.int (1 : Int32)), .val (.int lo1), .val (.int (lo2 + (1 : Int32))), .val (.int (2 : Int32)), .val (.int (1 : Int32)), .val (.int w42), .val (.int (1 : Int32)), .val (.int (if (lo2 + (1 : Int32)) = hi2 then (1 : Int32) else (0 : Int32))), .unset, .unset] [])) tt
      refine XS.iload X48.here hx rfl (hb hby at_232) rfl ?_
      show Steps p.tables e below (T48.setTop (mkF m 234 #[.val (.int u0), .val (.int u1), .val (.int u2), .val (.int u3), .val (.int lo1), .val (.int hi1), .val (.int lo2), .val (.int hi2), .val (.ref b5), .val (.int lo1), .val (.int lo2), .val (.int (1 : Int32)), .val (.int lo1), .val (.int (lo2 + (1 : Int32))), .val (.int (2 : Int32)), .val (.int (1 : Int32)), .val (.int w42), .val (.int (1 : Int32)), .val (.int (if (lo2 + (1 : Int32)) = hi2 then (1 : Int32) else (0 : Int32))), .unset, .unset] [(.int (if (lo2 + (1 : Int32)) = hi2 then (1 : Int32) else (0 : Int32)))])) tt
      refine XS.iload X48.here hx rfl (hb hby at_234) rfl ?_
      show Steps p.tables e below (T48.setTop (mkF m 236 #[.val (.int u0), .val (.int u1), .val (.int u2), .val (.int u3), .val (.int lo1), .val (.int hi1), .val (.int lo2), .val (.int hi2), .val (.ref b5), .val (.int lo1), .val (.int lo2), .val (.int (1 : Int32)), .val (.int lo1), .val (.int (lo2 + (1 : Int32))), .val (.int (2 : Int32)), .val (.int (1 : Int32)), .val (.int w42), .val (.int (1 : Int32)), .val (.int (if (lo2 + (1 : Int32)) = hi2 then (1 : Int32) else (0 : Int32))), .unset, .unset] [(.int w42), (.int (if (lo2 + (1 : Int32)) = hi2 then (1 : Int32) else (0 : Int32)))])) tt
      refine XS.icmpNo X48.here hx rfl (hb hby at_236) rfl (teq (hw42.symm : (if (lo2 + (1 : Int32)) = hi2 then (1 : Int32) else (0 : Int32)) = w42)).2 ?_
      show Steps p.tables e below (T48.setTop (mkF m 239 #[.val (.int u0), .val (.int u1), .val (.int u2), .val (.int u3), .val (.int lo1), .val (.int hi1), .val (.int lo2), .val (.int hi2), .val (.ref b5), .val (.int lo1), .val (.int lo2), .val (.int (1 : Int32)), .val (.int lo1), .val (.int (lo2 + (1 : Int32))), .val (.int (2 : Int32)), .val (.int (1 : Int32)), .val (.int w42), .val (.int (1 : Int32)), .val (.int (if (lo2 + (1 : Int32)) = hi2 then (1 : Int32) else (0 : Int32))), .unset, .unset] [])) tt
      refine XS.iconst X48.here hx rfl (hb hby at_239) ?_
      show Steps p.tables e below (T48.setTop (mkF m 240 #[.val (.int u0), .val (.int u1), .val (.int u2), .val (.int u3), .val (.int lo1), .val (.int hi1), .val (.int lo2), .val (.int hi2), .val (.ref b5), .val (.int lo1), .val (.int lo2), .val (.int (1 : Int32)), .val (.int lo1), .val (.int (lo2 + (1 : Int32))), .val (.int (2 : Int32)), .val (.int (1 : Int32)), .val (.int w42), .val (.int (1 : Int32)), .val (.int (if (lo2 + (1 : Int32)) = hi2 then (1 : Int32) else (0 : Int32))), .unset, .unset] [(.int (1 : Int32))])) tt
      refine XS.goto X48.here hx rfl (pc0 := 240) (pc' := 244) rfl (hb hby at_240) (by decide) (by decide) ?_
      show Steps p.tables e below (T48.setTop (mkF m 244 #[.val (.int u0), .val (.int u1), .val (.int u2), .val (.int u3), .val (.int lo1), .val (.int hi1), .val (.int lo2), .val (.int hi2), .val (.ref b5), .val (.int lo1), .val (.int lo2), .val (.int (1 : Int32)), .val (.int lo1), .val (.int (lo2 + (1 : Int32))), .val (.int (2 : Int32)), .val (.int (1 : Int32)), .val (.int w42), .val (.int (1 : Int32)), .val (.int (if (lo2 + (1 : Int32)) = hi2 then (1 : Int32) else (0 : Int32))), .unset, .unset] [(.int (1 : Int32))])) tt
      refine XS.istore X48.here hx rfl (hb hby at_244) rfl (l' := #[.val (.int u0), .val (.int u1), .val (.int u2), .val (.int u3), .val (.int lo1), .val (.int hi1), .val (.int lo2), .val (.int hi2), .val (.ref b5), .val (.int lo1), .val (.int lo2), .val (.int (1 : Int32)), .val (.int lo1), .val (.int (lo2 + (1 : Int32))), .val (.int (2 : Int32)), .val (.int (1 : Int32)), .val (.int w42), .val (.int (1 : Int32)), .val (.int (if (lo2 + (1 : Int32)) = hi2 then (1 : Int32) else (0 : Int32))), .unset, .unset]) rfl ?_
      show Steps p.tables e below (T48.setTop (mkF m 246 #[.val (.int u0), .val (.int u1), .val (.int u2), .val (.int u3), .val (.int lo1), .val (.int hi1), .val (.int lo2), .val (.int hi2), .val (.ref b5), .val (.int lo1), .val (.int lo2), .val (.int (1 : Int32)), .val (.int lo1), .val (.int (lo2 + (1 : Int32))), .val (.int (2 : Int32)), .val (.int (1 : Int32)), .val (.int w42), .val (.int (1 : Int32)), .val (.int (if (lo2 + (1 : Int32)) = hi2 then (1 : Int32) else (0 : Int32))), .unset, .unset] [])) tt
      refine XS.iload X48.here hx rfl (hb hby at_246) rfl ?_
      show Steps p.tables e below (T48.setTop (mkF m 248 #[.val (.int u0), .val (.int u1), .val (.int u2), .val (.int u3), .val (.int lo1), .val (.int hi1), .val (.int lo2), .val (.int hi2), .val (.ref b5), .val (.int lo1), .val (.int lo2), .val (.int (1 : Int32)), .val (.int lo1), .val (.int (lo2 + (1 : Int32))), .val (.int (2 : Int32)), .val (.int (1 : Int32)), .val (.int w42), .val (.int (1 : Int32)), .val (.int (if (lo2 + (1 : Int32)) = hi2 then (1 : Int32) else (0 : Int32))), .unset, .unset] [(.int (2 : Int32))])) tt
      refine XS.iconst X48.here hx rfl (hb hby at_248) ?_
      show Steps p.tables e below (T48.setTop (mkF m 249 #[.val (.int u0), .val (.int u1), .val (.int u2), .val (.int u3), .val (.int lo1), .val (.int hi1), .val (.int lo2), .val (.int hi2), .val (.ref b5), .val (.int lo1), .val (.int lo2), .val (.int (1 : Int32)), .val (.int lo1), .val (.int (lo2 + (1 : Int32))), .val (.int (2 : Int32)), .val (.int (1 : Int32)), .val (.int w42), .val (.int (1 : Int32)), .val (.int (if (lo2 + (1 : Int32)) = hi2 then (1 : Int32) else (0 : Int32))), .unset, .unset] [(.int (2 : Int32)), (.int (2 : Int32))])) tt
      refine XS.icmpNo X48.here hx rfl (hb hby at_249) rfl (teq (rfl : (2 : Int32) = (2 : Int32))).2 ?_
      show Steps p.tables e below (T48.setTop (mkF m 252 #[.val (.int u0), .val (.int u1), .val (.int u2), .val (.int u3), .val (.int lo1), .val (.int hi1), .val (.int lo2), .val (.int hi2), .val (.ref b5), .val (.int lo1), .val (.int lo2), .val (.int (1 : Int32)), .val (.int lo1), .val (.int (lo2 + (1 : Int32))), .val (.int (2 : Int32)), .val (.int (1 : Int32)), .val (.int w42), .val (.int (1 : Int32)), .val (.int (if (lo2 + (1 : Int32)) = hi2 then (1 : Int32) else (0 : Int32))), .unset, .unset] [])) tt
      refine XS.iload X48.here hx rfl (hb hby at_252) rfl ?_
      show Steps p.tables e below (T48.setTop (mkF m 254 #[.val (.int u0), .val (.int u1), .val (.int u2), .val (.int u3), .val (.int lo1), .val (.int hi1), .val (.int lo2), .val (.int hi2), .val (.ref b5), .val (.int lo1), .val (.int lo2), .val (.int (1 : Int32)), .val (.int lo1), .val (.int (lo2 + (1 : Int32))), .val (.int (2 : Int32)), .val (.int (1 : Int32)), .val (.int w42), .val (.int (1 : Int32)), .val (.int (if (lo2 + (1 : Int32)) = hi2 then (1 : Int32) else (0 : Int32))), .unset, .unset] [(.int (lo2 + (1 : Int32)))])) tt
      refine XS.iload X48.here hx rfl (hb hby at_254) rfl ?_
      exact kk
    by_cases hc50 : (lo2 + (1 : Int32)) = hi2
    · refine Goal.to (B := T48.setTop (mkF m 289 #[.val (.int u0), .val (.int u1), .val (.int u2), .val (.int u3), .val (.int lo1), .val (.int hi1), .val (.int lo2), .val (.int hi2), .val (.ref b5), .val (.int lo1), .val (.int lo2), .val (.int (1 : Int32)), .val (.int lo1), .val (.int (lo2 + (1 : Int32))), .val (.int (2 : Int32)), .val (.int (1 : Int32)), .val (.int w42), .val (.int (1 : Int32)), .val (.int (if (lo2 + (1 : Int32)) = hi2 then (1 : Int32) else (0 : Int32))), .unset, .unset] [(.int hi1), (.int lo1)])) (fun tt kk => ?_) ?_
      · show Steps p.tables e below (T48.setTop (mkF m 256 #[.val (.int u0), .val (.int u1), .val (.int u2), .val (.int u3), .val (.int lo1), .val (.int hi1), .val (.int lo2), .val (.int hi2), .val (.ref b5), .val (.int lo1), .val (.int lo2), .val (.int (1 : Int32)), .val (.int lo1), .val (.int (lo2 + (1 : Int32))), .val (.int (2 : Int32)), .val (.int (1 : Int32)), .val (.int w42), .val (.int (1 : Int32)), .val (.int (if (lo2 + (1 : Int32)) = hi2 then (1 : Int32) else (0 : Int32))), .unset, .unset] [(.int hi2), (.int (lo2 + (1 : Int32)))])) tt
        refine XS.icmpYes X48.here hx rfl (pc0 := 256) (pc' := 285) rfl (hb hby at_256) rfl (teq hc50).1 (by decide) (by decide) ?_
        show Steps p.tables e below (T48.setTop (mkF m 285 #[.val (.int u0), .val (.int u1), .val (.int u2), .val (.int u3), .val (.int lo1), .val (.int hi1), .val (.int lo2), .val (.int hi2), .val (.ref b5), .val (.int lo1), .val (.int lo2), .val (.int (1 : Int32)), .val (.int lo1), .val (.int (lo2 + (1 : Int32))), .val (.int (2 : Int32)), .val (.int (1 : Int32)), .val (.int w42), .val (.int (1 : Int32)), .val (.int (if (lo2 + (1 : Int32)) = hi2 then (1 : Int32) else (0 : Int32))), .unset, .unset] [])) tt
        refine XS.iload X48.here hx rfl (hb hby at_285) rfl ?_
        show Steps p.tables e below (T48.setTop (mkF m 287 #[.val (.int u0), .val (.int u1), .val (.int u2), .val (.int u3), .val (.int lo1), .val (.int hi1), .val (.int lo2), .val (.int hi2), .val (.ref b5), .val (.int lo1), .val (.int lo2), .val (.int (1 : Int32)), .val (.int lo1), .val (.int (lo2 + (1 : Int32))), .val (.int (2 : Int32)), .val (.int (1 : Int32)), .val (.int w42), .val (.int (1 : Int32)), .val (.int (if (lo2 + (1 : Int32)) = hi2 then (1 : Int32) else (0 : Int32))), .unset, .unset] [(.int lo1)])) tt
        refine XS.iload X48.here hx rfl (hb hby at_287) rfl ?_
        exact kk
      by_cases hc51 : lo1 = hi1
      · refine Goal.to (B := T48.setTop (mkF m 361 #[.val (.int u0), .val (.int u1), .val (.int u2), .val (.int u3), .val (.int lo1), .val (.int hi1), .val (.int lo2), .val (.int hi2), .val (.ref b5), .val (.int lo1), .val (.int lo2), .val (.int (1 : Int32)), .val (.int lo1), .val (.int (lo2 + (1 : Int32))), .val (.int (2 : Int32)), .val (.int (0 : Int32)), .val (.int (1 : Int32)), .val (.int (1 : Int32)), .val (.int (if (lo2 + (1 : Int32)) = hi2 then (1 : Int32) else (0 : Int32))), .unset, .unset] [(.ref b5)])) (fun tt kk => ?_) ?_
        · show Steps p.tables e below (T48.setTop (mkF m 289 #[.val (.int u0), .val (.int u1), .val (.int u2), .val (.int u3), .val (.int lo1), .val (.int hi1), .val (.int lo2), .val (.int hi2), .val (.ref b5), .val (.int lo1), .val (.int lo2), .val (.int (1 : Int32)), .val (.int lo1), .val (.int (lo2 + (1 : Int32))), .val (.int (2 : Int32)), .val (.int (1 : Int32)), .val (.int w42), .val (.int (1 : Int32)), .val (.int (if (lo2 + (1 : Int32)) = hi2 then (1 : Int32) else (0 : Int32))), .unset, .unset] [(.int hi1), (.int lo1)])) tt
          refine XS.icmpYes X48.here hx rfl (pc0 := 289) (pc' := 321) rfl (hb hby at_289) rfl (teq hc51).1 (by decide) (by decide) ?_
          show Steps p.tables e below (T48.setTop (mkF m 321 #[.val (.int u0), .val (.int u1), .val (.int u2), .val (.int u3), .val (.int lo1), .val (.int hi1), .val (.int lo2), .val (.int hi2), .val (.ref b5), .val (.int lo1), .val (.int lo2), .val (.int (1 : Int32)), .val (.int lo1), .val (.int (lo2 + (1 : Int32))), .val (.int (2 : Int32)), .val (.int (1 : Int32)), .val (.int w42), .val (.int (1 : Int32)), .val (.int (if (lo2 + (1 : Int32)) = hi2 then (1 : Int32) else (0 : Int32))), .unset, .unset] [])) tt
          refine XS.iconst X48.here hx rfl (hb hby at_321) ?_
          show Steps p.tables e below (T48.setTop (mkF m 322 #[.val (.int u0), .val (.int u1), .val (.int u2), .val (.int u3), .val (.int lo1), .val (.int hi1), .val (.int lo2), .val (.int hi2), .val (.ref b5), .val (.int lo1), .val (.int lo2), .val (.int (1 : Int32)), .val (.int lo1), .val (.int (lo2 + (1 : Int32))), .val (.int (2 : Int32)), .val (.int (1 : Int32)), .val (.int w42), .val (.int (1 : Int32)), .val (.int (if (lo2 + (1 : Int32)) = hi2 then (1 : Int32) else (0 : Int32))), .unset, .unset] [(.int (0 : Int32))])) tt
          refine XS.istore X48.here hx rfl (hb hby at_322) rfl (l' := #[.val (.int u0), .val (.int u1), .val (.int u2), .val (.int u3), .val (.int lo1), .val (.int hi1), .val (.int lo2), .val (.int hi2), .val (.ref b5), .val (.int lo1), .val (.int lo2), .val (.int (1 : Int32)), .val (.int lo1), .val (.int (lo2 + (1 : Int32))), .val (.int (2 : Int32)), .val (.int (0 : Int32)), .val (.int w42), .val (.int (1 : Int32)), .val (.int (if (lo2 + (1 : Int32)) = hi2 then (1 : Int32) else (0 : Int32))), .unset, .unset]) rfl ?_
          show Steps p.tables e below (T48.setTop (mkF m 324 #[.val (.int u0), .val (.int u1), .val (.int u2), .val (.int u3), .val (.int lo1), .val (.int hi1), .val (.int lo2), .val (.int hi2), .val (.ref b5), .val (.int lo1), .val (.int lo2), .val (.int (1 : Int32)), .val (.int lo1), .val (.int (lo2 + (1 : Int32))), .val (.int (2 : Int32)), .val (.int (0 : Int32)), .val (.int w42), .val (.int (1 : Int32)), .val (.int (if (lo2 + (1 : Int32)) = hi2 then (1 : Int32) else (0 : Int32))), .unset, .unset] [])) tt
          refine XS.iload X48.here hx rfl (hb hby at_324) rfl ?_
          show Steps p.tables e below (T48.setTop (mkF m 326 #[.val (.int u0), .val (.int u1), .val (.int u2), .val (.int u3), .val (.int lo1), .val (.int hi1), .val (.int lo2), .val (.int hi2), .val (.ref b5), .val (.int lo1), .val (.int lo2), .val (.int (1 : Int32)), .val (.int lo1), .val (.int (lo2 + (1 : Int32))), .val (.int (2 : Int32)), .val (.int (0 : Int32)), .val (.int w42), .val (.int (1 : Int32)), .val (.int (if (lo2 + (1 : Int32)) = hi2 then (1 : Int32) else (0 : Int32))), .unset, .unset] [(.int (2 : Int32))])) tt
          refine XS.iconst X48.here hx rfl (hb hby at_326) ?_
          show Steps p.tables e below (T48.setTop (mkF m 327 #[.val (.int u0), .val (.int u1), .val (.int u2), .val (.int u3), .val (.int lo1), .val (.int hi1), .val (.int lo2), .val (.int hi2), .val (.ref b5), .val (.int lo1), .val (.int lo2), .val (.int (1 : Int32)), .val (.int lo1), .val (.int (lo2 + (1 : Int32))), .val (.int (2 : Int32)), .val (.int (0 : Int32)), .val (.int w42), .val (.int (1 : Int32)), .val (.int (if (lo2 + (1 : Int32)) = hi2 then (1 : Int32) else (0 : Int32))), .unset, .unset] [(.int (2 : Int32)), (.int (2 : Int32))])) tt
          refine XS.icmpNo X48.here hx rfl (hb hby at_327) rfl (teq (rfl : (2 : Int32) = (2 : Int32))).2 ?_
          show Steps p.tables e below (T48.setTop (mkF m 330 #[.val (.int u0), .val (.int u1), .val (.int u2), .val (.int u3), .val (.int lo1), .val (.int hi1), .val (.int lo2), .val (.int hi2), .val (.ref b5), .val (.int lo1), .val (.int lo2), .val (.int (1 : Int32)), .val (.int lo1), .val (.int (lo2 + (1 : Int32))), .val (.int (2 : Int32)), .val (.int (0 : Int32)), .val (.int w42), .val (.int (1 : Int32)), .val (.int (if (lo2 + (1 : Int32)) = hi2 then (1 : Int32) else (0 : Int32))), .unset, .unset] [])) tt
          refine XS.iload X48.here hx rfl (hb hby at_330) rfl ?_
          show Steps p.tables e below (T48.setTop (mkF m 332 #[.val (.int u0), .val (.int u1), .val (.int u2), .val (.int u3), .val (.int lo1), .val (.int hi1), .val (.int lo2), .val (.int hi2), .val (.ref b5), .val (.int lo1), .val (.int lo2), .val (.int (1 : Int32)), .val (.int lo1), .val (.int (lo2 + (1 : Int32))), .val (.int (2 : Int32)), .val (.int (0 : Int32)), .val (.int w42), .val (.int (1 : Int32)), .val (.int (if (lo2 + (1 : Int32)) = hi2 then (1 : Int32) else (0 : Int32))), .unset, .unset] [(.int (lo2 + (1 : Int32)))])) tt
          refine XS.iload X48.here hx rfl (hb hby at_332) rfl ?_
          show Steps p.tables e below (T48.setTop (mkF m 334 #[.val (.int u0), .val (.int u1), .val (.int u2), .val (.int u3), .val (.int lo1), .val (.int hi1), .val (.int lo2), .val (.int hi2), .val (.ref b5), .val (.int lo1), .val (.int lo2), .val (.int (1 : Int32)), .val (.int lo1), .val (.int (lo2 + (1 : Int32))), .val (.int (2 : Int32)), .val (.int (0 : Int32)), .val (.int w42), .val (.int (1 : Int32)), .val (.int (if (lo2 + (1 : Int32)) = hi2 then (1 : Int32) else (0 : Int32))), .unset, .unset] [(.int hi2), (.int (lo2 + (1 : Int32)))])) tt
          refine XS.icmpNo X48.here hx rfl (hb hby at_334) rfl (teq hc50).2 ?_
          show Steps p.tables e below (T48.setTop (mkF m 337 #[.val (.int u0), .val (.int u1), .val (.int u2), .val (.int u3), .val (.int lo1), .val (.int hi1), .val (.int lo2), .val (.int hi2), .val (.ref b5), .val (.int lo1), .val (.int lo2), .val (.int (1 : Int32)), .val (.int lo1), .val (.int (lo2 + (1 : Int32))), .val (.int (2 : Int32)), .val (.int (0 : Int32)), .val (.int w42), .val (.int (1 : Int32)), .val (.int (if (lo2 + (1 : Int32)) = hi2 then (1 : Int32) else (0 : Int32))), .unset, .unset] [])) tt
          refine XS.iconst X48.here hx rfl (hb hby at_337) ?_
          show Steps p.tables e below (T48.setTop (mkF m 338 #[.val (.int u0), .val (.int u1), .val (.int u2), .val (.int u3), .val (.int lo1), .val (.int hi1), .val (.int lo2), .val (.int hi2), .val (.ref b5), .val (.int lo1), .val (.int lo2), .val (.int (1 : Int32)), .val (.int lo1), .val (.int (lo2 + (1 : Int32))), .val (.int (2 : Int32)), .val (.int (0 : Int32)), .val (.int w42), .val (.int (1 : Int32)), .val (.int (if (lo2 + (1 : Int32)) = hi2 then (1 : Int32) else (0 : Int32))), .unset, .unset] [(.int (1 : Int32))])) tt
          refine XS.goto X48.here hx rfl (pc0 := 338) (pc' := 357) rfl (hb hby at_338) (by decide) (by decide) ?_
          show Steps p.tables e below (T48.setTop (mkF m 357 #[.val (.int u0), .val (.int u1), .val (.int u2), .val (.int u3), .val (.int lo1), .val (.int hi1), .val (.int lo2), .val (.int hi2), .val (.ref b5), .val (.int lo1), .val (.int lo2), .val (.int (1 : Int32)), .val (.int lo1), .val (.int (lo2 + (1 : Int32))), .val (.int (2 : Int32)), .val (.int (0 : Int32)), .val (.int w42), .val (.int (1 : Int32)), .val (.int (if (lo2 + (1 : Int32)) = hi2 then (1 : Int32) else (0 : Int32))), .unset, .unset] [(.int (1 : Int32))])) tt
          refine XS.istore X48.here hx rfl (hb hby at_357) rfl (l' := #[.val (.int u0), .val (.int u1), .val (.int u2), .val (.int u3), .val (.int lo1), .val (.int hi1), .val (.int lo2), .val (.int hi2), .val (.ref b5), .val (.int lo1), .val (.int lo2), .val (.int (1 : Int32)), .val (.int lo1), .val (.int (lo2 + (1 : Int32))), .val (.int (2 : Int32)), .val (.int (0 : Int32)), .val (.int (1 : Int32)), .val (.int (1 : Int32)), .val (.int (if (lo2 + (1 : Int32)) = hi2 then (1 : Int32) else (0 : Int32))), .unset, .unset]) rfl ?_
          show Steps p.tables e below (T48.setTop (mkF m 359 #[.val (.int u0), .val (.int u1), .val (.int u2), .val (.int u3), .val (.int lo1), .val (.int hi1), .val (.int lo2), .val (.int hi2), .val (.ref b5), .val (.int lo1), .val (.int lo2), .val (.int (1 : Int32)), .val (.int lo1), .val (.int (lo2 + (1 : Int32))), .val (.int (2 : Int32)), .val (.int (0 : Int32)), .val (.int (1 : Int32)), .val (.int (1 : Int32)), .val (.int (if (lo2 + (1 : Int32)) = hi2 then (1 : Int32) else (0 : Int32))), .unset, .unset] [])) tt
          refine XS.aload X48.here hx rfl (hb hby at_359) rfl rfl ?_
          exact kk
        obtain ⟨cq52, kq52, q52a, q52b, q52c⟩ := isOf hZ e48 f49
        obtain ⟨_, _, ⟨T52, L52, k52, n52⟩, -, X52, ⟨Lc52, hQ52, l52, y52, z52⟩, st52⟩ := X48.virtualBack hx (y := (⟨"com/example/deferra/deferra/engine/Trail", "advance", "()Z"⟩ : MethodName)) (z := (⟨"com/example/deferra/deferra/engine/Trail", "advance", "()Z"⟩ : MethodName)) hown (mvT hZ (hw _ (mw 50 rfl))) (mvT hZ (hw _ (mw 51 rfl))) (notFace_of_selects (args := #[]) (mvT hZ (hw _ (mw 53 rfl)))) (mvT hZ (hw _ (mw 53 rfl))) (mvT hZ (hw _ (mw 52 rfl))) (by decide) (backOf (W := 0) (rmav2C l Z a0 hw [] b5 th_7 tv_7 hi1 hi2 lo1 (lo2 + (1 : Int32)) T45.heap n0 f47 f49 P45_0 P45_1 P45_2 P45_3 P45_4 f46 P45_5 g_b5 g_tv_7 ne_b5_tv_7 ne_b5_th_7 ne7_th_tv (by assumption) (by assumption)) hZ (hw _ (mw 54 rfl)) (hw _ (mw 9 rfl)) (by decide) (by decide)) q52a q52c (g := (mkF m 361 #[.val (.int u0), .val (.int u1), .val (.int u2), .val (.int u3), .val (.int lo1), .val (.int hi1), .val (.int lo2), .val (.int hi2), .val (.ref b5), .val (.int lo1), .val (.int lo2), .val (.int (1 : Int32)), .val (.int lo1), .val (.int (lo2 + (1 : Int32))), .val (.int (2 : Int32)), .val (.int (0 : Int32)), .val (.int (1 : Int32)), .val (.int (1 : Int32)), .val (.int (if (lo2 + (1 : Int32)) = hi2 then (1 : Int32) else (0 : Int32))), .unset, .unset] [(.ref b5)])) rfl (by rw [hml]; rfl) (Steps.refl _) (argsL := []) (rest := []) (lenOf pd_4 rfl) rfl (by show 2 * 0 + _ ≤ _; exact Nat.le_of_eq rfl) (hb hby at_361) (fun _ _ => ⟨rfl, e48, (by decide : 5 + 0 ≤ _), (by decide : 78 + 0 ≤ _)⟩)
        dsimp only [Pt.U, Pt.locs, Pt.cells, Pt.slots] at X52 l52 y52 z52 st52 hQ52
        subst l52 y52 z52
        obtain ⟨rfl, N52q, e52⟩ := hQ52
        have N52 := Fr.app N48 N52q
        refine Goal.tr (B := T52.setTop (mkF m 364 #[.val (.int u0), .val (.int u1), .val (.int u2), .val (.int u3), .val (.int lo1), .val (.int hi1), .val (.int lo2), .val (.int hi2), .val (.ref b5), .val (.int lo1), .val (.int lo2), .val (.int (1 : Int32)), .val (.int lo1), .val (.int (lo2 + (1 : Int32))), .val (.int (2 : Int32)), .val (.int (0 : Int32)), .val (.int (1 : Int32)), .val (.int (1 : Int32)), .val (.int (if (lo2 + (1 : Int32)) = hi2 then (1 : Int32) else (0 : Int32))), .unset, .unset] [(.int (0 : Int32))])) st52 ?_
        refine Goal.to (B := T52.setTop (mkF m 368 #[.val (.int u0), .val (.int u1), .val (.int u2), .val (.int u3), .val (.int lo1), .val (.int hi1), .val (.int lo2), .val (.int hi2), .val (.ref b5), .val (.int lo1), .val (.int lo2), .val (.int (1 : Int32)), .val (.int lo1), .val (.int (lo2 + (1 : Int32))), .val (.int (2 : Int32)), .val (.int (0 : Int32)), .val (.int (1 : Int32)), .val (.int (1 : Int32)), .val (.int (if (lo2 + (1 : Int32)) = hi2 then (1 : Int32) else (0 : Int32))), .val (.int (0 : Int32)), .unset] [(.ref b5)])) (fun tt kk => ?_) ?_
        · show Steps p.tables e below (T52.setTop (mkF m 364 #[.val (.int u0), .val (.int u1), .val (.int u2), .val (.int u3), .val (.int lo1), .val (.int hi1), .val (.int lo2), .val (.int hi2), .val (.ref b5), .val (.int lo1), .val (.int lo2), .val (.int (1 : Int32)), .val (.int lo1), .val (.int (lo2 + (1 : Int32))), .val (.int (2 : Int32)), .val (.int (0 : Int32)), .val (.int (1 : Int32)), .val (.int (1 : Int32)), .val (.int (if (lo2 + (1 : Int32)) = hi2 then (1 : Int32) else (0 : Int32))), .unset, .unset] [(.int (0 : Int32))])) tt
          refine XS.istore X52.here hx rfl (hb hby at_364) rfl (l' := #[.val (.int u0), .val (.int u1), .val (.int u2), .val (.int u3), .val (.int lo1), .val (.int hi1), .val (.int lo2), .val (.int hi2), .val (.ref b5), .val (.int lo1), .val (.int lo2), .val (.int (1 : Int32)), .val (.int lo1), .val (.int (lo2 + (1 : Int32))), .val (.int (2 : Int32)), .val (.int (0 : Int32)), .val (.int (1 : Int32)), .val (.int (1 : Int32)), .val (.int (if (lo2 + (1 : Int32)) = hi2 then (1 : Int32) else (0 : Int32))), .val (.int (0 : Int32)), .unset]) rfl ?_
          show Steps p.tables e below (T52.setTop (mkF m 366 #[.val (.int u0), .val (.int u1), .val (.int u2), .val (.int u3), .val (.int lo1), .val (.int hi1), .val (.int lo2), .val (.int hi2), .val (.ref b5), .val (.int lo1), .val (.int lo2), .val (.int (1 : Int32)), .val (.int lo1), .val (.int (lo2 + (1 : Int32))), .val (.int (2 : Int32)), .val (.int (0 : Int32)), .val (.int (1 : Int32)), .val (.int (1 : Int32)), .val (.int (if (lo2 + (1 : Int32)) = hi2 then (1 : Int32) else (0 : Int32))), .val (.int (0 : Int32)), .unset] [])) tt
          refine XS.aload X52.here hx rfl (hb hby at_366) rfl rfl ?_
          exact kk
        obtain ⟨cq53, kq53, q53a, q53b, q53c⟩ := isOf hZ e52 f49
        obtain ⟨_, _, ⟨T53, L53, k53, n53⟩, -, X53, ⟨Lc53, hQ53, l53, y53, z53⟩, st53⟩ := X52.virtualBack hx (y := (⟨"com/example/deferra/deferra/engine/Trail", "changeIsLast", "()Z"⟩ : MethodName)) (z := (⟨"com/example/deferra/deferra/engine/Trail", "changeIsLast", "()Z"⟩ : MethodName)) hown (mvT hZ (hw _ (mw 61 rfl))) (mvT hZ (hw _ (mw 62 rfl))) (notFace_of_selects (args := #[]) (mvT hZ (hw _ (mw 64 rfl)))) (mvT hZ (hw _ (mw 64 rfl))) (mvT hZ (hw _ (mw 63 rfl))) (by decide) (backOf (W := 0) (rmcl2 l Z a0 hw [] b5 th_7 tv_7 hi1 hi2 lo1 (lo2 + (1 : Int32)) T45.heap n0 f47 P45_1 P45_2 P45_3 f46 P45_5) hZ (hw _ (mw 65 rfl)) (hw _ (mw 9 rfl)) (by decide) (by decide)) q53a q53c (g := (mkF m 368 #[.val (.int u0), .val (.int u1), .val (.int u2), .val (.int u3), .val (.int lo1), .val (.int hi1), .val (.int lo2), .val (.int hi2), .val (.ref b5), .val (.int lo1), .val (.int lo2), .val (.int (1 : Int32)), .val (.int lo1), .val (.int (lo2 + (1 : Int32))), .val (.int (2 : Int32)), .val (.int (0 : Int32)), .val (.int (1 : Int32)), .val (.int (1 : Int32)), .val (.int (if (lo2 + (1 : Int32)) = hi2 then (1 : Int32) else (0 : Int32))), .val (.int (0 : Int32)), .unset] [(.ref b5)])) rfl (by rw [hml]; rfl) (Steps.refl _) (argsL := []) (rest := []) (lenOf pd_4 rfl) rfl (by show 2 * 0 + _ ≤ _; exact Nat.le_of_eq rfl) (hb hby at_368) (fun _ _ => ⟨rfl, e52, (by decide : 5 + 0 ≤ _), (by decide : 78 + 0 ≤ _)⟩)
        dsimp only [Pt.U, Pt.locs, Pt.cells, Pt.slots] at X53 l53 y53 z53 st53 hQ53
        subst l53 y53 z53
        obtain ⟨rfl, N53q, e53⟩ := hQ53
        have N53 := Fr.app N52 N53q
        refine Goal.tr (B := T53.setTop (mkF m 371 #[.val (.int u0), .val (.int u1), .val (.int u2), .val (.int u3), .val (.int lo1), .val (.int hi1), .val (.int lo2), .val (.int hi2), .val (.ref b5), .val (.int lo1), .val (.int lo2), .val (.int (1 : Int32)), .val (.int lo1), .val (.int (lo2 + (1 : Int32))), .val (.int (2 : Int32)), .val (.int (0 : Int32)), .val (.int (1 : Int32)), .val (.int (1 : Int32)), .val (.int (if (lo2 + (1 : Int32)) = hi2 then (1 : Int32) else (0 : Int32))), .val (.int (0 : Int32)), .unset] [(.int (if (lo2 + (1 : Int32)) = hi2 then (1 : Int32) else (0 : Int32)))])) st53 ?_
        refine Goal.to (B := T53.setTop (mkF m 401 #[.val (.int u0), .val (.int u1), .val (.int u2), .val (.int u3), .val (.int lo1), .val (.int hi1), .val (.int lo2), .val (.int hi2), .val (.ref b5), .val (.int lo1), .val (.int lo2), .val (.int (1 : Int32)), .val (.int lo1), .val (.int (lo2 + (1 : Int32))), .val (.int (2 : Int32)), .val (.int (0 : Int32)), .val (.int (1 : Int32)), .val (.int (1 : Int32)), .val (.int (if (lo2 + (1 : Int32)) = hi2 then (1 : Int32) else (0 : Int32))), .val (.int (0 : Int32)), .val (.int (if (lo2 + (1 : Int32)) = hi2 then (1 : Int32) else (0 : Int32)))] [(.int (1 : Int32))])) (fun tt kk => ?_) ?_
        · show Steps p.tables e below (T53.setTop (mkF m 371 #[.val (.int u0), .val (.int u1), .val (.int u2), .val (.int u3), .val (.int lo1), .val (.int hi1), .val (.int lo2), .val (.int hi2), .val (.ref b5), .val (.int lo1), .val (.int lo2), .val (.int (1 : Int32)), .val (.int lo1), .val (.int (lo2 + (1 : Int32))), .val (.int (2 : Int32)), .val (.int (0 : Int32)), .val (.int (1 : Int32)), .val (.int (1 : Int32)), .val (.int (if (lo2 + (1 : Int32)) = hi2 then (1 : Int32) else (0 : Int32))), .val (.int (0 : Int32)), .unset] [(.int (if (lo2 + (1 : Int32)) = hi2 then (1 : Int32) else (0 : Int32)))])) tt
          refine XS.istore X53.here hx rfl (hb hby at_371) rfl (l' := #[.val (.int u0), .val (.int u1), .val (.int u2), .val (.int u3), .val (.int lo1), .val (.int hi1), .val (.int lo2), .val (.int hi2), .val (.ref b5), .val (.int lo1), .val (.int lo2), .val (.int (1 : Int32)), .val (.int lo1), .val (.int (lo2 + (1 : Int32))), .val (.int (2 : Int32)), .val (.int (0 : Int32)), .val (.int (1 : Int32)), .val (.int (1 : Int32)), .val (.int (if (lo2 + (1 : Int32)) = hi2 then (1 : Int32) else (0 : Int32))), .val (.int (0 : Int32)), .val (.int (if (lo2 + (1 : Int32)) = hi2 then (1 : Int32) else (0 : Int32)))]) rfl ?_
          show Steps p.tables e below (T53.setTop (mkF m 373 #[.val (.int u0), .val (.int u1), .val (.int u2), .val (.int u3), .val (.int lo1), .val (.int hi1), .val (.int lo2), .val (.int hi2), .val (.ref b5), .val (.int lo1), .val (.int lo2), .val (.int (1 : Int32)), .val (.int lo1), .val (.int (lo2 + (1 : Int32))), .val (.int (2 : Int32)), .val (.int (0 : Int32)), .val (.int (1 : Int32)), .val (.int (1 : Int32)), .val (.int (if (lo2 + (1 : Int32)) = hi2 then (1 : Int32) else (0 : Int32))), .val (.int (0 : Int32)), .val (.int (if (lo2 + (1 : Int32)) = hi2 then (1 : Int32) else (0 : Int32)))] [])) tt
          refine XS.iload X53.here hx rfl (hb hby at_373) rfl ?_
          show Steps p.tables e below (T53.setTop (mkF m 375 #[.val (.int u0), .val (.int u1), .val (.int u2), .val (.int u3), .val (.int lo1), .val (.int hi1), .val (.int lo2), .val (.int hi2), .val (.ref b5), .val (.int lo1), .val (.int lo2), .val (.int (1 : Int32)), .val (.int lo1), .val (.int (lo2 + (1 : Int32))), .val (.int (2 : Int32)), .val (.int (0 : Int32)), .val (.int (1 : Int32)), .val (.int (1 : Int32)), .val (.int (if (lo2 + (1 : Int32)) = hi2 then (1 : Int32) else (0 : Int32))), .val (.int (0 : Int32)), .val (.int (if (lo2 + (1 : Int32)) = hi2 then (1 : Int32) else (0 : Int32)))] [(.int (1 : Int32))])) tt
          refine XS.ifNo X53.here hx rfl (hb hby at_375) rfl ((if0 _ _).trans (feq ((by decide) : ¬ ((1 : Int32) = (0 : Int32)))).1) ?_
          show Steps p.tables e below (T53.setTop (mkF m 378 #[.val (.int u0), .val (.int u1), .val (.int u2), .val (.int u3), .val (.int lo1), .val (.int hi1), .val (.int lo2), .val (.int hi2), .val (.ref b5), .val (.int lo1), .val (.int lo2), .val (.int (1 : Int32)), .val (.int lo1), .val (.int (lo2 + (1 : Int32))), .val (.int (2 : Int32)), .val (.int (0 : Int32)), .val (.int (1 : Int32)), .val (.int (1 : Int32)), .val (.int (if (lo2 + (1 : Int32)) = hi2 then (1 : Int32) else (0 : Int32))), .val (.int (0 : Int32)), .val (.int (if (lo2 + (1 : Int32)) = hi2 then (1 : Int32) else (0 : Int32)))] [])) tt
          refine XS.iload X53.here hx rfl (hb hby at_378) rfl ?_
          show Steps p.tables e below (T53.setTop (mkF m 380 #[.val (.int u0), .val (.int u1), .val (.int u2), .val (.int u3), .val (.int lo1), .val (.int hi1), .val (.int lo2), .val (.int hi2), .val (.ref b5), .val (.int lo1), .val (.int lo2), .val (.int (1 : Int32)), .val (.int lo1), .val (.int (lo2 + (1 : Int32))), .val (.int (2 : Int32)), .val (.int (0 : Int32)), .val (.int (1 : Int32)), .val (.int (1 : Int32)), .val (.int (if (lo2 + (1 : Int32)) = hi2 then (1 : Int32) else (0 : Int32))), .val (.int (0 : Int32)), .val (.int (if (lo2 + (1 : Int32)) = hi2 then (1 : Int32) else (0 : Int32)))] [(.int (0 : Int32))])) tt
          refine XS.iload X53.here hx rfl (hb hby at_380) rfl ?_
          show Steps p.tables e below (T53.setTop (mkF m 382 #[.val (.int u0), .val (.int u1), .val (.int u2), .val (.int u3), .val (.int lo1), .val (.int hi1), .val (.int lo2), .val (.int hi2), .val (.ref b5), .val (.int lo1), .val (.int lo2), .val (.int (1 : Int32)), .val (.int lo1), .val (.int (lo2 + (1 : Int32))), .val (.int (2 : Int32)), .val (.int (0 : Int32)), .val (.int (1 : Int32)), .val (.int (1 : Int32)), .val (.int (if (lo2 + (1 : Int32)) = hi2 then (1 : Int32) else (0 : Int32))), .val (.int (0 : Int32)), .val (.int (if (lo2 + (1 : Int32)) = hi2 then (1 : Int32) else (0 : Int32)))] [(.int (0 : Int32)), (.int (0 : Int32))])) tt
          refine XS.icmpNo X53.here hx rfl (hb hby at_382) rfl (teq (rfl : (0 : Int32) = (0 : Int32))).2 ?_
          show Steps p.tables e below (T53.setTop (mkF m 385 #[.val (.int u0), .val (.int u1), .val (.int u2), .val (.int u3), .val (.int lo1), .val (.int hi1), .val (.int lo2), .val (.int hi2), .val (.ref b5), .val (.int lo1), .val (.int lo2), .val (.int (1 : Int32)), .val (.int lo1), .val (.int (lo2 + (1 : Int32))), .val (.int (2 : Int32)), .val (.int (0 : Int32)), .val (.int (1 : Int32)), .val (.int (1 : Int32)), .val (.int (if (lo2 + (1 : Int32)) = hi2 then (1 : Int32) else (0 : Int32))), .val (.int (0 : Int32)), .val (.int (if (lo2 + (1 : Int32)) = hi2 then (1 : Int32) else (0 : Int32)))] [])) tt
          refine XS.iload X53.here hx rfl (hb hby at_385) rfl ?_
          show Steps p.tables e below (T53.setTop (mkF m 387 #[.val (.int u0), .val (.int u1), .val (.int u2), .val (.int u3), .val (.int lo1), .val (.int hi1), .val (.int lo2), .val (.int hi2), .val (.ref b5), .val (.int lo1), .val (.int lo2), .val (.int (1 : Int32)), .val (.int lo1), .val (.int (lo2 + (1 : Int32))), .val (.int (2 : Int32)), .val (.int (0 : Int32)), .val (.int (1 : Int32)), .val (.int (1 : Int32)), .val (.int (if (lo2 + (1 : Int32)) = hi2 then (1 : Int32) else (0 : Int32))), .val (.int (0 : Int32)), .val (.int (if (lo2 + (1 : Int32)) = hi2 then (1 : Int32) else (0 : Int32)))] [(.int (if (lo2 + (1 : Int32)) = hi2 then (1 : Int32) else (0 : Int32)))])) tt
          refine XS.iload X53.here hx rfl (hb hby at_387) rfl ?_
          show Steps p.tables e below (T53.setTop (mkF m 389 #[.val (.int u0), .val (.int u1), .val (.int u2), .val (.int u3), .val (.int lo1), .val (.int hi1), .val (.int lo2), .val (.int hi2), .val (.ref b5), .val (.int lo1), .val (.int lo2), .val (.int (1 : Int32)), .val (.int lo1), .val (.int (lo2 + (1 : Int32))), .val (.int (2 : Int32)), .val (.int (0 : Int32)), .val (.int (1 : Int32)), .val (.int (1 : Int32)), .val (.int (if (lo2 + (1 : Int32)) = hi2 then (1 : Int32) else (0 : Int32))), .val (.int (0 : Int32)), .val (.int (if (lo2 + (1 : Int32)) = hi2 then (1 : Int32) else (0 : Int32)))] [(.int (1 : Int32)), (.int (if (lo2 + (1 : Int32)) = hi2 then (1 : Int32) else (0 : Int32)))])) tt
          refine XS.icmpNo X53.here hx rfl (hb hby at_389) rfl (teq (if_pos (by assumption) : (if (lo2 + (1 : Int32)) = hi2 then (1 : Int32) else (0 : Int32)) = (1 : Int32))).2 ?_
          show Steps p.tables e below (T53.setTop (mkF m 392 #[.val (.int u0), .val (.int u1), .val (.int u2), .val (.int u3), .val (.int lo1), .val (.int hi1), .val (.int lo2), .val (.int hi2), .val (.ref b5), .val (.int lo1), .val (.int lo2), .val (.int (1 : Int32)), .val (.int lo1), .val (.int (lo2 + (1 : Int32))), .val (.int (2 : Int32)), .val (.int (0 : Int32)), .val (.int (1 : Int32)), .val (.int (1 : Int32)), .val (.int (if (lo2 + (1 : Int32)) = hi2 then (1 : Int32) else (0 : Int32))), .val (.int (0 : Int32)), .val (.int (if (lo2 + (1 : Int32)) = hi2 then (1 : Int32) else (0 : Int32)))] [])) tt
          refine XS.iconst X53.here hx rfl (hb hby at_392) ?_
          show Steps p.tables e below (T53.setTop (mkF m 393 #[.val (.int u0), .val (.int u1), .val (.int u2), .val (.int u3), .val (.int lo1), .val (.int hi1), .val (.int lo2), .val (.int hi2), .val (.ref b5), .val (.int lo1), .val (.int lo2), .val (.int (1 : Int32)), .val (.int lo1), .val (.int (lo2 + (1 : Int32))), .val (.int (2 : Int32)), .val (.int (0 : Int32)), .val (.int (1 : Int32)), .val (.int (1 : Int32)), .val (.int (if (lo2 + (1 : Int32)) = hi2 then (1 : Int32) else (0 : Int32))), .val (.int (0 : Int32)), .val (.int (if (lo2 + (1 : Int32)) = hi2 then (1 : Int32) else (0 : Int32)))] [(.int (1 : Int32))])) tt
          refine XS.goto X53.here hx rfl (pc0 := 393) (pc' := 397) rfl (hb hby at_393) (by decide) (by decide) ?_
          show Steps p.tables e below (T53.setTop (mkF m 397 #[.val (.int u0), .val (.int u1), .val (.int u2), .val (.int u3), .val (.int lo1), .val (.int hi1), .val (.int lo2), .val (.int hi2), .val (.ref b5), .val (.int lo1), .val (.int lo2), .val (.int (1 : Int32)), .val (.int lo1), .val (.int (lo2 + (1 : Int32))), .val (.int (2 : Int32)), .val (.int (0 : Int32)), .val (.int (1 : Int32)), .val (.int (1 : Int32)), .val (.int (if (lo2 + (1 : Int32)) = hi2 then (1 : Int32) else (0 : Int32))), .val (.int (0 : Int32)), .val (.int (if (lo2 + (1 : Int32)) = hi2 then (1 : Int32) else (0 : Int32)))] [(.int (1 : Int32))])) tt
          refine XS.istore X53.here hx rfl (hb hby at_397) rfl (l' := #[.val (.int u0), .val (.int u1), .val (.int u2), .val (.int u3), .val (.int lo1), .val (.int hi1), .val (.int lo2), .val (.int hi2), .val (.ref b5), .val (.int lo1), .val (.int lo2), .val (.int (1 : Int32)), .val (.int lo1), .val (.int (lo2 + (1 : Int32))), .val (.int (2 : Int32)), .val (.int (0 : Int32)), .val (.int (1 : Int32)), .val (.int (1 : Int32)), .val (.int (if (lo2 + (1 : Int32)) = hi2 then (1 : Int32) else (0 : Int32))), .val (.int (0 : Int32)), .val (.int (if (lo2 + (1 : Int32)) = hi2 then (1 : Int32) else (0 : Int32)))]) rfl ?_
          show Steps p.tables e below (T53.setTop (mkF m 399 #[.val (.int u0), .val (.int u1), .val (.int u2), .val (.int u3), .val (.int lo1), .val (.int hi1), .val (.int lo2), .val (.int hi2), .val (.ref b5), .val (.int lo1), .val (.int lo2), .val (.int (1 : Int32)), .val (.int lo1), .val (.int (lo2 + (1 : Int32))), .val (.int (2 : Int32)), .val (.int (0 : Int32)), .val (.int (1 : Int32)), .val (.int (1 : Int32)), .val (.int (if (lo2 + (1 : Int32)) = hi2 then (1 : Int32) else (0 : Int32))), .val (.int (0 : Int32)), .val (.int (if (lo2 + (1 : Int32)) = hi2 then (1 : Int32) else (0 : Int32)))] [])) tt
          refine XS.iload X53.here hx rfl (hb hby at_399) rfl ?_
          exact kk
        exact Goal.retV X53 hx Bd.returns rfl (Or.inl ⟨rfl, Or.inr (Or.inl rfl), _, rfl⟩) (hb hby at_401) hlk e53 ⟨rfl, N53⟩ (by decide) (by decide)
      · refine Goal.to (B := T48.setTop (mkF m 308 #[.val (.int u0), .val (.int u1), .val (.int u2), .val (.int u3), .val (.int lo1), .val (.int hi1), .val (.int lo2), .val (.int hi2), .val (.ref b5), .val (.int lo1), .val (.int lo2), .val (.int (1 : Int32)), .val (.int (lo1 + (1 : Int32))), .val (.int (lo2 + (1 : Int32))), .val (.int (1 : Int32)), .val (.int (1 : Int32)), .val (.int w42), .val (.int (1 : Int32)), .val (.int (if (lo2 + (1 : Int32)) = hi2 then (1 : Int32) else (0 : Int32))), .unset, .unset] [(.int hi1), (.int (lo1 + (1 : Int32)))])) (fun tt kk => ?_) ?_
        · show Steps p.tables e below (T48.setTop (mkF m 289 #[.val (.int u0), .val (.int u1), .val (.int u2), .val (.int u3), .val (.int lo1), .val (.int hi1), .val (.int lo2), .val (.int hi2), .val (.ref b5), .val (.int lo1), .val (.int lo2), .val (.int (1 : Int32)), .val (.int lo1), .val (.int (lo2 + (1 : Int32))), .val (.int (2 : Int32)), .val (.int (1 : Int32)), .val (.int w42), .val (.int (1 : Int32)), .val (.int (if (lo2 + (1 : Int32)) = hi2 then (1 : Int32) else (0 : Int32))), .unset, .unset] [(.int hi1), (.int lo1)])) tt
          refine XS.icmpNo X48.here hx rfl (hb hby at_289) rfl (feq hc51).1 ?_
          show Steps p.tables e below (T48.setTop (mkF m 292 #[.val (.int u0), .val (.int u1), .val (.int u2), .val (.int u3), .val (.int lo1), .val (.int hi1), .val (.int lo2), .val (.int hi2), .val (.ref b5), .val (.int lo1), .val (.int lo2), .val (.int (1 : Int32)), .val (.int lo1), .val (.int (lo2 + (1 : Int32))), .val (.int (2 : Int32)), .val (.int (1 : Int32)), .val (.int w42), .val (.int (1 : Int32)), .val (.int (if (lo2 + (1 : Int32)) = hi2 then (1 : Int32) else (0 : Int32))), .unset, .unset] [])) tt
          refine XS.iload X48.here hx rfl (hb hby at_292) rfl ?_
          show Steps p.tables e below (T48.setTop (mkF m 294 #[.val (.int u0), .val (.int u1), .val (.int u2), .val (.int u3), .val (.int lo1), .val (.int hi1), .val (.int lo2), .val (.int hi2), .val (.ref b5), .val (.int lo1), .val (.int lo2), .val (.int (1 : Int32)), .val (.int lo1), .val (.int (lo2 + (1 : Int32))), .val (.int (2 : Int32)), .val (.int (1 : Int32)), .val (.int w42), .val (.int (1 : Int32)), .val (.int (if (lo2 + (1 : Int32)) = hi2 then (1 : Int32) else (0 : Int32))), .unset, .unset] [(.int lo1)])) tt
          refine XS.iconst X48.here hx rfl (hb hby at_294) ?_
          show Steps p.tables e below (T48.setTop (mkF m 295 #[.val (.int u0), .val (.int u1), .val (.int u2), .val (.int u3), .val (.int lo1), .val (.int hi1), .val (.int lo2), .val (.int hi2), .val (.ref b5), .val (.int lo1), .val (.int lo2), .val (.int (1 : Int32)), .val (.int lo1), .val (.int (lo2 + (1 : Int32))), .val (.int (2 : Int32)), .val (.int (1 : Int32)), .val (.int w42), .val (.int (1 : Int32)), .val (.int (if (lo2 + (1 : Int32)) = hi2 then (1 : Int32) else (0 : Int32))), .unset, .unset] [(.int (1 : Int32)), (.int lo1)])) tt
          refine XS.iadd X48.here hx rfl (hb hby at_295) rfl ?_
          show Steps p.tables e below (T48.setTop (mkF m 296 #[.val (.int u0), .val (.int u1), .val (.int u2), .val (.int u3), .val (.int lo1), .val (.int hi1), .val (.int lo2), .val (.int hi2), .val (.ref b5), .val (.int lo1), .val (.int lo2), .val (.int (1 : Int32)), .val (.int lo1), .val (.int (lo2 + (1 : Int32))), .val (.int (2 : Int32)), .val (.int (1 : Int32)), .val (.int w42), .val (.int (1 : Int32)), .val (.int (if (lo2 + (1 : Int32)) = hi2 then (1 : Int32) else (0 : Int32))), .unset, .unset] [(.int (lo1 + (1 : Int32)))])) tt
          refine XS.istore X48.here hx rfl (hb hby at_296) rfl (l' := #[.val (.int u0), .val (.int u1), .val (.int u2), .val (.int u3), .val (.int lo1), .val (.int hi1), .val (.int lo2), .val (.int hi2), .val (.ref b5), .val (.int lo1), .val (.int lo2), .val (.int (1 : Int32)), .val (.int (lo1 + (1 : Int32))), .val (.int (lo2 + (1 : Int32))), .val (.int (2 : Int32)), .val (.int (1 : Int32)), .val (.int w42), .val (.int (1 : Int32)), .val (.int (if (lo2 + (1 : Int32)) = hi2 then (1 : Int32) else (0 : Int32))), .unset, .unset]) rfl ?_
          show Steps p.tables e below (T48.setTop (mkF m 298 #[.val (.int u0), .val (.int u1), .val (.int u2), .val (.int u3), .val (.int lo1), .val (.int hi1), .val (.int lo2), .val (.int hi2), .val (.ref b5), .val (.int lo1), .val (.int lo2), .val (.int (1 : Int32)), .val (.int (lo1 + (1 : Int32))), .val (.int (lo2 + (1 : Int32))), .val (.int (2 : Int32)), .val (.int (1 : Int32)), .val (.int w42), .val (.int (1 : Int32)), .val (.int (if (lo2 + (1 : Int32)) = hi2 then (1 : Int32) else (0 : Int32))), .unset, .unset] [])) tt
          refine XS.iconst X48.here hx rfl (hb hby at_298) ?_
          show Steps p.tables e below (T48.setTop (mkF m 299 #[.val (.int u0), .val (.int u1), .val (.int u2), .val (.int u3), .val (.int lo1), .val (.int hi1), .val (.int lo2), .val (.int hi2), .val (.ref b5), .val (.int lo1), .val (.int lo2), .val (.int (1 : Int32)), .val (.int (lo1 + (1 : Int32))), .val (.int (lo2 + (1 : Int32))), .val (.int (2 : Int32)), .val (.int (1 : Int32)), .val (.int w42), .val (.int (1 : Int32)), .val (.int (if (lo2 + (1 : Int32)) = hi2 then (1 : Int32) else (0 : Int32))), .unset, .unset] [(.int (1 : Int32))])) tt
          refine XS.istore X48.here hx rfl (hb hby at_299) rfl (l' := #[.val (.int u0), .val (.int u1), .val (.int u2), .val (.int u3), .val (.int lo1), .val (.int hi1), .val (.int lo2), .val (.int hi2), .val (.ref b5), .val (.int lo1), .val (.int lo2), .val (.int (1 : Int32)), .val (.int (lo1 + (1 : Int32))), .val (.int (lo2 + (1 : Int32))), .val (.int (1 : Int32)), .val (.int (1 : Int32)), .val (.int w42), .val (.int (1 : Int32)), .val (.int (if (lo2 + (1 : Int32)) = hi2 then (1 : Int32) else (0 : Int32))), .unset, .unset]) rfl ?_
          show Steps p.tables e below (T48.setTop (mkF m 301 #[.val (.int u0), .val (.int u1), .val (.int u2), .val (.int u3), .val (.int lo1), .val (.int hi1), .val (.int lo2), .val (.int hi2), .val (.ref b5), .val (.int lo1), .val (.int lo2), .val (.int (1 : Int32)), .val (.int (lo1 + (1 : Int32))), .val (.int (lo2 + (1 : Int32))), .val (.int (1 : Int32)), .val (.int (1 : Int32)), .val (.int w42), .val (.int (1 : Int32)), .val (.int (if (lo2 + (1 : Int32)) = hi2 then (1 : Int32) else (0 : Int32))), .unset, .unset] [])) tt
          refine XS.iconst X48.here hx rfl (hb hby at_301) ?_
          show Steps p.tables e below (T48.setTop (mkF m 302 #[.val (.int u0), .val (.int u1), .val (.int u2), .val (.int u3), .val (.int lo1), .val (.int hi1), .val (.int lo2), .val (.int hi2), .val (.ref b5), .val (.int lo1), .val (.int lo2), .val (.int (1 : Int32)), .val (.int (lo1 + (1 : Int32))), .val (.int (lo2 + (1 : Int32))), .val (.int (1 : Int32)), .val (.int (1 : Int32)), .val (.int w42), .val (.int (1 : Int32)), .val (.int (if (lo2 + (1 : Int32)) = hi2 then (1 : Int32) else (0 : Int32))), .unset, .unset] [(.int (1 : Int32))])) tt
          refine XS.istore X48.here hx rfl (hb hby at_302) rfl (l' := #[.val (.int u0), .val (.int u1), .val (.int u2), .val (.int u3), .val (.int lo1), .val (.int hi1), .val (.int lo2), .val (.int hi2), .val (.ref b5), .val (.int lo1), .val (.int lo2), .val (.int (1 : Int32)), .val (.int (lo1 + (1 : Int32))), .val (.int (lo2 + (1 : Int32))), .val (.int (1 : Int32)), .val (.int (1 : Int32)), .val (.int w42), .val (.int (1 : Int32)), .val (.int (if (lo2 + (1 : Int32)) = hi2 then (1 : Int32) else (0 : Int32))), .unset, .unset]) rfl ?_
          show Steps p.tables e below (T48.setTop (mkF m 304 #[.val (.int u0), .val (.int u1), .val (.int u2), .val (.int u3), .val (.int lo1), .val (.int hi1), .val (.int lo2), .val (.int hi2), .val (.ref b5), .val (.int lo1), .val (.int lo2), .val (.int (1 : Int32)), .val (.int (lo1 + (1 : Int32))), .val (.int (lo2 + (1 : Int32))), .val (.int (1 : Int32)), .val (.int (1 : Int32)), .val (.int w42), .val (.int (1 : Int32)), .val (.int (if (lo2 + (1 : Int32)) = hi2 then (1 : Int32) else (0 : Int32))), .unset, .unset] [])) tt
          refine XS.iload X48.here hx rfl (hb hby at_304) rfl ?_
          show Steps p.tables e below (T48.setTop (mkF m 306 #[.val (.int u0), .val (.int u1), .val (.int u2), .val (.int u3), .val (.int lo1), .val (.int hi1), .val (.int lo2), .val (.int hi2), .val (.ref b5), .val (.int lo1), .val (.int lo2), .val (.int (1 : Int32)), .val (.int (lo1 + (1 : Int32))), .val (.int (lo2 + (1 : Int32))), .val (.int (1 : Int32)), .val (.int (1 : Int32)), .val (.int w42), .val (.int (1 : Int32)), .val (.int (if (lo2 + (1 : Int32)) = hi2 then (1 : Int32) else (0 : Int32))), .unset, .unset] [(.int (lo1 + (1 : Int32)))])) tt
          refine XS.iload X48.here hx rfl (hb hby at_306) rfl ?_
          exact kk
        obtain ⟨w55, hw55⟩ : ∃ z : Int32, z = if (lo1 + (1 : Int32)) = hi1 then (1 : Int32) else (0 : Int32) := ⟨_, rfl⟩
        refine Goal.to (B := T48.setTop (mkF m 316 #[.val (.int u0), .val (.int u1), .val (.int u2), .val (.int u3), .val (.int lo1), .val (.int hi1), .val (.int lo2), .val (.int hi2), .val (.ref b5), .val (.int lo1), .val (.int lo2), .val (.int (1 : Int32)), .val (.int (lo1 + (1 : Int32))), .val (.int (lo2 + (1 : Int32))), .val (.int (1 : Int32)), .val (.int (1 : Int32)), .val (.int w42), .val (.int (1 : Int32)), .val (.int (if (lo2 + (1 : Int32)) = hi2 then (1 : Int32) else (0 : Int32))), .unset, .unset] [(.int w55)])) (fun tt kk => ?_) ?_
        · by_cases hc54 : (lo1 + (1 : Int32)) = hi1
          · have qw55 : w55 = (1 : Int32) := by rw [hw55, if_pos hc54]
            rw [qw55] at kk
            show Steps p.tables e below (T48.setTop (mkF m 308 #[.val (.int u0), .val (.int u1), .val (.int u2), .val (.int u3), .val (.int lo1), .val (.int hi1), .val (.int lo2), .val (.int hi2), .val (.ref b5), .val (.int lo1), .val (.int lo2), .val (.int (1 : Int32)), .val (.int (lo1 + (1 : Int32))), .val (.int (lo2 + (1 : Int32))), .val (.int (1 : Int32)), .val (.int (1 : Int32)), .val (.int w42), .val (.int (1 : Int32)), .val (.int (if (lo2 + (1 : Int32)) = hi2 then (1 : Int32) else (0 : Int32))), .unset, .unset] [(.int hi1), (.int (lo1 + (1 : Int32)))])) tt
            refine XS.icmpNo X48.here hx rfl (hb hby at_308) rfl (teq hc54).2 ?_
            show Steps p.tables e below (T48.setTop (mkF m 311 #[.val (.int u0), .val (.int u1), .val (.int u2), .val (.int u3), .val (.int lo1), .val (.int hi1), .val (.int lo2), .val (.int hi2), .val (.ref b5), .val (.int lo1), .val (.int lo2), .val (.int (1 : Int32)), .val (.int (lo1 + (1 : Int32))), .val (.int (lo2 + (1 : Int32))), .val (.int (1 : Int32)), .val (.int (1 : Int32)), .val (.int w42), .val (.int (1 : Int32)), .val (.int (if (lo2 + (1 : Int32)) = hi2 then (1 : Int32) else (0 : Int32))), .unset, .unset] [])) tt
            refine XS.iconst X48.here hx rfl (hb hby at_311) ?_
            show Steps p.tables e below (T48.setTop (mkF m 312 #[.val (.int u0), .val (.int u1), .val (.int u2), .val (.int u3), .val (.int lo1), .val (.int hi1), .val (.int lo2), .val (.int hi2), .val (.ref b5), .val (.int lo1), .val (.int lo2), .val (.int (1 : Int32)), .val (.int (lo1 + (1 : Int32))), .val (.int (lo2 + (1 : Int32))), .val (.int (1 : Int32)), .val (.int (1 : Int32)), .val (.int w42), .val (.int (1 : Int32)), .val (.int (if (lo2 + (1 : Int32)) = hi2 then (1 : Int32) else (0 : Int32))), .unset, .unset] [(.int (1 : Int32))])) tt
            refine XS.goto X48.here hx rfl (pc0 := 312) (pc' := 316) rfl (hb hby at_312) (by decide) (by decide) ?_
            exact kk
          · have qw55 : w55 = (0 : Int32) := by rw [hw55, if_neg hc54]
            rw [qw55] at kk
            show Steps p.tables e below (T48.setTop (mkF m 308 #[.val (.int u0), .val (.int u1), .val (.int u2), .val (.int u3), .val (.int lo1), .val (.int hi1), .val (.int lo2), .val (.int hi2), .val (.ref b5), .val (.int lo1), .val (.int lo2), .val (.int (1 : Int32)), .val (.int (lo1 + (1 : Int32))), .val (.int (lo2 + (1 : Int32))), .val (.int (1 : Int32)), .val (.int (1 : Int32)), .val (.int w42), .val (.int (1 : Int32)), .val (.int (if (lo2 + (1 : Int32)) = hi2 then (1 : Int32) else (0 : Int32))), .unset, .unset] [(.int hi1), (.int (lo1 + (1 : Int32)))])) tt
            refine XS.icmpYes X48.here hx rfl (pc0 := 308) (pc' := 315) rfl (hb hby at_308) rfl (feq hc54).2 (by decide) (by decide) ?_
            show Steps p.tables e below (T48.setTop (mkF m 315 #[.val (.int u0), .val (.int u1), .val (.int u2), .val (.int u3), .val (.int lo1), .val (.int hi1), .val (.int lo2), .val (.int hi2), .val (.ref b5), .val (.int lo1), .val (.int lo2), .val (.int (1 : Int32)), .val (.int (lo1 + (1 : Int32))), .val (.int (lo2 + (1 : Int32))), .val (.int (1 : Int32)), .val (.int (1 : Int32)), .val (.int w42), .val (.int (1 : Int32)), .val (.int (if (lo2 + (1 : Int32)) = hi2 then (1 : Int32) else (0 : Int32))), .unset, .unset] [])) tt
            refine XS.iconst X48.here hx rfl (hb hby at_315) ?_
            exact kk
        refine Goal.to (B := T48.setTop (mkF m 361 #[.val (.int u0), .val (.int u1), .val (.int u2), .val (.int u3), .val (.int lo1), .val (.int hi1), .val (.int lo2), .val (.int hi2), .val (.ref b5), .val (.int lo1), .val (.int lo2), .val (.int (1 : Int32)), .val (.int (lo1 + (1 : Int32))), .val (.int (lo2 + (1 : Int32))), .val (.int (1 : Int32)), .val (.int (1 : Int32)), .val (.int w55), .val (.int (1 : Int32)), .val (.int (if (lo2 + (1 : Int32)) = hi2 then (1 : Int32) else (0 : Int32))), .unset, .unset] [(.ref b5)])) (fun tt kk => ?_) ?_
        · show Steps p.tables e below (T48.setTop (mkF m 316 #[.val (.int u0), .val (.int u1), .val (.int u2), .val (.int u3), .val (.int lo1), .val (.int hi1), .val (.int lo2), .val (.int hi2), .val (.ref b5), .val (.int lo1), .val (.int lo2), .val (.int (1 : Int32)), .val (.int (lo1 + (1 : Int32))), .val (.int (lo2 + (1 : Int32))), .val (.int (1 : Int32)), .val (.int (1 : Int32)), .val (.int w42), .val (.int (1 : Int32)), .val (.int (if (lo2 + (1 : Int32)) = hi2 then (1 : Int32) else (0 : Int32))), .unset, .unset] [(.int w55)])) tt
          refine XS.istore X48.here hx rfl (hb hby at_316) rfl (l' := #[.val (.int u0), .val (.int u1), .val (.int u2), .val (.int u3), .val (.int lo1), .val (.int hi1), .val (.int lo2), .val (.int hi2), .val (.ref b5), .val (.int lo1), .val (.int lo2), .val (.int (1 : Int32)), .val (.int (lo1 + (1 : Int32))), .val (.int (lo2 + (1 : Int32))), .val (.int (1 : Int32)), .val (.int (1 : Int32)), .val (.int w55), .val (.int (1 : Int32)), .val (.int (if (lo2 + (1 : Int32)) = hi2 then (1 : Int32) else (0 : Int32))), .unset, .unset]) rfl ?_
          show Steps p.tables e below (T48.setTop (mkF m 318 #[.val (.int u0), .val (.int u1), .val (.int u2), .val (.int u3), .val (.int lo1), .val (.int hi1), .val (.int lo2), .val (.int hi2), .val (.ref b5), .val (.int lo1), .val (.int lo2), .val (.int (1 : Int32)), .val (.int (lo1 + (1 : Int32))), .val (.int (lo2 + (1 : Int32))), .val (.int (1 : Int32)), .val (.int (1 : Int32)), .val (.int w55), .val (.int (1 : Int32)), .val (.int (if (lo2 + (1 : Int32)) = hi2 then (1 : Int32) else (0 : Int32))), .unset, .unset] [])) tt
          refine XS.goto X48.here hx rfl (pc0 := 318) (pc' := 359) rfl (hb hby at_318) (by decide) (by decide) ?_
          show Steps p.tables e below (T48.setTop (mkF m 359 #[.val (.int u0), .val (.int u1), .val (.int u2), .val (.int u3), .val (.int lo1), .val (.int hi1), .val (.int lo2), .val (.int hi2), .val (.ref b5), .val (.int lo1), .val (.int lo2), .val (.int (1 : Int32)), .val (.int (lo1 + (1 : Int32))), .val (.int (lo2 + (1 : Int32))), .val (.int (1 : Int32)), .val (.int (1 : Int32)), .val (.int w55), .val (.int (1 : Int32)), .val (.int (if (lo2 + (1 : Int32)) = hi2 then (1 : Int32) else (0 : Int32))), .unset, .unset] [])) tt
          refine XS.aload X48.here hx rfl (hb hby at_359) rfl rfl ?_
          exact kk
        obtain ⟨cq56, kq56, q56a, q56b, q56c⟩ := isOf hZ e48 f49
        obtain ⟨_, _, ⟨T56, L56, k56, n56⟩, -, X56, ⟨Lc56, hQ56, l56, y56, z56⟩, st56⟩ := X48.virtualBack hx (y := (⟨"com/example/deferra/deferra/engine/Trail", "advance", "()Z"⟩ : MethodName)) (z := (⟨"com/example/deferra/deferra/engine/Trail", "advance", "()Z"⟩ : MethodName)) hown (mvT hZ (hw _ (mw 50 rfl))) (mvT hZ (hw _ (mw 51 rfl))) (notFace_of_selects (args := #[]) (mvT hZ (hw _ (mw 53 rfl)))) (mvT hZ (hw _ (mw 53 rfl))) (mvT hZ (hw _ (mw 52 rfl))) (by decide) (backOf (W := 0) (rmav2B l Z a0 hw [] b5 th_7 tv_7 hi1 hi2 lo1 (lo2 + (1 : Int32)) T45.heap n0 f47 f49 P45_0 P45_1 P45_2 P45_3 P45_4 f46 P45_5 g_b5 g_tv_7 ne_b5_tv_7 ne_b5_th_7 ne7_th_tv (by assumption) (by assumption)) hZ (hw _ (mw 54 rfl)) (hw _ (mw 9 rfl)) (by decide) (by decide)) q56a q56c (g := (mkF m 361 #[.val (.int u0), .val (.int u1), .val (.int u2), .val (.int u3), .val (.int lo1), .val (.int hi1), .val (.int lo2), .val (.int hi2), .val (.ref b5), .val (.int lo1), .val (.int lo2), .val (.int (1 : Int32)), .val (.int (lo1 + (1 : Int32))), .val (.int (lo2 + (1 : Int32))), .val (.int (1 : Int32)), .val (.int (1 : Int32)), .val (.int w55), .val (.int (1 : Int32)), .val (.int (if (lo2 + (1 : Int32)) = hi2 then (1 : Int32) else (0 : Int32))), .unset, .unset] [(.ref b5)])) rfl (by rw [hml]; rfl) (Steps.refl _) (argsL := []) (rest := []) (lenOf pd_4 rfl) rfl (by show 2 * 0 + _ ≤ _; exact Nat.le_of_eq rfl) (hb hby at_361) (fun _ _ => ⟨rfl, e48, (by decide : 5 + 0 ≤ _), (by decide : 78 + 0 ≤ _)⟩)
        dsimp only [Pt.U, Pt.locs, Pt.cells, Pt.slots] at X56 l56 y56 z56 st56 hQ56
        subst l56 y56 z56
        obtain ⟨rfl, N56q, K56, P56_0, P56_1, P56_2, P56_3, P56_4, P56_5⟩ := hQ56
        have N56 := Fr.app N48 N56q
        refine Goal.tr (B := T56.setTop (mkF m 364 #[.val (.int u0), .val (.int u1), .val (.int u2), .val (.int u3), .val (.int lo1), .val (.int hi1), .val (.int lo2), .val (.int hi2), .val (.ref b5), .val (.int lo1), .val (.int lo2), .val (.int (1 : Int32)), .val (.int (lo1 + (1 : Int32))), .val (.int (lo2 + (1 : Int32))), .val (.int (1 : Int32)), .val (.int (1 : Int32)), .val (.int w55), .val (.int (1 : Int32)), .val (.int (if (lo2 + (1 : Int32)) = hi2 then (1 : Int32) else (0 : Int32))), .unset, .unset] [(.int (1 : Int32))])) st56 ?_
        refine Goal.to (B := T56.setTop (mkF m 368 #[.val (.int u0), .val (.int u1), .val (.int u2), .val (.int u3), .val (.int lo1), .val (.int hi1), .val (.int lo2), .val (.int hi2), .val (.ref b5), .val (.int lo1), .val (.int lo2), .val (.int (1 : Int32)), .val (.int (lo1 + (1 : Int32))), .val (.int (lo2 + (1 : Int32))), .val (.int (1 : Int32)), .val (.int (1 : Int32)), .val (.int w55), .val (.int (1 : Int32)), .val (.int (if (lo2 + (1 : Int32)) = hi2 then (1 : Int32) else (0 : Int32))), .val (.int (1 : Int32)), .unset] [(.ref b5)])) (fun tt kk => ?_) ?_
        · show Steps p.tables e below (T56.setTop (mkF m 364 #[.val (.int u0), .val (.int u1), .val (.int u2), .val (.int u3), .val (.int lo1), .val (.int hi1), .val (.int lo2), .val (.int hi2), .val (.ref b5), .val (.int lo1), .val (.int lo2), .val (.int (1 : Int32)), .val (.int (lo1 + (1 : Int32))), .val (.int (lo2 + (1 : Int32))), .val (.int (1 : Int32)), .val (.int (1 : Int32)), .val (.int w55), .val (.int (1 : Int32)), .val (.int (if (lo2 + (1 : Int32)) = hi2 then (1 : Int32) else (0 : Int32))), .unset, .unset] [(.int (1 : Int32))])) tt
          refine XS.istore X56.here hx rfl (hb hby at_364) rfl (l' := #[.val (.int u0), .val (.int u1), .val (.int u2), .val (.int u3), .val (.int lo1), .val (.int hi1), .val (.int lo2), .val (.int hi2), .val (.ref b5), .val (.int lo1), .val (.int lo2), .val (.int (1 : Int32)), .val (.int (lo1 + (1 : Int32))), .val (.int (lo2 + (1 : Int32))), .val (.int (1 : Int32)), .val (.int (1 : Int32)), .val (.int w55), .val (.int (1 : Int32)), .val (.int (if (lo2 + (1 : Int32)) = hi2 then (1 : Int32) else (0 : Int32))), .val (.int (1 : Int32)), .unset]) rfl ?_
          show Steps p.tables e below (T56.setTop (mkF m 366 #[.val (.int u0), .val (.int u1), .val (.int u2), .val (.int u3), .val (.int lo1), .val (.int hi1), .val (.int lo2), .val (.int hi2), .val (.ref b5), .val (.int lo1), .val (.int lo2), .val (.int (1 : Int32)), .val (.int (lo1 + (1 : Int32))), .val (.int (lo2 + (1 : Int32))), .val (.int (1 : Int32)), .val (.int (1 : Int32)), .val (.int w55), .val (.int (1 : Int32)), .val (.int (if (lo2 + (1 : Int32)) = hi2 then (1 : Int32) else (0 : Int32))), .val (.int (1 : Int32)), .unset] [])) tt
          refine XS.aload X56.here hx rfl (hb hby at_366) rfl rfl ?_
          exact kk
        have f57 : Ary Z T56.heap th_7 .int [(.int hi1), (.int hi2), (.int (0 : Int32)), (.int (0 : Int32)), (.int (0 : Int32)), (.int (0 : Int32)), (.int (0 : Int32)), (.int (0 : Int32)), (.int (0 : Int32)), (.int (0 : Int32)), (.int (0 : Int32)), (.int (0 : Int32)), (.int (0 : Int32)), (.int (0 : Int32)), (.int (0 : Int32)), (.int (0 : Int32))] := (f46.keep K56 (ninS (Ne.symm ne_b5_th_7) (ninS ne7_th_tv nin0)))
        have f58 : n0 ≤ T56.heap.size := (Nat.le_trans f47 K56.1)
        have f60 : Exa Z T56.heap b5 "com/example/deferra/deferra/engine/Trail" := (f49.keep K56)
        obtain ⟨cq59, kq59, q59a, q59b, q59c⟩ := isOf hZ rfl f60
        obtain ⟨_, _, ⟨T59, L59, k59, n59⟩, -, X59, ⟨Lc59, hQ59, l59, y59, z59⟩, st59⟩ := X56.virtualBack hx (y := (⟨"com/example/deferra/deferra/engine/Trail", "changeIsLast", "()Z"⟩ : MethodName)) (z := (⟨"com/example/deferra/deferra/engine/Trail", "changeIsLast", "()Z"⟩ : MethodName)) hown (mvT hZ (hw _ (mw 61 rfl))) (mvT hZ (hw _ (mw 62 rfl))) (notFace_of_selects (args := #[]) (mvT hZ (hw _ (mw 64 rfl)))) (mvT hZ (hw _ (mw 64 rfl))) (mvT hZ (hw _ (mw 63 rfl))) (by decide) (backOf (W := 0) (rmcl1 l Z a0 hw [] b5 th_7 tv_7 hi1 hi2 (lo1 + (1 : Int32)) (lo2 + (1 : Int32)) T56.heap n0 f58 P56_1 P56_2 P56_3 f57 P56_5) hZ (hw _ (mw 65 rfl)) (hw _ (mw 9 rfl)) (by decide) (by decide)) q59a q59c (g := (mkF m 368 #[.val (.int u0), .val (.int u1), .val (.int u2), .val (.int u3), .val (.int lo1), .val (.int hi1), .val (.int lo2), .val (.int hi2), .val (.ref b5), .val (.int lo1), .val (.int lo2), .val (.int (1 : Int32)), .val (.int (lo1 + (1 : Int32))), .val (.int (lo2 + (1 : Int32))), .val (.int (1 : Int32)), .val (.int (1 : Int32)), .val (.int w55), .val (.int (1 : Int32)), .val (.int (if (lo2 + (1 : Int32)) = hi2 then (1 : Int32) else (0 : Int32))), .val (.int (1 : Int32)), .unset] [(.ref b5)])) rfl (by rw [hml]; rfl) (Steps.refl _) (argsL := []) (rest := []) (lenOf pd_4 rfl) rfl (by show 2 * 0 + _ ≤ _; exact Nat.le_of_eq rfl) (hb hby at_368) (fun _ _ => ⟨rfl, rfl, (by decide : 5 + 0 ≤ _), (by decide : 78 + 0 ≤ _)⟩)
        dsimp only [Pt.U, Pt.locs, Pt.cells, Pt.slots] at X59 l59 y59 z59 st59 hQ59
        subst l59 y59 z59
        obtain ⟨rfl, N59q, e59⟩ := hQ59
        have N59 := Fr.app N56 N59q
        refine Goal.tr (B := T59.setTop (mkF m 371 #[.val (.int u0), .val (.int u1), .val (.int u2), .val (.int u3), .val (.int lo1), .val (.int hi1), .val (.int lo2), .val (.int hi2), .val (.ref b5), .val (.int lo1), .val (.int lo2), .val (.int (1 : Int32)), .val (.int (lo1 + (1 : Int32))), .val (.int (lo2 + (1 : Int32))), .val (.int (1 : Int32)), .val (.int (1 : Int32)), .val (.int w55), .val (.int (1 : Int32)), .val (.int (if (lo2 + (1 : Int32)) = hi2 then (1 : Int32) else (0 : Int32))), .val (.int (1 : Int32)), .unset] [(.int (if (lo1 + (1 : Int32)) = hi1 then (1 : Int32) else (0 : Int32)))])) st59 ?_
        refine Goal.to (B := T59.setTop (mkF m 401 #[.val (.int u0), .val (.int u1), .val (.int u2), .val (.int u3), .val (.int lo1), .val (.int hi1), .val (.int lo2), .val (.int hi2), .val (.ref b5), .val (.int lo1), .val (.int lo2), .val (.int (1 : Int32)), .val (.int (lo1 + (1 : Int32))), .val (.int (lo2 + (1 : Int32))), .val (.int (1 : Int32)), .val (.int (1 : Int32)), .val (.int w55), .val (.int (1 : Int32)), .val (.int (if (lo2 + (1 : Int32)) = hi2 then (1 : Int32) else (0 : Int32))), .val (.int (1 : Int32)), .val (.int (if (lo1 + (1 : Int32)) = hi1 then (1 : Int32) else (0 : Int32)))] [(.int (1 : Int32))])) (fun tt kk => ?_) ?_
        · show Steps p.tables e below (T59.setTop (mkF m 371 #[.val (.int u0), .val (.int u1), .val (.int u2), .val (.int u3), .val (.int lo1), .val (.int hi1), .val (.int lo2), .val (.int hi2), .val (.ref b5), .val (.int lo1), .val (.int lo2), .val (.int (1 : Int32)), .val (.int (lo1 + (1 : Int32))), .val (.int (lo2 + (1 : Int32))), .val (.int (1 : Int32)), .val (.int (1 : Int32)), .val (.int w55), .val (.int (1 : Int32)), .val (.int (if (lo2 + (1 : Int32)) = hi2 then (1 : Int32) else (0 : Int32))), .val (.int (1 : Int32)), .unset] [(.int (if (lo1 + (1 : Int32)) = hi1 then (1 : Int32) else (0 : Int32)))])) tt
          refine XS.istore X59.here hx rfl (hb hby at_371) rfl (l' := #[.val (.int u0), .val (.int u1), .val (.int u2), .val (.int u3), .val (.int lo1), .val (.int hi1), .val (.int lo2), .val (.int hi2), .val (.ref b5), .val (.int lo1), .val (.int lo2), .val (.int (1 : Int32)), .val (.int (lo1 + (1 : Int32))), .val (.int (lo2 + (1 : Int32))), .val (.int (1 : Int32)), .val (.int (1 : Int32)), .val (.int w55), .val (.int (1 : Int32)), .val (.int (if (lo2 + (1 : Int32)) = hi2 then (1 : Int32) else (0 : Int32))), .val (.int (1 : Int32)), .val (.int (if (lo1 + (1 : Int32)) = hi1 then (1 : Int32) else (0 : Int32)))]) rfl ?_
          show Steps p.tables e below (T59.setTop (mkF m 373 #[.val (.int u0), .val (.int u1), .val (.int u2), .val (.int u3), .val (.int lo1), .val (.int hi1), .val (.int lo2), .val (.int hi2), .val (.ref b5), .val (.int lo1), .val (.int lo2), .val (.int (1 : Int32)), .val (.int (lo1 + (1 : Int32))), .val (.int (lo2 + (1 : Int32))), .val (.int (1 : Int32)), .val (.int (1 : Int32)), .val (.int w55), .val (.int (1 : Int32)), .val (.int (if (lo2 + (1 : Int32)) = hi2 then (1 : Int32) else (0 : Int32))), .val (.int (1 : Int32)), .val (.int (if (lo1 + (1 : Int32)) = hi1 then (1 : Int32) else (0 : Int32)))] [])) tt
          refine XS.iload X59.here hx rfl (hb hby at_373) rfl ?_
          show Steps p.tables e below (T59.setTop (mkF m 375 #[.val (.int u0), .val (.int u1), .val (.int u2), .val (.int u3), .val (.int lo1), .val (.int hi1), .val (.int lo2), .val (.int hi2), .val (.ref b5), .val (.int lo1), .val (.int lo2), .val (.int (1 : Int32)), .val (.int (lo1 + (1 : Int32))), .val (.int (lo2 + (1 : Int32))), .val (.int (1 : Int32)), .val (.int (1 : Int32)), .val (.int w55), .val (.int (1 : Int32)), .val (.int (if (lo2 + (1 : Int32)) = hi2 then (1 : Int32) else (0 : Int32))), .val (.int (1 : Int32)), .val (.int (if (lo1 + (1 : Int32)) = hi1 then (1 : Int32) else (0 : Int32)))] [(.int (1 : Int32))])) tt
          refine XS.ifNo X59.here hx rfl (hb hby at_375) rfl ((if0 _ _).trans (feq ((by decide) : ¬ ((1 : Int32) = (0 : Int32)))).1) ?_
          show Steps p.tables e below (T59.setTop (mkF m 378 #[.val (.int u0), .val (.int u1), .val (.int u2), .val (.int u3), .val (.int lo1), .val (.int hi1), .val (.int lo2), .val (.int hi2), .val (.ref b5), .val (.int lo1), .val (.int lo2), .val (.int (1 : Int32)), .val (.int (lo1 + (1 : Int32))), .val (.int (lo2 + (1 : Int32))), .val (.int (1 : Int32)), .val (.int (1 : Int32)), .val (.int w55), .val (.int (1 : Int32)), .val (.int (if (lo2 + (1 : Int32)) = hi2 then (1 : Int32) else (0 : Int32))), .val (.int (1 : Int32)), .val (.int (if (lo1 + (1 : Int32)) = hi1 then (1 : Int32) else (0 : Int32)))] [])) tt
          refine XS.iload X59.here hx rfl (hb hby at_378) rfl ?_
          show Steps p.tables e below (T59.setTop (mkF m 380 #[.val (.int u0), .val (.int u1), .val (.int u2), .val (.int u3), .val (.int lo1), .val (.int hi1), .val (.int lo2), .val (.int hi2), .val (.ref b5), .val (.int lo1), .val (.int lo2), .val (.int (1 : Int32)), .val (.int (lo1 + (1 : Int32))), .val (.int (lo2 + (1 : Int32))), .val (.int (1 : Int32)), .val (.int (1 : Int32)), .val (.int w55), .val (.int (1 : Int32)), .val (.int (if (lo2 + (1 : Int32)) = hi2 then (1 : Int32) else (0 : Int32))), .val (.int (1 : Int32)), .val (.int (if (lo1 + (1 : Int32)) = hi1 then (1 : Int32) else (0 : Int32)))] [(.int (1 : Int32))])) tt
          refine XS.iload X59.here hx rfl (hb hby at_380) rfl ?_
          show Steps p.tables e below (T59.setTop (mkF m 382 #[.val (.int u0), .val (.int u1), .val (.int u2), .val (.int u3), .val (.int lo1), .val (.int hi1), .val (.int lo2), .val (.int hi2), .val (.ref b5), .val (.int lo1), .val (.int lo2), .val (.int (1 : Int32)), .val (.int (lo1 + (1 : Int32))), .val (.int (lo2 + (1 : Int32))), .val (.int (1 : Int32)), .val (.int (1 : Int32)), .val (.int w55), .val (.int (1 : Int32)), .val (.int (if (lo2 + (1 : Int32)) = hi2 then (1 : Int32) else (0 : Int32))), .val (.int (1 : Int32)), .val (.int (if (lo1 + (1 : Int32)) = hi1 then (1 : Int32) else (0 : Int32)))] [(.int (1 : Int32)), (.int (1 : Int32))])) tt
          refine XS.icmpNo X59.here hx rfl (hb hby at_382) rfl (teq (rfl : (1 : Int32) = (1 : Int32))).2 ?_
          show Steps p.tables e below (T59.setTop (mkF m 385 #[.val (.int u0), .val (.int u1), .val (.int u2), .val (.int u3), .val (.int lo1), .val (.int hi1), .val (.int lo2), .val (.int hi2), .val (.ref b5), .val (.int lo1), .val (.int lo2), .val (.int (1 : Int32)), .val (.int (lo1 + (1 : Int32))), .val (.int (lo2 + (1 : Int32))), .val (.int (1 : Int32)), .val (.int (1 : Int32)), .val (.int w55), .val (.int (1 : Int32)), .val (.int (if (lo2 + (1 : Int32)) = hi2 then (1 : Int32) else (0 : Int32))), .val (.int (1 : Int32)), .val (.int (if (lo1 + (1 : Int32)) = hi1 then (1 : Int32) else (0 : Int32)))] [])) tt
          refine XS.iload X59.here hx rfl (hb hby at_385) rfl ?_
          show Steps p.tables e below (T59.setTop (mkF m 387 #[.val (.int u0), .val (.int u1), .val (.int u2), .val (.int u3), .val (.int lo1), .val (.int hi1), .val (.int lo2), .val (.int hi2), .val (.ref b5), .val (.int lo1), .val (.int lo2), .val (.int (1 : Int32)), .val (.int (lo1 + (1 : Int32))), .val (.int (lo2 + (1 : Int32))), .val (.int (1 : Int32)), .val (.int (1 : Int32)), .val (.int w55), .val (.int (1 : Int32)), .val (.int (if (lo2 + (1 : Int32)) = hi2 then (1 : Int32) else (0 : Int32))), .val (.int (1 : Int32)), .val (.int (if (lo1 + (1 : Int32)) = hi1 then (1 : Int32) else (0 : Int32)))] [(.int (if (lo1 + (1 : Int32)) = hi1 then (1 : Int32) else (0 : Int32)))])) tt
          refine XS.iload X59.here hx rfl (hb hby at_387) rfl ?_
          show Steps p.tables e below (T59.setTop (mkF m 389 #[.val (.int u0), .val (.int u1), .val (.int u2), .val (.int u3), .val (.int lo1), .val (.int hi1), .val (.int lo2), .val (.int hi2), .val (.ref b5), .val (.int lo1), .val (.int lo2), .val (.int (1 : Int32)), .val (.int (lo1 + (1 : Int32))), .val (.int (lo2 + (1 : Int32))), .val (.int (1 : Int32)), .val (.int (1 : Int32)), .val (.int w55), .val (.int (1 : Int32)), .val (.int (if (lo2 + (1 : Int32)) = hi2 then (1 : Int32) else (0 : Int32))), .val (.int (1 : Int32)), .val (.int (if (lo1 + (1 : Int32)) = hi1 then (1 : Int32) else (0 : Int32)))] [(.int w55), (.int (if (lo1 + (1 : Int32)) = hi1 then (1 : Int32) else (0 : Int32)))])) tt
          refine XS.icmpNo X59.here hx rfl (hb hby at_389) rfl (teq (hw55.symm : (if (lo1 + (1 : Int32)) = hi1 then (1 : Int32) else (0 : Int32)) = w55)).2 ?_
          show Steps p.tables e below (T59.setTop (mkF m 392 #[.val (.int u0), .val (.int u1), .val (.int u2), .val (.int u3), .val (.int lo1), .val (.int hi1), .val (.int lo2), .val (.int hi2), .val (.ref b5), .val (.int lo1), .val (.int lo2), .val (.int (1 : Int32)), .val (.int (lo1 + (1 : Int32))), .val (.int (lo2 + (1 : Int32))), .val (.int (1 : Int32)), .val (.int (1 : Int32)), .val (.int w55), .val (.int (1 : Int32)), .val (.int (if (lo2 + (1 : Int32)) = hi2 then (1 : Int32) else (0 : Int32))), .val (.int (1 : Int32)), .val (.int (if (lo1 + (1 : Int32)) = hi1 then (1 : Int32) else (0 : Int32)))] [])) tt
          refine XS.iconst X59.here hx rfl (hb hby at_392) ?_
          show Steps p.tables e below (T59.setTop (mkF m 393 #[.val (.int u0), .val (.int u1), .val (.int u2), .val (.int u3), .val (.int lo1), .val (.int hi1), .val (.int lo2), .val (.int hi2), .val (.ref b5), .val (.int lo1), .val (.int lo2), .val (.int (1 : Int32)), .val (.int (lo1 + (1 : Int32))), .val (.int (lo2 + (1 : Int32))), .val (.int (1 : Int32)), .val (.int (1 : Int32)), .val (.int w55), .val (.int (1 : Int32)), .val (.int (if (lo2 + (1 : Int32)) = hi2 then (1 : Int32) else (0 : Int32))), .val (.int (1 : Int32)), .val (.int (if (lo1 + (1 : Int32)) = hi1 then (1 : Int32) else (0 : Int32)))] [(.int (1 : Int32))])) tt
          refine XS.goto X59.here hx rfl (pc0 := 393) (pc' := 397) rfl (hb hby at_393) (by decide) (by decide) ?_
          show Steps p.tables e below (T59.setTop (mkF m 397 #[.val (.int u0), .val (.int u1), .val (.int u2), .val (.int u3), .val (.int lo1), .val (.int hi1), .val (.int lo2), .val (.int hi2), .val (.ref b5), .val (.int lo1), .val (.int lo2), .val (.int (1 : Int32)), .val (.int (lo1 + (1 : Int32))), .val (.int (lo2 + (1 : Int32))), .val (.int (1 : Int32)), .val (.int (1 : Int32)), .val (.int w55), .val (.int (1 : Int32)), .val (.int (if (lo2 + (1 : Int32)) = hi2 then (1 : Int32) else (0 : Int32))), .val (.int (1 : Int32)), .val (.int (if (lo1 + (1 : Int32)) = hi1 then (1 : Int32) else (0 : Int32)))] [(.int (1 : Int32))])) tt
          refine XS.istore X59.here hx rfl (hb hby at_397) rfl (l' := #[.val (.int u0), .val (.int u1), .val (.int u2), .val (.int u3), .val (.int lo1), .val (.int hi1), .val (.int lo2), .val (.int hi2), .val (.ref b5), .val (.int lo1), .val (.int lo2), .val (.int (1 : Int32)), .val (.int (lo1 + (1 : Int32))), .val (.int (lo2 + (1 : Int32))), .val (.int (1 : Int32)), .val (.int (1 : Int32)), .val (.int w55), .val (.int (1 : Int32)), .val (.int (if (lo2 + (1 : Int32)) = hi2 then (1 : Int32) else (0 : Int32))), .val (.int (1 : Int32)), .val (.int (if (lo1 + (1 : Int32)) = hi1 then (1 : Int32) else (0 : Int32)))]) rfl ?_
          show Steps p.tables e below (T59.setTop (mkF m 399 #[.val (.int u0), .val (.int u1), .val (.int u2), .val (.int u3), .val (.int lo1), .val (.int hi1), .val (.int lo2), .val (.int hi2), .val (.ref b5), .val (.int lo1), .val (.int lo2), .val (.int (1 : Int32)), .val (.int (lo1 + (1 : Int32))), .val (.int (lo2 + (1 : Int32))), .val (.int (1 : Int32)), .val (.int (1 : Int32)), .val (.int w55), .val (.int (1 : Int32)), .val (.int (if (lo2 + (1 : Int32)) = hi2 then (1 : Int32) else (0 : Int32))), .val (.int (1 : Int32)), .val (.int (if (lo1 + (1 : Int32)) = hi1 then (1 : Int32) else (0 : Int32)))] [])) tt
          refine XS.iload X59.here hx rfl (hb hby at_399) rfl ?_
          exact kk
        exact Goal.retV X59 hx Bd.returns rfl (Or.inl ⟨rfl, Or.inr (Or.inl rfl), _, rfl⟩) (hb hby at_401) hlk e59 ⟨rfl, N59⟩ (by decide) (by decide)
    · refine Goal.to (B := T48.setTop (mkF m 272 #[.val (.int u0), .val (.int u1), .val (.int u2), .val (.int u3), .val (.int lo1), .val (.int hi1), .val (.int lo2), .val (.int hi2), .val (.ref b5), .val (.int lo1), .val (.int lo2), .val (.int (1 : Int32)), .val (.int lo1), .val (.int ((lo2 + (1 : Int32)) + (1 : Int32))), .val (.int (2 : Int32)), .val (.int (1 : Int32)), .val (.int w42), .val (.int (1 : Int32)), .val (.int (if (lo2 + (1 : Int32)) = hi2 then (1 : Int32) else (0 : Int32))), .unset, .unset] [(.int hi2), (.int ((lo2 + (1 : Int32)) + (1 : Int32)))])) (fun tt kk => ?_) ?_
      · show Steps p.tables e below (T48.setTop (mkF m 256 #[.val (.int u0), .val (.int u1), .val (.int u2), .val (.int u3), .val (.int lo1), .val (.int hi1), .val (.int lo2), .val (.int hi2), .val (.ref b5), .val (.int lo1), .val (.int lo2), .val (.int (1 : Int32)), .val (.int lo1), .val (.int (lo2 + (1 : Int32))), .val (.int (2 : Int32)), .val (.int (1 : Int32)), .val (.int w42), .val (.int (1 : Int32)), .val (.int (if (lo2 + (1 : Int32)) = hi2 then (1 : Int32) else (0 : Int32))), .unset, .unset] [(.int hi2), (.int (lo2 + (1 : Int32)))])) tt
        refine XS.icmpNo X48.here hx rfl (hb hby at_256) rfl (feq hc50).1 ?_
        show Steps p.tables e below (T48.setTop (mkF m 259 #[.val (.int u0), .val (.int u1), .val (.int u2), .val (.int u3), .val (.int lo1), .val (.int hi1), .val (.int lo2), .val (.int hi2), .val (.ref b5), .val (.int lo1), .val (.int lo2), .val (.int (1 : Int32)), .val (.int lo1), .val (.int (lo2 + (1 : Int32))), .val (.int (2 : Int32)), .val (.int (1 : Int32)), .val (.int w42), .val (.int (1 : Int32)), .val (.int (if (lo2 + (1 : Int32)) = hi2 then (1 : Int32) else (0 : Int32))), .unset, .unset] [])) tt
        refine XS.iload X48.here hx rfl (hb hby at_259) rfl ?_
        show Steps p.tables e below (T48.setTop (mkF m 261 #[.val (.int u0), .val (.int u1), .val (.int u2), .val (.int u3), .val (.int lo1), .val (.int hi1), .val (.int lo2), .val (.int hi2), .val (.ref b5), .val (.int lo1), .val (.int lo2), .val (.int (1 : Int32)), .val (.int lo1), .val (.int (lo2 + (1 : Int32))), .val (.int (2 : Int32)), .val (.int (1 : Int32)), .val (.int w42), .val (.int (1 : Int32)), .val (.int (if (lo2 + (1 : Int32)) = hi2 then (1 : Int32) else (0 : Int32))), .unset, .unset] [(.int (lo2 + (1 : Int32)))])) tt
        refine XS.iconst X48.here hx rfl (hb hby at_261) ?_
        show Steps p.tables e below (T48.setTop (mkF m 262 #[.val (.int u0), .val (.int u1), .val (.int u2), .val (.int u3), .val (.int lo1), .val (.int hi1), .val (.int lo2), .val (.int hi2), .val (.ref b5), .val (.int lo1), .val (.int lo2), .val (.int (1 : Int32)), .val (.int lo1), .val (.int (lo2 + (1 : Int32))), .val (.int (2 : Int32)), .val (.int (1 : Int32)), .val (.int w42), .val (.int (1 : Int32)), .val (.int (if (lo2 + (1 : Int32)) = hi2 then (1 : Int32) else (0 : Int32))), .unset, .unset] [(.int (1 : Int32)), (.int (lo2 + (1 : Int32)))])) tt
        refine XS.iadd X48.here hx rfl (hb hby at_262) rfl ?_
        show Steps p.tables e below (T48.setTop (mkF m 263 #[.val (.int u0), .val (.int u1), .val (.int u2), .val (.int u3), .val (.int lo1), .val (.int hi1), .val (.int lo2), .val (.int hi2), .val (.ref b5), .val (.int lo1), .val (.int lo2), .val (.int (1 : Int32)), .val (.int lo1), .val (.int (lo2 + (1 : Int32))), .val (.int (2 : Int32)), .val (.int (1 : Int32)), .val (.int w42), .val (.int (1 : Int32)), .val (.int (if (lo2 + (1 : Int32)) = hi2 then (1 : Int32) else (0 : Int32))), .unset, .unset] [(.int ((lo2 + (1 : Int32)) + (1 : Int32)))])) tt
        refine XS.istore X48.here hx rfl (hb hby at_263) rfl (l' := #[.val (.int u0), .val (.int u1), .val (.int u2), .val (.int u3), .val (.int lo1), .val (.int hi1), .val (.int lo2), .val (.int hi2), .val (.ref b5), .val (.int lo1), .val (.int lo2), .val (.int (1 : Int32)), .val (.int lo1), .val (.int ((lo2 + (1 : Int32)) + (1 : Int32))), .val (.int (2 : Int32)), .val (.int (1 : Int32)), .val (.int w42), .val (.int (1 : Int32)), .val (.int (if (lo2 + (1 : Int32)) = hi2 then (1 : Int32) else (0 : Int32))), .unset, .unset]) rfl ?_
        show Steps p.tables e below (T48.setTop (mkF m 265 #[.val (.int u0), .val (.int u1), .val (.int u2), .val (.int u3), .val (.int lo1), .val (.int hi1), .val (.int lo2), .val (.int hi2), .val (.ref b5), .val (.int lo1), .val (.int lo2), .val (.int (1 : Int32)), .val (.int lo1), .val (.int ((lo2 + (1 : Int32)) + (1 : Int32))), .val (.int (2 : Int32)), .val (.int (1 : Int32)), .val (.int w42), .val (.int (1 : Int32)), .val (.int (if (lo2 + (1 : Int32)) = hi2 then (1 : Int32) else (0 : Int32))), .unset, .unset] [])) tt
        refine XS.iconst X48.here hx rfl (hb hby at_265) ?_
        show Steps p.tables e below (T48.setTop (mkF m 266 #[.val (.int u0), .val (.int u1), .val (.int u2), .val (.int u3), .val (.int lo1), .val (.int hi1), .val (.int lo2), .val (.int hi2), .val (.ref b5), .val (.int lo1), .val (.int lo2), .val (.int (1 : Int32)), .val (.int lo1), .val (.int ((lo2 + (1 : Int32)) + (1 : Int32))), .val (.int (2 : Int32)), .val (.int (1 : Int32)), .val (.int w42), .val (.int (1 : Int32)), .val (.int (if (lo2 + (1 : Int32)) = hi2 then (1 : Int32) else (0 : Int32))), .unset, .unset] [(.int (1 : Int32))])) tt
        refine XS.istore X48.here hx rfl (hb hby at_266) rfl (l' := #[.val (.int u0), .val (.int u1), .val (.int u2), .val (.int u3), .val (.int lo1), .val (.int hi1), .val (.int lo2), .val (.int hi2), .val (.ref b5), .val (.int lo1), .val (.int lo2), .val (.int (1 : Int32)), .val (.int lo1), .val (.int ((lo2 + (1 : Int32)) + (1 : Int32))), .val (.int (2 : Int32)), .val (.int (1 : Int32)), .val (.int w42), .val (.int (1 : Int32)), .val (.int (if (lo2 + (1 : Int32)) = hi2 then (1 : Int32) else (0 : Int32))), .unset, .unset]) rfl ?_
        show Steps p.tables e below (T48.setTop (mkF m 268 #[.val (.int u0), .val (.int u1), .val (.int u2), .val (.int u3), .val (.int lo1), .val (.int hi1), .val (.int lo2), .val (.int hi2), .val (.ref b5), .val (.int lo1), .val (.int lo2), .val (.int (1 : Int32)), .val (.int lo1), .val (.int ((lo2 + (1 : Int32)) + (1 : Int32))), .val (.int (2 : Int32)), .val (.int (1 : Int32)), .val (.int w42), .val (.int (1 : Int32)), .val (.int (if (lo2 + (1 : Int32)) = hi2 then (1 : Int32) else (0 : Int32))), .unset, .unset] [])) tt
        refine XS.iload X48.here hx rfl (hb hby at_268) rfl ?_
        show Steps p.tables e below (T48.setTop (mkF m 270 #[.val (.int u0), .val (.int u1), .val (.int u2), .val (.int u3), .val (.int lo1), .val (.int hi1), .val (.int lo2), .val (.int hi2), .val (.ref b5), .val (.int lo1), .val (.int lo2), .val (.int (1 : Int32)), .val (.int lo1), .val (.int ((lo2 + (1 : Int32)) + (1 : Int32))), .val (.int (2 : Int32)), .val (.int (1 : Int32)), .val (.int w42), .val (.int (1 : Int32)), .val (.int (if (lo2 + (1 : Int32)) = hi2 then (1 : Int32) else (0 : Int32))), .unset, .unset] [(.int ((lo2 + (1 : Int32)) + (1 : Int32)))])) tt
        refine XS.iload X48.here hx rfl (hb hby at_270) rfl ?_
        exact kk
      obtain ⟨w62, hw62⟩ : ∃ z : Int32, z = if ((lo2 + (1 : Int32)) + (1 : Int32)) = hi2 then (1 : Int32) else (0 : Int32) := ⟨_, rfl⟩
      refine Goal.to (B := T48.setTop (mkF m 280 #[.val (.int u0), .val (.int u1), .val (.int u2), .val (.int u3), .val (.int lo1), .val (.int hi1), .val (.int lo2), .val (.int hi2), .val (.ref b5), .val (.int lo1), .val (.int lo2), .val (.int (1 : Int32)), .val (.int lo1), .val (.int ((lo2 + (1 : Int32)) + (1 : Int32))), .val (.int (2 : Int32)), .val (.int (1 : Int32)), .val (.int w42), .val (.int (1 : Int32)), .val (.int (if (lo2 + (1 : Int32)) = hi2 then (1 : Int32) else (0 : Int32))), .unset, .unset] [(.int w62)])) (fun tt kk => ?_) ?_
      · by_cases hc61 : ((lo2 + (1 : Int32)) + (1 : Int32)) = hi2
        · have qw62 : w62 = (1 : Int32) := by rw [hw62, if_pos hc61]
          rw [qw62] at kk
          show Steps p.tables e below (T48.setTop (mkF m 272 #[.val (.int u0), .val (.int u1), .val (.int u2), .val (.int u3), .val (.int lo1), .val (.int hi1), .val (.int lo2), .val (.int hi2), .val (.ref b5), .val (.int lo1), .val (.int lo2), .val (.int (1 : Int32)), .val (.int lo1), .val (.int ((lo2 + (1 : Int32)) + (1 : Int32))), .val (.int (2 : Int32)), .val (.int (1 : Int32)), .val (.int w42), .val (.int (1 : Int32)), .val (.int (if (lo2 + (1 : Int32)) = hi2 then (1 : Int32) else (0 : Int32))), .unset, .unset] [(.int hi2), (.int ((lo2 + (1 : Int32)) + (1 : Int32)))])) tt
          refine XS.icmpNo X48.here hx rfl (hb hby at_272) rfl (teq hc61).2 ?_
          show Steps p.tables e below (T48.setTop (mkF m 275 #[.val (.int u0), .val (.int u1), .val (.int u2), .val (.int u3), .val (.int lo1), .val (.int hi1), .val (.int lo2), .val (.int hi2), .val (.ref b5), .val (.int lo1), .val (.int lo2), .val (.int (1 : Int32)), .val (.int lo1), .val (.int ((lo2 + (1 : Int32)) + (1 : Int32))), .val (.int (2 : Int32)), .val (.int (1 : Int32)), .val (.int w42), .val (.int (1 : Int32)), .val (.int (if (lo2 + (1 : Int32)) = hi2 then (1 : Int32) else (0 : Int32))), .unset, .unset] [])) tt
          refine XS.iconst X48.here hx rfl (hb hby at_275) ?_
          show Steps p.tables e below (T48.setTop (mkF m 276 #[.val (.int u0), .val (.int u1), .val (.int u2), .val (.int u3), .val (.int lo1), .val (.int hi1), .val (.int lo2), .val (.int hi2), .val (.ref b5), .val (.int lo1), .val (.int lo2), .val (.int (1 : Int32)), .val (.int lo1), .val (.int ((lo2 + (1 : Int32)) + (1 : Int32))), .val (.int (2 : Int32)), .val (.int (1 : Int32)), .val (.int w42), .val (.int (1 : Int32)), .val (.int (if (lo2 + (1 : Int32)) = hi2 then (1 : Int32) else (0 : Int32))), .unset, .unset] [(.int (1 : Int32))])) tt
          refine XS.goto X48.here hx rfl (pc0 := 276) (pc' := 280) rfl (hb hby at_276) (by decide) (by decide) ?_
          exact kk
        · have qw62 : w62 = (0 : Int32) := by rw [hw62, if_neg hc61]
          rw [qw62] at kk
          show Steps p.tables e below (T48.setTop (mkF m 272 #[.val (.int u0), .val (.int u1), .val (.int u2), .val (.int u3), .val (.int lo1), .val (.int hi1), .val (.int lo2), .val (.int hi2), .val (.ref b5), .val (.int lo1), .val (.int lo2), .val (.int (1 : Int32)), .val (.int lo1), .val (.int ((lo2 + (1 : Int32)) + (1 : Int32))), .val (.int (2 : Int32)), .val (.int (1 : Int32)), .val (.int w42), .val (.int (1 : Int32)), .val (.int (if (lo2 + (1 : Int32)) = hi2 then (1 : Int32) else (0 : Int32))), .unset, .unset] [(.int hi2), (.int ((lo2 + (1 : Int32)) + (1 : Int32)))])) tt
          refine XS.icmpYes X48.here hx rfl (pc0 := 272) (pc' := 279) rfl (hb hby at_272) rfl (feq hc61).2 (by decide) (by decide) ?_
          show Steps p.tables e below (T48.setTop (mkF m 279 #[.val (.int u0), .val (.int u1), .val (.int u2), .val (.int u3), .val (.int lo1), .val (.int hi1), .val (.int lo2), .val (.int hi2), .val (.ref b5), .val (.int lo1), .val (.int lo2), .val (.int (1 : Int32)), .val (.int lo1), .val (.int ((lo2 + (1 : Int32)) + (1 : Int32))), .val (.int (2 : Int32)), .val (.int (1 : Int32)), .val (.int w42), .val (.int (1 : Int32)), .val (.int (if (lo2 + (1 : Int32)) = hi2 then (1 : Int32) else (0 : Int32))), .unset, .unset] [])) tt
          refine XS.iconst X48.here hx rfl (hb hby at_279) ?_
          exact kk
      refine Goal.to (B := T48.setTop (mkF m 361 #[.val (.int u0), .val (.int u1), .val (.int u2), .val (.int u3), .val (.int lo1), .val (.int hi1), .val (.int lo2), .val (.int hi2), .val (.ref b5), .val (.int lo1), .val (.int lo2), .val (.int (1 : Int32)), .val (.int lo1), .val (.int ((lo2 + (1 : Int32)) + (1 : Int32))), .val (.int (2 : Int32)), .val (.int (1 : Int32)), .val (.int w62), .val (.int (1 : Int32)), .val (.int (if (lo2 + (1 : Int32)) = hi2 then (1 : Int32) else (0 : Int32))), .unset, .unset] [(.ref b5)])) (fun tt kk => ?_) ?_
      · show Steps p.tables e below (T48.setTop (mkF m 280 #[.val (.int u0), .val (.int u1), .val (.int u2), .val (.int u3), .val (.int lo1), .val (.int hi1), .val (.int lo2), .val (.int hi2), .val (.ref b5), .val (.int lo1), .val (.int lo2), .val (.int (1 : Int32)), .val (.int lo1), .val (.int ((lo2 + (1 : Int32)) + (1 : Int32))), .val (.int (2 : Int32)), .val (.int (1 : Int32)), .val (.int w42), .val (.int (1 : Int32)), .val (.int (if (lo2 + (1 : Int32)) = hi2 then (1 : Int32) else (0 : Int32))), .unset, .unset] [(.int w62)])) tt
        refine XS.istore X48.here hx rfl (hb hby at_280) rfl (l' := #[.val (.int u0), .val (.int u1), .val (.int u2), .val (.int u3), .val (.int lo1), .val (.int hi1), .val (.int lo2), .val (.int hi2), .val (.ref b5), .val (.int lo1), .val (.int lo2), .val (.int (1 : Int32)), .val (.int lo1), .val (.int ((lo2 + (1 : Int32)) + (1 : Int32))), .val (.int (2 : Int32)), .val (.int (1 : Int32)), .val (.int w62), .val (.int (1 : Int32)), .val (.int (if (lo2 + (1 : Int32)) = hi2 then (1 : Int32) else (0 : Int32))), .unset, .unset]) rfl ?_
        show Steps p.tables e below (T48.setTop (mkF m 282 #[.val (.int u0), .val (.int u1), .val (.int u2), .val (.int u3), .val (.int lo1), .val (.int hi1), .val (.int lo2), .val (.int hi2), .val (.ref b5), .val (.int lo1), .val (.int lo2), .val (.int (1 : Int32)), .val (.int lo1), .val (.int ((lo2 + (1 : Int32)) + (1 : Int32))), .val (.int (2 : Int32)), .val (.int (1 : Int32)), .val (.int w62), .val (.int (1 : Int32)), .val (.int (if (lo2 + (1 : Int32)) = hi2 then (1 : Int32) else (0 : Int32))), .unset, .unset] [])) tt
        refine XS.goto X48.here hx rfl (pc0 := 282) (pc' := 359) rfl (hb hby at_282) (by decide) (by decide) ?_
        show Steps p.tables e below (T48.setTop (mkF m 359 #[.val (.int u0), .val (.int u1), .val (.int u2), .val (.int u3), .val (.int lo1), .val (.int hi1), .val (.int lo2), .val (.int hi2), .val (.ref b5), .val (.int lo1), .val (.int lo2), .val (.int (1 : Int32)), .val (.int lo1), .val (.int ((lo2 + (1 : Int32)) + (1 : Int32))), .val (.int (2 : Int32)), .val (.int (1 : Int32)), .val (.int w62), .val (.int (1 : Int32)), .val (.int (if (lo2 + (1 : Int32)) = hi2 then (1 : Int32) else (0 : Int32))), .unset, .unset] [])) tt
        refine XS.aload X48.here hx rfl (hb hby at_359) rfl rfl ?_
        exact kk
      obtain ⟨cq63, kq63, q63a, q63b, q63c⟩ := isOf hZ e48 f49
      obtain ⟨_, _, ⟨T63, L63, k63, n63⟩, -, X63, ⟨Lc63, hQ63, l63, y63, z63⟩, st63⟩ := X48.virtualBack hx (y := (⟨"com/example/deferra/deferra/engine/Trail", "advance", "()Z"⟩ : MethodName)) (z := (⟨"com/example/deferra/deferra/engine/Trail", "advance", "()Z"⟩ : MethodName)) hown (mvT hZ (hw _ (mw 50 rfl))) (mvT hZ (hw _ (mw 51 rfl))) (notFace_of_selects (args := #[]) (mvT hZ (hw _ (mw 53 rfl)))) (mvT hZ (hw _ (mw 53 rfl))) (mvT hZ (hw _ (mw 52 rfl))) (by decide) (backOf (W := 0) (rmav2A l Z a0 hw [] b5 th_7 tv_7 hi1 hi2 lo1 (lo2 + (1 : Int32)) T45.heap n0 f47 f49 P45_0 P45_1 P45_2 P45_3 P45_4 f46 P45_5 g_b5 g_tv_7 ne_b5_tv_7 ne_b5_th_7 ne7_th_tv (by assumption)) hZ (hw _ (mw 54 rfl)) (hw _ (mw 9 rfl)) (by decide) (by decide)) q63a q63c (g := (mkF m 361 #[.val (.int u0), .val (.int u1), .val (.int u2), .val (.int u3), .val (.int lo1), .val (.int hi1), .val (.int lo2), .val (.int hi2), .val (.ref b5), .val (.int lo1), .val (.int lo2), .val (.int (1 : Int32)), .val (.int lo1), .val (.int ((lo2 + (1 : Int32)) + (1 : Int32))), .val (.int (2 : Int32)), .val (.int (1 : Int32)), .val (.int w62), .val (.int (1 : Int32)), .val (.int (if (lo2 + (1 : Int32)) = hi2 then (1 : Int32) else (0 : Int32))), .unset, .unset] [(.ref b5)])) rfl (by rw [hml]; rfl) (Steps.refl _) (argsL := []) (rest := []) (lenOf pd_4 rfl) rfl (by show 2 * 0 + _ ≤ _; exact Nat.le_of_eq rfl) (hb hby at_361) (fun _ _ => ⟨rfl, e48, (by decide : 5 + 0 ≤ _), (by decide : 78 + 0 ≤ _)⟩)
      dsimp only [Pt.U, Pt.locs, Pt.cells, Pt.slots] at X63 l63 y63 z63 st63 hQ63
      subst l63 y63 z63
      obtain ⟨rfl, N63q, K63, P63_0, P63_1, P63_2, P63_3, P63_4, P63_5⟩ := hQ63
      have N63 := Fr.app N48 N63q
      refine Goal.tr (B := T63.setTop (mkF m 364 #[.val (.int u0), .val (.int u1), .val (.int u2), .val (.int u3), .val (.int lo1), .val (.int hi1), .val (.int lo2), .val (.int hi2), .val (.ref b5), .val (.int lo1), .val (.int lo2), .val (.int (1 : Int32)), .val (.int lo1), .val (.int ((lo2 + (1 : Int32)) + (1 : Int32))), .val (.int (2 : Int32)), .val (.int (1 : Int32)), .val (.int w62), .val (.int (1 : Int32)), .val (.int (if (lo2 + (1 : Int32)) = hi2 then (1 : Int32) else (0 : Int32))), .unset, .unset] [(.int (1 : Int32))])) st63 ?_
      refine Goal.to (B := T63.setTop (mkF m 368 #[.val (.int u0), .val (.int u1), .val (.int u2), .val (.int u3), .val (.int lo1), .val (.int hi1), .val (.int lo2), .val (.int hi2), .val (.ref b5), .val (.int lo1), .val (.int lo2), .val (.int (1 : Int32)), .val (.int lo1), .val (.int ((lo2 + (1 : Int32)) + (1 : Int32))), .val (.int (2 : Int32)), .val (.int (1 : Int32)), .val (.int w62), .val (.int (1 : Int32)), .val (.int (if (lo2 + (1 : Int32)) = hi2 then (1 : Int32) else (0 : Int32))), .val (.int (1 : Int32)), .unset] [(.ref b5)])) (fun tt kk => ?_) ?_
      · show Steps p.tables e below (T63.setTop (mkF m 364 #[.val (.int u0), .val (.int u1), .val (.int u2), .val (.int u3), .val (.int lo1), .val (.int hi1), .val (.int lo2), .val (.int hi2), .val (.ref b5), .val (.int lo1), .val (.int lo2), .val (.int (1 : Int32)), .val (.int lo1), .val (.int ((lo2 + (1 : Int32)) + (1 : Int32))), .val (.int (2 : Int32)), .val (.int (1 : Int32)), .val (.int w62), .val (.int (1 : Int32)), .val (.int (if (lo2 + (1 : Int32)) = hi2 then (1 : Int32) else (0 : Int32))), .unset, .unset] [(.int (1 : Int32))])) tt
        refine XS.istore X63.here hx rfl (hb hby at_364) rfl (l' := #[.val (.int u0), .val (.int u1), .val (.int u2), .val (.int u3), .val (.int lo1), .val (.int hi1), .val (.int lo2), .val (.int hi2), .val (.ref b5), .val (.int lo1), .val (.int lo2), .val (.int (1 : Int32)), .val (.int lo1), .val (.int ((lo2 + (1 : Int32)) + (1 : Int32))), .val (.int (2 : Int32)), .val (.int (1 : Int32)), .val (.int w62), .val (.int (1 : Int32)), .val (.int (if (lo2 + (1 : Int32)) = hi2 then (1 : Int32) else (0 : Int32))), .val (.int (1 : Int32)), .unset]) rfl ?_
        show Steps p.tables e below (T63.setTop (mkF m 366 #[.val (.int u0), .val (.int u1), .val (.int u2), .val (.int u3), .val (.int lo1), .val (.int hi1), .val (.int lo2), .val (.int hi2), .val (.ref b5), .val (.int lo1), .val (.int lo2), .val (.int (1 : Int32)), .val (.int lo1), .val (.int ((lo2 + (1 : Int32)) + (1 : Int32))), .val (.int (2 : Int32)), .val (.int (1 : Int32)), .val (.int w62), .val (.int (1 : Int32)), .val (.int (if (lo2 + (1 : Int32)) = hi2 then (1 : Int32) else (0 : Int32))), .val (.int (1 : Int32)), .unset] [])) tt
        refine XS.aload X63.here hx rfl (hb hby at_366) rfl rfl ?_
        exact kk
      have f64 : Ary Z T63.heap th_7 .int [(.int hi1), (.int hi2), (.int (0 : Int32)), (.int (0 : Int32)), (.int (0 : Int32)), (.int (0 : Int32)), (.int (0 : Int32)), (.int (0 : Int32)), (.int (0 : Int32)), (.int (0 : Int32)), (.int (0 : Int32)), (.int (0 : Int32)), (.int (0 : Int32)), (.int (0 : Int32)), (.int (0 : Int32)), (.int (0 : Int32))] := (f46.keep K63 (ninS (Ne.symm ne_b5_th_7) (ninS ne7_th_tv nin0)))
      have f65 : n0 ≤ T63.heap.size := (Nat.le_trans f47 K63.1)
      have f67 : Exa Z T63.heap b5 "com/example/deferra/deferra/engine/Trail" := (f49.keep K63)
      obtain ⟨cq66, kq66, q66a, q66b, q66c⟩ := isOf hZ rfl f67
      obtain ⟨_, _, ⟨T66, L66, k66, n66⟩, -, X66, ⟨Lc66, hQ66, l66, y66, z66⟩, st66⟩ := X63.virtualBack hx (y := (⟨"com/example/deferra/deferra/engine/Trail", "changeIsLast", "()Z"⟩ : MethodName)) (z := (⟨"com/example/deferra/deferra/engine/Trail", "changeIsLast", "()Z"⟩ : MethodName)) hown (mvT hZ (hw _ (mw 61 rfl))) (mvT hZ (hw _ (mw 62 rfl))) (notFace_of_selects (args := #[]) (mvT hZ (hw _ (mw 64 rfl)))) (mvT hZ (hw _ (mw 64 rfl))) (mvT hZ (hw _ (mw 63 rfl))) (by decide) (backOf (W := 0) (rmcl2 l Z a0 hw [] b5 th_7 tv_7 hi1 hi2 lo1 ((lo2 + (1 : Int32)) + (1 : Int32)) T63.heap n0 f65 P63_1 P63_2 P63_3 f64 P63_5) hZ (hw _ (mw 65 rfl)) (hw _ (mw 9 rfl)) (by decide) (by decide)) q66a q66c (g := (mkF m 368 #[.val (.int u0), .val (.int u1), .val (.int u2), .val (.int u3), .val (.int lo1), .val (.int hi1), .val (.int lo2), .val (.int hi2), .val (.ref b5), .val (.int lo1), .val (.int lo2), .val (.int (1 : Int32)), .val (.int lo1), .val (.int ((lo2 + (1 : Int32)) + (1 : Int32))), .val (.int (2 : Int32)), .val (.int (1 : Int32)), .val (.int w62), .val (.int (1 : Int32)), .val (.int (if (lo2 + (1 : Int32)) = hi2 then (1 : Int32) else (0 : Int32))), .val (.int (1 : Int32)), .unset] [(.ref b5)])) rfl (by rw [hml]; rfl) (Steps.refl _) (argsL := []) (rest := []) (lenOf pd_4 rfl) rfl (by show 2 * 0 + _ ≤ _; exact Nat.le_of_eq rfl) (hb hby at_368) (fun _ _ => ⟨rfl, rfl, (by decide : 5 + 0 ≤ _), (by decide : 78 + 0 ≤ _)⟩)
      dsimp only [Pt.U, Pt.locs, Pt.cells, Pt.slots] at X66 l66 y66 z66 st66 hQ66
      subst l66 y66 z66
      obtain ⟨rfl, N66q, e66⟩ := hQ66
      have N66 := Fr.app N63 N66q
      refine Goal.tr (B := T66.setTop (mkF m 371 #[.val (.int u0), .val (.int u1), .val (.int u2), .val (.int u3), .val (.int lo1), .val (.int hi1), .val (.int lo2), .val (.int hi2), .val (.ref b5), .val (.int lo1), .val (.int lo2), .val (.int (1 : Int32)), .val (.int lo1), .val (.int ((lo2 + (1 : Int32)) + (1 : Int32))), .val (.int (2 : Int32)), .val (.int (1 : Int32)), .val (.int w62), .val (.int (1 : Int32)), .val (.int (if (lo2 + (1 : Int32)) = hi2 then (1 : Int32) else (0 : Int32))), .val (.int (1 : Int32)), .unset] [(.int (if ((lo2 + (1 : Int32)) + (1 : Int32)) = hi2 then (1 : Int32) else (0 : Int32)))])) st66 ?_
      refine Goal.to (B := T66.setTop (mkF m 401 #[.val (.int u0), .val (.int u1), .val (.int u2), .val (.int u3), .val (.int lo1), .val (.int hi1), .val (.int lo2), .val (.int hi2), .val (.ref b5), .val (.int lo1), .val (.int lo2), .val (.int (1 : Int32)), .val (.int lo1), .val (.int ((lo2 + (1 : Int32)) + (1 : Int32))), .val (.int (2 : Int32)), .val (.int (1 : Int32)), .val (.int w62), .val (.int (1 : Int32)), .val (.int (if (lo2 + (1 : Int32)) = hi2 then (1 : Int32) else (0 : Int32))), .val (.int (1 : Int32)), .val (.int (if ((lo2 + (1 : Int32)) + (1 : Int32)) = hi2 then (1 : Int32) else (0 : Int32)))] [(.int (1 : Int32))])) (fun tt kk => ?_) ?_
      · show Steps p.tables e below (T66.setTop (mkF m 371 #[.val (.int u0), .val (.int u1), .val (.int u2), .val (.int u3), .val (.int lo1), .val (.int hi1), .val (.int lo2), .val (.int hi2), .val (.ref b5), .val (.int lo1), .val (.int lo2), .val (.int (1 : Int32)), .val (.int lo1), .val (.int ((lo2 + (1 : Int32)) + (1 : Int32))), .val (.int (2 : Int32)), .val (.int (1 : Int32)), .val (.int w62), .val (.int (1 : Int32)), .val (.int (if (lo2 + (1 : Int32)) = hi2 then (1 : Int32) else (0 : Int32))), .val (.int (1 : Int32)), .unset] [(.int (if ((lo2 + (1 : Int32)) + (1 : Int32)) = hi2 then (1 : Int32) else (0 : Int32)))])) tt
        refine XS.istore X66.here hx rfl (hb hby at_371) rfl (l' := #[.val (.int u0), .val (.int u1), .val (.int u2), .val (.int u3), .val (.int lo1), .val (.int hi1), .val (.int lo2), .val (.int hi2), .val (.ref b5), .val (.int lo1), .val (.int lo2), .val (.int (1 : Int32)), .val (.int lo1), .val (.int ((lo2 + (1 : Int32)) + (1 : Int32))), .val (.int (2 : Int32)), .val (.int (1 : Int32)), .val (.int w62), .val (.int (1 : Int32)), .val (.int (if (lo2 + (1 : Int32)) = hi2 then (1 : Int32) else (0 : Int32))), .val (.int (1 : Int32)), .val (.int (if ((lo2 + (1 : Int32)) + (1 : Int32)) = hi2 then (1 : Int32) else (0 : Int32)))]) rfl ?_
        show Steps p.tables e below (T66.setTop (mkF m 373 #[.val (.int u0), .val (.int u1), .val (.int u2), .val (.int u3), .val (.int lo1), .val (.int hi1), .val (.int lo2), .val (.int hi2), .val (.ref b5), .val (.int lo1), .val (.int lo2), .val (.int (1 : Int32)), .val (.int lo1), .val (.int ((lo2 + (1 : Int32)) + (1 : Int32))), .val (.int (2 : Int32)), .val (.int (1 : Int32)), .val (.int w62), .val (.int (1 : Int32)), .val (.int (if (lo2 + (1 : Int32)) = hi2 then (1 : Int32) else (0 : Int32))), .val (.int (1 : Int32)), .val (.int (if ((lo2 + (1 : Int32)) + (1 : Int32)) = hi2 then (1 : Int32) else (0 : Int32)))] [])) tt
        refine XS.iload X66.here hx rfl (hb hby at_373) rfl ?_
        show Steps p.tables e below (T66.setTop (mkF m 375 #[.val (.int u0), .val (.int u1), .val (.int u2), .val (.int u3), .val (.int lo1), .val (.int hi1), .val (.int lo2), .val (.int hi2), .val (.ref b5), .val (.int lo1), .val (.int lo2), .val (.int (1 : Int32)), .val (.int lo1), .val (.int ((lo2 + (1 : Int32)) + (1 : Int32))), .val (.int (2 : Int32)), .val (.int (1 : Int32)), .val (.int w62), .val (.int (1 : Int32)), .val (.int (if (lo2 + (1 : Int32)) = hi2 then (1 : Int32) else (0 : Int32))), .val (.int (1 : Int32)), .val (.int (if ((lo2 + (1 : Int32)) + (1 : Int32)) = hi2 then (1 : Int32) else (0 : Int32)))] [(.int (1 : Int32))])) tt
        refine XS.ifNo X66.here hx rfl (hb hby at_375) rfl ((if0 _ _).trans (feq ((by decide) : ¬ ((1 : Int32) = (0 : Int32)))).1) ?_
        show Steps p.tables e below (T66.setTop (mkF m 378 #[.val (.int u0), .val (.int u1), .val (.int u2), .val (.int u3), .val (.int lo1), .val (.int hi1), .val (.int lo2), .val (.int hi2), .val (.ref b5), .val (.int lo1), .val (.int lo2), .val (.int (1 : Int32)), .val (.int lo1), .val (.int ((lo2 + (1 : Int32)) + (1 : Int32))), .val (.int (2 : Int32)), .val (.int (1 : Int32)), .val (.int w62), .val (.int (1 : Int32)), .val (.int (if (lo2 + (1 : Int32)) = hi2 then (1 : Int32) else (0 : Int32))), .val (.int (1 : Int32)), .val (.int (if ((lo2 + (1 : Int32)) + (1 : Int32)) = hi2 then (1 : Int32) else (0 : Int32)))] [])) tt
        refine XS.iload X66.here hx rfl (hb hby at_378) rfl ?_
        show Steps p.tables e below (T66.setTop (mkF m 380 #[.val (.int u0), .val (.int u1), .val (.int u2), .val (.int u3), .val (.int lo1), .val (.int hi1), .val (.int lo2), .val (.int hi2), .val (.ref b5), .val (.int lo1), .val (.int lo2), .val (.int (1 : Int32)), .val (.int lo1), .val (.int ((lo2 + (1 : Int32)) + (1 : Int32))), .val (.int (2 : Int32)), .val (.int (1 : Int32)), .val (.int w62), .val (.int (1 : Int32)), .val (.int (if (lo2 + (1 : Int32)) = hi2 then (1 : Int32) else (0 : Int32))), .val (.int (1 : Int32)), .val (.int (if ((lo2 + (1 : Int32)) + (1 : Int32)) = hi2 then (1 : Int32) else (0 : Int32)))] [(.int (1 : Int32))])) tt
        refine XS.iload X66.here hx rfl (hb hby at_380) rfl ?_
        show Steps p.tables e below (T66.setTop (mkF m 382 #[.val (.int u0), .val (.int u1), .val (.int u2), .val (.int u3), .val (.int lo1), .val (.int hi1), .val (.int lo2), .val (.int hi2), .val (.ref b5), .val (.int lo1), .val (.int lo2), .val (.int (1 : Int32)), .val (.int lo1), .val (.int ((lo2 + (1 : Int32)) + (1 : Int32))), .val (.int (2 : Int32)), .val (.int (1 : Int32)), .val (.int w62), .val (.int (1 : Int32)), .val (.int (if (lo2 + (1 : Int32)) = hi2 then (1 : Int32) else (0 : Int32))), .val (.int (1 : Int32)), .val (.int (if ((lo2 + (1 : Int32)) + (1 : Int32)) = hi2 then (1 : Int32) else (0 : Int32)))] [(.int (1 : Int32)), (.int (1 : Int32))])) tt
        refine XS.icmpNo X66.here hx rfl (hb hby at_382) rfl (teq (rfl : (1 : Int32) = (1 : Int32))).2 ?_
        show Steps p.tables e below (T66.setTop (mkF m 385 #[.val (.int u0), .val (.int u1), .val (.int u2), .val (.int u3), .val (.int lo1), .val (.int hi1), .val (.int lo2), .val (.int hi2), .val (.ref b5), .val (.int lo1), .val (.int lo2), .val (.int (1 : Int32)), .val (.int lo1), .val (.int ((lo2 + (1 : Int32)) + (1 : Int32))), .val (.int (2 : Int32)), .val (.int (1 : Int32)), .val (.int w62), .val (.int (1 : Int32)), .val (.int (if (lo2 + (1 : Int32)) = hi2 then (1 : Int32) else (0 : Int32))), .val (.int (1 : Int32)), .val (.int (if ((lo2 + (1 : Int32)) + (1 : Int32)) = hi2 then (1 : Int32) else (0 : Int32)))] [])) tt
        refine XS.iload X66.here hx rfl (hb hby at_385) rfl ?_
        show Steps p.tables e below (T66.setTop (mkF m 387 #[.val (.int u0), .val (.int u1), .val (.int u2), .val (.int u3), .val (.int lo1), .val (.int hi1), .val (.int lo2), .val (.int hi2), .val (.ref b5), .val (.int lo1), .val (.int lo2), .val (.int (1 : Int32)), .val (.int lo1), .val (.int ((lo2 + (1 : Int32)) + (1 : Int32))), .val (.int (2 : Int32)), .val (.int (1 : Int32)), .val (.int w62), .val (.int (1 : Int32)), .val (.int (if (lo2 + (1 : Int32)) = hi2 then (1 : Int32) else (0 : Int32))), .val (.int (1 : Int32)), .val (.int (if ((lo2 + (1 : Int32)) + (1 : Int32)) = hi2 then (1 : Int32) else (0 : Int32)))] [(.int (if ((lo2 + (1 : Int32)) + (1 : Int32)) = hi2 then (1 : Int32) else (0 : Int32)))])) tt
        refine XS.iload X66.here hx rfl (hb hby at_387) rfl ?_
        show Steps p.tables e below (T66.setTop (mkF m 389 #[.val (.int u0), .val (.int u1), .val (.int u2), .val (.int u3), .val (.int lo1), .val (.int hi1), .val (.int lo2), .val (.int hi2), .val (.ref b5), .val (.int lo1), .val (.int lo2), .val (.int (1 : Int32)), .val (.int lo1), .val (.int ((lo2 + (1 : Int32)) + (1 : Int32))), .val (.int (2 : Int32)), .val (.int (1 : Int32)), .val (.int w62), .val (.int (1 : Int32)), .val (.int (if (lo2 + (1 : Int32)) = hi2 then (1 : Int32) else (0 : Int32))), .val (.int (1 : Int32)), .val (.int (if ((lo2 + (1 : Int32)) + (1 : Int32)) = hi2 then (1 : Int32) else (0 : Int32)))] [(.int w62), (.int (if ((lo2 + (1 : Int32)) + (1 : Int32)) = hi2 then (1 : Int32) else (0 : Int32)))])) tt
        refine XS.icmpNo X66.here hx rfl (hb hby at_389) rfl (teq (hw62.symm : (if ((lo2 + (1 : Int32)) + (1 : Int32)) = hi2 then (1 : Int32) else (0 : Int32)) = w62)).2 ?_
        show Steps p.tables e below (T66.setTop (mkF m 392 #[.val (.int u0), .val (.int u1), .val (.int u2), .val (.int u3), .val (.int lo1), .val (.int hi1), .val (.int lo2), .val (.int hi2), .val (.ref b5), .val (.int lo1), .val (.int lo2), .val (.int (1 : Int32)), .val (.int lo1), .val (.int ((lo2 + (1 : Int32)) + (1 : Int32))), .val (.int (2 : Int32)), .val (.int (1 : Int32)), .val (.int w62), .val (.int (1 : Int32)), .val (.int (if (lo2 + (1 : Int32)) = hi2 then (1 : Int32) else (0 : Int32))), .val (.int (1 : Int32)), .val (.int (if ((lo2 + (1 : Int32)) + (1 : Int32)) = hi2 then (1 : Int32) else (0 : Int32)))] [])) tt
        refine XS.iconst X66.here hx rfl (hb hby at_392) ?_
        show Steps p.tables e below (T66.setTop (mkF m 393 #[.val (.int u0), .val (.int u1), .val (.int u2), .val (.int u3), .val (.int lo1), .val (.int hi1), .val (.int lo2), .val (.int hi2), .val (.ref b5), .val (.int lo1), .val (.int lo2), .val (.int (1 : Int32)), .val (.int lo1), .val (.int ((lo2 + (1 : Int32)) + (1 : Int32))), .val (.int (2 : Int32)), .val (.int (1 : Int32)), .val (.int w62), .val (.int (1 : Int32)), .val (.int (if (lo2 + (1 : Int32)) = hi2 then (1 : Int32) else (0 : Int32))), .val (.int (1 : Int32)), .val (.int (if ((lo2 + (1 : Int32)) + (1 : Int32)) = hi2 then (1 : Int32) else (0 : Int32)))] [(.int (1 : Int32))])) tt
        refine XS.goto X66.here hx rfl (pc0 := 393) (pc' := 397) rfl (hb hby at_393) (by decide) (by decide) ?_
        show Steps p.tables e below (T66.setTop (mkF m 397 #[.val (.int u0), .val (.int u1), .val (.int u2), .val (.int u3), .val (.int lo1), .val (.int hi1), .val (.int lo2), .val (.int hi2), .val (.ref b5), .val (.int lo1), .val (.int lo2), .val (.int (1 : Int32)), .val (.int lo1), .val (.int ((lo2 + (1 : Int32)) + (1 : Int32))), .val (.int (2 : Int32)), .val (.int (1 : Int32)), .val (.int w62), .val (.int (1 : Int32)), .val (.int (if (lo2 + (1 : Int32)) = hi2 then (1 : Int32) else (0 : Int32))), .val (.int (1 : Int32)), .val (.int (if ((lo2 + (1 : Int32)) + (1 : Int32)) = hi2 then (1 : Int32) else (0 : Int32)))] [(.int (1 : Int32))])) tt
        refine XS.istore X66.here hx rfl (hb hby at_397) rfl (l' := #[.val (.int u0), .val (.int u1), .val (.int u2), .val (.int u3), .val (.int lo1), .val (.int hi1), .val (.int lo2), .val (.int hi2), .val (.ref b5), .val (.int lo1), .val (.int lo2), .val (.int (1 : Int32)), .val (.int lo1), .val (.int ((lo2 + (1 : Int32)) + (1 : Int32))), .val (.int (2 : Int32)), .val (.int (1 : Int32)), .val (.int w62), .val (.int (1 : Int32)), .val (.int (if (lo2 + (1 : Int32)) = hi2 then (1 : Int32) else (0 : Int32))), .val (.int (1 : Int32)), .val (.int (if ((lo2 + (1 : Int32)) + (1 : Int32)) = hi2 then (1 : Int32) else (0 : Int32)))]) rfl ?_
        show Steps p.tables e below (T66.setTop (mkF m 399 #[.val (.int u0), .val (.int u1), .val (.int u2), .val (.int u3), .val (.int lo1), .val (.int hi1), .val (.int lo2), .val (.int hi2), .val (.ref b5), .val (.int lo1), .val (.int lo2), .val (.int (1 : Int32)), .val (.int lo1), .val (.int ((lo2 + (1 : Int32)) + (1 : Int32))), .val (.int (2 : Int32)), .val (.int (1 : Int32)), .val (.int w62), .val (.int (1 : Int32)), .val (.int (if (lo2 + (1 : Int32)) = hi2 then (1 : Int32) else (0 : Int32))), .val (.int (1 : Int32)), .val (.int (if ((lo2 + (1 : Int32)) + (1 : Int32)) = hi2 then (1 : Int32) else (0 : Int32)))] [])) tt
        refine XS.iload X66.here hx rfl (hb hby at_399) rfl ?_
        exact kk
      exact Goal.retV X66 hx Bd.returns rfl (Or.inl ⟨rfl, Or.inr (Or.inl rfl), _, rfl⟩) (hb hby at_401) hlk e66 ⟨rfl, N66⟩ (by decide) (by decide)
set_option maxRecDepth 65536 in
set_option maxHeartbeats 40000000 in
theorem comes_1 {Post : Tables → Env → Array Value → State → Outcome → State → Prop} (hpost : ∀ tb e args s v u, (limb_1_1.after args s (.returned v) u = true ∧ limb_1_2.after args s (.returned v) u = true ∧ True) → FrameEnd s (.returned v) u (Jvm.fieldLocs frame_1_writes args s ++ Jvm.arrayLocs frame_1_arrays args s ++ Jvm.staticLocs frame_1_statics s) 24 256 → Post tb e args s (.returned v) u) :
    ArmFor flags0 classFile x code maxLocals ret World_1 tables_1 room_1 Calls_1 rest_1 Pre_1 Post := by
  intro l hfl _ _ p e ha hc hk s m args below hf hA hF happ hP
  obtain ⟨hcalls, hrest, hpre⟩ := hP
  obtain ⟨-, -, -, hnamed, -, -, -, hat⟩ := (Spec.applies_iff hf).mp happ
  obtain ⟨hg, hn⟩ := and_e (Cond.before_iff.mp (show (Jvm.Cond.and given_1 narrow_1).before args s = true from hpre))
  obtain ⟨u1, u2⟩ := and_e hg
  obtain ⟨u3, u4⟩ := and_e u2
  obtain ⟨u5, u6⟩ := and_e u4
  obtain ⟨u7, u8⟩ := and_e u6
  obtain ⟨w0, w1, w2, w3, rfl⟩ : ∃ w0 w1 w2 w3 : Value, args = #[w0, w1, w2, w3] := by
    have hs : args.size = 4 := by simpa [Cond.value, given_1] using u1
    obtain ⟨L⟩ := args
    match L, hs with
    | [w0, w1, w2, w3], _ => exact ⟨w0, w1, w2, w3, rfl⟩
  have hw := fun d (hd : d ∈ tables_1) => atoms_spec (ws := Jvm.Cond.code x code maxLocals ret :: tables_1) hat d (List.mem_cons_of_mem _ hd)
  obtain ⟨i0, ei0⟩ := is_v u3
  obtain rfl : w0 = (.int i0) := Option.some.inj ei0
  obtain ⟨i1, ei1⟩ := is_v u5
  obtain rfl : w1 = (.int i1) := Option.some.inj ei1
  obtain ⟨i2, ei2⟩ := is_v u7
  obtain rfl : w2 = (.int i2) := Option.some.inj ei2
  obtain ⟨i3, ei3⟩ := is_v u8
  obtain rfl : w3 = (.int i3) := Option.some.inj ei3
  obtain ⟨n, o, h1, h2, h3, _, L, rfl, ⟨rfl, N⟩, hq⟩ := rm0 l s _ hw tables_1 i0 i1 i2 i3 s.heap s.heap.size (Nat.le_refl _)  p e ha hc hk s m _ below hf ((Spec.applies_iff_loose hf).mp happ).1 ⟨rfl, State.Warmed39.refl s, rfl⟩ trivial
  refine ⟨n, _, h1, h2, h3, hpost _ _ _ _ _ _ ⟨Cond.after_iff.mpr rfl, Cond.after_iff.mpr (eq_i res_at (Term.int_eval (1)) rfl), trivial⟩ ⟨hq.1, hq.2.1, (hq.2.2.sift fun y hy => Or.inr (N y hy)).mono (by decide) (by decide)⟩⟩
theorem main_1_1 : Claimed_1_1 := comes_1 fun _ _ _ _ _ _ h hF => ⟨h.1, hF⟩
theorem main_1_2 : Claimed_1_2 := comes_1 fun _ _ _ _ _ _ h hF => ⟨h.2.1, hF⟩
end Jvm.Pilot.@@N@@
namespace Jvm.Pilot.@@N@@
open Jvm Jvm.ClassFile Sem Op Lib Jvm.Free Jvm.Stand Jvm.Pilot.@@N@@.Jvm.D
/-! MADE BY PROGRAM (witnessworld.py) out of the Statement's table words and the real class files: 10 classes; the members and pool entries that the words name. The judged class is class 1, her method 1. -/
namespace start1
open Jvm.ClassFile
def u (s : String) : CpInfo := .utf8 (stringToUtf16 s)
/-- a pool by its gaps: so many unusable entries, then the entry; so many at the end -/
def gap : Nat → List CpInfo → List CpInfo
  | 0, r => r
  | n + 1, r => .unusable :: gap n r
def poolList (es : List (Nat × CpInfo)) (last : Nat) : List CpInfo := es.foldr (fun e r => gap e.1 (e.2 :: r)) (gap last [])
def pool (es : List (Nat × CpInfo)) (last : Nat) : Array CpInfo := ⟨poolList es last⟩
def fileOf (pool : Array CpInfo) (this : Nat) (attrs : Array Attribute := #[]) (ms : Array MethodInfo := #[]) (fl : Nat := 33) (sup : Nat := 0) (ifs : Array Nat := #[]) (fds : Array FieldInfo := #[]) : ClassFile where
  minorVersion := 0
  majorVersion := 65
  constantPool := pool
  accessFlags := fl
  thisClass := this
  superClass := sup
  interfaces := ifs
  fields := fds
  methods := ms
  attributes := attrs
def plain (name : String) (sup : Option ClassId) : Class where
  name := name
  kind := .ordinary
  loader := none
  accessFlags := 33
  super := sup
  interfaces := #[]
  cf := none
  fields := #[]
  methods := #[]
  instanceTypes := #[]
  staticTypes := #[]
  resolved := #[]
  callSites := []
  init := .initialized
  statics := none
  mirror := none

def pool0 : Array CpInfo := pool [(5, u "<init>"), (0, u "()V"), (1, .class_ 10), (1, u "java/lang/Object")] 113

def k0c0 : Code := { maxStack := 0, maxLocals := 1, code := object_method_1_code, exceptionTable := #[], attributes := #[] }
def k0m0 : Method := { name := "<init>", desc := "()V", sig := { parameters := [], returnType := none }, accessFlags := 1, code := some k0c0 }
/-- java/lang/Object -/
def k0 : Class := { plain "java/lang/Object" none with
  accessFlags := 33
  interfaces := #[]
  cf := some (fileOf pool0 8 #[] #[{ accessFlags := 1, nameIndex := 5, descriptorIndex := 6, attributes := #[] }] 33 0 #[] #[])
  fields := #[]
  methods := #[k0m0]
  instanceTypes := #[]
  staticTypes := #[]
  resolved := Array.replicate 124 none
  statics := none }

def pool1 : Array CpInfo := pool [(2, .class_ 4), (1, u "java/lang/Object"), (0, u "<init>"), (0, u "()V"), (0, .methodref 8 9), (0, .class_ 10), (0, .nameAndType 11 12), (0, u "java/lang/Math"), (0, u "min"), (0, u "(II)I"), (0, .methodref 8 14), (0, .nameAndType 15 12), (0, u "max"), (0, .class_ 17), (0, u "com/example/deferra/deferra/engine/Trail"), (0, .methodref 16 19), (0, .nameAndType 5 20), (0, u "(I)V"), (0, .methodref 16 22), (0, .nameAndType 23 12), (0, u "next"), (0, .methodref 16 25), (0, .nameAndType 26 27), (0, u "advance"), (0, u "()Z"), (0, .methodref 16 29), (0, .nameAndType 30 27), (0, u "changeIsLast"), (0, .class_ 32), (0, u "com/example/deferra/deferra/engine/TrailChangeIsLastPinLaw"), (2, u "law"), (0, u "(IIII)Z")] 3

def k1m0 : Method := { name := "<init>", desc := "()V", sig := { parameters := [], returnType := none }, accessFlags := 2, code := none }
def k1c1 : Code := { maxStack := 3, maxLocals := 21, code := code, exceptionTable := #[], attributes := #[] }
def k1m1 : Method := { name := "law", desc := "(IIII)Z", sig := { parameters := [.int, .int, .int, .int], returnType := some .boolean }, accessFlags := 9, code := some k1c1 }
/-- com/example/deferra/deferra/engine/TrailChangeIsLastPinLaw -/
def k1 : Class := { plain "com/example/deferra/deferra/engine/TrailChangeIsLastPinLaw" (some 0) with
  accessFlags := 49
  interfaces := #[]
  cf := some (fileOf pool1 31 #[] #[{ accessFlags := 2, nameIndex := 5, descriptorIndex := 6, attributes := #[] }, { accessFlags := 9, nameIndex := 35, descriptorIndex := 36, attributes := #[] }] 49 2 #[] #[])
  fields := #[]
  methods := #[k1m0, k1m1]
  instanceTypes := #[]
  staticTypes := #[]
  resolved := Array.replicate 40 none
  statics := none }

def pool2 : Array CpInfo := pool [(1, .class_ 2), (0, u "java/lang/Math"), (1, .class_ 6), (1, u "java/lang/Object"), (0, u "<init>"), (0, u "()V"), (89, .class_ 100), (1, u "java/lang/Math$RandomNumberGeneratorHolder"), (71, u "negativeZeroFloatBits"), (0, u "J"), (2, u "negativeZeroDoubleBits"), (21, u "max"), (2, u "min"), (43, u "$assertionsDisabled"), (0, u "Z"), (88, u "(II)I"), (2, u "twoToTheDoubleScaleDown"), (0, u "D"), (4, u "twoToTheDoubleScaleUp"), (9, u "E"), (3, u "PI"), (2, u "TAU"), (2, u "DEGREES_TO_RADIANS"), (0, u "RADIANS_TO_DEGREES")] 94

def k2m0 : Method := { name := "<init>", desc := "()V", sig := { parameters := [], returnType := none }, accessFlags := 2, code := none }
def k2c1 : Code := { maxStack := 2, maxLocals := 2, code := jdk_29_method_65_code, exceptionTable := #[], attributes := #[] }
def k2m1 : Method := { name := "max", desc := "(II)I", sig := { parameters := [.int, .int], returnType := some .int }, accessFlags := 9, code := some k2c1 }
def k2c2 : Code := { maxStack := 2, maxLocals := 2, code := jdk_29_method_69_code, exceptionTable := #[], attributes := #[] }
def k2m2 : Method := { name := "min", desc := "(II)I", sig := { parameters := [.int, .int], returnType := some .int }, accessFlags := 9, code := some k2c2 }
/-- java/lang/Math -/
def k2 : Class := { plain "java/lang/Math" (some 0) with
  accessFlags := 49
  interfaces := #[]
  cf := some (fileOf pool2 1 #[.nestMembers #[98]] #[{ accessFlags := 2, nameIndex := 7, descriptorIndex := 8, attributes := #[] }, { accessFlags := 9, nameIndex := 198, descriptorIndex := 335, attributes := #[] }, { accessFlags := 9, nameIndex := 201, descriptorIndex := 335, attributes := #[] }] 49 4 #[] #[{ accessFlags := 25, nameIndex := 354, descriptorIndex := 339, attributes := #[] }, { accessFlags := 25, nameIndex := 358, descriptorIndex := 339, attributes := #[] }, { accessFlags := 25, nameIndex := 361, descriptorIndex := 339, attributes := #[] }, { accessFlags := 26, nameIndex := 364, descriptorIndex := 339, attributes := #[] }, { accessFlags := 26, nameIndex := 365, descriptorIndex := 339, attributes := #[] }, { accessFlags := 26, nameIndex := 172, descriptorIndex := 173, attributes := #[] }, { accessFlags := 26, nameIndex := 176, descriptorIndex := 173, attributes := #[] }, { accessFlags := 8, nameIndex := 344, descriptorIndex := 339, attributes := #[] }, { accessFlags := 8, nameIndex := 338, descriptorIndex := 339, attributes := #[] }, { accessFlags := 4120, nameIndex := 245, descriptorIndex := 246, attributes := #[] }])
  fields := #[{ name := "E", type := .double, accessFlags := 25, slot := 0, constantValue := 0 }, { name := "PI", type := .double, accessFlags := 25, slot := 1, constantValue := 0 }, { name := "TAU", type := .double, accessFlags := 25, slot := 2, constantValue := 0 }, { name := "DEGREES_TO_RADIANS", type := .double, accessFlags := 26, slot := 3, constantValue := 0 }, { name := "RADIANS_TO_DEGREES", type := .double, accessFlags := 26, slot := 4, constantValue := 0 }, { name := "negativeZeroFloatBits", type := .long, accessFlags := 26, slot := 5, constantValue := 0 }, { name := "negativeZeroDoubleBits", type := .long, accessFlags := 26, slot := 6, constantValue := 0 }, { name := "twoToTheDoubleScaleUp", type := .double, accessFlags := 8, slot := 7, constantValue := 0 }, { name := "twoToTheDoubleScaleDown", type := .double, accessFlags := 8, slot := 8, constantValue := 0 }, { name := "$assertionsDisabled", type := .boolean, accessFlags := 4120, slot := 9, constantValue := 0 }]
  methods := #[k2m0, k2m1, k2m2]
  instanceTypes := #[]
  staticTypes := #[.double, .double, .double, .double, .double, .long, .long, .double, .double, .boolean]
  resolved := Array.replicate 460 none
  statics := none }

def pool3 : Array CpInfo := pool [(1, .methodref 2 3), (0, .class_ 4), (0, .nameAndType 5 6), (0, u "java/lang/Object"), (0, u "<init>"), (0, u "()V"), (0, .class_ 8), (0, u "com/example/deferra/deferra/engine/Trail"), (0, .fieldref 7 10), (0, .nameAndType 11 12), (0, u "lows"), (0, u "[I"), (0, .fieldref 7 14), (0, .nameAndType 15 12), (0, u "highs"), (0, .fieldref 7 17), (0, .nameAndType 18 12), (0, u "values"), (0, .fieldref 7 20), (0, .nameAndType 21 12), (0, u "makers"), (0, .fieldref 7 23), (0, .nameAndType 24 25), (0, u "fromTrace"), (0, u "Z"), (0, .fieldref 7 27), (0, .nameAndType 28 29), (0, u "maxDepth"), (0, u "I"), (5, .fieldref 7 36), (0, .nameAndType 37 29), (0, u "size"), (0, .fieldref 7 39), (0, .nameAndType 40 29), (0, u "depth"), (0, .fieldref 7 42), (0, .nameAndType 43 44), (0, u "pools"), (0, u "Ljava/util/function/Supplier;"), (2, u "defect"), (0, u "Ljava/lang/RuntimeException;"), (2, u "cut"), (2, u "stopped"), (3, u "(II)I"), (7, .methodref 7 67), (0, .nameAndType 68 69), (0, u "add"), (0, u "(III)I"), (23, .methodref 7 94), (0, .nameAndType 95 6), (0, u "requireRoom"), (7, .fieldref 7 104), (0, .nameAndType 105 106), (0, u "saved"), (0, u "[[Lcom/example/deferra/deferra/engine/Identities;"), (18, .fieldref 7 126), (0, .nameAndType 127 25), (0, u "stopping"), (7, .methodref 7 136), (0, .nameAndType 137 138), (0, u "forget"), (0, u "(I)V"), (26, u "FIRST_TAKEN"), (2, u "PROGRAM"), (1, u "INITIAL_CAPACITY"), (10, u "next"), (8, u "changeIsLast"), (0, u "()Z"), (4, u "advance")] 31

def k3c0 : Code := { maxStack := 2, maxLocals := 2, code := prog_36_method_1_code, exceptionTable := #[], attributes := #[] }
def k3m0 : Method := { name := "<init>", desc := "(I)V", sig := { parameters := [.int], returnType := none }, accessFlags := 0, code := some k3c0 }
def k3c1 : Code := { maxStack := 5, maxLocals := 4, code := prog_36_method_5_code, exceptionTable := #[], attributes := #[] }
def k3m1 : Method := { name := "next", desc := "(II)I", sig := { parameters := [.int, .int], returnType := some .int }, accessFlags := 0, code := some k3c1 }
def k3c2 : Code := { maxStack := 4, maxLocals := 5, code := prog_36_method_11_code, exceptionTable := #[], attributes := #[] }
def k3m2 : Method := { name := "add", desc := "(III)I", sig := { parameters := [.int, .int, .int], returnType := some .int }, accessFlags := 2, code := some k3c2 }
def k3c3 : Code := { maxStack := 4, maxLocals := 1, code := prog_36_method_14_code, exceptionTable := #[], attributes := #[] }
def k3m3 : Method := { name := "changeIsLast", desc := "()Z", sig := { parameters := [], returnType := some .boolean }, accessFlags := 0, code := some k3c3 }
def k3c4 : Code := { maxStack := 2, maxLocals := 1, code := prog_36_method_15_code, exceptionTable := #[], attributes := #[] }
def k3m4 : Method := { name := "requireRoom", desc := "()V", sig := { parameters := [], returnType := none }, accessFlags := 2, code := some k3c4 }
def k3c5 : Code := { maxStack := 4, maxLocals := 2, code := prog_36_method_22_code, exceptionTable := #[], attributes := #[] }
def k3m5 : Method := { name := "advance", desc := "()Z", sig := { parameters := [], returnType := some .boolean }, accessFlags := 0, code := some k3c5 }
def k3c6 : Code := { maxStack := 4, maxLocals := 2, code := prog_36_method_23_code, exceptionTable := #[], attributes := #[] }
def k3m6 : Method := { name := "forget", desc := "(I)V", sig := { parameters := [.int], returnType := none }, accessFlags := 2, code := some k3c6 }
/-- com/example/deferra/deferra/engine/Trail -/
def k3 : Class := { plain "com/example/deferra/deferra/engine/Trail" (some 0) with
  accessFlags := 48
  interfaces := #[]
  cf := some (fileOf pool3 7 #[] #[{ accessFlags := 0, nameIndex := 5, descriptorIndex := 138, attributes := #[] }, { accessFlags := 0, nameIndex := 181, descriptorIndex := 58, attributes := #[] }, { accessFlags := 2, nameIndex := 68, descriptorIndex := 69, attributes := #[] }, { accessFlags := 0, nameIndex := 190, descriptorIndex := 191, attributes := #[] }, { accessFlags := 2, nameIndex := 95, descriptorIndex := 6, attributes := #[] }, { accessFlags := 0, nameIndex := 196, descriptorIndex := 191, attributes := #[] }, { accessFlags := 2, nameIndex := 137, descriptorIndex := 138, attributes := #[] }] 48 2 #[] #[{ accessFlags := 24, nameIndex := 165, descriptorIndex := 29, attributes := #[] }, { accessFlags := 24, nameIndex := 168, descriptorIndex := 29, attributes := #[] }, { accessFlags := 26, nameIndex := 170, descriptorIndex := 29, attributes := #[] }, { accessFlags := 18, nameIndex := 24, descriptorIndex := 25, attributes := #[] }, { accessFlags := 18, nameIndex := 28, descriptorIndex := 29, attributes := #[] }, { accessFlags := 2, nameIndex := 51, descriptorIndex := 25, attributes := #[] }, { accessFlags := 66, nameIndex := 127, descriptorIndex := 25, attributes := #[] }, { accessFlags := 2, nameIndex := 54, descriptorIndex := 25, attributes := #[] }, { accessFlags := 2, nameIndex := 11, descriptorIndex := 12, attributes := #[] }, { accessFlags := 2, nameIndex := 15, descriptorIndex := 12, attributes := #[] }, { accessFlags := 2, nameIndex := 18, descriptorIndex := 12, attributes := #[] }, { accessFlags := 2, nameIndex := 37, descriptorIndex := 29, attributes := #[] }, { accessFlags := 2, nameIndex := 40, descriptorIndex := 29, attributes := #[] }, { accessFlags := 2, nameIndex := 21, descriptorIndex := 12, attributes := #[] }, { accessFlags := 2, nameIndex := 105, descriptorIndex := 106, attributes := #[] }, { accessFlags := 2, nameIndex := 43, descriptorIndex := 44, attributes := #[] }, { accessFlags := 2, nameIndex := 47, descriptorIndex := 48, attributes := #[] }])
  fields := #[{ name := "FIRST_TAKEN", type := .int, accessFlags := 24, slot := 0, constantValue := 0 }, { name := "PROGRAM", type := .int, accessFlags := 24, slot := 1, constantValue := 0 }, { name := "INITIAL_CAPACITY", type := .int, accessFlags := 26, slot := 2, constantValue := 0 }, { name := "fromTrace", type := .boolean, accessFlags := 18, slot := 0, constantValue := 0 }, { name := "maxDepth", type := .int, accessFlags := 18, slot := 1, constantValue := 0 }, { name := "cut", type := .boolean, accessFlags := 2, slot := 2, constantValue := 0 }, { name := "stopping", type := .boolean, accessFlags := 66, slot := 3, constantValue := 0 }, { name := "stopped", type := .boolean, accessFlags := 2, slot := 4, constantValue := 0 }, { name := "lows", type := (.array .int), accessFlags := 2, slot := 5, constantValue := 0 }, { name := "highs", type := (.array .int), accessFlags := 2, slot := 6, constantValue := 0 }, { name := "values", type := (.array .int), accessFlags := 2, slot := 7, constantValue := 0 }, { name := "size", type := .int, accessFlags := 2, slot := 8, constantValue := 0 }, { name := "depth", type := .int, accessFlags := 2, slot := 9, constantValue := 0 }, { name := "makers", type := (.array .int), accessFlags := 2, slot := 10, constantValue := 0 }, { name := "saved", type := (.array (.array (.object "com/example/deferra/deferra/engine/Identities"))), accessFlags := 2, slot := 11, constantValue := 0 }, { name := "pools", type := (.object "java/util/function/Supplier"), accessFlags := 2, slot := 12, constantValue := 0 }, { name := "defect", type := (.object "java/lang/RuntimeException"), accessFlags := 2, slot := 13, constantValue := 0 }]
  methods := #[k3m0, k3m1, k3m2, k3m3, k3m4, k3m5, k3m6]
  instanceTypes := #[.boolean, .int, .boolean, .boolean, .boolean, (.array .int), (.array .int), (.array .int), .int, .int, (.array .int), (.array (.array (.object "com/example/deferra/deferra/engine/Identities"))), (.object "java/util/function/Supplier"), (.object "java/lang/RuntimeException")]
  staticTypes := #[.int, .int, .int]
  resolved := Array.replicate 228 none
  statics := none }

def pool4 : Array CpInfo := pool [(1, u "java/lang/Cloneable"), (0, .class_ 1), (0, u "java/lang/Object"), (0, .class_ 3)] 3

/-- java/lang/Cloneable -/
def k4 : Class := { plain "java/lang/Cloneable" (some 0) with
  accessFlags := 1537
  interfaces := #[]
  cf := some (fileOf pool4 2 #[] #[] 1537 4 #[] #[])
  fields := #[]
  methods := #[]
  instanceTypes := #[]
  staticTypes := #[]
  resolved := Array.replicate 8 none
  statics := none }

def pool5 : Array CpInfo := pool [(1, u "java/io/Serializable"), (0, .class_ 1), (0, u "java/lang/Object"), (0, .class_ 3)] 3

/-- java/io/Serializable -/
def k5 : Class := { plain "java/io/Serializable" (some 0) with
  accessFlags := 1537
  interfaces := #[]
  cf := some (fileOf pool5 2 #[] #[] 1537 4 #[] #[])
  fields := #[]
  methods := #[]
  instanceTypes := #[]
  staticTypes := #[]
  resolved := Array.replicate 8 none
  statics := none }

/-- the primitive byte -/
def k6 : Class := { plain "byte" none with kind := .primitive 'B', accessFlags := 0x411 }
/-- [B -/
def k7 : Class := { plain "[B" (some 0) with kind := .array 6 .byte, interfaces := #[4, 5], accessFlags := 1041 }

/-- the primitive int -/
def k8 : Class := { plain "int" none with kind := .primitive 'I', accessFlags := 0x411 }
/-- [I -/
def k9 : Class := { plain "[I" (some 0) with kind := .array 8 .int, interfaces := #[4, 5], accessFlags := 1041 }

def heap : Heap := #[]
def classes : Array Class := #[k0, k1, k2, k3, k4, k5, k6, k7, k8, k9]
def interned : List (Array UInt16 × Addr) := []
def slotsUsed : Nat := 0
def theMethod : MethodId := ⟨1, 1⟩
def args0 : Array Value := #[.int 1, .int 4, .int 2, .int 6]
def aboutOver (below : List Frame) : State where
  vm := { classes := classes, interned := interned.toArray }
  heap := heap
  slotsUsed := slotsUsed
  threads := #[{ frames := .invoking theMethod args0 :: below }]
def below0 : List Frame := [.native { method := ⟨0, 0⟩, args := #[] }]
def about1 : State := aboutOver below0
def p0 : Program := .bare "" "" ""
def e0 : Env := launch0.env 0 0 0
theorem w_frames : about1.frames = Frame.invoking theMethod args0 :: below0 := rfl
set_option maxRecDepth 65536 in
theorem w_args : argsFit about1.vm theMethod args0 = true := by decide +kernel
set_option maxRecDepth 65536 in
theorem w_heap : heapFits about1 = true := by decide +kernel
set_option maxRecDepth 65536 in
theorem w_runnable : about1.curStatus? = some .runnable := by decide +kernel
set_option maxRecDepth 65536 in
theorem w_alone : about1.alone = true := by decide +kernel
set_option maxRecDepth 65536 in
theorem w_named : about1.methodNamed? x = some theMethod := by decide +kernel
set_option maxRecDepth 65536 in
theorem w_hears : about1.hears theMethod below0 = true := by decide +kernel
set_option maxRecDepth 65536 in
theorem w_ripe : about1.ripe theMethod args0 below0 = true := by decide +kernel
theorem w_running : about1.status = .running := rfl
set_option maxRecDepth 65536 in
theorem w_room : about1.hasRoom e0.platform room_1 = true :=
  launch0.hasRoom_least _ room_1 (by decide +kernel) (by decide +kernel) (by decide +kernel) (by decide +kernel) (by decide +kernel) (by decide +kernel)
theorem allAtoms_all (ts : List Jvm.Cond) (a : Array Jvm.Value) (st : Jvm.State) : (allAtoms ts).before a st = ts.all (fun c => c.before a st) := by
  induction ts with
  | nil => rfl
  | cons c t ih =>
    show (Jvm.Cond.and c (allAtoms t)).before a st = _
    rw [Jvm.Cond.before_and, ih, List.all_cons]
def words1 : List Jvm.Cond := Jvm.Cond.code x code maxLocals ret :: tables_1
/-- a 'code' word, met by the world's own term for the bytes: nothing is compared byte by byte -/
theorem code_word {y : MethodName} {bytes : ByteArray} {mx : Nat} {rt : Option FieldType} {a : Array Value} {s : State} {m : MethodId} {meth : Method} {c : Code} (h1 : s.methodNamed? y = some m) (h2 : s.vm.method? m = some meth) (h3 : meth.code = some c) (h4 : c.code = bytes)
    (h5 : (c.maxLocals == mx && c.exceptionTable.isEmpty && decide (c.maxStack ≤ mostOperands) && decide (meth.sig.returnType = rt) && !meth.locks && decide (parseMethodDescriptor y.desc = some meth.sig)) = true) : (Jvm.Cond.code y bytes mx rt).before a s = true := by
  simp only [Bool.and_eq_true, beq_iff_eq, Bool.not_eq_true', decide_eq_true_eq] at h5
  obtain ⟨⟨⟨⟨⟨g1, g2⟩, g3⟩, g4⟩, g5⟩, g6⟩ := h5
  simp [Cond.before, Cond.holds, Cond.value, h1, h2, h3, h4, g1, g2, g3, g4, g5, g6]
def isCode : Jvm.Cond → Bool
  | .code _ _ _ _ => true
  | _ => false
theorem all_split {L : List Jvm.Cond} {P : Jvm.Cond → Bool} (h1 : L.all (fun c => isCode c || P c) = true) (h2 : ∀ c ∈ L.filter isCode, P c = true) : L.all P = true := by
  refine List.all_eq_true.mpr fun c hc => ?_
  have h := List.all_eq_true.mp h1 c hc
  rcases Bool.eq_false_or_eq_true (isCode c) with hi | hi
  · exact h2 c (List.mem_filter.mpr ⟨hc, hi⟩)
  · simpa [hi] using h
set_option maxRecDepth 65536 in
theorem w_c0 : (Jvm.Cond.code x code maxLocals ret).before args0 about1 = true := code_word (m := ⟨1, 1⟩) (meth := k1m1) (c := k1c1) (by decide +kernel) rfl rfl rfl (by decide +kernel)
set_option maxRecDepth 65536 in
theorem w_c1 : (Jvm.Cond.code ({ cls := "java/lang/Math", name := "min", desc := "(II)I" } : Jvm.MethodName) jdk_29_method_69_code (2 : Nat) (Option.some Jvm.ClassFile.FieldType.int)).before args0 about1 = true := code_word (m := ⟨2, 2⟩) (meth := k2m2) (c := k2c2) (by decide +kernel) rfl rfl rfl (by decide +kernel)
set_option maxRecDepth 65536 in
theorem w_c2 : (Jvm.Cond.code ({ cls := "java/lang/Math", name := "max", desc := "(II)I" } : Jvm.MethodName) jdk_29_method_65_code (2 : Nat) (Option.some Jvm.ClassFile.FieldType.int)).before args0 about1 = true := code_word (m := ⟨2, 1⟩) (meth := k2m1) (c := k2c1) (by decide +kernel) rfl rfl rfl (by decide +kernel)
set_option maxRecDepth 65536 in
theorem w_c3 : (Jvm.Cond.code ({ cls := "com/example/deferra/deferra/engine/Trail", name := "<init>", desc := "(I)V" } : Jvm.MethodName) prog_36_method_1_code (2 : Nat) (Option.none : Option Jvm.ClassFile.FieldType)).before args0 about1 = true := code_word (m := ⟨3, 0⟩) (meth := k3m0) (c := k3c0) (by decide +kernel) rfl rfl rfl (by decide +kernel)
set_option maxRecDepth 65536 in
theorem w_c4 : (Jvm.Cond.code ({ cls := "java/lang/Object", name := "<init>", desc := "()V" } : Jvm.MethodName) object_method_1_code (1 : Nat) (Option.none : Option Jvm.ClassFile.FieldType)).before args0 about1 = true := code_word (m := ⟨0, 0⟩) (meth := k0m0) (c := k0c0) (by decide +kernel) rfl rfl rfl (by decide +kernel)
set_option maxRecDepth 65536 in
theorem w_c5 : (Jvm.Cond.code ({ cls := "com/example/deferra/deferra/engine/Trail", name := "next", desc := "(II)I" } : Jvm.MethodName) prog_36_method_5_code (4 : Nat) (Option.some Jvm.ClassFile.FieldType.int)).before args0 about1 = true := code_word (m := ⟨3, 1⟩) (meth := k3m1) (c := k3c1) (by decide +kernel) rfl rfl rfl (by decide +kernel)
set_option maxRecDepth 65536 in
theorem w_c6 : (Jvm.Cond.code ({ cls := "com/example/deferra/deferra/engine/Trail", name := "add", desc := "(III)I" } : Jvm.MethodName) prog_36_method_11_code (5 : Nat) (Option.some Jvm.ClassFile.FieldType.int)).before args0 about1 = true := code_word (m := ⟨3, 2⟩) (meth := k3m2) (c := k3c2) (by decide +kernel) rfl rfl rfl (by decide +kernel)
set_option maxRecDepth 65536 in
theorem w_c7 : (Jvm.Cond.code ({ cls := "com/example/deferra/deferra/engine/Trail", name := "requireRoom", desc := "()V" } : Jvm.MethodName) prog_36_method_15_code (1 : Nat) (Option.none : Option Jvm.ClassFile.FieldType)).before args0 about1 = true := code_word (m := ⟨3, 4⟩) (meth := k3m4) (c := k3c4) (by decide +kernel) rfl rfl rfl (by decide +kernel)
set_option maxRecDepth 65536 in
theorem w_c8 : (Jvm.Cond.code ({ cls := "com/example/deferra/deferra/engine/Trail", name := "advance", desc := "()Z" } : Jvm.MethodName) prog_36_method_22_code (2 : Nat) (Option.some Jvm.ClassFile.FieldType.boolean)).before args0 about1 = true := code_word (m := ⟨3, 5⟩) (meth := k3m5) (c := k3c5) (by decide +kernel) rfl rfl rfl (by decide +kernel)
set_option maxRecDepth 65536 in
theorem w_c9 : (Jvm.Cond.code ({ cls := "com/example/deferra/deferra/engine/Trail", name := "forget", desc := "(I)V" } : Jvm.MethodName) prog_36_method_23_code (2 : Nat) (Option.none : Option Jvm.ClassFile.FieldType)).before args0 about1 = true := code_word (m := ⟨3, 6⟩) (meth := k3m6) (c := k3c6) (by decide +kernel) rfl rfl rfl (by decide +kernel)
set_option maxRecDepth 65536 in
theorem w_c10 : (Jvm.Cond.code ({ cls := "com/example/deferra/deferra/engine/Trail", name := "changeIsLast", desc := "()Z" } : Jvm.MethodName) prog_36_method_14_code (1 : Nat) (Option.some Jvm.ClassFile.FieldType.boolean)).before args0 about1 = true := code_word (m := ⟨3, 3⟩) (meth := k3m3) (c := k3c3) (by decide +kernel) rfl rfl rfl (by decide +kernel)
def codes1 : List Jvm.Cond := [Jvm.Cond.code x code maxLocals ret, Jvm.Cond.code ({ cls := "java/lang/Math", name := "min", desc := "(II)I" } : Jvm.MethodName) jdk_29_method_69_code (2 : Nat) (Option.some Jvm.ClassFile.FieldType.int), Jvm.Cond.code ({ cls := "java/lang/Math", name := "max", desc := "(II)I" } : Jvm.MethodName) jdk_29_method_65_code (2 : Nat) (Option.some Jvm.ClassFile.FieldType.int), Jvm.Cond.code ({ cls := "com/example/deferra/deferra/engine/Trail", name := "<init>", desc := "(I)V" } : Jvm.MethodName) prog_36_method_1_code (2 : Nat) (Option.none : Option Jvm.ClassFile.FieldType), Jvm.Cond.code ({ cls := "java/lang/Object", name := "<init>", desc := "()V" } : Jvm.MethodName) object_method_1_code (1 : Nat) (Option.none : Option Jvm.ClassFile.FieldType), Jvm.Cond.code ({ cls := "com/example/deferra/deferra/engine/Trail", name := "next", desc := "(II)I" } : Jvm.MethodName) prog_36_method_5_code (4 : Nat) (Option.some Jvm.ClassFile.FieldType.int), Jvm.Cond.code ({ cls := "com/example/deferra/deferra/engine/Trail", name := "add", desc := "(III)I" } : Jvm.MethodName) prog_36_method_11_code (5 : Nat) (Option.some Jvm.ClassFile.FieldType.int), Jvm.Cond.code ({ cls := "com/example/deferra/deferra/engine/Trail", name := "requireRoom", desc := "()V" } : Jvm.MethodName) prog_36_method_15_code (1 : Nat) (Option.none : Option Jvm.ClassFile.FieldType), Jvm.Cond.code ({ cls := "com/example/deferra/deferra/engine/Trail", name := "advance", desc := "()Z" } : Jvm.MethodName) prog_36_method_22_code (2 : Nat) (Option.some Jvm.ClassFile.FieldType.boolean), Jvm.Cond.code ({ cls := "com/example/deferra/deferra/engine/Trail", name := "forget", desc := "(I)V" } : Jvm.MethodName) prog_36_method_23_code (2 : Nat) (Option.none : Option Jvm.ClassFile.FieldType), Jvm.Cond.code ({ cls := "com/example/deferra/deferra/engine/Trail", name := "changeIsLast", desc := "()Z" } : Jvm.MethodName) prog_36_method_14_code (1 : Nat) (Option.some Jvm.ClassFile.FieldType.boolean)]
set_option maxRecDepth 65536 in
theorem codes_eq : words1.filter isCode = codes1 := rfl
theorem w_codes : ∀ c ∈ words1.filter isCode, c.before args0 about1 = true := by
  rw [codes_eq]
  intro c hc
  simp only [codes1, List.mem_cons, List.not_mem_nil, or_false] at hc
  rcases hc with rfl | rfl | rfl | rfl | rfl | rfl | rfl | rfl | rfl | rfl | rfl
  · exact w_c0
  · exact w_c1
  · exact w_c2
  · exact w_c3
  · exact w_c4
  · exact w_c5
  · exact w_c6
  · exact w_c7
  · exact w_c8
  · exact w_c9
  · exact w_c10
set_option maxRecDepth 65536 in
theorem w_t1 : (words1.take 24).all (fun c => isCode c || c.before args0 about1) = true := by decide +kernel
set_option maxRecDepth 65536 in
theorem w_t2 : ((words1.drop 24).take 24).all (fun c => isCode c || c.before args0 about1) = true := by decide +kernel
set_option maxRecDepth 65536 in
theorem w_t3 : ((words1.drop 24).drop 24).all (fun c => isCode c || c.before args0 about1) = true := by decide +kernel
theorem w_tables : (allAtoms (Jvm.Cond.code x code maxLocals ret :: tables_1)).before args0 about1 = true := by
  rw [allAtoms_all]
  show words1.all (fun c => c.before args0 about1) = true
  refine all_split ?_ w_codes
  rw [← List.take_append_drop 24 words1, List.all_append, w_t1, ← List.take_append_drop 24 (words1.drop 24), List.all_append, w_t2, w_t3]
  rfl
set_option maxRecDepth 65536 in
theorem w_case : (Jvm.Cond.and given_1 narrow_1).before args0 about1 = true := by decide +kernel
theorem w_applies : (headSpec (Jvm.Cond.code x code maxLocals ret :: tables_1) room_1).applies x e0.platform about1 = true :=
  (Spec.applies_iff w_frames).mpr ⟨w_running, w_runnable, w_alone, w_named, w_hears, w_ripe, w_room, w_tables⟩
theorem atStart : AtStart classFile x code maxLocals ret World_1 tables_1 room_1 Calls_1 rest_1 Pre_1 launch0 p0 e0 about1 theMethod args0 below0 :=
  ⟨lists_1, trivial, launch0.admits_env _ _ _, launch0.least_env, fairChoices_fair.cas, fairChoices_fair.clock, w_frames, w_args, w_heap, w_applies, trivial, trivial, w_case⟩
end start1
theorem witness_1 : WitnessClaimed_1 := ⟨start1.p0, start1.e0, start1.about1, start1.theMethod, start1.args0, start1.below0, start1.atStart⟩
end Jvm.Pilot.@@N@@
