import JvmDerived
import JvmDerived.Pilot.@@N@@Statement
import JvmDerived.Pilot.@@N@@Code
set_option linter.unusedVariables false
set_option linter.unusedSimpArgs false
@@BLOCK:NumsL.lean.txt@@
namespace Jvm.RoadKit
open Sem ClassFile Op Lib Jvm.Stand Jvm.Free Jvm.LawKit
section Own
variable {p : Program} {l : Launch} {e : Env} {R : Room} {s : State} {m : MethodId} {args : Array Value} {below : List Frame} {meth : Method} {c : Code} {T : State} {locs : List Loc} {cells slots : Nat} {Z : State} {h h' : Heap} {a b : Addr} {ty : FieldType} {vs : List Value} {cl : Cell} {sl : Nat} {v : Value} {ws : List Addr}
theorem mw {α : Type} {x : α} {L : List α} (i : Nat) (q : L[i]? = some x) : x ∈ L := List.mem_of_getElem? q
/-- from A the body comes to its end, and Q holds there -/
def Goal (p : Program) (e : Env) (below : List Frame) (s : State) (Q : Option Value → Heap → List Loc → Prop) (k n : Nat) (A : State) : Prop :=
  ∃ s₂ o, Steps p.tables e below A s₂ ∧ s₂.status = .running ∧ Ended s₂ below o ∧ ∃ v L, o = .returned v ∧ Q v s₂.heap L ∧ FrameEnd s o s₂ L k n
variable {Q : Option Value → Heap → List Loc → Prop} {k n : Nat} {A B : State}
theorem Goal.to (f : ∀ t, Steps p.tables e below B t → Steps p.tables e below A t) (g : Goal p e below s Q k n B) : Goal p e below s Q k n A := by
  obtain ⟨s₂, o, h1, r⟩ := g
  exact ⟨s₂, o, f _ h1, r⟩
theorem Goal.tr (f : Steps p.tables e below A B) (g : Goal p e below s Q k n B) : Goal p e below s Q k n A := Goal.to (fun t q => f.trans q) g
theorem Goal.retV (X : Stand p l e R s m args below meth c T locs cells slots) (hx : p.tables.exec = Jvm.exec) {pc : Nat} {Ls : Array Slot} {w : Value} {t : FieldType} {i : Instr} {rest : List Value} (hret : meth.sig.returnType = some t) (hn : narrow t w = w)
    (hi : (i = .ireturn ∧ (t = .int ∨ t = .boolean ∨ t = .byte ∨ t = .char ∨ t = .short) ∧ ∃ z, w = .int z) ∨ (i = .lreturn ∧ t = .long ∧ ∃ z, w = .long z) ∨ (i = .dreturn ∧ t = .double ∧ ∃ z, w = .double z) ∨ (i = .freturn ∧ t = .float ∧ ∃ z, w = .float z) ∨ (i = .areturn ∧ t.isReference = true ∧ w.isRef = true))
    (hd : decode c.code pc = .ok (i, 1)) (hlk : meth.locks = false) (eT : T.heap = h) (hq : Q (some w) h locs) (hc : cells ≤ k) (hs : slots ≤ n) : Goal p e below s Q k n (T.setTop (mkF m pc Ls (w :: rest))) := by
  obtain ⟨fs, hr, hrun, hended, hW, hsame⟩ := X.leave (v := some w) (fun h => by rw [hret] at h; cases h) hlk
  refine ⟨_, _, retOut X hx hret hn hi hd hr, hrun, hended, _, _, rfl, ?_, ⟨_, rfl⟩, hW, hsame.mono hc hs⟩
  show Q (some w) T.heap locs
  rw [eT]; exact hq
theorem Goal.retN (X : Stand p l e R s m args below meth c T locs cells slots) (hx : p.tables.exec = Jvm.exec) {pc : Nat} {Ls : Array Slot} (hret : meth.sig.returnType = none)
    (hd : decode c.code pc = .ok (.return_, 1)) (hlk : meth.locks = false) (eT : T.heap = h) (hq : Q none h locs) (hc : cells ≤ k) (hs : slots ≤ n) : Goal p e below s Q k n (T.setTop (mkF m pc Ls [])) := by
  obtain ⟨fs, hr, hrun, hended, hW, hsame⟩ := X.leave (v := none) (fun _ => rfl) hlk
  refine ⟨_, _, X.returnOut hx hret hd hr, hrun, hended, _, _, rfl, ?_, ⟨_, rfl⟩, hW, hsame.mono hc hs⟩
  show Q none T.heap locs
  rw [eT]; exact hq
/-- the same, with the wide end: texts may have been interned -/
def GoalW (p : Program) (e : Env) (below : List Frame) (s : State) (Q : Option Value → Heap → List Loc → Prop) (k n : Nat) (A : State) : Prop :=
  ∃ s₂ o, Steps p.tables e below A s₂ ∧ s₂.status = .running ∧ Ended s₂ below o ∧ ∃ v L, o = .returned v ∧ Q v s₂.heap L ∧ ReturnedEndW s o s₂ L k n
theorem GoalW.to (f : ∀ t, Steps p.tables e below B t → Steps p.tables e below A t) (g : GoalW p e below s Q k n B) : GoalW p e below s Q k n A := by
  obtain ⟨s₂, o, h1, r⟩ := g
  exact ⟨s₂, o, f _ h1, r⟩
theorem GoalW.tr (f : Steps p.tables e below A B) (g : GoalW p e below s Q k n B) : GoalW p e below s Q k n A := GoalW.to (fun t q => f.trans q) g
theorem GoalW.retV {vm0 : Vm} (X : Stand p l e R (s.setVm vm0) m args below meth c T locs cells slots) {k0 : Nat} (hS : s.Since vm0 k0) (hx : p.tables.exec = Jvm.exec) {pc : Nat} {Ls : Array Slot} {w : Value} {t : FieldType} {i : Instr} {rest : List Value} (hret : meth.sig.returnType = some t) (hn : narrow t w = w)
    (hi : (i = .ireturn ∧ (t = .int ∨ t = .boolean ∨ t = .byte ∨ t = .char ∨ t = .short) ∧ ∃ z, w = .int z) ∨ (i = .lreturn ∧ t = .long ∧ ∃ z, w = .long z) ∨ (i = .dreturn ∧ t = .double ∧ ∃ z, w = .double z) ∨ (i = .freturn ∧ t = .float ∧ ∃ z, w = .float z) ∨ (i = .areturn ∧ t.isReference = true ∧ w.isRef = true))
    (hd : decode c.code pc = .ok (i, 1)) (hlk : meth.locks = false) (eT : T.heap = h) (hk : k0 ≤ h.size) (hq : Q (some w) h locs) (hc : cells ≤ k) (hs : slots ≤ n) : GoalW p e below s Q k n (T.setTop (mkF m pc Ls (w :: rest))) := by
  obtain ⟨fs, hr, hrun, hended, e1, e2, e3, e4⟩ := X.leaveW hS (by rw [eT]; exact hk) (v := some w) (fun h => by rw [hret] at h; cases h) hlk
  refine ⟨_, _, retOut X hx hret hn hi hd hr, hrun, hended, _, _, rfl, ?_, e1, e2, e3, e4.mono hc hs⟩
  show Q (some w) T.heap locs
  rw [eT]; exact hq
theorem nar01 {z : Int32} (q : z = 0 ∨ z = 1) : narrow .boolean (.int z) = .int z := by rcases q with rfl | rfl <;> rfl
theorem catV {r : Value} (q : r.isRef = true) : r.category = 1 := by rcases ref_cases q with rfl | ⟨o, rfl⟩ <;> rfl
theorem catR {o : Addr} : (Value.ref o).category = 1 := rfl
theorem catI {z : Int32} : (Value.int z).category = 1 := rfl
theorem catJ {z : Int64} : (Value.long z).category = 2 := rfl
theorem catN : Value.null.category = 1 := rfl
theorem narV {r : Value} {C : String} (q : r.isRef = true) : narrow (.object C) r = r := by rcases ref_cases q with rfl | ⟨o, rfl⟩ <;> rfl
theorem fitV {r : Value} {C : String} (q : r.isRef = true) : fits (.object C) r = true := by rcases ref_cases q with rfl | ⟨o, rfl⟩ <;> rfl
theorem selP {a0 : Array Value} {y : MethodName} {n : Nat} (hZ : Z.Warmed39 s.vm) (hins : (Cond.instantiable y.cls n).before a0 Z = true) (hp : (Cond.privateMethod y).before a0 Z = true) (hi : (Cond.instanceMethod y).before a0 Z = true) (hy : y.cls ≠ "java/lang/invoke/MethodHandle" ∧ y.cls ≠ "java/lang/invoke/VarHandle") : (Cond.selects y.cls y y).before args s = true := by
  obtain ⟨c, k, hc, hk, -, hniab, -, -⟩ := Cond.instantiable_spec (mv (args := args) hZ hins)
  exact selects_self_of_private hc hk (Bool.or_eq_false_iff.mp hniab).1 (Cond.privateMethod_at (mvP (args := args) hZ hp)) (mv hZ hi) hy
theorem Fld.cast {C n d : String} {w : Value} (F : Fld Z h a C n d v) (q : v = w) : Fld Z h a C n d w := q ▸ F
/-- an array of the heap by the whole list of what it holds -/
def Ary (Z : State) (h : Heap) (a : Addr) (ty : FieldType) (vs : List Value) : Prop := ∃ cl : Cell, Arr Z h a cl ty ∧ cl.slots.toList = vs
theorem Ary.cast {ws : List Value} (F : Ary Z h a ty vs) (q : vs = ws) : Ary Z h a ty ws := q ▸ F
theorem Ary.lt (F : Ary Z h a ty vs) : a < h.size := by obtain ⟨cl, A, -⟩ := F; exact A.lt
theorem Ary.ext (F : Ary Z h a ty vs) (E : Ext h h') : Ary Z h' a ty vs := by obtain ⟨cl, A, r⟩ := F; exact ⟨cl, A.ext E, r⟩
theorem Ary.other (F : Ary Z h a ty vs) (W : Wr h h' b sl v) (q : a ≠ b) : Ary Z h' a ty vs := by obtain ⟨cl, A, r⟩ := F; exact ⟨cl, A.other W q, r⟩
theorem Ary.keep (F : Ary Z h a ty vs) (K : Keep h h' ws) (q : a ∉ ws) : Ary Z h' a ty vs := by obtain ⟨cl, A, r⟩ := F; exact ⟨cl, ⟨K.2.1 a cl A.1 q, A.2⟩, r⟩
theorem Ary.new {k : ClassId} {z : Int32} {N : Nat} (A : Arr Z h a (newA k ty z) ty) (hz : z.toNatClampNeg = N) : Ary Z h a ty (List.replicate N (defaultValue ty)) := ⟨_, A, by simp [newA, hz]⟩
theorem Ary.put {j : Nat} {N : Nat} (A : Arr Z h a cl ty) (S : cl.slots.toList = vs) (W : Wr h h' a j v) (q : j = N) : Ary Z h' a ty (vs.set N v) := ⟨_, A.same W, by subst q; simp [Cell.setSlot, S]⟩
theorem sizeA (S : cl.slots.toList = vs) : cl.slots.size = vs.length := by rw [← S]; simp
theorem inA {j : Int32} (S : cl.slots.toList = vs) (q : ¬ j < 0) (r : j.toNatClampNeg < vs.length) : ¬ (j < 0 ∨ cl.slots.size ≤ j.toNatClampNeg) := by rw [sizeA S]; intro u; rcases u with u | u; exact q u; exact absurd r (Nat.not_lt.mpr u)
theorem atA {j : Nat} (S : cl.slots.toList = vs) (q : vs[j]? = some v) : cl.slots[j]? = some v := by rw [← q, ← S]; simp
theorem lenA {z : Int32} (S : cl.slots.toList = vs) (q : vs.length.toInt32 = z) : cl.slots.size.toInt32 = z := by rw [sizeA S]; exact q
/-- a static that stood when the law began, and what it holds -/
def StaN (Z : State) (n0 : Nat) (h : Heap) (C n d : String) (v : Value) : Prop := ∃ (cf i : Nat) (k : Class) (f : Field) (st : Addr) (cell : Cell), Z.fieldFound? C n d = some (cf, k, i, f) ∧ f.isStatic = true ∧ k.init = .initialized ∧ k.statics = some st ∧ h[st]? = some cell ∧ cell.vm.isStatics = true ∧ cell.slots[f.slot]? = some v ∧ st < n0
section StaN
variable {C nm d : String} {n0 : Nat}
theorem StaN.sta (F : StaN Z n0 h C nm d v) : Sta Z h C nm d v := by obtain ⟨cf, i, k, f, st, cell, h1, h2, h3, h4, h5, h6, h7, -⟩ := F; exact ⟨cf, i, k, f, st, cell, h1, h2, h3, h4, h5, h6, h7⟩
theorem Sta.toN (F : Sta Z h C nm d v) : StaN Z h.size h C nm d v := by obtain ⟨cf, i, k, f, st, cell, h1, h2, h3, h4, h5, h6, h7⟩ := F; exact ⟨cf, i, k, f, st, cell, h1, h2, h3, h4, h5, h6, h7, (Array.getElem?_eq_some_iff.mp h5).1⟩
theorem StaN.ext (F : StaN Z n0 h C nm d v) (E : Ext h h') : StaN Z n0 h' C nm d v := by obtain ⟨cf, i, k, f, st, cell, h1, h2, h3, h4, h5, r⟩ := F; exact ⟨cf, i, k, f, st, cell, h1, h2, h3, h4, E.2 _ _ h5, r⟩
theorem StaN.keep (F : StaN Z n0 h C nm d v) (K : Keep h h' ws) (q : ∀ x ∈ ws, n0 ≤ x) : StaN Z n0 h' C nm d v := by
  obtain ⟨cf, i, k, f, st, cell, h1, h2, h3, h4, h5, h6, h7, h8⟩ := F
  exact ⟨cf, i, k, f, st, cell, h1, h2, h3, h4, K.2.1 _ _ h5 (fun z => absurd h8 (Nat.not_lt.mpr (q _ z))), h6, h7, h8⟩
theorem StaN.wr {w : Value} (F : StaN Z n0 h C nm d v) (W : Wr h h' a sl w) : StaN Z n0 h' C nm d v := by
  obtain ⟨cf, i, k, f, st, cell, h1, h2, h3, h4, h5, h6, h7, h8⟩ := F
  obtain ⟨c', e1, -, -, -, e5, -, e7⟩ := wr_at W h5
  have ne : st ≠ a := fun e => by rw [(e7 e).2.2] at h6; cases h6
  exact ⟨cf, i, k, f, st, cell, h1, h2, h3, h4, by rw [← e5 ne]; exact e1, h6, h7, h8⟩
end StaN
/-- what may lie in an array of objects of class C (of arrays of class C) -/
def OvrO (Z : State) (h : Heap) (a : Addr) (C : String) : Prop := ∃ cl : Cell, h[a]? = some cl ∧ Ovr Z cl.cls C
theorem OvrO.ext {C : String} (F : OvrO Z h a C) (E : Ext h h') : OvrO Z h' a C := by obtain ⟨cl, h1, r⟩ := F; exact ⟨cl, E.2 _ _ h1, r⟩
theorem OvrO.wr {C : String} (F : OvrO Z h a C) (W : Wr h h' b sl v) : OvrO Z h' a C := by obtain ⟨cl, h1, r⟩ := F; obtain ⟨c', e1, e2, -⟩ := wr_at W h1; exact ⟨c', e1, by rw [e2]; exact r⟩
theorem OvrO.keep {C : String} (F : OvrO Z h a C) (K : Keep h h' ws) : OvrO Z h' a C := by obtain ⟨cl, h1, r⟩ := F; obtain ⟨c', e1, e2, -⟩ := K.2.2 _ _ h1; exact ⟨c', e1, by rw [e2]; exact r⟩
theorem stoO {C : String} {y : Addr} (A : Arr Z h a cl ty) (O : OvrO Z h a C) (I : Ins Z h y C true) : Sto Z h a (.ref y) := by
  obtain ⟨c', h1, r⟩ := O
  cases A.1.symm.trans h1
  exact Sto.of A r I
def OvrB (Z : State) (h : Heap) (a : Addr) (C : String) : Prop := ∃ (cl : Cell) (t : FieldType), h[a]? = some cl ∧ OvrA Z cl.cls t C
theorem OvrB.ext {C : String} (F : OvrB Z h a C) (E : Ext h h') : OvrB Z h' a C := by obtain ⟨cl, t, h1, r⟩ := F; exact ⟨cl, t, E.2 _ _ h1, r⟩
theorem OvrB.wr {C : String} (F : OvrB Z h a C) (W : Wr h h' b sl v) : OvrB Z h' a C := by obtain ⟨cl, t, h1, r⟩ := F; obtain ⟨c', e1, e2, -⟩ := wr_at W h1; exact ⟨c', t, e1, by rw [e2]; exact r⟩
theorem OvrB.keep {C : String} (F : OvrB Z h a C) (K : Keep h h' ws) : OvrB Z h' a C := by obtain ⟨cl, t, h1, r⟩ := F; obtain ⟨c', e1, e2, -⟩ := K.2.2 _ _ h1; exact ⟨c', t, e1, by rw [e2]; exact r⟩
theorem stoB {C : String} {y : Addr} (A : Arr Z h a cl ty) (O : OvrB Z h a C) (I : Ins Z h y C true) : Sto Z h a (.ref y) := by
  obtain ⟨c', t, h1, r⟩ := O
  cases A.1.symm.trans h1
  exact Sto.ofVA A rfl r I
theorem fits_nil : ∀ w ∈ ([] : List Value), fits ty w = true := fun _ q => nomatch q
theorem fits_cons (q : fits ty v = true) (r : ∀ w ∈ vs, fits ty w = true) : ∀ w ∈ v :: vs, fits ty w = true := fun w z => (List.mem_cons.mp z).elim (fun u => u ▸ q) (r w)
theorem Ary.arv {dv : Value} {z : Int32} (F : Ary Z h a ty vs) (hz : z.toNatClampNeg = vs.length) (h0 : ¬ z < 0) (hf : ∀ w ∈ vs, fits ty w = true) : ∃ k, Arv Z h a k ty z vs dv := by
  obtain ⟨cl, A, S⟩ := F
  have sz : cl.slots.size = vs.length := sizeA S
  refine ⟨_, cl, A, rfl, sz.trans hz.symm, h0, fun i hi => ?_, fun i hi => ?_⟩
  · rw [sz] at hi
    refine atA S ?_
    rw [List.getD_eq_getElem?_getD, List.getElem?_eq_getElem hi]; rfl
  · rw [sz] at hi
    rw [List.getD_eq_getElem?_getD, List.getElem?_eq_getElem hi]
    exact hf _ (List.getElem_mem hi)
theorem Arv.ary {k : ClassId} {z : Int32} {dv : Value} (F : Arv Z h a k ty z vs dv) (hz : z.toNatClampNeg = vs.length) : Ary Z h a ty vs := by
  obtain ⟨cl, A, -, S, -, H, -⟩ := F
  refine ⟨cl, A, List.ext_getElem? fun i => ?_⟩
  by_cases hi : i < cl.slots.size
  · have q := H i hi
    have hv : i < vs.length := by omega
    rw [List.getD_eq_getElem?_getD, List.getElem?_eq_getElem hv] at q
    rw [List.getElem?_eq_getElem hv, Array.getElem?_toList]; exact q
  · rw [List.getElem?_eq_none (by simp; omega), List.getElem?_eq_none (by omega)]
theorem storeV {Ls : Array Slot} {i : Nat} {r : Value} {o : Slot} {l' : Array Slot} (q : r.isRef = true) (ho : o = .unset ∨ ∃ w, o = .val w ∧ w.category = 1) (hold : Ls[i]? = some o := by rfl) (hl : Ls.setIfInBounds i (.val r) = l' := by rfl) : storeLocals Ls i r = some l' := by
  rw [← hl]; exact XS.store1 hold ho (catV q)
end Own
end Jvm.RoadKit
namespace Jvm.Pilot.@@N@@
open Jvm Jvm.ClassFile Sem Op Lib Jvm.Free Jvm.Stand Jvm.LawKit Jvm.RoadKit Bundle Jvm.Pilot.@@N@@.Jvm.D
def own_upd (f : Nat → Int64) (i : Nat) (v : Int64) : Nat → Int64 := fun k => if k = i then v else f k
def own_l (f : Nat → Int64) (off n : Nat) : List Value := (List.range n).map fun k => .long (f (off + k))
theorem own_len {f : Nat → Int64} {off n : Nat} : (own_l f off n).length = n := by simp [own_l]
theorem own_get {f : Nat → Int64} {off n k i : Nat} (h : k < n) (e : off + k = i) : (own_l f off n)[k]? = some (.long (f i)) := by subst e; simp [own_l, h]
theorem own_none {f : Nat → Int64} {off n k : Nat} (h : ¬ k < n) : (own_l f off n)[k]? = none := by rw [List.getElem?_eq_none]; rw [own_len]; omega
theorem own_set {f : Nat → Int64} {off n k i : Nat} {v : Int64} (h : k < n) (e : off + k = i) : (own_l f off n).set k (.long v) = own_l (own_upd f i v) off n := by
  subst e
  apply List.ext_getElem?
  intro j
  by_cases hj : j < n
  · rw [own_get hj rfl, List.getElem?_set]
    by_cases q : k = j
    · subst q; simp [own_len, h, own_upd]
    · rw [if_neg q, own_get hj rfl]
      have hne : ¬ j = k := fun e => q e.symm
      simp [own_upd, hne]
  · rw [own_none hj, List.getElem?_eq_none]; rw [List.length_set, own_len]; omega
theorem own_same {f : Nat → Int64} {off n i : Nat} {v : Int64} (h : ∀ k, k < n → off + k ≠ i) : own_l f off n = own_l (own_upd f i v) off n := by
  unfold own_l
  apply List.map_congr_left
  intro k hk
  have := h k (List.mem_range.mp hk)
  simp [own_upd, this]
theorem own_zero {off n : Nat} : List.replicate n (.long (0 : Int64)) = own_l (fun _ => (0 : Int64)) off n := by
  apply List.ext_getElem?
  intro j
  by_cases hj : j < n
  · rw [own_get hj rfl, List.getElem?_replicate, if_pos hj]
  · rw [own_none hj, List.getElem?_replicate, if_neg hj]
theorem own_idx {o : Int32} {k : Nat} (h : o.toInt = (k : Int)) : ¬ o < 0 ∧ o.toNatClampNeg = k := by
  have e0 : (0 : Int32).toInt = 0 := rfl
  refine ⟨by rw [Int32.lt_iff_toInt_lt, h, e0]; omega, ?_⟩
  show o.toInt.toNat = k
  rw [h]; rfl
theorem own_hd {hn : Nat} (h : hn ≤ 3) : (hn.toInt32.toInt64).toInt = (hn : Int) := by
  rw [Jvm.Kit.i64_of_i32]; exact Int32.toInt_ofNat_small (by omega)
theorem own_l2i {u : Int64} {k : Nat} (h : u.toInt = (k : Int)) (b : k < 2 ^ 31) : (u.toInt32).toInt = (k : Int) := by
  rw [Jvm.Kit.i32_of_i64 (by omega) (by omega), h]
theorem own_qq {u q : Int64} {hn i : Nat} (h : hn ≤ 3) (hu : u.toInt = (i : Int)) (hb : i < hn + 32770) (hq : q = u - hn.toInt32.toInt64) (hi : hn ≤ i) : q.toInt = ((i - hn : Nat) : Int) := by
  have e := own_hd h
  rw [hq, Jvm.Kit.i64_sub (by rw [e, hu]; omega) (by rw [e, hu]; omega), e, hu]; omega
theorem own_ww {q : Int64} {w : Int32} {p : Nat} (hq : q.toInt = (p : Int)) (hb : p < 32770) (hw : w = (q.toInt32 &&& (32767 : Int32))) : w.toInt = ((p % 32768 : Nat) : Int) := by
  have e := own_l2i hq (by omega)
  have m := Jvm.Kit.i32_mask q.toInt32 32767 (k := 15) (by decide) (by decide)
  rw [hw, m, e]; omega
theorem own_ix {q : Int64} {w : Int32} {p : Nat} (hq : q.toInt = (p : Int)) (hb : p < 32770) (hw : w = (((q.toUInt64 >>> ((15 : Int32) &&& 0x3f).toInt64.toUInt64).toInt64).toInt32)) : w.toInt = ((p / 32768 : Nat) : Int) := by
  have e : ((q.toUInt64 >>> ((15 : Int32) &&& 0x3f).toInt64.toUInt64).toInt64).toInt = q.toInt / 2 ^ 15 := Jvm.Kit.i64_lushr (by rw [Jvm.Kit.i64_nonneg]; omega) (by decide) (by decide)
  rw [hw]
  refine own_l2i ?_ (by omega)
  rw [e, hq]; omega
theorem own_lit {w : Int32} {k : Nat} (h : w.toInt = (k : Int)) (z : Int32) (hz : z.toInt = (k : Int)) : w = z := Int32.toInt_inj.mp (h.trans hz.symm)
theorem own_cmp {u v : Int64} {i k : Nat} (hu : u.toInt = (i : Int)) (hv : v.toInt = (k : Int)) : lcmpW u v < 0 ↔ i < k := by
  rw [lw_lt, Int64.lt_iff_toInt_lt, hu, hv]; omega
theorem own_off {q : Int64} {w x o : Int32} {p : Nat} (hx : x.toInt = ((p / 32768 : Nat) : Int)) (hw : w.toInt = ((p % 32768 : Nat) : Int)) (hb : 32765 ≤ p ∧ p < 32768) (ho : o = (((x * (3 : Int32)) + w) - (32765 : Int32))) : o.toInt = ((p - 32765 : Nat) : Int) := by
  have e3 : (3 : Int32).toInt = 3 := rfl
  have e5 : (32765 : Int32).toInt = 32765 := rfl
  have q0 : x.toInt = 0 := by rw [hx]; omega
  have m : (x * (3 : Int32)).toInt = 0 := by rw [Jvm.Kit.i32_mul (by rw [q0, e3]; omega) (by rw [q0, e3]; omega), q0, e3]; rfl
  have a : ((x * (3 : Int32)) + w).toInt = w.toInt := by rw [Jvm.Kit.i32_add (by rw [m]; omega) (by rw [m]; omega), m]; omega
  rw [ho, Jvm.Kit.i32_sub (by rw [a, e5]; omega) (by rw [a, e5]; omega), a, e5]; omega
theorem own_h {u v : Int64} (h : v = u &&& 3) : ∃ hn : Nat, hn ≤ 3 ∧ v.toInt = (hn : Int) := by
  have q := Jvm.Kit.i64_mask u 3 (k := 2) (by decide) (by decide)
  rw [← h] at q
  exact ⟨v.toInt.toNat, by omega, by omega⟩
theorem own_count {v w : Int64} {hn : Nat} (h : hn ≤ 3) (hv : v.toInt = (hn : Int)) (hw : w = v + (32770 : Int64)) : w.toInt = ((hn + 32770 : Nat) : Int) ∧ (w - v) = (32770 : Int64) := by
  have e : (32770 : Int64).toInt = 32770 := rfl
  have a : w.toInt = ((hn + 32770 : Nat) : Int) := by rw [hw, Jvm.Kit.i64_add (by rw [e, hv]; omega) (by rw [e, hv]; omega), e, hv]; omega
  refine ⟨a, Int64.toInt_inj.mp ?_⟩
  rw [Jvm.Kit.i64_sub (by rw [a, hv]; omega) (by rw [a, hv]; omega), a, hv, e]; omega
theorem own_at {x y w : Int64} {n : Nat} (hw : w.toInt = (n : Int)) (hn : 0 < n) (hx : 0 ≤ x.toInt) (hy : y = (x - (x / w) * w)) : ∃ i : Nat, y.toInt = (i : Int) ∧ i < n := by
  have q := Jvm.Kit.i64_rem_nonneg (x := x) (y := w) hx
  rw [← hy, hw] at q
  have a := Int.emod_nonneg x.toInt (show (n : Int) ≠ 0 by omega)
  have b := Int.emod_lt_of_pos x.toInt (show (0 : Int) < (n : Int) by omega)
  exact ⟨y.toInt.toNat, by omega, by omega⟩
theorem own_m {u : Int64} : 0 ≤ (u &&& (2147483647 : Int64)).toInt := by
  have q := Jvm.Kit.i64_mask u 2147483647 (k := 31) (by decide) (by decide)
  rw [q]; omega
theorem own_ne {x y : Int64} {i j : Nat} (hx : x.toInt = (i : Int)) (hy : y.toInt = (j : Int)) (h : ¬ (lcmpW x y) = (0 : Int32)) : i ≠ j := fun q => h ((lw_eq x y).mpr (Int64.toInt_inj.mp (by rw [hx, hy, q])))
theorem ef_5 (m : MethodId) (x0 : Int64) (x1 : Int64)  : entryFrame m #[(.long x0), (.long x1)] 4 = mkF m 0 #[.val (.long x0), .second, .val (.long x1), .second] [] := by first | (simp [entryFrame, mkF, argsToLocals, Value.category]; done) | rfl
theorem d5_0 : decode jdk_29_method_70_code 0 = .ok (.lload_n 0, 1) := by decide +kernel
theorem d5_1 : decode jdk_29_method_70_code 1 = .ok (.lload_n 2, 1) := by decide +kernel
theorem d5_2 : decode jdk_29_method_70_code 2 = .ok (.lcmp, 1) := by decide +kernel
theorem d5_3 : decode jdk_29_method_70_code 3 = .ok (.ifCond .gt 7, 3) := by decide +kernel
theorem d5_6 : decode jdk_29_method_70_code 6 = .ok (.lload_n 0, 1) := by decide +kernel
theorem d5_7 : decode jdk_29_method_70_code 7 = .ok (.goto 4, 3) := by decide +kernel
theorem d5_11 : decode jdk_29_method_70_code 11 = .ok (.lreturn, 1) := by decide +kernel
def Qmi32770 (Z : State)  (h0 : Heap) (n0 : Nat) (v : Option Value) (h : Heap) (L : List Loc) : Prop := v = some (.long (32765 : Int64)) ∧ Fr n0 L ∧ h = h0
set_option maxRecDepth 65536 in
set_option maxHeartbeats 40000000 in
theorem rmmi32770 (l : Launch) (Z : State) (a0 : Array Value) (hw : ∀ d ∈ tables_1, d.before a0 Z = true) (ws : List Jvm.Cond)  (h0 : Heap) (n0 : Nat) (Z0 : n0 ≤ h0.size) :
    MetFree l (⟨"java/lang/Math", "min", "(JJ)J"⟩ : MethodName) (head1 (Jvm.Cond.code (⟨"java/lang/Math", "min", "(JJ)J"⟩ : MethodName) jdk_29_method_70_code 4 (some .long) :: ws) ({ frames := 0, cells := 0, slots := 0, locals := 0 } : Room)) (fun a U => a = #[(.long (32765 : Int64)), (.long (32770 : Int64))] ∧ Z.Warmed39 U.vm ∧ U.heap = h0) (fun _ _ _ _ _ => True) (fun _ U o U' => ∃ v L, o = .returned v ∧ Qmi32770 Z  h0 n0 v U'.heap L ∧ FrameEnd U o U' L 0 0) := by
  refine MetFree.of_bodySF (Jvm.Free.JP.mathPlain rfl (by decide +kernel)) hisR ?_
  intro p e s m args below meth c s₁ Bd hml0 hP hK
  obtain ⟨rfl, hZ, hh⟩ := hP
  have hx := Bd.exec
  have hby := Bd.bytes
  have hml : c.maxLocals = 4 := hml0
  have hown : s.vm.findClass "java/lang/Math" = some m.cls := findClass_of_methodNamed Bd.named
  have hnm := (name_of_methodNamed Bd.named Bd.method).1
  have X0 : Stand p l e ({ frames := 0, cells := 0, slots := 0, locals := 0 } : Room) s m #[(.long (32765 : Int64)), (.long (32770 : Int64))] below meth c s₁ [] 0 0 := Stand.of_body Bd
  have e0 : s₁.heap = h0 := by rw [← hh, Bd.state]; rfl
  have N0 := Fr.nil n0
  have hlk : meth.locks = false := BodyLoose.notSynchronized Bd
  show Goal p e below s (Qmi32770 Z  h0 n0) 0 0 (s₁.setTop (entryFrame m #[(.long (32765 : Int64)), (.long (32770 : Int64))] 4))
  refine Goal.to (B := s₁.setTop (mkF m 0 #[.val (.long (32765 : Int64)), .second, .val (.long (32770 : Int64)), .second] [])) (fun tt kk => castTop (ef_5 m (32765 : Int64) (32770 : Int64) ) kk) ?_
  refine Goal.to (B := s₁.setTop (mkF m 11 #[.val (.long (32765 : Int64)), .second, .val (.long (32770 : Int64)), .second] [(.long (32765 : Int64))])) (fun tt kk => ?_) ?_
  · show Steps p.tables e below (s₁.setTop (mkF m 0 #[.val (.long (32765 : Int64)), .second, .val (.long (32770 : Int64)), .second] [])) tt
    refine XS.lloadN X0.here hx rfl (hb hby d5_0) rfl ?_
    show Steps p.tables e below (s₁.setTop (mkF m 1 #[.val (.long (32765 : Int64)), .second, .val (.long (32770 : Int64)), .second] [(.long (32765 : Int64))])) tt
    refine XS.lloadN X0.here hx rfl (hb hby d5_1) rfl ?_
    show Steps p.tables e below (s₁.setTop (mkF m 2 #[.val (.long (32765 : Int64)), .second, .val (.long (32770 : Int64)), .second] [(.long (32770 : Int64)), (.long (32765 : Int64))])) tt
    refine XS.lcmp X0.here hx rfl (hb hby d5_2) rfl ?_
    show Steps p.tables e below (s₁.setTop (mkF m 3 #[.val (.long (32765 : Int64)), .second, .val (.long (32770 : Int64)), .second] [(.int (lcmpW (32765 : Int64) (32770 : Int64)))])) tt
    refine XS.ifNo X0.here hx rfl (hb hby d5_3) rfl ((if0 _ _).trans (flt (by decide : ¬ ((0 : Int32) < (lcmpW (32765 : Int64) (32770 : Int64))))).2.2.1) ?_
    show Steps p.tables e below (s₁.setTop (mkF m 6 #[.val (.long (32765 : Int64)), .second, .val (.long (32770 : Int64)), .second] [])) tt
    refine XS.lloadN X0.here hx rfl (hb hby d5_6) rfl ?_
    show Steps p.tables e below (s₁.setTop (mkF m 7 #[.val (.long (32765 : Int64)), .second, .val (.long (32770 : Int64)), .second] [(.long (32765 : Int64))])) tt
    refine XS.goto X0.here hx rfl (pc0 := 7) (pc' := 11) rfl (hb hby d5_7) (by decide) (by decide) ?_
    exact kk
  exact Goal.retV X0 hx Bd.returns rfl (Or.inr (Or.inl ⟨rfl, rfl, _, rfl⟩)) (hb hby d5_11) hlk e0 ⟨rfl, N0, rfl⟩ (by decide) (by decide)
theorem d5_10 : decode jdk_29_method_70_code 10 = .ok (.lload_n 2, 1) := by decide +kernel
def Qmi2 (Z : State)  (h0 : Heap) (n0 : Nat) (v : Option Value) (h : Heap) (L : List Loc) : Prop := v = some (.long (2 : Int64)) ∧ Fr n0 L ∧ h = h0
set_option maxRecDepth 65536 in
set_option maxHeartbeats 40000000 in
theorem rmmi2 (l : Launch) (Z : State) (a0 : Array Value) (hw : ∀ d ∈ tables_1, d.before a0 Z = true) (ws : List Jvm.Cond)  (h0 : Heap) (n0 : Nat) (Z0 : n0 ≤ h0.size) :
    MetFree l (⟨"java/lang/Math", "min", "(JJ)J"⟩ : MethodName) (head1 (Jvm.Cond.code (⟨"java/lang/Math", "min", "(JJ)J"⟩ : MethodName) jdk_29_method_70_code 4 (some .long) :: ws) ({ frames := 0, cells := 0, slots := 0, locals := 0 } : Room)) (fun a U => a = #[(.long (32765 : Int64)), (.long (2 : Int64))] ∧ Z.Warmed39 U.vm ∧ U.heap = h0) (fun _ _ _ _ _ => True) (fun _ U o U' => ∃ v L, o = .returned v ∧ Qmi2 Z  h0 n0 v U'.heap L ∧ FrameEnd U o U' L 0 0) := by
  refine MetFree.of_bodySF (Jvm.Free.JP.mathPlain rfl (by decide +kernel)) hisR ?_
  intro p e s m args below meth c s₁ Bd hml0 hP hK
  obtain ⟨rfl, hZ, hh⟩ := hP
  have hx := Bd.exec
  have hby := Bd.bytes
  have hml : c.maxLocals = 4 := hml0
  have hown : s.vm.findClass "java/lang/Math" = some m.cls := findClass_of_methodNamed Bd.named
  have hnm := (name_of_methodNamed Bd.named Bd.method).1
  have X0 : Stand p l e ({ frames := 0, cells := 0, slots := 0, locals := 0 } : Room) s m #[(.long (32765 : Int64)), (.long (2 : Int64))] below meth c s₁ [] 0 0 := Stand.of_body Bd
  have e0 : s₁.heap = h0 := by rw [← hh, Bd.state]; rfl
  have N0 := Fr.nil n0
  have hlk : meth.locks = false := BodyLoose.notSynchronized Bd
  show Goal p e below s (Qmi2 Z  h0 n0) 0 0 (s₁.setTop (entryFrame m #[(.long (32765 : Int64)), (.long (2 : Int64))] 4))
  refine Goal.to (B := s₁.setTop (mkF m 0 #[.val (.long (32765 : Int64)), .second, .val (.long (2 : Int64)), .second] [])) (fun tt kk => castTop (ef_5 m (32765 : Int64) (2 : Int64) ) kk) ?_
  refine Goal.to (B := s₁.setTop (mkF m 11 #[.val (.long (32765 : Int64)), .second, .val (.long (2 : Int64)), .second] [(.long (2 : Int64))])) (fun tt kk => ?_) ?_
  · show Steps p.tables e below (s₁.setTop (mkF m 0 #[.val (.long (32765 : Int64)), .second, .val (.long (2 : Int64)), .second] [])) tt
    refine XS.lloadN X0.here hx rfl (hb hby d5_0) rfl ?_
    show Steps p.tables e below (s₁.setTop (mkF m 1 #[.val (.long (32765 : Int64)), .second, .val (.long (2 : Int64)), .second] [(.long (32765 : Int64))])) tt
    refine XS.lloadN X0.here hx rfl (hb hby d5_1) rfl ?_
    show Steps p.tables e below (s₁.setTop (mkF m 2 #[.val (.long (32765 : Int64)), .second, .val (.long (2 : Int64)), .second] [(.long (2 : Int64)), (.long (32765 : Int64))])) tt
    refine XS.lcmp X0.here hx rfl (hb hby d5_2) rfl ?_
    show Steps p.tables e below (s₁.setTop (mkF m 3 #[.val (.long (32765 : Int64)), .second, .val (.long (2 : Int64)), .second] [(.int (lcmpW (32765 : Int64) (2 : Int64)))])) tt
    refine XS.ifYes X0.here hx rfl (pc0 := 3) (pc' := 10) rfl (hb hby d5_3) rfl ((if0 _ _).trans (tlt (by decide : (0 : Int32) < (lcmpW (32765 : Int64) (2 : Int64)))).2.2.1) (by decide) (by decide) ?_
    show Steps p.tables e below (s₁.setTop (mkF m 10 #[.val (.long (32765 : Int64)), .second, .val (.long (2 : Int64)), .second] [])) tt
    refine XS.lloadN X0.here hx rfl (hb hby d5_10) rfl ?_
    exact kk
  exact Goal.retV X0 hx Bd.returns rfl (Or.inr (Or.inl ⟨rfl, rfl, _, rfl⟩)) (hb hby d5_11) hlk e0 ⟨rfl, N0, rfl⟩ (by decide) (by decide)
theorem ef_7 (m : MethodId) (x0 : Int64) (x1 : Int64)  : entryFrame m #[(.long x0), (.long x1)] 4 = mkF m 0 #[.val (.long x0), .second, .val (.long x1), .second] [] := by first | (simp [entryFrame, mkF, argsToLocals, Value.category]; done) | rfl
theorem d7_0 : decode jdk_29_method_66_code 0 = .ok (.lload_n 0, 1) := by decide +kernel
theorem d7_1 : decode jdk_29_method_66_code 1 = .ok (.lload_n 2, 1) := by decide +kernel
theorem d7_2 : decode jdk_29_method_66_code 2 = .ok (.lcmp, 1) := by decide +kernel
theorem d7_3 : decode jdk_29_method_66_code 3 = .ok (.ifCond .lt 7, 3) := by decide +kernel
theorem d7_6 : decode jdk_29_method_66_code 6 = .ok (.lload_n 0, 1) := by decide +kernel
theorem d7_7 : decode jdk_29_method_66_code 7 = .ok (.goto 4, 3) := by decide +kernel
theorem d7_11 : decode jdk_29_method_66_code 11 = .ok (.lreturn, 1) := by decide +kernel
def Qmx (Z : State)  (h0 : Heap) (n0 : Nat) (v : Option Value) (h : Heap) (L : List Loc) : Prop := v = some (.long (0 : Int64)) ∧ Fr n0 L ∧ h = h0
set_option maxRecDepth 65536 in
set_option maxHeartbeats 40000000 in
theorem rmmx (l : Launch) (Z : State) (a0 : Array Value) (hw : ∀ d ∈ tables_1, d.before a0 Z = true) (ws : List Jvm.Cond)  (h0 : Heap) (n0 : Nat) (Z0 : n0 ≤ h0.size) :
    MetFree l (⟨"java/lang/Math", "max", "(JJ)J"⟩ : MethodName) (head1 (Jvm.Cond.code (⟨"java/lang/Math", "max", "(JJ)J"⟩ : MethodName) jdk_29_method_66_code 4 (some .long) :: ws) ({ frames := 0, cells := 0, slots := 0, locals := 0 } : Room)) (fun a U => a = #[(.long (0 : Int64)), (.long (-32763 : Int64))] ∧ Z.Warmed39 U.vm ∧ U.heap = h0) (fun _ _ _ _ _ => True) (fun _ U o U' => ∃ v L, o = .returned v ∧ Qmx Z  h0 n0 v U'.heap L ∧ FrameEnd U o U' L 0 0) := by
  refine MetFree.of_bodySF (Jvm.Free.JP.mathPlain rfl (by decide +kernel)) hisR ?_
  intro p e s m args below meth c s₁ Bd hml0 hP hK
  obtain ⟨rfl, hZ, hh⟩ := hP
  have hx := Bd.exec
  have hby := Bd.bytes
  have hml : c.maxLocals = 4 := hml0
  have hown : s.vm.findClass "java/lang/Math" = some m.cls := findClass_of_methodNamed Bd.named
  have hnm := (name_of_methodNamed Bd.named Bd.method).1
  have X0 : Stand p l e ({ frames := 0, cells := 0, slots := 0, locals := 0 } : Room) s m #[(.long (0 : Int64)), (.long (-32763 : Int64))] below meth c s₁ [] 0 0 := Stand.of_body Bd
  have e0 : s₁.heap = h0 := by rw [← hh, Bd.state]; rfl
  have N0 := Fr.nil n0
  have hlk : meth.locks = false := BodyLoose.notSynchronized Bd
  show Goal p e below s (Qmx Z  h0 n0) 0 0 (s₁.setTop (entryFrame m #[(.long (0 : Int64)), (.long (-32763 : Int64))] 4))
  refine Goal.to (B := s₁.setTop (mkF m 0 #[.val (.long (0 : Int64)), .second, .val (.long (-32763 : Int64)), .second] [])) (fun tt kk => castTop (ef_7 m (0 : Int64) (-32763 : Int64) ) kk) ?_
  refine Goal.to (B := s₁.setTop (mkF m 11 #[.val (.long (0 : Int64)), .second, .val (.long (-32763 : Int64)), .second] [(.long (0 : Int64))])) (fun tt kk => ?_) ?_
  · show Steps p.tables e below (s₁.setTop (mkF m 0 #[.val (.long (0 : Int64)), .second, .val (.long (-32763 : Int64)), .second] [])) tt
    refine XS.lloadN X0.here hx rfl (hb hby d7_0) rfl ?_
    show Steps p.tables e below (s₁.setTop (mkF m 1 #[.val (.long (0 : Int64)), .second, .val (.long (-32763 : Int64)), .second] [(.long (0 : Int64))])) tt
    refine XS.lloadN X0.here hx rfl (hb hby d7_1) rfl ?_
    show Steps p.tables e below (s₁.setTop (mkF m 2 #[.val (.long (0 : Int64)), .second, .val (.long (-32763 : Int64)), .second] [(.long (-32763 : Int64)), (.long (0 : Int64))])) tt
    refine XS.lcmp X0.here hx rfl (hb hby d7_2) rfl ?_
    show Steps p.tables e below (s₁.setTop (mkF m 3 #[.val (.long (0 : Int64)), .second, .val (.long (-32763 : Int64)), .second] [(.int (lcmpW (0 : Int64) (-32763 : Int64)))])) tt
    refine XS.ifNo X0.here hx rfl (hb hby d7_3) rfl ((if0 _ _).trans (flt (by decide : ¬ ((lcmpW (0 : Int64) (-32763 : Int64)) < (0 : Int32)))).1) ?_
    show Steps p.tables e below (s₁.setTop (mkF m 6 #[.val (.long (0 : Int64)), .second, .val (.long (-32763 : Int64)), .second] [])) tt
    refine XS.lloadN X0.here hx rfl (hb hby d7_6) rfl ?_
    show Steps p.tables e below (s₁.setTop (mkF m 7 #[.val (.long (0 : Int64)), .second, .val (.long (-32763 : Int64)), .second] [(.long (0 : Int64))])) tt
    refine XS.goto X0.here hx rfl (pc0 := 7) (pc' := 11) rfl (hb hby d7_7) (by decide) (by decide) ?_
    exact kk
  exact Goal.retV X0 hx Bd.returns rfl (Or.inr (Or.inl ⟨rfl, rfl, _, rfl⟩)) (hb hby d7_11) hlk e0 ⟨rfl, N0, rfl⟩ (by decide) (by decide)
theorem ef_3 (m : MethodId) (x0 : Int64)  : entryFrame m #[(.long x0)] 2 = mkF m 0 #[.val (.long x0), .second] [] := by first | (simp [entryFrame, mkF, argsToLocals, Value.category]; done) | rfl
theorem pn_3 : plainName "com/example/hedger/hedger/WordArray" = true := by first | (simp [plainName, overriddenIn]; done) | decide +kernel
theorem d3_0 : decode prog_26_method_20_code 0 = .ok (.lload_n 0, 1) := by decide +kernel
theorem d3_1 : decode prog_26_method_20_code 1 = .ok (.ldc2_w 150, 3) := by decide +kernel
theorem d3_4 : decode prog_26_method_20_code 4 = .ok (.ladd, 1) := by decide +kernel
theorem d3_5 : decode prog_26_method_20_code 5 = .ok (.lconst 1, 1) := by decide +kernel
theorem d3_6 : decode prog_26_method_20_code 6 = .ok (.lsub, 1) := by decide +kernel
theorem d3_7 : decode prog_26_method_20_code 7 = .ok (.bipush 15, 2) := by decide +kernel
theorem d3_9 : decode prog_26_method_20_code 9 = .ok (.lushr, 1) := by decide +kernel
theorem d3_10 : decode prog_26_method_20_code 10 = .ok (.l2i, 1) := by decide +kernel
theorem d3_11 : decode prog_26_method_20_code 11 = .ok (.ireturn, 1) := by decide +kernel
def Qpc (Z : State)  (h0 : Heap) (n0 : Nat) (v : Option Value) (h : Heap) (L : List Loc) : Prop := v = some (.int (2 : Int32)) ∧ Fr n0 L ∧ h = h0
set_option maxRecDepth 65536 in
set_option maxHeartbeats 40000000 in
theorem rmpc (l : Launch) (Z : State) (a0 : Array Value) (hw : ∀ d ∈ tables_1, d.before a0 Z = true) (ws : List Jvm.Cond)  (h0 : Heap) (n0 : Nat) (Z0 : n0 ≤ h0.size) :
    MetFree l (⟨"com/example/hedger/hedger/WordArray", "pageCount", "(J)I"⟩ : MethodName) (head1 (Jvm.Cond.code (⟨"com/example/hedger/hedger/WordArray", "pageCount", "(J)I"⟩ : MethodName) prog_26_method_20_code 2 (some .int) :: ws) ({ frames := 0, cells := 0, slots := 0, locals := 0 } : Room)) (fun a U => a = #[(.long (32770 : Int64))] ∧ Z.Warmed39 U.vm ∧ U.heap = h0) (fun _ _ _ _ _ => True) (fun _ U o U' => ∃ v L, o = .returned v ∧ Qpc Z  h0 n0 v U'.heap L ∧ FrameEnd U o U' L 0 0) := by
  refine MetFree.of_bodySF (plainFor_of_name pn_3) hisR ?_
  intro p e s m args below meth c s₁ Bd hml0 hP hK
  obtain ⟨rfl, hZ, hh⟩ := hP
  have hx := Bd.exec
  have hby := Bd.bytes
  have hml : c.maxLocals = 2 := hml0
  have hown : s.vm.findClass "com/example/hedger/hedger/WordArray" = some m.cls := findClass_of_methodNamed Bd.named
  have hnm := (name_of_methodNamed Bd.named Bd.method).1
  have X0 : Stand p l e ({ frames := 0, cells := 0, slots := 0, locals := 0 } : Room) s m #[(.long (32770 : Int64))] below meth c s₁ [] 0 0 := Stand.of_body Bd
  have e0 : s₁.heap = h0 := by rw [← hh, Bd.state]; rfl
  have N0 := Fr.nil n0
  have hlk : meth.locks = false := BodyLoose.notSynchronized Bd
  show Goal p e below s (Qpc Z  h0 n0) 0 0 (s₁.setTop (entryFrame m #[(.long (32770 : Int64))] 2))
  refine Goal.to (B := s₁.setTop (mkF m 0 #[.val (.long (32770 : Int64)), .second] [])) (fun tt kk => castTop (ef_3 m (32770 : Int64) ) kk) ?_
  refine Goal.to (B := s₁.setTop (mkF m 11 #[.val (.long (32770 : Int64)), .second] [(.int (2 : Int32))])) (fun tt kk => ?_) ?_
  · show Steps p.tables e below (s₁.setTop (mkF m 0 #[.val (.long (32770 : Int64)), .second] [])) tt
    refine XS.lloadN X0.here hx rfl (hb hby d3_0) rfl ?_
    show Steps p.tables e below (s₁.setTop (mkF m 1 #[.val (.long (32770 : Int64)), .second] [(.long (32770 : Int64))])) tt
    refine X0.ldc2Long hx hown (mvT hZ (hw _ (mw 20 rfl))) (g := (mkF m 1 #[.val (.long (32770 : Int64)), .second] [(.long (32770 : Int64))])) rfl (hb hby d3_1) _ ?_
    show Steps p.tables e below (s₁.setTop (mkF m 4 #[.val (.long (32770 : Int64)), .second] [(.long (32768 : Int64)), (.long (32770 : Int64))])) tt
    refine XS.ladd X0.here hx rfl (hb hby d3_4) rfl ?_
    show Steps p.tables e below (s₁.setTop (mkF m 5 #[.val (.long (32770 : Int64)), .second] [(.long (65538 : Int64))])) tt
    refine XS.lconst X0.here hx rfl (hb hby d3_5) ?_
    show Steps p.tables e below (s₁.setTop (mkF m 6 #[.val (.long (32770 : Int64)), .second] [(.long (1 : Int64)), (.long (65538 : Int64))])) tt
    refine XS.lsub X0.here hx rfl (hb hby d3_6) rfl ?_
    show Steps p.tables e below (s₁.setTop (mkF m 7 #[.val (.long (32770 : Int64)), .second] [(.long (65537 : Int64))])) tt
    refine XS.bipush X0.here hx rfl (hb hby d3_7) ?_
    show Steps p.tables e below (s₁.setTop (mkF m 9 #[.val (.long (32770 : Int64)), .second] [(.int (15 : Int32)), (.long (65537 : Int64))])) tt
    refine XS.lushr X0.here hx rfl (hb hby d3_9) rfl ?_
    show Steps p.tables e below (s₁.setTop (mkF m 10 #[.val (.long (32770 : Int64)), .second] [(.long (2 : Int64))])) tt
    refine XS.l2i X0.here hx rfl (hb hby d3_10) rfl ?_
    exact kk
  exact Goal.retV X0 hx Bd.returns rfl (Or.inl ⟨rfl, Or.inl rfl, _, rfl⟩) (hb hby d3_11) hlk e0 ⟨rfl, N0, rfl⟩ (by decide) (by decide)
theorem ef_4 (m : MethodId) (x0 : Int64) (x1 : Int32)  : entryFrame m #[(.long x0), (.int x1)] 3 = mkF m 0 #[.val (.long x0), .second, .val (.int x1)] [] := by first | (simp [entryFrame, mkF, argsToLocals, Value.category]; done) | rfl
theorem pn_4 : plainName "com/example/hedger/hedger/WordArray" = true := by first | (simp [plainName, overriddenIn]; done) | decide +kernel
theorem d4_0 : decode prog_26_method_21_code 0 = .ok (.ldc2_w 47, 3) := by decide +kernel
theorem d4_3 : decode prog_26_method_21_code 3 = .ok (.lload_n 0, 1) := by decide +kernel
theorem d4_4 : decode prog_26_method_21_code 4 = .ok (.iload_n 2, 1) := by decide +kernel
theorem d4_5 : decode prog_26_method_21_code 5 = .ok (.i2l, 1) := by decide +kernel
theorem d4_6 : decode prog_26_method_21_code 6 = .ok (.bipush 15, 2) := by decide +kernel
theorem d4_8 : decode prog_26_method_21_code 8 = .ok (.lshl, 1) := by decide +kernel
theorem d4_9 : decode prog_26_method_21_code 9 = .ok (.lsub, 1) := by decide +kernel
theorem pd_4 : parseMethodDescriptor "(JJ)J" = some ⟨[.long, .long], some .long⟩ := by decide +kernel
theorem d4_10 : decode prog_26_method_21_code 10 = .ok (.invokestatic 49, 3) := by decide +kernel
theorem d4_13 : decode prog_26_method_21_code 13 = .ok (.l2i, 1) := by decide +kernel
theorem d4_14 : decode prog_26_method_21_code 14 = .ok (.ireturn, 1) := by decide +kernel
def Qaw0 (Z : State)  (h0 : Heap) (n0 : Nat) (v : Option Value) (h : Heap) (L : List Loc) : Prop := v = some (.int (32765 : Int32)) ∧ Fr n0 L ∧ h = h0
set_option maxRecDepth 65536 in
set_option maxHeartbeats 40000000 in
theorem rmaw0 (l : Launch) (Z : State) (a0 : Array Value) (hw : ∀ d ∈ tables_1, d.before a0 Z = true) (ws : List Jvm.Cond)  (h0 : Heap) (n0 : Nat) (Z0 : n0 ≤ h0.size) :
    MetFree l (⟨"com/example/hedger/hedger/WordArray", "arrayWordsInPage", "(JI)I"⟩ : MethodName) (head1 (Jvm.Cond.code (⟨"com/example/hedger/hedger/WordArray", "arrayWordsInPage", "(JI)I"⟩ : MethodName) prog_26_method_21_code 3 (some .int) :: ws) ({ frames := 1, cells := 0, slots := 0, locals := 15 } : Room)) (fun a U => a = #[(.long (32770 : Int64)), (.int (0 : Int32))] ∧ Z.Warmed39 U.vm ∧ U.heap = h0) (fun _ _ _ _ _ => True) (fun _ U o U' => ∃ v L, o = .returned v ∧ Qaw0 Z  h0 n0 v U'.heap L ∧ FrameEnd U o U' L 0 0) := by
  refine MetFree.of_bodySF (plainFor_of_name pn_4) hisR ?_
  intro p e s m args below meth c s₁ Bd hml0 hP hK
  obtain ⟨rfl, hZ, hh⟩ := hP
  have hx := Bd.exec
  have hby := Bd.bytes
  have hml : c.maxLocals = 3 := hml0
  have hown : s.vm.findClass "com/example/hedger/hedger/WordArray" = some m.cls := findClass_of_methodNamed Bd.named
  have hnm := (name_of_methodNamed Bd.named Bd.method).1
  have X0 : Stand p l e ({ frames := 1, cells := 0, slots := 0, locals := 15 } : Room) s m #[(.long (32770 : Int64)), (.int (0 : Int32))] below meth c s₁ [] 0 0 := Stand.of_body Bd
  have e0 : s₁.heap = h0 := by rw [← hh, Bd.state]; rfl
  have N0 := Fr.nil n0
  have hlk : meth.locks = false := BodyLoose.notSynchronized Bd
  show Goal p e below s (Qaw0 Z  h0 n0) 0 0 (s₁.setTop (entryFrame m #[(.long (32770 : Int64)), (.int (0 : Int32))] 3))
  refine Goal.to (B := s₁.setTop (mkF m 0 #[.val (.long (32770 : Int64)), .second, .val (.int (0 : Int32))] [])) (fun tt kk => castTop (ef_4 m (32770 : Int64) (0 : Int32) ) kk) ?_
  refine Goal.to (B := s₁.setTop (mkF m 10 #[.val (.long (32770 : Int64)), .second, .val (.int (0 : Int32))] [(.long (32770 : Int64)), (.long (32765 : Int64))])) (fun tt kk => ?_) ?_
  · show Steps p.tables e below (s₁.setTop (mkF m 0 #[.val (.long (32770 : Int64)), .second, .val (.int (0 : Int32))] [])) tt
    refine X0.ldc2Long hx hown (mvT hZ (hw _ (mw 28 rfl))) (g := (mkF m 0 #[.val (.long (32770 : Int64)), .second, .val (.int (0 : Int32))] [])) rfl (hb hby d4_0) _ ?_
    show Steps p.tables e below (s₁.setTop (mkF m 3 #[.val (.long (32770 : Int64)), .second, .val (.int (0 : Int32))] [(.long (32765 : Int64))])) tt
    refine XS.lloadN X0.here hx rfl (hb hby d4_3) rfl ?_
    show Steps p.tables e below (s₁.setTop (mkF m 4 #[.val (.long (32770 : Int64)), .second, .val (.int (0 : Int32))] [(.long (32770 : Int64)), (.long (32765 : Int64))])) tt
    refine XS.iloadN X0.here hx rfl (hb hby d4_4) rfl ?_
    show Steps p.tables e below (s₁.setTop (mkF m 5 #[.val (.long (32770 : Int64)), .second, .val (.int (0 : Int32))] [(.int (0 : Int32)), (.long (32770 : Int64)), (.long (32765 : Int64))])) tt
    refine XS.i2l X0.here hx rfl (hb hby d4_5) rfl ?_
    show Steps p.tables e below (s₁.setTop (mkF m 6 #[.val (.long (32770 : Int64)), .second, .val (.int (0 : Int32))] [(.long (0 : Int64)), (.long (32770 : Int64)), (.long (32765 : Int64))])) tt
    refine XS.bipush X0.here hx rfl (hb hby d4_6) ?_
    show Steps p.tables e below (s₁.setTop (mkF m 8 #[.val (.long (32770 : Int64)), .second, .val (.int (0 : Int32))] [(.int (15 : Int32)), (.long (0 : Int64)), (.long (32770 : Int64)), (.long (32765 : Int64))])) tt
    refine XS.lshl X0.here hx rfl (hb hby d4_8) rfl ?_
    show Steps p.tables e below (s₁.setTop (mkF m 9 #[.val (.long (32770 : Int64)), .second, .val (.int (0 : Int32))] [(.long (0 : Int64)), (.long (32770 : Int64)), (.long (32765 : Int64))])) tt
    refine XS.lsub X0.here hx rfl (hb hby d4_9) rfl ?_
    exact kk
  obtain ⟨_, _, ⟨T1, L1, k1, n1⟩, -, X1, ⟨Lc1, hQ1, l1, y1, z1⟩, st1⟩ := Jvm.LawKit.callS X0 hx (y := (⟨"java/lang/Math", "min", "(JJ)J"⟩ : MethodName)) hown (mvT hZ (hw _ (mw 29 rfl))) (mvT hZ (hw _ (mw 30 rfl))) (mvT hZ (hw _ (mw 31 rfl))) (mvT hZ (hw _ (mw 32 rfl))) (by decide) (backOf (W := 0) (rmmi32770 l Z a0 hw []  h0 n0 Z0 ) hZ (hw _ (mw 32 rfl)) (hw _ (mw 31 rfl)) (by decide) (by decide)) (g := (mkF m 10 #[.val (.long (32770 : Int64)), .second, .val (.int (0 : Int32))] [(.long (32770 : Int64)), (.long (32765 : Int64))])) rfl (by rw [hml]; rfl) (argsL := [(.long (32765 : Int64)), (.long (32770 : Int64))]) (rest := []) (lenOf pd_4 rfl) rfl (by show 2 * 0 + _ ≤ _; exact Nat.le_of_eq rfl) (hb hby d4_10) (fun _ _ => ⟨rfl, e0, (by decide : 0 + 0 ≤ _), (by decide : 0 + 0 ≤ _)⟩)
  dsimp only [Pt.U, Pt.locs, Pt.cells, Pt.slots] at X1 l1 y1 z1 st1 hQ1
  subst l1 y1 z1
  obtain ⟨rfl, N1q, e1⟩ := hQ1
  have N1 := Fr.app N0 N1q
  refine Goal.to (B := T1.setTop (mkF m 13 #[.val (.long (32770 : Int64)), .second, .val (.int (0 : Int32))] [(.long (32765 : Int64))])) st1 ?_
  refine Goal.to (B := T1.setTop (mkF m 14 #[.val (.long (32770 : Int64)), .second, .val (.int (0 : Int32))] [(.int (32765 : Int32))])) (fun tt kk => ?_) ?_
  · show Steps p.tables e below (T1.setTop (mkF m 13 #[.val (.long (32770 : Int64)), .second, .val (.int (0 : Int32))] [(.long (32765 : Int64))])) tt
    refine XS.l2i X1.here hx rfl (hb hby d4_13) rfl ?_
    exact kk
  exact Goal.retV X1 hx Bd.returns rfl (Or.inl ⟨rfl, Or.inl rfl, _, rfl⟩) (hb hby d4_14) hlk e1 ⟨rfl, N1, rfl⟩ (by decide) (by decide)
def Qaw1 (Z : State)  (h0 : Heap) (n0 : Nat) (v : Option Value) (h : Heap) (L : List Loc) : Prop := v = some (.int (2 : Int32)) ∧ Fr n0 L ∧ h = h0
set_option maxRecDepth 65536 in
set_option maxHeartbeats 40000000 in
theorem rmaw1 (l : Launch) (Z : State) (a0 : Array Value) (hw : ∀ d ∈ tables_1, d.before a0 Z = true) (ws : List Jvm.Cond)  (h0 : Heap) (n0 : Nat) (Z0 : n0 ≤ h0.size) :
    MetFree l (⟨"com/example/hedger/hedger/WordArray", "arrayWordsInPage", "(JI)I"⟩ : MethodName) (head1 (Jvm.Cond.code (⟨"com/example/hedger/hedger/WordArray", "arrayWordsInPage", "(JI)I"⟩ : MethodName) prog_26_method_21_code 3 (some .int) :: ws) ({ frames := 1, cells := 0, slots := 0, locals := 15 } : Room)) (fun a U => a = #[(.long (32770 : Int64)), (.int (1 : Int32))] ∧ Z.Warmed39 U.vm ∧ U.heap = h0) (fun _ _ _ _ _ => True) (fun _ U o U' => ∃ v L, o = .returned v ∧ Qaw1 Z  h0 n0 v U'.heap L ∧ FrameEnd U o U' L 0 0) := by
  refine MetFree.of_bodySF (plainFor_of_name pn_4) hisR ?_
  intro p e s m args below meth c s₁ Bd hml0 hP hK
  obtain ⟨rfl, hZ, hh⟩ := hP
  have hx := Bd.exec
  have hby := Bd.bytes
  have hml : c.maxLocals = 3 := hml0
  have hown : s.vm.findClass "com/example/hedger/hedger/WordArray" = some m.cls := findClass_of_methodNamed Bd.named
  have hnm := (name_of_methodNamed Bd.named Bd.method).1
  have X0 : Stand p l e ({ frames := 1, cells := 0, slots := 0, locals := 15 } : Room) s m #[(.long (32770 : Int64)), (.int (1 : Int32))] below meth c s₁ [] 0 0 := Stand.of_body Bd
  have e0 : s₁.heap = h0 := by rw [← hh, Bd.state]; rfl
  have N0 := Fr.nil n0
  have hlk : meth.locks = false := BodyLoose.notSynchronized Bd
  show Goal p e below s (Qaw1 Z  h0 n0) 0 0 (s₁.setTop (entryFrame m #[(.long (32770 : Int64)), (.int (1 : Int32))] 3))
  refine Goal.to (B := s₁.setTop (mkF m 0 #[.val (.long (32770 : Int64)), .second, .val (.int (1 : Int32))] [])) (fun tt kk => castTop (ef_4 m (32770 : Int64) (1 : Int32) ) kk) ?_
  refine Goal.to (B := s₁.setTop (mkF m 10 #[.val (.long (32770 : Int64)), .second, .val (.int (1 : Int32))] [(.long (2 : Int64)), (.long (32765 : Int64))])) (fun tt kk => ?_) ?_
  · show Steps p.tables e below (s₁.setTop (mkF m 0 #[.val (.long (32770 : Int64)), .second, .val (.int (1 : Int32))] [])) tt
    refine X0.ldc2Long hx hown (mvT hZ (hw _ (mw 28 rfl))) (g := (mkF m 0 #[.val (.long (32770 : Int64)), .second, .val (.int (1 : Int32))] [])) rfl (hb hby d4_0) _ ?_
    show Steps p.tables e below (s₁.setTop (mkF m 3 #[.val (.long (32770 : Int64)), .second, .val (.int (1 : Int32))] [(.long (32765 : Int64))])) tt
    refine XS.lloadN X0.here hx rfl (hb hby d4_3) rfl ?_
    show Steps p.tables e below (s₁.setTop (mkF m 4 #[.val (.long (32770 : Int64)), .second, .val (.int (1 : Int32))] [(.long (32770 : Int64)), (.long (32765 : Int64))])) tt
    refine XS.iloadN X0.here hx rfl (hb hby d4_4) rfl ?_
    show Steps p.tables e below (s₁.setTop (mkF m 5 #[.val (.long (32770 : Int64)), .second, .val (.int (1 : Int32))] [(.int (1 : Int32)), (.long (32770 : Int64)), (.long (32765 : Int64))])) tt
    refine XS.i2l X0.here hx rfl (hb hby d4_5) rfl ?_
    show Steps p.tables e below (s₁.setTop (mkF m 6 #[.val (.long (32770 : Int64)), .second, .val (.int (1 : Int32))] [(.long (1 : Int64)), (.long (32770 : Int64)), (.long (32765 : Int64))])) tt
    refine XS.bipush X0.here hx rfl (hb hby d4_6) ?_
    show Steps p.tables e below (s₁.setTop (mkF m 8 #[.val (.long (32770 : Int64)), .second, .val (.int (1 : Int32))] [(.int (15 : Int32)), (.long (1 : Int64)), (.long (32770 : Int64)), (.long (32765 : Int64))])) tt
    refine XS.lshl X0.here hx rfl (hb hby d4_8) rfl ?_
    show Steps p.tables e below (s₁.setTop (mkF m 9 #[.val (.long (32770 : Int64)), .second, .val (.int (1 : Int32))] [(.long (32768 : Int64)), (.long (32770 : Int64)), (.long (32765 : Int64))])) tt
    refine XS.lsub X0.here hx rfl (hb hby d4_9) rfl ?_
    exact kk
  obtain ⟨_, _, ⟨T1, L1, k1, n1⟩, -, X1, ⟨Lc1, hQ1, l1, y1, z1⟩, st1⟩ := Jvm.LawKit.callS X0 hx (y := (⟨"java/lang/Math", "min", "(JJ)J"⟩ : MethodName)) hown (mvT hZ (hw _ (mw 29 rfl))) (mvT hZ (hw _ (mw 30 rfl))) (mvT hZ (hw _ (mw 31 rfl))) (mvT hZ (hw _ (mw 32 rfl))) (by decide) (backOf (W := 0) (rmmi2 l Z a0 hw []  h0 n0 Z0 ) hZ (hw _ (mw 32 rfl)) (hw _ (mw 31 rfl)) (by decide) (by decide)) (g := (mkF m 10 #[.val (.long (32770 : Int64)), .second, .val (.int (1 : Int32))] [(.long (2 : Int64)), (.long (32765 : Int64))])) rfl (by rw [hml]; rfl) (argsL := [(.long (32765 : Int64)), (.long (2 : Int64))]) (rest := []) (lenOf pd_4 rfl) rfl (by show 2 * 0 + _ ≤ _; exact Nat.le_of_eq rfl) (hb hby d4_10) (fun _ _ => ⟨rfl, e0, (by decide : 0 + 0 ≤ _), (by decide : 0 + 0 ≤ _)⟩)
  dsimp only [Pt.U, Pt.locs, Pt.cells, Pt.slots] at X1 l1 y1 z1 st1 hQ1
  subst l1 y1 z1
  obtain ⟨rfl, N1q, e1⟩ := hQ1
  have N1 := Fr.app N0 N1q
  refine Goal.to (B := T1.setTop (mkF m 13 #[.val (.long (32770 : Int64)), .second, .val (.int (1 : Int32))] [(.long (2 : Int64))])) st1 ?_
  refine Goal.to (B := T1.setTop (mkF m 14 #[.val (.long (32770 : Int64)), .second, .val (.int (1 : Int32))] [(.int (2 : Int32))])) (fun tt kk => ?_) ?_
  · show Steps p.tables e below (T1.setTop (mkF m 13 #[.val (.long (32770 : Int64)), .second, .val (.int (1 : Int32))] [(.long (2 : Int64))])) tt
    refine XS.l2i X1.here hx rfl (hb hby d4_13) rfl ?_
    exact kk
  exact Goal.retV X1 hx Bd.returns rfl (Or.inl ⟨rfl, Or.inl rfl, _, rfl⟩) (hb hby d4_14) hlk e1 ⟨rfl, N1, rfl⟩ (by decide) (by decide)
theorem ef_6 (m : MethodId) (x0 : Int64)  : entryFrame m #[(.long x0)] 6 = mkF m 0 #[.val (.long x0), .second, .unset, .unset, .unset, .unset] [] := by first | (simp [entryFrame, mkF, argsToLocals, Value.category]; done) | rfl
theorem pn_6 : plainName "com/example/hedger/hedger/WordArray" = true := by first | (simp [plainName, overriddenIn]; done) | decide +kernel
theorem d6_0 : decode prog_26_method_22_code 0 = .ok (.lload_n 0, 1) := by decide +kernel
theorem d6_1 : decode prog_26_method_22_code 1 = .ok (.bipush 15, 2) := by decide +kernel
theorem d6_3 : decode prog_26_method_22_code 3 = .ok (.lushr, 1) := by decide +kernel
theorem d6_4 : decode prog_26_method_22_code 4 = .ok (.lstore_n 2, 1) := by decide +kernel
theorem d6_5 : decode prog_26_method_22_code 5 = .ok (.lload_n 0, 1) := by decide +kernel
theorem d6_6 : decode prog_26_method_22_code 6 = .ok (.ldc2_w 152, 3) := by decide +kernel
theorem d6_9 : decode prog_26_method_22_code 9 = .ok (.land, 1) := by decide +kernel
theorem d6_10 : decode prog_26_method_22_code 10 = .ok (.lstore 4, 2) := by decide +kernel
theorem d6_12 : decode prog_26_method_22_code 12 = .ok (.lload_n 2, 1) := by decide +kernel
theorem d6_13 : decode prog_26_method_22_code 13 = .ok (.ldc2_w 154, 3) := by decide +kernel
theorem d6_16 : decode prog_26_method_22_code 16 = .ok (.lmul, 1) := by decide +kernel
theorem d6_17 : decode prog_26_method_22_code 17 = .ok (.lconst 0, 1) := by decide +kernel
theorem d6_18 : decode prog_26_method_22_code 18 = .ok (.lload 4, 2) := by decide +kernel
theorem d6_20 : decode prog_26_method_22_code 20 = .ok (.ldc2_w 47, 3) := by decide +kernel
theorem d6_23 : decode prog_26_method_22_code 23 = .ok (.lsub, 1) := by decide +kernel
theorem d6_24 : decode prog_26_method_22_code 24 = .ok (.invokestatic 156, 3) := by decide +kernel
theorem d6_27 : decode prog_26_method_22_code 27 = .ok (.ladd, 1) := by decide +kernel
theorem d6_28 : decode prog_26_method_22_code 28 = .ok (.l2i, 1) := by decide +kernel
theorem d6_29 : decode prog_26_method_22_code 29 = .ok (.ireturn, 1) := by decide +kernel
def Qsc (Z : State)  (h0 : Heap) (n0 : Nat) (v : Option Value) (h : Heap) (L : List Loc) : Prop := v = some (.int (3 : Int32)) ∧ Fr n0 L ∧ h = h0
set_option maxRecDepth 65536 in
set_option maxHeartbeats 40000000 in
theorem rmsc (l : Launch) (Z : State) (a0 : Array Value) (hw : ∀ d ∈ tables_1, d.before a0 Z = true) (ws : List Jvm.Cond)  (h0 : Heap) (n0 : Nat) (Z0 : n0 ≤ h0.size) :
    MetFree l (⟨"com/example/hedger/hedger/WordArray", "spareCount", "(J)I"⟩ : MethodName) (head1 (Jvm.Cond.code (⟨"com/example/hedger/hedger/WordArray", "spareCount", "(J)I"⟩ : MethodName) prog_26_method_22_code 6 (some .int) :: ws) ({ frames := 1, cells := 0, slots := 0, locals := 17 } : Room)) (fun a U => a = #[(.long (32770 : Int64))] ∧ Z.Warmed39 U.vm ∧ U.heap = h0) (fun _ _ _ _ _ => True) (fun _ U o U' => ∃ v L, o = .returned v ∧ Qsc Z  h0 n0 v U'.heap L ∧ FrameEnd U o U' L 0 0) := by
  refine MetFree.of_bodySF (plainFor_of_name pn_6) hisR ?_
  intro p e s m args below meth c s₁ Bd hml0 hP hK
  obtain ⟨rfl, hZ, hh⟩ := hP
  have hx := Bd.exec
  have hby := Bd.bytes
  have hml : c.maxLocals = 6 := hml0
  have hown : s.vm.findClass "com/example/hedger/hedger/WordArray" = some m.cls := findClass_of_methodNamed Bd.named
  have hnm := (name_of_methodNamed Bd.named Bd.method).1
  have X0 : Stand p l e ({ frames := 1, cells := 0, slots := 0, locals := 17 } : Room) s m #[(.long (32770 : Int64))] below meth c s₁ [] 0 0 := Stand.of_body Bd
  have e0 : s₁.heap = h0 := by rw [← hh, Bd.state]; rfl
  have N0 := Fr.nil n0
  have hlk : meth.locks = false := BodyLoose.notSynchronized Bd
  show Goal p e below s (Qsc Z  h0 n0) 0 0 (s₁.setTop (entryFrame m #[(.long (32770 : Int64))] 6))
  refine Goal.to (B := s₁.setTop (mkF m 0 #[.val (.long (32770 : Int64)), .second, .unset, .unset, .unset, .unset] [])) (fun tt kk => castTop (ef_6 m (32770 : Int64) ) kk) ?_
  refine Goal.to (B := s₁.setTop (mkF m 24 #[.val (.long (32770 : Int64)), .second, .val (.long (1 : Int64)), .second, .val (.long (2 : Int64)), .second] [(.long (-32763 : Int64)), (.long (0 : Int64)), (.long (3 : Int64))])) (fun tt kk => ?_) ?_
  · show Steps p.tables e below (s₁.setTop (mkF m 0 #[.val (.long (32770 : Int64)), .second, .unset, .unset, .unset, .unset] [])) tt
    refine XS.lloadN X0.here hx rfl (hb hby d6_0) rfl ?_
    show Steps p.tables e below (s₁.setTop (mkF m 1 #[.val (.long (32770 : Int64)), .second, .unset, .unset, .unset, .unset] [(.long (32770 : Int64))])) tt
    refine XS.bipush X0.here hx rfl (hb hby d6_1) ?_
    show Steps p.tables e below (s₁.setTop (mkF m 3 #[.val (.long (32770 : Int64)), .second, .unset, .unset, .unset, .unset] [(.int (15 : Int32)), (.long (32770 : Int64))])) tt
    refine XS.lushr X0.here hx rfl (hb hby d6_3) rfl ?_
    show Steps p.tables e below (s₁.setTop (mkF m 4 #[.val (.long (32770 : Int64)), .second, .unset, .unset, .unset, .unset] [(.long (1 : Int64))])) tt
    refine XS.lstoreN X0.here hx rfl (hb hby d6_4) rfl (l' := #[.val (.long (32770 : Int64)), .second, .val (.long (1 : Int64)), .second, .unset, .unset]) rfl ?_
    show Steps p.tables e below (s₁.setTop (mkF m 5 #[.val (.long (32770 : Int64)), .second, .val (.long (1 : Int64)), .second, .unset, .unset] [])) tt
    refine XS.lloadN X0.here hx rfl (hb hby d6_5) rfl ?_
    show Steps p.tables e below (s₁.setTop (mkF m 6 #[.val (.long (32770 : Int64)), .second, .val (.long (1 : Int64)), .second, .unset, .unset] [(.long (32770 : Int64))])) tt
    refine X0.ldc2Long hx hown (mvT hZ (hw _ (mw 37 rfl))) (g := (mkF m 6 #[.val (.long (32770 : Int64)), .second, .val (.long (1 : Int64)), .second, .unset, .unset] [(.long (32770 : Int64))])) rfl (hb hby d6_6) _ ?_
    show Steps p.tables e below (s₁.setTop (mkF m 9 #[.val (.long (32770 : Int64)), .second, .val (.long (1 : Int64)), .second, .unset, .unset] [(.long (32767 : Int64)), (.long (32770 : Int64))])) tt
    refine XS.land X0.here hx rfl (hb hby d6_9) rfl ?_
    show Steps p.tables e below (s₁.setTop (mkF m 10 #[.val (.long (32770 : Int64)), .second, .val (.long (1 : Int64)), .second, .unset, .unset] [(.long (2 : Int64))])) tt
    refine XS.lstore X0.here hx rfl (hb hby d6_10) rfl (l' := #[.val (.long (32770 : Int64)), .second, .val (.long (1 : Int64)), .second, .val (.long (2 : Int64)), .second]) rfl ?_
    show Steps p.tables e below (s₁.setTop (mkF m 12 #[.val (.long (32770 : Int64)), .second, .val (.long (1 : Int64)), .second, .val (.long (2 : Int64)), .second] [])) tt
    refine XS.lloadN X0.here hx rfl (hb hby d6_12) rfl ?_
    show Steps p.tables e below (s₁.setTop (mkF m 13 #[.val (.long (32770 : Int64)), .second, .val (.long (1 : Int64)), .second, .val (.long (2 : Int64)), .second] [(.long (1 : Int64))])) tt
    refine X0.ldc2Long hx hown (mvT hZ (hw _ (mw 38 rfl))) (g := (mkF m 13 #[.val (.long (32770 : Int64)), .second, .val (.long (1 : Int64)), .second, .val (.long (2 : Int64)), .second] [(.long (1 : Int64))])) rfl (hb hby d6_13) _ ?_
    show Steps p.tables e below (s₁.setTop (mkF m 16 #[.val (.long (32770 : Int64)), .second, .val (.long (1 : Int64)), .second, .val (.long (2 : Int64)), .second] [(.long (3 : Int64)), (.long (1 : Int64))])) tt
    refine XS.lmul X0.here hx rfl (hb hby d6_16) rfl ?_
    show Steps p.tables e below (s₁.setTop (mkF m 17 #[.val (.long (32770 : Int64)), .second, .val (.long (1 : Int64)), .second, .val (.long (2 : Int64)), .second] [(.long (3 : Int64))])) tt
    refine XS.lconst X0.here hx rfl (hb hby d6_17) ?_
    show Steps p.tables e below (s₁.setTop (mkF m 18 #[.val (.long (32770 : Int64)), .second, .val (.long (1 : Int64)), .second, .val (.long (2 : Int64)), .second] [(.long (0 : Int64)), (.long (3 : Int64))])) tt
    refine XS.lload X0.here hx rfl (hb hby d6_18) rfl ?_
    show Steps p.tables e below (s₁.setTop (mkF m 20 #[.val (.long (32770 : Int64)), .second, .val (.long (1 : Int64)), .second, .val (.long (2 : Int64)), .second] [(.long (2 : Int64)), (.long (0 : Int64)), (.long (3 : Int64))])) tt
    refine X0.ldc2Long hx hown (mvT hZ (hw _ (mw 28 rfl))) (g := (mkF m 20 #[.val (.long (32770 : Int64)), .second, .val (.long (1 : Int64)), .second, .val (.long (2 : Int64)), .second] [(.long (2 : Int64)), (.long (0 : Int64)), (.long (3 : Int64))])) rfl (hb hby d6_20) _ ?_
    show Steps p.tables e below (s₁.setTop (mkF m 23 #[.val (.long (32770 : Int64)), .second, .val (.long (1 : Int64)), .second, .val (.long (2 : Int64)), .second] [(.long (32765 : Int64)), (.long (2 : Int64)), (.long (0 : Int64)), (.long (3 : Int64))])) tt
    refine XS.lsub X0.here hx rfl (hb hby d6_23) rfl ?_
    exact kk
  obtain ⟨_, _, ⟨T1, L1, k1, n1⟩, -, X1, ⟨Lc1, hQ1, l1, y1, z1⟩, st1⟩ := Jvm.LawKit.callS X0 hx (y := (⟨"java/lang/Math", "max", "(JJ)J"⟩ : MethodName)) hown (mvT hZ (hw _ (mw 39 rfl))) (mvT hZ (hw _ (mw 40 rfl))) (mvT hZ (hw _ (mw 31 rfl))) (mvT hZ (hw _ (mw 41 rfl))) (by decide) (backOf (W := 2) (rmmx l Z a0 hw []  h0 n0 Z0 ) hZ (hw _ (mw 41 rfl)) (hw _ (mw 31 rfl)) (by decide) (by decide)) (g := (mkF m 24 #[.val (.long (32770 : Int64)), .second, .val (.long (1 : Int64)), .second, .val (.long (2 : Int64)), .second] [(.long (-32763 : Int64)), (.long (0 : Int64)), (.long (3 : Int64))])) rfl (by rw [hml]; rfl) (argsL := [(.long (0 : Int64)), (.long (-32763 : Int64))]) (rest := [(.long (3 : Int64))]) (lenOf pd_4 rfl) rfl (by show 2 * 0 + _ ≤ _; exact Nat.le_of_eq rfl) (hb hby d6_24) (fun _ _ => ⟨rfl, e0, (by decide : 0 + 0 ≤ _), (by decide : 0 + 0 ≤ _)⟩)
  dsimp only [Pt.U, Pt.locs, Pt.cells, Pt.slots] at X1 l1 y1 z1 st1 hQ1
  subst l1 y1 z1
  obtain ⟨rfl, N1q, e1⟩ := hQ1
  have N1 := Fr.app N0 N1q
  refine Goal.to (B := T1.setTop (mkF m 27 #[.val (.long (32770 : Int64)), .second, .val (.long (1 : Int64)), .second, .val (.long (2 : Int64)), .second] [(.long (0 : Int64)), (.long (3 : Int64))])) st1 ?_
  refine Goal.to (B := T1.setTop (mkF m 29 #[.val (.long (32770 : Int64)), .second, .val (.long (1 : Int64)), .second, .val (.long (2 : Int64)), .second] [(.int (3 : Int32))])) (fun tt kk => ?_) ?_
  · show Steps p.tables e below (T1.setTop (mkF m 27 #[.val (.long (32770 : Int64)), .second, .val (.long (1 : Int64)), .second, .val (.long (2 : Int64)), .second] [(.long (0 : Int64)), (.long (3 : Int64))])) tt
    refine XS.ladd X1.here hx rfl (hb hby d6_27) rfl ?_
    show Steps p.tables e below (T1.setTop (mkF m 28 #[.val (.long (32770 : Int64)), .second, .val (.long (1 : Int64)), .second, .val (.long (2 : Int64)), .second] [(.long (3 : Int64))])) tt
    refine XS.l2i X1.here hx rfl (hb hby d6_28) rfl ?_
    exact kk
  exact Goal.retV X1 hx Bd.returns rfl (Or.inl ⟨rfl, Or.inl rfl, _, rfl⟩) (hb hby d6_29) hlk e1 ⟨rfl, N1, rfl⟩ (by decide) (by decide)
theorem ef_1 (m : MethodId) (x0 : Addr) (x1 : Int64) (x2 : Int64)  : entryFrame m #[(.ref x0), (.long x1), (.long x2)] 8 = mkF m 0 #[.val (.ref x0), .val (.long x1), .second, .val (.long x2), .second, .unset, .unset, .unset] [] := by first | (simp [entryFrame, mkF, argsToLocals, Value.category]; done) | rfl
theorem pn_1 : plainName "com/example/hedger/hedger/WordArray" = true := by first | (simp [plainName, overriddenIn]; done) | decide +kernel
theorem d1_0 : decode prog_26_method_2_code 0 = .ok (.aload_n 0, 1) := by decide +kernel
theorem d1_1 : decode prog_26_method_2_code 1 = .ok (.invokespecial 15, 3) := by decide +kernel
theorem d1_4 : decode prog_26_method_2_code 4 = .ok (.lload_n 1, 1) := by decide +kernel
theorem d1_5 : decode prog_26_method_2_code 5 = .ok (.lload_n 3, 1) := by decide +kernel
theorem d1_6 : decode prog_26_method_2_code 6 = .ok (.lsub, 1) := by decide +kernel
theorem d1_7 : decode prog_26_method_2_code 7 = .ok (.lstore 5, 2) := by decide +kernel
theorem d1_9 : decode prog_26_method_2_code 9 = .ok (.aload_n 0, 1) := by decide +kernel
theorem d1_10 : decode prog_26_method_2_code 10 = .ok (.lload_n 1, 1) := by decide +kernel
theorem d1_11 : decode prog_26_method_2_code 11 = .ok (.putfield 20, 3) := by decide +kernel
theorem d1_14 : decode prog_26_method_2_code 14 = .ok (.aload_n 0, 1) := by decide +kernel
theorem d1_15 : decode prog_26_method_2_code 15 = .ok (.lload_n 3, 1) := by decide +kernel
theorem d1_16 : decode prog_26_method_2_code 16 = .ok (.l2i, 1) := by decide +kernel
theorem d1_17 : decode prog_26_method_2_code 17 = .ok (.newarray .long, 2) := by decide +kernel
theorem d1_19 : decode prog_26_method_2_code 19 = .ok (.putfield 24, 3) := by decide +kernel
theorem d1_22 : decode prog_26_method_2_code 22 = .ok (.aload_n 0, 1) := by decide +kernel
theorem d1_23 : decode prog_26_method_2_code 23 = .ok (.lload 5, 2) := by decide +kernel
theorem pd_2 : parseMethodDescriptor "(J)I" = some ⟨[.long], some .int⟩ := by decide +kernel
theorem d1_25 : decode prog_26_method_2_code 25 = .ok (.invokestatic 28, 3) := by decide +kernel
theorem d1_28 : decode prog_26_method_2_code 28 = .ok (.anewarray 32, 3) := by decide +kernel
theorem d1_31 : decode prog_26_method_2_code 31 = .ok (.putfield 33, 3) := by decide +kernel
theorem d1_34 : decode prog_26_method_2_code 34 = .ok (.iconst 0, 1) := by decide +kernel
theorem d1_35 : decode prog_26_method_2_code 35 = .ok (.istore 7, 2) := by decide +kernel
theorem d1_37 : decode prog_26_method_2_code 37 = .ok (.iload 7, 2) := by decide +kernel
theorem d1_39 : decode prog_26_method_2_code 39 = .ok (.aload_n 0, 1) := by decide +kernel
theorem d1_40 : decode prog_26_method_2_code 40 = .ok (.getfield 33, 3) := by decide +kernel
theorem d1_43 : decode prog_26_method_2_code 43 = .ok (.arraylength, 1) := by decide +kernel
theorem d1_44 : decode prog_26_method_2_code 44 = .ok (.if_icmp .ge 25, 3) := by decide +kernel
theorem d1_47 : decode prog_26_method_2_code 47 = .ok (.aload_n 0, 1) := by decide +kernel
theorem d1_48 : decode prog_26_method_2_code 48 = .ok (.getfield 33, 3) := by decide +kernel
theorem d1_51 : decode prog_26_method_2_code 51 = .ok (.iload 7, 2) := by decide +kernel
theorem d1_53 : decode prog_26_method_2_code 53 = .ok (.lload 5, 2) := by decide +kernel
theorem d1_55 : decode prog_26_method_2_code 55 = .ok (.iload 7, 2) := by decide +kernel
theorem pd_3 : parseMethodDescriptor "(JI)I" = some ⟨[.long, .int], some .int⟩ := by decide +kernel
theorem d1_57 : decode prog_26_method_2_code 57 = .ok (.invokestatic 37, 3) := by decide +kernel
theorem d1_60 : decode prog_26_method_2_code 60 = .ok (.newarray .long, 2) := by decide +kernel
theorem d1_62 : decode prog_26_method_2_code 62 = .ok (.aastore, 1) := by decide +kernel
theorem d1_63 : decode prog_26_method_2_code 63 = .ok (.iinc 7 1, 3) := by decide +kernel
theorem d1_66 : decode prog_26_method_2_code 66 = .ok (.goto (-29), 3) := by decide +kernel
theorem d1_69 : decode prog_26_method_2_code 69 = .ok (.aload_n 0, 1) := by decide +kernel
theorem d1_70 : decode prog_26_method_2_code 70 = .ok (.lload 5, 2) := by decide +kernel
theorem d1_72 : decode prog_26_method_2_code 72 = .ok (.invokestatic 41, 3) := by decide +kernel
theorem d1_75 : decode prog_26_method_2_code 75 = .ok (.newarray .long, 2) := by decide +kernel
theorem d1_77 : decode prog_26_method_2_code 77 = .ok (.putfield 44, 3) := by decide +kernel
theorem d1_80 : decode prog_26_method_2_code 80 = .ok (.return_, 1) := by decide +kernel
def QN (Z : State) (va : Addr) (hn : Nat) (u0 : Int64) (u1 : Int64) (h0 : Heap) (n0 : Nat) (v : Option Value) (h : Heap) (L : List Loc) : Prop := ∃ vh : Addr, ∃ vp : Addr, ∃ pa : Addr, ∃ pb : Addr, ∃ vs : Addr, v = none ∧ Fr n0 L ∧ Keep h0 h [va] ∧ h0.size ≤ vh ∧ h0.size ≤ vp ∧ h0.size ≤ pa ∧ h0.size ≤ pb ∧ h0.size ≤ vs ∧ vh ≠ vp ∧ vh ≠ pa ∧ vh ≠ pb ∧ vh ≠ vs ∧ vp ≠ pa ∧ vp ≠ pb ∧ vp ≠ vs ∧ pa ≠ pb ∧ pa ≠ vs ∧ pb ≠ vs ∧ Fld Z h va "com/example/hedger/hedger/WordArray" "head" "[J" (.ref vh) ∧ Fld Z h va "com/example/hedger/hedger/WordArray" "pages" "[[J" (.ref vp) ∧ Fld Z h va "com/example/hedger/hedger/WordArray" "spares" "[J" (.ref vs) ∧ Ary Z h vh .long (own_l (fun _ => (0 : Int64)) 0 hn) ∧ Ary Z h vp (.array .long) [(.ref pa), (.ref pb)] ∧ Ary Z h pa .long (own_l (fun _ => (0 : Int64)) hn 32765) ∧ Ary Z h pb .long (own_l (fun _ => (0 : Int64)) (hn + 32768) 2) ∧ Ary Z h vs .long (own_l (fun _ => (0 : Int64)) (hn + 32765) 3)
set_option maxRecDepth 65536 in
set_option maxHeartbeats 40000000 in
theorem rmN (l : Launch) (Z : State) (a0 : Array Value) (hw : ∀ d ∈ tables_1, d.before a0 Z = true) (ws : List Jvm.Cond) (va : Addr) (hn : Nat) (u0 : Int64) (u1 : Int64) (h0 : Heap) (n0 : Nat) (Z0 : n0 ≤ h0.size) (E_va : Exa Z h0 va "com/example/hedger/hedger/WordArray") (F_wordCount_va : Fld Z h0 va "com/example/hedger/hedger/WordArray" "wordCount" "J" (.long (0 : Int64))) (F_head_va : Fld Z h0 va "com/example/hedger/hedger/WordArray" "head" "[J" .null) (F_pages_va : Fld Z h0 va "com/example/hedger/hedger/WordArray" "pages" "[[J" .null) (F_spares_va : Fld Z h0 va "com/example/hedger/hedger/WordArray" "spares" "[J" .null) (g_va : n0 ≤ va) (hhn : hn ≤ 3) (hun : u1.toInt = (hn : Int)) (hdf : (u0 - u1) = (32770 : Int64)) :
    MetFree l (⟨"com/example/hedger/hedger/WordArray", "<init>", "(JJ)V"⟩ : MethodName) (head1 (Jvm.Cond.code (⟨"com/example/hedger/hedger/WordArray", "<init>", "(JJ)V"⟩ : MethodName) prog_26_method_2_code 8 none :: ws) ({ frames := 2, cells := 5, slots := 32775, locals := 35 } : Room)) (fun a U => a = #[(.ref va), (.long u0), (.long u1)] ∧ Z.Warmed39 U.vm ∧ U.heap = h0) (fun _ _ _ _ _ => True) (fun _ U o U' => ∃ v L, o = .returned v ∧ QN Z va hn u0 u1 h0 n0 v U'.heap L ∧ FrameEnd U o U' L 5 32775) := by
  refine MetFree.of_bodySF (plainFor_of_name pn_1) hisR ?_
  intro p e s m args below meth c s₁ Bd hml0 hP hK
  obtain ⟨rfl, hZ, hh⟩ := hP
  have hx := Bd.exec
  have hby := Bd.bytes
  have hml : c.maxLocals = 8 := hml0
  have hown : s.vm.findClass "com/example/hedger/hedger/WordArray" = some m.cls := findClass_of_methodNamed Bd.named
  have hnm := (name_of_methodNamed Bd.named Bd.method).1
  have X0 : Stand p l e ({ frames := 2, cells := 5, slots := 32775, locals := 35 } : Room) s m #[(.ref va), (.long u0), (.long u1)] below meth c s₁ [] 0 0 := Stand.of_body Bd
  have e0 : s₁.heap = h0 := by rw [← hh, Bd.state]; rfl
  have N0 := Fr.nil n0
  have hlk : meth.locks = false := BodyLoose.notSynchronized Bd
  show Goal p e below s (QN Z va hn u0 u1 h0 n0) 5 32775 (s₁.setTop (entryFrame m #[(.ref va), (.long u0), (.long u1)] 8))
  refine Goal.to (B := s₁.setTop (mkF m 0 #[.val (.ref va), .val (.long u0), .second, .val (.long u1), .second, .unset, .unset, .unset] [])) (fun tt kk => castTop (ef_1 m va u0 u1 ) kk) ?_
  refine Goal.to (B := s₁.setTop (mkF m 1 #[.val (.ref va), .val (.long u0), .second, .val (.long u1), .second, .unset, .unset, .unset] [(.ref va)])) (fun tt kk => ?_) ?_
  · show Steps p.tables e below (s₁.setTop (mkF m 0 #[.val (.ref va), .val (.long u0), .second, .val (.long u1), .second, .unset, .unset, .unset] [])) tt
    refine XS.aloadN X0.here hx rfl (hb hby d1_0) rfl rfl ?_
    exact kk
  obtain ⟨T1, X1, e1, st1⟩ := initO X0 hx hZ hown (hw _ (mw 9 rfl)) (hw _ (mw 10 rfl)) (hw _ (mw 11 rfl)) e0 (g := (mkF m 1 #[.val (.ref va), .val (.long u0), .second, .val (.long u1), .second, .unset, .unset, .unset] [(.ref va)])) rfl (by rw [hml]; rfl) rfl (hb hby d1_1) (by decide) (W := 0) (by show 2 * 0 + _ ≤ _; exact Nat.le_of_eq rfl) (by decide)
  refine Goal.to (B := T1.setTop (mkF m 4 #[.val (.ref va), .val (.long u0), .second, .val (.long u1), .second, .unset, .unset, .unset] [])) st1 ?_
  obtain ⟨aw, haw⟩ : ∃ z : Int64, z = (u0 - u1) := ⟨_, rfl⟩
  refine Goal.to (B := T1.setTop (mkF m 9 #[.val (.ref va), .val (.long u0), .second, .val (.long u1), .second, .val (.long aw), .second, .unset] [])) (fun tt kk => ?_) ?_
  · subst haw
    show Steps p.tables e below (T1.setTop (mkF m 4 #[.val (.ref va), .val (.long u0), .second, .val (.long u1), .second, .unset, .unset, .unset] [])) tt
    refine XS.lloadN X1.here hx rfl (hb hby d1_4) rfl ?_
    show Steps p.tables e below (T1.setTop (mkF m 5 #[.val (.ref va), .val (.long u0), .second, .val (.long u1), .second, .unset, .unset, .unset] [(.long u0)])) tt
    refine XS.lloadN X1.here hx rfl (hb hby d1_5) rfl ?_
    show Steps p.tables e below (T1.setTop (mkF m 6 #[.val (.ref va), .val (.long u0), .second, .val (.long u1), .second, .unset, .unset, .unset] [(.long u1), (.long u0)])) tt
    refine XS.lsub X1.here hx rfl (hb hby d1_6) rfl ?_
    show Steps p.tables e below (T1.setTop (mkF m 7 #[.val (.ref va), .val (.long u0), .second, .val (.long u1), .second, .unset, .unset, .unset] [(.long (u0 - u1))])) tt
    refine XS.lstore X1.here hx rfl (hb hby d1_7) rfl (l' := #[.val (.ref va), .val (.long u0), .second, .val (.long u1), .second, .val (.long (u0 - u1)), .second, .unset]) rfl ?_
    exact kk
  obtain rfl : aw = (32770 : Int64) := haw.trans hdf
  · refine Goal.to (B := T1.setTop (mkF m 11 #[.val (.ref va), .val (.long u0), .second, .val (.long u1), .second, .val (.long (32770 : Int64)), .second, .unset] [(.long u0), (.ref va)])) (fun tt kk => ?_) ?_
    · show Steps p.tables e below (T1.setTop (mkF m 9 #[.val (.ref va), .val (.long u0), .second, .val (.long u1), .second, .val (.long (32770 : Int64)), .second, .unset] [])) tt
      refine XS.aloadN X1.here hx rfl (hb hby d1_9) rfl rfl ?_
      show Steps p.tables e below (T1.setTop (mkF m 10 #[.val (.ref va), .val (.long u0), .second, .val (.long u1), .second, .val (.long (32770 : Int64)), .second, .unset] [(.ref va)])) tt
      refine XS.lloadN X1.here hx rfl (hb hby d1_10) rfl ?_
      exact kk
    obtain ⟨T2, h2, X2, e2, W2, st2⟩ := putF X1 hx hZ hown (host := "") (Or.inl (hw _ (mw 12 rfl))) Via.refl e1 F_wordCount_va E_va (Or.inr ⟨(hw _ (mw 13 rfl)), rfl, hnm⟩) (hw _ (mw 4 rfl)) (ty := .long) (by decide) rfl rfl (g := (mkF m 11 #[.val (.ref va), .val (.long u0), .second, .val (.long u1), .second, .val (.long (32770 : Int64)), .second, .unset] [(.long u0), (.ref va)])) rfl rfl (hb hby d1_11)
    have Fw2 : Fld Z h2 va "com/example/hedger/hedger/WordArray" "wordCount" "J" (.long u0) := F_wordCount_va.same W2
    have N2 := Fr.snoc X2 N0 g_va
    refine Goal.to (B := T2.setTop (mkF m 14 #[.val (.ref va), .val (.long u0), .second, .val (.long u1), .second, .val (.long (32770 : Int64)), .second, .unset] [])) st2 ?_
    refine Goal.to (B := T2.setTop (mkF m 17 #[.val (.ref va), .val (.long u0), .second, .val (.long u1), .second, .val (.long (32770 : Int64)), .second, .unset] [(.int (u1.toInt32)), (.ref va)])) (fun tt kk => ?_) ?_
    · show Steps p.tables e below (T2.setTop (mkF m 14 #[.val (.ref va), .val (.long u0), .second, .val (.long u1), .second, .val (.long (32770 : Int64)), .second, .unset] [])) tt
      refine XS.aloadN X2.here hx rfl (hb hby d1_14) rfl rfl ?_
      show Steps p.tables e below (T2.setTop (mkF m 15 #[.val (.ref va), .val (.long u0), .second, .val (.long u1), .second, .val (.long (32770 : Int64)), .second, .unset] [(.ref va)])) tt
      refine XS.lloadN X2.here hx rfl (hb hby d1_15) rfl ?_
      show Steps p.tables e below (T2.setTop (mkF m 16 #[.val (.ref va), .val (.long u0), .second, .val (.long u1), .second, .val (.long (32770 : Int64)), .second, .unset] [(.long u1), (.ref va)])) tt
      refine XS.l2i X2.here hx rfl (hb hby d1_16) rfl ?_
      exact kk
    have f4 : Exa Z h2 va "com/example/hedger/hedger/WordArray" := (E_va.wr W2)
    have f5 : n0 ≤ h2.size := (Nat.le_trans Z0 (Keep.of_wr W2).1)
    have f6 : Keep h0 h2 [va] := ((Keep.refl h0 [va]).wr W2 (Or.inl (List.mem_of_getElem? (i := 0) rfl)))
    obtain ⟨T3, h3, k3, X3, e3, E3, A3, Ex3, st3⟩ := newPE X2 hx hZ (hw _ (mw 14 rfl)) e2 (g := (mkF m 17 #[.val (.ref va), .val (.long u0), .second, .val (.long u1), .second, .val (.long (32770 : Int64)), .second, .unset] [(.int (u1.toInt32)), (.ref va)])) rfl (hb hby d1_17) rfl (own_idx (own_l2i hun (by omega))).1 (cap := 3) (by rw [(own_idx (own_l2i hun (by omega))).2]; exact hhn) (by decide) (by decide) (by decide) (ad := "[J") (by decide)
    obtain ⟨b3, g3⟩ : ∃ z, z = h2.size := ⟨_, rfl⟩
    rw [← g3] at A3 Ex3 st3
    have ne_va_b3 : va ≠ b3 := Nat.ne_of_lt (Nat.lt_of_lt_of_le f4.lt (Nat.le_of_eq g3.symm))
    have g_b3 : n0 ≤ b3 := Nat.le_trans f5 (Nat.le_of_eq g3.symm)
    have sz_b3 : h0.size ≤ b3 := Nat.le_trans f6.1 (Nat.le_of_eq g3.symm)
    have V3 : Ary Z h3 b3 .long (List.replicate hn (.long (0 : Int64))) := Ary.new A3 (own_idx (own_l2i hun (by omega))).2
    refine Goal.to (B := T3.setTop (mkF m 19 #[.val (.ref va), .val (.long u0), .second, .val (.long u1), .second, .val (.long (32770 : Int64)), .second, .unset] [(.ref b3), (.ref va)])) st3 ?_
    have f7 : Fld Z h3 va "com/example/hedger/hedger/WordArray" "head" "[J" .null := ((F_head_va.other W2 (Or.inr (slot_ne (Or.inr (hw _ (mw 16 rfl))) (Or.inr (hw _ (mw 13 rfl))) (by decide) (t := (.array .long)) (t' := .long) (by decide) (by decide)))).ext E3)
    have f8 : Exa Z h3 va "com/example/hedger/hedger/WordArray" := (f4.ext E3)
    obtain ⟨T9, h9, X9, e9, W9, st9⟩ := putF X3 hx hZ hown (host := "") (Or.inl (hw _ (mw 15 rfl))) Via.refl e3 f7 f8 (Or.inr ⟨(hw _ (mw 16 rfl)), rfl, hnm⟩) (hw _ (mw 4 rfl)) (ty := (.array .long)) (by decide) rfl rfl (g := (mkF m 19 #[.val (.ref va), .val (.long u0), .second, .val (.long u1), .second, .val (.long (32770 : Int64)), .second, .unset] [(.ref b3), (.ref va)])) rfl rfl (hb hby d1_19)
    have Fw9 : Fld Z h9 va "com/example/hedger/hedger/WordArray" "head" "[J" (.ref b3) := f7.same W9
    have N9 := Fr.snoc X9 N2 g_va
    refine Goal.to (B := T9.setTop (mkF m 22 #[.val (.ref va), .val (.long u0), .second, .val (.long u1), .second, .val (.long (32770 : Int64)), .second, .unset] [])) st9 ?_
    refine Goal.to (B := T9.setTop (mkF m 25 #[.val (.ref va), .val (.long u0), .second, .val (.long u1), .second, .val (.long (32770 : Int64)), .second, .unset] [(.long (32770 : Int64)), (.ref va)])) (fun tt kk => ?_) ?_
    · show Steps p.tables e below (T9.setTop (mkF m 22 #[.val (.ref va), .val (.long u0), .second, .val (.long u1), .second, .val (.long (32770 : Int64)), .second, .unset] [])) tt
      refine XS.aloadN X9.here hx rfl (hb hby d1_22) rfl rfl ?_
      show Steps p.tables e below (T9.setTop (mkF m 23 #[.val (.ref va), .val (.long u0), .second, .val (.long u1), .second, .val (.long (32770 : Int64)), .second, .unset] [(.ref va)])) tt
      refine XS.lload X9.here hx rfl (hb hby d1_23) rfl ?_
      exact kk
    have f10 : n0 ≤ h9.size := (Nat.le_trans (Nat.le_trans f5 E3.1) (Keep.of_wr W9).1)
    obtain ⟨_, _, ⟨T11, L11, k11, n11⟩, -, X11, ⟨Lc11, hQ11, l11, y11, z11⟩, st11⟩ := Jvm.LawKit.callS X9 hx (y := (⟨"com/example/hedger/hedger/WordArray", "pageCount", "(J)I"⟩ : MethodName)) hown (mvT hZ (hw _ (mw 17 rfl))) (mvT hZ (hw _ (mw 18 rfl))) (mvT hZ (hw _ (mw 5 rfl))) (mvT hZ (hw _ (mw 19 rfl))) (by decide) (backOf (W := 1) (rmpc l Z a0 hw []  h9 n0 f10 ) hZ (hw _ (mw 19 rfl)) (hw _ (mw 5 rfl)) (by decide) (by decide)) (g := (mkF m 25 #[.val (.ref va), .val (.long u0), .second, .val (.long u1), .second, .val (.long (32770 : Int64)), .second, .unset] [(.long (32770 : Int64)), (.ref va)])) rfl (by rw [hml]; rfl) (argsL := [(.long (32770 : Int64))]) (rest := [(.ref va)]) (lenOf pd_2 rfl) rfl (by show 2 * 0 + _ ≤ _; exact Nat.le_of_eq rfl) (hb hby d1_25) (fun _ _ => ⟨rfl, e9, (by decide : 1 + 0 ≤ _), (by decide : 3 + 0 ≤ _)⟩)
    dsimp only [Pt.U, Pt.locs, Pt.cells, Pt.slots] at X11 l11 y11 z11 st11 hQ11
    subst l11 y11 z11
    obtain ⟨rfl, N11q, e11⟩ := hQ11
    have N11 := Fr.app N9 N11q
    refine Goal.to (B := T11.setTop (mkF m 28 #[.val (.ref va), .val (.long u0), .second, .val (.long u1), .second, .val (.long (32770 : Int64)), .second, .unset] [(.int (2 : Int32)), (.ref va)])) st11 ?_
    have f13 : Exa Z h9 va "com/example/hedger/hedger/WordArray" := (f8.wr W9)
    have f14 : Exa Z h9 b3 "[J" := (Ex3.wr W9)
    have f15 : Keep h0 h9 [va] := ((f6.ext E3).wr W9 (Or.inl (List.mem_of_getElem? (i := 0) rfl)))
    obtain ⟨T12, h12, k12, X12, e12, E12, A12, Ex12, O12, st12⟩ := newRA X11 hx hZ hown (by decide) (hw _ (mw 21 rfl)) (hw _ (mw 22 rfl)) e11 (g := (mkF m 28 #[.val (.ref va), .val (.long u0), .second, .val (.long u1), .second, .val (.long (32770 : Int64)), .second, .unset] [(.int (2 : Int32)), (.ref va)])) rfl (hb hby d1_28) rfl (by decide) (cap := 2) (by decide) (by decide) (by decide) (by decide) (had := rfl)
    obtain ⟨b12, g12⟩ : ∃ z, z = h9.size := ⟨_, rfl⟩
    rw [← g12] at A12 st12
    have ne_va_b12 : va ≠ b12 := Nat.ne_of_lt (Nat.lt_of_lt_of_le f13.lt (Nat.le_of_eq g12.symm))
    have ne_b3_b12 : b3 ≠ b12 := Nat.ne_of_lt (Nat.lt_of_lt_of_le f14.lt (Nat.le_of_eq g12.symm))
    have g_b12 : n0 ≤ b12 := Nat.le_trans f10 (Nat.le_of_eq g12.symm)
    have sz_b12 : h0.size ≤ b12 := Nat.le_trans f15.1 (Nat.le_of_eq g12.symm)
    have Ov12 : OvrB Z h12 b12 "[J" := ⟨_, _, A12.1, O12⟩
    have V12 : Ary Z h12 b12 (.array .long) [.null, .null] := Ary.new A12 rfl
    refine Goal.to (B := T12.setTop (mkF m 31 #[.val (.ref va), .val (.long u0), .second, .val (.long u1), .second, .val (.long (32770 : Int64)), .second, .unset] [(.ref b12), (.ref va)])) st12 ?_
    have f16 : Fld Z h12 va "com/example/hedger/hedger/WordArray" "pages" "[[J" .null := ((((F_pages_va.other W2 (Or.inr (slot_ne (Or.inr (hw _ (mw 24 rfl))) (Or.inr (hw _ (mw 13 rfl))) (by decide) (t := (.array (.array .long))) (t' := .long) (by decide) (by decide)))).ext E3).other W9 (Or.inr (slot_ne (Or.inr (hw _ (mw 24 rfl))) (Or.inr (hw _ (mw 16 rfl))) (by decide) (t := (.array (.array .long))) (t' := (.array .long)) (by decide) (by decide)))).ext E12)
    have f17 : Exa Z h12 va "com/example/hedger/hedger/WordArray" := (f13.ext E12)
    obtain ⟨T18, h18, X18, e18, W18, st18⟩ := putF X12 hx hZ hown (host := "") (Or.inl (hw _ (mw 23 rfl))) Via.refl e12 f16 f17 (Or.inr ⟨(hw _ (mw 24 rfl)), rfl, hnm⟩) (hw _ (mw 4 rfl)) (ty := (.array (.array .long))) (by decide) rfl rfl (g := (mkF m 31 #[.val (.ref va), .val (.long u0), .second, .val (.long u1), .second, .val (.long (32770 : Int64)), .second, .unset] [(.ref b12), (.ref va)])) rfl rfl (hb hby d1_31)
    have Fw18 : Fld Z h18 va "com/example/hedger/hedger/WordArray" "pages" "[[J" (.ref b12) := f16.same W18
    have N18 := Fr.snoc X18 N11 g_va
    refine Goal.to (B := T18.setTop (mkF m 34 #[.val (.ref va), .val (.long u0), .second, .val (.long u1), .second, .val (.long (32770 : Int64)), .second, .unset] [])) st18 ?_
    refine Goal.to (B := T18.setTop (mkF m 40 #[.val (.ref va), .val (.long u0), .second, .val (.long u1), .second, .val (.long (32770 : Int64)), .second, .val (.int (0 : Int32))] [(.ref va), (.int (0 : Int32))])) (fun tt kk => ?_) ?_
    · show Steps p.tables e below (T18.setTop (mkF m 34 #[.val (.ref va), .val (.long u0), .second, .val (.long u1), .second, .val (.long (32770 : Int64)), .second, .unset] [])) tt
      refine XS.iconst X18.here hx rfl (hb hby d1_34) ?_
      show Steps p.tables e below (T18.setTop (mkF m 35 #[.val (.ref va), .val (.long u0), .second, .val (.long u1), .second, .val (.long (32770 : Int64)), .second, .unset] [(.int (0 : Int32))])) tt
      refine XS.istore X18.here hx rfl (hb hby d1_35) rfl (l' := #[.val (.ref va), .val (.long u0), .second, .val (.long u1), .second, .val (.long (32770 : Int64)), .second, .val (.int (0 : Int32))]) rfl ?_
      show Steps p.tables e below (T18.setTop (mkF m 37 #[.val (.ref va), .val (.long u0), .second, .val (.long u1), .second, .val (.long (32770 : Int64)), .second, .val (.int (0 : Int32))] [])) tt
      refine XS.iload X18.here hx rfl (hb hby d1_37) rfl ?_
      show Steps p.tables e below (T18.setTop (mkF m 39 #[.val (.ref va), .val (.long u0), .second, .val (.long u1), .second, .val (.long (32770 : Int64)), .second, .val (.int (0 : Int32))] [(.int (0 : Int32))])) tt
      refine XS.aloadN X18.here hx rfl (hb hby d1_39) rfl rfl ?_
      exact kk
    obtain ⟨T19, X19, e19, st19⟩ := getF X18 hx hZ hown (host := "") (Or.inl (hw _ (mw 23 rfl))) Via.refl e18 Fw18 (g := (mkF m 40 #[.val (.ref va), .val (.long u0), .second, .val (.long u1), .second, .val (.long (32770 : Int64)), .second, .val (.int (0 : Int32))] [(.ref va), (.int (0 : Int32))])) rfl rfl (hb hby d1_40)
    refine Goal.to (B := T19.setTop (mkF m 43 #[.val (.ref va), .val (.long u0), .second, .val (.long u1), .second, .val (.long (32770 : Int64)), .second, .val (.int (0 : Int32))] [(.ref b12), (.int (0 : Int32))])) st19 ?_
    have f20 : Ary Z h18 b12 (.array .long) [.null, .null] := (V12.other W18 (Ne.symm ne_va_b12))
    obtain ⟨cl21, Ar21, Sl21⟩ := id f20
    have ln21 : cl21.slots.size.toInt32 = (2 : Int32) := lenA Sl21 rfl
    refine Goal.to (B := T19.setTop (mkF m 48 #[.val (.ref va), .val (.long u0), .second, .val (.long u1), .second, .val (.long (32770 : Int64)), .second, .val (.int (0 : Int32))] [(.ref va)])) (fun tt kk => ?_) ?_
    · show Steps p.tables e below (T19.setTop (mkF m 43 #[.val (.ref va), .val (.long u0), .second, .val (.long u1), .second, .val (.long (32770 : Int64)), .second, .val (.int (0 : Int32))] [(.ref b12), (.int (0 : Int32))])) tt
      refine X19.arraylength hx (by rw [e19]; exact Ar21.1) (State.isArrayOf_alike hZ.alike Ar21.2.1) (g := (mkF m 43 #[.val (.ref va), .val (.long u0), .second, .val (.long u1), .second, .val (.long (32770 : Int64)), .second, .val (.int (0 : Int32))] [(.ref b12), (.int (0 : Int32))])) rfl rfl (hb hby d1_43) _ ?_
      rw [ln21]
      show Steps p.tables e below (T19.setTop (mkF m 44 #[.val (.ref va), .val (.long u0), .second, .val (.long u1), .second, .val (.long (32770 : Int64)), .second, .val (.int (0 : Int32))] [(.int (2 : Int32)), (.int (0 : Int32))])) tt
      refine XS.icmpNo X19.here hx rfl (hb hby d1_44) rfl (tlt ((by decide) : (0 : Int32) < (2 : Int32))).2.1 ?_
      show Steps p.tables e below (T19.setTop (mkF m 47 #[.val (.ref va), .val (.long u0), .second, .val (.long u1), .second, .val (.long (32770 : Int64)), .second, .val (.int (0 : Int32))] [])) tt
      refine XS.aloadN X19.here hx rfl (hb hby d1_47) rfl rfl ?_
      exact kk
    obtain ⟨T22, X22, e22, st22⟩ := getF X19 hx hZ hown (host := "") (Or.inl (hw _ (mw 23 rfl))) Via.refl e19 Fw18 (g := (mkF m 48 #[.val (.ref va), .val (.long u0), .second, .val (.long u1), .second, .val (.long (32770 : Int64)), .second, .val (.int (0 : Int32))] [(.ref va)])) rfl rfl (hb hby d1_48)
    refine Goal.to (B := T22.setTop (mkF m 51 #[.val (.ref va), .val (.long u0), .second, .val (.long u1), .second, .val (.long (32770 : Int64)), .second, .val (.int (0 : Int32))] [(.ref b12)])) st22 ?_
    refine Goal.to (B := T22.setTop (mkF m 57 #[.val (.ref va), .val (.long u0), .second, .val (.long u1), .second, .val (.long (32770 : Int64)), .second, .val (.int (0 : Int32))] [(.int (0 : Int32)), (.long (32770 : Int64)), (.int (0 : Int32)), (.ref b12)])) (fun tt kk => ?_) ?_
    · show Steps p.tables e below (T22.setTop (mkF m 51 #[.val (.ref va), .val (.long u0), .second, .val (.long u1), .second, .val (.long (32770 : Int64)), .second, .val (.int (0 : Int32))] [(.ref b12)])) tt
      refine XS.iload X22.here hx rfl (hb hby d1_51) rfl ?_
      show Steps p.tables e below (T22.setTop (mkF m 53 #[.val (.ref va), .val (.long u0), .second, .val (.long u1), .second, .val (.long (32770 : Int64)), .second, .val (.int (0 : Int32))] [(.int (0 : Int32)), (.ref b12)])) tt
      refine XS.lload X22.here hx rfl (hb hby d1_53) rfl ?_
      show Steps p.tables e below (T22.setTop (mkF m 55 #[.val (.ref va), .val (.long u0), .second, .val (.long u1), .second, .val (.long (32770 : Int64)), .second, .val (.int (0 : Int32))] [(.long (32770 : Int64)), (.int (0 : Int32)), (.ref b12)])) tt
      refine XS.iload X22.here hx rfl (hb hby d1_55) rfl ?_
      exact kk
    have f23 : n0 ≤ h18.size := (Nat.le_trans (Nat.le_trans f10 E12.1) (Keep.of_wr W18).1)
    obtain ⟨_, _, ⟨T24, L24, k24, n24⟩, -, X24, ⟨Lc24, hQ24, l24, y24, z24⟩, st24⟩ := Jvm.LawKit.callS X22 hx (y := (⟨"com/example/hedger/hedger/WordArray", "arrayWordsInPage", "(JI)I"⟩ : MethodName)) hown (mvT hZ (hw _ (mw 25 rfl))) (mvT hZ (hw _ (mw 26 rfl))) (mvT hZ (hw _ (mw 5 rfl))) (mvT hZ (hw _ (mw 27 rfl))) (by decide) (backOf (W := 2) (rmaw0 l Z a0 hw []  h18 n0 f23 ) hZ (hw _ (mw 27 rfl)) (hw _ (mw 5 rfl)) (by decide) (by decide)) (g := (mkF m 57 #[.val (.ref va), .val (.long u0), .second, .val (.long u1), .second, .val (.long (32770 : Int64)), .second, .val (.int (0 : Int32))] [(.int (0 : Int32)), (.long (32770 : Int64)), (.int (0 : Int32)), (.ref b12)])) rfl (by rw [hml]; rfl) (argsL := [(.long (32770 : Int64)), (.int (0 : Int32))]) (rest := [(.int (0 : Int32)), (.ref b12)]) (lenOf pd_3 rfl) rfl (by show 2 * 0 + _ ≤ _; exact Nat.le_of_eq rfl) (hb hby d1_57) (fun _ _ => ⟨rfl, e22, (by decide : 2 + 0 ≤ _), (by decide : 5 + 0 ≤ _)⟩)
    dsimp only [Pt.U, Pt.locs, Pt.cells, Pt.slots] at X24 l24 y24 z24 st24 hQ24
    subst l24 y24 z24
    obtain ⟨rfl, N24q, e24⟩ := hQ24
    have N24 := Fr.app N18 N24q
    refine Goal.to (B := T24.setTop (mkF m 60 #[.val (.ref va), .val (.long u0), .second, .val (.long u1), .second, .val (.long (32770 : Int64)), .second, .val (.int (0 : Int32))] [(.int (32765 : Int32)), (.int (0 : Int32)), (.ref b12)])) st24 ?_
    have f26 : Exa Z h18 va "com/example/hedger/hedger/WordArray" := (f17.wr W18)
    have f27 : Exa Z h18 b3 "[J" := ((f14.ext E12).wr W18)
    have f28 : Keep h0 h18 [va] := ((f15.ext E12).wr W18 (Or.inl (List.mem_of_getElem? (i := 0) rfl)))
    obtain ⟨T25, h25, k25, X25, e25, E25, A25, Ex25, st25⟩ := newPE X24 hx hZ (hw _ (mw 14 rfl)) e24 (g := (mkF m 60 #[.val (.ref va), .val (.long u0), .second, .val (.long u1), .second, .val (.long (32770 : Int64)), .second, .val (.int (0 : Int32))] [(.int (32765 : Int32)), (.int (0 : Int32)), (.ref b12)])) rfl (hb hby d1_60) rfl (by decide) (cap := 32765) (by decide) (by decide) (by decide) (by decide) (ad := "[J") (by decide)
    obtain ⟨b25, g25⟩ : ∃ z, z = h18.size := ⟨_, rfl⟩
    rw [← g25] at A25 Ex25 st25
    have ne_va_b25 : va ≠ b25 := Nat.ne_of_lt (Nat.lt_of_lt_of_le f26.lt (Nat.le_of_eq g25.symm))
    have ne_b3_b25 : b3 ≠ b25 := Nat.ne_of_lt (Nat.lt_of_lt_of_le f27.lt (Nat.le_of_eq g25.symm))
    have ne_b12_b25 : b12 ≠ b25 := Nat.ne_of_lt (Nat.lt_of_lt_of_le f20.lt (Nat.le_of_eq g25.symm))
    have g_b25 : n0 ≤ b25 := Nat.le_trans f23 (Nat.le_of_eq g25.symm)
    have sz_b25 : h0.size ≤ b25 := Nat.le_trans f28.1 (Nat.le_of_eq g25.symm)
    have V25 : Ary Z h25 b25 .long (List.replicate 32765 (.long (0 : Int64))) := Ary.new A25 rfl
    refine Goal.to (B := T25.setTop (mkF m 62 #[.val (.ref va), .val (.long u0), .second, .val (.long u1), .second, .val (.long (32770 : Int64)), .second, .val (.int (0 : Int32))] [(.ref b25), (.int (0 : Int32)), (.ref b12)])) st25 ?_
    have f29 : Ary Z h25 b12 (.array .long) [.null, .null] := (f20.ext E25)
    obtain ⟨cl30, Ar30, Sl30⟩ := id f29
    have hin30 := inA (cl := cl30) Sl30 (j := (0 : Int32)) (by decide) (Nat.le_of_ble_eq_true rfl)
    have f31 : OvrB Z h25 b12 "[J" := ((Ov12.wr W18).ext E25)
    obtain ⟨T30, h30, X30, e30, W30, st30⟩ := stR X25 hx hZ e25 Ar30 (j := (0 : Int32)) hin30 rfl (stoB Ar30 f31 (Ins.self Ex25)) (g := (mkF m 62 #[.val (.ref va), .val (.long u0), .second, .val (.long u1), .second, .val (.long (32770 : Int64)), .second, .val (.int (0 : Int32))] [(.ref b25), (.int (0 : Int32)), (.ref b12)])) rfl rfl (hb hby d1_62)
    have V30 : Ary Z h30 b12 (.array .long) [(.ref b25), .null] := Ary.put Ar30 Sl30 W30 rfl
    have N30 := Fr.snoc X30 N24 g_b12
    refine Goal.to (B := T30.setTop (mkF m 63 #[.val (.ref va), .val (.long u0), .second, .val (.long u1), .second, .val (.long (32770 : Int64)), .second, .val (.int (0 : Int32))] [])) st30 ?_
    refine Goal.to (B := T30.setTop (mkF m 40 #[.val (.ref va), .val (.long u0), .second, .val (.long u1), .second, .val (.long (32770 : Int64)), .second, .val (.int (1 : Int32))] [(.ref va), (.int (1 : Int32))])) (fun tt kk => ?_) ?_
    · show Steps p.tables e below (T30.setTop (mkF m 63 #[.val (.ref va), .val (.long u0), .second, .val (.long u1), .second, .val (.long (32770 : Int64)), .second, .val (.int (0 : Int32))] [])) tt
      refine XS.iinc X30.here hx rfl (hb hby d1_63) rfl (l' := #[.val (.ref va), .val (.long u0), .second, .val (.long u1), .second, .val (.long (32770 : Int64)), .second, .val (.int (1 : Int32))]) rfl ?_
      show Steps p.tables e below (T30.setTop (mkF m 66 #[.val (.ref va), .val (.long u0), .second, .val (.long u1), .second, .val (.long (32770 : Int64)), .second, .val (.int (1 : Int32))] [])) tt
      refine XS.goto X30.here hx rfl (pc0 := 66) (pc' := 37) rfl (hb hby d1_66) (by decide) (by decide) ?_
      show Steps p.tables e below (T30.setTop (mkF m 37 #[.val (.ref va), .val (.long u0), .second, .val (.long u1), .second, .val (.long (32770 : Int64)), .second, .val (.int (1 : Int32))] [])) tt
      refine XS.iload X30.here hx rfl (hb hby d1_37) rfl ?_
      show Steps p.tables e below (T30.setTop (mkF m 39 #[.val (.ref va), .val (.long u0), .second, .val (.long u1), .second, .val (.long (32770 : Int64)), .second, .val (.int (1 : Int32))] [(.int (1 : Int32))])) tt
      refine XS.aloadN X30.here hx rfl (hb hby d1_39) rfl rfl ?_
      exact kk
    have f32 : Fld Z h30 va "com/example/hedger/hedger/WordArray" "pages" "[[J" (.ref b12) := ((Fw18.ext E25).other W30 (Or.inl ne_va_b12))
    obtain ⟨T33, X33, e33, st33⟩ := getF X30 hx hZ hown (host := "") (Or.inl (hw _ (mw 23 rfl))) Via.refl e30 f32 (g := (mkF m 40 #[.val (.ref va), .val (.long u0), .second, .val (.long u1), .second, .val (.long (32770 : Int64)), .second, .val (.int (1 : Int32))] [(.ref va), (.int (1 : Int32))])) rfl rfl (hb hby d1_40)
    refine Goal.to (B := T33.setTop (mkF m 43 #[.val (.ref va), .val (.long u0), .second, .val (.long u1), .second, .val (.long (32770 : Int64)), .second, .val (.int (1 : Int32))] [(.ref b12), (.int (1 : Int32))])) st33 ?_
    obtain ⟨cl34, Ar34, Sl34⟩ := id V30
    have ln34 : cl34.slots.size.toInt32 = (2 : Int32) := lenA Sl34 rfl
    refine Goal.to (B := T33.setTop (mkF m 48 #[.val (.ref va), .val (.long u0), .second, .val (.long u1), .second, .val (.long (32770 : Int64)), .second, .val (.int (1 : Int32))] [(.ref va)])) (fun tt kk => ?_) ?_
    · show Steps p.tables e below (T33.setTop (mkF m 43 #[.val (.ref va), .val (.long u0), .second, .val (.long u1), .second, .val (.long (32770 : Int64)), .second, .val (.int (1 : Int32))] [(.ref b12), (.int (1 : Int32))])) tt
      refine X33.arraylength hx (by rw [e33]; exact Ar34.1) (State.isArrayOf_alike hZ.alike Ar34.2.1) (g := (mkF m 43 #[.val (.ref va), .val (.long u0), .second, .val (.long u1), .second, .val (.long (32770 : Int64)), .second, .val (.int (1 : Int32))] [(.ref b12), (.int (1 : Int32))])) rfl rfl (hb hby d1_43) _ ?_
      rw [ln34]
      show Steps p.tables e below (T33.setTop (mkF m 44 #[.val (.ref va), .val (.long u0), .second, .val (.long u1), .second, .val (.long (32770 : Int64)), .second, .val (.int (1 : Int32))] [(.int (2 : Int32)), (.int (1 : Int32))])) tt
      refine XS.icmpNo X33.here hx rfl (hb hby d1_44) rfl (tlt ((by decide) : (1 : Int32) < (2 : Int32))).2.1 ?_
      show Steps p.tables e below (T33.setTop (mkF m 47 #[.val (.ref va), .val (.long u0), .second, .val (.long u1), .second, .val (.long (32770 : Int64)), .second, .val (.int (1 : Int32))] [])) tt
      refine XS.aloadN X33.here hx rfl (hb hby d1_47) rfl rfl ?_
      exact kk
    obtain ⟨T35, X35, e35, st35⟩ := getF X33 hx hZ hown (host := "") (Or.inl (hw _ (mw 23 rfl))) Via.refl e33 f32 (g := (mkF m 48 #[.val (.ref va), .val (.long u0), .second, .val (.long u1), .second, .val (.long (32770 : Int64)), .second, .val (.int (1 : Int32))] [(.ref va)])) rfl rfl (hb hby d1_48)
    refine Goal.to (B := T35.setTop (mkF m 51 #[.val (.ref va), .val (.long u0), .second, .val (.long u1), .second, .val (.long (32770 : Int64)), .second, .val (.int (1 : Int32))] [(.ref b12)])) st35 ?_
    refine Goal.to (B := T35.setTop (mkF m 57 #[.val (.ref va), .val (.long u0), .second, .val (.long u1), .second, .val (.long (32770 : Int64)), .second, .val (.int (1 : Int32))] [(.int (1 : Int32)), (.long (32770 : Int64)), (.int (1 : Int32)), (.ref b12)])) (fun tt kk => ?_) ?_
    · show Steps p.tables e below (T35.setTop (mkF m 51 #[.val (.ref va), .val (.long u0), .second, .val (.long u1), .second, .val (.long (32770 : Int64)), .second, .val (.int (1 : Int32))] [(.ref b12)])) tt
      refine XS.iload X35.here hx rfl (hb hby d1_51) rfl ?_
      show Steps p.tables e below (T35.setTop (mkF m 53 #[.val (.ref va), .val (.long u0), .second, .val (.long u1), .second, .val (.long (32770 : Int64)), .second, .val (.int (1 : Int32))] [(.int (1 : Int32)), (.ref b12)])) tt
      refine XS.lload X35.here hx rfl (hb hby d1_53) rfl ?_
      show Steps p.tables e below (T35.setTop (mkF m 55 #[.val (.ref va), .val (.long u0), .second, .val (.long u1), .second, .val (.long (32770 : Int64)), .second, .val (.int (1 : Int32))] [(.long (32770 : Int64)), (.int (1 : Int32)), (.ref b12)])) tt
      refine XS.iload X35.here hx rfl (hb hby d1_55) rfl ?_
      exact kk
    have f36 : n0 ≤ h30.size := (Nat.le_trans (Nat.le_trans f23 E25.1) (Keep.of_wr W30).1)
    obtain ⟨_, _, ⟨T37, L37, k37, n37⟩, -, X37, ⟨Lc37, hQ37, l37, y37, z37⟩, st37⟩ := Jvm.LawKit.callS X35 hx (y := (⟨"com/example/hedger/hedger/WordArray", "arrayWordsInPage", "(JI)I"⟩ : MethodName)) hown (mvT hZ (hw _ (mw 25 rfl))) (mvT hZ (hw _ (mw 26 rfl))) (mvT hZ (hw _ (mw 5 rfl))) (mvT hZ (hw _ (mw 27 rfl))) (by decide) (backOf (W := 2) (rmaw1 l Z a0 hw []  h30 n0 f36 ) hZ (hw _ (mw 27 rfl)) (hw _ (mw 5 rfl)) (by decide) (by decide)) (g := (mkF m 57 #[.val (.ref va), .val (.long u0), .second, .val (.long u1), .second, .val (.long (32770 : Int64)), .second, .val (.int (1 : Int32))] [(.int (1 : Int32)), (.long (32770 : Int64)), (.int (1 : Int32)), (.ref b12)])) rfl (by rw [hml]; rfl) (argsL := [(.long (32770 : Int64)), (.int (1 : Int32))]) (rest := [(.int (1 : Int32)), (.ref b12)]) (lenOf pd_3 rfl) rfl (by show 2 * 0 + _ ≤ _; exact Nat.le_of_eq rfl) (hb hby d1_57) (fun _ _ => ⟨rfl, e35, (by decide : 3 + 0 ≤ _), (by decide : 32770 + 0 ≤ _)⟩)
    dsimp only [Pt.U, Pt.locs, Pt.cells, Pt.slots] at X37 l37 y37 z37 st37 hQ37
    subst l37 y37 z37
    obtain ⟨rfl, N37q, e37⟩ := hQ37
    have N37 := Fr.app N30 N37q
    refine Goal.to (B := T37.setTop (mkF m 60 #[.val (.ref va), .val (.long u0), .second, .val (.long u1), .second, .val (.long (32770 : Int64)), .second, .val (.int (1 : Int32))] [(.int (2 : Int32)), (.int (1 : Int32)), (.ref b12)])) st37 ?_
    have f39 : Exa Z h30 va "com/example/hedger/hedger/WordArray" := ((f26.ext E25).wr W30)
    have f40 : Exa Z h30 b3 "[J" := ((f27.ext E25).wr W30)
    have f41 : Exa Z h30 b25 "[J" := (Ex25.wr W30)
    have f42 : Keep h0 h30 [va] := ((f28.ext E25).wr W30 (Or.inr sz_b12))
    obtain ⟨T38, h38, k38, X38, e38, E38, A38, Ex38, st38⟩ := newPE X37 hx hZ (hw _ (mw 14 rfl)) e37 (g := (mkF m 60 #[.val (.ref va), .val (.long u0), .second, .val (.long u1), .second, .val (.long (32770 : Int64)), .second, .val (.int (1 : Int32))] [(.int (2 : Int32)), (.int (1 : Int32)), (.ref b12)])) rfl (hb hby d1_60) rfl (by decide) (cap := 2) (by decide) (by decide) (by decide) (by decide) (ad := "[J") (by decide)
    obtain ⟨b38, g38⟩ : ∃ z, z = h30.size := ⟨_, rfl⟩
    rw [← g38] at A38 Ex38 st38
    have ne_va_b38 : va ≠ b38 := Nat.ne_of_lt (Nat.lt_of_lt_of_le f39.lt (Nat.le_of_eq g38.symm))
    have ne_b3_b38 : b3 ≠ b38 := Nat.ne_of_lt (Nat.lt_of_lt_of_le f40.lt (Nat.le_of_eq g38.symm))
    have ne_b12_b38 : b12 ≠ b38 := Nat.ne_of_lt (Nat.lt_of_lt_of_le V30.lt (Nat.le_of_eq g38.symm))
    have ne_b25_b38 : b25 ≠ b38 := Nat.ne_of_lt (Nat.lt_of_lt_of_le f41.lt (Nat.le_of_eq g38.symm))
    have g_b38 : n0 ≤ b38 := Nat.le_trans f36 (Nat.le_of_eq g38.symm)
    have sz_b38 : h0.size ≤ b38 := Nat.le_trans f42.1 (Nat.le_of_eq g38.symm)
    have V38 : Ary Z h38 b38 .long [(.long (0 : Int64)), (.long (0 : Int64))] := Ary.new A38 rfl
    refine Goal.to (B := T38.setTop (mkF m 62 #[.val (.ref va), .val (.long u0), .second, .val (.long u1), .second, .val (.long (32770 : Int64)), .second, .val (.int (1 : Int32))] [(.ref b38), (.int (1 : Int32)), (.ref b12)])) st38 ?_
    have f43 : Ary Z h38 b12 (.array .long) [(.ref b25), .null] := (V30.ext E38)
    obtain ⟨cl44, Ar44, Sl44⟩ := id f43
    have hin44 := inA (cl := cl44) Sl44 (j := (1 : Int32)) (by decide) (Nat.le_of_ble_eq_true rfl)
    have f45 : OvrB Z h38 b12 "[J" := ((f31.wr W30).ext E38)
    obtain ⟨T44, h44, X44, e44, W44, st44⟩ := stR X38 hx hZ e38 Ar44 (j := (1 : Int32)) hin44 rfl (stoB Ar44 f45 (Ins.self Ex38)) (g := (mkF m 62 #[.val (.ref va), .val (.long u0), .second, .val (.long u1), .second, .val (.long (32770 : Int64)), .second, .val (.int (1 : Int32))] [(.ref b38), (.int (1 : Int32)), (.ref b12)])) rfl rfl (hb hby d1_62)
    have V44 : Ary Z h44 b12 (.array .long) [(.ref b25), (.ref b38)] := Ary.put Ar44 Sl44 W44 rfl
    have N44 := Fr.snoc X44 N37 g_b12
    refine Goal.to (B := T44.setTop (mkF m 63 #[.val (.ref va), .val (.long u0), .second, .val (.long u1), .second, .val (.long (32770 : Int64)), .second, .val (.int (1 : Int32))] [])) st44 ?_
    refine Goal.to (B := T44.setTop (mkF m 40 #[.val (.ref va), .val (.long u0), .second, .val (.long u1), .second, .val (.long (32770 : Int64)), .second, .val (.int (2 : Int32))] [(.ref va), (.int (2 : Int32))])) (fun tt kk => ?_) ?_
    · show Steps p.tables e below (T44.setTop (mkF m 63 #[.val (.ref va), .val (.long u0), .second, .val (.long u1), .second, .val (.long (32770 : Int64)), .second, .val (.int (1 : Int32))] [])) tt
      refine XS.iinc X44.here hx rfl (hb hby d1_63) rfl (l' := #[.val (.ref va), .val (.long u0), .second, .val (.long u1), .second, .val (.long (32770 : Int64)), .second, .val (.int (2 : Int32))]) rfl ?_
      show Steps p.tables e below (T44.setTop (mkF m 66 #[.val (.ref va), .val (.long u0), .second, .val (.long u1), .second, .val (.long (32770 : Int64)), .second, .val (.int (2 : Int32))] [])) tt
      refine XS.goto X44.here hx rfl (pc0 := 66) (pc' := 37) rfl (hb hby d1_66) (by decide) (by decide) ?_
      show Steps p.tables e below (T44.setTop (mkF m 37 #[.val (.ref va), .val (.long u0), .second, .val (.long u1), .second, .val (.long (32770 : Int64)), .second, .val (.int (2 : Int32))] [])) tt
      refine XS.iload X44.here hx rfl (hb hby d1_37) rfl ?_
      show Steps p.tables e below (T44.setTop (mkF m 39 #[.val (.ref va), .val (.long u0), .second, .val (.long u1), .second, .val (.long (32770 : Int64)), .second, .val (.int (2 : Int32))] [(.int (2 : Int32))])) tt
      refine XS.aloadN X44.here hx rfl (hb hby d1_39) rfl rfl ?_
      exact kk
    have f46 : Fld Z h44 va "com/example/hedger/hedger/WordArray" "pages" "[[J" (.ref b12) := ((f32.ext E38).other W44 (Or.inl ne_va_b12))
    obtain ⟨T47, X47, e47, st47⟩ := getF X44 hx hZ hown (host := "") (Or.inl (hw _ (mw 23 rfl))) Via.refl e44 f46 (g := (mkF m 40 #[.val (.ref va), .val (.long u0), .second, .val (.long u1), .second, .val (.long (32770 : Int64)), .second, .val (.int (2 : Int32))] [(.ref va), (.int (2 : Int32))])) rfl rfl (hb hby d1_40)
    refine Goal.to (B := T47.setTop (mkF m 43 #[.val (.ref va), .val (.long u0), .second, .val (.long u1), .second, .val (.long (32770 : Int64)), .second, .val (.int (2 : Int32))] [(.ref b12), (.int (2 : Int32))])) st47 ?_
    obtain ⟨cl48, Ar48, Sl48⟩ := id V44
    have ln48 : cl48.slots.size.toInt32 = (2 : Int32) := lenA Sl48 rfl
    refine Goal.to (B := T47.setTop (mkF m 72 #[.val (.ref va), .val (.long u0), .second, .val (.long u1), .second, .val (.long (32770 : Int64)), .second, .val (.int (2 : Int32))] [(.long (32770 : Int64)), (.ref va)])) (fun tt kk => ?_) ?_
    · show Steps p.tables e below (T47.setTop (mkF m 43 #[.val (.ref va), .val (.long u0), .second, .val (.long u1), .second, .val (.long (32770 : Int64)), .second, .val (.int (2 : Int32))] [(.ref b12), (.int (2 : Int32))])) tt
      refine X47.arraylength hx (by rw [e47]; exact Ar48.1) (State.isArrayOf_alike hZ.alike Ar48.2.1) (g := (mkF m 43 #[.val (.ref va), .val (.long u0), .second, .val (.long u1), .second, .val (.long (32770 : Int64)), .second, .val (.int (2 : Int32))] [(.ref b12), (.int (2 : Int32))])) rfl rfl (hb hby d1_43) _ ?_
      rw [ln48]
      show Steps p.tables e below (T47.setTop (mkF m 44 #[.val (.ref va), .val (.long u0), .second, .val (.long u1), .second, .val (.long (32770 : Int64)), .second, .val (.int (2 : Int32))] [(.int (2 : Int32)), (.int (2 : Int32))])) tt
      refine XS.icmpYes X47.here hx rfl (pc0 := 44) (pc' := 69) rfl (hb hby d1_44) rfl (flt (Int32.lt_irrefl : ¬ ((2 : Int32) < (2 : Int32)))).2.1 (by decide) (by decide) ?_
      show Steps p.tables e below (T47.setTop (mkF m 69 #[.val (.ref va), .val (.long u0), .second, .val (.long u1), .second, .val (.long (32770 : Int64)), .second, .val (.int (2 : Int32))] [])) tt
      refine XS.aloadN X47.here hx rfl (hb hby d1_69) rfl rfl ?_
      show Steps p.tables e below (T47.setTop (mkF m 70 #[.val (.ref va), .val (.long u0), .second, .val (.long u1), .second, .val (.long (32770 : Int64)), .second, .val (.int (2 : Int32))] [(.ref va)])) tt
      refine XS.lload X47.here hx rfl (hb hby d1_70) rfl ?_
      exact kk
    have f49 : n0 ≤ h44.size := (Nat.le_trans (Nat.le_trans f36 E38.1) (Keep.of_wr W44).1)
    obtain ⟨_, _, ⟨T50, L50, k50, n50⟩, -, X50, ⟨Lc50, hQ50, l50, y50, z50⟩, st50⟩ := Jvm.LawKit.callS X47 hx (y := (⟨"com/example/hedger/hedger/WordArray", "spareCount", "(J)I"⟩ : MethodName)) hown (mvT hZ (hw _ (mw 34 rfl))) (mvT hZ (hw _ (mw 35 rfl))) (mvT hZ (hw _ (mw 5 rfl))) (mvT hZ (hw _ (mw 36 rfl))) (by decide) (backOf (W := 1) (rmsc l Z a0 hw []  h44 n0 f49 ) hZ (hw _ (mw 36 rfl)) (hw _ (mw 5 rfl)) (by decide) (by decide)) (g := (mkF m 72 #[.val (.ref va), .val (.long u0), .second, .val (.long u1), .second, .val (.long (32770 : Int64)), .second, .val (.int (2 : Int32))] [(.long (32770 : Int64)), (.ref va)])) rfl (by rw [hml]; rfl) (argsL := [(.long (32770 : Int64))]) (rest := [(.ref va)]) (lenOf pd_2 rfl) rfl (by show 2 * 0 + _ ≤ _; exact Nat.le_of_eq rfl) (hb hby d1_72) (fun _ _ => ⟨rfl, e47, (by decide : 4 + 0 ≤ _), (by decide : 32772 + 0 ≤ _)⟩)
    dsimp only [Pt.U, Pt.locs, Pt.cells, Pt.slots] at X50 l50 y50 z50 st50 hQ50
    subst l50 y50 z50
    obtain ⟨rfl, N50q, e50⟩ := hQ50
    have N50 := Fr.app N44 N50q
    refine Goal.to (B := T50.setTop (mkF m 75 #[.val (.ref va), .val (.long u0), .second, .val (.long u1), .second, .val (.long (32770 : Int64)), .second, .val (.int (2 : Int32))] [(.int (3 : Int32)), (.ref va)])) st50 ?_
    have f52 : Exa Z h44 va "com/example/hedger/hedger/WordArray" := ((f39.ext E38).wr W44)
    have f53 : Exa Z h44 b3 "[J" := ((f40.ext E38).wr W44)
    have f54 : Exa Z h44 b25 "[J" := ((f41.ext E38).wr W44)
    have f55 : Exa Z h44 b38 "[J" := (Ex38.wr W44)
    have f56 : Keep h0 h44 [va] := ((f42.ext E38).wr W44 (Or.inr sz_b12))
    obtain ⟨T51, h51, k51, X51, e51, E51, A51, Ex51, st51⟩ := newPE X50 hx hZ (hw _ (mw 14 rfl)) e50 (g := (mkF m 75 #[.val (.ref va), .val (.long u0), .second, .val (.long u1), .second, .val (.long (32770 : Int64)), .second, .val (.int (2 : Int32))] [(.int (3 : Int32)), (.ref va)])) rfl (hb hby d1_75) rfl (by decide) (cap := 3) (by decide) (by decide) (by decide) (by decide) (ad := "[J") (by decide)
    obtain ⟨b51, g51⟩ : ∃ z, z = h44.size := ⟨_, rfl⟩
    rw [← g51] at A51 Ex51 st51
    have ne_va_b51 : va ≠ b51 := Nat.ne_of_lt (Nat.lt_of_lt_of_le f52.lt (Nat.le_of_eq g51.symm))
    have ne_b3_b51 : b3 ≠ b51 := Nat.ne_of_lt (Nat.lt_of_lt_of_le f53.lt (Nat.le_of_eq g51.symm))
    have ne_b12_b51 : b12 ≠ b51 := Nat.ne_of_lt (Nat.lt_of_lt_of_le V44.lt (Nat.le_of_eq g51.symm))
    have ne_b25_b51 : b25 ≠ b51 := Nat.ne_of_lt (Nat.lt_of_lt_of_le f54.lt (Nat.le_of_eq g51.symm))
    have ne_b38_b51 : b38 ≠ b51 := Nat.ne_of_lt (Nat.lt_of_lt_of_le f55.lt (Nat.le_of_eq g51.symm))
    have g_b51 : n0 ≤ b51 := Nat.le_trans f49 (Nat.le_of_eq g51.symm)
    have sz_b51 : h0.size ≤ b51 := Nat.le_trans f56.1 (Nat.le_of_eq g51.symm)
    have V51 : Ary Z h51 b51 .long [(.long (0 : Int64)), (.long (0 : Int64)), (.long (0 : Int64))] := Ary.new A51 rfl
    refine Goal.to (B := T51.setTop (mkF m 77 #[.val (.ref va), .val (.long u0), .second, .val (.long u1), .second, .val (.long (32770 : Int64)), .second, .val (.int (2 : Int32))] [(.ref b51), (.ref va)])) st51 ?_
    have f57 : Fld Z h51 va "com/example/hedger/hedger/WordArray" "spares" "[J" .null := ((((((((((F_spares_va.other W2 (Or.inr (slot_ne (Or.inr (hw _ (mw 43 rfl))) (Or.inr (hw _ (mw 13 rfl))) (by decide) (t := (.array .long)) (t' := .long) (by decide) (by decide)))).ext E3).other W9 (Or.inr (slot_ne (Or.inr (hw _ (mw 43 rfl))) (Or.inr (hw _ (mw 16 rfl))) (by decide) (t := (.array .long)) (t' := (.array .long)) (by decide) (by decide)))).ext E12).other W18 (Or.inr (slot_ne (Or.inr (hw _ (mw 43 rfl))) (Or.inr (hw _ (mw 24 rfl))) (by decide) (t := (.array .long)) (t' := (.array (.array .long))) (by decide) (by decide)))).ext E25).other W30 (Or.inl ne_va_b12)).ext E38).other W44 (Or.inl ne_va_b12)).ext E51)
    have f58 : Exa Z h51 va "com/example/hedger/hedger/WordArray" := (f52.ext E51)
    obtain ⟨T59, h59, X59, e59, W59, st59⟩ := putF X51 hx hZ hown (host := "") (Or.inl (hw _ (mw 42 rfl))) Via.refl e51 f57 f58 (Or.inr ⟨(hw _ (mw 43 rfl)), rfl, hnm⟩) (hw _ (mw 4 rfl)) (ty := (.array .long)) (by decide) rfl rfl (g := (mkF m 77 #[.val (.ref va), .val (.long u0), .second, .val (.long u1), .second, .val (.long (32770 : Int64)), .second, .val (.int (2 : Int32))] [(.ref b51), (.ref va)])) rfl rfl (hb hby d1_77)
    have Fw59 : Fld Z h59 va "com/example/hedger/hedger/WordArray" "spares" "[J" (.ref b51) := f57.same W59
    have N59 := Fr.snoc X59 N50 g_va
    refine Goal.to (B := T59.setTop (mkF m 80 #[.val (.ref va), .val (.long u0), .second, .val (.long u1), .second, .val (.long (32770 : Int64)), .second, .val (.int (2 : Int32))] [])) st59 ?_
    have f60 : Keep h0 h59 [va] := ((f56.ext E51).wr W59 (Or.inl (List.mem_of_getElem? (i := 0) rfl)))
    have f61 : Fld Z h59 va "com/example/hedger/hedger/WordArray" "head" "[J" (.ref b3) := ((((((((Fw9.ext E12).other W18 (Or.inr (slot_ne (Or.inr (hw _ (mw 16 rfl))) (Or.inr (hw _ (mw 24 rfl))) (by decide) (t := (.array .long)) (t' := (.array (.array .long))) (by decide) (by decide)))).ext E25).other W30 (Or.inl ne_va_b12)).ext E38).other W44 (Or.inl ne_va_b12)).ext E51).other W59 (Or.inr (slot_ne (Or.inr (hw _ (mw 16 rfl))) (Or.inr (hw _ (mw 43 rfl))) (by decide) (t := (.array .long)) (t' := (.array .long)) (by decide) (by decide))))
    have f62 : Fld Z h59 va "com/example/hedger/hedger/WordArray" "pages" "[[J" (.ref b12) := ((f46.ext E51).other W59 (Or.inr (slot_ne (Or.inr (hw _ (mw 24 rfl))) (Or.inr (hw _ (mw 43 rfl))) (by decide) (t := (.array (.array .long))) (t' := (.array .long)) (by decide) (by decide))))
    have f63 : Ary Z h59 b3 .long (List.replicate hn (.long (0 : Int64))) := (((((((((V3.other W9 (Ne.symm ne_va_b3)).ext E12).other W18 (Ne.symm ne_va_b3)).ext E25).other W30 ne_b3_b12).ext E38).other W44 ne_b3_b12).ext E51).other W59 (Ne.symm ne_va_b3))
    have f64 : Ary Z h59 b12 (.array .long) [(.ref b25), (.ref b38)] := ((V44.ext E51).other W59 (Ne.symm ne_va_b12))
    have f65 : Ary Z h59 b25 .long (List.replicate 32765 (.long (0 : Int64))) := (((((V25.other W30 (Ne.symm ne_b12_b25)).ext E38).other W44 (Ne.symm ne_b12_b25)).ext E51).other W59 (Ne.symm ne_va_b25))
    have f66 : Ary Z h59 b38 .long [(.long (0 : Int64)), (.long (0 : Int64))] := (((V38.other W44 (Ne.symm ne_b12_b38)).ext E51).other W59 (Ne.symm ne_va_b38))
    have f67 : Ary Z h59 b51 .long [(.long (0 : Int64)), (.long (0 : Int64)), (.long (0 : Int64))] := (V51.other W59 (Ne.symm ne_va_b51))
    exact Goal.retN X59 hx Bd.returns (hb hby d1_80) hlk e59 ⟨b3, b12, b25, b38, b51, rfl, N59, f60, sz_b3, sz_b12, sz_b25, sz_b38, sz_b51, ne_b3_b12, ne_b3_b25, ne_b3_b38, ne_b3_b51, ne_b12_b25, ne_b12_b38, ne_b12_b51, ne_b25_b38, ne_b25_b51, ne_b38_b51, f61, f62, Fw59, (Ary.cast f63 (by first | exact own_zero | rfl : ((List.replicate hn (.long (0 : Int64))) : List Value) = (own_l (fun _ => (0 : Int64)) 0 hn))), f64, (Ary.cast f65 (by first | exact own_zero | rfl : ((List.replicate 32765 (.long (0 : Int64))) : List Value) = (own_l (fun _ => (0 : Int64)) hn 32765))), (Ary.cast f66 (by first | exact own_zero | rfl : ([(.long (0 : Int64)), (.long (0 : Int64))] : List Value) = (own_l (fun _ => (0 : Int64)) (hn + 32768) 2))), (Ary.cast f67 (by first | exact own_zero | rfl : ([(.long (0 : Int64)), (.long (0 : Int64)), (.long (0 : Int64))] : List Value) = (own_l (fun _ => (0 : Int64)) (hn + 32765) 3)))⟩ (by decide) (by decide)
theorem ef_11 (m : MethodId) (x0 : Addr) (x1 : Int64)  : entryFrame m #[(.ref x0), (.long x1)] 6 = mkF m 0 #[.val (.ref x0), .val (.long x1), .second, .unset, .unset, .unset] [] := by first | (simp [entryFrame, mkF, argsToLocals, Value.category]; done) | rfl
theorem pn_11 : plainName "com/example/hedger/hedger/WordArray" = true := by first | (simp [plainName, overriddenIn]; done) | decide +kernel
theorem d11_0 : decode prog_26_method_25_code 0 = .ok (.lload_n 1, 1) := by decide +kernel
theorem d11_1 : decode prog_26_method_25_code 1 = .ok (.aload_n 0, 1) := by decide +kernel
theorem d11_2 : decode prog_26_method_25_code 2 = .ok (.getfield 24, 3) := by decide +kernel
theorem d11_5 : decode prog_26_method_25_code 5 = .ok (.arraylength, 1) := by decide +kernel
theorem d11_6 : decode prog_26_method_25_code 6 = .ok (.i2l, 1) := by decide +kernel
theorem d11_7 : decode prog_26_method_25_code 7 = .ok (.lsub, 1) := by decide +kernel
theorem d11_8 : decode prog_26_method_25_code 8 = .ok (.lstore_n 3, 1) := by decide +kernel
theorem d11_9 : decode prog_26_method_25_code 9 = .ok (.lload_n 3, 1) := by decide +kernel
theorem d11_10 : decode prog_26_method_25_code 10 = .ok (.l2i, 1) := by decide +kernel
theorem d11_11 : decode prog_26_method_25_code 11 = .ok (.sipush 32767, 3) := by decide +kernel
theorem d11_14 : decode prog_26_method_25_code 14 = .ok (.iand, 1) := by decide +kernel
theorem d11_15 : decode prog_26_method_25_code 15 = .ok (.istore 5, 2) := by decide +kernel
theorem d11_17 : decode prog_26_method_25_code 17 = .ok (.iload 5, 2) := by decide +kernel
theorem d11_19 : decode prog_26_method_25_code 19 = .ok (.sipush 32765, 3) := by decide +kernel
theorem d11_22 : decode prog_26_method_25_code 22 = .ok (.if_icmp .ge 16, 3) := by decide +kernel
theorem d11_25 : decode prog_26_method_25_code 25 = .ok (.aload_n 0, 1) := by decide +kernel
theorem d11_26 : decode prog_26_method_25_code 26 = .ok (.getfield 33, 3) := by decide +kernel
theorem d11_29 : decode prog_26_method_25_code 29 = .ok (.lload_n 3, 1) := by decide +kernel
theorem d11_30 : decode prog_26_method_25_code 30 = .ok (.bipush 15, 2) := by decide +kernel
theorem d11_32 : decode prog_26_method_25_code 32 = .ok (.lushr, 1) := by decide +kernel
theorem d11_33 : decode prog_26_method_25_code 33 = .ok (.l2i, 1) := by decide +kernel
theorem d11_34 : decode prog_26_method_25_code 34 = .ok (.aaload, 1) := by decide +kernel
theorem d11_35 : decode prog_26_method_25_code 35 = .ok (.goto 7, 3) := by decide +kernel
theorem d11_42 : decode prog_26_method_25_code 42 = .ok (.areturn, 1) := by decide +kernel
def QpaB (Z : State) (va : Addr) (vh : Addr) (vp : Addr) (pa : Addr) (pb : Addr) (vs : Addr) (hn : Nat) (f : Nat → Int64) (i : Nat) (u1 : Int64) (h0 : Heap) (n0 : Nat) (v : Option Value) (h : Heap) (L : List Loc) : Prop := v = some (.ref pa) ∧ Fr n0 L ∧ h = h0
set_option maxRecDepth 65536 in
set_option maxHeartbeats 40000000 in
theorem rmpaB (l : Launch) (Z : State) (a0 : Array Value) (hw : ∀ d ∈ tables_1, d.before a0 Z = true) (ws : List Jvm.Cond) (va : Addr) (vh : Addr) (vp : Addr) (pa : Addr) (pb : Addr) (vs : Addr) (hn : Nat) (f : Nat → Int64) (i : Nat) (u1 : Int64) (h0 : Heap) (n0 : Nat) (Z0 : n0 ≤ h0.size) (F_head_va : Fld Z h0 va "com/example/hedger/hedger/WordArray" "head" "[J" (.ref vh)) (F_pages_va : Fld Z h0 va "com/example/hedger/hedger/WordArray" "pages" "[[J" (.ref vp)) (F_spares_va : Fld Z h0 va "com/example/hedger/hedger/WordArray" "spares" "[J" (.ref vs)) (V_vh : Ary Z h0 vh .long (own_l f 0 hn)) (V_vp : Ary Z h0 vp (.array .long) [(.ref pa), (.ref pb)]) (hhn : hn ≤ 3) (hiu : u1.toInt = (i : Int)) (hib : i < hn + 32770) (hrg : hn ≤ i ∧ i < hn + 32765) :
    MetFree l (⟨"com/example/hedger/hedger/WordArray", "pageArrayOf", "(J)[J"⟩ : MethodName) (head1 (Jvm.Cond.code (⟨"com/example/hedger/hedger/WordArray", "pageArrayOf", "(J)[J"⟩ : MethodName) prog_26_method_25_code 6 (some (.array .long)) :: ws) ({ frames := 0, cells := 0, slots := 0, locals := 0 } : Room)) (fun a U => a = #[(.ref va), (.long u1)] ∧ Z.Warmed39 U.vm ∧ U.heap = h0) (fun _ _ _ _ _ => True) (fun _ U o U' => ∃ v L, o = .returned v ∧ QpaB Z va vh vp pa pb vs hn f i u1 h0 n0 v U'.heap L ∧ FrameEnd U o U' L 0 0) := by
  refine MetFree.of_bodySF (plainFor_of_name pn_11) hisR ?_
  intro p e s m args below meth c s₁ Bd hml0 hP hK
  obtain ⟨rfl, hZ, hh⟩ := hP
  have hx := Bd.exec
  have hby := Bd.bytes
  have hml : c.maxLocals = 6 := hml0
  have hown : s.vm.findClass "com/example/hedger/hedger/WordArray" = some m.cls := findClass_of_methodNamed Bd.named
  have hnm := (name_of_methodNamed Bd.named Bd.method).1
  have X0 : Stand p l e ({ frames := 0, cells := 0, slots := 0, locals := 0 } : Room) s m #[(.ref va), (.long u1)] below meth c s₁ [] 0 0 := Stand.of_body Bd
  have e0 : s₁.heap = h0 := by rw [← hh, Bd.state]; rfl
  have N0 := Fr.nil n0
  have hlk : meth.locks = false := BodyLoose.notSynchronized Bd
  show Goal p e below s (QpaB Z va vh vp pa pb vs hn f i u1 h0 n0) 0 0 (s₁.setTop (entryFrame m #[(.ref va), (.long u1)] 6))
  refine Goal.to (B := s₁.setTop (mkF m 0 #[.val (.ref va), .val (.long u1), .second, .unset, .unset, .unset] [])) (fun tt kk => castTop (ef_11 m va u1 ) kk) ?_
  refine Goal.to (B := s₁.setTop (mkF m 2 #[.val (.ref va), .val (.long u1), .second, .unset, .unset, .unset] [(.ref va), (.long u1)])) (fun tt kk => ?_) ?_
  · show Steps p.tables e below (s₁.setTop (mkF m 0 #[.val (.ref va), .val (.long u1), .second, .unset, .unset, .unset] [])) tt
    refine XS.lloadN X0.here hx rfl (hb hby d11_0) rfl ?_
    show Steps p.tables e below (s₁.setTop (mkF m 1 #[.val (.ref va), .val (.long u1), .second, .unset, .unset, .unset] [(.long u1)])) tt
    refine XS.aloadN X0.here hx rfl (hb hby d11_1) rfl rfl ?_
    exact kk
  obtain ⟨T1, X1, e1, st1⟩ := getF X0 hx hZ hown (host := "") (Or.inl (hw _ (mw 15 rfl))) Via.refl e0 F_head_va (g := (mkF m 2 #[.val (.ref va), .val (.long u1), .second, .unset, .unset, .unset] [(.ref va), (.long u1)])) rfl rfl (hb hby d11_2)
  refine Goal.to (B := T1.setTop (mkF m 5 #[.val (.ref va), .val (.long u1), .second, .unset, .unset, .unset] [(.ref vh), (.long u1)])) st1 ?_
  obtain ⟨cl2, Ar2, Sl2⟩ := id V_vh
  have ln2 : cl2.slots.size.toInt32 = hn.toInt32 := lenA Sl2 (by rw [own_len])
  obtain ⟨qq, hqq⟩ : ∃ z : Int64, z = (u1 - (hn.toInt32.toInt64)) := ⟨_, rfl⟩
  refine Goal.to (B := T1.setTop (mkF m 9 #[.val (.ref va), .val (.long u1), .second, .val (.long qq), .second, .unset] [])) (fun tt kk => ?_) ?_
  · subst hqq
    show Steps p.tables e below (T1.setTop (mkF m 5 #[.val (.ref va), .val (.long u1), .second, .unset, .unset, .unset] [(.ref vh), (.long u1)])) tt
    refine X1.arraylength hx (by rw [e1]; exact Ar2.1) (State.isArrayOf_alike hZ.alike Ar2.2.1) (g := (mkF m 5 #[.val (.ref va), .val (.long u1), .second, .unset, .unset, .unset] [(.ref vh), (.long u1)])) rfl rfl (hb hby d11_5) _ ?_
    rw [ln2]
    show Steps p.tables e below (T1.setTop (mkF m 6 #[.val (.ref va), .val (.long u1), .second, .unset, .unset, .unset] [(.int hn.toInt32), (.long u1)])) tt
    refine XS.i2l X1.here hx rfl (hb hby d11_6) rfl ?_
    show Steps p.tables e below (T1.setTop (mkF m 7 #[.val (.ref va), .val (.long u1), .second, .unset, .unset, .unset] [(.long (hn.toInt32.toInt64)), (.long u1)])) tt
    refine XS.lsub X1.here hx rfl (hb hby d11_7) rfl ?_
    show Steps p.tables e below (T1.setTop (mkF m 8 #[.val (.ref va), .val (.long u1), .second, .unset, .unset, .unset] [(.long (u1 - (hn.toInt32.toInt64)))])) tt
    refine XS.lstoreN X1.here hx rfl (hb hby d11_8) rfl (l' := #[.val (.ref va), .val (.long u1), .second, .val (.long (u1 - (hn.toInt32.toInt64))), .second, .unset]) rfl ?_
    exact kk
  have hq2 := own_qq hhn hiu hib hqq (by omega)
  obtain ⟨ww, hww⟩ : ∃ z : Int32, z = ((qq.toInt32) &&& (32767 : Int32)) := ⟨_, rfl⟩
  refine Goal.to (B := T1.setTop (mkF m 17 #[.val (.ref va), .val (.long u1), .second, .val (.long qq), .second, .val (.int ww)] [])) (fun tt kk => ?_) ?_
  · subst hww
    show Steps p.tables e below (T1.setTop (mkF m 9 #[.val (.ref va), .val (.long u1), .second, .val (.long qq), .second, .unset] [])) tt
    refine XS.lloadN X1.here hx rfl (hb hby d11_9) rfl ?_
    show Steps p.tables e below (T1.setTop (mkF m 10 #[.val (.ref va), .val (.long u1), .second, .val (.long qq), .second, .unset] [(.long qq)])) tt
    refine XS.l2i X1.here hx rfl (hb hby d11_10) rfl ?_
    show Steps p.tables e below (T1.setTop (mkF m 11 #[.val (.ref va), .val (.long u1), .second, .val (.long qq), .second, .unset] [(.int (qq.toInt32))])) tt
    refine XS.sipush X1.here hx rfl (hb hby d11_11) ?_
    show Steps p.tables e below (T1.setTop (mkF m 14 #[.val (.ref va), .val (.long u1), .second, .val (.long qq), .second, .unset] [(.int (32767 : Int32)), (.int (qq.toInt32))])) tt
    refine XS.iand X1.here hx rfl (hb hby d11_14) rfl ?_
    show Steps p.tables e below (T1.setTop (mkF m 15 #[.val (.ref va), .val (.long u1), .second, .val (.long qq), .second, .unset] [(.int ((qq.toInt32) &&& (32767 : Int32)))])) tt
    refine XS.istore X1.here hx rfl (hb hby d11_15) rfl (l' := #[.val (.ref va), .val (.long u1), .second, .val (.long qq), .second, .val (.int ((qq.toInt32) &&& (32767 : Int32)))]) rfl ?_
    exact kk
  have hw2 := own_ww hq2 (by omega) hww
  refine Goal.to (B := T1.setTop (mkF m 26 #[.val (.ref va), .val (.long u1), .second, .val (.long qq), .second, .val (.int ww)] [(.ref va)])) (fun tt kk => ?_) ?_
  · show Steps p.tables e below (T1.setTop (mkF m 17 #[.val (.ref va), .val (.long u1), .second, .val (.long qq), .second, .val (.int ww)] [])) tt
    refine XS.iload X1.here hx rfl (hb hby d11_17) rfl ?_
    show Steps p.tables e below (T1.setTop (mkF m 19 #[.val (.ref va), .val (.long u1), .second, .val (.long qq), .second, .val (.int ww)] [(.int ww)])) tt
    refine XS.sipush X1.here hx rfl (hb hby d11_19) ?_
    show Steps p.tables e below (T1.setTop (mkF m 22 #[.val (.ref va), .val (.long u1), .second, .val (.long qq), .second, .val (.int ww)] [(.int (32765 : Int32)), (.int ww)])) tt
    refine XS.icmpNo X1.here hx rfl (hb hby d11_22) rfl (tlt (by rw [Int32.lt_iff_toInt_lt, hw2, show (32765 : Int32).toInt = 32765 from rfl]; omega : ww < (32765 : Int32))).2.1 ?_
    show Steps p.tables e below (T1.setTop (mkF m 25 #[.val (.ref va), .val (.long u1), .second, .val (.long qq), .second, .val (.int ww)] [])) tt
    refine XS.aloadN X1.here hx rfl (hb hby d11_25) rfl rfl ?_
    exact kk
  obtain ⟨T3, X3, e3, st3⟩ := getF X1 hx hZ hown (host := "") (Or.inl (hw _ (mw 23 rfl))) Via.refl e1 F_pages_va (g := (mkF m 26 #[.val (.ref va), .val (.long u1), .second, .val (.long qq), .second, .val (.int ww)] [(.ref va)])) rfl rfl (hb hby d11_26)
  refine Goal.to (B := T3.setTop (mkF m 29 #[.val (.ref va), .val (.long u1), .second, .val (.long qq), .second, .val (.int ww)] [(.ref vp)])) st3 ?_
  obtain ⟨ix, hix⟩ : ∃ z : Int32, z = (((qq.toUInt64 >>> ((15 : Int32) &&& 0x3f).toInt64.toUInt64).toInt64).toInt32) := ⟨_, rfl⟩
  refine Goal.to (B := T3.setTop (mkF m 34 #[.val (.ref va), .val (.long u1), .second, .val (.long qq), .second, .val (.int ww)] [(.int ix), (.ref vp)])) (fun tt kk => ?_) ?_
  · subst hix
    show Steps p.tables e below (T3.setTop (mkF m 29 #[.val (.ref va), .val (.long u1), .second, .val (.long qq), .second, .val (.int ww)] [(.ref vp)])) tt
    refine XS.lloadN X3.here hx rfl (hb hby d11_29) rfl ?_
    show Steps p.tables e below (T3.setTop (mkF m 30 #[.val (.ref va), .val (.long u1), .second, .val (.long qq), .second, .val (.int ww)] [(.long qq), (.ref vp)])) tt
    refine XS.bipush X3.here hx rfl (hb hby d11_30) ?_
    show Steps p.tables e below (T3.setTop (mkF m 32 #[.val (.ref va), .val (.long u1), .second, .val (.long qq), .second, .val (.int ww)] [(.int (15 : Int32)), (.long qq), (.ref vp)])) tt
    refine XS.lushr X3.here hx rfl (hb hby d11_32) rfl ?_
    show Steps p.tables e below (T3.setTop (mkF m 33 #[.val (.ref va), .val (.long u1), .second, .val (.long qq), .second, .val (.int ww)] [(.long ((qq.toUInt64 >>> ((15 : Int32) &&& 0x3f).toInt64.toUInt64).toInt64)), (.ref vp)])) tt
    refine XS.l2i X3.here hx rfl (hb hby d11_33) rfl ?_
    exact kk
  obtain rfl : ix = (0 : Int32) := own_lit (own_ix hq2 (by omega) hix) _ (by rw [show ((i - hn) / 32768 : Nat) = 0 by omega]; rfl)
  · obtain ⟨cl4, Ar4, Sl4⟩ := id V_vp
    have hin4 := inA (cl := cl4) Sl4 (j := (0 : Int32)) (by decide) (Nat.le_of_ble_eq_true rfl)
    have hat4 : cl4.slots[((0 : Int32)).toNatClampNeg]? = some (.ref pa) := atA Sl4 rfl
    refine Goal.to (B := T3.setTop (mkF m 42 #[.val (.ref va), .val (.long u1), .second, .val (.long qq), .second, .val (.int ww)] [(.ref pa)])) (fun tt kk => ?_) ?_
    · show Steps p.tables e below (T3.setTop (mkF m 34 #[.val (.ref va), .val (.long u1), .second, .val (.long qq), .second, .val (.int ww)] [(.int (0 : Int32)), (.ref vp)])) tt
      refine X3.aaload hx (j := (0 : Int32)) (v := (.ref pa)) (by rw [e3]; exact Ar4.1) (State.isArrayOf_alike hZ.alike Ar4.2.1) rfl Ar4.2.2 hin4 hat4 (g := (mkF m 34 #[.val (.ref va), .val (.long u1), .second, .val (.long qq), .second, .val (.int ww)] [(.int (0 : Int32)), (.ref vp)])) rfl rfl (hb hby d11_34) _ ?_
      show Steps p.tables e below (T3.setTop (mkF m 35 #[.val (.ref va), .val (.long u1), .second, .val (.long qq), .second, .val (.int ww)] [(.ref pa)])) tt
      refine XS.goto X3.here hx rfl (pc0 := 35) (pc' := 42) rfl (hb hby d11_35) (by decide) (by decide) ?_
      exact kk
    exact Goal.retV X3 hx Bd.returns rfl (Or.inr (Or.inr (Or.inr (Or.inr ⟨rfl, rfl, rfl⟩)))) (hb hby d11_42) hlk e3 ⟨rfl, N0, rfl⟩ (by decide) (by decide)
theorem ef_12 (m : MethodId) (x0 : Addr) (x1 : Int64)  : entryFrame m #[(.ref x0), (.long x1)] 6 = mkF m 0 #[.val (.ref x0), .val (.long x1), .second, .unset, .unset, .unset] [] := by first | (simp [entryFrame, mkF, argsToLocals, Value.category]; done) | rfl
theorem pn_12 : plainName "com/example/hedger/hedger/WordArray" = true := by first | (simp [plainName, overriddenIn]; done) | decide +kernel
theorem d12_0 : decode prog_26_method_26_code 0 = .ok (.lload_n 1, 1) := by decide +kernel
theorem d12_1 : decode prog_26_method_26_code 1 = .ok (.aload_n 0, 1) := by decide +kernel
theorem d12_2 : decode prog_26_method_26_code 2 = .ok (.getfield 24, 3) := by decide +kernel
theorem d12_5 : decode prog_26_method_26_code 5 = .ok (.arraylength, 1) := by decide +kernel
theorem d12_6 : decode prog_26_method_26_code 6 = .ok (.i2l, 1) := by decide +kernel
theorem d12_7 : decode prog_26_method_26_code 7 = .ok (.lsub, 1) := by decide +kernel
theorem d12_8 : decode prog_26_method_26_code 8 = .ok (.lstore_n 3, 1) := by decide +kernel
theorem d12_9 : decode prog_26_method_26_code 9 = .ok (.lload_n 3, 1) := by decide +kernel
theorem d12_10 : decode prog_26_method_26_code 10 = .ok (.l2i, 1) := by decide +kernel
theorem d12_11 : decode prog_26_method_26_code 11 = .ok (.sipush 32767, 3) := by decide +kernel
theorem d12_14 : decode prog_26_method_26_code 14 = .ok (.iand, 1) := by decide +kernel
theorem d12_15 : decode prog_26_method_26_code 15 = .ok (.istore 5, 2) := by decide +kernel
theorem d12_17 : decode prog_26_method_26_code 17 = .ok (.iload 5, 2) := by decide +kernel
theorem d12_19 : decode prog_26_method_26_code 19 = .ok (.sipush 32765, 3) := by decide +kernel
theorem d12_22 : decode prog_26_method_26_code 22 = .ok (.if_icmp .ge 8, 3) := by decide +kernel
theorem d12_25 : decode prog_26_method_26_code 25 = .ok (.iload 5, 2) := by decide +kernel
theorem d12_27 : decode prog_26_method_26_code 27 = .ok (.goto 17, 3) := by decide +kernel
theorem d12_44 : decode prog_26_method_26_code 44 = .ok (.ireturn, 1) := by decide +kernel
def QpoB (Z : State) (va : Addr) (vh : Addr) (vp : Addr) (pa : Addr) (pb : Addr) (vs : Addr) (hn : Nat) (f : Nat → Int64) (i : Nat) (u1 : Int64) (h0 : Heap) (n0 : Nat) (v : Option Value) (h : Heap) (L : List Loc) : Prop := ∃ oo : Int32, v = some (.int oo) ∧ Fr n0 L ∧ h = h0 ∧ oo.toInt = (((i - hn) : Nat) : Int)
set_option maxRecDepth 65536 in
set_option maxHeartbeats 40000000 in
theorem rmpoB (l : Launch) (Z : State) (a0 : Array Value) (hw : ∀ d ∈ tables_1, d.before a0 Z = true) (ws : List Jvm.Cond) (va : Addr) (vh : Addr) (vp : Addr) (pa : Addr) (pb : Addr) (vs : Addr) (hn : Nat) (f : Nat → Int64) (i : Nat) (u1 : Int64) (h0 : Heap) (n0 : Nat) (Z0 : n0 ≤ h0.size) (F_head_va : Fld Z h0 va "com/example/hedger/hedger/WordArray" "head" "[J" (.ref vh)) (V_vh : Ary Z h0 vh .long (own_l f 0 hn)) (hhn : hn ≤ 3) (hiu : u1.toInt = (i : Int)) (hib : i < hn + 32770) (hrg : hn ≤ i ∧ i < hn + 32765) :
    MetFree l (⟨"com/example/hedger/hedger/WordArray", "pageOffsetOf", "(J)I"⟩ : MethodName) (head1 (Jvm.Cond.code (⟨"com/example/hedger/hedger/WordArray", "pageOffsetOf", "(J)I"⟩ : MethodName) prog_26_method_26_code 6 (some .int) :: ws) ({ frames := 0, cells := 0, slots := 0, locals := 0 } : Room)) (fun a U => a = #[(.ref va), (.long u1)] ∧ Z.Warmed39 U.vm ∧ U.heap = h0) (fun _ _ _ _ _ => True) (fun _ U o U' => ∃ v L, o = .returned v ∧ QpoB Z va vh vp pa pb vs hn f i u1 h0 n0 v U'.heap L ∧ FrameEnd U o U' L 0 0) := by
  refine MetFree.of_bodySF (plainFor_of_name pn_12) hisR ?_
  intro p e s m args below meth c s₁ Bd hml0 hP hK
  obtain ⟨rfl, hZ, hh⟩ := hP
  have hx := Bd.exec
  have hby := Bd.bytes
  have hml : c.maxLocals = 6 := hml0
  have hown : s.vm.findClass "com/example/hedger/hedger/WordArray" = some m.cls := findClass_of_methodNamed Bd.named
  have hnm := (name_of_methodNamed Bd.named Bd.method).1
  have X0 : Stand p l e ({ frames := 0, cells := 0, slots := 0, locals := 0 } : Room) s m #[(.ref va), (.long u1)] below meth c s₁ [] 0 0 := Stand.of_body Bd
  have e0 : s₁.heap = h0 := by rw [← hh, Bd.state]; rfl
  have N0 := Fr.nil n0
  have hlk : meth.locks = false := BodyLoose.notSynchronized Bd
  show Goal p e below s (QpoB Z va vh vp pa pb vs hn f i u1 h0 n0) 0 0 (s₁.setTop (entryFrame m #[(.ref va), (.long u1)] 6))
  refine Goal.to (B := s₁.setTop (mkF m 0 #[.val (.ref va), .val (.long u1), .second, .unset, .unset, .unset] [])) (fun tt kk => castTop (ef_12 m va u1 ) kk) ?_
  refine Goal.to (B := s₁.setTop (mkF m 2 #[.val (.ref va), .val (.long u1), .second, .unset, .unset, .unset] [(.ref va), (.long u1)])) (fun tt kk => ?_) ?_
  · show Steps p.tables e below (s₁.setTop (mkF m 0 #[.val (.ref va), .val (.long u1), .second, .unset, .unset, .unset] [])) tt
    refine XS.lloadN X0.here hx rfl (hb hby d12_0) rfl ?_
    show Steps p.tables e below (s₁.setTop (mkF m 1 #[.val (.ref va), .val (.long u1), .second, .unset, .unset, .unset] [(.long u1)])) tt
    refine XS.aloadN X0.here hx rfl (hb hby d12_1) rfl rfl ?_
    exact kk
  obtain ⟨T1, X1, e1, st1⟩ := getF X0 hx hZ hown (host := "") (Or.inl (hw _ (mw 15 rfl))) Via.refl e0 F_head_va (g := (mkF m 2 #[.val (.ref va), .val (.long u1), .second, .unset, .unset, .unset] [(.ref va), (.long u1)])) rfl rfl (hb hby d12_2)
  refine Goal.to (B := T1.setTop (mkF m 5 #[.val (.ref va), .val (.long u1), .second, .unset, .unset, .unset] [(.ref vh), (.long u1)])) st1 ?_
  obtain ⟨cl2, Ar2, Sl2⟩ := id V_vh
  have ln2 : cl2.slots.size.toInt32 = hn.toInt32 := lenA Sl2 (by rw [own_len])
  obtain ⟨qq, hqq⟩ : ∃ z : Int64, z = (u1 - (hn.toInt32.toInt64)) := ⟨_, rfl⟩
  refine Goal.to (B := T1.setTop (mkF m 9 #[.val (.ref va), .val (.long u1), .second, .val (.long qq), .second, .unset] [])) (fun tt kk => ?_) ?_
  · subst hqq
    show Steps p.tables e below (T1.setTop (mkF m 5 #[.val (.ref va), .val (.long u1), .second, .unset, .unset, .unset] [(.ref vh), (.long u1)])) tt
    refine X1.arraylength hx (by rw [e1]; exact Ar2.1) (State.isArrayOf_alike hZ.alike Ar2.2.1) (g := (mkF m 5 #[.val (.ref va), .val (.long u1), .second, .unset, .unset, .unset] [(.ref vh), (.long u1)])) rfl rfl (hb hby d12_5) _ ?_
    rw [ln2]
    show Steps p.tables e below (T1.setTop (mkF m 6 #[.val (.ref va), .val (.long u1), .second, .unset, .unset, .unset] [(.int hn.toInt32), (.long u1)])) tt
    refine XS.i2l X1.here hx rfl (hb hby d12_6) rfl ?_
    show Steps p.tables e below (T1.setTop (mkF m 7 #[.val (.ref va), .val (.long u1), .second, .unset, .unset, .unset] [(.long (hn.toInt32.toInt64)), (.long u1)])) tt
    refine XS.lsub X1.here hx rfl (hb hby d12_7) rfl ?_
    show Steps p.tables e below (T1.setTop (mkF m 8 #[.val (.ref va), .val (.long u1), .second, .unset, .unset, .unset] [(.long (u1 - (hn.toInt32.toInt64)))])) tt
    refine XS.lstoreN X1.here hx rfl (hb hby d12_8) rfl (l' := #[.val (.ref va), .val (.long u1), .second, .val (.long (u1 - (hn.toInt32.toInt64))), .second, .unset]) rfl ?_
    exact kk
  have hq2 := own_qq hhn hiu hib hqq (by omega)
  obtain ⟨ww, hww⟩ : ∃ z : Int32, z = ((qq.toInt32) &&& (32767 : Int32)) := ⟨_, rfl⟩
  refine Goal.to (B := T1.setTop (mkF m 17 #[.val (.ref va), .val (.long u1), .second, .val (.long qq), .second, .val (.int ww)] [])) (fun tt kk => ?_) ?_
  · subst hww
    show Steps p.tables e below (T1.setTop (mkF m 9 #[.val (.ref va), .val (.long u1), .second, .val (.long qq), .second, .unset] [])) tt
    refine XS.lloadN X1.here hx rfl (hb hby d12_9) rfl ?_
    show Steps p.tables e below (T1.setTop (mkF m 10 #[.val (.ref va), .val (.long u1), .second, .val (.long qq), .second, .unset] [(.long qq)])) tt
    refine XS.l2i X1.here hx rfl (hb hby d12_10) rfl ?_
    show Steps p.tables e below (T1.setTop (mkF m 11 #[.val (.ref va), .val (.long u1), .second, .val (.long qq), .second, .unset] [(.int (qq.toInt32))])) tt
    refine XS.sipush X1.here hx rfl (hb hby d12_11) ?_
    show Steps p.tables e below (T1.setTop (mkF m 14 #[.val (.ref va), .val (.long u1), .second, .val (.long qq), .second, .unset] [(.int (32767 : Int32)), (.int (qq.toInt32))])) tt
    refine XS.iand X1.here hx rfl (hb hby d12_14) rfl ?_
    show Steps p.tables e below (T1.setTop (mkF m 15 #[.val (.ref va), .val (.long u1), .second, .val (.long qq), .second, .unset] [(.int ((qq.toInt32) &&& (32767 : Int32)))])) tt
    refine XS.istore X1.here hx rfl (hb hby d12_15) rfl (l' := #[.val (.ref va), .val (.long u1), .second, .val (.long qq), .second, .val (.int ((qq.toInt32) &&& (32767 : Int32)))]) rfl ?_
    exact kk
  have hw2 := own_ww hq2 (by omega) hww
  refine Goal.to (B := T1.setTop (mkF m 44 #[.val (.ref va), .val (.long u1), .second, .val (.long qq), .second, .val (.int ww)] [(.int ww)])) (fun tt kk => ?_) ?_
  · show Steps p.tables e below (T1.setTop (mkF m 17 #[.val (.ref va), .val (.long u1), .second, .val (.long qq), .second, .val (.int ww)] [])) tt
    refine XS.iload X1.here hx rfl (hb hby d12_17) rfl ?_
    show Steps p.tables e below (T1.setTop (mkF m 19 #[.val (.ref va), .val (.long u1), .second, .val (.long qq), .second, .val (.int ww)] [(.int ww)])) tt
    refine XS.sipush X1.here hx rfl (hb hby d12_19) ?_
    show Steps p.tables e below (T1.setTop (mkF m 22 #[.val (.ref va), .val (.long u1), .second, .val (.long qq), .second, .val (.int ww)] [(.int (32765 : Int32)), (.int ww)])) tt
    refine XS.icmpNo X1.here hx rfl (hb hby d12_22) rfl (tlt (by rw [Int32.lt_iff_toInt_lt, hw2, show (32765 : Int32).toInt = 32765 from rfl]; omega : ww < (32765 : Int32))).2.1 ?_
    show Steps p.tables e below (T1.setTop (mkF m 25 #[.val (.ref va), .val (.long u1), .second, .val (.long qq), .second, .val (.int ww)] [])) tt
    refine XS.iload X1.here hx rfl (hb hby d12_25) rfl ?_
    show Steps p.tables e below (T1.setTop (mkF m 27 #[.val (.ref va), .val (.long u1), .second, .val (.long qq), .second, .val (.int ww)] [(.int ww)])) tt
    refine XS.goto X1.here hx rfl (pc0 := 27) (pc' := 44) rfl (hb hby d12_27) (by decide) (by decide) ?_
    exact kk
  exact Goal.retV X1 hx Bd.returns rfl (Or.inl ⟨rfl, Or.inl rfl, _, rfl⟩) (hb hby d12_44) hlk e1 ⟨ww, rfl, N0, rfl, (by rw [hw2]; omega)⟩ (by decide) (by decide)
theorem d11_38 : decode prog_26_method_25_code 38 = .ok (.aload_n 0, 1) := by decide +kernel
theorem d11_39 : decode prog_26_method_25_code 39 = .ok (.getfield 44, 3) := by decide +kernel
def QpaC (Z : State) (va : Addr) (vh : Addr) (vp : Addr) (pa : Addr) (pb : Addr) (vs : Addr) (hn : Nat) (f : Nat → Int64) (i : Nat) (u1 : Int64) (h0 : Heap) (n0 : Nat) (v : Option Value) (h : Heap) (L : List Loc) : Prop := v = some (.ref vs) ∧ Fr n0 L ∧ h = h0
set_option maxRecDepth 65536 in
set_option maxHeartbeats 40000000 in
theorem rmpaC (l : Launch) (Z : State) (a0 : Array Value) (hw : ∀ d ∈ tables_1, d.before a0 Z = true) (ws : List Jvm.Cond) (va : Addr) (vh : Addr) (vp : Addr) (pa : Addr) (pb : Addr) (vs : Addr) (hn : Nat) (f : Nat → Int64) (i : Nat) (u1 : Int64) (h0 : Heap) (n0 : Nat) (Z0 : n0 ≤ h0.size) (F_head_va : Fld Z h0 va "com/example/hedger/hedger/WordArray" "head" "[J" (.ref vh)) (F_pages_va : Fld Z h0 va "com/example/hedger/hedger/WordArray" "pages" "[[J" (.ref vp)) (F_spares_va : Fld Z h0 va "com/example/hedger/hedger/WordArray" "spares" "[J" (.ref vs)) (V_vh : Ary Z h0 vh .long (own_l f 0 hn)) (V_vp : Ary Z h0 vp (.array .long) [(.ref pa), (.ref pb)]) (hhn : hn ≤ 3) (hiu : u1.toInt = (i : Int)) (hib : i < hn + 32770) (hrg : hn + 32765 ≤ i ∧ i < hn + 32768) :
    MetFree l (⟨"com/example/hedger/hedger/WordArray", "pageArrayOf", "(J)[J"⟩ : MethodName) (head1 (Jvm.Cond.code (⟨"com/example/hedger/hedger/WordArray", "pageArrayOf", "(J)[J"⟩ : MethodName) prog_26_method_25_code 6 (some (.array .long)) :: ws) ({ frames := 0, cells := 0, slots := 0, locals := 0 } : Room)) (fun a U => a = #[(.ref va), (.long u1)] ∧ Z.Warmed39 U.vm ∧ U.heap = h0) (fun _ _ _ _ _ => True) (fun _ U o U' => ∃ v L, o = .returned v ∧ QpaC Z va vh vp pa pb vs hn f i u1 h0 n0 v U'.heap L ∧ FrameEnd U o U' L 0 0) := by
  refine MetFree.of_bodySF (plainFor_of_name pn_11) hisR ?_
  intro p e s m args below meth c s₁ Bd hml0 hP hK
  obtain ⟨rfl, hZ, hh⟩ := hP
  have hx := Bd.exec
  have hby := Bd.bytes
  have hml : c.maxLocals = 6 := hml0
  have hown : s.vm.findClass "com/example/hedger/hedger/WordArray" = some m.cls := findClass_of_methodNamed Bd.named
  have hnm := (name_of_methodNamed Bd.named Bd.method).1
  have X0 : Stand p l e ({ frames := 0, cells := 0, slots := 0, locals := 0 } : Room) s m #[(.ref va), (.long u1)] below meth c s₁ [] 0 0 := Stand.of_body Bd
  have e0 : s₁.heap = h0 := by rw [← hh, Bd.state]; rfl
  have N0 := Fr.nil n0
  have hlk : meth.locks = false := BodyLoose.notSynchronized Bd
  show Goal p e below s (QpaC Z va vh vp pa pb vs hn f i u1 h0 n0) 0 0 (s₁.setTop (entryFrame m #[(.ref va), (.long u1)] 6))
  refine Goal.to (B := s₁.setTop (mkF m 0 #[.val (.ref va), .val (.long u1), .second, .unset, .unset, .unset] [])) (fun tt kk => castTop (ef_11 m va u1 ) kk) ?_
  refine Goal.to (B := s₁.setTop (mkF m 2 #[.val (.ref va), .val (.long u1), .second, .unset, .unset, .unset] [(.ref va), (.long u1)])) (fun tt kk => ?_) ?_
  · show Steps p.tables e below (s₁.setTop (mkF m 0 #[.val (.ref va), .val (.long u1), .second, .unset, .unset, .unset] [])) tt
    refine XS.lloadN X0.here hx rfl (hb hby d11_0) rfl ?_
    show Steps p.tables e below (s₁.setTop (mkF m 1 #[.val (.ref va), .val (.long u1), .second, .unset, .unset, .unset] [(.long u1)])) tt
    refine XS.aloadN X0.here hx rfl (hb hby d11_1) rfl rfl ?_
    exact kk
  obtain ⟨T1, X1, e1, st1⟩ := getF X0 hx hZ hown (host := "") (Or.inl (hw _ (mw 15 rfl))) Via.refl e0 F_head_va (g := (mkF m 2 #[.val (.ref va), .val (.long u1), .second, .unset, .unset, .unset] [(.ref va), (.long u1)])) rfl rfl (hb hby d11_2)
  refine Goal.to (B := T1.setTop (mkF m 5 #[.val (.ref va), .val (.long u1), .second, .unset, .unset, .unset] [(.ref vh), (.long u1)])) st1 ?_
  obtain ⟨cl2, Ar2, Sl2⟩ := id V_vh
  have ln2 : cl2.slots.size.toInt32 = hn.toInt32 := lenA Sl2 (by rw [own_len])
  obtain ⟨qq, hqq⟩ : ∃ z : Int64, z = (u1 - (hn.toInt32.toInt64)) := ⟨_, rfl⟩
  refine Goal.to (B := T1.setTop (mkF m 9 #[.val (.ref va), .val (.long u1), .second, .val (.long qq), .second, .unset] [])) (fun tt kk => ?_) ?_
  · subst hqq
    show Steps p.tables e below (T1.setTop (mkF m 5 #[.val (.ref va), .val (.long u1), .second, .unset, .unset, .unset] [(.ref vh), (.long u1)])) tt
    refine X1.arraylength hx (by rw [e1]; exact Ar2.1) (State.isArrayOf_alike hZ.alike Ar2.2.1) (g := (mkF m 5 #[.val (.ref va), .val (.long u1), .second, .unset, .unset, .unset] [(.ref vh), (.long u1)])) rfl rfl (hb hby d11_5) _ ?_
    rw [ln2]
    show Steps p.tables e below (T1.setTop (mkF m 6 #[.val (.ref va), .val (.long u1), .second, .unset, .unset, .unset] [(.int hn.toInt32), (.long u1)])) tt
    refine XS.i2l X1.here hx rfl (hb hby d11_6) rfl ?_
    show Steps p.tables e below (T1.setTop (mkF m 7 #[.val (.ref va), .val (.long u1), .second, .unset, .unset, .unset] [(.long (hn.toInt32.toInt64)), (.long u1)])) tt
    refine XS.lsub X1.here hx rfl (hb hby d11_7) rfl ?_
    show Steps p.tables e below (T1.setTop (mkF m 8 #[.val (.ref va), .val (.long u1), .second, .unset, .unset, .unset] [(.long (u1 - (hn.toInt32.toInt64)))])) tt
    refine XS.lstoreN X1.here hx rfl (hb hby d11_8) rfl (l' := #[.val (.ref va), .val (.long u1), .second, .val (.long (u1 - (hn.toInt32.toInt64))), .second, .unset]) rfl ?_
    exact kk
  have hq2 := own_qq hhn hiu hib hqq (by omega)
  obtain ⟨ww, hww⟩ : ∃ z : Int32, z = ((qq.toInt32) &&& (32767 : Int32)) := ⟨_, rfl⟩
  refine Goal.to (B := T1.setTop (mkF m 17 #[.val (.ref va), .val (.long u1), .second, .val (.long qq), .second, .val (.int ww)] [])) (fun tt kk => ?_) ?_
  · subst hww
    show Steps p.tables e below (T1.setTop (mkF m 9 #[.val (.ref va), .val (.long u1), .second, .val (.long qq), .second, .unset] [])) tt
    refine XS.lloadN X1.here hx rfl (hb hby d11_9) rfl ?_
    show Steps p.tables e below (T1.setTop (mkF m 10 #[.val (.ref va), .val (.long u1), .second, .val (.long qq), .second, .unset] [(.long qq)])) tt
    refine XS.l2i X1.here hx rfl (hb hby d11_10) rfl ?_
    show Steps p.tables e below (T1.setTop (mkF m 11 #[.val (.ref va), .val (.long u1), .second, .val (.long qq), .second, .unset] [(.int (qq.toInt32))])) tt
    refine XS.sipush X1.here hx rfl (hb hby d11_11) ?_
    show Steps p.tables e below (T1.setTop (mkF m 14 #[.val (.ref va), .val (.long u1), .second, .val (.long qq), .second, .unset] [(.int (32767 : Int32)), (.int (qq.toInt32))])) tt
    refine XS.iand X1.here hx rfl (hb hby d11_14) rfl ?_
    show Steps p.tables e below (T1.setTop (mkF m 15 #[.val (.ref va), .val (.long u1), .second, .val (.long qq), .second, .unset] [(.int ((qq.toInt32) &&& (32767 : Int32)))])) tt
    refine XS.istore X1.here hx rfl (hb hby d11_15) rfl (l' := #[.val (.ref va), .val (.long u1), .second, .val (.long qq), .second, .val (.int ((qq.toInt32) &&& (32767 : Int32)))]) rfl ?_
    exact kk
  have hw2 := own_ww hq2 (by omega) hww
  refine Goal.to (B := T1.setTop (mkF m 39 #[.val (.ref va), .val (.long u1), .second, .val (.long qq), .second, .val (.int ww)] [(.ref va)])) (fun tt kk => ?_) ?_
  · show Steps p.tables e below (T1.setTop (mkF m 17 #[.val (.ref va), .val (.long u1), .second, .val (.long qq), .second, .val (.int ww)] [])) tt
    refine XS.iload X1.here hx rfl (hb hby d11_17) rfl ?_
    show Steps p.tables e below (T1.setTop (mkF m 19 #[.val (.ref va), .val (.long u1), .second, .val (.long qq), .second, .val (.int ww)] [(.int ww)])) tt
    refine XS.sipush X1.here hx rfl (hb hby d11_19) ?_
    show Steps p.tables e below (T1.setTop (mkF m 22 #[.val (.ref va), .val (.long u1), .second, .val (.long qq), .second, .val (.int ww)] [(.int (32765 : Int32)), (.int ww)])) tt
    refine XS.icmpYes X1.here hx rfl (pc0 := 22) (pc' := 38) rfl (hb hby d11_22) rfl (flt (by rw [Int32.lt_iff_toInt_lt, hw2, show (32765 : Int32).toInt = 32765 from rfl]; omega : ¬ (ww < (32765 : Int32)))).2.1 (by decide) (by decide) ?_
    show Steps p.tables e below (T1.setTop (mkF m 38 #[.val (.ref va), .val (.long u1), .second, .val (.long qq), .second, .val (.int ww)] [])) tt
    refine XS.aloadN X1.here hx rfl (hb hby d11_38) rfl rfl ?_
    exact kk
  obtain ⟨T3, X3, e3, st3⟩ := getF X1 hx hZ hown (host := "") (Or.inl (hw _ (mw 42 rfl))) Via.refl e1 F_spares_va (g := (mkF m 39 #[.val (.ref va), .val (.long u1), .second, .val (.long qq), .second, .val (.int ww)] [(.ref va)])) rfl rfl (hb hby d11_39)
  refine Goal.to (B := T3.setTop (mkF m 42 #[.val (.ref va), .val (.long u1), .second, .val (.long qq), .second, .val (.int ww)] [(.ref vs)])) st3 ?_
  exact Goal.retV X3 hx Bd.returns rfl (Or.inr (Or.inr (Or.inr (Or.inr ⟨rfl, rfl, rfl⟩)))) (hb hby d11_42) hlk e3 ⟨rfl, N0, rfl⟩ (by decide) (by decide)
theorem d12_30 : decode prog_26_method_26_code 30 = .ok (.lload_n 3, 1) := by decide +kernel
theorem d12_31 : decode prog_26_method_26_code 31 = .ok (.bipush 15, 2) := by decide +kernel
theorem d12_33 : decode prog_26_method_26_code 33 = .ok (.lushr, 1) := by decide +kernel
theorem d12_34 : decode prog_26_method_26_code 34 = .ok (.l2i, 1) := by decide +kernel
theorem d12_35 : decode prog_26_method_26_code 35 = .ok (.iconst 3, 1) := by decide +kernel
theorem d12_36 : decode prog_26_method_26_code 36 = .ok (.imul, 1) := by decide +kernel
theorem d12_37 : decode prog_26_method_26_code 37 = .ok (.iload 5, 2) := by decide +kernel
theorem d12_39 : decode prog_26_method_26_code 39 = .ok (.iadd, 1) := by decide +kernel
theorem d12_40 : decode prog_26_method_26_code 40 = .ok (.sipush 32765, 3) := by decide +kernel
theorem d12_43 : decode prog_26_method_26_code 43 = .ok (.isub, 1) := by decide +kernel
def QpoC (Z : State) (va : Addr) (vh : Addr) (vp : Addr) (pa : Addr) (pb : Addr) (vs : Addr) (hn : Nat) (f : Nat → Int64) (i : Nat) (u1 : Int64) (h0 : Heap) (n0 : Nat) (v : Option Value) (h : Heap) (L : List Loc) : Prop := ∃ oo : Int32, v = some (.int oo) ∧ Fr n0 L ∧ h = h0 ∧ oo.toInt = (((i - hn - 32765) : Nat) : Int)
set_option maxRecDepth 65536 in
set_option maxHeartbeats 40000000 in
theorem rmpoC (l : Launch) (Z : State) (a0 : Array Value) (hw : ∀ d ∈ tables_1, d.before a0 Z = true) (ws : List Jvm.Cond) (va : Addr) (vh : Addr) (vp : Addr) (pa : Addr) (pb : Addr) (vs : Addr) (hn : Nat) (f : Nat → Int64) (i : Nat) (u1 : Int64) (h0 : Heap) (n0 : Nat) (Z0 : n0 ≤ h0.size) (F_head_va : Fld Z h0 va "com/example/hedger/hedger/WordArray" "head" "[J" (.ref vh)) (V_vh : Ary Z h0 vh .long (own_l f 0 hn)) (hhn : hn ≤ 3) (hiu : u1.toInt = (i : Int)) (hib : i < hn + 32770) (hrg : hn + 32765 ≤ i ∧ i < hn + 32768) :
    MetFree l (⟨"com/example/hedger/hedger/WordArray", "pageOffsetOf", "(J)I"⟩ : MethodName) (head1 (Jvm.Cond.code (⟨"com/example/hedger/hedger/WordArray", "pageOffsetOf", "(J)I"⟩ : MethodName) prog_26_method_26_code 6 (some .int) :: ws) ({ frames := 0, cells := 0, slots := 0, locals := 0 } : Room)) (fun a U => a = #[(.ref va), (.long u1)] ∧ Z.Warmed39 U.vm ∧ U.heap = h0) (fun _ _ _ _ _ => True) (fun _ U o U' => ∃ v L, o = .returned v ∧ QpoC Z va vh vp pa pb vs hn f i u1 h0 n0 v U'.heap L ∧ FrameEnd U o U' L 0 0) := by
  refine MetFree.of_bodySF (plainFor_of_name pn_12) hisR ?_
  intro p e s m args below meth c s₁ Bd hml0 hP hK
  obtain ⟨rfl, hZ, hh⟩ := hP
  have hx := Bd.exec
  have hby := Bd.bytes
  have hml : c.maxLocals = 6 := hml0
  have hown : s.vm.findClass "com/example/hedger/hedger/WordArray" = some m.cls := findClass_of_methodNamed Bd.named
  have hnm := (name_of_methodNamed Bd.named Bd.method).1
  have X0 : Stand p l e ({ frames := 0, cells := 0, slots := 0, locals := 0 } : Room) s m #[(.ref va), (.long u1)] below meth c s₁ [] 0 0 := Stand.of_body Bd
  have e0 : s₁.heap = h0 := by rw [← hh, Bd.state]; rfl
  have N0 := Fr.nil n0
  have hlk : meth.locks = false := BodyLoose.notSynchronized Bd
  show Goal p e below s (QpoC Z va vh vp pa pb vs hn f i u1 h0 n0) 0 0 (s₁.setTop (entryFrame m #[(.ref va), (.long u1)] 6))
  refine Goal.to (B := s₁.setTop (mkF m 0 #[.val (.ref va), .val (.long u1), .second, .unset, .unset, .unset] [])) (fun tt kk => castTop (ef_12 m va u1 ) kk) ?_
  refine Goal.to (B := s₁.setTop (mkF m 2 #[.val (.ref va), .val (.long u1), .second, .unset, .unset, .unset] [(.ref va), (.long u1)])) (fun tt kk => ?_) ?_
  · show Steps p.tables e below (s₁.setTop (mkF m 0 #[.val (.ref va), .val (.long u1), .second, .unset, .unset, .unset] [])) tt
    refine XS.lloadN X0.here hx rfl (hb hby d12_0) rfl ?_
    show Steps p.tables e below (s₁.setTop (mkF m 1 #[.val (.ref va), .val (.long u1), .second, .unset, .unset, .unset] [(.long u1)])) tt
    refine XS.aloadN X0.here hx rfl (hb hby d12_1) rfl rfl ?_
    exact kk
  obtain ⟨T1, X1, e1, st1⟩ := getF X0 hx hZ hown (host := "") (Or.inl (hw _ (mw 15 rfl))) Via.refl e0 F_head_va (g := (mkF m 2 #[.val (.ref va), .val (.long u1), .second, .unset, .unset, .unset] [(.ref va), (.long u1)])) rfl rfl (hb hby d12_2)
  refine Goal.to (B := T1.setTop (mkF m 5 #[.val (.ref va), .val (.long u1), .second, .unset, .unset, .unset] [(.ref vh), (.long u1)])) st1 ?_
  obtain ⟨cl2, Ar2, Sl2⟩ := id V_vh
  have ln2 : cl2.slots.size.toInt32 = hn.toInt32 := lenA Sl2 (by rw [own_len])
  obtain ⟨qq, hqq⟩ : ∃ z : Int64, z = (u1 - (hn.toInt32.toInt64)) := ⟨_, rfl⟩
  refine Goal.to (B := T1.setTop (mkF m 9 #[.val (.ref va), .val (.long u1), .second, .val (.long qq), .second, .unset] [])) (fun tt kk => ?_) ?_
  · subst hqq
    show Steps p.tables e below (T1.setTop (mkF m 5 #[.val (.ref va), .val (.long u1), .second, .unset, .unset, .unset] [(.ref vh), (.long u1)])) tt
    refine X1.arraylength hx (by rw [e1]; exact Ar2.1) (State.isArrayOf_alike hZ.alike Ar2.2.1) (g := (mkF m 5 #[.val (.ref va), .val (.long u1), .second, .unset, .unset, .unset] [(.ref vh), (.long u1)])) rfl rfl (hb hby d12_5) _ ?_
    rw [ln2]
    show Steps p.tables e below (T1.setTop (mkF m 6 #[.val (.ref va), .val (.long u1), .second, .unset, .unset, .unset] [(.int hn.toInt32), (.long u1)])) tt
    refine XS.i2l X1.here hx rfl (hb hby d12_6) rfl ?_
    show Steps p.tables e below (T1.setTop (mkF m 7 #[.val (.ref va), .val (.long u1), .second, .unset, .unset, .unset] [(.long (hn.toInt32.toInt64)), (.long u1)])) tt
    refine XS.lsub X1.here hx rfl (hb hby d12_7) rfl ?_
    show Steps p.tables e below (T1.setTop (mkF m 8 #[.val (.ref va), .val (.long u1), .second, .unset, .unset, .unset] [(.long (u1 - (hn.toInt32.toInt64)))])) tt
    refine XS.lstoreN X1.here hx rfl (hb hby d12_8) rfl (l' := #[.val (.ref va), .val (.long u1), .second, .val (.long (u1 - (hn.toInt32.toInt64))), .second, .unset]) rfl ?_
    exact kk
  have hq2 := own_qq hhn hiu hib hqq (by omega)
  obtain ⟨ww, hww⟩ : ∃ z : Int32, z = ((qq.toInt32) &&& (32767 : Int32)) := ⟨_, rfl⟩
  refine Goal.to (B := T1.setTop (mkF m 17 #[.val (.ref va), .val (.long u1), .second, .val (.long qq), .second, .val (.int ww)] [])) (fun tt kk => ?_) ?_
  · subst hww
    show Steps p.tables e below (T1.setTop (mkF m 9 #[.val (.ref va), .val (.long u1), .second, .val (.long qq), .second, .unset] [])) tt
    refine XS.lloadN X1.here hx rfl (hb hby d12_9) rfl ?_
    show Steps p.tables e below (T1.setTop (mkF m 10 #[.val (.ref va), .val (.long u1), .second, .val (.long qq), .second, .unset] [(.long qq)])) tt
    refine XS.l2i X1.here hx rfl (hb hby d12_10) rfl ?_
    show Steps p.tables e below (T1.setTop (mkF m 11 #[.val (.ref va), .val (.long u1), .second, .val (.long qq), .second, .unset] [(.int (qq.toInt32))])) tt
    refine XS.sipush X1.here hx rfl (hb hby d12_11) ?_
    show Steps p.tables e below (T1.setTop (mkF m 14 #[.val (.ref va), .val (.long u1), .second, .val (.long qq), .second, .unset] [(.int (32767 : Int32)), (.int (qq.toInt32))])) tt
    refine XS.iand X1.here hx rfl (hb hby d12_14) rfl ?_
    show Steps p.tables e below (T1.setTop (mkF m 15 #[.val (.ref va), .val (.long u1), .second, .val (.long qq), .second, .unset] [(.int ((qq.toInt32) &&& (32767 : Int32)))])) tt
    refine XS.istore X1.here hx rfl (hb hby d12_15) rfl (l' := #[.val (.ref va), .val (.long u1), .second, .val (.long qq), .second, .val (.int ((qq.toInt32) &&& (32767 : Int32)))]) rfl ?_
    exact kk
  have hw2 := own_ww hq2 (by omega) hww
  obtain ⟨ix, hix⟩ : ∃ z : Int32, z = (((qq.toUInt64 >>> ((15 : Int32) &&& 0x3f).toInt64.toUInt64).toInt64).toInt32) := ⟨_, rfl⟩
  refine Goal.to (B := T1.setTop (mkF m 35 #[.val (.ref va), .val (.long u1), .second, .val (.long qq), .second, .val (.int ww)] [(.int ix)])) (fun tt kk => ?_) ?_
  · subst hix
    show Steps p.tables e below (T1.setTop (mkF m 17 #[.val (.ref va), .val (.long u1), .second, .val (.long qq), .second, .val (.int ww)] [])) tt
    refine XS.iload X1.here hx rfl (hb hby d12_17) rfl ?_
    show Steps p.tables e below (T1.setTop (mkF m 19 #[.val (.ref va), .val (.long u1), .second, .val (.long qq), .second, .val (.int ww)] [(.int ww)])) tt
    refine XS.sipush X1.here hx rfl (hb hby d12_19) ?_
    show Steps p.tables e below (T1.setTop (mkF m 22 #[.val (.ref va), .val (.long u1), .second, .val (.long qq), .second, .val (.int ww)] [(.int (32765 : Int32)), (.int ww)])) tt
    refine XS.icmpYes X1.here hx rfl (pc0 := 22) (pc' := 30) rfl (hb hby d12_22) rfl (flt (by rw [Int32.lt_iff_toInt_lt, hw2, show (32765 : Int32).toInt = 32765 from rfl]; omega : ¬ (ww < (32765 : Int32)))).2.1 (by decide) (by decide) ?_
    show Steps p.tables e below (T1.setTop (mkF m 30 #[.val (.ref va), .val (.long u1), .second, .val (.long qq), .second, .val (.int ww)] [])) tt
    refine XS.lloadN X1.here hx rfl (hb hby d12_30) rfl ?_
    show Steps p.tables e below (T1.setTop (mkF m 31 #[.val (.ref va), .val (.long u1), .second, .val (.long qq), .second, .val (.int ww)] [(.long qq)])) tt
    refine XS.bipush X1.here hx rfl (hb hby d12_31) ?_
    show Steps p.tables e below (T1.setTop (mkF m 33 #[.val (.ref va), .val (.long u1), .second, .val (.long qq), .second, .val (.int ww)] [(.int (15 : Int32)), (.long qq)])) tt
    refine XS.lushr X1.here hx rfl (hb hby d12_33) rfl ?_
    show Steps p.tables e below (T1.setTop (mkF m 34 #[.val (.ref va), .val (.long u1), .second, .val (.long qq), .second, .val (.int ww)] [(.long ((qq.toUInt64 >>> ((15 : Int32) &&& 0x3f).toInt64.toUInt64).toInt64))])) tt
    refine XS.l2i X1.here hx rfl (hb hby d12_34) rfl ?_
    exact kk
  have hx2 := own_ix hq2 (by omega) hix
  refine Goal.to (B := T1.setTop (mkF m 44 #[.val (.ref va), .val (.long u1), .second, .val (.long qq), .second, .val (.int ww)] [(.int (((ix * (3 : Int32)) + ww) - (32765 : Int32)))])) (fun tt kk => ?_) ?_
  · show Steps p.tables e below (T1.setTop (mkF m 35 #[.val (.ref va), .val (.long u1), .second, .val (.long qq), .second, .val (.int ww)] [(.int ix)])) tt
    refine XS.iconst X1.here hx rfl (hb hby d12_35) ?_
    show Steps p.tables e below (T1.setTop (mkF m 36 #[.val (.ref va), .val (.long u1), .second, .val (.long qq), .second, .val (.int ww)] [(.int (3 : Int32)), (.int ix)])) tt
    refine XS.imul X1.here hx rfl (hb hby d12_36) rfl ?_
    show Steps p.tables e below (T1.setTop (mkF m 37 #[.val (.ref va), .val (.long u1), .second, .val (.long qq), .second, .val (.int ww)] [(.int (ix * (3 : Int32)))])) tt
    refine XS.iload X1.here hx rfl (hb hby d12_37) rfl ?_
    show Steps p.tables e below (T1.setTop (mkF m 39 #[.val (.ref va), .val (.long u1), .second, .val (.long qq), .second, .val (.int ww)] [(.int ww), (.int (ix * (3 : Int32)))])) tt
    refine XS.iadd X1.here hx rfl (hb hby d12_39) rfl ?_
    show Steps p.tables e below (T1.setTop (mkF m 40 #[.val (.ref va), .val (.long u1), .second, .val (.long qq), .second, .val (.int ww)] [(.int ((ix * (3 : Int32)) + ww))])) tt
    refine XS.sipush X1.here hx rfl (hb hby d12_40) ?_
    show Steps p.tables e below (T1.setTop (mkF m 43 #[.val (.ref va), .val (.long u1), .second, .val (.long qq), .second, .val (.int ww)] [(.int (32765 : Int32)), (.int ((ix * (3 : Int32)) + ww))])) tt
    refine XS.isub X1.here hx rfl (hb hby d12_43) rfl ?_
    exact kk
  exact Goal.retV X1 hx Bd.returns rfl (Or.inl ⟨rfl, Or.inl rfl, _, rfl⟩) (hb hby d12_44) hlk e1 ⟨(((ix * (3 : Int32)) + ww) - (32765 : Int32)), rfl, N0, rfl, (own_off (q := qq) hx2 hw2 (by omega) rfl)⟩ (by decide) (by decide)
def QpaD (Z : State) (va : Addr) (vh : Addr) (vp : Addr) (pa : Addr) (pb : Addr) (vs : Addr) (hn : Nat) (f : Nat → Int64) (i : Nat) (u1 : Int64) (h0 : Heap) (n0 : Nat) (v : Option Value) (h : Heap) (L : List Loc) : Prop := v = some (.ref pb) ∧ Fr n0 L ∧ h = h0
set_option maxRecDepth 65536 in
set_option maxHeartbeats 40000000 in
theorem rmpaD (l : Launch) (Z : State) (a0 : Array Value) (hw : ∀ d ∈ tables_1, d.before a0 Z = true) (ws : List Jvm.Cond) (va : Addr) (vh : Addr) (vp : Addr) (pa : Addr) (pb : Addr) (vs : Addr) (hn : Nat) (f : Nat → Int64) (i : Nat) (u1 : Int64) (h0 : Heap) (n0 : Nat) (Z0 : n0 ≤ h0.size) (F_head_va : Fld Z h0 va "com/example/hedger/hedger/WordArray" "head" "[J" (.ref vh)) (F_pages_va : Fld Z h0 va "com/example/hedger/hedger/WordArray" "pages" "[[J" (.ref vp)) (F_spares_va : Fld Z h0 va "com/example/hedger/hedger/WordArray" "spares" "[J" (.ref vs)) (V_vh : Ary Z h0 vh .long (own_l f 0 hn)) (V_vp : Ary Z h0 vp (.array .long) [(.ref pa), (.ref pb)]) (hhn : hn ≤ 3) (hiu : u1.toInt = (i : Int)) (hib : i < hn + 32770) (hrg : hn + 32768 ≤ i ∧ i < hn + 32770) :
    MetFree l (⟨"com/example/hedger/hedger/WordArray", "pageArrayOf", "(J)[J"⟩ : MethodName) (head1 (Jvm.Cond.code (⟨"com/example/hedger/hedger/WordArray", "pageArrayOf", "(J)[J"⟩ : MethodName) prog_26_method_25_code 6 (some (.array .long)) :: ws) ({ frames := 0, cells := 0, slots := 0, locals := 0 } : Room)) (fun a U => a = #[(.ref va), (.long u1)] ∧ Z.Warmed39 U.vm ∧ U.heap = h0) (fun _ _ _ _ _ => True) (fun _ U o U' => ∃ v L, o = .returned v ∧ QpaD Z va vh vp pa pb vs hn f i u1 h0 n0 v U'.heap L ∧ FrameEnd U o U' L 0 0) := by
  refine MetFree.of_bodySF (plainFor_of_name pn_11) hisR ?_
  intro p e s m args below meth c s₁ Bd hml0 hP hK
  obtain ⟨rfl, hZ, hh⟩ := hP
  have hx := Bd.exec
  have hby := Bd.bytes
  have hml : c.maxLocals = 6 := hml0
  have hown : s.vm.findClass "com/example/hedger/hedger/WordArray" = some m.cls := findClass_of_methodNamed Bd.named
  have hnm := (name_of_methodNamed Bd.named Bd.method).1
  have X0 : Stand p l e ({ frames := 0, cells := 0, slots := 0, locals := 0 } : Room) s m #[(.ref va), (.long u1)] below meth c s₁ [] 0 0 := Stand.of_body Bd
  have e0 : s₁.heap = h0 := by rw [← hh, Bd.state]; rfl
  have N0 := Fr.nil n0
  have hlk : meth.locks = false := BodyLoose.notSynchronized Bd
  show Goal p e below s (QpaD Z va vh vp pa pb vs hn f i u1 h0 n0) 0 0 (s₁.setTop (entryFrame m #[(.ref va), (.long u1)] 6))
  refine Goal.to (B := s₁.setTop (mkF m 0 #[.val (.ref va), .val (.long u1), .second, .unset, .unset, .unset] [])) (fun tt kk => castTop (ef_11 m va u1 ) kk) ?_
  refine Goal.to (B := s₁.setTop (mkF m 2 #[.val (.ref va), .val (.long u1), .second, .unset, .unset, .unset] [(.ref va), (.long u1)])) (fun tt kk => ?_) ?_
  · show Steps p.tables e below (s₁.setTop (mkF m 0 #[.val (.ref va), .val (.long u1), .second, .unset, .unset, .unset] [])) tt
    refine XS.lloadN X0.here hx rfl (hb hby d11_0) rfl ?_
    show Steps p.tables e below (s₁.setTop (mkF m 1 #[.val (.ref va), .val (.long u1), .second, .unset, .unset, .unset] [(.long u1)])) tt
    refine XS.aloadN X0.here hx rfl (hb hby d11_1) rfl rfl ?_
    exact kk
  obtain ⟨T1, X1, e1, st1⟩ := getF X0 hx hZ hown (host := "") (Or.inl (hw _ (mw 15 rfl))) Via.refl e0 F_head_va (g := (mkF m 2 #[.val (.ref va), .val (.long u1), .second, .unset, .unset, .unset] [(.ref va), (.long u1)])) rfl rfl (hb hby d11_2)
  refine Goal.to (B := T1.setTop (mkF m 5 #[.val (.ref va), .val (.long u1), .second, .unset, .unset, .unset] [(.ref vh), (.long u1)])) st1 ?_
  obtain ⟨cl2, Ar2, Sl2⟩ := id V_vh
  have ln2 : cl2.slots.size.toInt32 = hn.toInt32 := lenA Sl2 (by rw [own_len])
  obtain ⟨qq, hqq⟩ : ∃ z : Int64, z = (u1 - (hn.toInt32.toInt64)) := ⟨_, rfl⟩
  refine Goal.to (B := T1.setTop (mkF m 9 #[.val (.ref va), .val (.long u1), .second, .val (.long qq), .second, .unset] [])) (fun tt kk => ?_) ?_
  · subst hqq
    show Steps p.tables e below (T1.setTop (mkF m 5 #[.val (.ref va), .val (.long u1), .second, .unset, .unset, .unset] [(.ref vh), (.long u1)])) tt
    refine X1.arraylength hx (by rw [e1]; exact Ar2.1) (State.isArrayOf_alike hZ.alike Ar2.2.1) (g := (mkF m 5 #[.val (.ref va), .val (.long u1), .second, .unset, .unset, .unset] [(.ref vh), (.long u1)])) rfl rfl (hb hby d11_5) _ ?_
    rw [ln2]
    show Steps p.tables e below (T1.setTop (mkF m 6 #[.val (.ref va), .val (.long u1), .second, .unset, .unset, .unset] [(.int hn.toInt32), (.long u1)])) tt
    refine XS.i2l X1.here hx rfl (hb hby d11_6) rfl ?_
    show Steps p.tables e below (T1.setTop (mkF m 7 #[.val (.ref va), .val (.long u1), .second, .unset, .unset, .unset] [(.long (hn.toInt32.toInt64)), (.long u1)])) tt
    refine XS.lsub X1.here hx rfl (hb hby d11_7) rfl ?_
    show Steps p.tables e below (T1.setTop (mkF m 8 #[.val (.ref va), .val (.long u1), .second, .unset, .unset, .unset] [(.long (u1 - (hn.toInt32.toInt64)))])) tt
    refine XS.lstoreN X1.here hx rfl (hb hby d11_8) rfl (l' := #[.val (.ref va), .val (.long u1), .second, .val (.long (u1 - (hn.toInt32.toInt64))), .second, .unset]) rfl ?_
    exact kk
  have hq2 := own_qq hhn hiu hib hqq (by omega)
  obtain ⟨ww, hww⟩ : ∃ z : Int32, z = ((qq.toInt32) &&& (32767 : Int32)) := ⟨_, rfl⟩
  refine Goal.to (B := T1.setTop (mkF m 17 #[.val (.ref va), .val (.long u1), .second, .val (.long qq), .second, .val (.int ww)] [])) (fun tt kk => ?_) ?_
  · subst hww
    show Steps p.tables e below (T1.setTop (mkF m 9 #[.val (.ref va), .val (.long u1), .second, .val (.long qq), .second, .unset] [])) tt
    refine XS.lloadN X1.here hx rfl (hb hby d11_9) rfl ?_
    show Steps p.tables e below (T1.setTop (mkF m 10 #[.val (.ref va), .val (.long u1), .second, .val (.long qq), .second, .unset] [(.long qq)])) tt
    refine XS.l2i X1.here hx rfl (hb hby d11_10) rfl ?_
    show Steps p.tables e below (T1.setTop (mkF m 11 #[.val (.ref va), .val (.long u1), .second, .val (.long qq), .second, .unset] [(.int (qq.toInt32))])) tt
    refine XS.sipush X1.here hx rfl (hb hby d11_11) ?_
    show Steps p.tables e below (T1.setTop (mkF m 14 #[.val (.ref va), .val (.long u1), .second, .val (.long qq), .second, .unset] [(.int (32767 : Int32)), (.int (qq.toInt32))])) tt
    refine XS.iand X1.here hx rfl (hb hby d11_14) rfl ?_
    show Steps p.tables e below (T1.setTop (mkF m 15 #[.val (.ref va), .val (.long u1), .second, .val (.long qq), .second, .unset] [(.int ((qq.toInt32) &&& (32767 : Int32)))])) tt
    refine XS.istore X1.here hx rfl (hb hby d11_15) rfl (l' := #[.val (.ref va), .val (.long u1), .second, .val (.long qq), .second, .val (.int ((qq.toInt32) &&& (32767 : Int32)))]) rfl ?_
    exact kk
  have hw2 := own_ww hq2 (by omega) hww
  refine Goal.to (B := T1.setTop (mkF m 26 #[.val (.ref va), .val (.long u1), .second, .val (.long qq), .second, .val (.int ww)] [(.ref va)])) (fun tt kk => ?_) ?_
  · show Steps p.tables e below (T1.setTop (mkF m 17 #[.val (.ref va), .val (.long u1), .second, .val (.long qq), .second, .val (.int ww)] [])) tt
    refine XS.iload X1.here hx rfl (hb hby d11_17) rfl ?_
    show Steps p.tables e below (T1.setTop (mkF m 19 #[.val (.ref va), .val (.long u1), .second, .val (.long qq), .second, .val (.int ww)] [(.int ww)])) tt
    refine XS.sipush X1.here hx rfl (hb hby d11_19) ?_
    show Steps p.tables e below (T1.setTop (mkF m 22 #[.val (.ref va), .val (.long u1), .second, .val (.long qq), .second, .val (.int ww)] [(.int (32765 : Int32)), (.int ww)])) tt
    refine XS.icmpNo X1.here hx rfl (hb hby d11_22) rfl (tlt (by rw [Int32.lt_iff_toInt_lt, hw2, show (32765 : Int32).toInt = 32765 from rfl]; omega : ww < (32765 : Int32))).2.1 ?_
    show Steps p.tables e below (T1.setTop (mkF m 25 #[.val (.ref va), .val (.long u1), .second, .val (.long qq), .second, .val (.int ww)] [])) tt
    refine XS.aloadN X1.here hx rfl (hb hby d11_25) rfl rfl ?_
    exact kk
  obtain ⟨T3, X3, e3, st3⟩ := getF X1 hx hZ hown (host := "") (Or.inl (hw _ (mw 23 rfl))) Via.refl e1 F_pages_va (g := (mkF m 26 #[.val (.ref va), .val (.long u1), .second, .val (.long qq), .second, .val (.int ww)] [(.ref va)])) rfl rfl (hb hby d11_26)
  refine Goal.to (B := T3.setTop (mkF m 29 #[.val (.ref va), .val (.long u1), .second, .val (.long qq), .second, .val (.int ww)] [(.ref vp)])) st3 ?_
  obtain ⟨ix, hix⟩ : ∃ z : Int32, z = (((qq.toUInt64 >>> ((15 : Int32) &&& 0x3f).toInt64.toUInt64).toInt64).toInt32) := ⟨_, rfl⟩
  refine Goal.to (B := T3.setTop (mkF m 34 #[.val (.ref va), .val (.long u1), .second, .val (.long qq), .second, .val (.int ww)] [(.int ix), (.ref vp)])) (fun tt kk => ?_) ?_
  · subst hix
    show Steps p.tables e below (T3.setTop (mkF m 29 #[.val (.ref va), .val (.long u1), .second, .val (.long qq), .second, .val (.int ww)] [(.ref vp)])) tt
    refine XS.lloadN X3.here hx rfl (hb hby d11_29) rfl ?_
    show Steps p.tables e below (T3.setTop (mkF m 30 #[.val (.ref va), .val (.long u1), .second, .val (.long qq), .second, .val (.int ww)] [(.long qq), (.ref vp)])) tt
    refine XS.bipush X3.here hx rfl (hb hby d11_30) ?_
    show Steps p.tables e below (T3.setTop (mkF m 32 #[.val (.ref va), .val (.long u1), .second, .val (.long qq), .second, .val (.int ww)] [(.int (15 : Int32)), (.long qq), (.ref vp)])) tt
    refine XS.lushr X3.here hx rfl (hb hby d11_32) rfl ?_
    show Steps p.tables e below (T3.setTop (mkF m 33 #[.val (.ref va), .val (.long u1), .second, .val (.long qq), .second, .val (.int ww)] [(.long ((qq.toUInt64 >>> ((15 : Int32) &&& 0x3f).toInt64.toUInt64).toInt64)), (.ref vp)])) tt
    refine XS.l2i X3.here hx rfl (hb hby d11_33) rfl ?_
    exact kk
  obtain rfl : ix = (1 : Int32) := own_lit (own_ix hq2 (by omega) hix) _ (by rw [show ((i - hn) / 32768 : Nat) = 1 by omega]; rfl)
  · obtain ⟨cl4, Ar4, Sl4⟩ := id V_vp
    have hin4 := inA (cl := cl4) Sl4 (j := (1 : Int32)) (by decide) (Nat.le_of_ble_eq_true rfl)
    have hat4 : cl4.slots[((1 : Int32)).toNatClampNeg]? = some (.ref pb) := atA Sl4 rfl
    refine Goal.to (B := T3.setTop (mkF m 42 #[.val (.ref va), .val (.long u1), .second, .val (.long qq), .second, .val (.int ww)] [(.ref pb)])) (fun tt kk => ?_) ?_
    · show Steps p.tables e below (T3.setTop (mkF m 34 #[.val (.ref va), .val (.long u1), .second, .val (.long qq), .second, .val (.int ww)] [(.int (1 : Int32)), (.ref vp)])) tt
      refine X3.aaload hx (j := (1 : Int32)) (v := (.ref pb)) (by rw [e3]; exact Ar4.1) (State.isArrayOf_alike hZ.alike Ar4.2.1) rfl Ar4.2.2 hin4 hat4 (g := (mkF m 34 #[.val (.ref va), .val (.long u1), .second, .val (.long qq), .second, .val (.int ww)] [(.int (1 : Int32)), (.ref vp)])) rfl rfl (hb hby d11_34) _ ?_
      show Steps p.tables e below (T3.setTop (mkF m 35 #[.val (.ref va), .val (.long u1), .second, .val (.long qq), .second, .val (.int ww)] [(.ref pb)])) tt
      refine XS.goto X3.here hx rfl (pc0 := 35) (pc' := 42) rfl (hb hby d11_35) (by decide) (by decide) ?_
      exact kk
    exact Goal.retV X3 hx Bd.returns rfl (Or.inr (Or.inr (Or.inr (Or.inr ⟨rfl, rfl, rfl⟩)))) (hb hby d11_42) hlk e3 ⟨rfl, N0, rfl⟩ (by decide) (by decide)
def QpoD (Z : State) (va : Addr) (vh : Addr) (vp : Addr) (pa : Addr) (pb : Addr) (vs : Addr) (hn : Nat) (f : Nat → Int64) (i : Nat) (u1 : Int64) (h0 : Heap) (n0 : Nat) (v : Option Value) (h : Heap) (L : List Loc) : Prop := ∃ oo : Int32, v = some (.int oo) ∧ Fr n0 L ∧ h = h0 ∧ oo.toInt = (((i - hn - 32768) : Nat) : Int)
set_option maxRecDepth 65536 in
set_option maxHeartbeats 40000000 in
theorem rmpoD (l : Launch) (Z : State) (a0 : Array Value) (hw : ∀ d ∈ tables_1, d.before a0 Z = true) (ws : List Jvm.Cond) (va : Addr) (vh : Addr) (vp : Addr) (pa : Addr) (pb : Addr) (vs : Addr) (hn : Nat) (f : Nat → Int64) (i : Nat) (u1 : Int64) (h0 : Heap) (n0 : Nat) (Z0 : n0 ≤ h0.size) (F_head_va : Fld Z h0 va "com/example/hedger/hedger/WordArray" "head" "[J" (.ref vh)) (V_vh : Ary Z h0 vh .long (own_l f 0 hn)) (hhn : hn ≤ 3) (hiu : u1.toInt = (i : Int)) (hib : i < hn + 32770) (hrg : hn + 32768 ≤ i ∧ i < hn + 32770) :
    MetFree l (⟨"com/example/hedger/hedger/WordArray", "pageOffsetOf", "(J)I"⟩ : MethodName) (head1 (Jvm.Cond.code (⟨"com/example/hedger/hedger/WordArray", "pageOffsetOf", "(J)I"⟩ : MethodName) prog_26_method_26_code 6 (some .int) :: ws) ({ frames := 0, cells := 0, slots := 0, locals := 0 } : Room)) (fun a U => a = #[(.ref va), (.long u1)] ∧ Z.Warmed39 U.vm ∧ U.heap = h0) (fun _ _ _ _ _ => True) (fun _ U o U' => ∃ v L, o = .returned v ∧ QpoD Z va vh vp pa pb vs hn f i u1 h0 n0 v U'.heap L ∧ FrameEnd U o U' L 0 0) := by
  refine MetFree.of_bodySF (plainFor_of_name pn_12) hisR ?_
  intro p e s m args below meth c s₁ Bd hml0 hP hK
  obtain ⟨rfl, hZ, hh⟩ := hP
  have hx := Bd.exec
  have hby := Bd.bytes
  have hml : c.maxLocals = 6 := hml0
  have hown : s.vm.findClass "com/example/hedger/hedger/WordArray" = some m.cls := findClass_of_methodNamed Bd.named
  have hnm := (name_of_methodNamed Bd.named Bd.method).1
  have X0 : Stand p l e ({ frames := 0, cells := 0, slots := 0, locals := 0 } : Room) s m #[(.ref va), (.long u1)] below meth c s₁ [] 0 0 := Stand.of_body Bd
  have e0 : s₁.heap = h0 := by rw [← hh, Bd.state]; rfl
  have N0 := Fr.nil n0
  have hlk : meth.locks = false := BodyLoose.notSynchronized Bd
  show Goal p e below s (QpoD Z va vh vp pa pb vs hn f i u1 h0 n0) 0 0 (s₁.setTop (entryFrame m #[(.ref va), (.long u1)] 6))
  refine Goal.to (B := s₁.setTop (mkF m 0 #[.val (.ref va), .val (.long u1), .second, .unset, .unset, .unset] [])) (fun tt kk => castTop (ef_12 m va u1 ) kk) ?_
  refine Goal.to (B := s₁.setTop (mkF m 2 #[.val (.ref va), .val (.long u1), .second, .unset, .unset, .unset] [(.ref va), (.long u1)])) (fun tt kk => ?_) ?_
  · show Steps p.tables e below (s₁.setTop (mkF m 0 #[.val (.ref va), .val (.long u1), .second, .unset, .unset, .unset] [])) tt
    refine XS.lloadN X0.here hx rfl (hb hby d12_0) rfl ?_
    show Steps p.tables e below (s₁.setTop (mkF m 1 #[.val (.ref va), .val (.long u1), .second, .unset, .unset, .unset] [(.long u1)])) tt
    refine XS.aloadN X0.here hx rfl (hb hby d12_1) rfl rfl ?_
    exact kk
  obtain ⟨T1, X1, e1, st1⟩ := getF X0 hx hZ hown (host := "") (Or.inl (hw _ (mw 15 rfl))) Via.refl e0 F_head_va (g := (mkF m 2 #[.val (.ref va), .val (.long u1), .second, .unset, .unset, .unset] [(.ref va), (.long u1)])) rfl rfl (hb hby d12_2)
  refine Goal.to (B := T1.setTop (mkF m 5 #[.val (.ref va), .val (.long u1), .second, .unset, .unset, .unset] [(.ref vh), (.long u1)])) st1 ?_
  obtain ⟨cl2, Ar2, Sl2⟩ := id V_vh
  have ln2 : cl2.slots.size.toInt32 = hn.toInt32 := lenA Sl2 (by rw [own_len])
  obtain ⟨qq, hqq⟩ : ∃ z : Int64, z = (u1 - (hn.toInt32.toInt64)) := ⟨_, rfl⟩
  refine Goal.to (B := T1.setTop (mkF m 9 #[.val (.ref va), .val (.long u1), .second, .val (.long qq), .second, .unset] [])) (fun tt kk => ?_) ?_
  · subst hqq
    show Steps p.tables e below (T1.setTop (mkF m 5 #[.val (.ref va), .val (.long u1), .second, .unset, .unset, .unset] [(.ref vh), (.long u1)])) tt
    refine X1.arraylength hx (by rw [e1]; exact Ar2.1) (State.isArrayOf_alike hZ.alike Ar2.2.1) (g := (mkF m 5 #[.val (.ref va), .val (.long u1), .second, .unset, .unset, .unset] [(.ref vh), (.long u1)])) rfl rfl (hb hby d12_5) _ ?_
    rw [ln2]
    show Steps p.tables e below (T1.setTop (mkF m 6 #[.val (.ref va), .val (.long u1), .second, .unset, .unset, .unset] [(.int hn.toInt32), (.long u1)])) tt
    refine XS.i2l X1.here hx rfl (hb hby d12_6) rfl ?_
    show Steps p.tables e below (T1.setTop (mkF m 7 #[.val (.ref va), .val (.long u1), .second, .unset, .unset, .unset] [(.long (hn.toInt32.toInt64)), (.long u1)])) tt
    refine XS.lsub X1.here hx rfl (hb hby d12_7) rfl ?_
    show Steps p.tables e below (T1.setTop (mkF m 8 #[.val (.ref va), .val (.long u1), .second, .unset, .unset, .unset] [(.long (u1 - (hn.toInt32.toInt64)))])) tt
    refine XS.lstoreN X1.here hx rfl (hb hby d12_8) rfl (l' := #[.val (.ref va), .val (.long u1), .second, .val (.long (u1 - (hn.toInt32.toInt64))), .second, .unset]) rfl ?_
    exact kk
  have hq2 := own_qq hhn hiu hib hqq (by omega)
  obtain ⟨ww, hww⟩ : ∃ z : Int32, z = ((qq.toInt32) &&& (32767 : Int32)) := ⟨_, rfl⟩
  refine Goal.to (B := T1.setTop (mkF m 17 #[.val (.ref va), .val (.long u1), .second, .val (.long qq), .second, .val (.int ww)] [])) (fun tt kk => ?_) ?_
  · subst hww
    show Steps p.tables e below (T1.setTop (mkF m 9 #[.val (.ref va), .val (.long u1), .second, .val (.long qq), .second, .unset] [])) tt
    refine XS.lloadN X1.here hx rfl (hb hby d12_9) rfl ?_
    show Steps p.tables e below (T1.setTop (mkF m 10 #[.val (.ref va), .val (.long u1), .second, .val (.long qq), .second, .unset] [(.long qq)])) tt
    refine XS.l2i X1.here hx rfl (hb hby d12_10) rfl ?_
    show Steps p.tables e below (T1.setTop (mkF m 11 #[.val (.ref va), .val (.long u1), .second, .val (.long qq), .second, .unset] [(.int (qq.toInt32))])) tt
    refine XS.sipush X1.here hx rfl (hb hby d12_11) ?_
    show Steps p.tables e below (T1.setTop (mkF m 14 #[.val (.ref va), .val (.long u1), .second, .val (.long qq), .second, .unset] [(.int (32767 : Int32)), (.int (qq.toInt32))])) tt
    refine XS.iand X1.here hx rfl (hb hby d12_14) rfl ?_
    show Steps p.tables e below (T1.setTop (mkF m 15 #[.val (.ref va), .val (.long u1), .second, .val (.long qq), .second, .unset] [(.int ((qq.toInt32) &&& (32767 : Int32)))])) tt
    refine XS.istore X1.here hx rfl (hb hby d12_15) rfl (l' := #[.val (.ref va), .val (.long u1), .second, .val (.long qq), .second, .val (.int ((qq.toInt32) &&& (32767 : Int32)))]) rfl ?_
    exact kk
  have hw2 := own_ww hq2 (by omega) hww
  refine Goal.to (B := T1.setTop (mkF m 44 #[.val (.ref va), .val (.long u1), .second, .val (.long qq), .second, .val (.int ww)] [(.int ww)])) (fun tt kk => ?_) ?_
  · show Steps p.tables e below (T1.setTop (mkF m 17 #[.val (.ref va), .val (.long u1), .second, .val (.long qq), .second, .val (.int ww)] [])) tt
    refine XS.iload X1.here hx rfl (hb hby d12_17) rfl ?_
    show Steps p.tables e below (T1.setTop (mkF m 19 #[.val (.ref va), .val (.long u1), .second, .val (.long qq), .second, .val (.int ww)] [(.int ww)])) tt
    refine XS.sipush X1.here hx rfl (hb hby d12_19) ?_
    show Steps p.tables e below (T1.setTop (mkF m 22 #[.val (.ref va), .val (.long u1), .second, .val (.long qq), .second, .val (.int ww)] [(.int (32765 : Int32)), (.int ww)])) tt
    refine XS.icmpNo X1.here hx rfl (hb hby d12_22) rfl (tlt (by rw [Int32.lt_iff_toInt_lt, hw2, show (32765 : Int32).toInt = 32765 from rfl]; omega : ww < (32765 : Int32))).2.1 ?_
    show Steps p.tables e below (T1.setTop (mkF m 25 #[.val (.ref va), .val (.long u1), .second, .val (.long qq), .second, .val (.int ww)] [])) tt
    refine XS.iload X1.here hx rfl (hb hby d12_25) rfl ?_
    show Steps p.tables e below (T1.setTop (mkF m 27 #[.val (.ref va), .val (.long u1), .second, .val (.long qq), .second, .val (.int ww)] [(.int ww)])) tt
    refine XS.goto X1.here hx rfl (pc0 := 27) (pc' := 44) rfl (hb hby d12_27) (by decide) (by decide) ?_
    exact kk
  exact Goal.retV X1 hx Bd.returns rfl (Or.inl ⟨rfl, Or.inl rfl, _, rfl⟩) (hb hby d12_44) hlk e1 ⟨ww, rfl, N0, rfl, (by rw [hw2]; omega)⟩ (by decide) (by decide)
theorem ef_8 (m : MethodId) (x0 : Addr) (x1 : Int64) (x2 : Int64)  : entryFrame m #[(.ref x0), (.long x1), (.long x2)] 5 = mkF m 0 #[.val (.ref x0), .val (.long x1), .second, .val (.long x2), .second] [] := by first | (simp [entryFrame, mkF, argsToLocals, Value.category]; done) | rfl
theorem pn_8 : plainName "com/example/hedger/hedger/WordArray" = true := by first | (simp [plainName, overriddenIn]; done) | decide +kernel
theorem d8_0 : decode prog_26_method_11_code 0 = .ok (.lload_n 1, 1) := by decide +kernel
theorem d8_1 : decode prog_26_method_11_code 1 = .ok (.aload_n 0, 1) := by decide +kernel
theorem d8_2 : decode prog_26_method_11_code 2 = .ok (.getfield 24, 3) := by decide +kernel
theorem d8_5 : decode prog_26_method_11_code 5 = .ok (.arraylength, 1) := by decide +kernel
theorem d8_6 : decode prog_26_method_11_code 6 = .ok (.i2l, 1) := by decide +kernel
theorem d8_7 : decode prog_26_method_11_code 7 = .ok (.lcmp, 1) := by decide +kernel
theorem d8_8 : decode prog_26_method_11_code 8 = .ok (.ifCond .ge 14, 3) := by decide +kernel
theorem d8_11 : decode prog_26_method_11_code 11 = .ok (.aload_n 0, 1) := by decide +kernel
theorem d8_12 : decode prog_26_method_11_code 12 = .ok (.getfield 24, 3) := by decide +kernel
theorem d8_15 : decode prog_26_method_11_code 15 = .ok (.lload_n 1, 1) := by decide +kernel
theorem d8_16 : decode prog_26_method_11_code 16 = .ok (.l2i, 1) := by decide +kernel
theorem d8_17 : decode prog_26_method_11_code 17 = .ok (.lload_n 3, 1) := by decide +kernel
theorem d8_18 : decode prog_26_method_11_code 18 = .ok (.lastore, 1) := by decide +kernel
theorem d8_19 : decode prog_26_method_11_code 19 = .ok (.goto 15, 3) := by decide +kernel
theorem d8_34 : decode prog_26_method_11_code 34 = .ok (.return_, 1) := by decide +kernel
theorem d8_22 : decode prog_26_method_11_code 22 = .ok (.aload_n 0, 1) := by decide +kernel
theorem d8_23 : decode prog_26_method_11_code 23 = .ok (.lload_n 1, 1) := by decide +kernel
theorem pd_6 : parseMethodDescriptor "(J)[J" = some ⟨[.long], some (.array .long)⟩ := by decide +kernel
theorem d8_24 : decode prog_26_method_11_code 24 = .ok (.invokevirtual 120, 3) := by decide +kernel
theorem d8_27 : decode prog_26_method_11_code 27 = .ok (.aload_n 0, 1) := by decide +kernel
theorem d8_28 : decode prog_26_method_11_code 28 = .ok (.lload_n 1, 1) := by decide +kernel
theorem d8_29 : decode prog_26_method_11_code 29 = .ok (.invokevirtual 123, 3) := by decide +kernel
theorem d8_32 : decode prog_26_method_11_code 32 = .ok (.lload_n 3, 1) := by decide +kernel
theorem d8_33 : decode prog_26_method_11_code 33 = .ok (.lastore, 1) := by decide +kernel
def Qsp (Z : State) (va : Addr) (vh : Addr) (vp : Addr) (pa : Addr) (pb : Addr) (vs : Addr) (hn : Nat) (f : Nat → Int64) (i : Nat) (u1 : Int64) (u2 : Int64) (h0 : Heap) (n0 : Nat) (v : Option Value) (h : Heap) (L : List Loc) : Prop := v = none ∧ Fr n0 L ∧ Keep h0 h [vh, pa, pb, vs] ∧ Ary Z h vh .long (own_l (own_upd f i u2) 0 hn) ∧ Ary Z h pa .long (own_l (own_upd f i u2) hn 32765) ∧ Ary Z h pb .long (own_l (own_upd f i u2) (hn + 32768) 2) ∧ Ary Z h vs .long (own_l (own_upd f i u2) (hn + 32765) 3)
set_option maxRecDepth 65536 in
set_option maxHeartbeats 40000000 in
theorem rmsp (l : Launch) (Z : State) (a0 : Array Value) (hw : ∀ d ∈ tables_1, d.before a0 Z = true) (ws : List Jvm.Cond) (va : Addr) (vh : Addr) (vp : Addr) (pa : Addr) (pb : Addr) (vs : Addr) (hn : Nat) (f : Nat → Int64) (i : Nat) (u1 : Int64) (u2 : Int64) (h0 : Heap) (n0 : Nat) (Z0 : n0 ≤ h0.size) (E_va : Exa Z h0 va "com/example/hedger/hedger/WordArray") (F_head_va : Fld Z h0 va "com/example/hedger/hedger/WordArray" "head" "[J" (.ref vh)) (F_pages_va : Fld Z h0 va "com/example/hedger/hedger/WordArray" "pages" "[[J" (.ref vp)) (F_spares_va : Fld Z h0 va "com/example/hedger/hedger/WordArray" "spares" "[J" (.ref vs)) (V_vh : Ary Z h0 vh .long (own_l f 0 hn)) (V_vp : Ary Z h0 vp (.array .long) [(.ref pa), (.ref pb)]) (V_pa : Ary Z h0 pa .long (own_l f hn 32765)) (V_pb : Ary Z h0 pb .long (own_l f (hn + 32768) 2)) (V_vs : Ary Z h0 vs .long (own_l f (hn + 32765) 3)) (g_vh : n0 ≤ vh) (g_pa : n0 ≤ pa) (g_pb : n0 ≤ pb) (g_vs : n0 ≤ vs) (ne_vh_vp : vh ≠ vp) (ne_vh_pa : vh ≠ pa) (ne_vh_pb : vh ≠ pb) (ne_vh_vs : vh ≠ vs) (ne_vp_pa : vp ≠ pa) (ne_vp_pb : vp ≠ pb) (ne_vp_vs : vp ≠ vs) (ne_pa_pb : pa ≠ pb) (ne_pa_vs : pa ≠ vs) (ne_pb_vs : pb ≠ vs) (ne_va_vh : va ≠ vh) (ne_va_pa : va ≠ pa) (ne_va_pb : va ≠ pb) (ne_va_vs : va ≠ vs) (hhn : hn ≤ 3) (hiu : u1.toInt = (i : Int)) (hib : i < hn + 32770) :
    MetFree l (⟨"com/example/hedger/hedger/WordArray", "setPlain", "(JJ)V"⟩ : MethodName) (head1 (Jvm.Cond.code (⟨"com/example/hedger/hedger/WordArray", "setPlain", "(JJ)V"⟩ : MethodName) prog_26_method_11_code 5 none :: ws) ({ frames := 1, cells := 0, slots := 0, locals := 18 } : Room)) (fun a U => a = #[(.ref va), (.long u1), (.long u2)] ∧ Z.Warmed39 U.vm ∧ U.heap = h0) (fun _ _ _ _ _ => True) (fun _ U o U' => ∃ v L, o = .returned v ∧ Qsp Z va vh vp pa pb vs hn f i u1 u2 h0 n0 v U'.heap L ∧ FrameEnd U o U' L 0 0) := by
  refine MetFree.of_bodySF (plainFor_of_name pn_8) hisR ?_
  intro p e s m args below meth c s₁ Bd hml0 hP hK
  obtain ⟨rfl, hZ, hh⟩ := hP
  have hx := Bd.exec
  have hby := Bd.bytes
  have hml : c.maxLocals = 5 := hml0
  have hown : s.vm.findClass "com/example/hedger/hedger/WordArray" = some m.cls := findClass_of_methodNamed Bd.named
  have hnm := (name_of_methodNamed Bd.named Bd.method).1
  have X0 : Stand p l e ({ frames := 1, cells := 0, slots := 0, locals := 18 } : Room) s m #[(.ref va), (.long u1), (.long u2)] below meth c s₁ [] 0 0 := Stand.of_body Bd
  have e0 : s₁.heap = h0 := by rw [← hh, Bd.state]; rfl
  have N0 := Fr.nil n0
  have hlk : meth.locks = false := BodyLoose.notSynchronized Bd
  show Goal p e below s (Qsp Z va vh vp pa pb vs hn f i u1 u2 h0 n0) 0 0 (s₁.setTop (entryFrame m #[(.ref va), (.long u1), (.long u2)] 5))
  refine Goal.to (B := s₁.setTop (mkF m 0 #[.val (.ref va), .val (.long u1), .second, .val (.long u2), .second] [])) (fun tt kk => castTop (ef_8 m va u1 u2 ) kk) ?_
  refine Goal.to (B := s₁.setTop (mkF m 2 #[.val (.ref va), .val (.long u1), .second, .val (.long u2), .second] [(.ref va), (.long u1)])) (fun tt kk => ?_) ?_
  · show Steps p.tables e below (s₁.setTop (mkF m 0 #[.val (.ref va), .val (.long u1), .second, .val (.long u2), .second] [])) tt
    refine XS.lloadN X0.here hx rfl (hb hby d8_0) rfl ?_
    show Steps p.tables e below (s₁.setTop (mkF m 1 #[.val (.ref va), .val (.long u1), .second, .val (.long u2), .second] [(.long u1)])) tt
    refine XS.aloadN X0.here hx rfl (hb hby d8_1) rfl rfl ?_
    exact kk
  obtain ⟨T1, X1, e1, st1⟩ := getF X0 hx hZ hown (host := "") (Or.inl (hw _ (mw 15 rfl))) Via.refl e0 F_head_va (g := (mkF m 2 #[.val (.ref va), .val (.long u1), .second, .val (.long u2), .second] [(.ref va), (.long u1)])) rfl rfl (hb hby d8_2)
  refine Goal.to (B := T1.setTop (mkF m 5 #[.val (.ref va), .val (.long u1), .second, .val (.long u2), .second] [(.ref vh), (.long u1)])) st1 ?_
  obtain ⟨cl2, Ar2, Sl2⟩ := id V_vh
  have ln2 : cl2.slots.size.toInt32 = hn.toInt32 := lenA Sl2 (by rw [own_len])
  refine Goal.to (B := T1.setTop (mkF m 8 #[.val (.ref va), .val (.long u1), .second, .val (.long u2), .second] [(.int (lcmpW u1 (hn.toInt32.toInt64)))])) (fun tt kk => ?_) ?_
  · show Steps p.tables e below (T1.setTop (mkF m 5 #[.val (.ref va), .val (.long u1), .second, .val (.long u2), .second] [(.ref vh), (.long u1)])) tt
    refine X1.arraylength hx (by rw [e1]; exact Ar2.1) (State.isArrayOf_alike hZ.alike Ar2.2.1) (g := (mkF m 5 #[.val (.ref va), .val (.long u1), .second, .val (.long u2), .second] [(.ref vh), (.long u1)])) rfl rfl (hb hby d8_5) _ ?_
    rw [ln2]
    show Steps p.tables e below (T1.setTop (mkF m 6 #[.val (.ref va), .val (.long u1), .second, .val (.long u2), .second] [(.int hn.toInt32), (.long u1)])) tt
    refine XS.i2l X1.here hx rfl (hb hby d8_6) rfl ?_
    show Steps p.tables e below (T1.setTop (mkF m 7 #[.val (.ref va), .val (.long u1), .second, .val (.long u2), .second] [(.long (hn.toInt32.toInt64)), (.long u1)])) tt
    refine XS.lcmp X1.here hx rfl (hb hby d8_7) rfl ?_
    exact kk
  by_cases hlt : (lcmpW u1 (hn.toInt32.toInt64)) < (0 : Int32)
  · have hlt' := (own_cmp hiu (own_hd hhn)).mp hlt
    refine Goal.to (B := T1.setTop (mkF m 12 #[.val (.ref va), .val (.long u1), .second, .val (.long u2), .second] [(.ref va)])) (fun tt kk => ?_) ?_
    · show Steps p.tables e below (T1.setTop (mkF m 8 #[.val (.ref va), .val (.long u1), .second, .val (.long u2), .second] [(.int (lcmpW u1 (hn.toInt32.toInt64)))])) tt
      refine XS.ifNo X1.here hx rfl (hb hby d8_8) rfl ((if0 _ _).trans (tlt hlt).2.1) ?_
      show Steps p.tables e below (T1.setTop (mkF m 11 #[.val (.ref va), .val (.long u1), .second, .val (.long u2), .second] [])) tt
      refine XS.aloadN X1.here hx rfl (hb hby d8_11) rfl rfl ?_
      exact kk
    obtain ⟨T3, X3, e3, st3⟩ := getF X1 hx hZ hown (host := "") (Or.inl (hw _ (mw 15 rfl))) Via.refl e1 F_head_va (g := (mkF m 12 #[.val (.ref va), .val (.long u1), .second, .val (.long u2), .second] [(.ref va)])) rfl rfl (hb hby d8_12)
    refine Goal.to (B := T3.setTop (mkF m 15 #[.val (.ref va), .val (.long u1), .second, .val (.long u2), .second] [(.ref vh)])) st3 ?_
    refine Goal.to (B := T3.setTop (mkF m 18 #[.val (.ref va), .val (.long u1), .second, .val (.long u2), .second] [(.long u2), (.int (u1.toInt32)), (.ref vh)])) (fun tt kk => ?_) ?_
    · show Steps p.tables e below (T3.setTop (mkF m 15 #[.val (.ref va), .val (.long u1), .second, .val (.long u2), .second] [(.ref vh)])) tt
      refine XS.lloadN X3.here hx rfl (hb hby d8_15) rfl ?_
      show Steps p.tables e below (T3.setTop (mkF m 16 #[.val (.ref va), .val (.long u1), .second, .val (.long u2), .second] [(.long u1), (.ref vh)])) tt
      refine XS.l2i X3.here hx rfl (hb hby d8_16) rfl ?_
      show Steps p.tables e below (T3.setTop (mkF m 17 #[.val (.ref va), .val (.long u1), .second, .val (.long u2), .second] [(.int (u1.toInt32)), (.ref vh)])) tt
      refine XS.lloadN X3.here hx rfl (hb hby d8_17) rfl ?_
      exact kk
    obtain ⟨cl4, Ar4, Sl4⟩ := id V_vh
    have hin4 := inA (cl := cl4) Sl4 (j := (u1.toInt32)) (own_idx (own_l2i hiu (by omega))).1 (by rw [(own_idx (own_l2i hiu (by omega))).2, own_len]; omega)
    obtain ⟨T4, h4, X4, e4, W4, st4⟩ := stJ X3 hx hZ e3 Ar4 (j := (u1.toInt32)) hin4 (g := (mkF m 18 #[.val (.ref va), .val (.long u1), .second, .val (.long u2), .second] [(.long u2), (.int (u1.toInt32)), (.ref vh)])) rfl rfl (hb hby d8_18)
    have V4 : Ary Z h4 vh .long (((own_l f 0 hn)).set (i) (.long u2)) := Ary.put Ar4 Sl4 W4 (own_idx (own_l2i hiu (by omega))).2
    have N4 := Fr.snoc X4 N0 g_vh
    refine Goal.to (B := T4.setTop (mkF m 19 #[.val (.ref va), .val (.long u1), .second, .val (.long u2), .second] [])) st4 ?_
    refine Goal.to (B := T4.setTop (mkF m 34 #[.val (.ref va), .val (.long u1), .second, .val (.long u2), .second] [])) (fun tt kk => ?_) ?_
    · show Steps p.tables e below (T4.setTop (mkF m 19 #[.val (.ref va), .val (.long u1), .second, .val (.long u2), .second] [])) tt
      refine XS.goto X4.here hx rfl (pc0 := 19) (pc' := 34) rfl (hb hby d8_19) (by decide) (by decide) ?_
      exact kk
    have f5 : Keep h0 h4 [vh, pa, pb, vs] := ((Keep.refl h0 [vh, pa, pb, vs]).wr W4 (Or.inl (List.mem_of_getElem? (i := 0) rfl)))
    have f6 : Ary Z h4 pa .long (own_l f hn 32765) := (V_pa.other W4 (Ne.symm ne_vh_pa))
    have f7 : Ary Z h4 pb .long (own_l f (hn + 32768) 2) := (V_pb.other W4 (Ne.symm ne_vh_pb))
    have f8 : Ary Z h4 vs .long (own_l f (hn + 32765) 3) := (V_vs.other W4 (Ne.symm ne_vh_vs))
    exact Goal.retN X4 hx Bd.returns (hb hby d8_34) hlk e4 ⟨rfl, N4, f5, (Ary.cast V4 (by first | exact own_set (by omega) (by omega) | exact own_same (fun k hk => by omega) : ((((own_l f 0 hn)).set (i) (.long u2)) : List Value) = (own_l (own_upd f i u2) 0 hn))), (Ary.cast f6 (by first | exact own_set (by omega) (by omega) | exact own_same (fun k hk => by omega) : ((own_l f hn 32765) : List Value) = (own_l (own_upd f i u2) hn 32765))), (Ary.cast f7 (by first | exact own_set (by omega) (by omega) | exact own_same (fun k hk => by omega) : ((own_l f (hn + 32768) 2) : List Value) = (own_l (own_upd f i u2) (hn + 32768) 2))), (Ary.cast f8 (by first | exact own_set (by omega) (by omega) | exact own_same (fun k hk => by omega) : ((own_l f (hn + 32765) 3) : List Value) = (own_l (own_upd f i u2) (hn + 32765) 3)))⟩ (by decide) (by decide)
  · have hge' : ¬ i < hn := fun q => hlt ((own_cmp hiu (own_hd hhn)).mpr q)
    refine Goal.to (B := T1.setTop (mkF m 22 #[.val (.ref va), .val (.long u1), .second, .val (.long u2), .second] [])) (fun tt kk => ?_) ?_
    · show Steps p.tables e below (T1.setTop (mkF m 8 #[.val (.ref va), .val (.long u1), .second, .val (.long u2), .second] [(.int (lcmpW u1 (hn.toInt32.toInt64)))])) tt
      refine XS.ifYes X1.here hx rfl (pc0 := 8) (pc' := 22) rfl (hb hby d8_8) rfl ((if0 _ _).trans (flt hlt).2.1) (by decide) (by decide) ?_
      exact kk
    rcases (show (hn ≤ i ∧ i < hn + 32765) ∨ (hn + 32765 ≤ i ∧ i < hn + 32768) ∨ (hn + 32768 ≤ i ∧ i < hn + 32770) by omega) with hrg | hrg | hrg
    · refine Goal.to (B := T1.setTop (mkF m 24 #[.val (.ref va), .val (.long u1), .second, .val (.long u2), .second] [(.long u1), (.ref va)])) (fun tt kk => ?_) ?_
      · show Steps p.tables e below (T1.setTop (mkF m 22 #[.val (.ref va), .val (.long u1), .second, .val (.long u2), .second] [])) tt
        refine XS.aloadN X1.here hx rfl (hb hby d8_22) rfl rfl ?_
        show Steps p.tables e below (T1.setTop (mkF m 23 #[.val (.ref va), .val (.long u1), .second, .val (.long u2), .second] [(.ref va)])) tt
        refine XS.lloadN X1.here hx rfl (hb hby d8_23) rfl ?_
        exact kk
      obtain ⟨cq9, q9, q9'⟩ := E_va.cell
      obtain ⟨_, _, ⟨T9, L9, k9, n9⟩, -, X9, ⟨Lc9, hQ9, l9, y9, z9⟩, st9⟩ := X1.privateBack hx (y := (⟨"com/example/hedger/hedger/WordArray", "pageArrayOf", "(J)[J"⟩ : MethodName)) hown (mvT hZ (hw _ (mw 59 rfl))) (mvT hZ (hw _ (mw 60 rfl))) (selP hZ (hw _ (mw 4 rfl)) (hw _ (mw 61 rfl)) (hw _ (mw 60 rfl)) (by decide)) (Cond.privateMethod_at (mvP hZ (hw _ (mw 61 rfl)) (args := #[]))) (mvT hZ (hw _ (mw 62 rfl))) (by decide) (backOf (W := 0) (rmpaB l Z a0 hw [] va vh vp pa pb vs hn f i u1 h0 n0 Z0 F_head_va F_pages_va F_spares_va V_vh V_vp (by assumption) (by assumption) (by assumption) (by assumption)) hZ (hw _ (mw 62 rfl)) (hw _ (mw 5 rfl)) (by decide) (by decide)) (g := (mkF m 24 #[.val (.ref va), .val (.long u1), .second, .val (.long u2), .second] [(.long u1), (.ref va)])) rfl (by rw [hml]; rfl) (Steps.refl _) (a := va) (by rw [e1]; exact q9) q9' (argsL := [(.long u1)]) (rest := []) (lenOf pd_6 rfl) rfl (by show 2 * 0 + _ ≤ _; exact Nat.le_of_eq rfl) (hb hby d8_24) (fun _ _ => ⟨rfl, e1, (by decide : 0 + 0 ≤ _), (by decide : 0 + 0 ≤ _)⟩)
      dsimp only [Pt.U, Pt.locs, Pt.cells, Pt.slots] at X9 l9 y9 z9 st9 hQ9
      subst l9 y9 z9
      obtain ⟨rfl, N9q, e9⟩ := hQ9
      have N9 := Fr.app N0 N9q
      refine Goal.tr (B := T9.setTop (mkF m 27 #[.val (.ref va), .val (.long u1), .second, .val (.long u2), .second] [(.ref pa)])) st9 ?_
      refine Goal.to (B := T9.setTop (mkF m 29 #[.val (.ref va), .val (.long u1), .second, .val (.long u2), .second] [(.long u1), (.ref va), (.ref pa)])) (fun tt kk => ?_) ?_
      · show Steps p.tables e below (T9.setTop (mkF m 27 #[.val (.ref va), .val (.long u1), .second, .val (.long u2), .second] [(.ref pa)])) tt
        refine XS.aloadN X9.here hx rfl (hb hby d8_27) rfl rfl ?_
        show Steps p.tables e below (T9.setTop (mkF m 28 #[.val (.ref va), .val (.long u1), .second, .val (.long u2), .second] [(.ref va), (.ref pa)])) tt
        refine XS.lloadN X9.here hx rfl (hb hby d8_28) rfl ?_
        exact kk
      obtain ⟨cq10, q10, q10'⟩ := E_va.cell
      obtain ⟨_, _, ⟨T10, L10, k10, n10⟩, -, X10, ⟨Lc10, hQ10, l10, y10, z10⟩, st10⟩ := X9.privateBack hx (y := (⟨"com/example/hedger/hedger/WordArray", "pageOffsetOf", "(J)I"⟩ : MethodName)) hown (mvT hZ (hw _ (mw 63 rfl))) (mvT hZ (hw _ (mw 64 rfl))) (selP hZ (hw _ (mw 4 rfl)) (hw _ (mw 65 rfl)) (hw _ (mw 64 rfl)) (by decide)) (Cond.privateMethod_at (mvP hZ (hw _ (mw 65 rfl)) (args := #[]))) (mvT hZ (hw _ (mw 66 rfl))) (by decide) (backOf (W := 1) (rmpoB l Z a0 hw [] va vh vp pa pb vs hn f i u1 h0 n0 Z0 F_head_va V_vh (by assumption) (by assumption) (by assumption) (by assumption)) hZ (hw _ (mw 66 rfl)) (hw _ (mw 5 rfl)) (by decide) (by decide)) (g := (mkF m 29 #[.val (.ref va), .val (.long u1), .second, .val (.long u2), .second] [(.long u1), (.ref va), (.ref pa)])) rfl (by rw [hml]; rfl) (Steps.refl _) (a := va) (by rw [e9]; exact q10) q10' (argsL := [(.long u1)]) (rest := [(.ref pa)]) (lenOf pd_2 rfl) rfl (by show 2 * 0 + _ ≤ _; exact Nat.le_of_eq rfl) (hb hby d8_29) (fun _ _ => ⟨rfl, e9, (by decide : 0 + 0 ≤ _), (by decide : 0 + 0 ≤ _)⟩)
      dsimp only [Pt.U, Pt.locs, Pt.cells, Pt.slots] at X10 l10 y10 z10 st10 hQ10
      subst l10 y10 z10
      obtain ⟨oo_10, rfl, N10q, e10, hoo_10⟩ := hQ10
      have N10 := Fr.app N9 N10q
      refine Goal.tr (B := T10.setTop (mkF m 32 #[.val (.ref va), .val (.long u1), .second, .val (.long u2), .second] [(.int oo_10), (.ref pa)])) st10 ?_
      refine Goal.to (B := T10.setTop (mkF m 33 #[.val (.ref va), .val (.long u1), .second, .val (.long u2), .second] [(.long u2), (.int oo_10), (.ref pa)])) (fun tt kk => ?_) ?_
      · show Steps p.tables e below (T10.setTop (mkF m 32 #[.val (.ref va), .val (.long u1), .second, .val (.long u2), .second] [(.int oo_10), (.ref pa)])) tt
        refine XS.lloadN X10.here hx rfl (hb hby d8_32) rfl ?_
        exact kk
      obtain ⟨cl11, Ar11, Sl11⟩ := id V_pa
      have hin11 := inA (cl := cl11) Sl11 (j := oo_10) (own_idx hoo_10).1 (by rw [(own_idx hoo_10).2, own_len]; omega)
      obtain ⟨T11, h11, X11, e11, W11, st11⟩ := stJ X10 hx hZ e10 Ar11 (j := oo_10) hin11 (g := (mkF m 33 #[.val (.ref va), .val (.long u1), .second, .val (.long u2), .second] [(.long u2), (.int oo_10), (.ref pa)])) rfl rfl (hb hby d8_33)
      have V11 : Ary Z h11 pa .long (((own_l f hn 32765)).set ((i - hn)) (.long u2)) := Ary.put Ar11 Sl11 W11 (own_idx hoo_10).2
      have N11 := Fr.snoc X11 N10 g_pa
      refine Goal.to (B := T11.setTop (mkF m 34 #[.val (.ref va), .val (.long u1), .second, .val (.long u2), .second] [])) st11 ?_
      have f12 : Keep h0 h11 [vh, pa, pb, vs] := ((Keep.refl h0 [vh, pa, pb, vs]).wr W11 (Or.inl (List.mem_of_getElem? (i := 1) rfl)))
      have f13 : Ary Z h11 vh .long (own_l f 0 hn) := (V_vh.other W11 ne_vh_pa)
      have f14 : Ary Z h11 pb .long (own_l f (hn + 32768) 2) := (V_pb.other W11 (Ne.symm ne_pa_pb))
      have f15 : Ary Z h11 vs .long (own_l f (hn + 32765) 3) := (V_vs.other W11 (Ne.symm ne_pa_vs))
      exact Goal.retN X11 hx Bd.returns (hb hby d8_34) hlk e11 ⟨rfl, N11, f12, (Ary.cast f13 (by first | exact own_set (by omega) (by omega) | exact own_same (fun k hk => by omega) : ((own_l f 0 hn) : List Value) = (own_l (own_upd f i u2) 0 hn))), (Ary.cast V11 (by first | exact own_set (by omega) (by omega) | exact own_same (fun k hk => by omega) : ((((own_l f hn 32765)).set ((i - hn)) (.long u2)) : List Value) = (own_l (own_upd f i u2) hn 32765))), (Ary.cast f14 (by first | exact own_set (by omega) (by omega) | exact own_same (fun k hk => by omega) : ((own_l f (hn + 32768) 2) : List Value) = (own_l (own_upd f i u2) (hn + 32768) 2))), (Ary.cast f15 (by first | exact own_set (by omega) (by omega) | exact own_same (fun k hk => by omega) : ((own_l f (hn + 32765) 3) : List Value) = (own_l (own_upd f i u2) (hn + 32765) 3)))⟩ (by decide) (by decide)
    · refine Goal.to (B := T1.setTop (mkF m 24 #[.val (.ref va), .val (.long u1), .second, .val (.long u2), .second] [(.long u1), (.ref va)])) (fun tt kk => ?_) ?_
      · show Steps p.tables e below (T1.setTop (mkF m 22 #[.val (.ref va), .val (.long u1), .second, .val (.long u2), .second] [])) tt
        refine XS.aloadN X1.here hx rfl (hb hby d8_22) rfl rfl ?_
        show Steps p.tables e below (T1.setTop (mkF m 23 #[.val (.ref va), .val (.long u1), .second, .val (.long u2), .second] [(.ref va)])) tt
        refine XS.lloadN X1.here hx rfl (hb hby d8_23) rfl ?_
        exact kk
      obtain ⟨cq16, q16, q16'⟩ := E_va.cell
      obtain ⟨_, _, ⟨T16, L16, k16, n16⟩, -, X16, ⟨Lc16, hQ16, l16, y16, z16⟩, st16⟩ := X1.privateBack hx (y := (⟨"com/example/hedger/hedger/WordArray", "pageArrayOf", "(J)[J"⟩ : MethodName)) hown (mvT hZ (hw _ (mw 59 rfl))) (mvT hZ (hw _ (mw 60 rfl))) (selP hZ (hw _ (mw 4 rfl)) (hw _ (mw 61 rfl)) (hw _ (mw 60 rfl)) (by decide)) (Cond.privateMethod_at (mvP hZ (hw _ (mw 61 rfl)) (args := #[]))) (mvT hZ (hw _ (mw 62 rfl))) (by decide) (backOf (W := 0) (rmpaC l Z a0 hw [] va vh vp pa pb vs hn f i u1 h0 n0 Z0 F_head_va F_pages_va F_spares_va V_vh V_vp (by assumption) (by assumption) (by assumption) (by assumption)) hZ (hw _ (mw 62 rfl)) (hw _ (mw 5 rfl)) (by decide) (by decide)) (g := (mkF m 24 #[.val (.ref va), .val (.long u1), .second, .val (.long u2), .second] [(.long u1), (.ref va)])) rfl (by rw [hml]; rfl) (Steps.refl _) (a := va) (by rw [e1]; exact q16) q16' (argsL := [(.long u1)]) (rest := []) (lenOf pd_6 rfl) rfl (by show 2 * 0 + _ ≤ _; exact Nat.le_of_eq rfl) (hb hby d8_24) (fun _ _ => ⟨rfl, e1, (by decide : 0 + 0 ≤ _), (by decide : 0 + 0 ≤ _)⟩)
      dsimp only [Pt.U, Pt.locs, Pt.cells, Pt.slots] at X16 l16 y16 z16 st16 hQ16
      subst l16 y16 z16
      obtain ⟨rfl, N16q, e16⟩ := hQ16
      have N16 := Fr.app N0 N16q
      refine Goal.tr (B := T16.setTop (mkF m 27 #[.val (.ref va), .val (.long u1), .second, .val (.long u2), .second] [(.ref vs)])) st16 ?_
      refine Goal.to (B := T16.setTop (mkF m 29 #[.val (.ref va), .val (.long u1), .second, .val (.long u2), .second] [(.long u1), (.ref va), (.ref vs)])) (fun tt kk => ?_) ?_
      · show Steps p.tables e below (T16.setTop (mkF m 27 #[.val (.ref va), .val (.long u1), .second, .val (.long u2), .second] [(.ref vs)])) tt
        refine XS.aloadN X16.here hx rfl (hb hby d8_27) rfl rfl ?_
        show Steps p.tables e below (T16.setTop (mkF m 28 #[.val (.ref va), .val (.long u1), .second, .val (.long u2), .second] [(.ref va), (.ref vs)])) tt
        refine XS.lloadN X16.here hx rfl (hb hby d8_28) rfl ?_
        exact kk
      obtain ⟨cq17, q17, q17'⟩ := E_va.cell
      obtain ⟨_, _, ⟨T17, L17, k17, n17⟩, -, X17, ⟨Lc17, hQ17, l17, y17, z17⟩, st17⟩ := X16.privateBack hx (y := (⟨"com/example/hedger/hedger/WordArray", "pageOffsetOf", "(J)I"⟩ : MethodName)) hown (mvT hZ (hw _ (mw 63 rfl))) (mvT hZ (hw _ (mw 64 rfl))) (selP hZ (hw _ (mw 4 rfl)) (hw _ (mw 65 rfl)) (hw _ (mw 64 rfl)) (by decide)) (Cond.privateMethod_at (mvP hZ (hw _ (mw 65 rfl)) (args := #[]))) (mvT hZ (hw _ (mw 66 rfl))) (by decide) (backOf (W := 1) (rmpoC l Z a0 hw [] va vh vp pa pb vs hn f i u1 h0 n0 Z0 F_head_va V_vh (by assumption) (by assumption) (by assumption) (by assumption)) hZ (hw _ (mw 66 rfl)) (hw _ (mw 5 rfl)) (by decide) (by decide)) (g := (mkF m 29 #[.val (.ref va), .val (.long u1), .second, .val (.long u2), .second] [(.long u1), (.ref va), (.ref vs)])) rfl (by rw [hml]; rfl) (Steps.refl _) (a := va) (by rw [e16]; exact q17) q17' (argsL := [(.long u1)]) (rest := [(.ref vs)]) (lenOf pd_2 rfl) rfl (by show 2 * 0 + _ ≤ _; exact Nat.le_of_eq rfl) (hb hby d8_29) (fun _ _ => ⟨rfl, e16, (by decide : 0 + 0 ≤ _), (by decide : 0 + 0 ≤ _)⟩)
      dsimp only [Pt.U, Pt.locs, Pt.cells, Pt.slots] at X17 l17 y17 z17 st17 hQ17
      subst l17 y17 z17
      obtain ⟨oo_17, rfl, N17q, e17, hoo_17⟩ := hQ17
      have N17 := Fr.app N16 N17q
      refine Goal.tr (B := T17.setTop (mkF m 32 #[.val (.ref va), .val (.long u1), .second, .val (.long u2), .second] [(.int oo_17), (.ref vs)])) st17 ?_
      refine Goal.to (B := T17.setTop (mkF m 33 #[.val (.ref va), .val (.long u1), .second, .val (.long u2), .second] [(.long u2), (.int oo_17), (.ref vs)])) (fun tt kk => ?_) ?_
      · show Steps p.tables e below (T17.setTop (mkF m 32 #[.val (.ref va), .val (.long u1), .second, .val (.long u2), .second] [(.int oo_17), (.ref vs)])) tt
        refine XS.lloadN X17.here hx rfl (hb hby d8_32) rfl ?_
        exact kk
      obtain ⟨cl18, Ar18, Sl18⟩ := id V_vs
      have hin18 := inA (cl := cl18) Sl18 (j := oo_17) (own_idx hoo_17).1 (by rw [(own_idx hoo_17).2, own_len]; omega)
      obtain ⟨T18, h18, X18, e18, W18, st18⟩ := stJ X17 hx hZ e17 Ar18 (j := oo_17) hin18 (g := (mkF m 33 #[.val (.ref va), .val (.long u1), .second, .val (.long u2), .second] [(.long u2), (.int oo_17), (.ref vs)])) rfl rfl (hb hby d8_33)
      have V18 : Ary Z h18 vs .long (((own_l f (hn + 32765) 3)).set ((i - hn - 32765)) (.long u2)) := Ary.put Ar18 Sl18 W18 (own_idx hoo_17).2
      have N18 := Fr.snoc X18 N17 g_vs
      refine Goal.to (B := T18.setTop (mkF m 34 #[.val (.ref va), .val (.long u1), .second, .val (.long u2), .second] [])) st18 ?_
      have f19 : Keep h0 h18 [vh, pa, pb, vs] := ((Keep.refl h0 [vh, pa, pb, vs]).wr W18 (Or.inl (List.mem_of_getElem? (i := 3) rfl)))
      have f20 : Ary Z h18 vh .long (own_l f 0 hn) := (V_vh.other W18 ne_vh_vs)
      have f21 : Ary Z h18 pa .long (own_l f hn 32765) := (V_pa.other W18 ne_pa_vs)
      have f22 : Ary Z h18 pb .long (own_l f (hn + 32768) 2) := (V_pb.other W18 ne_pb_vs)
      exact Goal.retN X18 hx Bd.returns (hb hby d8_34) hlk e18 ⟨rfl, N18, f19, (Ary.cast f20 (by first | exact own_set (by omega) (by omega) | exact own_same (fun k hk => by omega) : ((own_l f 0 hn) : List Value) = (own_l (own_upd f i u2) 0 hn))), (Ary.cast f21 (by first | exact own_set (by omega) (by omega) | exact own_same (fun k hk => by omega) : ((own_l f hn 32765) : List Value) = (own_l (own_upd f i u2) hn 32765))), (Ary.cast f22 (by first | exact own_set (by omega) (by omega) | exact own_same (fun k hk => by omega) : ((own_l f (hn + 32768) 2) : List Value) = (own_l (own_upd f i u2) (hn + 32768) 2))), (Ary.cast V18 (by first | exact own_set (by omega) (by omega) | exact own_same (fun k hk => by omega) : ((((own_l f (hn + 32765) 3)).set ((i - hn - 32765)) (.long u2)) : List Value) = (own_l (own_upd f i u2) (hn + 32765) 3)))⟩ (by decide) (by decide)
    · refine Goal.to (B := T1.setTop (mkF m 24 #[.val (.ref va), .val (.long u1), .second, .val (.long u2), .second] [(.long u1), (.ref va)])) (fun tt kk => ?_) ?_
      · show Steps p.tables e below (T1.setTop (mkF m 22 #[.val (.ref va), .val (.long u1), .second, .val (.long u2), .second] [])) tt
        refine XS.aloadN X1.here hx rfl (hb hby d8_22) rfl rfl ?_
        show Steps p.tables e below (T1.setTop (mkF m 23 #[.val (.ref va), .val (.long u1), .second, .val (.long u2), .second] [(.ref va)])) tt
        refine XS.lloadN X1.here hx rfl (hb hby d8_23) rfl ?_
        exact kk
      obtain ⟨cq23, q23, q23'⟩ := E_va.cell
      obtain ⟨_, _, ⟨T23, L23, k23, n23⟩, -, X23, ⟨Lc23, hQ23, l23, y23, z23⟩, st23⟩ := X1.privateBack hx (y := (⟨"com/example/hedger/hedger/WordArray", "pageArrayOf", "(J)[J"⟩ : MethodName)) hown (mvT hZ (hw _ (mw 59 rfl))) (mvT hZ (hw _ (mw 60 rfl))) (selP hZ (hw _ (mw 4 rfl)) (hw _ (mw 61 rfl)) (hw _ (mw 60 rfl)) (by decide)) (Cond.privateMethod_at (mvP hZ (hw _ (mw 61 rfl)) (args := #[]))) (mvT hZ (hw _ (mw 62 rfl))) (by decide) (backOf (W := 0) (rmpaD l Z a0 hw [] va vh vp pa pb vs hn f i u1 h0 n0 Z0 F_head_va F_pages_va F_spares_va V_vh V_vp (by assumption) (by assumption) (by assumption) (by assumption)) hZ (hw _ (mw 62 rfl)) (hw _ (mw 5 rfl)) (by decide) (by decide)) (g := (mkF m 24 #[.val (.ref va), .val (.long u1), .second, .val (.long u2), .second] [(.long u1), (.ref va)])) rfl (by rw [hml]; rfl) (Steps.refl _) (a := va) (by rw [e1]; exact q23) q23' (argsL := [(.long u1)]) (rest := []) (lenOf pd_6 rfl) rfl (by show 2 * 0 + _ ≤ _; exact Nat.le_of_eq rfl) (hb hby d8_24) (fun _ _ => ⟨rfl, e1, (by decide : 0 + 0 ≤ _), (by decide : 0 + 0 ≤ _)⟩)
      dsimp only [Pt.U, Pt.locs, Pt.cells, Pt.slots] at X23 l23 y23 z23 st23 hQ23
      subst l23 y23 z23
      obtain ⟨rfl, N23q, e23⟩ := hQ23
      have N23 := Fr.app N0 N23q
      refine Goal.tr (B := T23.setTop (mkF m 27 #[.val (.ref va), .val (.long u1), .second, .val (.long u2), .second] [(.ref pb)])) st23 ?_
      refine Goal.to (B := T23.setTop (mkF m 29 #[.val (.ref va), .val (.long u1), .second, .val (.long u2), .second] [(.long u1), (.ref va), (.ref pb)])) (fun tt kk => ?_) ?_
      · show Steps p.tables e below (T23.setTop (mkF m 27 #[.val (.ref va), .val (.long u1), .second, .val (.long u2), .second] [(.ref pb)])) tt
        refine XS.aloadN X23.here hx rfl (hb hby d8_27) rfl rfl ?_
        show Steps p.tables e below (T23.setTop (mkF m 28 #[.val (.ref va), .val (.long u1), .second, .val (.long u2), .second] [(.ref va), (.ref pb)])) tt
        refine XS.lloadN X23.here hx rfl (hb hby d8_28) rfl ?_
        exact kk
      obtain ⟨cq24, q24, q24'⟩ := E_va.cell
      obtain ⟨_, _, ⟨T24, L24, k24, n24⟩, -, X24, ⟨Lc24, hQ24, l24, y24, z24⟩, st24⟩ := X23.privateBack hx (y := (⟨"com/example/hedger/hedger/WordArray", "pageOffsetOf", "(J)I"⟩ : MethodName)) hown (mvT hZ (hw _ (mw 63 rfl))) (mvT hZ (hw _ (mw 64 rfl))) (selP hZ (hw _ (mw 4 rfl)) (hw _ (mw 65 rfl)) (hw _ (mw 64 rfl)) (by decide)) (Cond.privateMethod_at (mvP hZ (hw _ (mw 65 rfl)) (args := #[]))) (mvT hZ (hw _ (mw 66 rfl))) (by decide) (backOf (W := 1) (rmpoD l Z a0 hw [] va vh vp pa pb vs hn f i u1 h0 n0 Z0 F_head_va V_vh (by assumption) (by assumption) (by assumption) (by assumption)) hZ (hw _ (mw 66 rfl)) (hw _ (mw 5 rfl)) (by decide) (by decide)) (g := (mkF m 29 #[.val (.ref va), .val (.long u1), .second, .val (.long u2), .second] [(.long u1), (.ref va), (.ref pb)])) rfl (by rw [hml]; rfl) (Steps.refl _) (a := va) (by rw [e23]; exact q24) q24' (argsL := [(.long u1)]) (rest := [(.ref pb)]) (lenOf pd_2 rfl) rfl (by show 2 * 0 + _ ≤ _; exact Nat.le_of_eq rfl) (hb hby d8_29) (fun _ _ => ⟨rfl, e23, (by decide : 0 + 0 ≤ _), (by decide : 0 + 0 ≤ _)⟩)
      dsimp only [Pt.U, Pt.locs, Pt.cells, Pt.slots] at X24 l24 y24 z24 st24 hQ24
      subst l24 y24 z24
      obtain ⟨oo_24, rfl, N24q, e24, hoo_24⟩ := hQ24
      have N24 := Fr.app N23 N24q
      refine Goal.tr (B := T24.setTop (mkF m 32 #[.val (.ref va), .val (.long u1), .second, .val (.long u2), .second] [(.int oo_24), (.ref pb)])) st24 ?_
      refine Goal.to (B := T24.setTop (mkF m 33 #[.val (.ref va), .val (.long u1), .second, .val (.long u2), .second] [(.long u2), (.int oo_24), (.ref pb)])) (fun tt kk => ?_) ?_
      · show Steps p.tables e below (T24.setTop (mkF m 32 #[.val (.ref va), .val (.long u1), .second, .val (.long u2), .second] [(.int oo_24), (.ref pb)])) tt
        refine XS.lloadN X24.here hx rfl (hb hby d8_32) rfl ?_
        exact kk
      obtain ⟨cl25, Ar25, Sl25⟩ := id V_pb
      have hin25 := inA (cl := cl25) Sl25 (j := oo_24) (own_idx hoo_24).1 (by rw [(own_idx hoo_24).2, own_len]; omega)
      obtain ⟨T25, h25, X25, e25, W25, st25⟩ := stJ X24 hx hZ e24 Ar25 (j := oo_24) hin25 (g := (mkF m 33 #[.val (.ref va), .val (.long u1), .second, .val (.long u2), .second] [(.long u2), (.int oo_24), (.ref pb)])) rfl rfl (hb hby d8_33)
      have V25 : Ary Z h25 pb .long (((own_l f (hn + 32768) 2)).set ((i - hn - 32768)) (.long u2)) := Ary.put Ar25 Sl25 W25 (own_idx hoo_24).2
      have N25 := Fr.snoc X25 N24 g_pb
      refine Goal.to (B := T25.setTop (mkF m 34 #[.val (.ref va), .val (.long u1), .second, .val (.long u2), .second] [])) st25 ?_
      have f26 : Keep h0 h25 [vh, pa, pb, vs] := ((Keep.refl h0 [vh, pa, pb, vs]).wr W25 (Or.inl (List.mem_of_getElem? (i := 2) rfl)))
      have f27 : Ary Z h25 vh .long (own_l f 0 hn) := (V_vh.other W25 ne_vh_pb)
      have f28 : Ary Z h25 pa .long (own_l f hn 32765) := (V_pa.other W25 ne_pa_pb)
      have f29 : Ary Z h25 vs .long (own_l f (hn + 32765) 3) := (V_vs.other W25 (Ne.symm ne_pb_vs))
      exact Goal.retN X25 hx Bd.returns (hb hby d8_34) hlk e25 ⟨rfl, N25, f26, (Ary.cast f27 (by first | exact own_set (by omega) (by omega) | exact own_same (fun k hk => by omega) : ((own_l f 0 hn) : List Value) = (own_l (own_upd f i u2) 0 hn))), (Ary.cast f28 (by first | exact own_set (by omega) (by omega) | exact own_same (fun k hk => by omega) : ((own_l f hn 32765) : List Value) = (own_l (own_upd f i u2) hn 32765))), (Ary.cast V25 (by first | exact own_set (by omega) (by omega) | exact own_same (fun k hk => by omega) : ((((own_l f (hn + 32768) 2)).set ((i - hn - 32768)) (.long u2)) : List Value) = (own_l (own_upd f i u2) (hn + 32768) 2))), (Ary.cast f29 (by first | exact own_set (by omega) (by omega) | exact own_same (fun k hk => by omega) : ((own_l f (hn + 32765) 3) : List Value) = (own_l (own_upd f i u2) (hn + 32765) 3)))⟩ (by decide) (by decide)
theorem ef_10 (m : MethodId) (x0 : Addr) (x1 : Int64)  : entryFrame m #[(.ref x0), (.long x1)] 5 = mkF m 0 #[.val (.ref x0), .val (.long x1), .second, .unset, .unset] [] := by first | (simp [entryFrame, mkF, argsToLocals, Value.category]; done) | rfl
theorem pn_10 : plainName "com/example/hedger/hedger/WordArray" = true := by first | (simp [plainName, overriddenIn]; done) | decide +kernel
theorem d10_0 : decode prog_26_method_10_code 0 = .ok (.lload_n 1, 1) := by decide +kernel
theorem d10_1 : decode prog_26_method_10_code 1 = .ok (.aload_n 0, 1) := by decide +kernel
theorem d10_2 : decode prog_26_method_10_code 2 = .ok (.getfield 24, 3) := by decide +kernel
theorem d10_5 : decode prog_26_method_10_code 5 = .ok (.arraylength, 1) := by decide +kernel
theorem d10_6 : decode prog_26_method_10_code 6 = .ok (.i2l, 1) := by decide +kernel
theorem d10_7 : decode prog_26_method_10_code 7 = .ok (.lcmp, 1) := by decide +kernel
theorem d10_8 : decode prog_26_method_10_code 8 = .ok (.ifCond .ge 14, 3) := by decide +kernel
theorem d10_11 : decode prog_26_method_10_code 11 = .ok (.aload_n 0, 1) := by decide +kernel
theorem d10_12 : decode prog_26_method_10_code 12 = .ok (.getfield 24, 3) := by decide +kernel
theorem d10_15 : decode prog_26_method_10_code 15 = .ok (.lload_n 1, 1) := by decide +kernel
theorem d10_16 : decode prog_26_method_10_code 16 = .ok (.l2i, 1) := by decide +kernel
theorem d10_17 : decode prog_26_method_10_code 17 = .ok (.laload, 1) := by decide +kernel
theorem d10_18 : decode prog_26_method_10_code 18 = .ok (.lstore_n 3, 1) := by decide +kernel
theorem d10_19 : decode prog_26_method_10_code 19 = .ok (.goto 15, 3) := by decide +kernel
theorem d10_34 : decode prog_26_method_10_code 34 = .ok (.lload_n 3, 1) := by decide +kernel
theorem d10_35 : decode prog_26_method_10_code 35 = .ok (.lreturn, 1) := by decide +kernel
theorem d10_22 : decode prog_26_method_10_code 22 = .ok (.aload_n 0, 1) := by decide +kernel
theorem d10_23 : decode prog_26_method_10_code 23 = .ok (.lload_n 1, 1) := by decide +kernel
theorem d10_24 : decode prog_26_method_10_code 24 = .ok (.invokevirtual 120, 3) := by decide +kernel
theorem d10_27 : decode prog_26_method_10_code 27 = .ok (.aload_n 0, 1) := by decide +kernel
theorem d10_28 : decode prog_26_method_10_code 28 = .ok (.lload_n 1, 1) := by decide +kernel
theorem d10_29 : decode prog_26_method_10_code 29 = .ok (.invokevirtual 123, 3) := by decide +kernel
theorem d10_32 : decode prog_26_method_10_code 32 = .ok (.laload, 1) := by decide +kernel
theorem d10_33 : decode prog_26_method_10_code 33 = .ok (.lstore_n 3, 1) := by decide +kernel
def Qgp (Z : State) (va : Addr) (vh : Addr) (vp : Addr) (pa : Addr) (pb : Addr) (vs : Addr) (hn : Nat) (f : Nat → Int64) (i : Nat) (u1 : Int64) (h0 : Heap) (n0 : Nat) (v : Option Value) (h : Heap) (L : List Loc) : Prop := v = some (.long (f i)) ∧ Fr n0 L ∧ h = h0
set_option maxRecDepth 65536 in
set_option maxHeartbeats 40000000 in
theorem rmgp (l : Launch) (Z : State) (a0 : Array Value) (hw : ∀ d ∈ tables_1, d.before a0 Z = true) (ws : List Jvm.Cond) (va : Addr) (vh : Addr) (vp : Addr) (pa : Addr) (pb : Addr) (vs : Addr) (hn : Nat) (f : Nat → Int64) (i : Nat) (u1 : Int64) (h0 : Heap) (n0 : Nat) (Z0 : n0 ≤ h0.size) (E_va : Exa Z h0 va "com/example/hedger/hedger/WordArray") (F_head_va : Fld Z h0 va "com/example/hedger/hedger/WordArray" "head" "[J" (.ref vh)) (F_pages_va : Fld Z h0 va "com/example/hedger/hedger/WordArray" "pages" "[[J" (.ref vp)) (F_spares_va : Fld Z h0 va "com/example/hedger/hedger/WordArray" "spares" "[J" (.ref vs)) (V_vh : Ary Z h0 vh .long (own_l f 0 hn)) (V_vp : Ary Z h0 vp (.array .long) [(.ref pa), (.ref pb)]) (V_pa : Ary Z h0 pa .long (own_l f hn 32765)) (V_pb : Ary Z h0 pb .long (own_l f (hn + 32768) 2)) (V_vs : Ary Z h0 vs .long (own_l f (hn + 32765) 3)) (hhn : hn ≤ 3) (hiu : u1.toInt = (i : Int)) (hib : i < hn + 32770) :
    MetFree l (⟨"com/example/hedger/hedger/WordArray", "getPlain", "(J)J"⟩ : MethodName) (head1 (Jvm.Cond.code (⟨"com/example/hedger/hedger/WordArray", "getPlain", "(J)J"⟩ : MethodName) prog_26_method_10_code 5 (some .long) :: ws) ({ frames := 1, cells := 0, slots := 0, locals := 18 } : Room)) (fun a U => a = #[(.ref va), (.long u1)] ∧ Z.Warmed39 U.vm ∧ U.heap = h0) (fun _ _ _ _ _ => True) (fun _ U o U' => ∃ v L, o = .returned v ∧ Qgp Z va vh vp pa pb vs hn f i u1 h0 n0 v U'.heap L ∧ FrameEnd U o U' L 0 0) := by
  refine MetFree.of_bodySF (plainFor_of_name pn_10) hisR ?_
  intro p e s m args below meth c s₁ Bd hml0 hP hK
  obtain ⟨rfl, hZ, hh⟩ := hP
  have hx := Bd.exec
  have hby := Bd.bytes
  have hml : c.maxLocals = 5 := hml0
  have hown : s.vm.findClass "com/example/hedger/hedger/WordArray" = some m.cls := findClass_of_methodNamed Bd.named
  have hnm := (name_of_methodNamed Bd.named Bd.method).1
  have X0 : Stand p l e ({ frames := 1, cells := 0, slots := 0, locals := 18 } : Room) s m #[(.ref va), (.long u1)] below meth c s₁ [] 0 0 := Stand.of_body Bd
  have e0 : s₁.heap = h0 := by rw [← hh, Bd.state]; rfl
  have N0 := Fr.nil n0
  have hlk : meth.locks = false := BodyLoose.notSynchronized Bd
  show Goal p e below s (Qgp Z va vh vp pa pb vs hn f i u1 h0 n0) 0 0 (s₁.setTop (entryFrame m #[(.ref va), (.long u1)] 5))
  refine Goal.to (B := s₁.setTop (mkF m 0 #[.val (.ref va), .val (.long u1), .second, .unset, .unset] [])) (fun tt kk => castTop (ef_10 m va u1 ) kk) ?_
  refine Goal.to (B := s₁.setTop (mkF m 2 #[.val (.ref va), .val (.long u1), .second, .unset, .unset] [(.ref va), (.long u1)])) (fun tt kk => ?_) ?_
  · show Steps p.tables e below (s₁.setTop (mkF m 0 #[.val (.ref va), .val (.long u1), .second, .unset, .unset] [])) tt
    refine XS.lloadN X0.here hx rfl (hb hby d10_0) rfl ?_
    show Steps p.tables e below (s₁.setTop (mkF m 1 #[.val (.ref va), .val (.long u1), .second, .unset, .unset] [(.long u1)])) tt
    refine XS.aloadN X0.here hx rfl (hb hby d10_1) rfl rfl ?_
    exact kk
  obtain ⟨T1, X1, e1, st1⟩ := getF X0 hx hZ hown (host := "") (Or.inl (hw _ (mw 15 rfl))) Via.refl e0 F_head_va (g := (mkF m 2 #[.val (.ref va), .val (.long u1), .second, .unset, .unset] [(.ref va), (.long u1)])) rfl rfl (hb hby d10_2)
  refine Goal.to (B := T1.setTop (mkF m 5 #[.val (.ref va), .val (.long u1), .second, .unset, .unset] [(.ref vh), (.long u1)])) st1 ?_
  obtain ⟨cl2, Ar2, Sl2⟩ := id V_vh
  have ln2 : cl2.slots.size.toInt32 = hn.toInt32 := lenA Sl2 (by rw [own_len])
  refine Goal.to (B := T1.setTop (mkF m 8 #[.val (.ref va), .val (.long u1), .second, .unset, .unset] [(.int (lcmpW u1 (hn.toInt32.toInt64)))])) (fun tt kk => ?_) ?_
  · show Steps p.tables e below (T1.setTop (mkF m 5 #[.val (.ref va), .val (.long u1), .second, .unset, .unset] [(.ref vh), (.long u1)])) tt
    refine X1.arraylength hx (by rw [e1]; exact Ar2.1) (State.isArrayOf_alike hZ.alike Ar2.2.1) (g := (mkF m 5 #[.val (.ref va), .val (.long u1), .second, .unset, .unset] [(.ref vh), (.long u1)])) rfl rfl (hb hby d10_5) _ ?_
    rw [ln2]
    show Steps p.tables e below (T1.setTop (mkF m 6 #[.val (.ref va), .val (.long u1), .second, .unset, .unset] [(.int hn.toInt32), (.long u1)])) tt
    refine XS.i2l X1.here hx rfl (hb hby d10_6) rfl ?_
    show Steps p.tables e below (T1.setTop (mkF m 7 #[.val (.ref va), .val (.long u1), .second, .unset, .unset] [(.long (hn.toInt32.toInt64)), (.long u1)])) tt
    refine XS.lcmp X1.here hx rfl (hb hby d10_7) rfl ?_
    exact kk
  by_cases hlt : (lcmpW u1 (hn.toInt32.toInt64)) < (0 : Int32)
  · have hlt' := (own_cmp hiu (own_hd hhn)).mp hlt
    refine Goal.to (B := T1.setTop (mkF m 12 #[.val (.ref va), .val (.long u1), .second, .unset, .unset] [(.ref va)])) (fun tt kk => ?_) ?_
    · show Steps p.tables e below (T1.setTop (mkF m 8 #[.val (.ref va), .val (.long u1), .second, .unset, .unset] [(.int (lcmpW u1 (hn.toInt32.toInt64)))])) tt
      refine XS.ifNo X1.here hx rfl (hb hby d10_8) rfl ((if0 _ _).trans (tlt hlt).2.1) ?_
      show Steps p.tables e below (T1.setTop (mkF m 11 #[.val (.ref va), .val (.long u1), .second, .unset, .unset] [])) tt
      refine XS.aloadN X1.here hx rfl (hb hby d10_11) rfl rfl ?_
      exact kk
    obtain ⟨T3, X3, e3, st3⟩ := getF X1 hx hZ hown (host := "") (Or.inl (hw _ (mw 15 rfl))) Via.refl e1 F_head_va (g := (mkF m 12 #[.val (.ref va), .val (.long u1), .second, .unset, .unset] [(.ref va)])) rfl rfl (hb hby d10_12)
    refine Goal.to (B := T3.setTop (mkF m 15 #[.val (.ref va), .val (.long u1), .second, .unset, .unset] [(.ref vh)])) st3 ?_
    refine Goal.to (B := T3.setTop (mkF m 17 #[.val (.ref va), .val (.long u1), .second, .unset, .unset] [(.int (u1.toInt32)), (.ref vh)])) (fun tt kk => ?_) ?_
    · show Steps p.tables e below (T3.setTop (mkF m 15 #[.val (.ref va), .val (.long u1), .second, .unset, .unset] [(.ref vh)])) tt
      refine XS.lloadN X3.here hx rfl (hb hby d10_15) rfl ?_
      show Steps p.tables e below (T3.setTop (mkF m 16 #[.val (.ref va), .val (.long u1), .second, .unset, .unset] [(.long u1), (.ref vh)])) tt
      refine XS.l2i X3.here hx rfl (hb hby d10_16) rfl ?_
      exact kk
    obtain ⟨cl4, Ar4, Sl4⟩ := id V_vh
    have hin4 := inA (cl := cl4) Sl4 (j := (u1.toInt32)) (own_idx (own_l2i hiu (by omega))).1 (by rw [(own_idx (own_l2i hiu (by omega))).2, own_len]; omega)
    have hat4 : cl4.slots[((u1.toInt32)).toNatClampNeg]? = some (.long (f i)) := atA Sl4 (by rw [(own_idx (own_l2i hiu (by omega))).2]; exact own_get (by omega) (by omega))
    refine Goal.to (B := T3.setTop (mkF m 35 #[.val (.ref va), .val (.long u1), .second, .val (.long (f i)), .second] [(.long (f i))])) (fun tt kk => ?_) ?_
    · show Steps p.tables e below (T3.setTop (mkF m 17 #[.val (.ref va), .val (.long u1), .second, .unset, .unset] [(.int (u1.toInt32)), (.ref vh)])) tt
      refine X3.laload hx (j := (u1.toInt32)) (v := (.long (f i))) (by rw [e3]; exact Ar4.1) (State.isArrayOf_alike hZ.alike Ar4.2.1) Ar4.2.2 hin4 hat4 (g := (mkF m 17 #[.val (.ref va), .val (.long u1), .second, .unset, .unset] [(.int (u1.toInt32)), (.ref vh)])) rfl rfl (hb hby d10_17) _ ?_
      show Steps p.tables e below (T3.setTop (mkF m 18 #[.val (.ref va), .val (.long u1), .second, .unset, .unset] [(.long (f i))])) tt
      refine XS.lstoreN X3.here hx rfl (hb hby d10_18) rfl (l' := #[.val (.ref va), .val (.long u1), .second, .val (.long (f i)), .second]) rfl ?_
      show Steps p.tables e below (T3.setTop (mkF m 19 #[.val (.ref va), .val (.long u1), .second, .val (.long (f i)), .second] [])) tt
      refine XS.goto X3.here hx rfl (pc0 := 19) (pc' := 34) rfl (hb hby d10_19) (by decide) (by decide) ?_
      show Steps p.tables e below (T3.setTop (mkF m 34 #[.val (.ref va), .val (.long u1), .second, .val (.long (f i)), .second] [])) tt
      refine XS.lloadN X3.here hx rfl (hb hby d10_34) rfl ?_
      exact kk
    exact Goal.retV X3 hx Bd.returns rfl (Or.inr (Or.inl ⟨rfl, rfl, _, rfl⟩)) (hb hby d10_35) hlk e3 ⟨rfl, N0, rfl⟩ (by decide) (by decide)
  · have hge' : ¬ i < hn := fun q => hlt ((own_cmp hiu (own_hd hhn)).mpr q)
    refine Goal.to (B := T1.setTop (mkF m 22 #[.val (.ref va), .val (.long u1), .second, .unset, .unset] [])) (fun tt kk => ?_) ?_
    · show Steps p.tables e below (T1.setTop (mkF m 8 #[.val (.ref va), .val (.long u1), .second, .unset, .unset] [(.int (lcmpW u1 (hn.toInt32.toInt64)))])) tt
      refine XS.ifYes X1.here hx rfl (pc0 := 8) (pc' := 22) rfl (hb hby d10_8) rfl ((if0 _ _).trans (flt hlt).2.1) (by decide) (by decide) ?_
      exact kk
    rcases (show (hn ≤ i ∧ i < hn + 32765) ∨ (hn + 32765 ≤ i ∧ i < hn + 32768) ∨ (hn + 32768 ≤ i ∧ i < hn + 32770) by omega) with hrg | hrg | hrg
    · refine Goal.to (B := T1.setTop (mkF m 24 #[.val (.ref va), .val (.long u1), .second, .unset, .unset] [(.long u1), (.ref va)])) (fun tt kk => ?_) ?_
      · show Steps p.tables e below (T1.setTop (mkF m 22 #[.val (.ref va), .val (.long u1), .second, .unset, .unset] [])) tt
        refine XS.aloadN X1.here hx rfl (hb hby d10_22) rfl rfl ?_
        show Steps p.tables e below (T1.setTop (mkF m 23 #[.val (.ref va), .val (.long u1), .second, .unset, .unset] [(.ref va)])) tt
        refine XS.lloadN X1.here hx rfl (hb hby d10_23) rfl ?_
        exact kk
      obtain ⟨cq5, q5, q5'⟩ := E_va.cell
      obtain ⟨_, _, ⟨T5, L5, k5, n5⟩, -, X5, ⟨Lc5, hQ5, l5, y5, z5⟩, st5⟩ := X1.privateBack hx (y := (⟨"com/example/hedger/hedger/WordArray", "pageArrayOf", "(J)[J"⟩ : MethodName)) hown (mvT hZ (hw _ (mw 59 rfl))) (mvT hZ (hw _ (mw 60 rfl))) (selP hZ (hw _ (mw 4 rfl)) (hw _ (mw 61 rfl)) (hw _ (mw 60 rfl)) (by decide)) (Cond.privateMethod_at (mvP hZ (hw _ (mw 61 rfl)) (args := #[]))) (mvT hZ (hw _ (mw 62 rfl))) (by decide) (backOf (W := 0) (rmpaB l Z a0 hw [] va vh vp pa pb vs hn f i u1 h0 n0 Z0 F_head_va F_pages_va F_spares_va V_vh V_vp (by assumption) (by assumption) (by assumption) (by assumption)) hZ (hw _ (mw 62 rfl)) (hw _ (mw 5 rfl)) (by decide) (by decide)) (g := (mkF m 24 #[.val (.ref va), .val (.long u1), .second, .unset, .unset] [(.long u1), (.ref va)])) rfl (by rw [hml]; rfl) (Steps.refl _) (a := va) (by rw [e1]; exact q5) q5' (argsL := [(.long u1)]) (rest := []) (lenOf pd_6 rfl) rfl (by show 2 * 0 + _ ≤ _; exact Nat.le_of_eq rfl) (hb hby d10_24) (fun _ _ => ⟨rfl, e1, (by decide : 0 + 0 ≤ _), (by decide : 0 + 0 ≤ _)⟩)
      dsimp only [Pt.U, Pt.locs, Pt.cells, Pt.slots] at X5 l5 y5 z5 st5 hQ5
      subst l5 y5 z5
      obtain ⟨rfl, N5q, e5⟩ := hQ5
      have N5 := Fr.app N0 N5q
      refine Goal.tr (B := T5.setTop (mkF m 27 #[.val (.ref va), .val (.long u1), .second, .unset, .unset] [(.ref pa)])) st5 ?_
      refine Goal.to (B := T5.setTop (mkF m 29 #[.val (.ref va), .val (.long u1), .second, .unset, .unset] [(.long u1), (.ref va), (.ref pa)])) (fun tt kk => ?_) ?_
      · show Steps p.tables e below (T5.setTop (mkF m 27 #[.val (.ref va), .val (.long u1), .second, .unset, .unset] [(.ref pa)])) tt
        refine XS.aloadN X5.here hx rfl (hb hby d10_27) rfl rfl ?_
        show Steps p.tables e below (T5.setTop (mkF m 28 #[.val (.ref va), .val (.long u1), .second, .unset, .unset] [(.ref va), (.ref pa)])) tt
        refine XS.lloadN X5.here hx rfl (hb hby d10_28) rfl ?_
        exact kk
      obtain ⟨cq6, q6, q6'⟩ := E_va.cell
      obtain ⟨_, _, ⟨T6, L6, k6, n6⟩, -, X6, ⟨Lc6, hQ6, l6, y6, z6⟩, st6⟩ := X5.privateBack hx (y := (⟨"com/example/hedger/hedger/WordArray", "pageOffsetOf", "(J)I"⟩ : MethodName)) hown (mvT hZ (hw _ (mw 63 rfl))) (mvT hZ (hw _ (mw 64 rfl))) (selP hZ (hw _ (mw 4 rfl)) (hw _ (mw 65 rfl)) (hw _ (mw 64 rfl)) (by decide)) (Cond.privateMethod_at (mvP hZ (hw _ (mw 65 rfl)) (args := #[]))) (mvT hZ (hw _ (mw 66 rfl))) (by decide) (backOf (W := 1) (rmpoB l Z a0 hw [] va vh vp pa pb vs hn f i u1 h0 n0 Z0 F_head_va V_vh (by assumption) (by assumption) (by assumption) (by assumption)) hZ (hw _ (mw 66 rfl)) (hw _ (mw 5 rfl)) (by decide) (by decide)) (g := (mkF m 29 #[.val (.ref va), .val (.long u1), .second, .unset, .unset] [(.long u1), (.ref va), (.ref pa)])) rfl (by rw [hml]; rfl) (Steps.refl _) (a := va) (by rw [e5]; exact q6) q6' (argsL := [(.long u1)]) (rest := [(.ref pa)]) (lenOf pd_2 rfl) rfl (by show 2 * 0 + _ ≤ _; exact Nat.le_of_eq rfl) (hb hby d10_29) (fun _ _ => ⟨rfl, e5, (by decide : 0 + 0 ≤ _), (by decide : 0 + 0 ≤ _)⟩)
      dsimp only [Pt.U, Pt.locs, Pt.cells, Pt.slots] at X6 l6 y6 z6 st6 hQ6
      subst l6 y6 z6
      obtain ⟨oo_6, rfl, N6q, e6, hoo_6⟩ := hQ6
      have N6 := Fr.app N5 N6q
      refine Goal.tr (B := T6.setTop (mkF m 32 #[.val (.ref va), .val (.long u1), .second, .unset, .unset] [(.int oo_6), (.ref pa)])) st6 ?_
      obtain ⟨cl7, Ar7, Sl7⟩ := id V_pa
      have hin7 := inA (cl := cl7) Sl7 (j := oo_6) (own_idx hoo_6).1 (by rw [(own_idx hoo_6).2, own_len]; omega)
      have hat7 : cl7.slots[(oo_6).toNatClampNeg]? = some (.long (f i)) := atA Sl7 (by rw [(own_idx hoo_6).2]; exact own_get (by omega) (by omega))
      refine Goal.to (B := T6.setTop (mkF m 35 #[.val (.ref va), .val (.long u1), .second, .val (.long (f i)), .second] [(.long (f i))])) (fun tt kk => ?_) ?_
      · show Steps p.tables e below (T6.setTop (mkF m 32 #[.val (.ref va), .val (.long u1), .second, .unset, .unset] [(.int oo_6), (.ref pa)])) tt
        refine X6.laload hx (j := oo_6) (v := (.long (f i))) (by rw [e6]; exact Ar7.1) (State.isArrayOf_alike hZ.alike Ar7.2.1) Ar7.2.2 hin7 hat7 (g := (mkF m 32 #[.val (.ref va), .val (.long u1), .second, .unset, .unset] [(.int oo_6), (.ref pa)])) rfl rfl (hb hby d10_32) _ ?_
        show Steps p.tables e below (T6.setTop (mkF m 33 #[.val (.ref va), .val (.long u1), .second, .unset, .unset] [(.long (f i))])) tt
        refine XS.lstoreN X6.here hx rfl (hb hby d10_33) rfl (l' := #[.val (.ref va), .val (.long u1), .second, .val (.long (f i)), .second]) rfl ?_
        show Steps p.tables e below (T6.setTop (mkF m 34 #[.val (.ref va), .val (.long u1), .second, .val (.long (f i)), .second] [])) tt
        refine XS.lloadN X6.here hx rfl (hb hby d10_34) rfl ?_
        exact kk
      exact Goal.retV X6 hx Bd.returns rfl (Or.inr (Or.inl ⟨rfl, rfl, _, rfl⟩)) (hb hby d10_35) hlk e6 ⟨rfl, N6, rfl⟩ (by decide) (by decide)
    · refine Goal.to (B := T1.setTop (mkF m 24 #[.val (.ref va), .val (.long u1), .second, .unset, .unset] [(.long u1), (.ref va)])) (fun tt kk => ?_) ?_
      · show Steps p.tables e below (T1.setTop (mkF m 22 #[.val (.ref va), .val (.long u1), .second, .unset, .unset] [])) tt
        refine XS.aloadN X1.here hx rfl (hb hby d10_22) rfl rfl ?_
        show Steps p.tables e below (T1.setTop (mkF m 23 #[.val (.ref va), .val (.long u1), .second, .unset, .unset] [(.ref va)])) tt
        refine XS.lloadN X1.here hx rfl (hb hby d10_23) rfl ?_
        exact kk
      obtain ⟨cq8, q8, q8'⟩ := E_va.cell
      obtain ⟨_, _, ⟨T8, L8, k8, n8⟩, -, X8, ⟨Lc8, hQ8, l8, y8, z8⟩, st8⟩ := X1.privateBack hx (y := (⟨"com/example/hedger/hedger/WordArray", "pageArrayOf", "(J)[J"⟩ : MethodName)) hown (mvT hZ (hw _ (mw 59 rfl))) (mvT hZ (hw _ (mw 60 rfl))) (selP hZ (hw _ (mw 4 rfl)) (hw _ (mw 61 rfl)) (hw _ (mw 60 rfl)) (by decide)) (Cond.privateMethod_at (mvP hZ (hw _ (mw 61 rfl)) (args := #[]))) (mvT hZ (hw _ (mw 62 rfl))) (by decide) (backOf (W := 0) (rmpaC l Z a0 hw [] va vh vp pa pb vs hn f i u1 h0 n0 Z0 F_head_va F_pages_va F_spares_va V_vh V_vp (by assumption) (by assumption) (by assumption) (by assumption)) hZ (hw _ (mw 62 rfl)) (hw _ (mw 5 rfl)) (by decide) (by decide)) (g := (mkF m 24 #[.val (.ref va), .val (.long u1), .second, .unset, .unset] [(.long u1), (.ref va)])) rfl (by rw [hml]; rfl) (Steps.refl _) (a := va) (by rw [e1]; exact q8) q8' (argsL := [(.long u1)]) (rest := []) (lenOf pd_6 rfl) rfl (by show 2 * 0 + _ ≤ _; exact Nat.le_of_eq rfl) (hb hby d10_24) (fun _ _ => ⟨rfl, e1, (by decide : 0 + 0 ≤ _), (by decide : 0 + 0 ≤ _)⟩)
      dsimp only [Pt.U, Pt.locs, Pt.cells, Pt.slots] at X8 l8 y8 z8 st8 hQ8
      subst l8 y8 z8
      obtain ⟨rfl, N8q, e8⟩ := hQ8
      have N8 := Fr.app N0 N8q
      refine Goal.tr (B := T8.setTop (mkF m 27 #[.val (.ref va), .val (.long u1), .second, .unset, .unset] [(.ref vs)])) st8 ?_
      refine Goal.to (B := T8.setTop (mkF m 29 #[.val (.ref va), .val (.long u1), .second, .unset, .unset] [(.long u1), (.ref va), (.ref vs)])) (fun tt kk => ?_) ?_
      · show Steps p.tables e below (T8.setTop (mkF m 27 #[.val (.ref va), .val (.long u1), .second, .unset, .unset] [(.ref vs)])) tt
        refine XS.aloadN X8.here hx rfl (hb hby d10_27) rfl rfl ?_
        show Steps p.tables e below (T8.setTop (mkF m 28 #[.val (.ref va), .val (.long u1), .second, .unset, .unset] [(.ref va), (.ref vs)])) tt
        refine XS.lloadN X8.here hx rfl (hb hby d10_28) rfl ?_
        exact kk
      obtain ⟨cq9, q9, q9'⟩ := E_va.cell
      obtain ⟨_, _, ⟨T9, L9, k9, n9⟩, -, X9, ⟨Lc9, hQ9, l9, y9, z9⟩, st9⟩ := X8.privateBack hx (y := (⟨"com/example/hedger/hedger/WordArray", "pageOffsetOf", "(J)I"⟩ : MethodName)) hown (mvT hZ (hw _ (mw 63 rfl))) (mvT hZ (hw _ (mw 64 rfl))) (selP hZ (hw _ (mw 4 rfl)) (hw _ (mw 65 rfl)) (hw _ (mw 64 rfl)) (by decide)) (Cond.privateMethod_at (mvP hZ (hw _ (mw 65 rfl)) (args := #[]))) (mvT hZ (hw _ (mw 66 rfl))) (by decide) (backOf (W := 1) (rmpoC l Z a0 hw [] va vh vp pa pb vs hn f i u1 h0 n0 Z0 F_head_va V_vh (by assumption) (by assumption) (by assumption) (by assumption)) hZ (hw _ (mw 66 rfl)) (hw _ (mw 5 rfl)) (by decide) (by decide)) (g := (mkF m 29 #[.val (.ref va), .val (.long u1), .second, .unset, .unset] [(.long u1), (.ref va), (.ref vs)])) rfl (by rw [hml]; rfl) (Steps.refl _) (a := va) (by rw [e8]; exact q9) q9' (argsL := [(.long u1)]) (rest := [(.ref vs)]) (lenOf pd_2 rfl) rfl (by show 2 * 0 + _ ≤ _; exact Nat.le_of_eq rfl) (hb hby d10_29) (fun _ _ => ⟨rfl, e8, (by decide : 0 + 0 ≤ _), (by decide : 0 + 0 ≤ _)⟩)
      dsimp only [Pt.U, Pt.locs, Pt.cells, Pt.slots] at X9 l9 y9 z9 st9 hQ9
      subst l9 y9 z9
      obtain ⟨oo_9, rfl, N9q, e9, hoo_9⟩ := hQ9
      have N9 := Fr.app N8 N9q
      refine Goal.tr (B := T9.setTop (mkF m 32 #[.val (.ref va), .val (.long u1), .second, .unset, .unset] [(.int oo_9), (.ref vs)])) st9 ?_
      obtain ⟨cl10, Ar10, Sl10⟩ := id V_vs
      have hin10 := inA (cl := cl10) Sl10 (j := oo_9) (own_idx hoo_9).1 (by rw [(own_idx hoo_9).2, own_len]; omega)
      have hat10 : cl10.slots[(oo_9).toNatClampNeg]? = some (.long (f i)) := atA Sl10 (by rw [(own_idx hoo_9).2]; exact own_get (by omega) (by omega))
      refine Goal.to (B := T9.setTop (mkF m 35 #[.val (.ref va), .val (.long u1), .second, .val (.long (f i)), .second] [(.long (f i))])) (fun tt kk => ?_) ?_
      · show Steps p.tables e below (T9.setTop (mkF m 32 #[.val (.ref va), .val (.long u1), .second, .unset, .unset] [(.int oo_9), (.ref vs)])) tt
        refine X9.laload hx (j := oo_9) (v := (.long (f i))) (by rw [e9]; exact Ar10.1) (State.isArrayOf_alike hZ.alike Ar10.2.1) Ar10.2.2 hin10 hat10 (g := (mkF m 32 #[.val (.ref va), .val (.long u1), .second, .unset, .unset] [(.int oo_9), (.ref vs)])) rfl rfl (hb hby d10_32) _ ?_
        show Steps p.tables e below (T9.setTop (mkF m 33 #[.val (.ref va), .val (.long u1), .second, .unset, .unset] [(.long (f i))])) tt
        refine XS.lstoreN X9.here hx rfl (hb hby d10_33) rfl (l' := #[.val (.ref va), .val (.long u1), .second, .val (.long (f i)), .second]) rfl ?_
        show Steps p.tables e below (T9.setTop (mkF m 34 #[.val (.ref va), .val (.long u1), .second, .val (.long (f i)), .second] [])) tt
        refine XS.lloadN X9.here hx rfl (hb hby d10_34) rfl ?_
        exact kk
      exact Goal.retV X9 hx Bd.returns rfl (Or.inr (Or.inl ⟨rfl, rfl, _, rfl⟩)) (hb hby d10_35) hlk e9 ⟨rfl, N9, rfl⟩ (by decide) (by decide)
    · refine Goal.to (B := T1.setTop (mkF m 24 #[.val (.ref va), .val (.long u1), .second, .unset, .unset] [(.long u1), (.ref va)])) (fun tt kk => ?_) ?_
      · show Steps p.tables e below (T1.setTop (mkF m 22 #[.val (.ref va), .val (.long u1), .second, .unset, .unset] [])) tt
        refine XS.aloadN X1.here hx rfl (hb hby d10_22) rfl rfl ?_
        show Steps p.tables e below (T1.setTop (mkF m 23 #[.val (.ref va), .val (.long u1), .second, .unset, .unset] [(.ref va)])) tt
        refine XS.lloadN X1.here hx rfl (hb hby d10_23) rfl ?_
        exact kk
      obtain ⟨cq11, q11, q11'⟩ := E_va.cell
      obtain ⟨_, _, ⟨T11, L11, k11, n11⟩, -, X11, ⟨Lc11, hQ11, l11, y11, z11⟩, st11⟩ := X1.privateBack hx (y := (⟨"com/example/hedger/hedger/WordArray", "pageArrayOf", "(J)[J"⟩ : MethodName)) hown (mvT hZ (hw _ (mw 59 rfl))) (mvT hZ (hw _ (mw 60 rfl))) (selP hZ (hw _ (mw 4 rfl)) (hw _ (mw 61 rfl)) (hw _ (mw 60 rfl)) (by decide)) (Cond.privateMethod_at (mvP hZ (hw _ (mw 61 rfl)) (args := #[]))) (mvT hZ (hw _ (mw 62 rfl))) (by decide) (backOf (W := 0) (rmpaD l Z a0 hw [] va vh vp pa pb vs hn f i u1 h0 n0 Z0 F_head_va F_pages_va F_spares_va V_vh V_vp (by assumption) (by assumption) (by assumption) (by assumption)) hZ (hw _ (mw 62 rfl)) (hw _ (mw 5 rfl)) (by decide) (by decide)) (g := (mkF m 24 #[.val (.ref va), .val (.long u1), .second, .unset, .unset] [(.long u1), (.ref va)])) rfl (by rw [hml]; rfl) (Steps.refl _) (a := va) (by rw [e1]; exact q11) q11' (argsL := [(.long u1)]) (rest := []) (lenOf pd_6 rfl) rfl (by show 2 * 0 + _ ≤ _; exact Nat.le_of_eq rfl) (hb hby d10_24) (fun _ _ => ⟨rfl, e1, (by decide : 0 + 0 ≤ _), (by decide : 0 + 0 ≤ _)⟩)
      dsimp only [Pt.U, Pt.locs, Pt.cells, Pt.slots] at X11 l11 y11 z11 st11 hQ11
      subst l11 y11 z11
      obtain ⟨rfl, N11q, e11⟩ := hQ11
      have N11 := Fr.app N0 N11q
      refine Goal.tr (B := T11.setTop (mkF m 27 #[.val (.ref va), .val (.long u1), .second, .unset, .unset] [(.ref pb)])) st11 ?_
      refine Goal.to (B := T11.setTop (mkF m 29 #[.val (.ref va), .val (.long u1), .second, .unset, .unset] [(.long u1), (.ref va), (.ref pb)])) (fun tt kk => ?_) ?_
      · show Steps p.tables e below (T11.setTop (mkF m 27 #[.val (.ref va), .val (.long u1), .second, .unset, .unset] [(.ref pb)])) tt
        refine XS.aloadN X11.here hx rfl (hb hby d10_27) rfl rfl ?_
        show Steps p.tables e below (T11.setTop (mkF m 28 #[.val (.ref va), .val (.long u1), .second, .unset, .unset] [(.ref va), (.ref pb)])) tt
        refine XS.lloadN X11.here hx rfl (hb hby d10_28) rfl ?_
        exact kk
      obtain ⟨cq12, q12, q12'⟩ := E_va.cell
      obtain ⟨_, _, ⟨T12, L12, k12, n12⟩, -, X12, ⟨Lc12, hQ12, l12, y12, z12⟩, st12⟩ := X11.privateBack hx (y := (⟨"com/example/hedger/hedger/WordArray", "pageOffsetOf", "(J)I"⟩ : MethodName)) hown (mvT hZ (hw _ (mw 63 rfl))) (mvT hZ (hw _ (mw 64 rfl))) (selP hZ (hw _ (mw 4 rfl)) (hw _ (mw 65 rfl)) (hw _ (mw 64 rfl)) (by decide)) (Cond.privateMethod_at (mvP hZ (hw _ (mw 65 rfl)) (args := #[]))) (mvT hZ (hw _ (mw 66 rfl))) (by decide) (backOf (W := 1) (rmpoD l Z a0 hw [] va vh vp pa pb vs hn f i u1 h0 n0 Z0 F_head_va V_vh (by assumption) (by assumption) (by assumption) (by assumption)) hZ (hw _ (mw 66 rfl)) (hw _ (mw 5 rfl)) (by decide) (by decide)) (g := (mkF m 29 #[.val (.ref va), .val (.long u1), .second, .unset, .unset] [(.long u1), (.ref va), (.ref pb)])) rfl (by rw [hml]; rfl) (Steps.refl _) (a := va) (by rw [e11]; exact q12) q12' (argsL := [(.long u1)]) (rest := [(.ref pb)]) (lenOf pd_2 rfl) rfl (by show 2 * 0 + _ ≤ _; exact Nat.le_of_eq rfl) (hb hby d10_29) (fun _ _ => ⟨rfl, e11, (by decide : 0 + 0 ≤ _), (by decide : 0 + 0 ≤ _)⟩)
      dsimp only [Pt.U, Pt.locs, Pt.cells, Pt.slots] at X12 l12 y12 z12 st12 hQ12
      subst l12 y12 z12
      obtain ⟨oo_12, rfl, N12q, e12, hoo_12⟩ := hQ12
      have N12 := Fr.app N11 N12q
      refine Goal.tr (B := T12.setTop (mkF m 32 #[.val (.ref va), .val (.long u1), .second, .unset, .unset] [(.int oo_12), (.ref pb)])) st12 ?_
      obtain ⟨cl13, Ar13, Sl13⟩ := id V_pb
      have hin13 := inA (cl := cl13) Sl13 (j := oo_12) (own_idx hoo_12).1 (by rw [(own_idx hoo_12).2, own_len]; omega)
      have hat13 : cl13.slots[(oo_12).toNatClampNeg]? = some (.long (f i)) := atA Sl13 (by rw [(own_idx hoo_12).2]; exact own_get (by omega) (by omega))
      refine Goal.to (B := T12.setTop (mkF m 35 #[.val (.ref va), .val (.long u1), .second, .val (.long (f i)), .second] [(.long (f i))])) (fun tt kk => ?_) ?_
      · show Steps p.tables e below (T12.setTop (mkF m 32 #[.val (.ref va), .val (.long u1), .second, .unset, .unset] [(.int oo_12), (.ref pb)])) tt
        refine X12.laload hx (j := oo_12) (v := (.long (f i))) (by rw [e12]; exact Ar13.1) (State.isArrayOf_alike hZ.alike Ar13.2.1) Ar13.2.2 hin13 hat13 (g := (mkF m 32 #[.val (.ref va), .val (.long u1), .second, .unset, .unset] [(.int oo_12), (.ref pb)])) rfl rfl (hb hby d10_32) _ ?_
        show Steps p.tables e below (T12.setTop (mkF m 33 #[.val (.ref va), .val (.long u1), .second, .unset, .unset] [(.long (f i))])) tt
        refine XS.lstoreN X12.here hx rfl (hb hby d10_33) rfl (l' := #[.val (.ref va), .val (.long u1), .second, .val (.long (f i)), .second]) rfl ?_
        show Steps p.tables e below (T12.setTop (mkF m 34 #[.val (.ref va), .val (.long u1), .second, .val (.long (f i)), .second] [])) tt
        refine XS.lloadN X12.here hx rfl (hb hby d10_34) rfl ?_
        exact kk
      exact Goal.retV X12 hx Bd.returns rfl (Or.inr (Or.inl ⟨rfl, rfl, _, rfl⟩)) (hb hby d10_35) hlk e12 ⟨rfl, N12, rfl⟩ (by decide) (by decide)
theorem ef_9 (m : MethodId) (x0 : Addr) (x1 : Int64) (x2 : Int64)  : entryFrame m #[(.ref x0), (.long x1), (.long x2)] 9 = mkF m 0 #[.val (.ref x0), .val (.long x1), .second, .val (.long x2), .second, .unset, .unset, .unset, .unset] [] := by first | (simp [entryFrame, mkF, argsToLocals, Value.category]; done) | rfl
theorem pn_9 : plainName "com/example/hedger/hedger/WordArray" = true := by first | (simp [plainName, overriddenIn]; done) | decide +kernel
theorem d9_0 : decode prog_26_method_13_code 0 = .ok (.lload_n 1, 1) := by decide +kernel
theorem d9_1 : decode prog_26_method_13_code 1 = .ok (.aload_n 0, 1) := by decide +kernel
theorem d9_2 : decode prog_26_method_13_code 2 = .ok (.getfield 24, 3) := by decide +kernel
theorem d9_5 : decode prog_26_method_13_code 5 = .ok (.arraylength, 1) := by decide +kernel
theorem d9_6 : decode prog_26_method_13_code 6 = .ok (.i2l, 1) := by decide +kernel
theorem d9_7 : decode prog_26_method_13_code 7 = .ok (.lcmp, 1) := by decide +kernel
theorem d9_8 : decode prog_26_method_13_code 8 = .ok (.ifCond .ge 26, 3) := by decide +kernel
theorem d9_11 : decode prog_26_method_13_code 11 = .ok (.aload_n 0, 1) := by decide +kernel
theorem d9_12 : decode prog_26_method_13_code 12 = .ok (.getfield 24, 3) := by decide +kernel
theorem d9_15 : decode prog_26_method_13_code 15 = .ok (.lload_n 1, 1) := by decide +kernel
theorem d9_16 : decode prog_26_method_13_code 16 = .ok (.l2i, 1) := by decide +kernel
theorem d9_17 : decode prog_26_method_13_code 17 = .ok (.laload, 1) := by decide +kernel
theorem d9_18 : decode prog_26_method_13_code 18 = .ok (.lstore 5, 2) := by decide +kernel
theorem d9_20 : decode prog_26_method_13_code 20 = .ok (.aload_n 0, 1) := by decide +kernel
theorem d9_21 : decode prog_26_method_13_code 21 = .ok (.getfield 24, 3) := by decide +kernel
theorem d9_24 : decode prog_26_method_13_code 24 = .ok (.lload_n 1, 1) := by decide +kernel
theorem d9_25 : decode prog_26_method_13_code 25 = .ok (.l2i, 1) := by decide +kernel
theorem d9_26 : decode prog_26_method_13_code 26 = .ok (.lload 5, 2) := by decide +kernel
theorem d9_28 : decode prog_26_method_13_code 28 = .ok (.lload_n 3, 1) := by decide +kernel
theorem d9_29 : decode prog_26_method_13_code 29 = .ok (.lor, 1) := by decide +kernel
theorem d9_30 : decode prog_26_method_13_code 30 = .ok (.lastore, 1) := by decide +kernel
theorem d9_31 : decode prog_26_method_13_code 31 = .ok (.goto 33, 3) := by decide +kernel
theorem d9_64 : decode prog_26_method_13_code 64 = .ok (.lload 5, 2) := by decide +kernel
theorem d9_66 : decode prog_26_method_13_code 66 = .ok (.lreturn, 1) := by decide +kernel
theorem d9_34 : decode prog_26_method_13_code 34 = .ok (.aload_n 0, 1) := by decide +kernel
theorem d9_35 : decode prog_26_method_13_code 35 = .ok (.lload_n 1, 1) := by decide +kernel
theorem d9_36 : decode prog_26_method_13_code 36 = .ok (.invokevirtual 120, 3) := by decide +kernel
theorem d9_39 : decode prog_26_method_13_code 39 = .ok (.astore 7, 2) := by decide +kernel
theorem d9_41 : decode prog_26_method_13_code 41 = .ok (.aload_n 0, 1) := by decide +kernel
theorem d9_42 : decode prog_26_method_13_code 42 = .ok (.lload_n 1, 1) := by decide +kernel
theorem d9_43 : decode prog_26_method_13_code 43 = .ok (.invokevirtual 123, 3) := by decide +kernel
theorem d9_46 : decode prog_26_method_13_code 46 = .ok (.istore 8, 2) := by decide +kernel
theorem d9_48 : decode prog_26_method_13_code 48 = .ok (.aload 7, 2) := by decide +kernel
theorem d9_50 : decode prog_26_method_13_code 50 = .ok (.iload 8, 2) := by decide +kernel
theorem d9_52 : decode prog_26_method_13_code 52 = .ok (.laload, 1) := by decide +kernel
theorem d9_53 : decode prog_26_method_13_code 53 = .ok (.lstore 5, 2) := by decide +kernel
theorem d9_55 : decode prog_26_method_13_code 55 = .ok (.aload 7, 2) := by decide +kernel
theorem d9_57 : decode prog_26_method_13_code 57 = .ok (.iload 8, 2) := by decide +kernel
theorem d9_59 : decode prog_26_method_13_code 59 = .ok (.lload 5, 2) := by decide +kernel
theorem d9_61 : decode prog_26_method_13_code 61 = .ok (.lload_n 3, 1) := by decide +kernel
theorem d9_62 : decode prog_26_method_13_code 62 = .ok (.lor, 1) := by decide +kernel
theorem d9_63 : decode prog_26_method_13_code 63 = .ok (.lastore, 1) := by decide +kernel
def Qgo (Z : State) (va : Addr) (vh : Addr) (vp : Addr) (pa : Addr) (pb : Addr) (vs : Addr) (hn : Nat) (f : Nat → Int64) (i : Nat) (u1 : Int64) (u2 : Int64) (h0 : Heap) (n0 : Nat) (v : Option Value) (h : Heap) (L : List Loc) : Prop := v = some (.long (f i)) ∧ Fr n0 L ∧ Keep h0 h [vh, pa, pb, vs] ∧ Ary Z h vh .long (own_l (own_upd f i (f i ||| u2)) 0 hn) ∧ Ary Z h pa .long (own_l (own_upd f i (f i ||| u2)) hn 32765) ∧ Ary Z h pb .long (own_l (own_upd f i (f i ||| u2)) (hn + 32768) 2) ∧ Ary Z h vs .long (own_l (own_upd f i (f i ||| u2)) (hn + 32765) 3)
set_option maxRecDepth 65536 in
set_option maxHeartbeats 40000000 in
theorem rmgo (l : Launch) (Z : State) (a0 : Array Value) (hw : ∀ d ∈ tables_1, d.before a0 Z = true) (ws : List Jvm.Cond) (va : Addr) (vh : Addr) (vp : Addr) (pa : Addr) (pb : Addr) (vs : Addr) (hn : Nat) (f : Nat → Int64) (i : Nat) (u1 : Int64) (u2 : Int64) (h0 : Heap) (n0 : Nat) (Z0 : n0 ≤ h0.size) (E_va : Exa Z h0 va "com/example/hedger/hedger/WordArray") (F_head_va : Fld Z h0 va "com/example/hedger/hedger/WordArray" "head" "[J" (.ref vh)) (F_pages_va : Fld Z h0 va "com/example/hedger/hedger/WordArray" "pages" "[[J" (.ref vp)) (F_spares_va : Fld Z h0 va "com/example/hedger/hedger/WordArray" "spares" "[J" (.ref vs)) (V_vh : Ary Z h0 vh .long (own_l f 0 hn)) (V_vp : Ary Z h0 vp (.array .long) [(.ref pa), (.ref pb)]) (V_pa : Ary Z h0 pa .long (own_l f hn 32765)) (V_pb : Ary Z h0 pb .long (own_l f (hn + 32768) 2)) (V_vs : Ary Z h0 vs .long (own_l f (hn + 32765) 3)) (g_vh : n0 ≤ vh) (g_pa : n0 ≤ pa) (g_pb : n0 ≤ pb) (g_vs : n0 ≤ vs) (ne_vh_vp : vh ≠ vp) (ne_vh_pa : vh ≠ pa) (ne_vh_pb : vh ≠ pb) (ne_vh_vs : vh ≠ vs) (ne_vp_pa : vp ≠ pa) (ne_vp_pb : vp ≠ pb) (ne_vp_vs : vp ≠ vs) (ne_pa_pb : pa ≠ pb) (ne_pa_vs : pa ≠ vs) (ne_pb_vs : pb ≠ vs) (ne_va_vh : va ≠ vh) (ne_va_pa : va ≠ pa) (ne_va_pb : va ≠ pb) (ne_va_vs : va ≠ vs) (hhn : hn ≤ 3) (hiu : u1.toInt = (i : Int)) (hib : i < hn + 32770) :
    MetFree l (⟨"com/example/hedger/hedger/WordArray", "getAndBitwiseOrAlone", "(JJ)J"⟩ : MethodName) (head1 (Jvm.Cond.code (⟨"com/example/hedger/hedger/WordArray", "getAndBitwiseOrAlone", "(JJ)J"⟩ : MethodName) prog_26_method_13_code 9 (some .long) :: ws) ({ frames := 1, cells := 0, slots := 0, locals := 17 } : Room)) (fun a U => a = #[(.ref va), (.long u1), (.long u2)] ∧ Z.Warmed39 U.vm ∧ U.heap = h0) (fun _ _ _ _ _ => True) (fun _ U o U' => ∃ v L, o = .returned v ∧ Qgo Z va vh vp pa pb vs hn f i u1 u2 h0 n0 v U'.heap L ∧ FrameEnd U o U' L 0 0) := by
  refine MetFree.of_bodySF (plainFor_of_name pn_9) hisR ?_
  intro p e s m args below meth c s₁ Bd hml0 hP hK
  obtain ⟨rfl, hZ, hh⟩ := hP
  have hx := Bd.exec
  have hby := Bd.bytes
  have hml : c.maxLocals = 9 := hml0
  have hown : s.vm.findClass "com/example/hedger/hedger/WordArray" = some m.cls := findClass_of_methodNamed Bd.named
  have hnm := (name_of_methodNamed Bd.named Bd.method).1
  have X0 : Stand p l e ({ frames := 1, cells := 0, slots := 0, locals := 17 } : Room) s m #[(.ref va), (.long u1), (.long u2)] below meth c s₁ [] 0 0 := Stand.of_body Bd
  have e0 : s₁.heap = h0 := by rw [← hh, Bd.state]; rfl
  have N0 := Fr.nil n0
  have hlk : meth.locks = false := BodyLoose.notSynchronized Bd
  show Goal p e below s (Qgo Z va vh vp pa pb vs hn f i u1 u2 h0 n0) 0 0 (s₁.setTop (entryFrame m #[(.ref va), (.long u1), (.long u2)] 9))
  refine Goal.to (B := s₁.setTop (mkF m 0 #[.val (.ref va), .val (.long u1), .second, .val (.long u2), .second, .unset, .unset, .unset, .unset] [])) (fun tt kk => castTop (ef_9 m va u1 u2 ) kk) ?_
  refine Goal.to (B := s₁.setTop (mkF m 2 #[.val (.ref va), .val (.long u1), .second, .val (.long u2), .second, .unset, .unset, .unset, .unset] [(.ref va), (.long u1)])) (fun tt kk => ?_) ?_
  · show Steps p.tables e below (s₁.setTop (mkF m 0 #[.val (.ref va), .val (.long u1), .second, .val (.long u2), .second, .unset, .unset, .unset, .unset] [])) tt
    refine XS.lloadN X0.here hx rfl (hb hby d9_0) rfl ?_
    show Steps p.tables e below (s₁.setTop (mkF m 1 #[.val (.ref va), .val (.long u1), .second, .val (.long u2), .second, .unset, .unset, .unset, .unset] [(.long u1)])) tt
    refine XS.aloadN X0.here hx rfl (hb hby d9_1) rfl rfl ?_
    exact kk
  obtain ⟨T1, X1, e1, st1⟩ := getF X0 hx hZ hown (host := "") (Or.inl (hw _ (mw 15 rfl))) Via.refl e0 F_head_va (g := (mkF m 2 #[.val (.ref va), .val (.long u1), .second, .val (.long u2), .second, .unset, .unset, .unset, .unset] [(.ref va), (.long u1)])) rfl rfl (hb hby d9_2)
  refine Goal.to (B := T1.setTop (mkF m 5 #[.val (.ref va), .val (.long u1), .second, .val (.long u2), .second, .unset, .unset, .unset, .unset] [(.ref vh), (.long u1)])) st1 ?_
  obtain ⟨cl2, Ar2, Sl2⟩ := id V_vh
  have ln2 : cl2.slots.size.toInt32 = hn.toInt32 := lenA Sl2 (by rw [own_len])
  refine Goal.to (B := T1.setTop (mkF m 8 #[.val (.ref va), .val (.long u1), .second, .val (.long u2), .second, .unset, .unset, .unset, .unset] [(.int (lcmpW u1 (hn.toInt32.toInt64)))])) (fun tt kk => ?_) ?_
  · show Steps p.tables e below (T1.setTop (mkF m 5 #[.val (.ref va), .val (.long u1), .second, .val (.long u2), .second, .unset, .unset, .unset, .unset] [(.ref vh), (.long u1)])) tt
    refine X1.arraylength hx (by rw [e1]; exact Ar2.1) (State.isArrayOf_alike hZ.alike Ar2.2.1) (g := (mkF m 5 #[.val (.ref va), .val (.long u1), .second, .val (.long u2), .second, .unset, .unset, .unset, .unset] [(.ref vh), (.long u1)])) rfl rfl (hb hby d9_5) _ ?_
    rw [ln2]
    show Steps p.tables e below (T1.setTop (mkF m 6 #[.val (.ref va), .val (.long u1), .second, .val (.long u2), .second, .unset, .unset, .unset, .unset] [(.int hn.toInt32), (.long u1)])) tt
    refine XS.i2l X1.here hx rfl (hb hby d9_6) rfl ?_
    show Steps p.tables e below (T1.setTop (mkF m 7 #[.val (.ref va), .val (.long u1), .second, .val (.long u2), .second, .unset, .unset, .unset, .unset] [(.long (hn.toInt32.toInt64)), (.long u1)])) tt
    refine XS.lcmp X1.here hx rfl (hb hby d9_7) rfl ?_
    exact kk
  by_cases hlt : (lcmpW u1 (hn.toInt32.toInt64)) < (0 : Int32)
  · have hlt' := (own_cmp hiu (own_hd hhn)).mp hlt
    refine Goal.to (B := T1.setTop (mkF m 12 #[.val (.ref va), .val (.long u1), .second, .val (.long u2), .second, .unset, .unset, .unset, .unset] [(.ref va)])) (fun tt kk => ?_) ?_
    · show Steps p.tables e below (T1.setTop (mkF m 8 #[.val (.ref va), .val (.long u1), .second, .val (.long u2), .second, .unset, .unset, .unset, .unset] [(.int (lcmpW u1 (hn.toInt32.toInt64)))])) tt
      refine XS.ifNo X1.here hx rfl (hb hby d9_8) rfl ((if0 _ _).trans (tlt hlt).2.1) ?_
      show Steps p.tables e below (T1.setTop (mkF m 11 #[.val (.ref va), .val (.long u1), .second, .val (.long u2), .second, .unset, .unset, .unset, .unset] [])) tt
      refine XS.aloadN X1.here hx rfl (hb hby d9_11) rfl rfl ?_
      exact kk
    obtain ⟨T3, X3, e3, st3⟩ := getF X1 hx hZ hown (host := "") (Or.inl (hw _ (mw 15 rfl))) Via.refl e1 F_head_va (g := (mkF m 12 #[.val (.ref va), .val (.long u1), .second, .val (.long u2), .second, .unset, .unset, .unset, .unset] [(.ref va)])) rfl rfl (hb hby d9_12)
    refine Goal.to (B := T3.setTop (mkF m 15 #[.val (.ref va), .val (.long u1), .second, .val (.long u2), .second, .unset, .unset, .unset, .unset] [(.ref vh)])) st3 ?_
    refine Goal.to (B := T3.setTop (mkF m 17 #[.val (.ref va), .val (.long u1), .second, .val (.long u2), .second, .unset, .unset, .unset, .unset] [(.int (u1.toInt32)), (.ref vh)])) (fun tt kk => ?_) ?_
    · show Steps p.tables e below (T3.setTop (mkF m 15 #[.val (.ref va), .val (.long u1), .second, .val (.long u2), .second, .unset, .unset, .unset, .unset] [(.ref vh)])) tt
      refine XS.lloadN X3.here hx rfl (hb hby d9_15) rfl ?_
      show Steps p.tables e below (T3.setTop (mkF m 16 #[.val (.ref va), .val (.long u1), .second, .val (.long u2), .second, .unset, .unset, .unset, .unset] [(.long u1), (.ref vh)])) tt
      refine XS.l2i X3.here hx rfl (hb hby d9_16) rfl ?_
      exact kk
    obtain ⟨cl4, Ar4, Sl4⟩ := id V_vh
    have hin4 := inA (cl := cl4) Sl4 (j := (u1.toInt32)) (own_idx (own_l2i hiu (by omega))).1 (by rw [(own_idx (own_l2i hiu (by omega))).2, own_len]; omega)
    have hat4 : cl4.slots[((u1.toInt32)).toNatClampNeg]? = some (.long (f i)) := atA Sl4 (by rw [(own_idx (own_l2i hiu (by omega))).2]; exact own_get (by omega) (by omega))
    refine Goal.to (B := T3.setTop (mkF m 21 #[.val (.ref va), .val (.long u1), .second, .val (.long u2), .second, .val (.long (f i)), .second, .unset, .unset] [(.ref va)])) (fun tt kk => ?_) ?_
    · show Steps p.tables e below (T3.setTop (mkF m 17 #[.val (.ref va), .val (.long u1), .second, .val (.long u2), .second, .unset, .unset, .unset, .unset] [(.int (u1.toInt32)), (.ref vh)])) tt
      refine X3.laload hx (j := (u1.toInt32)) (v := (.long (f i))) (by rw [e3]; exact Ar4.1) (State.isArrayOf_alike hZ.alike Ar4.2.1) Ar4.2.2 hin4 hat4 (g := (mkF m 17 #[.val (.ref va), .val (.long u1), .second, .val (.long u2), .second, .unset, .unset, .unset, .unset] [(.int (u1.toInt32)), (.ref vh)])) rfl rfl (hb hby d9_17) _ ?_
      show Steps p.tables e below (T3.setTop (mkF m 18 #[.val (.ref va), .val (.long u1), .second, .val (.long u2), .second, .unset, .unset, .unset, .unset] [(.long (f i))])) tt
      refine XS.lstore X3.here hx rfl (hb hby d9_18) rfl (l' := #[.val (.ref va), .val (.long u1), .second, .val (.long u2), .second, .val (.long (f i)), .second, .unset, .unset]) rfl ?_
      show Steps p.tables e below (T3.setTop (mkF m 20 #[.val (.ref va), .val (.long u1), .second, .val (.long u2), .second, .val (.long (f i)), .second, .unset, .unset] [])) tt
      refine XS.aloadN X3.here hx rfl (hb hby d9_20) rfl rfl ?_
      exact kk
    obtain ⟨T5, X5, e5, st5⟩ := getF X3 hx hZ hown (host := "") (Or.inl (hw _ (mw 15 rfl))) Via.refl e3 F_head_va (g := (mkF m 21 #[.val (.ref va), .val (.long u1), .second, .val (.long u2), .second, .val (.long (f i)), .second, .unset, .unset] [(.ref va)])) rfl rfl (hb hby d9_21)
    refine Goal.to (B := T5.setTop (mkF m 24 #[.val (.ref va), .val (.long u1), .second, .val (.long u2), .second, .val (.long (f i)), .second, .unset, .unset] [(.ref vh)])) st5 ?_
    refine Goal.to (B := T5.setTop (mkF m 30 #[.val (.ref va), .val (.long u1), .second, .val (.long u2), .second, .val (.long (f i)), .second, .unset, .unset] [(.long ((f i) ||| u2)), (.int (u1.toInt32)), (.ref vh)])) (fun tt kk => ?_) ?_
    · show Steps p.tables e below (T5.setTop (mkF m 24 #[.val (.ref va), .val (.long u1), .second, .val (.long u2), .second, .val (.long (f i)), .second, .unset, .unset] [(.ref vh)])) tt
      refine XS.lloadN X5.here hx rfl (hb hby d9_24) rfl ?_
      show Steps p.tables e below (T5.setTop (mkF m 25 #[.val (.ref va), .val (.long u1), .second, .val (.long u2), .second, .val (.long (f i)), .second, .unset, .unset] [(.long u1), (.ref vh)])) tt
      refine XS.l2i X5.here hx rfl (hb hby d9_25) rfl ?_
      show Steps p.tables e below (T5.setTop (mkF m 26 #[.val (.ref va), .val (.long u1), .second, .val (.long u2), .second, .val (.long (f i)), .second, .unset, .unset] [(.int (u1.toInt32)), (.ref vh)])) tt
      refine XS.lload X5.here hx rfl (hb hby d9_26) rfl ?_
      show Steps p.tables e below (T5.setTop (mkF m 28 #[.val (.ref va), .val (.long u1), .second, .val (.long u2), .second, .val (.long (f i)), .second, .unset, .unset] [(.long (f i)), (.int (u1.toInt32)), (.ref vh)])) tt
      refine XS.lloadN X5.here hx rfl (hb hby d9_28) rfl ?_
      show Steps p.tables e below (T5.setTop (mkF m 29 #[.val (.ref va), .val (.long u1), .second, .val (.long u2), .second, .val (.long (f i)), .second, .unset, .unset] [(.long u2), (.long (f i)), (.int (u1.toInt32)), (.ref vh)])) tt
      refine XS.lor X5.here hx rfl (hb hby d9_29) rfl ?_
      exact kk
    obtain ⟨cl6, Ar6, Sl6⟩ := id V_vh
    have hin6 := inA (cl := cl6) Sl6 (j := (u1.toInt32)) (own_idx (own_l2i hiu (by omega))).1 (by rw [(own_idx (own_l2i hiu (by omega))).2, own_len]; omega)
    obtain ⟨T6, h6, X6, e6, W6, st6⟩ := stJ X5 hx hZ e5 Ar6 (j := (u1.toInt32)) hin6 (g := (mkF m 30 #[.val (.ref va), .val (.long u1), .second, .val (.long u2), .second, .val (.long (f i)), .second, .unset, .unset] [(.long ((f i) ||| u2)), (.int (u1.toInt32)), (.ref vh)])) rfl rfl (hb hby d9_30)
    have V6 : Ary Z h6 vh .long (((own_l f 0 hn)).set (i) (.long ((f i) ||| u2))) := Ary.put Ar6 Sl6 W6 (own_idx (own_l2i hiu (by omega))).2
    have N6 := Fr.snoc X6 N0 g_vh
    refine Goal.to (B := T6.setTop (mkF m 31 #[.val (.ref va), .val (.long u1), .second, .val (.long u2), .second, .val (.long (f i)), .second, .unset, .unset] [])) st6 ?_
    refine Goal.to (B := T6.setTop (mkF m 66 #[.val (.ref va), .val (.long u1), .second, .val (.long u2), .second, .val (.long (f i)), .second, .unset, .unset] [(.long (f i))])) (fun tt kk => ?_) ?_
    · show Steps p.tables e below (T6.setTop (mkF m 31 #[.val (.ref va), .val (.long u1), .second, .val (.long u2), .second, .val (.long (f i)), .second, .unset, .unset] [])) tt
      refine XS.goto X6.here hx rfl (pc0 := 31) (pc' := 64) rfl (hb hby d9_31) (by decide) (by decide) ?_
      show Steps p.tables e below (T6.setTop (mkF m 64 #[.val (.ref va), .val (.long u1), .second, .val (.long u2), .second, .val (.long (f i)), .second, .unset, .unset] [])) tt
      refine XS.lload X6.here hx rfl (hb hby d9_64) rfl ?_
      exact kk
    have f7 : Keep h0 h6 [vh, pa, pb, vs] := ((Keep.refl h0 [vh, pa, pb, vs]).wr W6 (Or.inl (List.mem_of_getElem? (i := 0) rfl)))
    have f8 : Ary Z h6 pa .long (own_l f hn 32765) := (V_pa.other W6 (Ne.symm ne_vh_pa))
    have f9 : Ary Z h6 pb .long (own_l f (hn + 32768) 2) := (V_pb.other W6 (Ne.symm ne_vh_pb))
    have f10 : Ary Z h6 vs .long (own_l f (hn + 32765) 3) := (V_vs.other W6 (Ne.symm ne_vh_vs))
    exact Goal.retV X6 hx Bd.returns rfl (Or.inr (Or.inl ⟨rfl, rfl, _, rfl⟩)) (hb hby d9_66) hlk e6 ⟨rfl, N6, f7, (Ary.cast V6 (by first | exact own_set (by omega) (by omega) | exact own_same (fun k hk => by omega) : ((((own_l f 0 hn)).set (i) (.long ((f i) ||| u2))) : List Value) = (own_l (own_upd f i (f i ||| u2)) 0 hn))), (Ary.cast f8 (by first | exact own_set (by omega) (by omega) | exact own_same (fun k hk => by omega) : ((own_l f hn 32765) : List Value) = (own_l (own_upd f i (f i ||| u2)) hn 32765))), (Ary.cast f9 (by first | exact own_set (by omega) (by omega) | exact own_same (fun k hk => by omega) : ((own_l f (hn + 32768) 2) : List Value) = (own_l (own_upd f i (f i ||| u2)) (hn + 32768) 2))), (Ary.cast f10 (by first | exact own_set (by omega) (by omega) | exact own_same (fun k hk => by omega) : ((own_l f (hn + 32765) 3) : List Value) = (own_l (own_upd f i (f i ||| u2)) (hn + 32765) 3)))⟩ (by decide) (by decide)
  · have hge' : ¬ i < hn := fun q => hlt ((own_cmp hiu (own_hd hhn)).mpr q)
    refine Goal.to (B := T1.setTop (mkF m 34 #[.val (.ref va), .val (.long u1), .second, .val (.long u2), .second, .unset, .unset, .unset, .unset] [])) (fun tt kk => ?_) ?_
    · show Steps p.tables e below (T1.setTop (mkF m 8 #[.val (.ref va), .val (.long u1), .second, .val (.long u2), .second, .unset, .unset, .unset, .unset] [(.int (lcmpW u1 (hn.toInt32.toInt64)))])) tt
      refine XS.ifYes X1.here hx rfl (pc0 := 8) (pc' := 34) rfl (hb hby d9_8) rfl ((if0 _ _).trans (flt hlt).2.1) (by decide) (by decide) ?_
      exact kk
    rcases (show (hn ≤ i ∧ i < hn + 32765) ∨ (hn + 32765 ≤ i ∧ i < hn + 32768) ∨ (hn + 32768 ≤ i ∧ i < hn + 32770) by omega) with hrg | hrg | hrg
    · refine Goal.to (B := T1.setTop (mkF m 36 #[.val (.ref va), .val (.long u1), .second, .val (.long u2), .second, .unset, .unset, .unset, .unset] [(.long u1), (.ref va)])) (fun tt kk => ?_) ?_
      · show Steps p.tables e below (T1.setTop (mkF m 34 #[.val (.ref va), .val (.long u1), .second, .val (.long u2), .second, .unset, .unset, .unset, .unset] [])) tt
        refine XS.aloadN X1.here hx rfl (hb hby d9_34) rfl rfl ?_
        show Steps p.tables e below (T1.setTop (mkF m 35 #[.val (.ref va), .val (.long u1), .second, .val (.long u2), .second, .unset, .unset, .unset, .unset] [(.ref va)])) tt
        refine XS.lloadN X1.here hx rfl (hb hby d9_35) rfl ?_
        exact kk
      obtain ⟨cq11, q11, q11'⟩ := E_va.cell
      obtain ⟨_, _, ⟨T11, L11, k11, n11⟩, -, X11, ⟨Lc11, hQ11, l11, y11, z11⟩, st11⟩ := X1.privateBack hx (y := (⟨"com/example/hedger/hedger/WordArray", "pageArrayOf", "(J)[J"⟩ : MethodName)) hown (mvT hZ (hw _ (mw 59 rfl))) (mvT hZ (hw _ (mw 60 rfl))) (selP hZ (hw _ (mw 4 rfl)) (hw _ (mw 61 rfl)) (hw _ (mw 60 rfl)) (by decide)) (Cond.privateMethod_at (mvP hZ (hw _ (mw 61 rfl)) (args := #[]))) (mvT hZ (hw _ (mw 62 rfl))) (by decide) (backOf (W := 0) (rmpaB l Z a0 hw [] va vh vp pa pb vs hn f i u1 h0 n0 Z0 F_head_va F_pages_va F_spares_va V_vh V_vp (by assumption) (by assumption) (by assumption) (by assumption)) hZ (hw _ (mw 62 rfl)) (hw _ (mw 5 rfl)) (by decide) (by decide)) (g := (mkF m 36 #[.val (.ref va), .val (.long u1), .second, .val (.long u2), .second, .unset, .unset, .unset, .unset] [(.long u1), (.ref va)])) rfl (by rw [hml]; rfl) (Steps.refl _) (a := va) (by rw [e1]; exact q11) q11' (argsL := [(.long u1)]) (rest := []) (lenOf pd_6 rfl) rfl (by show 2 * 0 + _ ≤ _; exact Nat.le_of_eq rfl) (hb hby d9_36) (fun _ _ => ⟨rfl, e1, (by decide : 0 + 0 ≤ _), (by decide : 0 + 0 ≤ _)⟩)
      dsimp only [Pt.U, Pt.locs, Pt.cells, Pt.slots] at X11 l11 y11 z11 st11 hQ11
      subst l11 y11 z11
      obtain ⟨rfl, N11q, e11⟩ := hQ11
      have N11 := Fr.app N0 N11q
      refine Goal.tr (B := T11.setTop (mkF m 39 #[.val (.ref va), .val (.long u1), .second, .val (.long u2), .second, .unset, .unset, .unset, .unset] [(.ref pa)])) st11 ?_
      refine Goal.to (B := T11.setTop (mkF m 43 #[.val (.ref va), .val (.long u1), .second, .val (.long u2), .second, .unset, .unset, .val (.ref pa), .unset] [(.long u1), (.ref va)])) (fun tt kk => ?_) ?_
      · show Steps p.tables e below (T11.setTop (mkF m 39 #[.val (.ref va), .val (.long u1), .second, .val (.long u2), .second, .unset, .unset, .unset, .unset] [(.ref pa)])) tt
        refine XS.astore X11.here hx rfl (hb hby d9_39) rfl rfl (l' := #[.val (.ref va), .val (.long u1), .second, .val (.long u2), .second, .unset, .unset, .val (.ref pa), .unset]) rfl ?_
        show Steps p.tables e below (T11.setTop (mkF m 41 #[.val (.ref va), .val (.long u1), .second, .val (.long u2), .second, .unset, .unset, .val (.ref pa), .unset] [])) tt
        refine XS.aloadN X11.here hx rfl (hb hby d9_41) rfl rfl ?_
        show Steps p.tables e below (T11.setTop (mkF m 42 #[.val (.ref va), .val (.long u1), .second, .val (.long u2), .second, .unset, .unset, .val (.ref pa), .unset] [(.ref va)])) tt
        refine XS.lloadN X11.here hx rfl (hb hby d9_42) rfl ?_
        exact kk
      obtain ⟨cq12, q12, q12'⟩ := E_va.cell
      obtain ⟨_, _, ⟨T12, L12, k12, n12⟩, -, X12, ⟨Lc12, hQ12, l12, y12, z12⟩, st12⟩ := X11.privateBack hx (y := (⟨"com/example/hedger/hedger/WordArray", "pageOffsetOf", "(J)I"⟩ : MethodName)) hown (mvT hZ (hw _ (mw 63 rfl))) (mvT hZ (hw _ (mw 64 rfl))) (selP hZ (hw _ (mw 4 rfl)) (hw _ (mw 65 rfl)) (hw _ (mw 64 rfl)) (by decide)) (Cond.privateMethod_at (mvP hZ (hw _ (mw 65 rfl)) (args := #[]))) (mvT hZ (hw _ (mw 66 rfl))) (by decide) (backOf (W := 0) (rmpoB l Z a0 hw [] va vh vp pa pb vs hn f i u1 h0 n0 Z0 F_head_va V_vh (by assumption) (by assumption) (by assumption) (by assumption)) hZ (hw _ (mw 66 rfl)) (hw _ (mw 5 rfl)) (by decide) (by decide)) (g := (mkF m 43 #[.val (.ref va), .val (.long u1), .second, .val (.long u2), .second, .unset, .unset, .val (.ref pa), .unset] [(.long u1), (.ref va)])) rfl (by rw [hml]; rfl) (Steps.refl _) (a := va) (by rw [e11]; exact q12) q12' (argsL := [(.long u1)]) (rest := []) (lenOf pd_2 rfl) rfl (by show 2 * 0 + _ ≤ _; exact Nat.le_of_eq rfl) (hb hby d9_43) (fun _ _ => ⟨rfl, e11, (by decide : 0 + 0 ≤ _), (by decide : 0 + 0 ≤ _)⟩)
      dsimp only [Pt.U, Pt.locs, Pt.cells, Pt.slots] at X12 l12 y12 z12 st12 hQ12
      subst l12 y12 z12
      obtain ⟨oo_12, rfl, N12q, e12, hoo_12⟩ := hQ12
      have N12 := Fr.app N11 N12q
      refine Goal.tr (B := T12.setTop (mkF m 46 #[.val (.ref va), .val (.long u1), .second, .val (.long u2), .second, .unset, .unset, .val (.ref pa), .unset] [(.int oo_12)])) st12 ?_
      refine Goal.to (B := T12.setTop (mkF m 52 #[.val (.ref va), .val (.long u1), .second, .val (.long u2), .second, .unset, .unset, .val (.ref pa), .val (.int oo_12)] [(.int oo_12), (.ref pa)])) (fun tt kk => ?_) ?_
      · show Steps p.tables e below (T12.setTop (mkF m 46 #[.val (.ref va), .val (.long u1), .second, .val (.long u2), .second, .unset, .unset, .val (.ref pa), .unset] [(.int oo_12)])) tt
        refine XS.istore X12.here hx rfl (hb hby d9_46) rfl (l' := #[.val (.ref va), .val (.long u1), .second, .val (.long u2), .second, .unset, .unset, .val (.ref pa), .val (.int oo_12)]) rfl ?_
        show Steps p.tables e below (T12.setTop (mkF m 48 #[.val (.ref va), .val (.long u1), .second, .val (.long u2), .second, .unset, .unset, .val (.ref pa), .val (.int oo_12)] [])) tt
        refine XS.aload X12.here hx rfl (hb hby d9_48) rfl rfl ?_
        show Steps p.tables e below (T12.setTop (mkF m 50 #[.val (.ref va), .val (.long u1), .second, .val (.long u2), .second, .unset, .unset, .val (.ref pa), .val (.int oo_12)] [(.ref pa)])) tt
        refine XS.iload X12.here hx rfl (hb hby d9_50) rfl ?_
        exact kk
      obtain ⟨cl13, Ar13, Sl13⟩ := id V_pa
      have hin13 := inA (cl := cl13) Sl13 (j := oo_12) (own_idx hoo_12).1 (by rw [(own_idx hoo_12).2, own_len]; omega)
      have hat13 : cl13.slots[(oo_12).toNatClampNeg]? = some (.long (f i)) := atA Sl13 (by rw [(own_idx hoo_12).2]; exact own_get (by omega) (by omega))
      refine Goal.to (B := T12.setTop (mkF m 63 #[.val (.ref va), .val (.long u1), .second, .val (.long u2), .second, .val (.long (f i)), .second, .val (.ref pa), .val (.int oo_12)] [(.long ((f i) ||| u2)), (.int oo_12), (.ref pa)])) (fun tt kk => ?_) ?_
      · show Steps p.tables e below (T12.setTop (mkF m 52 #[.val (.ref va), .val (.long u1), .second, .val (.long u2), .second, .unset, .unset, .val (.ref pa), .val (.int oo_12)] [(.int oo_12), (.ref pa)])) tt
        refine X12.laload hx (j := oo_12) (v := (.long (f i))) (by rw [e12]; exact Ar13.1) (State.isArrayOf_alike hZ.alike Ar13.2.1) Ar13.2.2 hin13 hat13 (g := (mkF m 52 #[.val (.ref va), .val (.long u1), .second, .val (.long u2), .second, .unset, .unset, .val (.ref pa), .val (.int oo_12)] [(.int oo_12), (.ref pa)])) rfl rfl (hb hby d9_52) _ ?_
        show Steps p.tables e below (T12.setTop (mkF m 53 #[.val (.ref va), .val (.long u1), .second, .val (.long u2), .second, .unset, .unset, .val (.ref pa), .val (.int oo_12)] [(.long (f i))])) tt
        refine XS.lstore X12.here hx rfl (hb hby d9_53) rfl (l' := #[.val (.ref va), .val (.long u1), .second, .val (.long u2), .second, .val (.long (f i)), .second, .val (.ref pa), .val (.int oo_12)]) rfl ?_
        show Steps p.tables e below (T12.setTop (mkF m 55 #[.val (.ref va), .val (.long u1), .second, .val (.long u2), .second, .val (.long (f i)), .second, .val (.ref pa), .val (.int oo_12)] [])) tt
        refine XS.aload X12.here hx rfl (hb hby d9_55) rfl rfl ?_
        show Steps p.tables e below (T12.setTop (mkF m 57 #[.val (.ref va), .val (.long u1), .second, .val (.long u2), .second, .val (.long (f i)), .second, .val (.ref pa), .val (.int oo_12)] [(.ref pa)])) tt
        refine XS.iload X12.here hx rfl (hb hby d9_57) rfl ?_
        show Steps p.tables e below (T12.setTop (mkF m 59 #[.val (.ref va), .val (.long u1), .second, .val (.long u2), .second, .val (.long (f i)), .second, .val (.ref pa), .val (.int oo_12)] [(.int oo_12), (.ref pa)])) tt
        refine XS.lload X12.here hx rfl (hb hby d9_59) rfl ?_
        show Steps p.tables e below (T12.setTop (mkF m 61 #[.val (.ref va), .val (.long u1), .second, .val (.long u2), .second, .val (.long (f i)), .second, .val (.ref pa), .val (.int oo_12)] [(.long (f i)), (.int oo_12), (.ref pa)])) tt
        refine XS.lloadN X12.here hx rfl (hb hby d9_61) rfl ?_
        show Steps p.tables e below (T12.setTop (mkF m 62 #[.val (.ref va), .val (.long u1), .second, .val (.long u2), .second, .val (.long (f i)), .second, .val (.ref pa), .val (.int oo_12)] [(.long u2), (.long (f i)), (.int oo_12), (.ref pa)])) tt
        refine XS.lor X12.here hx rfl (hb hby d9_62) rfl ?_
        exact kk
      obtain ⟨cl14, Ar14, Sl14⟩ := id V_pa
      have hin14 := inA (cl := cl14) Sl14 (j := oo_12) (own_idx hoo_12).1 (by rw [(own_idx hoo_12).2, own_len]; omega)
      obtain ⟨T14, h14, X14, e14, W14, st14⟩ := stJ X12 hx hZ e12 Ar14 (j := oo_12) hin14 (g := (mkF m 63 #[.val (.ref va), .val (.long u1), .second, .val (.long u2), .second, .val (.long (f i)), .second, .val (.ref pa), .val (.int oo_12)] [(.long ((f i) ||| u2)), (.int oo_12), (.ref pa)])) rfl rfl (hb hby d9_63)
      have V14 : Ary Z h14 pa .long (((own_l f hn 32765)).set ((i - hn)) (.long ((f i) ||| u2))) := Ary.put Ar14 Sl14 W14 (own_idx hoo_12).2
      have N14 := Fr.snoc X14 N12 g_pa
      refine Goal.to (B := T14.setTop (mkF m 64 #[.val (.ref va), .val (.long u1), .second, .val (.long u2), .second, .val (.long (f i)), .second, .val (.ref pa), .val (.int oo_12)] [])) st14 ?_
      refine Goal.to (B := T14.setTop (mkF m 66 #[.val (.ref va), .val (.long u1), .second, .val (.long u2), .second, .val (.long (f i)), .second, .val (.ref pa), .val (.int oo_12)] [(.long (f i))])) (fun tt kk => ?_) ?_
      · show Steps p.tables e below (T14.setTop (mkF m 64 #[.val (.ref va), .val (.long u1), .second, .val (.long u2), .second, .val (.long (f i)), .second, .val (.ref pa), .val (.int oo_12)] [])) tt
        refine XS.lload X14.here hx rfl (hb hby d9_64) rfl ?_
        exact kk
      have f15 : Keep h0 h14 [vh, pa, pb, vs] := ((Keep.refl h0 [vh, pa, pb, vs]).wr W14 (Or.inl (List.mem_of_getElem? (i := 1) rfl)))
      have f16 : Ary Z h14 vh .long (own_l f 0 hn) := (V_vh.other W14 ne_vh_pa)
      have f17 : Ary Z h14 pb .long (own_l f (hn + 32768) 2) := (V_pb.other W14 (Ne.symm ne_pa_pb))
      have f18 : Ary Z h14 vs .long (own_l f (hn + 32765) 3) := (V_vs.other W14 (Ne.symm ne_pa_vs))
      exact Goal.retV X14 hx Bd.returns rfl (Or.inr (Or.inl ⟨rfl, rfl, _, rfl⟩)) (hb hby d9_66) hlk e14 ⟨rfl, N14, f15, (Ary.cast f16 (by first | exact own_set (by omega) (by omega) | exact own_same (fun k hk => by omega) : ((own_l f 0 hn) : List Value) = (own_l (own_upd f i (f i ||| u2)) 0 hn))), (Ary.cast V14 (by first | exact own_set (by omega) (by omega) | exact own_same (fun k hk => by omega) : ((((own_l f hn 32765)).set ((i - hn)) (.long ((f i) ||| u2))) : List Value) = (own_l (own_upd f i (f i ||| u2)) hn 32765))), (Ary.cast f17 (by first | exact own_set (by omega) (by omega) | exact own_same (fun k hk => by omega) : ((own_l f (hn + 32768) 2) : List Value) = (own_l (own_upd f i (f i ||| u2)) (hn + 32768) 2))), (Ary.cast f18 (by first | exact own_set (by omega) (by omega) | exact own_same (fun k hk => by omega) : ((own_l f (hn + 32765) 3) : List Value) = (own_l (own_upd f i (f i ||| u2)) (hn + 32765) 3)))⟩ (by decide) (by decide)
    · refine Goal.to (B := T1.setTop (mkF m 36 #[.val (.ref va), .val (.long u1), .second, .val (.long u2), .second, .unset, .unset, .unset, .unset] [(.long u1), (.ref va)])) (fun tt kk => ?_) ?_
      · show Steps p.tables e below (T1.setTop (mkF m 34 #[.val (.ref va), .val (.long u1), .second, .val (.long u2), .second, .unset, .unset, .unset, .unset] [])) tt
        refine XS.aloadN X1.here hx rfl (hb hby d9_34) rfl rfl ?_
        show Steps p.tables e below (T1.setTop (mkF m 35 #[.val (.ref va), .val (.long u1), .second, .val (.long u2), .second, .unset, .unset, .unset, .unset] [(.ref va)])) tt
        refine XS.lloadN X1.here hx rfl (hb hby d9_35) rfl ?_
        exact kk
      obtain ⟨cq19, q19, q19'⟩ := E_va.cell
      obtain ⟨_, _, ⟨T19, L19, k19, n19⟩, -, X19, ⟨Lc19, hQ19, l19, y19, z19⟩, st19⟩ := X1.privateBack hx (y := (⟨"com/example/hedger/hedger/WordArray", "pageArrayOf", "(J)[J"⟩ : MethodName)) hown (mvT hZ (hw _ (mw 59 rfl))) (mvT hZ (hw _ (mw 60 rfl))) (selP hZ (hw _ (mw 4 rfl)) (hw _ (mw 61 rfl)) (hw _ (mw 60 rfl)) (by decide)) (Cond.privateMethod_at (mvP hZ (hw _ (mw 61 rfl)) (args := #[]))) (mvT hZ (hw _ (mw 62 rfl))) (by decide) (backOf (W := 0) (rmpaC l Z a0 hw [] va vh vp pa pb vs hn f i u1 h0 n0 Z0 F_head_va F_pages_va F_spares_va V_vh V_vp (by assumption) (by assumption) (by assumption) (by assumption)) hZ (hw _ (mw 62 rfl)) (hw _ (mw 5 rfl)) (by decide) (by decide)) (g := (mkF m 36 #[.val (.ref va), .val (.long u1), .second, .val (.long u2), .second, .unset, .unset, .unset, .unset] [(.long u1), (.ref va)])) rfl (by rw [hml]; rfl) (Steps.refl _) (a := va) (by rw [e1]; exact q19) q19' (argsL := [(.long u1)]) (rest := []) (lenOf pd_6 rfl) rfl (by show 2 * 0 + _ ≤ _; exact Nat.le_of_eq rfl) (hb hby d9_36) (fun _ _ => ⟨rfl, e1, (by decide : 0 + 0 ≤ _), (by decide : 0 + 0 ≤ _)⟩)
      dsimp only [Pt.U, Pt.locs, Pt.cells, Pt.slots] at X19 l19 y19 z19 st19 hQ19
      subst l19 y19 z19
      obtain ⟨rfl, N19q, e19⟩ := hQ19
      have N19 := Fr.app N0 N19q
      refine Goal.tr (B := T19.setTop (mkF m 39 #[.val (.ref va), .val (.long u1), .second, .val (.long u2), .second, .unset, .unset, .unset, .unset] [(.ref vs)])) st19 ?_
      refine Goal.to (B := T19.setTop (mkF m 43 #[.val (.ref va), .val (.long u1), .second, .val (.long u2), .second, .unset, .unset, .val (.ref vs), .unset] [(.long u1), (.ref va)])) (fun tt kk => ?_) ?_
      · show Steps p.tables e below (T19.setTop (mkF m 39 #[.val (.ref va), .val (.long u1), .second, .val (.long u2), .second, .unset, .unset, .unset, .unset] [(.ref vs)])) tt
        refine XS.astore X19.here hx rfl (hb hby d9_39) rfl rfl (l' := #[.val (.ref va), .val (.long u1), .second, .val (.long u2), .second, .unset, .unset, .val (.ref vs), .unset]) rfl ?_
        show Steps p.tables e below (T19.setTop (mkF m 41 #[.val (.ref va), .val (.long u1), .second, .val (.long u2), .second, .unset, .unset, .val (.ref vs), .unset] [])) tt
        refine XS.aloadN X19.here hx rfl (hb hby d9_41) rfl rfl ?_
        show Steps p.tables e below (T19.setTop (mkF m 42 #[.val (.ref va), .val (.long u1), .second, .val (.long u2), .second, .unset, .unset, .val (.ref vs), .unset] [(.ref va)])) tt
        refine XS.lloadN X19.here hx rfl (hb hby d9_42) rfl ?_
        exact kk
      obtain ⟨cq20, q20, q20'⟩ := E_va.cell
      obtain ⟨_, _, ⟨T20, L20, k20, n20⟩, -, X20, ⟨Lc20, hQ20, l20, y20, z20⟩, st20⟩ := X19.privateBack hx (y := (⟨"com/example/hedger/hedger/WordArray", "pageOffsetOf", "(J)I"⟩ : MethodName)) hown (mvT hZ (hw _ (mw 63 rfl))) (mvT hZ (hw _ (mw 64 rfl))) (selP hZ (hw _ (mw 4 rfl)) (hw _ (mw 65 rfl)) (hw _ (mw 64 rfl)) (by decide)) (Cond.privateMethod_at (mvP hZ (hw _ (mw 65 rfl)) (args := #[]))) (mvT hZ (hw _ (mw 66 rfl))) (by decide) (backOf (W := 0) (rmpoC l Z a0 hw [] va vh vp pa pb vs hn f i u1 h0 n0 Z0 F_head_va V_vh (by assumption) (by assumption) (by assumption) (by assumption)) hZ (hw _ (mw 66 rfl)) (hw _ (mw 5 rfl)) (by decide) (by decide)) (g := (mkF m 43 #[.val (.ref va), .val (.long u1), .second, .val (.long u2), .second, .unset, .unset, .val (.ref vs), .unset] [(.long u1), (.ref va)])) rfl (by rw [hml]; rfl) (Steps.refl _) (a := va) (by rw [e19]; exact q20) q20' (argsL := [(.long u1)]) (rest := []) (lenOf pd_2 rfl) rfl (by show 2 * 0 + _ ≤ _; exact Nat.le_of_eq rfl) (hb hby d9_43) (fun _ _ => ⟨rfl, e19, (by decide : 0 + 0 ≤ _), (by decide : 0 + 0 ≤ _)⟩)
      dsimp only [Pt.U, Pt.locs, Pt.cells, Pt.slots] at X20 l20 y20 z20 st20 hQ20
      subst l20 y20 z20
      obtain ⟨oo_20, rfl, N20q, e20, hoo_20⟩ := hQ20
      have N20 := Fr.app N19 N20q
      refine Goal.tr (B := T20.setTop (mkF m 46 #[.val (.ref va), .val (.long u1), .second, .val (.long u2), .second, .unset, .unset, .val (.ref vs), .unset] [(.int oo_20)])) st20 ?_
      refine Goal.to (B := T20.setTop (mkF m 52 #[.val (.ref va), .val (.long u1), .second, .val (.long u2), .second, .unset, .unset, .val (.ref vs), .val (.int oo_20)] [(.int oo_20), (.ref vs)])) (fun tt kk => ?_) ?_
      · show Steps p.tables e below (T20.setTop (mkF m 46 #[.val (.ref va), .val (.long u1), .second, .val (.long u2), .second, .unset, .unset, .val (.ref vs), .unset] [(.int oo_20)])) tt
        refine XS.istore X20.here hx rfl (hb hby d9_46) rfl (l' := #[.val (.ref va), .val (.long u1), .second, .val (.long u2), .second, .unset, .unset, .val (.ref vs), .val (.int oo_20)]) rfl ?_
        show Steps p.tables e below (T20.setTop (mkF m 48 #[.val (.ref va), .val (.long u1), .second, .val (.long u2), .second, .unset, .unset, .val (.ref vs), .val (.int oo_20)] [])) tt
        refine XS.aload X20.here hx rfl (hb hby d9_48) rfl rfl ?_
        show Steps p.tables e below (T20.setTop (mkF m 50 #[.val (.ref va), .val (.long u1), .second, .val (.long u2), .second, .unset, .unset, .val (.ref vs), .val (.int oo_20)] [(.ref vs)])) tt
        refine XS.iload X20.here hx rfl (hb hby d9_50) rfl ?_
        exact kk
      obtain ⟨cl21, Ar21, Sl21⟩ := id V_vs
      have hin21 := inA (cl := cl21) Sl21 (j := oo_20) (own_idx hoo_20).1 (by rw [(own_idx hoo_20).2, own_len]; omega)
      have hat21 : cl21.slots[(oo_20).toNatClampNeg]? = some (.long (f i)) := atA Sl21 (by rw [(own_idx hoo_20).2]; exact own_get (by omega) (by omega))
      refine Goal.to (B := T20.setTop (mkF m 63 #[.val (.ref va), .val (.long u1), .second, .val (.long u2), .second, .val (.long (f i)), .second, .val (.ref vs), .val (.int oo_20)] [(.long ((f i) ||| u2)), (.int oo_20), (.ref vs)])) (fun tt kk => ?_) ?_
      · show Steps p.tables e below (T20.setTop (mkF m 52 #[.val (.ref va), .val (.long u1), .second, .val (.long u2), .second, .unset, .unset, .val (.ref vs), .val (.int oo_20)] [(.int oo_20), (.ref vs)])) tt
        refine X20.laload hx (j := oo_20) (v := (.long (f i))) (by rw [e20]; exact Ar21.1) (State.isArrayOf_alike hZ.alike Ar21.2.1) Ar21.2.2 hin21 hat21 (g := (mkF m 52 #[.val (.ref va), .val (.long u1), .second, .val (.long u2), .second, .unset, .unset, .val (.ref vs), .val (.int oo_20)] [(.int oo_20), (.ref vs)])) rfl rfl (hb hby d9_52) _ ?_
        show Steps p.tables e below (T20.setTop (mkF m 53 #[.val (.ref va), .val (.long u1), .second, .val (.long u2), .second, .unset, .unset, .val (.ref vs), .val (.int oo_20)] [(.long (f i))])) tt
        refine XS.lstore X20.here hx rfl (hb hby d9_53) rfl (l' := #[.val (.ref va), .val (.long u1), .second, .val (.long u2), .second, .val (.long (f i)), .second, .val (.ref vs), .val (.int oo_20)]) rfl ?_
        show Steps p.tables e below (T20.setTop (mkF m 55 #[.val (.ref va), .val (.long u1), .second, .val (.long u2), .second, .val (.long (f i)), .second, .val (.ref vs), .val (.int oo_20)] [])) tt
        refine XS.aload X20.here hx rfl (hb hby d9_55) rfl rfl ?_
        show Steps p.tables e below (T20.setTop (mkF m 57 #[.val (.ref va), .val (.long u1), .second, .val (.long u2), .second, .val (.long (f i)), .second, .val (.ref vs), .val (.int oo_20)] [(.ref vs)])) tt
        refine XS.iload X20.here hx rfl (hb hby d9_57) rfl ?_
        show Steps p.tables e below (T20.setTop (mkF m 59 #[.val (.ref va), .val (.long u1), .second, .val (.long u2), .second, .val (.long (f i)), .second, .val (.ref vs), .val (.int oo_20)] [(.int oo_20), (.ref vs)])) tt
        refine XS.lload X20.here hx rfl (hb hby d9_59) rfl ?_
        show Steps p.tables e below (T20.setTop (mkF m 61 #[.val (.ref va), .val (.long u1), .second, .val (.long u2), .second, .val (.long (f i)), .second, .val (.ref vs), .val (.int oo_20)] [(.long (f i)), (.int oo_20), (.ref vs)])) tt
        refine XS.lloadN X20.here hx rfl (hb hby d9_61) rfl ?_
        show Steps p.tables e below (T20.setTop (mkF m 62 #[.val (.ref va), .val (.long u1), .second, .val (.long u2), .second, .val (.long (f i)), .second, .val (.ref vs), .val (.int oo_20)] [(.long u2), (.long (f i)), (.int oo_20), (.ref vs)])) tt
        refine XS.lor X20.here hx rfl (hb hby d9_62) rfl ?_
        exact kk
      obtain ⟨cl22, Ar22, Sl22⟩ := id V_vs
      have hin22 := inA (cl := cl22) Sl22 (j := oo_20) (own_idx hoo_20).1 (by rw [(own_idx hoo_20).2, own_len]; omega)
      obtain ⟨T22, h22, X22, e22, W22, st22⟩ := stJ X20 hx hZ e20 Ar22 (j := oo_20) hin22 (g := (mkF m 63 #[.val (.ref va), .val (.long u1), .second, .val (.long u2), .second, .val (.long (f i)), .second, .val (.ref vs), .val (.int oo_20)] [(.long ((f i) ||| u2)), (.int oo_20), (.ref vs)])) rfl rfl (hb hby d9_63)
      have V22 : Ary Z h22 vs .long (((own_l f (hn + 32765) 3)).set ((i - hn - 32765)) (.long ((f i) ||| u2))) := Ary.put Ar22 Sl22 W22 (own_idx hoo_20).2
      have N22 := Fr.snoc X22 N20 g_vs
      refine Goal.to (B := T22.setTop (mkF m 64 #[.val (.ref va), .val (.long u1), .second, .val (.long u2), .second, .val (.long (f i)), .second, .val (.ref vs), .val (.int oo_20)] [])) st22 ?_
      refine Goal.to (B := T22.setTop (mkF m 66 #[.val (.ref va), .val (.long u1), .second, .val (.long u2), .second, .val (.long (f i)), .second, .val (.ref vs), .val (.int oo_20)] [(.long (f i))])) (fun tt kk => ?_) ?_
      · show Steps p.tables e below (T22.setTop (mkF m 64 #[.val (.ref va), .val (.long u1), .second, .val (.long u2), .second, .val (.long (f i)), .second, .val (.ref vs), .val (.int oo_20)] [])) tt
        refine XS.lload X22.here hx rfl (hb hby d9_64) rfl ?_
        exact kk
      have f23 : Keep h0 h22 [vh, pa, pb, vs] := ((Keep.refl h0 [vh, pa, pb, vs]).wr W22 (Or.inl (List.mem_of_getElem? (i := 3) rfl)))
      have f24 : Ary Z h22 vh .long (own_l f 0 hn) := (V_vh.other W22 ne_vh_vs)
      have f25 : Ary Z h22 pa .long (own_l f hn 32765) := (V_pa.other W22 ne_pa_vs)
      have f26 : Ary Z h22 pb .long (own_l f (hn + 32768) 2) := (V_pb.other W22 ne_pb_vs)
      exact Goal.retV X22 hx Bd.returns rfl (Or.inr (Or.inl ⟨rfl, rfl, _, rfl⟩)) (hb hby d9_66) hlk e22 ⟨rfl, N22, f23, (Ary.cast f24 (by first | exact own_set (by omega) (by omega) | exact own_same (fun k hk => by omega) : ((own_l f 0 hn) : List Value) = (own_l (own_upd f i (f i ||| u2)) 0 hn))), (Ary.cast f25 (by first | exact own_set (by omega) (by omega) | exact own_same (fun k hk => by omega) : ((own_l f hn 32765) : List Value) = (own_l (own_upd f i (f i ||| u2)) hn 32765))), (Ary.cast f26 (by first | exact own_set (by omega) (by omega) | exact own_same (fun k hk => by omega) : ((own_l f (hn + 32768) 2) : List Value) = (own_l (own_upd f i (f i ||| u2)) (hn + 32768) 2))), (Ary.cast V22 (by first | exact own_set (by omega) (by omega) | exact own_same (fun k hk => by omega) : ((((own_l f (hn + 32765) 3)).set ((i - hn - 32765)) (.long ((f i) ||| u2))) : List Value) = (own_l (own_upd f i (f i ||| u2)) (hn + 32765) 3)))⟩ (by decide) (by decide)
    · refine Goal.to (B := T1.setTop (mkF m 36 #[.val (.ref va), .val (.long u1), .second, .val (.long u2), .second, .unset, .unset, .unset, .unset] [(.long u1), (.ref va)])) (fun tt kk => ?_) ?_
      · show Steps p.tables e below (T1.setTop (mkF m 34 #[.val (.ref va), .val (.long u1), .second, .val (.long u2), .second, .unset, .unset, .unset, .unset] [])) tt
        refine XS.aloadN X1.here hx rfl (hb hby d9_34) rfl rfl ?_
        show Steps p.tables e below (T1.setTop (mkF m 35 #[.val (.ref va), .val (.long u1), .second, .val (.long u2), .second, .unset, .unset, .unset, .unset] [(.ref va)])) tt
        refine XS.lloadN X1.here hx rfl (hb hby d9_35) rfl ?_
        exact kk
      obtain ⟨cq27, q27, q27'⟩ := E_va.cell
      obtain ⟨_, _, ⟨T27, L27, k27, n27⟩, -, X27, ⟨Lc27, hQ27, l27, y27, z27⟩, st27⟩ := X1.privateBack hx (y := (⟨"com/example/hedger/hedger/WordArray", "pageArrayOf", "(J)[J"⟩ : MethodName)) hown (mvT hZ (hw _ (mw 59 rfl))) (mvT hZ (hw _ (mw 60 rfl))) (selP hZ (hw _ (mw 4 rfl)) (hw _ (mw 61 rfl)) (hw _ (mw 60 rfl)) (by decide)) (Cond.privateMethod_at (mvP hZ (hw _ (mw 61 rfl)) (args := #[]))) (mvT hZ (hw _ (mw 62 rfl))) (by decide) (backOf (W := 0) (rmpaD l Z a0 hw [] va vh vp pa pb vs hn f i u1 h0 n0 Z0 F_head_va F_pages_va F_spares_va V_vh V_vp (by assumption) (by assumption) (by assumption) (by assumption)) hZ (hw _ (mw 62 rfl)) (hw _ (mw 5 rfl)) (by decide) (by decide)) (g := (mkF m 36 #[.val (.ref va), .val (.long u1), .second, .val (.long u2), .second, .unset, .unset, .unset, .unset] [(.long u1), (.ref va)])) rfl (by rw [hml]; rfl) (Steps.refl _) (a := va) (by rw [e1]; exact q27) q27' (argsL := [(.long u1)]) (rest := []) (lenOf pd_6 rfl) rfl (by show 2 * 0 + _ ≤ _; exact Nat.le_of_eq rfl) (hb hby d9_36) (fun _ _ => ⟨rfl, e1, (by decide : 0 + 0 ≤ _), (by decide : 0 + 0 ≤ _)⟩)
      dsimp only [Pt.U, Pt.locs, Pt.cells, Pt.slots] at X27 l27 y27 z27 st27 hQ27
      subst l27 y27 z27
      obtain ⟨rfl, N27q, e27⟩ := hQ27
      have N27 := Fr.app N0 N27q
      refine Goal.tr (B := T27.setTop (mkF m 39 #[.val (.ref va), .val (.long u1), .second, .val (.long u2), .second, .unset, .unset, .unset, .unset] [(.ref pb)])) st27 ?_
      refine Goal.to (B := T27.setTop (mkF m 43 #[.val (.ref va), .val (.long u1), .second, .val (.long u2), .second, .unset, .unset, .val (.ref pb), .unset] [(.long u1), (.ref va)])) (fun tt kk => ?_) ?_
      · show Steps p.tables e below (T27.setTop (mkF m 39 #[.val (.ref va), .val (.long u1), .second, .val (.long u2), .second, .unset, .unset, .unset, .unset] [(.ref pb)])) tt
        refine XS.astore X27.here hx rfl (hb hby d9_39) rfl rfl (l' := #[.val (.ref va), .val (.long u1), .second, .val (.long u2), .second, .unset, .unset, .val (.ref pb), .unset]) rfl ?_
        show Steps p.tables e below (T27.setTop (mkF m 41 #[.val (.ref va), .val (.long u1), .second, .val (.long u2), .second, .unset, .unset, .val (.ref pb), .unset] [])) tt
        refine XS.aloadN X27.here hx rfl (hb hby d9_41) rfl rfl ?_
        show Steps p.tables e below (T27.setTop (mkF m 42 #[.val (.ref va), .val (.long u1), .second, .val (.long u2), .second, .unset, .unset, .val (.ref pb), .unset] [(.ref va)])) tt
        refine XS.lloadN X27.here hx rfl (hb hby d9_42) rfl ?_
        exact kk
      obtain ⟨cq28, q28, q28'⟩ := E_va.cell
      obtain ⟨_, _, ⟨T28, L28, k28, n28⟩, -, X28, ⟨Lc28, hQ28, l28, y28, z28⟩, st28⟩ := X27.privateBack hx (y := (⟨"com/example/hedger/hedger/WordArray", "pageOffsetOf", "(J)I"⟩ : MethodName)) hown (mvT hZ (hw _ (mw 63 rfl))) (mvT hZ (hw _ (mw 64 rfl))) (selP hZ (hw _ (mw 4 rfl)) (hw _ (mw 65 rfl)) (hw _ (mw 64 rfl)) (by decide)) (Cond.privateMethod_at (mvP hZ (hw _ (mw 65 rfl)) (args := #[]))) (mvT hZ (hw _ (mw 66 rfl))) (by decide) (backOf (W := 0) (rmpoD l Z a0 hw [] va vh vp pa pb vs hn f i u1 h0 n0 Z0 F_head_va V_vh (by assumption) (by assumption) (by assumption) (by assumption)) hZ (hw _ (mw 66 rfl)) (hw _ (mw 5 rfl)) (by decide) (by decide)) (g := (mkF m 43 #[.val (.ref va), .val (.long u1), .second, .val (.long u2), .second, .unset, .unset, .val (.ref pb), .unset] [(.long u1), (.ref va)])) rfl (by rw [hml]; rfl) (Steps.refl _) (a := va) (by rw [e27]; exact q28) q28' (argsL := [(.long u1)]) (rest := []) (lenOf pd_2 rfl) rfl (by show 2 * 0 + _ ≤ _; exact Nat.le_of_eq rfl) (hb hby d9_43) (fun _ _ => ⟨rfl, e27, (by decide : 0 + 0 ≤ _), (by decide : 0 + 0 ≤ _)⟩)
      dsimp only [Pt.U, Pt.locs, Pt.cells, Pt.slots] at X28 l28 y28 z28 st28 hQ28
      subst l28 y28 z28
      obtain ⟨oo_28, rfl, N28q, e28, hoo_28⟩ := hQ28
      have N28 := Fr.app N27 N28q
      refine Goal.tr (B := T28.setTop (mkF m 46 #[.val (.ref va), .val (.long u1), .second, .val (.long u2), .second, .unset, .unset, .val (.ref pb), .unset] [(.int oo_28)])) st28 ?_
      refine Goal.to (B := T28.setTop (mkF m 52 #[.val (.ref va), .val (.long u1), .second, .val (.long u2), .second, .unset, .unset, .val (.ref pb), .val (.int oo_28)] [(.int oo_28), (.ref pb)])) (fun tt kk => ?_) ?_
      · show Steps p.tables e below (T28.setTop (mkF m 46 #[.val (.ref va), .val (.long u1), .second, .val (.long u2), .second, .unset, .unset, .val (.ref pb), .unset] [(.int oo_28)])) tt
        refine XS.istore X28.here hx rfl (hb hby d9_46) rfl (l' := #[.val (.ref va), .val (.long u1), .second, .val (.long u2), .second, .unset, .unset, .val (.ref pb), .val (.int oo_28)]) rfl ?_
        show Steps p.tables e below (T28.setTop (mkF m 48 #[.val (.ref va), .val (.long u1), .second, .val (.long u2), .second, .unset, .unset, .val (.ref pb), .val (.int oo_28)] [])) tt
        refine XS.aload X28.here hx rfl (hb hby d9_48) rfl rfl ?_
        show Steps p.tables e below (T28.setTop (mkF m 50 #[.val (.ref va), .val (.long u1), .second, .val (.long u2), .second, .unset, .unset, .val (.ref pb), .val (.int oo_28)] [(.ref pb)])) tt
        refine XS.iload X28.here hx rfl (hb hby d9_50) rfl ?_
        exact kk
      obtain ⟨cl29, Ar29, Sl29⟩ := id V_pb
      have hin29 := inA (cl := cl29) Sl29 (j := oo_28) (own_idx hoo_28).1 (by rw [(own_idx hoo_28).2, own_len]; omega)
      have hat29 : cl29.slots[(oo_28).toNatClampNeg]? = some (.long (f i)) := atA Sl29 (by rw [(own_idx hoo_28).2]; exact own_get (by omega) (by omega))
      refine Goal.to (B := T28.setTop (mkF m 63 #[.val (.ref va), .val (.long u1), .second, .val (.long u2), .second, .val (.long (f i)), .second, .val (.ref pb), .val (.int oo_28)] [(.long ((f i) ||| u2)), (.int oo_28), (.ref pb)])) (fun tt kk => ?_) ?_
      · show Steps p.tables e below (T28.setTop (mkF m 52 #[.val (.ref va), .val (.long u1), .second, .val (.long u2), .second, .unset, .unset, .val (.ref pb), .val (.int oo_28)] [(.int oo_28), (.ref pb)])) tt
        refine X28.laload hx (j := oo_28) (v := (.long (f i))) (by rw [e28]; exact Ar29.1) (State.isArrayOf_alike hZ.alike Ar29.2.1) Ar29.2.2 hin29 hat29 (g := (mkF m 52 #[.val (.ref va), .val (.long u1), .second, .val (.long u2), .second, .unset, .unset, .val (.ref pb), .val (.int oo_28)] [(.int oo_28), (.ref pb)])) rfl rfl (hb hby d9_52) _ ?_
        show Steps p.tables e below (T28.setTop (mkF m 53 #[.val (.ref va), .val (.long u1), .second, .val (.long u2), .second, .unset, .unset, .val (.ref pb), .val (.int oo_28)] [(.long (f i))])) tt
        refine XS.lstore X28.here hx rfl (hb hby d9_53) rfl (l' := #[.val (.ref va), .val (.long u1), .second, .val (.long u2), .second, .val (.long (f i)), .second, .val (.ref pb), .val (.int oo_28)]) rfl ?_
        show Steps p.tables e below (T28.setTop (mkF m 55 #[.val (.ref va), .val (.long u1), .second, .val (.long u2), .second, .val (.long (f i)), .second, .val (.ref pb), .val (.int oo_28)] [])) tt
        refine XS.aload X28.here hx rfl (hb hby d9_55) rfl rfl ?_
        show Steps p.tables e below (T28.setTop (mkF m 57 #[.val (.ref va), .val (.long u1), .second, .val (.long u2), .second, .val (.long (f i)), .second, .val (.ref pb), .val (.int oo_28)] [(.ref pb)])) tt
        refine XS.iload X28.here hx rfl (hb hby d9_57) rfl ?_
        show Steps p.tables e below (T28.setTop (mkF m 59 #[.val (.ref va), .val (.long u1), .second, .val (.long u2), .second, .val (.long (f i)), .second, .val (.ref pb), .val (.int oo_28)] [(.int oo_28), (.ref pb)])) tt
        refine XS.lload X28.here hx rfl (hb hby d9_59) rfl ?_
        show Steps p.tables e below (T28.setTop (mkF m 61 #[.val (.ref va), .val (.long u1), .second, .val (.long u2), .second, .val (.long (f i)), .second, .val (.ref pb), .val (.int oo_28)] [(.long (f i)), (.int oo_28), (.ref pb)])) tt
        refine XS.lloadN X28.here hx rfl (hb hby d9_61) rfl ?_
        show Steps p.tables e below (T28.setTop (mkF m 62 #[.val (.ref va), .val (.long u1), .second, .val (.long u2), .second, .val (.long (f i)), .second, .val (.ref pb), .val (.int oo_28)] [(.long u2), (.long (f i)), (.int oo_28), (.ref pb)])) tt
        refine XS.lor X28.here hx rfl (hb hby d9_62) rfl ?_
        exact kk
      obtain ⟨cl30, Ar30, Sl30⟩ := id V_pb
      have hin30 := inA (cl := cl30) Sl30 (j := oo_28) (own_idx hoo_28).1 (by rw [(own_idx hoo_28).2, own_len]; omega)
      obtain ⟨T30, h30, X30, e30, W30, st30⟩ := stJ X28 hx hZ e28 Ar30 (j := oo_28) hin30 (g := (mkF m 63 #[.val (.ref va), .val (.long u1), .second, .val (.long u2), .second, .val (.long (f i)), .second, .val (.ref pb), .val (.int oo_28)] [(.long ((f i) ||| u2)), (.int oo_28), (.ref pb)])) rfl rfl (hb hby d9_63)
      have V30 : Ary Z h30 pb .long (((own_l f (hn + 32768) 2)).set ((i - hn - 32768)) (.long ((f i) ||| u2))) := Ary.put Ar30 Sl30 W30 (own_idx hoo_28).2
      have N30 := Fr.snoc X30 N28 g_pb
      refine Goal.to (B := T30.setTop (mkF m 64 #[.val (.ref va), .val (.long u1), .second, .val (.long u2), .second, .val (.long (f i)), .second, .val (.ref pb), .val (.int oo_28)] [])) st30 ?_
      refine Goal.to (B := T30.setTop (mkF m 66 #[.val (.ref va), .val (.long u1), .second, .val (.long u2), .second, .val (.long (f i)), .second, .val (.ref pb), .val (.int oo_28)] [(.long (f i))])) (fun tt kk => ?_) ?_
      · show Steps p.tables e below (T30.setTop (mkF m 64 #[.val (.ref va), .val (.long u1), .second, .val (.long u2), .second, .val (.long (f i)), .second, .val (.ref pb), .val (.int oo_28)] [])) tt
        refine XS.lload X30.here hx rfl (hb hby d9_64) rfl ?_
        exact kk
      have f31 : Keep h0 h30 [vh, pa, pb, vs] := ((Keep.refl h0 [vh, pa, pb, vs]).wr W30 (Or.inl (List.mem_of_getElem? (i := 2) rfl)))
      have f32 : Ary Z h30 vh .long (own_l f 0 hn) := (V_vh.other W30 ne_vh_pb)
      have f33 : Ary Z h30 pa .long (own_l f hn 32765) := (V_pa.other W30 ne_pa_pb)
      have f34 : Ary Z h30 vs .long (own_l f (hn + 32765) 3) := (V_vs.other W30 (Ne.symm ne_pb_vs))
      exact Goal.retV X30 hx Bd.returns rfl (Or.inr (Or.inl ⟨rfl, rfl, _, rfl⟩)) (hb hby d9_66) hlk e30 ⟨rfl, N30, f31, (Ary.cast f32 (by first | exact own_set (by omega) (by omega) | exact own_same (fun k hk => by omega) : ((own_l f 0 hn) : List Value) = (own_l (own_upd f i (f i ||| u2)) 0 hn))), (Ary.cast f33 (by first | exact own_set (by omega) (by omega) | exact own_same (fun k hk => by omega) : ((own_l f hn 32765) : List Value) = (own_l (own_upd f i (f i ||| u2)) hn 32765))), (Ary.cast V30 (by first | exact own_set (by omega) (by omega) | exact own_same (fun k hk => by omega) : ((((own_l f (hn + 32768) 2)).set ((i - hn - 32768)) (.long ((f i) ||| u2))) : List Value) = (own_l (own_upd f i (f i ||| u2)) (hn + 32768) 2))), (Ary.cast f34 (by first | exact own_set (by omega) (by omega) | exact own_same (fun k hk => by omega) : ((own_l f (hn + 32765) 3) : List Value) = (own_l (own_upd f i (f i ||| u2)) (hn + 32765) 3)))⟩ (by decide) (by decide)
theorem ef_0 (m : MethodId) (x0 : Int64) (x1 : Int64) (x2 : Int64) (x3 : Int64) (x4 : Int64) (x5 : Int64)  : entryFrame m #[(.long x0), (.long x1), (.long x2), (.long x3), (.long x4), (.long x5)] maxLocals = mkF m 0 #[.val (.long x0), .second, .val (.long x1), .second, .val (.long x2), .second, .val (.long x3), .second, .val (.long x4), .second, .val (.long x5), .second, .unset, .unset, .unset, .unset, .unset, .unset, .unset, .unset, .unset, .unset, .unset, .unset, .unset, .unset] [] := by first | (simp [entryFrame, mkF, argsToLocals, Value.category, maxLocals]; done) | rfl
theorem pn_0 : plainName "com/example/hedger/hedger/WordArrayGetAndBitwiseOrAlonePinLaw" = true := by first | (simp [plainName, overriddenIn]; done) | decide +kernel
theorem pd_0 : parseMethodDescriptor "(JJ)V" = some ⟨[.long, .long], none⟩ := by decide +kernel
theorem pd_5 : parseMethodDescriptor "(J)J" = some ⟨[.long], some .long⟩ := by decide +kernel
def Q0 (Z : State) (u0 : Int64) (u1 : Int64) (u2 : Int64) (u3 : Int64) (u4 : Int64) (u5 : Int64) (h0 : Heap) (n0 : Nat) (v : Option Value) (h : Heap) (L : List Loc) : Prop := v = some (.int (1 : Int32)) ∧ Fr n0 L
set_option maxRecDepth 65536 in
set_option maxHeartbeats 40000000 in
theorem rm0 (l : Launch) (Z : State) (a0 : Array Value) (hw : ∀ d ∈ tables_1, d.before a0 Z = true) (ws : List Jvm.Cond) (u0 : Int64) (u1 : Int64) (u2 : Int64) (u3 : Int64) (u4 : Int64) (u5 : Int64) (h0 : Heap) (n0 : Nat) (Z0 : n0 ≤ h0.size) :
    MetFree l x (head1 (Jvm.Cond.code x code maxLocals ret :: ws) room_1) (fun a U => a = #[(.long u0), (.long u1), (.long u2), (.long u3), (.long u4), (.long u5)] ∧ Z.Warmed39 U.vm ∧ U.heap = h0) (fun _ _ _ _ _ => True) (fun _ U o U' => ∃ v L, o = .returned v ∧ Q0 Z u0 u1 u2 u3 u4 u5 h0 n0 v U'.heap L ∧ FrameEnd U o U' L 24 65664) := by
  refine MetFree.of_bodySF (plainFor_of_name pn_0) hisR ?_
  intro p e s m args below meth c s₁ Bd hml0 hP hK
  obtain ⟨rfl, hZ, hh⟩ := hP
  have hx := Bd.exec
  have hby := Bd.bytes
  have hml : c.maxLocals = 26 := hml0
  have hown : s.vm.findClass "com/example/hedger/hedger/WordArrayGetAndBitwiseOrAlonePinLaw" = some m.cls := findClass_of_methodNamed Bd.named
  have hnm := (name_of_methodNamed Bd.named Bd.method).1
  have X0 : Stand p l e room_1 s m #[(.long u0), (.long u1), (.long u2), (.long u3), (.long u4), (.long u5)] below meth c s₁ [] 0 0 := Stand.of_body Bd
  have e0 : s₁.heap = h0 := by rw [← hh, Bd.state]; rfl
  have N0 := Fr.nil n0
  have hlk : meth.locks = false := BodyLoose.notSynchronized Bd
  show Goal p e below s (Q0 Z u0 u1 u2 u3 u4 u5 h0 n0) 24 65664 (s₁.setTop (entryFrame m #[(.long u0), (.long u1), (.long u2), (.long u3), (.long u4), (.long u5)] maxLocals))
  refine Goal.to (B := s₁.setTop (mkF m 0 #[.val (.long u0), .second, .val (.long u1), .second, .val (.long u2), .second, .val (.long u3), .second, .val (.long u4), .second, .val (.long u5), .second, .unset, .unset, .unset, .unset, .unset, .unset, .unset, .unset, .unset, .unset, .unset, .unset, .unset, .unset] [])) (fun tt kk => castTop (ef_0 m u0 u1 u2 u3 u4 u5 ) kk) ?_
  obtain ⟨hw0, hhw0⟩ : ∃ z : Int64, z = (u0 &&& (3 : Int64)) := ⟨_, rfl⟩
  refine Goal.to (B := s₁.setTop (mkF m 7 #[.val (.long u0), .second, .val (.long u1), .second, .val (.long u2), .second, .val (.long u3), .second, .val (.long u4), .second, .val (.long u5), .second, .val (.long hw0), .second, .unset, .unset, .unset, .unset, .unset, .unset, .unset, .unset, .unset, .unset, .unset, .unset] [])) (fun tt kk => ?_) ?_
  · subst hhw0
    show Steps p.tables e below (s₁.setTop (mkF m 0 #[.val (.long u0), .second, .val (.long u1), .second, .val (.long u2), .second, .val (.long u3), .second, .val (.long u4), .second, .val (.long u5), .second, .unset, .unset, .unset, .unset, .unset, .unset, .unset, .unset, .unset, .unset, .unset, .unset, .unset, .unset] [])) tt
    refine XS.lloadN X0.here hx rfl (hb hby at_0) rfl ?_
    show Steps p.tables e below (s₁.setTop (mkF m 1 #[.val (.long u0), .second, .val (.long u1), .second, .val (.long u2), .second, .val (.long u3), .second, .val (.long u4), .second, .val (.long u5), .second, .unset, .unset, .unset, .unset, .unset, .unset, .unset, .unset, .unset, .unset, .unset, .unset, .unset, .unset] [(.long u0)])) tt
    refine X0.ldc2Long hx hown (mvT hZ (hw _ (mw 0 rfl))) (g := (mkF m 1 #[.val (.long u0), .second, .val (.long u1), .second, .val (.long u2), .second, .val (.long u3), .second, .val (.long u4), .second, .val (.long u5), .second, .unset, .unset, .unset, .unset, .unset, .unset, .unset, .unset, .unset, .unset, .unset, .unset, .unset, .unset] [(.long u0)])) rfl (hb hby at_1) _ ?_
    show Steps p.tables e below (s₁.setTop (mkF m 4 #[.val (.long u0), .second, .val (.long u1), .second, .val (.long u2), .second, .val (.long u3), .second, .val (.long u4), .second, .val (.long u5), .second, .unset, .unset, .unset, .unset, .unset, .unset, .unset, .unset, .unset, .unset, .unset, .unset, .unset, .unset] [(.long (3 : Int64)), (.long u0)])) tt
    refine XS.land X0.here hx rfl (hb hby at_4) rfl ?_
    show Steps p.tables e below (s₁.setTop (mkF m 5 #[.val (.long u0), .second, .val (.long u1), .second, .val (.long u2), .second, .val (.long u3), .second, .val (.long u4), .second, .val (.long u5), .second, .unset, .unset, .unset, .unset, .unset, .unset, .unset, .unset, .unset, .unset, .unset, .unset, .unset, .unset] [(.long (u0 &&& (3 : Int64)))])) tt
    refine XS.lstore X0.here hx rfl (hb hby at_5) rfl (l' := #[.val (.long u0), .second, .val (.long u1), .second, .val (.long u2), .second, .val (.long u3), .second, .val (.long u4), .second, .val (.long u5), .second, .val (.long (u0 &&& (3 : Int64))), .second, .unset, .unset, .unset, .unset, .unset, .unset, .unset, .unset, .unset, .unset, .unset, .unset]) rfl ?_
    exact kk
  obtain ⟨hn, hHn⟩ := own_h hhw0
  obtain ⟨ct, hct⟩ : ∃ z : Int64, z = (hw0 + (32770 : Int64)) := ⟨_, rfl⟩
  refine Goal.to (B := s₁.setTop (mkF m 15 #[.val (.long u0), .second, .val (.long u1), .second, .val (.long u2), .second, .val (.long u3), .second, .val (.long u4), .second, .val (.long u5), .second, .val (.long hw0), .second, .val (.long ct), .second, .unset, .unset, .unset, .unset, .unset, .unset, .unset, .unset, .unset, .unset] [])) (fun tt kk => ?_) ?_
  · subst hct
    show Steps p.tables e below (s₁.setTop (mkF m 7 #[.val (.long u0), .second, .val (.long u1), .second, .val (.long u2), .second, .val (.long u3), .second, .val (.long u4), .second, .val (.long u5), .second, .val (.long hw0), .second, .unset, .unset, .unset, .unset, .unset, .unset, .unset, .unset, .unset, .unset, .unset, .unset] [])) tt
    refine XS.lload X0.here hx rfl (hb hby at_7) rfl ?_
    show Steps p.tables e below (s₁.setTop (mkF m 9 #[.val (.long u0), .second, .val (.long u1), .second, .val (.long u2), .second, .val (.long u3), .second, .val (.long u4), .second, .val (.long u5), .second, .val (.long hw0), .second, .unset, .unset, .unset, .unset, .unset, .unset, .unset, .unset, .unset, .unset, .unset, .unset] [(.long hw0)])) tt
    refine X0.ldc2Long hx hown (mvT hZ (hw _ (mw 1 rfl))) (g := (mkF m 9 #[.val (.long u0), .second, .val (.long u1), .second, .val (.long u2), .second, .val (.long u3), .second, .val (.long u4), .second, .val (.long u5), .second, .val (.long hw0), .second, .unset, .unset, .unset, .unset, .unset, .unset, .unset, .unset, .unset, .unset, .unset, .unset] [(.long hw0)])) rfl (hb hby at_9) _ ?_
    show Steps p.tables e below (s₁.setTop (mkF m 12 #[.val (.long u0), .second, .val (.long u1), .second, .val (.long u2), .second, .val (.long u3), .second, .val (.long u4), .second, .val (.long u5), .second, .val (.long hw0), .second, .unset, .unset, .unset, .unset, .unset, .unset, .unset, .unset, .unset, .unset, .unset, .unset] [(.long (32770 : Int64)), (.long hw0)])) tt
    refine XS.ladd X0.here hx rfl (hb hby at_12) rfl ?_
    show Steps p.tables e below (s₁.setTop (mkF m 13 #[.val (.long u0), .second, .val (.long u1), .second, .val (.long u2), .second, .val (.long u3), .second, .val (.long u4), .second, .val (.long u5), .second, .val (.long hw0), .second, .unset, .unset, .unset, .unset, .unset, .unset, .unset, .unset, .unset, .unset, .unset, .unset] [(.long (hw0 + (32770 : Int64)))])) tt
    refine XS.lstore X0.here hx rfl (hb hby at_13) rfl (l' := #[.val (.long u0), .second, .val (.long u1), .second, .val (.long u2), .second, .val (.long u3), .second, .val (.long u4), .second, .val (.long u5), .second, .val (.long hw0), .second, .val (.long (hw0 + (32770 : Int64))), .second, .unset, .unset, .unset, .unset, .unset, .unset, .unset, .unset, .unset, .unset]) rfl ?_
    exact kk
  have hCt := own_count hHn.1 hHn.2 hct
  obtain ⟨iw, hiw⟩ : ∃ z : Int64, z = ((((u0.toUInt64 >>> ((2 : Int32) &&& 0x3f).toInt64.toUInt64).toInt64) &&& (2147483647 : Int64)) - ((((u0.toUInt64 >>> ((2 : Int32) &&& 0x3f).toInt64.toUInt64).toInt64) &&& (2147483647 : Int64)) / ct) * ct) := ⟨_, rfl⟩
  refine Goal.to (B := s₁.setTop (mkF m 27 #[.val (.long u0), .second, .val (.long u1), .second, .val (.long u2), .second, .val (.long u3), .second, .val (.long u4), .second, .val (.long u5), .second, .val (.long hw0), .second, .val (.long ct), .second, .val (.long iw), .second, .unset, .unset, .unset, .unset, .unset, .unset, .unset, .unset] [])) (fun tt kk => ?_) ?_
  · subst hiw
    show Steps p.tables e below (s₁.setTop (mkF m 15 #[.val (.long u0), .second, .val (.long u1), .second, .val (.long u2), .second, .val (.long u3), .second, .val (.long u4), .second, .val (.long u5), .second, .val (.long hw0), .second, .val (.long ct), .second, .unset, .unset, .unset, .unset, .unset, .unset, .unset, .unset, .unset, .unset] [])) tt
    refine XS.lloadN X0.here hx rfl (hb hby at_15) rfl ?_
    show Steps p.tables e below (s₁.setTop (mkF m 16 #[.val (.long u0), .second, .val (.long u1), .second, .val (.long u2), .second, .val (.long u3), .second, .val (.long u4), .second, .val (.long u5), .second, .val (.long hw0), .second, .val (.long ct), .second, .unset, .unset, .unset, .unset, .unset, .unset, .unset, .unset, .unset, .unset] [(.long u0)])) tt
    refine XS.iconst X0.here hx rfl (hb hby at_16) ?_
    show Steps p.tables e below (s₁.setTop (mkF m 17 #[.val (.long u0), .second, .val (.long u1), .second, .val (.long u2), .second, .val (.long u3), .second, .val (.long u4), .second, .val (.long u5), .second, .val (.long hw0), .second, .val (.long ct), .second, .unset, .unset, .unset, .unset, .unset, .unset, .unset, .unset, .unset, .unset] [(.int (2 : Int32)), (.long u0)])) tt
    refine XS.lushr X0.here hx rfl (hb hby at_17) rfl ?_
    show Steps p.tables e below (s₁.setTop (mkF m 18 #[.val (.long u0), .second, .val (.long u1), .second, .val (.long u2), .second, .val (.long u3), .second, .val (.long u4), .second, .val (.long u5), .second, .val (.long hw0), .second, .val (.long ct), .second, .unset, .unset, .unset, .unset, .unset, .unset, .unset, .unset, .unset, .unset] [(.long ((u0.toUInt64 >>> ((2 : Int32) &&& 0x3f).toInt64.toUInt64).toInt64))])) tt
    refine X0.ldc2Long hx hown (mvT hZ (hw _ (mw 2 rfl))) (g := (mkF m 18 #[.val (.long u0), .second, .val (.long u1), .second, .val (.long u2), .second, .val (.long u3), .second, .val (.long u4), .second, .val (.long u5), .second, .val (.long hw0), .second, .val (.long ct), .second, .unset, .unset, .unset, .unset, .unset, .unset, .unset, .unset, .unset, .unset] [(.long ((u0.toUInt64 >>> ((2 : Int32) &&& 0x3f).toInt64.toUInt64).toInt64))])) rfl (hb hby at_18) _ ?_
    show Steps p.tables e below (s₁.setTop (mkF m 21 #[.val (.long u0), .second, .val (.long u1), .second, .val (.long u2), .second, .val (.long u3), .second, .val (.long u4), .second, .val (.long u5), .second, .val (.long hw0), .second, .val (.long ct), .second, .unset, .unset, .unset, .unset, .unset, .unset, .unset, .unset, .unset, .unset] [(.long (2147483647 : Int64)), (.long ((u0.toUInt64 >>> ((2 : Int32) &&& 0x3f).toInt64.toUInt64).toInt64))])) tt
    refine XS.land X0.here hx rfl (hb hby at_21) rfl ?_
    show Steps p.tables e below (s₁.setTop (mkF m 22 #[.val (.long u0), .second, .val (.long u1), .second, .val (.long u2), .second, .val (.long u3), .second, .val (.long u4), .second, .val (.long u5), .second, .val (.long hw0), .second, .val (.long ct), .second, .unset, .unset, .unset, .unset, .unset, .unset, .unset, .unset, .unset, .unset] [(.long (((u0.toUInt64 >>> ((2 : Int32) &&& 0x3f).toInt64.toUInt64).toInt64) &&& (2147483647 : Int64)))])) tt
    refine XS.lload X0.here hx rfl (hb hby at_22) rfl ?_
    show Steps p.tables e below (s₁.setTop (mkF m 24 #[.val (.long u0), .second, .val (.long u1), .second, .val (.long u2), .second, .val (.long u3), .second, .val (.long u4), .second, .val (.long u5), .second, .val (.long hw0), .second, .val (.long ct), .second, .unset, .unset, .unset, .unset, .unset, .unset, .unset, .unset, .unset, .unset] [(.long ct), (.long (((u0.toUInt64 >>> ((2 : Int32) &&& 0x3f).toInt64.toUInt64).toInt64) &&& (2147483647 : Int64)))])) tt
    refine XS.lrem X0.here hx rfl (hb hby at_24) rfl (by intro q; have := congrArg Int64.toInt q; rw [hCt.1] at this; simp at this; omega) ?_
    show Steps p.tables e below (s₁.setTop (mkF m 25 #[.val (.long u0), .second, .val (.long u1), .second, .val (.long u2), .second, .val (.long u3), .second, .val (.long u4), .second, .val (.long u5), .second, .val (.long hw0), .second, .val (.long ct), .second, .unset, .unset, .unset, .unset, .unset, .unset, .unset, .unset, .unset, .unset] [(.long ((((u0.toUInt64 >>> ((2 : Int32) &&& 0x3f).toInt64.toUInt64).toInt64) &&& (2147483647 : Int64)) - ((((u0.toUInt64 >>> ((2 : Int32) &&& 0x3f).toInt64.toUInt64).toInt64) &&& (2147483647 : Int64)) / ct) * ct))])) tt
    refine XS.lstore X0.here hx rfl (hb hby at_25) rfl (l' := #[.val (.long u0), .second, .val (.long u1), .second, .val (.long u2), .second, .val (.long u3), .second, .val (.long u4), .second, .val (.long u5), .second, .val (.long hw0), .second, .val (.long ct), .second, .val (.long ((((u0.toUInt64 >>> ((2 : Int32) &&& 0x3f).toInt64.toUInt64).toInt64) &&& (2147483647 : Int64)) - ((((u0.toUInt64 >>> ((2 : Int32) &&& 0x3f).toInt64.toUInt64).toInt64) &&& (2147483647 : Int64)) / ct) * ct)), .second, .unset, .unset, .unset, .unset, .unset, .unset, .unset, .unset]) rfl ?_
    exact kk
  obtain ⟨ii, hI⟩ := own_at hCt.1 (by omega) own_m hiw
  obtain ⟨jw, hjw⟩ : ∃ z : Int64, z = ((u1 &&& (2147483647 : Int64)) - ((u1 &&& (2147483647 : Int64)) / ct) * ct) := ⟨_, rfl⟩
  refine Goal.to (B := s₁.setTop (mkF m 37 #[.val (.long u0), .second, .val (.long u1), .second, .val (.long u2), .second, .val (.long u3), .second, .val (.long u4), .second, .val (.long u5), .second, .val (.long hw0), .second, .val (.long ct), .second, .val (.long iw), .second, .val (.long jw), .second, .unset, .unset, .unset, .unset, .unset, .unset] [])) (fun tt kk => ?_) ?_
  · subst hjw
    show Steps p.tables e below (s₁.setTop (mkF m 27 #[.val (.long u0), .second, .val (.long u1), .second, .val (.long u2), .second, .val (.long u3), .second, .val (.long u4), .second, .val (.long u5), .second, .val (.long hw0), .second, .val (.long ct), .second, .val (.long iw), .second, .unset, .unset, .unset, .unset, .unset, .unset, .unset, .unset] [])) tt
    refine XS.lloadN X0.here hx rfl (hb hby at_27) rfl ?_
    show Steps p.tables e below (s₁.setTop (mkF m 28 #[.val (.long u0), .second, .val (.long u1), .second, .val (.long u2), .second, .val (.long u3), .second, .val (.long u4), .second, .val (.long u5), .second, .val (.long hw0), .second, .val (.long ct), .second, .val (.long iw), .second, .unset, .unset, .unset, .unset, .unset, .unset, .unset, .unset] [(.long u1)])) tt
    refine X0.ldc2Long hx hown (mvT hZ (hw _ (mw 2 rfl))) (g := (mkF m 28 #[.val (.long u0), .second, .val (.long u1), .second, .val (.long u2), .second, .val (.long u3), .second, .val (.long u4), .second, .val (.long u5), .second, .val (.long hw0), .second, .val (.long ct), .second, .val (.long iw), .second, .unset, .unset, .unset, .unset, .unset, .unset, .unset, .unset] [(.long u1)])) rfl (hb hby at_28) _ ?_
    show Steps p.tables e below (s₁.setTop (mkF m 31 #[.val (.long u0), .second, .val (.long u1), .second, .val (.long u2), .second, .val (.long u3), .second, .val (.long u4), .second, .val (.long u5), .second, .val (.long hw0), .second, .val (.long ct), .second, .val (.long iw), .second, .unset, .unset, .unset, .unset, .unset, .unset, .unset, .unset] [(.long (2147483647 : Int64)), (.long u1)])) tt
    refine XS.land X0.here hx rfl (hb hby at_31) rfl ?_
    show Steps p.tables e below (s₁.setTop (mkF m 32 #[.val (.long u0), .second, .val (.long u1), .second, .val (.long u2), .second, .val (.long u3), .second, .val (.long u4), .second, .val (.long u5), .second, .val (.long hw0), .second, .val (.long ct), .second, .val (.long iw), .second, .unset, .unset, .unset, .unset, .unset, .unset, .unset, .unset] [(.long (u1 &&& (2147483647 : Int64)))])) tt
    refine XS.lload X0.here hx rfl (hb hby at_32) rfl ?_
    show Steps p.tables e below (s₁.setTop (mkF m 34 #[.val (.long u0), .second, .val (.long u1), .second, .val (.long u2), .second, .val (.long u3), .second, .val (.long u4), .second, .val (.long u5), .second, .val (.long hw0), .second, .val (.long ct), .second, .val (.long iw), .second, .unset, .unset, .unset, .unset, .unset, .unset, .unset, .unset] [(.long ct), (.long (u1 &&& (2147483647 : Int64)))])) tt
    refine XS.lrem X0.here hx rfl (hb hby at_34) rfl (by intro q; have := congrArg Int64.toInt q; rw [hCt.1] at this; simp at this; omega) ?_
    show Steps p.tables e below (s₁.setTop (mkF m 35 #[.val (.long u0), .second, .val (.long u1), .second, .val (.long u2), .second, .val (.long u3), .second, .val (.long u4), .second, .val (.long u5), .second, .val (.long hw0), .second, .val (.long ct), .second, .val (.long iw), .second, .unset, .unset, .unset, .unset, .unset, .unset, .unset, .unset] [(.long ((u1 &&& (2147483647 : Int64)) - ((u1 &&& (2147483647 : Int64)) / ct) * ct))])) tt
    refine XS.lstore X0.here hx rfl (hb hby at_35) rfl (l' := #[.val (.long u0), .second, .val (.long u1), .second, .val (.long u2), .second, .val (.long u3), .second, .val (.long u4), .second, .val (.long u5), .second, .val (.long hw0), .second, .val (.long ct), .second, .val (.long iw), .second, .val (.long ((u1 &&& (2147483647 : Int64)) - ((u1 &&& (2147483647 : Int64)) / ct) * ct)), .second, .unset, .unset, .unset, .unset, .unset, .unset]) rfl ?_
    exact kk
  obtain ⟨T1, h1, X1, e1, E1, A1, D1, -, st1⟩ := newO X0 hx hZ hown (hw _ (mw 3 rfl)) (hw _ (mw 4 rfl)) (hw _ (mw 5 rfl)) e0 (g := (mkF m 37 #[.val (.long u0), .second, .val (.long u1), .second, .val (.long u2), .second, .val (.long u3), .second, .val (.long u4), .second, .val (.long u5), .second, .val (.long hw0), .second, .val (.long ct), .second, .val (.long iw), .second, .val (.long jw), .second, .unset, .unset, .unset, .unset, .unset, .unset] [])) rfl (hb hby at_37) (by decide) (by decide)
  obtain ⟨b1, g1⟩ : ∃ z, z = h0.size := ⟨_, rfl⟩
  rw [← g1] at A1 D1 st1
  have g_b1 : n0 ≤ b1 := Nat.le_trans Z0 (Nat.le_of_eq g1.symm)
  have F_wordCount_b1 : Fld Z h1 b1 "com/example/hedger/hedger/WordArray" "wordCount" "J" (.long (0 : Int64)) := D1 (Or.inr (hw _ (mw 13 rfl))) (ty := .long) (by decide)
  have F_head_b1 : Fld Z h1 b1 "com/example/hedger/hedger/WordArray" "head" "[J" .null := D1 (Or.inr (hw _ (mw 16 rfl))) (ty := (.array .long)) (by decide)
  have F_pages_b1 : Fld Z h1 b1 "com/example/hedger/hedger/WordArray" "pages" "[[J" .null := D1 (Or.inr (hw _ (mw 24 rfl))) (ty := (.array (.array .long))) (by decide)
  have F_spares_b1 : Fld Z h1 b1 "com/example/hedger/hedger/WordArray" "spares" "[J" .null := D1 (Or.inr (hw _ (mw 43 rfl))) (ty := (.array .long)) (by decide)
  refine Goal.to (B := T1.setTop (mkF m 40 #[.val (.long u0), .second, .val (.long u1), .second, .val (.long u2), .second, .val (.long u3), .second, .val (.long u4), .second, .val (.long u5), .second, .val (.long hw0), .second, .val (.long ct), .second, .val (.long iw), .second, .val (.long jw), .second, .unset, .unset, .unset, .unset, .unset, .unset] [(.ref b1)])) st1 ?_
  obtain ⟨jj, hJ⟩ := own_at hCt.1 (by omega) own_m hjw
  refine Goal.to (B := T1.setTop (mkF m 45 #[.val (.long u0), .second, .val (.long u1), .second, .val (.long u2), .second, .val (.long u3), .second, .val (.long u4), .second, .val (.long u5), .second, .val (.long hw0), .second, .val (.long ct), .second, .val (.long iw), .second, .val (.long jw), .second, .unset, .unset, .unset, .unset, .unset, .unset] [(.long hw0), (.long ct), (.ref b1), (.ref b1)])) (fun tt kk => ?_) ?_
  · show Steps p.tables e below (T1.setTop (mkF m 40 #[.val (.long u0), .second, .val (.long u1), .second, .val (.long u2), .second, .val (.long u3), .second, .val (.long u4), .second, .val (.long u5), .second, .val (.long hw0), .second, .val (.long ct), .second, .val (.long iw), .second, .val (.long jw), .second, .unset, .unset, .unset, .unset, .unset, .unset] [(.ref b1)])) tt
    refine XS.dup X1.here hx rfl (hb hby at_40) rfl rfl ?_
    show Steps p.tables e below (T1.setTop (mkF m 41 #[.val (.long u0), .second, .val (.long u1), .second, .val (.long u2), .second, .val (.long u3), .second, .val (.long u4), .second, .val (.long u5), .second, .val (.long hw0), .second, .val (.long ct), .second, .val (.long iw), .second, .val (.long jw), .second, .unset, .unset, .unset, .unset, .unset, .unset] [(.ref b1), (.ref b1)])) tt
    refine XS.lload X1.here hx rfl (hb hby at_41) rfl ?_
    show Steps p.tables e below (T1.setTop (mkF m 43 #[.val (.long u0), .second, .val (.long u1), .second, .val (.long u2), .second, .val (.long u3), .second, .val (.long u4), .second, .val (.long u5), .second, .val (.long hw0), .second, .val (.long ct), .second, .val (.long iw), .second, .val (.long jw), .second, .unset, .unset, .unset, .unset, .unset, .unset] [(.long ct), (.ref b1), (.ref b1)])) tt
    refine XS.lload X1.here hx rfl (hb hby at_43) rfl ?_
    exact kk
  have f2 : n0 ≤ h1.size := (Nat.le_trans Z0 E1.1)
  obtain ⟨_, _, ⟨T3, L3, k3, n3⟩, -, X3, ⟨Lc3, hQ3, l3, y3, z3⟩, st3⟩ := X1.specialBack hx (y := (⟨"com/example/hedger/hedger/WordArray", "<init>", "(JJ)V"⟩ : MethodName)) rfl hown (mvT hZ (hw _ (mw 6 rfl))) (mvT hZ (hw _ (mw 7 rfl))) (mvT hZ (hw _ (mw 8 rfl))) (by decide) (backOf (W := 1) (rmN l Z a0 hw [] b1 hn ct hw0 h1 n0 f2 A1 F_wordCount_b1 F_head_b1 F_pages_b1 F_spares_b1 g_b1 hHn.1 hHn.2 hCt.2) hZ (hw _ (mw 8 rfl)) (hw _ (mw 5 rfl)) (by decide) (by decide)) (g := (mkF m 45 #[.val (.long u0), .second, .val (.long u1), .second, .val (.long u2), .second, .val (.long u3), .second, .val (.long u4), .second, .val (.long u5), .second, .val (.long hw0), .second, .val (.long ct), .second, .val (.long iw), .second, .val (.long jw), .second, .unset, .unset, .unset, .unset, .unset, .unset] [(.long hw0), (.long ct), (.ref b1), (.ref b1)])) rfl (by rw [hml]; rfl) (Steps.refl _) (a := b1) (argsL := [(.long ct), (.long hw0)]) (rest := [(.ref b1)]) (lenOf pd_0 rfl) rfl (by show 2 * 0 + _ ≤ _; exact Nat.le_of_eq rfl) (hb hby at_45) (fun _ _ => ⟨rfl, e1, (by decide : 1 + 5 ≤ _), (by decide : 4 + 32775 ≤ _)⟩)
  dsimp only [Pt.U, Pt.locs, Pt.cells, Pt.slots] at X3 l3 y3 z3 st3 hQ3
  subst l3 y3 z3
  obtain ⟨vh_3, vp_3, pa_3, pb_3, vs_3, rfl, N3q, K3, sz3_vh, sz3_vp, sz3_pa, sz3_pb, sz3_vs, ne3_vh_vp, ne3_vh_pa, ne3_vh_pb, ne3_vh_vs, ne3_vp_pa, ne3_vp_pb, ne3_vp_vs, ne3_pa_pb, ne3_pa_vs, ne3_pb_vs, P3_0, P3_1, P3_2, P3_3, P3_4, P3_5, P3_6, P3_7⟩ := hQ3
  have N3 := Fr.app N0 N3q
  have ne_b1_vh_3 : b1 ≠ vh_3 := Nat.ne_of_lt (Nat.lt_of_lt_of_le A1.lt sz3_vh)
  have g_vh_3 : n0 ≤ vh_3 := Nat.le_trans f2 sz3_vh
  have ne_b1_vp_3 : b1 ≠ vp_3 := Nat.ne_of_lt (Nat.lt_of_lt_of_le A1.lt sz3_vp)
  have g_vp_3 : n0 ≤ vp_3 := Nat.le_trans f2 sz3_vp
  have ne_b1_pa_3 : b1 ≠ pa_3 := Nat.ne_of_lt (Nat.lt_of_lt_of_le A1.lt sz3_pa)
  have g_pa_3 : n0 ≤ pa_3 := Nat.le_trans f2 sz3_pa
  have ne_b1_pb_3 : b1 ≠ pb_3 := Nat.ne_of_lt (Nat.lt_of_lt_of_le A1.lt sz3_pb)
  have g_pb_3 : n0 ≤ pb_3 := Nat.le_trans f2 sz3_pb
  have ne_b1_vs_3 : b1 ≠ vs_3 := Nat.ne_of_lt (Nat.lt_of_lt_of_le A1.lt sz3_vs)
  have g_vs_3 : n0 ≤ vs_3 := Nat.le_trans f2 sz3_vs
  refine Goal.tr (B := T3.setTop (mkF m 48 #[.val (.long u0), .second, .val (.long u1), .second, .val (.long u2), .second, .val (.long u3), .second, .val (.long u4), .second, .val (.long u5), .second, .val (.long hw0), .second, .val (.long ct), .second, .val (.long iw), .second, .val (.long jw), .second, .unset, .unset, .unset, .unset, .unset, .unset] [(.ref b1)])) st3 ?_
  refine Goal.to (B := T3.setTop (mkF m 56 #[.val (.long u0), .second, .val (.long u1), .second, .val (.long u2), .second, .val (.long u3), .second, .val (.long u4), .second, .val (.long u5), .second, .val (.long hw0), .second, .val (.long ct), .second, .val (.long iw), .second, .val (.long jw), .second, .val (.ref b1), .unset, .unset, .unset, .unset, .unset] [(.long u3), (.long jw), (.ref b1)])) (fun tt kk => ?_) ?_
  · show Steps p.tables e below (T3.setTop (mkF m 48 #[.val (.long u0), .second, .val (.long u1), .second, .val (.long u2), .second, .val (.long u3), .second, .val (.long u4), .second, .val (.long u5), .second, .val (.long hw0), .second, .val (.long ct), .second, .val (.long iw), .second, .val (.long jw), .second, .unset, .unset, .unset, .unset, .unset, .unset] [(.ref b1)])) tt
    refine XS.astore X3.here hx rfl (hb hby at_48) rfl rfl (l' := #[.val (.long u0), .second, .val (.long u1), .second, .val (.long u2), .second, .val (.long u3), .second, .val (.long u4), .second, .val (.long u5), .second, .val (.long hw0), .second, .val (.long ct), .second, .val (.long iw), .second, .val (.long jw), .second, .val (.ref b1), .unset, .unset, .unset, .unset, .unset]) rfl ?_
    show Steps p.tables e below (T3.setTop (mkF m 50 #[.val (.long u0), .second, .val (.long u1), .second, .val (.long u2), .second, .val (.long u3), .second, .val (.long u4), .second, .val (.long u5), .second, .val (.long hw0), .second, .val (.long ct), .second, .val (.long iw), .second, .val (.long jw), .second, .val (.ref b1), .unset, .unset, .unset, .unset, .unset] [])) tt
    refine XS.aload X3.here hx rfl (hb hby at_50) rfl rfl ?_
    show Steps p.tables e below (T3.setTop (mkF m 52 #[.val (.long u0), .second, .val (.long u1), .second, .val (.long u2), .second, .val (.long u3), .second, .val (.long u4), .second, .val (.long u5), .second, .val (.long hw0), .second, .val (.long ct), .second, .val (.long iw), .second, .val (.long jw), .second, .val (.ref b1), .unset, .unset, .unset, .unset, .unset] [(.ref b1)])) tt
    refine XS.lload X3.here hx rfl (hb hby at_52) rfl ?_
    show Steps p.tables e below (T3.setTop (mkF m 54 #[.val (.long u0), .second, .val (.long u1), .second, .val (.long u2), .second, .val (.long u3), .second, .val (.long u4), .second, .val (.long u5), .second, .val (.long hw0), .second, .val (.long ct), .second, .val (.long iw), .second, .val (.long jw), .second, .val (.ref b1), .unset, .unset, .unset, .unset, .unset] [(.long jw), (.ref b1)])) tt
    refine XS.lload X3.here hx rfl (hb hby at_54) rfl ?_
    exact kk
  have f4 : Exa Z T3.heap b1 "com/example/hedger/hedger/WordArray" := (A1.keep K3)
  have f5 : n0 ≤ T3.heap.size := (Nat.le_trans f2 K3.1)
  obtain ⟨cq6, kq6, q6a, q6b, q6c⟩ := isOf hZ rfl f4
  obtain ⟨_, _, ⟨T6, L6, k6, n6⟩, -, X6, ⟨Lc6, hQ6, l6, y6, z6⟩, st6⟩ := X3.virtualBack hx (y := (⟨"com/example/hedger/hedger/WordArray", "setPlain", "(JJ)V"⟩ : MethodName)) (z := (⟨"com/example/hedger/hedger/WordArray", "setPlain", "(JJ)V"⟩ : MethodName)) hown (mvT hZ (hw _ (mw 44 rfl))) (mvT hZ (hw _ (mw 45 rfl))) (notFace_of_selects (args := #[]) (mvT hZ (hw _ (mw 47 rfl)))) (mvT hZ (hw _ (mw 47 rfl))) (mvT hZ (hw _ (mw 46 rfl))) (by decide) (backOf (W := 0) (rmsp l Z a0 hw [] b1 vh_3 vp_3 pa_3 pb_3 vs_3 hn (fun _ => (0 : Int64)) jj jw u3 T3.heap n0 f5 f4 P3_0 P3_1 P3_2 P3_3 P3_4 P3_5 P3_6 P3_7 g_vh_3 g_pa_3 g_pb_3 g_vs_3 ne3_vh_vp ne3_vh_pa ne3_vh_pb ne3_vh_vs ne3_vp_pa ne3_vp_pb ne3_vp_vs ne3_pa_pb ne3_pa_vs ne3_pb_vs ne_b1_vh_3 ne_b1_pa_3 ne_b1_pb_3 ne_b1_vs_3 hHn.1 hJ.1 hJ.2) hZ (hw _ (mw 48 rfl)) (hw _ (mw 5 rfl)) (by decide) (by decide)) q6a q6c (g := (mkF m 56 #[.val (.long u0), .second, .val (.long u1), .second, .val (.long u2), .second, .val (.long u3), .second, .val (.long u4), .second, .val (.long u5), .second, .val (.long hw0), .second, .val (.long ct), .second, .val (.long iw), .second, .val (.long jw), .second, .val (.ref b1), .unset, .unset, .unset, .unset, .unset] [(.long u3), (.long jw), (.ref b1)])) rfl (by rw [hml]; rfl) (Steps.refl _) (argsL := [(.long jw), (.long u3)]) (rest := []) (lenOf pd_0 rfl) rfl (by show 2 * 0 + _ ≤ _; exact Nat.le_of_eq rfl) (hb hby at_56) (fun _ _ => ⟨rfl, rfl, (by decide : 6 + 0 ≤ _), (by decide : 32779 + 0 ≤ _)⟩)
  dsimp only [Pt.U, Pt.locs, Pt.cells, Pt.slots] at X6 l6 y6 z6 st6 hQ6
  subst l6 y6 z6
  obtain ⟨rfl, N6q, K6, P6_0, P6_1, P6_2, P6_3⟩ := hQ6
  have N6 := Fr.app N3 N6q
  refine Goal.tr (B := T6.setTop (mkF m 59 #[.val (.long u0), .second, .val (.long u1), .second, .val (.long u2), .second, .val (.long u3), .second, .val (.long u4), .second, .val (.long u5), .second, .val (.long hw0), .second, .val (.long ct), .second, .val (.long iw), .second, .val (.long jw), .second, .val (.ref b1), .unset, .unset, .unset, .unset, .unset] [])) st6 ?_
  refine Goal.to (B := T6.setTop (mkF m 65 #[.val (.long u0), .second, .val (.long u1), .second, .val (.long u2), .second, .val (.long u3), .second, .val (.long u4), .second, .val (.long u5), .second, .val (.long hw0), .second, .val (.long ct), .second, .val (.long iw), .second, .val (.long jw), .second, .val (.ref b1), .unset, .unset, .unset, .unset, .unset] [(.long u2), (.long iw), (.ref b1)])) (fun tt kk => ?_) ?_
  · show Steps p.tables e below (T6.setTop (mkF m 59 #[.val (.long u0), .second, .val (.long u1), .second, .val (.long u2), .second, .val (.long u3), .second, .val (.long u4), .second, .val (.long u5), .second, .val (.long hw0), .second, .val (.long ct), .second, .val (.long iw), .second, .val (.long jw), .second, .val (.ref b1), .unset, .unset, .unset, .unset, .unset] [])) tt
    refine XS.aload X6.here hx rfl (hb hby at_59) rfl rfl ?_
    show Steps p.tables e below (T6.setTop (mkF m 61 #[.val (.long u0), .second, .val (.long u1), .second, .val (.long u2), .second, .val (.long u3), .second, .val (.long u4), .second, .val (.long u5), .second, .val (.long hw0), .second, .val (.long ct), .second, .val (.long iw), .second, .val (.long jw), .second, .val (.ref b1), .unset, .unset, .unset, .unset, .unset] [(.ref b1)])) tt
    refine XS.lload X6.here hx rfl (hb hby at_61) rfl ?_
    show Steps p.tables e below (T6.setTop (mkF m 63 #[.val (.long u0), .second, .val (.long u1), .second, .val (.long u2), .second, .val (.long u3), .second, .val (.long u4), .second, .val (.long u5), .second, .val (.long hw0), .second, .val (.long ct), .second, .val (.long iw), .second, .val (.long jw), .second, .val (.ref b1), .unset, .unset, .unset, .unset, .unset] [(.long iw), (.ref b1)])) tt
    refine XS.lload X6.here hx rfl (hb hby at_63) rfl ?_
    exact kk
  have f7 : Exa Z T6.heap b1 "com/example/hedger/hedger/WordArray" := (f4.keep K6)
  have f8 : Fld Z T6.heap b1 "com/example/hedger/hedger/WordArray" "head" "[J" (.ref vh_3) := (P3_0.keep K6 (ninS ne_b1_vh_3 (ninS ne_b1_pa_3 (ninS ne_b1_pb_3 (ninS ne_b1_vs_3 nin0)))))
  have f9 : Fld Z T6.heap b1 "com/example/hedger/hedger/WordArray" "pages" "[[J" (.ref vp_3) := (P3_1.keep K6 (ninS ne_b1_vh_3 (ninS ne_b1_pa_3 (ninS ne_b1_pb_3 (ninS ne_b1_vs_3 nin0)))))
  have f10 : Fld Z T6.heap b1 "com/example/hedger/hedger/WordArray" "spares" "[J" (.ref vs_3) := (P3_2.keep K6 (ninS ne_b1_vh_3 (ninS ne_b1_pa_3 (ninS ne_b1_pb_3 (ninS ne_b1_vs_3 nin0)))))
  have f11 : Ary Z T6.heap vp_3 (.array .long) [(.ref pa_3), (.ref pb_3)] := (P3_4.keep K6 (ninS (Ne.symm ne3_vh_vp) (ninS ne3_vp_pa (ninS ne3_vp_pb (ninS ne3_vp_vs nin0)))))
  have f12 : n0 ≤ T6.heap.size := (Nat.le_trans f5 K6.1)
  obtain ⟨cq13, kq13, q13a, q13b, q13c⟩ := isOf hZ rfl f7
  obtain ⟨_, _, ⟨T13, L13, k13, n13⟩, -, X13, ⟨Lc13, hQ13, l13, y13, z13⟩, st13⟩ := X6.virtualBack hx (y := (⟨"com/example/hedger/hedger/WordArray", "setPlain", "(JJ)V"⟩ : MethodName)) (z := (⟨"com/example/hedger/hedger/WordArray", "setPlain", "(JJ)V"⟩ : MethodName)) hown (mvT hZ (hw _ (mw 44 rfl))) (mvT hZ (hw _ (mw 45 rfl))) (notFace_of_selects (args := #[]) (mvT hZ (hw _ (mw 47 rfl)))) (mvT hZ (hw _ (mw 47 rfl))) (mvT hZ (hw _ (mw 46 rfl))) (by decide) (backOf (W := 0) (rmsp l Z a0 hw [] b1 vh_3 vp_3 pa_3 pb_3 vs_3 hn (own_upd (fun _ => (0 : Int64)) jj u3) ii iw u2 T6.heap n0 f12 f7 f8 f9 f10 P6_0 f11 P6_1 P6_2 P6_3 g_vh_3 g_pa_3 g_pb_3 g_vs_3 ne3_vh_vp ne3_vh_pa ne3_vh_pb ne3_vh_vs ne3_vp_pa ne3_vp_pb ne3_vp_vs ne3_pa_pb ne3_pa_vs ne3_pb_vs ne_b1_vh_3 ne_b1_pa_3 ne_b1_pb_3 ne_b1_vs_3 hHn.1 hI.1 hI.2) hZ (hw _ (mw 48 rfl)) (hw _ (mw 5 rfl)) (by decide) (by decide)) q13a q13c (g := (mkF m 65 #[.val (.long u0), .second, .val (.long u1), .second, .val (.long u2), .second, .val (.long u3), .second, .val (.long u4), .second, .val (.long u5), .second, .val (.long hw0), .second, .val (.long ct), .second, .val (.long iw), .second, .val (.long jw), .second, .val (.ref b1), .unset, .unset, .unset, .unset, .unset] [(.long u2), (.long iw), (.ref b1)])) rfl (by rw [hml]; rfl) (Steps.refl _) (argsL := [(.long iw), (.long u2)]) (rest := []) (lenOf pd_0 rfl) rfl (by show 2 * 0 + _ ≤ _; exact Nat.le_of_eq rfl) (hb hby at_65) (fun _ _ => ⟨rfl, rfl, (by decide : 6 + 0 ≤ _), (by decide : 32779 + 0 ≤ _)⟩)
  dsimp only [Pt.U, Pt.locs, Pt.cells, Pt.slots] at X13 l13 y13 z13 st13 hQ13
  subst l13 y13 z13
  obtain ⟨rfl, N13q, K13, P13_0, P13_1, P13_2, P13_3⟩ := hQ13
  have N13 := Fr.app N6 N13q
  refine Goal.tr (B := T13.setTop (mkF m 68 #[.val (.long u0), .second, .val (.long u1), .second, .val (.long u2), .second, .val (.long u3), .second, .val (.long u4), .second, .val (.long u5), .second, .val (.long hw0), .second, .val (.long ct), .second, .val (.long iw), .second, .val (.long jw), .second, .val (.ref b1), .unset, .unset, .unset, .unset, .unset] [])) st13 ?_
  refine Goal.to (B := T13.setTop (mkF m 74 #[.val (.long u0), .second, .val (.long u1), .second, .val (.long u2), .second, .val (.long u3), .second, .val (.long u4), .second, .val (.long u5), .second, .val (.long hw0), .second, .val (.long ct), .second, .val (.long iw), .second, .val (.long jw), .second, .val (.ref b1), .unset, .unset, .unset, .unset, .unset] [(.long u4), (.long iw), (.ref b1)])) (fun tt kk => ?_) ?_
  · show Steps p.tables e below (T13.setTop (mkF m 68 #[.val (.long u0), .second, .val (.long u1), .second, .val (.long u2), .second, .val (.long u3), .second, .val (.long u4), .second, .val (.long u5), .second, .val (.long hw0), .second, .val (.long ct), .second, .val (.long iw), .second, .val (.long jw), .second, .val (.ref b1), .unset, .unset, .unset, .unset, .unset] [])) tt
    refine XS.aload X13.here hx rfl (hb hby at_68) rfl rfl ?_
    show Steps p.tables e below (T13.setTop (mkF m 70 #[.val (.long u0), .second, .val (.long u1), .second, .val (.long u2), .second, .val (.long u3), .second, .val (.long u4), .second, .val (.long u5), .second, .val (.long hw0), .second, .val (.long ct), .second, .val (.long iw), .second, .val (.long jw), .second, .val (.ref b1), .unset, .unset, .unset, .unset, .unset] [(.ref b1)])) tt
    refine XS.lload X13.here hx rfl (hb hby at_70) rfl ?_
    show Steps p.tables e below (T13.setTop (mkF m 72 #[.val (.long u0), .second, .val (.long u1), .second, .val (.long u2), .second, .val (.long u3), .second, .val (.long u4), .second, .val (.long u5), .second, .val (.long hw0), .second, .val (.long ct), .second, .val (.long iw), .second, .val (.long jw), .second, .val (.ref b1), .unset, .unset, .unset, .unset, .unset] [(.long iw), (.ref b1)])) tt
    refine XS.lload X13.here hx rfl (hb hby at_72) rfl ?_
    exact kk
  have f14 : Exa Z T13.heap b1 "com/example/hedger/hedger/WordArray" := (f7.keep K13)
  have f15 : Fld Z T13.heap b1 "com/example/hedger/hedger/WordArray" "head" "[J" (.ref vh_3) := (f8.keep K13 (ninS ne_b1_vh_3 (ninS ne_b1_pa_3 (ninS ne_b1_pb_3 (ninS ne_b1_vs_3 nin0)))))
  have f16 : Fld Z T13.heap b1 "com/example/hedger/hedger/WordArray" "pages" "[[J" (.ref vp_3) := (f9.keep K13 (ninS ne_b1_vh_3 (ninS ne_b1_pa_3 (ninS ne_b1_pb_3 (ninS ne_b1_vs_3 nin0)))))
  have f17 : Fld Z T13.heap b1 "com/example/hedger/hedger/WordArray" "spares" "[J" (.ref vs_3) := (f10.keep K13 (ninS ne_b1_vh_3 (ninS ne_b1_pa_3 (ninS ne_b1_pb_3 (ninS ne_b1_vs_3 nin0)))))
  have f18 : Ary Z T13.heap vp_3 (.array .long) [(.ref pa_3), (.ref pb_3)] := (f11.keep K13 (ninS (Ne.symm ne3_vh_vp) (ninS ne3_vp_pa (ninS ne3_vp_pb (ninS ne3_vp_vs nin0)))))
  have f19 : n0 ≤ T13.heap.size := (Nat.le_trans f12 K13.1)
  obtain ⟨cq20, kq20, q20a, q20b, q20c⟩ := isOf hZ rfl f14
  obtain ⟨_, _, ⟨T20, L20, k20, n20⟩, -, X20, ⟨Lc20, hQ20, l20, y20, z20⟩, st20⟩ := X13.virtualBack hx (y := (⟨"com/example/hedger/hedger/WordArray", "getAndBitwiseOrAlone", "(JJ)J"⟩ : MethodName)) (z := (⟨"com/example/hedger/hedger/WordArray", "getAndBitwiseOrAlone", "(JJ)J"⟩ : MethodName)) hown (mvT hZ (hw _ (mw 49 rfl))) (mvT hZ (hw _ (mw 50 rfl))) (notFace_of_selects (args := #[]) (mvT hZ (hw _ (mw 52 rfl)))) (mvT hZ (hw _ (mw 52 rfl))) (mvT hZ (hw _ (mw 51 rfl))) (by decide) (backOf (W := 0) (rmgo l Z a0 hw [] b1 vh_3 vp_3 pa_3 pb_3 vs_3 hn (own_upd (own_upd (fun _ => (0 : Int64)) jj u3) ii u2) ii iw u4 T13.heap n0 f19 f14 f15 f16 f17 P13_0 f18 P13_1 P13_2 P13_3 g_vh_3 g_pa_3 g_pb_3 g_vs_3 ne3_vh_vp ne3_vh_pa ne3_vh_pb ne3_vh_vs ne3_vp_pa ne3_vp_pb ne3_vp_vs ne3_pa_pb ne3_pa_vs ne3_pb_vs ne_b1_vh_3 ne_b1_pa_3 ne_b1_pb_3 ne_b1_vs_3 hHn.1 hI.1 hI.2) hZ (hw _ (mw 53 rfl)) (hw _ (mw 5 rfl)) (by decide) (by decide)) q20a q20c (g := (mkF m 74 #[.val (.long u0), .second, .val (.long u1), .second, .val (.long u2), .second, .val (.long u3), .second, .val (.long u4), .second, .val (.long u5), .second, .val (.long hw0), .second, .val (.long ct), .second, .val (.long iw), .second, .val (.long jw), .second, .val (.ref b1), .unset, .unset, .unset, .unset, .unset] [(.long u4), (.long iw), (.ref b1)])) rfl (by rw [hml]; rfl) (Steps.refl _) (argsL := [(.long iw), (.long u4)]) (rest := []) (lenOf pd_4 rfl) rfl (by show 2 * 0 + _ ≤ _; exact Nat.le_of_eq rfl) (hb hby at_74) (fun _ _ => ⟨rfl, rfl, (by decide : 6 + 0 ≤ _), (by decide : 32779 + 0 ≤ _)⟩)
  dsimp only [Pt.U, Pt.locs, Pt.cells, Pt.slots] at X20 l20 y20 z20 st20 hQ20
  subst l20 y20 z20
  obtain ⟨rfl, N20q, K20, P20_0, P20_1, P20_2, P20_3⟩ := hQ20
  have N20 := Fr.app N13 N20q
  refine Goal.tr (B := T20.setTop (mkF m 77 #[.val (.long u0), .second, .val (.long u1), .second, .val (.long u2), .second, .val (.long u3), .second, .val (.long u4), .second, .val (.long u5), .second, .val (.long hw0), .second, .val (.long ct), .second, .val (.long iw), .second, .val (.long jw), .second, .val (.ref b1), .unset, .unset, .unset, .unset, .unset] [(.long ((own_upd (own_upd (fun _ => (0 : Int64)) jj u3) ii u2) ii))])) st20 ?_
  refine Goal.to (B := T20.setTop (mkF m 91 #[.val (.long u0), .second, .val (.long u1), .second, .val (.long u2), .second, .val (.long u3), .second, .val (.long u4), .second, .val (.long u5), .second, .val (.long hw0), .second, .val (.long ct), .second, .val (.long iw), .second, .val (.long jw), .second, .val (.ref b1), .val (.long ((own_upd (own_upd (fun _ => (0 : Int64)) jj u3) ii u2) ii)), .second, .unset, .unset, .unset] [(.long iw), (.ref b1)])) (fun tt kk => ?_) ?_
  · show Steps p.tables e below (T20.setTop (mkF m 77 #[.val (.long u0), .second, .val (.long u1), .second, .val (.long u2), .second, .val (.long u3), .second, .val (.long u4), .second, .val (.long u5), .second, .val (.long hw0), .second, .val (.long ct), .second, .val (.long iw), .second, .val (.long jw), .second, .val (.ref b1), .unset, .unset, .unset, .unset, .unset] [(.long ((own_upd (own_upd (fun _ => (0 : Int64)) jj u3) ii u2) ii))])) tt
    refine XS.lstore X20.here hx rfl (hb hby at_77) rfl (l' := #[.val (.long u0), .second, .val (.long u1), .second, .val (.long u2), .second, .val (.long u3), .second, .val (.long u4), .second, .val (.long u5), .second, .val (.long hw0), .second, .val (.long ct), .second, .val (.long iw), .second, .val (.long jw), .second, .val (.ref b1), .val (.long ((own_upd (own_upd (fun _ => (0 : Int64)) jj u3) ii u2) ii)), .second, .unset, .unset, .unset]) rfl ?_
    show Steps p.tables e below (T20.setTop (mkF m 79 #[.val (.long u0), .second, .val (.long u1), .second, .val (.long u2), .second, .val (.long u3), .second, .val (.long u4), .second, .val (.long u5), .second, .val (.long hw0), .second, .val (.long ct), .second, .val (.long iw), .second, .val (.long jw), .second, .val (.ref b1), .val (.long ((own_upd (own_upd (fun _ => (0 : Int64)) jj u3) ii u2) ii)), .second, .unset, .unset, .unset] [])) tt
    refine XS.lload X20.here hx rfl (hb hby at_79) rfl ?_
    show Steps p.tables e below (T20.setTop (mkF m 81 #[.val (.long u0), .second, .val (.long u1), .second, .val (.long u2), .second, .val (.long u3), .second, .val (.long u4), .second, .val (.long u5), .second, .val (.long hw0), .second, .val (.long ct), .second, .val (.long iw), .second, .val (.long jw), .second, .val (.ref b1), .val (.long ((own_upd (own_upd (fun _ => (0 : Int64)) jj u3) ii u2) ii)), .second, .unset, .unset, .unset] [(.long ((own_upd (own_upd (fun _ => (0 : Int64)) jj u3) ii u2) ii))])) tt
    refine XS.lload X20.here hx rfl (hb hby at_81) rfl ?_
    show Steps p.tables e below (T20.setTop (mkF m 83 #[.val (.long u0), .second, .val (.long u1), .second, .val (.long u2), .second, .val (.long u3), .second, .val (.long u4), .second, .val (.long u5), .second, .val (.long hw0), .second, .val (.long ct), .second, .val (.long iw), .second, .val (.long jw), .second, .val (.ref b1), .val (.long ((own_upd (own_upd (fun _ => (0 : Int64)) jj u3) ii u2) ii)), .second, .unset, .unset, .unset] [(.long u2), (.long ((own_upd (own_upd (fun _ => (0 : Int64)) jj u3) ii u2) ii))])) tt
    refine XS.lcmp X20.here hx rfl (hb hby at_83) rfl ?_
    show Steps p.tables e below (T20.setTop (mkF m 84 #[.val (.long u0), .second, .val (.long u1), .second, .val (.long u2), .second, .val (.long u3), .second, .val (.long u4), .second, .val (.long u5), .second, .val (.long hw0), .second, .val (.long ct), .second, .val (.long iw), .second, .val (.long jw), .second, .val (.ref b1), .val (.long ((own_upd (own_upd (fun _ => (0 : Int64)) jj u3) ii u2) ii)), .second, .unset, .unset, .unset] [(.int (lcmpW ((own_upd (own_upd (fun _ => (0 : Int64)) jj u3) ii u2) ii) u2))])) tt
    refine XS.ifNo X20.here hx rfl (hb hby at_84) rfl ((if0 _ _).trans (teq ((lw_eq _ _).mpr (by simp [own_upd]) : (lcmpW ((own_upd (own_upd (fun _ => (0 : Int64)) jj u3) ii u2) ii) u2) = (0 : Int32))).2) ?_
    show Steps p.tables e below (T20.setTop (mkF m 87 #[.val (.long u0), .second, .val (.long u1), .second, .val (.long u2), .second, .val (.long u3), .second, .val (.long u4), .second, .val (.long u5), .second, .val (.long hw0), .second, .val (.long ct), .second, .val (.long iw), .second, .val (.long jw), .second, .val (.ref b1), .val (.long ((own_upd (own_upd (fun _ => (0 : Int64)) jj u3) ii u2) ii)), .second, .unset, .unset, .unset] [])) tt
    refine XS.aload X20.here hx rfl (hb hby at_87) rfl rfl ?_
    show Steps p.tables e below (T20.setTop (mkF m 89 #[.val (.long u0), .second, .val (.long u1), .second, .val (.long u2), .second, .val (.long u3), .second, .val (.long u4), .second, .val (.long u5), .second, .val (.long hw0), .second, .val (.long ct), .second, .val (.long iw), .second, .val (.long jw), .second, .val (.ref b1), .val (.long ((own_upd (own_upd (fun _ => (0 : Int64)) jj u3) ii u2) ii)), .second, .unset, .unset, .unset] [(.ref b1)])) tt
    refine XS.lload X20.here hx rfl (hb hby at_89) rfl ?_
    exact kk
  have f21 : Exa Z T20.heap b1 "com/example/hedger/hedger/WordArray" := (f14.keep K20)
  have f22 : Fld Z T20.heap b1 "com/example/hedger/hedger/WordArray" "head" "[J" (.ref vh_3) := (f15.keep K20 (ninS ne_b1_vh_3 (ninS ne_b1_pa_3 (ninS ne_b1_pb_3 (ninS ne_b1_vs_3 nin0)))))
  have f23 : Fld Z T20.heap b1 "com/example/hedger/hedger/WordArray" "pages" "[[J" (.ref vp_3) := (f16.keep K20 (ninS ne_b1_vh_3 (ninS ne_b1_pa_3 (ninS ne_b1_pb_3 (ninS ne_b1_vs_3 nin0)))))
  have f24 : Fld Z T20.heap b1 "com/example/hedger/hedger/WordArray" "spares" "[J" (.ref vs_3) := (f17.keep K20 (ninS ne_b1_vh_3 (ninS ne_b1_pa_3 (ninS ne_b1_pb_3 (ninS ne_b1_vs_3 nin0)))))
  have f25 : Ary Z T20.heap vp_3 (.array .long) [(.ref pa_3), (.ref pb_3)] := (f18.keep K20 (ninS (Ne.symm ne3_vh_vp) (ninS ne3_vp_pa (ninS ne3_vp_pb (ninS ne3_vp_vs nin0)))))
  have f26 : n0 ≤ T20.heap.size := (Nat.le_trans f19 K20.1)
  obtain ⟨cq27, kq27, q27a, q27b, q27c⟩ := isOf hZ rfl f21
  obtain ⟨_, _, ⟨T27, L27, k27, n27⟩, -, X27, ⟨Lc27, hQ27, l27, y27, z27⟩, st27⟩ := X20.virtualBack hx (y := (⟨"com/example/hedger/hedger/WordArray", "getPlain", "(J)J"⟩ : MethodName)) (z := (⟨"com/example/hedger/hedger/WordArray", "getPlain", "(J)J"⟩ : MethodName)) hown (mvT hZ (hw _ (mw 54 rfl))) (mvT hZ (hw _ (mw 55 rfl))) (notFace_of_selects (args := #[]) (mvT hZ (hw _ (mw 57 rfl)))) (mvT hZ (hw _ (mw 57 rfl))) (mvT hZ (hw _ (mw 56 rfl))) (by decide) (backOf (W := 0) (rmgp l Z a0 hw [] b1 vh_3 vp_3 pa_3 pb_3 vs_3 hn (own_upd (own_upd (own_upd (fun _ => (0 : Int64)) jj u3) ii u2) ii ((own_upd (own_upd (fun _ => (0 : Int64)) jj u3) ii u2) ii ||| u4)) ii iw T20.heap n0 f26 f21 f22 f23 f24 P20_0 f25 P20_1 P20_2 P20_3 hHn.1 hI.1 hI.2) hZ (hw _ (mw 58 rfl)) (hw _ (mw 5 rfl)) (by decide) (by decide)) q27a q27c (g := (mkF m 91 #[.val (.long u0), .second, .val (.long u1), .second, .val (.long u2), .second, .val (.long u3), .second, .val (.long u4), .second, .val (.long u5), .second, .val (.long hw0), .second, .val (.long ct), .second, .val (.long iw), .second, .val (.long jw), .second, .val (.ref b1), .val (.long ((own_upd (own_upd (fun _ => (0 : Int64)) jj u3) ii u2) ii)), .second, .unset, .unset, .unset] [(.long iw), (.ref b1)])) rfl (by rw [hml]; rfl) (Steps.refl _) (argsL := [(.long iw)]) (rest := []) (lenOf pd_5 rfl) rfl (by show 2 * 0 + _ ≤ _; exact Nat.le_of_eq rfl) (hb hby at_91) (fun _ _ => ⟨rfl, rfl, (by decide : 6 + 0 ≤ _), (by decide : 32779 + 0 ≤ _)⟩)
  dsimp only [Pt.U, Pt.locs, Pt.cells, Pt.slots] at X27 l27 y27 z27 st27 hQ27
  subst l27 y27 z27
  obtain ⟨rfl, N27q, e27⟩ := hQ27
  have N27 := Fr.app N20 N27q
  refine Goal.tr (B := T27.setTop (mkF m 94 #[.val (.long u0), .second, .val (.long u1), .second, .val (.long u2), .second, .val (.long u3), .second, .val (.long u4), .second, .val (.long u5), .second, .val (.long hw0), .second, .val (.long ct), .second, .val (.long iw), .second, .val (.long jw), .second, .val (.ref b1), .val (.long ((own_upd (own_upd (fun _ => (0 : Int64)) jj u3) ii u2) ii)), .second, .unset, .unset, .unset] [(.long ((own_upd (own_upd (own_upd (fun _ => (0 : Int64)) jj u3) ii u2) ii ((own_upd (own_upd (fun _ => (0 : Int64)) jj u3) ii u2) ii ||| u4)) ii))])) st27 ?_
  refine Goal.to (B := T27.setTop (mkF m 115 #[.val (.long u0), .second, .val (.long u1), .second, .val (.long u2), .second, .val (.long u3), .second, .val (.long u4), .second, .val (.long u5), .second, .val (.long hw0), .second, .val (.long ct), .second, .val (.long iw), .second, .val (.long jw), .second, .val (.ref b1), .val (.long ((own_upd (own_upd (fun _ => (0 : Int64)) jj u3) ii u2) ii)), .second, .val (.int (1 : Int32)), .unset, .unset] [(.int (lcmpW iw jw))])) (fun tt kk => ?_) ?_
  · show Steps p.tables e below (T27.setTop (mkF m 94 #[.val (.long u0), .second, .val (.long u1), .second, .val (.long u2), .second, .val (.long u3), .second, .val (.long u4), .second, .val (.long u5), .second, .val (.long hw0), .second, .val (.long ct), .second, .val (.long iw), .second, .val (.long jw), .second, .val (.ref b1), .val (.long ((own_upd (own_upd (fun _ => (0 : Int64)) jj u3) ii u2) ii)), .second, .unset, .unset, .unset] [(.long ((own_upd (own_upd (own_upd (fun _ => (0 : Int64)) jj u3) ii u2) ii ((own_upd (own_upd (fun _ => (0 : Int64)) jj u3) ii u2) ii ||| u4)) ii))])) tt
    refine XS.lload X27.here hx rfl (hb hby at_94) rfl ?_
    show Steps p.tables e below (T27.setTop (mkF m 96 #[.val (.long u0), .second, .val (.long u1), .second, .val (.long u2), .second, .val (.long u3), .second, .val (.long u4), .second, .val (.long u5), .second, .val (.long hw0), .second, .val (.long ct), .second, .val (.long iw), .second, .val (.long jw), .second, .val (.ref b1), .val (.long ((own_upd (own_upd (fun _ => (0 : Int64)) jj u3) ii u2) ii)), .second, .unset, .unset, .unset] [(.long u2), (.long ((own_upd (own_upd (own_upd (fun _ => (0 : Int64)) jj u3) ii u2) ii ((own_upd (own_upd (fun _ => (0 : Int64)) jj u3) ii u2) ii ||| u4)) ii))])) tt
    refine XS.lload X27.here hx rfl (hb hby at_96) rfl ?_
    show Steps p.tables e below (T27.setTop (mkF m 98 #[.val (.long u0), .second, .val (.long u1), .second, .val (.long u2), .second, .val (.long u3), .second, .val (.long u4), .second, .val (.long u5), .second, .val (.long hw0), .second, .val (.long ct), .second, .val (.long iw), .second, .val (.long jw), .second, .val (.ref b1), .val (.long ((own_upd (own_upd (fun _ => (0 : Int64)) jj u3) ii u2) ii)), .second, .unset, .unset, .unset] [(.long u4), (.long u2), (.long ((own_upd (own_upd (own_upd (fun _ => (0 : Int64)) jj u3) ii u2) ii ((own_upd (own_upd (fun _ => (0 : Int64)) jj u3) ii u2) ii ||| u4)) ii))])) tt
    refine XS.lor X27.here hx rfl (hb hby at_98) rfl ?_
    show Steps p.tables e below (T27.setTop (mkF m 99 #[.val (.long u0), .second, .val (.long u1), .second, .val (.long u2), .second, .val (.long u3), .second, .val (.long u4), .second, .val (.long u5), .second, .val (.long hw0), .second, .val (.long ct), .second, .val (.long iw), .second, .val (.long jw), .second, .val (.ref b1), .val (.long ((own_upd (own_upd (fun _ => (0 : Int64)) jj u3) ii u2) ii)), .second, .unset, .unset, .unset] [(.long (u2 ||| u4)), (.long ((own_upd (own_upd (own_upd (fun _ => (0 : Int64)) jj u3) ii u2) ii ((own_upd (own_upd (fun _ => (0 : Int64)) jj u3) ii u2) ii ||| u4)) ii))])) tt
    refine XS.lcmp X27.here hx rfl (hb hby at_99) rfl ?_
    show Steps p.tables e below (T27.setTop (mkF m 100 #[.val (.long u0), .second, .val (.long u1), .second, .val (.long u2), .second, .val (.long u3), .second, .val (.long u4), .second, .val (.long u5), .second, .val (.long hw0), .second, .val (.long ct), .second, .val (.long iw), .second, .val (.long jw), .second, .val (.ref b1), .val (.long ((own_upd (own_upd (fun _ => (0 : Int64)) jj u3) ii u2) ii)), .second, .unset, .unset, .unset] [(.int (lcmpW ((own_upd (own_upd (own_upd (fun _ => (0 : Int64)) jj u3) ii u2) ii ((own_upd (own_upd (fun _ => (0 : Int64)) jj u3) ii u2) ii ||| u4)) ii) (u2 ||| u4)))])) tt
    refine XS.ifNo X27.here hx rfl (hb hby at_100) rfl ((if0 _ _).trans (teq ((lw_eq _ _).mpr (by simp [own_upd]) : (lcmpW ((own_upd (own_upd (own_upd (fun _ => (0 : Int64)) jj u3) ii u2) ii ((own_upd (own_upd (fun _ => (0 : Int64)) jj u3) ii u2) ii ||| u4)) ii) (u2 ||| u4)) = (0 : Int32))).2) ?_
    show Steps p.tables e below (T27.setTop (mkF m 103 #[.val (.long u0), .second, .val (.long u1), .second, .val (.long u2), .second, .val (.long u3), .second, .val (.long u4), .second, .val (.long u5), .second, .val (.long hw0), .second, .val (.long ct), .second, .val (.long iw), .second, .val (.long jw), .second, .val (.ref b1), .val (.long ((own_upd (own_upd (fun _ => (0 : Int64)) jj u3) ii u2) ii)), .second, .unset, .unset, .unset] [])) tt
    refine XS.iconst X27.here hx rfl (hb hby at_103) ?_
    show Steps p.tables e below (T27.setTop (mkF m 104 #[.val (.long u0), .second, .val (.long u1), .second, .val (.long u2), .second, .val (.long u3), .second, .val (.long u4), .second, .val (.long u5), .second, .val (.long hw0), .second, .val (.long ct), .second, .val (.long iw), .second, .val (.long jw), .second, .val (.ref b1), .val (.long ((own_upd (own_upd (fun _ => (0 : Int64)) jj u3) ii u2) ii)), .second, .unset, .unset, .unset] [(.int (1 : Int32))])) tt
    refine XS.goto X27.here hx rfl (pc0 := 104) (pc' := 108) rfl (hb hby at_104) (by decide) (by decide) ?_
    show Steps p.tables e below (T27.setTop (mkF m 108 #[.val (.long u0), .second, .val (.long u1), .second, .val (.long u2), .second, .val (.long u3), .second, .val (.long u4), .second, .val (.long u5), .second, .val (.long hw0), .second, .val (.long ct), .second, .val (.long iw), .second, .val (.long jw), .second, .val (.ref b1), .val (.long ((own_upd (own_upd (fun _ => (0 : Int64)) jj u3) ii u2) ii)), .second, .unset, .unset, .unset] [(.int (1 : Int32))])) tt
    refine XS.istore X27.here hx rfl (hb hby at_108) rfl (l' := #[.val (.long u0), .second, .val (.long u1), .second, .val (.long u2), .second, .val (.long u3), .second, .val (.long u4), .second, .val (.long u5), .second, .val (.long hw0), .second, .val (.long ct), .second, .val (.long iw), .second, .val (.long jw), .second, .val (.ref b1), .val (.long ((own_upd (own_upd (fun _ => (0 : Int64)) jj u3) ii u2) ii)), .second, .val (.int (1 : Int32)), .unset, .unset]) rfl ?_
    show Steps p.tables e below (T27.setTop (mkF m 110 #[.val (.long u0), .second, .val (.long u1), .second, .val (.long u2), .second, .val (.long u3), .second, .val (.long u4), .second, .val (.long u5), .second, .val (.long hw0), .second, .val (.long ct), .second, .val (.long iw), .second, .val (.long jw), .second, .val (.ref b1), .val (.long ((own_upd (own_upd (fun _ => (0 : Int64)) jj u3) ii u2) ii)), .second, .val (.int (1 : Int32)), .unset, .unset] [])) tt
    refine XS.lload X27.here hx rfl (hb hby at_110) rfl ?_
    show Steps p.tables e below (T27.setTop (mkF m 112 #[.val (.long u0), .second, .val (.long u1), .second, .val (.long u2), .second, .val (.long u3), .second, .val (.long u4), .second, .val (.long u5), .second, .val (.long hw0), .second, .val (.long ct), .second, .val (.long iw), .second, .val (.long jw), .second, .val (.ref b1), .val (.long ((own_upd (own_upd (fun _ => (0 : Int64)) jj u3) ii u2) ii)), .second, .val (.int (1 : Int32)), .unset, .unset] [(.long iw)])) tt
    refine XS.lload X27.here hx rfl (hb hby at_112) rfl ?_
    show Steps p.tables e below (T27.setTop (mkF m 114 #[.val (.long u0), .second, .val (.long u1), .second, .val (.long u2), .second, .val (.long u3), .second, .val (.long u4), .second, .val (.long u5), .second, .val (.long hw0), .second, .val (.long ct), .second, .val (.long iw), .second, .val (.long jw), .second, .val (.ref b1), .val (.long ((own_upd (own_upd (fun _ => (0 : Int64)) jj u3) ii u2) ii)), .second, .val (.int (1 : Int32)), .unset, .unset] [(.long jw), (.long iw)])) tt
    refine XS.lcmp X27.here hx rfl (hb hby at_114) rfl ?_
    exact kk
  by_cases hcij : (lcmpW iw jw) = (0 : Int32)
  · refine Goal.to (B := T27.setTop (mkF m 149 #[.val (.long u0), .second, .val (.long u1), .second, .val (.long u2), .second, .val (.long u3), .second, .val (.long u4), .second, .val (.long u5), .second, .val (.long hw0), .second, .val (.long ct), .second, .val (.long iw), .second, .val (.long jw), .second, .val (.ref b1), .val (.long ((own_upd (own_upd (fun _ => (0 : Int64)) jj u3) ii u2) ii)), .second, .val (.int (1 : Int32)), .unset, .unset] [(.long u5), (.long iw), (.ref b1)])) (fun tt kk => ?_) ?_
    · show Steps p.tables e below (T27.setTop (mkF m 115 #[.val (.long u0), .second, .val (.long u1), .second, .val (.long u2), .second, .val (.long u3), .second, .val (.long u4), .second, .val (.long u5), .second, .val (.long hw0), .second, .val (.long ct), .second, .val (.long iw), .second, .val (.long jw), .second, .val (.ref b1), .val (.long ((own_upd (own_upd (fun _ => (0 : Int64)) jj u3) ii u2) ii)), .second, .val (.int (1 : Int32)), .unset, .unset] [(.int (lcmpW iw jw))])) tt
      refine XS.ifYes X27.here hx rfl (pc0 := 115) (pc' := 143) rfl (hb hby at_115) rfl ((if0 _ _).trans (teq hcij).1) (by decide) (by decide) ?_
      show Steps p.tables e below (T27.setTop (mkF m 143 #[.val (.long u0), .second, .val (.long u1), .second, .val (.long u2), .second, .val (.long u3), .second, .val (.long u4), .second, .val (.long u5), .second, .val (.long hw0), .second, .val (.long ct), .second, .val (.long iw), .second, .val (.long jw), .second, .val (.ref b1), .val (.long ((own_upd (own_upd (fun _ => (0 : Int64)) jj u3) ii u2) ii)), .second, .val (.int (1 : Int32)), .unset, .unset] [])) tt
      refine XS.aload X27.here hx rfl (hb hby at_143) rfl rfl ?_
      show Steps p.tables e below (T27.setTop (mkF m 145 #[.val (.long u0), .second, .val (.long u1), .second, .val (.long u2), .second, .val (.long u3), .second, .val (.long u4), .second, .val (.long u5), .second, .val (.long hw0), .second, .val (.long ct), .second, .val (.long iw), .second, .val (.long jw), .second, .val (.ref b1), .val (.long ((own_upd (own_upd (fun _ => (0 : Int64)) jj u3) ii u2) ii)), .second, .val (.int (1 : Int32)), .unset, .unset] [(.ref b1)])) tt
      refine XS.lload X27.here hx rfl (hb hby at_145) rfl ?_
      show Steps p.tables e below (T27.setTop (mkF m 147 #[.val (.long u0), .second, .val (.long u1), .second, .val (.long u2), .second, .val (.long u3), .second, .val (.long u4), .second, .val (.long u5), .second, .val (.long hw0), .second, .val (.long ct), .second, .val (.long iw), .second, .val (.long jw), .second, .val (.ref b1), .val (.long ((own_upd (own_upd (fun _ => (0 : Int64)) jj u3) ii u2) ii)), .second, .val (.int (1 : Int32)), .unset, .unset] [(.long iw), (.ref b1)])) tt
      refine XS.lload X27.here hx rfl (hb hby at_147) rfl ?_
      exact kk
    obtain ⟨cq28, kq28, q28a, q28b, q28c⟩ := isOf hZ e27 f21
    obtain ⟨_, _, ⟨T28, L28, k28, n28⟩, -, X28, ⟨Lc28, hQ28, l28, y28, z28⟩, st28⟩ := X27.virtualBack hx (y := (⟨"com/example/hedger/hedger/WordArray", "getAndBitwiseOrAlone", "(JJ)J"⟩ : MethodName)) (z := (⟨"com/example/hedger/hedger/WordArray", "getAndBitwiseOrAlone", "(JJ)J"⟩ : MethodName)) hown (mvT hZ (hw _ (mw 49 rfl))) (mvT hZ (hw _ (mw 50 rfl))) (notFace_of_selects (args := #[]) (mvT hZ (hw _ (mw 52 rfl)))) (mvT hZ (hw _ (mw 52 rfl))) (mvT hZ (hw _ (mw 51 rfl))) (by decide) (backOf (W := 0) (rmgo l Z a0 hw [] b1 vh_3 vp_3 pa_3 pb_3 vs_3 hn (own_upd (own_upd (own_upd (fun _ => (0 : Int64)) jj u3) ii u2) ii ((own_upd (own_upd (fun _ => (0 : Int64)) jj u3) ii u2) ii ||| u4)) ii iw u5 T20.heap n0 f26 f21 f22 f23 f24 P20_0 f25 P20_1 P20_2 P20_3 g_vh_3 g_pa_3 g_pb_3 g_vs_3 ne3_vh_vp ne3_vh_pa ne3_vh_pb ne3_vh_vs ne3_vp_pa ne3_vp_pb ne3_vp_vs ne3_pa_pb ne3_pa_vs ne3_pb_vs ne_b1_vh_3 ne_b1_pa_3 ne_b1_pb_3 ne_b1_vs_3 hHn.1 hI.1 hI.2) hZ (hw _ (mw 53 rfl)) (hw _ (mw 5 rfl)) (by decide) (by decide)) q28a q28c (g := (mkF m 149 #[.val (.long u0), .second, .val (.long u1), .second, .val (.long u2), .second, .val (.long u3), .second, .val (.long u4), .second, .val (.long u5), .second, .val (.long hw0), .second, .val (.long ct), .second, .val (.long iw), .second, .val (.long jw), .second, .val (.ref b1), .val (.long ((own_upd (own_upd (fun _ => (0 : Int64)) jj u3) ii u2) ii)), .second, .val (.int (1 : Int32)), .unset, .unset] [(.long u5), (.long iw), (.ref b1)])) rfl (by rw [hml]; rfl) (Steps.refl _) (argsL := [(.long iw), (.long u5)]) (rest := []) (lenOf pd_4 rfl) rfl (by show 2 * 0 + _ ≤ _; exact Nat.le_of_eq rfl) (hb hby at_149) (fun _ _ => ⟨rfl, e27, (by decide : 6 + 0 ≤ _), (by decide : 32779 + 0 ≤ _)⟩)
    dsimp only [Pt.U, Pt.locs, Pt.cells, Pt.slots] at X28 l28 y28 z28 st28 hQ28
    subst l28 y28 z28
    obtain ⟨rfl, N28q, K28, P28_0, P28_1, P28_2, P28_3⟩ := hQ28
    have N28 := Fr.app N27 N28q
    refine Goal.tr (B := T28.setTop (mkF m 152 #[.val (.long u0), .second, .val (.long u1), .second, .val (.long u2), .second, .val (.long u3), .second, .val (.long u4), .second, .val (.long u5), .second, .val (.long hw0), .second, .val (.long ct), .second, .val (.long iw), .second, .val (.long jw), .second, .val (.ref b1), .val (.long ((own_upd (own_upd (fun _ => (0 : Int64)) jj u3) ii u2) ii)), .second, .val (.int (1 : Int32)), .unset, .unset] [(.long ((own_upd (own_upd (own_upd (fun _ => (0 : Int64)) jj u3) ii u2) ii ((own_upd (own_upd (fun _ => (0 : Int64)) jj u3) ii u2) ii ||| u4)) ii))])) st28 ?_
    refine Goal.to (B := T28.setTop (mkF m 174 #[.val (.long u0), .second, .val (.long u1), .second, .val (.long u2), .second, .val (.long u3), .second, .val (.long u4), .second, .val (.long u5), .second, .val (.long hw0), .second, .val (.long ct), .second, .val (.long iw), .second, .val (.long jw), .second, .val (.ref b1), .val (.long ((own_upd (own_upd (fun _ => (0 : Int64)) jj u3) ii u2) ii)), .second, .val (.int (1 : Int32)), .val (.long ((own_upd (own_upd (own_upd (fun _ => (0 : Int64)) jj u3) ii u2) ii ((own_upd (own_upd (fun _ => (0 : Int64)) jj u3) ii u2) ii ||| u4)) ii)), .second] [(.long iw), (.ref b1)])) (fun tt kk => ?_) ?_
    · show Steps p.tables e below (T28.setTop (mkF m 152 #[.val (.long u0), .second, .val (.long u1), .second, .val (.long u2), .second, .val (.long u3), .second, .val (.long u4), .second, .val (.long u5), .second, .val (.long hw0), .second, .val (.long ct), .second, .val (.long iw), .second, .val (.long jw), .second, .val (.ref b1), .val (.long ((own_upd (own_upd (fun _ => (0 : Int64)) jj u3) ii u2) ii)), .second, .val (.int (1 : Int32)), .unset, .unset] [(.long ((own_upd (own_upd (own_upd (fun _ => (0 : Int64)) jj u3) ii u2) ii ((own_upd (own_upd (fun _ => (0 : Int64)) jj u3) ii u2) ii ||| u4)) ii))])) tt
      refine XS.lstore X28.here hx rfl (hb hby at_152) rfl (l' := #[.val (.long u0), .second, .val (.long u1), .second, .val (.long u2), .second, .val (.long u3), .second, .val (.long u4), .second, .val (.long u5), .second, .val (.long hw0), .second, .val (.long ct), .second, .val (.long iw), .second, .val (.long jw), .second, .val (.ref b1), .val (.long ((own_upd (own_upd (fun _ => (0 : Int64)) jj u3) ii u2) ii)), .second, .val (.int (1 : Int32)), .val (.long ((own_upd (own_upd (own_upd (fun _ => (0 : Int64)) jj u3) ii u2) ii ((own_upd (own_upd (fun _ => (0 : Int64)) jj u3) ii u2) ii ||| u4)) ii)), .second]) rfl ?_
      show Steps p.tables e below (T28.setTop (mkF m 154 #[.val (.long u0), .second, .val (.long u1), .second, .val (.long u2), .second, .val (.long u3), .second, .val (.long u4), .second, .val (.long u5), .second, .val (.long hw0), .second, .val (.long ct), .second, .val (.long iw), .second, .val (.long jw), .second, .val (.ref b1), .val (.long ((own_upd (own_upd (fun _ => (0 : Int64)) jj u3) ii u2) ii)), .second, .val (.int (1 : Int32)), .val (.long ((own_upd (own_upd (own_upd (fun _ => (0 : Int64)) jj u3) ii u2) ii ((own_upd (own_upd (fun _ => (0 : Int64)) jj u3) ii u2) ii ||| u4)) ii)), .second] [])) tt
      refine XS.iload X28.here hx rfl (hb hby at_154) rfl ?_
      show Steps p.tables e below (T28.setTop (mkF m 156 #[.val (.long u0), .second, .val (.long u1), .second, .val (.long u2), .second, .val (.long u3), .second, .val (.long u4), .second, .val (.long u5), .second, .val (.long hw0), .second, .val (.long ct), .second, .val (.long iw), .second, .val (.long jw), .second, .val (.ref b1), .val (.long ((own_upd (own_upd (fun _ => (0 : Int64)) jj u3) ii u2) ii)), .second, .val (.int (1 : Int32)), .val (.long ((own_upd (own_upd (own_upd (fun _ => (0 : Int64)) jj u3) ii u2) ii ((own_upd (own_upd (fun _ => (0 : Int64)) jj u3) ii u2) ii ||| u4)) ii)), .second] [(.int (1 : Int32))])) tt
      refine XS.ifNo X28.here hx rfl (hb hby at_156) rfl ((if0 _ _).trans (feq ((by decide) : ¬ ((1 : Int32) = (0 : Int32)))).1) ?_
      show Steps p.tables e below (T28.setTop (mkF m 159 #[.val (.long u0), .second, .val (.long u1), .second, .val (.long u2), .second, .val (.long u3), .second, .val (.long u4), .second, .val (.long u5), .second, .val (.long hw0), .second, .val (.long ct), .second, .val (.long iw), .second, .val (.long jw), .second, .val (.ref b1), .val (.long ((own_upd (own_upd (fun _ => (0 : Int64)) jj u3) ii u2) ii)), .second, .val (.int (1 : Int32)), .val (.long ((own_upd (own_upd (own_upd (fun _ => (0 : Int64)) jj u3) ii u2) ii ((own_upd (own_upd (fun _ => (0 : Int64)) jj u3) ii u2) ii ||| u4)) ii)), .second] [])) tt
      refine XS.lload X28.here hx rfl (hb hby at_159) rfl ?_
      show Steps p.tables e below (T28.setTop (mkF m 161 #[.val (.long u0), .second, .val (.long u1), .second, .val (.long u2), .second, .val (.long u3), .second, .val (.long u4), .second, .val (.long u5), .second, .val (.long hw0), .second, .val (.long ct), .second, .val (.long iw), .second, .val (.long jw), .second, .val (.ref b1), .val (.long ((own_upd (own_upd (fun _ => (0 : Int64)) jj u3) ii u2) ii)), .second, .val (.int (1 : Int32)), .val (.long ((own_upd (own_upd (own_upd (fun _ => (0 : Int64)) jj u3) ii u2) ii ((own_upd (own_upd (fun _ => (0 : Int64)) jj u3) ii u2) ii ||| u4)) ii)), .second] [(.long ((own_upd (own_upd (own_upd (fun _ => (0 : Int64)) jj u3) ii u2) ii ((own_upd (own_upd (fun _ => (0 : Int64)) jj u3) ii u2) ii ||| u4)) ii))])) tt
      refine XS.lload X28.here hx rfl (hb hby at_161) rfl ?_
      show Steps p.tables e below (T28.setTop (mkF m 163 #[.val (.long u0), .second, .val (.long u1), .second, .val (.long u2), .second, .val (.long u3), .second, .val (.long u4), .second, .val (.long u5), .second, .val (.long hw0), .second, .val (.long ct), .second, .val (.long iw), .second, .val (.long jw), .second, .val (.ref b1), .val (.long ((own_upd (own_upd (fun _ => (0 : Int64)) jj u3) ii u2) ii)), .second, .val (.int (1 : Int32)), .val (.long ((own_upd (own_upd (own_upd (fun _ => (0 : Int64)) jj u3) ii u2) ii ((own_upd (own_upd (fun _ => (0 : Int64)) jj u3) ii u2) ii ||| u4)) ii)), .second] [(.long u2), (.long ((own_upd (own_upd (own_upd (fun _ => (0 : Int64)) jj u3) ii u2) ii ((own_upd (own_upd (fun _ => (0 : Int64)) jj u3) ii u2) ii ||| u4)) ii))])) tt
      refine XS.lload X28.here hx rfl (hb hby at_163) rfl ?_
      show Steps p.tables e below (T28.setTop (mkF m 165 #[.val (.long u0), .second, .val (.long u1), .second, .val (.long u2), .second, .val (.long u3), .second, .val (.long u4), .second, .val (.long u5), .second, .val (.long hw0), .second, .val (.long ct), .second, .val (.long iw), .second, .val (.long jw), .second, .val (.ref b1), .val (.long ((own_upd (own_upd (fun _ => (0 : Int64)) jj u3) ii u2) ii)), .second, .val (.int (1 : Int32)), .val (.long ((own_upd (own_upd (own_upd (fun _ => (0 : Int64)) jj u3) ii u2) ii ((own_upd (own_upd (fun _ => (0 : Int64)) jj u3) ii u2) ii ||| u4)) ii)), .second] [(.long u4), (.long u2), (.long ((own_upd (own_upd (own_upd (fun _ => (0 : Int64)) jj u3) ii u2) ii ((own_upd (own_upd (fun _ => (0 : Int64)) jj u3) ii u2) ii ||| u4)) ii))])) tt
      refine XS.lor X28.here hx rfl (hb hby at_165) rfl ?_
      show Steps p.tables e below (T28.setTop (mkF m 166 #[.val (.long u0), .second, .val (.long u1), .second, .val (.long u2), .second, .val (.long u3), .second, .val (.long u4), .second, .val (.long u5), .second, .val (.long hw0), .second, .val (.long ct), .second, .val (.long iw), .second, .val (.long jw), .second, .val (.ref b1), .val (.long ((own_upd (own_upd (fun _ => (0 : Int64)) jj u3) ii u2) ii)), .second, .val (.int (1 : Int32)), .val (.long ((own_upd (own_upd (own_upd (fun _ => (0 : Int64)) jj u3) ii u2) ii ((own_upd (own_upd (fun _ => (0 : Int64)) jj u3) ii u2) ii ||| u4)) ii)), .second] [(.long (u2 ||| u4)), (.long ((own_upd (own_upd (own_upd (fun _ => (0 : Int64)) jj u3) ii u2) ii ((own_upd (own_upd (fun _ => (0 : Int64)) jj u3) ii u2) ii ||| u4)) ii))])) tt
      refine XS.lcmp X28.here hx rfl (hb hby at_166) rfl ?_
      show Steps p.tables e below (T28.setTop (mkF m 167 #[.val (.long u0), .second, .val (.long u1), .second, .val (.long u2), .second, .val (.long u3), .second, .val (.long u4), .second, .val (.long u5), .second, .val (.long hw0), .second, .val (.long ct), .second, .val (.long iw), .second, .val (.long jw), .second, .val (.ref b1), .val (.long ((own_upd (own_upd (fun _ => (0 : Int64)) jj u3) ii u2) ii)), .second, .val (.int (1 : Int32)), .val (.long ((own_upd (own_upd (own_upd (fun _ => (0 : Int64)) jj u3) ii u2) ii ((own_upd (own_upd (fun _ => (0 : Int64)) jj u3) ii u2) ii ||| u4)) ii)), .second] [(.int (lcmpW ((own_upd (own_upd (own_upd (fun _ => (0 : Int64)) jj u3) ii u2) ii ((own_upd (own_upd (fun _ => (0 : Int64)) jj u3) ii u2) ii ||| u4)) ii) (u2 ||| u4)))])) tt
      refine XS.ifNo X28.here hx rfl (hb hby at_167) rfl ((if0 _ _).trans (teq ((lw_eq _ _).mpr (by simp [own_upd]) : (lcmpW ((own_upd (own_upd (own_upd (fun _ => (0 : Int64)) jj u3) ii u2) ii ((own_upd (own_upd (fun _ => (0 : Int64)) jj u3) ii u2) ii ||| u4)) ii) (u2 ||| u4)) = (0 : Int32))).2) ?_
      show Steps p.tables e below (T28.setTop (mkF m 170 #[.val (.long u0), .second, .val (.long u1), .second, .val (.long u2), .second, .val (.long u3), .second, .val (.long u4), .second, .val (.long u5), .second, .val (.long hw0), .second, .val (.long ct), .second, .val (.long iw), .second, .val (.long jw), .second, .val (.ref b1), .val (.long ((own_upd (own_upd (fun _ => (0 : Int64)) jj u3) ii u2) ii)), .second, .val (.int (1 : Int32)), .val (.long ((own_upd (own_upd (own_upd (fun _ => (0 : Int64)) jj u3) ii u2) ii ((own_upd (own_upd (fun _ => (0 : Int64)) jj u3) ii u2) ii ||| u4)) ii)), .second] [])) tt
      refine XS.aload X28.here hx rfl (hb hby at_170) rfl rfl ?_
      show Steps p.tables e below (T28.setTop (mkF m 172 #[.val (.long u0), .second, .val (.long u1), .second, .val (.long u2), .second, .val (.long u3), .second, .val (.long u4), .second, .val (.long u5), .second, .val (.long hw0), .second, .val (.long ct), .second, .val (.long iw), .second, .val (.long jw), .second, .val (.ref b1), .val (.long ((own_upd (own_upd (fun _ => (0 : Int64)) jj u3) ii u2) ii)), .second, .val (.int (1 : Int32)), .val (.long ((own_upd (own_upd (own_upd (fun _ => (0 : Int64)) jj u3) ii u2) ii ((own_upd (own_upd (fun _ => (0 : Int64)) jj u3) ii u2) ii ||| u4)) ii)), .second] [(.ref b1)])) tt
      refine XS.lload X28.here hx rfl (hb hby at_172) rfl ?_
      exact kk
    have f29 : Exa Z T28.heap b1 "com/example/hedger/hedger/WordArray" := (f21.keep K28)
    have f30 : Fld Z T28.heap b1 "com/example/hedger/hedger/WordArray" "head" "[J" (.ref vh_3) := (f22.keep K28 (ninS ne_b1_vh_3 (ninS ne_b1_pa_3 (ninS ne_b1_pb_3 (ninS ne_b1_vs_3 nin0)))))
    have f31 : Fld Z T28.heap b1 "com/example/hedger/hedger/WordArray" "pages" "[[J" (.ref vp_3) := (f23.keep K28 (ninS ne_b1_vh_3 (ninS ne_b1_pa_3 (ninS ne_b1_pb_3 (ninS ne_b1_vs_3 nin0)))))
    have f32 : Fld Z T28.heap b1 "com/example/hedger/hedger/WordArray" "spares" "[J" (.ref vs_3) := (f24.keep K28 (ninS ne_b1_vh_3 (ninS ne_b1_pa_3 (ninS ne_b1_pb_3 (ninS ne_b1_vs_3 nin0)))))
    have f33 : Ary Z T28.heap vp_3 (.array .long) [(.ref pa_3), (.ref pb_3)] := (f25.keep K28 (ninS (Ne.symm ne3_vh_vp) (ninS ne3_vp_pa (ninS ne3_vp_pb (ninS ne3_vp_vs nin0)))))
    have f34 : n0 ≤ T28.heap.size := (Nat.le_trans f26 K28.1)
    obtain ⟨cq35, kq35, q35a, q35b, q35c⟩ := isOf hZ rfl f29
    obtain ⟨_, _, ⟨T35, L35, k35, n35⟩, -, X35, ⟨Lc35, hQ35, l35, y35, z35⟩, st35⟩ := X28.virtualBack hx (y := (⟨"com/example/hedger/hedger/WordArray", "getPlain", "(J)J"⟩ : MethodName)) (z := (⟨"com/example/hedger/hedger/WordArray", "getPlain", "(J)J"⟩ : MethodName)) hown (mvT hZ (hw _ (mw 54 rfl))) (mvT hZ (hw _ (mw 55 rfl))) (notFace_of_selects (args := #[]) (mvT hZ (hw _ (mw 57 rfl)))) (mvT hZ (hw _ (mw 57 rfl))) (mvT hZ (hw _ (mw 56 rfl))) (by decide) (backOf (W := 0) (rmgp l Z a0 hw [] b1 vh_3 vp_3 pa_3 pb_3 vs_3 hn (own_upd (own_upd (own_upd (own_upd (fun _ => (0 : Int64)) jj u3) ii u2) ii ((own_upd (own_upd (fun _ => (0 : Int64)) jj u3) ii u2) ii ||| u4)) ii ((own_upd (own_upd (own_upd (fun _ => (0 : Int64)) jj u3) ii u2) ii ((own_upd (own_upd (fun _ => (0 : Int64)) jj u3) ii u2) ii ||| u4)) ii ||| u5)) ii iw T28.heap n0 f34 f29 f30 f31 f32 P28_0 f33 P28_1 P28_2 P28_3 hHn.1 hI.1 hI.2) hZ (hw _ (mw 58 rfl)) (hw _ (mw 5 rfl)) (by decide) (by decide)) q35a q35c (g := (mkF m 174 #[.val (.long u0), .second, .val (.long u1), .second, .val (.long u2), .second, .val (.long u3), .second, .val (.long u4), .second, .val (.long u5), .second, .val (.long hw0), .second, .val (.long ct), .second, .val (.long iw), .second, .val (.long jw), .second, .val (.ref b1), .val (.long ((own_upd (own_upd (fun _ => (0 : Int64)) jj u3) ii u2) ii)), .second, .val (.int (1 : Int32)), .val (.long ((own_upd (own_upd (own_upd (fun _ => (0 : Int64)) jj u3) ii u2) ii ((own_upd (own_upd (fun _ => (0 : Int64)) jj u3) ii u2) ii ||| u4)) ii)), .second] [(.long iw), (.ref b1)])) rfl (by rw [hml]; rfl) (Steps.refl _) (argsL := [(.long iw)]) (rest := []) (lenOf pd_5 rfl) rfl (by show 2 * 0 + _ ≤ _; exact Nat.le_of_eq rfl) (hb hby at_174) (fun _ _ => ⟨rfl, rfl, (by decide : 6 + 0 ≤ _), (by decide : 32779 + 0 ≤ _)⟩)
    dsimp only [Pt.U, Pt.locs, Pt.cells, Pt.slots] at X35 l35 y35 z35 st35 hQ35
    subst l35 y35 z35
    obtain ⟨rfl, N35q, e35⟩ := hQ35
    have N35 := Fr.app N28 N35q
    refine Goal.tr (B := T35.setTop (mkF m 177 #[.val (.long u0), .second, .val (.long u1), .second, .val (.long u2), .second, .val (.long u3), .second, .val (.long u4), .second, .val (.long u5), .second, .val (.long hw0), .second, .val (.long ct), .second, .val (.long iw), .second, .val (.long jw), .second, .val (.ref b1), .val (.long ((own_upd (own_upd (fun _ => (0 : Int64)) jj u3) ii u2) ii)), .second, .val (.int (1 : Int32)), .val (.long ((own_upd (own_upd (own_upd (fun _ => (0 : Int64)) jj u3) ii u2) ii ((own_upd (own_upd (fun _ => (0 : Int64)) jj u3) ii u2) ii ||| u4)) ii)), .second] [(.long ((own_upd (own_upd (own_upd (own_upd (fun _ => (0 : Int64)) jj u3) ii u2) ii ((own_upd (own_upd (fun _ => (0 : Int64)) jj u3) ii u2) ii ||| u4)) ii ((own_upd (own_upd (own_upd (fun _ => (0 : Int64)) jj u3) ii u2) ii ((own_upd (own_upd (fun _ => (0 : Int64)) jj u3) ii u2) ii ||| u4)) ii ||| u5)) ii))])) st35 ?_
    refine Goal.to (B := T35.setTop (mkF m 198 #[.val (.long u0), .second, .val (.long u1), .second, .val (.long u2), .second, .val (.long u3), .second, .val (.long u4), .second, .val (.long u5), .second, .val (.long hw0), .second, .val (.long ct), .second, .val (.long iw), .second, .val (.long jw), .second, .val (.ref b1), .val (.long ((own_upd (own_upd (fun _ => (0 : Int64)) jj u3) ii u2) ii)), .second, .val (.int (1 : Int32)), .val (.long ((own_upd (own_upd (own_upd (fun _ => (0 : Int64)) jj u3) ii u2) ii ((own_upd (own_upd (fun _ => (0 : Int64)) jj u3) ii u2) ii ||| u4)) ii)), .second] [(.int (1 : Int32))])) (fun tt kk => ?_) ?_
    · show Steps p.tables e below (T35.setTop (mkF m 177 #[.val (.long u0), .second, .val (.long u1), .second, .val (.long u2), .second, .val (.long u3), .second, .val (.long u4), .second, .val (.long u5), .second, .val (.long hw0), .second, .val (.long ct), .second, .val (.long iw), .second, .val (.long jw), .second, .val (.ref b1), .val (.long ((own_upd (own_upd (fun _ => (0 : Int64)) jj u3) ii u2) ii)), .second, .val (.int (1 : Int32)), .val (.long ((own_upd (own_upd (own_upd (fun _ => (0 : Int64)) jj u3) ii u2) ii ((own_upd (own_upd (fun _ => (0 : Int64)) jj u3) ii u2) ii ||| u4)) ii)), .second] [(.long ((own_upd (own_upd (own_upd (own_upd (fun _ => (0 : Int64)) jj u3) ii u2) ii ((own_upd (own_upd (fun _ => (0 : Int64)) jj u3) ii u2) ii ||| u4)) ii ((own_upd (own_upd (own_upd (fun _ => (0 : Int64)) jj u3) ii u2) ii ((own_upd (own_upd (fun _ => (0 : Int64)) jj u3) ii u2) ii ||| u4)) ii ||| u5)) ii))])) tt
      refine XS.lload X35.here hx rfl (hb hby at_177) rfl ?_
      show Steps p.tables e below (T35.setTop (mkF m 179 #[.val (.long u0), .second, .val (.long u1), .second, .val (.long u2), .second, .val (.long u3), .second, .val (.long u4), .second, .val (.long u5), .second, .val (.long hw0), .second, .val (.long ct), .second, .val (.long iw), .second, .val (.long jw), .second, .val (.ref b1), .val (.long ((own_upd (own_upd (fun _ => (0 : Int64)) jj u3) ii u2) ii)), .second, .val (.int (1 : Int32)), .val (.long ((own_upd (own_upd (own_upd (fun _ => (0 : Int64)) jj u3) ii u2) ii ((own_upd (own_upd (fun _ => (0 : Int64)) jj u3) ii u2) ii ||| u4)) ii)), .second] [(.long u2), (.long ((own_upd (own_upd (own_upd (own_upd (fun _ => (0 : Int64)) jj u3) ii u2) ii ((own_upd (own_upd (fun _ => (0 : Int64)) jj u3) ii u2) ii ||| u4)) ii ((own_upd (own_upd (own_upd (fun _ => (0 : Int64)) jj u3) ii u2) ii ((own_upd (own_upd (fun _ => (0 : Int64)) jj u3) ii u2) ii ||| u4)) ii ||| u5)) ii))])) tt
      refine XS.lload X35.here hx rfl (hb hby at_179) rfl ?_
      show Steps p.tables e below (T35.setTop (mkF m 181 #[.val (.long u0), .second, .val (.long u1), .second, .val (.long u2), .second, .val (.long u3), .second, .val (.long u4), .second, .val (.long u5), .second, .val (.long hw0), .second, .val (.long ct), .second, .val (.long iw), .second, .val (.long jw), .second, .val (.ref b1), .val (.long ((own_upd (own_upd (fun _ => (0 : Int64)) jj u3) ii u2) ii)), .second, .val (.int (1 : Int32)), .val (.long ((own_upd (own_upd (own_upd (fun _ => (0 : Int64)) jj u3) ii u2) ii ((own_upd (own_upd (fun _ => (0 : Int64)) jj u3) ii u2) ii ||| u4)) ii)), .second] [(.long u4), (.long u2), (.long ((own_upd (own_upd (own_upd (own_upd (fun _ => (0 : Int64)) jj u3) ii u2) ii ((own_upd (own_upd (fun _ => (0 : Int64)) jj u3) ii u2) ii ||| u4)) ii ((own_upd (own_upd (own_upd (fun _ => (0 : Int64)) jj u3) ii u2) ii ((own_upd (own_upd (fun _ => (0 : Int64)) jj u3) ii u2) ii ||| u4)) ii ||| u5)) ii))])) tt
      refine XS.lor X35.here hx rfl (hb hby at_181) rfl ?_
      show Steps p.tables e below (T35.setTop (mkF m 182 #[.val (.long u0), .second, .val (.long u1), .second, .val (.long u2), .second, .val (.long u3), .second, .val (.long u4), .second, .val (.long u5), .second, .val (.long hw0), .second, .val (.long ct), .second, .val (.long iw), .second, .val (.long jw), .second, .val (.ref b1), .val (.long ((own_upd (own_upd (fun _ => (0 : Int64)) jj u3) ii u2) ii)), .second, .val (.int (1 : Int32)), .val (.long ((own_upd (own_upd (own_upd (fun _ => (0 : Int64)) jj u3) ii u2) ii ((own_upd (own_upd (fun _ => (0 : Int64)) jj u3) ii u2) ii ||| u4)) ii)), .second] [(.long (u2 ||| u4)), (.long ((own_upd (own_upd (own_upd (own_upd (fun _ => (0 : Int64)) jj u3) ii u2) ii ((own_upd (own_upd (fun _ => (0 : Int64)) jj u3) ii u2) ii ||| u4)) ii ((own_upd (own_upd (own_upd (fun _ => (0 : Int64)) jj u3) ii u2) ii ((own_upd (own_upd (fun _ => (0 : Int64)) jj u3) ii u2) ii ||| u4)) ii ||| u5)) ii))])) tt
      refine XS.lload X35.here hx rfl (hb hby at_182) rfl ?_
      show Steps p.tables e below (T35.setTop (mkF m 184 #[.val (.long u0), .second, .val (.long u1), .second, .val (.long u2), .second, .val (.long u3), .second, .val (.long u4), .second, .val (.long u5), .second, .val (.long hw0), .second, .val (.long ct), .second, .val (.long iw), .second, .val (.long jw), .second, .val (.ref b1), .val (.long ((own_upd (own_upd (fun _ => (0 : Int64)) jj u3) ii u2) ii)), .second, .val (.int (1 : Int32)), .val (.long ((own_upd (own_upd (own_upd (fun _ => (0 : Int64)) jj u3) ii u2) ii ((own_upd (own_upd (fun _ => (0 : Int64)) jj u3) ii u2) ii ||| u4)) ii)), .second] [(.long u5), (.long (u2 ||| u4)), (.long ((own_upd (own_upd (own_upd (own_upd (fun _ => (0 : Int64)) jj u3) ii u2) ii ((own_upd (own_upd (fun _ => (0 : Int64)) jj u3) ii u2) ii ||| u4)) ii ((own_upd (own_upd (own_upd (fun _ => (0 : Int64)) jj u3) ii u2) ii ((own_upd (own_upd (fun _ => (0 : Int64)) jj u3) ii u2) ii ||| u4)) ii ||| u5)) ii))])) tt
      refine XS.lor X35.here hx rfl (hb hby at_184) rfl ?_
      show Steps p.tables e below (T35.setTop (mkF m 185 #[.val (.long u0), .second, .val (.long u1), .second, .val (.long u2), .second, .val (.long u3), .second, .val (.long u4), .second, .val (.long u5), .second, .val (.long hw0), .second, .val (.long ct), .second, .val (.long iw), .second, .val (.long jw), .second, .val (.ref b1), .val (.long ((own_upd (own_upd (fun _ => (0 : Int64)) jj u3) ii u2) ii)), .second, .val (.int (1 : Int32)), .val (.long ((own_upd (own_upd (own_upd (fun _ => (0 : Int64)) jj u3) ii u2) ii ((own_upd (own_upd (fun _ => (0 : Int64)) jj u3) ii u2) ii ||| u4)) ii)), .second] [(.long ((u2 ||| u4) ||| u5)), (.long ((own_upd (own_upd (own_upd (own_upd (fun _ => (0 : Int64)) jj u3) ii u2) ii ((own_upd (own_upd (fun _ => (0 : Int64)) jj u3) ii u2) ii ||| u4)) ii ((own_upd (own_upd (own_upd (fun _ => (0 : Int64)) jj u3) ii u2) ii ((own_upd (own_upd (fun _ => (0 : Int64)) jj u3) ii u2) ii ||| u4)) ii ||| u5)) ii))])) tt
      refine XS.lcmp X35.here hx rfl (hb hby at_185) rfl ?_
      show Steps p.tables e below (T35.setTop (mkF m 186 #[.val (.long u0), .second, .val (.long u1), .second, .val (.long u2), .second, .val (.long u3), .second, .val (.long u4), .second, .val (.long u5), .second, .val (.long hw0), .second, .val (.long ct), .second, .val (.long iw), .second, .val (.long jw), .second, .val (.ref b1), .val (.long ((own_upd (own_upd (fun _ => (0 : Int64)) jj u3) ii u2) ii)), .second, .val (.int (1 : Int32)), .val (.long ((own_upd (own_upd (own_upd (fun _ => (0 : Int64)) jj u3) ii u2) ii ((own_upd (own_upd (fun _ => (0 : Int64)) jj u3) ii u2) ii ||| u4)) ii)), .second] [(.int (lcmpW ((own_upd (own_upd (own_upd (own_upd (fun _ => (0 : Int64)) jj u3) ii u2) ii ((own_upd (own_upd (fun _ => (0 : Int64)) jj u3) ii u2) ii ||| u4)) ii ((own_upd (own_upd (own_upd (fun _ => (0 : Int64)) jj u3) ii u2) ii ((own_upd (own_upd (fun _ => (0 : Int64)) jj u3) ii u2) ii ||| u4)) ii ||| u5)) ii) ((u2 ||| u4) ||| u5)))])) tt
      refine XS.ifNo X35.here hx rfl (hb hby at_186) rfl ((if0 _ _).trans (teq ((lw_eq _ _).mpr (by simp [own_upd]) : (lcmpW ((own_upd (own_upd (own_upd (own_upd (fun _ => (0 : Int64)) jj u3) ii u2) ii ((own_upd (own_upd (fun _ => (0 : Int64)) jj u3) ii u2) ii ||| u4)) ii ((own_upd (own_upd (own_upd (fun _ => (0 : Int64)) jj u3) ii u2) ii ((own_upd (own_upd (fun _ => (0 : Int64)) jj u3) ii u2) ii ||| u4)) ii ||| u5)) ii) ((u2 ||| u4) ||| u5)) = (0 : Int32))).2) ?_
      show Steps p.tables e below (T35.setTop (mkF m 189 #[.val (.long u0), .second, .val (.long u1), .second, .val (.long u2), .second, .val (.long u3), .second, .val (.long u4), .second, .val (.long u5), .second, .val (.long hw0), .second, .val (.long ct), .second, .val (.long iw), .second, .val (.long jw), .second, .val (.ref b1), .val (.long ((own_upd (own_upd (fun _ => (0 : Int64)) jj u3) ii u2) ii)), .second, .val (.int (1 : Int32)), .val (.long ((own_upd (own_upd (own_upd (fun _ => (0 : Int64)) jj u3) ii u2) ii ((own_upd (own_upd (fun _ => (0 : Int64)) jj u3) ii u2) ii ||| u4)) ii)), .second] [])) tt
      refine XS.iconst X35.here hx rfl (hb hby at_189) ?_
      show Steps p.tables e below (T35.setTop (mkF m 190 #[.val (.long u0), .second, .val (.long u1), .second, .val (.long u2), .second, .val (.long u3), .second, .val (.long u4), .second, .val (.long u5), .second, .val (.long hw0), .second, .val (.long ct), .second, .val (.long iw), .second, .val (.long jw), .second, .val (.ref b1), .val (.long ((own_upd (own_upd (fun _ => (0 : Int64)) jj u3) ii u2) ii)), .second, .val (.int (1 : Int32)), .val (.long ((own_upd (own_upd (own_upd (fun _ => (0 : Int64)) jj u3) ii u2) ii ((own_upd (own_upd (fun _ => (0 : Int64)) jj u3) ii u2) ii ||| u4)) ii)), .second] [(.int (1 : Int32))])) tt
      refine XS.goto X35.here hx rfl (pc0 := 190) (pc' := 194) rfl (hb hby at_190) (by decide) (by decide) ?_
      show Steps p.tables e below (T35.setTop (mkF m 194 #[.val (.long u0), .second, .val (.long u1), .second, .val (.long u2), .second, .val (.long u3), .second, .val (.long u4), .second, .val (.long u5), .second, .val (.long hw0), .second, .val (.long ct), .second, .val (.long iw), .second, .val (.long jw), .second, .val (.ref b1), .val (.long ((own_upd (own_upd (fun _ => (0 : Int64)) jj u3) ii u2) ii)), .second, .val (.int (1 : Int32)), .val (.long ((own_upd (own_upd (own_upd (fun _ => (0 : Int64)) jj u3) ii u2) ii ((own_upd (own_upd (fun _ => (0 : Int64)) jj u3) ii u2) ii ||| u4)) ii)), .second] [(.int (1 : Int32))])) tt
      refine XS.istore X35.here hx rfl (hb hby at_194) rfl (l' := #[.val (.long u0), .second, .val (.long u1), .second, .val (.long u2), .second, .val (.long u3), .second, .val (.long u4), .second, .val (.long u5), .second, .val (.long hw0), .second, .val (.long ct), .second, .val (.long iw), .second, .val (.long jw), .second, .val (.ref b1), .val (.long ((own_upd (own_upd (fun _ => (0 : Int64)) jj u3) ii u2) ii)), .second, .val (.int (1 : Int32)), .val (.long ((own_upd (own_upd (own_upd (fun _ => (0 : Int64)) jj u3) ii u2) ii ((own_upd (own_upd (fun _ => (0 : Int64)) jj u3) ii u2) ii ||| u4)) ii)), .second]) rfl ?_
      show Steps p.tables e below (T35.setTop (mkF m 196 #[.val (.long u0), .second, .val (.long u1), .second, .val (.long u2), .second, .val (.long u3), .second, .val (.long u4), .second, .val (.long u5), .second, .val (.long hw0), .second, .val (.long ct), .second, .val (.long iw), .second, .val (.long jw), .second, .val (.ref b1), .val (.long ((own_upd (own_upd (fun _ => (0 : Int64)) jj u3) ii u2) ii)), .second, .val (.int (1 : Int32)), .val (.long ((own_upd (own_upd (own_upd (fun _ => (0 : Int64)) jj u3) ii u2) ii ((own_upd (own_upd (fun _ => (0 : Int64)) jj u3) ii u2) ii ||| u4)) ii)), .second] [])) tt
      refine XS.iload X35.here hx rfl (hb hby at_196) rfl ?_
      exact kk
    exact Goal.retV X35 hx Bd.returns rfl (Or.inl ⟨rfl, Or.inr (Or.inl rfl), _, rfl⟩) (hb hby at_198) hlk e35 ⟨rfl, N35⟩ (by decide) (by decide)
  · have hne := own_ne hI.1 hJ.1 hcij
    refine Goal.to (B := T27.setTop (mkF m 127 #[.val (.long u0), .second, .val (.long u1), .second, .val (.long u2), .second, .val (.long u3), .second, .val (.long u4), .second, .val (.long u5), .second, .val (.long hw0), .second, .val (.long ct), .second, .val (.long iw), .second, .val (.long jw), .second, .val (.ref b1), .val (.long ((own_upd (own_upd (fun _ => (0 : Int64)) jj u3) ii u2) ii)), .second, .val (.int (1 : Int32)), .unset, .unset] [(.long jw), (.ref b1)])) (fun tt kk => ?_) ?_
    · show Steps p.tables e below (T27.setTop (mkF m 115 #[.val (.long u0), .second, .val (.long u1), .second, .val (.long u2), .second, .val (.long u3), .second, .val (.long u4), .second, .val (.long u5), .second, .val (.long hw0), .second, .val (.long ct), .second, .val (.long iw), .second, .val (.long jw), .second, .val (.ref b1), .val (.long ((own_upd (own_upd (fun _ => (0 : Int64)) jj u3) ii u2) ii)), .second, .val (.int (1 : Int32)), .unset, .unset] [(.int (lcmpW iw jw))])) tt
      refine XS.ifNo X27.here hx rfl (hb hby at_115) rfl ((if0 _ _).trans (feq hcij).1) ?_
      show Steps p.tables e below (T27.setTop (mkF m 118 #[.val (.long u0), .second, .val (.long u1), .second, .val (.long u2), .second, .val (.long u3), .second, .val (.long u4), .second, .val (.long u5), .second, .val (.long hw0), .second, .val (.long ct), .second, .val (.long iw), .second, .val (.long jw), .second, .val (.ref b1), .val (.long ((own_upd (own_upd (fun _ => (0 : Int64)) jj u3) ii u2) ii)), .second, .val (.int (1 : Int32)), .unset, .unset] [])) tt
      refine XS.iload X27.here hx rfl (hb hby at_118) rfl ?_
      show Steps p.tables e below (T27.setTop (mkF m 120 #[.val (.long u0), .second, .val (.long u1), .second, .val (.long u2), .second, .val (.long u3), .second, .val (.long u4), .second, .val (.long u5), .second, .val (.long hw0), .second, .val (.long ct), .second, .val (.long iw), .second, .val (.long jw), .second, .val (.ref b1), .val (.long ((own_upd (own_upd (fun _ => (0 : Int64)) jj u3) ii u2) ii)), .second, .val (.int (1 : Int32)), .unset, .unset] [(.int (1 : Int32))])) tt
      refine XS.ifNo X27.here hx rfl (hb hby at_120) rfl ((if0 _ _).trans (feq ((by decide) : ¬ ((1 : Int32) = (0 : Int32)))).1) ?_
      show Steps p.tables e below (T27.setTop (mkF m 123 #[.val (.long u0), .second, .val (.long u1), .second, .val (.long u2), .second, .val (.long u3), .second, .val (.long u4), .second, .val (.long u5), .second, .val (.long hw0), .second, .val (.long ct), .second, .val (.long iw), .second, .val (.long jw), .second, .val (.ref b1), .val (.long ((own_upd (own_upd (fun _ => (0 : Int64)) jj u3) ii u2) ii)), .second, .val (.int (1 : Int32)), .unset, .unset] [])) tt
      refine XS.aload X27.here hx rfl (hb hby at_123) rfl rfl ?_
      show Steps p.tables e below (T27.setTop (mkF m 125 #[.val (.long u0), .second, .val (.long u1), .second, .val (.long u2), .second, .val (.long u3), .second, .val (.long u4), .second, .val (.long u5), .second, .val (.long hw0), .second, .val (.long ct), .second, .val (.long iw), .second, .val (.long jw), .second, .val (.ref b1), .val (.long ((own_upd (own_upd (fun _ => (0 : Int64)) jj u3) ii u2) ii)), .second, .val (.int (1 : Int32)), .unset, .unset] [(.ref b1)])) tt
      refine XS.lload X27.here hx rfl (hb hby at_125) rfl ?_
      exact kk
    obtain ⟨cq36, kq36, q36a, q36b, q36c⟩ := isOf hZ e27 f21
    obtain ⟨_, _, ⟨T36, L36, k36, n36⟩, -, X36, ⟨Lc36, hQ36, l36, y36, z36⟩, st36⟩ := X27.virtualBack hx (y := (⟨"com/example/hedger/hedger/WordArray", "getPlain", "(J)J"⟩ : MethodName)) (z := (⟨"com/example/hedger/hedger/WordArray", "getPlain", "(J)J"⟩ : MethodName)) hown (mvT hZ (hw _ (mw 54 rfl))) (mvT hZ (hw _ (mw 55 rfl))) (notFace_of_selects (args := #[]) (mvT hZ (hw _ (mw 57 rfl)))) (mvT hZ (hw _ (mw 57 rfl))) (mvT hZ (hw _ (mw 56 rfl))) (by decide) (backOf (W := 0) (rmgp l Z a0 hw [] b1 vh_3 vp_3 pa_3 pb_3 vs_3 hn (own_upd (own_upd (own_upd (fun _ => (0 : Int64)) jj u3) ii u2) ii ((own_upd (own_upd (fun _ => (0 : Int64)) jj u3) ii u2) ii ||| u4)) jj jw T20.heap n0 f26 f21 f22 f23 f24 P20_0 f25 P20_1 P20_2 P20_3 hHn.1 hJ.1 hJ.2) hZ (hw _ (mw 58 rfl)) (hw _ (mw 5 rfl)) (by decide) (by decide)) q36a q36c (g := (mkF m 127 #[.val (.long u0), .second, .val (.long u1), .second, .val (.long u2), .second, .val (.long u3), .second, .val (.long u4), .second, .val (.long u5), .second, .val (.long hw0), .second, .val (.long ct), .second, .val (.long iw), .second, .val (.long jw), .second, .val (.ref b1), .val (.long ((own_upd (own_upd (fun _ => (0 : Int64)) jj u3) ii u2) ii)), .second, .val (.int (1 : Int32)), .unset, .unset] [(.long jw), (.ref b1)])) rfl (by rw [hml]; rfl) (Steps.refl _) (argsL := [(.long jw)]) (rest := []) (lenOf pd_5 rfl) rfl (by show 2 * 0 + _ ≤ _; exact Nat.le_of_eq rfl) (hb hby at_127) (fun _ _ => ⟨rfl, e27, (by decide : 6 + 0 ≤ _), (by decide : 32779 + 0 ≤ _)⟩)
    dsimp only [Pt.U, Pt.locs, Pt.cells, Pt.slots] at X36 l36 y36 z36 st36 hQ36
    subst l36 y36 z36
    obtain ⟨rfl, N36q, e36⟩ := hQ36
    have N36 := Fr.app N27 N36q
    refine Goal.tr (B := T36.setTop (mkF m 130 #[.val (.long u0), .second, .val (.long u1), .second, .val (.long u2), .second, .val (.long u3), .second, .val (.long u4), .second, .val (.long u5), .second, .val (.long hw0), .second, .val (.long ct), .second, .val (.long iw), .second, .val (.long jw), .second, .val (.ref b1), .val (.long ((own_upd (own_upd (fun _ => (0 : Int64)) jj u3) ii u2) ii)), .second, .val (.int (1 : Int32)), .unset, .unset] [(.long ((own_upd (own_upd (own_upd (fun _ => (0 : Int64)) jj u3) ii u2) ii ((own_upd (own_upd (fun _ => (0 : Int64)) jj u3) ii u2) ii ||| u4)) jj))])) st36 ?_
    refine Goal.to (B := T36.setTop (mkF m 149 #[.val (.long u0), .second, .val (.long u1), .second, .val (.long u2), .second, .val (.long u3), .second, .val (.long u4), .second, .val (.long u5), .second, .val (.long hw0), .second, .val (.long ct), .second, .val (.long iw), .second, .val (.long jw), .second, .val (.ref b1), .val (.long ((own_upd (own_upd (fun _ => (0 : Int64)) jj u3) ii u2) ii)), .second, .val (.int (1 : Int32)), .unset, .unset] [(.long u5), (.long iw), (.ref b1)])) (fun tt kk => ?_) ?_
    · show Steps p.tables e below (T36.setTop (mkF m 130 #[.val (.long u0), .second, .val (.long u1), .second, .val (.long u2), .second, .val (.long u3), .second, .val (.long u4), .second, .val (.long u5), .second, .val (.long hw0), .second, .val (.long ct), .second, .val (.long iw), .second, .val (.long jw), .second, .val (.ref b1), .val (.long ((own_upd (own_upd (fun _ => (0 : Int64)) jj u3) ii u2) ii)), .second, .val (.int (1 : Int32)), .unset, .unset] [(.long ((own_upd (own_upd (own_upd (fun _ => (0 : Int64)) jj u3) ii u2) ii ((own_upd (own_upd (fun _ => (0 : Int64)) jj u3) ii u2) ii ||| u4)) jj))])) tt
      refine XS.lload X36.here hx rfl (hb hby at_130) rfl ?_
      show Steps p.tables e below (T36.setTop (mkF m 132 #[.val (.long u0), .second, .val (.long u1), .second, .val (.long u2), .second, .val (.long u3), .second, .val (.long u4), .second, .val (.long u5), .second, .val (.long hw0), .second, .val (.long ct), .second, .val (.long iw), .second, .val (.long jw), .second, .val (.ref b1), .val (.long ((own_upd (own_upd (fun _ => (0 : Int64)) jj u3) ii u2) ii)), .second, .val (.int (1 : Int32)), .unset, .unset] [(.long u3), (.long ((own_upd (own_upd (own_upd (fun _ => (0 : Int64)) jj u3) ii u2) ii ((own_upd (own_upd (fun _ => (0 : Int64)) jj u3) ii u2) ii ||| u4)) jj))])) tt
      refine XS.lcmp X36.here hx rfl (hb hby at_132) rfl ?_
      show Steps p.tables e below (T36.setTop (mkF m 133 #[.val (.long u0), .second, .val (.long u1), .second, .val (.long u2), .second, .val (.long u3), .second, .val (.long u4), .second, .val (.long u5), .second, .val (.long hw0), .second, .val (.long ct), .second, .val (.long iw), .second, .val (.long jw), .second, .val (.ref b1), .val (.long ((own_upd (own_upd (fun _ => (0 : Int64)) jj u3) ii u2) ii)), .second, .val (.int (1 : Int32)), .unset, .unset] [(.int (lcmpW ((own_upd (own_upd (own_upd (fun _ => (0 : Int64)) jj u3) ii u2) ii ((own_upd (own_upd (fun _ => (0 : Int64)) jj u3) ii u2) ii ||| u4)) jj) u3))])) tt
      refine XS.ifNo X36.here hx rfl (hb hby at_133) rfl ((if0 _ _).trans (teq ((lw_eq _ _).mpr (by simp [own_upd, Ne.symm hne]) : (lcmpW ((own_upd (own_upd (own_upd (fun _ => (0 : Int64)) jj u3) ii u2) ii ((own_upd (own_upd (fun _ => (0 : Int64)) jj u3) ii u2) ii ||| u4)) jj) u3) = (0 : Int32))).2) ?_
      show Steps p.tables e below (T36.setTop (mkF m 136 #[.val (.long u0), .second, .val (.long u1), .second, .val (.long u2), .second, .val (.long u3), .second, .val (.long u4), .second, .val (.long u5), .second, .val (.long hw0), .second, .val (.long ct), .second, .val (.long iw), .second, .val (.long jw), .second, .val (.ref b1), .val (.long ((own_upd (own_upd (fun _ => (0 : Int64)) jj u3) ii u2) ii)), .second, .val (.int (1 : Int32)), .unset, .unset] [])) tt
      refine XS.iconst X36.here hx rfl (hb hby at_136) ?_
      show Steps p.tables e below (T36.setTop (mkF m 137 #[.val (.long u0), .second, .val (.long u1), .second, .val (.long u2), .second, .val (.long u3), .second, .val (.long u4), .second, .val (.long u5), .second, .val (.long hw0), .second, .val (.long ct), .second, .val (.long iw), .second, .val (.long jw), .second, .val (.ref b1), .val (.long ((own_upd (own_upd (fun _ => (0 : Int64)) jj u3) ii u2) ii)), .second, .val (.int (1 : Int32)), .unset, .unset] [(.int (1 : Int32))])) tt
      refine XS.goto X36.here hx rfl (pc0 := 137) (pc' := 141) rfl (hb hby at_137) (by decide) (by decide) ?_
      show Steps p.tables e below (T36.setTop (mkF m 141 #[.val (.long u0), .second, .val (.long u1), .second, .val (.long u2), .second, .val (.long u3), .second, .val (.long u4), .second, .val (.long u5), .second, .val (.long hw0), .second, .val (.long ct), .second, .val (.long iw), .second, .val (.long jw), .second, .val (.ref b1), .val (.long ((own_upd (own_upd (fun _ => (0 : Int64)) jj u3) ii u2) ii)), .second, .val (.int (1 : Int32)), .unset, .unset] [(.int (1 : Int32))])) tt
      refine XS.istore X36.here hx rfl (hb hby at_141) rfl (l' := #[.val (.long u0), .second, .val (.long u1), .second, .val (.long u2), .second, .val (.long u3), .second, .val (.long u4), .second, .val (.long u5), .second, .val (.long hw0), .second, .val (.long ct), .second, .val (.long iw), .second, .val (.long jw), .second, .val (.ref b1), .val (.long ((own_upd (own_upd (fun _ => (0 : Int64)) jj u3) ii u2) ii)), .second, .val (.int (1 : Int32)), .unset, .unset]) rfl ?_
      show Steps p.tables e below (T36.setTop (mkF m 143 #[.val (.long u0), .second, .val (.long u1), .second, .val (.long u2), .second, .val (.long u3), .second, .val (.long u4), .second, .val (.long u5), .second, .val (.long hw0), .second, .val (.long ct), .second, .val (.long iw), .second, .val (.long jw), .second, .val (.ref b1), .val (.long ((own_upd (own_upd (fun _ => (0 : Int64)) jj u3) ii u2) ii)), .second, .val (.int (1 : Int32)), .unset, .unset] [])) tt
      refine XS.aload X36.here hx rfl (hb hby at_143) rfl rfl ?_
      show Steps p.tables e below (T36.setTop (mkF m 145 #[.val (.long u0), .second, .val (.long u1), .second, .val (.long u2), .second, .val (.long u3), .second, .val (.long u4), .second, .val (.long u5), .second, .val (.long hw0), .second, .val (.long ct), .second, .val (.long iw), .second, .val (.long jw), .second, .val (.ref b1), .val (.long ((own_upd (own_upd (fun _ => (0 : Int64)) jj u3) ii u2) ii)), .second, .val (.int (1 : Int32)), .unset, .unset] [(.ref b1)])) tt
      refine XS.lload X36.here hx rfl (hb hby at_145) rfl ?_
      show Steps p.tables e below (T36.setTop (mkF m 147 #[.val (.long u0), .second, .val (.long u1), .second, .val (.long u2), .second, .val (.long u3), .second, .val (.long u4), .second, .val (.long u5), .second, .val (.long hw0), .second, .val (.long ct), .second, .val (.long iw), .second, .val (.long jw), .second, .val (.ref b1), .val (.long ((own_upd (own_upd (fun _ => (0 : Int64)) jj u3) ii u2) ii)), .second, .val (.int (1 : Int32)), .unset, .unset] [(.long iw), (.ref b1)])) tt
      refine XS.lload X36.here hx rfl (hb hby at_147) rfl ?_
      exact kk
    obtain ⟨cq37, kq37, q37a, q37b, q37c⟩ := isOf hZ e36 f21
    obtain ⟨_, _, ⟨T37, L37, k37, n37⟩, -, X37, ⟨Lc37, hQ37, l37, y37, z37⟩, st37⟩ := X36.virtualBack hx (y := (⟨"com/example/hedger/hedger/WordArray", "getAndBitwiseOrAlone", "(JJ)J"⟩ : MethodName)) (z := (⟨"com/example/hedger/hedger/WordArray", "getAndBitwiseOrAlone", "(JJ)J"⟩ : MethodName)) hown (mvT hZ (hw _ (mw 49 rfl))) (mvT hZ (hw _ (mw 50 rfl))) (notFace_of_selects (args := #[]) (mvT hZ (hw _ (mw 52 rfl)))) (mvT hZ (hw _ (mw 52 rfl))) (mvT hZ (hw _ (mw 51 rfl))) (by decide) (backOf (W := 0) (rmgo l Z a0 hw [] b1 vh_3 vp_3 pa_3 pb_3 vs_3 hn (own_upd (own_upd (own_upd (fun _ => (0 : Int64)) jj u3) ii u2) ii ((own_upd (own_upd (fun _ => (0 : Int64)) jj u3) ii u2) ii ||| u4)) ii iw u5 T20.heap n0 f26 f21 f22 f23 f24 P20_0 f25 P20_1 P20_2 P20_3 g_vh_3 g_pa_3 g_pb_3 g_vs_3 ne3_vh_vp ne3_vh_pa ne3_vh_pb ne3_vh_vs ne3_vp_pa ne3_vp_pb ne3_vp_vs ne3_pa_pb ne3_pa_vs ne3_pb_vs ne_b1_vh_3 ne_b1_pa_3 ne_b1_pb_3 ne_b1_vs_3 hHn.1 hI.1 hI.2) hZ (hw _ (mw 53 rfl)) (hw _ (mw 5 rfl)) (by decide) (by decide)) q37a q37c (g := (mkF m 149 #[.val (.long u0), .second, .val (.long u1), .second, .val (.long u2), .second, .val (.long u3), .second, .val (.long u4), .second, .val (.long u5), .second, .val (.long hw0), .second, .val (.long ct), .second, .val (.long iw), .second, .val (.long jw), .second, .val (.ref b1), .val (.long ((own_upd (own_upd (fun _ => (0 : Int64)) jj u3) ii u2) ii)), .second, .val (.int (1 : Int32)), .unset, .unset] [(.long u5), (.long iw), (.ref b1)])) rfl (by rw [hml]; rfl) (Steps.refl _) (argsL := [(.long iw), (.long u5)]) (rest := []) (lenOf pd_4 rfl) rfl (by show 2 * 0 + _ ≤ _; exact Nat.le_of_eq rfl) (hb hby at_149) (fun _ _ => ⟨rfl, e36, (by decide : 6 + 0 ≤ _), (by decide : 32779 + 0 ≤ _)⟩)
    dsimp only [Pt.U, Pt.locs, Pt.cells, Pt.slots] at X37 l37 y37 z37 st37 hQ37
    subst l37 y37 z37
    obtain ⟨rfl, N37q, K37, P37_0, P37_1, P37_2, P37_3⟩ := hQ37
    have N37 := Fr.app N36 N37q
    refine Goal.tr (B := T37.setTop (mkF m 152 #[.val (.long u0), .second, .val (.long u1), .second, .val (.long u2), .second, .val (.long u3), .second, .val (.long u4), .second, .val (.long u5), .second, .val (.long hw0), .second, .val (.long ct), .second, .val (.long iw), .second, .val (.long jw), .second, .val (.ref b1), .val (.long ((own_upd (own_upd (fun _ => (0 : Int64)) jj u3) ii u2) ii)), .second, .val (.int (1 : Int32)), .unset, .unset] [(.long ((own_upd (own_upd (own_upd (fun _ => (0 : Int64)) jj u3) ii u2) ii ((own_upd (own_upd (fun _ => (0 : Int64)) jj u3) ii u2) ii ||| u4)) ii))])) st37 ?_
    refine Goal.to (B := T37.setTop (mkF m 174 #[.val (.long u0), .second, .val (.long u1), .second, .val (.long u2), .second, .val (.long u3), .second, .val (.long u4), .second, .val (.long u5), .second, .val (.long hw0), .second, .val (.long ct), .second, .val (.long iw), .second, .val (.long jw), .second, .val (.ref b1), .val (.long ((own_upd (own_upd (fun _ => (0 : Int64)) jj u3) ii u2) ii)), .second, .val (.int (1 : Int32)), .val (.long ((own_upd (own_upd (own_upd (fun _ => (0 : Int64)) jj u3) ii u2) ii ((own_upd (own_upd (fun _ => (0 : Int64)) jj u3) ii u2) ii ||| u4)) ii)), .second] [(.long iw), (.ref b1)])) (fun tt kk => ?_) ?_
    · show Steps p.tables e below (T37.setTop (mkF m 152 #[.val (.long u0), .second, .val (.long u1), .second, .val (.long u2), .second, .val (.long u3), .second, .val (.long u4), .second, .val (.long u5), .second, .val (.long hw0), .second, .val (.long ct), .second, .val (.long iw), .second, .val (.long jw), .second, .val (.ref b1), .val (.long ((own_upd (own_upd (fun _ => (0 : Int64)) jj u3) ii u2) ii)), .second, .val (.int (1 : Int32)), .unset, .unset] [(.long ((own_upd (own_upd (own_upd (fun _ => (0 : Int64)) jj u3) ii u2) ii ((own_upd (own_upd (fun _ => (0 : Int64)) jj u3) ii u2) ii ||| u4)) ii))])) tt
      refine XS.lstore X37.here hx rfl (hb hby at_152) rfl (l' := #[.val (.long u0), .second, .val (.long u1), .second, .val (.long u2), .second, .val (.long u3), .second, .val (.long u4), .second, .val (.long u5), .second, .val (.long hw0), .second, .val (.long ct), .second, .val (.long iw), .second, .val (.long jw), .second, .val (.ref b1), .val (.long ((own_upd (own_upd (fun _ => (0 : Int64)) jj u3) ii u2) ii)), .second, .val (.int (1 : Int32)), .val (.long ((own_upd (own_upd (own_upd (fun _ => (0 : Int64)) jj u3) ii u2) ii ((own_upd (own_upd (fun _ => (0 : Int64)) jj u3) ii u2) ii ||| u4)) ii)), .second]) rfl ?_
      show Steps p.tables e below (T37.setTop (mkF m 154 #[.val (.long u0), .second, .val (.long u1), .second, .val (.long u2), .second, .val (.long u3), .second, .val (.long u4), .second, .val (.long u5), .second, .val (.long hw0), .second, .val (.long ct), .second, .val (.long iw), .second, .val (.long jw), .second, .val (.ref b1), .val (.long ((own_upd (own_upd (fun _ => (0 : Int64)) jj u3) ii u2) ii)), .second, .val (.int (1 : Int32)), .val (.long ((own_upd (own_upd (own_upd (fun _ => (0 : Int64)) jj u3) ii u2) ii ((own_upd (own_upd (fun _ => (0 : Int64)) jj u3) ii u2) ii ||| u4)) ii)), .second] [])) tt
      refine XS.iload X37.here hx rfl (hb hby at_154) rfl ?_
      show Steps p.tables e below (T37.setTop (mkF m 156 #[.val (.long u0), .second, .val (.long u1), .second, .val (.long u2), .second, .val (.long u3), .second, .val (.long u4), .second, .val (.long u5), .second, .val (.long hw0), .second, .val (.long ct), .second, .val (.long iw), .second, .val (.long jw), .second, .val (.ref b1), .val (.long ((own_upd (own_upd (fun _ => (0 : Int64)) jj u3) ii u2) ii)), .second, .val (.int (1 : Int32)), .val (.long ((own_upd (own_upd (own_upd (fun _ => (0 : Int64)) jj u3) ii u2) ii ((own_upd (own_upd (fun _ => (0 : Int64)) jj u3) ii u2) ii ||| u4)) ii)), .second] [(.int (1 : Int32))])) tt
      refine XS.ifNo X37.here hx rfl (hb hby at_156) rfl ((if0 _ _).trans (feq ((by decide) : ¬ ((1 : Int32) = (0 : Int32)))).1) ?_
      show Steps p.tables e below (T37.setTop (mkF m 159 #[.val (.long u0), .second, .val (.long u1), .second, .val (.long u2), .second, .val (.long u3), .second, .val (.long u4), .second, .val (.long u5), .second, .val (.long hw0), .second, .val (.long ct), .second, .val (.long iw), .second, .val (.long jw), .second, .val (.ref b1), .val (.long ((own_upd (own_upd (fun _ => (0 : Int64)) jj u3) ii u2) ii)), .second, .val (.int (1 : Int32)), .val (.long ((own_upd (own_upd (own_upd (fun _ => (0 : Int64)) jj u3) ii u2) ii ((own_upd (own_upd (fun _ => (0 : Int64)) jj u3) ii u2) ii ||| u4)) ii)), .second] [])) tt
      refine XS.lload X37.here hx rfl (hb hby at_159) rfl ?_
      show Steps p.tables e below (T37.setTop (mkF m 161 #[.val (.long u0), .second, .val (.long u1), .second, .val (.long u2), .second, .val (.long u3), .second, .val (.long u4), .second, .val (.long u5), .second, .val (.long hw0), .second, .val (.long ct), .second, .val (.long iw), .second, .val (.long jw), .second, .val (.ref b1), .val (.long ((own_upd (own_upd (fun _ => (0 : Int64)) jj u3) ii u2) ii)), .second, .val (.int (1 : Int32)), .val (.long ((own_upd (own_upd (own_upd (fun _ => (0 : Int64)) jj u3) ii u2) ii ((own_upd (own_upd (fun _ => (0 : Int64)) jj u3) ii u2) ii ||| u4)) ii)), .second] [(.long ((own_upd (own_upd (own_upd (fun _ => (0 : Int64)) jj u3) ii u2) ii ((own_upd (own_upd (fun _ => (0 : Int64)) jj u3) ii u2) ii ||| u4)) ii))])) tt
      refine XS.lload X37.here hx rfl (hb hby at_161) rfl ?_
      show Steps p.tables e below (T37.setTop (mkF m 163 #[.val (.long u0), .second, .val (.long u1), .second, .val (.long u2), .second, .val (.long u3), .second, .val (.long u4), .second, .val (.long u5), .second, .val (.long hw0), .second, .val (.long ct), .second, .val (.long iw), .second, .val (.long jw), .second, .val (.ref b1), .val (.long ((own_upd (own_upd (fun _ => (0 : Int64)) jj u3) ii u2) ii)), .second, .val (.int (1 : Int32)), .val (.long ((own_upd (own_upd (own_upd (fun _ => (0 : Int64)) jj u3) ii u2) ii ((own_upd (own_upd (fun _ => (0 : Int64)) jj u3) ii u2) ii ||| u4)) ii)), .second] [(.long u2), (.long ((own_upd (own_upd (own_upd (fun _ => (0 : Int64)) jj u3) ii u2) ii ((own_upd (own_upd (fun _ => (0 : Int64)) jj u3) ii u2) ii ||| u4)) ii))])) tt
      refine XS.lload X37.here hx rfl (hb hby at_163) rfl ?_
      show Steps p.tables e below (T37.setTop (mkF m 165 #[.val (.long u0), .second, .val (.long u1), .second, .val (.long u2), .second, .val (.long u3), .second, .val (.long u4), .second, .val (.long u5), .second, .val (.long hw0), .second, .val (.long ct), .second, .val (.long iw), .second, .val (.long jw), .second, .val (.ref b1), .val (.long ((own_upd (own_upd (fun _ => (0 : Int64)) jj u3) ii u2) ii)), .second, .val (.int (1 : Int32)), .val (.long ((own_upd (own_upd (own_upd (fun _ => (0 : Int64)) jj u3) ii u2) ii ((own_upd (own_upd (fun _ => (0 : Int64)) jj u3) ii u2) ii ||| u4)) ii)), .second] [(.long u4), (.long u2), (.long ((own_upd (own_upd (own_upd (fun _ => (0 : Int64)) jj u3) ii u2) ii ((own_upd (own_upd (fun _ => (0 : Int64)) jj u3) ii u2) ii ||| u4)) ii))])) tt
      refine XS.lor X37.here hx rfl (hb hby at_165) rfl ?_
      show Steps p.tables e below (T37.setTop (mkF m 166 #[.val (.long u0), .second, .val (.long u1), .second, .val (.long u2), .second, .val (.long u3), .second, .val (.long u4), .second, .val (.long u5), .second, .val (.long hw0), .second, .val (.long ct), .second, .val (.long iw), .second, .val (.long jw), .second, .val (.ref b1), .val (.long ((own_upd (own_upd (fun _ => (0 : Int64)) jj u3) ii u2) ii)), .second, .val (.int (1 : Int32)), .val (.long ((own_upd (own_upd (own_upd (fun _ => (0 : Int64)) jj u3) ii u2) ii ((own_upd (own_upd (fun _ => (0 : Int64)) jj u3) ii u2) ii ||| u4)) ii)), .second] [(.long (u2 ||| u4)), (.long ((own_upd (own_upd (own_upd (fun _ => (0 : Int64)) jj u3) ii u2) ii ((own_upd (own_upd (fun _ => (0 : Int64)) jj u3) ii u2) ii ||| u4)) ii))])) tt
      refine XS.lcmp X37.here hx rfl (hb hby at_166) rfl ?_
      show Steps p.tables e below (T37.setTop (mkF m 167 #[.val (.long u0), .second, .val (.long u1), .second, .val (.long u2), .second, .val (.long u3), .second, .val (.long u4), .second, .val (.long u5), .second, .val (.long hw0), .second, .val (.long ct), .second, .val (.long iw), .second, .val (.long jw), .second, .val (.ref b1), .val (.long ((own_upd (own_upd (fun _ => (0 : Int64)) jj u3) ii u2) ii)), .second, .val (.int (1 : Int32)), .val (.long ((own_upd (own_upd (own_upd (fun _ => (0 : Int64)) jj u3) ii u2) ii ((own_upd (own_upd (fun _ => (0 : Int64)) jj u3) ii u2) ii ||| u4)) ii)), .second] [(.int (lcmpW ((own_upd (own_upd (own_upd (fun _ => (0 : Int64)) jj u3) ii u2) ii ((own_upd (own_upd (fun _ => (0 : Int64)) jj u3) ii u2) ii ||| u4)) ii) (u2 ||| u4)))])) tt
      refine XS.ifNo X37.here hx rfl (hb hby at_167) rfl ((if0 _ _).trans (teq ((lw_eq _ _).mpr (by simp [own_upd]) : (lcmpW ((own_upd (own_upd (own_upd (fun _ => (0 : Int64)) jj u3) ii u2) ii ((own_upd (own_upd (fun _ => (0 : Int64)) jj u3) ii u2) ii ||| u4)) ii) (u2 ||| u4)) = (0 : Int32))).2) ?_
      show Steps p.tables e below (T37.setTop (mkF m 170 #[.val (.long u0), .second, .val (.long u1), .second, .val (.long u2), .second, .val (.long u3), .second, .val (.long u4), .second, .val (.long u5), .second, .val (.long hw0), .second, .val (.long ct), .second, .val (.long iw), .second, .val (.long jw), .second, .val (.ref b1), .val (.long ((own_upd (own_upd (fun _ => (0 : Int64)) jj u3) ii u2) ii)), .second, .val (.int (1 : Int32)), .val (.long ((own_upd (own_upd (own_upd (fun _ => (0 : Int64)) jj u3) ii u2) ii ((own_upd (own_upd (fun _ => (0 : Int64)) jj u3) ii u2) ii ||| u4)) ii)), .second] [])) tt
      refine XS.aload X37.here hx rfl (hb hby at_170) rfl rfl ?_
      show Steps p.tables e below (T37.setTop (mkF m 172 #[.val (.long u0), .second, .val (.long u1), .second, .val (.long u2), .second, .val (.long u3), .second, .val (.long u4), .second, .val (.long u5), .second, .val (.long hw0), .second, .val (.long ct), .second, .val (.long iw), .second, .val (.long jw), .second, .val (.ref b1), .val (.long ((own_upd (own_upd (fun _ => (0 : Int64)) jj u3) ii u2) ii)), .second, .val (.int (1 : Int32)), .val (.long ((own_upd (own_upd (own_upd (fun _ => (0 : Int64)) jj u3) ii u2) ii ((own_upd (own_upd (fun _ => (0 : Int64)) jj u3) ii u2) ii ||| u4)) ii)), .second] [(.ref b1)])) tt
      refine XS.lload X37.here hx rfl (hb hby at_172) rfl ?_
      exact kk
    have f38 : Exa Z T37.heap b1 "com/example/hedger/hedger/WordArray" := (f21.keep K37)
    have f39 : Fld Z T37.heap b1 "com/example/hedger/hedger/WordArray" "head" "[J" (.ref vh_3) := (f22.keep K37 (ninS ne_b1_vh_3 (ninS ne_b1_pa_3 (ninS ne_b1_pb_3 (ninS ne_b1_vs_3 nin0)))))
    have f40 : Fld Z T37.heap b1 "com/example/hedger/hedger/WordArray" "pages" "[[J" (.ref vp_3) := (f23.keep K37 (ninS ne_b1_vh_3 (ninS ne_b1_pa_3 (ninS ne_b1_pb_3 (ninS ne_b1_vs_3 nin0)))))
    have f41 : Fld Z T37.heap b1 "com/example/hedger/hedger/WordArray" "spares" "[J" (.ref vs_3) := (f24.keep K37 (ninS ne_b1_vh_3 (ninS ne_b1_pa_3 (ninS ne_b1_pb_3 (ninS ne_b1_vs_3 nin0)))))
    have f42 : Ary Z T37.heap vp_3 (.array .long) [(.ref pa_3), (.ref pb_3)] := (f25.keep K37 (ninS (Ne.symm ne3_vh_vp) (ninS ne3_vp_pa (ninS ne3_vp_pb (ninS ne3_vp_vs nin0)))))
    have f43 : n0 ≤ T37.heap.size := (Nat.le_trans f26 K37.1)
    obtain ⟨cq44, kq44, q44a, q44b, q44c⟩ := isOf hZ rfl f38
    obtain ⟨_, _, ⟨T44, L44, k44, n44⟩, -, X44, ⟨Lc44, hQ44, l44, y44, z44⟩, st44⟩ := X37.virtualBack hx (y := (⟨"com/example/hedger/hedger/WordArray", "getPlain", "(J)J"⟩ : MethodName)) (z := (⟨"com/example/hedger/hedger/WordArray", "getPlain", "(J)J"⟩ : MethodName)) hown (mvT hZ (hw _ (mw 54 rfl))) (mvT hZ (hw _ (mw 55 rfl))) (notFace_of_selects (args := #[]) (mvT hZ (hw _ (mw 57 rfl)))) (mvT hZ (hw _ (mw 57 rfl))) (mvT hZ (hw _ (mw 56 rfl))) (by decide) (backOf (W := 0) (rmgp l Z a0 hw [] b1 vh_3 vp_3 pa_3 pb_3 vs_3 hn (own_upd (own_upd (own_upd (own_upd (fun _ => (0 : Int64)) jj u3) ii u2) ii ((own_upd (own_upd (fun _ => (0 : Int64)) jj u3) ii u2) ii ||| u4)) ii ((own_upd (own_upd (own_upd (fun _ => (0 : Int64)) jj u3) ii u2) ii ((own_upd (own_upd (fun _ => (0 : Int64)) jj u3) ii u2) ii ||| u4)) ii ||| u5)) ii iw T37.heap n0 f43 f38 f39 f40 f41 P37_0 f42 P37_1 P37_2 P37_3 hHn.1 hI.1 hI.2) hZ (hw _ (mw 58 rfl)) (hw _ (mw 5 rfl)) (by decide) (by decide)) q44a q44c (g := (mkF m 174 #[.val (.long u0), .second, .val (.long u1), .second, .val (.long u2), .second, .val (.long u3), .second, .val (.long u4), .second, .val (.long u5), .second, .val (.long hw0), .second, .val (.long ct), .second, .val (.long iw), .second, .val (.long jw), .second, .val (.ref b1), .val (.long ((own_upd (own_upd (fun _ => (0 : Int64)) jj u3) ii u2) ii)), .second, .val (.int (1 : Int32)), .val (.long ((own_upd (own_upd (own_upd (fun _ => (0 : Int64)) jj u3) ii u2) ii ((own_upd (own_upd (fun _ => (0 : Int64)) jj u3) ii u2) ii ||| u4)) ii)), .second] [(.long iw), (.ref b1)])) rfl (by rw [hml]; rfl) (Steps.refl _) (argsL := [(.long iw)]) (rest := []) (lenOf pd_5 rfl) rfl (by show 2 * 0 + _ ≤ _; exact Nat.le_of_eq rfl) (hb hby at_174) (fun _ _ => ⟨rfl, rfl, (by decide : 6 + 0 ≤ _), (by decide : 32779 + 0 ≤ _)⟩)
    dsimp only [Pt.U, Pt.locs, Pt.cells, Pt.slots] at X44 l44 y44 z44 st44 hQ44
    subst l44 y44 z44
    obtain ⟨rfl, N44q, e44⟩ := hQ44
    have N44 := Fr.app N37 N44q
    refine Goal.tr (B := T44.setTop (mkF m 177 #[.val (.long u0), .second, .val (.long u1), .second, .val (.long u2), .second, .val (.long u3), .second, .val (.long u4), .second, .val (.long u5), .second, .val (.long hw0), .second, .val (.long ct), .second, .val (.long iw), .second, .val (.long jw), .second, .val (.ref b1), .val (.long ((own_upd (own_upd (fun _ => (0 : Int64)) jj u3) ii u2) ii)), .second, .val (.int (1 : Int32)), .val (.long ((own_upd (own_upd (own_upd (fun _ => (0 : Int64)) jj u3) ii u2) ii ((own_upd (own_upd (fun _ => (0 : Int64)) jj u3) ii u2) ii ||| u4)) ii)), .second] [(.long ((own_upd (own_upd (own_upd (own_upd (fun _ => (0 : Int64)) jj u3) ii u2) ii ((own_upd (own_upd (fun _ => (0 : Int64)) jj u3) ii u2) ii ||| u4)) ii ((own_upd (own_upd (own_upd (fun _ => (0 : Int64)) jj u3) ii u2) ii ((own_upd (own_upd (fun _ => (0 : Int64)) jj u3) ii u2) ii ||| u4)) ii ||| u5)) ii))])) st44 ?_
    refine Goal.to (B := T44.setTop (mkF m 198 #[.val (.long u0), .second, .val (.long u1), .second, .val (.long u2), .second, .val (.long u3), .second, .val (.long u4), .second, .val (.long u5), .second, .val (.long hw0), .second, .val (.long ct), .second, .val (.long iw), .second, .val (.long jw), .second, .val (.ref b1), .val (.long ((own_upd (own_upd (fun _ => (0 : Int64)) jj u3) ii u2) ii)), .second, .val (.int (1 : Int32)), .val (.long ((own_upd (own_upd (own_upd (fun _ => (0 : Int64)) jj u3) ii u2) ii ((own_upd (own_upd (fun _ => (0 : Int64)) jj u3) ii u2) ii ||| u4)) ii)), .second] [(.int (1 : Int32))])) (fun tt kk => ?_) ?_
    · show Steps p.tables e below (T44.setTop (mkF m 177 #[.val (.long u0), .second, .val (.long u1), .second, .val (.long u2), .second, .val (.long u3), .second, .val (.long u4), .second, .val (.long u5), .second, .val (.long hw0), .second, .val (.long ct), .second, .val (.long iw), .second, .val (.long jw), .second, .val (.ref b1), .val (.long ((own_upd (own_upd (fun _ => (0 : Int64)) jj u3) ii u2) ii)), .second, .val (.int (1 : Int32)), .val (.long ((own_upd (own_upd (own_upd (fun _ => (0 : Int64)) jj u3) ii u2) ii ((own_upd (own_upd (fun _ => (0 : Int64)) jj u3) ii u2) ii ||| u4)) ii)), .second] [(.long ((own_upd (own_upd (own_upd (own_upd (fun _ => (0 : Int64)) jj u3) ii u2) ii ((own_upd (own_upd (fun _ => (0 : Int64)) jj u3) ii u2) ii ||| u4)) ii ((own_upd (own_upd (own_upd (fun _ => (0 : Int64)) jj u3) ii u2) ii ((own_upd (own_upd (fun _ => (0 : Int64)) jj u3) ii u2) ii ||| u4)) ii ||| u5)) ii))])) tt
      refine XS.lload X44.here hx rfl (hb hby at_177) rfl ?_
      show Steps p.tables e below (T44.setTop (mkF m 179 #[.val (.long u0), .second, .val (.long u1), .second, .val (.long u2), .second, .val (.long u3), .second, .val (.long u4), .second, .val (.long u5), .second, .val (.long hw0), .second, .val (.long ct), .second, .val (.long iw), .second, .val (.long jw), .second, .val (.ref b1), .val (.long ((own_upd (own_upd (fun _ => (0 : Int64)) jj u3) ii u2) ii)), .second, .val (.int (1 : Int32)), .val (.long ((own_upd (own_upd (own_upd (fun _ => (0 : Int64)) jj u3) ii u2) ii ((own_upd (own_upd (fun _ => (0 : Int64)) jj u3) ii u2) ii ||| u4)) ii)), .second] [(.long u2), (.long ((own_upd (own_upd (own_upd (own_upd (fun _ => (0 : Int64)) jj u3) ii u2) ii ((own_upd (own_upd (fun _ => (0 : Int64)) jj u3) ii u2) ii ||| u4)) ii ((own_upd (own_upd (own_upd (fun _ => (0 : Int64)) jj u3) ii u2) ii ((own_upd (own_upd (fun _ => (0 : Int64)) jj u3) ii u2) ii ||| u4)) ii ||| u5)) ii))])) tt
      refine XS.lload X44.here hx rfl (hb hby at_179) rfl ?_
      show Steps p.tables e below (T44.setTop (mkF m 181 #[.val (.long u0), .second, .val (.long u1), .second, .val (.long u2), .second, .val (.long u3), .second, .val (.long u4), .second, .val (.long u5), .second, .val (.long hw0), .second, .val (.long ct), .second, .val (.long iw), .second, .val (.long jw), .second, .val (.ref b1), .val (.long ((own_upd (own_upd (fun _ => (0 : Int64)) jj u3) ii u2) ii)), .second, .val (.int (1 : Int32)), .val (.long ((own_upd (own_upd (own_upd (fun _ => (0 : Int64)) jj u3) ii u2) ii ((own_upd (own_upd (fun _ => (0 : Int64)) jj u3) ii u2) ii ||| u4)) ii)), .second] [(.long u4), (.long u2), (.long ((own_upd (own_upd (own_upd (own_upd (fun _ => (0 : Int64)) jj u3) ii u2) ii ((own_upd (own_upd (fun _ => (0 : Int64)) jj u3) ii u2) ii ||| u4)) ii ((own_upd (own_upd (own_upd (fun _ => (0 : Int64)) jj u3) ii u2) ii ((own_upd (own_upd (fun _ => (0 : Int64)) jj u3) ii u2) ii ||| u4)) ii ||| u5)) ii))])) tt
      refine XS.lor X44.here hx rfl (hb hby at_181) rfl ?_
      show Steps p.tables e below (T44.setTop (mkF m 182 #[.val (.long u0), .second, .val (.long u1), .second, .val (.long u2), .second, .val (.long u3), .second, .val (.long u4), .second, .val (.long u5), .second, .val (.long hw0), .second, .val (.long ct), .second, .val (.long iw), .second, .val (.long jw), .second, .val (.ref b1), .val (.long ((own_upd (own_upd (fun _ => (0 : Int64)) jj u3) ii u2) ii)), .second, .val (.int (1 : Int32)), .val (.long ((own_upd (own_upd (own_upd (fun _ => (0 : Int64)) jj u3) ii u2) ii ((own_upd (own_upd (fun _ => (0 : Int64)) jj u3) ii u2) ii ||| u4)) ii)), .second] [(.long (u2 ||| u4)), (.long ((own_upd (own_upd (own_upd (own_upd (fun _ => (0 : Int64)) jj u3) ii u2) ii ((own_upd (own_upd (fun _ => (0 : Int64)) jj u3) ii u2) ii ||| u4)) ii ((own_upd (own_upd (own_upd (fun _ => (0 : Int64)) jj u3) ii u2) ii ((own_upd (own_upd (fun _ => (0 : Int64)) jj u3) ii u2) ii ||| u4)) ii ||| u5)) ii))])) tt
      refine XS.lload X44.here hx rfl (hb hby at_182) rfl ?_
      show Steps p.tables e below (T44.setTop (mkF m 184 #[.val (.long u0), .second, .val (.long u1), .second, .val (.long u2), .second, .val (.long u3), .second, .val (.long u4), .second, .val (.long u5), .second, .val (.long hw0), .second, .val (.long ct), .second, .val (.long iw), .second, .val (.long jw), .second, .val (.ref b1), .val (.long ((own_upd (own_upd (fun _ => (0 : Int64)) jj u3) ii u2) ii)), .second, .val (.int (1 : Int32)), .val (.long ((own_upd (own_upd (own_upd (fun _ => (0 : Int64)) jj u3) ii u2) ii ((own_upd (own_upd (fun _ => (0 : Int64)) jj u3) ii u2) ii ||| u4)) ii)), .second] [(.long u5), (.long (u2 ||| u4)), (.long ((own_upd (own_upd (own_upd (own_upd (fun _ => (0 : Int64)) jj u3) ii u2) ii ((own_upd (own_upd (fun _ => (0 : Int64)) jj u3) ii u2) ii ||| u4)) ii ((own_upd (own_upd (own_upd (fun _ => (0 : Int64)) jj u3) ii u2) ii ((own_upd (own_upd (fun _ => (0 : Int64)) jj u3) ii u2) ii ||| u4)) ii ||| u5)) ii))])) tt
      refine XS.lor X44.here hx rfl (hb hby at_184) rfl ?_
      show Steps p.tables e below (T44.setTop (mkF m 185 #[.val (.long u0), .second, .val (.long u1), .second, .val (.long u2), .second, .val (.long u3), .second, .val (.long u4), .second, .val (.long u5), .second, .val (.long hw0), .second, .val (.long ct), .second, .val (.long iw), .second, .val (.long jw), .second, .val (.ref b1), .val (.long ((own_upd (own_upd (fun _ => (0 : Int64)) jj u3) ii u2) ii)), .second, .val (.int (1 : Int32)), .val (.long ((own_upd (own_upd (own_upd (fun _ => (0 : Int64)) jj u3) ii u2) ii ((own_upd (own_upd (fun _ => (0 : Int64)) jj u3) ii u2) ii ||| u4)) ii)), .second] [(.long ((u2 ||| u4) ||| u5)), (.long ((own_upd (own_upd (own_upd (own_upd (fun _ => (0 : Int64)) jj u3) ii u2) ii ((own_upd (own_upd (fun _ => (0 : Int64)) jj u3) ii u2) ii ||| u4)) ii ((own_upd (own_upd (own_upd (fun _ => (0 : Int64)) jj u3) ii u2) ii ((own_upd (own_upd (fun _ => (0 : Int64)) jj u3) ii u2) ii ||| u4)) ii ||| u5)) ii))])) tt
      refine XS.lcmp X44.here hx rfl (hb hby at_185) rfl ?_
      show Steps p.tables e below (T44.setTop (mkF m 186 #[.val (.long u0), .second, .val (.long u1), .second, .val (.long u2), .second, .val (.long u3), .second, .val (.long u4), .second, .val (.long u5), .second, .val (.long hw0), .second, .val (.long ct), .second, .val (.long iw), .second, .val (.long jw), .second, .val (.ref b1), .val (.long ((own_upd (own_upd (fun _ => (0 : Int64)) jj u3) ii u2) ii)), .second, .val (.int (1 : Int32)), .val (.long ((own_upd (own_upd (own_upd (fun _ => (0 : Int64)) jj u3) ii u2) ii ((own_upd (own_upd (fun _ => (0 : Int64)) jj u3) ii u2) ii ||| u4)) ii)), .second] [(.int (lcmpW ((own_upd (own_upd (own_upd (own_upd (fun _ => (0 : Int64)) jj u3) ii u2) ii ((own_upd (own_upd (fun _ => (0 : Int64)) jj u3) ii u2) ii ||| u4)) ii ((own_upd (own_upd (own_upd (fun _ => (0 : Int64)) jj u3) ii u2) ii ((own_upd (own_upd (fun _ => (0 : Int64)) jj u3) ii u2) ii ||| u4)) ii ||| u5)) ii) ((u2 ||| u4) ||| u5)))])) tt
      refine XS.ifNo X44.here hx rfl (hb hby at_186) rfl ((if0 _ _).trans (teq ((lw_eq _ _).mpr (by simp [own_upd]) : (lcmpW ((own_upd (own_upd (own_upd (own_upd (fun _ => (0 : Int64)) jj u3) ii u2) ii ((own_upd (own_upd (fun _ => (0 : Int64)) jj u3) ii u2) ii ||| u4)) ii ((own_upd (own_upd (own_upd (fun _ => (0 : Int64)) jj u3) ii u2) ii ((own_upd (own_upd (fun _ => (0 : Int64)) jj u3) ii u2) ii ||| u4)) ii ||| u5)) ii) ((u2 ||| u4) ||| u5)) = (0 : Int32))).2) ?_
      show Steps p.tables e below (T44.setTop (mkF m 189 #[.val (.long u0), .second, .val (.long u1), .second, .val (.long u2), .second, .val (.long u3), .second, .val (.long u4), .second, .val (.long u5), .second, .val (.long hw0), .second, .val (.long ct), .second, .val (.long iw), .second, .val (.long jw), .second, .val (.ref b1), .val (.long ((own_upd (own_upd (fun _ => (0 : Int64)) jj u3) ii u2) ii)), .second, .val (.int (1 : Int32)), .val (.long ((own_upd (own_upd (own_upd (fun _ => (0 : Int64)) jj u3) ii u2) ii ((own_upd (own_upd (fun _ => (0 : Int64)) jj u3) ii u2) ii ||| u4)) ii)), .second] [])) tt
      refine XS.iconst X44.here hx rfl (hb hby at_189) ?_
      show Steps p.tables e below (T44.setTop (mkF m 190 #[.val (.long u0), .second, .val (.long u1), .second, .val (.long u2), .second, .val (.long u3), .second, .val (.long u4), .second, .val (.long u5), .second, .val (.long hw0), .second, .val (.long ct), .second, .val (.long iw), .second, .val (.long jw), .second, .val (.ref b1), .val (.long ((own_upd (own_upd (fun _ => (0 : Int64)) jj u3) ii u2) ii)), .second, .val (.int (1 : Int32)), .val (.long ((own_upd (own_upd (own_upd (fun _ => (0 : Int64)) jj u3) ii u2) ii ((own_upd (own_upd (fun _ => (0 : Int64)) jj u3) ii u2) ii ||| u4)) ii)), .second] [(.int (1 : Int32))])) tt
      refine XS.goto X44.here hx rfl (pc0 := 190) (pc' := 194) rfl (hb hby at_190) (by decide) (by decide) ?_
      show Steps p.tables e below (T44.setTop (mkF m 194 #[.val (.long u0), .second, .val (.long u1), .second, .val (.long u2), .second, .val (.long u3), .second, .val (.long u4), .second, .val (.long u5), .second, .val (.long hw0), .second, .val (.long ct), .second, .val (.long iw), .second, .val (.long jw), .second, .val (.ref b1), .val (.long ((own_upd (own_upd (fun _ => (0 : Int64)) jj u3) ii u2) ii)), .second, .val (.int (1 : Int32)), .val (.long ((own_upd (own_upd (own_upd (fun _ => (0 : Int64)) jj u3) ii u2) ii ((own_upd (own_upd (fun _ => (0 : Int64)) jj u3) ii u2) ii ||| u4)) ii)), .second] [(.int (1 : Int32))])) tt
      refine XS.istore X44.here hx rfl (hb hby at_194) rfl (l' := #[.val (.long u0), .second, .val (.long u1), .second, .val (.long u2), .second, .val (.long u3), .second, .val (.long u4), .second, .val (.long u5), .second, .val (.long hw0), .second, .val (.long ct), .second, .val (.long iw), .second, .val (.long jw), .second, .val (.ref b1), .val (.long ((own_upd (own_upd (fun _ => (0 : Int64)) jj u3) ii u2) ii)), .second, .val (.int (1 : Int32)), .val (.long ((own_upd (own_upd (own_upd (fun _ => (0 : Int64)) jj u3) ii u2) ii ((own_upd (own_upd (fun _ => (0 : Int64)) jj u3) ii u2) ii ||| u4)) ii)), .second]) rfl ?_
      show Steps p.tables e below (T44.setTop (mkF m 196 #[.val (.long u0), .second, .val (.long u1), .second, .val (.long u2), .second, .val (.long u3), .second, .val (.long u4), .second, .val (.long u5), .second, .val (.long hw0), .second, .val (.long ct), .second, .val (.long iw), .second, .val (.long jw), .second, .val (.ref b1), .val (.long ((own_upd (own_upd (fun _ => (0 : Int64)) jj u3) ii u2) ii)), .second, .val (.int (1 : Int32)), .val (.long ((own_upd (own_upd (own_upd (fun _ => (0 : Int64)) jj u3) ii u2) ii ((own_upd (own_upd (fun _ => (0 : Int64)) jj u3) ii u2) ii ||| u4)) ii)), .second] [])) tt
      refine XS.iload X44.here hx rfl (hb hby at_196) rfl ?_
      exact kk
    exact Goal.retV X44 hx Bd.returns rfl (Or.inl ⟨rfl, Or.inr (Or.inl rfl), _, rfl⟩) (hb hby at_198) hlk e44 ⟨rfl, N44⟩ (by decide) (by decide)
set_option maxRecDepth 65536 in
set_option maxHeartbeats 40000000 in
theorem comes_1 {Post : Tables → Env → Array Value → State → Outcome → State → Prop} (hpost : ∀ tb e args s v u, (limb_1_1.after args s (.returned v) u = true ∧ limb_1_2.after args s (.returned v) u = true ∧ True) → FrameEnd s (.returned v) u (Jvm.fieldLocs frame_1_writes args s ++ Jvm.arrayLocs frame_1_arrays args s ++ Jvm.staticLocs frame_1_statics s) 24 65664 → Post tb e args s (.returned v) u) :
    ArmFor flags0 classFile x code maxLocals ret World_1 tables_1 room_1 Calls_1 rest_1 Pre_1 Post := by
  intro l hfl _ _ p e ha hc hk s m args below hf hA hF happ hP
  obtain ⟨hcalls, hrest, hpre⟩ := hP
  obtain ⟨-, -, -, hnamed, -, -, -, hat⟩ := (Spec.applies_iff hf).mp happ
  obtain ⟨hg, hn⟩ := and_e (Cond.before_iff.mp (show (Jvm.Cond.and given_1 narrow_1).before args s = true from hpre))
  obtain ⟨u1, u2⟩ := and_e hg
  obtain ⟨u3, u4⟩ := and_e u2
  obtain ⟨u5, u6⟩ := and_e u4
  obtain ⟨u7, u8⟩ := and_e u6
  obtain ⟨u9, u10⟩ := and_e u8
  obtain ⟨u11, u12⟩ := and_e u10
  obtain ⟨w0, w1, w2, w3, w4, w5, rfl⟩ : ∃ w0 w1 w2 w3 w4 w5 : Value, args = #[w0, w1, w2, w3, w4, w5] := by
    have hs : args.size = 6 := by simpa [Cond.value, given_1] using u1
    obtain ⟨L⟩ := args
    match L, hs with
    | [w0, w1, w2, w3, w4, w5], _ => exact ⟨w0, w1, w2, w3, w4, w5, rfl⟩
  have hw := fun d (hd : d ∈ tables_1) => atoms_spec (ws := Jvm.Cond.code x code maxLocals ret :: tables_1) hat d (List.mem_cons_of_mem _ hd)
  obtain ⟨i0, ei0⟩ := isL_v u3
  obtain rfl : w0 = (.long i0) := Option.some.inj ei0
  obtain ⟨i1, ei1⟩ := isL_v u5
  obtain rfl : w1 = (.long i1) := Option.some.inj ei1
  obtain ⟨i2, ei2⟩ := isL_v u7
  obtain rfl : w2 = (.long i2) := Option.some.inj ei2
  obtain ⟨i3, ei3⟩ := isL_v u9
  obtain rfl : w3 = (.long i3) := Option.some.inj ei3
  obtain ⟨i4, ei4⟩ := isL_v u11
  obtain rfl : w4 = (.long i4) := Option.some.inj ei4
  obtain ⟨i5, ei5⟩ := isL_v u12
  obtain rfl : w5 = (.long i5) := Option.some.inj ei5
  obtain ⟨n, o, h1, h2, h3, _, L, rfl, ⟨rfl, N⟩, hq⟩ := rm0 l s _ hw tables_1 i0 i1 i2 i3 i4 i5 s.heap s.heap.size (Nat.le_refl _)  p e ha hc hk s m _ below hf ((Spec.applies_iff_loose hf).mp happ).1 ⟨rfl, State.Warmed39.refl s, rfl⟩ trivial
  refine ⟨n, _, h1, h2, h3, hpost _ _ _ _ _ _ ⟨Cond.after_iff.mpr rfl, Cond.after_iff.mpr (eq_i res_at (Term.int_eval (1)) rfl), trivial⟩ ⟨hq.1, hq.2.1, (hq.2.2.sift fun y hy => Or.inr (N y hy)).mono (by decide) (by decide)⟩⟩
theorem main_1_1 : Claimed_1_1 := comes_1 fun _ _ _ _ _ _ h hF => ⟨h.1, hF⟩
theorem main_1_2 : Claimed_1_2 := comes_1 fun _ _ _ _ _ _ h hF => ⟨h.2.1, hF⟩
end Jvm.Pilot.@@N@@
namespace Jvm.Pilot.@@N@@
open Jvm Jvm.ClassFile Sem Op Lib Jvm.Free Jvm.Stand Jvm.Pilot.@@N@@.Jvm.D
/-! MADE BY PROGRAM (witnessworld.py) out of the Statement's table words and the real class files: 12 classes; the members and pool entries that the words name. The judged class is class 1, her method 1. -/
namespace start1
open Jvm.ClassFile
def u (s : String) : CpInfo := .utf8 (stringToUtf16 s)
/-- a pool by its gaps: so many unusable entries, then the entry; so many at the end -/
def gap : Nat → List CpInfo → List CpInfo
  | 0, r => r
  | n + 1, r => .unusable :: gap n r
def poolList (es : List (Nat × CpInfo)) (last : Nat) : List CpInfo := es.foldr (fun e r => gap e.1 (e.2 :: r)) (gap last [])
def pool (es : List (Nat × CpInfo)) (last : Nat) : Array CpInfo := ⟨poolList es last⟩
def fileOf (pool : Array CpInfo) (this : Nat) (attrs : Array Attribute := #[]) (ms : Array MethodInfo := #[]) (fl : Nat := 33) (sup : Nat := 0) (ifs : Array Nat := #[]) (fds : Array FieldInfo := #[]) : ClassFile where
  minorVersion := 0
  majorVersion := 65
  constantPool := pool
  accessFlags := fl
  thisClass := this
  superClass := sup
  interfaces := ifs
  fields := fds
  methods := ms
  attributes := attrs
def plain (name : String) (sup : Option ClassId) : Class where
  name := name
  kind := .ordinary
  loader := none
  accessFlags := 33
  super := sup
  interfaces := #[]
  cf := none
  fields := #[]
  methods := #[]
  instanceTypes := #[]
  staticTypes := #[]
  resolved := #[]
  callSites := []
  init := .initialized
  statics := none
  mirror := none

def pool0 : Array CpInfo := pool [(5, u "<init>"), (0, u "()V"), (1, .class_ 10), (1, u "java/lang/Object")] 113

def k0c0 : Code := { maxStack := 0, maxLocals := 1, code := object_method_1_code, exceptionTable := #[], attributes := #[] }
def k0m0 : Method := { name := "<init>", desc := "()V", sig := { parameters := [], returnType := none }, accessFlags := 1, code := some k0c0 }
/-- java/lang/Object -/
def k0 : Class := { plain "java/lang/Object" none with
  accessFlags := 33
  interfaces := #[]
  cf := some (fileOf pool0 8 #[] #[{ accessFlags := 1, nameIndex := 5, descriptorIndex := 6, attributes := #[] }] 33 0 #[] #[])
  fields := #[]
  methods := #[k0m0]
  instanceTypes := #[]
  staticTypes := #[]
  resolved := Array.replicate 124 none
  statics := none }

def pool1 : Array CpInfo := pool [(2, .class_ 4), (1, u "java/lang/Object"), (0, u "<init>"), (0, u "()V"), (0, .long 3), (1, .long 32770), (1, .long 2147483647), (1, .class_ 14), (0, u "com/example/hedger/hedger/WordArray"), (0, .methodref 13 16), (0, .nameAndType 5 17), (0, u "(JJ)V"), (0, .methodref 13 19), (0, .nameAndType 20 17), (0, u "setPlain"), (0, .methodref 13 22), (0, .nameAndType 23 24), (0, u "getAndBitwiseOrAlone"), (0, u "(JJ)J"), (0, .methodref 13 26), (0, .nameAndType 27 28), (0, u "getPlain"), (0, u "(J)J"), (0, .class_ 30), (0, u "com/example/hedger/hedger/WordArrayGetAndBitwiseOrAlonePinLaw"), (2, u "law"), (0, u "(JJJJJJ)Z")] 3

def k1m0 : Method := { name := "<init>", desc := "()V", sig := { parameters := [], returnType := none }, accessFlags := 1, code := none }
def k1c1 : Code := { maxStack := 6, maxLocals := 26, code := code, exceptionTable := #[], attributes := #[] }
def k1m1 : Method := { name := "law", desc := "(JJJJJJ)Z", sig := { parameters := [.long, .long, .long, .long, .long, .long], returnType := some .boolean }, accessFlags := 9, code := some k1c1 }
/-- com/example/hedger/hedger/WordArrayGetAndBitwiseOrAlonePinLaw -/
def k1 : Class := { plain "com/example/hedger/hedger/WordArrayGetAndBitwiseOrAlonePinLaw" (some 0) with
  accessFlags := 49
  interfaces := #[]
  cf := some (fileOf pool1 29 #[] #[{ accessFlags := 1, nameIndex := 5, descriptorIndex := 6, attributes := #[] }, { accessFlags := 9, nameIndex := 33, descriptorIndex := 34, attributes := #[] }] 49 2 #[] #[])
  fields := #[]
  methods := #[k1m0, k1m1]
  instanceTypes := #[]
  staticTypes := #[]
  resolved := Array.replicate 38 none
  statics := none }

def pool2 : Array CpInfo := pool [(3, .class_ 4), (0, u "com/example/hedger/hedger/WordArray"), (5, u "(J)J"), (2, u "<init>"), (0, u "(JJ)V"), (0, .methodref 16 17), (0, .class_ 18), (0, .nameAndType 13 19), (0, u "java/lang/Object"), (0, u "()V"), (0, .fieldref 3 21), (0, .nameAndType 22 23), (0, u "wordCount"), (0, u "J"), (0, .fieldref 3 25), (0, .nameAndType 26 27), (0, u "head"), (0, u "[J"), (0, .methodref 3 29), (0, .nameAndType 30 31), (0, u "pageCount"), (0, u "(J)I"), (0, .class_ 27), (0, .fieldref 3 34), (0, .nameAndType 35 36), (0, u "pages"), (0, u "[[J"), (0, .methodref 3 38), (0, .nameAndType 39 40), (0, u "arrayWordsInPage"), (0, u "(JI)I"), (0, .methodref 3 42), (0, .nameAndType 43 31), (0, u "spareCount"), (0, .fieldref 3 45), (0, .nameAndType 46 27), (0, u "spares"), (0, .long 32765), (1, .methodref 50 51), (0, .class_ 52), (0, .nameAndType 53 54), (0, u "java/lang/Math"), (0, u "min"), (0, u "(JJ)J"), (1, .class_ 58), (1, u "com/example/hedger/hedger/WordArray$WordSource"), (25, .class_ 86), (1, u "com/example/hedger/hedger/WordArray$G1Regions"), (18, u "WORDS"), (0, u "Ljava/lang/invoke/VarHandle;"), (3, u "(J)[J"), (9, .methodref 3 121), (0, .nameAndType 122 110), (0, u "pageArrayOf"), (0, .methodref 3 124), (0, .nameAndType 125 31), (0, u "pageOffsetOf"), (24, .long 32768), (1, .long 32767), (1, .long 3), (1, .methodref 50 157), (0, .nameAndType 158 54), (0, u "max"), (6, u "LARGEST_ARRAY_HEADER"), (0, u "I"), (2, u "LARGEST_ARRAY_WORDS"), (1, u "HEAP_REGIONS_PER_HEAD_REGION"), (1, u "PAGE_WORDS"), (1, u "PAGE_SHIFT"), (1, u "PAGE_SLOTS"), (0, u "SPARES_IN_PAGE"), (13, u "getPlain"), (0, u "setPlain"), (0, u "getAndBitwiseOrAlone")] 10

def k2c0 : Code := { maxStack := 5, maxLocals := 8, code := prog_26_method_2_code, exceptionTable := #[], attributes := #[] }
def k2m0 : Method := { name := "<init>", desc := "(JJ)V", sig := { parameters := [.long, .long], returnType := none }, accessFlags := 0, code := some k2c0 }
def k2c1 : Code := { maxStack := 4, maxLocals := 5, code := prog_26_method_10_code, exceptionTable := #[], attributes := #[] }
def k2m1 : Method := { name := "getPlain", desc := "(J)J", sig := { parameters := [.long], returnType := some .long }, accessFlags := 0, code := some k2c1 }
def k2c2 : Code := { maxStack := 4, maxLocals := 5, code := prog_26_method_11_code, exceptionTable := #[], attributes := #[] }
def k2m2 : Method := { name := "setPlain", desc := "(JJ)V", sig := { parameters := [.long, .long], returnType := none }, accessFlags := 0, code := some k2c2 }
def k2c3 : Code := { maxStack := 6, maxLocals := 9, code := prog_26_method_13_code, exceptionTable := #[], attributes := #[] }
def k2m3 : Method := { name := "getAndBitwiseOrAlone", desc := "(JJ)J", sig := { parameters := [.long, .long], returnType := some .long }, accessFlags := 0, code := some k2c3 }
def k2c4 : Code := { maxStack := 4, maxLocals := 2, code := prog_26_method_20_code, exceptionTable := #[], attributes := #[] }
def k2m4 : Method := { name := "pageCount", desc := "(J)I", sig := { parameters := [.long], returnType := some .int }, accessFlags := 10, code := some k2c4 }
def k2c5 : Code := { maxStack := 7, maxLocals := 3, code := prog_26_method_21_code, exceptionTable := #[], attributes := #[] }
def k2m5 : Method := { name := "arrayWordsInPage", desc := "(JI)I", sig := { parameters := [.long, .int], returnType := some .int }, accessFlags := 10, code := some k2c5 }
def k2c6 : Code := { maxStack := 8, maxLocals := 6, code := prog_26_method_22_code, exceptionTable := #[], attributes := #[] }
def k2m6 : Method := { name := "spareCount", desc := "(J)I", sig := { parameters := [.long], returnType := some .int }, accessFlags := 10, code := some k2c6 }
def k2c7 : Code := { maxStack := 4, maxLocals := 6, code := prog_26_method_25_code, exceptionTable := #[], attributes := #[] }
def k2m7 : Method := { name := "pageArrayOf", desc := "(J)[J", sig := { parameters := [.long], returnType := some (.array .long) }, accessFlags := 2, code := some k2c7 }
def k2c8 : Code := { maxStack := 4, maxLocals := 6, code := prog_26_method_26_code, exceptionTable := #[], attributes := #[] }
def k2m8 : Method := { name := "pageOffsetOf", desc := "(J)I", sig := { parameters := [.long], returnType := some .int }, accessFlags := 2, code := some k2c8 }
/-- com/example/hedger/hedger/WordArray -/
def k2 : Class := { plain "com/example/hedger/hedger/WordArray" (some 0) with
  accessFlags := 32
  interfaces := #[]
  cf := some (fileOf pool2 3 #[.nestMembers #[84, 56]] #[{ accessFlags := 0, nameIndex := 13, descriptorIndex := 14, attributes := #[] }, { accessFlags := 0, nameIndex := 192, descriptorIndex := 10, attributes := #[] }, { accessFlags := 0, nameIndex := 193, descriptorIndex := 14, attributes := #[] }, { accessFlags := 0, nameIndex := 194, descriptorIndex := 54, attributes := #[] }, { accessFlags := 10, nameIndex := 30, descriptorIndex := 31, attributes := #[] }, { accessFlags := 10, nameIndex := 39, descriptorIndex := 40, attributes := #[] }, { accessFlags := 10, nameIndex := 43, descriptorIndex := 31, attributes := #[] }, { accessFlags := 2, nameIndex := 122, descriptorIndex := 110, attributes := #[] }, { accessFlags := 2, nameIndex := 125, descriptorIndex := 31, attributes := #[] }] 32 16 #[] #[{ accessFlags := 26, nameIndex := 165, descriptorIndex := 166, attributes := #[] }, { accessFlags := 26, nameIndex := 169, descriptorIndex := 166, attributes := #[] }, { accessFlags := 26, nameIndex := 171, descriptorIndex := 166, attributes := #[] }, { accessFlags := 24, nameIndex := 173, descriptorIndex := 166, attributes := #[] }, { accessFlags := 26, nameIndex := 175, descriptorIndex := 166, attributes := #[] }, { accessFlags := 24, nameIndex := 177, descriptorIndex := 23, attributes := #[] }, { accessFlags := 26, nameIndex := 178, descriptorIndex := 166, attributes := #[] }, { accessFlags := 26, nameIndex := 105, descriptorIndex := 106, attributes := #[] }, { accessFlags := 18, nameIndex := 22, descriptorIndex := 23, attributes := #[] }, { accessFlags := 18, nameIndex := 26, descriptorIndex := 27, attributes := #[] }, { accessFlags := 18, nameIndex := 35, descriptorIndex := 36, attributes := #[] }, { accessFlags := 18, nameIndex := 46, descriptorIndex := 27, attributes := #[] }])
  fields := #[{ name := "LARGEST_ARRAY_HEADER", type := .int, accessFlags := 26, slot := 0, constantValue := 0 }, { name := "LARGEST_ARRAY_WORDS", type := .int, accessFlags := 26, slot := 1, constantValue := 0 }, { name := "HEAP_REGIONS_PER_HEAD_REGION", type := .int, accessFlags := 26, slot := 2, constantValue := 0 }, { name := "PAGE_WORDS", type := .int, accessFlags := 24, slot := 3, constantValue := 0 }, { name := "PAGE_SHIFT", type := .int, accessFlags := 26, slot := 4, constantValue := 0 }, { name := "PAGE_SLOTS", type := .long, accessFlags := 24, slot := 5, constantValue := 0 }, { name := "SPARES_IN_PAGE", type := .int, accessFlags := 26, slot := 6, constantValue := 0 }, { name := "WORDS", type := (.object "java/lang/invoke/VarHandle"), accessFlags := 26, slot := 7, constantValue := 0 }, { name := "wordCount", type := .long, accessFlags := 18, slot := 0, constantValue := 0 }, { name := "head", type := (.array .long), accessFlags := 18, slot := 1, constantValue := 0 }, { name := "pages", type := (.array (.array .long)), accessFlags := 18, slot := 2, constantValue := 0 }, { name := "spares", type := (.array .long), accessFlags := 18, slot := 3, constantValue := 0 }]
  methods := #[k2m0, k2m1, k2m2, k2m3, k2m4, k2m5, k2m6, k2m7, k2m8]
  instanceTypes := #[.long, (.array .long), (.array (.array .long)), (.array .long)]
  staticTypes := #[.int, .int, .int, .int, .int, .long, .int, (.object "java/lang/invoke/VarHandle")]
  resolved := Array.replicate 205 none
  statics := none }

def pool3 : Array CpInfo := pool [(1, .class_ 2), (0, u "java/lang/Math"), (1, .class_ 6), (1, u "java/lang/Object"), (0, u "<init>"), (0, u "()V"), (89, .class_ 100), (1, u "java/lang/Math$RandomNumberGeneratorHolder"), (20, u "(JJ)J"), (50, u "negativeZeroFloatBits"), (0, u "J"), (2, u "negativeZeroDoubleBits"), (21, u "max"), (2, u "min"), (43, u "$assertionsDisabled"), (0, u "Z"), (91, u "twoToTheDoubleScaleDown"), (0, u "D"), (4, u "twoToTheDoubleScaleUp"), (9, u "E"), (3, u "PI"), (2, u "TAU"), (2, u "DEGREES_TO_RADIANS"), (0, u "RADIANS_TO_DEGREES")] 94

def k3m0 : Method := { name := "<init>", desc := "()V", sig := { parameters := [], returnType := none }, accessFlags := 2, code := none }
def k3c1 : Code := { maxStack := 4, maxLocals := 4, code := jdk_29_method_66_code, exceptionTable := #[], attributes := #[] }
def k3m1 : Method := { name := "max", desc := "(JJ)J", sig := { parameters := [.long, .long], returnType := some .long }, accessFlags := 9, code := some k3c1 }
def k3c2 : Code := { maxStack := 4, maxLocals := 4, code := jdk_29_method_70_code, exceptionTable := #[], attributes := #[] }
def k3m2 : Method := { name := "min", desc := "(JJ)J", sig := { parameters := [.long, .long], returnType := some .long }, accessFlags := 9, code := some k3c2 }
/-- java/lang/Math -/
def k3 : Class := { plain "java/lang/Math" (some 0) with
  accessFlags := 49
  interfaces := #[]
  cf := some (fileOf pool3 1 #[.nestMembers #[98]] #[{ accessFlags := 2, nameIndex := 7, descriptorIndex := 8, attributes := #[] }, { accessFlags := 9, nameIndex := 198, descriptorIndex := 121, attributes := #[] }, { accessFlags := 9, nameIndex := 201, descriptorIndex := 121, attributes := #[] }] 49 4 #[] #[{ accessFlags := 25, nameIndex := 354, descriptorIndex := 339, attributes := #[] }, { accessFlags := 25, nameIndex := 358, descriptorIndex := 339, attributes := #[] }, { accessFlags := 25, nameIndex := 361, descriptorIndex := 339, attributes := #[] }, { accessFlags := 26, nameIndex := 364, descriptorIndex := 339, attributes := #[] }, { accessFlags := 26, nameIndex := 365, descriptorIndex := 339, attributes := #[] }, { accessFlags := 26, nameIndex := 172, descriptorIndex := 173, attributes := #[] }, { accessFlags := 26, nameIndex := 176, descriptorIndex := 173, attributes := #[] }, { accessFlags := 8, nameIndex := 344, descriptorIndex := 339, attributes := #[] }, { accessFlags := 8, nameIndex := 338, descriptorIndex := 339, attributes := #[] }, { accessFlags := 4120, nameIndex := 245, descriptorIndex := 246, attributes := #[] }])
  fields := #[{ name := "E", type := .double, accessFlags := 25, slot := 0, constantValue := 0 }, { name := "PI", type := .double, accessFlags := 25, slot := 1, constantValue := 0 }, { name := "TAU", type := .double, accessFlags := 25, slot := 2, constantValue := 0 }, { name := "DEGREES_TO_RADIANS", type := .double, accessFlags := 26, slot := 3, constantValue := 0 }, { name := "RADIANS_TO_DEGREES", type := .double, accessFlags := 26, slot := 4, constantValue := 0 }, { name := "negativeZeroFloatBits", type := .long, accessFlags := 26, slot := 5, constantValue := 0 }, { name := "negativeZeroDoubleBits", type := .long, accessFlags := 26, slot := 6, constantValue := 0 }, { name := "twoToTheDoubleScaleUp", type := .double, accessFlags := 8, slot := 7, constantValue := 0 }, { name := "twoToTheDoubleScaleDown", type := .double, accessFlags := 8, slot := 8, constantValue := 0 }, { name := "$assertionsDisabled", type := .boolean, accessFlags := 4120, slot := 9, constantValue := 0 }]
  methods := #[k3m0, k3m1, k3m2]
  instanceTypes := #[]
  staticTypes := #[.double, .double, .double, .double, .double, .long, .long, .double, .double, .boolean]
  resolved := Array.replicate 460 none
  statics := none }

def pool4 : Array CpInfo := pool [(1, u "java/lang/Cloneable"), (0, .class_ 1), (0, u "java/lang/Object"), (0, .class_ 3)] 3

/-- java/lang/Cloneable -/
def k4 : Class := { plain "java/lang/Cloneable" (some 0) with
  accessFlags := 1537
  interfaces := #[]
  cf := some (fileOf pool4 2 #[] #[] 1537 4 #[] #[])
  fields := #[]
  methods := #[]
  instanceTypes := #[]
  staticTypes := #[]
  resolved := Array.replicate 8 none
  statics := none }

def pool5 : Array CpInfo := pool [(1, u "java/io/Serializable"), (0, .class_ 1), (0, u "java/lang/Object"), (0, .class_ 3)] 3

/-- java/io/Serializable -/
def k5 : Class := { plain "java/io/Serializable" (some 0) with
  accessFlags := 1537
  interfaces := #[]
  cf := some (fileOf pool5 2 #[] #[] 1537 4 #[] #[])
  fields := #[]
  methods := #[]
  instanceTypes := #[]
  staticTypes := #[]
  resolved := Array.replicate 8 none
  statics := none }

/-- the primitive byte -/
def k6 : Class := { plain "byte" none with kind := .primitive 'B', accessFlags := 0x411 }
/-- [B -/
def k7 : Class := { plain "[B" (some 0) with kind := .array 6 .byte, interfaces := #[4, 5], accessFlags := 1041 }

/-- the primitive int -/
def k8 : Class := { plain "int" none with kind := .primitive 'I', accessFlags := 0x411 }
/-- [I -/
def k9 : Class := { plain "[I" (some 0) with kind := .array 8 .int, interfaces := #[4, 5], accessFlags := 1041 }

/-- the primitive long -/
def k10 : Class := { plain "long" none with kind := .primitive 'J', accessFlags := 0x411 }
/-- [J -/
def k11 : Class := { plain "[J" (some 0) with kind := .array 10 .long, interfaces := #[4, 5], accessFlags := 1041 }
def k12 : Class := { plain "[[J" (some 0) with kind := .array 11 (.array .long), interfaces := #[4, 5], accessFlags := 1041 }

def heap : Heap := #[]
def classes : Array Class := #[k0, k1, k2, k3, k4, k5, k6, k7, k8, k9, k10, k11, k12]
def interned : List (Array UInt16 × Addr) := []
def slotsUsed : Nat := 0
def theMethod : MethodId := ⟨1, 1⟩
def args0 : Array Value := #[.long 5, .long 7, .long 1, .long 2, .long 3, .long 4]
def aboutOver (below : List Frame) : State where
  vm := { classes := classes, interned := interned.toArray }
  heap := heap
  slotsUsed := slotsUsed
  threads := #[{ frames := .invoking theMethod args0 :: below }]
def below0 : List Frame := [.native { method := ⟨0, 0⟩, args := #[] }]
def about1 : State := aboutOver below0
def p0 : Program := .bare "" "" ""
def e0 : Env := launch0.env 0 0 0
theorem w_frames : about1.frames = Frame.invoking theMethod args0 :: below0 := rfl
set_option maxRecDepth 65536 in
theorem w_args : argsFit about1.vm theMethod args0 = true := by decide +kernel
set_option maxRecDepth 65536 in
theorem w_heap : heapFits about1 = true := by decide +kernel
set_option maxRecDepth 65536 in
theorem w_runnable : about1.curStatus? = some .runnable := by decide +kernel
set_option maxRecDepth 65536 in
theorem w_alone : about1.alone = true := by decide +kernel
set_option maxRecDepth 65536 in
theorem w_named : about1.methodNamed? x = some theMethod := by decide +kernel
set_option maxRecDepth 65536 in
theorem w_hears : about1.hears theMethod below0 = true := by decide +kernel
set_option maxRecDepth 65536 in
theorem w_ripe : about1.ripe theMethod args0 below0 = true := by decide +kernel
theorem w_running : about1.status = .running := rfl
set_option maxRecDepth 65536 in
theorem w_room : about1.hasRoom e0.platform room_1 = true :=
  launch0.hasRoom_least _ room_1 (by decide +kernel) (by decide +kernel) (by decide +kernel) (by decide +kernel) (by decide +kernel) (by decide +kernel)
theorem allAtoms_all (ts : List Jvm.Cond) (a : Array Jvm.Value) (st : Jvm.State) : (allAtoms ts).before a st = ts.all (fun c => c.before a st) := by
  induction ts with
  | nil => rfl
  | cons c t ih =>
    show (Jvm.Cond.and c (allAtoms t)).before a st = _
    rw [Jvm.Cond.before_and, ih, List.all_cons]
def words1 : List Jvm.Cond := Jvm.Cond.code x code maxLocals ret :: tables_1
/-- a 'code' word, met by the world's own term for the bytes: nothing is compared byte by byte -/
theorem code_word {y : MethodName} {bytes : ByteArray} {mx : Nat} {rt : Option FieldType} {a : Array Value} {s : State} {m : MethodId} {meth : Method} {c : Code} (h1 : s.methodNamed? y = some m) (h2 : s.vm.method? m = some meth) (h3 : meth.code = some c) (h4 : c.code = bytes)
    (h5 : (c.maxLocals == mx && c.exceptionTable.isEmpty && decide (c.maxStack ≤ mostOperands) && decide (meth.sig.returnType = rt) && !meth.locks && decide (parseMethodDescriptor y.desc = some meth.sig)) = true) : (Jvm.Cond.code y bytes mx rt).before a s = true := by
  simp only [Bool.and_eq_true, beq_iff_eq, Bool.not_eq_true', decide_eq_true_eq] at h5
  obtain ⟨⟨⟨⟨⟨g1, g2⟩, g3⟩, g4⟩, g5⟩, g6⟩ := h5
  simp [Cond.before, Cond.holds, Cond.value, h1, h2, h3, h4, g1, g2, g3, g4, g5, g6]
def isCode : Jvm.Cond → Bool
  | .code _ _ _ _ => true
  | _ => false
theorem all_split {L : List Jvm.Cond} {P : Jvm.Cond → Bool} (h1 : L.all (fun c => isCode c || P c) = true) (h2 : ∀ c ∈ L.filter isCode, P c = true) : L.all P = true := by
  refine List.all_eq_true.mpr fun c hc => ?_
  have h := List.all_eq_true.mp h1 c hc
  rcases Bool.eq_false_or_eq_true (isCode c) with hi | hi
  · exact h2 c (List.mem_filter.mpr ⟨hc, hi⟩)
  · simpa [hi] using h
set_option maxRecDepth 65536 in
theorem w_c0 : (Jvm.Cond.code x code maxLocals ret).before args0 about1 = true := code_word (m := ⟨1, 1⟩) (meth := k1m1) (c := k1c1) (by decide +kernel) rfl rfl rfl (by decide +kernel)
set_option maxRecDepth 65536 in
theorem w_c1 : (Jvm.Cond.code ({ cls := "com/example/hedger/hedger/WordArray", name := "<init>", desc := "(JJ)V" } : Jvm.MethodName) prog_26_method_2_code (8 : Nat) (Option.none : Option Jvm.ClassFile.FieldType)).before args0 about1 = true := code_word (m := ⟨2, 0⟩) (meth := k2m0) (c := k2c0) (by decide +kernel) rfl rfl rfl (by decide +kernel)
set_option maxRecDepth 65536 in
theorem w_c2 : (Jvm.Cond.code ({ cls := "java/lang/Object", name := "<init>", desc := "()V" } : Jvm.MethodName) object_method_1_code (1 : Nat) (Option.none : Option Jvm.ClassFile.FieldType)).before args0 about1 = true := code_word (m := ⟨0, 0⟩) (meth := k0m0) (c := k0c0) (by decide +kernel) rfl rfl rfl (by decide +kernel)
set_option maxRecDepth 65536 in
theorem w_c3 : (Jvm.Cond.code ({ cls := "com/example/hedger/hedger/WordArray", name := "pageCount", desc := "(J)I" } : Jvm.MethodName) prog_26_method_20_code (2 : Nat) (Option.some Jvm.ClassFile.FieldType.int)).before args0 about1 = true := code_word (m := ⟨2, 4⟩) (meth := k2m4) (c := k2c4) (by decide +kernel) rfl rfl rfl (by decide +kernel)
set_option maxRecDepth 65536 in
theorem w_c4 : (Jvm.Cond.code ({ cls := "com/example/hedger/hedger/WordArray", name := "arrayWordsInPage", desc := "(JI)I" } : Jvm.MethodName) prog_26_method_21_code (3 : Nat) (Option.some Jvm.ClassFile.FieldType.int)).before args0 about1 = true := code_word (m := ⟨2, 5⟩) (meth := k2m5) (c := k2c5) (by decide +kernel) rfl rfl rfl (by decide +kernel)
set_option maxRecDepth 65536 in
theorem w_c5 : (Jvm.Cond.code ({ cls := "java/lang/Math", name := "min", desc := "(JJ)J" } : Jvm.MethodName) jdk_29_method_70_code (4 : Nat) (Option.some Jvm.ClassFile.FieldType.long)).before args0 about1 = true := code_word (m := ⟨3, 2⟩) (meth := k3m2) (c := k3c2) (by decide +kernel) rfl rfl rfl (by decide +kernel)
set_option maxRecDepth 65536 in
theorem w_c6 : (Jvm.Cond.code ({ cls := "com/example/hedger/hedger/WordArray", name := "spareCount", desc := "(J)I" } : Jvm.MethodName) prog_26_method_22_code (6 : Nat) (Option.some Jvm.ClassFile.FieldType.int)).before args0 about1 = true := code_word (m := ⟨2, 6⟩) (meth := k2m6) (c := k2c6) (by decide +kernel) rfl rfl rfl (by decide +kernel)
set_option maxRecDepth 65536 in
theorem w_c7 : (Jvm.Cond.code ({ cls := "java/lang/Math", name := "max", desc := "(JJ)J" } : Jvm.MethodName) jdk_29_method_66_code (4 : Nat) (Option.some Jvm.ClassFile.FieldType.long)).before args0 about1 = true := code_word (m := ⟨3, 1⟩) (meth := k3m1) (c := k3c1) (by decide +kernel) rfl rfl rfl (by decide +kernel)
set_option maxRecDepth 65536 in
theorem w_c8 : (Jvm.Cond.code ({ cls := "com/example/hedger/hedger/WordArray", name := "setPlain", desc := "(JJ)V" } : Jvm.MethodName) prog_26_method_11_code (5 : Nat) (Option.none : Option Jvm.ClassFile.FieldType)).before args0 about1 = true := code_word (m := ⟨2, 2⟩) (meth := k2m2) (c := k2c2) (by decide +kernel) rfl rfl rfl (by decide +kernel)
set_option maxRecDepth 65536 in
theorem w_c9 : (Jvm.Cond.code ({ cls := "com/example/hedger/hedger/WordArray", name := "getAndBitwiseOrAlone", desc := "(JJ)J" } : Jvm.MethodName) prog_26_method_13_code (9 : Nat) (Option.some Jvm.ClassFile.FieldType.long)).before args0 about1 = true := code_word (m := ⟨2, 3⟩) (meth := k2m3) (c := k2c3) (by decide +kernel) rfl rfl rfl (by decide +kernel)
set_option maxRecDepth 65536 in
theorem w_c10 : (Jvm.Cond.code ({ cls := "com/example/hedger/hedger/WordArray", name := "getPlain", desc := "(J)J" } : Jvm.MethodName) prog_26_method_10_code (5 : Nat) (Option.some Jvm.ClassFile.FieldType.long)).before args0 about1 = true := code_word (m := ⟨2, 1⟩) (meth := k2m1) (c := k2c1) (by decide +kernel) rfl rfl rfl (by decide +kernel)
set_option maxRecDepth 65536 in
theorem w_c11 : (Jvm.Cond.code ({ cls := "com/example/hedger/hedger/WordArray", name := "pageArrayOf", desc := "(J)[J" } : Jvm.MethodName) prog_26_method_25_code (6 : Nat) (Option.some (Jvm.ClassFile.FieldType.array Jvm.ClassFile.FieldType.long))).before args0 about1 = true := code_word (m := ⟨2, 7⟩) (meth := k2m7) (c := k2c7) (by decide +kernel) rfl rfl rfl (by decide +kernel)
set_option maxRecDepth 65536 in
theorem w_c12 : (Jvm.Cond.code ({ cls := "com/example/hedger/hedger/WordArray", name := "pageOffsetOf", desc := "(J)I" } : Jvm.MethodName) prog_26_method_26_code (6 : Nat) (Option.some Jvm.ClassFile.FieldType.int)).before args0 about1 = true := code_word (m := ⟨2, 8⟩) (meth := k2m8) (c := k2c8) (by decide +kernel) rfl rfl rfl (by decide +kernel)
def codes1 : List Jvm.Cond := [Jvm.Cond.code x code maxLocals ret, Jvm.Cond.code ({ cls := "com/example/hedger/hedger/WordArray", name := "<init>", desc := "(JJ)V" } : Jvm.MethodName) prog_26_method_2_code (8 : Nat) (Option.none : Option Jvm.ClassFile.FieldType), Jvm.Cond.code ({ cls := "java/lang/Object", name := "<init>", desc := "()V" } : Jvm.MethodName) object_method_1_code (1 : Nat) (Option.none : Option Jvm.ClassFile.FieldType), Jvm.Cond.code ({ cls := "com/example/hedger/hedger/WordArray", name := "pageCount", desc := "(J)I" } : Jvm.MethodName) prog_26_method_20_code (2 : Nat) (Option.some Jvm.ClassFile.FieldType.int), Jvm.Cond.code ({ cls := "com/example/hedger/hedger/WordArray", name := "arrayWordsInPage", desc := "(JI)I" } : Jvm.MethodName) prog_26_method_21_code (3 : Nat) (Option.some Jvm.ClassFile.FieldType.int), Jvm.Cond.code ({ cls := "java/lang/Math", name := "min", desc := "(JJ)J" } : Jvm.MethodName) jdk_29_method_70_code (4 : Nat) (Option.some Jvm.ClassFile.FieldType.long), Jvm.Cond.code ({ cls := "com/example/hedger/hedger/WordArray", name := "spareCount", desc := "(J)I" } : Jvm.MethodName) prog_26_method_22_code (6 : Nat) (Option.some Jvm.ClassFile.FieldType.int), Jvm.Cond.code ({ cls := "java/lang/Math", name := "max", desc := "(JJ)J" } : Jvm.MethodName) jdk_29_method_66_code (4 : Nat) (Option.some Jvm.ClassFile.FieldType.long), Jvm.Cond.code ({ cls := "com/example/hedger/hedger/WordArray", name := "setPlain", desc := "(JJ)V" } : Jvm.MethodName) prog_26_method_11_code (5 : Nat) (Option.none : Option Jvm.ClassFile.FieldType), Jvm.Cond.code ({ cls := "com/example/hedger/hedger/WordArray", name := "getAndBitwiseOrAlone", desc := "(JJ)J" } : Jvm.MethodName) prog_26_method_13_code (9 : Nat) (Option.some Jvm.ClassFile.FieldType.long), Jvm.Cond.code ({ cls := "com/example/hedger/hedger/WordArray", name := "getPlain", desc := "(J)J" } : Jvm.MethodName) prog_26_method_10_code (5 : Nat) (Option.some Jvm.ClassFile.FieldType.long), Jvm.Cond.code ({ cls := "com/example/hedger/hedger/WordArray", name := "pageArrayOf", desc := "(J)[J" } : Jvm.MethodName) prog_26_method_25_code (6 : Nat) (Option.some (Jvm.ClassFile.FieldType.array Jvm.ClassFile.FieldType.long)), Jvm.Cond.code ({ cls := "com/example/hedger/hedger/WordArray", name := "pageOffsetOf", desc := "(J)I" } : Jvm.MethodName) prog_26_method_26_code (6 : Nat) (Option.some Jvm.ClassFile.FieldType.int)]
set_option maxRecDepth 65536 in
theorem codes_eq : words1.filter isCode = codes1 := rfl
theorem w_codes : ∀ c ∈ words1.filter isCode, c.before args0 about1 = true := by
  rw [codes_eq]
  intro c hc
  simp only [codes1, List.mem_cons, List.not_mem_nil, or_false] at hc
  rcases hc with rfl | rfl | rfl | rfl | rfl | rfl | rfl | rfl | rfl | rfl | rfl | rfl | rfl
  · exact w_c0
  · exact w_c1
  · exact w_c2
  · exact w_c3
  · exact w_c4
  · exact w_c5
  · exact w_c6
  · exact w_c7
  · exact w_c8
  · exact w_c9
  · exact w_c10
  · exact w_c11
  · exact w_c12
set_option maxRecDepth 65536 in
theorem w_t1 : (words1.take 24).all (fun c => isCode c || c.before args0 about1) = true := by decide +kernel
set_option maxRecDepth 65536 in
theorem w_t2 : ((words1.drop 24).take 24).all (fun c => isCode c || c.before args0 about1) = true := by decide +kernel
set_option maxRecDepth 65536 in
theorem w_t3 : ((words1.drop 24).drop 24).all (fun c => isCode c || c.before args0 about1) = true := by decide +kernel
theorem w_tables : (allAtoms (Jvm.Cond.code x code maxLocals ret :: tables_1)).before args0 about1 = true := by
  rw [allAtoms_all]
  show words1.all (fun c => c.before args0 about1) = true
  refine all_split ?_ w_codes
  rw [← List.take_append_drop 24 words1, List.all_append, w_t1, ← List.take_append_drop 24 (words1.drop 24), List.all_append, w_t2, w_t3]
  rfl
set_option maxRecDepth 65536 in
theorem w_case : (Jvm.Cond.and given_1 narrow_1).before args0 about1 = true := by decide +kernel
theorem w_applies : (headSpec (Jvm.Cond.code x code maxLocals ret :: tables_1) room_1).applies x e0.platform about1 = true :=
  (Spec.applies_iff w_frames).mpr ⟨w_running, w_runnable, w_alone, w_named, w_hears, w_ripe, w_room, w_tables⟩
theorem atStart : AtStart classFile x code maxLocals ret World_1 tables_1 room_1 Calls_1 rest_1 Pre_1 launch0 p0 e0 about1 theMethod args0 below0 :=
  ⟨lists_1, trivial, launch0.admits_env _ _ _, launch0.least_env, fairChoices_fair.cas, fairChoices_fair.clock, w_frames, w_args, w_heap, w_applies, trivial, trivial, w_case⟩
end start1
theorem witness_1 : WitnessClaimed_1 := ⟨start1.p0, start1.e0, start1.about1, start1.theMethod, start1.args0, start1.below0, start1.atStart⟩
end Jvm.Pilot.@@N@@
