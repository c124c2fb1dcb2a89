import JvmDerived
import JvmDerived.Pilot.@@N@@Statement
import JvmDerived.Pilot.@@N@@Code
set_option linter.unusedVariables false
set_option linter.unusedSimpArgs false
namespace Jvm.OwnW
open Sem ClassFile Op Lib Jvm.Stand Jvm.Free Jvm.LawKit Jvm.RoadKit
section Base
variable {p : Program} {l : Launch} {e : Env} {R : Room} {s : State} {m : MethodId} {args : Array Value} {below : List Frame} {meth : Method} {c : Code} {T : State} {locs : List Loc} {cells slots : Nat} {Z : State} {h h' : Heap} {a b : Addr} {ty : FieldType} {vs : List Value} {v : Value} {sl : Nat} {ws : List Addr}
variable {Q : Option Value → Heap → List Loc → Prop} {En : Outcome → State → List Loc → Prop} {kc ks : Nat} {U U' : State}
/-- from U the body comes to its end; what it leaves is Q, its frame En -/
def Wq (p : Program) (e : Env) (below : List Frame) (En : Outcome → State → List Loc → Prop) (Q : Option Value → Heap → List Loc → Prop) (U : State) : Prop :=
  ∃ s₂ o, Steps p.tables e below U s₂ ∧ s₂.status = .running ∧ Ended s₂ below o ∧ ∃ v L, o = .returned v ∧ Q v s₂.heap L ∧ En o s₂ L
theorem Wq.step (h1 : ∀ t, Steps p.tables e below U' t → Steps p.tables e below U t) (k : Wq p e below En Q U') : Wq p e below En Q U := by
  obtain ⟨s₂, o, q, r⟩ := k; exact ⟨s₂, o, h1 _ q, r⟩
theorem Wq.steps (h1 : Steps p.tables e below U U') (k : Wq p e below En Q U') : Wq p e below En Q U := by
  obtain ⟨s₂, o, q, r⟩ := k; exact ⟨s₂, o, h1.trans q, r⟩
theorem Wq.by (k1 : Wq p e below En Q U' → Wq p e below En Q U) (k : Wq p e below En Q U') : Wq p e below En Q U := k1 k
theorem Wq.ret {rv : Option Value} {g : JFrame} (X : Stand p l e R s m args below meth c T locs cells slots) (hlk : meth.locks = false) (hv : meth.sig.returnType = none → rv = none)
    (st : ∀ fs, (∀ (f : JFrame) (acts : List Action), f.method = m → f.locked = none → f.entered = [] → (doReturn e (T.setTop f) acts rv).1 = T.setFrames fs) → Steps p.tables e below (T.setTop g) (T.setFrames fs))
    (hc : cells ≤ kc) (hs : slots ≤ ks) (hQ : Q rv T.heap locs) : Wq p e below (fun o t L => FrameEnd s o t L kc ks) Q (T.setTop g) := by
  obtain ⟨fs, hr, hrun, hended, hW, hsame⟩ := X.leave (v := rv) hv hlk
  exact ⟨_, _, st fs hr, hrun, hended, rv, locs, rfl, hQ, ⟨rv, rfl⟩, hW, hsame.mono hc hs⟩
/-- the same for a body that may load a String constant for the first time -/
theorem Wq.retW {rv : Option Value} {g : JFrame} {vm₁ : Vm} {n : Nat} (X : Stand p l e R (s.setVm vm₁) m args below meth c T locs cells slots) (hS : s.Since vm₁ n) (hn : n ≤ T.heap.size) (hlk : meth.locks = false) (hv : meth.sig.returnType = none → rv = none)
    (st : ∀ fs, (∀ (f : JFrame) (acts : List Action), f.method = m → f.locked = none → f.entered = [] → (doReturn e (T.setTop f) acts rv).1 = T.setFrames fs) → Steps p.tables e below (T.setTop g) (T.setFrames fs))
    (hc : cells ≤ kc) (hs : slots ≤ ks) (hQ : Q rv T.heap locs) : Wq p e below (fun o t L => ReturnedEndW s o t L kc ks) Q (T.setTop g) := by
  obtain ⟨fs, hr, hrun, hended, w1, w2, w3, w4⟩ := X.leaveW hS hn (v := rv) hv hlk
  exact ⟨_, _, st fs hr, hrun, hended, rv, locs, rfl, hQ, ⟨rv, rfl⟩, w2, w3, w4.mono hc hs⟩
/-- an array and the whole list of what it holds -/
def Al (Z : State) (h : Heap) (a : Addr) (ty : FieldType) (vs : List Value) : Prop := ∃ cl : Cell, Arr Z h a cl ty ∧ cl.slots.toList = vs
theorem Al.lt (V : Al Z h a ty vs) : a < h.size := by obtain ⟨cl, A, -⟩ := V; exact A.lt
theorem Al.ext (V : Al Z h a ty vs) (E : Ext h h') : Al Z h' a ty vs := by obtain ⟨cl, A, r⟩ := V; exact ⟨cl, A.ext E, r⟩
theorem Al.other (V : Al Z h b ty vs) (W : Wr h h' a sl v) (q : b ≠ a) : Al Z h' b ty vs := by obtain ⟨cl, A, r⟩ := V; exact ⟨cl, A.other W q, r⟩
theorem Al.keep (V : Al Z h a ty vs) (K : Keep h h' ws) (q : a ∉ ws) : Al Z h' a ty vs := by obtain ⟨cl, A, r⟩ := V; exact ⟨cl, ⟨K.2.1 a cl A.1 q, A.2⟩, r⟩
theorem Al.new {cA : ClassId} {n : Int32} {k : Nat} {dv : Value} (A : Arr Z h a (newA cA ty n) ty) (hk : n.toNatClampNeg = k) (hd : defaultValue ty = dv) : Al Z h a ty (List.replicate k dv) := ⟨_, A, by subst hk hd; simp [newA]⟩
theorem Al.set (V : Al Z h a ty vs) (W : Wr h h' a sl v) : Al Z h' a ty (vs.set sl v) := by
  obtain ⟨cl, A, rfl⟩ := V
  exact ⟨_, A.same W, by simp [Cell.setSlot]⟩
theorem Sta.keepN {C n d : String} {v : Value} (F : Sta Z h C n d v) (K : Keep h h' ws) (q : ∀ w ∈ ws, ∀ cell : Cell, h[w]? = some cell → cell.vm.isStatics = false) : Sta Z h' C n d v := by
  obtain ⟨cf, i, k, f, st, cell, h1, h2, h3, h4, h5, h6, h7⟩ := F
  exact ⟨cf, i, k, f, st, cell, h1, h2, h3, h4, K.2.1 _ _ h5 (fun hm => by rw [q st hm cell h5] at h6; cases h6), h6, h7⟩
theorem fldI {t : Term} {C n d : String} {k : Int32} (hx : (Cond.eq (.field t C n d) (.int k)).value args s none s [] = some true) (ev : t.eval args s none [] s = some (.ref a)) : Fld s s.heap a C n d (.int k) := by
  refine Fld.start ?_
  have e1 := fld_at (C := C) (n := n) (dd := d) ev
  obtain ⟨x, y, h1, h2, k1, k2⟩ := cmp_v (Or.inl hx)
  rw [Term.int_eval] at h2
  cases h2
  rw [e1] at h1
  cases x <;> simp only [Kin] at k2 <;> first | (obtain ⟨z, hz⟩ := k2; cases hz) | skip
  have q := gotT (Cond.eq_ints (e1.trans h1) (Term.int_eval k)) hx
  rw [h1, q]
theorem fldJ {t : Term} {C n d : String} {k : Int64} (hx : (Cond.eq (.field t C n d) (.long k)).value args s none s [] = some true) (ev : t.eval args s none [] s = some (.ref a)) : Fld s s.heap a C n d (.long k) := by
  refine Fld.start ?_
  have e1 := fld_at (C := C) (n := n) (dd := d) ev
  obtain ⟨x, y, h1, h2, k1, k2⟩ := cmp_v (Or.inl hx)
  rw [long_at] at h2
  cases h2
  rw [e1] at h1
  cases x <;> simp only [Kin] at k2 <;> first | (obtain ⟨z, hz⟩ := k2; cases hz) | skip
  have q := gotT (eq_L (e1.trans h1) (long_at k)) hx
  rw [h1, q]
theorem Exa.ns {C : String} (F : Exa Z h a C) : ∀ cell : Cell, h[a]? = some cell → cell.vm.isStatics = false := by
  obtain ⟨c1, k, h1, h2, h3, h4, h5⟩ := F
  intro cell hc; cases h1.symm.trans hc; exact h4
theorem Al.ns (V : Al Z h a ty vs) : ∀ cell : Cell, h[a]? = some cell → cell.vm.isStatics = false := by
  obtain ⟨cl, A, -⟩ := V
  intro cell hc; cases A.1.symm.trans hc; exact A.plain
theorem clA (X : Stand p l e R s m args below meth c T locs cells slots) (hx : p.tables.exec = Jvm.exec) (hZ : Z.Warmed39 s.vm) {a0 : Array Value} {own ad : String} {index : Nat} (hown : s.vm.findClass own = some m.cls)
    (w1 : (Cond.methodLink own index ⟨ad, "clone", "()Ljava/lang/Object;"⟩).before a0 Z = true) (w2 : (Cond.sameMethod ad "java/lang/Object" "clone" "()Ljava/lang/Object;").before a0 Z = true) (w3 : (Cond.native ⟨"java/lang/Object", "clone", "()Ljava/lang/Object;"⟩).before a0 Z = true)
    (w4 : (Cond.instanceMethod ⟨"java/lang/Object", "clone", "()Ljava/lang/Object;"⟩).before a0 Z = true) (w5 : (Cond.selects ad ⟨ad, "clone", "()Ljava/lang/Object;"⟩ ⟨"java/lang/Object", "clone", "()Ljava/lang/Object;"⟩).before a0 Z = true) (w6 : (Cond.castable ad "java/lang/Cloneable").before a0 Z = true)
    (eT : T.heap = h) (V : Al Z h a ty vs) (E : Exa Z h a ad) (F : ∀ v ∈ vs, fits ty v = true) {g : JFrame} (hg : g.method = m) (hsize : g.locals.size = c.maxLocals) {rest : List Value} (hst : g.stack = .ref a :: rest) (hd : decode c.code g.pc = .ok (.invokevirtual index, 3))
    (hf : 1 ≤ R.frames) {W cap : Nat} (hW : 2 * g.monitorRoom + (rest.map fun v => v.category).sum ≤ W) (hl : W + 14 ≤ R.locals) (hcap : vs.length ≤ cap) (hc : cells + 1 ≤ R.cells) (hsl : slots + cap ≤ R.slots) :
    ∃ T' h', Stand p l e R s m args below meth c T' locs (cells + 1) (slots + cap) ∧ T'.heap = h' ∧ Ext h h' ∧ Al Z h' h.size ty vs ∧ Exa Z h' h.size ad ∧
      ∀ target, Steps p.tables e below (T'.setTop { g with pc := g.pc + 3, stack := .ref h.size :: rest }) target → Steps p.tables e below (T.setTop g) target := by
  obtain ⟨cl, A, r⟩ := V
  have FC : FitC Z cl := fitC_of A fun i hi v hv => F v (by rw [← r]; exact Array.mem_toList_iff.mpr (Array.mem_of_getElem? hv))
  obtain ⟨T', h', X', e', ex, A', E', st⟩ := cloneA X hx hZ hown w1 w2 w3 w4 w5 w6 eT A E FC hg hsize hst hd hf hW hl (by rw [← Array.length_toList, r]; exact hcap) hc hsl
  exact ⟨T', h', X', e', ex, ⟨_, A', r⟩, E', st⟩
theorem selPriv {a0 : Array Value} {y : MethodName} {k : Nat} (hZ : Z.Warmed39 s.vm) (wi : (Cond.instantiable y.cls k).before a0 Z = true) (wp : (Cond.privateMethod y).before a0 Z = true) (wm : (Cond.instanceMethod y).before a0 Z = true) (hy : y.cls ≠ "java/lang/invoke/MethodHandle" ∧ y.cls ≠ "java/lang/invoke/VarHandle") : (Cond.selects y.cls y y).before args s = true := by
  obtain ⟨c, k, h1, h2, -, h4, -⟩ := Cond.instantiable_spec (mv (args := args) hZ wi)
  simp only [Bool.or_eq_false_iff] at h4
  exact Jvm.Stand.selects_self_of_private h1 h2 h4.1 (Cond.privateMethod_at (mvP hZ wp (args := args))) (mv hZ wm) hy
theorem al_in {cl : Cell} {j : Int32} {i : Nat} (hvs : cl.slots.toList = vs) (hj : ¬ j < 0) (hi : j.toNatClampNeg = i) (hl : i < vs.length) : ¬ (j < 0 ∨ cl.slots.size ≤ j.toNatClampNeg) := by
  subst hvs hi
  rintro (q | q)
  · exact hj q
  · simp only [Array.length_toList] at hl; omega
theorem al_at {cl : Cell} {j : Int32} {i : Nat} (hvs : cl.slots.toList = vs) (hi : j.toNatClampNeg = i) (hv : vs[i]? = some v) : cl.slots[j.toNatClampNeg]? = some v := by
  subst hvs hi; simpa using hv
theorem al_lt {i : Nat} (hv : vs[i]? = some v) : i < vs.length := (List.getElem?_eq_some_iff.mp hv).1
theorem ldI (X : Stand p l e R s m args below meth c T locs cells slots) (hx : p.tables.exec = Jvm.exec) (hZ : Z.Warmed39 s.vm) (eT : T.heap = h) (V : Al Z h a .int vs) {j : Int32} {i : Nat} (hj : ¬ j < 0) (hi : j.toNatClampNeg = i) (hv : vs[i]? = some v) {g : JFrame} (hg : g.method = m) {rest : List Value} (hs : g.stack = .int j :: .ref a :: rest) (hd : decode c.code g.pc = .ok (.iaload, 1)) {target : State}
    (k : Steps p.tables e below (T.setTop { g with pc := g.pc + 1, stack := v :: rest }) target) : Steps p.tables e below (T.setTop g) target := by
  obtain ⟨cl, A, r⟩ := V
  exact X.iaload hx (by rw [eT]; exact A.1) (State.isArrayOf_alike hZ.alike A.2.1) A.2.2 (al_in r hj hi (al_lt hv)) (al_at r hi hv) hg hs hd _ k
theorem ldJ (X : Stand p l e R s m args below meth c T locs cells slots) (hx : p.tables.exec = Jvm.exec) (hZ : Z.Warmed39 s.vm) (eT : T.heap = h) (V : Al Z h a .long vs) {j : Int32} {i : Nat} (hj : ¬ j < 0) (hi : j.toNatClampNeg = i) (hv : vs[i]? = some v) {g : JFrame} (hg : g.method = m) {rest : List Value} (hs : g.stack = .int j :: .ref a :: rest) (hd : decode c.code g.pc = .ok (.laload, 1)) {target : State}
    (k : Steps p.tables e below (T.setTop { g with pc := g.pc + 1, stack := v :: rest }) target) : Steps p.tables e below (T.setTop g) target := by
  obtain ⟨cl, A, r⟩ := V
  exact X.laload hx (by rw [eT]; exact A.1) (State.isArrayOf_alike hZ.alike A.2.1) A.2.2 (al_in r hj hi (al_lt hv)) (al_at r hi hv) hg hs hd _ k
theorem ldC (X : Stand p l e R s m args below meth c T locs cells slots) (hx : p.tables.exec = Jvm.exec) (hZ : Z.Warmed39 s.vm) (eT : T.heap = h) (V : Al Z h a .char vs) {j : Int32} {i : Nat} (hj : ¬ j < 0) (hi : j.toNatClampNeg = i) (hv : vs[i]? = some v) {g : JFrame} (hg : g.method = m) {rest : List Value} (hs : g.stack = .int j :: .ref a :: rest) (hd : decode c.code g.pc = .ok (.caload, 1)) {target : State}
    (k : Steps p.tables e below (T.setTop { g with pc := g.pc + 1, stack := v :: rest }) target) : Steps p.tables e below (T.setTop g) target := by
  obtain ⟨cl, A, r⟩ := V
  exact X.caload hx (by rw [eT]; exact A.1) (State.isArrayOf_alike hZ.alike A.2.1) A.2.2 (al_in r hj hi (al_lt hv)) (al_at r hi hv) hg hs hd _ k
theorem ldB (X : Stand p l e R s m args below meth c T locs cells slots) (hx : p.tables.exec = Jvm.exec) (hZ : Z.Warmed39 s.vm) (eT : T.heap = h) (V : Al Z h a .byte vs) {j : Int32} {i : Nat} (hj : ¬ j < 0) (hi : j.toNatClampNeg = i) (hv : vs[i]? = some v) {g : JFrame} (hg : g.method = m) {rest : List Value} (hs : g.stack = .int j :: .ref a :: rest) (hd : decode c.code g.pc = .ok (.baload, 1)) {target : State}
    (k : Steps p.tables e below (T.setTop { g with pc := g.pc + 1, stack := v :: rest }) target) : Steps p.tables e below (T.setTop g) target := by
  obtain ⟨cl, A, r⟩ := V
  exact X.baloadBytes hx (by rw [eT]; exact A.1) (State.isArrayOf_alike hZ.alike A.2.1) A.2.2 (al_in r hj hi (al_lt hv)) (al_at r hi hv) hg hs hd _ k
theorem ldZ (X : Stand p l e R s m args below meth c T locs cells slots) (hx : p.tables.exec = Jvm.exec) (hZ : Z.Warmed39 s.vm) (eT : T.heap = h) (V : Al Z h a .boolean vs) {j : Int32} {i : Nat} (hj : ¬ j < 0) (hi : j.toNatClampNeg = i) (hv : vs[i]? = some v) {g : JFrame} (hg : g.method = m) {rest : List Value} (hs : g.stack = .int j :: .ref a :: rest) (hd : decode c.code g.pc = .ok (.baload, 1)) {target : State}
    (k : Steps p.tables e below (T.setTop { g with pc := g.pc + 1, stack := v :: rest }) target) : Steps p.tables e below (T.setTop g) target := by
  obtain ⟨cl, A, r⟩ := V
  exact X.baloadBooleans hx (by rw [eT]; exact A.1) (State.isArrayOf_alike hZ.alike A.2.1) A.2.2 (al_in r hj hi (al_lt hv)) (al_at r hi hv) hg hs hd _ k
theorem lenA (X : Stand p l e R s m args below meth c T locs cells slots) (hx : p.tables.exec = Jvm.exec) (hZ : Z.Warmed39 s.vm) (eT : T.heap = h) (V : Al Z h a ty vs) {n : Int32} (hn : vs.length.toInt32 = n) {g : JFrame} (hg : g.method = m) {rest : List Value} (hs : g.stack = .ref a :: rest) (hd : decode c.code g.pc = .ok (.arraylength, 1)) {target : State}
    (k : Steps p.tables e below (T.setTop { g with pc := g.pc + 1, stack := .int n :: rest }) target) : Steps p.tables e below (T.setTop g) target := by
  obtain ⟨cl, A, r⟩ := V
  refine X.arraylength hx (by rw [eT]; exact A.1) (State.isArrayOf_alike hZ.alike A.2.1) hg hs hd _ ?_
  rw [show cl.slots.size.toInt32 = n from by rw [← hn, ← r, Array.length_toList]]
  exact k
theorem asI (X : Stand p l e R s m args below meth c T locs cells slots) (hx : p.tables.exec = Jvm.exec) (hZ : Z.Warmed39 s.vm) (eT : T.heap = h) (V : Al Z h a .int vs) {j : Int32} {i : Nat} {x : Int32} (hj : ¬ j < 0) (hi : j.toNatClampNeg = i) (hl : i < vs.length) {g : JFrame} (hg : g.method = m) {rest : List Value} (hs : g.stack = .int x :: .int j :: .ref a :: rest) (hd : decode c.code g.pc = .ok (.iastore, 1)) :
    ∃ T' h', Stand p l e R s m args below meth c T' (locs ++ [⟨a, i⟩]) cells slots ∧ T'.heap = h' ∧ Wr h h' a i (.int x) ∧ Al Z h' a .int (vs.set i (.int x)) ∧ ∀ target, Steps p.tables e below (T'.setTop { g with pc := g.pc + 1, stack := rest }) target → Steps p.tables e below (T.setTop g) target := by
  have V0 := V
  obtain ⟨cl, A, r⟩ := V
  obtain ⟨T', h', X', e', W, st⟩ := stI X hx hZ eT A (al_in r hj hi hl) hg hs hd
  subst hi
  exact ⟨T', h', X', e', W, V0.set W, st⟩
theorem asJ (X : Stand p l e R s m args below meth c T locs cells slots) (hx : p.tables.exec = Jvm.exec) (hZ : Z.Warmed39 s.vm) (eT : T.heap = h) (V : Al Z h a .long vs) {j : Int32} {i : Nat} {x : Int64} (hj : ¬ j < 0) (hi : j.toNatClampNeg = i) (hl : i < vs.length) {g : JFrame} (hg : g.method = m) {rest : List Value} (hs : g.stack = .long x :: .int j :: .ref a :: rest) (hd : decode c.code g.pc = .ok (.lastore, 1)) :
    ∃ T' h', Stand p l e R s m args below meth c T' (locs ++ [⟨a, i⟩]) cells slots ∧ T'.heap = h' ∧ Wr h h' a i (.long x) ∧ Al Z h' a .long (vs.set i (.long x)) ∧ ∀ target, Steps p.tables e below (T'.setTop { g with pc := g.pc + 1, stack := rest }) target → Steps p.tables e below (T.setTop g) target := by
  have V0 := V
  obtain ⟨cl, A, r⟩ := V
  obtain ⟨T', h', X', e', W, st⟩ := stJ X hx hZ eT A (al_in r hj hi hl) hg hs hd
  subst hi
  exact ⟨T', h', X', e', W, V0.set W, st⟩
theorem asC (X : Stand p l e R s m args below meth c T locs cells slots) (hx : p.tables.exec = Jvm.exec) (hZ : Z.Warmed39 s.vm) (eT : T.heap = h) (V : Al Z h a .char vs) {j : Int32} {i : Nat} {x y : Int32} (hj : ¬ j < 0) (hi : j.toNatClampNeg = i) (hl : i < vs.length) (hy : nar .char x = y) {g : JFrame} (hg : g.method = m) {rest : List Value} (hs : g.stack = .int x :: .int j :: .ref a :: rest) (hd : decode c.code g.pc = .ok (.castore, 1)) :
    ∃ T' h', Stand p l e R s m args below meth c T' (locs ++ [⟨a, i⟩]) cells slots ∧ T'.heap = h' ∧ Wr h h' a i (.int y) ∧ Al Z h' a .char (vs.set i (.int y)) ∧ ∀ target, Steps p.tables e below (T'.setTop { g with pc := g.pc + 1, stack := rest }) target → Steps p.tables e below (T.setTop g) target := by
  have V0 := V
  obtain ⟨cl, A, r⟩ := V
  obtain ⟨T', h', X', e', W, st⟩ := stC X hx hZ eT A (al_in r hj hi hl) hg hs hd
  subst hi hy
  exact ⟨T', h', X', e', W, V0.set W, st⟩
theorem asB (X : Stand p l e R s m args below meth c T locs cells slots) (hx : p.tables.exec = Jvm.exec) (hZ : Z.Warmed39 s.vm) (eT : T.heap = h) (V : Al Z h a .byte vs) {j : Int32} {i : Nat} {x y : Int32} (hj : ¬ j < 0) (hi : j.toNatClampNeg = i) (hl : i < vs.length) (hy : nar .byte x = y) {g : JFrame} (hg : g.method = m) {rest : List Value} (hs : g.stack = .int x :: .int j :: .ref a :: rest) (hd : decode c.code g.pc = .ok (.bastore, 1)) :
    ∃ T' h', Stand p l e R s m args below meth c T' (locs ++ [⟨a, i⟩]) cells slots ∧ T'.heap = h' ∧ Wr h h' a i (.int y) ∧ Al Z h' a .byte (vs.set i (.int y)) ∧ ∀ target, Steps p.tables e below (T'.setTop { g with pc := g.pc + 1, stack := rest }) target → Steps p.tables e below (T.setTop g) target := by
  have V0 := V
  obtain ⟨cl, A, r⟩ := V
  obtain ⟨T', h', X', e', W, st⟩ := stB X hx hZ eT A (al_in r hj hi hl) hg hs hd
  subst hi hy
  exact ⟨T', h', X', e', W, V0.set W, st⟩
theorem asZ (X : Stand p l e R s m args below meth c T locs cells slots) (hx : p.tables.exec = Jvm.exec) (hZ : Z.Warmed39 s.vm) (eT : T.heap = h) (V : Al Z h a .boolean vs) {j : Int32} {i : Nat} {x y : Int32} (hj : ¬ j < 0) (hi : j.toNatClampNeg = i) (hl : i < vs.length) (hy : nar .boolean x = y) {g : JFrame} (hg : g.method = m) {rest : List Value} (hs : g.stack = .int x :: .int j :: .ref a :: rest) (hd : decode c.code g.pc = .ok (.bastore, 1)) :
    ∃ T' h', Stand p l e R s m args below meth c T' (locs ++ [⟨a, i⟩]) cells slots ∧ T'.heap = h' ∧ Wr h h' a i (.int y) ∧ Al Z h' a .boolean (vs.set i (.int y)) ∧ ∀ target, Steps p.tables e below (T'.setTop { g with pc := g.pc + 1, stack := rest }) target → Steps p.tables e below (T.setTop g) target := by
  have V0 := V
  obtain ⟨cl, A, r⟩ := V
  obtain ⟨T', h', X', e', W, st⟩ := stZ X hx hZ eT A (al_in r hj hi hl) hg hs hd
  subst hi hy
  exact ⟨T', h', X', e', W, V0.set W, st⟩
theorem W.iloadN (X : Stand p l e R s m args below meth c T locs cells slots) (hx : p.tables.exec = Jvm.exec) {pc : Nat} {ls : Array Slot} {st : List Value} {pc' : Nat} {k : Fin 4} {v : Int32} (hd : decode c.code pc = .ok (.iload_n k, 1)) (hl : ls[k.val]? = some (.val (.int v))) (k : Wq p e below En Q (T.setTop (mkF m pc' ls (.int v :: st)))) (hpc : pc + 1 = pc' := by rfl) : Wq p e below En Q (T.setTop (mkF m pc ls st)) := by subst hpc; exact Wq.step (fun _ q => XS.iloadN X.here hx rfl hd hl q) k
theorem W.istoreN (X : Stand p l e R s m args below meth c T locs cells slots) (hx : p.tables.exec = Jvm.exec) {pc : Nat} {ls : Array Slot} {st : List Value} {pc' : Nat} {k : Fin 4} {x : Int32} {l' : Array Slot} (hd : decode c.code pc = .ok (.istore_n k, 1)) (hl : storeLocals ls k.val (.int x) = some l') (k : Wq p e below En Q (T.setTop (mkF m pc' l' st))) (hpc : pc + 1 = pc' := by rfl) : Wq p e below En Q (T.setTop (mkF m pc ls (.int x :: st))) := by subst hpc; exact Wq.step (fun _ q => XS.istoreN X.here hx rfl hd rfl hl q) k
theorem W.lloadN (X : Stand p l e R s m args below meth c T locs cells slots) (hx : p.tables.exec = Jvm.exec) {pc : Nat} {ls : Array Slot} {st : List Value} {pc' : Nat} {k : Fin 4} {v : Int64} (hd : decode c.code pc = .ok (.lload_n k, 1)) (hl : ls[k.val]? = some (.val (.long v))) (k : Wq p e below En Q (T.setTop (mkF m pc' ls (.long v :: st)))) (hpc : pc + 1 = pc' := by rfl) : Wq p e below En Q (T.setTop (mkF m pc ls st)) := by subst hpc; exact Wq.step (fun _ q => XS.lloadN X.here hx rfl hd hl q) k
theorem W.lstoreN (X : Stand p l e R s m args below meth c T locs cells slots) (hx : p.tables.exec = Jvm.exec) {pc : Nat} {ls : Array Slot} {st : List Value} {pc' : Nat} {k : Fin 4} {x : Int64} {l' : Array Slot} (hd : decode c.code pc = .ok (.lstore_n k, 1)) (hl : storeLocals ls k.val (.long x) = some l') (k : Wq p e below En Q (T.setTop (mkF m pc' l' st))) (hpc : pc + 1 = pc' := by rfl) : Wq p e below En Q (T.setTop (mkF m pc ls (.long x :: st))) := by subst hpc; exact Wq.step (fun _ q => XS.lstoreN X.here hx rfl hd rfl hl q) k
theorem W.aloadN (X : Stand p l e R s m args below meth c T locs cells slots) (hx : p.tables.exec = Jvm.exec) {pc : Nat} {ls : Array Slot} {st : List Value} {pc' : Nat} {k : Fin 4} {v : Value} (hd : decode c.code pc = .ok (.aload_n k, 1)) (hl : ls[k.val]? = some (.val v)) (hv : v.isRef = true) (k : Wq p e below En Q (T.setTop (mkF m pc' ls (v :: st)))) (hpc : pc + 1 = pc' := by rfl) : Wq p e below En Q (T.setTop (mkF m pc ls st)) := by subst hpc; exact Wq.step (fun _ q => XS.aloadN X.here hx rfl hd hl hv q) k
theorem W.astoreN (X : Stand p l e R s m args below meth c T locs cells slots) (hx : p.tables.exec = Jvm.exec) {pc : Nat} {ls : Array Slot} {st : List Value} {pc' : Nat} {k : Fin 4} {x : Value} {l' : Array Slot} (hd : decode c.code pc = .ok (.astore_n k, 1)) (hv : x.isRef = true) (hl : storeLocals ls k.val x = some l') (k : Wq p e below En Q (T.setTop (mkF m pc' l' st))) (hpc : pc + 1 = pc' := by rfl) : Wq p e below En Q (T.setTop (mkF m pc ls (x :: st))) := by subst hpc; exact Wq.step (fun _ q => XS.astoreN X.here hx rfl hd rfl hv hl q) k
theorem W.iload (X : Stand p l e R s m args below meth c T locs cells slots) (hx : p.tables.exec = Jvm.exec) {pc : Nat} {ls : Array Slot} {st : List Value} {pc' : Nat} {k : Nat} {v : Int32} (hd : decode c.code pc = .ok (.iload k, 2)) (hl : ls[k]? = some (.val (.int v))) (k : Wq p e below En Q (T.setTop (mkF m pc' ls (.int v :: st)))) (hpc : pc + 2 = pc' := by rfl) : Wq p e below En Q (T.setTop (mkF m pc ls st)) := by subst hpc; exact Wq.step (fun _ q => XS.iload X.here hx rfl hd hl q) k
theorem W.istore (X : Stand p l e R s m args below meth c T locs cells slots) (hx : p.tables.exec = Jvm.exec) {pc : Nat} {ls : Array Slot} {st : List Value} {pc' : Nat} {k : Nat} {x : Int32} {l' : Array Slot} (hd : decode c.code pc = .ok (.istore k, 2)) (hl : storeLocals ls k (.int x) = some l') (k : Wq p e below En Q (T.setTop (mkF m pc' l' st))) (hpc : pc + 2 = pc' := by rfl) : Wq p e below En Q (T.setTop (mkF m pc ls (.int x :: st))) := by subst hpc; exact Wq.step (fun _ q => XS.istore X.here hx rfl hd rfl hl q) k
theorem W.lload (X : Stand p l e R s m args below meth c T locs cells slots) (hx : p.tables.exec = Jvm.exec) {pc : Nat} {ls : Array Slot} {st : List Value} {pc' : Nat} {k : Nat} {v : Int64} (hd : decode c.code pc = .ok (.lload k, 2)) (hl : ls[k]? = some (.val (.long v))) (k : Wq p e below En Q (T.setTop (mkF m pc' ls (.long v :: st)))) (hpc : pc + 2 = pc' := by rfl) : Wq p e below En Q (T.setTop (mkF m pc ls st)) := by subst hpc; exact Wq.step (fun _ q => XS.lload X.here hx rfl hd hl q) k
theorem W.lstore (X : Stand p l e R s m args below meth c T locs cells slots) (hx : p.tables.exec = Jvm.exec) {pc : Nat} {ls : Array Slot} {st : List Value} {pc' : Nat} {k : Nat} {x : Int64} {l' : Array Slot} (hd : decode c.code pc = .ok (.lstore k, 2)) (hl : storeLocals ls k (.long x) = some l') (k : Wq p e below En Q (T.setTop (mkF m pc' l' st))) (hpc : pc + 2 = pc' := by rfl) : Wq p e below En Q (T.setTop (mkF m pc ls (.long x :: st))) := by subst hpc; exact Wq.step (fun _ q => XS.lstore X.here hx rfl hd rfl hl q) k
theorem W.aload (X : Stand p l e R s m args below meth c T locs cells slots) (hx : p.tables.exec = Jvm.exec) {pc : Nat} {ls : Array Slot} {st : List Value} {pc' : Nat} {k : Nat} {v : Value} (hd : decode c.code pc = .ok (.aload k, 2)) (hl : ls[k]? = some (.val v)) (hv : v.isRef = true) (k : Wq p e below En Q (T.setTop (mkF m pc' ls (v :: st)))) (hpc : pc + 2 = pc' := by rfl) : Wq p e below En Q (T.setTop (mkF m pc ls st)) := by subst hpc; exact Wq.step (fun _ q => XS.aload X.here hx rfl hd hl hv q) k
theorem W.astore (X : Stand p l e R s m args below meth c T locs cells slots) (hx : p.tables.exec = Jvm.exec) {pc : Nat} {ls : Array Slot} {st : List Value} {pc' : Nat} {k : Nat} {x : Value} {l' : Array Slot} (hd : decode c.code pc = .ok (.astore k, 2)) (hv : x.isRef = true) (hl : storeLocals ls k x = some l') (k : Wq p e below En Q (T.setTop (mkF m pc' l' st))) (hpc : pc + 2 = pc' := by rfl) : Wq p e below En Q (T.setTop (mkF m pc ls (x :: st))) := by subst hpc; exact Wq.step (fun _ q => XS.astore X.here hx rfl hd rfl hv hl q) k
theorem W.istoreNS (X : Stand p l e R s m args below meth c T locs cells slots) (hx : p.tables.exec = Jvm.exec) {pc pc' : Nat} {ls : Array Slot} {st : List Value} {k : Fin 4} {x : Int32} {o : Slot} {l' : Array Slot} (hd : decode c.code pc = .ok (.istore_n k, 1)) (hold : ls[k.val]? = some o) (ho : o = .unset ∨ ∃ w, o = .val w ∧ w.category = 1) (hl : ls.setIfInBounds k.val (.val (.int x)) = l') (q : Wq p e below En Q (T.setTop (mkF m pc' l' st))) (hpc : pc + 1 = pc' := by rfl) : Wq p e below En Q (T.setTop (mkF m pc ls (.int x :: st))) := by
  subst hpc hl
  exact Wq.step (fun _ z => XS.istoreN X.here hx rfl hd rfl (XS.store1 hold ho rfl) z) q
theorem W.istoreS (X : Stand p l e R s m args below meth c T locs cells slots) (hx : p.tables.exec = Jvm.exec) {pc pc' : Nat} {ls : Array Slot} {st : List Value} {k : Nat} {x : Int32} {o : Slot} {l' : Array Slot} (hd : decode c.code pc = .ok (.istore k, 2)) (hold : ls[k]? = some o) (ho : o = .unset ∨ ∃ w, o = .val w ∧ w.category = 1) (hl : ls.setIfInBounds k (.val (.int x)) = l') (q : Wq p e below En Q (T.setTop (mkF m pc' l' st))) (hpc : pc + 2 = pc' := by rfl) : Wq p e below En Q (T.setTop (mkF m pc ls (.int x :: st))) := by
  subst hpc hl
  exact Wq.step (fun _ z => XS.istore X.here hx rfl hd rfl (XS.store1 hold ho rfl) z) q
theorem W.iconst (X : Stand p l e R s m args below meth c T locs cells slots) (hx : p.tables.exec = Jvm.exec) {pc : Nat} {ls : Array Slot} {st : List Value} {pc' : Nat} {i : Int} {z : Int32} (hd : decode c.code pc = .ok (.iconst i, 1)) (hz : Int32.ofInt i = z) (k : Wq p e below En Q (T.setTop (mkF m pc' ls (.int z :: st)))) (hpc : pc + 1 = pc' := by rfl) : Wq p e below En Q (T.setTop (mkF m pc ls st)) := by subst hz hpc; exact Wq.step (fun _ q => XS.iconst X.here hx rfl hd  q) k
theorem W.bipush (X : Stand p l e R s m args below meth c T locs cells slots) (hx : p.tables.exec = Jvm.exec) {pc : Nat} {ls : Array Slot} {st : List Value} {pc' : Nat} {i : Int} {z : Int32} (hd : decode c.code pc = .ok (.bipush i, 2)) (hz : (Int8.ofInt i).toInt32 = z) (k : Wq p e below En Q (T.setTop (mkF m pc' ls (.int z :: st)))) (hpc : pc + 2 = pc' := by rfl) : Wq p e below En Q (T.setTop (mkF m pc ls st)) := by subst hz hpc; exact Wq.step (fun _ q => XS.bipush X.here hx rfl hd  q) k
theorem W.sipush (X : Stand p l e R s m args below meth c T locs cells slots) (hx : p.tables.exec = Jvm.exec) {pc : Nat} {ls : Array Slot} {st : List Value} {pc' : Nat} {i : Int} {z : Int32} (hd : decode c.code pc = .ok (.sipush i, 3)) (hz : (Int16.ofInt i).toInt32 = z) (k : Wq p e below En Q (T.setTop (mkF m pc' ls (.int z :: st)))) (hpc : pc + 3 = pc' := by rfl) : Wq p e below En Q (T.setTop (mkF m pc ls st)) := by subst hz hpc; exact Wq.step (fun _ q => XS.sipush X.here hx rfl hd  q) k
theorem W.lconst (X : Stand p l e R s m args below meth c T locs cells slots) (hx : p.tables.exec = Jvm.exec) {pc : Nat} {ls : Array Slot} {st : List Value} {pc' : Nat} {i : Fin 2} {z : Int64} (hd : decode c.code pc = .ok (.lconst i, 1)) (hz : Int64.ofNat i = z) (k : Wq p e below En Q (T.setTop (mkF m pc' ls (.long z :: st)))) (hpc : pc + 1 = pc' := by rfl) : Wq p e below En Q (T.setTop (mkF m pc ls st)) := by subst hz hpc; exact Wq.step (fun _ q => XS.lconst X.here hx rfl hd  q) k
theorem W.aconstNull (X : Stand p l e R s m args below meth c T locs cells slots) (hx : p.tables.exec = Jvm.exec) {pc : Nat} {ls : Array Slot} {st : List Value} {pc' : Nat}  (hd : decode c.code pc = .ok (.aconst_null, 1))  (k : Wq p e below En Q (T.setTop (mkF m pc' ls (.null :: st)))) (hpc : pc + 1 = pc' := by rfl) : Wq p e below En Q (T.setTop (mkF m pc ls st)) := by subst hpc; exact Wq.step (fun _ q => XS.aconstNull X.here hx rfl hd  q) k
theorem W.iadd (X : Stand p l e R s m args below meth c T locs cells slots) (hx : p.tables.exec = Jvm.exec) {pc : Nat} {ls : Array Slot} {st : List Value} {pc' : Nat} {x y z : Int32} (hd : decode c.code pc = .ok (.iadd, 1)) (hz : x + y = z) (k : Wq p e below En Q (T.setTop (mkF m pc' ls (.int z :: st)))) (hpc : pc + 1 = pc' := by rfl) : Wq p e below En Q (T.setTop (mkF m pc ls (.int y :: .int x :: st))) := by subst hz hpc; exact Wq.step (fun _ q => XS.iadd X.here hx rfl hd rfl q) k
theorem W.ladd (X : Stand p l e R s m args below meth c T locs cells slots) (hx : p.tables.exec = Jvm.exec) {pc : Nat} {ls : Array Slot} {st : List Value} {pc' : Nat} {x y z : Int64} (hd : decode c.code pc = .ok (.ladd, 1)) (hz : x + y = z) (k : Wq p e below En Q (T.setTop (mkF m pc' ls (.long z :: st)))) (hpc : pc + 1 = pc' := by rfl) : Wq p e below En Q (T.setTop (mkF m pc ls (.long y :: .long x :: st))) := by subst hz hpc; exact Wq.step (fun _ q => XS.ladd X.here hx rfl hd rfl q) k
theorem W.isub (X : Stand p l e R s m args below meth c T locs cells slots) (hx : p.tables.exec = Jvm.exec) {pc : Nat} {ls : Array Slot} {st : List Value} {pc' : Nat} {x y z : Int32} (hd : decode c.code pc = .ok (.isub, 1)) (hz : x - y = z) (k : Wq p e below En Q (T.setTop (mkF m pc' ls (.int z :: st)))) (hpc : pc + 1 = pc' := by rfl) : Wq p e below En Q (T.setTop (mkF m pc ls (.int y :: .int x :: st))) := by subst hz hpc; exact Wq.step (fun _ q => XS.isub X.here hx rfl hd rfl q) k
theorem W.lsub (X : Stand p l e R s m args below meth c T locs cells slots) (hx : p.tables.exec = Jvm.exec) {pc : Nat} {ls : Array Slot} {st : List Value} {pc' : Nat} {x y z : Int64} (hd : decode c.code pc = .ok (.lsub, 1)) (hz : x - y = z) (k : Wq p e below En Q (T.setTop (mkF m pc' ls (.long z :: st)))) (hpc : pc + 1 = pc' := by rfl) : Wq p e below En Q (T.setTop (mkF m pc ls (.long y :: .long x :: st))) := by subst hz hpc; exact Wq.step (fun _ q => XS.lsub X.here hx rfl hd rfl q) k
theorem W.imul (X : Stand p l e R s m args below meth c T locs cells slots) (hx : p.tables.exec = Jvm.exec) {pc : Nat} {ls : Array Slot} {st : List Value} {pc' : Nat} {x y z : Int32} (hd : decode c.code pc = .ok (.imul, 1)) (hz : x * y = z) (k : Wq p e below En Q (T.setTop (mkF m pc' ls (.int z :: st)))) (hpc : pc + 1 = pc' := by rfl) : Wq p e below En Q (T.setTop (mkF m pc ls (.int y :: .int x :: st))) := by subst hz hpc; exact Wq.step (fun _ q => XS.imul X.here hx rfl hd rfl q) k
theorem W.lmul (X : Stand p l e R s m args below meth c T locs cells slots) (hx : p.tables.exec = Jvm.exec) {pc : Nat} {ls : Array Slot} {st : List Value} {pc' : Nat} {x y z : Int64} (hd : decode c.code pc = .ok (.lmul, 1)) (hz : x * y = z) (k : Wq p e below En Q (T.setTop (mkF m pc' ls (.long z :: st)))) (hpc : pc + 1 = pc' := by rfl) : Wq p e below En Q (T.setTop (mkF m pc ls (.long y :: .long x :: st))) := by subst hz hpc; exact Wq.step (fun _ q => XS.lmul X.here hx rfl hd rfl q) k
theorem W.iand (X : Stand p l e R s m args below meth c T locs cells slots) (hx : p.tables.exec = Jvm.exec) {pc : Nat} {ls : Array Slot} {st : List Value} {pc' : Nat} {x y z : Int32} (hd : decode c.code pc = .ok (.iand, 1)) (hz : x &&& y = z) (k : Wq p e below En Q (T.setTop (mkF m pc' ls (.int z :: st)))) (hpc : pc + 1 = pc' := by rfl) : Wq p e below En Q (T.setTop (mkF m pc ls (.int y :: .int x :: st))) := by subst hz hpc; exact Wq.step (fun _ q => XS.iand X.here hx rfl hd rfl q) k
theorem W.land (X : Stand p l e R s m args below meth c T locs cells slots) (hx : p.tables.exec = Jvm.exec) {pc : Nat} {ls : Array Slot} {st : List Value} {pc' : Nat} {x y z : Int64} (hd : decode c.code pc = .ok (.land, 1)) (hz : x &&& y = z) (k : Wq p e below En Q (T.setTop (mkF m pc' ls (.long z :: st)))) (hpc : pc + 1 = pc' := by rfl) : Wq p e below En Q (T.setTop (mkF m pc ls (.long y :: .long x :: st))) := by subst hz hpc; exact Wq.step (fun _ q => XS.land X.here hx rfl hd rfl q) k
theorem W.ior (X : Stand p l e R s m args below meth c T locs cells slots) (hx : p.tables.exec = Jvm.exec) {pc : Nat} {ls : Array Slot} {st : List Value} {pc' : Nat} {x y z : Int32} (hd : decode c.code pc = .ok (.ior, 1)) (hz : x ||| y = z) (k : Wq p e below En Q (T.setTop (mkF m pc' ls (.int z :: st)))) (hpc : pc + 1 = pc' := by rfl) : Wq p e below En Q (T.setTop (mkF m pc ls (.int y :: .int x :: st))) := by subst hz hpc; exact Wq.step (fun _ q => XS.ior X.here hx rfl hd rfl q) k
theorem W.lor (X : Stand p l e R s m args below meth c T locs cells slots) (hx : p.tables.exec = Jvm.exec) {pc : Nat} {ls : Array Slot} {st : List Value} {pc' : Nat} {x y z : Int64} (hd : decode c.code pc = .ok (.lor, 1)) (hz : x ||| y = z) (k : Wq p e below En Q (T.setTop (mkF m pc' ls (.long z :: st)))) (hpc : pc + 1 = pc' := by rfl) : Wq p e below En Q (T.setTop (mkF m pc ls (.long y :: .long x :: st))) := by subst hz hpc; exact Wq.step (fun _ q => XS.lor X.here hx rfl hd rfl q) k
theorem W.ixor (X : Stand p l e R s m args below meth c T locs cells slots) (hx : p.tables.exec = Jvm.exec) {pc : Nat} {ls : Array Slot} {st : List Value} {pc' : Nat} {x y z : Int32} (hd : decode c.code pc = .ok (.ixor, 1)) (hz : x ^^^ y = z) (k : Wq p e below En Q (T.setTop (mkF m pc' ls (.int z :: st)))) (hpc : pc + 1 = pc' := by rfl) : Wq p e below En Q (T.setTop (mkF m pc ls (.int y :: .int x :: st))) := by subst hz hpc; exact Wq.step (fun _ q => XS.ixor X.here hx rfl hd rfl q) k
theorem W.lxor (X : Stand p l e R s m args below meth c T locs cells slots) (hx : p.tables.exec = Jvm.exec) {pc : Nat} {ls : Array Slot} {st : List Value} {pc' : Nat} {x y z : Int64} (hd : decode c.code pc = .ok (.lxor, 1)) (hz : x ^^^ y = z) (k : Wq p e below En Q (T.setTop (mkF m pc' ls (.long z :: st)))) (hpc : pc + 1 = pc' := by rfl) : Wq p e below En Q (T.setTop (mkF m pc ls (.long y :: .long x :: st))) := by subst hz hpc; exact Wq.step (fun _ q => XS.lxor X.here hx rfl hd rfl q) k
theorem W.ineg (X : Stand p l e R s m args below meth c T locs cells slots) (hx : p.tables.exec = Jvm.exec) {pc : Nat} {ls : Array Slot} {st : List Value} {pc' : Nat} {x : Int32} {z : Int32} (hd : decode c.code pc = .ok (.ineg, 1)) (hz : -x = z) (k : Wq p e below En Q (T.setTop (mkF m pc' ls (.int z :: st)))) (hpc : pc + 1 = pc' := by rfl) : Wq p e below En Q (T.setTop (mkF m pc ls (.int x :: st))) := by subst hz hpc; exact Wq.step (fun _ q => XS.ineg X.here hx rfl hd rfl q) k
theorem W.lneg (X : Stand p l e R s m args below meth c T locs cells slots) (hx : p.tables.exec = Jvm.exec) {pc : Nat} {ls : Array Slot} {st : List Value} {pc' : Nat} {x : Int64} {z : Int64} (hd : decode c.code pc = .ok (.lneg, 1)) (hz : -x = z) (k : Wq p e below En Q (T.setTop (mkF m pc' ls (.long z :: st)))) (hpc : pc + 1 = pc' := by rfl) : Wq p e below En Q (T.setTop (mkF m pc ls (.long x :: st))) := by subst hz hpc; exact Wq.step (fun _ q => XS.lneg X.here hx rfl hd rfl q) k
theorem W.i2l (X : Stand p l e R s m args below meth c T locs cells slots) (hx : p.tables.exec = Jvm.exec) {pc : Nat} {ls : Array Slot} {st : List Value} {pc' : Nat} {x : Int32} {z : Int64} (hd : decode c.code pc = .ok (.i2l, 1)) (hz : x.toInt64 = z) (k : Wq p e below En Q (T.setTop (mkF m pc' ls (.long z :: st)))) (hpc : pc + 1 = pc' := by rfl) : Wq p e below En Q (T.setTop (mkF m pc ls (.int x :: st))) := by subst hz hpc; exact Wq.step (fun _ q => XS.i2l X.here hx rfl hd rfl q) k
theorem W.l2i (X : Stand p l e R s m args below meth c T locs cells slots) (hx : p.tables.exec = Jvm.exec) {pc : Nat} {ls : Array Slot} {st : List Value} {pc' : Nat} {x : Int64} {z : Int32} (hd : decode c.code pc = .ok (.l2i, 1)) (hz : x.toInt32 = z) (k : Wq p e below En Q (T.setTop (mkF m pc' ls (.int z :: st)))) (hpc : pc + 1 = pc' := by rfl) : Wq p e below En Q (T.setTop (mkF m pc ls (.long x :: st))) := by subst hz hpc; exact Wq.step (fun _ q => XS.l2i X.here hx rfl hd rfl q) k
theorem W.i2b (X : Stand p l e R s m args below meth c T locs cells slots) (hx : p.tables.exec = Jvm.exec) {pc : Nat} {ls : Array Slot} {st : List Value} {pc' : Nat} {x : Int32} {z : Int32} (hd : decode c.code pc = .ok (.i2b, 1)) (hz : x.toInt8.toInt32 = z) (k : Wq p e below En Q (T.setTop (mkF m pc' ls (.int z :: st)))) (hpc : pc + 1 = pc' := by rfl) : Wq p e below En Q (T.setTop (mkF m pc ls (.int x :: st))) := by subst hz hpc; exact Wq.step (fun _ q => XS.i2b X.here hx rfl hd rfl q) k
theorem W.i2s (X : Stand p l e R s m args below meth c T locs cells slots) (hx : p.tables.exec = Jvm.exec) {pc : Nat} {ls : Array Slot} {st : List Value} {pc' : Nat} {x : Int32} {z : Int32} (hd : decode c.code pc = .ok (.i2s, 1)) (hz : x.toInt16.toInt32 = z) (k : Wq p e below En Q (T.setTop (mkF m pc' ls (.int z :: st)))) (hpc : pc + 1 = pc' := by rfl) : Wq p e below En Q (T.setTop (mkF m pc ls (.int x :: st))) := by subst hz hpc; exact Wq.step (fun _ q => XS.i2s X.here hx rfl hd rfl q) k
theorem W.i2c (X : Stand p l e R s m args below meth c T locs cells slots) (hx : p.tables.exec = Jvm.exec) {pc : Nat} {ls : Array Slot} {st : List Value} {pc' : Nat} {x : Int32} {z : Int32} (hd : decode c.code pc = .ok (.i2c, 1)) (hz : x.toUInt32.toUInt16.toUInt32.toInt32 = z) (k : Wq p e below En Q (T.setTop (mkF m pc' ls (.int z :: st)))) (hpc : pc + 1 = pc' := by rfl) : Wq p e below En Q (T.setTop (mkF m pc ls (.int x :: st))) := by subst hz hpc; exact Wq.step (fun _ q => XS.i2c X.here hx rfl hd rfl q) k
theorem W.ishl (X : Stand p l e R s m args below meth c T locs cells slots) (hx : p.tables.exec = Jvm.exec) {pc : Nat} {ls : Array Slot} {st : List Value} {pc' : Nat} {x : Int32} {y : Int32} {z : Int32} (hd : decode c.code pc = .ok (.ishl, 1)) (hz : x <<< (y &&& 31) = z) (k : Wq p e below En Q (T.setTop (mkF m pc' ls (.int z :: st)))) (hpc : pc + 1 = pc' := by rfl) : Wq p e below En Q (T.setTop (mkF m pc ls (.int y :: .int x :: st))) := by subst hz hpc; exact Wq.step (fun _ q => XS.ishl X.here hx rfl hd rfl q) k
theorem W.ishr (X : Stand p l e R s m args below meth c T locs cells slots) (hx : p.tables.exec = Jvm.exec) {pc : Nat} {ls : Array Slot} {st : List Value} {pc' : Nat} {x : Int32} {y : Int32} {z : Int32} (hd : decode c.code pc = .ok (.ishr, 1)) (hz : x >>> (y &&& 31) = z) (k : Wq p e below En Q (T.setTop (mkF m pc' ls (.int z :: st)))) (hpc : pc + 1 = pc' := by rfl) : Wq p e below En Q (T.setTop (mkF m pc ls (.int y :: .int x :: st))) := by subst hz hpc; exact Wq.step (fun _ q => XS.ishr X.here hx rfl hd rfl q) k
theorem W.iushr (X : Stand p l e R s m args below meth c T locs cells slots) (hx : p.tables.exec = Jvm.exec) {pc : Nat} {ls : Array Slot} {st : List Value} {pc' : Nat} {x : Int32} {y : Int32} {z : Int32} (hd : decode c.code pc = .ok (.iushr, 1)) (hz : (x.toUInt32 >>> (y &&& 31).toUInt32).toInt32 = z) (k : Wq p e below En Q (T.setTop (mkF m pc' ls (.int z :: st)))) (hpc : pc + 1 = pc' := by rfl) : Wq p e below En Q (T.setTop (mkF m pc ls (.int y :: .int x :: st))) := by subst hz hpc; exact Wq.step (fun _ q => XS.iushr X.here hx rfl hd rfl q) k
theorem W.lshl (X : Stand p l e R s m args below meth c T locs cells slots) (hx : p.tables.exec = Jvm.exec) {pc : Nat} {ls : Array Slot} {st : List Value} {pc' : Nat} {x : Int64} {y : Int32} {z : Int64} (hd : decode c.code pc = .ok (.lshl, 1)) (hz : x <<< (y &&& 0x3f).toInt64 = z) (k : Wq p e below En Q (T.setTop (mkF m pc' ls (.long z :: st)))) (hpc : pc + 1 = pc' := by rfl) : Wq p e below En Q (T.setTop (mkF m pc ls (.int y :: .long x :: st))) := by subst hz hpc; exact Wq.step (fun _ q => XS.lshl X.here hx rfl hd rfl q) k
theorem W.lshr (X : Stand p l e R s m args below meth c T locs cells slots) (hx : p.tables.exec = Jvm.exec) {pc : Nat} {ls : Array Slot} {st : List Value} {pc' : Nat} {x : Int64} {y : Int32} {z : Int64} (hd : decode c.code pc = .ok (.lshr, 1)) (hz : x >>> (y &&& 0x3f).toInt64 = z) (k : Wq p e below En Q (T.setTop (mkF m pc' ls (.long z :: st)))) (hpc : pc + 1 = pc' := by rfl) : Wq p e below En Q (T.setTop (mkF m pc ls (.int y :: .long x :: st))) := by subst hz hpc; exact Wq.step (fun _ q => XS.lshr X.here hx rfl hd rfl q) k
theorem W.lushr (X : Stand p l e R s m args below meth c T locs cells slots) (hx : p.tables.exec = Jvm.exec) {pc : Nat} {ls : Array Slot} {st : List Value} {pc' : Nat} {x : Int64} {y : Int32} {z : Int64} (hd : decode c.code pc = .ok (.lushr, 1)) (hz : (x.toUInt64 >>> (y &&& 0x3f).toInt64.toUInt64).toInt64 = z) (k : Wq p e below En Q (T.setTop (mkF m pc' ls (.long z :: st)))) (hpc : pc + 1 = pc' := by rfl) : Wq p e below En Q (T.setTop (mkF m pc ls (.int y :: .long x :: st))) := by subst hz hpc; exact Wq.step (fun _ q => XS.lushr X.here hx rfl hd rfl q) k
theorem W.lcmp (X : Stand p l e R s m args below meth c T locs cells slots) (hx : p.tables.exec = Jvm.exec) {pc : Nat} {ls : Array Slot} {st : List Value} {pc' : Nat} {x y : Int64} (hd : decode c.code pc = .ok (.lcmp, 1))  (k : Wq p e below En Q (T.setTop (mkF m pc' ls (.int (lcmpW x y) :: st)))) (hpc : pc + 1 = pc' := by rfl) : Wq p e below En Q (T.setTop (mkF m pc ls (.long y :: .long x :: st))) := by subst hpc; exact Wq.step (fun _ q => XS.lcmp X.here hx rfl hd rfl q) k
theorem W.idiv (X : Stand p l e R s m args below meth c T locs cells slots) (hx : p.tables.exec = Jvm.exec) {pc : Nat} {ls : Array Slot} {st : List Value} {pc' : Nat} {x y z : Int32} (hd : decode c.code pc = .ok (.idiv, 1)) (hy : y ≠ 0) (hz : x / y = z) (k : Wq p e below En Q (T.setTop (mkF m pc' ls (.int z :: st)))) (hpc : pc + 1 = pc' := by rfl) : Wq p e below En Q (T.setTop (mkF m pc ls (.int y :: .int x :: st))) := by subst hz hpc; exact Wq.step (fun _ q => XS.idiv X.here hx rfl hd rfl hy q) k
theorem W.ldiv (X : Stand p l e R s m args below meth c T locs cells slots) (hx : p.tables.exec = Jvm.exec) {pc : Nat} {ls : Array Slot} {st : List Value} {pc' : Nat} {x y z : Int64} (hd : decode c.code pc = .ok (.ldiv, 1)) (hy : y ≠ 0) (hz : x / y = z) (k : Wq p e below En Q (T.setTop (mkF m pc' ls (.long z :: st)))) (hpc : pc + 1 = pc' := by rfl) : Wq p e below En Q (T.setTop (mkF m pc ls (.long y :: .long x :: st))) := by subst hz hpc; exact Wq.step (fun _ q => XS.ldiv X.here hx rfl hd rfl hy q) k
theorem W.irem (X : Stand p l e R s m args below meth c T locs cells slots) (hx : p.tables.exec = Jvm.exec) {pc : Nat} {ls : Array Slot} {st : List Value} {pc' : Nat} {x y z : Int32} (hd : decode c.code pc = .ok (.irem, 1)) (hy : y ≠ 0) (hz : x % y = z) (k : Wq p e below En Q (T.setTop (mkF m pc' ls (.int z :: st)))) (hpc : pc + 1 = pc' := by rfl) : Wq p e below En Q (T.setTop (mkF m pc ls (.int y :: .int x :: st))) := by subst hz hpc; exact Wq.step (fun _ q => iremM X hx rfl hd rfl hy q) k
theorem W.lrem (X : Stand p l e R s m args below meth c T locs cells slots) (hx : p.tables.exec = Jvm.exec) {pc : Nat} {ls : Array Slot} {st : List Value} {pc' : Nat} {x y z : Int64} (hd : decode c.code pc = .ok (.lrem, 1)) (hy : y ≠ 0) (hz : x % y = z) (k : Wq p e below En Q (T.setTop (mkF m pc' ls (.long z :: st)))) (hpc : pc + 1 = pc' := by rfl) : Wq p e below En Q (T.setTop (mkF m pc ls (.long y :: .long x :: st))) := by
  rw [← lrem_mod] at hz
  subst hz hpc
  exact Wq.step (fun _ q => XS.lrem X.here hx rfl hd rfl hy q) k
theorem W.iinc (X : Stand p l e R s m args below meth c T locs cells slots) (hx : p.tables.exec = Jvm.exec) {pc : Nat} {ls : Array Slot} {st : List Value} {pc' : Nat} {i : Nat} {cst : Int} {x z : Int32} {l' : Array Slot} (hd : decode c.code pc = .ok (.iinc i cst, 3)) (hl : ls[i]? = some (.val (.int x))) (hl' : storeLocals ls i (.int (x + Int32.ofInt cst)) = some l') (k : Wq p e below En Q (T.setTop (mkF m pc' l' st))) (hpc : pc + 3 = pc' := by rfl) : Wq p e below En Q (T.setTop (mkF m pc ls st)) := by subst hpc; exact Wq.step (fun _ q => XS.iinc X.here hx rfl hd hl hl' q) k
theorem W.dup (X : Stand p l e R s m args below meth c T locs cells slots) (hx : p.tables.exec = Jvm.exec) {pc : Nat} {ls : Array Slot} {st : List Value} {pc' : Nat} {x : Value} (hd : decode c.code pc = .ok (.dup, 1)) (hc : x.category = 1) (k : Wq p e below En Q (T.setTop (mkF m pc' ls (x :: x :: st)))) (hpc : pc + 1 = pc' := by rfl) : Wq p e below En Q (T.setTop (mkF m pc ls (x :: st))) := by subst hpc; exact Wq.step (fun _ q => XS.dup X.here hx rfl hd rfl hc q) k
theorem W.pop (X : Stand p l e R s m args below meth c T locs cells slots) (hx : p.tables.exec = Jvm.exec) {pc : Nat} {ls : Array Slot} {st : List Value} {pc' : Nat} {x : Value} (hd : decode c.code pc = .ok (.pop, 1)) (hc : x.category = 1) (k : Wq p e below En Q (T.setTop (mkF m pc' ls st))) (hpc : pc + 1 = pc' := by rfl) : Wq p e below En Q (T.setTop (mkF m pc ls (x :: st))) := by subst hpc; exact Wq.step (fun _ q => XS.pop X.here hx rfl hd rfl hc q) k
theorem W.dupX1 (X : Stand p l e R s m args below meth c T locs cells slots) (hx : p.tables.exec = Jvm.exec) {pc : Nat} {ls : Array Slot} {st : List Value} {pc' : Nat} {x y : Value} (hd : decode c.code pc = .ok (.dup_x1, 1)) (hc : x.category = 1) (hc' : y.category = 1) (k : Wq p e below En Q (T.setTop (mkF m pc' ls (x :: y :: x :: st)))) (hpc : pc + 1 = pc' := by rfl) : Wq p e below En Q (T.setTop (mkF m pc ls (x :: y :: st))) := by subst hpc; exact Wq.step (fun _ q => XS.dupX1 X.here hx rfl hd rfl hc hc' q) k
theorem W.swap (X : Stand p l e R s m args below meth c T locs cells slots) (hx : p.tables.exec = Jvm.exec) {pc : Nat} {ls : Array Slot} {st : List Value} {pc' : Nat} {x y : Value} (hd : decode c.code pc = .ok (.swap, 1)) (hc : x.category = 1) (hc' : y.category = 1) (k : Wq p e below En Q (T.setTop (mkF m pc' ls (y :: x :: st)))) (hpc : pc + 1 = pc' := by rfl) : Wq p e below En Q (T.setTop (mkF m pc ls (x :: y :: st))) := by subst hpc; exact Wq.step (fun _ q => XS.swap X.here hx rfl hd rfl hc hc' q) k
theorem W.dup2 (X : Stand p l e R s m args below meth c T locs cells slots) (hx : p.tables.exec = Jvm.exec) {pc : Nat} {ls : Array Slot} {st : List Value} {pc' : Nat} {x y : Value} (hd : decode c.code pc = .ok (.dup2, 1)) (hc : x.category = 1) (hc' : y.category = 1) (k : Wq p e below En Q (T.setTop (mkF m pc' ls (x :: y :: x :: y :: st)))) (hpc : pc + 1 = pc' := by rfl) : Wq p e below En Q (T.setTop (mkF m pc ls (x :: y :: st))) := by subst hpc; exact Wq.step (fun _ q => Jvm.Free.XT.dup2 X.here hx rfl hd rfl hc hc' q) k
theorem W.dup2L (X : Stand p l e R s m args below meth c T locs cells slots) (hx : p.tables.exec = Jvm.exec) {pc : Nat} {ls : Array Slot} {st : List Value} {pc' : Nat} {x : Int64} (hd : decode c.code pc = .ok (.dup2, 1))  (k : Wq p e below En Q (T.setTop (mkF m pc' ls (.long x :: .long x :: st)))) (hpc : pc + 1 = pc' := by rfl) : Wq p e below En Q (T.setTop (mkF m pc ls (.long x :: st))) := by subst hpc; exact Wq.step (fun _ q => Jvm.Free.XT.dup2L X.here hx rfl hd rfl q) k
theorem W.goto (X : Stand p l e R s m args below meth c T locs cells slots) (hx : p.tables.exec = Jvm.exec) {pc : Nat} {ls : Array Slot} {st : List Value} {o : Int} {pc' : Nat} (hd : decode c.code pc = .ok (.goto o, 3)) (ho : 0 ≤ (pc : Int) + o) (hp : ((pc : Int) + o).toNat = pc') (k : Wq p e below En Q (T.setTop (mkF m pc' ls st))) : Wq p e below En Q (T.setTop (mkF m pc ls st)) := Wq.step (fun _ q => XS.goto X.here hx rfl rfl hd ho hp q) k
theorem W.ifYes (X : Stand p l e R s m args below meth c T locs cells slots) (hx : p.tables.exec = Jvm.exec) {pc : Nat} {ls : Array Slot} {st : List Value} {cd : ClassFile.Cond} {x : Int32} {o : Int} {pc' : Nat} (hd : decode c.code pc = .ok (.ifCond cd o, 3)) (hc : ifCond.holds cd x = true) (ho : 0 ≤ (pc : Int) + o) (hp : ((pc : Int) + o).toNat = pc') (k : Wq p e below En Q (T.setTop (mkF m pc' ls st))) : Wq p e below En Q (T.setTop (mkF m pc ls (.int x :: st))) := Wq.step (fun _ q => XS.ifYes X.here hx rfl rfl hd rfl hc ho hp q) k
theorem W.ifNo (X : Stand p l e R s m args below meth c T locs cells slots) (hx : p.tables.exec = Jvm.exec) {pc : Nat} {ls : Array Slot} {st : List Value} {pc' : Nat} {cd : ClassFile.Cond} {x : Int32} {o : Int} (hd : decode c.code pc = .ok (.ifCond cd o, 3)) (hc : ifCond.holds cd x = false) (k : Wq p e below En Q (T.setTop (mkF m pc' ls st))) (hpc : pc + 3 = pc' := by rfl) : Wq p e below En Q (T.setTop (mkF m pc ls (.int x :: st))) := by subst hpc; exact Wq.step (fun _ q => XS.ifNo X.here hx rfl hd rfl hc q) k
theorem W.icmpYes (X : Stand p l e R s m args below meth c T locs cells slots) (hx : p.tables.exec = Jvm.exec) {pc : Nat} {ls : Array Slot} {st : List Value} {cd : ClassFile.Cond} {x y : Int32} {o : Int} {pc' : Nat} (hd : decode c.code pc = .ok (.if_icmp cd o, 3)) (hc : if_icmp.holds cd x y = true) (ho : 0 ≤ (pc : Int) + o) (hp : ((pc : Int) + o).toNat = pc') (k : Wq p e below En Q (T.setTop (mkF m pc' ls st))) : Wq p e below En Q (T.setTop (mkF m pc ls (.int y :: .int x :: st))) := Wq.step (fun _ q => XS.icmpYes X.here hx rfl rfl hd rfl hc ho hp q) k
theorem W.icmpNo (X : Stand p l e R s m args below meth c T locs cells slots) (hx : p.tables.exec = Jvm.exec) {pc : Nat} {ls : Array Slot} {st : List Value} {pc' : Nat} {cd : ClassFile.Cond} {x y : Int32} {o : Int} (hd : decode c.code pc = .ok (.if_icmp cd o, 3)) (hc : if_icmp.holds cd x y = false) (k : Wq p e below En Q (T.setTop (mkF m pc' ls st))) (hpc : pc + 3 = pc' := by rfl) : Wq p e below En Q (T.setTop (mkF m pc ls (.int y :: .int x :: st))) := by subst hpc; exact Wq.step (fun _ q => XS.icmpNo X.here hx rfl hd rfl hc q) k
theorem W.ifnullYes (X : Stand p l e R s m args below meth c T locs cells slots) (hx : p.tables.exec = Jvm.exec) {pc : Nat} {ls : Array Slot} {st : List Value} {o : Int} {pc' : Nat} (hd : decode c.code pc = .ok (.ifnull o, 3)) (ho : 0 ≤ (pc : Int) + o) (hp : ((pc : Int) + o).toNat = pc') (k : Wq p e below En Q (T.setTop (mkF m pc' ls st))) : Wq p e below En Q (T.setTop (mkF m pc ls (.null :: st))) := Wq.step (fun _ q => XS.ifnullYes X.here hx rfl rfl hd rfl ho hp q) k
theorem W.ifnullNo (X : Stand p l e R s m args below meth c T locs cells slots) (hx : p.tables.exec = Jvm.exec) {pc : Nat} {ls : Array Slot} {st : List Value} {pc' : Nat} {o : Int} {b : Addr} (hd : decode c.code pc = .ok (.ifnull o, 3))  (k : Wq p e below En Q (T.setTop (mkF m pc' ls st))) (hpc : pc + 3 = pc' := by rfl) : Wq p e below En Q (T.setTop (mkF m pc ls (.ref b :: st))) := by subst hpc; exact Wq.step (fun _ q => XS.ifnullNo X.here hx rfl hd rfl q) k
theorem W.ifnonnullYes (X : Stand p l e R s m args below meth c T locs cells slots) (hx : p.tables.exec = Jvm.exec) {pc : Nat} {ls : Array Slot} {st : List Value} {o : Int} {b : Addr} {pc' : Nat} (hd : decode c.code pc = .ok (.ifnonnull o, 3)) (ho : 0 ≤ (pc : Int) + o) (hp : ((pc : Int) + o).toNat = pc') (k : Wq p e below En Q (T.setTop (mkF m pc' ls st))) : Wq p e below En Q (T.setTop (mkF m pc ls (.ref b :: st))) := Wq.step (fun _ q => XS.ifnonnullYes X.here hx rfl rfl hd rfl ho hp q) k
theorem W.ifnonnullNo (X : Stand p l e R s m args below meth c T locs cells slots) (hx : p.tables.exec = Jvm.exec) {pc : Nat} {ls : Array Slot} {st : List Value} {pc' : Nat} {o : Int} (hd : decode c.code pc = .ok (.ifnonnull o, 3))  (k : Wq p e below En Q (T.setTop (mkF m pc' ls st))) (hpc : pc + 3 = pc' := by rfl) : Wq p e below En Q (T.setTop (mkF m pc ls (.null :: st))) := by subst hpc; exact Wq.step (fun _ q => XS.ifnonnullNo X.here hx rfl hd rfl q) k
theorem W.acmp (X : Stand p l e R s m args below meth c T locs cells slots) (hx : p.tables.exec = Jvm.exec) {pc : Nat} {ls : Array Slot} {st : List Value} {cd : ACond} {x y : Value} {o : Int} {pc' : Nat} {same : Bool} (hd : decode c.code pc = .ok (.if_acmp cd o, 3)) (h1 : x.isRef = true) (h2 : y.isRef = true) (hq : decide (x = y) = same) (ho : 0 ≤ (pc : Int) + o) (hp : pc' = if acV cd same = true then ((pc : Int) + o).toNat else pc + 3) (k : Wq p e below En Q (T.setTop (mkF m pc' ls st))) : Wq p e below En Q (T.setTop (mkF m pc ls (y :: x :: st))) := Wq.step (fun _ q => Jvm.RoadKit.acmp (g := mkF m pc ls (y :: x :: st)) X hx rfl h1 h2 rfl hd rfl hq ho hp q) k
theorem W.ldcInt (X : Stand p l e R s m args below meth c T locs cells slots) (hx : p.tables.exec = Jvm.exec) (hZ : Z.Warmed39 s.vm) {a0 : Array Value} {own : String} {index : Nat} {v : Int32} {pc pc' : Nat} {ls : Array Slot} {st : List Value} (hown : s.vm.findClass own = some m.cls) (w : (Cond.constant own index v).before a0 Z = true) (hd : decode c.code pc = .ok (.ldc index, 2)) (k : Wq p e below En Q (T.setTop (mkF m pc' ls (.int v :: st)))) (hpc : pc + 2 = pc' := by rfl) : Wq p e below En Q (T.setTop (mkF m pc ls st)) := by subst hpc; exact Wq.step (fun _ q => X.ldcInt hx hown (mvT hZ w) (g := mkF m pc ls st) rfl hd _ q) k
theorem W.ldcwInt (X : Stand p l e R s m args below meth c T locs cells slots) (hx : p.tables.exec = Jvm.exec) (hZ : Z.Warmed39 s.vm) {a0 : Array Value} {own : String} {index : Nat} {v : Int32} {pc pc' : Nat} {ls : Array Slot} {st : List Value} (hown : s.vm.findClass own = some m.cls) (w : (Cond.constant own index v).before a0 Z = true) (hd : decode c.code pc = .ok (.ldc_w index, 3)) (k : Wq p e below En Q (T.setTop (mkF m pc' ls (.int v :: st)))) (hpc : pc + 3 = pc' := by rfl) : Wq p e below En Q (T.setTop (mkF m pc ls st)) := by subst hpc; exact Wq.step (fun _ q => X.ldcwInt hx hown (mvT hZ w) (g := mkF m pc ls st) rfl hd _ q) k
theorem W.ldc2Long (X : Stand p l e R s m args below meth c T locs cells slots) (hx : p.tables.exec = Jvm.exec) (hZ : Z.Warmed39 s.vm) {a0 : Array Value} {own : String} {index : Nat} {v : Int64} {pc pc' : Nat} {ls : Array Slot} {st : List Value} (hown : s.vm.findClass own = some m.cls) (w : (Cond.constantLong own index v).before a0 Z = true) (hd : decode c.code pc = .ok (.ldc2_w index, 3)) (k : Wq p e below En Q (T.setTop (mkF m pc' ls (.long v :: st)))) (hpc : pc + 3 = pc' := by rfl) : Wq p e below En Q (T.setTop (mkF m pc ls st)) := by subst hpc; exact Wq.step (fun _ q => X.ldc2Long hx hown (mvT hZ w) (g := mkF m pc ls st) rfl hd _ q) k
theorem W.ldI (X : Stand p l e R s m args below meth c T locs cells slots) (hx : p.tables.exec = Jvm.exec) (hZ : Z.Warmed39 s.vm) (eT : T.heap = h) (V : Al Z h a .int vs) {pc pc' : Nat} {ls : Array Slot} {st : List Value} {j : Int32} {i : Nat} (hd : decode c.code pc = .ok (.iaload, 1)) (hj : ¬ j < 0) (hi : j.toNatClampNeg = i) (hv : vs[i]? = some v) (k : Wq p e below En Q (T.setTop (mkF m pc' ls (v :: st)))) (hpc : pc + 1 = pc' := by rfl) : Wq p e below En Q (T.setTop (mkF m pc ls (.int j :: .ref a :: st))) := by subst hpc; exact Wq.step (fun _ q => Jvm.OwnW.ldI X hx hZ eT V hj hi hv (g := mkF m pc ls (.int j :: .ref a :: st)) rfl rfl hd q) k
theorem W.ldJ (X : Stand p l e R s m args below meth c T locs cells slots) (hx : p.tables.exec = Jvm.exec) (hZ : Z.Warmed39 s.vm) (eT : T.heap = h) (V : Al Z h a .long vs) {pc pc' : Nat} {ls : Array Slot} {st : List Value} {j : Int32} {i : Nat} (hd : decode c.code pc = .ok (.laload, 1)) (hj : ¬ j < 0) (hi : j.toNatClampNeg = i) (hv : vs[i]? = some v) (k : Wq p e below En Q (T.setTop (mkF m pc' ls (v :: st)))) (hpc : pc + 1 = pc' := by rfl) : Wq p e below En Q (T.setTop (mkF m pc ls (.int j :: .ref a :: st))) := by subst hpc; exact Wq.step (fun _ q => Jvm.OwnW.ldJ X hx hZ eT V hj hi hv (g := mkF m pc ls (.int j :: .ref a :: st)) rfl rfl hd q) k
theorem W.ldC (X : Stand p l e R s m args below meth c T locs cells slots) (hx : p.tables.exec = Jvm.exec) (hZ : Z.Warmed39 s.vm) (eT : T.heap = h) (V : Al Z h a .char vs) {pc pc' : Nat} {ls : Array Slot} {st : List Value} {j : Int32} {i : Nat} (hd : decode c.code pc = .ok (.caload, 1)) (hj : ¬ j < 0) (hi : j.toNatClampNeg = i) (hv : vs[i]? = some v) (k : Wq p e below En Q (T.setTop (mkF m pc' ls (v :: st)))) (hpc : pc + 1 = pc' := by rfl) : Wq p e below En Q (T.setTop (mkF m pc ls (.int j :: .ref a :: st))) := by subst hpc; exact Wq.step (fun _ q => Jvm.OwnW.ldC X hx hZ eT V hj hi hv (g := mkF m pc ls (.int j :: .ref a :: st)) rfl rfl hd q) k
theorem W.ldB (X : Stand p l e R s m args below meth c T locs cells slots) (hx : p.tables.exec = Jvm.exec) (hZ : Z.Warmed39 s.vm) (eT : T.heap = h) (V : Al Z h a .byte vs) {pc pc' : Nat} {ls : Array Slot} {st : List Value} {j : Int32} {i : Nat} (hd : decode c.code pc = .ok (.baload, 1)) (hj : ¬ j < 0) (hi : j.toNatClampNeg = i) (hv : vs[i]? = some v) (k : Wq p e below En Q (T.setTop (mkF m pc' ls (v :: st)))) (hpc : pc + 1 = pc' := by rfl) : Wq p e below En Q (T.setTop (mkF m pc ls (.int j :: .ref a :: st))) := by subst hpc; exact Wq.step (fun _ q => Jvm.OwnW.ldB X hx hZ eT V hj hi hv (g := mkF m pc ls (.int j :: .ref a :: st)) rfl rfl hd q) k
theorem W.ldZ (X : Stand p l e R s m args below meth c T locs cells slots) (hx : p.tables.exec = Jvm.exec) (hZ : Z.Warmed39 s.vm) (eT : T.heap = h) (V : Al Z h a .boolean vs) {pc pc' : Nat} {ls : Array Slot} {st : List Value} {j : Int32} {i : Nat} (hd : decode c.code pc = .ok (.baload, 1)) (hj : ¬ j < 0) (hi : j.toNatClampNeg = i) (hv : vs[i]? = some v) (k : Wq p e below En Q (T.setTop (mkF m pc' ls (v :: st)))) (hpc : pc + 1 = pc' := by rfl) : Wq p e below En Q (T.setTop (mkF m pc ls (.int j :: .ref a :: st))) := by subst hpc; exact Wq.step (fun _ q => Jvm.OwnW.ldZ X hx hZ eT V hj hi hv (g := mkF m pc ls (.int j :: .ref a :: st)) rfl rfl hd q) k
theorem W.ldR (X : Stand p l e R s m args below meth c T locs cells slots) (hx : p.tables.exec = Jvm.exec) (hZ : Z.Warmed39 s.vm) (eT : T.heap = h) (V : Al Z h a ty vs) (hty : ty.isReference = true) {pc pc' : Nat} {ls : Array Slot} {st : List Value} {j : Int32} {i : Nat} (hd : decode c.code pc = .ok (.aaload, 1)) (hj : ¬ j < 0) (hi : j.toNatClampNeg = i) (hv : vs[i]? = some v) (k : Wq p e below En Q (T.setTop (mkF m pc' ls (v :: st)))) (hpc : pc + 1 = pc' := by rfl) : Wq p e below En Q (T.setTop (mkF m pc ls (.int j :: .ref a :: st))) := by
  subst hpc
  obtain ⟨cl, A, r⟩ := V
  exact Wq.step (fun _ q => X.aaload hx (by rw [eT]; exact A.1) (State.isArrayOf_alike hZ.alike A.2.1) hty A.2.2 (al_in r hj hi (al_lt hv)) (al_at r hi hv) (g := mkF m pc ls (.int j :: .ref a :: st)) rfl rfl hd _ q) k
theorem W.lenA (X : Stand p l e R s m args below meth c T locs cells slots) (hx : p.tables.exec = Jvm.exec) (hZ : Z.Warmed39 s.vm) (eT : T.heap = h) (V : Al Z h a ty vs) {pc pc' : Nat} {ls : Array Slot} {st : List Value} {n : Int32} (hd : decode c.code pc = .ok (.arraylength, 1)) (hn : vs.length.toInt32 = n) (k : Wq p e below En Q (T.setTop (mkF m pc' ls (.int n :: st)))) (hpc : pc + 1 = pc' := by rfl) : Wq p e below En Q (T.setTop (mkF m pc ls (.ref a :: st))) := by subst hpc; exact Wq.step (fun _ q => Jvm.OwnW.lenA X hx hZ eT V hn (g := mkF m pc ls (.ref a :: st)) rfl rfl hd q) k
end Base
end Jvm.OwnW
namespace Jvm.Pilot.@@N@@
open Jvm Jvm.ClassFile Sem Op Lib Jvm.Free Jvm.Stand Jvm.LawKit Jvm.RoadKit Jvm.OwnW Bundle Jvm.Pilot.@@N@@.Jvm.D
theorem kw9 {Z : State} {a0 : Array Value} (hw : ∀ d ∈ tables_1, d.before a0 Z = true) : (Jvm.Cond.constantLong "com/example/gangorra/gangorra/Millis" (39 : Nat) (9223372036854775807 : Int64)).before a0 Z = true := hw _ (List.mem_of_getElem? (i := 9) rfl)
theorem d_prog_37_method_4_0 : decode prog_37_method_4_code 0 = .ok (.lload_n 0, 1) := by decide +kernel
theorem d_prog_37_method_4_1 : decode prog_37_method_4_code 1 = .ok (.lload_n 2, 1) := by decide +kernel
theorem d_prog_37_method_4_2 : decode prog_37_method_4_code 2 = .ok (.ladd, 1) := by decide +kernel
theorem d_prog_37_method_4_3 : decode prog_37_method_4_code 3 = .ok (.lstore 4, 2) := by decide +kernel
theorem d_prog_37_method_4_5 : decode prog_37_method_4_code 5 = .ok (.lload 4, 2) := by decide +kernel
theorem d_prog_37_method_4_7 : decode prog_37_method_4_code 7 = .ok (.lload_n 0, 1) := by decide +kernel
theorem d_prog_37_method_4_8 : decode prog_37_method_4_code 8 = .ok (.lcmp, 1) := by decide +kernel
theorem d_prog_37_method_4_9 : decode prog_37_method_4_code 9 = .ok (.ifCond .ge 9, 3) := by decide +kernel
theorem d_prog_37_method_4_12 : decode prog_37_method_4_code 12 = .ok (.ldc2_w 39, 3) := by decide +kernel
theorem d_prog_37_method_4_15 : decode prog_37_method_4_code 15 = .ok (.goto 5, 3) := by decide +kernel
theorem d_prog_37_method_4_18 : decode prog_37_method_4_code 18 = .ok (.lload 4, 2) := by decide +kernel
theorem pn1 : plainName "com/example/gangorra/gangorra/Millis" = true := by first | (simp [plainName, overriddenIn]; done) | decide +kernel
theorem ef_plus (m : MethodId) (yplus_1 : Int64) (yplus_2 : Int64) : entryFrame m #[(.long yplus_1), (.long yplus_2)] 6 = mkF m 0 #[.val (.long yplus_1), .second, .val (.long yplus_2), .second, .unset, .unset] [] := by first | (simp [entryFrame, mkF, argsToLocals, Value.category]; done) | rfl
def f_plus (yplus_1 : Int64) (yplus_2 : Int64) : Int64 := (if (yplus_1 + yplus_2) < yplus_1 then (9223372036854775807 : Int64) else (yplus_1 + yplus_2))
def Q_plus (Z : State) (yplus_1 : Int64) (yplus_2 : Int64) (h0 : Heap) (n0 : Nat) (v : Option Value) (h : Heap) (L : List Loc) : Prop := v = some (.long (f_plus yplus_1 yplus_2)) ∧ Fr n0 L ∧ h = h0
theorem d_prog_37_method_4_20 : decode prog_37_method_4_code 20 = .ok (.lreturn, 1) := by decide +kernel
abbrev mt1 : MethodName := ⟨"com/example/gangorra/gangorra/Millis", "plus", "(JJ)J"⟩
set_option maxRecDepth 65536 in
set_option maxHeartbeats 40000000 in
theorem rm_plus (l : Launch) (Z : State) (a0 : Array Value) (hw : ∀ d ∈ tables_1, d.before a0 Z = true) (ws : List Jvm.Cond) (yplus_1 : Int64) (yplus_2 : Int64) (h0 : Heap) (n0 : Nat) (Z0 : n0 ≤ h0.size)  :
    MetFree l mt1 (head1 (Jvm.Cond.code mt1 prog_37_method_4_code 6 (some .long) :: ws) ({ frames := 0, cells := 0, slots := 0, locals := 0 } : Room)) (fun a U => a = #[(.long yplus_1), (.long yplus_2)] ∧ Z.Warmed39 U.vm ∧ U.heap = h0) (fun _ _ _ _ _ => True) (fun _ U o U' => ∃ v L, o = .returned v ∧ (Q_plus Z yplus_1 yplus_2 h0 n0) v U'.heap L ∧ FrameEnd U o U' L ({ frames := 0, cells := 0, slots := 0, locals := 0 } : Room).cells ({ frames := 0, cells := 0, slots := 0, locals := 0 } : Room).slots) := by
  refine MetFree.of_bodySF (plainFor_of_name pn1) hisR ?_
  intro p e s m args below meth c s₁ Bd hml0 hP hK
  obtain ⟨rfl, hZ, hh⟩ := hP
  have hx := Bd.exec
  have hby := Bd.bytes
  have hml : c.maxLocals = 6 := hml0
  have hown : s.vm.findClass "com/example/gangorra/gangorra/Millis" = some m.cls := findClass_of_methodNamed Bd.named
  have hnm := (name_of_methodNamed Bd.named Bd.method).1
  have X0 : Stand p l e ({ frames := 0, cells := 0, slots := 0, locals := 0 } : Room) s m #[(.long yplus_1), (.long yplus_2)] below meth c s₁ [] 0 0 := Stand.of_body Bd
  have e0 : s₁.heap = h0 := by rw [← hh, Bd.state]; rfl
  have N0 := Fr.nil n0
  refine Wq.step (p := p) (e := e) (below := below) (En := (fun o t L => FrameEnd s o t L ({ frames := 0, cells := 0, slots := 0, locals := 0 } : Room).cells ({ frames := 0, cells := 0, slots := 0, locals := 0 } : Room).slots)) (Q := (Q_plus Z yplus_1 yplus_2 h0 n0)) (fun t k => castTop (ef_plus m yplus_1 yplus_2) k) ?_
  show Wq _ _ _ _ _ (s₁.setTop (mkF m 0 #[.val (.long yplus_1), .second, .val (.long yplus_2), .second, .unset, .unset] []))
  refine W.lloadN X0 hx (pc' := 1) (hb hby d_prog_37_method_4_0) rfl ?_
  refine W.lloadN X0 hx (pc' := 2) (hb hby d_prog_37_method_4_1) rfl ?_
  refine W.ladd X0 hx (pc' := 3) (hb hby d_prog_37_method_4_2) (z := (yplus_1 + yplus_2)) rfl ?_
  refine W.lstore X0 hx (pc' := 5) (hb hby d_prog_37_method_4_3) (l' := #[.val (.long yplus_1), .second, .val (.long yplus_2), .second, .val (.long (yplus_1 + yplus_2)), .second]) rfl ?_
  refine W.lload X0 hx (pc' := 7) (hb hby d_prog_37_method_4_5) rfl ?_
  refine W.lloadN X0 hx (pc' := 8) (hb hby d_prog_37_method_4_7) rfl ?_
  refine W.lcmp X0 hx (pc' := 9) (hb hby d_prog_37_method_4_8)  ?_
  refine Wq.by (U' := s₁.setTop (mkF m 20 #[.val (.long yplus_1), .second, .val (.long yplus_2), .second, .val (.long (yplus_1 + yplus_2)), .second] [(.long (if (yplus_1 + yplus_2) < yplus_1 then (9223372036854775807 : Int64) else (yplus_1 + yplus_2)))])) (fun k => ?_) ?_
  · skip
    by_cases hm9 : (yplus_1 + yplus_2) < yplus_1
    · skip
      refine W.ifNo X0 hx (pc' := 12) (hb hby d_prog_37_method_4_9) ((if0 _ _).trans (tlt ((lw_lt _ _).mpr hm9)).2.1) ?_
      refine W.ldc2Long X0 hx hZ (pc' := 15) hown (kw9 hw) (hb hby d_prog_37_method_4_12) ?_
      refine W.goto X0 hx (pc' := 20) (hb hby d_prog_37_method_4_15) (by decide) (by decide) ?_
      simp only [if_pos hm9] at k
      exact k
    · skip
      refine W.ifYes X0 hx (pc' := 18) (hb hby d_prog_37_method_4_9) ((if0 _ _).trans (flt (mt (lw_lt _ _).mp hm9)).2.1) (by decide) (by decide) ?_
      refine W.lload X0 hx (pc' := 20) (hb hby d_prog_37_method_4_18) rfl ?_
      simp only [if_neg hm9] at k
      exact k
  exact Wq.ret X0 (BodyLoose.notSynchronized Bd) (rv := some (.long (if (yplus_1 + yplus_2) < yplus_1 then (9223372036854775807 : Int64) else (yplus_1 + yplus_2)))) (fun h => by rw [Bd.returns] at h; cases h) (fun _ hr => retOut X0 hx Bd.returns rfl (Or.inr (Or.inl ⟨rfl, rfl, _, rfl⟩)) (hb hby d_prog_37_method_4_20) hr) (by decide) (by decide) ⟨rfl, N0, e0⟩
theorem kw0 {Z : State} {a0 : Array Value} (hw : ∀ d ∈ tables_1, d.before a0 Z = true) : (Jvm.Cond.constantLong "com/example/gangorra/gangorra/MillisPlusPinLaw" (9 : Nat) (9223372036854775807 : Int64)).before a0 Z = true := hw _ (List.mem_of_getElem? (i := 0) rfl)
theorem d_method_2_0 : decode method_2_code 0 = .ok (.lload_n 0, 1) := by decide +kernel
theorem d_method_2_1 : decode method_2_code 1 = .ok (.ldc2_w 9, 3) := by decide +kernel
theorem d_method_2_4 : decode method_2_code 4 = .ok (.lload_n 2, 1) := by decide +kernel
theorem d_method_2_5 : decode method_2_code 5 = .ok (.lsub, 1) := by decide +kernel
theorem d_method_2_6 : decode method_2_code 6 = .ok (.lcmp, 1) := by decide +kernel
theorem d_method_2_7 : decode method_2_code 7 = .ok (.ifCond .le 7, 3) := by decide +kernel
theorem d_method_2_10 : decode method_2_code 10 = .ok (.ldc2_w 9, 3) := by decide +kernel
theorem d_method_2_14 : decode method_2_code 14 = .ok (.lload_n 0, 1) := by decide +kernel
theorem d_method_2_15 : decode method_2_code 15 = .ok (.lload_n 2, 1) := by decide +kernel
theorem d_method_2_16 : decode method_2_code 16 = .ok (.ladd, 1) := by decide +kernel
theorem pn2 : plainName "com/example/gangorra/gangorra/MillisPlusPinLaw" = true := by first | (simp [plainName, overriddenIn]; done) | decide +kernel
theorem ef_ref (m : MethodId) (yref_1 : Int64) (yref_2 : Int64) : entryFrame m #[(.long yref_1), (.long yref_2)] 4 = mkF m 0 #[.val (.long yref_1), .second, .val (.long yref_2), .second] [] := by first | (simp [entryFrame, mkF, argsToLocals, Value.category]; done) | rfl
def f_ref (yref_1 : Int64) (yref_2 : Int64) : Int64 := (if ((9223372036854775807 : Int64) - yref_2) < yref_1 then (9223372036854775807 : Int64) else (yref_1 + yref_2))
def Q_ref (Z : State) (yref_1 : Int64) (yref_2 : Int64) (h0 : Heap) (n0 : Nat) (v : Option Value) (h : Heap) (L : List Loc) : Prop := v = some (.long (f_ref yref_1 yref_2)) ∧ Fr n0 L ∧ h = h0
theorem d_method_2_13 : decode method_2_code 13 = .ok (.lreturn, 1) := by decide +kernel
theorem d_method_2_17 : decode method_2_code 17 = .ok (.lreturn, 1) := by decide +kernel
abbrev mt2 : MethodName := ⟨"com/example/gangorra/gangorra/MillisPlusPinLaw", "reference", "(JJ)J"⟩
set_option maxRecDepth 65536 in
set_option maxHeartbeats 40000000 in
theorem rm_ref (l : Launch) (Z : State) (a0 : Array Value) (hw : ∀ d ∈ tables_1, d.before a0 Z = true) (ws : List Jvm.Cond) (yref_1 : Int64) (yref_2 : Int64) (h0 : Heap) (n0 : Nat) (Z0 : n0 ≤ h0.size)  :
    MetFree l mt2 (head1 (Jvm.Cond.code mt2 method_2_code 4 (some .long) :: ws) ({ frames := 0, cells := 0, slots := 0, locals := 0 } : Room)) (fun a U => a = #[(.long yref_1), (.long yref_2)] ∧ Z.Warmed39 U.vm ∧ U.heap = h0) (fun _ _ _ _ _ => True) (fun _ U o U' => ∃ v L, o = .returned v ∧ (Q_ref Z yref_1 yref_2 h0 n0) v U'.heap L ∧ FrameEnd U o U' L ({ frames := 0, cells := 0, slots := 0, locals := 0 } : Room).cells ({ frames := 0, cells := 0, slots := 0, locals := 0 } : Room).slots) := by
  refine MetFree.of_bodySF (plainFor_of_name pn2) hisR ?_
  intro p e s m args below meth c s₁ Bd hml0 hP hK
  obtain ⟨rfl, hZ, hh⟩ := hP
  have hx := Bd.exec
  have hby := Bd.bytes
  have hml : c.maxLocals = 4 := hml0
  have hown : s.vm.findClass "com/example/gangorra/gangorra/MillisPlusPinLaw" = some m.cls := findClass_of_methodNamed Bd.named
  have hnm := (name_of_methodNamed Bd.named Bd.method).1
  have X0 : Stand p l e ({ frames := 0, cells := 0, slots := 0, locals := 0 } : Room) s m #[(.long yref_1), (.long yref_2)] below meth c s₁ [] 0 0 := Stand.of_body Bd
  have e0 : s₁.heap = h0 := by rw [← hh, Bd.state]; rfl
  have N0 := Fr.nil n0
  refine Wq.step (p := p) (e := e) (below := below) (En := (fun o t L => FrameEnd s o t L ({ frames := 0, cells := 0, slots := 0, locals := 0 } : Room).cells ({ frames := 0, cells := 0, slots := 0, locals := 0 } : Room).slots)) (Q := (Q_ref Z yref_1 yref_2 h0 n0)) (fun t k => castTop (ef_ref m yref_1 yref_2) k) ?_
  show Wq _ _ _ _ _ (s₁.setTop (mkF m 0 #[.val (.long yref_1), .second, .val (.long yref_2), .second] []))
  refine W.lloadN X0 hx (pc' := 1) (hb hby d_method_2_0) rfl ?_
  refine W.ldc2Long X0 hx hZ (pc' := 4) hown (kw0 hw) (hb hby d_method_2_1) ?_
  refine W.lloadN X0 hx (pc' := 5) (hb hby d_method_2_4) rfl ?_
  refine W.lsub X0 hx (pc' := 6) (hb hby d_method_2_5) (z := ((9223372036854775807 : Int64) - yref_2)) rfl ?_
  refine W.lcmp X0 hx (pc' := 7) (hb hby d_method_2_6)  ?_
  by_cases hc7 : ((9223372036854775807 : Int64) - yref_2) < yref_1
  · skip
    refine W.ifNo X0 hx (pc' := 10) (hb hby d_method_2_7) ((if0 _ _).trans (tlt ((lw_gt _ _).mpr hc7)).2.2.2) ?_
    refine W.ldc2Long X0 hx hZ (pc' := 13) hown (kw0 hw) (hb hby d_method_2_10) ?_
    exact Wq.ret X0 (BodyLoose.notSynchronized Bd) (rv := some (.long (9223372036854775807 : Int64))) (fun h => by rw [Bd.returns] at h; cases h) (fun _ hr => retOut X0 hx Bd.returns rfl (Or.inr (Or.inl ⟨rfl, rfl, _, rfl⟩)) (hb hby d_method_2_13) hr) (by decide) (by decide) ⟨by simp only [f_ref, if_pos hc7], N0, e0⟩
  · skip
    refine W.ifYes X0 hx (pc' := 14) (hb hby d_method_2_7) ((if0 _ _).trans (flt (mt (lw_gt _ _).mp hc7)).2.2.2) (by decide) (by decide) ?_
    refine W.lloadN X0 hx (pc' := 15) (hb hby d_method_2_14) rfl ?_
    refine W.lloadN X0 hx (pc' := 16) (hb hby d_method_2_15) rfl ?_
    refine W.ladd X0 hx (pc' := 17) (hb hby d_method_2_16) (z := (yref_1 + yref_2)) rfl ?_
    exact Wq.ret X0 (BodyLoose.notSynchronized Bd) (rv := some (.long (yref_1 + yref_2))) (fun h => by rw [Bd.returns] at h; cases h) (fun _ hr => retOut X0 hx Bd.returns rfl (Or.inr (Or.inl ⟨rfl, rfl, _, rfl⟩)) (hb hby d_method_2_17) hr) (by decide) (by decide) ⟨by simp only [f_ref, if_neg hc7], N0, e0⟩
theorem own_math (a b : Int64) : f_plus a (b &&& (9223372036854775807 : Int64)) = f_ref a (b &&& (9223372036854775807 : Int64)) := by
  have h1 := c_maskL b (9223372036854775807 : Int64) 63 (by decide) (by decide)
  generalize (b &&& (9223372036854775807 : Int64)) = t at *
  have h2 := c_ladd a t
  have h3 := c_lsub (9223372036854775807 : Int64) t
  have r1 := rng64 a
  have r2 := rng64 t
  have r3 := rng64 (a + t)
  have r4 := rng64 ((9223372036854775807 : Int64) - t)
  have e1 : (9223372036854775807 : Int64).toInt = 9223372036854775807 := by decide
  have ht : 0 ≤ t.toInt := by omega
  unfold f_plus f_ref
  by_cases q : (a + t) < a <;> by_cases q2 : ((9223372036854775807 : Int64) - t) < a
  · rw [if_pos q, if_pos q2]
  · exfalso; rw [Int64.lt_iff_toInt_lt] at q q2; omega
  · exfalso; rw [Int64.lt_iff_toInt_lt] at q q2; omega
  · rw [if_neg q, if_neg q2]
theorem kw4 {Z : State} {a0 : Array Value} (hw : ∀ d ∈ tables_1, d.before a0 Z = true) : (Jvm.Cond.code ({ cls := "com/example/gangorra/gangorra/Millis", name := "plus", desc := "(JJ)J" } : Jvm.MethodName) prog_37_method_4_code (6 : Nat) (Option.some Jvm.ClassFile.FieldType.long)).before a0 Z = true := hw _ (List.mem_of_getElem? (i := 4) rfl)
theorem kw3 {Z : State} {a0 : Array Value} (hw : ∀ d ∈ tables_1, d.before a0 Z = true) : (Jvm.Cond.initialized "com/example/gangorra/gangorra/Millis").before a0 Z = true := hw _ (List.mem_of_getElem? (i := 3) rfl)
theorem pd1 : parseMethodDescriptor "(JJ)J" = some ⟨[.long, .long], some .long⟩ := by decide +kernel
theorem kw1 {Z : State} {a0 : Array Value} (hw : ∀ d ∈ tables_1, d.before a0 Z = true) : (Jvm.Cond.methodLink "com/example/gangorra/gangorra/MillisPlusPinLaw" (11 : Nat) ({ cls := "com/example/gangorra/gangorra/Millis", name := "plus", desc := "(JJ)J" } : Jvm.MethodName)).before a0 Z = true := hw _ (List.mem_of_getElem? (i := 1) rfl)
theorem kw2 {Z : State} {a0 : Array Value} (hw : ∀ d ∈ tables_1, d.before a0 Z = true) : (Jvm.Cond.static ({ cls := "com/example/gangorra/gangorra/Millis", name := "plus", desc := "(JJ)J" } : Jvm.MethodName)).before a0 Z = true := hw _ (List.mem_of_getElem? (i := 2) rfl)
theorem kw8 {Z : State} {a0 : Array Value} (hw : ∀ d ∈ tables_1, d.before a0 Z = true) : (Jvm.Cond.code ({ cls := "com/example/gangorra/gangorra/MillisPlusPinLaw", name := "reference", desc := "(JJ)J" } : Jvm.MethodName) method_2_code (4 : Nat) (Option.some Jvm.ClassFile.FieldType.long)).before a0 Z = true := hw _ (List.mem_of_getElem? (i := 8) rfl)
theorem kw7 {Z : State} {a0 : Array Value} (hw : ∀ d ∈ tables_1, d.before a0 Z = true) : (Jvm.Cond.initialized "com/example/gangorra/gangorra/MillisPlusPinLaw").before a0 Z = true := hw _ (List.mem_of_getElem? (i := 7) rfl)
theorem kw5 {Z : State} {a0 : Array Value} (hw : ∀ d ∈ tables_1, d.before a0 Z = true) : (Jvm.Cond.methodLink "com/example/gangorra/gangorra/MillisPlusPinLaw" (17 : Nat) ({ cls := "com/example/gangorra/gangorra/MillisPlusPinLaw", name := "reference", desc := "(JJ)J" } : Jvm.MethodName)).before a0 Z = true := hw _ (List.mem_of_getElem? (i := 5) rfl)
theorem kw6 {Z : State} {a0 : Array Value} (hw : ∀ d ∈ tables_1, d.before a0 Z = true) : (Jvm.Cond.static ({ cls := "com/example/gangorra/gangorra/MillisPlusPinLaw", name := "reference", desc := "(JJ)J" } : Jvm.MethodName)).before a0 Z = true := hw _ (List.mem_of_getElem? (i := 6) rfl)
theorem ef_law (m : MethodId) (ylaw_1 : Int64) (ylaw_2 : Int64) : entryFrame m #[(.long ylaw_1), (.long ylaw_2)] maxLocals = mkF m 0 #[.val (.long ylaw_1), .second, .val (.long ylaw_2), .second, .unset, .unset, .unset, .unset] [] := by first | (simp [entryFrame, mkF, argsToLocals, Value.category, maxLocals]; done) | rfl
def Q_law (n0 : Nat) (v : Option Value) (h : Heap) (L : List Loc) : Prop := v = some (.int 1) ∧ Fr n0 L
set_option maxRecDepth 65536 in
set_option maxHeartbeats 40000000 in
theorem rm_law (l : Launch) (Z : State) (a0 : Array Value) (hw : ∀ d ∈ tables_1, d.before a0 Z = true) (ws : List Jvm.Cond) (ylaw_1 : Int64) (ylaw_2 : Int64) (h0 : Heap) (n0 : Nat) (Z0 : n0 ≤ h0.size)  :
    MetFree l x (head1 (Jvm.Cond.code x code maxLocals ret :: ws) room_1) (fun a U => a = #[(.long ylaw_1), (.long ylaw_2)] ∧ Z.Warmed39 U.vm ∧ U.heap = h0) (fun _ _ _ _ _ => True) (fun _ U o U' => ∃ v L, o = .returned v ∧ (Q_law n0) v U'.heap L ∧ FrameEnd U o U' L 0 0) := by
  refine MetFree.of_bodySF (plainFor_of_name pn2) hisR ?_
  intro p e s m args below meth c s₁ Bd hml0 hP hK
  obtain ⟨rfl, hZ, hh⟩ := hP
  have hx := Bd.exec
  have hby := Bd.bytes
  have hml : c.maxLocals = 8 := hml0
  have hown : s.vm.findClass "com/example/gangorra/gangorra/MillisPlusPinLaw" = some m.cls := findClass_of_methodNamed Bd.named
  have hnm := (name_of_methodNamed Bd.named Bd.method).1
  have X0 : Stand p l e room_1 s m #[(.long ylaw_1), (.long ylaw_2)] below meth c s₁ [] 0 0 := Stand.of_body Bd
  have e0 : s₁.heap = h0 := by rw [← hh, Bd.state]; rfl
  have N0 := Fr.nil n0
  refine Wq.step (p := p) (e := e) (below := below) (En := (fun o t L => FrameEnd s o t L 0 0)) (Q := (Q_law n0)) (fun t k => castTop (ef_law m ylaw_1 ylaw_2) k) ?_
  show Wq _ _ _ _ _ (s₁.setTop (mkF m 0 #[.val (.long ylaw_1), .second, .val (.long ylaw_2), .second, .unset, .unset, .unset, .unset] []))
  refine W.lloadN X0 hx (pc' := 1) (hb hby at_0) rfl ?_
  refine W.ldc2Long X0 hx hZ (pc' := 4) hown (kw0 hw) (hb hby at_1) ?_
  refine W.land X0 hx (pc' := 5) (hb hby at_4) (z := (ylaw_2 &&& (9223372036854775807 : Int64))) rfl ?_
  refine W.lstore X0 hx (pc' := 7) (hb hby at_5) (l' := #[.val (.long ylaw_1), .second, .val (.long ylaw_2), .second, .val (.long (ylaw_2 &&& (9223372036854775807 : Int64))), .second, .unset, .unset]) rfl ?_
  generalize hv5 : (ylaw_2 &&& (9223372036854775807 : Int64)) = v5
  refine W.lloadN X0 hx (pc' := 8) (hb hby at_7) rfl ?_
  refine W.lload X0 hx (pc' := 10) (hb hby at_8) rfl ?_
  obtain ⟨_, _, ⟨T1, L1, k1, n1⟩, -, X1, ⟨Lc1, hQ1, l1, y1, z1⟩, st1⟩ := Jvm.LawKit.callS X0 hx (y := mt1) hown (mvT hZ (kw1 hw)) (mvT hZ (kw2 hw)) (mvT hZ (kw3 hw)) (mvT hZ (kw4 hw)) (by decide) (backOf (W := 0) (rm_plus l Z a0 hw [] ylaw_1 v5 h0 n0 Z0 ) hZ (kw4 hw) (kw3 hw) (by decide) (by decide)) (g := (mkF m 10 #[.val (.long ylaw_1), .second, .val (.long ylaw_2), .second, .val (.long v5), .second, .unset, .unset] [(.long v5), (.long ylaw_1)])) rfl (by rw [hml]; rfl) (argsL := [(.long ylaw_1), (.long v5)]) (rest := []) (lenOf pd1 rfl) rfl (by show 2 * 0 + _ ≤ _; exact Nat.le_of_eq rfl) (hb hby at_10) (fun _ _ => ⟨rfl, e0, (by decide : 0 + 0 ≤ _), (by decide : 0 + 0 ≤ _)⟩)
  dsimp only [Pt.U, Pt.locs, Pt.cells, Pt.slots] at X1 l1 y1 z1 st1 hQ1
  subst l1 y1 z1
  obtain ⟨rfl, Nq1, e1⟩ := hQ1
  have N1 := Fr.app N0 Nq1
  refine Wq.step st1 ?_
  show Wq _ _ _ _ _ (T1.setTop (mkF m 13 #[.val (.long ylaw_1), .second, .val (.long ylaw_2), .second, .val (.long v5), .second, .unset, .unset] [(.long (f_plus ylaw_1 v5))]))
  generalize hv10 : (f_plus ylaw_1 v5) = v10
  show Wq _ _ _ _ _ (T1.setTop (mkF m 13 #[.val (.long ylaw_1), .second, .val (.long ylaw_2), .second, .val (.long v5), .second, .unset, .unset] [(.long v10)]))
  refine W.lstore X1 hx (pc' := 15) (hb hby at_13) (l' := #[.val (.long ylaw_1), .second, .val (.long ylaw_2), .second, .val (.long v5), .second, .val (.long v10), .second]) rfl ?_
  refine W.lload X1 hx (pc' := 17) (hb hby at_15) rfl ?_
  refine W.lloadN X1 hx (pc' := 18) (hb hby at_17) rfl ?_
  refine W.lload X1 hx (pc' := 20) (hb hby at_18) rfl ?_
  obtain ⟨_, _, ⟨T2, L2, k2, n2⟩, -, X2, ⟨Lc2, hQ2, l2, y2, z2⟩, st2⟩ := Jvm.LawKit.callS X1 hx (y := mt2) hown (mvT hZ (kw5 hw)) (mvT hZ (kw6 hw)) (mvT hZ (kw7 hw)) (mvT hZ (kw8 hw)) (by decide) (backOf (W := 2) (rm_ref l Z a0 hw [] ylaw_1 v5 h0 n0 Z0 ) hZ (kw8 hw) (kw7 hw) (by decide) (by decide)) (g := (mkF m 20 #[.val (.long ylaw_1), .second, .val (.long ylaw_2), .second, .val (.long v5), .second, .val (.long v10), .second] [(.long v5), (.long ylaw_1), (.long v10)])) rfl (by rw [hml]; rfl) (argsL := [(.long ylaw_1), (.long v5)]) (rest := [(.long v10)]) (lenOf pd1 rfl) rfl (by show 2 * 0 + _ ≤ _; exact Nat.le_of_eq rfl) (hb hby at_20) (fun _ _ => ⟨rfl, e1, (by decide : 0 + 0 ≤ _), (by decide : 0 + 0 ≤ _)⟩)
  dsimp only [Pt.U, Pt.locs, Pt.cells, Pt.slots] at X2 l2 y2 z2 st2 hQ2
  subst l2 y2 z2
  obtain ⟨rfl, Nq2, e2⟩ := hQ2
  have N2 := Fr.app N1 Nq2
  refine Wq.step st2 ?_
  show Wq _ _ _ _ _ (T2.setTop (mkF m 23 #[.val (.long ylaw_1), .second, .val (.long ylaw_2), .second, .val (.long v5), .second, .val (.long v10), .second] [(.long (f_ref ylaw_1 v5)), (.long v10)]))
  generalize hv20 : (f_ref ylaw_1 v5) = v20
  show Wq _ _ _ _ _ (T2.setTop (mkF m 23 #[.val (.long ylaw_1), .second, .val (.long ylaw_2), .second, .val (.long v5), .second, .val (.long v10), .second] [(.long v20), (.long v10)]))
  refine W.lcmp X2 hx (pc' := 24) (hb hby at_23)  ?_
  refine W.ifNo X2 hx (pc' := 27) (hb hby at_24) ((if0 _ _).trans (teq ((lw_eq _ _).mpr (by subst_vars; exact own_math _ _ : v10 = v20))).2) ?_
  refine W.iconst X2 hx (pc' := 28) (hb hby at_27) (z := (1 : Int32)) rfl ?_
  refine W.goto X2 hx (pc' := 32) (hb hby at_28) (by decide) (by decide) ?_
  exact Wq.ret X2 (BodyLoose.notSynchronized Bd) (rv := some (.int (1 : Int32))) (fun h => by rw [Bd.returns] at h; cases h) (fun _ hr => retN X2 hx (t := .boolean) Bd.returns (by simp) (hb hby at_32) hr) (by decide) (by decide) ⟨rfl, N2⟩
set_option maxRecDepth 65536 in
set_option maxHeartbeats 40000000 in
theorem comes_1 {Post : Tables → Env → Array Value → State → Outcome → State → Prop} (hpost : ∀ tb e args s v u, (limb_1_1.after args s (.returned v) u = true ∧ limb_1_2.after args s (.returned v) u = true ∧ True) → FrameEnd s (.returned v) u (Jvm.fieldLocs frame_1_writes args s ++ Jvm.arrayLocs frame_1_arrays args s ++ Jvm.staticLocs frame_1_statics s) 0 0 → Post tb e args s (.returned v) u) :
    ArmFor flags0 classFile x code maxLocals ret World_1 tables_1 room_1 Calls_1 rest_1 Pre_1 Post := by
  intro l hfl _ _ p e ha hc hk s m args below hf hA hF happ hP
  obtain ⟨hcalls, hrest, hpre⟩ := hP
  obtain ⟨-, -, -, hnamed, -, -, -, hat⟩ := (Spec.applies_iff hf).mp happ
  obtain ⟨hg, hn⟩ := and_e (Cond.before_iff.mp (show (Jvm.Cond.and given_1 narrow_1).before args s = true from hpre))
  obtain ⟨hg1, hg2⟩ := and_e hg
  obtain ⟨ha0, hb0⟩ := and_e hg2
  obtain ⟨w0, w1, rfl⟩ : ∃ w0 w1 : Value, args = #[w0, w1] := by
    have hs : args.size = 2 := by simpa [Cond.value, given_1] using hg1
    obtain ⟨L⟩ := args
    match L, hs with
    | [w0, w1], _ => exact ⟨w0, w1, rfl⟩
  have hw := fun d (hd : d ∈ tables_1) => atoms_spec (ws := Jvm.Cond.code x code maxLocals ret :: tables_1) hat d (List.mem_cons_of_mem _ hd)
  have hfit : Fit s := fun {y c} hc i hi => by
    obtain ⟨ha, rfl⟩ := Array.getElem?_eq_some_iff.mp hc
    have q := List.all_eq_true.mp ((Array.all_eq_true_iff_forall_mem.mp hF) _ (Array.getElem_mem ha)) i (List.mem_range.mpr hi)
    simpa [Array.getElem?_eq_getElem hi] using q
  obtain ⟨i0, ei0⟩ := isL_v ha0
  obtain rfl : w0 = (.long i0) := Option.some.inj ei0
  obtain ⟨i1, ei1⟩ := isL_v hb0
  obtain rfl : w1 = (.long i1) := Option.some.inj ei1
  obtain ⟨n, o, h1, h2, h3, _, L, rfl, ⟨rfl, N⟩, hq⟩ := rm_law l s _ hw tables_1 i0 i1 s.heap s.heap.size (Nat.le_refl _)  p e ha hc hk s m _ below hf ((Spec.applies_iff_loose hf).mp happ).1 ⟨rfl, State.Warmed39.refl s, rfl⟩ trivial
  refine ⟨n, _, h1, h2, h3, hpost _ _ _ _ _ _ ⟨Cond.after_iff.mpr rfl, Cond.after_iff.mpr (eq_i res_at (Term.int_eval (1)) rfl), trivial⟩ ⟨hq.1, hq.2.1, (hq.2.2.sift fun y hy => Or.inr (N y hy)).mono (by decide) (by decide)⟩⟩
theorem main_1_1 : Claimed_1_1 := comes_1 fun _ _ _ _ _ _ h hF => ⟨h.1, hF⟩
theorem main_1_2 : Claimed_1_2 := comes_1 fun _ _ _ _ _ _ h hF => ⟨h.2.1, hF⟩
end Jvm.Pilot.@@N@@
namespace Jvm.Pilot.@@N@@
open Jvm Jvm.ClassFile Sem Op Lib Jvm.Free Jvm.Stand Jvm.Pilot.@@N@@.Jvm.D
/-! MADE BY PROGRAM (witnessworld.py) out of the Statement's table words and the real class files: 9 classes; the members and pool entries that the words name. The judged class is class 1, her method 2. -/
namespace start1
open Jvm.ClassFile
def u (s : String) : CpInfo := .utf8 (stringToUtf16 s)
/-- a pool by its gaps: so many unusable entries, then the entry; so many at the end -/
def gap : Nat → List CpInfo → List CpInfo
  | 0, r => r
  | n + 1, r => .unusable :: gap n r
def poolList (es : List (Nat × CpInfo)) (last : Nat) : List CpInfo := es.foldr (fun e r => gap e.1 (e.2 :: r)) (gap last [])
def pool (es : List (Nat × CpInfo)) (last : Nat) : Array CpInfo := ⟨poolList es last⟩
def fileOf (pool : Array CpInfo) (this : Nat) (attrs : Array Attribute := #[]) (ms : Array MethodInfo := #[]) (fl : Nat := 33) (sup : Nat := 0) (ifs : Array Nat := #[]) (fds : Array FieldInfo := #[]) : ClassFile where
  minorVersion := 0
  majorVersion := 65
  constantPool := pool
  accessFlags := fl
  thisClass := this
  superClass := sup
  interfaces := ifs
  fields := fds
  methods := ms
  attributes := attrs
def plain (name : String) (sup : Option ClassId) : Class where
  name := name
  kind := .ordinary
  loader := none
  accessFlags := 33
  super := sup
  interfaces := #[]
  cf := none
  fields := #[]
  methods := #[]
  instanceTypes := #[]
  staticTypes := #[]
  resolved := #[]
  callSites := []
  init := .initialized
  statics := none
  mirror := none

def pool0 : Array CpInfo := pool [(5, u "<init>"), (0, u "()V"), (1, .class_ 10), (1, u "java/lang/Object")] 113

def k0m0 : Method := { name := "<init>", desc := "()V", sig := { parameters := [], returnType := none }, accessFlags := 1, code := none }
/-- java/lang/Object -/
def k0 : Class := { plain "java/lang/Object" none with
  accessFlags := 33
  interfaces := #[]
  cf := some (fileOf pool0 8 #[] #[{ accessFlags := 1, nameIndex := 5, descriptorIndex := 6, attributes := #[] }] 33 0 #[] #[])
  fields := #[]
  methods := #[k0m0]
  instanceTypes := #[]
  staticTypes := #[]
  resolved := Array.replicate 124 none
  statics := none }

def pool1 : Array CpInfo := pool [(2, .class_ 4), (1, u "java/lang/Object"), (0, u "<init>"), (0, u "()V"), (2, .long 9223372036854775807), (1, .methodref 12 13), (0, .class_ 14), (0, .nameAndType 15 16), (0, u "com/example/gangorra/gangorra/Millis"), (0, u "plus"), (0, u "(JJ)J"), (0, .methodref 18 19), (0, .class_ 20), (0, .nameAndType 21 16), (0, u "com/example/gangorra/gangorra/MillisPlusPinLaw"), (0, u "reference"), (3, u "law"), (0, u "(JJ)Z")] 2

def k1m0 : Method := { name := "<init>", desc := "()V", sig := { parameters := [], returnType := none }, accessFlags := 2, code := none }
def k1c1 : Code := { maxStack := 6, maxLocals := 4, code := method_2_code, exceptionTable := #[], attributes := #[] }
def k1m1 : Method := { name := "reference", desc := "(JJ)J", sig := { parameters := [.long, .long], returnType := some .long }, accessFlags := 10, code := some k1c1 }
def k1c2 : Code := { maxStack := 6, maxLocals := 8, code := code, exceptionTable := #[], attributes := #[] }
def k1m2 : Method := { name := "law", desc := "(JJ)Z", sig := { parameters := [.long, .long], returnType := some .boolean }, accessFlags := 9, code := some k1c2 }
/-- com/example/gangorra/gangorra/MillisPlusPinLaw -/
def k1 : Class := { plain "com/example/gangorra/gangorra/MillisPlusPinLaw" (some 0) with
  accessFlags := 49
  interfaces := #[]
  cf := some (fileOf pool1 18 #[] #[{ accessFlags := 2, nameIndex := 5, descriptorIndex := 6, attributes := #[] }, { accessFlags := 10, nameIndex := 21, descriptorIndex := 16, attributes := #[] }, { accessFlags := 9, nameIndex := 25, descriptorIndex := 26, attributes := #[] }] 49 2 #[] #[])
  fields := #[]
  methods := #[k1m0, k1m1, k1m2]
  instanceTypes := #[]
  staticTypes := #[]
  resolved := Array.replicate 29 none
  statics := none }

def pool2 : Array CpInfo := pool [(4, .class_ 6), (1, u "java/lang/Object"), (0, u "<init>"), (0, u "()V"), (30, .long 9223372036854775807), (2, .class_ 44), (1, u "com/example/gangorra/gangorra/Millis"), (0, u "LONGEST"), (0, u "Ljava/time/Duration;"), (15, u "NEVER"), (0, u "J"), (8, u "plus"), (0, u "(JJ)J")] 20

def k2m0 : Method := { name := "<init>", desc := "()V", sig := { parameters := [], returnType := none }, accessFlags := 2, code := none }
def k2c1 : Code := { maxStack := 4, maxLocals := 6, code := prog_37_method_4_code, exceptionTable := #[], attributes := #[] }
def k2m1 : Method := { name := "plus", desc := "(JJ)J", sig := { parameters := [.long, .long], returnType := some .long }, accessFlags := 8, code := some k2c1 }
/-- com/example/gangorra/gangorra/Millis -/
def k2 : Class := { plain "com/example/gangorra/gangorra/Millis" (some 0) with
  accessFlags := 32
  interfaces := #[]
  cf := some (fileOf pool2 42 #[] #[{ accessFlags := 2, nameIndex := 7, descriptorIndex := 8, attributes := #[] }, { accessFlags := 8, nameIndex := 72, descriptorIndex := 73, attributes := #[] }] 32 4 #[] #[{ accessFlags := 24, nameIndex := 62, descriptorIndex := 63, attributes := #[] }, { accessFlags := 26, nameIndex := 45, descriptorIndex := 46, attributes := #[] }])
  fields := #[{ name := "NEVER", type := .long, accessFlags := 24, slot := 0, constantValue := 0 }, { name := "LONGEST", type := (.object "java/time/Duration"), accessFlags := 26, slot := 1, constantValue := 0 }]
  methods := #[k2m0, k2m1]
  instanceTypes := #[]
  staticTypes := #[.long, (.object "java/time/Duration")]
  resolved := Array.replicate 94 none
  statics := none }

def pool3 : Array CpInfo := pool [(1, u "java/lang/Cloneable"), (0, .class_ 1), (0, u "java/lang/Object"), (0, .class_ 3)] 3

/-- java/lang/Cloneable -/
def k3 : Class := { plain "java/lang/Cloneable" (some 0) with
  accessFlags := 1537
  interfaces := #[]
  cf := some (fileOf pool3 2 #[] #[] 1537 4 #[] #[])
  fields := #[]
  methods := #[]
  instanceTypes := #[]
  staticTypes := #[]
  resolved := Array.replicate 8 none
  statics := none }

def pool4 : Array CpInfo := pool [(1, u "java/io/Serializable"), (0, .class_ 1), (0, u "java/lang/Object"), (0, .class_ 3)] 3

/-- java/io/Serializable -/
def k4 : Class := { plain "java/io/Serializable" (some 0) with
  accessFlags := 1537
  interfaces := #[]
  cf := some (fileOf pool4 2 #[] #[] 1537 4 #[] #[])
  fields := #[]
  methods := #[]
  instanceTypes := #[]
  staticTypes := #[]
  resolved := Array.replicate 8 none
  statics := none }

/-- the primitive byte -/
def k5 : Class := { plain "byte" none with kind := .primitive 'B', accessFlags := 0x411 }
/-- [B -/
def k6 : Class := { plain "[B" (some 0) with kind := .array 5 .byte, interfaces := #[3, 4], accessFlags := 1041 }

/-- the primitive int -/
def k7 : Class := { plain "int" none with kind := .primitive 'I', accessFlags := 0x411 }
/-- [I -/
def k8 : Class := { plain "[I" (some 0) with kind := .array 7 .int, interfaces := #[3, 4], accessFlags := 1041 }

def heap : Heap := #[]
def classes : Array Class := #[k0, k1, k2, k3, k4, k5, k6, k7, k8]
def interned : List (Array UInt16 × Addr) := []
def slotsUsed : Nat := 0
def theMethod : MethodId := ⟨1, 2⟩
def args0 : Array Value := #[.long 5, .long 7]
def aboutOver (below : List Frame) : State where
  vm := { classes := classes, interned := interned.toArray }
  heap := heap
  slotsUsed := slotsUsed
  threads := #[{ frames := .invoking theMethod args0 :: below }]
def below0 : List Frame := [.native { method := ⟨0, 0⟩, args := #[] }]
def about1 : State := aboutOver below0
def p0 : Program := .bare "" "" ""
def e0 : Env := launch0.env 0 0 0
theorem w_frames : about1.frames = Frame.invoking theMethod args0 :: below0 := rfl
set_option maxRecDepth 65536 in
theorem w_args : argsFit about1.vm theMethod args0 = true := by decide +kernel
set_option maxRecDepth 65536 in
theorem w_heap : heapFits about1 = true := by decide +kernel
set_option maxRecDepth 65536 in
theorem w_runnable : about1.curStatus? = some .runnable := by decide +kernel
set_option maxRecDepth 65536 in
theorem w_alone : about1.alone = true := by decide +kernel
set_option maxRecDepth 65536 in
theorem w_named : about1.methodNamed? x = some theMethod := by decide +kernel
set_option maxRecDepth 65536 in
theorem w_hears : about1.hears theMethod below0 = true := by decide +kernel
set_option maxRecDepth 65536 in
theorem w_ripe : about1.ripe theMethod args0 below0 = true := by decide +kernel
theorem w_running : about1.status = .running := rfl
set_option maxRecDepth 65536 in
theorem w_room : about1.hasRoom e0.platform room_1 = true :=
  launch0.hasRoom_least _ room_1 (by decide +kernel) (by decide +kernel) (by decide +kernel) (by decide +kernel) (by decide +kernel) (by decide +kernel)
theorem allAtoms_all (ts : List Jvm.Cond) (a : Array Jvm.Value) (st : Jvm.State) : (allAtoms ts).before a st = ts.all (fun c => c.before a st) := by
  induction ts with
  | nil => rfl
  | cons c t ih =>
    show (Jvm.Cond.and c (allAtoms t)).before a st = _
    rw [Jvm.Cond.before_and, ih, List.all_cons]
def words1 : List Jvm.Cond := Jvm.Cond.code x code maxLocals ret :: tables_1
/-- a 'code' word, met by the world's own term for the bytes: nothing is compared byte by byte -/
theorem code_word {y : MethodName} {bytes : ByteArray} {mx : Nat} {rt : Option FieldType} {a : Array Value} {s : State} {m : MethodId} {meth : Method} {c : Code} (h1 : s.methodNamed? y = some m) (h2 : s.vm.method? m = some meth) (h3 : meth.code = some c) (h4 : c.code = bytes)
    (h5 : (c.maxLocals == mx && c.exceptionTable.isEmpty && decide (c.maxStack ≤ mostOperands) && decide (meth.sig.returnType = rt) && !meth.locks && decide (parseMethodDescriptor y.desc = some meth.sig)) = true) : (Jvm.Cond.code y bytes mx rt).before a s = true := by
  simp only [Bool.and_eq_true, beq_iff_eq, Bool.not_eq_true', decide_eq_true_eq] at h5
  obtain ⟨⟨⟨⟨⟨g1, g2⟩, g3⟩, g4⟩, g5⟩, g6⟩ := h5
  simp [Cond.before, Cond.holds, Cond.value, h1, h2, h3, h4, g1, g2, g3, g4, g5, g6]
def isCode : Jvm.Cond → Bool
  | .code _ _ _ _ => true
  | _ => false
theorem all_split {L : List Jvm.Cond} {P : Jvm.Cond → Bool} (h1 : L.all (fun c => isCode c || P c) = true) (h2 : ∀ c ∈ L.filter isCode, P c = true) : L.all P = true := by
  refine List.all_eq_true.mpr fun c hc => ?_
  have h := List.all_eq_true.mp h1 c hc
  rcases Bool.eq_false_or_eq_true (isCode c) with hi | hi
  · exact h2 c (List.mem_filter.mpr ⟨hc, hi⟩)
  · simpa [hi] using h
set_option maxRecDepth 65536 in
theorem w_c0 : (Jvm.Cond.code x code maxLocals ret).before args0 about1 = true := code_word (m := ⟨1, 2⟩) (meth := k1m2) (c := k1c2) (by decide +kernel) rfl rfl rfl (by decide +kernel)
set_option maxRecDepth 65536 in
theorem w_c1 : (Jvm.Cond.code ({ cls := "com/example/gangorra/gangorra/Millis", name := "plus", desc := "(JJ)J" } : Jvm.MethodName) prog_37_method_4_code (6 : Nat) (Option.some Jvm.ClassFile.FieldType.long)).before args0 about1 = true := code_word (m := ⟨2, 1⟩) (meth := k2m1) (c := k2c1) (by decide +kernel) rfl rfl rfl (by decide +kernel)
set_option maxRecDepth 65536 in
theorem w_c2 : (Jvm.Cond.code ({ cls := "com/example/gangorra/gangorra/MillisPlusPinLaw", name := "reference", desc := "(JJ)J" } : Jvm.MethodName) method_2_code (4 : Nat) (Option.some Jvm.ClassFile.FieldType.long)).before args0 about1 = true := code_word (m := ⟨1, 1⟩) (meth := k1m1) (c := k1c1) (by decide +kernel) rfl rfl rfl (by decide +kernel)
def codes1 : List Jvm.Cond := [Jvm.Cond.code x code maxLocals ret, Jvm.Cond.code ({ cls := "com/example/gangorra/gangorra/Millis", name := "plus", desc := "(JJ)J" } : Jvm.MethodName) prog_37_method_4_code (6 : Nat) (Option.some Jvm.ClassFile.FieldType.long), Jvm.Cond.code ({ cls := "com/example/gangorra/gangorra/MillisPlusPinLaw", name := "reference", desc := "(JJ)J" } : Jvm.MethodName) method_2_code (4 : Nat) (Option.some Jvm.ClassFile.FieldType.long)]
set_option maxRecDepth 65536 in
theorem codes_eq : words1.filter isCode = codes1 := rfl
theorem w_codes : ∀ c ∈ words1.filter isCode, c.before args0 about1 = true := by
  rw [codes_eq]
  intro c hc
  simp only [codes1, List.mem_cons, List.not_mem_nil, or_false] at hc
  rcases hc with rfl | rfl | rfl
  · exact w_c0
  · exact w_c1
  · exact w_c2
set_option maxRecDepth 65536 in
theorem w_t1 : words1.all (fun c => isCode c || c.before args0 about1) = true := by decide +kernel
theorem w_tables : (allAtoms (Jvm.Cond.code x code maxLocals ret :: tables_1)).before args0 about1 = true := by
  rw [allAtoms_all]
  show words1.all (fun c => c.before args0 about1) = true
  refine all_split ?_ w_codes
  rw [w_t1]
set_option maxRecDepth 65536 in
theorem w_case : (Jvm.Cond.and given_1 narrow_1).before args0 about1 = true := by decide +kernel
theorem w_applies : (headSpec (Jvm.Cond.code x code maxLocals ret :: tables_1) room_1).applies x e0.platform about1 = true :=
  (Spec.applies_iff w_frames).mpr ⟨w_running, w_runnable, w_alone, w_named, w_hears, w_ripe, w_room, w_tables⟩
theorem atStart : AtStart classFile x code maxLocals ret World_1 tables_1 room_1 Calls_1 rest_1 Pre_1 launch0 p0 e0 about1 theMethod args0 below0 :=
  ⟨lists_1, trivial, launch0.admits_env _ _ _, launch0.least_env, fairChoices_fair.cas, fairChoices_fair.clock, w_frames, w_args, w_heap, w_applies, trivial, trivial, w_case⟩
end start1
theorem witness_1 : WitnessClaimed_1 := ⟨start1.p0, start1.e0, start1.about1, start1.theMethod, start1.args0, start1.below0, start1.atStart⟩
end Jvm.Pilot.@@N@@
