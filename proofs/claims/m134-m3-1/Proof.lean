import JvmDerived
import JvmDerived.Pilot.@@N@@Statement
import JvmDerived.Pilot.@@N@@Code
set_option linter.unusedVariables false
set_option linter.unusedSimpArgs false
namespace Jvm.OwnW
open Sem ClassFile Op Lib Jvm.Stand Jvm.Free Jvm.LawKit Jvm.RoadKit
section Base
variable {p : Program} {l : Launch} {e : Env} {R : Room} {s : State} {m : MethodId} {args : Array Value} {below : List Frame} {meth : Method} {c : Code} {T : State} {locs : List Loc} {cells slots : Nat} {Z : State} {h h' : Heap} {a b : Addr} {ty : FieldType} {vs : List Value} {v : Value} {sl : Nat} {ws : List Addr}
variable {Q : Option Value → Heap → List Loc → Prop} {En : Outcome → State → List Loc → Prop} {kc ks : Nat} {U U' : State}
/-- from U the body comes to its end; what it leaves is Q, its frame En -/
def Wq (p : Program) (e : Env) (below : List Frame) (En : Outcome → State → List Loc → Prop) (Q : Option Value → Heap → List Loc → Prop) (U : State) : Prop :=
  ∃ s₂ o, Steps p.tables e below U s₂ ∧ s₂.status = .running ∧ Ended s₂ below o ∧ ∃ v L, o = .returned v ∧ Q v s₂.heap L ∧ En o s₂ L
theorem Wq.step (h1 : ∀ t, Steps p.tables e below U' t → Steps p.tables e below U t) (k : Wq p e below En Q U') : Wq p e below En Q U := by
  obtain ⟨s₂, o, q, r⟩ := k; exact ⟨s₂, o, h1 _ q, r⟩
theorem Wq.steps (h1 : Steps p.tables e below U U') (k : Wq p e below En Q U') : Wq p e below En Q U := by
  obtain ⟨s₂, o, q, r⟩ := k; exact ⟨s₂, o, h1.trans q, r⟩
theorem Wq.by (k1 : Wq p e below En Q U' → Wq p e below En Q U) (k : Wq p e below En Q U') : Wq p e below En Q U := k1 k
theorem Wq.ret {rv : Option Value} {g : JFrame} (X : Stand p l e R s m args below meth c T locs cells slots) (hlk : meth.locks = false) (hv : meth.sig.returnType = none → rv = none)
    (st : ∀ fs, (∀ (f : JFrame) (acts : List Action), f.method = m → f.locked = none → f.entered = [] → (doReturn e (T.setTop f) acts rv).1 = T.setFrames fs) → Steps p.tables e below (T.setTop g) (T.setFrames fs))
    (hc : cells ≤ kc) (hs : slots ≤ ks) (hQ : Q rv T.heap locs) : Wq p e below (fun o t L => FrameEnd s o t L kc ks) Q (T.setTop g) := by
  obtain ⟨fs, hr, hrun, hended, hW, hsame⟩ := X.leave (v := rv) hv hlk
  exact ⟨_, _, st fs hr, hrun, hended, rv, locs, rfl, hQ, ⟨rv, rfl⟩, hW, hsame.mono hc hs⟩
/-- the same for a body that may load a String constant for the first time -/
theorem Wq.retW {rv : Option Value} {g : JFrame} {vm₁ : Vm} {n : Nat} (X : Stand p l e R (s.setVm vm₁) m args below meth c T locs cells slots) (hS : s.Since vm₁ n) (hn : n ≤ T.heap.size) (hlk : meth.locks = false) (hv : meth.sig.returnType = none → rv = none)
    (st : ∀ fs, (∀ (f : JFrame) (acts : List Action), f.method = m → f.locked = none → f.entered = [] → (doReturn e (T.setTop f) acts rv).1 = T.setFrames fs) → Steps p.tables e below (T.setTop g) (T.setFrames fs))
    (hc : cells ≤ kc) (hs : slots ≤ ks) (hQ : Q rv T.heap locs) : Wq p e below (fun o t L => ReturnedEndW s o t L kc ks) Q (T.setTop g) := by
  obtain ⟨fs, hr, hrun, hended, w1, w2, w3, w4⟩ := X.leaveW hS hn (v := rv) hv hlk
  exact ⟨_, _, st fs hr, hrun, hended, rv, locs, rfl, hQ, ⟨rv, rfl⟩, w2, w3, w4.mono hc hs⟩
/-- an array and the whole list of what it holds -/
def Al (Z : State) (h : Heap) (a : Addr) (ty : FieldType) (vs : List Value) : Prop := ∃ cl : Cell, Arr Z h a cl ty ∧ cl.slots.toList = vs
theorem Al.lt (V : Al Z h a ty vs) : a < h.size := by obtain ⟨cl, A, -⟩ := V; exact A.lt
theorem Al.ext (V : Al Z h a ty vs) (E : Ext h h') : Al Z h' a ty vs := by obtain ⟨cl, A, r⟩ := V; exact ⟨cl, A.ext E, r⟩
theorem Al.other (V : Al Z h b ty vs) (W : Wr h h' a sl v) (q : b ≠ a) : Al Z h' b ty vs := by obtain ⟨cl, A, r⟩ := V; exact ⟨cl, A.other W q, r⟩
theorem Al.keep (V : Al Z h a ty vs) (K : Keep h h' ws) (q : a ∉ ws) : Al Z h' a ty vs := by obtain ⟨cl, A, r⟩ := V; exact ⟨cl, ⟨K.2.1 a cl A.1 q, A.2⟩, r⟩
theorem Al.new {cA : ClassId} {n : Int32} {k : Nat} {dv : Value} (A : Arr Z h a (newA cA ty n) ty) (hk : n.toNatClampNeg = k) (hd : defaultValue ty = dv) : Al Z h a ty (List.replicate k dv) := ⟨_, A, by subst hk hd; simp [newA]⟩
theorem Al.set (V : Al Z h a ty vs) (W : Wr h h' a sl v) : Al Z h' a ty (vs.set sl v) := by
  obtain ⟨cl, A, rfl⟩ := V
  exact ⟨_, A.same W, by simp [Cell.setSlot]⟩
theorem Sta.keepN {C n d : String} {v : Value} (F : Sta Z h C n d v) (K : Keep h h' ws) (q : ∀ w ∈ ws, ∀ cell : Cell, h[w]? = some cell → cell.vm.isStatics = false) : Sta Z h' C n d v := by
  obtain ⟨cf, i, k, f, st, cell, h1, h2, h3, h4, h5, h6, h7⟩ := F
  exact ⟨cf, i, k, f, st, cell, h1, h2, h3, h4, K.2.1 _ _ h5 (fun hm => by rw [q st hm cell h5] at h6; cases h6), h6, h7⟩
theorem fldI {t : Term} {C n d : String} {k : Int32} (hx : (Cond.eq (.field t C n d) (.int k)).value args s none s [] = some true) (ev : t.eval args s none [] s = some (.ref a)) : Fld s s.heap a C n d (.int k) := by
  refine Fld.start ?_
  have e1 := fld_at (C := C) (n := n) (dd := d) ev
  obtain ⟨x, y, h1, h2, k1, k2⟩ := cmp_v (Or.inl hx)
  rw [Term.int_eval] at h2
  cases h2
  rw [e1] at h1
  cases x <;> simp only [Kin] at k2 <;> first | (obtain ⟨z, hz⟩ := k2; cases hz) | skip
  have q := gotT (Cond.eq_ints (e1.trans h1) (Term.int_eval k)) hx
  rw [h1, q]
theorem fldJ {t : Term} {C n d : String} {k : Int64} (hx : (Cond.eq (.field t C n d) (.long k)).value args s none s [] = some true) (ev : t.eval args s none [] s = some (.ref a)) : Fld s s.heap a C n d (.long k) := by
  refine Fld.start ?_
  have e1 := fld_at (C := C) (n := n) (dd := d) ev
  obtain ⟨x, y, h1, h2, k1, k2⟩ := cmp_v (Or.inl hx)
  rw [long_at] at h2
  cases h2
  rw [e1] at h1
  cases x <;> simp only [Kin] at k2 <;> first | (obtain ⟨z, hz⟩ := k2; cases hz) | skip
  have q := gotT (eq_L (e1.trans h1) (long_at k)) hx
  rw [h1, q]
theorem Exa.ns {C : String} (F : Exa Z h a C) : ∀ cell : Cell, h[a]? = some cell → cell.vm.isStatics = false := by
  obtain ⟨c1, k, h1, h2, h3, h4, h5⟩ := F
  intro cell hc; cases h1.symm.trans hc; exact h4
theorem Al.ns (V : Al Z h a ty vs) : ∀ cell : Cell, h[a]? = some cell → cell.vm.isStatics = false := by
  obtain ⟨cl, A, -⟩ := V
  intro cell hc; cases A.1.symm.trans hc; exact A.plain
theorem clA (X : Stand p l e R s m args below meth c T locs cells slots) (hx : p.tables.exec = Jvm.exec) (hZ : Z.Warmed39 s.vm) {a0 : Array Value} {own ad : String} {index : Nat} (hown : s.vm.findClass own = some m.cls)
    (w1 : (Cond.methodLink own index ⟨ad, "clone", "()Ljava/lang/Object;"⟩).before a0 Z = true) (w2 : (Cond.sameMethod ad "java/lang/Object" "clone" "()Ljava/lang/Object;").before a0 Z = true) (w3 : (Cond.native ⟨"java/lang/Object", "clone", "()Ljava/lang/Object;"⟩).before a0 Z = true)
    (w4 : (Cond.instanceMethod ⟨"java/lang/Object", "clone", "()Ljava/lang/Object;"⟩).before a0 Z = true) (w5 : (Cond.selects ad ⟨ad, "clone", "()Ljava/lang/Object;"⟩ ⟨"java/lang/Object", "clone", "()Ljava/lang/Object;"⟩).before a0 Z = true) (w6 : (Cond.castable ad "java/lang/Cloneable").before a0 Z = true)
    (eT : T.heap = h) (V : Al Z h a ty vs) (E : Exa Z h a ad) (F : ∀ v ∈ vs, fits ty v = true) {g : JFrame} (hg : g.method = m) (hsize : g.locals.size = c.maxLocals) {rest : List Value} (hst : g.stack = .ref a :: rest) (hd : decode c.code g.pc = .ok (.invokevirtual index, 3))
    (hf : 1 ≤ R.frames) {W cap : Nat} (hW : 2 * g.monitorRoom + (rest.map fun v => v.category).sum ≤ W) (hl : W + 14 ≤ R.locals) (hcap : vs.length ≤ cap) (hc : cells + 1 ≤ R.cells) (hsl : slots + cap ≤ R.slots) :
    ∃ T' h', Stand p l e R s m args below meth c T' locs (cells + 1) (slots + cap) ∧ T'.heap = h' ∧ Ext h h' ∧ Al Z h' h.size ty vs ∧ Exa Z h' h.size ad ∧
      ∀ target, Steps p.tables e below (T'.setTop { g with pc := g.pc + 3, stack := .ref h.size :: rest }) target → Steps p.tables e below (T.setTop g) target := by
  obtain ⟨cl, A, r⟩ := V
  have FC : FitC Z cl := fitC_of A fun i hi v hv => F v (by rw [← r]; exact Array.mem_toList_iff.mpr (Array.mem_of_getElem? hv))
  obtain ⟨T', h', X', e', ex, A', E', st⟩ := cloneA X hx hZ hown w1 w2 w3 w4 w5 w6 eT A E FC hg hsize hst hd hf hW hl (by rw [← Array.length_toList, r]; exact hcap) hc hsl
  exact ⟨T', h', X', e', ex, ⟨_, A', r⟩, E', st⟩
theorem selPriv {a0 : Array Value} {y : MethodName} {k : Nat} (hZ : Z.Warmed39 s.vm) (wi : (Cond.instantiable y.cls k).before a0 Z = true) (wp : (Cond.privateMethod y).before a0 Z = true) (wm : (Cond.instanceMethod y).before a0 Z = true) (hy : y.cls ≠ "java/lang/invoke/MethodHandle" ∧ y.cls ≠ "java/lang/invoke/VarHandle") : (Cond.selects y.cls y y).before args s = true := by
  obtain ⟨c, k, h1, h2, -, h4, -⟩ := Cond.instantiable_spec (mv (args := args) hZ wi)
  simp only [Bool.or_eq_false_iff] at h4
  exact Jvm.Stand.selects_self_of_private h1 h2 h4.1 (Cond.privateMethod_at (mvP hZ wp (args := args))) (mv hZ wm) hy
theorem al_in {cl : Cell} {j : Int32} {i : Nat} (hvs : cl.slots.toList = vs) (hj : ¬ j < 0) (hi : j.toNatClampNeg = i) (hl : i < vs.length) : ¬ (j < 0 ∨ cl.slots.size ≤ j.toNatClampNeg) := by
  subst hvs hi
  rintro (q | q)
  · exact hj q
  · simp only [Array.length_toList] at hl; omega
theorem al_at {cl : Cell} {j : Int32} {i : Nat} (hvs : cl.slots.toList = vs) (hi : j.toNatClampNeg = i) (hv : vs[i]? = some v) : cl.slots[j.toNatClampNeg]? = some v := by
  subst hvs hi; simpa using hv
theorem al_lt {i : Nat} (hv : vs[i]? = some v) : i < vs.length := (List.getElem?_eq_some_iff.mp hv).1
theorem ldI (X : Stand p l e R s m args below meth c T locs cells slots) (hx : p.tables.exec = Jvm.exec) (hZ : Z.Warmed39 s.vm) (eT : T.heap = h) (V : Al Z h a .int vs) {j : Int32} {i : Nat} (hj : ¬ j < 0) (hi : j.toNatClampNeg = i) (hv : vs[i]? = some v) {g : JFrame} (hg : g.method = m) {rest : List Value} (hs : g.stack = .int j :: .ref a :: rest) (hd : decode c.code g.pc = .ok (.iaload, 1)) {target : State}
    (k : Steps p.tables e below (T.setTop { g with pc := g.pc + 1, stack := v :: rest }) target) : Steps p.tables e below (T.setTop g) target := by
  obtain ⟨cl, A, r⟩ := V
  exact X.iaload hx (by rw [eT]; exact A.1) (State.isArrayOf_alike hZ.alike A.2.1) A.2.2 (al_in r hj hi (al_lt hv)) (al_at r hi hv) hg hs hd _ k
theorem ldJ (X : Stand p l e R s m args below meth c T locs cells slots) (hx : p.tables.exec = Jvm.exec) (hZ : Z.Warmed39 s.vm) (eT : T.heap = h) (V : Al Z h a .long vs) {j : Int32} {i : Nat} (hj : ¬ j < 0) (hi : j.toNatClampNeg = i) (hv : vs[i]? = some v) {g : JFrame} (hg : g.method = m) {rest : List Value} (hs : g.stack = .int j :: .ref a :: rest) (hd : decode c.code g.pc = .ok (.laload, 1)) {target : State}
    (k : Steps p.tables e below (T.setTop { g with pc := g.pc + 1, stack := v :: rest }) target) : Steps p.tables e below (T.setTop g) target := by
  obtain ⟨cl, A, r⟩ := V
  exact X.laload hx (by rw [eT]; exact A.1) (State.isArrayOf_alike hZ.alike A.2.1) A.2.2 (al_in r hj hi (al_lt hv)) (al_at r hi hv) hg hs hd _ k
theorem ldC (X : Stand p l e R s m args below meth c T locs cells slots) (hx : p.tables.exec = Jvm.exec) (hZ : Z.Warmed39 s.vm) (eT : T.heap = h) (V : Al Z h a .char vs) {j : Int32} {i : Nat} (hj : ¬ j < 0) (hi : j.toNatClampNeg = i) (hv : vs[i]? = some v) {g : JFrame} (hg : g.method = m) {rest : List Value} (hs : g.stack = .int j :: .ref a :: rest) (hd : decode c.code g.pc = .ok (.caload, 1)) {target : State}
    (k : Steps p.tables e below (T.setTop { g with pc := g.pc + 1, stack := v :: rest }) target) : Steps p.tables e below (T.setTop g) target := by
  obtain ⟨cl, A, r⟩ := V
  exact X.caload hx (by rw [eT]; exact A.1) (State.isArrayOf_alike hZ.alike A.2.1) A.2.2 (al_in r hj hi (al_lt hv)) (al_at r hi hv) hg hs hd _ k
theorem ldB (X : Stand p l e R s m args below meth c T locs cells slots) (hx : p.tables.exec = Jvm.exec) (hZ : Z.Warmed39 s.vm) (eT : T.heap = h) (V : Al Z h a .byte vs) {j : Int32} {i : Nat} (hj : ¬ j < 0) (hi : j.toNatClampNeg = i) (hv : vs[i]? = some v) {g : JFrame} (hg : g.method = m) {rest : List Value} (hs : g.stack = .int j :: .ref a :: rest) (hd : decode c.code g.pc = .ok (.baload, 1)) {target : State}
    (k : Steps p.tables e below (T.setTop { g with pc := g.pc + 1, stack := v :: rest }) target) : Steps p.tables e below (T.setTop g) target := by
  obtain ⟨cl, A, r⟩ := V
  exact X.baloadBytes hx (by rw [eT]; exact A.1) (State.isArrayOf_alike hZ.alike A.2.1) A.2.2 (al_in r hj hi (al_lt hv)) (al_at r hi hv) hg hs hd _ k
theorem ldZ (X : Stand p l e R s m args below meth c T locs cells slots) (hx : p.tables.exec = Jvm.exec) (hZ : Z.Warmed39 s.vm) (eT : T.heap = h) (V : Al Z h a .boolean vs) {j : Int32} {i : Nat} (hj : ¬ j < 0) (hi : j.toNatClampNeg = i) (hv : vs[i]? = some v) {g : JFrame} (hg : g.method = m) {rest : List Value} (hs : g.stack = .int j :: .ref a :: rest) (hd : decode c.code g.pc = .ok (.baload, 1)) {target : State}
    (k : Steps p.tables e below (T.setTop { g with pc := g.pc + 1, stack := v :: rest }) target) : Steps p.tables e below (T.setTop g) target := by
  obtain ⟨cl, A, r⟩ := V
  exact X.baloadBooleans hx (by rw [eT]; exact A.1) (State.isArrayOf_alike hZ.alike A.2.1) A.2.2 (al_in r hj hi (al_lt hv)) (al_at r hi hv) hg hs hd _ k
theorem lenA (X : Stand p l e R s m args below meth c T locs cells slots) (hx : p.tables.exec = Jvm.exec) (hZ : Z.Warmed39 s.vm) (eT : T.heap = h) (V : Al Z h a ty vs) {n : Int32} (hn : vs.length.toInt32 = n) {g : JFrame} (hg : g.method = m) {rest : List Value} (hs : g.stack = .ref a :: rest) (hd : decode c.code g.pc = .ok (.arraylength, 1)) {target : State}
    (k : Steps p.tables e below (T.setTop { g with pc := g.pc + 1, stack := .int n :: rest }) target) : Steps p.tables e below (T.setTop g) target := by
  obtain ⟨cl, A, r⟩ := V
  refine X.arraylength hx (by rw [eT]; exact A.1) (State.isArrayOf_alike hZ.alike A.2.1) hg hs hd _ ?_
  rw [show cl.slots.size.toInt32 = n from by rw [← hn, ← r, Array.length_toList]]
  exact k
theorem asI (X : Stand p l e R s m args below meth c T locs cells slots) (hx : p.tables.exec = Jvm.exec) (hZ : Z.Warmed39 s.vm) (eT : T.heap = h) (V : Al Z h a .int vs) {j : Int32} {i : Nat} {x : Int32} (hj : ¬ j < 0) (hi : j.toNatClampNeg = i) (hl : i < vs.length) {g : JFrame} (hg : g.method = m) {rest : List Value} (hs : g.stack = .int x :: .int j :: .ref a :: rest) (hd : decode c.code g.pc = .ok (.iastore, 1)) :
    ∃ T' h', Stand p l e R s m args below meth c T' (locs ++ [⟨a, i⟩]) cells slots ∧ T'.heap = h' ∧ Wr h h' a i (.int x) ∧ Al Z h' a .int (vs.set i (.int x)) ∧ ∀ target, Steps p.tables e below (T'.setTop { g with pc := g.pc + 1, stack := rest }) target → Steps p.tables e below (T.setTop g) target := by
  have V0 := V
  obtain ⟨cl, A, r⟩ := V
  obtain ⟨T', h', X', e', W, st⟩ := stI X hx hZ eT A (al_in r hj hi hl) hg hs hd
  subst hi
  exact ⟨T', h', X', e', W, V0.set W, st⟩
theorem asJ (X : Stand p l e R s m args below meth c T locs cells slots) (hx : p.tables.exec = Jvm.exec) (hZ : Z.Warmed39 s.vm) (eT : T.heap = h) (V : Al Z h a .long vs) {j : Int32} {i : Nat} {x : Int64} (hj : ¬ j < 0) (hi : j.toNatClampNeg = i) (hl : i < vs.length) {g : JFrame} (hg : g.method = m) {rest : List Value} (hs : g.stack = .long x :: .int j :: .ref a :: rest) (hd : decode c.code g.pc = .ok (.lastore, 1)) :
    ∃ T' h', Stand p l e R s m args below meth c T' (locs ++ [⟨a, i⟩]) cells slots ∧ T'.heap = h' ∧ Wr h h' a i (.long x) ∧ Al Z h' a .long (vs.set i (.long x)) ∧ ∀ target, Steps p.tables e below (T'.setTop { g with pc := g.pc + 1, stack := rest }) target → Steps p.tables e below (T.setTop g) target := by
  have V0 := V
  obtain ⟨cl, A, r⟩ := V
  obtain ⟨T', h', X', e', W, st⟩ := stJ X hx hZ eT A (al_in r hj hi hl) hg hs hd
  subst hi
  exact ⟨T', h', X', e', W, V0.set W, st⟩
theorem asC (X : Stand p l e R s m args below meth c T locs cells slots) (hx : p.tables.exec = Jvm.exec) (hZ : Z.Warmed39 s.vm) (eT : T.heap = h) (V : Al Z h a .char vs) {j : Int32} {i : Nat} {x y : Int32} (hj : ¬ j < 0) (hi : j.toNatClampNeg = i) (hl : i < vs.length) (hy : nar .char x = y) {g : JFrame} (hg : g.method = m) {rest : List Value} (hs : g.stack = .int x :: .int j :: .ref a :: rest) (hd : decode c.code g.pc = .ok (.castore, 1)) :
    ∃ T' h', Stand p l e R s m args below meth c T' (locs ++ [⟨a, i⟩]) cells slots ∧ T'.heap = h' ∧ Wr h h' a i (.int y) ∧ Al Z h' a .char (vs.set i (.int y)) ∧ ∀ target, Steps p.tables e below (T'.setTop { g with pc := g.pc + 1, stack := rest }) target → Steps p.tables e below (T.setTop g) target := by
  have V0 := V
  obtain ⟨cl, A, r⟩ := V
  obtain ⟨T', h', X', e', W, st⟩ := stC X hx hZ eT A (al_in r hj hi hl) hg hs hd
  subst hi hy
  exact ⟨T', h', X', e', W, V0.set W, st⟩
theorem asB (X : Stand p l e R s m args below meth c T locs cells slots) (hx : p.tables.exec = Jvm.exec) (hZ : Z.Warmed39 s.vm) (eT : T.heap = h) (V : Al Z h a .byte vs) {j : Int32} {i : Nat} {x y : Int32} (hj : ¬ j < 0) (hi : j.toNatClampNeg = i) (hl : i < vs.length) (hy : nar .byte x = y) {g : JFrame} (hg : g.method = m) {rest : List Value} (hs : g.stack = .int x :: .int j :: .ref a :: rest) (hd : decode c.code g.pc = .ok (.bastore, 1)) :
    ∃ T' h', Stand p l e R s m args below meth c T' (locs ++ [⟨a, i⟩]) cells slots ∧ T'.heap = h' ∧ Wr h h' a i (.int y) ∧ Al Z h' a .byte (vs.set i (.int y)) ∧ ∀ target, Steps p.tables e below (T'.setTop { g with pc := g.pc + 1, stack := rest }) target → Steps p.tables e below (T.setTop g) target := by
  have V0 := V
  obtain ⟨cl, A, r⟩ := V
  obtain ⟨T', h', X', e', W, st⟩ := stB X hx hZ eT A (al_in r hj hi hl) hg hs hd
  subst hi hy
  exact ⟨T', h', X', e', W, V0.set W, st⟩
theorem asZ (X : Stand p l e R s m args below meth c T locs cells slots) (hx : p.tables.exec = Jvm.exec) (hZ : Z.Warmed39 s.vm) (eT : T.heap = h) (V : Al Z h a .boolean vs) {j : Int32} {i : Nat} {x y : Int32} (hj : ¬ j < 0) (hi : j.toNatClampNeg = i) (hl : i < vs.length) (hy : nar .boolean x = y) {g : JFrame} (hg : g.method = m) {rest : List Value} (hs : g.stack = .int x :: .int j :: .ref a :: rest) (hd : decode c.code g.pc = .ok (.bastore, 1)) :
    ∃ T' h', Stand p l e R s m args below meth c T' (locs ++ [⟨a, i⟩]) cells slots ∧ T'.heap = h' ∧ Wr h h' a i (.int y) ∧ Al Z h' a .boolean (vs.set i (.int y)) ∧ ∀ target, Steps p.tables e below (T'.setTop { g with pc := g.pc + 1, stack := rest }) target → Steps p.tables e below (T.setTop g) target := by
  have V0 := V
  obtain ⟨cl, A, r⟩ := V
  obtain ⟨T', h', X', e', W, st⟩ := stZ X hx hZ eT A (al_in r hj hi hl) hg hs hd
  subst hi hy
  exact ⟨T', h', X', e', W, V0.set W, st⟩
theorem W.iloadN (X : Stand p l e R s m args below meth c T locs cells slots) (hx : p.tables.exec = Jvm.exec) {pc : Nat} {ls : Array Slot} {st : List Value} {pc' : Nat} {k : Fin 4} {v : Int32} (hd : decode c.code pc = .ok (.iload_n k, 1)) (hl : ls[k.val]? = some (.val (.int v))) (k : Wq p e below En Q (T.setTop (mkF m pc' ls (.int v :: st)))) (hpc : pc + 1 = pc' := by rfl) : Wq p e below En Q (T.setTop (mkF m pc ls st)) := by subst hpc; exact Wq.step (fun _ q => XS.iloadN X.here hx rfl hd hl q) k
theorem W.istoreN (X : Stand p l e R s m args below meth c T locs cells slots) (hx : p.tables.exec = Jvm.exec) {pc : Nat} {ls : Array Slot} {st : List Value} {pc' : Nat} {k : Fin 4} {x : Int32} {l' : Array Slot} (hd : decode c.code pc = .ok (.istore_n k, 1)) (hl : storeLocals ls k.val (.int x) = some l') (k : Wq p e below En Q (T.setTop (mkF m pc' l' st))) (hpc : pc + 1 = pc' := by rfl) : Wq p e below En Q (T.setTop (mkF m pc ls (.int x :: st))) := by subst hpc; exact Wq.step (fun _ q => XS.istoreN X.here hx rfl hd rfl hl q) k
theorem W.lloadN (X : Stand p l e R s m args below meth c T locs cells slots) (hx : p.tables.exec = Jvm.exec) {pc : Nat} {ls : Array Slot} {st : List Value} {pc' : Nat} {k : Fin 4} {v : Int64} (hd : decode c.code pc = .ok (.lload_n k, 1)) (hl : ls[k.val]? = some (.val (.long v))) (k : Wq p e below En Q (T.setTop (mkF m pc' ls (.long v :: st)))) (hpc : pc + 1 = pc' := by rfl) : Wq p e below En Q (T.setTop (mkF m pc ls st)) := by subst hpc; exact Wq.step (fun _ q => XS.lloadN X.here hx rfl hd hl q) k
theorem W.lstoreN (X : Stand p l e R s m args below meth c T locs cells slots) (hx : p.tables.exec = Jvm.exec) {pc : Nat} {ls : Array Slot} {st : List Value} {pc' : Nat} {k : Fin 4} {x : Int64} {l' : Array Slot} (hd : decode c.code pc = .ok (.lstore_n k, 1)) (hl : storeLocals ls k.val (.long x) = some l') (k : Wq p e below En Q (T.setTop (mkF m pc' l' st))) (hpc : pc + 1 = pc' := by rfl) : Wq p e below En Q (T.setTop (mkF m pc ls (.long x :: st))) := by subst hpc; exact Wq.step (fun _ q => XS.lstoreN X.here hx rfl hd rfl hl q) k
theorem W.aloadN (X : Stand p l e R s m args below meth c T locs cells slots) (hx : p.tables.exec = Jvm.exec) {pc : Nat} {ls : Array Slot} {st : List Value} {pc' : Nat} {k : Fin 4} {v : Value} (hd : decode c.code pc = .ok (.aload_n k, 1)) (hl : ls[k.val]? = some (.val v)) (hv : v.isRef = true) (k : Wq p e below En Q (T.setTop (mkF m pc' ls (v :: st)))) (hpc : pc + 1 = pc' := by rfl) : Wq p e below En Q (T.setTop (mkF m pc ls st)) := by subst hpc; exact Wq.step (fun _ q => XS.aloadN X.here hx rfl hd hl hv q) k
theorem W.astoreN (X : Stand p l e R s m args below meth c T locs cells slots) (hx : p.tables.exec = Jvm.exec) {pc : Nat} {ls : Array Slot} {st : List Value} {pc' : Nat} {k : Fin 4} {x : Value} {l' : Array Slot} (hd : decode c.code pc = .ok (.astore_n k, 1)) (hv : x.isRef = true) (hl : storeLocals ls k.val x = some l') (k : Wq p e below En Q (T.setTop (mkF m pc' l' st))) (hpc : pc + 1 = pc' := by rfl) : Wq p e below En Q (T.setTop (mkF m pc ls (x :: st))) := by subst hpc; exact Wq.step (fun _ q => XS.astoreN X.here hx rfl hd rfl hv hl q) k
theorem W.iload (X : Stand p l e R s m args below meth c T locs cells slots) (hx : p.tables.exec = Jvm.exec) {pc : Nat} {ls : Array Slot} {st : List Value} {pc' : Nat} {k : Nat} {v : Int32} (hd : decode c.code pc = .ok (.iload k, 2)) (hl : ls[k]? = some (.val (.int v))) (k : Wq p e below En Q (T.setTop (mkF m pc' ls (.int v :: st)))) (hpc : pc + 2 = pc' := by rfl) : Wq p e below En Q (T.setTop (mkF m pc ls st)) := by subst hpc; exact Wq.step (fun _ q => XS.iload X.here hx rfl hd hl q) k
theorem W.istore (X : Stand p l e R s m args below meth c T locs cells slots) (hx : p.tables.exec = Jvm.exec) {pc : Nat} {ls : Array Slot} {st : List Value} {pc' : Nat} {k : Nat} {x : Int32} {l' : Array Slot} (hd : decode c.code pc = .ok (.istore k, 2)) (hl : storeLocals ls k (.int x) = some l') (k : Wq p e below En Q (T.setTop (mkF m pc' l' st))) (hpc : pc + 2 = pc' := by rfl) : Wq p e below En Q (T.setTop (mkF m pc ls (.int x :: st))) := by subst hpc; exact Wq.step (fun _ q => XS.istore X.here hx rfl hd rfl hl q) k
theorem W.lload (X : Stand p l e R s m args below meth c T locs cells slots) (hx : p.tables.exec = Jvm.exec) {pc : Nat} {ls : Array Slot} {st : List Value} {pc' : Nat} {k : Nat} {v : Int64} (hd : decode c.code pc = .ok (.lload k, 2)) (hl : ls[k]? = some (.val (.long v))) (k : Wq p e below En Q (T.setTop (mkF m pc' ls (.long v :: st)))) (hpc : pc + 2 = pc' := by rfl) : Wq p e below En Q (T.setTop (mkF m pc ls st)) := by subst hpc; exact Wq.step (fun _ q => XS.lload X.here hx rfl hd hl q) k
theorem W.lstore (X : Stand p l e R s m args below meth c T locs cells slots) (hx : p.tables.exec = Jvm.exec) {pc : Nat} {ls : Array Slot} {st : List Value} {pc' : Nat} {k : Nat} {x : Int64} {l' : Array Slot} (hd : decode c.code pc = .ok (.lstore k, 2)) (hl : storeLocals ls k (.long x) = some l') (k : Wq p e below En Q (T.setTop (mkF m pc' l' st))) (hpc : pc + 2 = pc' := by rfl) : Wq p e below En Q (T.setTop (mkF m pc ls (.long x :: st))) := by subst hpc; exact Wq.step (fun _ q => XS.lstore X.here hx rfl hd rfl hl q) k
theorem W.aload (X : Stand p l e R s m args below meth c T locs cells slots) (hx : p.tables.exec = Jvm.exec) {pc : Nat} {ls : Array Slot} {st : List Value} {pc' : Nat} {k : Nat} {v : Value} (hd : decode c.code pc = .ok (.aload k, 2)) (hl : ls[k]? = some (.val v)) (hv : v.isRef = true) (k : Wq p e below En Q (T.setTop (mkF m pc' ls (v :: st)))) (hpc : pc + 2 = pc' := by rfl) : Wq p e below En Q (T.setTop (mkF m pc ls st)) := by subst hpc; exact Wq.step (fun _ q => XS.aload X.here hx rfl hd hl hv q) k
theorem W.astore (X : Stand p l e R s m args below meth c T locs cells slots) (hx : p.tables.exec = Jvm.exec) {pc : Nat} {ls : Array Slot} {st : List Value} {pc' : Nat} {k : Nat} {x : Value} {l' : Array Slot} (hd : decode c.code pc = .ok (.astore k, 2)) (hv : x.isRef = true) (hl : storeLocals ls k x = some l') (k : Wq p e below En Q (T.setTop (mkF m pc' l' st))) (hpc : pc + 2 = pc' := by rfl) : Wq p e below En Q (T.setTop (mkF m pc ls (x :: st))) := by subst hpc; exact Wq.step (fun _ q => XS.astore X.here hx rfl hd rfl hv hl q) k
theorem W.istoreNS (X : Stand p l e R s m args below meth c T locs cells slots) (hx : p.tables.exec = Jvm.exec) {pc pc' : Nat} {ls : Array Slot} {st : List Value} {k : Fin 4} {x : Int32} {o : Slot} {l' : Array Slot} (hd : decode c.code pc = .ok (.istore_n k, 1)) (hold : ls[k.val]? = some o) (ho : o = .unset ∨ ∃ w, o = .val w ∧ w.category = 1) (hl : ls.setIfInBounds k.val (.val (.int x)) = l') (q : Wq p e below En Q (T.setTop (mkF m pc' l' st))) (hpc : pc + 1 = pc' := by rfl) : Wq p e below En Q (T.setTop (mkF m pc ls (.int x :: st))) := by
  subst hpc hl
  exact Wq.step (fun _ z => XS.istoreN X.here hx rfl hd rfl (XS.store1 hold ho rfl) z) q
theorem W.istoreS (X : Stand p l e R s m args below meth c T locs cells slots) (hx : p.tables.exec = Jvm.exec) {pc pc' : Nat} {ls : Array Slot} {st : List Value} {k : Nat} {x : Int32} {o : Slot} {l' : Array Slot} (hd : decode c.code pc = .ok (.istore k, 2)) (hold : ls[k]? = some o) (ho : o = .unset ∨ ∃ w, o = .val w ∧ w.category = 1) (hl : ls.setIfInBounds k (.val (.int x)) = l') (q : Wq p e below En Q (T.setTop (mkF m pc' l' st))) (hpc : pc + 2 = pc' := by rfl) : Wq p e below En Q (T.setTop (mkF m pc ls (.int x :: st))) := by
  subst hpc hl
  exact Wq.step (fun _ z => XS.istore X.here hx rfl hd rfl (XS.store1 hold ho rfl) z) q
theorem W.iconst (X : Stand p l e R s m args below meth c T locs cells slots) (hx : p.tables.exec = Jvm.exec) {pc : Nat} {ls : Array Slot} {st : List Value} {pc' : Nat} {i : Int} {z : Int32} (hd : decode c.code pc = .ok (.iconst i, 1)) (hz : Int32.ofInt i = z) (k : Wq p e below En Q (T.setTop (mkF m pc' ls (.int z :: st)))) (hpc : pc + 1 = pc' := by rfl) : Wq p e below En Q (T.setTop (mkF m pc ls st)) := by subst hz hpc; exact Wq.step (fun _ q => XS.iconst X.here hx rfl hd  q) k
theorem W.bipush (X : Stand p l e R s m args below meth c T locs cells slots) (hx : p.tables.exec = Jvm.exec) {pc : Nat} {ls : Array Slot} {st : List Value} {pc' : Nat} {i : Int} {z : Int32} (hd : decode c.code pc = .ok (.bipush i, 2)) (hz : (Int8.ofInt i).toInt32 = z) (k : Wq p e below En Q (T.setTop (mkF m pc' ls (.int z :: st)))) (hpc : pc + 2 = pc' := by rfl) : Wq p e below En Q (T.setTop (mkF m pc ls st)) := by subst hz hpc; exact Wq.step (fun _ q => XS.bipush X.here hx rfl hd  q) k
theorem W.sipush (X : Stand p l e R s m args below meth c T locs cells slots) (hx : p.tables.exec = Jvm.exec) {pc : Nat} {ls : Array Slot} {st : List Value} {pc' : Nat} {i : Int} {z : Int32} (hd : decode c.code pc = .ok (.sipush i, 3)) (hz : (Int16.ofInt i).toInt32 = z) (k : Wq p e below En Q (T.setTop (mkF m pc' ls (.int z :: st)))) (hpc : pc + 3 = pc' := by rfl) : Wq p e below En Q (T.setTop (mkF m pc ls st)) := by subst hz hpc; exact Wq.step (fun _ q => XS.sipush X.here hx rfl hd  q) k
theorem W.lconst (X : Stand p l e R s m args below meth c T locs cells slots) (hx : p.tables.exec = Jvm.exec) {pc : Nat} {ls : Array Slot} {st : List Value} {pc' : Nat} {i : Fin 2} {z : Int64} (hd : decode c.code pc = .ok (.lconst i, 1)) (hz : Int64.ofNat i = z) (k : Wq p e below En Q (T.setTop (mkF m pc' ls (.long z :: st)))) (hpc : pc + 1 = pc' := by rfl) : Wq p e below En Q (T.setTop (mkF m pc ls st)) := by subst hz hpc; exact Wq.step (fun _ q => XS.lconst X.here hx rfl hd  q) k
theorem W.aconstNull (X : Stand p l e R s m args below meth c T locs cells slots) (hx : p.tables.exec = Jvm.exec) {pc : Nat} {ls : Array Slot} {st : List Value} {pc' : Nat}  (hd : decode c.code pc = .ok (.aconst_null, 1))  (k : Wq p e below En Q (T.setTop (mkF m pc' ls (.null :: st)))) (hpc : pc + 1 = pc' := by rfl) : Wq p e below En Q (T.setTop (mkF m pc ls st)) := by subst hpc; exact Wq.step (fun _ q => XS.aconstNull X.here hx rfl hd  q) k
theorem W.iadd (X : Stand p l e R s m args below meth c T locs cells slots) (hx : p.tables.exec = Jvm.exec) {pc : Nat} {ls : Array Slot} {st : List Value} {pc' : Nat} {x y z : Int32} (hd : decode c.code pc = .ok (.iadd, 1)) (hz : x + y = z) (k : Wq p e below En Q (T.setTop (mkF m pc' ls (.int z :: st)))) (hpc : pc + 1 = pc' := by rfl) : Wq p e below En Q (T.setTop (mkF m pc ls (.int y :: .int x :: st))) := by subst hz hpc; exact Wq.step (fun _ q => XS.iadd X.here hx rfl hd rfl q) k
theorem W.ladd (X : Stand p l e R s m args below meth c T locs cells slots) (hx : p.tables.exec = Jvm.exec) {pc : Nat} {ls : Array Slot} {st : List Value} {pc' : Nat} {x y z : Int64} (hd : decode c.code pc = .ok (.ladd, 1)) (hz : x + y = z) (k : Wq p e below En Q (T.setTop (mkF m pc' ls (.long z :: st)))) (hpc : pc + 1 = pc' := by rfl) : Wq p e below En Q (T.setTop (mkF m pc ls (.long y :: .long x :: st))) := by subst hz hpc; exact Wq.step (fun _ q => XS.ladd X.here hx rfl hd rfl q) k
theorem W.isub (X : Stand p l e R s m args below meth c T locs cells slots) (hx : p.tables.exec = Jvm.exec) {pc : Nat} {ls : Array Slot} {st : List Value} {pc' : Nat} {x y z : Int32} (hd : decode c.code pc = .ok (.isub, 1)) (hz : x - y = z) (k : Wq p e below En Q (T.setTop (mkF m pc' ls (.int z :: st)))) (hpc : pc + 1 = pc' := by rfl) : Wq p e below En Q (T.setTop (mkF m pc ls (.int y :: .int x :: st))) := by subst hz hpc; exact Wq.step (fun _ q => XS.isub X.here hx rfl hd rfl q) k
theorem W.lsub (X : Stand p l e R s m args below meth c T locs cells slots) (hx : p.tables.exec = Jvm.exec) {pc : Nat} {ls : Array Slot} {st : List Value} {pc' : Nat} {x y z : Int64} (hd : decode c.code pc = .ok (.lsub, 1)) (hz : x - y = z) (k : Wq p e below En Q (T.setTop (mkF m pc' ls (.long z :: st)))) (hpc : pc + 1 = pc' := by rfl) : Wq p e below En Q (T.setTop (mkF m pc ls (.long y :: .long x :: st))) := by subst hz hpc; exact Wq.step (fun _ q => XS.lsub X.here hx rfl hd rfl q) k
theorem W.imul (X : Stand p l e R s m args below meth c T locs cells slots) (hx : p.tables.exec = Jvm.exec) {pc : Nat} {ls : Array Slot} {st : List Value} {pc' : Nat} {x y z : Int32} (hd : decode c.code pc = .ok (.imul, 1)) (hz : x * y = z) (k : Wq p e below En Q (T.setTop (mkF m pc' ls (.int z :: st)))) (hpc : pc + 1 = pc' := by rfl) : Wq p e below En Q (T.setTop (mkF m pc ls (.int y :: .int x :: st))) := by subst hz hpc; exact Wq.step (fun _ q => XS.imul X.here hx rfl hd rfl q) k
theorem W.lmul (X : Stand p l e R s m args below meth c T locs cells slots) (hx : p.tables.exec = Jvm.exec) {pc : Nat} {ls : Array Slot} {st : List Value} {pc' : Nat} {x y z : Int64} (hd : decode c.code pc = .ok (.lmul, 1)) (hz : x * y = z) (k : Wq p e below En Q (T.setTop (mkF m pc' ls (.long z :: st)))) (hpc : pc + 1 = pc' := by rfl) : Wq p e below En Q (T.setTop (mkF m pc ls (.long y :: .long x :: st))) := by subst hz hpc; exact Wq.step (fun _ q => XS.lmul X.here hx rfl hd rfl q) k
theorem W.iand (X : Stand p l e R s m args below meth c T locs cells slots) (hx : p.tables.exec = Jvm.exec) {pc : Nat} {ls : Array Slot} {st : List Value} {pc' : Nat} {x y z : Int32} (hd : decode c.code pc = .ok (.iand, 1)) (hz : x &&& y = z) (k : Wq p e below En Q (T.setTop (mkF m pc' ls (.int z :: st)))) (hpc : pc + 1 = pc' := by rfl) : Wq p e below En Q (T.setTop (mkF m pc ls (.int y :: .int x :: st))) := by subst hz hpc; exact Wq.step (fun _ q => XS.iand X.here hx rfl hd rfl q) k
theorem W.land (X : Stand p l e R s m args below meth c T locs cells slots) (hx : p.tables.exec = Jvm.exec) {pc : Nat} {ls : Array Slot} {st : List Value} {pc' : Nat} {x y z : Int64} (hd : decode c.code pc = .ok (.land, 1)) (hz : x &&& y = z) (k : Wq p e below En Q (T.setTop (mkF m pc' ls (.long z :: st)))) (hpc : pc + 1 = pc' := by rfl) : Wq p e below En Q (T.setTop (mkF m pc ls (.long y :: .long x :: st))) := by subst hz hpc; exact Wq.step (fun _ q => XS.land X.here hx rfl hd rfl q) k
theorem W.ior (X : Stand p l e R s m args below meth c T locs cells slots) (hx : p.tables.exec = Jvm.exec) {pc : Nat} {ls : Array Slot} {st : List Value} {pc' : Nat} {x y z : Int32} (hd : decode c.code pc = .ok (.ior, 1)) (hz : x ||| y = z) (k : Wq p e below En Q (T.setTop (mkF m pc' ls (.int z :: st)))) (hpc : pc + 1 = pc' := by rfl) : Wq p e below En Q (T.setTop (mkF m pc ls (.int y :: .int x :: st))) := by subst hz hpc; exact Wq.step (fun _ q => XS.ior X.here hx rfl hd rfl q) k
theorem W.lor (X : Stand p l e R s m args below meth c T locs cells slots) (hx : p.tables.exec = Jvm.exec) {pc : Nat} {ls : Array Slot} {st : List Value} {pc' : Nat} {x y z : Int64} (hd : decode c.code pc = .ok (.lor, 1)) (hz : x ||| y = z) (k : Wq p e below En Q (T.setTop (mkF m pc' ls (.long z :: st)))) (hpc : pc + 1 = pc' := by rfl) : Wq p e below En Q (T.setTop (mkF m pc ls (.long y :: .long x :: st))) := by subst hz hpc; exact Wq.step (fun _ q => XS.lor X.here hx rfl hd rfl q) k
theorem W.ixor (X : Stand p l e R s m args below meth c T locs cells slots) (hx : p.tables.exec = Jvm.exec) {pc : Nat} {ls : Array Slot} {st : List Value} {pc' : Nat} {x y z : Int32} (hd : decode c.code pc = .ok (.ixor, 1)) (hz : x ^^^ y = z) (k : Wq p e below En Q (T.setTop (mkF m pc' ls (.int z :: st)))) (hpc : pc + 1 = pc' := by rfl) : Wq p e below En Q (T.setTop (mkF m pc ls (.int y :: .int x :: st))) := by subst hz hpc; exact Wq.step (fun _ q => XS.ixor X.here hx rfl hd rfl q) k
theorem W.lxor (X : Stand p l e R s m args below meth c T locs cells slots) (hx : p.tables.exec = Jvm.exec) {pc : Nat} {ls : Array Slot} {st : List Value} {pc' : Nat} {x y z : Int64} (hd : decode c.code pc = .ok (.lxor, 1)) (hz : x ^^^ y = z) (k : Wq p e below En Q (T.setTop (mkF m pc' ls (.long z :: st)))) (hpc : pc + 1 = pc' := by rfl) : Wq p e below En Q (T.setTop (mkF m pc ls (.long y :: .long x :: st))) := by subst hz hpc; exact Wq.step (fun _ q => XS.lxor X.here hx rfl hd rfl q) k
theorem W.ineg (X : Stand p l e R s m args below meth c T locs cells slots) (hx : p.tables.exec = Jvm.exec) {pc : Nat} {ls : Array Slot} {st : List Value} {pc' : Nat} {x : Int32} {z : Int32} (hd : decode c.code pc = .ok (.ineg, 1)) (hz : -x = z) (k : Wq p e below En Q (T.setTop (mkF m pc' ls (.int z :: st)))) (hpc : pc + 1 = pc' := by rfl) : Wq p e below En Q (T.setTop (mkF m pc ls (.int x :: st))) := by subst hz hpc; exact Wq.step (fun _ q => XS.ineg X.here hx rfl hd rfl q) k
theorem W.lneg (X : Stand p l e R s m args below meth c T locs cells slots) (hx : p.tables.exec = Jvm.exec) {pc : Nat} {ls : Array Slot} {st : List Value} {pc' : Nat} {x : Int64} {z : Int64} (hd : decode c.code pc = .ok (.lneg, 1)) (hz : -x = z) (k : Wq p e below En Q (T.setTop (mkF m pc' ls (.long z :: st)))) (hpc : pc + 1 = pc' := by rfl) : Wq p e below En Q (T.setTop (mkF m pc ls (.long x :: st))) := by subst hz hpc; exact Wq.step (fun _ q => XS.lneg X.here hx rfl hd rfl q) k
theorem W.i2l (X : Stand p l e R s m args below meth c T locs cells slots) (hx : p.tables.exec = Jvm.exec) {pc : Nat} {ls : Array Slot} {st : List Value} {pc' : Nat} {x : Int32} {z : Int64} (hd : decode c.code pc = .ok (.i2l, 1)) (hz : x.toInt64 = z) (k : Wq p e below En Q (T.setTop (mkF m pc' ls (.long z :: st)))) (hpc : pc + 1 = pc' := by rfl) : Wq p e below En Q (T.setTop (mkF m pc ls (.int x :: st))) := by subst hz hpc; exact Wq.step (fun _ q => XS.i2l X.here hx rfl hd rfl q) k
theorem W.l2i (X : Stand p l e R s m args below meth c T locs cells slots) (hx : p.tables.exec = Jvm.exec) {pc : Nat} {ls : Array Slot} {st : List Value} {pc' : Nat} {x : Int64} {z : Int32} (hd : decode c.code pc = .ok (.l2i, 1)) (hz : x.toInt32 = z) (k : Wq p e below En Q (T.setTop (mkF m pc' ls (.int z :: st)))) (hpc : pc + 1 = pc' := by rfl) : Wq p e below En Q (T.setTop (mkF m pc ls (.long x :: st))) := by subst hz hpc; exact Wq.step (fun _ q => XS.l2i X.here hx rfl hd rfl q) k
theorem W.i2b (X : Stand p l e R s m args below meth c T locs cells slots) (hx : p.tables.exec = Jvm.exec) {pc : Nat} {ls : Array Slot} {st : List Value} {pc' : Nat} {x : Int32} {z : Int32} (hd : decode c.code pc = .ok (.i2b, 1)) (hz : x.toInt8.toInt32 = z) (k : Wq p e below En Q (T.setTop (mkF m pc' ls (.int z :: st)))) (hpc : pc + 1 = pc' := by rfl) : Wq p e below En Q (T.setTop (mkF m pc ls (.int x :: st))) := by subst hz hpc; exact Wq.step (fun _ q => XS.i2b X.here hx rfl hd rfl q) k
theorem W.i2s (X : Stand p l e R s m args below meth c T locs cells slots) (hx : p.tables.exec = Jvm.exec) {pc : Nat} {ls : Array Slot} {st : List Value} {pc' : Nat} {x : Int32} {z : Int32} (hd : decode c.code pc = .ok (.i2s, 1)) (hz : x.toInt16.toInt32 = z) (k : Wq p e below En Q (T.setTop (mkF m pc' ls (.int z :: st)))) (hpc : pc + 1 = pc' := by rfl) : Wq p e below En Q (T.setTop (mkF m pc ls (.int x :: st))) := by subst hz hpc; exact Wq.step (fun _ q => XS.i2s X.here hx rfl hd rfl q) k
theorem W.i2c (X : Stand p l e R s m args below meth c T locs cells slots) (hx : p.tables.exec = Jvm.exec) {pc : Nat} {ls : Array Slot} {st : List Value} {pc' : Nat} {x : Int32} {z : Int32} (hd : decode c.code pc = .ok (.i2c, 1)) (hz : x.toUInt32.toUInt16.toUInt32.toInt32 = z) (k : Wq p e below En Q (T.setTop (mkF m pc' ls (.int z :: st)))) (hpc : pc + 1 = pc' := by rfl) : Wq p e below En Q (T.setTop (mkF m pc ls (.int x :: st))) := by subst hz hpc; exact Wq.step (fun _ q => XS.i2c X.here hx rfl hd rfl q) k
theorem W.ishl (X : Stand p l e R s m args below meth c T locs cells slots) (hx : p.tables.exec = Jvm.exec) {pc : Nat} {ls : Array Slot} {st : List Value} {pc' : Nat} {x : Int32} {y : Int32} {z : Int32} (hd : decode c.code pc = .ok (.ishl, 1)) (hz : x <<< (y &&& 31) = z) (k : Wq p e below En Q (T.setTop (mkF m pc' ls (.int z :: st)))) (hpc : pc + 1 = pc' := by rfl) : Wq p e below En Q (T.setTop (mkF m pc ls (.int y :: .int x :: st))) := by subst hz hpc; exact Wq.step (fun _ q => XS.ishl X.here hx rfl hd rfl q) k
theorem W.ishr (X : Stand p l e R s m args below meth c T locs cells slots) (hx : p.tables.exec = Jvm.exec) {pc : Nat} {ls : Array Slot} {st : List Value} {pc' : Nat} {x : Int32} {y : Int32} {z : Int32} (hd : decode c.code pc = .ok (.ishr, 1)) (hz : x >>> (y &&& 31) = z) (k : Wq p e below En Q (T.setTop (mkF m pc' ls (.int z :: st)))) (hpc : pc + 1 = pc' := by rfl) : Wq p e below En Q (T.setTop (mkF m pc ls (.int y :: .int x :: st))) := by subst hz hpc; exact Wq.step (fun _ q => XS.ishr X.here hx rfl hd rfl q) k
theorem W.iushr (X : Stand p l e R s m args below meth c T locs cells slots) (hx : p.tables.exec = Jvm.exec) {pc : Nat} {ls : Array Slot} {st : List Value} {pc' : Nat} {x : Int32} {y : Int32} {z : Int32} (hd : decode c.code pc = .ok (.iushr, 1)) (hz : (x.toUInt32 >>> (y &&& 31).toUInt32).toInt32 = z) (k : Wq p e below En Q (T.setTop (mkF m pc' ls (.int z :: st)))) (hpc : pc + 1 = pc' := by rfl) : Wq p e below En Q (T.setTop (mkF m pc ls (.int y :: .int x :: st))) := by subst hz hpc; exact Wq.step (fun _ q => XS.iushr X.here hx rfl hd rfl q) k
theorem W.lshl (X : Stand p l e R s m args below meth c T locs cells slots) (hx : p.tables.exec = Jvm.exec) {pc : Nat} {ls : Array Slot} {st : List Value} {pc' : Nat} {x : Int64} {y : Int32} {z : Int64} (hd : decode c.code pc = .ok (.lshl, 1)) (hz : x <<< (y &&& 0x3f).toInt64 = z) (k : Wq p e below En Q (T.setTop (mkF m pc' ls (.long z :: st)))) (hpc : pc + 1 = pc' := by rfl) : Wq p e below En Q (T.setTop (mkF m pc ls (.int y :: .long x :: st))) := by subst hz hpc; exact Wq.step (fun _ q => XS.lshl X.here hx rfl hd rfl q) k
theorem W.lshr (X : Stand p l e R s m args below meth c T locs cells slots) (hx : p.tables.exec = Jvm.exec) {pc : Nat} {ls : Array Slot} {st : List Value} {pc' : Nat} {x : Int64} {y : Int32} {z : Int64} (hd : decode c.code pc = .ok (.lshr, 1)) (hz : x >>> (y &&& 0x3f).toInt64 = z) (k : Wq p e below En Q (T.setTop (mkF m pc' ls (.long z :: st)))) (hpc : pc + 1 = pc' := by rfl) : Wq p e below En Q (T.setTop (mkF m pc ls (.int y :: .long x :: st))) := by subst hz hpc; exact Wq.step (fun _ q => XS.lshr X.here hx rfl hd rfl q) k
theorem W.lushr (X : Stand p l e R s m args below meth c T locs cells slots) (hx : p.tables.exec = Jvm.exec) {pc : Nat} {ls : Array Slot} {st : List Value} {pc' : Nat} {x : Int64} {y : Int32} {z : Int64} (hd : decode c.code pc = .ok (.lushr, 1)) (hz : (x.toUInt64 >>> (y &&& 0x3f).toInt64.toUInt64).toInt64 = z) (k : Wq p e below En Q (T.setTop (mkF m pc' ls (.long z :: st)))) (hpc : pc + 1 = pc' := by rfl) : Wq p e below En Q (T.setTop (mkF m pc ls (.int y :: .long x :: st))) := by subst hz hpc; exact Wq.step (fun _ q => XS.lushr X.here hx rfl hd rfl q) k
theorem W.lcmp (X : Stand p l e R s m args below meth c T locs cells slots) (hx : p.tables.exec = Jvm.exec) {pc : Nat} {ls : Array Slot} {st : List Value} {pc' : Nat} {x y : Int64} (hd : decode c.code pc = .ok (.lcmp, 1))  (k : Wq p e below En Q (T.setTop (mkF m pc' ls (.int (lcmpW x y) :: st)))) (hpc : pc + 1 = pc' := by rfl) : Wq p e below En Q (T.setTop (mkF m pc ls (.long y :: .long x :: st))) := by subst hpc; exact Wq.step (fun _ q => XS.lcmp X.here hx rfl hd rfl q) k
theorem W.idiv (X : Stand p l e R s m args below meth c T locs cells slots) (hx : p.tables.exec = Jvm.exec) {pc : Nat} {ls : Array Slot} {st : List Value} {pc' : Nat} {x y z : Int32} (hd : decode c.code pc = .ok (.idiv, 1)) (hy : y ≠ 0) (hz : x / y = z) (k : Wq p e below En Q (T.setTop (mkF m pc' ls (.int z :: st)))) (hpc : pc + 1 = pc' := by rfl) : Wq p e below En Q (T.setTop (mkF m pc ls (.int y :: .int x :: st))) := by subst hz hpc; exact Wq.step (fun _ q => XS.idiv X.here hx rfl hd rfl hy q) k
theorem W.ldiv (X : Stand p l e R s m args below meth c T locs cells slots) (hx : p.tables.exec = Jvm.exec) {pc : Nat} {ls : Array Slot} {st : List Value} {pc' : Nat} {x y z : Int64} (hd : decode c.code pc = .ok (.ldiv, 1)) (hy : y ≠ 0) (hz : x / y = z) (k : Wq p e below En Q (T.setTop (mkF m pc' ls (.long z :: st)))) (hpc : pc + 1 = pc' := by rfl) : Wq p e below En Q (T.setTop (mkF m pc ls (.long y :: .long x :: st))) := by subst hz hpc; exact Wq.step (fun _ q => XS.ldiv X.here hx rfl hd rfl hy q) k
theorem W.irem (X : Stand p l e R s m args below meth c T locs cells slots) (hx : p.tables.exec = Jvm.exec) {pc : Nat} {ls : Array Slot} {st : List Value} {pc' : Nat} {x y z : Int32} (hd : decode c.code pc = .ok (.irem, 1)) (hy : y ≠ 0) (hz : x % y = z) (k : Wq p e below En Q (T.setTop (mkF m pc' ls (.int z :: st)))) (hpc : pc + 1 = pc' := by rfl) : Wq p e below En Q (T.setTop (mkF m pc ls (.int y :: .int x :: st))) := by subst hz hpc; exact Wq.step (fun _ q => iremM X hx rfl hd rfl hy q) k
theorem W.lrem (X : Stand p l e R s m args below meth c T locs cells slots) (hx : p.tables.exec = Jvm.exec) {pc : Nat} {ls : Array Slot} {st : List Value} {pc' : Nat} {x y z : Int64} (hd : decode c.code pc = .ok (.lrem, 1)) (hy : y ≠ 0) (hz : x % y = z) (k : Wq p e below En Q (T.setTop (mkF m pc' ls (.long z :: st)))) (hpc : pc + 1 = pc' := by rfl) : Wq p e below En Q (T.setTop (mkF m pc ls (.long y :: .long x :: st))) := by
  rw [← lrem_mod] at hz
  subst hz hpc
  exact Wq.step (fun _ q => XS.lrem X.here hx rfl hd rfl hy q) k
theorem W.iinc (X : Stand p l e R s m args below meth c T locs cells slots) (hx : p.tables.exec = Jvm.exec) {pc : Nat} {ls : Array Slot} {st : List Value} {pc' : Nat} {i : Nat} {cst : Int} {x z : Int32} {l' : Array Slot} (hd : decode c.code pc = .ok (.iinc i cst, 3)) (hl : ls[i]? = some (.val (.int x))) (hl' : storeLocals ls i (.int (x + Int32.ofInt cst)) = some l') (k : Wq p e below En Q (T.setTop (mkF m pc' l' st))) (hpc : pc + 3 = pc' := by rfl) : Wq p e below En Q (T.setTop (mkF m pc ls st)) := by subst hpc; exact Wq.step (fun _ q => XS.iinc X.here hx rfl hd hl hl' q) k
theorem W.dup (X : Stand p l e R s m args below meth c T locs cells slots) (hx : p.tables.exec = Jvm.exec) {pc : Nat} {ls : Array Slot} {st : List Value} {pc' : Nat} {x : Value} (hd : decode c.code pc = .ok (.dup, 1)) (hc : x.category = 1) (k : Wq p e below En Q (T.setTop (mkF m pc' ls (x :: x :: st)))) (hpc : pc + 1 = pc' := by rfl) : Wq p e below En Q (T.setTop (mkF m pc ls (x :: st))) := by subst hpc; exact Wq.step (fun _ q => XS.dup X.here hx rfl hd rfl hc q) k
theorem W.pop (X : Stand p l e R s m args below meth c T locs cells slots) (hx : p.tables.exec = Jvm.exec) {pc : Nat} {ls : Array Slot} {st : List Value} {pc' : Nat} {x : Value} (hd : decode c.code pc = .ok (.pop, 1)) (hc : x.category = 1) (k : Wq p e below En Q (T.setTop (mkF m pc' ls st))) (hpc : pc + 1 = pc' := by rfl) : Wq p e below En Q (T.setTop (mkF m pc ls (x :: st))) := by subst hpc; exact Wq.step (fun _ q => XS.pop X.here hx rfl hd rfl hc q) k
theorem W.dupX1 (X : Stand p l e R s m args below meth c T locs cells slots) (hx : p.tables.exec = Jvm.exec) {pc : Nat} {ls : Array Slot} {st : List Value} {pc' : Nat} {x y : Value} (hd : decode c.code pc = .ok (.dup_x1, 1)) (hc : x.category = 1) (hc' : y.category = 1) (k : Wq p e below En Q (T.setTop (mkF m pc' ls (x :: y :: x :: st)))) (hpc : pc + 1 = pc' := by rfl) : Wq p e below En Q (T.setTop (mkF m pc ls (x :: y :: st))) := by subst hpc; exact Wq.step (fun _ q => XS.dupX1 X.here hx rfl hd rfl hc hc' q) k
theorem W.swap (X : Stand p l e R s m args below meth c T locs cells slots) (hx : p.tables.exec = Jvm.exec) {pc : Nat} {ls : Array Slot} {st : List Value} {pc' : Nat} {x y : Value} (hd : decode c.code pc = .ok (.swap, 1)) (hc : x.category = 1) (hc' : y.category = 1) (k : Wq p e below En Q (T.setTop (mkF m pc' ls (y :: x :: st)))) (hpc : pc + 1 = pc' := by rfl) : Wq p e below En Q (T.setTop (mkF m pc ls (x :: y :: st))) := by subst hpc; exact Wq.step (fun _ q => XS.swap X.here hx rfl hd rfl hc hc' q) k
theorem W.dup2 (X : Stand p l e R s m args below meth c T locs cells slots) (hx : p.tables.exec = Jvm.exec) {pc : Nat} {ls : Array Slot} {st : List Value} {pc' : Nat} {x y : Value} (hd : decode c.code pc = .ok (.dup2, 1)) (hc : x.category = 1) (hc' : y.category = 1) (k : Wq p e below En Q (T.setTop (mkF m pc' ls (x :: y :: x :: y :: st)))) (hpc : pc + 1 = pc' := by rfl) : Wq p e below En Q (T.setTop (mkF m pc ls (x :: y :: st))) := by subst hpc; exact Wq.step (fun _ q => Jvm.Free.XT.dup2 X.here hx rfl hd rfl hc hc' q) k
theorem W.dup2L (X : Stand p l e R s m args below meth c T locs cells slots) (hx : p.tables.exec = Jvm.exec) {pc : Nat} {ls : Array Slot} {st : List Value} {pc' : Nat} {x : Int64} (hd : decode c.code pc = .ok (.dup2, 1))  (k : Wq p e below En Q (T.setTop (mkF m pc' ls (.long x :: .long x :: st)))) (hpc : pc + 1 = pc' := by rfl) : Wq p e below En Q (T.setTop (mkF m pc ls (.long x :: st))) := by subst hpc; exact Wq.step (fun _ q => Jvm.Free.XT.dup2L X.here hx rfl hd rfl q) k
theorem W.goto (X : Stand p l e R s m args below meth c T locs cells slots) (hx : p.tables.exec = Jvm.exec) {pc : Nat} {ls : Array Slot} {st : List Value} {o : Int} {pc' : Nat} (hd : decode c.code pc = .ok (.goto o, 3)) (ho : 0 ≤ (pc : Int) + o) (hp : ((pc : Int) + o).toNat = pc') (k : Wq p e below En Q (T.setTop (mkF m pc' ls st))) : Wq p e below En Q (T.setTop (mkF m pc ls st)) := Wq.step (fun _ q => XS.goto X.here hx rfl rfl hd ho hp q) k
theorem W.ifYes (X : Stand p l e R s m args below meth c T locs cells slots) (hx : p.tables.exec = Jvm.exec) {pc : Nat} {ls : Array Slot} {st : List Value} {cd : ClassFile.Cond} {x : Int32} {o : Int} {pc' : Nat} (hd : decode c.code pc = .ok (.ifCond cd o, 3)) (hc : ifCond.holds cd x = true) (ho : 0 ≤ (pc : Int) + o) (hp : ((pc : Int) + o).toNat = pc') (k : Wq p e below En Q (T.setTop (mkF m pc' ls st))) : Wq p e below En Q (T.setTop (mkF m pc ls (.int x :: st))) := Wq.step (fun _ q => XS.ifYes X.here hx rfl rfl hd rfl hc ho hp q) k
theorem W.ifNo (X : Stand p l e R s m args below meth c T locs cells slots) (hx : p.tables.exec = Jvm.exec) {pc : Nat} {ls : Array Slot} {st : List Value} {pc' : Nat} {cd : ClassFile.Cond} {x : Int32} {o : Int} (hd : decode c.code pc = .ok (.ifCond cd o, 3)) (hc : ifCond.holds cd x = false) (k : Wq p e below En Q (T.setTop (mkF m pc' ls st))) (hpc : pc + 3 = pc' := by rfl) : Wq p e below En Q (T.setTop (mkF m pc ls (.int x :: st))) := by subst hpc; exact Wq.step (fun _ q => XS.ifNo X.here hx rfl hd rfl hc q) k
theorem W.icmpYes (X : Stand p l e R s m args below meth c T locs cells slots) (hx : p.tables.exec = Jvm.exec) {pc : Nat} {ls : Array Slot} {st : List Value} {cd : ClassFile.Cond} {x y : Int32} {o : Int} {pc' : Nat} (hd : decode c.code pc = .ok (.if_icmp cd o, 3)) (hc : if_icmp.holds cd x y = true) (ho : 0 ≤ (pc : Int) + o) (hp : ((pc : Int) + o).toNat = pc') (k : Wq p e below En Q (T.setTop (mkF m pc' ls st))) : Wq p e below En Q (T.setTop (mkF m pc ls (.int y :: .int x :: st))) := Wq.step (fun _ q => XS.icmpYes X.here hx rfl rfl hd rfl hc ho hp q) k
theorem W.icmpNo (X : Stand p l e R s m args below meth c T locs cells slots) (hx : p.tables.exec = Jvm.exec) {pc : Nat} {ls : Array Slot} {st : List Value} {pc' : Nat} {cd : ClassFile.Cond} {x y : Int32} {o : Int} (hd : decode c.code pc = .ok (.if_icmp cd o, 3)) (hc : if_icmp.holds cd x y = false) (k : Wq p e below En Q (T.setTop (mkF m pc' ls st))) (hpc : pc + 3 = pc' := by rfl) : Wq p e below En Q (T.setTop (mkF m pc ls (.int y :: .int x :: st))) := by subst hpc; exact Wq.step (fun _ q => XS.icmpNo X.here hx rfl hd rfl hc q) k
theorem W.ifnullYes (X : Stand p l e R s m args below meth c T locs cells slots) (hx : p.tables.exec = Jvm.exec) {pc : Nat} {ls : Array Slot} {st : List Value} {o : Int} {pc' : Nat} (hd : decode c.code pc = .ok (.ifnull o, 3)) (ho : 0 ≤ (pc : Int) + o) (hp : ((pc : Int) + o).toNat = pc') (k : Wq p e below En Q (T.setTop (mkF m pc' ls st))) : Wq p e below En Q (T.setTop (mkF m pc ls (.null :: st))) := Wq.step (fun _ q => XS.ifnullYes X.here hx rfl rfl hd rfl ho hp q) k
theorem W.ifnullNo (X : Stand p l e R s m args below meth c T locs cells slots) (hx : p.tables.exec = Jvm.exec) {pc : Nat} {ls : Array Slot} {st : List Value} {pc' : Nat} {o : Int} {b : Addr} (hd : decode c.code pc = .ok (.ifnull o, 3))  (k : Wq p e below En Q (T.setTop (mkF m pc' ls st))) (hpc : pc + 3 = pc' := by rfl) : Wq p e below En Q (T.setTop (mkF m pc ls (.ref b :: st))) := by subst hpc; exact Wq.step (fun _ q => XS.ifnullNo X.here hx rfl hd rfl q) k
theorem W.ifnonnullYes (X : Stand p l e R s m args below meth c T locs cells slots) (hx : p.tables.exec = Jvm.exec) {pc : Nat} {ls : Array Slot} {st : List Value} {o : Int} {b : Addr} {pc' : Nat} (hd : decode c.code pc = .ok (.ifnonnull o, 3)) (ho : 0 ≤ (pc : Int) + o) (hp : ((pc : Int) + o).toNat = pc') (k : Wq p e below En Q (T.setTop (mkF m pc' ls st))) : Wq p e below En Q (T.setTop (mkF m pc ls (.ref b :: st))) := Wq.step (fun _ q => XS.ifnonnullYes X.here hx rfl rfl hd rfl ho hp q) k
theorem W.ifnonnullNo (X : Stand p l e R s m args below meth c T locs cells slots) (hx : p.tables.exec = Jvm.exec) {pc : Nat} {ls : Array Slot} {st : List Value} {pc' : Nat} {o : Int} (hd : decode c.code pc = .ok (.ifnonnull o, 3))  (k : Wq p e below En Q (T.setTop (mkF m pc' ls st))) (hpc : pc + 3 = pc' := by rfl) : Wq p e below En Q (T.setTop (mkF m pc ls (.null :: st))) := by subst hpc; exact Wq.step (fun _ q => XS.ifnonnullNo X.here hx rfl hd rfl q) k
theorem W.acmp (X : Stand p l e R s m args below meth c T locs cells slots) (hx : p.tables.exec = Jvm.exec) {pc : Nat} {ls : Array Slot} {st : List Value} {cd : ACond} {x y : Value} {o : Int} {pc' : Nat} {same : Bool} (hd : decode c.code pc = .ok (.if_acmp cd o, 3)) (h1 : x.isRef = true) (h2 : y.isRef = true) (hq : decide (x = y) = same) (ho : 0 ≤ (pc : Int) + o) (hp : pc' = if acV cd same = true then ((pc : Int) + o).toNat else pc + 3) (k : Wq p e below En Q (T.setTop (mkF m pc' ls st))) : Wq p e below En Q (T.setTop (mkF m pc ls (y :: x :: st))) := Wq.step (fun _ q => Jvm.RoadKit.acmp (g := mkF m pc ls (y :: x :: st)) X hx rfl h1 h2 rfl hd rfl hq ho hp q) k
theorem W.ldcInt (X : Stand p l e R s m args below meth c T locs cells slots) (hx : p.tables.exec = Jvm.exec) (hZ : Z.Warmed39 s.vm) {a0 : Array Value} {own : String} {index : Nat} {v : Int32} {pc pc' : Nat} {ls : Array Slot} {st : List Value} (hown : s.vm.findClass own = some m.cls) (w : (Cond.constant own index v).before a0 Z = true) (hd : decode c.code pc = .ok (.ldc index, 2)) (k : Wq p e below En Q (T.setTop (mkF m pc' ls (.int v :: st)))) (hpc : pc + 2 = pc' := by rfl) : Wq p e below En Q (T.setTop (mkF m pc ls st)) := by subst hpc; exact Wq.step (fun _ q => X.ldcInt hx hown (mvT hZ w) (g := mkF m pc ls st) rfl hd _ q) k
theorem W.ldcwInt (X : Stand p l e R s m args below meth c T locs cells slots) (hx : p.tables.exec = Jvm.exec) (hZ : Z.Warmed39 s.vm) {a0 : Array Value} {own : String} {index : Nat} {v : Int32} {pc pc' : Nat} {ls : Array Slot} {st : List Value} (hown : s.vm.findClass own = some m.cls) (w : (Cond.constant own index v).before a0 Z = true) (hd : decode c.code pc = .ok (.ldc_w index, 3)) (k : Wq p e below En Q (T.setTop (mkF m pc' ls (.int v :: st)))) (hpc : pc + 3 = pc' := by rfl) : Wq p e below En Q (T.setTop (mkF m pc ls st)) := by subst hpc; exact Wq.step (fun _ q => X.ldcwInt hx hown (mvT hZ w) (g := mkF m pc ls st) rfl hd _ q) k
theorem W.ldc2Long (X : Stand p l e R s m args below meth c T locs cells slots) (hx : p.tables.exec = Jvm.exec) (hZ : Z.Warmed39 s.vm) {a0 : Array Value} {own : String} {index : Nat} {v : Int64} {pc pc' : Nat} {ls : Array Slot} {st : List Value} (hown : s.vm.findClass own = some m.cls) (w : (Cond.constantLong own index v).before a0 Z = true) (hd : decode c.code pc = .ok (.ldc2_w index, 3)) (k : Wq p e below En Q (T.setTop (mkF m pc' ls (.long v :: st)))) (hpc : pc + 3 = pc' := by rfl) : Wq p e below En Q (T.setTop (mkF m pc ls st)) := by subst hpc; exact Wq.step (fun _ q => X.ldc2Long hx hown (mvT hZ w) (g := mkF m pc ls st) rfl hd _ q) k
theorem W.ldI (X : Stand p l e R s m args below meth c T locs cells slots) (hx : p.tables.exec = Jvm.exec) (hZ : Z.Warmed39 s.vm) (eT : T.heap = h) (V : Al Z h a .int vs) {pc pc' : Nat} {ls : Array Slot} {st : List Value} {j : Int32} {i : Nat} (hd : decode c.code pc = .ok (.iaload, 1)) (hj : ¬ j < 0) (hi : j.toNatClampNeg = i) (hv : vs[i]? = some v) (k : Wq p e below En Q (T.setTop (mkF m pc' ls (v :: st)))) (hpc : pc + 1 = pc' := by rfl) : Wq p e below En Q (T.setTop (mkF m pc ls (.int j :: .ref a :: st))) := by subst hpc; exact Wq.step (fun _ q => Jvm.OwnW.ldI X hx hZ eT V hj hi hv (g := mkF m pc ls (.int j :: .ref a :: st)) rfl rfl hd q) k
theorem W.ldJ (X : Stand p l e R s m args below meth c T locs cells slots) (hx : p.tables.exec = Jvm.exec) (hZ : Z.Warmed39 s.vm) (eT : T.heap = h) (V : Al Z h a .long vs) {pc pc' : Nat} {ls : Array Slot} {st : List Value} {j : Int32} {i : Nat} (hd : decode c.code pc = .ok (.laload, 1)) (hj : ¬ j < 0) (hi : j.toNatClampNeg = i) (hv : vs[i]? = some v) (k : Wq p e below En Q (T.setTop (mkF m pc' ls (v :: st)))) (hpc : pc + 1 = pc' := by rfl) : Wq p e below En Q (T.setTop (mkF m pc ls (.int j :: .ref a :: st))) := by subst hpc; exact Wq.step (fun _ q => Jvm.OwnW.ldJ X hx hZ eT V hj hi hv (g := mkF m pc ls (.int j :: .ref a :: st)) rfl rfl hd q) k
theorem W.ldC (X : Stand p l e R s m args below meth c T locs cells slots) (hx : p.tables.exec = Jvm.exec) (hZ : Z.Warmed39 s.vm) (eT : T.heap = h) (V : Al Z h a .char vs) {pc pc' : Nat} {ls : Array Slot} {st : List Value} {j : Int32} {i : Nat} (hd : decode c.code pc = .ok (.caload, 1)) (hj : ¬ j < 0) (hi : j.toNatClampNeg = i) (hv : vs[i]? = some v) (k : Wq p e below En Q (T.setTop (mkF m pc' ls (v :: st)))) (hpc : pc + 1 = pc' := by rfl) : Wq p e below En Q (T.setTop (mkF m pc ls (.int j :: .ref a :: st))) := by subst hpc; exact Wq.step (fun _ q => Jvm.OwnW.ldC X hx hZ eT V hj hi hv (g := mkF m pc ls (.int j :: .ref a :: st)) rfl rfl hd q) k
theorem W.ldB (X : Stand p l e R s m args below meth c T locs cells slots) (hx : p.tables.exec = Jvm.exec) (hZ : Z.Warmed39 s.vm) (eT : T.heap = h) (V : Al Z h a .byte vs) {pc pc' : Nat} {ls : Array Slot} {st : List Value} {j : Int32} {i : Nat} (hd : decode c.code pc = .ok (.baload, 1)) (hj : ¬ j < 0) (hi : j.toNatClampNeg = i) (hv : vs[i]? = some v) (k : Wq p e below En Q (T.setTop (mkF m pc' ls (v :: st)))) (hpc : pc + 1 = pc' := by rfl) : Wq p e below En Q (T.setTop (mkF m pc ls (.int j :: .ref a :: st))) := by subst hpc; exact Wq.step (fun _ q => Jvm.OwnW.ldB X hx hZ eT V hj hi hv (g := mkF m pc ls (.int j :: .ref a :: st)) rfl rfl hd q) k
theorem W.ldZ (X : Stand p l e R s m args below meth c T locs cells slots) (hx : p.tables.exec = Jvm.exec) (hZ : Z.Warmed39 s.vm) (eT : T.heap = h) (V : Al Z h a .boolean vs) {pc pc' : Nat} {ls : Array Slot} {st : List Value} {j : Int32} {i : Nat} (hd : decode c.code pc = .ok (.baload, 1)) (hj : ¬ j < 0) (hi : j.toNatClampNeg = i) (hv : vs[i]? = some v) (k : Wq p e below En Q (T.setTop (mkF m pc' ls (v :: st)))) (hpc : pc + 1 = pc' := by rfl) : Wq p e below En Q (T.setTop (mkF m pc ls (.int j :: .ref a :: st))) := by subst hpc; exact Wq.step (fun _ q => Jvm.OwnW.ldZ X hx hZ eT V hj hi hv (g := mkF m pc ls (.int j :: .ref a :: st)) rfl rfl hd q) k
theorem W.ldR (X : Stand p l e R s m args below meth c T locs cells slots) (hx : p.tables.exec = Jvm.exec) (hZ : Z.Warmed39 s.vm) (eT : T.heap = h) (V : Al Z h a ty vs) (hty : ty.isReference = true) {pc pc' : Nat} {ls : Array Slot} {st : List Value} {j : Int32} {i : Nat} (hd : decode c.code pc = .ok (.aaload, 1)) (hj : ¬ j < 0) (hi : j.toNatClampNeg = i) (hv : vs[i]? = some v) (k : Wq p e below En Q (T.setTop (mkF m pc' ls (v :: st)))) (hpc : pc + 1 = pc' := by rfl) : Wq p e below En Q (T.setTop (mkF m pc ls (.int j :: .ref a :: st))) := by
  subst hpc
  obtain ⟨cl, A, r⟩ := V
  exact Wq.step (fun _ q => X.aaload hx (by rw [eT]; exact A.1) (State.isArrayOf_alike hZ.alike A.2.1) hty A.2.2 (al_in r hj hi (al_lt hv)) (al_at r hi hv) (g := mkF m pc ls (.int j :: .ref a :: st)) rfl rfl hd _ q) k
theorem W.lenA (X : Stand p l e R s m args below meth c T locs cells slots) (hx : p.tables.exec = Jvm.exec) (hZ : Z.Warmed39 s.vm) (eT : T.heap = h) (V : Al Z h a ty vs) {pc pc' : Nat} {ls : Array Slot} {st : List Value} {n : Int32} (hd : decode c.code pc = .ok (.arraylength, 1)) (hn : vs.length.toInt32 = n) (k : Wq p e below En Q (T.setTop (mkF m pc' ls (.int n :: st)))) (hpc : pc + 1 = pc' := by rfl) : Wq p e below En Q (T.setTop (mkF m pc ls (.ref a :: st))) := by subst hpc; exact Wq.step (fun _ q => Jvm.OwnW.lenA X hx hZ eT V hn (g := mkF m pc ls (.ref a :: st)) rfl rfl hd q) k
end Base
end Jvm.OwnW
namespace Jvm.Pilot.@@N@@
open Jvm Jvm.ClassFile Sem Op Lib Jvm.Free Jvm.Stand Jvm.LawKit Jvm.RoadKit Jvm.OwnW Bundle Jvm.Pilot.@@N@@.Jvm.D
theorem d_prog_37_method_5_0 : decode prog_37_method_5_code 0 = .ok (.lload_n 0, 1) := by decide +kernel
theorem d_prog_37_method_5_1 : decode prog_37_method_5_code 1 = .ok (.lload_n 2, 1) := by decide +kernel
theorem d_prog_37_method_5_2 : decode prog_37_method_5_code 2 = .ok (.lload_n 0, 1) := by decide +kernel
theorem d_prog_37_method_5_3 : decode prog_37_method_5_code 3 = .ok (.lsub, 1) := by decide +kernel
theorem d_prog_37_method_5_4 : decode prog_37_method_5_code 4 = .ok (.lload 4, 2) := by decide +kernel
theorem d_prog_37_method_5_6 : decode prog_37_method_5_code 6 = .ok (.ldiv, 1) := by decide +kernel
theorem d_prog_37_method_5_7 : decode prog_37_method_5_code 7 = .ok (.lload 4, 2) := by decide +kernel
theorem d_prog_37_method_5_9 : decode prog_37_method_5_code 9 = .ok (.lmul, 1) := by decide +kernel
theorem d_prog_37_method_5_10 : decode prog_37_method_5_code 10 = .ok (.ladd, 1) := by decide +kernel
theorem pn1 : plainName "com/example/gangorra/gangorra/Millis" = true := by first | (simp [plainName, overriddenIn]; done) | decide +kernel
theorem ef_leb (m : MethodId) (yleb_1 : Int64) (yleb_2 : Int64) (yleb_3 : Int64) : entryFrame m #[(.long yleb_1), (.long yleb_2), (.long yleb_3)] 6 = mkF m 0 #[.val (.long yleb_1), .second, .val (.long yleb_2), .second, .val (.long yleb_3), .second] [] := by first | (simp [entryFrame, mkF, argsToLocals, Value.category]; done) | rfl
def f_leb (yleb_1 : Int64) (yleb_2 : Int64) (yleb_3 : Int64) : Int64 := (yleb_1 + (((yleb_2 - yleb_1) / yleb_3) * yleb_3))
def Q_leb (Z : State) (yleb_1 : Int64) (yleb_2 : Int64) (yleb_3 : Int64) (h0 : Heap) (n0 : Nat) (v : Option Value) (h : Heap) (L : List Loc) : Prop := v = some (.long (f_leb yleb_1 yleb_2 yleb_3)) ∧ Fr n0 L ∧ h = h0
theorem d_prog_37_method_5_11 : decode prog_37_method_5_code 11 = .ok (.lreturn, 1) := by decide +kernel
abbrev mt1 : MethodName := ⟨"com/example/gangorra/gangorra/Millis", "lastEndBy", "(JJJ)J"⟩
set_option maxRecDepth 65536 in
set_option maxHeartbeats 40000000 in
theorem rm_leb (l : Launch) (Z : State) (a0 : Array Value) (hw : ∀ d ∈ tables_1, d.before a0 Z = true) (ws : List Jvm.Cond) (yleb_1 : Int64) (yleb_2 : Int64) (yleb_3 : Int64) (h0 : Heap) (n0 : Nat) (Z0 : n0 ≤ h0.size) (hnz : yleb_3 ≠ (0 : Int64)) :
    MetFree l mt1 (head1 (Jvm.Cond.code mt1 prog_37_method_5_code 6 (some .long) :: ws) ({ frames := 0, cells := 0, slots := 0, locals := 0 } : Room)) (fun a U => a = #[(.long yleb_1), (.long yleb_2), (.long yleb_3)] ∧ Z.Warmed39 U.vm ∧ U.heap = h0) (fun _ _ _ _ _ => True) (fun _ U o U' => ∃ v L, o = .returned v ∧ (Q_leb Z yleb_1 yleb_2 yleb_3 h0 n0) v U'.heap L ∧ FrameEnd U o U' L ({ frames := 0, cells := 0, slots := 0, locals := 0 } : Room).cells ({ frames := 0, cells := 0, slots := 0, locals := 0 } : Room).slots) := by
  refine MetFree.of_bodySF (plainFor_of_name pn1) hisR ?_
  intro p e s m args below meth c s₁ Bd hml0 hP hK
  obtain ⟨rfl, hZ, hh⟩ := hP
  have hx := Bd.exec
  have hby := Bd.bytes
  have hml : c.maxLocals = 6 := hml0
  have hown : s.vm.findClass "com/example/gangorra/gangorra/Millis" = some m.cls := findClass_of_methodNamed Bd.named
  have hnm := (name_of_methodNamed Bd.named Bd.method).1
  have X0 : Stand p l e ({ frames := 0, cells := 0, slots := 0, locals := 0 } : Room) s m #[(.long yleb_1), (.long yleb_2), (.long yleb_3)] below meth c s₁ [] 0 0 := Stand.of_body Bd
  have e0 : s₁.heap = h0 := by rw [← hh, Bd.state]; rfl
  have N0 := Fr.nil n0
  refine Wq.step (p := p) (e := e) (below := below) (En := (fun o t L => FrameEnd s o t L ({ frames := 0, cells := 0, slots := 0, locals := 0 } : Room).cells ({ frames := 0, cells := 0, slots := 0, locals := 0 } : Room).slots)) (Q := (Q_leb Z yleb_1 yleb_2 yleb_3 h0 n0)) (fun t k => castTop (ef_leb m yleb_1 yleb_2 yleb_3) k) ?_
  show Wq _ _ _ _ _ (s₁.setTop (mkF m 0 #[.val (.long yleb_1), .second, .val (.long yleb_2), .second, .val (.long yleb_3), .second] []))
  refine W.lloadN X0 hx (pc' := 1) (hb hby d_prog_37_method_5_0) rfl ?_
  refine W.lloadN X0 hx (pc' := 2) (hb hby d_prog_37_method_5_1) rfl ?_
  refine W.lloadN X0 hx (pc' := 3) (hb hby d_prog_37_method_5_2) rfl ?_
  refine W.lsub X0 hx (pc' := 4) (hb hby d_prog_37_method_5_3) (z := (yleb_2 - yleb_1)) rfl ?_
  refine W.lload X0 hx (pc' := 6) (hb hby d_prog_37_method_5_4) rfl ?_
  refine W.ldiv X0 hx (pc' := 7) (hb hby d_prog_37_method_5_6) (hnz : yleb_3 ≠ (0 : Int64)) (z := ((yleb_2 - yleb_1) / yleb_3)) rfl ?_
  refine W.lload X0 hx (pc' := 9) (hb hby d_prog_37_method_5_7) rfl ?_
  refine W.lmul X0 hx (pc' := 10) (hb hby d_prog_37_method_5_9) (z := (((yleb_2 - yleb_1) / yleb_3) * yleb_3)) rfl ?_
  refine W.ladd X0 hx (pc' := 11) (hb hby d_prog_37_method_5_10) (z := (yleb_1 + (((yleb_2 - yleb_1) / yleb_3) * yleb_3))) rfl ?_
  exact Wq.ret X0 (BodyLoose.notSynchronized Bd) (rv := some (.long (yleb_1 + (((yleb_2 - yleb_1) / yleb_3) * yleb_3)))) (fun h => by rw [Bd.returns] at h; cases h) (fun _ hr => retOut X0 hx Bd.returns rfl (Or.inr (Or.inl ⟨rfl, rfl, _, rfl⟩)) (hb hby d_prog_37_method_5_11) hr) (by decide) (by decide) ⟨rfl, N0, e0⟩
theorem own_ushr (x : Int64) (k : Int32) (hx : 0 ≤ x.toInt) : 0 ≤ ((x.toUInt64 >>> (k &&& 0x3f).toInt64.toUInt64).toInt64).toInt := by
  have h1 : x.toUInt64.toNat < 2 ^ 63 := by
    have := x.toInt_lt
    have e : x.toUInt64.toNat = x.toBitVec.toNat := rfl
    rw [e]
    have q : x.toInt = x.toBitVec.toInt := rfl
    rw [q, BitVec.toInt_eq_toNat_cond] at hx
    split at hx <;> omega
  have h2 : (x.toUInt64 >>> (k &&& 0x3f).toInt64.toUInt64).toNat < 2 ^ 63 := by
    rw [UInt64.toNat_shiftRight]
    exact Nat.lt_of_le_of_lt (Nat.shiftRight_le _ _) h1
  generalize (x.toUInt64 >>> (k &&& 0x3f).toInt64.toUInt64) = u at *
  have q : u.toInt64.toInt = u.toBitVec.toInt := rfl
  rw [q, BitVec.toInt_eq_toNat_cond]
  have e : u.toBitVec.toNat = u.toNat := rfl
  rw [e]
  split <;> omega
theorem own_math {a b c D N J I : Int64} {t s : Int32}
    (hD : (((b &&& (9223372036854775807 : Int64)).toUInt64 >>> ((t &&& (63 : Int32)) &&& 0x3f).toInt64.toUInt64).toInt64) = D) (hN : (a + D) = N) (hlt : ¬ N < a)
    (hJ : (((c &&& (9223372036854775807 : Int64)).toUInt64 >>> ((s &&& (63 : Int32)) &&& 0x3f).toInt64.toUInt64).toInt64) = J) (hI : (if J = (0 : Int64) then (1 : Int64) else J) = I) :
    I ≠ 0 ∧ ∀ R : Int64, (f_leb a N I = R → ¬ R < a ∧ ¬ N < R ∧ ((R - a) % I) = (0 : Int64) ∧ (N - R) < I) := by
  have hD0 : 0 ≤ D.toInt := by rw [← hD]; exact own_ushr _ _ (by rw [c_maskL b (9223372036854775807 : Int64) 63 (by decide) (by decide)]; omega)
  have hJ0 : 0 ≤ J.toInt := by rw [← hJ]; exact own_ushr _ _ (by rw [c_maskL c (9223372036854775807 : Int64) 63 (by decide) (by decide)]; omega)
  have e0 : (0 : Int64).toInt = 0 := by decide
  have e1 : (1 : Int64).toInt = 1 := by decide
  have em : (-1 : Int64).toInt = -1 := by decide
  have hI1 : 1 ≤ I.toInt := by
    by_cases q : J = (0 : Int64)
    · rw [if_pos q] at hI; rw [← hI, e1]; omega
    · rw [if_neg q] at hI; rw [← hI]
      have : J.toInt ≠ 0 := fun z => q (Int64.toInt_inj.mp (by rw [z, e0]))
      omega
  refine ⟨fun z => by rw [z, e0] at hI1; omega, fun R hR => ?_⟩
  have ra := rng64 a
  have rD := rng64 D
  have rN := rng64 N
  have hs := c_ladd a D
  rw [hN] at hs
  rw [Int64.lt_iff_toInt_lt] at hlt
  have hNe : N.toInt = a.toInt + D.toInt := by omega
  have hsub := c_lsub N a
  have rs := rng64 (N - a)
  have hNa : (N - a).toInt = D.toInt := by omega
  have hdiv := (c_ldiv (N - a) I I.toInt rfl (fun z => by rw [z, em] at hI1; omega)).1 (by omega)
  rw [hNa] at hdiv
  have hq0 : 0 ≤ D.toInt / I.toInt := Int.ediv_nonneg hD0 (by omega)
  have hle : D.toInt / I.toInt * I.toInt ≤ D.toInt := Int.ediv_mul_le _ (by omega)
  have hlt2 : D.toInt < D.toInt / I.toInt * I.toInt + I.toInt := by
    have := Int.lt_ediv_add_one_mul_self D.toInt (show 0 < I.toInt by omega)
    rw [Int.add_mul, Int.one_mul] at this; exact this
  have hp0 : 0 ≤ D.toInt / I.toInt * I.toInt := Int.mul_nonneg hq0 (by omega)
  have hm := c_lmul ((N - a) / I) I
  rw [hdiv] at hm
  have rm := rng64 ((N - a) / I * I)
  have hME : ((N - a) / I * I).toInt = D.toInt / I.toInt * I.toInt := by
    generalize D.toInt / I.toInt * I.toInt = P at *
    omega
  have hRR : R = a + (N - a) / I * I := by rw [← hR]; rfl
  have hr := c_ladd a ((N - a) / I * I)
  rw [← hRR, hME] at hr
  have rR := rng64 R
  have hRe : R.toInt = a.toInt + D.toInt / I.toInt * I.toInt := by
    generalize D.toInt / I.toInt * I.toInt = P at *
    omega
  have ho := c_lsub R a
  have ro := rng64 (R - a)
  have hOff : (R - a).toInt = D.toInt / I.toInt * I.toInt := by
    generalize D.toInt / I.toInt * I.toInt = P at *
    omega
  have hn := c_lsub N R
  have rn := rng64 (N - R)
  refine ⟨?_, ?_, ?_, ?_⟩
  · rw [Int64.lt_iff_toInt_lt]
    generalize D.toInt / I.toInt * I.toInt = P at *
    omega
  · rw [Int64.lt_iff_toInt_lt]
    generalize D.toInt / I.toInt * I.toInt = P at *
    omega
  · apply Int64.toInt_inj.mp
    rw [Int64.toInt_mod, hOff, e0]
    exact Int.mul_tmod_left _ _
  · rw [Int64.lt_iff_toInt_lt]
    generalize D.toInt / I.toInt * I.toInt = P at *
    omega
theorem kw0 {Z : State} {a0 : Array Value} (hw : ∀ d ∈ tables_1, d.before a0 Z = true) : (Jvm.Cond.constantLong "com/example/gangorra/gangorra/MillisLastEndByPinLaw" (9 : Nat) (9223372036854775807 : Int64)).before a0 Z = true := hw _ (List.mem_of_getElem? (i := 0) rfl)
theorem kw4 {Z : State} {a0 : Array Value} (hw : ∀ d ∈ tables_1, d.before a0 Z = true) : (Jvm.Cond.code ({ cls := "com/example/gangorra/gangorra/Millis", name := "lastEndBy", desc := "(JJJ)J" } : Jvm.MethodName) prog_37_method_5_code (6 : Nat) (Option.some Jvm.ClassFile.FieldType.long)).before a0 Z = true := hw _ (List.mem_of_getElem? (i := 4) rfl)
theorem kw3 {Z : State} {a0 : Array Value} (hw : ∀ d ∈ tables_1, d.before a0 Z = true) : (Jvm.Cond.initialized "com/example/gangorra/gangorra/Millis").before a0 Z = true := hw _ (List.mem_of_getElem? (i := 3) rfl)
theorem pd1 : parseMethodDescriptor "(JJJ)J" = some ⟨[.long, .long, .long], some .long⟩ := by decide +kernel
theorem kw1 {Z : State} {a0 : Array Value} (hw : ∀ d ∈ tables_1, d.before a0 Z = true) : (Jvm.Cond.methodLink "com/example/gangorra/gangorra/MillisLastEndByPinLaw" (11 : Nat) ({ cls := "com/example/gangorra/gangorra/Millis", name := "lastEndBy", desc := "(JJJ)J" } : Jvm.MethodName)).before a0 Z = true := hw _ (List.mem_of_getElem? (i := 1) rfl)
theorem kw2 {Z : State} {a0 : Array Value} (hw : ∀ d ∈ tables_1, d.before a0 Z = true) : (Jvm.Cond.static ({ cls := "com/example/gangorra/gangorra/Millis", name := "lastEndBy", desc := "(JJJ)J" } : Jvm.MethodName)).before a0 Z = true := hw _ (List.mem_of_getElem? (i := 2) rfl)
theorem pn2 : plainName "com/example/gangorra/gangorra/MillisLastEndByPinLaw" = true := by first | (simp [plainName, overriddenIn]; done) | decide +kernel
theorem ef_law (m : MethodId) (ylaw_1 : Int64) (ylaw_2 : Int64) (xlaw_3 : Int32) (ylaw_4 : Int64) (xlaw_5 : Int32) : entryFrame m #[(.long ylaw_1), (.long ylaw_2), (.int xlaw_3), (.long ylaw_4), (.int xlaw_5)] maxLocals = mkF m 0 #[.val (.long ylaw_1), .second, .val (.long ylaw_2), .second, .val (.int xlaw_3), .val (.long ylaw_4), .second, .val (.int xlaw_5), .unset, .unset, .unset, .unset, .unset, .unset, .unset, .unset, .unset, .unset, .unset, .unset] [] := by first | (simp [entryFrame, mkF, argsToLocals, Value.category, maxLocals]; done) | rfl
def Q_law (n0 : Nat) (v : Option Value) (h : Heap) (L : List Loc) : Prop := v = some (.int 1) ∧ Fr n0 L
set_option maxRecDepth 65536 in
set_option maxHeartbeats 40000000 in
theorem rm_law (l : Launch) (Z : State) (a0 : Array Value) (hw : ∀ d ∈ tables_1, d.before a0 Z = true) (ws : List Jvm.Cond) (ylaw_1 : Int64) (ylaw_2 : Int64) (xlaw_3 : Int32) (ylaw_4 : Int64) (xlaw_5 : Int32) (h0 : Heap) (n0 : Nat) (Z0 : n0 ≤ h0.size)  :
    MetFree l x (head1 (Jvm.Cond.code x code maxLocals ret :: ws) room_1) (fun a U => a = #[(.long ylaw_1), (.long ylaw_2), (.int xlaw_3), (.long ylaw_4), (.int xlaw_5)] ∧ Z.Warmed39 U.vm ∧ U.heap = h0) (fun _ _ _ _ _ => True) (fun _ U o U' => ∃ v L, o = .returned v ∧ (Q_law n0) v U'.heap L ∧ FrameEnd U o U' L 0 0) := by
  refine MetFree.of_bodySF (plainFor_of_name pn2) hisR ?_
  intro p e s m args below meth c s₁ Bd hml0 hP hK
  obtain ⟨rfl, hZ, hh⟩ := hP
  have hx := Bd.exec
  have hby := Bd.bytes
  have hml : c.maxLocals = 20 := hml0
  have hown : s.vm.findClass "com/example/gangorra/gangorra/MillisLastEndByPinLaw" = some m.cls := findClass_of_methodNamed Bd.named
  have hnm := (name_of_methodNamed Bd.named Bd.method).1
  have X0 : Stand p l e room_1 s m #[(.long ylaw_1), (.long ylaw_2), (.int xlaw_3), (.long ylaw_4), (.int xlaw_5)] below meth c s₁ [] 0 0 := Stand.of_body Bd
  have e0 : s₁.heap = h0 := by rw [← hh, Bd.state]; rfl
  have N0 := Fr.nil n0
  refine Wq.step (p := p) (e := e) (below := below) (En := (fun o t L => FrameEnd s o t L 0 0)) (Q := (Q_law n0)) (fun t k => castTop (ef_law m ylaw_1 ylaw_2 xlaw_3 ylaw_4 xlaw_5) k) ?_
  show Wq _ _ _ _ _ (s₁.setTop (mkF m 0 #[.val (.long ylaw_1), .second, .val (.long ylaw_2), .second, .val (.int xlaw_3), .val (.long ylaw_4), .second, .val (.int xlaw_5), .unset, .unset, .unset, .unset, .unset, .unset, .unset, .unset, .unset, .unset, .unset, .unset] []))
  refine W.lloadN X0 hx (pc' := 1) (hb hby at_0) rfl ?_
  refine W.lstore X0 hx (pc' := 3) (hb hby at_1) (l' := #[.val (.long ylaw_1), .second, .val (.long ylaw_2), .second, .val (.int xlaw_3), .val (.long ylaw_4), .second, .val (.int xlaw_5), .val (.long ylaw_1), .second, .unset, .unset, .unset, .unset, .unset, .unset, .unset, .unset, .unset, .unset]) rfl ?_
  refine W.lloadN X0 hx (pc' := 4) (hb hby at_3) rfl ?_
  refine W.ldc2Long X0 hx hZ (pc' := 7) hown (kw0 hw) (hb hby at_4) ?_
  refine W.land X0 hx (pc' := 8) (hb hby at_7) (z := (ylaw_2 &&& (9223372036854775807 : Int64))) rfl ?_
  refine W.iload X0 hx (pc' := 10) (hb hby at_8) rfl ?_
  refine W.bipush X0 hx (pc' := 12) (hb hby at_10) (z := (63 : Int32)) rfl ?_
  refine W.iand X0 hx (pc' := 13) (hb hby at_12) (z := (xlaw_3 &&& (63 : Int32))) rfl ?_
  refine W.lushr X0 hx (pc' := 14) (hb hby at_13) (z := (((ylaw_2 &&& (9223372036854775807 : Int64)).toUInt64 >>> ((xlaw_3 &&& (63 : Int32)) &&& 0x3f).toInt64.toUInt64).toInt64)) rfl ?_
  refine W.lstore X0 hx (pc' := 16) (hb hby at_14) (l' := #[.val (.long ylaw_1), .second, .val (.long ylaw_2), .second, .val (.int xlaw_3), .val (.long ylaw_4), .second, .val (.int xlaw_5), .val (.long ylaw_1), .second, .val (.long (((ylaw_2 &&& (9223372036854775807 : Int64)).toUInt64 >>> ((xlaw_3 &&& (63 : Int32)) &&& 0x3f).toInt64.toUInt64).toInt64)), .second, .unset, .unset, .unset, .unset, .unset, .unset, .unset, .unset]) rfl ?_
  generalize hv14 : (((ylaw_2 &&& (9223372036854775807 : Int64)).toUInt64 >>> ((xlaw_3 &&& (63 : Int32)) &&& 0x3f).toInt64.toUInt64).toInt64) = v14
  refine W.lload X0 hx (pc' := 18) (hb hby at_16) rfl ?_
  refine W.lload X0 hx (pc' := 20) (hb hby at_18) rfl ?_
  refine W.ladd X0 hx (pc' := 21) (hb hby at_20) (z := (ylaw_1 + v14)) rfl ?_
  refine W.lstore X0 hx (pc' := 23) (hb hby at_21) (l' := #[.val (.long ylaw_1), .second, .val (.long ylaw_2), .second, .val (.int xlaw_3), .val (.long ylaw_4), .second, .val (.int xlaw_5), .val (.long ylaw_1), .second, .val (.long v14), .second, .val (.long (ylaw_1 + v14)), .second, .unset, .unset, .unset, .unset, .unset, .unset]) rfl ?_
  generalize hv21 : (ylaw_1 + v14) = v21
  refine W.lload X0 hx (pc' := 25) (hb hby at_23) rfl ?_
  refine W.lload X0 hx (pc' := 27) (hb hby at_25) rfl ?_
  refine W.lcmp X0 hx (pc' := 28) (hb hby at_27)  ?_
  by_cases hc28 : v21 < ylaw_1
  · skip
    refine W.ifNo X0 hx (pc' := 31) (hb hby at_28) ((if0 _ _).trans (tlt ((lw_lt _ _).mpr hc28)).2.1) ?_
    refine W.iconst X0 hx (pc' := 32) (hb hby at_31) (z := (1 : Int32)) rfl ?_
    exact Wq.ret X0 (BodyLoose.notSynchronized Bd) (rv := some (.int (1 : Int32))) (fun h => by rw [Bd.returns] at h; cases h) (fun _ hr => retN X0 hx (t := .boolean) Bd.returns (by simp) (hb hby at_32) hr) (by decide) (by decide) ⟨rfl, N0⟩
  · skip
    refine W.ifYes X0 hx (pc' := 33) (hb hby at_28) ((if0 _ _).trans (flt (mt (lw_lt _ _).mp hc28)).2.1) (by decide) (by decide) ?_
    refine W.lload X0 hx (pc' := 35) (hb hby at_33) rfl ?_
    refine W.ldc2Long X0 hx hZ (pc' := 38) hown (kw0 hw) (hb hby at_35) ?_
    refine W.land X0 hx (pc' := 39) (hb hby at_38) (z := (ylaw_4 &&& (9223372036854775807 : Int64))) rfl ?_
    refine W.iload X0 hx (pc' := 41) (hb hby at_39) rfl ?_
    refine W.bipush X0 hx (pc' := 43) (hb hby at_41) (z := (63 : Int32)) rfl ?_
    refine W.iand X0 hx (pc' := 44) (hb hby at_43) (z := (xlaw_5 &&& (63 : Int32))) rfl ?_
    refine W.lushr X0 hx (pc' := 45) (hb hby at_44) (z := (((ylaw_4 &&& (9223372036854775807 : Int64)).toUInt64 >>> ((xlaw_5 &&& (63 : Int32)) &&& 0x3f).toInt64.toUInt64).toInt64)) rfl ?_
    refine W.lstore X0 hx (pc' := 47) (hb hby at_45) (l' := #[.val (.long ylaw_1), .second, .val (.long ylaw_2), .second, .val (.int xlaw_3), .val (.long ylaw_4), .second, .val (.int xlaw_5), .val (.long ylaw_1), .second, .val (.long v14), .second, .val (.long v21), .second, .val (.long (((ylaw_4 &&& (9223372036854775807 : Int64)).toUInt64 >>> ((xlaw_5 &&& (63 : Int32)) &&& 0x3f).toInt64.toUInt64).toInt64)), .second, .unset, .unset, .unset, .unset]) rfl ?_
    generalize hv45 : (((ylaw_4 &&& (9223372036854775807 : Int64)).toUInt64 >>> ((xlaw_5 &&& (63 : Int32)) &&& 0x3f).toInt64.toUInt64).toInt64) = v45
    refine W.lload X0 hx (pc' := 49) (hb hby at_47) rfl ?_
    refine W.lconst X0 hx (pc' := 50) (hb hby at_49) (z := (0 : Int64)) rfl ?_
    refine W.lcmp X0 hx (pc' := 51) (hb hby at_50)  ?_
    refine Wq.by (U' := s₁.setTop (mkF m 57 #[.val (.long ylaw_1), .second, .val (.long ylaw_2), .second, .val (.int xlaw_3), .val (.long ylaw_4), .second, .val (.int xlaw_5), .val (.long ylaw_1), .second, .val (.long v14), .second, .val (.long v21), .second, .val (.long (if v45 = (0 : Int64) then (1 : Int64) else v45)), .second, .unset, .unset, .unset, .unset] [])) (fun k => ?_) ?_
    · skip
      by_cases hm51 : v45 = (0 : Int64)
      · skip
        refine W.ifNo X0 hx (pc' := 54) (hb hby at_51) ((if0 _ _).trans (teq ((lw_eq _ _).mpr hm51)).2) ?_
        refine W.lconst X0 hx (pc' := 55) (hb hby at_54) (z := (1 : Int64)) rfl ?_
        refine W.lstore X0 hx (pc' := 57) (hb hby at_55) (l' := #[.val (.long ylaw_1), .second, .val (.long ylaw_2), .second, .val (.int xlaw_3), .val (.long ylaw_4), .second, .val (.int xlaw_5), .val (.long ylaw_1), .second, .val (.long v14), .second, .val (.long v21), .second, .val (.long (1 : Int64)), .second, .unset, .unset, .unset, .unset]) rfl ?_
        simp only [if_pos hm51] at k
        exact k
      · skip
        refine W.ifYes X0 hx (pc' := 57) (hb hby at_51) ((if0 _ _).trans (feq (mt (lw_eq _ _).mp hm51)).2) (by decide) (by decide) ?_
        simp only [if_neg hm51] at k
        exact k
    show Wq _ _ _ _ _ (s₁.setTop (mkF m 57 #[.val (.long ylaw_1), .second, .val (.long ylaw_2), .second, .val (.int xlaw_3), .val (.long ylaw_4), .second, .val (.int xlaw_5), .val (.long ylaw_1), .second, .val (.long v14), .second, .val (.long v21), .second, .val (.long (if v45 = (0 : Int64) then (1 : Int64) else v45)), .second, .unset, .unset, .unset, .unset] []))
    generalize hm57_14 : (if v45 = (0 : Int64) then (1 : Int64) else v45) = m57_14
    refine W.lload X0 hx (pc' := 59) (hb hby at_57) rfl ?_
    refine W.lload X0 hx (pc' := 61) (hb hby at_59) rfl ?_
    refine W.lload X0 hx (pc' := 63) (hb hby at_61) rfl ?_
    obtain ⟨_, _, ⟨T1, L1, k1, n1⟩, -, X1, ⟨Lc1, hQ1, l1, y1, z1⟩, st1⟩ := Jvm.LawKit.callS X0 hx (y := mt1) hown (mvT hZ (kw1 hw)) (mvT hZ (kw2 hw)) (mvT hZ (kw3 hw)) (mvT hZ (kw4 hw)) (by decide) (backOf (W := 0) (rm_leb l Z a0 hw [] ylaw_1 v21 m57_14 h0 n0 Z0 ((own_math hv14 hv21 hc28 hv45 hm57_14).1)) hZ (kw4 hw) (kw3 hw) (by decide) (by decide)) (g := (mkF m 63 #[.val (.long ylaw_1), .second, .val (.long ylaw_2), .second, .val (.int xlaw_3), .val (.long ylaw_4), .second, .val (.int xlaw_5), .val (.long ylaw_1), .second, .val (.long v14), .second, .val (.long v21), .second, .val (.long m57_14), .second, .unset, .unset, .unset, .unset] [(.long m57_14), (.long v21), (.long ylaw_1)])) rfl (by rw [hml]; rfl) (argsL := [(.long ylaw_1), (.long v21), (.long m57_14)]) (rest := []) (lenOf pd1 rfl) rfl (by show 2 * 0 + _ ≤ _; exact Nat.le_of_eq rfl) (hb hby at_63) (fun _ _ => ⟨rfl, e0, (by decide : 0 + 0 ≤ _), (by decide : 0 + 0 ≤ _)⟩)
    dsimp only [Pt.U, Pt.locs, Pt.cells, Pt.slots] at X1 l1 y1 z1 st1 hQ1
    subst l1 y1 z1
    obtain ⟨rfl, Nq1, e1⟩ := hQ1
    have N1 := Fr.app N0 Nq1
    refine Wq.step st1 ?_
    show Wq _ _ _ _ _ (T1.setTop (mkF m 66 #[.val (.long ylaw_1), .second, .val (.long ylaw_2), .second, .val (.int xlaw_3), .val (.long ylaw_4), .second, .val (.int xlaw_5), .val (.long ylaw_1), .second, .val (.long v14), .second, .val (.long v21), .second, .val (.long m57_14), .second, .unset, .unset, .unset, .unset] [(.long (f_leb ylaw_1 v21 m57_14))]))
    generalize hv63 : (f_leb ylaw_1 v21 m57_14) = v63
    show Wq _ _ _ _ _ (T1.setTop (mkF m 66 #[.val (.long ylaw_1), .second, .val (.long ylaw_2), .second, .val (.int xlaw_3), .val (.long ylaw_4), .second, .val (.int xlaw_5), .val (.long ylaw_1), .second, .val (.long v14), .second, .val (.long v21), .second, .val (.long m57_14), .second, .unset, .unset, .unset, .unset] [(.long v63)]))
    refine W.lstore X1 hx (pc' := 68) (hb hby at_66) (l' := #[.val (.long ylaw_1), .second, .val (.long ylaw_2), .second, .val (.int xlaw_3), .val (.long ylaw_4), .second, .val (.int xlaw_5), .val (.long ylaw_1), .second, .val (.long v14), .second, .val (.long v21), .second, .val (.long m57_14), .second, .val (.long v63), .second, .unset, .unset]) rfl ?_
    refine W.lload X1 hx (pc' := 70) (hb hby at_68) rfl ?_
    refine W.lload X1 hx (pc' := 72) (hb hby at_70) rfl ?_
    refine W.lcmp X1 hx (pc' := 73) (hb hby at_72)  ?_
    refine W.ifNo X1 hx (pc' := 76) (hb hby at_73) ((if0 _ _).trans (flt (mt (lw_lt _ _).mp (((own_math hv14 hv21 hc28 hv45 hm57_14).2 _ hv63).1 : ¬ (v63 < ylaw_1)))).1) ?_
    refine W.lload X1 hx (pc' := 78) (hb hby at_76) rfl ?_
    refine W.lload X1 hx (pc' := 80) (hb hby at_78) rfl ?_
    refine W.lcmp X1 hx (pc' := 81) (hb hby at_80)  ?_
    refine W.ifYes X1 hx (pc' := 86) (hb hby at_81) ((if0 _ _).trans (flt (mt (lw_gt _ _).mp (((own_math hv14 hv21 hc28 hv45 hm57_14).2 _ hv63).2.1 : ¬ (v21 < v63)))).2.2.2) (by decide) (by decide) ?_
    refine W.lload X1 hx (pc' := 88) (hb hby at_86) rfl ?_
    refine W.lload X1 hx (pc' := 90) (hb hby at_88) rfl ?_
    refine W.lsub X1 hx (pc' := 91) (hb hby at_90) (z := (v63 - ylaw_1)) rfl ?_
    refine W.lstore X1 hx (pc' := 93) (hb hby at_91) (l' := #[.val (.long ylaw_1), .second, .val (.long ylaw_2), .second, .val (.int xlaw_3), .val (.long ylaw_4), .second, .val (.int xlaw_5), .val (.long ylaw_1), .second, .val (.long v14), .second, .val (.long v21), .second, .val (.long m57_14), .second, .val (.long v63), .second, .val (.long (v63 - ylaw_1)), .second]) rfl ?_
    generalize hv91 : (v63 - ylaw_1) = v91
    refine W.lload X1 hx (pc' := 95) (hb hby at_93) rfl ?_
    refine W.lload X1 hx (pc' := 97) (hb hby at_95) rfl ?_
    refine W.lrem X1 hx (pc' := 98) (hb hby at_97) ((own_math hv14 hv21 hc28 hv45 hm57_14).1 : m57_14 ≠ (0 : Int64)) (z := (v91 % m57_14)) rfl ?_
    refine W.lconst X1 hx (pc' := 99) (hb hby at_98) (z := (0 : Int64)) rfl ?_
    refine W.lcmp X1 hx (pc' := 100) (hb hby at_99)  ?_
    refine W.ifNo X1 hx (pc' := 103) (hb hby at_100) ((if0 _ _).trans (teq ((lw_eq _ _).mpr (by subst hv91; exact ((own_math hv14 hv21 hc28 hv45 hm57_14).2 _ hv63).2.2.1 : (v91 % m57_14) = (0 : Int64)))).2) ?_
    refine W.lload X1 hx (pc' := 105) (hb hby at_103) rfl ?_
    refine W.lload X1 hx (pc' := 107) (hb hby at_105) rfl ?_
    refine W.lsub X1 hx (pc' := 108) (hb hby at_107) (z := (v21 - v63)) rfl ?_
    refine W.lload X1 hx (pc' := 110) (hb hby at_108) rfl ?_
    refine W.lcmp X1 hx (pc' := 111) (hb hby at_110)  ?_
    refine W.ifNo X1 hx (pc' := 114) (hb hby at_111) ((if0 _ _).trans (tlt ((lw_lt _ _).mpr (((own_math hv14 hv21 hc28 hv45 hm57_14).2 _ hv63).2.2.2 : (v21 - v63) < m57_14))).2.1) ?_
    refine W.iconst X1 hx (pc' := 115) (hb hby at_114) (z := (1 : Int32)) rfl ?_
    refine W.goto X1 hx (pc' := 119) (hb hby at_115) (by decide) (by decide) ?_
    exact Wq.ret X1 (BodyLoose.notSynchronized Bd) (rv := some (.int (1 : Int32))) (fun h => by rw [Bd.returns] at h; cases h) (fun _ hr => retN X1 hx (t := .boolean) Bd.returns (by simp) (hb hby at_119) hr) (by decide) (by decide) ⟨rfl, N1⟩
set_option maxRecDepth 65536 in
set_option maxHeartbeats 40000000 in
theorem comes_1 {Post : Tables → Env → Array Value → State → Outcome → State → Prop} (hpost : ∀ tb e args s v u, (limb_1_1.after args s (.returned v) u = true ∧ limb_1_2.after args s (.returned v) u = true ∧ True) → FrameEnd s (.returned v) u (Jvm.fieldLocs frame_1_writes args s ++ Jvm.arrayLocs frame_1_arrays args s ++ Jvm.staticLocs frame_1_statics s) 0 0 → Post tb e args s (.returned v) u) :
    ArmFor flags0 classFile x code maxLocals ret World_1 tables_1 room_1 Calls_1 rest_1 Pre_1 Post := by
  intro l hfl _ _ p e ha hc hk s m args below hf hA hF happ hP
  obtain ⟨hcalls, hrest, hpre⟩ := hP
  obtain ⟨-, -, -, hnamed, -, -, -, hat⟩ := (Spec.applies_iff hf).mp happ
  obtain ⟨hg, hn⟩ := and_e (Cond.before_iff.mp (show (Jvm.Cond.and given_1 narrow_1).before args s = true from hpre))
  obtain ⟨hg1, hg2⟩ := and_e hg
  obtain ⟨ha0, hb0⟩ := and_e hg2
  obtain ⟨ha1, hb1⟩ := and_e hb0
  obtain ⟨ha2, hb2⟩ := and_e hb1
  obtain ⟨ha3, hb3⟩ := and_e hb2
  obtain ⟨w0, w1, w2, w3, w4, rfl⟩ : ∃ w0 w1 w2 w3 w4 : Value, args = #[w0, w1, w2, w3, w4] := by
    have hs : args.size = 5 := by simpa [Cond.value, given_1] using hg1
    obtain ⟨L⟩ := args
    match L, hs with
    | [w0, w1, w2, w3, w4], _ => exact ⟨w0, w1, w2, w3, w4, rfl⟩
  have hw := fun d (hd : d ∈ tables_1) => atoms_spec (ws := Jvm.Cond.code x code maxLocals ret :: tables_1) hat d (List.mem_cons_of_mem _ hd)
  have hfit : Fit s := fun {y c} hc i hi => by
    obtain ⟨ha, rfl⟩ := Array.getElem?_eq_some_iff.mp hc
    have q := List.all_eq_true.mp ((Array.all_eq_true_iff_forall_mem.mp hF) _ (Array.getElem_mem ha)) i (List.mem_range.mpr hi)
    simpa [Array.getElem?_eq_getElem hi] using q
  obtain ⟨i0, ei0⟩ := isL_v ha0
  obtain rfl : w0 = (.long i0) := Option.some.inj ei0
  obtain ⟨i1, ei1⟩ := isL_v ha1
  obtain rfl : w1 = (.long i1) := Option.some.inj ei1
  obtain ⟨i2, ei2⟩ := is_v ha2
  obtain rfl : w2 = (.int i2) := Option.some.inj ei2
  obtain ⟨i3, ei3⟩ := isL_v ha3
  obtain rfl : w3 = (.long i3) := Option.some.inj ei3
  obtain ⟨i4, ei4⟩ := is_v hb3
  obtain rfl : w4 = (.int i4) := Option.some.inj ei4
  obtain ⟨n, o, h1, h2, h3, _, L, rfl, ⟨rfl, N⟩, hq⟩ := rm_law l s _ hw tables_1 i0 i1 i2 i3 i4 s.heap s.heap.size (Nat.le_refl _)  p e ha hc hk s m _ below hf ((Spec.applies_iff_loose hf).mp happ).1 ⟨rfl, State.Warmed39.refl s, rfl⟩ trivial
  refine ⟨n, _, h1, h2, h3, hpost _ _ _ _ _ _ ⟨Cond.after_iff.mpr rfl, Cond.after_iff.mpr (eq_i res_at (Term.int_eval (1)) rfl), trivial⟩ ⟨hq.1, hq.2.1, (hq.2.2.sift fun y hy => Or.inr (N y hy)).mono (by decide) (by decide)⟩⟩
theorem main_1_1 : Claimed_1_1 := comes_1 fun _ _ _ _ _ _ h hF => ⟨h.1, hF⟩
theorem main_1_2 : Claimed_1_2 := comes_1 fun _ _ _ _ _ _ h hF => ⟨h.2.1, hF⟩
end Jvm.Pilot.@@N@@
namespace Jvm.Pilot.@@N@@
open Jvm Jvm.ClassFile Sem Op Lib Jvm.Free Jvm.Stand Jvm.Pilot.@@N@@.Jvm.D
/-! MADE BY PROGRAM (witnessworld.py) out of the Statement's table words and the real class files: 9 classes; the members and pool entries that the words name. The judged class is class 1, her method 1. -/
namespace start1
open Jvm.ClassFile
def u (s : String) : CpInfo := .utf8 (stringToUtf16 s)
/-- a pool by its gaps: so many unusable entries, then the entry; so many at the end -/
def gap : Nat → List CpInfo → List CpInfo
  | 0, r => r
  | n + 1, r => .unusable :: gap n r
def poolList (es : List (Nat × CpInfo)) (last : Nat) : List CpInfo := es.foldr (fun e r => gap e.1 (e.2 :: r)) (gap last [])
def pool (es : List (Nat × CpInfo)) (last : Nat) : Array CpInfo := ⟨poolList es last⟩
def fileOf (pool : Array CpInfo) (this : Nat) (attrs : Array Attribute := #[]) (ms : Array MethodInfo := #[]) (fl : Nat := 33) (sup : Nat := 0) (ifs : Array Nat := #[]) (fds : Array FieldInfo := #[]) : ClassFile where
  minorVersion := 0
  majorVersion := 65
  constantPool := pool
  accessFlags := fl
  thisClass := this
  superClass := sup
  interfaces := ifs
  fields := fds
  methods := ms
  attributes := attrs
def plain (name : String) (sup : Option ClassId) : Class where
  name := name
  kind := .ordinary
  loader := none
  accessFlags := 33
  super := sup
  interfaces := #[]
  cf := none
  fields := #[]
  methods := #[]
  instanceTypes := #[]
  staticTypes := #[]
  resolved := #[]
  callSites := []
  init := .initialized
  statics := none
  mirror := none

def pool0 : Array CpInfo := pool [(5, u "<init>"), (0, u "()V"), (1, .class_ 10), (1, u "java/lang/Object")] 113

def k0m0 : Method := { name := "<init>", desc := "()V", sig := { parameters := [], returnType := none }, accessFlags := 1, code := none }
/-- java/lang/Object -/
def k0 : Class := { plain "java/lang/Object" none with
  accessFlags := 33
  interfaces := #[]
  cf := some (fileOf pool0 8 #[] #[{ accessFlags := 1, nameIndex := 5, descriptorIndex := 6, attributes := #[] }] 33 0 #[] #[])
  fields := #[]
  methods := #[k0m0]
  instanceTypes := #[]
  staticTypes := #[]
  resolved := Array.replicate 124 none
  statics := none }

def pool1 : Array CpInfo := pool [(2, .class_ 4), (1, u "java/lang/Object"), (0, u "<init>"), (0, u "()V"), (2, .long 9223372036854775807), (1, .methodref 12 13), (0, .class_ 14), (0, .nameAndType 15 16), (0, u "com/example/gangorra/gangorra/Millis"), (0, u "lastEndBy"), (0, u "(JJJ)J"), (0, .class_ 18), (0, u "com/example/gangorra/gangorra/MillisLastEndByPinLaw"), (2, u "law"), (0, u "(JJIJI)Z")] 3

def k1m0 : Method := { name := "<init>", desc := "()V", sig := { parameters := [], returnType := none }, accessFlags := 1, code := none }
def k1c1 : Code := { maxStack := 6, maxLocals := 20, code := code, exceptionTable := #[], attributes := #[] }
def k1m1 : Method := { name := "law", desc := "(JJIJI)Z", sig := { parameters := [.long, .long, .int, .long, .int], returnType := some .boolean }, accessFlags := 9, code := some k1c1 }
/-- com/example/gangorra/gangorra/MillisLastEndByPinLaw -/
def k1 : Class := { plain "com/example/gangorra/gangorra/MillisLastEndByPinLaw" (some 0) with
  accessFlags := 49
  interfaces := #[]
  cf := some (fileOf pool1 17 #[] #[{ accessFlags := 1, nameIndex := 5, descriptorIndex := 6, attributes := #[] }, { accessFlags := 9, nameIndex := 21, descriptorIndex := 22, attributes := #[] }] 49 2 #[] #[])
  fields := #[]
  methods := #[k1m0, k1m1]
  instanceTypes := #[]
  staticTypes := #[]
  resolved := Array.replicate 26 none
  statics := none }

def pool2 : Array CpInfo := pool [(4, .class_ 6), (1, u "java/lang/Object"), (0, u "<init>"), (0, u "()V"), (33, .class_ 44), (1, u "com/example/gangorra/gangorra/Millis"), (0, u "LONGEST"), (0, u "Ljava/time/Duration;"), (15, u "NEVER"), (0, u "J"), (10, u "lastEndBy"), (0, u "(JJJ)J")] 18

def k2m0 : Method := { name := "<init>", desc := "()V", sig := { parameters := [], returnType := none }, accessFlags := 2, code := none }
def k2c1 : Code := { maxStack := 6, maxLocals := 6, code := prog_37_method_5_code, exceptionTable := #[], attributes := #[] }
def k2m1 : Method := { name := "lastEndBy", desc := "(JJJ)J", sig := { parameters := [.long, .long, .long], returnType := some .long }, accessFlags := 8, code := some k2c1 }
/-- com/example/gangorra/gangorra/Millis -/
def k2 : Class := { plain "com/example/gangorra/gangorra/Millis" (some 0) with
  accessFlags := 32
  interfaces := #[]
  cf := some (fileOf pool2 42 #[] #[{ accessFlags := 2, nameIndex := 7, descriptorIndex := 8, attributes := #[] }, { accessFlags := 8, nameIndex := 74, descriptorIndex := 75, attributes := #[] }] 32 4 #[] #[{ accessFlags := 24, nameIndex := 62, descriptorIndex := 63, attributes := #[] }, { accessFlags := 26, nameIndex := 45, descriptorIndex := 46, attributes := #[] }])
  fields := #[{ name := "NEVER", type := .long, accessFlags := 24, slot := 0, constantValue := 0 }, { name := "LONGEST", type := (.object "java/time/Duration"), accessFlags := 26, slot := 1, constantValue := 0 }]
  methods := #[k2m0, k2m1]
  instanceTypes := #[]
  staticTypes := #[.long, (.object "java/time/Duration")]
  resolved := Array.replicate 94 none
  statics := none }

def pool3 : Array CpInfo := pool [(1, u "java/lang/Cloneable"), (0, .class_ 1), (0, u "java/lang/Object"), (0, .class_ 3)] 3

/-- java/lang/Cloneable -/
def k3 : Class := { plain "java/lang/Cloneable" (some 0) with
  accessFlags := 1537
  interfaces := #[]
  cf := some (fileOf pool3 2 #[] #[] 1537 4 #[] #[])
  fields := #[]
  methods := #[]
  instanceTypes := #[]
  staticTypes := #[]
  resolved := Array.replicate 8 none
  statics := none }

def pool4 : Array CpInfo := pool [(1, u "java/io/Serializable"), (0, .class_ 1), (0, u "java/lang/Object"), (0, .class_ 3)] 3

/-- java/io/Serializable -/
def k4 : Class := { plain "java/io/Serializable" (some 0) with
  accessFlags := 1537
  interfaces := #[]
  cf := some (fileOf pool4 2 #[] #[] 1537 4 #[] #[])
  fields := #[]
  methods := #[]
  instanceTypes := #[]
  staticTypes := #[]
  resolved := Array.replicate 8 none
  statics := none }

/-- the primitive byte -/
def k5 : Class := { plain "byte" none with kind := .primitive 'B', accessFlags := 0x411 }
/-- [B -/
def k6 : Class := { plain "[B" (some 0) with kind := .array 5 .byte, interfaces := #[3, 4], accessFlags := 1041 }

/-- the primitive int -/
def k7 : Class := { plain "int" none with kind := .primitive 'I', accessFlags := 0x411 }
/-- [I -/
def k8 : Class := { plain "[I" (some 0) with kind := .array 7 .int, interfaces := #[3, 4], accessFlags := 1041 }

def heap : Heap := #[]
def classes : Array Class := #[k0, k1, k2, k3, k4, k5, k6, k7, k8]
def interned : List (Array UInt16 × Addr) := []
def slotsUsed : Nat := 0
def theMethod : MethodId := ⟨1, 1⟩
def args0 : Array Value := #[.long 5, .long 7, .int 3, .long 9, .int 2]
def aboutOver (below : List Frame) : State where
  vm := { classes := classes, interned := interned.toArray }
  heap := heap
  slotsUsed := slotsUsed
  threads := #[{ frames := .invoking theMethod args0 :: below }]
def below0 : List Frame := [.native { method := ⟨0, 0⟩, args := #[] }]
def about1 : State := aboutOver below0
def p0 : Program := .bare "" "" ""
def e0 : Env := launch0.env 0 0 0
theorem w_frames : about1.frames = Frame.invoking theMethod args0 :: below0 := rfl
set_option maxRecDepth 65536 in
theorem w_args : argsFit about1.vm theMethod args0 = true := by decide +kernel
set_option maxRecDepth 65536 in
theorem w_heap : heapFits about1 = true := by decide +kernel
set_option maxRecDepth 65536 in
theorem w_runnable : about1.curStatus? = some .runnable := by decide +kernel
set_option maxRecDepth 65536 in
theorem w_alone : about1.alone = true := by decide +kernel
set_option maxRecDepth 65536 in
theorem w_named : about1.methodNamed? x = some theMethod := by decide +kernel
set_option maxRecDepth 65536 in
theorem w_hears : about1.hears theMethod below0 = true := by decide +kernel
set_option maxRecDepth 65536 in
theorem w_ripe : about1.ripe theMethod args0 below0 = true := by decide +kernel
theorem w_running : about1.status = .running := rfl
set_option maxRecDepth 65536 in
theorem w_room : about1.hasRoom e0.platform room_1 = true :=
  launch0.hasRoom_least _ room_1 (by decide +kernel) (by decide +kernel) (by decide +kernel) (by decide +kernel) (by decide +kernel) (by decide +kernel)
theorem allAtoms_all (ts : List Jvm.Cond) (a : Array Jvm.Value) (st : Jvm.State) : (allAtoms ts).before a st = ts.all (fun c => c.before a st) := by
  induction ts with
  | nil => rfl
  | cons c t ih =>
    show (Jvm.Cond.and c (allAtoms t)).before a st = _
    rw [Jvm.Cond.before_and, ih, List.all_cons]
def words1 : List Jvm.Cond := Jvm.Cond.code x code maxLocals ret :: tables_1
/-- a 'code' word, met by the world's own term for the bytes: nothing is compared byte by byte -/
theorem code_word {y : MethodName} {bytes : ByteArray} {mx : Nat} {rt : Option FieldType} {a : Array Value} {s : State} {m : MethodId} {meth : Method} {c : Code} (h1 : s.methodNamed? y = some m) (h2 : s.vm.method? m = some meth) (h3 : meth.code = some c) (h4 : c.code = bytes)
    (h5 : (c.maxLocals == mx && c.exceptionTable.isEmpty && decide (c.maxStack ≤ mostOperands) && decide (meth.sig.returnType = rt) && !meth.locks && decide (parseMethodDescriptor y.desc = some meth.sig)) = true) : (Jvm.Cond.code y bytes mx rt).before a s = true := by
  simp only [Bool.and_eq_true, beq_iff_eq, Bool.not_eq_true', decide_eq_true_eq] at h5
  obtain ⟨⟨⟨⟨⟨g1, g2⟩, g3⟩, g4⟩, g5⟩, g6⟩ := h5
  simp [Cond.before, Cond.holds, Cond.value, h1, h2, h3, h4, g1, g2, g3, g4, g5, g6]
def isCode : Jvm.Cond → Bool
  | .code _ _ _ _ => true
  | _ => false
theorem all_split {L : List Jvm.Cond} {P : Jvm.Cond → Bool} (h1 : L.all (fun c => isCode c || P c) = true) (h2 : ∀ c ∈ L.filter isCode, P c = true) : L.all P = true := by
  refine List.all_eq_true.mpr fun c hc => ?_
  have h := List.all_eq_true.mp h1 c hc
  rcases Bool.eq_false_or_eq_true (isCode c) with hi | hi
  · exact h2 c (List.mem_filter.mpr ⟨hc, hi⟩)
  · simpa [hi] using h
set_option maxRecDepth 65536 in
theorem w_c0 : (Jvm.Cond.code x code maxLocals ret).before args0 about1 = true := code_word (m := ⟨1, 1⟩) (meth := k1m1) (c := k1c1) (by decide +kernel) rfl rfl rfl (by decide +kernel)
set_option maxRecDepth 65536 in
theorem w_c1 : (Jvm.Cond.code ({ cls := "com/example/gangorra/gangorra/Millis", name := "lastEndBy", desc := "(JJJ)J" } : Jvm.MethodName) prog_37_method_5_code (6 : Nat) (Option.some Jvm.ClassFile.FieldType.long)).before args0 about1 = true := code_word (m := ⟨2, 1⟩) (meth := k2m1) (c := k2c1) (by decide +kernel) rfl rfl rfl (by decide +kernel)
def codes1 : List Jvm.Cond := [Jvm.Cond.code x code maxLocals ret, Jvm.Cond.code ({ cls := "com/example/gangorra/gangorra/Millis", name := "lastEndBy", desc := "(JJJ)J" } : Jvm.MethodName) prog_37_method_5_code (6 : Nat) (Option.some Jvm.ClassFile.FieldType.long)]
set_option maxRecDepth 65536 in
theorem codes_eq : words1.filter isCode = codes1 := rfl
theorem w_codes : ∀ c ∈ words1.filter isCode, c.before args0 about1 = true := by
  rw [codes_eq]
  intro c hc
  simp only [codes1, List.mem_cons, List.not_mem_nil, or_false] at hc
  rcases hc with rfl | rfl
  · exact w_c0
  · exact w_c1
set_option maxRecDepth 65536 in
theorem w_t1 : words1.all (fun c => isCode c || c.before args0 about1) = true := by decide +kernel
theorem w_tables : (allAtoms (Jvm.Cond.code x code maxLocals ret :: tables_1)).before args0 about1 = true := by
  rw [allAtoms_all]
  show words1.all (fun c => c.before args0 about1) = true
  refine all_split ?_ w_codes
  rw [w_t1]
set_option maxRecDepth 65536 in
theorem w_case : (Jvm.Cond.and given_1 narrow_1).before args0 about1 = true := by decide +kernel
theorem w_applies : (headSpec (Jvm.Cond.code x code maxLocals ret :: tables_1) room_1).applies x e0.platform about1 = true :=
  (Spec.applies_iff w_frames).mpr ⟨w_running, w_runnable, w_alone, w_named, w_hears, w_ripe, w_room, w_tables⟩
theorem atStart : AtStart classFile x code maxLocals ret World_1 tables_1 room_1 Calls_1 rest_1 Pre_1 launch0 p0 e0 about1 theMethod args0 below0 :=
  ⟨lists_1, trivial, launch0.admits_env _ _ _, launch0.least_env, fairChoices_fair.cas, fairChoices_fair.clock, w_frames, w_args, w_heap, w_applies, trivial, trivial, w_case⟩
end start1
theorem witness_1 : WitnessClaimed_1 := ⟨start1.p0, start1.e0, start1.about1, start1.theMethod, start1.args0, start1.below0, start1.atStart⟩
end Jvm.Pilot.@@N@@
