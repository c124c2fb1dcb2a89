import JvmDerived
import JvmDerived.Pilot.@@N@@Statement
import JvmDerived.Pilot.@@N@@Code
set_option linter.unusedVariables false
set_option linter.unusedSimpArgs false
namespace Jvm.OwnW
open Sem ClassFile Op Lib Jvm.Stand Jvm.Free Jvm.LawKit Jvm.RoadKit
section Base
variable {p : Program} {l : Launch} {e : Env} {R : Room} {s : State} {m : MethodId} {args : Array Value} {below : List Frame} {meth : Method} {c : Code} {T : State} {locs : List Loc} {cells slots : Nat} {Z : State} {h h' : Heap} {a b : Addr} {ty : FieldType} {vs : List Value} {v : Value} {sl : Nat} {ws : List Addr}
variable {Q : Option Value → Heap → List Loc → Prop} {En : Outcome → State → List Loc → Prop} {kc ks : Nat} {U U' : State}
/-- from U the body comes to its end; what it leaves is Q, its frame En -/
def Wq (p : Program) (e : Env) (below : List Frame) (En : Outcome → State → List Loc → Prop) (Q : Option Value → Heap → List Loc → Prop) (U : State) : Prop :=
  ∃ s₂ o, Steps p.tables e below U s₂ ∧ s₂.status = .running ∧ Ended s₂ below o ∧ ∃ v L, o = .returned v ∧ Q v s₂.heap L ∧ En o s₂ L
theorem Wq.step (h1 : ∀ t, Steps p.tables e below U' t → Steps p.tables e below U t) (k : Wq p e below En Q U') : Wq p e below En Q U := by
  obtain ⟨s₂, o, q, r⟩ := k; exact ⟨s₂, o, h1 _ q, r⟩
theorem Wq.steps (h1 : Steps p.tables e below U U') (k : Wq p e below En Q U') : Wq p e below En Q U := by
  obtain ⟨s₂, o, q, r⟩ := k; exact ⟨s₂, o, h1.trans q, r⟩
theorem Wq.by (k1 : Wq p e below En Q U' → Wq p e below En Q U) (k : Wq p e below En Q U') : Wq p e below En Q U := k1 k
theorem Wq.ret {rv : Option Value} {g : JFrame} (X : Stand p l e R s m args below meth c T locs cells slots) (hlk : meth.locks = false) (hv : meth.sig.returnType = none → rv = none)
    (st : ∀ fs, (∀ (f : JFrame) (acts : List Action), f.method = m → f.locked = none → f.entered = [] → (doReturn e (T.setTop f) acts rv).1 = T.setFrames fs) → Steps p.tables e below (T.setTop g) (T.setFrames fs))
    (hc : cells ≤ kc) (hs : slots ≤ ks) (hQ : Q rv T.heap locs) : Wq p e below (fun o t L => FrameEnd s o t L kc ks) Q (T.setTop g) := by
  obtain ⟨fs, hr, hrun, hended, hW, hsame⟩ := X.leave (v := rv) hv hlk
  exact ⟨_, _, st fs hr, hrun, hended, rv, locs, rfl, hQ, ⟨rv, rfl⟩, hW, hsame.mono hc hs⟩
/-- the same for a body that may load a String constant for the first time -/
theorem Wq.retW {rv : Option Value} {g : JFrame} {vm₁ : Vm} {n : Nat} (X : Stand p l e R (s.setVm vm₁) m args below meth c T locs cells slots) (hS : s.Since vm₁ n) (hn : n ≤ T.heap.size) (hlk : meth.locks = false) (hv : meth.sig.returnType = none → rv = none)
    (st : ∀ fs, (∀ (f : JFrame) (acts : List Action), f.method = m → f.locked = none → f.entered = [] → (doReturn e (T.setTop f) acts rv).1 = T.setFrames fs) → Steps p.tables e below (T.setTop g) (T.setFrames fs))
    (hc : cells ≤ kc) (hs : slots ≤ ks) (hQ : Q rv T.heap locs) : Wq p e below (fun o t L => ReturnedEndW s o t L kc ks) Q (T.setTop g) := by
  obtain ⟨fs, hr, hrun, hended, w1, w2, w3, w4⟩ := X.leaveW hS hn (v := rv) hv hlk
  exact ⟨_, _, st fs hr, hrun, hended, rv, locs, rfl, hQ, ⟨rv, rfl⟩, w2, w3, w4.mono hc hs⟩
/-- an array and the whole list of what it holds -/
def Al (Z : State) (h : Heap) (a : Addr) (ty : FieldType) (vs : List Value) : Prop := ∃ cl : Cell, Arr Z h a cl ty ∧ cl.slots.toList = vs
theorem Al.lt (V : Al Z h a ty vs) : a < h.size := by obtain ⟨cl, A, -⟩ := V; exact A.lt
theorem Al.ext (V : Al Z h a ty vs) (E : Ext h h') : Al Z h' a ty vs := by obtain ⟨cl, A, r⟩ := V; exact ⟨cl, A.ext E, r⟩
theorem Al.other (V : Al Z h b ty vs) (W : Wr h h' a sl v) (q : b ≠ a) : Al Z h' b ty vs := by obtain ⟨cl, A, r⟩ := V; exact ⟨cl, A.other W q, r⟩
theorem Al.keep (V : Al Z h a ty vs) (K : Keep h h' ws) (q : a ∉ ws) : Al Z h' a ty vs := by obtain ⟨cl, A, r⟩ := V; exact ⟨cl, ⟨K.2.1 a cl A.1 q, A.2⟩, r⟩
theorem Al.new {cA : ClassId} {n : Int32} {k : Nat} {dv : Value} (A : Arr Z h a (newA cA ty n) ty) (hk : n.toNatClampNeg = k) (hd : defaultValue ty = dv) : Al Z h a ty (List.replicate k dv) := ⟨_, A, by subst hk hd; simp [newA]⟩
theorem Al.set (V : Al Z h a ty vs) (W : Wr h h' a sl v) : Al Z h' a ty (vs.set sl v) := by
  obtain ⟨cl, A, rfl⟩ := V
  exact ⟨_, A.same W, by simp [Cell.setSlot]⟩
theorem Sta.keepN {C n d : String} {v : Value} (F : Sta Z h C n d v) (K : Keep h h' ws) (q : ∀ w ∈ ws, ∀ cell : Cell, h[w]? = some cell → cell.vm.isStatics = false) : Sta Z h' C n d v := by
  obtain ⟨cf, i, k, f, st, cell, h1, h2, h3, h4, h5, h6, h7⟩ := F
  exact ⟨cf, i, k, f, st, cell, h1, h2, h3, h4, K.2.1 _ _ h5 (fun hm => by rw [q st hm cell h5] at h6; cases h6), h6, h7⟩
theorem fldI {t : Term} {C n d : String} {k : Int32} (hx : (Cond.eq (.field t C n d) (.int k)).value args s none s [] = some true) (ev : t.eval args s none [] s = some (.ref a)) : Fld s s.heap a C n d (.int k) := by
  refine Fld.start ?_
  have e1 := fld_at (C := C) (n := n) (dd := d) ev
  obtain ⟨x, y, h1, h2, k1, k2⟩ := cmp_v (Or.inl hx)
  rw [Term.int_eval] at h2
  cases h2
  rw [e1] at h1
  cases x <;> simp only [Kin] at k2 <;> first | (obtain ⟨z, hz⟩ := k2; cases hz) | skip
  have q := gotT (Cond.eq_ints (e1.trans h1) (Term.int_eval k)) hx
  rw [h1, q]
theorem fldJ {t : Term} {C n d : String} {k : Int64} (hx : (Cond.eq (.field t C n d) (.long k)).value args s none s [] = some true) (ev : t.eval args s none [] s = some (.ref a)) : Fld s s.heap a C n d (.long k) := by
  refine Fld.start ?_
  have e1 := fld_at (C := C) (n := n) (dd := d) ev
  obtain ⟨x, y, h1, h2, k1, k2⟩ := cmp_v (Or.inl hx)
  rw [long_at] at h2
  cases h2
  rw [e1] at h1
  cases x <;> simp only [Kin] at k2 <;> first | (obtain ⟨z, hz⟩ := k2; cases hz) | skip
  have q := gotT (eq_L (e1.trans h1) (long_at k)) hx
  rw [h1, q]
theorem Exa.ns {C : String} (F : Exa Z h a C) : ∀ cell : Cell, h[a]? = some cell → cell.vm.isStatics = false := by
  obtain ⟨c1, k, h1, h2, h3, h4, h5⟩ := F
  intro cell hc; cases h1.symm.trans hc; exact h4
theorem Al.ns (V : Al Z h a ty vs) : ∀ cell : Cell, h[a]? = some cell → cell.vm.isStatics = false := by
  obtain ⟨cl, A, -⟩ := V
  intro cell hc; cases A.1.symm.trans hc; exact A.plain
theorem clA (X : Stand p l e R s m args below meth c T locs cells slots) (hx : p.tables.exec = Jvm.exec) (hZ : Z.Warmed39 s.vm) {a0 : Array Value} {own ad : String} {index : Nat} (hown : s.vm.findClass own = some m.cls)
    (w1 : (Cond.methodLink own index ⟨ad, "clone", "()Ljava/lang/Object;"⟩).before a0 Z = true) (w2 : (Cond.sameMethod ad "java/lang/Object" "clone" "()Ljava/lang/Object;").before a0 Z = true) (w3 : (Cond.native ⟨"java/lang/Object", "clone", "()Ljava/lang/Object;"⟩).before a0 Z = true)
    (w4 : (Cond.instanceMethod ⟨"java/lang/Object", "clone", "()Ljava/lang/Object;"⟩).before a0 Z = true) (w5 : (Cond.selects ad ⟨ad, "clone", "()Ljava/lang/Object;"⟩ ⟨"java/lang/Object", "clone", "()Ljava/lang/Object;"⟩).before a0 Z = true) (w6 : (Cond.castable ad "java/lang/Cloneable").before a0 Z = true)
    (eT : T.heap = h) (V : Al Z h a ty vs) (E : Exa Z h a ad) (F : ∀ v ∈ vs, fits ty v = true) {g : JFrame} (hg : g.method = m) (hsize : g.locals.size = c.maxLocals) {rest : List Value} (hst : g.stack = .ref a :: rest) (hd : decode c.code g.pc = .ok (.invokevirtual index, 3))
    (hf : 1 ≤ R.frames) {W cap : Nat} (hW : 2 * g.monitorRoom + (rest.map fun v => v.category).sum ≤ W) (hl : W + 14 ≤ R.locals) (hcap : vs.length ≤ cap) (hc : cells + 1 ≤ R.cells) (hsl : slots + cap ≤ R.slots) :
    ∃ T' h', Stand p l e R s m args below meth c T' locs (cells + 1) (slots + cap) ∧ T'.heap = h' ∧ Ext h h' ∧ Al Z h' h.size ty vs ∧ Exa Z h' h.size ad ∧
      ∀ target, Steps p.tables e below (T'.setTop { g with pc := g.pc + 3, stack := .ref h.size :: rest }) target → Steps p.tables e below (T.setTop g) target := by
  obtain ⟨cl, A, r⟩ := V
  have FC : FitC Z cl := fitC_of A fun i hi v hv => F v (by rw [← r]; exact Array.mem_toList_iff.mpr (Array.mem_of_getElem? hv))
  obtain ⟨T', h', X', e', ex, A', E', st⟩ := cloneA X hx hZ hown w1 w2 w3 w4 w5 w6 eT A E FC hg hsize hst hd hf hW hl (by rw [← Array.length_toList, r]; exact hcap) hc hsl
  exact ⟨T', h', X', e', ex, ⟨_, A', r⟩, E', st⟩
theorem selPriv {a0 : Array Value} {y : MethodName} {k : Nat} (hZ : Z.Warmed39 s.vm) (wi : (Cond.instantiable y.cls k).before a0 Z = true) (wp : (Cond.privateMethod y).before a0 Z = true) (wm : (Cond.instanceMethod y).before a0 Z = true) (hy : y.cls ≠ "java/lang/invoke/MethodHandle" ∧ y.cls ≠ "java/lang/invoke/VarHandle") : (Cond.selects y.cls y y).before args s = true := by
  obtain ⟨c, k, h1, h2, -, h4, -⟩ := Cond.instantiable_spec (mv (args := args) hZ wi)
  simp only [Bool.or_eq_false_iff] at h4
  exact Jvm.Stand.selects_self_of_private h1 h2 h4.1 (Cond.privateMethod_at (mvP hZ wp (args := args))) (mv hZ wm) hy
theorem al_in {cl : Cell} {j : Int32} {i : Nat} (hvs : cl.slots.toList = vs) (hj : ¬ j < 0) (hi : j.toNatClampNeg = i) (hl : i < vs.length) : ¬ (j < 0 ∨ cl.slots.size ≤ j.toNatClampNeg) := by
  subst hvs hi
  rintro (q | q)
  · exact hj q
  · simp only [Array.length_toList] at hl; omega
theorem al_at {cl : Cell} {j : Int32} {i : Nat} (hvs : cl.slots.toList = vs) (hi : j.toNatClampNeg = i) (hv : vs[i]? = some v) : cl.slots[j.toNatClampNeg]? = some v := by
  subst hvs hi; simpa using hv
theorem al_lt {i : Nat} (hv : vs[i]? = some v) : i < vs.length := (List.getElem?_eq_some_iff.mp hv).1
theorem ldI (X : Stand p l e R s m args below meth c T locs cells slots) (hx : p.tables.exec = Jvm.exec) (hZ : Z.Warmed39 s.vm) (eT : T.heap = h) (V : Al Z h a .int vs) {j : Int32} {i : Nat} (hj : ¬ j < 0) (hi : j.toNatClampNeg = i) (hv : vs[i]? = some v) {g : JFrame} (hg : g.method = m) {rest : List Value} (hs : g.stack = .int j :: .ref a :: rest) (hd : decode c.code g.pc = .ok (.iaload, 1)) {target : State}
    (k : Steps p.tables e below (T.setTop { g with pc := g.pc + 1, stack := v :: rest }) target) : Steps p.tables e below (T.setTop g) target := by
  obtain ⟨cl, A, r⟩ := V
  exact X.iaload hx (by rw [eT]; exact A.1) (State.isArrayOf_alike hZ.alike A.2.1) A.2.2 (al_in r hj hi (al_lt hv)) (al_at r hi hv) hg hs hd _ k
theorem ldJ (X : Stand p l e R s m args below meth c T locs cells slots) (hx : p.tables.exec = Jvm.exec) (hZ : Z.Warmed39 s.vm) (eT : T.heap = h) (V : Al Z h a .long vs) {j : Int32} {i : Nat} (hj : ¬ j < 0) (hi : j.toNatClampNeg = i) (hv : vs[i]? = some v) {g : JFrame} (hg : g.method = m) {rest : List Value} (hs : g.stack = .int j :: .ref a :: rest) (hd : decode c.code g.pc = .ok (.laload, 1)) {target : State}
    (k : Steps p.tables e below (T.setTop { g with pc := g.pc + 1, stack := v :: rest }) target) : Steps p.tables e below (T.setTop g) target := by
  obtain ⟨cl, A, r⟩ := V
  exact X.laload hx (by rw [eT]; exact A.1) (State.isArrayOf_alike hZ.alike A.2.1) A.2.2 (al_in r hj hi (al_lt hv)) (al_at r hi hv) hg hs hd _ k
theorem ldC (X : Stand p l e R s m args below meth c T locs cells slots) (hx : p.tables.exec = Jvm.exec) (hZ : Z.Warmed39 s.vm) (eT : T.heap = h) (V : Al Z h a .char vs) {j : Int32} {i : Nat} (hj : ¬ j < 0) (hi : j.toNatClampNeg = i) (hv : vs[i]? = some v) {g : JFrame} (hg : g.method = m) {rest : List Value} (hs : g.stack = .int j :: .ref a :: rest) (hd : decode c.code g.pc = .ok (.caload, 1)) {target : State}
    (k : Steps p.tables e below (T.setTop { g with pc := g.pc + 1, stack := v :: rest }) target) : Steps p.tables e below (T.setTop g) target := by
  obtain ⟨cl, A, r⟩ := V
  exact X.caload hx (by rw [eT]; exact A.1) (State.isArrayOf_alike hZ.alike A.2.1) A.2.2 (al_in r hj hi (al_lt hv)) (al_at r hi hv) hg hs hd _ k
theorem ldB (X : Stand p l e R s m args below meth c T locs cells slots) (hx : p.tables.exec = Jvm.exec) (hZ : Z.Warmed39 s.vm) (eT : T.heap = h) (V : Al Z h a .byte vs) {j : Int32} {i : Nat} (hj : ¬ j < 0) (hi : j.toNatClampNeg = i) (hv : vs[i]? = some v) {g : JFrame} (hg : g.method = m) {rest : List Value} (hs : g.stack = .int j :: .ref a :: rest) (hd : decode c.code g.pc = .ok (.baload, 1)) {target : State}
    (k : Steps p.tables e below (T.setTop { g with pc := g.pc + 1, stack := v :: rest }) target) : Steps p.tables e below (T.setTop g) target := by
  obtain ⟨cl, A, r⟩ := V
  exact X.baloadBytes hx (by rw [eT]; exact A.1) (State.isArrayOf_alike hZ.alike A.2.1) A.2.2 (al_in r hj hi (al_lt hv)) (al_at r hi hv) hg hs hd _ k
theorem ldZ (X : Stand p l e R s m args below meth c T locs cells slots) (hx : p.tables.exec = Jvm.exec) (hZ : Z.Warmed39 s.vm) (eT : T.heap = h) (V : Al Z h a .boolean vs) {j : Int32} {i : Nat} (hj : ¬ j < 0) (hi : j.toNatClampNeg = i) (hv : vs[i]? = some v) {g : JFrame} (hg : g.method = m) {rest : List Value} (hs : g.stack = .int j :: .ref a :: rest) (hd : decode c.code g.pc = .ok (.baload, 1)) {target : State}
    (k : Steps p.tables e below (T.setTop { g with pc := g.pc + 1, stack := v :: rest }) target) : Steps p.tables e below (T.setTop g) target := by
  obtain ⟨cl, A, r⟩ := V
  exact X.baloadBooleans hx (by rw [eT]; exact A.1) (State.isArrayOf_alike hZ.alike A.2.1) A.2.2 (al_in r hj hi (al_lt hv)) (al_at r hi hv) hg hs hd _ k
theorem lenA (X : Stand p l e R s m args below meth c T locs cells slots) (hx : p.tables.exec = Jvm.exec) (hZ : Z.Warmed39 s.vm) (eT : T.heap = h) (V : Al Z h a ty vs) {n : Int32} (hn : vs.length.toInt32 = n) {g : JFrame} (hg : g.method = m) {rest : List Value} (hs : g.stack = .ref a :: rest) (hd : decode c.code g.pc = .ok (.arraylength, 1)) {target : State}
    (k : Steps p.tables e below (T.setTop { g with pc := g.pc + 1, stack := .int n :: rest }) target) : Steps p.tables e below (T.setTop g) target := by
  obtain ⟨cl, A, r⟩ := V
  refine X.arraylength hx (by rw [eT]; exact A.1) (State.isArrayOf_alike hZ.alike A.2.1) hg hs hd _ ?_
  rw [show cl.slots.size.toInt32 = n from by rw [← hn, ← r, Array.length_toList]]
  exact k
theorem asI (X : Stand p l e R s m args below meth c T locs cells slots) (hx : p.tables.exec = Jvm.exec) (hZ : Z.Warmed39 s.vm) (eT : T.heap = h) (V : Al Z h a .int vs) {j : Int32} {i : Nat} {x : Int32} (hj : ¬ j < 0) (hi : j.toNatClampNeg = i) (hl : i < vs.length) {g : JFrame} (hg : g.method = m) {rest : List Value} (hs : g.stack = .int x :: .int j :: .ref a :: rest) (hd : decode c.code g.pc = .ok (.iastore, 1)) :
    ∃ T' h', Stand p l e R s m args below meth c T' (locs ++ [⟨a, i⟩]) cells slots ∧ T'.heap = h' ∧ Wr h h' a i (.int x) ∧ Al Z h' a .int (vs.set i (.int x)) ∧ ∀ target, Steps p.tables e below (T'.setTop { g with pc := g.pc + 1, stack := rest }) target → Steps p.tables e below (T.setTop g) target := by
  have V0 := V
  obtain ⟨cl, A, r⟩ := V
  obtain ⟨T', h', X', e', W, st⟩ := stI X hx hZ eT A (al_in r hj hi hl) hg hs hd
  subst hi
  exact ⟨T', h', X', e', W, V0.set W, st⟩
theorem asJ (X : Stand p l e R s m args below meth c T locs cells slots) (hx : p.tables.exec = Jvm.exec) (hZ : Z.Warmed39 s.vm) (eT : T.heap = h) (V : Al Z h a .long vs) {j : Int32} {i : Nat} {x : Int64} (hj : ¬ j < 0) (hi : j.toNatClampNeg = i) (hl : i < vs.length) {g : JFrame} (hg : g.method = m) {rest : List Value} (hs : g.stack = .long x :: .int j :: .ref a :: rest) (hd : decode c.code g.pc = .ok (.lastore, 1)) :
    ∃ T' h', Stand p l e R s m args below meth c T' (locs ++ [⟨a, i⟩]) cells slots ∧ T'.heap = h' ∧ Wr h h' a i (.long x) ∧ Al Z h' a .long (vs.set i (.long x)) ∧ ∀ target, Steps p.tables e below (T'.setTop { g with pc := g.pc + 1, stack := rest }) target → Steps p.tables e below (T.setTop g) target := by
  have V0 := V
  obtain ⟨cl, A, r⟩ := V
  obtain ⟨T', h', X', e', W, st⟩ := stJ X hx hZ eT A (al_in r hj hi hl) hg hs hd
  subst hi
  exact ⟨T', h', X', e', W, V0.set W, st⟩
theorem asC (X : Stand p l e R s m args below meth c T locs cells slots) (hx : p.tables.exec = Jvm.exec) (hZ : Z.Warmed39 s.vm) (eT : T.heap = h) (V : Al Z h a .char vs) {j : Int32} {i : Nat} {x y : Int32} (hj : ¬ j < 0) (hi : j.toNatClampNeg = i) (hl : i < vs.length) (hy : nar .char x = y) {g : JFrame} (hg : g.method = m) {rest : List Value} (hs : g.stack = .int x :: .int j :: .ref a :: rest) (hd : decode c.code g.pc = .ok (.castore, 1)) :
    ∃ T' h', Stand p l e R s m args below meth c T' (locs ++ [⟨a, i⟩]) cells slots ∧ T'.heap = h' ∧ Wr h h' a i (.int y) ∧ Al Z h' a .char (vs.set i (.int y)) ∧ ∀ target, Steps p.tables e below (T'.setTop { g with pc := g.pc + 1, stack := rest }) target → Steps p.tables e below (T.setTop g) target := by
  have V0 := V
  obtain ⟨cl, A, r⟩ := V
  obtain ⟨T', h', X', e', W, st⟩ := stC X hx hZ eT A (al_in r hj hi hl) hg hs hd
  subst hi hy
  exact ⟨T', h', X', e', W, V0.set W, st⟩
theorem asB (X : Stand p l e R s m args below meth c T locs cells slots) (hx : p.tables.exec = Jvm.exec) (hZ : Z.Warmed39 s.vm) (eT : T.heap = h) (V : Al Z h a .byte vs) {j : Int32} {i : Nat} {x y : Int32} (hj : ¬ j < 0) (hi : j.toNatClampNeg = i) (hl : i < vs.length) (hy : nar .byte x = y) {g : JFrame} (hg : g.method = m) {rest : List Value} (hs : g.stack = .int x :: .int j :: .ref a :: rest) (hd : decode c.code g.pc = .ok (.bastore, 1)) :
    ∃ T' h', Stand p l e R s m args below meth c T' (locs ++ [⟨a, i⟩]) cells slots ∧ T'.heap = h' ∧ Wr h h' a i (.int y) ∧ Al Z h' a .byte (vs.set i (.int y)) ∧ ∀ target, Steps p.tables e below (T'.setTop { g with pc := g.pc + 1, stack := rest }) target → Steps p.tables e below (T.setTop g) target := by
  have V0 := V
  obtain ⟨cl, A, r⟩ := V
  obtain ⟨T', h', X', e', W, st⟩ := stB X hx hZ eT A (al_in r hj hi hl) hg hs hd
  subst hi hy
  exact ⟨T', h', X', e', W, V0.set W, st⟩
theorem asZ (X : Stand p l e R s m args below meth c T locs cells slots) (hx : p.tables.exec = Jvm.exec) (hZ : Z.Warmed39 s.vm) (eT : T.heap = h) (V : Al Z h a .boolean vs) {j : Int32} {i : Nat} {x y : Int32} (hj : ¬ j < 0) (hi : j.toNatClampNeg = i) (hl : i < vs.length) (hy : nar .boolean x = y) {g : JFrame} (hg : g.method = m) {rest : List Value} (hs : g.stack = .int x :: .int j :: .ref a :: rest) (hd : decode c.code g.pc = .ok (.bastore, 1)) :
    ∃ T' h', Stand p l e R s m args below meth c T' (locs ++ [⟨a, i⟩]) cells slots ∧ T'.heap = h' ∧ Wr h h' a i (.int y) ∧ Al Z h' a .boolean (vs.set i (.int y)) ∧ ∀ target, Steps p.tables e below (T'.setTop { g with pc := g.pc + 1, stack := rest }) target → Steps p.tables e below (T.setTop g) target := by
  have V0 := V
  obtain ⟨cl, A, r⟩ := V
  obtain ⟨T', h', X', e', W, st⟩ := stZ X hx hZ eT A (al_in r hj hi hl) hg hs hd
  subst hi hy
  exact ⟨T', h', X', e', W, V0.set W, st⟩
theorem Ow.iloadN (X : Stand p l e R s m args below meth c T locs cells slots) (hx : p.tables.exec = Jvm.exec) {pc : Nat} {ls : Array Slot} {st : List Value} {pc' : Nat} {k : Fin 4} {v : Int32} (hd : decode c.code pc = .ok (.iload_n k, 1)) (hl : ls[k.val]? = some (.val (.int v))) (k : Wq p e below En Q (T.setTop (mkF m pc' ls (.int v :: st)))) (hpc : pc + 1 = pc' := by rfl) : Wq p e below En Q (T.setTop (mkF m pc ls st)) := by subst hpc; exact Wq.step (fun _ q => XS.iloadN X.here hx rfl hd hl q) k
theorem Ow.istoreN (X : Stand p l e R s m args below meth c T locs cells slots) (hx : p.tables.exec = Jvm.exec) {pc : Nat} {ls : Array Slot} {st : List Value} {pc' : Nat} {k : Fin 4} {x : Int32} {l' : Array Slot} (hd : decode c.code pc = .ok (.istore_n k, 1)) (hl : storeLocals ls k.val (.int x) = some l') (k : Wq p e below En Q (T.setTop (mkF m pc' l' st))) (hpc : pc + 1 = pc' := by rfl) : Wq p e below En Q (T.setTop (mkF m pc ls (.int x :: st))) := by subst hpc; exact Wq.step (fun _ q => XS.istoreN X.here hx rfl hd rfl hl q) k
theorem Ow.lloadN (X : Stand p l e R s m args below meth c T locs cells slots) (hx : p.tables.exec = Jvm.exec) {pc : Nat} {ls : Array Slot} {st : List Value} {pc' : Nat} {k : Fin 4} {v : Int64} (hd : decode c.code pc = .ok (.lload_n k, 1)) (hl : ls[k.val]? = some (.val (.long v))) (k : Wq p e below En Q (T.setTop (mkF m pc' ls (.long v :: st)))) (hpc : pc + 1 = pc' := by rfl) : Wq p e below En Q (T.setTop (mkF m pc ls st)) := by subst hpc; exact Wq.step (fun _ q => XS.lloadN X.here hx rfl hd hl q) k
theorem Ow.lstoreN (X : Stand p l e R s m args below meth c T locs cells slots) (hx : p.tables.exec = Jvm.exec) {pc : Nat} {ls : Array Slot} {st : List Value} {pc' : Nat} {k : Fin 4} {x : Int64} {l' : Array Slot} (hd : decode c.code pc = .ok (.lstore_n k, 1)) (hl : storeLocals ls k.val (.long x) = some l') (k : Wq p e below En Q (T.setTop (mkF m pc' l' st))) (hpc : pc + 1 = pc' := by rfl) : Wq p e below En Q (T.setTop (mkF m pc ls (.long x :: st))) := by subst hpc; exact Wq.step (fun _ q => XS.lstoreN X.here hx rfl hd rfl hl q) k
theorem Ow.aloadN (X : Stand p l e R s m args below meth c T locs cells slots) (hx : p.tables.exec = Jvm.exec) {pc : Nat} {ls : Array Slot} {st : List Value} {pc' : Nat} {k : Fin 4} {v : Value} (hd : decode c.code pc = .ok (.aload_n k, 1)) (hl : ls[k.val]? = some (.val v)) (hv : v.isRef = true) (k : Wq p e below En Q (T.setTop (mkF m pc' ls (v :: st)))) (hpc : pc + 1 = pc' := by rfl) : Wq p e below En Q (T.setTop (mkF m pc ls st)) := by subst hpc; exact Wq.step (fun _ q => XS.aloadN X.here hx rfl hd hl hv q) k
theorem Ow.astoreN (X : Stand p l e R s m args below meth c T locs cells slots) (hx : p.tables.exec = Jvm.exec) {pc : Nat} {ls : Array Slot} {st : List Value} {pc' : Nat} {k : Fin 4} {x : Value} {l' : Array Slot} (hd : decode c.code pc = .ok (.astore_n k, 1)) (hv : x.isRef = true) (hl : storeLocals ls k.val x = some l') (k : Wq p e below En Q (T.setTop (mkF m pc' l' st))) (hpc : pc + 1 = pc' := by rfl) : Wq p e below En Q (T.setTop (mkF m pc ls (x :: st))) := by subst hpc; exact Wq.step (fun _ q => XS.astoreN X.here hx rfl hd rfl hv hl q) k
theorem Ow.iload (X : Stand p l e R s m args below meth c T locs cells slots) (hx : p.tables.exec = Jvm.exec) {pc : Nat} {ls : Array Slot} {st : List Value} {pc' : Nat} {k : Nat} {v : Int32} (hd : decode c.code pc = .ok (.iload k, 2)) (hl : ls[k]? = some (.val (.int v))) (k : Wq p e below En Q (T.setTop (mkF m pc' ls (.int v :: st)))) (hpc : pc + 2 = pc' := by rfl) : Wq p e below En Q (T.setTop (mkF m pc ls st)) := by subst hpc; exact Wq.step (fun _ q => XS.iload X.here hx rfl hd hl q) k
theorem Ow.istore (X : Stand p l e R s m args below meth c T locs cells slots) (hx : p.tables.exec = Jvm.exec) {pc : Nat} {ls : Array Slot} {st : List Value} {pc' : Nat} {k : Nat} {x : Int32} {l' : Array Slot} (hd : decode c.code pc = .ok (.istore k, 2)) (hl : storeLocals ls k (.int x) = some l') (k : Wq p e below En Q (T.setTop (mkF m pc' l' st))) (hpc : pc + 2 = pc' := by rfl) : Wq p e below En Q (T.setTop (mkF m pc ls (.int x :: st))) := by subst hpc; exact Wq.step (fun _ q => XS.istore X.here hx rfl hd rfl hl q) k
theorem Ow.lload (X : Stand p l e R s m args below meth c T locs cells slots) (hx : p.tables.exec = Jvm.exec) {pc : Nat} {ls : Array Slot} {st : List Value} {pc' : Nat} {k : Nat} {v : Int64} (hd : decode c.code pc = .ok (.lload k, 2)) (hl : ls[k]? = some (.val (.long v))) (k : Wq p e below En Q (T.setTop (mkF m pc' ls (.long v :: st)))) (hpc : pc + 2 = pc' := by rfl) : Wq p e below En Q (T.setTop (mkF m pc ls st)) := by subst hpc; exact Wq.step (fun _ q => XS.lload X.here hx rfl hd hl q) k
theorem Ow.lstore (X : Stand p l e R s m args below meth c T locs cells slots) (hx : p.tables.exec = Jvm.exec) {pc : Nat} {ls : Array Slot} {st : List Value} {pc' : Nat} {k : Nat} {x : Int64} {l' : Array Slot} (hd : decode c.code pc = .ok (.lstore k, 2)) (hl : storeLocals ls k (.long x) = some l') (k : Wq p e below En Q (T.setTop (mkF m pc' l' st))) (hpc : pc + 2 = pc' := by rfl) : Wq p e below En Q (T.setTop (mkF m pc ls (.long x :: st))) := by subst hpc; exact Wq.step (fun _ q => XS.lstore X.here hx rfl hd rfl hl q) k
theorem Ow.aload (X : Stand p l e R s m args below meth c T locs cells slots) (hx : p.tables.exec = Jvm.exec) {pc : Nat} {ls : Array Slot} {st : List Value} {pc' : Nat} {k : Nat} {v : Value} (hd : decode c.code pc = .ok (.aload k, 2)) (hl : ls[k]? = some (.val v)) (hv : v.isRef = true) (k : Wq p e below En Q (T.setTop (mkF m pc' ls (v :: st)))) (hpc : pc + 2 = pc' := by rfl) : Wq p e below En Q (T.setTop (mkF m pc ls st)) := by subst hpc; exact Wq.step (fun _ q => XS.aload X.here hx rfl hd hl hv q) k
theorem Ow.astore (X : Stand p l e R s m args below meth c T locs cells slots) (hx : p.tables.exec = Jvm.exec) {pc : Nat} {ls : Array Slot} {st : List Value} {pc' : Nat} {k : Nat} {x : Value} {l' : Array Slot} (hd : decode c.code pc = .ok (.astore k, 2)) (hv : x.isRef = true) (hl : storeLocals ls k x = some l') (k : Wq p e below En Q (T.setTop (mkF m pc' l' st))) (hpc : pc + 2 = pc' := by rfl) : Wq p e below En Q (T.setTop (mkF m pc ls (x :: st))) := by subst hpc; exact Wq.step (fun _ q => XS.astore X.here hx rfl hd rfl hv hl q) k
theorem Ow.istoreNS (X : Stand p l e R s m args below meth c T locs cells slots) (hx : p.tables.exec = Jvm.exec) {pc pc' : Nat} {ls : Array Slot} {st : List Value} {k : Fin 4} {x : Int32} {o : Slot} {l' : Array Slot} (hd : decode c.code pc = .ok (.istore_n k, 1)) (hold : ls[k.val]? = some o) (ho : o = .unset ∨ ∃ w, o = .val w ∧ w.category = 1) (hl : ls.setIfInBounds k.val (.val (.int x)) = l') (q : Wq p e below En Q (T.setTop (mkF m pc' l' st))) (hpc : pc + 1 = pc' := by rfl) : Wq p e below En Q (T.setTop (mkF m pc ls (.int x :: st))) := by
  subst hpc hl
  exact Wq.step (fun _ z => XS.istoreN X.here hx rfl hd rfl (XS.store1 hold ho rfl) z) q
theorem Ow.istoreS (X : Stand p l e R s m args below meth c T locs cells slots) (hx : p.tables.exec = Jvm.exec) {pc pc' : Nat} {ls : Array Slot} {st : List Value} {k : Nat} {x : Int32} {o : Slot} {l' : Array Slot} (hd : decode c.code pc = .ok (.istore k, 2)) (hold : ls[k]? = some o) (ho : o = .unset ∨ ∃ w, o = .val w ∧ w.category = 1) (hl : ls.setIfInBounds k (.val (.int x)) = l') (q : Wq p e below En Q (T.setTop (mkF m pc' l' st))) (hpc : pc + 2 = pc' := by rfl) : Wq p e below En Q (T.setTop (mkF m pc ls (.int x :: st))) := by
  subst hpc hl
  exact Wq.step (fun _ z => XS.istore X.here hx rfl hd rfl (XS.store1 hold ho rfl) z) q
theorem Ow.iconst (X : Stand p l e R s m args below meth c T locs cells slots) (hx : p.tables.exec = Jvm.exec) {pc : Nat} {ls : Array Slot} {st : List Value} {pc' : Nat} {i : Int} {z : Int32} (hd : decode c.code pc = .ok (.iconst i, 1)) (hz : Int32.ofInt i = z) (k : Wq p e below En Q (T.setTop (mkF m pc' ls (.int z :: st)))) (hpc : pc + 1 = pc' := by rfl) : Wq p e below En Q (T.setTop (mkF m pc ls st)) := by subst hz hpc; exact Wq.step (fun _ q => XS.iconst X.here hx rfl hd  q) k
theorem Ow.bipush (X : Stand p l e R s m args below meth c T locs cells slots) (hx : p.tables.exec = Jvm.exec) {pc : Nat} {ls : Array Slot} {st : List Value} {pc' : Nat} {i : Int} {z : Int32} (hd : decode c.code pc = .ok (.bipush i, 2)) (hz : (Int8.ofInt i).toInt32 = z) (k : Wq p e below En Q (T.setTop (mkF m pc' ls (.int z :: st)))) (hpc : pc + 2 = pc' := by rfl) : Wq p e below En Q (T.setTop (mkF m pc ls st)) := by subst hz hpc; exact Wq.step (fun _ q => XS.bipush X.here hx rfl hd  q) k
theorem Ow.sipush (X : Stand p l e R s m args below meth c T locs cells slots) (hx : p.tables.exec = Jvm.exec) {pc : Nat} {ls : Array Slot} {st : List Value} {pc' : Nat} {i : Int} {z : Int32} (hd : decode c.code pc = .ok (.sipush i, 3)) (hz : (Int16.ofInt i).toInt32 = z) (k : Wq p e below En Q (T.setTop (mkF m pc' ls (.int z :: st)))) (hpc : pc + 3 = pc' := by rfl) : Wq p e below En Q (T.setTop (mkF m pc ls st)) := by subst hz hpc; exact Wq.step (fun _ q => XS.sipush X.here hx rfl hd  q) k
theorem Ow.lconst (X : Stand p l e R s m args below meth c T locs cells slots) (hx : p.tables.exec = Jvm.exec) {pc : Nat} {ls : Array Slot} {st : List Value} {pc' : Nat} {i : Fin 2} {z : Int64} (hd : decode c.code pc = .ok (.lconst i, 1)) (hz : Int64.ofNat i = z) (k : Wq p e below En Q (T.setTop (mkF m pc' ls (.long z :: st)))) (hpc : pc + 1 = pc' := by rfl) : Wq p e below En Q (T.setTop (mkF m pc ls st)) := by subst hz hpc; exact Wq.step (fun _ q => XS.lconst X.here hx rfl hd  q) k
theorem Ow.aconstNull (X : Stand p l e R s m args below meth c T locs cells slots) (hx : p.tables.exec = Jvm.exec) {pc : Nat} {ls : Array Slot} {st : List Value} {pc' : Nat}  (hd : decode c.code pc = .ok (.aconst_null, 1))  (k : Wq p e below En Q (T.setTop (mkF m pc' ls (.null :: st)))) (hpc : pc + 1 = pc' := by rfl) : Wq p e below En Q (T.setTop (mkF m pc ls st)) := by subst hpc; exact Wq.step (fun _ q => XS.aconstNull X.here hx rfl hd  q) k
theorem Ow.iadd (X : Stand p l e R s m args below meth c T locs cells slots) (hx : p.tables.exec = Jvm.exec) {pc : Nat} {ls : Array Slot} {st : List Value} {pc' : Nat} {x y z : Int32} (hd : decode c.code pc = .ok (.iadd, 1)) (hz : x + y = z) (k : Wq p e below En Q (T.setTop (mkF m pc' ls (.int z :: st)))) (hpc : pc + 1 = pc' := by rfl) : Wq p e below En Q (T.setTop (mkF m pc ls (.int y :: .int x :: st))) := by subst hz hpc; exact Wq.step (fun _ q => XS.iadd X.here hx rfl hd rfl q) k
theorem Ow.ladd (X : Stand p l e R s m args below meth c T locs cells slots) (hx : p.tables.exec = Jvm.exec) {pc : Nat} {ls : Array Slot} {st : List Value} {pc' : Nat} {x y z : Int64} (hd : decode c.code pc = .ok (.ladd, 1)) (hz : x + y = z) (k : Wq p e below En Q (T.setTop (mkF m pc' ls (.long z :: st)))) (hpc : pc + 1 = pc' := by rfl) : Wq p e below En Q (T.setTop (mkF m pc ls (.long y :: .long x :: st))) := by subst hz hpc; exact Wq.step (fun _ q => XS.ladd X.here hx rfl hd rfl q) k
theorem Ow.isub (X : Stand p l e R s m args below meth c T locs cells slots) (hx : p.tables.exec = Jvm.exec) {pc : Nat} {ls : Array Slot} {st : List Value} {pc' : Nat} {x y z : Int32} (hd : decode c.code pc = .ok (.isub, 1)) (hz : x - y = z) (k : Wq p e below En Q (T.setTop (mkF m pc' ls (.int z :: st)))) (hpc : pc + 1 = pc' := by rfl) : Wq p e below En Q (T.setTop (mkF m pc ls (.int y :: .int x :: st))) := by subst hz hpc; exact Wq.step (fun _ q => XS.isub X.here hx rfl hd rfl q) k
theorem Ow.lsub (X : Stand p l e R s m args below meth c T locs cells slots) (hx : p.tables.exec = Jvm.exec) {pc : Nat} {ls : Array Slot} {st : List Value} {pc' : Nat} {x y z : Int64} (hd : decode c.code pc = .ok (.lsub, 1)) (hz : x - y = z) (k : Wq p e below En Q (T.setTop (mkF m pc' ls (.long z :: st)))) (hpc : pc + 1 = pc' := by rfl) : Wq p e below En Q (T.setTop (mkF m pc ls (.long y :: .long x :: st))) := by subst hz hpc; exact Wq.step (fun _ q => XS.lsub X.here hx rfl hd rfl q) k
theorem Ow.imul (X : Stand p l e R s m args below meth c T locs cells slots) (hx : p.tables.exec = Jvm.exec) {pc : Nat} {ls : Array Slot} {st : List Value} {pc' : Nat} {x y z : Int32} (hd : decode c.code pc = .ok (.imul, 1)) (hz : x * y = z) (k : Wq p e below En Q (T.setTop (mkF m pc' ls (.int z :: st)))) (hpc : pc + 1 = pc' := by rfl) : Wq p e below En Q (T.setTop (mkF m pc ls (.int y :: .int x :: st))) := by subst hz hpc; exact Wq.step (fun _ q => XS.imul X.here hx rfl hd rfl q) k
theorem Ow.lmul (X : Stand p l e R s m args below meth c T locs cells slots) (hx : p.tables.exec = Jvm.exec) {pc : Nat} {ls : Array Slot} {st : List Value} {pc' : Nat} {x y z : Int64} (hd : decode c.code pc = .ok (.lmul, 1)) (hz : x * y = z) (k : Wq p e below En Q (T.setTop (mkF m pc' ls (.long z :: st)))) (hpc : pc + 1 = pc' := by rfl) : Wq p e below En Q (T.setTop (mkF m pc ls (.long y :: .long x :: st))) := by subst hz hpc; exact Wq.step (fun _ q => XS.lmul X.here hx rfl hd rfl q) k
theorem Ow.iand (X : Stand p l e R s m args below meth c T locs cells slots) (hx : p.tables.exec = Jvm.exec) {pc : Nat} {ls : Array Slot} {st : List Value} {pc' : Nat} {x y z : Int32} (hd : decode c.code pc = .ok (.iand, 1)) (hz : x &&& y = z) (k : Wq p e below En Q (T.setTop (mkF m pc' ls (.int z :: st)))) (hpc : pc + 1 = pc' := by rfl) : Wq p e below En Q (T.setTop (mkF m pc ls (.int y :: .int x :: st))) := by subst hz hpc; exact Wq.step (fun _ q => XS.iand X.here hx rfl hd rfl q) k
theorem Ow.land (X : Stand p l e R s m args below meth c T locs cells slots) (hx : p.tables.exec = Jvm.exec) {pc : Nat} {ls : Array Slot} {st : List Value} {pc' : Nat} {x y z : Int64} (hd : decode c.code pc = .ok (.land, 1)) (hz : x &&& y = z) (k : Wq p e below En Q (T.setTop (mkF m pc' ls (.long z :: st)))) (hpc : pc + 1 = pc' := by rfl) : Wq p e below En Q (T.setTop (mkF m pc ls (.long y :: .long x :: st))) := by subst hz hpc; exact Wq.step (fun _ q => XS.land X.here hx rfl hd rfl q) k
theorem Ow.ior (X : Stand p l e R s m args below meth c T locs cells slots) (hx : p.tables.exec = Jvm.exec) {pc : Nat} {ls : Array Slot} {st : List Value} {pc' : Nat} {x y z : Int32} (hd : decode c.code pc = .ok (.ior, 1)) (hz : x ||| y = z) (k : Wq p e below En Q (T.setTop (mkF m pc' ls (.int z :: st)))) (hpc : pc + 1 = pc' := by rfl) : Wq p e below En Q (T.setTop (mkF m pc ls (.int y :: .int x :: st))) := by subst hz hpc; exact Wq.step (fun _ q => XS.ior X.here hx rfl hd rfl q) k
theorem Ow.lor (X : Stand p l e R s m args below meth c T locs cells slots) (hx : p.tables.exec = Jvm.exec) {pc : Nat} {ls : Array Slot} {st : List Value} {pc' : Nat} {x y z : Int64} (hd : decode c.code pc = .ok (.lor, 1)) (hz : x ||| y = z) (k : Wq p e below En Q (T.setTop (mkF m pc' ls (.long z :: st)))) (hpc : pc + 1 = pc' := by rfl) : Wq p e below En Q (T.setTop (mkF m pc ls (.long y :: .long x :: st))) := by subst hz hpc; exact Wq.step (fun _ q => XS.lor X.here hx rfl hd rfl q) k
theorem Ow.ixor (X : Stand p l e R s m args below meth c T locs cells slots) (hx : p.tables.exec = Jvm.exec) {pc : Nat} {ls : Array Slot} {st : List Value} {pc' : Nat} {x y z : Int32} (hd : decode c.code pc = .ok (.ixor, 1)) (hz : x ^^^ y = z) (k : Wq p e below En Q (T.setTop (mkF m pc' ls (.int z :: st)))) (hpc : pc + 1 = pc' := by rfl) : Wq p e below En Q (T.setTop (mkF m pc ls (.int y :: .int x :: st))) := by subst hz hpc; exact Wq.step (fun _ q => XS.ixor X.here hx rfl hd rfl q) k
theorem Ow.lxor (X : Stand p l e R s m args below meth c T locs cells slots) (hx : p.tables.exec = Jvm.exec) {pc : Nat} {ls : Array Slot} {st : List Value} {pc' : Nat} {x y z : Int64} (hd : decode c.code pc = .ok (.lxor, 1)) (hz : x ^^^ y = z) (k : Wq p e below En Q (T.setTop (mkF m pc' ls (.long z :: st)))) (hpc : pc + 1 = pc' := by rfl) : Wq p e below En Q (T.setTop (mkF m pc ls (.long y :: .long x :: st))) := by subst hz hpc; exact Wq.step (fun _ q => XS.lxor X.here hx rfl hd rfl q) k
theorem Ow.ineg (X : Stand p l e R s m args below meth c T locs cells slots) (hx : p.tables.exec = Jvm.exec) {pc : Nat} {ls : Array Slot} {st : List Value} {pc' : Nat} {x : Int32} {z : Int32} (hd : decode c.code pc = .ok (.ineg, 1)) (hz : -x = z) (k : Wq p e below En Q (T.setTop (mkF m pc' ls (.int z :: st)))) (hpc : pc + 1 = pc' := by rfl) : Wq p e below En Q (T.setTop (mkF m pc ls (.int x :: st))) := by subst hz hpc; exact Wq.step (fun _ q => XS.ineg X.here hx rfl hd rfl q) k
theorem Ow.lneg (X : Stand p l e R s m args below meth c T locs cells slots) (hx : p.tables.exec = Jvm.exec) {pc : Nat} {ls : Array Slot} {st : List Value} {pc' : Nat} {x : Int64} {z : Int64} (hd : decode c.code pc = .ok (.lneg, 1)) (hz : -x = z) (k : Wq p e below En Q (T.setTop (mkF m pc' ls (.long z :: st)))) (hpc : pc + 1 = pc' := by rfl) : Wq p e below En Q (T.setTop (mkF m pc ls (.long x :: st))) := by subst hz hpc; exact Wq.step (fun _ q => XS.lneg X.here hx rfl hd rfl q) k
theorem Ow.i2l (X : Stand p l e R s m args below meth c T locs cells slots) (hx : p.tables.exec = Jvm.exec) {pc : Nat} {ls : Array Slot} {st : List Value} {pc' : Nat} {x : Int32} {z : Int64} (hd : decode c.code pc = .ok (.i2l, 1)) (hz : x.toInt64 = z) (k : Wq p e below En Q (T.setTop (mkF m pc' ls (.long z :: st)))) (hpc : pc + 1 = pc' := by rfl) : Wq p e below En Q (T.setTop (mkF m pc ls (.int x :: st))) := by subst hz hpc; exact Wq.step (fun _ q => XS.i2l X.here hx rfl hd rfl q) k
theorem Ow.l2i (X : Stand p l e R s m args below meth c T locs cells slots) (hx : p.tables.exec = Jvm.exec) {pc : Nat} {ls : Array Slot} {st : List Value} {pc' : Nat} {x : Int64} {z : Int32} (hd : decode c.code pc = .ok (.l2i, 1)) (hz : x.toInt32 = z) (k : Wq p e below En Q (T.setTop (mkF m pc' ls (.int z :: st)))) (hpc : pc + 1 = pc' := by rfl) : Wq p e below En Q (T.setTop (mkF m pc ls (.long x :: st))) := by subst hz hpc; exact Wq.step (fun _ q => XS.l2i X.here hx rfl hd rfl q) k
theorem Ow.i2b (X : Stand p l e R s m args below meth c T locs cells slots) (hx : p.tables.exec = Jvm.exec) {pc : Nat} {ls : Array Slot} {st : List Value} {pc' : Nat} {x : Int32} {z : Int32} (hd : decode c.code pc = .ok (.i2b, 1)) (hz : x.toInt8.toInt32 = z) (k : Wq p e below En Q (T.setTop (mkF m pc' ls (.int z :: st)))) (hpc : pc + 1 = pc' := by rfl) : Wq p e below En Q (T.setTop (mkF m pc ls (.int x :: st))) := by subst hz hpc; exact Wq.step (fun _ q => XS.i2b X.here hx rfl hd rfl q) k
theorem Ow.i2s (X : Stand p l e R s m args below meth c T locs cells slots) (hx : p.tables.exec = Jvm.exec) {pc : Nat} {ls : Array Slot} {st : List Value} {pc' : Nat} {x : Int32} {z : Int32} (hd : decode c.code pc = .ok (.i2s, 1)) (hz : x.toInt16.toInt32 = z) (k : Wq p e below En Q (T.setTop (mkF m pc' ls (.int z :: st)))) (hpc : pc + 1 = pc' := by rfl) : Wq p e below En Q (T.setTop (mkF m pc ls (.int x :: st))) := by subst hz hpc; exact Wq.step (fun _ q => XS.i2s X.here hx rfl hd rfl q) k
theorem Ow.i2c (X : Stand p l e R s m args below meth c T locs cells slots) (hx : p.tables.exec = Jvm.exec) {pc : Nat} {ls : Array Slot} {st : List Value} {pc' : Nat} {x : Int32} {z : Int32} (hd : decode c.code pc = .ok (.i2c, 1)) (hz : x.toUInt32.toUInt16.toUInt32.toInt32 = z) (k : Wq p e below En Q (T.setTop (mkF m pc' ls (.int z :: st)))) (hpc : pc + 1 = pc' := by rfl) : Wq p e below En Q (T.setTop (mkF m pc ls (.int x :: st))) := by subst hz hpc; exact Wq.step (fun _ q => XS.i2c X.here hx rfl hd rfl q) k
theorem Ow.ishl (X : Stand p l e R s m args below meth c T locs cells slots) (hx : p.tables.exec = Jvm.exec) {pc : Nat} {ls : Array Slot} {st : List Value} {pc' : Nat} {x : Int32} {y : Int32} {z : Int32} (hd : decode c.code pc = .ok (.ishl, 1)) (hz : x <<< (y &&& 31) = z) (k : Wq p e below En Q (T.setTop (mkF m pc' ls (.int z :: st)))) (hpc : pc + 1 = pc' := by rfl) : Wq p e below En Q (T.setTop (mkF m pc ls (.int y :: .int x :: st))) := by subst hz hpc; exact Wq.step (fun _ q => XS.ishl X.here hx rfl hd rfl q) k
theorem Ow.ishr (X : Stand p l e R s m args below meth c T locs cells slots) (hx : p.tables.exec = Jvm.exec) {pc : Nat} {ls : Array Slot} {st : List Value} {pc' : Nat} {x : Int32} {y : Int32} {z : Int32} (hd : decode c.code pc = .ok (.ishr, 1)) (hz : x >>> (y &&& 31) = z) (k : Wq p e below En Q (T.setTop (mkF m pc' ls (.int z :: st)))) (hpc : pc + 1 = pc' := by rfl) : Wq p e below En Q (T.setTop (mkF m pc ls (.int y :: .int x :: st))) := by subst hz hpc; exact Wq.step (fun _ q => XS.ishr X.here hx rfl hd rfl q) k
theorem Ow.iushr (X : Stand p l e R s m args below meth c T locs cells slots) (hx : p.tables.exec = Jvm.exec) {pc : Nat} {ls : Array Slot} {st : List Value} {pc' : Nat} {x : Int32} {y : Int32} {z : Int32} (hd : decode c.code pc = .ok (.iushr, 1)) (hz : (x.toUInt32 >>> (y &&& 31).toUInt32).toInt32 = z) (k : Wq p e below En Q (T.setTop (mkF m pc' ls (.int z :: st)))) (hpc : pc + 1 = pc' := by rfl) : Wq p e below En Q (T.setTop (mkF m pc ls (.int y :: .int x :: st))) := by subst hz hpc; exact Wq.step (fun _ q => XS.iushr X.here hx rfl hd rfl q) k
theorem Ow.lshl (X : Stand p l e R s m args below meth c T locs cells slots) (hx : p.tables.exec = Jvm.exec) {pc : Nat} {ls : Array Slot} {st : List Value} {pc' : Nat} {x : Int64} {y : Int32} {z : Int64} (hd : decode c.code pc = .ok (.lshl, 1)) (hz : x <<< (y &&& 0x3f).toInt64 = z) (k : Wq p e below En Q (T.setTop (mkF m pc' ls (.long z :: st)))) (hpc : pc + 1 = pc' := by rfl) : Wq p e below En Q (T.setTop (mkF m pc ls (.int y :: .long x :: st))) := by subst hz hpc; exact Wq.step (fun _ q => XS.lshl X.here hx rfl hd rfl q) k
theorem Ow.lshr (X : Stand p l e R s m args below meth c T locs cells slots) (hx : p.tables.exec = Jvm.exec) {pc : Nat} {ls : Array Slot} {st : List Value} {pc' : Nat} {x : Int64} {y : Int32} {z : Int64} (hd : decode c.code pc = .ok (.lshr, 1)) (hz : x >>> (y &&& 0x3f).toInt64 = z) (k : Wq p e below En Q (T.setTop (mkF m pc' ls (.long z :: st)))) (hpc : pc + 1 = pc' := by rfl) : Wq p e below En Q (T.setTop (mkF m pc ls (.int y :: .long x :: st))) := by subst hz hpc; exact Wq.step (fun _ q => XS.lshr X.here hx rfl hd rfl q) k
theorem Ow.lushr (X : Stand p l e R s m args below meth c T locs cells slots) (hx : p.tables.exec = Jvm.exec) {pc : Nat} {ls : Array Slot} {st : List Value} {pc' : Nat} {x : Int64} {y : Int32} {z : Int64} (hd : decode c.code pc = .ok (.lushr, 1)) (hz : (x.toUInt64 >>> (y &&& 0x3f).toInt64.toUInt64).toInt64 = z) (k : Wq p e below En Q (T.setTop (mkF m pc' ls (.long z :: st)))) (hpc : pc + 1 = pc' := by rfl) : Wq p e below En Q (T.setTop (mkF m pc ls (.int y :: .long x :: st))) := by subst hz hpc; exact Wq.step (fun _ q => XS.lushr X.here hx rfl hd rfl q) k
theorem Ow.lcmp (X : Stand p l e R s m args below meth c T locs cells slots) (hx : p.tables.exec = Jvm.exec) {pc : Nat} {ls : Array Slot} {st : List Value} {pc' : Nat} {x y : Int64} (hd : decode c.code pc = .ok (.lcmp, 1))  (k : Wq p e below En Q (T.setTop (mkF m pc' ls (.int (lcmpW x y) :: st)))) (hpc : pc + 1 = pc' := by rfl) : Wq p e below En Q (T.setTop (mkF m pc ls (.long y :: .long x :: st))) := by subst hpc; exact Wq.step (fun _ q => XS.lcmp X.here hx rfl hd rfl q) k
theorem Ow.idiv (X : Stand p l e R s m args below meth c T locs cells slots) (hx : p.tables.exec = Jvm.exec) {pc : Nat} {ls : Array Slot} {st : List Value} {pc' : Nat} {x y z : Int32} (hd : decode c.code pc = .ok (.idiv, 1)) (hy : y ≠ 0) (hz : x / y = z) (k : Wq p e below En Q (T.setTop (mkF m pc' ls (.int z :: st)))) (hpc : pc + 1 = pc' := by rfl) : Wq p e below En Q (T.setTop (mkF m pc ls (.int y :: .int x :: st))) := by subst hz hpc; exact Wq.step (fun _ q => XS.idiv X.here hx rfl hd rfl hy q) k
theorem Ow.ldiv (X : Stand p l e R s m args below meth c T locs cells slots) (hx : p.tables.exec = Jvm.exec) {pc : Nat} {ls : Array Slot} {st : List Value} {pc' : Nat} {x y z : Int64} (hd : decode c.code pc = .ok (.ldiv, 1)) (hy : y ≠ 0) (hz : x / y = z) (k : Wq p e below En Q (T.setTop (mkF m pc' ls (.long z :: st)))) (hpc : pc + 1 = pc' := by rfl) : Wq p e below En Q (T.setTop (mkF m pc ls (.long y :: .long x :: st))) := by subst hz hpc; exact Wq.step (fun _ q => XS.ldiv X.here hx rfl hd rfl hy q) k
theorem Ow.irem (X : Stand p l e R s m args below meth c T locs cells slots) (hx : p.tables.exec = Jvm.exec) {pc : Nat} {ls : Array Slot} {st : List Value} {pc' : Nat} {x y z : Int32} (hd : decode c.code pc = .ok (.irem, 1)) (hy : y ≠ 0) (hz : x % y = z) (k : Wq p e below En Q (T.setTop (mkF m pc' ls (.int z :: st)))) (hpc : pc + 1 = pc' := by rfl) : Wq p e below En Q (T.setTop (mkF m pc ls (.int y :: .int x :: st))) := by subst hz hpc; exact Wq.step (fun _ q => iremM X hx rfl hd rfl hy q) k
theorem Ow.lrem (X : Stand p l e R s m args below meth c T locs cells slots) (hx : p.tables.exec = Jvm.exec) {pc : Nat} {ls : Array Slot} {st : List Value} {pc' : Nat} {x y z : Int64} (hd : decode c.code pc = .ok (.lrem, 1)) (hy : y ≠ 0) (hz : x % y = z) (k : Wq p e below En Q (T.setTop (mkF m pc' ls (.long z :: st)))) (hpc : pc + 1 = pc' := by rfl) : Wq p e below En Q (T.setTop (mkF m pc ls (.long y :: .long x :: st))) := by
  rw [← lrem_mod] at hz
  subst hz hpc
  exact Wq.step (fun _ q => XS.lrem X.here hx rfl hd rfl hy q) k
theorem Ow.iinc (X : Stand p l e R s m args below meth c T locs cells slots) (hx : p.tables.exec = Jvm.exec) {pc : Nat} {ls : Array Slot} {st : List Value} {pc' : Nat} {i : Nat} {cst : Int} {x : Int32} {l' : Array Slot} (hd : decode c.code pc = .ok (.iinc i cst, 3)) (hl : ls[i]? = some (.val (.int x))) (hl' : storeLocals ls i (.int (x + Int32.ofInt cst)) = some l') (k : Wq p e below En Q (T.setTop (mkF m pc' l' st))) (hpc : pc + 3 = pc' := by rfl) : Wq p e below En Q (T.setTop (mkF m pc ls st)) := by subst hpc; exact Wq.step (fun _ q => XS.iinc X.here hx rfl hd hl hl' q) k
theorem Ow.dup (X : Stand p l e R s m args below meth c T locs cells slots) (hx : p.tables.exec = Jvm.exec) {pc : Nat} {ls : Array Slot} {st : List Value} {pc' : Nat} {x : Value} (hd : decode c.code pc = .ok (.dup, 1)) (hc : x.category = 1) (k : Wq p e below En Q (T.setTop (mkF m pc' ls (x :: x :: st)))) (hpc : pc + 1 = pc' := by rfl) : Wq p e below En Q (T.setTop (mkF m pc ls (x :: st))) := by subst hpc; exact Wq.step (fun _ q => XS.dup X.here hx rfl hd rfl hc q) k
theorem Ow.pop (X : Stand p l e R s m args below meth c T locs cells slots) (hx : p.tables.exec = Jvm.exec) {pc : Nat} {ls : Array Slot} {st : List Value} {pc' : Nat} {x : Value} (hd : decode c.code pc = .ok (.pop, 1)) (hc : x.category = 1) (k : Wq p e below En Q (T.setTop (mkF m pc' ls st))) (hpc : pc + 1 = pc' := by rfl) : Wq p e below En Q (T.setTop (mkF m pc ls (x :: st))) := by subst hpc; exact Wq.step (fun _ q => XS.pop X.here hx rfl hd rfl hc q) k
theorem Ow.dupX1 (X : Stand p l e R s m args below meth c T locs cells slots) (hx : p.tables.exec = Jvm.exec) {pc : Nat} {ls : Array Slot} {st : List Value} {pc' : Nat} {x y : Value} (hd : decode c.code pc = .ok (.dup_x1, 1)) (hc : x.category = 1) (hc' : y.category = 1) (k : Wq p e below En Q (T.setTop (mkF m pc' ls (x :: y :: x :: st)))) (hpc : pc + 1 = pc' := by rfl) : Wq p e below En Q (T.setTop (mkF m pc ls (x :: y :: st))) := by subst hpc; exact Wq.step (fun _ q => XS.dupX1 X.here hx rfl hd rfl hc hc' q) k
theorem Ow.swap (X : Stand p l e R s m args below meth c T locs cells slots) (hx : p.tables.exec = Jvm.exec) {pc : Nat} {ls : Array Slot} {st : List Value} {pc' : Nat} {x y : Value} (hd : decode c.code pc = .ok (.swap, 1)) (hc : x.category = 1) (hc' : y.category = 1) (k : Wq p e below En Q (T.setTop (mkF m pc' ls (y :: x :: st)))) (hpc : pc + 1 = pc' := by rfl) : Wq p e below En Q (T.setTop (mkF m pc ls (x :: y :: st))) := by subst hpc; exact Wq.step (fun _ q => XS.swap X.here hx rfl hd rfl hc hc' q) k
theorem Ow.dup2 (X : Stand p l e R s m args below meth c T locs cells slots) (hx : p.tables.exec = Jvm.exec) {pc : Nat} {ls : Array Slot} {st : List Value} {pc' : Nat} {x y : Value} (hd : decode c.code pc = .ok (.dup2, 1)) (hc : x.category = 1) (hc' : y.category = 1) (k : Wq p e below En Q (T.setTop (mkF m pc' ls (x :: y :: x :: y :: st)))) (hpc : pc + 1 = pc' := by rfl) : Wq p e below En Q (T.setTop (mkF m pc ls (x :: y :: st))) := by subst hpc; exact Wq.step (fun _ q => Jvm.Free.XT.dup2 X.here hx rfl hd rfl hc hc' q) k
theorem Ow.dup2L (X : Stand p l e R s m args below meth c T locs cells slots) (hx : p.tables.exec = Jvm.exec) {pc : Nat} {ls : Array Slot} {st : List Value} {pc' : Nat} {x : Int64} (hd : decode c.code pc = .ok (.dup2, 1))  (k : Wq p e below En Q (T.setTop (mkF m pc' ls (.long x :: .long x :: st)))) (hpc : pc + 1 = pc' := by rfl) : Wq p e below En Q (T.setTop (mkF m pc ls (.long x :: st))) := by subst hpc; exact Wq.step (fun _ q => Jvm.Free.XT.dup2L X.here hx rfl hd rfl q) k
theorem Ow.goto (X : Stand p l e R s m args below meth c T locs cells slots) (hx : p.tables.exec = Jvm.exec) {pc : Nat} {ls : Array Slot} {st : List Value} {o : Int} {pc' : Nat} (hd : decode c.code pc = .ok (.goto o, 3)) (ho : 0 ≤ (pc : Int) + o) (hp : ((pc : Int) + o).toNat = pc') (k : Wq p e below En Q (T.setTop (mkF m pc' ls st))) : Wq p e below En Q (T.setTop (mkF m pc ls st)) := Wq.step (fun _ q => XS.goto X.here hx rfl rfl hd ho hp q) k
theorem Ow.ifYes (X : Stand p l e R s m args below meth c T locs cells slots) (hx : p.tables.exec = Jvm.exec) {pc : Nat} {ls : Array Slot} {st : List Value} {cd : ClassFile.Cond} {x : Int32} {o : Int} {pc' : Nat} (hd : decode c.code pc = .ok (.ifCond cd o, 3)) (hc : ifCond.holds cd x = true) (ho : 0 ≤ (pc : Int) + o) (hp : ((pc : Int) + o).toNat = pc') (k : Wq p e below En Q (T.setTop (mkF m pc' ls st))) : Wq p e below En Q (T.setTop (mkF m pc ls (.int x :: st))) := Wq.step (fun _ q => XS.ifYes X.here hx rfl rfl hd rfl hc ho hp q) k
theorem Ow.ifNo (X : Stand p l e R s m args below meth c T locs cells slots) (hx : p.tables.exec = Jvm.exec) {pc : Nat} {ls : Array Slot} {st : List Value} {pc' : Nat} {cd : ClassFile.Cond} {x : Int32} {o : Int} (hd : decode c.code pc = .ok (.ifCond cd o, 3)) (hc : ifCond.holds cd x = false) (k : Wq p e below En Q (T.setTop (mkF m pc' ls st))) (hpc : pc + 3 = pc' := by rfl) : Wq p e below En Q (T.setTop (mkF m pc ls (.int x :: st))) := by subst hpc; exact Wq.step (fun _ q => XS.ifNo X.here hx rfl hd rfl hc q) k
theorem Ow.icmpYes (X : Stand p l e R s m args below meth c T locs cells slots) (hx : p.tables.exec = Jvm.exec) {pc : Nat} {ls : Array Slot} {st : List Value} {cd : ClassFile.Cond} {x y : Int32} {o : Int} {pc' : Nat} (hd : decode c.code pc = .ok (.if_icmp cd o, 3)) (hc : if_icmp.holds cd x y = true) (ho : 0 ≤ (pc : Int) + o) (hp : ((pc : Int) + o).toNat = pc') (k : Wq p e below En Q (T.setTop (mkF m pc' ls st))) : Wq p e below En Q (T.setTop (mkF m pc ls (.int y :: .int x :: st))) := Wq.step (fun _ q => XS.icmpYes X.here hx rfl rfl hd rfl hc ho hp q) k
theorem Ow.icmpNo (X : Stand p l e R s m args below meth c T locs cells slots) (hx : p.tables.exec = Jvm.exec) {pc : Nat} {ls : Array Slot} {st : List Value} {pc' : Nat} {cd : ClassFile.Cond} {x y : Int32} {o : Int} (hd : decode c.code pc = .ok (.if_icmp cd o, 3)) (hc : if_icmp.holds cd x y = false) (k : Wq p e below En Q (T.setTop (mkF m pc' ls st))) (hpc : pc + 3 = pc' := by rfl) : Wq p e below En Q (T.setTop (mkF m pc ls (.int y :: .int x :: st))) := by subst hpc; exact Wq.step (fun _ q => XS.icmpNo X.here hx rfl hd rfl hc q) k
theorem Ow.ifnullYes (X : Stand p l e R s m args below meth c T locs cells slots) (hx : p.tables.exec = Jvm.exec) {pc : Nat} {ls : Array Slot} {st : List Value} {o : Int} {pc' : Nat} (hd : decode c.code pc = .ok (.ifnull o, 3)) (ho : 0 ≤ (pc : Int) + o) (hp : ((pc : Int) + o).toNat = pc') (k : Wq p e below En Q (T.setTop (mkF m pc' ls st))) : Wq p e below En Q (T.setTop (mkF m pc ls (.null :: st))) := Wq.step (fun _ q => XS.ifnullYes X.here hx rfl rfl hd rfl ho hp q) k
theorem Ow.ifnullNo (X : Stand p l e R s m args below meth c T locs cells slots) (hx : p.tables.exec = Jvm.exec) {pc : Nat} {ls : Array Slot} {st : List Value} {pc' : Nat} {o : Int} {b : Addr} (hd : decode c.code pc = .ok (.ifnull o, 3))  (k : Wq p e below En Q (T.setTop (mkF m pc' ls st))) (hpc : pc + 3 = pc' := by rfl) : Wq p e below En Q (T.setTop (mkF m pc ls (.ref b :: st))) := by subst hpc; exact Wq.step (fun _ q => XS.ifnullNo X.here hx rfl hd rfl q) k
theorem Ow.ifnonnullYes (X : Stand p l e R s m args below meth c T locs cells slots) (hx : p.tables.exec = Jvm.exec) {pc : Nat} {ls : Array Slot} {st : List Value} {o : Int} {b : Addr} {pc' : Nat} (hd : decode c.code pc = .ok (.ifnonnull o, 3)) (ho : 0 ≤ (pc : Int) + o) (hp : ((pc : Int) + o).toNat = pc') (k : Wq p e below En Q (T.setTop (mkF m pc' ls st))) : Wq p e below En Q (T.setTop (mkF m pc ls (.ref b :: st))) := Wq.step (fun _ q => XS.ifnonnullYes X.here hx rfl rfl hd rfl ho hp q) k
theorem Ow.ifnonnullNo (X : Stand p l e R s m args below meth c T locs cells slots) (hx : p.tables.exec = Jvm.exec) {pc : Nat} {ls : Array Slot} {st : List Value} {pc' : Nat} {o : Int} (hd : decode c.code pc = .ok (.ifnonnull o, 3))  (k : Wq p e below En Q (T.setTop (mkF m pc' ls st))) (hpc : pc + 3 = pc' := by rfl) : Wq p e below En Q (T.setTop (mkF m pc ls (.null :: st))) := by subst hpc; exact Wq.step (fun _ q => XS.ifnonnullNo X.here hx rfl hd rfl q) k
theorem Ow.acmp (X : Stand p l e R s m args below meth c T locs cells slots) (hx : p.tables.exec = Jvm.exec) {pc : Nat} {ls : Array Slot} {st : List Value} {cd : ACond} {x y : Value} {o : Int} {pc' : Nat} {same : Bool} (hd : decode c.code pc = .ok (.if_acmp cd o, 3)) (h1 : x.isRef = true) (h2 : y.isRef = true) (hq : decide (x = y) = same) (ho : 0 ≤ (pc : Int) + o) (hp : pc' = if acV cd same = true then ((pc : Int) + o).toNat else pc + 3) (k : Wq p e below En Q (T.setTop (mkF m pc' ls st))) : Wq p e below En Q (T.setTop (mkF m pc ls (y :: x :: st))) := Wq.step (fun _ q => Jvm.RoadKit.acmp (g := mkF m pc ls (y :: x :: st)) X hx rfl h1 h2 rfl hd rfl hq ho hp q) k
theorem Ow.ldcInt (X : Stand p l e R s m args below meth c T locs cells slots) (hx : p.tables.exec = Jvm.exec) (hZ : Z.Warmed39 s.vm) {a0 : Array Value} {own : String} {index : Nat} {v : Int32} {pc pc' : Nat} {ls : Array Slot} {st : List Value} (hown : s.vm.findClass own = some m.cls) (w : (Cond.constant own index v).before a0 Z = true) (hd : decode c.code pc = .ok (.ldc index, 2)) (k : Wq p e below En Q (T.setTop (mkF m pc' ls (.int v :: st)))) (hpc : pc + 2 = pc' := by rfl) : Wq p e below En Q (T.setTop (mkF m pc ls st)) := by subst hpc; exact Wq.step (fun _ q => X.ldcInt hx hown (mvT hZ w) (g := mkF m pc ls st) rfl hd _ q) k
theorem Ow.ldcwInt (X : Stand p l e R s m args below meth c T locs cells slots) (hx : p.tables.exec = Jvm.exec) (hZ : Z.Warmed39 s.vm) {a0 : Array Value} {own : String} {index : Nat} {v : Int32} {pc pc' : Nat} {ls : Array Slot} {st : List Value} (hown : s.vm.findClass own = some m.cls) (w : (Cond.constant own index v).before a0 Z = true) (hd : decode c.code pc = .ok (.ldc_w index, 3)) (k : Wq p e below En Q (T.setTop (mkF m pc' ls (.int v :: st)))) (hpc : pc + 3 = pc' := by rfl) : Wq p e below En Q (T.setTop (mkF m pc ls st)) := by subst hpc; exact Wq.step (fun _ q => X.ldcwInt hx hown (mvT hZ w) (g := mkF m pc ls st) rfl hd _ q) k
theorem Ow.ldc2Long (X : Stand p l e R s m args below meth c T locs cells slots) (hx : p.tables.exec = Jvm.exec) (hZ : Z.Warmed39 s.vm) {a0 : Array Value} {own : String} {index : Nat} {v : Int64} {pc pc' : Nat} {ls : Array Slot} {st : List Value} (hown : s.vm.findClass own = some m.cls) (w : (Cond.constantLong own index v).before a0 Z = true) (hd : decode c.code pc = .ok (.ldc2_w index, 3)) (k : Wq p e below En Q (T.setTop (mkF m pc' ls (.long v :: st)))) (hpc : pc + 3 = pc' := by rfl) : Wq p e below En Q (T.setTop (mkF m pc ls st)) := by subst hpc; exact Wq.step (fun _ q => X.ldc2Long hx hown (mvT hZ w) (g := mkF m pc ls st) rfl hd _ q) k
theorem Ow.ldI (X : Stand p l e R s m args below meth c T locs cells slots) (hx : p.tables.exec = Jvm.exec) (hZ : Z.Warmed39 s.vm) (eT : T.heap = h) (V : Al Z h a .int vs) {pc pc' : Nat} {ls : Array Slot} {st : List Value} {j : Int32} {i : Nat} (hd : decode c.code pc = .ok (.iaload, 1)) (hj : ¬ j < 0) (hi : j.toNatClampNeg = i) (hv : vs[i]? = some v) (k : Wq p e below En Q (T.setTop (mkF m pc' ls (v :: st)))) (hpc : pc + 1 = pc' := by rfl) : Wq p e below En Q (T.setTop (mkF m pc ls (.int j :: .ref a :: st))) := by subst hpc; exact Wq.step (fun _ q => Jvm.OwnW.ldI X hx hZ eT V hj hi hv (g := mkF m pc ls (.int j :: .ref a :: st)) rfl rfl hd q) k
theorem Ow.ldJ (X : Stand p l e R s m args below meth c T locs cells slots) (hx : p.tables.exec = Jvm.exec) (hZ : Z.Warmed39 s.vm) (eT : T.heap = h) (V : Al Z h a .long vs) {pc pc' : Nat} {ls : Array Slot} {st : List Value} {j : Int32} {i : Nat} (hd : decode c.code pc = .ok (.laload, 1)) (hj : ¬ j < 0) (hi : j.toNatClampNeg = i) (hv : vs[i]? = some v) (k : Wq p e below En Q (T.setTop (mkF m pc' ls (v :: st)))) (hpc : pc + 1 = pc' := by rfl) : Wq p e below En Q (T.setTop (mkF m pc ls (.int j :: .ref a :: st))) := by subst hpc; exact Wq.step (fun _ q => Jvm.OwnW.ldJ X hx hZ eT V hj hi hv (g := mkF m pc ls (.int j :: .ref a :: st)) rfl rfl hd q) k
theorem Ow.ldC (X : Stand p l e R s m args below meth c T locs cells slots) (hx : p.tables.exec = Jvm.exec) (hZ : Z.Warmed39 s.vm) (eT : T.heap = h) (V : Al Z h a .char vs) {pc pc' : Nat} {ls : Array Slot} {st : List Value} {j : Int32} {i : Nat} (hd : decode c.code pc = .ok (.caload, 1)) (hj : ¬ j < 0) (hi : j.toNatClampNeg = i) (hv : vs[i]? = some v) (k : Wq p e below En Q (T.setTop (mkF m pc' ls (v :: st)))) (hpc : pc + 1 = pc' := by rfl) : Wq p e below En Q (T.setTop (mkF m pc ls (.int j :: .ref a :: st))) := by subst hpc; exact Wq.step (fun _ q => Jvm.OwnW.ldC X hx hZ eT V hj hi hv (g := mkF m pc ls (.int j :: .ref a :: st)) rfl rfl hd q) k
theorem Ow.ldB (X : Stand p l e R s m args below meth c T locs cells slots) (hx : p.tables.exec = Jvm.exec) (hZ : Z.Warmed39 s.vm) (eT : T.heap = h) (V : Al Z h a .byte vs) {pc pc' : Nat} {ls : Array Slot} {st : List Value} {j : Int32} {i : Nat} (hd : decode c.code pc = .ok (.baload, 1)) (hj : ¬ j < 0) (hi : j.toNatClampNeg = i) (hv : vs[i]? = some v) (k : Wq p e below En Q (T.setTop (mkF m pc' ls (v :: st)))) (hpc : pc + 1 = pc' := by rfl) : Wq p e below En Q (T.setTop (mkF m pc ls (.int j :: .ref a :: st))) := by subst hpc; exact Wq.step (fun _ q => Jvm.OwnW.ldB X hx hZ eT V hj hi hv (g := mkF m pc ls (.int j :: .ref a :: st)) rfl rfl hd q) k
theorem Ow.ldZ (X : Stand p l e R s m args below meth c T locs cells slots) (hx : p.tables.exec = Jvm.exec) (hZ : Z.Warmed39 s.vm) (eT : T.heap = h) (V : Al Z h a .boolean vs) {pc pc' : Nat} {ls : Array Slot} {st : List Value} {j : Int32} {i : Nat} (hd : decode c.code pc = .ok (.baload, 1)) (hj : ¬ j < 0) (hi : j.toNatClampNeg = i) (hv : vs[i]? = some v) (k : Wq p e below En Q (T.setTop (mkF m pc' ls (v :: st)))) (hpc : pc + 1 = pc' := by rfl) : Wq p e below En Q (T.setTop (mkF m pc ls (.int j :: .ref a :: st))) := by subst hpc; exact Wq.step (fun _ q => Jvm.OwnW.ldZ X hx hZ eT V hj hi hv (g := mkF m pc ls (.int j :: .ref a :: st)) rfl rfl hd q) k
theorem Ow.ldR (X : Stand p l e R s m args below meth c T locs cells slots) (hx : p.tables.exec = Jvm.exec) (hZ : Z.Warmed39 s.vm) (eT : T.heap = h) (V : Al Z h a ty vs) (hty : ty.isReference = true) {pc pc' : Nat} {ls : Array Slot} {st : List Value} {j : Int32} {i : Nat} (hd : decode c.code pc = .ok (.aaload, 1)) (hj : ¬ j < 0) (hi : j.toNatClampNeg = i) (hv : vs[i]? = some v) (k : Wq p e below En Q (T.setTop (mkF m pc' ls (v :: st)))) (hpc : pc + 1 = pc' := by rfl) : Wq p e below En Q (T.setTop (mkF m pc ls (.int j :: .ref a :: st))) := by
  subst hpc
  obtain ⟨cl, A, r⟩ := V
  exact Wq.step (fun _ q => X.aaload hx (by rw [eT]; exact A.1) (State.isArrayOf_alike hZ.alike A.2.1) hty A.2.2 (al_in r hj hi (al_lt hv)) (al_at r hi hv) (g := mkF m pc ls (.int j :: .ref a :: st)) rfl rfl hd _ q) k
theorem Ow.lenA (X : Stand p l e R s m args below meth c T locs cells slots) (hx : p.tables.exec = Jvm.exec) (hZ : Z.Warmed39 s.vm) (eT : T.heap = h) (V : Al Z h a ty vs) {pc pc' : Nat} {ls : Array Slot} {st : List Value} {n : Int32} (hd : decode c.code pc = .ok (.arraylength, 1)) (hn : vs.length.toInt32 = n) (k : Wq p e below En Q (T.setTop (mkF m pc' ls (.int n :: st)))) (hpc : pc + 1 = pc' := by rfl) : Wq p e below En Q (T.setTop (mkF m pc ls (.ref a :: st))) := by subst hpc; exact Wq.step (fun _ q => Jvm.OwnW.lenA X hx hZ eT V hn (g := mkF m pc ls (.ref a :: st)) rfl rfl hd q) k
end Base
end Jvm.OwnW
namespace Jvm.Pilot.@@N@@
open Jvm Jvm.ClassFile Sem Op Lib Jvm.Free Jvm.Stand Jvm.LawKit Jvm.RoadKit Jvm.OwnW Bundle Jvm.Pilot.@@N@@.Jvm.D
theorem d_method_4_0 : decode method_4_code 0 = .ok (.aload_n 0, 1) := by decide +kernel
theorem d_method_4_1 : decode method_4_code 1 = .ok (.iconst 0, 1) := by decide +kernel
theorem d_method_4_2 : decode method_4_code 2 = .ok (.lload_n 1, 1) := by decide +kernel
theorem d_method_4_3 : decode method_4_code 3 = .ok (.lconst 1, 1) := by decide +kernel
theorem d_method_4_4 : decode method_4_code 4 = .ok (.land, 1) := by decide +kernel
theorem d_method_4_5 : decode method_4_code 5 = .ok (.l2i, 1) := by decide +kernel
theorem d_method_4_6 : decode method_4_code 6 = .ok (.iastore, 1) := by decide +kernel
theorem d_method_4_7 : decode method_4_code 7 = .ok (.aload_n 0, 1) := by decide +kernel
theorem d_method_4_8 : decode method_4_code 8 = .ok (.iconst 1, 1) := by decide +kernel
theorem d_method_4_9 : decode method_4_code 9 = .ok (.lload_n 1, 1) := by decide +kernel
theorem d_method_4_10 : decode method_4_code 10 = .ok (.iconst 1, 1) := by decide +kernel
theorem d_method_4_11 : decode method_4_code 11 = .ok (.lushr, 1) := by decide +kernel
theorem d_method_4_12 : decode method_4_code 12 = .ok (.lconst 1, 1) := by decide +kernel
theorem d_method_4_13 : decode method_4_code 13 = .ok (.land, 1) := by decide +kernel
theorem d_method_4_14 : decode method_4_code 14 = .ok (.l2i, 1) := by decide +kernel
theorem d_method_4_15 : decode method_4_code 15 = .ok (.iastore, 1) := by decide +kernel
theorem d_method_4_16 : decode method_4_code 16 = .ok (.aload_n 0, 1) := by decide +kernel
theorem d_method_4_17 : decode method_4_code 17 = .ok (.iconst 2, 1) := by decide +kernel
theorem d_method_4_18 : decode method_4_code 18 = .ok (.lload_n 1, 1) := by decide +kernel
theorem d_method_4_19 : decode method_4_code 19 = .ok (.iconst 2, 1) := by decide +kernel
theorem d_method_4_20 : decode method_4_code 20 = .ok (.lushr, 1) := by decide +kernel
theorem d_method_4_21 : decode method_4_code 21 = .ok (.lconst 1, 1) := by decide +kernel
theorem d_method_4_22 : decode method_4_code 22 = .ok (.land, 1) := by decide +kernel
theorem d_method_4_23 : decode method_4_code 23 = .ok (.l2i, 1) := by decide +kernel
theorem d_method_4_24 : decode method_4_code 24 = .ok (.iastore, 1) := by decide +kernel
theorem d_method_4_25 : decode method_4_code 25 = .ok (.aload_n 0, 1) := by decide +kernel
theorem d_method_4_26 : decode method_4_code 26 = .ok (.iconst 3, 1) := by decide +kernel
theorem d_method_4_27 : decode method_4_code 27 = .ok (.lload_n 1, 1) := by decide +kernel
theorem d_method_4_28 : decode method_4_code 28 = .ok (.iconst 3, 1) := by decide +kernel
theorem d_method_4_29 : decode method_4_code 29 = .ok (.lushr, 1) := by decide +kernel
theorem d_method_4_30 : decode method_4_code 30 = .ok (.lconst 1, 1) := by decide +kernel
theorem d_method_4_31 : decode method_4_code 31 = .ok (.land, 1) := by decide +kernel
theorem d_method_4_32 : decode method_4_code 32 = .ok (.l2i, 1) := by decide +kernel
theorem d_method_4_33 : decode method_4_code 33 = .ok (.iastore, 1) := by decide +kernel
theorem d_method_4_34 : decode method_4_code 34 = .ok (.aload_n 0, 1) := by decide +kernel
theorem d_method_4_35 : decode method_4_code 35 = .ok (.iconst 4, 1) := by decide +kernel
theorem d_method_4_36 : decode method_4_code 36 = .ok (.lload_n 1, 1) := by decide +kernel
theorem d_method_4_37 : decode method_4_code 37 = .ok (.iconst 4, 1) := by decide +kernel
theorem d_method_4_38 : decode method_4_code 38 = .ok (.lushr, 1) := by decide +kernel
theorem d_method_4_39 : decode method_4_code 39 = .ok (.lconst 1, 1) := by decide +kernel
theorem d_method_4_40 : decode method_4_code 40 = .ok (.land, 1) := by decide +kernel
theorem d_method_4_41 : decode method_4_code 41 = .ok (.l2i, 1) := by decide +kernel
theorem d_method_4_42 : decode method_4_code 42 = .ok (.iastore, 1) := by decide +kernel
theorem d_method_4_43 : decode method_4_code 43 = .ok (.aload_n 0, 1) := by decide +kernel
theorem d_method_4_44 : decode method_4_code 44 = .ok (.iconst 5, 1) := by decide +kernel
theorem d_method_4_45 : decode method_4_code 45 = .ok (.lload_n 1, 1) := by decide +kernel
theorem d_method_4_46 : decode method_4_code 46 = .ok (.iconst 5, 1) := by decide +kernel
theorem d_method_4_47 : decode method_4_code 47 = .ok (.lushr, 1) := by decide +kernel
theorem d_method_4_48 : decode method_4_code 48 = .ok (.lconst 1, 1) := by decide +kernel
theorem d_method_4_49 : decode method_4_code 49 = .ok (.land, 1) := by decide +kernel
theorem d_method_4_50 : decode method_4_code 50 = .ok (.l2i, 1) := by decide +kernel
theorem d_method_4_51 : decode method_4_code 51 = .ok (.iastore, 1) := by decide +kernel
theorem d_method_4_52 : decode method_4_code 52 = .ok (.aload_n 0, 1) := by decide +kernel
theorem d_method_4_53 : decode method_4_code 53 = .ok (.bipush 6, 2) := by decide +kernel
theorem d_method_4_55 : decode method_4_code 55 = .ok (.lload_n 1, 1) := by decide +kernel
theorem d_method_4_56 : decode method_4_code 56 = .ok (.bipush 6, 2) := by decide +kernel
theorem d_method_4_58 : decode method_4_code 58 = .ok (.lushr, 1) := by decide +kernel
theorem d_method_4_59 : decode method_4_code 59 = .ok (.lconst 1, 1) := by decide +kernel
theorem d_method_4_60 : decode method_4_code 60 = .ok (.land, 1) := by decide +kernel
theorem d_method_4_61 : decode method_4_code 61 = .ok (.l2i, 1) := by decide +kernel
theorem d_method_4_62 : decode method_4_code 62 = .ok (.iastore, 1) := by decide +kernel
theorem d_method_4_63 : decode method_4_code 63 = .ok (.aload_n 0, 1) := by decide +kernel
theorem d_method_4_64 : decode method_4_code 64 = .ok (.bipush 7, 2) := by decide +kernel
theorem d_method_4_66 : decode method_4_code 66 = .ok (.lload_n 1, 1) := by decide +kernel
theorem d_method_4_67 : decode method_4_code 67 = .ok (.bipush 7, 2) := by decide +kernel
theorem d_method_4_69 : decode method_4_code 69 = .ok (.lushr, 1) := by decide +kernel
theorem d_method_4_70 : decode method_4_code 70 = .ok (.lconst 1, 1) := by decide +kernel
theorem d_method_4_71 : decode method_4_code 71 = .ok (.land, 1) := by decide +kernel
theorem d_method_4_72 : decode method_4_code 72 = .ok (.l2i, 1) := by decide +kernel
theorem d_method_4_73 : decode method_4_code 73 = .ok (.iastore, 1) := by decide +kernel
theorem d_method_4_74 : decode method_4_code 74 = .ok (.aload_n 0, 1) := by decide +kernel
theorem d_method_4_75 : decode method_4_code 75 = .ok (.bipush 8, 2) := by decide +kernel
theorem d_method_4_77 : decode method_4_code 77 = .ok (.lload_n 1, 1) := by decide +kernel
theorem d_method_4_78 : decode method_4_code 78 = .ok (.bipush 8, 2) := by decide +kernel
theorem d_method_4_80 : decode method_4_code 80 = .ok (.lushr, 1) := by decide +kernel
theorem d_method_4_81 : decode method_4_code 81 = .ok (.lconst 1, 1) := by decide +kernel
theorem d_method_4_82 : decode method_4_code 82 = .ok (.land, 1) := by decide +kernel
theorem d_method_4_83 : decode method_4_code 83 = .ok (.l2i, 1) := by decide +kernel
theorem d_method_4_84 : decode method_4_code 84 = .ok (.iastore, 1) := by decide +kernel
theorem d_method_4_85 : decode method_4_code 85 = .ok (.aload_n 0, 1) := by decide +kernel
theorem d_method_4_86 : decode method_4_code 86 = .ok (.bipush 9, 2) := by decide +kernel
theorem d_method_4_88 : decode method_4_code 88 = .ok (.lload_n 1, 1) := by decide +kernel
theorem d_method_4_89 : decode method_4_code 89 = .ok (.bipush 9, 2) := by decide +kernel
theorem d_method_4_91 : decode method_4_code 91 = .ok (.lushr, 1) := by decide +kernel
theorem d_method_4_92 : decode method_4_code 92 = .ok (.lconst 1, 1) := by decide +kernel
theorem d_method_4_93 : decode method_4_code 93 = .ok (.land, 1) := by decide +kernel
theorem d_method_4_94 : decode method_4_code 94 = .ok (.l2i, 1) := by decide +kernel
theorem d_method_4_95 : decode method_4_code 95 = .ok (.iastore, 1) := by decide +kernel
theorem d_method_4_96 : decode method_4_code 96 = .ok (.aload_n 0, 1) := by decide +kernel
theorem d_method_4_97 : decode method_4_code 97 = .ok (.bipush 10, 2) := by decide +kernel
theorem d_method_4_99 : decode method_4_code 99 = .ok (.lload_n 1, 1) := by decide +kernel
theorem d_method_4_100 : decode method_4_code 100 = .ok (.bipush 10, 2) := by decide +kernel
theorem d_method_4_102 : decode method_4_code 102 = .ok (.lushr, 1) := by decide +kernel
theorem d_method_4_103 : decode method_4_code 103 = .ok (.lconst 1, 1) := by decide +kernel
theorem d_method_4_104 : decode method_4_code 104 = .ok (.land, 1) := by decide +kernel
theorem d_method_4_105 : decode method_4_code 105 = .ok (.l2i, 1) := by decide +kernel
theorem d_method_4_106 : decode method_4_code 106 = .ok (.iastore, 1) := by decide +kernel
theorem d_method_4_107 : decode method_4_code 107 = .ok (.aload_n 0, 1) := by decide +kernel
theorem d_method_4_108 : decode method_4_code 108 = .ok (.bipush 11, 2) := by decide +kernel
theorem d_method_4_110 : decode method_4_code 110 = .ok (.lload_n 1, 1) := by decide +kernel
theorem d_method_4_111 : decode method_4_code 111 = .ok (.bipush 11, 2) := by decide +kernel
theorem d_method_4_113 : decode method_4_code 113 = .ok (.lushr, 1) := by decide +kernel
theorem d_method_4_114 : decode method_4_code 114 = .ok (.lconst 1, 1) := by decide +kernel
theorem d_method_4_115 : decode method_4_code 115 = .ok (.land, 1) := by decide +kernel
theorem d_method_4_116 : decode method_4_code 116 = .ok (.l2i, 1) := by decide +kernel
theorem d_method_4_117 : decode method_4_code 117 = .ok (.iastore, 1) := by decide +kernel
theorem d_method_4_118 : decode method_4_code 118 = .ok (.aload_n 0, 1) := by decide +kernel
theorem d_method_4_119 : decode method_4_code 119 = .ok (.bipush 12, 2) := by decide +kernel
theorem d_method_4_121 : decode method_4_code 121 = .ok (.lload_n 1, 1) := by decide +kernel
theorem d_method_4_122 : decode method_4_code 122 = .ok (.bipush 12, 2) := by decide +kernel
theorem d_method_4_124 : decode method_4_code 124 = .ok (.lushr, 1) := by decide +kernel
theorem d_method_4_125 : decode method_4_code 125 = .ok (.lconst 1, 1) := by decide +kernel
theorem d_method_4_126 : decode method_4_code 126 = .ok (.land, 1) := by decide +kernel
theorem d_method_4_127 : decode method_4_code 127 = .ok (.l2i, 1) := by decide +kernel
theorem d_method_4_128 : decode method_4_code 128 = .ok (.iastore, 1) := by decide +kernel
theorem d_method_4_129 : decode method_4_code 129 = .ok (.aload_n 0, 1) := by decide +kernel
theorem d_method_4_130 : decode method_4_code 130 = .ok (.bipush 13, 2) := by decide +kernel
theorem d_method_4_132 : decode method_4_code 132 = .ok (.lload_n 1, 1) := by decide +kernel
theorem d_method_4_133 : decode method_4_code 133 = .ok (.bipush 13, 2) := by decide +kernel
theorem d_method_4_135 : decode method_4_code 135 = .ok (.lushr, 1) := by decide +kernel
theorem d_method_4_136 : decode method_4_code 136 = .ok (.lconst 1, 1) := by decide +kernel
theorem d_method_4_137 : decode method_4_code 137 = .ok (.land, 1) := by decide +kernel
theorem d_method_4_138 : decode method_4_code 138 = .ok (.l2i, 1) := by decide +kernel
theorem d_method_4_139 : decode method_4_code 139 = .ok (.iastore, 1) := by decide +kernel
theorem d_method_4_140 : decode method_4_code 140 = .ok (.aload_n 0, 1) := by decide +kernel
theorem d_method_4_141 : decode method_4_code 141 = .ok (.bipush 14, 2) := by decide +kernel
theorem d_method_4_143 : decode method_4_code 143 = .ok (.lload_n 1, 1) := by decide +kernel
theorem d_method_4_144 : decode method_4_code 144 = .ok (.bipush 14, 2) := by decide +kernel
theorem d_method_4_146 : decode method_4_code 146 = .ok (.lushr, 1) := by decide +kernel
theorem d_method_4_147 : decode method_4_code 147 = .ok (.lconst 1, 1) := by decide +kernel
theorem d_method_4_148 : decode method_4_code 148 = .ok (.land, 1) := by decide +kernel
theorem d_method_4_149 : decode method_4_code 149 = .ok (.l2i, 1) := by decide +kernel
theorem d_method_4_150 : decode method_4_code 150 = .ok (.iastore, 1) := by decide +kernel
theorem d_method_4_151 : decode method_4_code 151 = .ok (.aload_n 0, 1) := by decide +kernel
theorem d_method_4_152 : decode method_4_code 152 = .ok (.bipush 15, 2) := by decide +kernel
theorem d_method_4_154 : decode method_4_code 154 = .ok (.lload_n 1, 1) := by decide +kernel
theorem d_method_4_155 : decode method_4_code 155 = .ok (.bipush 15, 2) := by decide +kernel
theorem d_method_4_157 : decode method_4_code 157 = .ok (.lushr, 1) := by decide +kernel
theorem d_method_4_158 : decode method_4_code 158 = .ok (.lconst 1, 1) := by decide +kernel
theorem d_method_4_159 : decode method_4_code 159 = .ok (.land, 1) := by decide +kernel
theorem d_method_4_160 : decode method_4_code 160 = .ok (.l2i, 1) := by decide +kernel
theorem d_method_4_161 : decode method_4_code 161 = .ok (.iastore, 1) := by decide +kernel
theorem d_method_4_162 : decode method_4_code 162 = .ok (.aload_n 0, 1) := by decide +kernel
theorem d_method_4_163 : decode method_4_code 163 = .ok (.bipush 16, 2) := by decide +kernel
theorem d_method_4_165 : decode method_4_code 165 = .ok (.lload_n 1, 1) := by decide +kernel
theorem d_method_4_166 : decode method_4_code 166 = .ok (.bipush 16, 2) := by decide +kernel
theorem d_method_4_168 : decode method_4_code 168 = .ok (.lushr, 1) := by decide +kernel
theorem d_method_4_169 : decode method_4_code 169 = .ok (.lconst 1, 1) := by decide +kernel
theorem d_method_4_170 : decode method_4_code 170 = .ok (.land, 1) := by decide +kernel
theorem d_method_4_171 : decode method_4_code 171 = .ok (.l2i, 1) := by decide +kernel
theorem d_method_4_172 : decode method_4_code 172 = .ok (.iastore, 1) := by decide +kernel
theorem d_method_4_173 : decode method_4_code 173 = .ok (.aload_n 0, 1) := by decide +kernel
theorem d_method_4_174 : decode method_4_code 174 = .ok (.bipush 17, 2) := by decide +kernel
theorem d_method_4_176 : decode method_4_code 176 = .ok (.lload_n 1, 1) := by decide +kernel
theorem d_method_4_177 : decode method_4_code 177 = .ok (.bipush 17, 2) := by decide +kernel
theorem d_method_4_179 : decode method_4_code 179 = .ok (.lushr, 1) := by decide +kernel
theorem d_method_4_180 : decode method_4_code 180 = .ok (.lconst 1, 1) := by decide +kernel
theorem d_method_4_181 : decode method_4_code 181 = .ok (.land, 1) := by decide +kernel
theorem d_method_4_182 : decode method_4_code 182 = .ok (.l2i, 1) := by decide +kernel
theorem d_method_4_183 : decode method_4_code 183 = .ok (.iastore, 1) := by decide +kernel
theorem d_method_4_184 : decode method_4_code 184 = .ok (.aload_n 0, 1) := by decide +kernel
theorem d_method_4_185 : decode method_4_code 185 = .ok (.bipush 18, 2) := by decide +kernel
theorem d_method_4_187 : decode method_4_code 187 = .ok (.lload_n 1, 1) := by decide +kernel
theorem d_method_4_188 : decode method_4_code 188 = .ok (.bipush 18, 2) := by decide +kernel
theorem d_method_4_190 : decode method_4_code 190 = .ok (.lushr, 1) := by decide +kernel
theorem d_method_4_191 : decode method_4_code 191 = .ok (.lconst 1, 1) := by decide +kernel
theorem d_method_4_192 : decode method_4_code 192 = .ok (.land, 1) := by decide +kernel
theorem d_method_4_193 : decode method_4_code 193 = .ok (.l2i, 1) := by decide +kernel
theorem d_method_4_194 : decode method_4_code 194 = .ok (.iastore, 1) := by decide +kernel
theorem d_method_4_195 : decode method_4_code 195 = .ok (.aload_n 0, 1) := by decide +kernel
theorem d_method_4_196 : decode method_4_code 196 = .ok (.bipush 19, 2) := by decide +kernel
theorem d_method_4_198 : decode method_4_code 198 = .ok (.lload_n 1, 1) := by decide +kernel
theorem d_method_4_199 : decode method_4_code 199 = .ok (.bipush 19, 2) := by decide +kernel
theorem d_method_4_201 : decode method_4_code 201 = .ok (.lushr, 1) := by decide +kernel
theorem d_method_4_202 : decode method_4_code 202 = .ok (.lconst 1, 1) := by decide +kernel
theorem d_method_4_203 : decode method_4_code 203 = .ok (.land, 1) := by decide +kernel
theorem d_method_4_204 : decode method_4_code 204 = .ok (.l2i, 1) := by decide +kernel
theorem d_method_4_205 : decode method_4_code 205 = .ok (.iastore, 1) := by decide +kernel
theorem pn1 : plainName "com/example/tightbit/tightbit/ByteArrayWriterPackOneBitPinLaw" = true := by first | (simp [plainName, overriddenIn]; done) | decide +kernel
theorem ef_fill (m : MethodId) (afill_1 : Addr) (yfill_2 : Int64) : entryFrame m #[(.ref afill_1), (.long yfill_2)] 3 = mkF m 0 #[.val (.ref afill_1), .val (.long yfill_2), .second] [] := by first | (simp [entryFrame, mkF, argsToLocals, Value.category]; done) | rfl
def Q_fill (Z : State) (afill_1 : Addr) (yfill_2 : Int64) (h0 : Heap) (n0 : Nat) (v : Option Value) (h : Heap) (L : List Loc) : Prop := v = none ∧ Fr n0 L ∧ Keep h0 h [afill_1] ∧ Al Z h afill_1 .int [(.int ((yfill_2 &&& (1 : Int64)).toInt32)), (.int ((((yfill_2.toUInt64 >>> ((1 : Int32) &&& 0x3f).toInt64.toUInt64).toInt64) &&& (1 : Int64)).toInt32)), (.int ((((yfill_2.toUInt64 >>> ((2 : Int32) &&& 0x3f).toInt64.toUInt64).toInt64) &&& (1 : Int64)).toInt32)), (.int ((((yfill_2.toUInt64 >>> ((3 : Int32) &&& 0x3f).toInt64.toUInt64).toInt64) &&& (1 : Int64)).toInt32)), (.int ((((yfill_2.toUInt64 >>> ((4 : Int32) &&& 0x3f).toInt64.toUInt64).toInt64) &&& (1 : Int64)).toInt32)), (.int ((((yfill_2.toUInt64 >>> ((5 : Int32) &&& 0x3f).toInt64.toUInt64).toInt64) &&& (1 : Int64)).toInt32)), (.int ((((yfill_2.toUInt64 >>> ((6 : Int32) &&& 0x3f).toInt64.toUInt64).toInt64) &&& (1 : Int64)).toInt32)), (.int ((((yfill_2.toUInt64 >>> ((7 : Int32) &&& 0x3f).toInt64.toUInt64).toInt64) &&& (1 : Int64)).toInt32)), (.int ((((yfill_2.toUInt64 >>> ((8 : Int32) &&& 0x3f).toInt64.toUInt64).toInt64) &&& (1 : Int64)).toInt32)), (.int ((((yfill_2.toUInt64 >>> ((9 : Int32) &&& 0x3f).toInt64.toUInt64).toInt64) &&& (1 : Int64)).toInt32)), (.int ((((yfill_2.toUInt64 >>> ((10 : Int32) &&& 0x3f).toInt64.toUInt64).toInt64) &&& (1 : Int64)).toInt32)), (.int ((((yfill_2.toUInt64 >>> ((11 : Int32) &&& 0x3f).toInt64.toUInt64).toInt64) &&& (1 : Int64)).toInt32)), (.int ((((yfill_2.toUInt64 >>> ((12 : Int32) &&& 0x3f).toInt64.toUInt64).toInt64) &&& (1 : Int64)).toInt32)), (.int ((((yfill_2.toUInt64 >>> ((13 : Int32) &&& 0x3f).toInt64.toUInt64).toInt64) &&& (1 : Int64)).toInt32)), (.int ((((yfill_2.toUInt64 >>> ((14 : Int32) &&& 0x3f).toInt64.toUInt64).toInt64) &&& (1 : Int64)).toInt32)), (.int ((((yfill_2.toUInt64 >>> ((15 : Int32) &&& 0x3f).toInt64.toUInt64).toInt64) &&& (1 : Int64)).toInt32)), (.int ((((yfill_2.toUInt64 >>> ((16 : Int32) &&& 0x3f).toInt64.toUInt64).toInt64) &&& (1 : Int64)).toInt32)), (.int ((((yfill_2.toUInt64 >>> ((17 : Int32) &&& 0x3f).toInt64.toUInt64).toInt64) &&& (1 : Int64)).toInt32)), (.int ((((yfill_2.toUInt64 >>> ((18 : Int32) &&& 0x3f).toInt64.toUInt64).toInt64) &&& (1 : Int64)).toInt32)), (.int ((((yfill_2.toUInt64 >>> ((19 : Int32) &&& 0x3f).toInt64.toUInt64).toInt64) &&& (1 : Int64)).toInt32))]
theorem d_method_4_206 : decode method_4_code 206 = .ok (.return_, 1) := by decide +kernel
abbrev mt1 : MethodName := ⟨"com/example/tightbit/tightbit/ByteArrayWriterPackOneBitPinLaw", "fill", "([IJ)V"⟩
set_option maxRecDepth 65536 in
set_option maxHeartbeats 40000000 in
theorem rm_fill (l : Launch) (Z : State) (a0 : Array Value) (hw : ∀ d ∈ tables_1, d.before a0 Z = true) (ws : List Jvm.Cond) (afill_1 : Addr) (yfill_2 : Int64) (h0 : Heap) (n0 : Nat) (Z0 : n0 ≤ h0.size) (V_afill_1 : Al Z h0 afill_1 .int [(.int (0 : Int32)), (.int (0 : Int32)), (.int (0 : Int32)), (.int (0 : Int32)), (.int (0 : Int32)), (.int (0 : Int32)), (.int (0 : Int32)), (.int (0 : Int32)), (.int (0 : Int32)), (.int (0 : Int32)), (.int (0 : Int32)), (.int (0 : Int32)), (.int (0 : Int32)), (.int (0 : Int32)), (.int (0 : Int32)), (.int (0 : Int32)), (.int (0 : Int32)), (.int (0 : Int32)), (.int (0 : Int32)), (.int (0 : Int32))]) (g_afill_1 : n0 ≤ afill_1) :
    MetFree l mt1 (head1 (Jvm.Cond.code mt1 method_4_code 3 none :: ws) ({ frames := 0, cells := 0, slots := 0, locals := 0 } : Room)) (fun a U => a = #[(.ref afill_1), (.long yfill_2)] ∧ Z.Warmed39 U.vm ∧ U.heap = h0) (fun _ _ _ _ _ => True) (fun _ U o U' => ∃ v L, o = .returned v ∧ (Q_fill Z afill_1 yfill_2 h0 n0) v U'.heap L ∧ FrameEnd U o U' L ({ frames := 0, cells := 0, slots := 0, locals := 0 } : Room).cells ({ frames := 0, cells := 0, slots := 0, locals := 0 } : Room).slots) := by
  refine MetFree.of_bodySF (plainFor_of_name pn1) hisR ?_
  intro p e s m args below meth c s₁ Bd hml0 hP hK
  obtain ⟨rfl, hZ, hh⟩ := hP
  have hx := Bd.exec
  have hby := Bd.bytes
  have hml : c.maxLocals = 3 := hml0
  have hown : s.vm.findClass "com/example/tightbit/tightbit/ByteArrayWriterPackOneBitPinLaw" = some m.cls := findClass_of_methodNamed Bd.named
  have hnm := (name_of_methodNamed Bd.named Bd.method).1
  have X0 : Stand p l e ({ frames := 0, cells := 0, slots := 0, locals := 0 } : Room) s m #[(.ref afill_1), (.long yfill_2)] below meth c s₁ [] 0 0 := Stand.of_body Bd
  have e0 : s₁.heap = h0 := by rw [← hh, Bd.state]; rfl
  have N0 := Fr.nil n0
  refine Wq.step (p := p) (e := e) (below := below) (En := (fun o t L => FrameEnd s o t L ({ frames := 0, cells := 0, slots := 0, locals := 0 } : Room).cells ({ frames := 0, cells := 0, slots := 0, locals := 0 } : Room).slots)) (Q := (Q_fill Z afill_1 yfill_2 h0 n0)) (fun t k => castTop (ef_fill m afill_1 yfill_2) k) ?_
  show Wq _ _ _ _ _ (s₁.setTop (mkF m 0 #[.val (.ref afill_1), .val (.long yfill_2), .second] []))
  refine Ow.aloadN X0 hx (pc' := 1) (hb hby d_method_4_0) rfl rfl ?_
  refine Ow.iconst X0 hx (pc' := 2) (hb hby d_method_4_1) (z := (0 : Int32)) rfl ?_
  refine Ow.lloadN X0 hx (pc' := 3) (hb hby d_method_4_2) rfl ?_
  refine Ow.lconst X0 hx (pc' := 4) (hb hby d_method_4_3) (z := (1 : Int64)) rfl ?_
  refine Ow.land X0 hx (pc' := 5) (hb hby d_method_4_4) (z := (yfill_2 &&& (1 : Int64))) rfl ?_
  refine Ow.l2i X0 hx (pc' := 6) (hb hby d_method_4_5) (z := ((yfill_2 &&& (1 : Int64)).toInt32)) rfl ?_
  obtain ⟨T1, h1, X1, e1, W1, Vr1, st1⟩ := asI X0 hx hZ e0 V_afill_1 (j := (0 : Int32)) (i := 0) (by decide) rfl (Nat.le_of_ble_eq_true rfl) (g := (mkF m 6 #[.val (.ref afill_1), .val (.long yfill_2), .second] [(.int ((yfill_2 &&& (1 : Int64)).toInt32)), (.int (0 : Int32)), (.ref afill_1)])) rfl rfl (hb hby d_method_4_6)
  refine Wq.step st1 ?_
  have N1 := Fr.snoc X1 N0 g_afill_1
  have K1 : Keep h0 h1 [afill_1] := (Keep.refl h0 [afill_1]).wr W1 (Or.inl (List.mem_of_getElem? (i := 0) rfl))
  have Z1 : n0 ≤ h1.size := Nat.le_trans Z0 (Keep.of_wr W1).1
  have V_afill_1_t1 : Al Z h1 afill_1 .int [(.int ((yfill_2 &&& (1 : Int64)).toInt32)), (.int (0 : Int32)), (.int (0 : Int32)), (.int (0 : Int32)), (.int (0 : Int32)), (.int (0 : Int32)), (.int (0 : Int32)), (.int (0 : Int32)), (.int (0 : Int32)), (.int (0 : Int32)), (.int (0 : Int32)), (.int (0 : Int32)), (.int (0 : Int32)), (.int (0 : Int32)), (.int (0 : Int32)), (.int (0 : Int32)), (.int (0 : Int32)), (.int (0 : Int32)), (.int (0 : Int32)), (.int (0 : Int32))] := Vr1
  show Wq _ _ _ _ _ (T1.setTop (mkF m 7 #[.val (.ref afill_1), .val (.long yfill_2), .second] []))
  refine Ow.aloadN X1 hx (pc' := 8) (hb hby d_method_4_7) rfl rfl ?_
  refine Ow.iconst X1 hx (pc' := 9) (hb hby d_method_4_8) (z := (1 : Int32)) rfl ?_
  refine Ow.lloadN X1 hx (pc' := 10) (hb hby d_method_4_9) rfl ?_
  refine Ow.iconst X1 hx (pc' := 11) (hb hby d_method_4_10) (z := (1 : Int32)) rfl ?_
  refine Ow.lushr X1 hx (pc' := 12) (hb hby d_method_4_11) (z := ((yfill_2.toUInt64 >>> ((1 : Int32) &&& 0x3f).toInt64.toUInt64).toInt64)) rfl ?_
  refine Ow.lconst X1 hx (pc' := 13) (hb hby d_method_4_12) (z := (1 : Int64)) rfl ?_
  refine Ow.land X1 hx (pc' := 14) (hb hby d_method_4_13) (z := (((yfill_2.toUInt64 >>> ((1 : Int32) &&& 0x3f).toInt64.toUInt64).toInt64) &&& (1 : Int64))) rfl ?_
  refine Ow.l2i X1 hx (pc' := 15) (hb hby d_method_4_14) (z := ((((yfill_2.toUInt64 >>> ((1 : Int32) &&& 0x3f).toInt64.toUInt64).toInt64) &&& (1 : Int64)).toInt32)) rfl ?_
  obtain ⟨T2, h2, X2, e2, W2, Vr2, st2⟩ := asI X1 hx hZ e1 V_afill_1_t1 (j := (1 : Int32)) (i := 1) (by decide) rfl (Nat.le_of_ble_eq_true rfl) (g := (mkF m 15 #[.val (.ref afill_1), .val (.long yfill_2), .second] [(.int ((((yfill_2.toUInt64 >>> ((1 : Int32) &&& 0x3f).toInt64.toUInt64).toInt64) &&& (1 : Int64)).toInt32)), (.int (1 : Int32)), (.ref afill_1)])) rfl rfl (hb hby d_method_4_15)
  refine Wq.step st2 ?_
  have N2 := Fr.snoc X2 N1 g_afill_1
  have K2 : Keep h0 h2 [afill_1] := K1.wr W2 (Or.inl (List.mem_of_getElem? (i := 0) rfl))
  have Z2 : n0 ≤ h2.size := Nat.le_trans Z1 (Keep.of_wr W2).1
  have V_afill_1_t2 : Al Z h2 afill_1 .int [(.int ((yfill_2 &&& (1 : Int64)).toInt32)), (.int ((((yfill_2.toUInt64 >>> ((1 : Int32) &&& 0x3f).toInt64.toUInt64).toInt64) &&& (1 : Int64)).toInt32)), (.int (0 : Int32)), (.int (0 : Int32)), (.int (0 : Int32)), (.int (0 : Int32)), (.int (0 : Int32)), (.int (0 : Int32)), (.int (0 : Int32)), (.int (0 : Int32)), (.int (0 : Int32)), (.int (0 : Int32)), (.int (0 : Int32)), (.int (0 : Int32)), (.int (0 : Int32)), (.int (0 : Int32)), (.int (0 : Int32)), (.int (0 : Int32)), (.int (0 : Int32)), (.int (0 : Int32))] := Vr2
  show Wq _ _ _ _ _ (T2.setTop (mkF m 16 #[.val (.ref afill_1), .val (.long yfill_2), .second] []))
  refine Ow.aloadN X2 hx (pc' := 17) (hb hby d_method_4_16) rfl rfl ?_
  refine Ow.iconst X2 hx (pc' := 18) (hb hby d_method_4_17) (z := (2 : Int32)) rfl ?_
  refine Ow.lloadN X2 hx (pc' := 19) (hb hby d_method_4_18) rfl ?_
  refine Ow.iconst X2 hx (pc' := 20) (hb hby d_method_4_19) (z := (2 : Int32)) rfl ?_
  refine Ow.lushr X2 hx (pc' := 21) (hb hby d_method_4_20) (z := ((yfill_2.toUInt64 >>> ((2 : Int32) &&& 0x3f).toInt64.toUInt64).toInt64)) rfl ?_
  refine Ow.lconst X2 hx (pc' := 22) (hb hby d_method_4_21) (z := (1 : Int64)) rfl ?_
  refine Ow.land X2 hx (pc' := 23) (hb hby d_method_4_22) (z := (((yfill_2.toUInt64 >>> ((2 : Int32) &&& 0x3f).toInt64.toUInt64).toInt64) &&& (1 : Int64))) rfl ?_
  refine Ow.l2i X2 hx (pc' := 24) (hb hby d_method_4_23) (z := ((((yfill_2.toUInt64 >>> ((2 : Int32) &&& 0x3f).toInt64.toUInt64).toInt64) &&& (1 : Int64)).toInt32)) rfl ?_
  obtain ⟨T3, h3, X3, e3, W3, Vr3, st3⟩ := asI X2 hx hZ e2 V_afill_1_t2 (j := (2 : Int32)) (i := 2) (by decide) rfl (Nat.le_of_ble_eq_true rfl) (g := (mkF m 24 #[.val (.ref afill_1), .val (.long yfill_2), .second] [(.int ((((yfill_2.toUInt64 >>> ((2 : Int32) &&& 0x3f).toInt64.toUInt64).toInt64) &&& (1 : Int64)).toInt32)), (.int (2 : Int32)), (.ref afill_1)])) rfl rfl (hb hby d_method_4_24)
  refine Wq.step st3 ?_
  have N3 := Fr.snoc X3 N2 g_afill_1
  have K3 : Keep h0 h3 [afill_1] := K2.wr W3 (Or.inl (List.mem_of_getElem? (i := 0) rfl))
  have Z3 : n0 ≤ h3.size := Nat.le_trans Z2 (Keep.of_wr W3).1
  have V_afill_1_t3 : Al Z h3 afill_1 .int [(.int ((yfill_2 &&& (1 : Int64)).toInt32)), (.int ((((yfill_2.toUInt64 >>> ((1 : Int32) &&& 0x3f).toInt64.toUInt64).toInt64) &&& (1 : Int64)).toInt32)), (.int ((((yfill_2.toUInt64 >>> ((2 : Int32) &&& 0x3f).toInt64.toUInt64).toInt64) &&& (1 : Int64)).toInt32)), (.int (0 : Int32)), (.int (0 : Int32)), (.int (0 : Int32)), (.int (0 : Int32)), (.int (0 : Int32)), (.int (0 : Int32)), (.int (0 : Int32)), (.int (0 : Int32)), (.int (0 : Int32)), (.int (0 : Int32)), (.int (0 : Int32)), (.int (0 : Int32)), (.int (0 : Int32)), (.int (0 : Int32)), (.int (0 : Int32)), (.int (0 : Int32)), (.int (0 : Int32))] := Vr3
  show Wq _ _ _ _ _ (T3.setTop (mkF m 25 #[.val (.ref afill_1), .val (.long yfill_2), .second] []))
  refine Ow.aloadN X3 hx (pc' := 26) (hb hby d_method_4_25) rfl rfl ?_
  refine Ow.iconst X3 hx (pc' := 27) (hb hby d_method_4_26) (z := (3 : Int32)) rfl ?_
  refine Ow.lloadN X3 hx (pc' := 28) (hb hby d_method_4_27) rfl ?_
  refine Ow.iconst X3 hx (pc' := 29) (hb hby d_method_4_28) (z := (3 : Int32)) rfl ?_
  refine Ow.lushr X3 hx (pc' := 30) (hb hby d_method_4_29) (z := ((yfill_2.toUInt64 >>> ((3 : Int32) &&& 0x3f).toInt64.toUInt64).toInt64)) rfl ?_
  refine Ow.lconst X3 hx (pc' := 31) (hb hby d_method_4_30) (z := (1 : Int64)) rfl ?_
  refine Ow.land X3 hx (pc' := 32) (hb hby d_method_4_31) (z := (((yfill_2.toUInt64 >>> ((3 : Int32) &&& 0x3f).toInt64.toUInt64).toInt64) &&& (1 : Int64))) rfl ?_
  refine Ow.l2i X3 hx (pc' := 33) (hb hby d_method_4_32) (z := ((((yfill_2.toUInt64 >>> ((3 : Int32) &&& 0x3f).toInt64.toUInt64).toInt64) &&& (1 : Int64)).toInt32)) rfl ?_
  obtain ⟨T4, h4, X4, e4, W4, Vr4, st4⟩ := asI X3 hx hZ e3 V_afill_1_t3 (j := (3 : Int32)) (i := 3) (by decide) rfl (Nat.le_of_ble_eq_true rfl) (g := (mkF m 33 #[.val (.ref afill_1), .val (.long yfill_2), .second] [(.int ((((yfill_2.toUInt64 >>> ((3 : Int32) &&& 0x3f).toInt64.toUInt64).toInt64) &&& (1 : Int64)).toInt32)), (.int (3 : Int32)), (.ref afill_1)])) rfl rfl (hb hby d_method_4_33)
  refine Wq.step st4 ?_
  have N4 := Fr.snoc X4 N3 g_afill_1
  have K4 : Keep h0 h4 [afill_1] := K3.wr W4 (Or.inl (List.mem_of_getElem? (i := 0) rfl))
  have Z4 : n0 ≤ h4.size := Nat.le_trans Z3 (Keep.of_wr W4).1
  have V_afill_1_t4 : Al Z h4 afill_1 .int [(.int ((yfill_2 &&& (1 : Int64)).toInt32)), (.int ((((yfill_2.toUInt64 >>> ((1 : Int32) &&& 0x3f).toInt64.toUInt64).toInt64) &&& (1 : Int64)).toInt32)), (.int ((((yfill_2.toUInt64 >>> ((2 : Int32) &&& 0x3f).toInt64.toUInt64).toInt64) &&& (1 : Int64)).toInt32)), (.int ((((yfill_2.toUInt64 >>> ((3 : Int32) &&& 0x3f).toInt64.toUInt64).toInt64) &&& (1 : Int64)).toInt32)), (.int (0 : Int32)), (.int (0 : Int32)), (.int (0 : Int32)), (.int (0 : Int32)), (.int (0 : Int32)), (.int (0 : Int32)), (.int (0 : Int32)), (.int (0 : Int32)), (.int (0 : Int32)), (.int (0 : Int32)), (.int (0 : Int32)), (.int (0 : Int32)), (.int (0 : Int32)), (.int (0 : Int32)), (.int (0 : Int32)), (.int (0 : Int32))] := Vr4
  show Wq _ _ _ _ _ (T4.setTop (mkF m 34 #[.val (.ref afill_1), .val (.long yfill_2), .second] []))
  refine Ow.aloadN X4 hx (pc' := 35) (hb hby d_method_4_34) rfl rfl ?_
  refine Ow.iconst X4 hx (pc' := 36) (hb hby d_method_4_35) (z := (4 : Int32)) rfl ?_
  refine Ow.lloadN X4 hx (pc' := 37) (hb hby d_method_4_36) rfl ?_
  refine Ow.iconst X4 hx (pc' := 38) (hb hby d_method_4_37) (z := (4 : Int32)) rfl ?_
  refine Ow.lushr X4 hx (pc' := 39) (hb hby d_method_4_38) (z := ((yfill_2.toUInt64 >>> ((4 : Int32) &&& 0x3f).toInt64.toUInt64).toInt64)) rfl ?_
  refine Ow.lconst X4 hx (pc' := 40) (hb hby d_method_4_39) (z := (1 : Int64)) rfl ?_
  refine Ow.land X4 hx (pc' := 41) (hb hby d_method_4_40) (z := (((yfill_2.toUInt64 >>> ((4 : Int32) &&& 0x3f).toInt64.toUInt64).toInt64) &&& (1 : Int64))) rfl ?_
  refine Ow.l2i X4 hx (pc' := 42) (hb hby d_method_4_41) (z := ((((yfill_2.toUInt64 >>> ((4 : Int32) &&& 0x3f).toInt64.toUInt64).toInt64) &&& (1 : Int64)).toInt32)) rfl ?_
  obtain ⟨T5, h5, X5, e5, W5, Vr5, st5⟩ := asI X4 hx hZ e4 V_afill_1_t4 (j := (4 : Int32)) (i := 4) (by decide) rfl (Nat.le_of_ble_eq_true rfl) (g := (mkF m 42 #[.val (.ref afill_1), .val (.long yfill_2), .second] [(.int ((((yfill_2.toUInt64 >>> ((4 : Int32) &&& 0x3f).toInt64.toUInt64).toInt64) &&& (1 : Int64)).toInt32)), (.int (4 : Int32)), (.ref afill_1)])) rfl rfl (hb hby d_method_4_42)
  refine Wq.step st5 ?_
  have N5 := Fr.snoc X5 N4 g_afill_1
  have K5 : Keep h0 h5 [afill_1] := K4.wr W5 (Or.inl (List.mem_of_getElem? (i := 0) rfl))
  have Z5 : n0 ≤ h5.size := Nat.le_trans Z4 (Keep.of_wr W5).1
  have V_afill_1_t5 : Al Z h5 afill_1 .int [(.int ((yfill_2 &&& (1 : Int64)).toInt32)), (.int ((((yfill_2.toUInt64 >>> ((1 : Int32) &&& 0x3f).toInt64.toUInt64).toInt64) &&& (1 : Int64)).toInt32)), (.int ((((yfill_2.toUInt64 >>> ((2 : Int32) &&& 0x3f).toInt64.toUInt64).toInt64) &&& (1 : Int64)).toInt32)), (.int ((((yfill_2.toUInt64 >>> ((3 : Int32) &&& 0x3f).toInt64.toUInt64).toInt64) &&& (1 : Int64)).toInt32)), (.int ((((yfill_2.toUInt64 >>> ((4 : Int32) &&& 0x3f).toInt64.toUInt64).toInt64) &&& (1 : Int64)).toInt32)), (.int (0 : Int32)), (.int (0 : Int32)), (.int (0 : Int32)), (.int (0 : Int32)), (.int (0 : Int32)), (.int (0 : Int32)), (.int (0 : Int32)), (.int (0 : Int32)), (.int (0 : Int32)), (.int (0 : Int32)), (.int (0 : Int32)), (.int (0 : Int32)), (.int (0 : Int32)), (.int (0 : Int32)), (.int (0 : Int32))] := Vr5
  show Wq _ _ _ _ _ (T5.setTop (mkF m 43 #[.val (.ref afill_1), .val (.long yfill_2), .second] []))
  refine Ow.aloadN X5 hx (pc' := 44) (hb hby d_method_4_43) rfl rfl ?_
  refine Ow.iconst X5 hx (pc' := 45) (hb hby d_method_4_44) (z := (5 : Int32)) rfl ?_
  refine Ow.lloadN X5 hx (pc' := 46) (hb hby d_method_4_45) rfl ?_
  refine Ow.iconst X5 hx (pc' := 47) (hb hby d_method_4_46) (z := (5 : Int32)) rfl ?_
  refine Ow.lushr X5 hx (pc' := 48) (hb hby d_method_4_47) (z := ((yfill_2.toUInt64 >>> ((5 : Int32) &&& 0x3f).toInt64.toUInt64).toInt64)) rfl ?_
  refine Ow.lconst X5 hx (pc' := 49) (hb hby d_method_4_48) (z := (1 : Int64)) rfl ?_
  refine Ow.land X5 hx (pc' := 50) (hb hby d_method_4_49) (z := (((yfill_2.toUInt64 >>> ((5 : Int32) &&& 0x3f).toInt64.toUInt64).toInt64) &&& (1 : Int64))) rfl ?_
  refine Ow.l2i X5 hx (pc' := 51) (hb hby d_method_4_50) (z := ((((yfill_2.toUInt64 >>> ((5 : Int32) &&& 0x3f).toInt64.toUInt64).toInt64) &&& (1 : Int64)).toInt32)) rfl ?_
  obtain ⟨T6, h6, X6, e6, W6, Vr6, st6⟩ := asI X5 hx hZ e5 V_afill_1_t5 (j := (5 : Int32)) (i := 5) (by decide) rfl (Nat.le_of_ble_eq_true rfl) (g := (mkF m 51 #[.val (.ref afill_1), .val (.long yfill_2), .second] [(.int ((((yfill_2.toUInt64 >>> ((5 : Int32) &&& 0x3f).toInt64.toUInt64).toInt64) &&& (1 : Int64)).toInt32)), (.int (5 : Int32)), (.ref afill_1)])) rfl rfl (hb hby d_method_4_51)
  refine Wq.step st6 ?_
  have N6 := Fr.snoc X6 N5 g_afill_1
  have K6 : Keep h0 h6 [afill_1] := K5.wr W6 (Or.inl (List.mem_of_getElem? (i := 0) rfl))
  have Z6 : n0 ≤ h6.size := Nat.le_trans Z5 (Keep.of_wr W6).1
  have V_afill_1_t6 : Al Z h6 afill_1 .int [(.int ((yfill_2 &&& (1 : Int64)).toInt32)), (.int ((((yfill_2.toUInt64 >>> ((1 : Int32) &&& 0x3f).toInt64.toUInt64).toInt64) &&& (1 : Int64)).toInt32)), (.int ((((yfill_2.toUInt64 >>> ((2 : Int32) &&& 0x3f).toInt64.toUInt64).toInt64) &&& (1 : Int64)).toInt32)), (.int ((((yfill_2.toUInt64 >>> ((3 : Int32) &&& 0x3f).toInt64.toUInt64).toInt64) &&& (1 : Int64)).toInt32)), (.int ((((yfill_2.toUInt64 >>> ((4 : Int32) &&& 0x3f).toInt64.toUInt64).toInt64) &&& (1 : Int64)).toInt32)), (.int ((((yfill_2.toUInt64 >>> ((5 : Int32) &&& 0x3f).toInt64.toUInt64).toInt64) &&& (1 : Int64)).toInt32)), (.int (0 : Int32)), (.int (0 : Int32)), (.int (0 : Int32)), (.int (0 : Int32)), (.int (0 : Int32)), (.int (0 : Int32)), (.int (0 : Int32)), (.int (0 : Int32)), (.int (0 : Int32)), (.int (0 : Int32)), (.int (0 : Int32)), (.int (0 : Int32)), (.int (0 : Int32)), (.int (0 : Int32))] := Vr6
  show Wq _ _ _ _ _ (T6.setTop (mkF m 52 #[.val (.ref afill_1), .val (.long yfill_2), .second] []))
  refine Ow.aloadN X6 hx (pc' := 53) (hb hby d_method_4_52) rfl rfl ?_
  refine Ow.bipush X6 hx (pc' := 55) (hb hby d_method_4_53) (z := (6 : Int32)) rfl ?_
  refine Ow.lloadN X6 hx (pc' := 56) (hb hby d_method_4_55) rfl ?_
  refine Ow.bipush X6 hx (pc' := 58) (hb hby d_method_4_56) (z := (6 : Int32)) rfl ?_
  refine Ow.lushr X6 hx (pc' := 59) (hb hby d_method_4_58) (z := ((yfill_2.toUInt64 >>> ((6 : Int32) &&& 0x3f).toInt64.toUInt64).toInt64)) rfl ?_
  refine Ow.lconst X6 hx (pc' := 60) (hb hby d_method_4_59) (z := (1 : Int64)) rfl ?_
  refine Ow.land X6 hx (pc' := 61) (hb hby d_method_4_60) (z := (((yfill_2.toUInt64 >>> ((6 : Int32) &&& 0x3f).toInt64.toUInt64).toInt64) &&& (1 : Int64))) rfl ?_
  refine Ow.l2i X6 hx (pc' := 62) (hb hby d_method_4_61) (z := ((((yfill_2.toUInt64 >>> ((6 : Int32) &&& 0x3f).toInt64.toUInt64).toInt64) &&& (1 : Int64)).toInt32)) rfl ?_
  obtain ⟨T7, h7, X7, e7, W7, Vr7, st7⟩ := asI X6 hx hZ e6 V_afill_1_t6 (j := (6 : Int32)) (i := 6) (by decide) rfl (Nat.le_of_ble_eq_true rfl) (g := (mkF m 62 #[.val (.ref afill_1), .val (.long yfill_2), .second] [(.int ((((yfill_2.toUInt64 >>> ((6 : Int32) &&& 0x3f).toInt64.toUInt64).toInt64) &&& (1 : Int64)).toInt32)), (.int (6 : Int32)), (.ref afill_1)])) rfl rfl (hb hby d_method_4_62)
  refine Wq.step st7 ?_
  have N7 := Fr.snoc X7 N6 g_afill_1
  have K7 : Keep h0 h7 [afill_1] := K6.wr W7 (Or.inl (List.mem_of_getElem? (i := 0) rfl))
  have Z7 : n0 ≤ h7.size := Nat.le_trans Z6 (Keep.of_wr W7).1
  have V_afill_1_t7 : Al Z h7 afill_1 .int [(.int ((yfill_2 &&& (1 : Int64)).toInt32)), (.int ((((yfill_2.toUInt64 >>> ((1 : Int32) &&& 0x3f).toInt64.toUInt64).toInt64) &&& (1 : Int64)).toInt32)), (.int ((((yfill_2.toUInt64 >>> ((2 : Int32) &&& 0x3f).toInt64.toUInt64).toInt64) &&& (1 : Int64)).toInt32)), (.int ((((yfill_2.toUInt64 >>> ((3 : Int32) &&& 0x3f).toInt64.toUInt64).toInt64) &&& (1 : Int64)).toInt32)), (.int ((((yfill_2.toUInt64 >>> ((4 : Int32) &&& 0x3f).toInt64.toUInt64).toInt64) &&& (1 : Int64)).toInt32)), (.int ((((yfill_2.toUInt64 >>> ((5 : Int32) &&& 0x3f).toInt64.toUInt64).toInt64) &&& (1 : Int64)).toInt32)), (.int ((((yfill_2.toUInt64 >>> ((6 : Int32) &&& 0x3f).toInt64.toUInt64).toInt64) &&& (1 : Int64)).toInt32)), (.int (0 : Int32)), (.int (0 : Int32)), (.int (0 : Int32)), (.int (0 : Int32)), (.int (0 : Int32)), (.int (0 : Int32)), (.int (0 : Int32)), (.int (0 : Int32)), (.int (0 : Int32)), (.int (0 : Int32)), (.int (0 : Int32)), (.int (0 : Int32)), (.int (0 : Int32))] := Vr7
  show Wq _ _ _ _ _ (T7.setTop (mkF m 63 #[.val (.ref afill_1), .val (.long yfill_2), .second] []))
  refine Ow.aloadN X7 hx (pc' := 64) (hb hby d_method_4_63) rfl rfl ?_
  refine Ow.bipush X7 hx (pc' := 66) (hb hby d_method_4_64) (z := (7 : Int32)) rfl ?_
  refine Ow.lloadN X7 hx (pc' := 67) (hb hby d_method_4_66) rfl ?_
  refine Ow.bipush X7 hx (pc' := 69) (hb hby d_method_4_67) (z := (7 : Int32)) rfl ?_
  refine Ow.lushr X7 hx (pc' := 70) (hb hby d_method_4_69) (z := ((yfill_2.toUInt64 >>> ((7 : Int32) &&& 0x3f).toInt64.toUInt64).toInt64)) rfl ?_
  refine Ow.lconst X7 hx (pc' := 71) (hb hby d_method_4_70) (z := (1 : Int64)) rfl ?_
  refine Ow.land X7 hx (pc' := 72) (hb hby d_method_4_71) (z := (((yfill_2.toUInt64 >>> ((7 : Int32) &&& 0x3f).toInt64.toUInt64).toInt64) &&& (1 : Int64))) rfl ?_
  refine Ow.l2i X7 hx (pc' := 73) (hb hby d_method_4_72) (z := ((((yfill_2.toUInt64 >>> ((7 : Int32) &&& 0x3f).toInt64.toUInt64).toInt64) &&& (1 : Int64)).toInt32)) rfl ?_
  obtain ⟨T8, h8, X8, e8, W8, Vr8, st8⟩ := asI X7 hx hZ e7 V_afill_1_t7 (j := (7 : Int32)) (i := 7) (by decide) rfl (Nat.le_of_ble_eq_true rfl) (g := (mkF m 73 #[.val (.ref afill_1), .val (.long yfill_2), .second] [(.int ((((yfill_2.toUInt64 >>> ((7 : Int32) &&& 0x3f).toInt64.toUInt64).toInt64) &&& (1 : Int64)).toInt32)), (.int (7 : Int32)), (.ref afill_1)])) rfl rfl (hb hby d_method_4_73)
  refine Wq.step st8 ?_
  have N8 := Fr.snoc X8 N7 g_afill_1
  have K8 : Keep h0 h8 [afill_1] := K7.wr W8 (Or.inl (List.mem_of_getElem? (i := 0) rfl))
  have Z8 : n0 ≤ h8.size := Nat.le_trans Z7 (Keep.of_wr W8).1
  have V_afill_1_t8 : Al Z h8 afill_1 .int [(.int ((yfill_2 &&& (1 : Int64)).toInt32)), (.int ((((yfill_2.toUInt64 >>> ((1 : Int32) &&& 0x3f).toInt64.toUInt64).toInt64) &&& (1 : Int64)).toInt32)), (.int ((((yfill_2.toUInt64 >>> ((2 : Int32) &&& 0x3f).toInt64.toUInt64).toInt64) &&& (1 : Int64)).toInt32)), (.int ((((yfill_2.toUInt64 >>> ((3 : Int32) &&& 0x3f).toInt64.toUInt64).toInt64) &&& (1 : Int64)).toInt32)), (.int ((((yfill_2.toUInt64 >>> ((4 : Int32) &&& 0x3f).toInt64.toUInt64).toInt64) &&& (1 : Int64)).toInt32)), (.int ((((yfill_2.toUInt64 >>> ((5 : Int32) &&& 0x3f).toInt64.toUInt64).toInt64) &&& (1 : Int64)).toInt32)), (.int ((((yfill_2.toUInt64 >>> ((6 : Int32) &&& 0x3f).toInt64.toUInt64).toInt64) &&& (1 : Int64)).toInt32)), (.int ((((yfill_2.toUInt64 >>> ((7 : Int32) &&& 0x3f).toInt64.toUInt64).toInt64) &&& (1 : Int64)).toInt32)), (.int (0 : Int32)), (.int (0 : Int32)), (.int (0 : Int32)), (.int (0 : Int32)), (.int (0 : Int32)), (.int (0 : Int32)), (.int (0 : Int32)), (.int (0 : Int32)), (.int (0 : Int32)), (.int (0 : Int32)), (.int (0 : Int32)), (.int (0 : Int32))] := Vr8
  show Wq _ _ _ _ _ (T8.setTop (mkF m 74 #[.val (.ref afill_1), .val (.long yfill_2), .second] []))
  refine Ow.aloadN X8 hx (pc' := 75) (hb hby d_method_4_74) rfl rfl ?_
  refine Ow.bipush X8 hx (pc' := 77) (hb hby d_method_4_75) (z := (8 : Int32)) rfl ?_
  refine Ow.lloadN X8 hx (pc' := 78) (hb hby d_method_4_77) rfl ?_
  refine Ow.bipush X8 hx (pc' := 80) (hb hby d_method_4_78) (z := (8 : Int32)) rfl ?_
  refine Ow.lushr X8 hx (pc' := 81) (hb hby d_method_4_80) (z := ((yfill_2.toUInt64 >>> ((8 : Int32) &&& 0x3f).toInt64.toUInt64).toInt64)) rfl ?_
  refine Ow.lconst X8 hx (pc' := 82) (hb hby d_method_4_81) (z := (1 : Int64)) rfl ?_
  refine Ow.land X8 hx (pc' := 83) (hb hby d_method_4_82) (z := (((yfill_2.toUInt64 >>> ((8 : Int32) &&& 0x3f).toInt64.toUInt64).toInt64) &&& (1 : Int64))) rfl ?_
  refine Ow.l2i X8 hx (pc' := 84) (hb hby d_method_4_83) (z := ((((yfill_2.toUInt64 >>> ((8 : Int32) &&& 0x3f).toInt64.toUInt64).toInt64) &&& (1 : Int64)).toInt32)) rfl ?_
  obtain ⟨T9, h9, X9, e9, W9, Vr9, st9⟩ := asI X8 hx hZ e8 V_afill_1_t8 (j := (8 : Int32)) (i := 8) (by decide) rfl (Nat.le_of_ble_eq_true rfl) (g := (mkF m 84 #[.val (.ref afill_1), .val (.long yfill_2), .second] [(.int ((((yfill_2.toUInt64 >>> ((8 : Int32) &&& 0x3f).toInt64.toUInt64).toInt64) &&& (1 : Int64)).toInt32)), (.int (8 : Int32)), (.ref afill_1)])) rfl rfl (hb hby d_method_4_84)
  refine Wq.step st9 ?_
  have N9 := Fr.snoc X9 N8 g_afill_1
  have K9 : Keep h0 h9 [afill_1] := K8.wr W9 (Or.inl (List.mem_of_getElem? (i := 0) rfl))
  have Z9 : n0 ≤ h9.size := Nat.le_trans Z8 (Keep.of_wr W9).1
  have V_afill_1_t9 : Al Z h9 afill_1 .int [(.int ((yfill_2 &&& (1 : Int64)).toInt32)), (.int ((((yfill_2.toUInt64 >>> ((1 : Int32) &&& 0x3f).toInt64.toUInt64).toInt64) &&& (1 : Int64)).toInt32)), (.int ((((yfill_2.toUInt64 >>> ((2 : Int32) &&& 0x3f).toInt64.toUInt64).toInt64) &&& (1 : Int64)).toInt32)), (.int ((((yfill_2.toUInt64 >>> ((3 : Int32) &&& 0x3f).toInt64.toUInt64).toInt64) &&& (1 : Int64)).toInt32)), (.int ((((yfill_2.toUInt64 >>> ((4 : Int32) &&& 0x3f).toInt64.toUInt64).toInt64) &&& (1 : Int64)).toInt32)), (.int ((((yfill_2.toUInt64 >>> ((5 : Int32) &&& 0x3f).toInt64.toUInt64).toInt64) &&& (1 : Int64)).toInt32)), (.int ((((yfill_2.toUInt64 >>> ((6 : Int32) &&& 0x3f).toInt64.toUInt64).toInt64) &&& (1 : Int64)).toInt32)), (.int ((((yfill_2.toUInt64 >>> ((7 : Int32) &&& 0x3f).toInt64.toUInt64).toInt64) &&& (1 : Int64)).toInt32)), (.int ((((yfill_2.toUInt64 >>> ((8 : Int32) &&& 0x3f).toInt64.toUInt64).toInt64) &&& (1 : Int64)).toInt32)), (.int (0 : Int32)), (.int (0 : Int32)), (.int (0 : Int32)), (.int (0 : Int32)), (.int (0 : Int32)), (.int (0 : Int32)), (.int (0 : Int32)), (.int (0 : Int32)), (.int (0 : Int32)), (.int (0 : Int32)), (.int (0 : Int32))] := Vr9
  show Wq _ _ _ _ _ (T9.setTop (mkF m 85 #[.val (.ref afill_1), .val (.long yfill_2), .second] []))
  refine Ow.aloadN X9 hx (pc' := 86) (hb hby d_method_4_85) rfl rfl ?_
  refine Ow.bipush X9 hx (pc' := 88) (hb hby d_method_4_86) (z := (9 : Int32)) rfl ?_
  refine Ow.lloadN X9 hx (pc' := 89) (hb hby d_method_4_88) rfl ?_
  refine Ow.bipush X9 hx (pc' := 91) (hb hby d_method_4_89) (z := (9 : Int32)) rfl ?_
  refine Ow.lushr X9 hx (pc' := 92) (hb hby d_method_4_91) (z := ((yfill_2.toUInt64 >>> ((9 : Int32) &&& 0x3f).toInt64.toUInt64).toInt64)) rfl ?_
  refine Ow.lconst X9 hx (pc' := 93) (hb hby d_method_4_92) (z := (1 : Int64)) rfl ?_
  refine Ow.land X9 hx (pc' := 94) (hb hby d_method_4_93) (z := (((yfill_2.toUInt64 >>> ((9 : Int32) &&& 0x3f).toInt64.toUInt64).toInt64) &&& (1 : Int64))) rfl ?_
  refine Ow.l2i X9 hx (pc' := 95) (hb hby d_method_4_94) (z := ((((yfill_2.toUInt64 >>> ((9 : Int32) &&& 0x3f).toInt64.toUInt64).toInt64) &&& (1 : Int64)).toInt32)) rfl ?_
  obtain ⟨T10, h10, X10, e10, W10, Vr10, st10⟩ := asI X9 hx hZ e9 V_afill_1_t9 (j := (9 : Int32)) (i := 9) (by decide) rfl (Nat.le_of_ble_eq_true rfl) (g := (mkF m 95 #[.val (.ref afill_1), .val (.long yfill_2), .second] [(.int ((((yfill_2.toUInt64 >>> ((9 : Int32) &&& 0x3f).toInt64.toUInt64).toInt64) &&& (1 : Int64)).toInt32)), (.int (9 : Int32)), (.ref afill_1)])) rfl rfl (hb hby d_method_4_95)
  refine Wq.step st10 ?_
  have N10 := Fr.snoc X10 N9 g_afill_1
  have K10 : Keep h0 h10 [afill_1] := K9.wr W10 (Or.inl (List.mem_of_getElem? (i := 0) rfl))
  have Z10 : n0 ≤ h10.size := Nat.le_trans Z9 (Keep.of_wr W10).1
  have V_afill_1_t10 : Al Z h10 afill_1 .int [(.int ((yfill_2 &&& (1 : Int64)).toInt32)), (.int ((((yfill_2.toUInt64 >>> ((1 : Int32) &&& 0x3f).toInt64.toUInt64).toInt64) &&& (1 : Int64)).toInt32)), (.int ((((yfill_2.toUInt64 >>> ((2 : Int32) &&& 0x3f).toInt64.toUInt64).toInt64) &&& (1 : Int64)).toInt32)), (.int ((((yfill_2.toUInt64 >>> ((3 : Int32) &&& 0x3f).toInt64.toUInt64).toInt64) &&& (1 : Int64)).toInt32)), (.int ((((yfill_2.toUInt64 >>> ((4 : Int32) &&& 0x3f).toInt64.toUInt64).toInt64) &&& (1 : Int64)).toInt32)), (.int ((((yfill_2.toUInt64 >>> ((5 : Int32) &&& 0x3f).toInt64.toUInt64).toInt64) &&& (1 : Int64)).toInt32)), (.int ((((yfill_2.toUInt64 >>> ((6 : Int32) &&& 0x3f).toInt64.toUInt64).toInt64) &&& (1 : Int64)).toInt32)), (.int ((((yfill_2.toUInt64 >>> ((7 : Int32) &&& 0x3f).toInt64.toUInt64).toInt64) &&& (1 : Int64)).toInt32)), (.int ((((yfill_2.toUInt64 >>> ((8 : Int32) &&& 0x3f).toInt64.toUInt64).toInt64) &&& (1 : Int64)).toInt32)), (.int ((((yfill_2.toUInt64 >>> ((9 : Int32) &&& 0x3f).toInt64.toUInt64).toInt64) &&& (1 : Int64)).toInt32)), (.int (0 : Int32)), (.int (0 : Int32)), (.int (0 : Int32)), (.int (0 : Int32)), (.int (0 : Int32)), (.int (0 : Int32)), (.int (0 : Int32)), (.int (0 : Int32)), (.int (0 : Int32)), (.int (0 : Int32))] := Vr10
  show Wq _ _ _ _ _ (T10.setTop (mkF m 96 #[.val (.ref afill_1), .val (.long yfill_2), .second] []))
  refine Ow.aloadN X10 hx (pc' := 97) (hb hby d_method_4_96) rfl rfl ?_
  refine Ow.bipush X10 hx (pc' := 99) (hb hby d_method_4_97) (z := (10 : Int32)) rfl ?_
  refine Ow.lloadN X10 hx (pc' := 100) (hb hby d_method_4_99) rfl ?_
  refine Ow.bipush X10 hx (pc' := 102) (hb hby d_method_4_100) (z := (10 : Int32)) rfl ?_
  refine Ow.lushr X10 hx (pc' := 103) (hb hby d_method_4_102) (z := ((yfill_2.toUInt64 >>> ((10 : Int32) &&& 0x3f).toInt64.toUInt64).toInt64)) rfl ?_
  refine Ow.lconst X10 hx (pc' := 104) (hb hby d_method_4_103) (z := (1 : Int64)) rfl ?_
  refine Ow.land X10 hx (pc' := 105) (hb hby d_method_4_104) (z := (((yfill_2.toUInt64 >>> ((10 : Int32) &&& 0x3f).toInt64.toUInt64).toInt64) &&& (1 : Int64))) rfl ?_
  refine Ow.l2i X10 hx (pc' := 106) (hb hby d_method_4_105) (z := ((((yfill_2.toUInt64 >>> ((10 : Int32) &&& 0x3f).toInt64.toUInt64).toInt64) &&& (1 : Int64)).toInt32)) rfl ?_
  obtain ⟨T11, h11, X11, e11, W11, Vr11, st11⟩ := asI X10 hx hZ e10 V_afill_1_t10 (j := (10 : Int32)) (i := 10) (by decide) rfl (Nat.le_of_ble_eq_true rfl) (g := (mkF m 106 #[.val (.ref afill_1), .val (.long yfill_2), .second] [(.int ((((yfill_2.toUInt64 >>> ((10 : Int32) &&& 0x3f).toInt64.toUInt64).toInt64) &&& (1 : Int64)).toInt32)), (.int (10 : Int32)), (.ref afill_1)])) rfl rfl (hb hby d_method_4_106)
  refine Wq.step st11 ?_
  have N11 := Fr.snoc X11 N10 g_afill_1
  have K11 : Keep h0 h11 [afill_1] := K10.wr W11 (Or.inl (List.mem_of_getElem? (i := 0) rfl))
  have Z11 : n0 ≤ h11.size := Nat.le_trans Z10 (Keep.of_wr W11).1
  have V_afill_1_t11 : Al Z h11 afill_1 .int [(.int ((yfill_2 &&& (1 : Int64)).toInt32)), (.int ((((yfill_2.toUInt64 >>> ((1 : Int32) &&& 0x3f).toInt64.toUInt64).toInt64) &&& (1 : Int64)).toInt32)), (.int ((((yfill_2.toUInt64 >>> ((2 : Int32) &&& 0x3f).toInt64.toUInt64).toInt64) &&& (1 : Int64)).toInt32)), (.int ((((yfill_2.toUInt64 >>> ((3 : Int32) &&& 0x3f).toInt64.toUInt64).toInt64) &&& (1 : Int64)).toInt32)), (.int ((((yfill_2.toUInt64 >>> ((4 : Int32) &&& 0x3f).toInt64.toUInt64).toInt64) &&& (1 : Int64)).toInt32)), (.int ((((yfill_2.toUInt64 >>> ((5 : Int32) &&& 0x3f).toInt64.toUInt64).toInt64) &&& (1 : Int64)).toInt32)), (.int ((((yfill_2.toUInt64 >>> ((6 : Int32) &&& 0x3f).toInt64.toUInt64).toInt64) &&& (1 : Int64)).toInt32)), (.int ((((yfill_2.toUInt64 >>> ((7 : Int32) &&& 0x3f).toInt64.toUInt64).toInt64) &&& (1 : Int64)).toInt32)), (.int ((((yfill_2.toUInt64 >>> ((8 : Int32) &&& 0x3f).toInt64.toUInt64).toInt64) &&& (1 : Int64)).toInt32)), (.int ((((yfill_2.toUInt64 >>> ((9 : Int32) &&& 0x3f).toInt64.toUInt64).toInt64) &&& (1 : Int64)).toInt32)), (.int ((((yfill_2.toUInt64 >>> ((10 : Int32) &&& 0x3f).toInt64.toUInt64).toInt64) &&& (1 : Int64)).toInt32)), (.int (0 : Int32)), (.int (0 : Int32)), (.int (0 : Int32)), (.int (0 : Int32)), (.int (0 : Int32)), (.int (0 : Int32)), (.int (0 : Int32)), (.int (0 : Int32)), (.int (0 : Int32))] := Vr11
  show Wq _ _ _ _ _ (T11.setTop (mkF m 107 #[.val (.ref afill_1), .val (.long yfill_2), .second] []))
  refine Ow.aloadN X11 hx (pc' := 108) (hb hby d_method_4_107) rfl rfl ?_
  refine Ow.bipush X11 hx (pc' := 110) (hb hby d_method_4_108) (z := (11 : Int32)) rfl ?_
  refine Ow.lloadN X11 hx (pc' := 111) (hb hby d_method_4_110) rfl ?_
  refine Ow.bipush X11 hx (pc' := 113) (hb hby d_method_4_111) (z := (11 : Int32)) rfl ?_
  refine Ow.lushr X11 hx (pc' := 114) (hb hby d_method_4_113) (z := ((yfill_2.toUInt64 >>> ((11 : Int32) &&& 0x3f).toInt64.toUInt64).toInt64)) rfl ?_
  refine Ow.lconst X11 hx (pc' := 115) (hb hby d_method_4_114) (z := (1 : Int64)) rfl ?_
  refine Ow.land X11 hx (pc' := 116) (hb hby d_method_4_115) (z := (((yfill_2.toUInt64 >>> ((11 : Int32) &&& 0x3f).toInt64.toUInt64).toInt64) &&& (1 : Int64))) rfl ?_
  refine Ow.l2i X11 hx (pc' := 117) (hb hby d_method_4_116) (z := ((((yfill_2.toUInt64 >>> ((11 : Int32) &&& 0x3f).toInt64.toUInt64).toInt64) &&& (1 : Int64)).toInt32)) rfl ?_
  obtain ⟨T12, h12, X12, e12, W12, Vr12, st12⟩ := asI X11 hx hZ e11 V_afill_1_t11 (j := (11 : Int32)) (i := 11) (by decide) rfl (Nat.le_of_ble_eq_true rfl) (g := (mkF m 117 #[.val (.ref afill_1), .val (.long yfill_2), .second] [(.int ((((yfill_2.toUInt64 >>> ((11 : Int32) &&& 0x3f).toInt64.toUInt64).toInt64) &&& (1 : Int64)).toInt32)), (.int (11 : Int32)), (.ref afill_1)])) rfl rfl (hb hby d_method_4_117)
  refine Wq.step st12 ?_
  have N12 := Fr.snoc X12 N11 g_afill_1
  have K12 : Keep h0 h12 [afill_1] := K11.wr W12 (Or.inl (List.mem_of_getElem? (i := 0) rfl))
  have Z12 : n0 ≤ h12.size := Nat.le_trans Z11 (Keep.of_wr W12).1
  have V_afill_1_t12 : Al Z h12 afill_1 .int [(.int ((yfill_2 &&& (1 : Int64)).toInt32)), (.int ((((yfill_2.toUInt64 >>> ((1 : Int32) &&& 0x3f).toInt64.toUInt64).toInt64) &&& (1 : Int64)).toInt32)), (.int ((((yfill_2.toUInt64 >>> ((2 : Int32) &&& 0x3f).toInt64.toUInt64).toInt64) &&& (1 : Int64)).toInt32)), (.int ((((yfill_2.toUInt64 >>> ((3 : Int32) &&& 0x3f).toInt64.toUInt64).toInt64) &&& (1 : Int64)).toInt32)), (.int ((((yfill_2.toUInt64 >>> ((4 : Int32) &&& 0x3f).toInt64.toUInt64).toInt64) &&& (1 : Int64)).toInt32)), (.int ((((yfill_2.toUInt64 >>> ((5 : Int32) &&& 0x3f).toInt64.toUInt64).toInt64) &&& (1 : Int64)).toInt32)), (.int ((((yfill_2.toUInt64 >>> ((6 : Int32) &&& 0x3f).toInt64.toUInt64).toInt64) &&& (1 : Int64)).toInt32)), (.int ((((yfill_2.toUInt64 >>> ((7 : Int32) &&& 0x3f).toInt64.toUInt64).toInt64) &&& (1 : Int64)).toInt32)), (.int ((((yfill_2.toUInt64 >>> ((8 : Int32) &&& 0x3f).toInt64.toUInt64).toInt64) &&& (1 : Int64)).toInt32)), (.int ((((yfill_2.toUInt64 >>> ((9 : Int32) &&& 0x3f).toInt64.toUInt64).toInt64) &&& (1 : Int64)).toInt32)), (.int ((((yfill_2.toUInt64 >>> ((10 : Int32) &&& 0x3f).toInt64.toUInt64).toInt64) &&& (1 : Int64)).toInt32)), (.int ((((yfill_2.toUInt64 >>> ((11 : Int32) &&& 0x3f).toInt64.toUInt64).toInt64) &&& (1 : Int64)).toInt32)), (.int (0 : Int32)), (.int (0 : Int32)), (.int (0 : Int32)), (.int (0 : Int32)), (.int (0 : Int32)), (.int (0 : Int32)), (.int (0 : Int32)), (.int (0 : Int32))] := Vr12
  show Wq _ _ _ _ _ (T12.setTop (mkF m 118 #[.val (.ref afill_1), .val (.long yfill_2), .second] []))
  refine Ow.aloadN X12 hx (pc' := 119) (hb hby d_method_4_118) rfl rfl ?_
  refine Ow.bipush X12 hx (pc' := 121) (hb hby d_method_4_119) (z := (12 : Int32)) rfl ?_
  refine Ow.lloadN X12 hx (pc' := 122) (hb hby d_method_4_121) rfl ?_
  refine Ow.bipush X12 hx (pc' := 124) (hb hby d_method_4_122) (z := (12 : Int32)) rfl ?_
  refine Ow.lushr X12 hx (pc' := 125) (hb hby d_method_4_124) (z := ((yfill_2.toUInt64 >>> ((12 : Int32) &&& 0x3f).toInt64.toUInt64).toInt64)) rfl ?_
  refine Ow.lconst X12 hx (pc' := 126) (hb hby d_method_4_125) (z := (1 : Int64)) rfl ?_
  refine Ow.land X12 hx (pc' := 127) (hb hby d_method_4_126) (z := (((yfill_2.toUInt64 >>> ((12 : Int32) &&& 0x3f).toInt64.toUInt64).toInt64) &&& (1 : Int64))) rfl ?_
  refine Ow.l2i X12 hx (pc' := 128) (hb hby d_method_4_127) (z := ((((yfill_2.toUInt64 >>> ((12 : Int32) &&& 0x3f).toInt64.toUInt64).toInt64) &&& (1 : Int64)).toInt32)) rfl ?_
  obtain ⟨T13, h13, X13, e13, W13, Vr13, st13⟩ := asI X12 hx hZ e12 V_afill_1_t12 (j := (12 : Int32)) (i := 12) (by decide) rfl (Nat.le_of_ble_eq_true rfl) (g := (mkF m 128 #[.val (.ref afill_1), .val (.long yfill_2), .second] [(.int ((((yfill_2.toUInt64 >>> ((12 : Int32) &&& 0x3f).toInt64.toUInt64).toInt64) &&& (1 : Int64)).toInt32)), (.int (12 : Int32)), (.ref afill_1)])) rfl rfl (hb hby d_method_4_128)
  refine Wq.step st13 ?_
  have N13 := Fr.snoc X13 N12 g_afill_1
  have K13 : Keep h0 h13 [afill_1] := K12.wr W13 (Or.inl (List.mem_of_getElem? (i := 0) rfl))
  have Z13 : n0 ≤ h13.size := Nat.le_trans Z12 (Keep.of_wr W13).1
  have V_afill_1_t13 : Al Z h13 afill_1 .int [(.int ((yfill_2 &&& (1 : Int64)).toInt32)), (.int ((((yfill_2.toUInt64 >>> ((1 : Int32) &&& 0x3f).toInt64.toUInt64).toInt64) &&& (1 : Int64)).toInt32)), (.int ((((yfill_2.toUInt64 >>> ((2 : Int32) &&& 0x3f).toInt64.toUInt64).toInt64) &&& (1 : Int64)).toInt32)), (.int ((((yfill_2.toUInt64 >>> ((3 : Int32) &&& 0x3f).toInt64.toUInt64).toInt64) &&& (1 : Int64)).toInt32)), (.int ((((yfill_2.toUInt64 >>> ((4 : Int32) &&& 0x3f).toInt64.toUInt64).toInt64) &&& (1 : Int64)).toInt32)), (.int ((((yfill_2.toUInt64 >>> ((5 : Int32) &&& 0x3f).toInt64.toUInt64).toInt64) &&& (1 : Int64)).toInt32)), (.int ((((yfill_2.toUInt64 >>> ((6 : Int32) &&& 0x3f).toInt64.toUInt64).toInt64) &&& (1 : Int64)).toInt32)), (.int ((((yfill_2.toUInt64 >>> ((7 : Int32) &&& 0x3f).toInt64.toUInt64).toInt64) &&& (1 : Int64)).toInt32)), (.int ((((yfill_2.toUInt64 >>> ((8 : Int32) &&& 0x3f).toInt64.toUInt64).toInt64) &&& (1 : Int64)).toInt32)), (.int ((((yfill_2.toUInt64 >>> ((9 : Int32) &&& 0x3f).toInt64.toUInt64).toInt64) &&& (1 : Int64)).toInt32)), (.int ((((yfill_2.toUInt64 >>> ((10 : Int32) &&& 0x3f).toInt64.toUInt64).toInt64) &&& (1 : Int64)).toInt32)), (.int ((((yfill_2.toUInt64 >>> ((11 : Int32) &&& 0x3f).toInt64.toUInt64).toInt64) &&& (1 : Int64)).toInt32)), (.int ((((yfill_2.toUInt64 >>> ((12 : Int32) &&& 0x3f).toInt64.toUInt64).toInt64) &&& (1 : Int64)).toInt32)), (.int (0 : Int32)), (.int (0 : Int32)), (.int (0 : Int32)), (.int (0 : Int32)), (.int (0 : Int32)), (.int (0 : Int32)), (.int (0 : Int32))] := Vr13
  show Wq _ _ _ _ _ (T13.setTop (mkF m 129 #[.val (.ref afill_1), .val (.long yfill_2), .second] []))
  refine Ow.aloadN X13 hx (pc' := 130) (hb hby d_method_4_129) rfl rfl ?_
  refine Ow.bipush X13 hx (pc' := 132) (hb hby d_method_4_130) (z := (13 : Int32)) rfl ?_
  refine Ow.lloadN X13 hx (pc' := 133) (hb hby d_method_4_132) rfl ?_
  refine Ow.bipush X13 hx (pc' := 135) (hb hby d_method_4_133) (z := (13 : Int32)) rfl ?_
  refine Ow.lushr X13 hx (pc' := 136) (hb hby d_method_4_135) (z := ((yfill_2.toUInt64 >>> ((13 : Int32) &&& 0x3f).toInt64.toUInt64).toInt64)) rfl ?_
  refine Ow.lconst X13 hx (pc' := 137) (hb hby d_method_4_136) (z := (1 : Int64)) rfl ?_
  refine Ow.land X13 hx (pc' := 138) (hb hby d_method_4_137) (z := (((yfill_2.toUInt64 >>> ((13 : Int32) &&& 0x3f).toInt64.toUInt64).toInt64) &&& (1 : Int64))) rfl ?_
  refine Ow.l2i X13 hx (pc' := 139) (hb hby d_method_4_138) (z := ((((yfill_2.toUInt64 >>> ((13 : Int32) &&& 0x3f).toInt64.toUInt64).toInt64) &&& (1 : Int64)).toInt32)) rfl ?_
  obtain ⟨T14, h14, X14, e14, W14, Vr14, st14⟩ := asI X13 hx hZ e13 V_afill_1_t13 (j := (13 : Int32)) (i := 13) (by decide) rfl (Nat.le_of_ble_eq_true rfl) (g := (mkF m 139 #[.val (.ref afill_1), .val (.long yfill_2), .second] [(.int ((((yfill_2.toUInt64 >>> ((13 : Int32) &&& 0x3f).toInt64.toUInt64).toInt64) &&& (1 : Int64)).toInt32)), (.int (13 : Int32)), (.ref afill_1)])) rfl rfl (hb hby d_method_4_139)
  refine Wq.step st14 ?_
  have N14 := Fr.snoc X14 N13 g_afill_1
  have K14 : Keep h0 h14 [afill_1] := K13.wr W14 (Or.inl (List.mem_of_getElem? (i := 0) rfl))
  have Z14 : n0 ≤ h14.size := Nat.le_trans Z13 (Keep.of_wr W14).1
  have V_afill_1_t14 : Al Z h14 afill_1 .int [(.int ((yfill_2 &&& (1 : Int64)).toInt32)), (.int ((((yfill_2.toUInt64 >>> ((1 : Int32) &&& 0x3f).toInt64.toUInt64).toInt64) &&& (1 : Int64)).toInt32)), (.int ((((yfill_2.toUInt64 >>> ((2 : Int32) &&& 0x3f).toInt64.toUInt64).toInt64) &&& (1 : Int64)).toInt32)), (.int ((((yfill_2.toUInt64 >>> ((3 : Int32) &&& 0x3f).toInt64.toUInt64).toInt64) &&& (1 : Int64)).toInt32)), (.int ((((yfill_2.toUInt64 >>> ((4 : Int32) &&& 0x3f).toInt64.toUInt64).toInt64) &&& (1 : Int64)).toInt32)), (.int ((((yfill_2.toUInt64 >>> ((5 : Int32) &&& 0x3f).toInt64.toUInt64).toInt64) &&& (1 : Int64)).toInt32)), (.int ((((yfill_2.toUInt64 >>> ((6 : Int32) &&& 0x3f).toInt64.toUInt64).toInt64) &&& (1 : Int64)).toInt32)), (.int ((((yfill_2.toUInt64 >>> ((7 : Int32) &&& 0x3f).toInt64.toUInt64).toInt64) &&& (1 : Int64)).toInt32)), (.int ((((yfill_2.toUInt64 >>> ((8 : Int32) &&& 0x3f).toInt64.toUInt64).toInt64) &&& (1 : Int64)).toInt32)), (.int ((((yfill_2.toUInt64 >>> ((9 : Int32) &&& 0x3f).toInt64.toUInt64).toInt64) &&& (1 : Int64)).toInt32)), (.int ((((yfill_2.toUInt64 >>> ((10 : Int32) &&& 0x3f).toInt64.toUInt64).toInt64) &&& (1 : Int64)).toInt32)), (.int ((((yfill_2.toUInt64 >>> ((11 : Int32) &&& 0x3f).toInt64.toUInt64).toInt64) &&& (1 : Int64)).toInt32)), (.int ((((yfill_2.toUInt64 >>> ((12 : Int32) &&& 0x3f).toInt64.toUInt64).toInt64) &&& (1 : Int64)).toInt32)), (.int ((((yfill_2.toUInt64 >>> ((13 : Int32) &&& 0x3f).toInt64.toUInt64).toInt64) &&& (1 : Int64)).toInt32)), (.int (0 : Int32)), (.int (0 : Int32)), (.int (0 : Int32)), (.int (0 : Int32)), (.int (0 : Int32)), (.int (0 : Int32))] := Vr14
  show Wq _ _ _ _ _ (T14.setTop (mkF m 140 #[.val (.ref afill_1), .val (.long yfill_2), .second] []))
  refine Ow.aloadN X14 hx (pc' := 141) (hb hby d_method_4_140) rfl rfl ?_
  refine Ow.bipush X14 hx (pc' := 143) (hb hby d_method_4_141) (z := (14 : Int32)) rfl ?_
  refine Ow.lloadN X14 hx (pc' := 144) (hb hby d_method_4_143) rfl ?_
  refine Ow.bipush X14 hx (pc' := 146) (hb hby d_method_4_144) (z := (14 : Int32)) rfl ?_
  refine Ow.lushr X14 hx (pc' := 147) (hb hby d_method_4_146) (z := ((yfill_2.toUInt64 >>> ((14 : Int32) &&& 0x3f).toInt64.toUInt64).toInt64)) rfl ?_
  refine Ow.lconst X14 hx (pc' := 148) (hb hby d_method_4_147) (z := (1 : Int64)) rfl ?_
  refine Ow.land X14 hx (pc' := 149) (hb hby d_method_4_148) (z := (((yfill_2.toUInt64 >>> ((14 : Int32) &&& 0x3f).toInt64.toUInt64).toInt64) &&& (1 : Int64))) rfl ?_
  refine Ow.l2i X14 hx (pc' := 150) (hb hby d_method_4_149) (z := ((((yfill_2.toUInt64 >>> ((14 : Int32) &&& 0x3f).toInt64.toUInt64).toInt64) &&& (1 : Int64)).toInt32)) rfl ?_
  obtain ⟨T15, h15, X15, e15, W15, Vr15, st15⟩ := asI X14 hx hZ e14 V_afill_1_t14 (j := (14 : Int32)) (i := 14) (by decide) rfl (Nat.le_of_ble_eq_true rfl) (g := (mkF m 150 #[.val (.ref afill_1), .val (.long yfill_2), .second] [(.int ((((yfill_2.toUInt64 >>> ((14 : Int32) &&& 0x3f).toInt64.toUInt64).toInt64) &&& (1 : Int64)).toInt32)), (.int (14 : Int32)), (.ref afill_1)])) rfl rfl (hb hby d_method_4_150)
  refine Wq.step st15 ?_
  have N15 := Fr.snoc X15 N14 g_afill_1
  have K15 : Keep h0 h15 [afill_1] := K14.wr W15 (Or.inl (List.mem_of_getElem? (i := 0) rfl))
  have Z15 : n0 ≤ h15.size := Nat.le_trans Z14 (Keep.of_wr W15).1
  have V_afill_1_t15 : Al Z h15 afill_1 .int [(.int ((yfill_2 &&& (1 : Int64)).toInt32)), (.int ((((yfill_2.toUInt64 >>> ((1 : Int32) &&& 0x3f).toInt64.toUInt64).toInt64) &&& (1 : Int64)).toInt32)), (.int ((((yfill_2.toUInt64 >>> ((2 : Int32) &&& 0x3f).toInt64.toUInt64).toInt64) &&& (1 : Int64)).toInt32)), (.int ((((yfill_2.toUInt64 >>> ((3 : Int32) &&& 0x3f).toInt64.toUInt64).toInt64) &&& (1 : Int64)).toInt32)), (.int ((((yfill_2.toUInt64 >>> ((4 : Int32) &&& 0x3f).toInt64.toUInt64).toInt64) &&& (1 : Int64)).toInt32)), (.int ((((yfill_2.toUInt64 >>> ((5 : Int32) &&& 0x3f).toInt64.toUInt64).toInt64) &&& (1 : Int64)).toInt32)), (.int ((((yfill_2.toUInt64 >>> ((6 : Int32) &&& 0x3f).toInt64.toUInt64).toInt64) &&& (1 : Int64)).toInt32)), (.int ((((yfill_2.toUInt64 >>> ((7 : Int32) &&& 0x3f).toInt64.toUInt64).toInt64) &&& (1 : Int64)).toInt32)), (.int ((((yfill_2.toUInt64 >>> ((8 : Int32) &&& 0x3f).toInt64.toUInt64).toInt64) &&& (1 : Int64)).toInt32)), (.int ((((yfill_2.toUInt64 >>> ((9 : Int32) &&& 0x3f).toInt64.toUInt64).toInt64) &&& (1 : Int64)).toInt32)), (.int ((((yfill_2.toUInt64 >>> ((10 : Int32) &&& 0x3f).toInt64.toUInt64).toInt64) &&& (1 : Int64)).toInt32)), (.int ((((yfill_2.toUInt64 >>> ((11 : Int32) &&& 0x3f).toInt64.toUInt64).toInt64) &&& (1 : Int64)).toInt32)), (.int ((((yfill_2.toUInt64 >>> ((12 : Int32) &&& 0x3f).toInt64.toUInt64).toInt64) &&& (1 : Int64)).toInt32)), (.int ((((yfill_2.toUInt64 >>> ((13 : Int32) &&& 0x3f).toInt64.toUInt64).toInt64) &&& (1 : Int64)).toInt32)), (.int ((((yfill_2.toUInt64 >>> ((14 : Int32) &&& 0x3f).toInt64.toUInt64).toInt64) &&& (1 : Int64)).toInt32)), (.int (0 : Int32)), (.int (0 : Int32)), (.int (0 : Int32)), (.int (0 : Int32)), (.int (0 : Int32))] := Vr15
  show Wq _ _ _ _ _ (T15.setTop (mkF m 151 #[.val (.ref afill_1), .val (.long yfill_2), .second] []))
  refine Ow.aloadN X15 hx (pc' := 152) (hb hby d_method_4_151) rfl rfl ?_
  refine Ow.bipush X15 hx (pc' := 154) (hb hby d_method_4_152) (z := (15 : Int32)) rfl ?_
  refine Ow.lloadN X15 hx (pc' := 155) (hb hby d_method_4_154) rfl ?_
  refine Ow.bipush X15 hx (pc' := 157) (hb hby d_method_4_155) (z := (15 : Int32)) rfl ?_
  refine Ow.lushr X15 hx (pc' := 158) (hb hby d_method_4_157) (z := ((yfill_2.toUInt64 >>> ((15 : Int32) &&& 0x3f).toInt64.toUInt64).toInt64)) rfl ?_
  refine Ow.lconst X15 hx (pc' := 159) (hb hby d_method_4_158) (z := (1 : Int64)) rfl ?_
  refine Ow.land X15 hx (pc' := 160) (hb hby d_method_4_159) (z := (((yfill_2.toUInt64 >>> ((15 : Int32) &&& 0x3f).toInt64.toUInt64).toInt64) &&& (1 : Int64))) rfl ?_
  refine Ow.l2i X15 hx (pc' := 161) (hb hby d_method_4_160) (z := ((((yfill_2.toUInt64 >>> ((15 : Int32) &&& 0x3f).toInt64.toUInt64).toInt64) &&& (1 : Int64)).toInt32)) rfl ?_
  obtain ⟨T16, h16, X16, e16, W16, Vr16, st16⟩ := asI X15 hx hZ e15 V_afill_1_t15 (j := (15 : Int32)) (i := 15) (by decide) rfl (Nat.le_of_ble_eq_true rfl) (g := (mkF m 161 #[.val (.ref afill_1), .val (.long yfill_2), .second] [(.int ((((yfill_2.toUInt64 >>> ((15 : Int32) &&& 0x3f).toInt64.toUInt64).toInt64) &&& (1 : Int64)).toInt32)), (.int (15 : Int32)), (.ref afill_1)])) rfl rfl (hb hby d_method_4_161)
  refine Wq.step st16 ?_
  have N16 := Fr.snoc X16 N15 g_afill_1
  have K16 : Keep h0 h16 [afill_1] := K15.wr W16 (Or.inl (List.mem_of_getElem? (i := 0) rfl))
  have Z16 : n0 ≤ h16.size := Nat.le_trans Z15 (Keep.of_wr W16).1
  have V_afill_1_t16 : Al Z h16 afill_1 .int [(.int ((yfill_2 &&& (1 : Int64)).toInt32)), (.int ((((yfill_2.toUInt64 >>> ((1 : Int32) &&& 0x3f).toInt64.toUInt64).toInt64) &&& (1 : Int64)).toInt32)), (.int ((((yfill_2.toUInt64 >>> ((2 : Int32) &&& 0x3f).toInt64.toUInt64).toInt64) &&& (1 : Int64)).toInt32)), (.int ((((yfill_2.toUInt64 >>> ((3 : Int32) &&& 0x3f).toInt64.toUInt64).toInt64) &&& (1 : Int64)).toInt32)), (.int ((((yfill_2.toUInt64 >>> ((4 : Int32) &&& 0x3f).toInt64.toUInt64).toInt64) &&& (1 : Int64)).toInt32)), (.int ((((yfill_2.toUInt64 >>> ((5 : Int32) &&& 0x3f).toInt64.toUInt64).toInt64) &&& (1 : Int64)).toInt32)), (.int ((((yfill_2.toUInt64 >>> ((6 : Int32) &&& 0x3f).toInt64.toUInt64).toInt64) &&& (1 : Int64)).toInt32)), (.int ((((yfill_2.toUInt64 >>> ((7 : Int32) &&& 0x3f).toInt64.toUInt64).toInt64) &&& (1 : Int64)).toInt32)), (.int ((((yfill_2.toUInt64 >>> ((8 : Int32) &&& 0x3f).toInt64.toUInt64).toInt64) &&& (1 : Int64)).toInt32)), (.int ((((yfill_2.toUInt64 >>> ((9 : Int32) &&& 0x3f).toInt64.toUInt64).toInt64) &&& (1 : Int64)).toInt32)), (.int ((((yfill_2.toUInt64 >>> ((10 : Int32) &&& 0x3f).toInt64.toUInt64).toInt64) &&& (1 : Int64)).toInt32)), (.int ((((yfill_2.toUInt64 >>> ((11 : Int32) &&& 0x3f).toInt64.toUInt64).toInt64) &&& (1 : Int64)).toInt32)), (.int ((((yfill_2.toUInt64 >>> ((12 : Int32) &&& 0x3f).toInt64.toUInt64).toInt64) &&& (1 : Int64)).toInt32)), (.int ((((yfill_2.toUInt64 >>> ((13 : Int32) &&& 0x3f).toInt64.toUInt64).toInt64) &&& (1 : Int64)).toInt32)), (.int ((((yfill_2.toUInt64 >>> ((14 : Int32) &&& 0x3f).toInt64.toUInt64).toInt64) &&& (1 : Int64)).toInt32)), (.int ((((yfill_2.toUInt64 >>> ((15 : Int32) &&& 0x3f).toInt64.toUInt64).toInt64) &&& (1 : Int64)).toInt32)), (.int (0 : Int32)), (.int (0 : Int32)), (.int (0 : Int32)), (.int (0 : Int32))] := Vr16
  show Wq _ _ _ _ _ (T16.setTop (mkF m 162 #[.val (.ref afill_1), .val (.long yfill_2), .second] []))
  refine Ow.aloadN X16 hx (pc' := 163) (hb hby d_method_4_162) rfl rfl ?_
  refine Ow.bipush X16 hx (pc' := 165) (hb hby d_method_4_163) (z := (16 : Int32)) rfl ?_
  refine Ow.lloadN X16 hx (pc' := 166) (hb hby d_method_4_165) rfl ?_
  refine Ow.bipush X16 hx (pc' := 168) (hb hby d_method_4_166) (z := (16 : Int32)) rfl ?_
  refine Ow.lushr X16 hx (pc' := 169) (hb hby d_method_4_168) (z := ((yfill_2.toUInt64 >>> ((16 : Int32) &&& 0x3f).toInt64.toUInt64).toInt64)) rfl ?_
  refine Ow.lconst X16 hx (pc' := 170) (hb hby d_method_4_169) (z := (1 : Int64)) rfl ?_
  refine Ow.land X16 hx (pc' := 171) (hb hby d_method_4_170) (z := (((yfill_2.toUInt64 >>> ((16 : Int32) &&& 0x3f).toInt64.toUInt64).toInt64) &&& (1 : Int64))) rfl ?_
  refine Ow.l2i X16 hx (pc' := 172) (hb hby d_method_4_171) (z := ((((yfill_2.toUInt64 >>> ((16 : Int32) &&& 0x3f).toInt64.toUInt64).toInt64) &&& (1 : Int64)).toInt32)) rfl ?_
  obtain ⟨T17, h17, X17, e17, W17, Vr17, st17⟩ := asI X16 hx hZ e16 V_afill_1_t16 (j := (16 : Int32)) (i := 16) (by decide) rfl (Nat.le_of_ble_eq_true rfl) (g := (mkF m 172 #[.val (.ref afill_1), .val (.long yfill_2), .second] [(.int ((((yfill_2.toUInt64 >>> ((16 : Int32) &&& 0x3f).toInt64.toUInt64).toInt64) &&& (1 : Int64)).toInt32)), (.int (16 : Int32)), (.ref afill_1)])) rfl rfl (hb hby d_method_4_172)
  refine Wq.step st17 ?_
  have N17 := Fr.snoc X17 N16 g_afill_1
  have K17 : Keep h0 h17 [afill_1] := K16.wr W17 (Or.inl (List.mem_of_getElem? (i := 0) rfl))
  have Z17 : n0 ≤ h17.size := Nat.le_trans Z16 (Keep.of_wr W17).1
  have V_afill_1_t17 : Al Z h17 afill_1 .int [(.int ((yfill_2 &&& (1 : Int64)).toInt32)), (.int ((((yfill_2.toUInt64 >>> ((1 : Int32) &&& 0x3f).toInt64.toUInt64).toInt64) &&& (1 : Int64)).toInt32)), (.int ((((yfill_2.toUInt64 >>> ((2 : Int32) &&& 0x3f).toInt64.toUInt64).toInt64) &&& (1 : Int64)).toInt32)), (.int ((((yfill_2.toUInt64 >>> ((3 : Int32) &&& 0x3f).toInt64.toUInt64).toInt64) &&& (1 : Int64)).toInt32)), (.int ((((yfill_2.toUInt64 >>> ((4 : Int32) &&& 0x3f).toInt64.toUInt64).toInt64) &&& (1 : Int64)).toInt32)), (.int ((((yfill_2.toUInt64 >>> ((5 : Int32) &&& 0x3f).toInt64.toUInt64).toInt64) &&& (1 : Int64)).toInt32)), (.int ((((yfill_2.toUInt64 >>> ((6 : Int32) &&& 0x3f).toInt64.toUInt64).toInt64) &&& (1 : Int64)).toInt32)), (.int ((((yfill_2.toUInt64 >>> ((7 : Int32) &&& 0x3f).toInt64.toUInt64).toInt64) &&& (1 : Int64)).toInt32)), (.int ((((yfill_2.toUInt64 >>> ((8 : Int32) &&& 0x3f).toInt64.toUInt64).toInt64) &&& (1 : Int64)).toInt32)), (.int ((((yfill_2.toUInt64 >>> ((9 : Int32) &&& 0x3f).toInt64.toUInt64).toInt64) &&& (1 : Int64)).toInt32)), (.int ((((yfill_2.toUInt64 >>> ((10 : Int32) &&& 0x3f).toInt64.toUInt64).toInt64) &&& (1 : Int64)).toInt32)), (.int ((((yfill_2.toUInt64 >>> ((11 : Int32) &&& 0x3f).toInt64.toUInt64).toInt64) &&& (1 : Int64)).toInt32)), (.int ((((yfill_2.toUInt64 >>> ((12 : Int32) &&& 0x3f).toInt64.toUInt64).toInt64) &&& (1 : Int64)).toInt32)), (.int ((((yfill_2.toUInt64 >>> ((13 : Int32) &&& 0x3f).toInt64.toUInt64).toInt64) &&& (1 : Int64)).toInt32)), (.int ((((yfill_2.toUInt64 >>> ((14 : Int32) &&& 0x3f).toInt64.toUInt64).toInt64) &&& (1 : Int64)).toInt32)), (.int ((((yfill_2.toUInt64 >>> ((15 : Int32) &&& 0x3f).toInt64.toUInt64).toInt64) &&& (1 : Int64)).toInt32)), (.int ((((yfill_2.toUInt64 >>> ((16 : Int32) &&& 0x3f).toInt64.toUInt64).toInt64) &&& (1 : Int64)).toInt32)), (.int (0 : Int32)), (.int (0 : Int32)), (.int (0 : Int32))] := Vr17
  show Wq _ _ _ _ _ (T17.setTop (mkF m 173 #[.val (.ref afill_1), .val (.long yfill_2), .second] []))
  refine Ow.aloadN X17 hx (pc' := 174) (hb hby d_method_4_173) rfl rfl ?_
  refine Ow.bipush X17 hx (pc' := 176) (hb hby d_method_4_174) (z := (17 : Int32)) rfl ?_
  refine Ow.lloadN X17 hx (pc' := 177) (hb hby d_method_4_176) rfl ?_
  refine Ow.bipush X17 hx (pc' := 179) (hb hby d_method_4_177) (z := (17 : Int32)) rfl ?_
  refine Ow.lushr X17 hx (pc' := 180) (hb hby d_method_4_179) (z := ((yfill_2.toUInt64 >>> ((17 : Int32) &&& 0x3f).toInt64.toUInt64).toInt64)) rfl ?_
  refine Ow.lconst X17 hx (pc' := 181) (hb hby d_method_4_180) (z := (1 : Int64)) rfl ?_
  refine Ow.land X17 hx (pc' := 182) (hb hby d_method_4_181) (z := (((yfill_2.toUInt64 >>> ((17 : Int32) &&& 0x3f).toInt64.toUInt64).toInt64) &&& (1 : Int64))) rfl ?_
  refine Ow.l2i X17 hx (pc' := 183) (hb hby d_method_4_182) (z := ((((yfill_2.toUInt64 >>> ((17 : Int32) &&& 0x3f).toInt64.toUInt64).toInt64) &&& (1 : Int64)).toInt32)) rfl ?_
  obtain ⟨T18, h18, X18, e18, W18, Vr18, st18⟩ := asI X17 hx hZ e17 V_afill_1_t17 (j := (17 : Int32)) (i := 17) (by decide) rfl (Nat.le_of_ble_eq_true rfl) (g := (mkF m 183 #[.val (.ref afill_1), .val (.long yfill_2), .second] [(.int ((((yfill_2.toUInt64 >>> ((17 : Int32) &&& 0x3f).toInt64.toUInt64).toInt64) &&& (1 : Int64)).toInt32)), (.int (17 : Int32)), (.ref afill_1)])) rfl rfl (hb hby d_method_4_183)
  refine Wq.step st18 ?_
  have N18 := Fr.snoc X18 N17 g_afill_1
  have K18 : Keep h0 h18 [afill_1] := K17.wr W18 (Or.inl (List.mem_of_getElem? (i := 0) rfl))
  have Z18 : n0 ≤ h18.size := Nat.le_trans Z17 (Keep.of_wr W18).1
  have V_afill_1_t18 : Al Z h18 afill_1 .int [(.int ((yfill_2 &&& (1 : Int64)).toInt32)), (.int ((((yfill_2.toUInt64 >>> ((1 : Int32) &&& 0x3f).toInt64.toUInt64).toInt64) &&& (1 : Int64)).toInt32)), (.int ((((yfill_2.toUInt64 >>> ((2 : Int32) &&& 0x3f).toInt64.toUInt64).toInt64) &&& (1 : Int64)).toInt32)), (.int ((((yfill_2.toUInt64 >>> ((3 : Int32) &&& 0x3f).toInt64.toUInt64).toInt64) &&& (1 : Int64)).toInt32)), (.int ((((yfill_2.toUInt64 >>> ((4 : Int32) &&& 0x3f).toInt64.toUInt64).toInt64) &&& (1 : Int64)).toInt32)), (.int ((((yfill_2.toUInt64 >>> ((5 : Int32) &&& 0x3f).toInt64.toUInt64).toInt64) &&& (1 : Int64)).toInt32)), (.int ((((yfill_2.toUInt64 >>> ((6 : Int32) &&& 0x3f).toInt64.toUInt64).toInt64) &&& (1 : Int64)).toInt32)), (.int ((((yfill_2.toUInt64 >>> ((7 : Int32) &&& 0x3f).toInt64.toUInt64).toInt64) &&& (1 : Int64)).toInt32)), (.int ((((yfill_2.toUInt64 >>> ((8 : Int32) &&& 0x3f).toInt64.toUInt64).toInt64) &&& (1 : Int64)).toInt32)), (.int ((((yfill_2.toUInt64 >>> ((9 : Int32) &&& 0x3f).toInt64.toUInt64).toInt64) &&& (1 : Int64)).toInt32)), (.int ((((yfill_2.toUInt64 >>> ((10 : Int32) &&& 0x3f).toInt64.toUInt64).toInt64) &&& (1 : Int64)).toInt32)), (.int ((((yfill_2.toUInt64 >>> ((11 : Int32) &&& 0x3f).toInt64.toUInt64).toInt64) &&& (1 : Int64)).toInt32)), (.int ((((yfill_2.toUInt64 >>> ((12 : Int32) &&& 0x3f).toInt64.toUInt64).toInt64) &&& (1 : Int64)).toInt32)), (.int ((((yfill_2.toUInt64 >>> ((13 : Int32) &&& 0x3f).toInt64.toUInt64).toInt64) &&& (1 : Int64)).toInt32)), (.int ((((yfill_2.toUInt64 >>> ((14 : Int32) &&& 0x3f).toInt64.toUInt64).toInt64) &&& (1 : Int64)).toInt32)), (.int ((((yfill_2.toUInt64 >>> ((15 : Int32) &&& 0x3f).toInt64.toUInt64).toInt64) &&& (1 : Int64)).toInt32)), (.int ((((yfill_2.toUInt64 >>> ((16 : Int32) &&& 0x3f).toInt64.toUInt64).toInt64) &&& (1 : Int64)).toInt32)), (.int ((((yfill_2.toUInt64 >>> ((17 : Int32) &&& 0x3f).toInt64.toUInt64).toInt64) &&& (1 : Int64)).toInt32)), (.int (0 : Int32)), (.int (0 : Int32))] := Vr18
  show Wq _ _ _ _ _ (T18.setTop (mkF m 184 #[.val (.ref afill_1), .val (.long yfill_2), .second] []))
  refine Ow.aloadN X18 hx (pc' := 185) (hb hby d_method_4_184) rfl rfl ?_
  refine Ow.bipush X18 hx (pc' := 187) (hb hby d_method_4_185) (z := (18 : Int32)) rfl ?_
  refine Ow.lloadN X18 hx (pc' := 188) (hb hby d_method_4_187) rfl ?_
  refine Ow.bipush X18 hx (pc' := 190) (hb hby d_method_4_188) (z := (18 : Int32)) rfl ?_
  refine Ow.lushr X18 hx (pc' := 191) (hb hby d_method_4_190) (z := ((yfill_2.toUInt64 >>> ((18 : Int32) &&& 0x3f).toInt64.toUInt64).toInt64)) rfl ?_
  refine Ow.lconst X18 hx (pc' := 192) (hb hby d_method_4_191) (z := (1 : Int64)) rfl ?_
  refine Ow.land X18 hx (pc' := 193) (hb hby d_method_4_192) (z := (((yfill_2.toUInt64 >>> ((18 : Int32) &&& 0x3f).toInt64.toUInt64).toInt64) &&& (1 : Int64))) rfl ?_
  refine Ow.l2i X18 hx (pc' := 194) (hb hby d_method_4_193) (z := ((((yfill_2.toUInt64 >>> ((18 : Int32) &&& 0x3f).toInt64.toUInt64).toInt64) &&& (1 : Int64)).toInt32)) rfl ?_
  obtain ⟨T19, h19, X19, e19, W19, Vr19, st19⟩ := asI X18 hx hZ e18 V_afill_1_t18 (j := (18 : Int32)) (i := 18) (by decide) rfl (Nat.le_of_ble_eq_true rfl) (g := (mkF m 194 #[.val (.ref afill_1), .val (.long yfill_2), .second] [(.int ((((yfill_2.toUInt64 >>> ((18 : Int32) &&& 0x3f).toInt64.toUInt64).toInt64) &&& (1 : Int64)).toInt32)), (.int (18 : Int32)), (.ref afill_1)])) rfl rfl (hb hby d_method_4_194)
  refine Wq.step st19 ?_
  have N19 := Fr.snoc X19 N18 g_afill_1
  have K19 : Keep h0 h19 [afill_1] := K18.wr W19 (Or.inl (List.mem_of_getElem? (i := 0) rfl))
  have Z19 : n0 ≤ h19.size := Nat.le_trans Z18 (Keep.of_wr W19).1
  have V_afill_1_t19 : Al Z h19 afill_1 .int [(.int ((yfill_2 &&& (1 : Int64)).toInt32)), (.int ((((yfill_2.toUInt64 >>> ((1 : Int32) &&& 0x3f).toInt64.toUInt64).toInt64) &&& (1 : Int64)).toInt32)), (.int ((((yfill_2.toUInt64 >>> ((2 : Int32) &&& 0x3f).toInt64.toUInt64).toInt64) &&& (1 : Int64)).toInt32)), (.int ((((yfill_2.toUInt64 >>> ((3 : Int32) &&& 0x3f).toInt64.toUInt64).toInt64) &&& (1 : Int64)).toInt32)), (.int ((((yfill_2.toUInt64 >>> ((4 : Int32) &&& 0x3f).toInt64.toUInt64).toInt64) &&& (1 : Int64)).toInt32)), (.int ((((yfill_2.toUInt64 >>> ((5 : Int32) &&& 0x3f).toInt64.toUInt64).toInt64) &&& (1 : Int64)).toInt32)), (.int ((((yfill_2.toUInt64 >>> ((6 : Int32) &&& 0x3f).toInt64.toUInt64).toInt64) &&& (1 : Int64)).toInt32)), (.int ((((yfill_2.toUInt64 >>> ((7 : Int32) &&& 0x3f).toInt64.toUInt64).toInt64) &&& (1 : Int64)).toInt32)), (.int ((((yfill_2.toUInt64 >>> ((8 : Int32) &&& 0x3f).toInt64.toUInt64).toInt64) &&& (1 : Int64)).toInt32)), (.int ((((yfill_2.toUInt64 >>> ((9 : Int32) &&& 0x3f).toInt64.toUInt64).toInt64) &&& (1 : Int64)).toInt32)), (.int ((((yfill_2.toUInt64 >>> ((10 : Int32) &&& 0x3f).toInt64.toUInt64).toInt64) &&& (1 : Int64)).toInt32)), (.int ((((yfill_2.toUInt64 >>> ((11 : Int32) &&& 0x3f).toInt64.toUInt64).toInt64) &&& (1 : Int64)).toInt32)), (.int ((((yfill_2.toUInt64 >>> ((12 : Int32) &&& 0x3f).toInt64.toUInt64).toInt64) &&& (1 : Int64)).toInt32)), (.int ((((yfill_2.toUInt64 >>> ((13 : Int32) &&& 0x3f).toInt64.toUInt64).toInt64) &&& (1 : Int64)).toInt32)), (.int ((((yfill_2.toUInt64 >>> ((14 : Int32) &&& 0x3f).toInt64.toUInt64).toInt64) &&& (1 : Int64)).toInt32)), (.int ((((yfill_2.toUInt64 >>> ((15 : Int32) &&& 0x3f).toInt64.toUInt64).toInt64) &&& (1 : Int64)).toInt32)), (.int ((((yfill_2.toUInt64 >>> ((16 : Int32) &&& 0x3f).toInt64.toUInt64).toInt64) &&& (1 : Int64)).toInt32)), (.int ((((yfill_2.toUInt64 >>> ((17 : Int32) &&& 0x3f).toInt64.toUInt64).toInt64) &&& (1 : Int64)).toInt32)), (.int ((((yfill_2.toUInt64 >>> ((18 : Int32) &&& 0x3f).toInt64.toUInt64).toInt64) &&& (1 : Int64)).toInt32)), (.int (0 : Int32))] := Vr19
  show Wq _ _ _ _ _ (T19.setTop (mkF m 195 #[.val (.ref afill_1), .val (.long yfill_2), .second] []))
  refine Ow.aloadN X19 hx (pc' := 196) (hb hby d_method_4_195) rfl rfl ?_
  refine Ow.bipush X19 hx (pc' := 198) (hb hby d_method_4_196) (z := (19 : Int32)) rfl ?_
  refine Ow.lloadN X19 hx (pc' := 199) (hb hby d_method_4_198) rfl ?_
  refine Ow.bipush X19 hx (pc' := 201) (hb hby d_method_4_199) (z := (19 : Int32)) rfl ?_
  refine Ow.lushr X19 hx (pc' := 202) (hb hby d_method_4_201) (z := ((yfill_2.toUInt64 >>> ((19 : Int32) &&& 0x3f).toInt64.toUInt64).toInt64)) rfl ?_
  refine Ow.lconst X19 hx (pc' := 203) (hb hby d_method_4_202) (z := (1 : Int64)) rfl ?_
  refine Ow.land X19 hx (pc' := 204) (hb hby d_method_4_203) (z := (((yfill_2.toUInt64 >>> ((19 : Int32) &&& 0x3f).toInt64.toUInt64).toInt64) &&& (1 : Int64))) rfl ?_
  refine Ow.l2i X19 hx (pc' := 205) (hb hby d_method_4_204) (z := ((((yfill_2.toUInt64 >>> ((19 : Int32) &&& 0x3f).toInt64.toUInt64).toInt64) &&& (1 : Int64)).toInt32)) rfl ?_
  obtain ⟨T20, h20, X20, e20, W20, Vr20, st20⟩ := asI X19 hx hZ e19 V_afill_1_t19 (j := (19 : Int32)) (i := 19) (by decide) rfl (Nat.le_of_ble_eq_true rfl) (g := (mkF m 205 #[.val (.ref afill_1), .val (.long yfill_2), .second] [(.int ((((yfill_2.toUInt64 >>> ((19 : Int32) &&& 0x3f).toInt64.toUInt64).toInt64) &&& (1 : Int64)).toInt32)), (.int (19 : Int32)), (.ref afill_1)])) rfl rfl (hb hby d_method_4_205)
  refine Wq.step st20 ?_
  have N20 := Fr.snoc X20 N19 g_afill_1
  have K20 : Keep h0 h20 [afill_1] := K19.wr W20 (Or.inl (List.mem_of_getElem? (i := 0) rfl))
  have Z20 : n0 ≤ h20.size := Nat.le_trans Z19 (Keep.of_wr W20).1
  have V_afill_1_t20 : Al Z h20 afill_1 .int [(.int ((yfill_2 &&& (1 : Int64)).toInt32)), (.int ((((yfill_2.toUInt64 >>> ((1 : Int32) &&& 0x3f).toInt64.toUInt64).toInt64) &&& (1 : Int64)).toInt32)), (.int ((((yfill_2.toUInt64 >>> ((2 : Int32) &&& 0x3f).toInt64.toUInt64).toInt64) &&& (1 : Int64)).toInt32)), (.int ((((yfill_2.toUInt64 >>> ((3 : Int32) &&& 0x3f).toInt64.toUInt64).toInt64) &&& (1 : Int64)).toInt32)), (.int ((((yfill_2.toUInt64 >>> ((4 : Int32) &&& 0x3f).toInt64.toUInt64).toInt64) &&& (1 : Int64)).toInt32)), (.int ((((yfill_2.toUInt64 >>> ((5 : Int32) &&& 0x3f).toInt64.toUInt64).toInt64) &&& (1 : Int64)).toInt32)), (.int ((((yfill_2.toUInt64 >>> ((6 : Int32) &&& 0x3f).toInt64.toUInt64).toInt64) &&& (1 : Int64)).toInt32)), (.int ((((yfill_2.toUInt64 >>> ((7 : Int32) &&& 0x3f).toInt64.toUInt64).toInt64) &&& (1 : Int64)).toInt32)), (.int ((((yfill_2.toUInt64 >>> ((8 : Int32) &&& 0x3f).toInt64.toUInt64).toInt64) &&& (1 : Int64)).toInt32)), (.int ((((yfill_2.toUInt64 >>> ((9 : Int32) &&& 0x3f).toInt64.toUInt64).toInt64) &&& (1 : Int64)).toInt32)), (.int ((((yfill_2.toUInt64 >>> ((10 : Int32) &&& 0x3f).toInt64.toUInt64).toInt64) &&& (1 : Int64)).toInt32)), (.int ((((yfill_2.toUInt64 >>> ((11 : Int32) &&& 0x3f).toInt64.toUInt64).toInt64) &&& (1 : Int64)).toInt32)), (.int ((((yfill_2.toUInt64 >>> ((12 : Int32) &&& 0x3f).toInt64.toUInt64).toInt64) &&& (1 : Int64)).toInt32)), (.int ((((yfill_2.toUInt64 >>> ((13 : Int32) &&& 0x3f).toInt64.toUInt64).toInt64) &&& (1 : Int64)).toInt32)), (.int ((((yfill_2.toUInt64 >>> ((14 : Int32) &&& 0x3f).toInt64.toUInt64).toInt64) &&& (1 : Int64)).toInt32)), (.int ((((yfill_2.toUInt64 >>> ((15 : Int32) &&& 0x3f).toInt64.toUInt64).toInt64) &&& (1 : Int64)).toInt32)), (.int ((((yfill_2.toUInt64 >>> ((16 : Int32) &&& 0x3f).toInt64.toUInt64).toInt64) &&& (1 : Int64)).toInt32)), (.int ((((yfill_2.toUInt64 >>> ((17 : Int32) &&& 0x3f).toInt64.toUInt64).toInt64) &&& (1 : Int64)).toInt32)), (.int ((((yfill_2.toUInt64 >>> ((18 : Int32) &&& 0x3f).toInt64.toUInt64).toInt64) &&& (1 : Int64)).toInt32)), (.int ((((yfill_2.toUInt64 >>> ((19 : Int32) &&& 0x3f).toInt64.toUInt64).toInt64) &&& (1 : Int64)).toInt32))] := Vr20
  show Wq _ _ _ _ _ (T20.setTop (mkF m 206 #[.val (.ref afill_1), .val (.long yfill_2), .second] []))
  exact Wq.ret X20 (BodyLoose.notSynchronized Bd) (rv := none) (fun _ => rfl) (fun _ hr => X20.returnOut hx Bd.returns (hb hby d_method_4_206) hr) (by decide) (by decide) (by rw [e20]; exact ⟨rfl, N20, K20, V_afill_1_t20⟩)
theorem d_method_3_0 : decode method_3_code 0 = .ok (.iload_n 1, 1) := by decide +kernel
theorem d_method_3_1 : decode method_3_code 1 = .ok (.iload_n 2, 1) := by decide +kernel
theorem d_method_3_2 : decode method_3_code 2 = .ok (.if_icmp .lt 40, 3) := by decide +kernel
theorem d_method_3_5 : decode method_3_code 5 = .ok (.iload_n 1, 1) := by decide +kernel
theorem d_method_3_6 : decode method_3_code 6 = .ok (.iload_n 2, 1) := by decide +kernel
theorem d_method_3_7 : decode method_3_code 7 = .ok (.iload_n 3, 1) := by decide +kernel
theorem d_method_3_8 : decode method_3_code 8 = .ok (.iadd, 1) := by decide +kernel
theorem d_method_3_9 : decode method_3_code 9 = .ok (.if_icmp .ge 33, 3) := by decide +kernel
theorem d_method_3_12 : decode method_3_code 12 = .ok (.iload 7, 2) := by decide +kernel
theorem d_method_3_14 : decode method_3_code 14 = .ok (.ifCond .ne 5, 3) := by decide +kernel
theorem d_method_3_17 : decode method_3_code 17 = .ok (.iconst 1, 1) := by decide +kernel
theorem d_method_3_19 : decode method_3_code 19 = .ok (.aload_n 0, 1) := by decide +kernel
theorem d_method_3_20 : decode method_3_code 20 = .ok (.iload_n 1, 1) := by decide +kernel
theorem d_method_3_21 : decode method_3_code 21 = .ok (.baload, 1) := by decide +kernel
theorem d_method_3_22 : decode method_3_code 22 = .ok (.lload 4, 2) := by decide +kernel
theorem d_method_3_24 : decode method_3_code 24 = .ok (.bipush 8, 2) := by decide +kernel
theorem d_method_3_26 : decode method_3_code 26 = .ok (.iload_n 1, 1) := by decide +kernel
theorem d_method_3_27 : decode method_3_code 27 = .ok (.iload_n 2, 1) := by decide +kernel
theorem d_method_3_28 : decode method_3_code 28 = .ok (.isub, 1) := by decide +kernel
theorem d_method_3_29 : decode method_3_code 29 = .ok (.imul, 1) := by decide +kernel
theorem d_method_3_30 : decode method_3_code 30 = .ok (.lushr, 1) := by decide +kernel
theorem d_method_3_31 : decode method_3_code 31 = .ok (.l2i, 1) := by decide +kernel
theorem d_method_3_32 : decode method_3_code 32 = .ok (.i2b, 1) := by decide +kernel
theorem d_method_3_33 : decode method_3_code 33 = .ok (.if_icmp .ne 7, 3) := by decide +kernel
theorem d_method_3_36 : decode method_3_code 36 = .ok (.iconst 1, 1) := by decide +kernel
theorem d_method_3_37 : decode method_3_code 37 = .ok (.goto 4, 3) := by decide +kernel
theorem d_method_3_40 : decode method_3_code 40 = .ok (.iconst 0, 1) := by decide +kernel
theorem d_method_3_42 : decode method_3_code 42 = .ok (.aload_n 0, 1) := by decide +kernel
theorem d_method_3_43 : decode method_3_code 43 = .ok (.iload_n 1, 1) := by decide +kernel
theorem d_method_3_44 : decode method_3_code 44 = .ok (.baload, 1) := by decide +kernel
theorem d_method_3_45 : decode method_3_code 45 = .ok (.iload 6, 2) := by decide +kernel
theorem d_method_3_47 : decode method_3_code 47 = .ok (.if_icmp .ne 7, 3) := by decide +kernel
theorem d_method_3_50 : decode method_3_code 50 = .ok (.iconst 1, 1) := by decide +kernel
theorem d_method_3_51 : decode method_3_code 51 = .ok (.goto 4, 3) := by decide +kernel
theorem d_method_3_54 : decode method_3_code 54 = .ok (.iconst 0, 1) := by decide +kernel
theorem ef_at (m : MethodId) (aat_1 : Addr) (xat_2 : Int32) (xat_3 : Int32) (xat_4 : Int32) (yat_5 : Int64) (xat_6 : Int32) (xat_7 : Int32) : entryFrame m #[(.ref aat_1), (.int xat_2), (.int xat_3), (.int xat_4), (.long yat_5), (.int xat_6), (.int xat_7)] 8 = mkF m 0 #[.val (.ref aat_1), .val (.int xat_2), .val (.int xat_3), .val (.int xat_4), .val (.long yat_5), .second, .val (.int xat_6), .val (.int xat_7)] [] := by first | (simp [entryFrame, mkF, argsToLocals, Value.category]; done) | rfl
def f_at (xat_2 : Int32) (xat_3 : Int32) (xat_4 : Int32) (yat_5 : Int64) (xat_6 : Int32) (xat_7 : Int32) (wA : Int32) : Int32 := (if xat_2 < xat_3 then ((if wA = xat_6 then (1 : Int32) else (0 : Int32)) &&& 1) else (if xat_2 < (xat_3 + xat_4) then (if xat_7 = (0 : Int32) then (1 : Int32) else ((if wA = ((((yat_5.toUInt64 >>> (((8 : Int32) * (xat_2 - xat_3)) &&& 0x3f).toInt64.toUInt64).toInt64).toInt32).toInt8.toInt32) then (1 : Int32) else (0 : Int32)) &&& 1)) else ((if wA = xat_6 then (1 : Int32) else (0 : Int32)) &&& 1)))
def Q_at (Z : State) (aat_1 : Addr) (xat_2 : Int32) (xat_3 : Int32) (xat_4 : Int32) (yat_5 : Int64) (xat_6 : Int32) (xat_7 : Int32) (vsA : List Value) (wA : Int32) (h0 : Heap) (n0 : Nat) (v : Option Value) (h : Heap) (L : List Loc) : Prop := v = some (.int (f_at xat_2 xat_3 xat_4 yat_5 xat_6 xat_7 wA)) ∧ Fr n0 L ∧ h = h0
theorem d_method_3_55 : decode method_3_code 55 = .ok (.ireturn, 1) := by decide +kernel
theorem d_method_3_18 : decode method_3_code 18 = .ok (.ireturn, 1) := by decide +kernel
theorem d_method_3_41 : decode method_3_code 41 = .ok (.ireturn, 1) := by decide +kernel
abbrev mt2 : MethodName := ⟨"com/example/tightbit/tightbit/ByteArrayWriterPackOneBitPinLaw", "at", "([BIIIJBZ)Z"⟩
set_option maxRecDepth 65536 in
set_option maxHeartbeats 40000000 in
theorem rm_at (l : Launch) (Z : State) (a0 : Array Value) (hw : ∀ d ∈ tables_1, d.before a0 Z = true) (ws : List Jvm.Cond) (aat_1 : Addr) (xat_2 : Int32) (xat_3 : Int32) (xat_4 : Int32) (yat_5 : Int64) (xat_6 : Int32) (xat_7 : Int32) (vsA : List Value) (wA : Int32) (h0 : Heap) (n0 : Nat) (Z0 : n0 ≤ h0.size) (hj : ¬ xat_2 < 0) (hv : vsA[xat_2.toNatClampNeg]? = some (.int wA)) (V_aat_1 : Al Z h0 aat_1 .byte vsA) :
    MetFree l mt2 (head1 (Jvm.Cond.code mt2 method_3_code 8 (some .boolean) :: ws) ({ frames := 0, cells := 0, slots := 0, locals := 0 } : Room)) (fun a U => a = #[(.ref aat_1), (.int xat_2), (.int xat_3), (.int xat_4), (.long yat_5), (.int xat_6), (.int xat_7)] ∧ Z.Warmed39 U.vm ∧ U.heap = h0) (fun _ _ _ _ _ => True) (fun _ U o U' => ∃ v L, o = .returned v ∧ (Q_at Z aat_1 xat_2 xat_3 xat_4 yat_5 xat_6 xat_7 vsA wA h0 n0) v U'.heap L ∧ FrameEnd U o U' L ({ frames := 0, cells := 0, slots := 0, locals := 0 } : Room).cells ({ frames := 0, cells := 0, slots := 0, locals := 0 } : Room).slots) := by
  refine MetFree.of_bodySF (plainFor_of_name pn1) hisR ?_
  intro p e s m args below meth c s₁ Bd hml0 hP hK
  obtain ⟨rfl, hZ, hh⟩ := hP
  have hx := Bd.exec
  have hby := Bd.bytes
  have hml : c.maxLocals = 8 := hml0
  have hown : s.vm.findClass "com/example/tightbit/tightbit/ByteArrayWriterPackOneBitPinLaw" = some m.cls := findClass_of_methodNamed Bd.named
  have hnm := (name_of_methodNamed Bd.named Bd.method).1
  have X0 : Stand p l e ({ frames := 0, cells := 0, slots := 0, locals := 0 } : Room) s m #[(.ref aat_1), (.int xat_2), (.int xat_3), (.int xat_4), (.long yat_5), (.int xat_6), (.int xat_7)] below meth c s₁ [] 0 0 := Stand.of_body Bd
  have e0 : s₁.heap = h0 := by rw [← hh, Bd.state]; rfl
  have N0 := Fr.nil n0
  refine Wq.step (p := p) (e := e) (below := below) (En := (fun o t L => FrameEnd s o t L ({ frames := 0, cells := 0, slots := 0, locals := 0 } : Room).cells ({ frames := 0, cells := 0, slots := 0, locals := 0 } : Room).slots)) (Q := (Q_at Z aat_1 xat_2 xat_3 xat_4 yat_5 xat_6 xat_7 vsA wA h0 n0)) (fun t k => castTop (ef_at m aat_1 xat_2 xat_3 xat_4 yat_5 xat_6 xat_7) k) ?_
  show Wq _ _ _ _ _ (s₁.setTop (mkF m 0 #[.val (.ref aat_1), .val (.int xat_2), .val (.int xat_3), .val (.int xat_4), .val (.long yat_5), .second, .val (.int xat_6), .val (.int xat_7)] []))
  refine Ow.iloadN X0 hx (pc' := 1) (hb hby d_method_3_0) rfl ?_
  refine Ow.iloadN X0 hx (pc' := 2) (hb hby d_method_3_1) rfl ?_
  by_cases hc2 : xat_2 < xat_3
  · skip
    refine Ow.icmpYes X0 hx (pc' := 42) (hb hby d_method_3_2) (tlt hc2).1 (by decide) (by decide) ?_
    refine Ow.aloadN X0 hx (pc' := 43) (hb hby d_method_3_42) rfl rfl ?_
    refine Ow.iloadN X0 hx (pc' := 44) (hb hby d_method_3_43) rfl ?_
    refine Ow.ldB X0 hx hZ e0 V_aat_1 (pc' := 45) (hb hby d_method_3_44) (j := xat_2) (i := xat_2.toNatClampNeg) (v := (.int wA)) (hj) (rfl) (hv) ?_
    refine Ow.iload X0 hx (pc' := 47) (hb hby d_method_3_45) rfl ?_
    refine Wq.by (U' := s₁.setTop (mkF m 55 #[.val (.ref aat_1), .val (.int xat_2), .val (.int xat_3), .val (.int xat_4), .val (.long yat_5), .second, .val (.int xat_6), .val (.int xat_7)] [(.int (if wA = xat_6 then (1 : Int32) else (0 : Int32)))])) (fun k => ?_) ?_
    · skip
      by_cases hm47 : wA = xat_6
      · skip
        refine Ow.icmpNo X0 hx (pc' := 50) (hb hby d_method_3_47) (teq hm47).2 ?_
        refine Ow.iconst X0 hx (pc' := 51) (hb hby d_method_3_50) (z := (1 : Int32)) rfl ?_
        refine Ow.goto X0 hx (pc' := 55) (hb hby d_method_3_51) (by decide) (by decide) ?_
        simp only [if_pos hm47] at k
        exact k
      · skip
        refine Ow.icmpYes X0 hx (pc' := 54) (hb hby d_method_3_47) (feq hm47).2 (by decide) (by decide) ?_
        refine Ow.iconst X0 hx (pc' := 55) (hb hby d_method_3_54) (z := (0 : Int32)) rfl ?_
        simp only [if_neg hm47] at k
        exact k
    exact Wq.ret X0 (BodyLoose.notSynchronized Bd) (rv := some (.int ((if wA = xat_6 then (1 : Int32) else (0 : Int32)) &&& 1))) (fun h => by rw [Bd.returns] at h; cases h) (fun _ hr => retN X0 hx (t := .boolean) Bd.returns (by simp) (hb hby d_method_3_55) hr) (by decide) (by decide) ⟨by simp only [f_at, if_pos hc2], N0, e0⟩
  · skip
    refine Ow.icmpNo X0 hx (pc' := 5) (hb hby d_method_3_2) (flt hc2).1 ?_
    refine Ow.iloadN X0 hx (pc' := 6) (hb hby d_method_3_5) rfl ?_
    refine Ow.iloadN X0 hx (pc' := 7) (hb hby d_method_3_6) rfl ?_
    refine Ow.iloadN X0 hx (pc' := 8) (hb hby d_method_3_7) rfl ?_
    refine Ow.iadd X0 hx (pc' := 9) (hb hby d_method_3_8) (z := (xat_3 + xat_4)) rfl ?_
    by_cases hc9 : xat_2 < (xat_3 + xat_4)
    · skip
      refine Ow.icmpNo X0 hx (pc' := 12) (hb hby d_method_3_9) (tlt hc9).2.1 ?_
      refine Ow.iload X0 hx (pc' := 14) (hb hby d_method_3_12) rfl ?_
      by_cases hc14 : xat_7 = (0 : Int32)
      · skip
        refine Ow.ifNo X0 hx (pc' := 17) (hb hby d_method_3_14) ((if0 _ _).trans (teq hc14).2) ?_
        refine Ow.iconst X0 hx (pc' := 18) (hb hby d_method_3_17) (z := (1 : Int32)) rfl ?_
        exact Wq.ret X0 (BodyLoose.notSynchronized Bd) (rv := some (.int (1 : Int32))) (fun h => by rw [Bd.returns] at h; cases h) (fun _ hr => retN X0 hx (t := .boolean) Bd.returns (by simp) (hb hby d_method_3_18) hr) (by decide) (by decide) ⟨by simp only [f_at, if_neg hc2, if_pos hc9, if_pos hc14], N0, e0⟩
      · skip
        refine Ow.ifYes X0 hx (pc' := 19) (hb hby d_method_3_14) ((if0 _ _).trans (feq hc14).2) (by decide) (by decide) ?_
        refine Ow.aloadN X0 hx (pc' := 20) (hb hby d_method_3_19) rfl rfl ?_
        refine Ow.iloadN X0 hx (pc' := 21) (hb hby d_method_3_20) rfl ?_
        refine Ow.ldB X0 hx hZ e0 V_aat_1 (pc' := 22) (hb hby d_method_3_21) (j := xat_2) (i := xat_2.toNatClampNeg) (v := (.int wA)) (hj) (rfl) (hv) ?_
        refine Ow.lload X0 hx (pc' := 24) (hb hby d_method_3_22) rfl ?_
        refine Ow.bipush X0 hx (pc' := 26) (hb hby d_method_3_24) (z := (8 : Int32)) rfl ?_
        refine Ow.iloadN X0 hx (pc' := 27) (hb hby d_method_3_26) rfl ?_
        refine Ow.iloadN X0 hx (pc' := 28) (hb hby d_method_3_27) rfl ?_
        refine Ow.isub X0 hx (pc' := 29) (hb hby d_method_3_28) (z := (xat_2 - xat_3)) rfl ?_
        refine Ow.imul X0 hx (pc' := 30) (hb hby d_method_3_29) (z := ((8 : Int32) * (xat_2 - xat_3))) rfl ?_
        refine Ow.lushr X0 hx (pc' := 31) (hb hby d_method_3_30) (z := ((yat_5.toUInt64 >>> (((8 : Int32) * (xat_2 - xat_3)) &&& 0x3f).toInt64.toUInt64).toInt64)) rfl ?_
        refine Ow.l2i X0 hx (pc' := 32) (hb hby d_method_3_31) (z := (((yat_5.toUInt64 >>> (((8 : Int32) * (xat_2 - xat_3)) &&& 0x3f).toInt64.toUInt64).toInt64).toInt32)) rfl ?_
        refine Ow.i2b X0 hx (pc' := 33) (hb hby d_method_3_32) (z := ((((yat_5.toUInt64 >>> (((8 : Int32) * (xat_2 - xat_3)) &&& 0x3f).toInt64.toUInt64).toInt64).toInt32).toInt8.toInt32)) rfl ?_
        refine Wq.by (U' := s₁.setTop (mkF m 41 #[.val (.ref aat_1), .val (.int xat_2), .val (.int xat_3), .val (.int xat_4), .val (.long yat_5), .second, .val (.int xat_6), .val (.int xat_7)] [(.int (if wA = ((((yat_5.toUInt64 >>> (((8 : Int32) * (xat_2 - xat_3)) &&& 0x3f).toInt64.toUInt64).toInt64).toInt32).toInt8.toInt32) then (1 : Int32) else (0 : Int32)))])) (fun k => ?_) ?_
        · skip
          by_cases hm33 : wA = ((((yat_5.toUInt64 >>> (((8 : Int32) * (xat_2 - xat_3)) &&& 0x3f).toInt64.toUInt64).toInt64).toInt32).toInt8.toInt32)
          · skip
            refine Ow.icmpNo X0 hx (pc' := 36) (hb hby d_method_3_33) (teq hm33).2 ?_
            refine Ow.iconst X0 hx (pc' := 37) (hb hby d_method_3_36) (z := (1 : Int32)) rfl ?_
            refine Ow.goto X0 hx (pc' := 41) (hb hby d_method_3_37) (by decide) (by decide) ?_
            simp only [if_pos hm33] at k
            exact k
          · skip
            refine Ow.icmpYes X0 hx (pc' := 40) (hb hby d_method_3_33) (feq hm33).2 (by decide) (by decide) ?_
            refine Ow.iconst X0 hx (pc' := 41) (hb hby d_method_3_40) (z := (0 : Int32)) rfl ?_
            simp only [if_neg hm33] at k
            exact k
        exact Wq.ret X0 (BodyLoose.notSynchronized Bd) (rv := some (.int ((if wA = ((((yat_5.toUInt64 >>> (((8 : Int32) * (xat_2 - xat_3)) &&& 0x3f).toInt64.toUInt64).toInt64).toInt32).toInt8.toInt32) then (1 : Int32) else (0 : Int32)) &&& 1))) (fun h => by rw [Bd.returns] at h; cases h) (fun _ hr => retN X0 hx (t := .boolean) Bd.returns (by simp) (hb hby d_method_3_41) hr) (by decide) (by decide) ⟨by simp only [f_at, if_neg hc2, if_pos hc9, if_neg hc14], N0, e0⟩
    · skip
      refine Ow.icmpYes X0 hx (pc' := 42) (hb hby d_method_3_9) (flt hc9).2.1 (by decide) (by decide) ?_
      refine Ow.aloadN X0 hx (pc' := 43) (hb hby d_method_3_42) rfl rfl ?_
      refine Ow.iloadN X0 hx (pc' := 44) (hb hby d_method_3_43) rfl ?_
      refine Ow.ldB X0 hx hZ e0 V_aat_1 (pc' := 45) (hb hby d_method_3_44) (j := xat_2) (i := xat_2.toNatClampNeg) (v := (.int wA)) (hj) (rfl) (hv) ?_
      refine Ow.iload X0 hx (pc' := 47) (hb hby d_method_3_45) rfl ?_
      refine Wq.by (U' := s₁.setTop (mkF m 55 #[.val (.ref aat_1), .val (.int xat_2), .val (.int xat_3), .val (.int xat_4), .val (.long yat_5), .second, .val (.int xat_6), .val (.int xat_7)] [(.int (if wA = xat_6 then (1 : Int32) else (0 : Int32)))])) (fun k => ?_) ?_
      · skip
        by_cases hm47 : wA = xat_6
        · skip
          refine Ow.icmpNo X0 hx (pc' := 50) (hb hby d_method_3_47) (teq hm47).2 ?_
          refine Ow.iconst X0 hx (pc' := 51) (hb hby d_method_3_50) (z := (1 : Int32)) rfl ?_
          refine Ow.goto X0 hx (pc' := 55) (hb hby d_method_3_51) (by decide) (by decide) ?_
          simp only [if_pos hm47] at k
          exact k
        · skip
          refine Ow.icmpYes X0 hx (pc' := 54) (hb hby d_method_3_47) (feq hm47).2 (by decide) (by decide) ?_
          refine Ow.iconst X0 hx (pc' := 55) (hb hby d_method_3_54) (z := (0 : Int32)) rfl ?_
          simp only [if_neg hm47] at k
          exact k
      exact Wq.ret X0 (BodyLoose.notSynchronized Bd) (rv := some (.int ((if wA = xat_6 then (1 : Int32) else (0 : Int32)) &&& 1))) (fun h => by rw [Bd.returns] at h; cases h) (fun _ hr => retN X0 hx (t := .boolean) Bd.returns (by simp) (hb hby d_method_3_55) hr) (by decide) (by decide) ⟨by simp only [f_at, if_neg hc2, if_neg hc9], N0, e0⟩
def own_n (x : Int32) : Nat := x.toInt.toNat
def own_or (w : Nat → Int32) : Nat → Int32
  | 0 => (0 : Int32)
  | k + 1 => (own_or w k) ||| (w k)
def own_pk (w : Nat → Int32) (F : Nat) : Nat → Int32
  | 0 => (0 : Int32)
  | k + 1 => (own_pk w F k) ||| ((w (F + k)) <<< ((Int32.ofNat k) &&& 31))
def own_dq (w : Nat → Int32) (D : Nat) (ds : List Value) (n : Nat) : Nat → List Value
  | 0 => ds
  | q + 1 => (own_dq w D ds n q).set (D + q) (.int (((own_pk w (8 * q) (min 8 (n - 8 * q))).toInt8.toInt32).toInt8.toInt32))
def own_bd (O C D : Int32) : Prop := (0 ≤ O.toInt ∧ O.toInt ≤ 3) ∧ (0 ≤ D.toInt ∧ D.toInt ≤ 3) ∧ 0 ≤ C.toInt ∧ C.toInt + O.toInt ≤ 20
theorem own_ad {O x : Int32} {a : Nat} (h : 0 ≤ O.toInt ∧ O.toInt ≤ 3) (e : x.toInt = O.toInt + (a : Int)) (k : Int32) (b : Nat) (hk : k.toInt = (b : Int)) (hab : a + b ≤ 40) : (x + k).toInt = O.toInt + ((a + b : Nat) : Int) := by
  have c := c_iadd x k
  have r := rng32 (x + k)
  omega
theorem own_z0 {O : Int32} : O.toInt = O.toInt + ((0 : Nat) : Int) := by omega
theorem own_ix {O x : Int32} {m : Nat} (h : 0 ≤ O.toInt ∧ O.toInt ≤ 3) (e : x.toInt = O.toInt + (m : Int)) : ¬ x < 0 ∧ x.toNatClampNeg = own_n O + m := by
  have e0 : (0 : Int32).toInt = 0 := by decide
  refine ⟨?_, ?_⟩
  · rw [Int32.lt_iff_toInt_lt]; omega
  · show x.toInt.toNat = O.toInt.toNat + m
    omega
theorem own_oc {O C D : Int32} (h : own_bd O C D) : (O + C).toInt = O.toInt + C.toInt := by
  obtain ⟨h1, h2, h3, h4⟩ := h
  have c := c_iadd O C
  have r := rng32 (O + C)
  omega
theorem own_c1 {O C D x : Int32} {a : Nat} (h : own_bd O C D) (e : x.toInt = O.toInt + (a : Int)) : ((O + C) - (8 : Int32)) < x ↔ C.toInt < (a : Int) + 8 := by
  have s := own_oc h
  obtain ⟨h1, h2, h3, h4⟩ := h
  have c := c_isub (O + C) 8
  have e8 : (8 : Int32).toInt = 8 := by decide
  have r := rng32 ((O + C) - 8)
  rw [Int32.lt_iff_toInt_lt]
  omega
theorem own_c2 {O C D x : Int32} {a : Nat} (h : own_bd O C D) (e : x.toInt = O.toInt + (a : Int)) : x < (O + C) ↔ (a : Int) < C.toInt := by
  have s := own_oc h
  rw [Int32.lt_iff_toInt_lt]
  omega
theorem own_in {O C D : Int32} {m : Nat} (h : own_bd O C D) (hm : (m : Int) < C.toInt) : own_n O + m < 20 := by
  obtain ⟨h1, h2, h3, h4⟩ := h
  show O.toInt.toNat + m < 20
  omega
theorem own_ln {D : Int32} {ds : List Value} {q : Nat} (h : 0 ≤ D.toInt ∧ D.toInt ≤ 3) (hl : ds.length = 8) (hq : q < 5) : own_n D + q < ds.length := by
  rw [hl]
  show D.toInt.toNat + q < 8
  omega
theorem own_cn {C : Int32} {n : Nat} (h1 : C.toInt = (n : Int)) : own_n C = n := by
  show C.toInt.toNat = n
  omega
theorem d_prog_14_method_18_0 : decode prog_14_method_18_code 0 = .ok (.iconst 0, 1) := by decide +kernel
theorem d_prog_14_method_18_1 : decode prog_14_method_18_code 1 = .ok (.istore 5, 2) := by decide +kernel
theorem d_prog_14_method_18_3 : decode prog_14_method_18_code 3 = .ok (.iload 4, 2) := by decide +kernel
theorem d_prog_14_method_18_5 : decode prog_14_method_18_code 5 = .ok (.istore 6, 2) := by decide +kernel
theorem d_prog_14_method_18_7 : decode prog_14_method_18_code 7 = .ok (.iload_n 1, 1) := by decide +kernel
theorem d_prog_14_method_18_8 : decode prog_14_method_18_code 8 = .ok (.istore 7, 2) := by decide +kernel
theorem d_prog_14_method_18_10 : decode prog_14_method_18_code 10 = .ok (.iload_n 1, 1) := by decide +kernel
theorem d_prog_14_method_18_11 : decode prog_14_method_18_code 11 = .ok (.iload_n 2, 1) := by decide +kernel
theorem d_prog_14_method_18_12 : decode prog_14_method_18_code 12 = .ok (.iadd, 1) := by decide +kernel
theorem d_prog_14_method_18_13 : decode prog_14_method_18_code 13 = .ok (.istore 8, 2) := by decide +kernel
theorem d_prog_14_method_18_15 : decode prog_14_method_18_code 15 = .ok (.iload 7, 2) := by decide +kernel
theorem d_prog_14_method_18_17 : decode prog_14_method_18_code 17 = .ok (.iload 8, 2) := by decide +kernel
theorem d_prog_14_method_18_19 : decode prog_14_method_18_code 19 = .ok (.bipush 8, 2) := by decide +kernel
theorem d_prog_14_method_18_21 : decode prog_14_method_18_code 21 = .ok (.isub, 1) := by decide +kernel
theorem d_prog_14_method_18_22 : decode prog_14_method_18_code 22 = .ok (.if_icmp .gt 65, 3) := by decide +kernel
theorem d_prog_14_method_18_25 : decode prog_14_method_18_code 25 = .ok (.iconst 0, 1) := by decide +kernel
theorem d_prog_14_method_18_26 : decode prog_14_method_18_code 26 = .ok (.istore 9, 2) := by decide +kernel
theorem d_prog_14_method_18_28 : decode prog_14_method_18_code 28 = .ok (.iconst 0, 1) := by decide +kernel
theorem d_prog_14_method_18_29 : decode prog_14_method_18_code 29 = .ok (.istore 10, 2) := by decide +kernel
theorem d_prog_14_method_18_31 : decode prog_14_method_18_code 31 = .ok (.iload 10, 2) := by decide +kernel
theorem d_prog_14_method_18_33 : decode prog_14_method_18_code 33 = .ok (.bipush 8, 2) := by decide +kernel
theorem d_prog_14_method_18_35 : decode prog_14_method_18_code 35 = .ok (.if_icmp .ge 36, 3) := by decide +kernel
theorem d_prog_14_method_18_38 : decode prog_14_method_18_code 38 = .ok (.iload 5, 2) := by decide +kernel
theorem d_prog_14_method_18_40 : decode prog_14_method_18_code 40 = .ok (.aload_n 0, 1) := by decide +kernel
theorem d_prog_14_method_18_41 : decode prog_14_method_18_code 41 = .ok (.iload 7, 2) := by decide +kernel
theorem d_prog_14_method_18_43 : decode prog_14_method_18_code 43 = .ok (.iload 10, 2) := by decide +kernel
theorem d_prog_14_method_18_45 : decode prog_14_method_18_code 45 = .ok (.iadd, 1) := by decide +kernel
theorem d_prog_14_method_18_46 : decode prog_14_method_18_code 46 = .ok (.iaload, 1) := by decide +kernel
theorem d_prog_14_method_18_47 : decode prog_14_method_18_code 47 = .ok (.ior, 1) := by decide +kernel
theorem d_prog_14_method_18_48 : decode prog_14_method_18_code 48 = .ok (.istore 5, 2) := by decide +kernel
theorem d_prog_14_method_18_50 : decode prog_14_method_18_code 50 = .ok (.iload 9, 2) := by decide +kernel
theorem d_prog_14_method_18_52 : decode prog_14_method_18_code 52 = .ok (.aload_n 0, 1) := by decide +kernel
theorem d_prog_14_method_18_53 : decode prog_14_method_18_code 53 = .ok (.iload 7, 2) := by decide +kernel
theorem d_prog_14_method_18_55 : decode prog_14_method_18_code 55 = .ok (.iload 10, 2) := by decide +kernel
theorem d_prog_14_method_18_57 : decode prog_14_method_18_code 57 = .ok (.iadd, 1) := by decide +kernel
theorem d_prog_14_method_18_58 : decode prog_14_method_18_code 58 = .ok (.iaload, 1) := by decide +kernel
theorem d_prog_14_method_18_59 : decode prog_14_method_18_code 59 = .ok (.iload 10, 2) := by decide +kernel
theorem d_prog_14_method_18_61 : decode prog_14_method_18_code 61 = .ok (.ishl, 1) := by decide +kernel
theorem d_prog_14_method_18_62 : decode prog_14_method_18_code 62 = .ok (.ior, 1) := by decide +kernel
theorem d_prog_14_method_18_63 : decode prog_14_method_18_code 63 = .ok (.istore 9, 2) := by decide +kernel
theorem d_prog_14_method_18_65 : decode prog_14_method_18_code 65 = .ok (.iinc 10 1, 3) := by decide +kernel
theorem d_prog_14_method_18_68 : decode prog_14_method_18_code 68 = .ok (.goto (-37), 3) := by decide +kernel
theorem d_prog_14_method_18_71 : decode prog_14_method_18_code 71 = .ok (.aload_n 3, 1) := by decide +kernel
theorem d_prog_14_method_18_72 : decode prog_14_method_18_code 72 = .ok (.iload 6, 2) := by decide +kernel
theorem d_prog_14_method_18_74 : decode prog_14_method_18_code 74 = .ok (.iinc 6 1, 3) := by decide +kernel
theorem d_prog_14_method_18_77 : decode prog_14_method_18_code 77 = .ok (.iload 9, 2) := by decide +kernel
theorem d_prog_14_method_18_79 : decode prog_14_method_18_code 79 = .ok (.i2b, 1) := by decide +kernel
theorem d_prog_14_method_18_80 : decode prog_14_method_18_code 80 = .ok (.bastore, 1) := by decide +kernel
theorem d_prog_14_method_18_81 : decode prog_14_method_18_code 81 = .ok (.iinc 7 8, 3) := by decide +kernel
theorem d_prog_14_method_18_84 : decode prog_14_method_18_code 84 = .ok (.goto (-69), 3) := by decide +kernel
theorem d_prog_14_method_18_87 : decode prog_14_method_18_code 87 = .ok (.iload 7, 2) := by decide +kernel
theorem d_prog_14_method_18_89 : decode prog_14_method_18_code 89 = .ok (.iload 8, 2) := by decide +kernel
theorem d_prog_14_method_18_91 : decode prog_14_method_18_code 91 = .ok (.if_icmp .ge 59, 3) := by decide +kernel
theorem d_prog_14_method_18_94 : decode prog_14_method_18_code 94 = .ok (.iconst 0, 1) := by decide +kernel
theorem d_prog_14_method_18_95 : decode prog_14_method_18_code 95 = .ok (.istore 9, 2) := by decide +kernel
theorem d_prog_14_method_18_97 : decode prog_14_method_18_code 97 = .ok (.iconst 0, 1) := by decide +kernel
theorem d_prog_14_method_18_98 : decode prog_14_method_18_code 98 = .ok (.istore 10, 2) := by decide +kernel
theorem d_prog_14_method_18_100 : decode prog_14_method_18_code 100 = .ok (.iload 7, 2) := by decide +kernel
theorem d_prog_14_method_18_102 : decode prog_14_method_18_code 102 = .ok (.iload 10, 2) := by decide +kernel
theorem d_prog_14_method_18_104 : decode prog_14_method_18_code 104 = .ok (.iadd, 1) := by decide +kernel
theorem d_prog_14_method_18_105 : decode prog_14_method_18_code 105 = .ok (.iload 8, 2) := by decide +kernel
theorem d_prog_14_method_18_107 : decode prog_14_method_18_code 107 = .ok (.if_icmp .ge 36, 3) := by decide +kernel
theorem d_prog_14_method_18_110 : decode prog_14_method_18_code 110 = .ok (.iload 5, 2) := by decide +kernel
theorem d_prog_14_method_18_112 : decode prog_14_method_18_code 112 = .ok (.aload_n 0, 1) := by decide +kernel
theorem d_prog_14_method_18_113 : decode prog_14_method_18_code 113 = .ok (.iload 7, 2) := by decide +kernel
theorem d_prog_14_method_18_115 : decode prog_14_method_18_code 115 = .ok (.iload 10, 2) := by decide +kernel
theorem d_prog_14_method_18_117 : decode prog_14_method_18_code 117 = .ok (.iadd, 1) := by decide +kernel
theorem d_prog_14_method_18_118 : decode prog_14_method_18_code 118 = .ok (.iaload, 1) := by decide +kernel
theorem d_prog_14_method_18_119 : decode prog_14_method_18_code 119 = .ok (.ior, 1) := by decide +kernel
theorem d_prog_14_method_18_120 : decode prog_14_method_18_code 120 = .ok (.istore 5, 2) := by decide +kernel
theorem d_prog_14_method_18_122 : decode prog_14_method_18_code 122 = .ok (.iload 9, 2) := by decide +kernel
theorem d_prog_14_method_18_124 : decode prog_14_method_18_code 124 = .ok (.aload_n 0, 1) := by decide +kernel
theorem d_prog_14_method_18_125 : decode prog_14_method_18_code 125 = .ok (.iload 7, 2) := by decide +kernel
theorem d_prog_14_method_18_127 : decode prog_14_method_18_code 127 = .ok (.iload 10, 2) := by decide +kernel
theorem d_prog_14_method_18_129 : decode prog_14_method_18_code 129 = .ok (.iadd, 1) := by decide +kernel
theorem d_prog_14_method_18_130 : decode prog_14_method_18_code 130 = .ok (.iaload, 1) := by decide +kernel
theorem d_prog_14_method_18_131 : decode prog_14_method_18_code 131 = .ok (.iload 10, 2) := by decide +kernel
theorem d_prog_14_method_18_133 : decode prog_14_method_18_code 133 = .ok (.ishl, 1) := by decide +kernel
theorem d_prog_14_method_18_134 : decode prog_14_method_18_code 134 = .ok (.ior, 1) := by decide +kernel
theorem d_prog_14_method_18_135 : decode prog_14_method_18_code 135 = .ok (.istore 9, 2) := by decide +kernel
theorem d_prog_14_method_18_137 : decode prog_14_method_18_code 137 = .ok (.iinc 10 1, 3) := by decide +kernel
theorem d_prog_14_method_18_140 : decode prog_14_method_18_code 140 = .ok (.goto (-40), 3) := by decide +kernel
theorem d_prog_14_method_18_143 : decode prog_14_method_18_code 143 = .ok (.aload_n 3, 1) := by decide +kernel
theorem d_prog_14_method_18_144 : decode prog_14_method_18_code 144 = .ok (.iload 6, 2) := by decide +kernel
theorem d_prog_14_method_18_146 : decode prog_14_method_18_code 146 = .ok (.iload 9, 2) := by decide +kernel
theorem d_prog_14_method_18_148 : decode prog_14_method_18_code 148 = .ok (.i2b, 1) := by decide +kernel
theorem d_prog_14_method_18_149 : decode prog_14_method_18_code 149 = .ok (.bastore, 1) := by decide +kernel
theorem d_prog_14_method_18_150 : decode prog_14_method_18_code 150 = .ok (.iload 5, 2) := by decide +kernel
theorem pn2 : plainName "com/example/tightbit/tightbit/ByteArrayWriter" = true := by first | (simp [plainName, overriddenIn]; done) | decide +kernel
theorem ef_pk (m : MethodId) (apk_1 : Addr) (xpk_2 : Int32) (xpk_3 : Int32) (apk_4 : Addr) (xpk_5 : Int32) : entryFrame m #[(.ref apk_1), (.int xpk_2), (.int xpk_3), (.ref apk_4), (.int xpk_5)] 11 = mkF m 0 #[.val (.ref apk_1), .val (.int xpk_2), .val (.int xpk_3), .val (.ref apk_4), .val (.int xpk_5), .unset, .unset, .unset, .unset, .unset, .unset] [] := by first | (simp [entryFrame, mkF, argsToLocals, Value.category]; done) | rfl
def Q_pk (Z : State) (apk_1 : Addr) (xpk_2 : Int32) (xpk_3 : Int32) (apk_4 : Addr) (xpk_5 : Int32) (w : Nat → Int32) (vs : List Value) (ds : List Value) (h0 : Heap) (n0 : Nat) (v : Option Value) (h : Heap) (L : List Loc) : Prop := v = some (.int (own_or w (own_n xpk_3))) ∧ Fr n0 L ∧ Keep h0 h [apk_4] ∧ Al Z h apk_4 .byte (own_dq w (own_n xpk_5) ds (own_n xpk_3) ((own_n xpk_3 + 7) / 8))
theorem d_prog_14_method_18_152 : decode prog_14_method_18_code 152 = .ok (.ireturn, 1) := by decide +kernel
abbrev mt3 : MethodName := ⟨"com/example/tightbit/tightbit/ByteArrayWriter", "packOneBit", "([III[BI)I"⟩
set_option maxRecDepth 65536 in
set_option maxHeartbeats 40000000 in
theorem rm_pk (l : Launch) (Z : State) (a0 : Array Value) (hw : ∀ d ∈ tables_1, d.before a0 Z = true) (ws : List Jvm.Cond) (apk_1 : Addr) (xpk_2 : Int32) (xpk_3 : Int32) (apk_4 : Addr) (xpk_5 : Int32) (w : Nat → Int32) (vs : List Value) (ds : List Value) (h0 : Heap) (n0 : Nat) (Z0 : n0 ≤ h0.size) (hbd : own_bd xpk_2 xpk_3 xpk_5) (hv : ∀ i, own_n xpk_2 + i < 20 → vs[own_n xpk_2 + i]? = some (.int (w i))) (hl : ds.length = 8) (V_apk_1 : Al Z h0 apk_1 .int vs) (V_apk_4 : Al Z h0 apk_4 .byte ds) (ne_apk_1_apk_4 : apk_1 ≠ apk_4) (g_apk_4 : n0 ≤ apk_4) :
    MetFree l mt3 (head1 (Jvm.Cond.code mt3 prog_14_method_18_code 11 (some .int) :: ws) ({ frames := 0, cells := 0, slots := 0, locals := 0 } : Room)) (fun a U => a = #[(.ref apk_1), (.int xpk_2), (.int xpk_3), (.ref apk_4), (.int xpk_5)] ∧ Z.Warmed39 U.vm ∧ U.heap = h0) (fun _ _ _ _ _ => True) (fun _ U o U' => ∃ v L, o = .returned v ∧ (Q_pk Z apk_1 xpk_2 xpk_3 apk_4 xpk_5 w vs ds h0 n0) v U'.heap L ∧ FrameEnd U o U' L ({ frames := 0, cells := 0, slots := 0, locals := 0 } : Room).cells ({ frames := 0, cells := 0, slots := 0, locals := 0 } : Room).slots) := by
  refine MetFree.of_bodySF (plainFor_of_name pn2) hisR ?_
  intro p e s m args below meth c s₁ Bd hml0 hP hK
  obtain ⟨rfl, hZ, hh⟩ := hP
  have hx := Bd.exec
  have hby := Bd.bytes
  have hml : c.maxLocals = 11 := hml0
  have hown : s.vm.findClass "com/example/tightbit/tightbit/ByteArrayWriter" = some m.cls := findClass_of_methodNamed Bd.named
  have hnm := (name_of_methodNamed Bd.named Bd.method).1
  have X0 : Stand p l e ({ frames := 0, cells := 0, slots := 0, locals := 0 } : Room) s m #[(.ref apk_1), (.int xpk_2), (.int xpk_3), (.ref apk_4), (.int xpk_5)] below meth c s₁ [] 0 0 := Stand.of_body Bd
  have e0 : s₁.heap = h0 := by rw [← hh, Bd.state]; rfl
  have N0 := Fr.nil n0
  refine Wq.step (p := p) (e := e) (below := below) (En := (fun o t L => FrameEnd s o t L ({ frames := 0, cells := 0, slots := 0, locals := 0 } : Room).cells ({ frames := 0, cells := 0, slots := 0, locals := 0 } : Room).slots)) (Q := (Q_pk Z apk_1 xpk_2 xpk_3 apk_4 xpk_5 w vs ds h0 n0)) (fun t k => castTop (ef_pk m apk_1 xpk_2 xpk_3 apk_4 xpk_5) k) ?_
  show Wq _ _ _ _ _ (s₁.setTop (mkF m 0 #[.val (.ref apk_1), .val (.int xpk_2), .val (.int xpk_3), .val (.ref apk_4), .val (.int xpk_5), .unset, .unset, .unset, .unset, .unset, .unset] []))
  refine Ow.iconst X0 hx (pc' := 1) (hb hby d_prog_14_method_18_0) (z := (0 : Int32)) rfl ?_
  refine Ow.istore X0 hx (pc' := 3) (hb hby d_prog_14_method_18_1) (l' := #[.val (.ref apk_1), .val (.int xpk_2), .val (.int xpk_3), .val (.ref apk_4), .val (.int xpk_5), .val (.int (0 : Int32)), .unset, .unset, .unset, .unset, .unset]) rfl ?_
  refine Ow.iload X0 hx (pc' := 5) (hb hby d_prog_14_method_18_3) rfl ?_
  refine Ow.istore X0 hx (pc' := 7) (hb hby d_prog_14_method_18_5) (l' := #[.val (.ref apk_1), .val (.int xpk_2), .val (.int xpk_3), .val (.ref apk_4), .val (.int xpk_5), .val (.int (0 : Int32)), .val (.int xpk_5), .unset, .unset, .unset, .unset]) rfl ?_
  refine Ow.iloadN X0 hx (pc' := 8) (hb hby d_prog_14_method_18_7) rfl ?_
  refine Ow.istore X0 hx (pc' := 10) (hb hby d_prog_14_method_18_8) (l' := #[.val (.ref apk_1), .val (.int xpk_2), .val (.int xpk_3), .val (.ref apk_4), .val (.int xpk_5), .val (.int (0 : Int32)), .val (.int xpk_5), .val (.int xpk_2), .unset, .unset, .unset]) rfl ?_
  refine Ow.iloadN X0 hx (pc' := 11) (hb hby d_prog_14_method_18_10) rfl ?_
  refine Ow.iloadN X0 hx (pc' := 12) (hb hby d_prog_14_method_18_11) rfl ?_
  refine Ow.iadd X0 hx (pc' := 13) (hb hby d_prog_14_method_18_12) (z := (xpk_2 + xpk_3)) rfl ?_
  refine Ow.istore X0 hx (pc' := 15) (hb hby d_prog_14_method_18_13) (l' := #[.val (.ref apk_1), .val (.int xpk_2), .val (.int xpk_3), .val (.ref apk_4), .val (.int xpk_5), .val (.int (0 : Int32)), .val (.int xpk_5), .val (.int xpk_2), .val (.int (xpk_2 + xpk_3)), .unset, .unset]) rfl ?_
  refine Ow.iload X0 hx (pc' := 17) (hb hby d_prog_14_method_18_15) rfl ?_
  refine Ow.iload X0 hx (pc' := 19) (hb hby d_prog_14_method_18_17) rfl ?_
  refine Ow.bipush X0 hx (pc' := 21) (hb hby d_prog_14_method_18_19) (z := (8 : Int32)) rfl ?_
  refine Ow.isub X0 hx (pc' := 22) (hb hby d_prog_14_method_18_21) (z := ((xpk_2 + xpk_3) - (8 : Int32))) rfl ?_
  by_cases hc22 : ((xpk_2 + xpk_3) - (8 : Int32)) < xpk_2
  · skip
    refine Ow.icmpYes X0 hx (pc' := 87) (hb hby d_prog_14_method_18_22) (tlt hc22).2.2.1 (by decide) (by decide) ?_
    have U0 : xpk_3.toInt < 8 := by have := (own_c1 (a := 0) hbd own_z0).mp hc22; omega
    have Z0C : 0 ≤ xpk_3.toInt := hbd.2.2.1
    refine Ow.iload X0 hx (pc' := 89) (hb hby d_prog_14_method_18_87) rfl ?_
    refine Ow.iload X0 hx (pc' := 91) (hb hby d_prog_14_method_18_89) rfl ?_
    by_cases hc91 : xpk_2 < (xpk_2 + xpk_3)
    · skip
      refine Ow.icmpNo X0 hx (pc' := 94) (hb hby d_prog_14_method_18_91) (tlt hc91).2.1 ?_
      have G0 : 0 < xpk_3.toInt := by have := (own_c2 (a := 0) hbd own_z0).mp hc91; omega
      refine Ow.iconst X0 hx (pc' := 95) (hb hby d_prog_14_method_18_94) (z := (0 : Int32)) rfl ?_
      refine Ow.istore X0 hx (pc' := 97) (hb hby d_prog_14_method_18_95) (l' := #[.val (.ref apk_1), .val (.int xpk_2), .val (.int xpk_3), .val (.ref apk_4), .val (.int xpk_5), .val (.int (0 : Int32)), .val (.int xpk_5), .val (.int xpk_2), .val (.int (xpk_2 + xpk_3)), .val (.int (0 : Int32)), .unset]) rfl ?_
      refine Ow.iconst X0 hx (pc' := 98) (hb hby d_prog_14_method_18_97) (z := (0 : Int32)) rfl ?_
      refine Ow.istore X0 hx (pc' := 100) (hb hby d_prog_14_method_18_98) (l' := #[.val (.ref apk_1), .val (.int xpk_2), .val (.int xpk_3), .val (.ref apk_4), .val (.int xpk_5), .val (.int (0 : Int32)), .val (.int xpk_5), .val (.int xpk_2), .val (.int (xpk_2 + xpk_3)), .val (.int (0 : Int32)), .val (.int (0 : Int32))]) rfl ?_
      refine Ow.iload X0 hx (pc' := 102) (hb hby d_prog_14_method_18_100) rfl ?_
      refine Ow.iload X0 hx (pc' := 104) (hb hby d_prog_14_method_18_102) rfl ?_
      refine Ow.iadd X0 hx (pc' := 105) (hb hby d_prog_14_method_18_104) (z := (xpk_2 + (0 : Int32))) rfl ?_
      refine Ow.iload X0 hx (pc' := 107) (hb hby d_prog_14_method_18_105) rfl ?_
      refine Ow.icmpNo X0 hx (pc' := 110) (hb hby d_prog_14_method_18_107) (tlt ((own_c2 (a := 0) hbd (own_ad hbd.1 own_z0 0 0 (by decide) (by decide))).mpr (by omega) : (xpk_2 + (0 : Int32)) < (xpk_2 + xpk_3))).2.1 ?_
      refine Ow.iload X0 hx (pc' := 112) (hb hby d_prog_14_method_18_110) rfl ?_
      refine Ow.aloadN X0 hx (pc' := 113) (hb hby d_prog_14_method_18_112) rfl rfl ?_
      refine Ow.iload X0 hx (pc' := 115) (hb hby d_prog_14_method_18_113) rfl ?_
      refine Ow.iload X0 hx (pc' := 117) (hb hby d_prog_14_method_18_115) rfl ?_
      refine Ow.iadd X0 hx (pc' := 118) (hb hby d_prog_14_method_18_117) (z := (xpk_2 + (0 : Int32))) rfl ?_
      refine Ow.ldI X0 hx hZ e0 V_apk_1 (pc' := 119) (hb hby d_prog_14_method_18_118) (j := (xpk_2 + (0 : Int32))) (i := (own_n xpk_2 + 0)) (v := (.int (w 0))) ((own_ix (m := 0) hbd.1 (own_ad hbd.1 own_z0 0 0 (by decide) (by decide))).1) ((own_ix (m := 0) hbd.1 (own_ad hbd.1 own_z0 0 0 (by decide) (by decide))).2) (hv _ (own_in (m := 0) hbd (by omega))) ?_
      refine Ow.ior X0 hx (pc' := 120) (hb hby d_prog_14_method_18_119) (z := ((0 : Int32) ||| (w 0))) rfl ?_
      refine Ow.istore X0 hx (pc' := 122) (hb hby d_prog_14_method_18_120) (l' := #[.val (.ref apk_1), .val (.int xpk_2), .val (.int xpk_3), .val (.ref apk_4), .val (.int xpk_5), .val (.int ((0 : Int32) ||| (w 0))), .val (.int xpk_5), .val (.int xpk_2), .val (.int (xpk_2 + xpk_3)), .val (.int (0 : Int32)), .val (.int (0 : Int32))]) rfl ?_
      refine Ow.iload X0 hx (pc' := 124) (hb hby d_prog_14_method_18_122) rfl ?_
      refine Ow.aloadN X0 hx (pc' := 125) (hb hby d_prog_14_method_18_124) rfl rfl ?_
      refine Ow.iload X0 hx (pc' := 127) (hb hby d_prog_14_method_18_125) rfl ?_
      refine Ow.iload X0 hx (pc' := 129) (hb hby d_prog_14_method_18_127) rfl ?_
      refine Ow.iadd X0 hx (pc' := 130) (hb hby d_prog_14_method_18_129) (z := (xpk_2 + (0 : Int32))) rfl ?_
      refine Ow.ldI X0 hx hZ e0 V_apk_1 (pc' := 131) (hb hby d_prog_14_method_18_130) (j := (xpk_2 + (0 : Int32))) (i := (own_n xpk_2 + 0)) (v := (.int (w 0))) ((own_ix (m := 0) hbd.1 (own_ad hbd.1 own_z0 0 0 (by decide) (by decide))).1) ((own_ix (m := 0) hbd.1 (own_ad hbd.1 own_z0 0 0 (by decide) (by decide))).2) (hv _ (own_in (m := 0) hbd (by omega))) ?_
      refine Ow.iload X0 hx (pc' := 133) (hb hby d_prog_14_method_18_131) rfl ?_
      refine Ow.ishl X0 hx (pc' := 134) (hb hby d_prog_14_method_18_133) (z := ((w 0) <<< ((0 : Int32) &&& 31))) rfl ?_
      refine Ow.ior X0 hx (pc' := 135) (hb hby d_prog_14_method_18_134) (z := ((0 : Int32) ||| ((w 0) <<< ((0 : Int32) &&& 31)))) rfl ?_
      refine Ow.istore X0 hx (pc' := 137) (hb hby d_prog_14_method_18_135) (l' := #[.val (.ref apk_1), .val (.int xpk_2), .val (.int xpk_3), .val (.ref apk_4), .val (.int xpk_5), .val (.int ((0 : Int32) ||| (w 0))), .val (.int xpk_5), .val (.int xpk_2), .val (.int (xpk_2 + xpk_3)), .val (.int ((0 : Int32) ||| ((w 0) <<< ((0 : Int32) &&& 31)))), .val (.int (0 : Int32))]) rfl ?_
      refine Ow.iinc X0 hx (pc' := 140) (hb hby d_prog_14_method_18_137) rfl (l' := #[.val (.ref apk_1), .val (.int xpk_2), .val (.int xpk_3), .val (.ref apk_4), .val (.int xpk_5), .val (.int ((0 : Int32) ||| (w 0))), .val (.int xpk_5), .val (.int xpk_2), .val (.int (xpk_2 + xpk_3)), .val (.int ((0 : Int32) ||| ((w 0) <<< ((0 : Int32) &&& 31)))), .val (.int (1 : Int32))]) rfl ?_
      show Wq _ _ _ _ _ (s₁.setTop (mkF m 140 #[.val (.ref apk_1), .val (.int xpk_2), .val (.int xpk_3), .val (.ref apk_4), .val (.int xpk_5), .val (.int ((0 : Int32) ||| (w 0))), .val (.int xpk_5), .val (.int xpk_2), .val (.int (xpk_2 + xpk_3)), .val (.int ((0 : Int32) ||| ((w 0) <<< ((0 : Int32) &&& 31)))), .val (.int (1 : Int32))] []))
      refine Ow.goto X0 hx (pc' := 100) (hb hby d_prog_14_method_18_140) (by decide) (by decide) ?_
      refine Ow.iload X0 hx (pc' := 102) (hb hby d_prog_14_method_18_100) rfl ?_
      refine Ow.iload X0 hx (pc' := 104) (hb hby d_prog_14_method_18_102) rfl ?_
      refine Ow.iadd X0 hx (pc' := 105) (hb hby d_prog_14_method_18_104) (z := (xpk_2 + (1 : Int32))) rfl ?_
      refine Ow.iload X0 hx (pc' := 107) (hb hby d_prog_14_method_18_105) rfl ?_
      by_cases hc107_2 : (xpk_2 + (1 : Int32)) < (xpk_2 + xpk_3)
      · skip
        refine Ow.icmpNo X0 hx (pc' := 110) (hb hby d_prog_14_method_18_107) (tlt hc107_2).2.1 ?_
        have G1 : 1 < xpk_3.toInt := by have := (own_c2 (a := 1) hbd (own_ad hbd.1 own_z0 1 1 (by decide) (by decide))).mp hc107_2; omega
        refine Ow.iload X0 hx (pc' := 112) (hb hby d_prog_14_method_18_110) rfl ?_
        refine Ow.aloadN X0 hx (pc' := 113) (hb hby d_prog_14_method_18_112) rfl rfl ?_
        refine Ow.iload X0 hx (pc' := 115) (hb hby d_prog_14_method_18_113) rfl ?_
        refine Ow.iload X0 hx (pc' := 117) (hb hby d_prog_14_method_18_115) rfl ?_
        refine Ow.iadd X0 hx (pc' := 118) (hb hby d_prog_14_method_18_117) (z := (xpk_2 + (1 : Int32))) rfl ?_
        refine Ow.ldI X0 hx hZ e0 V_apk_1 (pc' := 119) (hb hby d_prog_14_method_18_118) (j := (xpk_2 + (1 : Int32))) (i := (own_n xpk_2 + 1)) (v := (.int (w 1))) ((own_ix (m := 1) hbd.1 (own_ad hbd.1 own_z0 1 1 (by decide) (by decide))).1) ((own_ix (m := 1) hbd.1 (own_ad hbd.1 own_z0 1 1 (by decide) (by decide))).2) (hv _ (own_in (m := 1) hbd (by omega))) ?_
        refine Ow.ior X0 hx (pc' := 120) (hb hby d_prog_14_method_18_119) (z := (((0 : Int32) ||| (w 0)) ||| (w 1))) rfl ?_
        refine Ow.istore X0 hx (pc' := 122) (hb hby d_prog_14_method_18_120) (l' := #[.val (.ref apk_1), .val (.int xpk_2), .val (.int xpk_3), .val (.ref apk_4), .val (.int xpk_5), .val (.int (((0 : Int32) ||| (w 0)) ||| (w 1))), .val (.int xpk_5), .val (.int xpk_2), .val (.int (xpk_2 + xpk_3)), .val (.int ((0 : Int32) ||| ((w 0) <<< ((0 : Int32) &&& 31)))), .val (.int (1 : Int32))]) rfl ?_
        refine Ow.iload X0 hx (pc' := 124) (hb hby d_prog_14_method_18_122) rfl ?_
        refine Ow.aloadN X0 hx (pc' := 125) (hb hby d_prog_14_method_18_124) rfl rfl ?_
        refine Ow.iload X0 hx (pc' := 127) (hb hby d_prog_14_method_18_125) rfl ?_
        refine Ow.iload X0 hx (pc' := 129) (hb hby d_prog_14_method_18_127) rfl ?_
        refine Ow.iadd X0 hx (pc' := 130) (hb hby d_prog_14_method_18_129) (z := (xpk_2 + (1 : Int32))) rfl ?_
        refine Ow.ldI X0 hx hZ e0 V_apk_1 (pc' := 131) (hb hby d_prog_14_method_18_130) (j := (xpk_2 + (1 : Int32))) (i := (own_n xpk_2 + 1)) (v := (.int (w 1))) ((own_ix (m := 1) hbd.1 (own_ad hbd.1 own_z0 1 1 (by decide) (by decide))).1) ((own_ix (m := 1) hbd.1 (own_ad hbd.1 own_z0 1 1 (by decide) (by decide))).2) (hv _ (own_in (m := 1) hbd (by omega))) ?_
        refine Ow.iload X0 hx (pc' := 133) (hb hby d_prog_14_method_18_131) rfl ?_
        refine Ow.ishl X0 hx (pc' := 134) (hb hby d_prog_14_method_18_133) (z := ((w 1) <<< ((1 : Int32) &&& 31))) rfl ?_
        refine Ow.ior X0 hx (pc' := 135) (hb hby d_prog_14_method_18_134) (z := (((0 : Int32) ||| ((w 0) <<< ((0 : Int32) &&& 31))) ||| ((w 1) <<< ((1 : Int32) &&& 31)))) rfl ?_
        refine Ow.istore X0 hx (pc' := 137) (hb hby d_prog_14_method_18_135) (l' := #[.val (.ref apk_1), .val (.int xpk_2), .val (.int xpk_3), .val (.ref apk_4), .val (.int xpk_5), .val (.int (((0 : Int32) ||| (w 0)) ||| (w 1))), .val (.int xpk_5), .val (.int xpk_2), .val (.int (xpk_2 + xpk_3)), .val (.int (((0 : Int32) ||| ((w 0) <<< ((0 : Int32) &&& 31))) ||| ((w 1) <<< ((1 : Int32) &&& 31)))), .val (.int (1 : Int32))]) rfl ?_
        refine Ow.iinc X0 hx (pc' := 140) (hb hby d_prog_14_method_18_137) rfl (l' := #[.val (.ref apk_1), .val (.int xpk_2), .val (.int xpk_3), .val (.ref apk_4), .val (.int xpk_5), .val (.int (((0 : Int32) ||| (w 0)) ||| (w 1))), .val (.int xpk_5), .val (.int xpk_2), .val (.int (xpk_2 + xpk_3)), .val (.int (((0 : Int32) ||| ((w 0) <<< ((0 : Int32) &&& 31))) ||| ((w 1) <<< ((1 : Int32) &&& 31)))), .val (.int (2 : Int32))]) rfl ?_
        show Wq _ _ _ _ _ (s₁.setTop (mkF m 140 #[.val (.ref apk_1), .val (.int xpk_2), .val (.int xpk_3), .val (.ref apk_4), .val (.int xpk_5), .val (.int (((0 : Int32) ||| (w 0)) ||| (w 1))), .val (.int xpk_5), .val (.int xpk_2), .val (.int (xpk_2 + xpk_3)), .val (.int (((0 : Int32) ||| ((w 0) <<< ((0 : Int32) &&& 31))) ||| ((w 1) <<< ((1 : Int32) &&& 31)))), .val (.int (2 : Int32))] []))
        refine Ow.goto X0 hx (pc' := 100) (hb hby d_prog_14_method_18_140) (by decide) (by decide) ?_
        refine Ow.iload X0 hx (pc' := 102) (hb hby d_prog_14_method_18_100) rfl ?_
        refine Ow.iload X0 hx (pc' := 104) (hb hby d_prog_14_method_18_102) rfl ?_
        refine Ow.iadd X0 hx (pc' := 105) (hb hby d_prog_14_method_18_104) (z := (xpk_2 + (2 : Int32))) rfl ?_
        refine Ow.iload X0 hx (pc' := 107) (hb hby d_prog_14_method_18_105) rfl ?_
        by_cases hc107_3 : (xpk_2 + (2 : Int32)) < (xpk_2 + xpk_3)
        · skip
          refine Ow.icmpNo X0 hx (pc' := 110) (hb hby d_prog_14_method_18_107) (tlt hc107_3).2.1 ?_
          have G2 : 2 < xpk_3.toInt := by have := (own_c2 (a := 2) hbd (own_ad hbd.1 own_z0 2 2 (by decide) (by decide))).mp hc107_3; omega
          refine Ow.iload X0 hx (pc' := 112) (hb hby d_prog_14_method_18_110) rfl ?_
          refine Ow.aloadN X0 hx (pc' := 113) (hb hby d_prog_14_method_18_112) rfl rfl ?_
          refine Ow.iload X0 hx (pc' := 115) (hb hby d_prog_14_method_18_113) rfl ?_
          refine Ow.iload X0 hx (pc' := 117) (hb hby d_prog_14_method_18_115) rfl ?_
          refine Ow.iadd X0 hx (pc' := 118) (hb hby d_prog_14_method_18_117) (z := (xpk_2 + (2 : Int32))) rfl ?_
          refine Ow.ldI X0 hx hZ e0 V_apk_1 (pc' := 119) (hb hby d_prog_14_method_18_118) (j := (xpk_2 + (2 : Int32))) (i := (own_n xpk_2 + 2)) (v := (.int (w 2))) ((own_ix (m := 2) hbd.1 (own_ad hbd.1 own_z0 2 2 (by decide) (by decide))).1) ((own_ix (m := 2) hbd.1 (own_ad hbd.1 own_z0 2 2 (by decide) (by decide))).2) (hv _ (own_in (m := 2) hbd (by omega))) ?_
          refine Ow.ior X0 hx (pc' := 120) (hb hby d_prog_14_method_18_119) (z := ((((0 : Int32) ||| (w 0)) ||| (w 1)) ||| (w 2))) rfl ?_
          refine Ow.istore X0 hx (pc' := 122) (hb hby d_prog_14_method_18_120) (l' := #[.val (.ref apk_1), .val (.int xpk_2), .val (.int xpk_3), .val (.ref apk_4), .val (.int xpk_5), .val (.int ((((0 : Int32) ||| (w 0)) ||| (w 1)) ||| (w 2))), .val (.int xpk_5), .val (.int xpk_2), .val (.int (xpk_2 + xpk_3)), .val (.int (((0 : Int32) ||| ((w 0) <<< ((0 : Int32) &&& 31))) ||| ((w 1) <<< ((1 : Int32) &&& 31)))), .val (.int (2 : Int32))]) rfl ?_
          refine Ow.iload X0 hx (pc' := 124) (hb hby d_prog_14_method_18_122) rfl ?_
          refine Ow.aloadN X0 hx (pc' := 125) (hb hby d_prog_14_method_18_124) rfl rfl ?_
          refine Ow.iload X0 hx (pc' := 127) (hb hby d_prog_14_method_18_125) rfl ?_
          refine Ow.iload X0 hx (pc' := 129) (hb hby d_prog_14_method_18_127) rfl ?_
          refine Ow.iadd X0 hx (pc' := 130) (hb hby d_prog_14_method_18_129) (z := (xpk_2 + (2 : Int32))) rfl ?_
          refine Ow.ldI X0 hx hZ e0 V_apk_1 (pc' := 131) (hb hby d_prog_14_method_18_130) (j := (xpk_2 + (2 : Int32))) (i := (own_n xpk_2 + 2)) (v := (.int (w 2))) ((own_ix (m := 2) hbd.1 (own_ad hbd.1 own_z0 2 2 (by decide) (by decide))).1) ((own_ix (m := 2) hbd.1 (own_ad hbd.1 own_z0 2 2 (by decide) (by decide))).2) (hv _ (own_in (m := 2) hbd (by omega))) ?_
          refine Ow.iload X0 hx (pc' := 133) (hb hby d_prog_14_method_18_131) rfl ?_
          refine Ow.ishl X0 hx (pc' := 134) (hb hby d_prog_14_method_18_133) (z := ((w 2) <<< ((2 : Int32) &&& 31))) rfl ?_
          refine Ow.ior X0 hx (pc' := 135) (hb hby d_prog_14_method_18_134) (z := ((((0 : Int32) ||| ((w 0) <<< ((0 : Int32) &&& 31))) ||| ((w 1) <<< ((1 : Int32) &&& 31))) ||| ((w 2) <<< ((2 : Int32) &&& 31)))) rfl ?_
          refine Ow.istore X0 hx (pc' := 137) (hb hby d_prog_14_method_18_135) (l' := #[.val (.ref apk_1), .val (.int xpk_2), .val (.int xpk_3), .val (.ref apk_4), .val (.int xpk_5), .val (.int ((((0 : Int32) ||| (w 0)) ||| (w 1)) ||| (w 2))), .val (.int xpk_5), .val (.int xpk_2), .val (.int (xpk_2 + xpk_3)), .val (.int ((((0 : Int32) ||| ((w 0) <<< ((0 : Int32) &&& 31))) ||| ((w 1) <<< ((1 : Int32) &&& 31))) ||| ((w 2) <<< ((2 : Int32) &&& 31)))), .val (.int (2 : Int32))]) rfl ?_
          refine Ow.iinc X0 hx (pc' := 140) (hb hby d_prog_14_method_18_137) rfl (l' := #[.val (.ref apk_1), .val (.int xpk_2), .val (.int xpk_3), .val (.ref apk_4), .val (.int xpk_5), .val (.int ((((0 : Int32) ||| (w 0)) ||| (w 1)) ||| (w 2))), .val (.int xpk_5), .val (.int xpk_2), .val (.int (xpk_2 + xpk_3)), .val (.int ((((0 : Int32) ||| ((w 0) <<< ((0 : Int32) &&& 31))) ||| ((w 1) <<< ((1 : Int32) &&& 31))) ||| ((w 2) <<< ((2 : Int32) &&& 31)))), .val (.int (3 : Int32))]) rfl ?_
          show Wq _ _ _ _ _ (s₁.setTop (mkF m 140 #[.val (.ref apk_1), .val (.int xpk_2), .val (.int xpk_3), .val (.ref apk_4), .val (.int xpk_5), .val (.int ((((0 : Int32) ||| (w 0)) ||| (w 1)) ||| (w 2))), .val (.int xpk_5), .val (.int xpk_2), .val (.int (xpk_2 + xpk_3)), .val (.int ((((0 : Int32) ||| ((w 0) <<< ((0 : Int32) &&& 31))) ||| ((w 1) <<< ((1 : Int32) &&& 31))) ||| ((w 2) <<< ((2 : Int32) &&& 31)))), .val (.int (3 : Int32))] []))
          refine Ow.goto X0 hx (pc' := 100) (hb hby d_prog_14_method_18_140) (by decide) (by decide) ?_
          refine Ow.iload X0 hx (pc' := 102) (hb hby d_prog_14_method_18_100) rfl ?_
          refine Ow.iload X0 hx (pc' := 104) (hb hby d_prog_14_method_18_102) rfl ?_
          refine Ow.iadd X0 hx (pc' := 105) (hb hby d_prog_14_method_18_104) (z := (xpk_2 + (3 : Int32))) rfl ?_
          refine Ow.iload X0 hx (pc' := 107) (hb hby d_prog_14_method_18_105) rfl ?_
          by_cases hc107_4 : (xpk_2 + (3 : Int32)) < (xpk_2 + xpk_3)
          · skip
            refine Ow.icmpNo X0 hx (pc' := 110) (hb hby d_prog_14_method_18_107) (tlt hc107_4).2.1 ?_
            have G3 : 3 < xpk_3.toInt := by have := (own_c2 (a := 3) hbd (own_ad hbd.1 own_z0 3 3 (by decide) (by decide))).mp hc107_4; omega
            refine Ow.iload X0 hx (pc' := 112) (hb hby d_prog_14_method_18_110) rfl ?_
            refine Ow.aloadN X0 hx (pc' := 113) (hb hby d_prog_14_method_18_112) rfl rfl ?_
            refine Ow.iload X0 hx (pc' := 115) (hb hby d_prog_14_method_18_113) rfl ?_
            refine Ow.iload X0 hx (pc' := 117) (hb hby d_prog_14_method_18_115) rfl ?_
            refine Ow.iadd X0 hx (pc' := 118) (hb hby d_prog_14_method_18_117) (z := (xpk_2 + (3 : Int32))) rfl ?_
            refine Ow.ldI X0 hx hZ e0 V_apk_1 (pc' := 119) (hb hby d_prog_14_method_18_118) (j := (xpk_2 + (3 : Int32))) (i := (own_n xpk_2 + 3)) (v := (.int (w 3))) ((own_ix (m := 3) hbd.1 (own_ad hbd.1 own_z0 3 3 (by decide) (by decide))).1) ((own_ix (m := 3) hbd.1 (own_ad hbd.1 own_z0 3 3 (by decide) (by decide))).2) (hv _ (own_in (m := 3) hbd (by omega))) ?_
            refine Ow.ior X0 hx (pc' := 120) (hb hby d_prog_14_method_18_119) (z := (((((0 : Int32) ||| (w 0)) ||| (w 1)) ||| (w 2)) ||| (w 3))) rfl ?_
            refine Ow.istore X0 hx (pc' := 122) (hb hby d_prog_14_method_18_120) (l' := #[.val (.ref apk_1), .val (.int xpk_2), .val (.int xpk_3), .val (.ref apk_4), .val (.int xpk_5), .val (.int (((((0 : Int32) ||| (w 0)) ||| (w 1)) ||| (w 2)) ||| (w 3))), .val (.int xpk_5), .val (.int xpk_2), .val (.int (xpk_2 + xpk_3)), .val (.int ((((0 : Int32) ||| ((w 0) <<< ((0 : Int32) &&& 31))) ||| ((w 1) <<< ((1 : Int32) &&& 31))) ||| ((w 2) <<< ((2 : Int32) &&& 31)))), .val (.int (3 : Int32))]) rfl ?_
            refine Ow.iload X0 hx (pc' := 124) (hb hby d_prog_14_method_18_122) rfl ?_
            refine Ow.aloadN X0 hx (pc' := 125) (hb hby d_prog_14_method_18_124) rfl rfl ?_
            refine Ow.iload X0 hx (pc' := 127) (hb hby d_prog_14_method_18_125) rfl ?_
            refine Ow.iload X0 hx (pc' := 129) (hb hby d_prog_14_method_18_127) rfl ?_
            refine Ow.iadd X0 hx (pc' := 130) (hb hby d_prog_14_method_18_129) (z := (xpk_2 + (3 : Int32))) rfl ?_
            refine Ow.ldI X0 hx hZ e0 V_apk_1 (pc' := 131) (hb hby d_prog_14_method_18_130) (j := (xpk_2 + (3 : Int32))) (i := (own_n xpk_2 + 3)) (v := (.int (w 3))) ((own_ix (m := 3) hbd.1 (own_ad hbd.1 own_z0 3 3 (by decide) (by decide))).1) ((own_ix (m := 3) hbd.1 (own_ad hbd.1 own_z0 3 3 (by decide) (by decide))).2) (hv _ (own_in (m := 3) hbd (by omega))) ?_
            refine Ow.iload X0 hx (pc' := 133) (hb hby d_prog_14_method_18_131) rfl ?_
            refine Ow.ishl X0 hx (pc' := 134) (hb hby d_prog_14_method_18_133) (z := ((w 3) <<< ((3 : Int32) &&& 31))) rfl ?_
            refine Ow.ior X0 hx (pc' := 135) (hb hby d_prog_14_method_18_134) (z := (((((0 : Int32) ||| ((w 0) <<< ((0 : Int32) &&& 31))) ||| ((w 1) <<< ((1 : Int32) &&& 31))) ||| ((w 2) <<< ((2 : Int32) &&& 31))) ||| ((w 3) <<< ((3 : Int32) &&& 31)))) rfl ?_
            refine Ow.istore X0 hx (pc' := 137) (hb hby d_prog_14_method_18_135) (l' := #[.val (.ref apk_1), .val (.int xpk_2), .val (.int xpk_3), .val (.ref apk_4), .val (.int xpk_5), .val (.int (((((0 : Int32) ||| (w 0)) ||| (w 1)) ||| (w 2)) ||| (w 3))), .val (.int xpk_5), .val (.int xpk_2), .val (.int (xpk_2 + xpk_3)), .val (.int (((((0 : Int32) ||| ((w 0) <<< ((0 : Int32) &&& 31))) ||| ((w 1) <<< ((1 : Int32) &&& 31))) ||| ((w 2) <<< ((2 : Int32) &&& 31))) ||| ((w 3) <<< ((3 : Int32) &&& 31)))), .val (.int (3 : Int32))]) rfl ?_
            refine Ow.iinc X0 hx (pc' := 140) (hb hby d_prog_14_method_18_137) rfl (l' := #[.val (.ref apk_1), .val (.int xpk_2), .val (.int xpk_3), .val (.ref apk_4), .val (.int xpk_5), .val (.int (((((0 : Int32) ||| (w 0)) ||| (w 1)) ||| (w 2)) ||| (w 3))), .val (.int xpk_5), .val (.int xpk_2), .val (.int (xpk_2 + xpk_3)), .val (.int (((((0 : Int32) ||| ((w 0) <<< ((0 : Int32) &&& 31))) ||| ((w 1) <<< ((1 : Int32) &&& 31))) ||| ((w 2) <<< ((2 : Int32) &&& 31))) ||| ((w 3) <<< ((3 : Int32) &&& 31)))), .val (.int (4 : Int32))]) rfl ?_
            show Wq _ _ _ _ _ (s₁.setTop (mkF m 140 #[.val (.ref apk_1), .val (.int xpk_2), .val (.int xpk_3), .val (.ref apk_4), .val (.int xpk_5), .val (.int (((((0 : Int32) ||| (w 0)) ||| (w 1)) ||| (w 2)) ||| (w 3))), .val (.int xpk_5), .val (.int xpk_2), .val (.int (xpk_2 + xpk_3)), .val (.int (((((0 : Int32) ||| ((w 0) <<< ((0 : Int32) &&& 31))) ||| ((w 1) <<< ((1 : Int32) &&& 31))) ||| ((w 2) <<< ((2 : Int32) &&& 31))) ||| ((w 3) <<< ((3 : Int32) &&& 31)))), .val (.int (4 : Int32))] []))
            refine Ow.goto X0 hx (pc' := 100) (hb hby d_prog_14_method_18_140) (by decide) (by decide) ?_
            refine Ow.iload X0 hx (pc' := 102) (hb hby d_prog_14_method_18_100) rfl ?_
            refine Ow.iload X0 hx (pc' := 104) (hb hby d_prog_14_method_18_102) rfl ?_
            refine Ow.iadd X0 hx (pc' := 105) (hb hby d_prog_14_method_18_104) (z := (xpk_2 + (4 : Int32))) rfl ?_
            refine Ow.iload X0 hx (pc' := 107) (hb hby d_prog_14_method_18_105) rfl ?_
            by_cases hc107_5 : (xpk_2 + (4 : Int32)) < (xpk_2 + xpk_3)
            · skip
              refine Ow.icmpNo X0 hx (pc' := 110) (hb hby d_prog_14_method_18_107) (tlt hc107_5).2.1 ?_
              have G4 : 4 < xpk_3.toInt := by have := (own_c2 (a := 4) hbd (own_ad hbd.1 own_z0 4 4 (by decide) (by decide))).mp hc107_5; omega
              refine Ow.iload X0 hx (pc' := 112) (hb hby d_prog_14_method_18_110) rfl ?_
              refine Ow.aloadN X0 hx (pc' := 113) (hb hby d_prog_14_method_18_112) rfl rfl ?_
              refine Ow.iload X0 hx (pc' := 115) (hb hby d_prog_14_method_18_113) rfl ?_
              refine Ow.iload X0 hx (pc' := 117) (hb hby d_prog_14_method_18_115) rfl ?_
              refine Ow.iadd X0 hx (pc' := 118) (hb hby d_prog_14_method_18_117) (z := (xpk_2 + (4 : Int32))) rfl ?_
              refine Ow.ldI X0 hx hZ e0 V_apk_1 (pc' := 119) (hb hby d_prog_14_method_18_118) (j := (xpk_2 + (4 : Int32))) (i := (own_n xpk_2 + 4)) (v := (.int (w 4))) ((own_ix (m := 4) hbd.1 (own_ad hbd.1 own_z0 4 4 (by decide) (by decide))).1) ((own_ix (m := 4) hbd.1 (own_ad hbd.1 own_z0 4 4 (by decide) (by decide))).2) (hv _ (own_in (m := 4) hbd (by omega))) ?_
              refine Ow.ior X0 hx (pc' := 120) (hb hby d_prog_14_method_18_119) (z := ((((((0 : Int32) ||| (w 0)) ||| (w 1)) ||| (w 2)) ||| (w 3)) ||| (w 4))) rfl ?_
              refine Ow.istore X0 hx (pc' := 122) (hb hby d_prog_14_method_18_120) (l' := #[.val (.ref apk_1), .val (.int xpk_2), .val (.int xpk_3), .val (.ref apk_4), .val (.int xpk_5), .val (.int ((((((0 : Int32) ||| (w 0)) ||| (w 1)) ||| (w 2)) ||| (w 3)) ||| (w 4))), .val (.int xpk_5), .val (.int xpk_2), .val (.int (xpk_2 + xpk_3)), .val (.int (((((0 : Int32) ||| ((w 0) <<< ((0 : Int32) &&& 31))) ||| ((w 1) <<< ((1 : Int32) &&& 31))) ||| ((w 2) <<< ((2 : Int32) &&& 31))) ||| ((w 3) <<< ((3 : Int32) &&& 31)))), .val (.int (4 : Int32))]) rfl ?_
              refine Ow.iload X0 hx (pc' := 124) (hb hby d_prog_14_method_18_122) rfl ?_
              refine Ow.aloadN X0 hx (pc' := 125) (hb hby d_prog_14_method_18_124) rfl rfl ?_
              refine Ow.iload X0 hx (pc' := 127) (hb hby d_prog_14_method_18_125) rfl ?_
              refine Ow.iload X0 hx (pc' := 129) (hb hby d_prog_14_method_18_127) rfl ?_
              refine Ow.iadd X0 hx (pc' := 130) (hb hby d_prog_14_method_18_129) (z := (xpk_2 + (4 : Int32))) rfl ?_
              refine Ow.ldI X0 hx hZ e0 V_apk_1 (pc' := 131) (hb hby d_prog_14_method_18_130) (j := (xpk_2 + (4 : Int32))) (i := (own_n xpk_2 + 4)) (v := (.int (w 4))) ((own_ix (m := 4) hbd.1 (own_ad hbd.1 own_z0 4 4 (by decide) (by decide))).1) ((own_ix (m := 4) hbd.1 (own_ad hbd.1 own_z0 4 4 (by decide) (by decide))).2) (hv _ (own_in (m := 4) hbd (by omega))) ?_
              refine Ow.iload X0 hx (pc' := 133) (hb hby d_prog_14_method_18_131) rfl ?_
              refine Ow.ishl X0 hx (pc' := 134) (hb hby d_prog_14_method_18_133) (z := ((w 4) <<< ((4 : Int32) &&& 31))) rfl ?_
              refine Ow.ior X0 hx (pc' := 135) (hb hby d_prog_14_method_18_134) (z := ((((((0 : Int32) ||| ((w 0) <<< ((0 : Int32) &&& 31))) ||| ((w 1) <<< ((1 : Int32) &&& 31))) ||| ((w 2) <<< ((2 : Int32) &&& 31))) ||| ((w 3) <<< ((3 : Int32) &&& 31))) ||| ((w 4) <<< ((4 : Int32) &&& 31)))) rfl ?_
              refine Ow.istore X0 hx (pc' := 137) (hb hby d_prog_14_method_18_135) (l' := #[.val (.ref apk_1), .val (.int xpk_2), .val (.int xpk_3), .val (.ref apk_4), .val (.int xpk_5), .val (.int ((((((0 : Int32) ||| (w 0)) ||| (w 1)) ||| (w 2)) ||| (w 3)) ||| (w 4))), .val (.int xpk_5), .val (.int xpk_2), .val (.int (xpk_2 + xpk_3)), .val (.int ((((((0 : Int32) ||| ((w 0) <<< ((0 : Int32) &&& 31))) ||| ((w 1) <<< ((1 : Int32) &&& 31))) ||| ((w 2) <<< ((2 : Int32) &&& 31))) ||| ((w 3) <<< ((3 : Int32) &&& 31))) ||| ((w 4) <<< ((4 : Int32) &&& 31)))), .val (.int (4 : Int32))]) rfl ?_
              refine Ow.iinc X0 hx (pc' := 140) (hb hby d_prog_14_method_18_137) rfl (l' := #[.val (.ref apk_1), .val (.int xpk_2), .val (.int xpk_3), .val (.ref apk_4), .val (.int xpk_5), .val (.int ((((((0 : Int32) ||| (w 0)) ||| (w 1)) ||| (w 2)) ||| (w 3)) ||| (w 4))), .val (.int xpk_5), .val (.int xpk_2), .val (.int (xpk_2 + xpk_3)), .val (.int ((((((0 : Int32) ||| ((w 0) <<< ((0 : Int32) &&& 31))) ||| ((w 1) <<< ((1 : Int32) &&& 31))) ||| ((w 2) <<< ((2 : Int32) &&& 31))) ||| ((w 3) <<< ((3 : Int32) &&& 31))) ||| ((w 4) <<< ((4 : Int32) &&& 31)))), .val (.int (5 : Int32))]) rfl ?_
              show Wq _ _ _ _ _ (s₁.setTop (mkF m 140 #[.val (.ref apk_1), .val (.int xpk_2), .val (.int xpk_3), .val (.ref apk_4), .val (.int xpk_5), .val (.int ((((((0 : Int32) ||| (w 0)) ||| (w 1)) ||| (w 2)) ||| (w 3)) ||| (w 4))), .val (.int xpk_5), .val (.int xpk_2), .val (.int (xpk_2 + xpk_3)), .val (.int ((((((0 : Int32) ||| ((w 0) <<< ((0 : Int32) &&& 31))) ||| ((w 1) <<< ((1 : Int32) &&& 31))) ||| ((w 2) <<< ((2 : Int32) &&& 31))) ||| ((w 3) <<< ((3 : Int32) &&& 31))) ||| ((w 4) <<< ((4 : Int32) &&& 31)))), .val (.int (5 : Int32))] []))
              refine Ow.goto X0 hx (pc' := 100) (hb hby d_prog_14_method_18_140) (by decide) (by decide) ?_
              refine Ow.iload X0 hx (pc' := 102) (hb hby d_prog_14_method_18_100) rfl ?_
              refine Ow.iload X0 hx (pc' := 104) (hb hby d_prog_14_method_18_102) rfl ?_
              refine Ow.iadd X0 hx (pc' := 105) (hb hby d_prog_14_method_18_104) (z := (xpk_2 + (5 : Int32))) rfl ?_
              refine Ow.iload X0 hx (pc' := 107) (hb hby d_prog_14_method_18_105) rfl ?_
              by_cases hc107_6 : (xpk_2 + (5 : Int32)) < (xpk_2 + xpk_3)
              · skip
                refine Ow.icmpNo X0 hx (pc' := 110) (hb hby d_prog_14_method_18_107) (tlt hc107_6).2.1 ?_
                have G5 : 5 < xpk_3.toInt := by have := (own_c2 (a := 5) hbd (own_ad hbd.1 own_z0 5 5 (by decide) (by decide))).mp hc107_6; omega
                refine Ow.iload X0 hx (pc' := 112) (hb hby d_prog_14_method_18_110) rfl ?_
                refine Ow.aloadN X0 hx (pc' := 113) (hb hby d_prog_14_method_18_112) rfl rfl ?_
                refine Ow.iload X0 hx (pc' := 115) (hb hby d_prog_14_method_18_113) rfl ?_
                refine Ow.iload X0 hx (pc' := 117) (hb hby d_prog_14_method_18_115) rfl ?_
                refine Ow.iadd X0 hx (pc' := 118) (hb hby d_prog_14_method_18_117) (z := (xpk_2 + (5 : Int32))) rfl ?_
                refine Ow.ldI X0 hx hZ e0 V_apk_1 (pc' := 119) (hb hby d_prog_14_method_18_118) (j := (xpk_2 + (5 : Int32))) (i := (own_n xpk_2 + 5)) (v := (.int (w 5))) ((own_ix (m := 5) hbd.1 (own_ad hbd.1 own_z0 5 5 (by decide) (by decide))).1) ((own_ix (m := 5) hbd.1 (own_ad hbd.1 own_z0 5 5 (by decide) (by decide))).2) (hv _ (own_in (m := 5) hbd (by omega))) ?_
                refine Ow.ior X0 hx (pc' := 120) (hb hby d_prog_14_method_18_119) (z := (((((((0 : Int32) ||| (w 0)) ||| (w 1)) ||| (w 2)) ||| (w 3)) ||| (w 4)) ||| (w 5))) rfl ?_
                refine Ow.istore X0 hx (pc' := 122) (hb hby d_prog_14_method_18_120) (l' := #[.val (.ref apk_1), .val (.int xpk_2), .val (.int xpk_3), .val (.ref apk_4), .val (.int xpk_5), .val (.int (((((((0 : Int32) ||| (w 0)) ||| (w 1)) ||| (w 2)) ||| (w 3)) ||| (w 4)) ||| (w 5))), .val (.int xpk_5), .val (.int xpk_2), .val (.int (xpk_2 + xpk_3)), .val (.int ((((((0 : Int32) ||| ((w 0) <<< ((0 : Int32) &&& 31))) ||| ((w 1) <<< ((1 : Int32) &&& 31))) ||| ((w 2) <<< ((2 : Int32) &&& 31))) ||| ((w 3) <<< ((3 : Int32) &&& 31))) ||| ((w 4) <<< ((4 : Int32) &&& 31)))), .val (.int (5 : Int32))]) rfl ?_
                refine Ow.iload X0 hx (pc' := 124) (hb hby d_prog_14_method_18_122) rfl ?_
                refine Ow.aloadN X0 hx (pc' := 125) (hb hby d_prog_14_method_18_124) rfl rfl ?_
                refine Ow.iload X0 hx (pc' := 127) (hb hby d_prog_14_method_18_125) rfl ?_
                refine Ow.iload X0 hx (pc' := 129) (hb hby d_prog_14_method_18_127) rfl ?_
                refine Ow.iadd X0 hx (pc' := 130) (hb hby d_prog_14_method_18_129) (z := (xpk_2 + (5 : Int32))) rfl ?_
                refine Ow.ldI X0 hx hZ e0 V_apk_1 (pc' := 131) (hb hby d_prog_14_method_18_130) (j := (xpk_2 + (5 : Int32))) (i := (own_n xpk_2 + 5)) (v := (.int (w 5))) ((own_ix (m := 5) hbd.1 (own_ad hbd.1 own_z0 5 5 (by decide) (by decide))).1) ((own_ix (m := 5) hbd.1 (own_ad hbd.1 own_z0 5 5 (by decide) (by decide))).2) (hv _ (own_in (m := 5) hbd (by omega))) ?_
                refine Ow.iload X0 hx (pc' := 133) (hb hby d_prog_14_method_18_131) rfl ?_
                refine Ow.ishl X0 hx (pc' := 134) (hb hby d_prog_14_method_18_133) (z := ((w 5) <<< ((5 : Int32) &&& 31))) rfl ?_
                refine Ow.ior X0 hx (pc' := 135) (hb hby d_prog_14_method_18_134) (z := (((((((0 : Int32) ||| ((w 0) <<< ((0 : Int32) &&& 31))) ||| ((w 1) <<< ((1 : Int32) &&& 31))) ||| ((w 2) <<< ((2 : Int32) &&& 31))) ||| ((w 3) <<< ((3 : Int32) &&& 31))) ||| ((w 4) <<< ((4 : Int32) &&& 31))) ||| ((w 5) <<< ((5 : Int32) &&& 31)))) rfl ?_
                refine Ow.istore X0 hx (pc' := 137) (hb hby d_prog_14_method_18_135) (l' := #[.val (.ref apk_1), .val (.int xpk_2), .val (.int xpk_3), .val (.ref apk_4), .val (.int xpk_5), .val (.int (((((((0 : Int32) ||| (w 0)) ||| (w 1)) ||| (w 2)) ||| (w 3)) ||| (w 4)) ||| (w 5))), .val (.int xpk_5), .val (.int xpk_2), .val (.int (xpk_2 + xpk_3)), .val (.int (((((((0 : Int32) ||| ((w 0) <<< ((0 : Int32) &&& 31))) ||| ((w 1) <<< ((1 : Int32) &&& 31))) ||| ((w 2) <<< ((2 : Int32) &&& 31))) ||| ((w 3) <<< ((3 : Int32) &&& 31))) ||| ((w 4) <<< ((4 : Int32) &&& 31))) ||| ((w 5) <<< ((5 : Int32) &&& 31)))), .val (.int (5 : Int32))]) rfl ?_
                refine Ow.iinc X0 hx (pc' := 140) (hb hby d_prog_14_method_18_137) rfl (l' := #[.val (.ref apk_1), .val (.int xpk_2), .val (.int xpk_3), .val (.ref apk_4), .val (.int xpk_5), .val (.int (((((((0 : Int32) ||| (w 0)) ||| (w 1)) ||| (w 2)) ||| (w 3)) ||| (w 4)) ||| (w 5))), .val (.int xpk_5), .val (.int xpk_2), .val (.int (xpk_2 + xpk_3)), .val (.int (((((((0 : Int32) ||| ((w 0) <<< ((0 : Int32) &&& 31))) ||| ((w 1) <<< ((1 : Int32) &&& 31))) ||| ((w 2) <<< ((2 : Int32) &&& 31))) ||| ((w 3) <<< ((3 : Int32) &&& 31))) ||| ((w 4) <<< ((4 : Int32) &&& 31))) ||| ((w 5) <<< ((5 : Int32) &&& 31)))), .val (.int (6 : Int32))]) rfl ?_
                show Wq _ _ _ _ _ (s₁.setTop (mkF m 140 #[.val (.ref apk_1), .val (.int xpk_2), .val (.int xpk_3), .val (.ref apk_4), .val (.int xpk_5), .val (.int (((((((0 : Int32) ||| (w 0)) ||| (w 1)) ||| (w 2)) ||| (w 3)) ||| (w 4)) ||| (w 5))), .val (.int xpk_5), .val (.int xpk_2), .val (.int (xpk_2 + xpk_3)), .val (.int (((((((0 : Int32) ||| ((w 0) <<< ((0 : Int32) &&& 31))) ||| ((w 1) <<< ((1 : Int32) &&& 31))) ||| ((w 2) <<< ((2 : Int32) &&& 31))) ||| ((w 3) <<< ((3 : Int32) &&& 31))) ||| ((w 4) <<< ((4 : Int32) &&& 31))) ||| ((w 5) <<< ((5 : Int32) &&& 31)))), .val (.int (6 : Int32))] []))
                refine Ow.goto X0 hx (pc' := 100) (hb hby d_prog_14_method_18_140) (by decide) (by decide) ?_
                refine Ow.iload X0 hx (pc' := 102) (hb hby d_prog_14_method_18_100) rfl ?_
                refine Ow.iload X0 hx (pc' := 104) (hb hby d_prog_14_method_18_102) rfl ?_
                refine Ow.iadd X0 hx (pc' := 105) (hb hby d_prog_14_method_18_104) (z := (xpk_2 + (6 : Int32))) rfl ?_
                refine Ow.iload X0 hx (pc' := 107) (hb hby d_prog_14_method_18_105) rfl ?_
                by_cases hc107_7 : (xpk_2 + (6 : Int32)) < (xpk_2 + xpk_3)
                · skip
                  refine Ow.icmpNo X0 hx (pc' := 110) (hb hby d_prog_14_method_18_107) (tlt hc107_7).2.1 ?_
                  have G6 : 6 < xpk_3.toInt := by have := (own_c2 (a := 6) hbd (own_ad hbd.1 own_z0 6 6 (by decide) (by decide))).mp hc107_7; omega
                  refine Ow.iload X0 hx (pc' := 112) (hb hby d_prog_14_method_18_110) rfl ?_
                  refine Ow.aloadN X0 hx (pc' := 113) (hb hby d_prog_14_method_18_112) rfl rfl ?_
                  refine Ow.iload X0 hx (pc' := 115) (hb hby d_prog_14_method_18_113) rfl ?_
                  refine Ow.iload X0 hx (pc' := 117) (hb hby d_prog_14_method_18_115) rfl ?_
                  refine Ow.iadd X0 hx (pc' := 118) (hb hby d_prog_14_method_18_117) (z := (xpk_2 + (6 : Int32))) rfl ?_
                  refine Ow.ldI X0 hx hZ e0 V_apk_1 (pc' := 119) (hb hby d_prog_14_method_18_118) (j := (xpk_2 + (6 : Int32))) (i := (own_n xpk_2 + 6)) (v := (.int (w 6))) ((own_ix (m := 6) hbd.1 (own_ad hbd.1 own_z0 6 6 (by decide) (by decide))).1) ((own_ix (m := 6) hbd.1 (own_ad hbd.1 own_z0 6 6 (by decide) (by decide))).2) (hv _ (own_in (m := 6) hbd (by omega))) ?_
                  refine Ow.ior X0 hx (pc' := 120) (hb hby d_prog_14_method_18_119) (z := ((((((((0 : Int32) ||| (w 0)) ||| (w 1)) ||| (w 2)) ||| (w 3)) ||| (w 4)) ||| (w 5)) ||| (w 6))) rfl ?_
                  refine Ow.istore X0 hx (pc' := 122) (hb hby d_prog_14_method_18_120) (l' := #[.val (.ref apk_1), .val (.int xpk_2), .val (.int xpk_3), .val (.ref apk_4), .val (.int xpk_5), .val (.int ((((((((0 : Int32) ||| (w 0)) ||| (w 1)) ||| (w 2)) ||| (w 3)) ||| (w 4)) ||| (w 5)) ||| (w 6))), .val (.int xpk_5), .val (.int xpk_2), .val (.int (xpk_2 + xpk_3)), .val (.int (((((((0 : Int32) ||| ((w 0) <<< ((0 : Int32) &&& 31))) ||| ((w 1) <<< ((1 : Int32) &&& 31))) ||| ((w 2) <<< ((2 : Int32) &&& 31))) ||| ((w 3) <<< ((3 : Int32) &&& 31))) ||| ((w 4) <<< ((4 : Int32) &&& 31))) ||| ((w 5) <<< ((5 : Int32) &&& 31)))), .val (.int (6 : Int32))]) rfl ?_
                  refine Ow.iload X0 hx (pc' := 124) (hb hby d_prog_14_method_18_122) rfl ?_
                  refine Ow.aloadN X0 hx (pc' := 125) (hb hby d_prog_14_method_18_124) rfl rfl ?_
                  refine Ow.iload X0 hx (pc' := 127) (hb hby d_prog_14_method_18_125) rfl ?_
                  refine Ow.iload X0 hx (pc' := 129) (hb hby d_prog_14_method_18_127) rfl ?_
                  refine Ow.iadd X0 hx (pc' := 130) (hb hby d_prog_14_method_18_129) (z := (xpk_2 + (6 : Int32))) rfl ?_
                  refine Ow.ldI X0 hx hZ e0 V_apk_1 (pc' := 131) (hb hby d_prog_14_method_18_130) (j := (xpk_2 + (6 : Int32))) (i := (own_n xpk_2 + 6)) (v := (.int (w 6))) ((own_ix (m := 6) hbd.1 (own_ad hbd.1 own_z0 6 6 (by decide) (by decide))).1) ((own_ix (m := 6) hbd.1 (own_ad hbd.1 own_z0 6 6 (by decide) (by decide))).2) (hv _ (own_in (m := 6) hbd (by omega))) ?_
                  refine Ow.iload X0 hx (pc' := 133) (hb hby d_prog_14_method_18_131) rfl ?_
                  refine Ow.ishl X0 hx (pc' := 134) (hb hby d_prog_14_method_18_133) (z := ((w 6) <<< ((6 : Int32) &&& 31))) rfl ?_
                  refine Ow.ior X0 hx (pc' := 135) (hb hby d_prog_14_method_18_134) (z := ((((((((0 : Int32) ||| ((w 0) <<< ((0 : Int32) &&& 31))) ||| ((w 1) <<< ((1 : Int32) &&& 31))) ||| ((w 2) <<< ((2 : Int32) &&& 31))) ||| ((w 3) <<< ((3 : Int32) &&& 31))) ||| ((w 4) <<< ((4 : Int32) &&& 31))) ||| ((w 5) <<< ((5 : Int32) &&& 31))) ||| ((w 6) <<< ((6 : Int32) &&& 31)))) rfl ?_
                  refine Ow.istore X0 hx (pc' := 137) (hb hby d_prog_14_method_18_135) (l' := #[.val (.ref apk_1), .val (.int xpk_2), .val (.int xpk_3), .val (.ref apk_4), .val (.int xpk_5), .val (.int ((((((((0 : Int32) ||| (w 0)) ||| (w 1)) ||| (w 2)) ||| (w 3)) ||| (w 4)) ||| (w 5)) ||| (w 6))), .val (.int xpk_5), .val (.int xpk_2), .val (.int (xpk_2 + xpk_3)), .val (.int ((((((((0 : Int32) ||| ((w 0) <<< ((0 : Int32) &&& 31))) ||| ((w 1) <<< ((1 : Int32) &&& 31))) ||| ((w 2) <<< ((2 : Int32) &&& 31))) ||| ((w 3) <<< ((3 : Int32) &&& 31))) ||| ((w 4) <<< ((4 : Int32) &&& 31))) ||| ((w 5) <<< ((5 : Int32) &&& 31))) ||| ((w 6) <<< ((6 : Int32) &&& 31)))), .val (.int (6 : Int32))]) rfl ?_
                  refine Ow.iinc X0 hx (pc' := 140) (hb hby d_prog_14_method_18_137) rfl (l' := #[.val (.ref apk_1), .val (.int xpk_2), .val (.int xpk_3), .val (.ref apk_4), .val (.int xpk_5), .val (.int ((((((((0 : Int32) ||| (w 0)) ||| (w 1)) ||| (w 2)) ||| (w 3)) ||| (w 4)) ||| (w 5)) ||| (w 6))), .val (.int xpk_5), .val (.int xpk_2), .val (.int (xpk_2 + xpk_3)), .val (.int ((((((((0 : Int32) ||| ((w 0) <<< ((0 : Int32) &&& 31))) ||| ((w 1) <<< ((1 : Int32) &&& 31))) ||| ((w 2) <<< ((2 : Int32) &&& 31))) ||| ((w 3) <<< ((3 : Int32) &&& 31))) ||| ((w 4) <<< ((4 : Int32) &&& 31))) ||| ((w 5) <<< ((5 : Int32) &&& 31))) ||| ((w 6) <<< ((6 : Int32) &&& 31)))), .val (.int (7 : Int32))]) rfl ?_
                  show Wq _ _ _ _ _ (s₁.setTop (mkF m 140 #[.val (.ref apk_1), .val (.int xpk_2), .val (.int xpk_3), .val (.ref apk_4), .val (.int xpk_5), .val (.int ((((((((0 : Int32) ||| (w 0)) ||| (w 1)) ||| (w 2)) ||| (w 3)) ||| (w 4)) ||| (w 5)) ||| (w 6))), .val (.int xpk_5), .val (.int xpk_2), .val (.int (xpk_2 + xpk_3)), .val (.int ((((((((0 : Int32) ||| ((w 0) <<< ((0 : Int32) &&& 31))) ||| ((w 1) <<< ((1 : Int32) &&& 31))) ||| ((w 2) <<< ((2 : Int32) &&& 31))) ||| ((w 3) <<< ((3 : Int32) &&& 31))) ||| ((w 4) <<< ((4 : Int32) &&& 31))) ||| ((w 5) <<< ((5 : Int32) &&& 31))) ||| ((w 6) <<< ((6 : Int32) &&& 31)))), .val (.int (7 : Int32))] []))
                  refine Ow.goto X0 hx (pc' := 100) (hb hby d_prog_14_method_18_140) (by decide) (by decide) ?_
                  refine Ow.iload X0 hx (pc' := 102) (hb hby d_prog_14_method_18_100) rfl ?_
                  refine Ow.iload X0 hx (pc' := 104) (hb hby d_prog_14_method_18_102) rfl ?_
                  refine Ow.iadd X0 hx (pc' := 105) (hb hby d_prog_14_method_18_104) (z := (xpk_2 + (7 : Int32))) rfl ?_
                  refine Ow.iload X0 hx (pc' := 107) (hb hby d_prog_14_method_18_105) rfl ?_
                  refine Ow.icmpYes X0 hx (pc' := 143) (hb hby d_prog_14_method_18_107) (flt (mt (own_c2 (a := 7) hbd (own_ad hbd.1 own_z0 7 7 (by decide) (by decide))).mp (by have := hbd.2.2.2; have := hbd.1.1; omega) : ¬ ((xpk_2 + (7 : Int32)) < (xpk_2 + xpk_3)))).2.1 (by decide) (by decide) ?_
                  have HN : own_n xpk_3 = 7 := own_cn (n := 7) (by omega)
                  refine Ow.aloadN X0 hx (pc' := 144) (hb hby d_prog_14_method_18_143) rfl rfl ?_
                  refine Ow.iload X0 hx (pc' := 146) (hb hby d_prog_14_method_18_144) rfl ?_
                  refine Ow.iload X0 hx (pc' := 148) (hb hby d_prog_14_method_18_146) rfl ?_
                  refine Ow.i2b X0 hx (pc' := 149) (hb hby d_prog_14_method_18_148) (z := (((((((((0 : Int32) ||| ((w 0) <<< ((0 : Int32) &&& 31))) ||| ((w 1) <<< ((1 : Int32) &&& 31))) ||| ((w 2) <<< ((2 : Int32) &&& 31))) ||| ((w 3) <<< ((3 : Int32) &&& 31))) ||| ((w 4) <<< ((4 : Int32) &&& 31))) ||| ((w 5) <<< ((5 : Int32) &&& 31))) ||| ((w 6) <<< ((6 : Int32) &&& 31))).toInt8.toInt32)) rfl ?_
                  obtain ⟨T21, h21, X21, e21, W21, Vr21, st21⟩ := asB X0 hx hZ e0 V_apk_4 (j := xpk_5) (i := (own_n xpk_5 + 0)) ((own_ix (m := 0) hbd.2.1 own_z0).1) ((own_ix (m := 0) hbd.2.1 own_z0).2) (own_ln hbd.2.1 (by first | exact hl | (simp only [List.length_set]; exact hl)) (by decide)) (y := ((((((((((0 : Int32) ||| ((w 0) <<< ((0 : Int32) &&& 31))) ||| ((w 1) <<< ((1 : Int32) &&& 31))) ||| ((w 2) <<< ((2 : Int32) &&& 31))) ||| ((w 3) <<< ((3 : Int32) &&& 31))) ||| ((w 4) <<< ((4 : Int32) &&& 31))) ||| ((w 5) <<< ((5 : Int32) &&& 31))) ||| ((w 6) <<< ((6 : Int32) &&& 31))).toInt8.toInt32).toInt8.toInt32)) (rfl) (g := (mkF m 149 #[.val (.ref apk_1), .val (.int xpk_2), .val (.int xpk_3), .val (.ref apk_4), .val (.int xpk_5), .val (.int ((((((((0 : Int32) ||| (w 0)) ||| (w 1)) ||| (w 2)) ||| (w 3)) ||| (w 4)) ||| (w 5)) ||| (w 6))), .val (.int xpk_5), .val (.int xpk_2), .val (.int (xpk_2 + xpk_3)), .val (.int ((((((((0 : Int32) ||| ((w 0) <<< ((0 : Int32) &&& 31))) ||| ((w 1) <<< ((1 : Int32) &&& 31))) ||| ((w 2) <<< ((2 : Int32) &&& 31))) ||| ((w 3) <<< ((3 : Int32) &&& 31))) ||| ((w 4) <<< ((4 : Int32) &&& 31))) ||| ((w 5) <<< ((5 : Int32) &&& 31))) ||| ((w 6) <<< ((6 : Int32) &&& 31)))), .val (.int (7 : Int32))] [(.int (((((((((0 : Int32) ||| ((w 0) <<< ((0 : Int32) &&& 31))) ||| ((w 1) <<< ((1 : Int32) &&& 31))) ||| ((w 2) <<< ((2 : Int32) &&& 31))) ||| ((w 3) <<< ((3 : Int32) &&& 31))) ||| ((w 4) <<< ((4 : Int32) &&& 31))) ||| ((w 5) <<< ((5 : Int32) &&& 31))) ||| ((w 6) <<< ((6 : Int32) &&& 31))).toInt8.toInt32)), (.int xpk_5), (.ref apk_4)])) rfl rfl (hb hby d_prog_14_method_18_149)
                  refine Wq.step st21 ?_
                  have N21 := Fr.snoc X21 N0 g_apk_4
                  have K21 : Keep h0 h21 [apk_4] := (Keep.refl h0 [apk_4]).wr W21 (Or.inl (List.mem_of_getElem? (i := 0) rfl))
                  have Z21 : n0 ≤ h21.size := Nat.le_trans Z0 (Keep.of_wr W21).1
                  have V_apk_1_t21 := V_apk_1.other W21 ne_apk_1_apk_4
                  have V_apk_4_t21 : Al Z h21 apk_4 .byte (ds.set (own_n xpk_5 + 0) (.int ((((((((((0 : Int32) ||| ((w 0) <<< ((0 : Int32) &&& 31))) ||| ((w 1) <<< ((1 : Int32) &&& 31))) ||| ((w 2) <<< ((2 : Int32) &&& 31))) ||| ((w 3) <<< ((3 : Int32) &&& 31))) ||| ((w 4) <<< ((4 : Int32) &&& 31))) ||| ((w 5) <<< ((5 : Int32) &&& 31))) ||| ((w 6) <<< ((6 : Int32) &&& 31))).toInt8.toInt32).toInt8.toInt32))) := Vr21
                  show Wq _ _ _ _ _ (T21.setTop (mkF m 150 #[.val (.ref apk_1), .val (.int xpk_2), .val (.int xpk_3), .val (.ref apk_4), .val (.int xpk_5), .val (.int ((((((((0 : Int32) ||| (w 0)) ||| (w 1)) ||| (w 2)) ||| (w 3)) ||| (w 4)) ||| (w 5)) ||| (w 6))), .val (.int xpk_5), .val (.int xpk_2), .val (.int (xpk_2 + xpk_3)), .val (.int ((((((((0 : Int32) ||| ((w 0) <<< ((0 : Int32) &&& 31))) ||| ((w 1) <<< ((1 : Int32) &&& 31))) ||| ((w 2) <<< ((2 : Int32) &&& 31))) ||| ((w 3) <<< ((3 : Int32) &&& 31))) ||| ((w 4) <<< ((4 : Int32) &&& 31))) ||| ((w 5) <<< ((5 : Int32) &&& 31))) ||| ((w 6) <<< ((6 : Int32) &&& 31)))), .val (.int (7 : Int32))] []))
                  refine Ow.iload X21 hx (pc' := 152) (hb hby d_prog_14_method_18_150) rfl ?_
                  exact Wq.ret X21 (BodyLoose.notSynchronized Bd) (rv := some (.int ((((((((0 : Int32) ||| (w 0)) ||| (w 1)) ||| (w 2)) ||| (w 3)) ||| (w 4)) ||| (w 5)) ||| (w 6)))) (fun h => by rw [Bd.returns] at h; cases h) (fun _ hr => retOut X21 hx Bd.returns rfl (Or.inl ⟨rfl, Or.inl rfl, _, rfl⟩) (hb hby d_prog_14_method_18_152) hr) (by decide) (by decide) (by rw [e21]; exact ⟨by rw [HN]; rfl, N21, K21, (by rw [HN]; exact V_apk_4_t21)⟩)
                · skip
                  refine Ow.icmpYes X0 hx (pc' := 143) (hb hby d_prog_14_method_18_107) (flt hc107_7).2.1 (by decide) (by decide) ?_
                  have HN : own_n xpk_3 = 6 := own_cn (n := 6) (by have := mt (own_c2 (a := 6) hbd (own_ad hbd.1 own_z0 6 6 (by decide) (by decide))).mpr hc107_7; omega)
                  refine Ow.aloadN X0 hx (pc' := 144) (hb hby d_prog_14_method_18_143) rfl rfl ?_
                  refine Ow.iload X0 hx (pc' := 146) (hb hby d_prog_14_method_18_144) rfl ?_
                  refine Ow.iload X0 hx (pc' := 148) (hb hby d_prog_14_method_18_146) rfl ?_
                  refine Ow.i2b X0 hx (pc' := 149) (hb hby d_prog_14_method_18_148) (z := ((((((((0 : Int32) ||| ((w 0) <<< ((0 : Int32) &&& 31))) ||| ((w 1) <<< ((1 : Int32) &&& 31))) ||| ((w 2) <<< ((2 : Int32) &&& 31))) ||| ((w 3) <<< ((3 : Int32) &&& 31))) ||| ((w 4) <<< ((4 : Int32) &&& 31))) ||| ((w 5) <<< ((5 : Int32) &&& 31))).toInt8.toInt32)) rfl ?_
                  obtain ⟨T22, h22, X22, e22, W22, Vr22, st22⟩ := asB X0 hx hZ e0 V_apk_4 (j := xpk_5) (i := (own_n xpk_5 + 0)) ((own_ix (m := 0) hbd.2.1 own_z0).1) ((own_ix (m := 0) hbd.2.1 own_z0).2) (own_ln hbd.2.1 (by first | exact hl | (simp only [List.length_set]; exact hl)) (by decide)) (y := (((((((((0 : Int32) ||| ((w 0) <<< ((0 : Int32) &&& 31))) ||| ((w 1) <<< ((1 : Int32) &&& 31))) ||| ((w 2) <<< ((2 : Int32) &&& 31))) ||| ((w 3) <<< ((3 : Int32) &&& 31))) ||| ((w 4) <<< ((4 : Int32) &&& 31))) ||| ((w 5) <<< ((5 : Int32) &&& 31))).toInt8.toInt32).toInt8.toInt32)) (rfl) (g := (mkF m 149 #[.val (.ref apk_1), .val (.int xpk_2), .val (.int xpk_3), .val (.ref apk_4), .val (.int xpk_5), .val (.int (((((((0 : Int32) ||| (w 0)) ||| (w 1)) ||| (w 2)) ||| (w 3)) ||| (w 4)) ||| (w 5))), .val (.int xpk_5), .val (.int xpk_2), .val (.int (xpk_2 + xpk_3)), .val (.int (((((((0 : Int32) ||| ((w 0) <<< ((0 : Int32) &&& 31))) ||| ((w 1) <<< ((1 : Int32) &&& 31))) ||| ((w 2) <<< ((2 : Int32) &&& 31))) ||| ((w 3) <<< ((3 : Int32) &&& 31))) ||| ((w 4) <<< ((4 : Int32) &&& 31))) ||| ((w 5) <<< ((5 : Int32) &&& 31)))), .val (.int (6 : Int32))] [(.int ((((((((0 : Int32) ||| ((w 0) <<< ((0 : Int32) &&& 31))) ||| ((w 1) <<< ((1 : Int32) &&& 31))) ||| ((w 2) <<< ((2 : Int32) &&& 31))) ||| ((w 3) <<< ((3 : Int32) &&& 31))) ||| ((w 4) <<< ((4 : Int32) &&& 31))) ||| ((w 5) <<< ((5 : Int32) &&& 31))).toInt8.toInt32)), (.int xpk_5), (.ref apk_4)])) rfl rfl (hb hby d_prog_14_method_18_149)
                  refine Wq.step st22 ?_
                  have N22 := Fr.snoc X22 N0 g_apk_4
                  have K22 : Keep h0 h22 [apk_4] := (Keep.refl h0 [apk_4]).wr W22 (Or.inl (List.mem_of_getElem? (i := 0) rfl))
                  have Z22 : n0 ≤ h22.size := Nat.le_trans Z0 (Keep.of_wr W22).1
                  have V_apk_1_t22 := V_apk_1.other W22 ne_apk_1_apk_4
                  have V_apk_4_t22 : Al Z h22 apk_4 .byte (ds.set (own_n xpk_5 + 0) (.int (((((((((0 : Int32) ||| ((w 0) <<< ((0 : Int32) &&& 31))) ||| ((w 1) <<< ((1 : Int32) &&& 31))) ||| ((w 2) <<< ((2 : Int32) &&& 31))) ||| ((w 3) <<< ((3 : Int32) &&& 31))) ||| ((w 4) <<< ((4 : Int32) &&& 31))) ||| ((w 5) <<< ((5 : Int32) &&& 31))).toInt8.toInt32).toInt8.toInt32))) := Vr22
                  show Wq _ _ _ _ _ (T22.setTop (mkF m 150 #[.val (.ref apk_1), .val (.int xpk_2), .val (.int xpk_3), .val (.ref apk_4), .val (.int xpk_5), .val (.int (((((((0 : Int32) ||| (w 0)) ||| (w 1)) ||| (w 2)) ||| (w 3)) ||| (w 4)) ||| (w 5))), .val (.int xpk_5), .val (.int xpk_2), .val (.int (xpk_2 + xpk_3)), .val (.int (((((((0 : Int32) ||| ((w 0) <<< ((0 : Int32) &&& 31))) ||| ((w 1) <<< ((1 : Int32) &&& 31))) ||| ((w 2) <<< ((2 : Int32) &&& 31))) ||| ((w 3) <<< ((3 : Int32) &&& 31))) ||| ((w 4) <<< ((4 : Int32) &&& 31))) ||| ((w 5) <<< ((5 : Int32) &&& 31)))), .val (.int (6 : Int32))] []))
                  refine Ow.iload X22 hx (pc' := 152) (hb hby d_prog_14_method_18_150) rfl ?_
                  exact Wq.ret X22 (BodyLoose.notSynchronized Bd) (rv := some (.int (((((((0 : Int32) ||| (w 0)) ||| (w 1)) ||| (w 2)) ||| (w 3)) ||| (w 4)) ||| (w 5)))) (fun h => by rw [Bd.returns] at h; cases h) (fun _ hr => retOut X22 hx Bd.returns rfl (Or.inl ⟨rfl, Or.inl rfl, _, rfl⟩) (hb hby d_prog_14_method_18_152) hr) (by decide) (by decide) (by rw [e22]; exact ⟨by rw [HN]; rfl, N22, K22, (by rw [HN]; exact V_apk_4_t22)⟩)
              · skip
                refine Ow.icmpYes X0 hx (pc' := 143) (hb hby d_prog_14_method_18_107) (flt hc107_6).2.1 (by decide) (by decide) ?_
                have HN : own_n xpk_3 = 5 := own_cn (n := 5) (by have := mt (own_c2 (a := 5) hbd (own_ad hbd.1 own_z0 5 5 (by decide) (by decide))).mpr hc107_6; omega)
                refine Ow.aloadN X0 hx (pc' := 144) (hb hby d_prog_14_method_18_143) rfl rfl ?_
                refine Ow.iload X0 hx (pc' := 146) (hb hby d_prog_14_method_18_144) rfl ?_
                refine Ow.iload X0 hx (pc' := 148) (hb hby d_prog_14_method_18_146) rfl ?_
                refine Ow.i2b X0 hx (pc' := 149) (hb hby d_prog_14_method_18_148) (z := (((((((0 : Int32) ||| ((w 0) <<< ((0 : Int32) &&& 31))) ||| ((w 1) <<< ((1 : Int32) &&& 31))) ||| ((w 2) <<< ((2 : Int32) &&& 31))) ||| ((w 3) <<< ((3 : Int32) &&& 31))) ||| ((w 4) <<< ((4 : Int32) &&& 31))).toInt8.toInt32)) rfl ?_
                obtain ⟨T23, h23, X23, e23, W23, Vr23, st23⟩ := asB X0 hx hZ e0 V_apk_4 (j := xpk_5) (i := (own_n xpk_5 + 0)) ((own_ix (m := 0) hbd.2.1 own_z0).1) ((own_ix (m := 0) hbd.2.1 own_z0).2) (own_ln hbd.2.1 (by first | exact hl | (simp only [List.length_set]; exact hl)) (by decide)) (y := ((((((((0 : Int32) ||| ((w 0) <<< ((0 : Int32) &&& 31))) ||| ((w 1) <<< ((1 : Int32) &&& 31))) ||| ((w 2) <<< ((2 : Int32) &&& 31))) ||| ((w 3) <<< ((3 : Int32) &&& 31))) ||| ((w 4) <<< ((4 : Int32) &&& 31))).toInt8.toInt32).toInt8.toInt32)) (rfl) (g := (mkF m 149 #[.val (.ref apk_1), .val (.int xpk_2), .val (.int xpk_3), .val (.ref apk_4), .val (.int xpk_5), .val (.int ((((((0 : Int32) ||| (w 0)) ||| (w 1)) ||| (w 2)) ||| (w 3)) ||| (w 4))), .val (.int xpk_5), .val (.int xpk_2), .val (.int (xpk_2 + xpk_3)), .val (.int ((((((0 : Int32) ||| ((w 0) <<< ((0 : Int32) &&& 31))) ||| ((w 1) <<< ((1 : Int32) &&& 31))) ||| ((w 2) <<< ((2 : Int32) &&& 31))) ||| ((w 3) <<< ((3 : Int32) &&& 31))) ||| ((w 4) <<< ((4 : Int32) &&& 31)))), .val (.int (5 : Int32))] [(.int (((((((0 : Int32) ||| ((w 0) <<< ((0 : Int32) &&& 31))) ||| ((w 1) <<< ((1 : Int32) &&& 31))) ||| ((w 2) <<< ((2 : Int32) &&& 31))) ||| ((w 3) <<< ((3 : Int32) &&& 31))) ||| ((w 4) <<< ((4 : Int32) &&& 31))).toInt8.toInt32)), (.int xpk_5), (.ref apk_4)])) rfl rfl (hb hby d_prog_14_method_18_149)
                refine Wq.step st23 ?_
                have N23 := Fr.snoc X23 N0 g_apk_4
                have K23 : Keep h0 h23 [apk_4] := (Keep.refl h0 [apk_4]).wr W23 (Or.inl (List.mem_of_getElem? (i := 0) rfl))
                have Z23 : n0 ≤ h23.size := Nat.le_trans Z0 (Keep.of_wr W23).1
                have V_apk_1_t23 := V_apk_1.other W23 ne_apk_1_apk_4
                have V_apk_4_t23 : Al Z h23 apk_4 .byte (ds.set (own_n xpk_5 + 0) (.int ((((((((0 : Int32) ||| ((w 0) <<< ((0 : Int32) &&& 31))) ||| ((w 1) <<< ((1 : Int32) &&& 31))) ||| ((w 2) <<< ((2 : Int32) &&& 31))) ||| ((w 3) <<< ((3 : Int32) &&& 31))) ||| ((w 4) <<< ((4 : Int32) &&& 31))).toInt8.toInt32).toInt8.toInt32))) := Vr23
                show Wq _ _ _ _ _ (T23.setTop (mkF m 150 #[.val (.ref apk_1), .val (.int xpk_2), .val (.int xpk_3), .val (.ref apk_4), .val (.int xpk_5), .val (.int ((((((0 : Int32) ||| (w 0)) ||| (w 1)) ||| (w 2)) ||| (w 3)) ||| (w 4))), .val (.int xpk_5), .val (.int xpk_2), .val (.int (xpk_2 + xpk_3)), .val (.int ((((((0 : Int32) ||| ((w 0) <<< ((0 : Int32) &&& 31))) ||| ((w 1) <<< ((1 : Int32) &&& 31))) ||| ((w 2) <<< ((2 : Int32) &&& 31))) ||| ((w 3) <<< ((3 : Int32) &&& 31))) ||| ((w 4) <<< ((4 : Int32) &&& 31)))), .val (.int (5 : Int32))] []))
                refine Ow.iload X23 hx (pc' := 152) (hb hby d_prog_14_method_18_150) rfl ?_
                exact Wq.ret X23 (BodyLoose.notSynchronized Bd) (rv := some (.int ((((((0 : Int32) ||| (w 0)) ||| (w 1)) ||| (w 2)) ||| (w 3)) ||| (w 4)))) (fun h => by rw [Bd.returns] at h; cases h) (fun _ hr => retOut X23 hx Bd.returns rfl (Or.inl ⟨rfl, Or.inl rfl, _, rfl⟩) (hb hby d_prog_14_method_18_152) hr) (by decide) (by decide) (by rw [e23]; exact ⟨by rw [HN]; rfl, N23, K23, (by rw [HN]; exact V_apk_4_t23)⟩)
            · skip
              refine Ow.icmpYes X0 hx (pc' := 143) (hb hby d_prog_14_method_18_107) (flt hc107_5).2.1 (by decide) (by decide) ?_
              have HN : own_n xpk_3 = 4 := own_cn (n := 4) (by have := mt (own_c2 (a := 4) hbd (own_ad hbd.1 own_z0 4 4 (by decide) (by decide))).mpr hc107_5; omega)
              refine Ow.aloadN X0 hx (pc' := 144) (hb hby d_prog_14_method_18_143) rfl rfl ?_
              refine Ow.iload X0 hx (pc' := 146) (hb hby d_prog_14_method_18_144) rfl ?_
              refine Ow.iload X0 hx (pc' := 148) (hb hby d_prog_14_method_18_146) rfl ?_
              refine Ow.i2b X0 hx (pc' := 149) (hb hby d_prog_14_method_18_148) (z := ((((((0 : Int32) ||| ((w 0) <<< ((0 : Int32) &&& 31))) ||| ((w 1) <<< ((1 : Int32) &&& 31))) ||| ((w 2) <<< ((2 : Int32) &&& 31))) ||| ((w 3) <<< ((3 : Int32) &&& 31))).toInt8.toInt32)) rfl ?_
              obtain ⟨T24, h24, X24, e24, W24, Vr24, st24⟩ := asB X0 hx hZ e0 V_apk_4 (j := xpk_5) (i := (own_n xpk_5 + 0)) ((own_ix (m := 0) hbd.2.1 own_z0).1) ((own_ix (m := 0) hbd.2.1 own_z0).2) (own_ln hbd.2.1 (by first | exact hl | (simp only [List.length_set]; exact hl)) (by decide)) (y := (((((((0 : Int32) ||| ((w 0) <<< ((0 : Int32) &&& 31))) ||| ((w 1) <<< ((1 : Int32) &&& 31))) ||| ((w 2) <<< ((2 : Int32) &&& 31))) ||| ((w 3) <<< ((3 : Int32) &&& 31))).toInt8.toInt32).toInt8.toInt32)) (rfl) (g := (mkF m 149 #[.val (.ref apk_1), .val (.int xpk_2), .val (.int xpk_3), .val (.ref apk_4), .val (.int xpk_5), .val (.int (((((0 : Int32) ||| (w 0)) ||| (w 1)) ||| (w 2)) ||| (w 3))), .val (.int xpk_5), .val (.int xpk_2), .val (.int (xpk_2 + xpk_3)), .val (.int (((((0 : Int32) ||| ((w 0) <<< ((0 : Int32) &&& 31))) ||| ((w 1) <<< ((1 : Int32) &&& 31))) ||| ((w 2) <<< ((2 : Int32) &&& 31))) ||| ((w 3) <<< ((3 : Int32) &&& 31)))), .val (.int (4 : Int32))] [(.int ((((((0 : Int32) ||| ((w 0) <<< ((0 : Int32) &&& 31))) ||| ((w 1) <<< ((1 : Int32) &&& 31))) ||| ((w 2) <<< ((2 : Int32) &&& 31))) ||| ((w 3) <<< ((3 : Int32) &&& 31))).toInt8.toInt32)), (.int xpk_5), (.ref apk_4)])) rfl rfl (hb hby d_prog_14_method_18_149)
              refine Wq.step st24 ?_
              have N24 := Fr.snoc X24 N0 g_apk_4
              have K24 : Keep h0 h24 [apk_4] := (Keep.refl h0 [apk_4]).wr W24 (Or.inl (List.mem_of_getElem? (i := 0) rfl))
              have Z24 : n0 ≤ h24.size := Nat.le_trans Z0 (Keep.of_wr W24).1
              have V_apk_1_t24 := V_apk_1.other W24 ne_apk_1_apk_4
              have V_apk_4_t24 : Al Z h24 apk_4 .byte (ds.set (own_n xpk_5 + 0) (.int (((((((0 : Int32) ||| ((w 0) <<< ((0 : Int32) &&& 31))) ||| ((w 1) <<< ((1 : Int32) &&& 31))) ||| ((w 2) <<< ((2 : Int32) &&& 31))) ||| ((w 3) <<< ((3 : Int32) &&& 31))).toInt8.toInt32).toInt8.toInt32))) := Vr24
              show Wq _ _ _ _ _ (T24.setTop (mkF m 150 #[.val (.ref apk_1), .val (.int xpk_2), .val (.int xpk_3), .val (.ref apk_4), .val (.int xpk_5), .val (.int (((((0 : Int32) ||| (w 0)) ||| (w 1)) ||| (w 2)) ||| (w 3))), .val (.int xpk_5), .val (.int xpk_2), .val (.int (xpk_2 + xpk_3)), .val (.int (((((0 : Int32) ||| ((w 0) <<< ((0 : Int32) &&& 31))) ||| ((w 1) <<< ((1 : Int32) &&& 31))) ||| ((w 2) <<< ((2 : Int32) &&& 31))) ||| ((w 3) <<< ((3 : Int32) &&& 31)))), .val (.int (4 : Int32))] []))
              refine Ow.iload X24 hx (pc' := 152) (hb hby d_prog_14_method_18_150) rfl ?_
              exact Wq.ret X24 (BodyLoose.notSynchronized Bd) (rv := some (.int (((((0 : Int32) ||| (w 0)) ||| (w 1)) ||| (w 2)) ||| (w 3)))) (fun h => by rw [Bd.returns] at h; cases h) (fun _ hr => retOut X24 hx Bd.returns rfl (Or.inl ⟨rfl, Or.inl rfl, _, rfl⟩) (hb hby d_prog_14_method_18_152) hr) (by decide) (by decide) (by rw [e24]; exact ⟨by rw [HN]; rfl, N24, K24, (by rw [HN]; exact V_apk_4_t24)⟩)
          · skip
            refine Ow.icmpYes X0 hx (pc' := 143) (hb hby d_prog_14_method_18_107) (flt hc107_4).2.1 (by decide) (by decide) ?_
            have HN : own_n xpk_3 = 3 := own_cn (n := 3) (by have := mt (own_c2 (a := 3) hbd (own_ad hbd.1 own_z0 3 3 (by decide) (by decide))).mpr hc107_4; omega)
            refine Ow.aloadN X0 hx (pc' := 144) (hb hby d_prog_14_method_18_143) rfl rfl ?_
            refine Ow.iload X0 hx (pc' := 146) (hb hby d_prog_14_method_18_144) rfl ?_
            refine Ow.iload X0 hx (pc' := 148) (hb hby d_prog_14_method_18_146) rfl ?_
            refine Ow.i2b X0 hx (pc' := 149) (hb hby d_prog_14_method_18_148) (z := (((((0 : Int32) ||| ((w 0) <<< ((0 : Int32) &&& 31))) ||| ((w 1) <<< ((1 : Int32) &&& 31))) ||| ((w 2) <<< ((2 : Int32) &&& 31))).toInt8.toInt32)) rfl ?_
            obtain ⟨T25, h25, X25, e25, W25, Vr25, st25⟩ := asB X0 hx hZ e0 V_apk_4 (j := xpk_5) (i := (own_n xpk_5 + 0)) ((own_ix (m := 0) hbd.2.1 own_z0).1) ((own_ix (m := 0) hbd.2.1 own_z0).2) (own_ln hbd.2.1 (by first | exact hl | (simp only [List.length_set]; exact hl)) (by decide)) (y := ((((((0 : Int32) ||| ((w 0) <<< ((0 : Int32) &&& 31))) ||| ((w 1) <<< ((1 : Int32) &&& 31))) ||| ((w 2) <<< ((2 : Int32) &&& 31))).toInt8.toInt32).toInt8.toInt32)) (rfl) (g := (mkF m 149 #[.val (.ref apk_1), .val (.int xpk_2), .val (.int xpk_3), .val (.ref apk_4), .val (.int xpk_5), .val (.int ((((0 : Int32) ||| (w 0)) ||| (w 1)) ||| (w 2))), .val (.int xpk_5), .val (.int xpk_2), .val (.int (xpk_2 + xpk_3)), .val (.int ((((0 : Int32) ||| ((w 0) <<< ((0 : Int32) &&& 31))) ||| ((w 1) <<< ((1 : Int32) &&& 31))) ||| ((w 2) <<< ((2 : Int32) &&& 31)))), .val (.int (3 : Int32))] [(.int (((((0 : Int32) ||| ((w 0) <<< ((0 : Int32) &&& 31))) ||| ((w 1) <<< ((1 : Int32) &&& 31))) ||| ((w 2) <<< ((2 : Int32) &&& 31))).toInt8.toInt32)), (.int xpk_5), (.ref apk_4)])) rfl rfl (hb hby d_prog_14_method_18_149)
            refine Wq.step st25 ?_
            have N25 := Fr.snoc X25 N0 g_apk_4
            have K25 : Keep h0 h25 [apk_4] := (Keep.refl h0 [apk_4]).wr W25 (Or.inl (List.mem_of_getElem? (i := 0) rfl))
            have Z25 : n0 ≤ h25.size := Nat.le_trans Z0 (Keep.of_wr W25).1
            have V_apk_1_t25 := V_apk_1.other W25 ne_apk_1_apk_4
            have V_apk_4_t25 : Al Z h25 apk_4 .byte (ds.set (own_n xpk_5 + 0) (.int ((((((0 : Int32) ||| ((w 0) <<< ((0 : Int32) &&& 31))) ||| ((w 1) <<< ((1 : Int32) &&& 31))) ||| ((w 2) <<< ((2 : Int32) &&& 31))).toInt8.toInt32).toInt8.toInt32))) := Vr25
            show Wq _ _ _ _ _ (T25.setTop (mkF m 150 #[.val (.ref apk_1), .val (.int xpk_2), .val (.int xpk_3), .val (.ref apk_4), .val (.int xpk_5), .val (.int ((((0 : Int32) ||| (w 0)) ||| (w 1)) ||| (w 2))), .val (.int xpk_5), .val (.int xpk_2), .val (.int (xpk_2 + xpk_3)), .val (.int ((((0 : Int32) ||| ((w 0) <<< ((0 : Int32) &&& 31))) ||| ((w 1) <<< ((1 : Int32) &&& 31))) ||| ((w 2) <<< ((2 : Int32) &&& 31)))), .val (.int (3 : Int32))] []))
            refine Ow.iload X25 hx (pc' := 152) (hb hby d_prog_14_method_18_150) rfl ?_
            exact Wq.ret X25 (BodyLoose.notSynchronized Bd) (rv := some (.int ((((0 : Int32) ||| (w 0)) ||| (w 1)) ||| (w 2)))) (fun h => by rw [Bd.returns] at h; cases h) (fun _ hr => retOut X25 hx Bd.returns rfl (Or.inl ⟨rfl, Or.inl rfl, _, rfl⟩) (hb hby d_prog_14_method_18_152) hr) (by decide) (by decide) (by rw [e25]; exact ⟨by rw [HN]; rfl, N25, K25, (by rw [HN]; exact V_apk_4_t25)⟩)
        · skip
          refine Ow.icmpYes X0 hx (pc' := 143) (hb hby d_prog_14_method_18_107) (flt hc107_3).2.1 (by decide) (by decide) ?_
          have HN : own_n xpk_3 = 2 := own_cn (n := 2) (by have := mt (own_c2 (a := 2) hbd (own_ad hbd.1 own_z0 2 2 (by decide) (by decide))).mpr hc107_3; omega)
          refine Ow.aloadN X0 hx (pc' := 144) (hb hby d_prog_14_method_18_143) rfl rfl ?_
          refine Ow.iload X0 hx (pc' := 146) (hb hby d_prog_14_method_18_144) rfl ?_
          refine Ow.iload X0 hx (pc' := 148) (hb hby d_prog_14_method_18_146) rfl ?_
          refine Ow.i2b X0 hx (pc' := 149) (hb hby d_prog_14_method_18_148) (z := ((((0 : Int32) ||| ((w 0) <<< ((0 : Int32) &&& 31))) ||| ((w 1) <<< ((1 : Int32) &&& 31))).toInt8.toInt32)) rfl ?_
          obtain ⟨T26, h26, X26, e26, W26, Vr26, st26⟩ := asB X0 hx hZ e0 V_apk_4 (j := xpk_5) (i := (own_n xpk_5 + 0)) ((own_ix (m := 0) hbd.2.1 own_z0).1) ((own_ix (m := 0) hbd.2.1 own_z0).2) (own_ln hbd.2.1 (by first | exact hl | (simp only [List.length_set]; exact hl)) (by decide)) (y := (((((0 : Int32) ||| ((w 0) <<< ((0 : Int32) &&& 31))) ||| ((w 1) <<< ((1 : Int32) &&& 31))).toInt8.toInt32).toInt8.toInt32)) (rfl) (g := (mkF m 149 #[.val (.ref apk_1), .val (.int xpk_2), .val (.int xpk_3), .val (.ref apk_4), .val (.int xpk_5), .val (.int (((0 : Int32) ||| (w 0)) ||| (w 1))), .val (.int xpk_5), .val (.int xpk_2), .val (.int (xpk_2 + xpk_3)), .val (.int (((0 : Int32) ||| ((w 0) <<< ((0 : Int32) &&& 31))) ||| ((w 1) <<< ((1 : Int32) &&& 31)))), .val (.int (2 : Int32))] [(.int ((((0 : Int32) ||| ((w 0) <<< ((0 : Int32) &&& 31))) ||| ((w 1) <<< ((1 : Int32) &&& 31))).toInt8.toInt32)), (.int xpk_5), (.ref apk_4)])) rfl rfl (hb hby d_prog_14_method_18_149)
          refine Wq.step st26 ?_
          have N26 := Fr.snoc X26 N0 g_apk_4
          have K26 : Keep h0 h26 [apk_4] := (Keep.refl h0 [apk_4]).wr W26 (Or.inl (List.mem_of_getElem? (i := 0) rfl))
          have Z26 : n0 ≤ h26.size := Nat.le_trans Z0 (Keep.of_wr W26).1
          have V_apk_1_t26 := V_apk_1.other W26 ne_apk_1_apk_4
          have V_apk_4_t26 : Al Z h26 apk_4 .byte (ds.set (own_n xpk_5 + 0) (.int (((((0 : Int32) ||| ((w 0) <<< ((0 : Int32) &&& 31))) ||| ((w 1) <<< ((1 : Int32) &&& 31))).toInt8.toInt32).toInt8.toInt32))) := Vr26
          show Wq _ _ _ _ _ (T26.setTop (mkF m 150 #[.val (.ref apk_1), .val (.int xpk_2), .val (.int xpk_3), .val (.ref apk_4), .val (.int xpk_5), .val (.int (((0 : Int32) ||| (w 0)) ||| (w 1))), .val (.int xpk_5), .val (.int xpk_2), .val (.int (xpk_2 + xpk_3)), .val (.int (((0 : Int32) ||| ((w 0) <<< ((0 : Int32) &&& 31))) ||| ((w 1) <<< ((1 : Int32) &&& 31)))), .val (.int (2 : Int32))] []))
          refine Ow.iload X26 hx (pc' := 152) (hb hby d_prog_14_method_18_150) rfl ?_
          exact Wq.ret X26 (BodyLoose.notSynchronized Bd) (rv := some (.int (((0 : Int32) ||| (w 0)) ||| (w 1)))) (fun h => by rw [Bd.returns] at h; cases h) (fun _ hr => retOut X26 hx Bd.returns rfl (Or.inl ⟨rfl, Or.inl rfl, _, rfl⟩) (hb hby d_prog_14_method_18_152) hr) (by decide) (by decide) (by rw [e26]; exact ⟨by rw [HN]; rfl, N26, K26, (by rw [HN]; exact V_apk_4_t26)⟩)
      · skip
        refine Ow.icmpYes X0 hx (pc' := 143) (hb hby d_prog_14_method_18_107) (flt hc107_2).2.1 (by decide) (by decide) ?_
        have HN : own_n xpk_3 = 1 := own_cn (n := 1) (by have := mt (own_c2 (a := 1) hbd (own_ad hbd.1 own_z0 1 1 (by decide) (by decide))).mpr hc107_2; omega)
        refine Ow.aloadN X0 hx (pc' := 144) (hb hby d_prog_14_method_18_143) rfl rfl ?_
        refine Ow.iload X0 hx (pc' := 146) (hb hby d_prog_14_method_18_144) rfl ?_
        refine Ow.iload X0 hx (pc' := 148) (hb hby d_prog_14_method_18_146) rfl ?_
        refine Ow.i2b X0 hx (pc' := 149) (hb hby d_prog_14_method_18_148) (z := (((0 : Int32) ||| ((w 0) <<< ((0 : Int32) &&& 31))).toInt8.toInt32)) rfl ?_
        obtain ⟨T27, h27, X27, e27, W27, Vr27, st27⟩ := asB X0 hx hZ e0 V_apk_4 (j := xpk_5) (i := (own_n xpk_5 + 0)) ((own_ix (m := 0) hbd.2.1 own_z0).1) ((own_ix (m := 0) hbd.2.1 own_z0).2) (own_ln hbd.2.1 (by first | exact hl | (simp only [List.length_set]; exact hl)) (by decide)) (y := ((((0 : Int32) ||| ((w 0) <<< ((0 : Int32) &&& 31))).toInt8.toInt32).toInt8.toInt32)) (rfl) (g := (mkF m 149 #[.val (.ref apk_1), .val (.int xpk_2), .val (.int xpk_3), .val (.ref apk_4), .val (.int xpk_5), .val (.int ((0 : Int32) ||| (w 0))), .val (.int xpk_5), .val (.int xpk_2), .val (.int (xpk_2 + xpk_3)), .val (.int ((0 : Int32) ||| ((w 0) <<< ((0 : Int32) &&& 31)))), .val (.int (1 : Int32))] [(.int (((0 : Int32) ||| ((w 0) <<< ((0 : Int32) &&& 31))).toInt8.toInt32)), (.int xpk_5), (.ref apk_4)])) rfl rfl (hb hby d_prog_14_method_18_149)
        refine Wq.step st27 ?_
        have N27 := Fr.snoc X27 N0 g_apk_4
        have K27 : Keep h0 h27 [apk_4] := (Keep.refl h0 [apk_4]).wr W27 (Or.inl (List.mem_of_getElem? (i := 0) rfl))
        have Z27 : n0 ≤ h27.size := Nat.le_trans Z0 (Keep.of_wr W27).1
        have V_apk_1_t27 := V_apk_1.other W27 ne_apk_1_apk_4
        have V_apk_4_t27 : Al Z h27 apk_4 .byte (ds.set (own_n xpk_5 + 0) (.int ((((0 : Int32) ||| ((w 0) <<< ((0 : Int32) &&& 31))).toInt8.toInt32).toInt8.toInt32))) := Vr27
        show Wq _ _ _ _ _ (T27.setTop (mkF m 150 #[.val (.ref apk_1), .val (.int xpk_2), .val (.int xpk_3), .val (.ref apk_4), .val (.int xpk_5), .val (.int ((0 : Int32) ||| (w 0))), .val (.int xpk_5), .val (.int xpk_2), .val (.int (xpk_2 + xpk_3)), .val (.int ((0 : Int32) ||| ((w 0) <<< ((0 : Int32) &&& 31)))), .val (.int (1 : Int32))] []))
        refine Ow.iload X27 hx (pc' := 152) (hb hby d_prog_14_method_18_150) rfl ?_
        exact Wq.ret X27 (BodyLoose.notSynchronized Bd) (rv := some (.int ((0 : Int32) ||| (w 0)))) (fun h => by rw [Bd.returns] at h; cases h) (fun _ hr => retOut X27 hx Bd.returns rfl (Or.inl ⟨rfl, Or.inl rfl, _, rfl⟩) (hb hby d_prog_14_method_18_152) hr) (by decide) (by decide) (by rw [e27]; exact ⟨by rw [HN]; rfl, N27, K27, (by rw [HN]; exact V_apk_4_t27)⟩)
    · skip
      refine Ow.icmpYes X0 hx (pc' := 150) (hb hby d_prog_14_method_18_91) (flt hc91).2.1 (by decide) (by decide) ?_
      have HN : own_n xpk_3 = 0 := own_cn (n := 0) (by have := mt (own_c2 (a := 0) hbd own_z0).mpr hc91; have := hbd.2.2.2; have := hbd.1.1; omega)
      refine Ow.iload X0 hx (pc' := 152) (hb hby d_prog_14_method_18_150) rfl ?_
      exact Wq.ret X0 (BodyLoose.notSynchronized Bd) (rv := some (.int (0 : Int32))) (fun h => by rw [Bd.returns] at h; cases h) (fun _ hr => retOut X0 hx Bd.returns rfl (Or.inl ⟨rfl, Or.inl rfl, _, rfl⟩) (hb hby d_prog_14_method_18_152) hr) (by decide) (by decide) (by rw [e0]; exact ⟨by rw [HN]; rfl, N0, Keep.refl h0 [apk_4], (by rw [HN]; exact V_apk_4)⟩)
  · skip
    refine Ow.icmpNo X0 hx (pc' := 25) (hb hby d_prog_14_method_18_22) (flt hc22).2.2.1 ?_
    have L0 : 8 ≤ xpk_3.toInt := by have := mt (own_c1 (a := 0) hbd own_z0).mpr hc22; omega
    refine Ow.iconst X0 hx (pc' := 26) (hb hby d_prog_14_method_18_25) (z := (0 : Int32)) rfl ?_
    refine Ow.istore X0 hx (pc' := 28) (hb hby d_prog_14_method_18_26) (l' := #[.val (.ref apk_1), .val (.int xpk_2), .val (.int xpk_3), .val (.ref apk_4), .val (.int xpk_5), .val (.int (0 : Int32)), .val (.int xpk_5), .val (.int xpk_2), .val (.int (xpk_2 + xpk_3)), .val (.int (0 : Int32)), .unset]) rfl ?_
    refine Ow.iconst X0 hx (pc' := 29) (hb hby d_prog_14_method_18_28) (z := (0 : Int32)) rfl ?_
    refine Ow.istore X0 hx (pc' := 31) (hb hby d_prog_14_method_18_29) (l' := #[.val (.ref apk_1), .val (.int xpk_2), .val (.int xpk_3), .val (.ref apk_4), .val (.int xpk_5), .val (.int (0 : Int32)), .val (.int xpk_5), .val (.int xpk_2), .val (.int (xpk_2 + xpk_3)), .val (.int (0 : Int32)), .val (.int (0 : Int32))]) rfl ?_
    refine Ow.iload X0 hx (pc' := 33) (hb hby d_prog_14_method_18_31) rfl ?_
    refine Ow.bipush X0 hx (pc' := 35) (hb hby d_prog_14_method_18_33) (z := (8 : Int32)) rfl ?_
    refine Ow.icmpNo X0 hx (pc' := 38) (hb hby d_prog_14_method_18_35) (tlt (by decide : (0 : Int32) < (8 : Int32))).2.1 ?_
    refine Ow.iload X0 hx (pc' := 40) (hb hby d_prog_14_method_18_38) rfl ?_
    refine Ow.aloadN X0 hx (pc' := 41) (hb hby d_prog_14_method_18_40) rfl rfl ?_
    refine Ow.iload X0 hx (pc' := 43) (hb hby d_prog_14_method_18_41) rfl ?_
    refine Ow.iload X0 hx (pc' := 45) (hb hby d_prog_14_method_18_43) rfl ?_
    refine Ow.iadd X0 hx (pc' := 46) (hb hby d_prog_14_method_18_45) (z := (xpk_2 + (0 : Int32))) rfl ?_
    refine Ow.ldI X0 hx hZ e0 V_apk_1 (pc' := 47) (hb hby d_prog_14_method_18_46) (j := (xpk_2 + (0 : Int32))) (i := (own_n xpk_2 + 0)) (v := (.int (w 0))) ((own_ix (m := 0) hbd.1 (own_ad hbd.1 own_z0 0 0 (by decide) (by decide))).1) ((own_ix (m := 0) hbd.1 (own_ad hbd.1 own_z0 0 0 (by decide) (by decide))).2) (hv _ (own_in (m := 0) hbd (by omega))) ?_
    refine Ow.ior X0 hx (pc' := 48) (hb hby d_prog_14_method_18_47) (z := ((0 : Int32) ||| (w 0))) rfl ?_
    refine Ow.istore X0 hx (pc' := 50) (hb hby d_prog_14_method_18_48) (l' := #[.val (.ref apk_1), .val (.int xpk_2), .val (.int xpk_3), .val (.ref apk_4), .val (.int xpk_5), .val (.int ((0 : Int32) ||| (w 0))), .val (.int xpk_5), .val (.int xpk_2), .val (.int (xpk_2 + xpk_3)), .val (.int (0 : Int32)), .val (.int (0 : Int32))]) rfl ?_
    refine Ow.iload X0 hx (pc' := 52) (hb hby d_prog_14_method_18_50) rfl ?_
    refine Ow.aloadN X0 hx (pc' := 53) (hb hby d_prog_14_method_18_52) rfl rfl ?_
    refine Ow.iload X0 hx (pc' := 55) (hb hby d_prog_14_method_18_53) rfl ?_
    refine Ow.iload X0 hx (pc' := 57) (hb hby d_prog_14_method_18_55) rfl ?_
    refine Ow.iadd X0 hx (pc' := 58) (hb hby d_prog_14_method_18_57) (z := (xpk_2 + (0 : Int32))) rfl ?_
    refine Ow.ldI X0 hx hZ e0 V_apk_1 (pc' := 59) (hb hby d_prog_14_method_18_58) (j := (xpk_2 + (0 : Int32))) (i := (own_n xpk_2 + 0)) (v := (.int (w 0))) ((own_ix (m := 0) hbd.1 (own_ad hbd.1 own_z0 0 0 (by decide) (by decide))).1) ((own_ix (m := 0) hbd.1 (own_ad hbd.1 own_z0 0 0 (by decide) (by decide))).2) (hv _ (own_in (m := 0) hbd (by omega))) ?_
    refine Ow.iload X0 hx (pc' := 61) (hb hby d_prog_14_method_18_59) rfl ?_
    refine Ow.ishl X0 hx (pc' := 62) (hb hby d_prog_14_method_18_61) (z := ((w 0) <<< ((0 : Int32) &&& 31))) rfl ?_
    refine Ow.ior X0 hx (pc' := 63) (hb hby d_prog_14_method_18_62) (z := ((0 : Int32) ||| ((w 0) <<< ((0 : Int32) &&& 31)))) rfl ?_
    refine Ow.istore X0 hx (pc' := 65) (hb hby d_prog_14_method_18_63) (l' := #[.val (.ref apk_1), .val (.int xpk_2), .val (.int xpk_3), .val (.ref apk_4), .val (.int xpk_5), .val (.int ((0 : Int32) ||| (w 0))), .val (.int xpk_5), .val (.int xpk_2), .val (.int (xpk_2 + xpk_3)), .val (.int ((0 : Int32) ||| ((w 0) <<< ((0 : Int32) &&& 31)))), .val (.int (0 : Int32))]) rfl ?_
    refine Ow.iinc X0 hx (pc' := 68) (hb hby d_prog_14_method_18_65) rfl (l' := #[.val (.ref apk_1), .val (.int xpk_2), .val (.int xpk_3), .val (.ref apk_4), .val (.int xpk_5), .val (.int ((0 : Int32) ||| (w 0))), .val (.int xpk_5), .val (.int xpk_2), .val (.int (xpk_2 + xpk_3)), .val (.int ((0 : Int32) ||| ((w 0) <<< ((0 : Int32) &&& 31)))), .val (.int (1 : Int32))]) rfl ?_
    show Wq _ _ _ _ _ (s₁.setTop (mkF m 68 #[.val (.ref apk_1), .val (.int xpk_2), .val (.int xpk_3), .val (.ref apk_4), .val (.int xpk_5), .val (.int ((0 : Int32) ||| (w 0))), .val (.int xpk_5), .val (.int xpk_2), .val (.int (xpk_2 + xpk_3)), .val (.int ((0 : Int32) ||| ((w 0) <<< ((0 : Int32) &&& 31)))), .val (.int (1 : Int32))] []))
    refine Ow.goto X0 hx (pc' := 31) (hb hby d_prog_14_method_18_68) (by decide) (by decide) ?_
    refine Ow.iload X0 hx (pc' := 33) (hb hby d_prog_14_method_18_31) rfl ?_
    refine Ow.bipush X0 hx (pc' := 35) (hb hby d_prog_14_method_18_33) (z := (8 : Int32)) rfl ?_
    refine Ow.icmpNo X0 hx (pc' := 38) (hb hby d_prog_14_method_18_35) (tlt (by decide : (1 : Int32) < (8 : Int32))).2.1 ?_
    refine Ow.iload X0 hx (pc' := 40) (hb hby d_prog_14_method_18_38) rfl ?_
    refine Ow.aloadN X0 hx (pc' := 41) (hb hby d_prog_14_method_18_40) rfl rfl ?_
    refine Ow.iload X0 hx (pc' := 43) (hb hby d_prog_14_method_18_41) rfl ?_
    refine Ow.iload X0 hx (pc' := 45) (hb hby d_prog_14_method_18_43) rfl ?_
    refine Ow.iadd X0 hx (pc' := 46) (hb hby d_prog_14_method_18_45) (z := (xpk_2 + (1 : Int32))) rfl ?_
    refine Ow.ldI X0 hx hZ e0 V_apk_1 (pc' := 47) (hb hby d_prog_14_method_18_46) (j := (xpk_2 + (1 : Int32))) (i := (own_n xpk_2 + 1)) (v := (.int (w 1))) ((own_ix (m := 1) hbd.1 (own_ad hbd.1 own_z0 1 1 (by decide) (by decide))).1) ((own_ix (m := 1) hbd.1 (own_ad hbd.1 own_z0 1 1 (by decide) (by decide))).2) (hv _ (own_in (m := 1) hbd (by omega))) ?_
    refine Ow.ior X0 hx (pc' := 48) (hb hby d_prog_14_method_18_47) (z := (((0 : Int32) ||| (w 0)) ||| (w 1))) rfl ?_
    refine Ow.istore X0 hx (pc' := 50) (hb hby d_prog_14_method_18_48) (l' := #[.val (.ref apk_1), .val (.int xpk_2), .val (.int xpk_3), .val (.ref apk_4), .val (.int xpk_5), .val (.int (((0 : Int32) ||| (w 0)) ||| (w 1))), .val (.int xpk_5), .val (.int xpk_2), .val (.int (xpk_2 + xpk_3)), .val (.int ((0 : Int32) ||| ((w 0) <<< ((0 : Int32) &&& 31)))), .val (.int (1 : Int32))]) rfl ?_
    refine Ow.iload X0 hx (pc' := 52) (hb hby d_prog_14_method_18_50) rfl ?_
    refine Ow.aloadN X0 hx (pc' := 53) (hb hby d_prog_14_method_18_52) rfl rfl ?_
    refine Ow.iload X0 hx (pc' := 55) (hb hby d_prog_14_method_18_53) rfl ?_
    refine Ow.iload X0 hx (pc' := 57) (hb hby d_prog_14_method_18_55) rfl ?_
    refine Ow.iadd X0 hx (pc' := 58) (hb hby d_prog_14_method_18_57) (z := (xpk_2 + (1 : Int32))) rfl ?_
    refine Ow.ldI X0 hx hZ e0 V_apk_1 (pc' := 59) (hb hby d_prog_14_method_18_58) (j := (xpk_2 + (1 : Int32))) (i := (own_n xpk_2 + 1)) (v := (.int (w 1))) ((own_ix (m := 1) hbd.1 (own_ad hbd.1 own_z0 1 1 (by decide) (by decide))).1) ((own_ix (m := 1) hbd.1 (own_ad hbd.1 own_z0 1 1 (by decide) (by decide))).2) (hv _ (own_in (m := 1) hbd (by omega))) ?_
    refine Ow.iload X0 hx (pc' := 61) (hb hby d_prog_14_method_18_59) rfl ?_
    refine Ow.ishl X0 hx (pc' := 62) (hb hby d_prog_14_method_18_61) (z := ((w 1) <<< ((1 : Int32) &&& 31))) rfl ?_
    refine Ow.ior X0 hx (pc' := 63) (hb hby d_prog_14_method_18_62) (z := (((0 : Int32) ||| ((w 0) <<< ((0 : Int32) &&& 31))) ||| ((w 1) <<< ((1 : Int32) &&& 31)))) rfl ?_
    refine Ow.istore X0 hx (pc' := 65) (hb hby d_prog_14_method_18_63) (l' := #[.val (.ref apk_1), .val (.int xpk_2), .val (.int xpk_3), .val (.ref apk_4), .val (.int xpk_5), .val (.int (((0 : Int32) ||| (w 0)) ||| (w 1))), .val (.int xpk_5), .val (.int xpk_2), .val (.int (xpk_2 + xpk_3)), .val (.int (((0 : Int32) ||| ((w 0) <<< ((0 : Int32) &&& 31))) ||| ((w 1) <<< ((1 : Int32) &&& 31)))), .val (.int (1 : Int32))]) rfl ?_
    refine Ow.iinc X0 hx (pc' := 68) (hb hby d_prog_14_method_18_65) rfl (l' := #[.val (.ref apk_1), .val (.int xpk_2), .val (.int xpk_3), .val (.ref apk_4), .val (.int xpk_5), .val (.int (((0 : Int32) ||| (w 0)) ||| (w 1))), .val (.int xpk_5), .val (.int xpk_2), .val (.int (xpk_2 + xpk_3)), .val (.int (((0 : Int32) ||| ((w 0) <<< ((0 : Int32) &&& 31))) ||| ((w 1) <<< ((1 : Int32) &&& 31)))), .val (.int (2 : Int32))]) rfl ?_
    show Wq _ _ _ _ _ (s₁.setTop (mkF m 68 #[.val (.ref apk_1), .val (.int xpk_2), .val (.int xpk_3), .val (.ref apk_4), .val (.int xpk_5), .val (.int (((0 : Int32) ||| (w 0)) ||| (w 1))), .val (.int xpk_5), .val (.int xpk_2), .val (.int (xpk_2 + xpk_3)), .val (.int (((0 : Int32) ||| ((w 0) <<< ((0 : Int32) &&& 31))) ||| ((w 1) <<< ((1 : Int32) &&& 31)))), .val (.int (2 : Int32))] []))
    refine Ow.goto X0 hx (pc' := 31) (hb hby d_prog_14_method_18_68) (by decide) (by decide) ?_
    refine Ow.iload X0 hx (pc' := 33) (hb hby d_prog_14_method_18_31) rfl ?_
    refine Ow.bipush X0 hx (pc' := 35) (hb hby d_prog_14_method_18_33) (z := (8 : Int32)) rfl ?_
    refine Ow.icmpNo X0 hx (pc' := 38) (hb hby d_prog_14_method_18_35) (tlt (by decide : (2 : Int32) < (8 : Int32))).2.1 ?_
    refine Ow.iload X0 hx (pc' := 40) (hb hby d_prog_14_method_18_38) rfl ?_
    refine Ow.aloadN X0 hx (pc' := 41) (hb hby d_prog_14_method_18_40) rfl rfl ?_
    refine Ow.iload X0 hx (pc' := 43) (hb hby d_prog_14_method_18_41) rfl ?_
    refine Ow.iload X0 hx (pc' := 45) (hb hby d_prog_14_method_18_43) rfl ?_
    refine Ow.iadd X0 hx (pc' := 46) (hb hby d_prog_14_method_18_45) (z := (xpk_2 + (2 : Int32))) rfl ?_
    refine Ow.ldI X0 hx hZ e0 V_apk_1 (pc' := 47) (hb hby d_prog_14_method_18_46) (j := (xpk_2 + (2 : Int32))) (i := (own_n xpk_2 + 2)) (v := (.int (w 2))) ((own_ix (m := 2) hbd.1 (own_ad hbd.1 own_z0 2 2 (by decide) (by decide))).1) ((own_ix (m := 2) hbd.1 (own_ad hbd.1 own_z0 2 2 (by decide) (by decide))).2) (hv _ (own_in (m := 2) hbd (by omega))) ?_
    refine Ow.ior X0 hx (pc' := 48) (hb hby d_prog_14_method_18_47) (z := ((((0 : Int32) ||| (w 0)) ||| (w 1)) ||| (w 2))) rfl ?_
    refine Ow.istore X0 hx (pc' := 50) (hb hby d_prog_14_method_18_48) (l' := #[.val (.ref apk_1), .val (.int xpk_2), .val (.int xpk_3), .val (.ref apk_4), .val (.int xpk_5), .val (.int ((((0 : Int32) ||| (w 0)) ||| (w 1)) ||| (w 2))), .val (.int xpk_5), .val (.int xpk_2), .val (.int (xpk_2 + xpk_3)), .val (.int (((0 : Int32) ||| ((w 0) <<< ((0 : Int32) &&& 31))) ||| ((w 1) <<< ((1 : Int32) &&& 31)))), .val (.int (2 : Int32))]) rfl ?_
    refine Ow.iload X0 hx (pc' := 52) (hb hby d_prog_14_method_18_50) rfl ?_
    refine Ow.aloadN X0 hx (pc' := 53) (hb hby d_prog_14_method_18_52) rfl rfl ?_
    refine Ow.iload X0 hx (pc' := 55) (hb hby d_prog_14_method_18_53) rfl ?_
    refine Ow.iload X0 hx (pc' := 57) (hb hby d_prog_14_method_18_55) rfl ?_
    refine Ow.iadd X0 hx (pc' := 58) (hb hby d_prog_14_method_18_57) (z := (xpk_2 + (2 : Int32))) rfl ?_
    refine Ow.ldI X0 hx hZ e0 V_apk_1 (pc' := 59) (hb hby d_prog_14_method_18_58) (j := (xpk_2 + (2 : Int32))) (i := (own_n xpk_2 + 2)) (v := (.int (w 2))) ((own_ix (m := 2) hbd.1 (own_ad hbd.1 own_z0 2 2 (by decide) (by decide))).1) ((own_ix (m := 2) hbd.1 (own_ad hbd.1 own_z0 2 2 (by decide) (by decide))).2) (hv _ (own_in (m := 2) hbd (by omega))) ?_
    refine Ow.iload X0 hx (pc' := 61) (hb hby d_prog_14_method_18_59) rfl ?_
    refine Ow.ishl X0 hx (pc' := 62) (hb hby d_prog_14_method_18_61) (z := ((w 2) <<< ((2 : Int32) &&& 31))) rfl ?_
    refine Ow.ior X0 hx (pc' := 63) (hb hby d_prog_14_method_18_62) (z := ((((0 : Int32) ||| ((w 0) <<< ((0 : Int32) &&& 31))) ||| ((w 1) <<< ((1 : Int32) &&& 31))) ||| ((w 2) <<< ((2 : Int32) &&& 31)))) rfl ?_
    refine Ow.istore X0 hx (pc' := 65) (hb hby d_prog_14_method_18_63) (l' := #[.val (.ref apk_1), .val (.int xpk_2), .val (.int xpk_3), .val (.ref apk_4), .val (.int xpk_5), .val (.int ((((0 : Int32) ||| (w 0)) ||| (w 1)) ||| (w 2))), .val (.int xpk_5), .val (.int xpk_2), .val (.int (xpk_2 + xpk_3)), .val (.int ((((0 : Int32) ||| ((w 0) <<< ((0 : Int32) &&& 31))) ||| ((w 1) <<< ((1 : Int32) &&& 31))) ||| ((w 2) <<< ((2 : Int32) &&& 31)))), .val (.int (2 : Int32))]) rfl ?_
    refine Ow.iinc X0 hx (pc' := 68) (hb hby d_prog_14_method_18_65) rfl (l' := #[.val (.ref apk_1), .val (.int xpk_2), .val (.int xpk_3), .val (.ref apk_4), .val (.int xpk_5), .val (.int ((((0 : Int32) ||| (w 0)) ||| (w 1)) ||| (w 2))), .val (.int xpk_5), .val (.int xpk_2), .val (.int (xpk_2 + xpk_3)), .val (.int ((((0 : Int32) ||| ((w 0) <<< ((0 : Int32) &&& 31))) ||| ((w 1) <<< ((1 : Int32) &&& 31))) ||| ((w 2) <<< ((2 : Int32) &&& 31)))), .val (.int (3 : Int32))]) rfl ?_
    show Wq _ _ _ _ _ (s₁.setTop (mkF m 68 #[.val (.ref apk_1), .val (.int xpk_2), .val (.int xpk_3), .val (.ref apk_4), .val (.int xpk_5), .val (.int ((((0 : Int32) ||| (w 0)) ||| (w 1)) ||| (w 2))), .val (.int xpk_5), .val (.int xpk_2), .val (.int (xpk_2 + xpk_3)), .val (.int ((((0 : Int32) ||| ((w 0) <<< ((0 : Int32) &&& 31))) ||| ((w 1) <<< ((1 : Int32) &&& 31))) ||| ((w 2) <<< ((2 : Int32) &&& 31)))), .val (.int (3 : Int32))] []))
    refine Ow.goto X0 hx (pc' := 31) (hb hby d_prog_14_method_18_68) (by decide) (by decide) ?_
    refine Ow.iload X0 hx (pc' := 33) (hb hby d_prog_14_method_18_31) rfl ?_
    refine Ow.bipush X0 hx (pc' := 35) (hb hby d_prog_14_method_18_33) (z := (8 : Int32)) rfl ?_
    refine Ow.icmpNo X0 hx (pc' := 38) (hb hby d_prog_14_method_18_35) (tlt (by decide : (3 : Int32) < (8 : Int32))).2.1 ?_
    refine Ow.iload X0 hx (pc' := 40) (hb hby d_prog_14_method_18_38) rfl ?_
    refine Ow.aloadN X0 hx (pc' := 41) (hb hby d_prog_14_method_18_40) rfl rfl ?_
    refine Ow.iload X0 hx (pc' := 43) (hb hby d_prog_14_method_18_41) rfl ?_
    refine Ow.iload X0 hx (pc' := 45) (hb hby d_prog_14_method_18_43) rfl ?_
    refine Ow.iadd X0 hx (pc' := 46) (hb hby d_prog_14_method_18_45) (z := (xpk_2 + (3 : Int32))) rfl ?_
    refine Ow.ldI X0 hx hZ e0 V_apk_1 (pc' := 47) (hb hby d_prog_14_method_18_46) (j := (xpk_2 + (3 : Int32))) (i := (own_n xpk_2 + 3)) (v := (.int (w 3))) ((own_ix (m := 3) hbd.1 (own_ad hbd.1 own_z0 3 3 (by decide) (by decide))).1) ((own_ix (m := 3) hbd.1 (own_ad hbd.1 own_z0 3 3 (by decide) (by decide))).2) (hv _ (own_in (m := 3) hbd (by omega))) ?_
    refine Ow.ior X0 hx (pc' := 48) (hb hby d_prog_14_method_18_47) (z := (((((0 : Int32) ||| (w 0)) ||| (w 1)) ||| (w 2)) ||| (w 3))) rfl ?_
    refine Ow.istore X0 hx (pc' := 50) (hb hby d_prog_14_method_18_48) (l' := #[.val (.ref apk_1), .val (.int xpk_2), .val (.int xpk_3), .val (.ref apk_4), .val (.int xpk_5), .val (.int (((((0 : Int32) ||| (w 0)) ||| (w 1)) ||| (w 2)) ||| (w 3))), .val (.int xpk_5), .val (.int xpk_2), .val (.int (xpk_2 + xpk_3)), .val (.int ((((0 : Int32) ||| ((w 0) <<< ((0 : Int32) &&& 31))) ||| ((w 1) <<< ((1 : Int32) &&& 31))) ||| ((w 2) <<< ((2 : Int32) &&& 31)))), .val (.int (3 : Int32))]) rfl ?_
    refine Ow.iload X0 hx (pc' := 52) (hb hby d_prog_14_method_18_50) rfl ?_
    refine Ow.aloadN X0 hx (pc' := 53) (hb hby d_prog_14_method_18_52) rfl rfl ?_
    refine Ow.iload X0 hx (pc' := 55) (hb hby d_prog_14_method_18_53) rfl ?_
    refine Ow.iload X0 hx (pc' := 57) (hb hby d_prog_14_method_18_55) rfl ?_
    refine Ow.iadd X0 hx (pc' := 58) (hb hby d_prog_14_method_18_57) (z := (xpk_2 + (3 : Int32))) rfl ?_
    refine Ow.ldI X0 hx hZ e0 V_apk_1 (pc' := 59) (hb hby d_prog_14_method_18_58) (j := (xpk_2 + (3 : Int32))) (i := (own_n xpk_2 + 3)) (v := (.int (w 3))) ((own_ix (m := 3) hbd.1 (own_ad hbd.1 own_z0 3 3 (by decide) (by decide))).1) ((own_ix (m := 3) hbd.1 (own_ad hbd.1 own_z0 3 3 (by decide) (by decide))).2) (hv _ (own_in (m := 3) hbd (by omega))) ?_
    refine Ow.iload X0 hx (pc' := 61) (hb hby d_prog_14_method_18_59) rfl ?_
    refine Ow.ishl X0 hx (pc' := 62) (hb hby d_prog_14_method_18_61) (z := ((w 3) <<< ((3 : Int32) &&& 31))) rfl ?_
    refine Ow.ior X0 hx (pc' := 63) (hb hby d_prog_14_method_18_62) (z := (((((0 : Int32) ||| ((w 0) <<< ((0 : Int32) &&& 31))) ||| ((w 1) <<< ((1 : Int32) &&& 31))) ||| ((w 2) <<< ((2 : Int32) &&& 31))) ||| ((w 3) <<< ((3 : Int32) &&& 31)))) rfl ?_
    refine Ow.istore X0 hx (pc' := 65) (hb hby d_prog_14_method_18_63) (l' := #[.val (.ref apk_1), .val (.int xpk_2), .val (.int xpk_3), .val (.ref apk_4), .val (.int xpk_5), .val (.int (((((0 : Int32) ||| (w 0)) ||| (w 1)) ||| (w 2)) ||| (w 3))), .val (.int xpk_5), .val (.int xpk_2), .val (.int (xpk_2 + xpk_3)), .val (.int (((((0 : Int32) ||| ((w 0) <<< ((0 : Int32) &&& 31))) ||| ((w 1) <<< ((1 : Int32) &&& 31))) ||| ((w 2) <<< ((2 : Int32) &&& 31))) ||| ((w 3) <<< ((3 : Int32) &&& 31)))), .val (.int (3 : Int32))]) rfl ?_
    refine Ow.iinc X0 hx (pc' := 68) (hb hby d_prog_14_method_18_65) rfl (l' := #[.val (.ref apk_1), .val (.int xpk_2), .val (.int xpk_3), .val (.ref apk_4), .val (.int xpk_5), .val (.int (((((0 : Int32) ||| (w 0)) ||| (w 1)) ||| (w 2)) ||| (w 3))), .val (.int xpk_5), .val (.int xpk_2), .val (.int (xpk_2 + xpk_3)), .val (.int (((((0 : Int32) ||| ((w 0) <<< ((0 : Int32) &&& 31))) ||| ((w 1) <<< ((1 : Int32) &&& 31))) ||| ((w 2) <<< ((2 : Int32) &&& 31))) ||| ((w 3) <<< ((3 : Int32) &&& 31)))), .val (.int (4 : Int32))]) rfl ?_
    show Wq _ _ _ _ _ (s₁.setTop (mkF m 68 #[.val (.ref apk_1), .val (.int xpk_2), .val (.int xpk_3), .val (.ref apk_4), .val (.int xpk_5), .val (.int (((((0 : Int32) ||| (w 0)) ||| (w 1)) ||| (w 2)) ||| (w 3))), .val (.int xpk_5), .val (.int xpk_2), .val (.int (xpk_2 + xpk_3)), .val (.int (((((0 : Int32) ||| ((w 0) <<< ((0 : Int32) &&& 31))) ||| ((w 1) <<< ((1 : Int32) &&& 31))) ||| ((w 2) <<< ((2 : Int32) &&& 31))) ||| ((w 3) <<< ((3 : Int32) &&& 31)))), .val (.int (4 : Int32))] []))
    refine Ow.goto X0 hx (pc' := 31) (hb hby d_prog_14_method_18_68) (by decide) (by decide) ?_
    refine Ow.iload X0 hx (pc' := 33) (hb hby d_prog_14_method_18_31) rfl ?_
    refine Ow.bipush X0 hx (pc' := 35) (hb hby d_prog_14_method_18_33) (z := (8 : Int32)) rfl ?_
    refine Ow.icmpNo X0 hx (pc' := 38) (hb hby d_prog_14_method_18_35) (tlt (by decide : (4 : Int32) < (8 : Int32))).2.1 ?_
    refine Ow.iload X0 hx (pc' := 40) (hb hby d_prog_14_method_18_38) rfl ?_
    refine Ow.aloadN X0 hx (pc' := 41) (hb hby d_prog_14_method_18_40) rfl rfl ?_
    refine Ow.iload X0 hx (pc' := 43) (hb hby d_prog_14_method_18_41) rfl ?_
    refine Ow.iload X0 hx (pc' := 45) (hb hby d_prog_14_method_18_43) rfl ?_
    refine Ow.iadd X0 hx (pc' := 46) (hb hby d_prog_14_method_18_45) (z := (xpk_2 + (4 : Int32))) rfl ?_
    refine Ow.ldI X0 hx hZ e0 V_apk_1 (pc' := 47) (hb hby d_prog_14_method_18_46) (j := (xpk_2 + (4 : Int32))) (i := (own_n xpk_2 + 4)) (v := (.int (w 4))) ((own_ix (m := 4) hbd.1 (own_ad hbd.1 own_z0 4 4 (by decide) (by decide))).1) ((own_ix (m := 4) hbd.1 (own_ad hbd.1 own_z0 4 4 (by decide) (by decide))).2) (hv _ (own_in (m := 4) hbd (by omega))) ?_
    refine Ow.ior X0 hx (pc' := 48) (hb hby d_prog_14_method_18_47) (z := ((((((0 : Int32) ||| (w 0)) ||| (w 1)) ||| (w 2)) ||| (w 3)) ||| (w 4))) rfl ?_
    refine Ow.istore X0 hx (pc' := 50) (hb hby d_prog_14_method_18_48) (l' := #[.val (.ref apk_1), .val (.int xpk_2), .val (.int xpk_3), .val (.ref apk_4), .val (.int xpk_5), .val (.int ((((((0 : Int32) ||| (w 0)) ||| (w 1)) ||| (w 2)) ||| (w 3)) ||| (w 4))), .val (.int xpk_5), .val (.int xpk_2), .val (.int (xpk_2 + xpk_3)), .val (.int (((((0 : Int32) ||| ((w 0) <<< ((0 : Int32) &&& 31))) ||| ((w 1) <<< ((1 : Int32) &&& 31))) ||| ((w 2) <<< ((2 : Int32) &&& 31))) ||| ((w 3) <<< ((3 : Int32) &&& 31)))), .val (.int (4 : Int32))]) rfl ?_
    refine Ow.iload X0 hx (pc' := 52) (hb hby d_prog_14_method_18_50) rfl ?_
    refine Ow.aloadN X0 hx (pc' := 53) (hb hby d_prog_14_method_18_52) rfl rfl ?_
    refine Ow.iload X0 hx (pc' := 55) (hb hby d_prog_14_method_18_53) rfl ?_
    refine Ow.iload X0 hx (pc' := 57) (hb hby d_prog_14_method_18_55) rfl ?_
    refine Ow.iadd X0 hx (pc' := 58) (hb hby d_prog_14_method_18_57) (z := (xpk_2 + (4 : Int32))) rfl ?_
    refine Ow.ldI X0 hx hZ e0 V_apk_1 (pc' := 59) (hb hby d_prog_14_method_18_58) (j := (xpk_2 + (4 : Int32))) (i := (own_n xpk_2 + 4)) (v := (.int (w 4))) ((own_ix (m := 4) hbd.1 (own_ad hbd.1 own_z0 4 4 (by decide) (by decide))).1) ((own_ix (m := 4) hbd.1 (own_ad hbd.1 own_z0 4 4 (by decide) (by decide))).2) (hv _ (own_in (m := 4) hbd (by omega))) ?_
    refine Ow.iload X0 hx (pc' := 61) (hb hby d_prog_14_method_18_59) rfl ?_
    refine Ow.ishl X0 hx (pc' := 62) (hb hby d_prog_14_method_18_61) (z := ((w 4) <<< ((4 : Int32) &&& 31))) rfl ?_
    refine Ow.ior X0 hx (pc' := 63) (hb hby d_prog_14_method_18_62) (z := ((((((0 : Int32) ||| ((w 0) <<< ((0 : Int32) &&& 31))) ||| ((w 1) <<< ((1 : Int32) &&& 31))) ||| ((w 2) <<< ((2 : Int32) &&& 31))) ||| ((w 3) <<< ((3 : Int32) &&& 31))) ||| ((w 4) <<< ((4 : Int32) &&& 31)))) rfl ?_
    refine Ow.istore X0 hx (pc' := 65) (hb hby d_prog_14_method_18_63) (l' := #[.val (.ref apk_1), .val (.int xpk_2), .val (.int xpk_3), .val (.ref apk_4), .val (.int xpk_5), .val (.int ((((((0 : Int32) ||| (w 0)) ||| (w 1)) ||| (w 2)) ||| (w 3)) ||| (w 4))), .val (.int xpk_5), .val (.int xpk_2), .val (.int (xpk_2 + xpk_3)), .val (.int ((((((0 : Int32) ||| ((w 0) <<< ((0 : Int32) &&& 31))) ||| ((w 1) <<< ((1 : Int32) &&& 31))) ||| ((w 2) <<< ((2 : Int32) &&& 31))) ||| ((w 3) <<< ((3 : Int32) &&& 31))) ||| ((w 4) <<< ((4 : Int32) &&& 31)))), .val (.int (4 : Int32))]) rfl ?_
    refine Ow.iinc X0 hx (pc' := 68) (hb hby d_prog_14_method_18_65) rfl (l' := #[.val (.ref apk_1), .val (.int xpk_2), .val (.int xpk_3), .val (.ref apk_4), .val (.int xpk_5), .val (.int ((((((0 : Int32) ||| (w 0)) ||| (w 1)) ||| (w 2)) ||| (w 3)) ||| (w 4))), .val (.int xpk_5), .val (.int xpk_2), .val (.int (xpk_2 + xpk_3)), .val (.int ((((((0 : Int32) ||| ((w 0) <<< ((0 : Int32) &&& 31))) ||| ((w 1) <<< ((1 : Int32) &&& 31))) ||| ((w 2) <<< ((2 : Int32) &&& 31))) ||| ((w 3) <<< ((3 : Int32) &&& 31))) ||| ((w 4) <<< ((4 : Int32) &&& 31)))), .val (.int (5 : Int32))]) rfl ?_
    show Wq _ _ _ _ _ (s₁.setTop (mkF m 68 #[.val (.ref apk_1), .val (.int xpk_2), .val (.int xpk_3), .val (.ref apk_4), .val (.int xpk_5), .val (.int ((((((0 : Int32) ||| (w 0)) ||| (w 1)) ||| (w 2)) ||| (w 3)) ||| (w 4))), .val (.int xpk_5), .val (.int xpk_2), .val (.int (xpk_2 + xpk_3)), .val (.int ((((((0 : Int32) ||| ((w 0) <<< ((0 : Int32) &&& 31))) ||| ((w 1) <<< ((1 : Int32) &&& 31))) ||| ((w 2) <<< ((2 : Int32) &&& 31))) ||| ((w 3) <<< ((3 : Int32) &&& 31))) ||| ((w 4) <<< ((4 : Int32) &&& 31)))), .val (.int (5 : Int32))] []))
    refine Ow.goto X0 hx (pc' := 31) (hb hby d_prog_14_method_18_68) (by decide) (by decide) ?_
    refine Ow.iload X0 hx (pc' := 33) (hb hby d_prog_14_method_18_31) rfl ?_
    refine Ow.bipush X0 hx (pc' := 35) (hb hby d_prog_14_method_18_33) (z := (8 : Int32)) rfl ?_
    refine Ow.icmpNo X0 hx (pc' := 38) (hb hby d_prog_14_method_18_35) (tlt (by decide : (5 : Int32) < (8 : Int32))).2.1 ?_
    refine Ow.iload X0 hx (pc' := 40) (hb hby d_prog_14_method_18_38) rfl ?_
    refine Ow.aloadN X0 hx (pc' := 41) (hb hby d_prog_14_method_18_40) rfl rfl ?_
    refine Ow.iload X0 hx (pc' := 43) (hb hby d_prog_14_method_18_41) rfl ?_
    refine Ow.iload X0 hx (pc' := 45) (hb hby d_prog_14_method_18_43) rfl ?_
    refine Ow.iadd X0 hx (pc' := 46) (hb hby d_prog_14_method_18_45) (z := (xpk_2 + (5 : Int32))) rfl ?_
    refine Ow.ldI X0 hx hZ e0 V_apk_1 (pc' := 47) (hb hby d_prog_14_method_18_46) (j := (xpk_2 + (5 : Int32))) (i := (own_n xpk_2 + 5)) (v := (.int (w 5))) ((own_ix (m := 5) hbd.1 (own_ad hbd.1 own_z0 5 5 (by decide) (by decide))).1) ((own_ix (m := 5) hbd.1 (own_ad hbd.1 own_z0 5 5 (by decide) (by decide))).2) (hv _ (own_in (m := 5) hbd (by omega))) ?_
    refine Ow.ior X0 hx (pc' := 48) (hb hby d_prog_14_method_18_47) (z := (((((((0 : Int32) ||| (w 0)) ||| (w 1)) ||| (w 2)) ||| (w 3)) ||| (w 4)) ||| (w 5))) rfl ?_
    refine Ow.istore X0 hx (pc' := 50) (hb hby d_prog_14_method_18_48) (l' := #[.val (.ref apk_1), .val (.int xpk_2), .val (.int xpk_3), .val (.ref apk_4), .val (.int xpk_5), .val (.int (((((((0 : Int32) ||| (w 0)) ||| (w 1)) ||| (w 2)) ||| (w 3)) ||| (w 4)) ||| (w 5))), .val (.int xpk_5), .val (.int xpk_2), .val (.int (xpk_2 + xpk_3)), .val (.int ((((((0 : Int32) ||| ((w 0) <<< ((0 : Int32) &&& 31))) ||| ((w 1) <<< ((1 : Int32) &&& 31))) ||| ((w 2) <<< ((2 : Int32) &&& 31))) ||| ((w 3) <<< ((3 : Int32) &&& 31))) ||| ((w 4) <<< ((4 : Int32) &&& 31)))), .val (.int (5 : Int32))]) rfl ?_
    refine Ow.iload X0 hx (pc' := 52) (hb hby d_prog_14_method_18_50) rfl ?_
    refine Ow.aloadN X0 hx (pc' := 53) (hb hby d_prog_14_method_18_52) rfl rfl ?_
    refine Ow.iload X0 hx (pc' := 55) (hb hby d_prog_14_method_18_53) rfl ?_
    refine Ow.iload X0 hx (pc' := 57) (hb hby d_prog_14_method_18_55) rfl ?_
    refine Ow.iadd X0 hx (pc' := 58) (hb hby d_prog_14_method_18_57) (z := (xpk_2 + (5 : Int32))) rfl ?_
    refine Ow.ldI X0 hx hZ e0 V_apk_1 (pc' := 59) (hb hby d_prog_14_method_18_58) (j := (xpk_2 + (5 : Int32))) (i := (own_n xpk_2 + 5)) (v := (.int (w 5))) ((own_ix (m := 5) hbd.1 (own_ad hbd.1 own_z0 5 5 (by decide) (by decide))).1) ((own_ix (m := 5) hbd.1 (own_ad hbd.1 own_z0 5 5 (by decide) (by decide))).2) (hv _ (own_in (m := 5) hbd (by omega))) ?_
    refine Ow.iload X0 hx (pc' := 61) (hb hby d_prog_14_method_18_59) rfl ?_
    refine Ow.ishl X0 hx (pc' := 62) (hb hby d_prog_14_method_18_61) (z := ((w 5) <<< ((5 : Int32) &&& 31))) rfl ?_
    refine Ow.ior X0 hx (pc' := 63) (hb hby d_prog_14_method_18_62) (z := (((((((0 : Int32) ||| ((w 0) <<< ((0 : Int32) &&& 31))) ||| ((w 1) <<< ((1 : Int32) &&& 31))) ||| ((w 2) <<< ((2 : Int32) &&& 31))) ||| ((w 3) <<< ((3 : Int32) &&& 31))) ||| ((w 4) <<< ((4 : Int32) &&& 31))) ||| ((w 5) <<< ((5 : Int32) &&& 31)))) rfl ?_
    refine Ow.istore X0 hx (pc' := 65) (hb hby d_prog_14_method_18_63) (l' := #[.val (.ref apk_1), .val (.int xpk_2), .val (.int xpk_3), .val (.ref apk_4), .val (.int xpk_5), .val (.int (((((((0 : Int32) ||| (w 0)) ||| (w 1)) ||| (w 2)) ||| (w 3)) ||| (w 4)) ||| (w 5))), .val (.int xpk_5), .val (.int xpk_2), .val (.int (xpk_2 + xpk_3)), .val (.int (((((((0 : Int32) ||| ((w 0) <<< ((0 : Int32) &&& 31))) ||| ((w 1) <<< ((1 : Int32) &&& 31))) ||| ((w 2) <<< ((2 : Int32) &&& 31))) ||| ((w 3) <<< ((3 : Int32) &&& 31))) ||| ((w 4) <<< ((4 : Int32) &&& 31))) ||| ((w 5) <<< ((5 : Int32) &&& 31)))), .val (.int (5 : Int32))]) rfl ?_
    refine Ow.iinc X0 hx (pc' := 68) (hb hby d_prog_14_method_18_65) rfl (l' := #[.val (.ref apk_1), .val (.int xpk_2), .val (.int xpk_3), .val (.ref apk_4), .val (.int xpk_5), .val (.int (((((((0 : Int32) ||| (w 0)) ||| (w 1)) ||| (w 2)) ||| (w 3)) ||| (w 4)) ||| (w 5))), .val (.int xpk_5), .val (.int xpk_2), .val (.int (xpk_2 + xpk_3)), .val (.int (((((((0 : Int32) ||| ((w 0) <<< ((0 : Int32) &&& 31))) ||| ((w 1) <<< ((1 : Int32) &&& 31))) ||| ((w 2) <<< ((2 : Int32) &&& 31))) ||| ((w 3) <<< ((3 : Int32) &&& 31))) ||| ((w 4) <<< ((4 : Int32) &&& 31))) ||| ((w 5) <<< ((5 : Int32) &&& 31)))), .val (.int (6 : Int32))]) rfl ?_
    show Wq _ _ _ _ _ (s₁.setTop (mkF m 68 #[.val (.ref apk_1), .val (.int xpk_2), .val (.int xpk_3), .val (.ref apk_4), .val (.int xpk_5), .val (.int (((((((0 : Int32) ||| (w 0)) ||| (w 1)) ||| (w 2)) ||| (w 3)) ||| (w 4)) ||| (w 5))), .val (.int xpk_5), .val (.int xpk_2), .val (.int (xpk_2 + xpk_3)), .val (.int (((((((0 : Int32) ||| ((w 0) <<< ((0 : Int32) &&& 31))) ||| ((w 1) <<< ((1 : Int32) &&& 31))) ||| ((w 2) <<< ((2 : Int32) &&& 31))) ||| ((w 3) <<< ((3 : Int32) &&& 31))) ||| ((w 4) <<< ((4 : Int32) &&& 31))) ||| ((w 5) <<< ((5 : Int32) &&& 31)))), .val (.int (6 : Int32))] []))
    refine Ow.goto X0 hx (pc' := 31) (hb hby d_prog_14_method_18_68) (by decide) (by decide) ?_
    refine Ow.iload X0 hx (pc' := 33) (hb hby d_prog_14_method_18_31) rfl ?_
    refine Ow.bipush X0 hx (pc' := 35) (hb hby d_prog_14_method_18_33) (z := (8 : Int32)) rfl ?_
    refine Ow.icmpNo X0 hx (pc' := 38) (hb hby d_prog_14_method_18_35) (tlt (by decide : (6 : Int32) < (8 : Int32))).2.1 ?_
    refine Ow.iload X0 hx (pc' := 40) (hb hby d_prog_14_method_18_38) rfl ?_
    refine Ow.aloadN X0 hx (pc' := 41) (hb hby d_prog_14_method_18_40) rfl rfl ?_
    refine Ow.iload X0 hx (pc' := 43) (hb hby d_prog_14_method_18_41) rfl ?_
    refine Ow.iload X0 hx (pc' := 45) (hb hby d_prog_14_method_18_43) rfl ?_
    refine Ow.iadd X0 hx (pc' := 46) (hb hby d_prog_14_method_18_45) (z := (xpk_2 + (6 : Int32))) rfl ?_
    refine Ow.ldI X0 hx hZ e0 V_apk_1 (pc' := 47) (hb hby d_prog_14_method_18_46) (j := (xpk_2 + (6 : Int32))) (i := (own_n xpk_2 + 6)) (v := (.int (w 6))) ((own_ix (m := 6) hbd.1 (own_ad hbd.1 own_z0 6 6 (by decide) (by decide))).1) ((own_ix (m := 6) hbd.1 (own_ad hbd.1 own_z0 6 6 (by decide) (by decide))).2) (hv _ (own_in (m := 6) hbd (by omega))) ?_
    refine Ow.ior X0 hx (pc' := 48) (hb hby d_prog_14_method_18_47) (z := ((((((((0 : Int32) ||| (w 0)) ||| (w 1)) ||| (w 2)) ||| (w 3)) ||| (w 4)) ||| (w 5)) ||| (w 6))) rfl ?_
    refine Ow.istore X0 hx (pc' := 50) (hb hby d_prog_14_method_18_48) (l' := #[.val (.ref apk_1), .val (.int xpk_2), .val (.int xpk_3), .val (.ref apk_4), .val (.int xpk_5), .val (.int ((((((((0 : Int32) ||| (w 0)) ||| (w 1)) ||| (w 2)) ||| (w 3)) ||| (w 4)) ||| (w 5)) ||| (w 6))), .val (.int xpk_5), .val (.int xpk_2), .val (.int (xpk_2 + xpk_3)), .val (.int (((((((0 : Int32) ||| ((w 0) <<< ((0 : Int32) &&& 31))) ||| ((w 1) <<< ((1 : Int32) &&& 31))) ||| ((w 2) <<< ((2 : Int32) &&& 31))) ||| ((w 3) <<< ((3 : Int32) &&& 31))) ||| ((w 4) <<< ((4 : Int32) &&& 31))) ||| ((w 5) <<< ((5 : Int32) &&& 31)))), .val (.int (6 : Int32))]) rfl ?_
    refine Ow.iload X0 hx (pc' := 52) (hb hby d_prog_14_method_18_50) rfl ?_
    refine Ow.aloadN X0 hx (pc' := 53) (hb hby d_prog_14_method_18_52) rfl rfl ?_
    refine Ow.iload X0 hx (pc' := 55) (hb hby d_prog_14_method_18_53) rfl ?_
    refine Ow.iload X0 hx (pc' := 57) (hb hby d_prog_14_method_18_55) rfl ?_
    refine Ow.iadd X0 hx (pc' := 58) (hb hby d_prog_14_method_18_57) (z := (xpk_2 + (6 : Int32))) rfl ?_
    refine Ow.ldI X0 hx hZ e0 V_apk_1 (pc' := 59) (hb hby d_prog_14_method_18_58) (j := (xpk_2 + (6 : Int32))) (i := (own_n xpk_2 + 6)) (v := (.int (w 6))) ((own_ix (m := 6) hbd.1 (own_ad hbd.1 own_z0 6 6 (by decide) (by decide))).1) ((own_ix (m := 6) hbd.1 (own_ad hbd.1 own_z0 6 6 (by decide) (by decide))).2) (hv _ (own_in (m := 6) hbd (by omega))) ?_
    refine Ow.iload X0 hx (pc' := 61) (hb hby d_prog_14_method_18_59) rfl ?_
    refine Ow.ishl X0 hx (pc' := 62) (hb hby d_prog_14_method_18_61) (z := ((w 6) <<< ((6 : Int32) &&& 31))) rfl ?_
    refine Ow.ior X0 hx (pc' := 63) (hb hby d_prog_14_method_18_62) (z := ((((((((0 : Int32) ||| ((w 0) <<< ((0 : Int32) &&& 31))) ||| ((w 1) <<< ((1 : Int32) &&& 31))) ||| ((w 2) <<< ((2 : Int32) &&& 31))) ||| ((w 3) <<< ((3 : Int32) &&& 31))) ||| ((w 4) <<< ((4 : Int32) &&& 31))) ||| ((w 5) <<< ((5 : Int32) &&& 31))) ||| ((w 6) <<< ((6 : Int32) &&& 31)))) rfl ?_
    refine Ow.istore X0 hx (pc' := 65) (hb hby d_prog_14_method_18_63) (l' := #[.val (.ref apk_1), .val (.int xpk_2), .val (.int xpk_3), .val (.ref apk_4), .val (.int xpk_5), .val (.int ((((((((0 : Int32) ||| (w 0)) ||| (w 1)) ||| (w 2)) ||| (w 3)) ||| (w 4)) ||| (w 5)) ||| (w 6))), .val (.int xpk_5), .val (.int xpk_2), .val (.int (xpk_2 + xpk_3)), .val (.int ((((((((0 : Int32) ||| ((w 0) <<< ((0 : Int32) &&& 31))) ||| ((w 1) <<< ((1 : Int32) &&& 31))) ||| ((w 2) <<< ((2 : Int32) &&& 31))) ||| ((w 3) <<< ((3 : Int32) &&& 31))) ||| ((w 4) <<< ((4 : Int32) &&& 31))) ||| ((w 5) <<< ((5 : Int32) &&& 31))) ||| ((w 6) <<< ((6 : Int32) &&& 31)))), .val (.int (6 : Int32))]) rfl ?_
    refine Ow.iinc X0 hx (pc' := 68) (hb hby d_prog_14_method_18_65) rfl (l' := #[.val (.ref apk_1), .val (.int xpk_2), .val (.int xpk_3), .val (.ref apk_4), .val (.int xpk_5), .val (.int ((((((((0 : Int32) ||| (w 0)) ||| (w 1)) ||| (w 2)) ||| (w 3)) ||| (w 4)) ||| (w 5)) ||| (w 6))), .val (.int xpk_5), .val (.int xpk_2), .val (.int (xpk_2 + xpk_3)), .val (.int ((((((((0 : Int32) ||| ((w 0) <<< ((0 : Int32) &&& 31))) ||| ((w 1) <<< ((1 : Int32) &&& 31))) ||| ((w 2) <<< ((2 : Int32) &&& 31))) ||| ((w 3) <<< ((3 : Int32) &&& 31))) ||| ((w 4) <<< ((4 : Int32) &&& 31))) ||| ((w 5) <<< ((5 : Int32) &&& 31))) ||| ((w 6) <<< ((6 : Int32) &&& 31)))), .val (.int (7 : Int32))]) rfl ?_
    show Wq _ _ _ _ _ (s₁.setTop (mkF m 68 #[.val (.ref apk_1), .val (.int xpk_2), .val (.int xpk_3), .val (.ref apk_4), .val (.int xpk_5), .val (.int ((((((((0 : Int32) ||| (w 0)) ||| (w 1)) ||| (w 2)) ||| (w 3)) ||| (w 4)) ||| (w 5)) ||| (w 6))), .val (.int xpk_5), .val (.int xpk_2), .val (.int (xpk_2 + xpk_3)), .val (.int ((((((((0 : Int32) ||| ((w 0) <<< ((0 : Int32) &&& 31))) ||| ((w 1) <<< ((1 : Int32) &&& 31))) ||| ((w 2) <<< ((2 : Int32) &&& 31))) ||| ((w 3) <<< ((3 : Int32) &&& 31))) ||| ((w 4) <<< ((4 : Int32) &&& 31))) ||| ((w 5) <<< ((5 : Int32) &&& 31))) ||| ((w 6) <<< ((6 : Int32) &&& 31)))), .val (.int (7 : Int32))] []))
    refine Ow.goto X0 hx (pc' := 31) (hb hby d_prog_14_method_18_68) (by decide) (by decide) ?_
    refine Ow.iload X0 hx (pc' := 33) (hb hby d_prog_14_method_18_31) rfl ?_
    refine Ow.bipush X0 hx (pc' := 35) (hb hby d_prog_14_method_18_33) (z := (8 : Int32)) rfl ?_
    refine Ow.icmpNo X0 hx (pc' := 38) (hb hby d_prog_14_method_18_35) (tlt (by decide : (7 : Int32) < (8 : Int32))).2.1 ?_
    refine Ow.iload X0 hx (pc' := 40) (hb hby d_prog_14_method_18_38) rfl ?_
    refine Ow.aloadN X0 hx (pc' := 41) (hb hby d_prog_14_method_18_40) rfl rfl ?_
    refine Ow.iload X0 hx (pc' := 43) (hb hby d_prog_14_method_18_41) rfl ?_
    refine Ow.iload X0 hx (pc' := 45) (hb hby d_prog_14_method_18_43) rfl ?_
    refine Ow.iadd X0 hx (pc' := 46) (hb hby d_prog_14_method_18_45) (z := (xpk_2 + (7 : Int32))) rfl ?_
    refine Ow.ldI X0 hx hZ e0 V_apk_1 (pc' := 47) (hb hby d_prog_14_method_18_46) (j := (xpk_2 + (7 : Int32))) (i := (own_n xpk_2 + 7)) (v := (.int (w 7))) ((own_ix (m := 7) hbd.1 (own_ad hbd.1 own_z0 7 7 (by decide) (by decide))).1) ((own_ix (m := 7) hbd.1 (own_ad hbd.1 own_z0 7 7 (by decide) (by decide))).2) (hv _ (own_in (m := 7) hbd (by omega))) ?_
    refine Ow.ior X0 hx (pc' := 48) (hb hby d_prog_14_method_18_47) (z := (((((((((0 : Int32) ||| (w 0)) ||| (w 1)) ||| (w 2)) ||| (w 3)) ||| (w 4)) ||| (w 5)) ||| (w 6)) ||| (w 7))) rfl ?_
    refine Ow.istore X0 hx (pc' := 50) (hb hby d_prog_14_method_18_48) (l' := #[.val (.ref apk_1), .val (.int xpk_2), .val (.int xpk_3), .val (.ref apk_4), .val (.int xpk_5), .val (.int (((((((((0 : Int32) ||| (w 0)) ||| (w 1)) ||| (w 2)) ||| (w 3)) ||| (w 4)) ||| (w 5)) ||| (w 6)) ||| (w 7))), .val (.int xpk_5), .val (.int xpk_2), .val (.int (xpk_2 + xpk_3)), .val (.int ((((((((0 : Int32) ||| ((w 0) <<< ((0 : Int32) &&& 31))) ||| ((w 1) <<< ((1 : Int32) &&& 31))) ||| ((w 2) <<< ((2 : Int32) &&& 31))) ||| ((w 3) <<< ((3 : Int32) &&& 31))) ||| ((w 4) <<< ((4 : Int32) &&& 31))) ||| ((w 5) <<< ((5 : Int32) &&& 31))) ||| ((w 6) <<< ((6 : Int32) &&& 31)))), .val (.int (7 : Int32))]) rfl ?_
    refine Ow.iload X0 hx (pc' := 52) (hb hby d_prog_14_method_18_50) rfl ?_
    refine Ow.aloadN X0 hx (pc' := 53) (hb hby d_prog_14_method_18_52) rfl rfl ?_
    refine Ow.iload X0 hx (pc' := 55) (hb hby d_prog_14_method_18_53) rfl ?_
    refine Ow.iload X0 hx (pc' := 57) (hb hby d_prog_14_method_18_55) rfl ?_
    refine Ow.iadd X0 hx (pc' := 58) (hb hby d_prog_14_method_18_57) (z := (xpk_2 + (7 : Int32))) rfl ?_
    refine Ow.ldI X0 hx hZ e0 V_apk_1 (pc' := 59) (hb hby d_prog_14_method_18_58) (j := (xpk_2 + (7 : Int32))) (i := (own_n xpk_2 + 7)) (v := (.int (w 7))) ((own_ix (m := 7) hbd.1 (own_ad hbd.1 own_z0 7 7 (by decide) (by decide))).1) ((own_ix (m := 7) hbd.1 (own_ad hbd.1 own_z0 7 7 (by decide) (by decide))).2) (hv _ (own_in (m := 7) hbd (by omega))) ?_
    refine Ow.iload X0 hx (pc' := 61) (hb hby d_prog_14_method_18_59) rfl ?_
    refine Ow.ishl X0 hx (pc' := 62) (hb hby d_prog_14_method_18_61) (z := ((w 7) <<< ((7 : Int32) &&& 31))) rfl ?_
    refine Ow.ior X0 hx (pc' := 63) (hb hby d_prog_14_method_18_62) (z := (((((((((0 : Int32) ||| ((w 0) <<< ((0 : Int32) &&& 31))) ||| ((w 1) <<< ((1 : Int32) &&& 31))) ||| ((w 2) <<< ((2 : Int32) &&& 31))) ||| ((w 3) <<< ((3 : Int32) &&& 31))) ||| ((w 4) <<< ((4 : Int32) &&& 31))) ||| ((w 5) <<< ((5 : Int32) &&& 31))) ||| ((w 6) <<< ((6 : Int32) &&& 31))) ||| ((w 7) <<< ((7 : Int32) &&& 31)))) rfl ?_
    refine Ow.istore X0 hx (pc' := 65) (hb hby d_prog_14_method_18_63) (l' := #[.val (.ref apk_1), .val (.int xpk_2), .val (.int xpk_3), .val (.ref apk_4), .val (.int xpk_5), .val (.int (((((((((0 : Int32) ||| (w 0)) ||| (w 1)) ||| (w 2)) ||| (w 3)) ||| (w 4)) ||| (w 5)) ||| (w 6)) ||| (w 7))), .val (.int xpk_5), .val (.int xpk_2), .val (.int (xpk_2 + xpk_3)), .val (.int (((((((((0 : Int32) ||| ((w 0) <<< ((0 : Int32) &&& 31))) ||| ((w 1) <<< ((1 : Int32) &&& 31))) ||| ((w 2) <<< ((2 : Int32) &&& 31))) ||| ((w 3) <<< ((3 : Int32) &&& 31))) ||| ((w 4) <<< ((4 : Int32) &&& 31))) ||| ((w 5) <<< ((5 : Int32) &&& 31))) ||| ((w 6) <<< ((6 : Int32) &&& 31))) ||| ((w 7) <<< ((7 : Int32) &&& 31)))), .val (.int (7 : Int32))]) rfl ?_
    refine Ow.iinc X0 hx (pc' := 68) (hb hby d_prog_14_method_18_65) rfl (l' := #[.val (.ref apk_1), .val (.int xpk_2), .val (.int xpk_3), .val (.ref apk_4), .val (.int xpk_5), .val (.int (((((((((0 : Int32) ||| (w 0)) ||| (w 1)) ||| (w 2)) ||| (w 3)) ||| (w 4)) ||| (w 5)) ||| (w 6)) ||| (w 7))), .val (.int xpk_5), .val (.int xpk_2), .val (.int (xpk_2 + xpk_3)), .val (.int (((((((((0 : Int32) ||| ((w 0) <<< ((0 : Int32) &&& 31))) ||| ((w 1) <<< ((1 : Int32) &&& 31))) ||| ((w 2) <<< ((2 : Int32) &&& 31))) ||| ((w 3) <<< ((3 : Int32) &&& 31))) ||| ((w 4) <<< ((4 : Int32) &&& 31))) ||| ((w 5) <<< ((5 : Int32) &&& 31))) ||| ((w 6) <<< ((6 : Int32) &&& 31))) ||| ((w 7) <<< ((7 : Int32) &&& 31)))), .val (.int (8 : Int32))]) rfl ?_
    show Wq _ _ _ _ _ (s₁.setTop (mkF m 68 #[.val (.ref apk_1), .val (.int xpk_2), .val (.int xpk_3), .val (.ref apk_4), .val (.int xpk_5), .val (.int (((((((((0 : Int32) ||| (w 0)) ||| (w 1)) ||| (w 2)) ||| (w 3)) ||| (w 4)) ||| (w 5)) ||| (w 6)) ||| (w 7))), .val (.int xpk_5), .val (.int xpk_2), .val (.int (xpk_2 + xpk_3)), .val (.int (((((((((0 : Int32) ||| ((w 0) <<< ((0 : Int32) &&& 31))) ||| ((w 1) <<< ((1 : Int32) &&& 31))) ||| ((w 2) <<< ((2 : Int32) &&& 31))) ||| ((w 3) <<< ((3 : Int32) &&& 31))) ||| ((w 4) <<< ((4 : Int32) &&& 31))) ||| ((w 5) <<< ((5 : Int32) &&& 31))) ||| ((w 6) <<< ((6 : Int32) &&& 31))) ||| ((w 7) <<< ((7 : Int32) &&& 31)))), .val (.int (8 : Int32))] []))
    refine Ow.goto X0 hx (pc' := 31) (hb hby d_prog_14_method_18_68) (by decide) (by decide) ?_
    refine Ow.iload X0 hx (pc' := 33) (hb hby d_prog_14_method_18_31) rfl ?_
    refine Ow.bipush X0 hx (pc' := 35) (hb hby d_prog_14_method_18_33) (z := (8 : Int32)) rfl ?_
    refine Ow.icmpYes X0 hx (pc' := 71) (hb hby d_prog_14_method_18_35) (flt (by decide : ¬ ((8 : Int32) < (8 : Int32)))).2.1 (by decide) (by decide) ?_
    refine Ow.aloadN X0 hx (pc' := 72) (hb hby d_prog_14_method_18_71) rfl rfl ?_
    refine Ow.iload X0 hx (pc' := 74) (hb hby d_prog_14_method_18_72) rfl ?_
    refine Ow.iinc X0 hx (pc' := 77) (hb hby d_prog_14_method_18_74) rfl (l' := #[.val (.ref apk_1), .val (.int xpk_2), .val (.int xpk_3), .val (.ref apk_4), .val (.int xpk_5), .val (.int (((((((((0 : Int32) ||| (w 0)) ||| (w 1)) ||| (w 2)) ||| (w 3)) ||| (w 4)) ||| (w 5)) ||| (w 6)) ||| (w 7))), .val (.int (xpk_5 + (1 : Int32))), .val (.int xpk_2), .val (.int (xpk_2 + xpk_3)), .val (.int (((((((((0 : Int32) ||| ((w 0) <<< ((0 : Int32) &&& 31))) ||| ((w 1) <<< ((1 : Int32) &&& 31))) ||| ((w 2) <<< ((2 : Int32) &&& 31))) ||| ((w 3) <<< ((3 : Int32) &&& 31))) ||| ((w 4) <<< ((4 : Int32) &&& 31))) ||| ((w 5) <<< ((5 : Int32) &&& 31))) ||| ((w 6) <<< ((6 : Int32) &&& 31))) ||| ((w 7) <<< ((7 : Int32) &&& 31)))), .val (.int (8 : Int32))]) rfl ?_
    show Wq _ _ _ _ _ (s₁.setTop (mkF m 77 #[.val (.ref apk_1), .val (.int xpk_2), .val (.int xpk_3), .val (.ref apk_4), .val (.int xpk_5), .val (.int (((((((((0 : Int32) ||| (w 0)) ||| (w 1)) ||| (w 2)) ||| (w 3)) ||| (w 4)) ||| (w 5)) ||| (w 6)) ||| (w 7))), .val (.int (xpk_5 + (1 : Int32))), .val (.int xpk_2), .val (.int (xpk_2 + xpk_3)), .val (.int (((((((((0 : Int32) ||| ((w 0) <<< ((0 : Int32) &&& 31))) ||| ((w 1) <<< ((1 : Int32) &&& 31))) ||| ((w 2) <<< ((2 : Int32) &&& 31))) ||| ((w 3) <<< ((3 : Int32) &&& 31))) ||| ((w 4) <<< ((4 : Int32) &&& 31))) ||| ((w 5) <<< ((5 : Int32) &&& 31))) ||| ((w 6) <<< ((6 : Int32) &&& 31))) ||| ((w 7) <<< ((7 : Int32) &&& 31)))), .val (.int (8 : Int32))] [(.int xpk_5), (.ref apk_4)]))
    refine Ow.iload X0 hx (pc' := 79) (hb hby d_prog_14_method_18_77) rfl ?_
    refine Ow.i2b X0 hx (pc' := 80) (hb hby d_prog_14_method_18_79) (z := ((((((((((0 : Int32) ||| ((w 0) <<< ((0 : Int32) &&& 31))) ||| ((w 1) <<< ((1 : Int32) &&& 31))) ||| ((w 2) <<< ((2 : Int32) &&& 31))) ||| ((w 3) <<< ((3 : Int32) &&& 31))) ||| ((w 4) <<< ((4 : Int32) &&& 31))) ||| ((w 5) <<< ((5 : Int32) &&& 31))) ||| ((w 6) <<< ((6 : Int32) &&& 31))) ||| ((w 7) <<< ((7 : Int32) &&& 31))).toInt8.toInt32)) rfl ?_
    obtain ⟨T28, h28, X28, e28, W28, Vr28, st28⟩ := asB X0 hx hZ e0 V_apk_4 (j := xpk_5) (i := (own_n xpk_5 + 0)) ((own_ix (m := 0) hbd.2.1 own_z0).1) ((own_ix (m := 0) hbd.2.1 own_z0).2) (own_ln hbd.2.1 (by first | exact hl | (simp only [List.length_set]; exact hl)) (by decide)) (y := (((((((((((0 : Int32) ||| ((w 0) <<< ((0 : Int32) &&& 31))) ||| ((w 1) <<< ((1 : Int32) &&& 31))) ||| ((w 2) <<< ((2 : Int32) &&& 31))) ||| ((w 3) <<< ((3 : Int32) &&& 31))) ||| ((w 4) <<< ((4 : Int32) &&& 31))) ||| ((w 5) <<< ((5 : Int32) &&& 31))) ||| ((w 6) <<< ((6 : Int32) &&& 31))) ||| ((w 7) <<< ((7 : Int32) &&& 31))).toInt8.toInt32).toInt8.toInt32)) (rfl) (g := (mkF m 80 #[.val (.ref apk_1), .val (.int xpk_2), .val (.int xpk_3), .val (.ref apk_4), .val (.int xpk_5), .val (.int (((((((((0 : Int32) ||| (w 0)) ||| (w 1)) ||| (w 2)) ||| (w 3)) ||| (w 4)) ||| (w 5)) ||| (w 6)) ||| (w 7))), .val (.int (xpk_5 + (1 : Int32))), .val (.int xpk_2), .val (.int (xpk_2 + xpk_3)), .val (.int (((((((((0 : Int32) ||| ((w 0) <<< ((0 : Int32) &&& 31))) ||| ((w 1) <<< ((1 : Int32) &&& 31))) ||| ((w 2) <<< ((2 : Int32) &&& 31))) ||| ((w 3) <<< ((3 : Int32) &&& 31))) ||| ((w 4) <<< ((4 : Int32) &&& 31))) ||| ((w 5) <<< ((5 : Int32) &&& 31))) ||| ((w 6) <<< ((6 : Int32) &&& 31))) ||| ((w 7) <<< ((7 : Int32) &&& 31)))), .val (.int (8 : Int32))] [(.int ((((((((((0 : Int32) ||| ((w 0) <<< ((0 : Int32) &&& 31))) ||| ((w 1) <<< ((1 : Int32) &&& 31))) ||| ((w 2) <<< ((2 : Int32) &&& 31))) ||| ((w 3) <<< ((3 : Int32) &&& 31))) ||| ((w 4) <<< ((4 : Int32) &&& 31))) ||| ((w 5) <<< ((5 : Int32) &&& 31))) ||| ((w 6) <<< ((6 : Int32) &&& 31))) ||| ((w 7) <<< ((7 : Int32) &&& 31))).toInt8.toInt32)), (.int xpk_5), (.ref apk_4)])) rfl rfl (hb hby d_prog_14_method_18_80)
    refine Wq.step st28 ?_
    have N28 := Fr.snoc X28 N0 g_apk_4
    have K28 : Keep h0 h28 [apk_4] := (Keep.refl h0 [apk_4]).wr W28 (Or.inl (List.mem_of_getElem? (i := 0) rfl))
    have Z28 : n0 ≤ h28.size := Nat.le_trans Z0 (Keep.of_wr W28).1
    have V_apk_1_t28 := V_apk_1.other W28 ne_apk_1_apk_4
    have V_apk_4_t28 : Al Z h28 apk_4 .byte (ds.set (own_n xpk_5 + 0) (.int (((((((((((0 : Int32) ||| ((w 0) <<< ((0 : Int32) &&& 31))) ||| ((w 1) <<< ((1 : Int32) &&& 31))) ||| ((w 2) <<< ((2 : Int32) &&& 31))) ||| ((w 3) <<< ((3 : Int32) &&& 31))) ||| ((w 4) <<< ((4 : Int32) &&& 31))) ||| ((w 5) <<< ((5 : Int32) &&& 31))) ||| ((w 6) <<< ((6 : Int32) &&& 31))) ||| ((w 7) <<< ((7 : Int32) &&& 31))).toInt8.toInt32).toInt8.toInt32))) := Vr28
    show Wq _ _ _ _ _ (T28.setTop (mkF m 81 #[.val (.ref apk_1), .val (.int xpk_2), .val (.int xpk_3), .val (.ref apk_4), .val (.int xpk_5), .val (.int (((((((((0 : Int32) ||| (w 0)) ||| (w 1)) ||| (w 2)) ||| (w 3)) ||| (w 4)) ||| (w 5)) ||| (w 6)) ||| (w 7))), .val (.int (xpk_5 + (1 : Int32))), .val (.int xpk_2), .val (.int (xpk_2 + xpk_3)), .val (.int (((((((((0 : Int32) ||| ((w 0) <<< ((0 : Int32) &&& 31))) ||| ((w 1) <<< ((1 : Int32) &&& 31))) ||| ((w 2) <<< ((2 : Int32) &&& 31))) ||| ((w 3) <<< ((3 : Int32) &&& 31))) ||| ((w 4) <<< ((4 : Int32) &&& 31))) ||| ((w 5) <<< ((5 : Int32) &&& 31))) ||| ((w 6) <<< ((6 : Int32) &&& 31))) ||| ((w 7) <<< ((7 : Int32) &&& 31)))), .val (.int (8 : Int32))] []))
    refine Ow.iinc X28 hx (pc' := 84) (hb hby d_prog_14_method_18_81) rfl (l' := #[.val (.ref apk_1), .val (.int xpk_2), .val (.int xpk_3), .val (.ref apk_4), .val (.int xpk_5), .val (.int (((((((((0 : Int32) ||| (w 0)) ||| (w 1)) ||| (w 2)) ||| (w 3)) ||| (w 4)) ||| (w 5)) ||| (w 6)) ||| (w 7))), .val (.int (xpk_5 + (1 : Int32))), .val (.int (xpk_2 + (8 : Int32))), .val (.int (xpk_2 + xpk_3)), .val (.int (((((((((0 : Int32) ||| ((w 0) <<< ((0 : Int32) &&& 31))) ||| ((w 1) <<< ((1 : Int32) &&& 31))) ||| ((w 2) <<< ((2 : Int32) &&& 31))) ||| ((w 3) <<< ((3 : Int32) &&& 31))) ||| ((w 4) <<< ((4 : Int32) &&& 31))) ||| ((w 5) <<< ((5 : Int32) &&& 31))) ||| ((w 6) <<< ((6 : Int32) &&& 31))) ||| ((w 7) <<< ((7 : Int32) &&& 31)))), .val (.int (8 : Int32))]) rfl ?_
    show Wq _ _ _ _ _ (T28.setTop (mkF m 84 #[.val (.ref apk_1), .val (.int xpk_2), .val (.int xpk_3), .val (.ref apk_4), .val (.int xpk_5), .val (.int (((((((((0 : Int32) ||| (w 0)) ||| (w 1)) ||| (w 2)) ||| (w 3)) ||| (w 4)) ||| (w 5)) ||| (w 6)) ||| (w 7))), .val (.int (xpk_5 + (1 : Int32))), .val (.int (xpk_2 + (8 : Int32))), .val (.int (xpk_2 + xpk_3)), .val (.int (((((((((0 : Int32) ||| ((w 0) <<< ((0 : Int32) &&& 31))) ||| ((w 1) <<< ((1 : Int32) &&& 31))) ||| ((w 2) <<< ((2 : Int32) &&& 31))) ||| ((w 3) <<< ((3 : Int32) &&& 31))) ||| ((w 4) <<< ((4 : Int32) &&& 31))) ||| ((w 5) <<< ((5 : Int32) &&& 31))) ||| ((w 6) <<< ((6 : Int32) &&& 31))) ||| ((w 7) <<< ((7 : Int32) &&& 31)))), .val (.int (8 : Int32))] []))
    refine Ow.goto X28 hx (pc' := 15) (hb hby d_prog_14_method_18_84) (by decide) (by decide) ?_
    refine Ow.iload X28 hx (pc' := 17) (hb hby d_prog_14_method_18_15) rfl ?_
    refine Ow.iload X28 hx (pc' := 19) (hb hby d_prog_14_method_18_17) rfl ?_
    refine Ow.bipush X28 hx (pc' := 21) (hb hby d_prog_14_method_18_19) (z := (8 : Int32)) rfl ?_
    refine Ow.isub X28 hx (pc' := 22) (hb hby d_prog_14_method_18_21) (z := ((xpk_2 + xpk_3) - (8 : Int32))) rfl ?_
    by_cases hc22_2 : ((xpk_2 + xpk_3) - (8 : Int32)) < (xpk_2 + (8 : Int32))
    · skip
      refine Ow.icmpYes X28 hx (pc' := 87) (hb hby d_prog_14_method_18_22) (tlt hc22_2).2.2.1 (by decide) (by decide) ?_
      have U1 : xpk_3.toInt < 16 := by have := (own_c1 (a := 8) hbd (own_ad hbd.1 own_z0 8 8 (by decide) (by decide))).mp hc22_2; omega
      have Z0C : 0 ≤ xpk_3.toInt := hbd.2.2.1
      refine Ow.iload X28 hx (pc' := 89) (hb hby d_prog_14_method_18_87) rfl ?_
      refine Ow.iload X28 hx (pc' := 91) (hb hby d_prog_14_method_18_89) rfl ?_
      by_cases hc91 : (xpk_2 + (8 : Int32)) < (xpk_2 + xpk_3)
      · skip
        refine Ow.icmpNo X28 hx (pc' := 94) (hb hby d_prog_14_method_18_91) (tlt hc91).2.1 ?_
        have G0 : 8 < xpk_3.toInt := by have := (own_c2 (a := 8) hbd (own_ad hbd.1 own_z0 8 8 (by decide) (by decide))).mp hc91; omega
        refine Ow.iconst X28 hx (pc' := 95) (hb hby d_prog_14_method_18_94) (z := (0 : Int32)) rfl ?_
        refine Ow.istore X28 hx (pc' := 97) (hb hby d_prog_14_method_18_95) (l' := #[.val (.ref apk_1), .val (.int xpk_2), .val (.int xpk_3), .val (.ref apk_4), .val (.int xpk_5), .val (.int (((((((((0 : Int32) ||| (w 0)) ||| (w 1)) ||| (w 2)) ||| (w 3)) ||| (w 4)) ||| (w 5)) ||| (w 6)) ||| (w 7))), .val (.int (xpk_5 + (1 : Int32))), .val (.int (xpk_2 + (8 : Int32))), .val (.int (xpk_2 + xpk_3)), .val (.int (0 : Int32)), .val (.int (8 : Int32))]) rfl ?_
        refine Ow.iconst X28 hx (pc' := 98) (hb hby d_prog_14_method_18_97) (z := (0 : Int32)) rfl ?_
        refine Ow.istore X28 hx (pc' := 100) (hb hby d_prog_14_method_18_98) (l' := #[.val (.ref apk_1), .val (.int xpk_2), .val (.int xpk_3), .val (.ref apk_4), .val (.int xpk_5), .val (.int (((((((((0 : Int32) ||| (w 0)) ||| (w 1)) ||| (w 2)) ||| (w 3)) ||| (w 4)) ||| (w 5)) ||| (w 6)) ||| (w 7))), .val (.int (xpk_5 + (1 : Int32))), .val (.int (xpk_2 + (8 : Int32))), .val (.int (xpk_2 + xpk_3)), .val (.int (0 : Int32)), .val (.int (0 : Int32))]) rfl ?_
        refine Ow.iload X28 hx (pc' := 102) (hb hby d_prog_14_method_18_100) rfl ?_
        refine Ow.iload X28 hx (pc' := 104) (hb hby d_prog_14_method_18_102) rfl ?_
        refine Ow.iadd X28 hx (pc' := 105) (hb hby d_prog_14_method_18_104) (z := ((xpk_2 + (8 : Int32)) + (0 : Int32))) rfl ?_
        refine Ow.iload X28 hx (pc' := 107) (hb hby d_prog_14_method_18_105) rfl ?_
        refine Ow.icmpNo X28 hx (pc' := 110) (hb hby d_prog_14_method_18_107) (tlt ((own_c2 (a := 8) hbd (own_ad hbd.1 (own_ad hbd.1 own_z0 8 8 (by decide) (by decide)) 0 0 (by decide) (by decide))).mpr (by omega) : ((xpk_2 + (8 : Int32)) + (0 : Int32)) < (xpk_2 + xpk_3))).2.1 ?_
        refine Ow.iload X28 hx (pc' := 112) (hb hby d_prog_14_method_18_110) rfl ?_
        refine Ow.aloadN X28 hx (pc' := 113) (hb hby d_prog_14_method_18_112) rfl rfl ?_
        refine Ow.iload X28 hx (pc' := 115) (hb hby d_prog_14_method_18_113) rfl ?_
        refine Ow.iload X28 hx (pc' := 117) (hb hby d_prog_14_method_18_115) rfl ?_
        refine Ow.iadd X28 hx (pc' := 118) (hb hby d_prog_14_method_18_117) (z := ((xpk_2 + (8 : Int32)) + (0 : Int32))) rfl ?_
        refine Ow.ldI X28 hx hZ e28 V_apk_1_t28 (pc' := 119) (hb hby d_prog_14_method_18_118) (j := ((xpk_2 + (8 : Int32)) + (0 : Int32))) (i := (own_n xpk_2 + 8)) (v := (.int (w 8))) ((own_ix (m := 8) hbd.1 (own_ad hbd.1 (own_ad hbd.1 own_z0 8 8 (by decide) (by decide)) 0 0 (by decide) (by decide))).1) ((own_ix (m := 8) hbd.1 (own_ad hbd.1 (own_ad hbd.1 own_z0 8 8 (by decide) (by decide)) 0 0 (by decide) (by decide))).2) (hv _ (own_in (m := 8) hbd (by omega))) ?_
        refine Ow.ior X28 hx (pc' := 120) (hb hby d_prog_14_method_18_119) (z := ((((((((((0 : Int32) ||| (w 0)) ||| (w 1)) ||| (w 2)) ||| (w 3)) ||| (w 4)) ||| (w 5)) ||| (w 6)) ||| (w 7)) ||| (w 8))) rfl ?_
        refine Ow.istore X28 hx (pc' := 122) (hb hby d_prog_14_method_18_120) (l' := #[.val (.ref apk_1), .val (.int xpk_2), .val (.int xpk_3), .val (.ref apk_4), .val (.int xpk_5), .val (.int ((((((((((0 : Int32) ||| (w 0)) ||| (w 1)) ||| (w 2)) ||| (w 3)) ||| (w 4)) ||| (w 5)) ||| (w 6)) ||| (w 7)) ||| (w 8))), .val (.int (xpk_5 + (1 : Int32))), .val (.int (xpk_2 + (8 : Int32))), .val (.int (xpk_2 + xpk_3)), .val (.int (0 : Int32)), .val (.int (0 : Int32))]) rfl ?_
        refine Ow.iload X28 hx (pc' := 124) (hb hby d_prog_14_method_18_122) rfl ?_
        refine Ow.aloadN X28 hx (pc' := 125) (hb hby d_prog_14_method_18_124) rfl rfl ?_
        refine Ow.iload X28 hx (pc' := 127) (hb hby d_prog_14_method_18_125) rfl ?_
        refine Ow.iload X28 hx (pc' := 129) (hb hby d_prog_14_method_18_127) rfl ?_
        refine Ow.iadd X28 hx (pc' := 130) (hb hby d_prog_14_method_18_129) (z := ((xpk_2 + (8 : Int32)) + (0 : Int32))) rfl ?_
        refine Ow.ldI X28 hx hZ e28 V_apk_1_t28 (pc' := 131) (hb hby d_prog_14_method_18_130) (j := ((xpk_2 + (8 : Int32)) + (0 : Int32))) (i := (own_n xpk_2 + 8)) (v := (.int (w 8))) ((own_ix (m := 8) hbd.1 (own_ad hbd.1 (own_ad hbd.1 own_z0 8 8 (by decide) (by decide)) 0 0 (by decide) (by decide))).1) ((own_ix (m := 8) hbd.1 (own_ad hbd.1 (own_ad hbd.1 own_z0 8 8 (by decide) (by decide)) 0 0 (by decide) (by decide))).2) (hv _ (own_in (m := 8) hbd (by omega))) ?_
        refine Ow.iload X28 hx (pc' := 133) (hb hby d_prog_14_method_18_131) rfl ?_
        refine Ow.ishl X28 hx (pc' := 134) (hb hby d_prog_14_method_18_133) (z := ((w 8) <<< ((0 : Int32) &&& 31))) rfl ?_
        refine Ow.ior X28 hx (pc' := 135) (hb hby d_prog_14_method_18_134) (z := ((0 : Int32) ||| ((w 8) <<< ((0 : Int32) &&& 31)))) rfl ?_
        refine Ow.istore X28 hx (pc' := 137) (hb hby d_prog_14_method_18_135) (l' := #[.val (.ref apk_1), .val (.int xpk_2), .val (.int xpk_3), .val (.ref apk_4), .val (.int xpk_5), .val (.int ((((((((((0 : Int32) ||| (w 0)) ||| (w 1)) ||| (w 2)) ||| (w 3)) ||| (w 4)) ||| (w 5)) ||| (w 6)) ||| (w 7)) ||| (w 8))), .val (.int (xpk_5 + (1 : Int32))), .val (.int (xpk_2 + (8 : Int32))), .val (.int (xpk_2 + xpk_3)), .val (.int ((0 : Int32) ||| ((w 8) <<< ((0 : Int32) &&& 31)))), .val (.int (0 : Int32))]) rfl ?_
        refine Ow.iinc X28 hx (pc' := 140) (hb hby d_prog_14_method_18_137) rfl (l' := #[.val (.ref apk_1), .val (.int xpk_2), .val (.int xpk_3), .val (.ref apk_4), .val (.int xpk_5), .val (.int ((((((((((0 : Int32) ||| (w 0)) ||| (w 1)) ||| (w 2)) ||| (w 3)) ||| (w 4)) ||| (w 5)) ||| (w 6)) ||| (w 7)) ||| (w 8))), .val (.int (xpk_5 + (1 : Int32))), .val (.int (xpk_2 + (8 : Int32))), .val (.int (xpk_2 + xpk_3)), .val (.int ((0 : Int32) ||| ((w 8) <<< ((0 : Int32) &&& 31)))), .val (.int (1 : Int32))]) rfl ?_
        show Wq _ _ _ _ _ (T28.setTop (mkF m 140 #[.val (.ref apk_1), .val (.int xpk_2), .val (.int xpk_3), .val (.ref apk_4), .val (.int xpk_5), .val (.int ((((((((((0 : Int32) ||| (w 0)) ||| (w 1)) ||| (w 2)) ||| (w 3)) ||| (w 4)) ||| (w 5)) ||| (w 6)) ||| (w 7)) ||| (w 8))), .val (.int (xpk_5 + (1 : Int32))), .val (.int (xpk_2 + (8 : Int32))), .val (.int (xpk_2 + xpk_3)), .val (.int ((0 : Int32) ||| ((w 8) <<< ((0 : Int32) &&& 31)))), .val (.int (1 : Int32))] []))
        refine Ow.goto X28 hx (pc' := 100) (hb hby d_prog_14_method_18_140) (by decide) (by decide) ?_
        refine Ow.iload X28 hx (pc' := 102) (hb hby d_prog_14_method_18_100) rfl ?_
        refine Ow.iload X28 hx (pc' := 104) (hb hby d_prog_14_method_18_102) rfl ?_
        refine Ow.iadd X28 hx (pc' := 105) (hb hby d_prog_14_method_18_104) (z := ((xpk_2 + (8 : Int32)) + (1 : Int32))) rfl ?_
        refine Ow.iload X28 hx (pc' := 107) (hb hby d_prog_14_method_18_105) rfl ?_
        by_cases hc107_2 : ((xpk_2 + (8 : Int32)) + (1 : Int32)) < (xpk_2 + xpk_3)
        · skip
          refine Ow.icmpNo X28 hx (pc' := 110) (hb hby d_prog_14_method_18_107) (tlt hc107_2).2.1 ?_
          have G1 : 9 < xpk_3.toInt := by have := (own_c2 (a := 9) hbd (own_ad hbd.1 (own_ad hbd.1 own_z0 8 8 (by decide) (by decide)) 1 1 (by decide) (by decide))).mp hc107_2; omega
          refine Ow.iload X28 hx (pc' := 112) (hb hby d_prog_14_method_18_110) rfl ?_
          refine Ow.aloadN X28 hx (pc' := 113) (hb hby d_prog_14_method_18_112) rfl rfl ?_
          refine Ow.iload X28 hx (pc' := 115) (hb hby d_prog_14_method_18_113) rfl ?_
          refine Ow.iload X28 hx (pc' := 117) (hb hby d_prog_14_method_18_115) rfl ?_
          refine Ow.iadd X28 hx (pc' := 118) (hb hby d_prog_14_method_18_117) (z := ((xpk_2 + (8 : Int32)) + (1 : Int32))) rfl ?_
          refine Ow.ldI X28 hx hZ e28 V_apk_1_t28 (pc' := 119) (hb hby d_prog_14_method_18_118) (j := ((xpk_2 + (8 : Int32)) + (1 : Int32))) (i := (own_n xpk_2 + 9)) (v := (.int (w 9))) ((own_ix (m := 9) hbd.1 (own_ad hbd.1 (own_ad hbd.1 own_z0 8 8 (by decide) (by decide)) 1 1 (by decide) (by decide))).1) ((own_ix (m := 9) hbd.1 (own_ad hbd.1 (own_ad hbd.1 own_z0 8 8 (by decide) (by decide)) 1 1 (by decide) (by decide))).2) (hv _ (own_in (m := 9) hbd (by omega))) ?_
          refine Ow.ior X28 hx (pc' := 120) (hb hby d_prog_14_method_18_119) (z := (((((((((((0 : Int32) ||| (w 0)) ||| (w 1)) ||| (w 2)) ||| (w 3)) ||| (w 4)) ||| (w 5)) ||| (w 6)) ||| (w 7)) ||| (w 8)) ||| (w 9))) rfl ?_
          refine Ow.istore X28 hx (pc' := 122) (hb hby d_prog_14_method_18_120) (l' := #[.val (.ref apk_1), .val (.int xpk_2), .val (.int xpk_3), .val (.ref apk_4), .val (.int xpk_5), .val (.int (((((((((((0 : Int32) ||| (w 0)) ||| (w 1)) ||| (w 2)) ||| (w 3)) ||| (w 4)) ||| (w 5)) ||| (w 6)) ||| (w 7)) ||| (w 8)) ||| (w 9))), .val (.int (xpk_5 + (1 : Int32))), .val (.int (xpk_2 + (8 : Int32))), .val (.int (xpk_2 + xpk_3)), .val (.int ((0 : Int32) ||| ((w 8) <<< ((0 : Int32) &&& 31)))), .val (.int (1 : Int32))]) rfl ?_
          refine Ow.iload X28 hx (pc' := 124) (hb hby d_prog_14_method_18_122) rfl ?_
          refine Ow.aloadN X28 hx (pc' := 125) (hb hby d_prog_14_method_18_124) rfl rfl ?_
          refine Ow.iload X28 hx (pc' := 127) (hb hby d_prog_14_method_18_125) rfl ?_
          refine Ow.iload X28 hx (pc' := 129) (hb hby d_prog_14_method_18_127) rfl ?_
          refine Ow.iadd X28 hx (pc' := 130) (hb hby d_prog_14_method_18_129) (z := ((xpk_2 + (8 : Int32)) + (1 : Int32))) rfl ?_
          refine Ow.ldI X28 hx hZ e28 V_apk_1_t28 (pc' := 131) (hb hby d_prog_14_method_18_130) (j := ((xpk_2 + (8 : Int32)) + (1 : Int32))) (i := (own_n xpk_2 + 9)) (v := (.int (w 9))) ((own_ix (m := 9) hbd.1 (own_ad hbd.1 (own_ad hbd.1 own_z0 8 8 (by decide) (by decide)) 1 1 (by decide) (by decide))).1) ((own_ix (m := 9) hbd.1 (own_ad hbd.1 (own_ad hbd.1 own_z0 8 8 (by decide) (by decide)) 1 1 (by decide) (by decide))).2) (hv _ (own_in (m := 9) hbd (by omega))) ?_
          refine Ow.iload X28 hx (pc' := 133) (hb hby d_prog_14_method_18_131) rfl ?_
          refine Ow.ishl X28 hx (pc' := 134) (hb hby d_prog_14_method_18_133) (z := ((w 9) <<< ((1 : Int32) &&& 31))) rfl ?_
          refine Ow.ior X28 hx (pc' := 135) (hb hby d_prog_14_method_18_134) (z := (((0 : Int32) ||| ((w 8) <<< ((0 : Int32) &&& 31))) ||| ((w 9) <<< ((1 : Int32) &&& 31)))) rfl ?_
          refine Ow.istore X28 hx (pc' := 137) (hb hby d_prog_14_method_18_135) (l' := #[.val (.ref apk_1), .val (.int xpk_2), .val (.int xpk_3), .val (.ref apk_4), .val (.int xpk_5), .val (.int (((((((((((0 : Int32) ||| (w 0)) ||| (w 1)) ||| (w 2)) ||| (w 3)) ||| (w 4)) ||| (w 5)) ||| (w 6)) ||| (w 7)) ||| (w 8)) ||| (w 9))), .val (.int (xpk_5 + (1 : Int32))), .val (.int (xpk_2 + (8 : Int32))), .val (.int (xpk_2 + xpk_3)), .val (.int (((0 : Int32) ||| ((w 8) <<< ((0 : Int32) &&& 31))) ||| ((w 9) <<< ((1 : Int32) &&& 31)))), .val (.int (1 : Int32))]) rfl ?_
          refine Ow.iinc X28 hx (pc' := 140) (hb hby d_prog_14_method_18_137) rfl (l' := #[.val (.ref apk_1), .val (.int xpk_2), .val (.int xpk_3), .val (.ref apk_4), .val (.int xpk_5), .val (.int (((((((((((0 : Int32) ||| (w 0)) ||| (w 1)) ||| (w 2)) ||| (w 3)) ||| (w 4)) ||| (w 5)) ||| (w 6)) ||| (w 7)) ||| (w 8)) ||| (w 9))), .val (.int (xpk_5 + (1 : Int32))), .val (.int (xpk_2 + (8 : Int32))), .val (.int (xpk_2 + xpk_3)), .val (.int (((0 : Int32) ||| ((w 8) <<< ((0 : Int32) &&& 31))) ||| ((w 9) <<< ((1 : Int32) &&& 31)))), .val (.int (2 : Int32))]) rfl ?_
          show Wq _ _ _ _ _ (T28.setTop (mkF m 140 #[.val (.ref apk_1), .val (.int xpk_2), .val (.int xpk_3), .val (.ref apk_4), .val (.int xpk_5), .val (.int (((((((((((0 : Int32) ||| (w 0)) ||| (w 1)) ||| (w 2)) ||| (w 3)) ||| (w 4)) ||| (w 5)) ||| (w 6)) ||| (w 7)) ||| (w 8)) ||| (w 9))), .val (.int (xpk_5 + (1 : Int32))), .val (.int (xpk_2 + (8 : Int32))), .val (.int (xpk_2 + xpk_3)), .val (.int (((0 : Int32) ||| ((w 8) <<< ((0 : Int32) &&& 31))) ||| ((w 9) <<< ((1 : Int32) &&& 31)))), .val (.int (2 : Int32))] []))
          refine Ow.goto X28 hx (pc' := 100) (hb hby d_prog_14_method_18_140) (by decide) (by decide) ?_
          refine Ow.iload X28 hx (pc' := 102) (hb hby d_prog_14_method_18_100) rfl ?_
          refine Ow.iload X28 hx (pc' := 104) (hb hby d_prog_14_method_18_102) rfl ?_
          refine Ow.iadd X28 hx (pc' := 105) (hb hby d_prog_14_method_18_104) (z := ((xpk_2 + (8 : Int32)) + (2 : Int32))) rfl ?_
          refine Ow.iload X28 hx (pc' := 107) (hb hby d_prog_14_method_18_105) rfl ?_
          by_cases hc107_3 : ((xpk_2 + (8 : Int32)) + (2 : Int32)) < (xpk_2 + xpk_3)
          · skip
            refine Ow.icmpNo X28 hx (pc' := 110) (hb hby d_prog_14_method_18_107) (tlt hc107_3).2.1 ?_
            have G2 : 10 < xpk_3.toInt := by have := (own_c2 (a := 10) hbd (own_ad hbd.1 (own_ad hbd.1 own_z0 8 8 (by decide) (by decide)) 2 2 (by decide) (by decide))).mp hc107_3; omega
            refine Ow.iload X28 hx (pc' := 112) (hb hby d_prog_14_method_18_110) rfl ?_
            refine Ow.aloadN X28 hx (pc' := 113) (hb hby d_prog_14_method_18_112) rfl rfl ?_
            refine Ow.iload X28 hx (pc' := 115) (hb hby d_prog_14_method_18_113) rfl ?_
            refine Ow.iload X28 hx (pc' := 117) (hb hby d_prog_14_method_18_115) rfl ?_
            refine Ow.iadd X28 hx (pc' := 118) (hb hby d_prog_14_method_18_117) (z := ((xpk_2 + (8 : Int32)) + (2 : Int32))) rfl ?_
            refine Ow.ldI X28 hx hZ e28 V_apk_1_t28 (pc' := 119) (hb hby d_prog_14_method_18_118) (j := ((xpk_2 + (8 : Int32)) + (2 : Int32))) (i := (own_n xpk_2 + 10)) (v := (.int (w 10))) ((own_ix (m := 10) hbd.1 (own_ad hbd.1 (own_ad hbd.1 own_z0 8 8 (by decide) (by decide)) 2 2 (by decide) (by decide))).1) ((own_ix (m := 10) hbd.1 (own_ad hbd.1 (own_ad hbd.1 own_z0 8 8 (by decide) (by decide)) 2 2 (by decide) (by decide))).2) (hv _ (own_in (m := 10) hbd (by omega))) ?_
            refine Ow.ior X28 hx (pc' := 120) (hb hby d_prog_14_method_18_119) (z := ((((((((((((0 : Int32) ||| (w 0)) ||| (w 1)) ||| (w 2)) ||| (w 3)) ||| (w 4)) ||| (w 5)) ||| (w 6)) ||| (w 7)) ||| (w 8)) ||| (w 9)) ||| (w 10))) rfl ?_
            refine Ow.istore X28 hx (pc' := 122) (hb hby d_prog_14_method_18_120) (l' := #[.val (.ref apk_1), .val (.int xpk_2), .val (.int xpk_3), .val (.ref apk_4), .val (.int xpk_5), .val (.int ((((((((((((0 : Int32) ||| (w 0)) ||| (w 1)) ||| (w 2)) ||| (w 3)) ||| (w 4)) ||| (w 5)) ||| (w 6)) ||| (w 7)) ||| (w 8)) ||| (w 9)) ||| (w 10))), .val (.int (xpk_5 + (1 : Int32))), .val (.int (xpk_2 + (8 : Int32))), .val (.int (xpk_2 + xpk_3)), .val (.int (((0 : Int32) ||| ((w 8) <<< ((0 : Int32) &&& 31))) ||| ((w 9) <<< ((1 : Int32) &&& 31)))), .val (.int (2 : Int32))]) rfl ?_
            refine Ow.iload X28 hx (pc' := 124) (hb hby d_prog_14_method_18_122) rfl ?_
            refine Ow.aloadN X28 hx (pc' := 125) (hb hby d_prog_14_method_18_124) rfl rfl ?_
            refine Ow.iload X28 hx (pc' := 127) (hb hby d_prog_14_method_18_125) rfl ?_
            refine Ow.iload X28 hx (pc' := 129) (hb hby d_prog_14_method_18_127) rfl ?_
            refine Ow.iadd X28 hx (pc' := 130) (hb hby d_prog_14_method_18_129) (z := ((xpk_2 + (8 : Int32)) + (2 : Int32))) rfl ?_
            refine Ow.ldI X28 hx hZ e28 V_apk_1_t28 (pc' := 131) (hb hby d_prog_14_method_18_130) (j := ((xpk_2 + (8 : Int32)) + (2 : Int32))) (i := (own_n xpk_2 + 10)) (v := (.int (w 10))) ((own_ix (m := 10) hbd.1 (own_ad hbd.1 (own_ad hbd.1 own_z0 8 8 (by decide) (by decide)) 2 2 (by decide) (by decide))).1) ((own_ix (m := 10) hbd.1 (own_ad hbd.1 (own_ad hbd.1 own_z0 8 8 (by decide) (by decide)) 2 2 (by decide) (by decide))).2) (hv _ (own_in (m := 10) hbd (by omega))) ?_
            refine Ow.iload X28 hx (pc' := 133) (hb hby d_prog_14_method_18_131) rfl ?_
            refine Ow.ishl X28 hx (pc' := 134) (hb hby d_prog_14_method_18_133) (z := ((w 10) <<< ((2 : Int32) &&& 31))) rfl ?_
            refine Ow.ior X28 hx (pc' := 135) (hb hby d_prog_14_method_18_134) (z := ((((0 : Int32) ||| ((w 8) <<< ((0 : Int32) &&& 31))) ||| ((w 9) <<< ((1 : Int32) &&& 31))) ||| ((w 10) <<< ((2 : Int32) &&& 31)))) rfl ?_
            refine Ow.istore X28 hx (pc' := 137) (hb hby d_prog_14_method_18_135) (l' := #[.val (.ref apk_1), .val (.int xpk_2), .val (.int xpk_3), .val (.ref apk_4), .val (.int xpk_5), .val (.int ((((((((((((0 : Int32) ||| (w 0)) ||| (w 1)) ||| (w 2)) ||| (w 3)) ||| (w 4)) ||| (w 5)) ||| (w 6)) ||| (w 7)) ||| (w 8)) ||| (w 9)) ||| (w 10))), .val (.int (xpk_5 + (1 : Int32))), .val (.int (xpk_2 + (8 : Int32))), .val (.int (xpk_2 + xpk_3)), .val (.int ((((0 : Int32) ||| ((w 8) <<< ((0 : Int32) &&& 31))) ||| ((w 9) <<< ((1 : Int32) &&& 31))) ||| ((w 10) <<< ((2 : Int32) &&& 31)))), .val (.int (2 : Int32))]) rfl ?_
            refine Ow.iinc X28 hx (pc' := 140) (hb hby d_prog_14_method_18_137) rfl (l' := #[.val (.ref apk_1), .val (.int xpk_2), .val (.int xpk_3), .val (.ref apk_4), .val (.int xpk_5), .val (.int ((((((((((((0 : Int32) ||| (w 0)) ||| (w 1)) ||| (w 2)) ||| (w 3)) ||| (w 4)) ||| (w 5)) ||| (w 6)) ||| (w 7)) ||| (w 8)) ||| (w 9)) ||| (w 10))), .val (.int (xpk_5 + (1 : Int32))), .val (.int (xpk_2 + (8 : Int32))), .val (.int (xpk_2 + xpk_3)), .val (.int ((((0 : Int32) ||| ((w 8) <<< ((0 : Int32) &&& 31))) ||| ((w 9) <<< ((1 : Int32) &&& 31))) ||| ((w 10) <<< ((2 : Int32) &&& 31)))), .val (.int (3 : Int32))]) rfl ?_
            show Wq _ _ _ _ _ (T28.setTop (mkF m 140 #[.val (.ref apk_1), .val (.int xpk_2), .val (.int xpk_3), .val (.ref apk_4), .val (.int xpk_5), .val (.int ((((((((((((0 : Int32) ||| (w 0)) ||| (w 1)) ||| (w 2)) ||| (w 3)) ||| (w 4)) ||| (w 5)) ||| (w 6)) ||| (w 7)) ||| (w 8)) ||| (w 9)) ||| (w 10))), .val (.int (xpk_5 + (1 : Int32))), .val (.int (xpk_2 + (8 : Int32))), .val (.int (xpk_2 + xpk_3)), .val (.int ((((0 : Int32) ||| ((w 8) <<< ((0 : Int32) &&& 31))) ||| ((w 9) <<< ((1 : Int32) &&& 31))) ||| ((w 10) <<< ((2 : Int32) &&& 31)))), .val (.int (3 : Int32))] []))
            refine Ow.goto X28 hx (pc' := 100) (hb hby d_prog_14_method_18_140) (by decide) (by decide) ?_
            refine Ow.iload X28 hx (pc' := 102) (hb hby d_prog_14_method_18_100) rfl ?_
            refine Ow.iload X28 hx (pc' := 104) (hb hby d_prog_14_method_18_102) rfl ?_
            refine Ow.iadd X28 hx (pc' := 105) (hb hby d_prog_14_method_18_104) (z := ((xpk_2 + (8 : Int32)) + (3 : Int32))) rfl ?_
            refine Ow.iload X28 hx (pc' := 107) (hb hby d_prog_14_method_18_105) rfl ?_
            by_cases hc107_4 : ((xpk_2 + (8 : Int32)) + (3 : Int32)) < (xpk_2 + xpk_3)
            · skip
              refine Ow.icmpNo X28 hx (pc' := 110) (hb hby d_prog_14_method_18_107) (tlt hc107_4).2.1 ?_
              have G3 : 11 < xpk_3.toInt := by have := (own_c2 (a := 11) hbd (own_ad hbd.1 (own_ad hbd.1 own_z0 8 8 (by decide) (by decide)) 3 3 (by decide) (by decide))).mp hc107_4; omega
              refine Ow.iload X28 hx (pc' := 112) (hb hby d_prog_14_method_18_110) rfl ?_
              refine Ow.aloadN X28 hx (pc' := 113) (hb hby d_prog_14_method_18_112) rfl rfl ?_
              refine Ow.iload X28 hx (pc' := 115) (hb hby d_prog_14_method_18_113) rfl ?_
              refine Ow.iload X28 hx (pc' := 117) (hb hby d_prog_14_method_18_115) rfl ?_
              refine Ow.iadd X28 hx (pc' := 118) (hb hby d_prog_14_method_18_117) (z := ((xpk_2 + (8 : Int32)) + (3 : Int32))) rfl ?_
              refine Ow.ldI X28 hx hZ e28 V_apk_1_t28 (pc' := 119) (hb hby d_prog_14_method_18_118) (j := ((xpk_2 + (8 : Int32)) + (3 : Int32))) (i := (own_n xpk_2 + 11)) (v := (.int (w 11))) ((own_ix (m := 11) hbd.1 (own_ad hbd.1 (own_ad hbd.1 own_z0 8 8 (by decide) (by decide)) 3 3 (by decide) (by decide))).1) ((own_ix (m := 11) hbd.1 (own_ad hbd.1 (own_ad hbd.1 own_z0 8 8 (by decide) (by decide)) 3 3 (by decide) (by decide))).2) (hv _ (own_in (m := 11) hbd (by omega))) ?_
              refine Ow.ior X28 hx (pc' := 120) (hb hby d_prog_14_method_18_119) (z := (((((((((((((0 : Int32) ||| (w 0)) ||| (w 1)) ||| (w 2)) ||| (w 3)) ||| (w 4)) ||| (w 5)) ||| (w 6)) ||| (w 7)) ||| (w 8)) ||| (w 9)) ||| (w 10)) ||| (w 11))) rfl ?_
              refine Ow.istore X28 hx (pc' := 122) (hb hby d_prog_14_method_18_120) (l' := #[.val (.ref apk_1), .val (.int xpk_2), .val (.int xpk_3), .val (.ref apk_4), .val (.int xpk_5), .val (.int (((((((((((((0 : Int32) ||| (w 0)) ||| (w 1)) ||| (w 2)) ||| (w 3)) ||| (w 4)) ||| (w 5)) ||| (w 6)) ||| (w 7)) ||| (w 8)) ||| (w 9)) ||| (w 10)) ||| (w 11))), .val (.int (xpk_5 + (1 : Int32))), .val (.int (xpk_2 + (8 : Int32))), .val (.int (xpk_2 + xpk_3)), .val (.int ((((0 : Int32) ||| ((w 8) <<< ((0 : Int32) &&& 31))) ||| ((w 9) <<< ((1 : Int32) &&& 31))) ||| ((w 10) <<< ((2 : Int32) &&& 31)))), .val (.int (3 : Int32))]) rfl ?_
              refine Ow.iload X28 hx (pc' := 124) (hb hby d_prog_14_method_18_122) rfl ?_
              refine Ow.aloadN X28 hx (pc' := 125) (hb hby d_prog_14_method_18_124) rfl rfl ?_
              refine Ow.iload X28 hx (pc' := 127) (hb hby d_prog_14_method_18_125) rfl ?_
              refine Ow.iload X28 hx (pc' := 129) (hb hby d_prog_14_method_18_127) rfl ?_
              refine Ow.iadd X28 hx (pc' := 130) (hb hby d_prog_14_method_18_129) (z := ((xpk_2 + (8 : Int32)) + (3 : Int32))) rfl ?_
              refine Ow.ldI X28 hx hZ e28 V_apk_1_t28 (pc' := 131) (hb hby d_prog_14_method_18_130) (j := ((xpk_2 + (8 : Int32)) + (3 : Int32))) (i := (own_n xpk_2 + 11)) (v := (.int (w 11))) ((own_ix (m := 11) hbd.1 (own_ad hbd.1 (own_ad hbd.1 own_z0 8 8 (by decide) (by decide)) 3 3 (by decide) (by decide))).1) ((own_ix (m := 11) hbd.1 (own_ad hbd.1 (own_ad hbd.1 own_z0 8 8 (by decide) (by decide)) 3 3 (by decide) (by decide))).2) (hv _ (own_in (m := 11) hbd (by omega))) ?_
              refine Ow.iload X28 hx (pc' := 133) (hb hby d_prog_14_method_18_131) rfl ?_
              refine Ow.ishl X28 hx (pc' := 134) (hb hby d_prog_14_method_18_133) (z := ((w 11) <<< ((3 : Int32) &&& 31))) rfl ?_
              refine Ow.ior X28 hx (pc' := 135) (hb hby d_prog_14_method_18_134) (z := (((((0 : Int32) ||| ((w 8) <<< ((0 : Int32) &&& 31))) ||| ((w 9) <<< ((1 : Int32) &&& 31))) ||| ((w 10) <<< ((2 : Int32) &&& 31))) ||| ((w 11) <<< ((3 : Int32) &&& 31)))) rfl ?_
              refine Ow.istore X28 hx (pc' := 137) (hb hby d_prog_14_method_18_135) (l' := #[.val (.ref apk_1), .val (.int xpk_2), .val (.int xpk_3), .val (.ref apk_4), .val (.int xpk_5), .val (.int (((((((((((((0 : Int32) ||| (w 0)) ||| (w 1)) ||| (w 2)) ||| (w 3)) ||| (w 4)) ||| (w 5)) ||| (w 6)) ||| (w 7)) ||| (w 8)) ||| (w 9)) ||| (w 10)) ||| (w 11))), .val (.int (xpk_5 + (1 : Int32))), .val (.int (xpk_2 + (8 : Int32))), .val (.int (xpk_2 + xpk_3)), .val (.int (((((0 : Int32) ||| ((w 8) <<< ((0 : Int32) &&& 31))) ||| ((w 9) <<< ((1 : Int32) &&& 31))) ||| ((w 10) <<< ((2 : Int32) &&& 31))) ||| ((w 11) <<< ((3 : Int32) &&& 31)))), .val (.int (3 : Int32))]) rfl ?_
              refine Ow.iinc X28 hx (pc' := 140) (hb hby d_prog_14_method_18_137) rfl (l' := #[.val (.ref apk_1), .val (.int xpk_2), .val (.int xpk_3), .val (.ref apk_4), .val (.int xpk_5), .val (.int (((((((((((((0 : Int32) ||| (w 0)) ||| (w 1)) ||| (w 2)) ||| (w 3)) ||| (w 4)) ||| (w 5)) ||| (w 6)) ||| (w 7)) ||| (w 8)) ||| (w 9)) ||| (w 10)) ||| (w 11))), .val (.int (xpk_5 + (1 : Int32))), .val (.int (xpk_2 + (8 : Int32))), .val (.int (xpk_2 + xpk_3)), .val (.int (((((0 : Int32) ||| ((w 8) <<< ((0 : Int32) &&& 31))) ||| ((w 9) <<< ((1 : Int32) &&& 31))) ||| ((w 10) <<< ((2 : Int32) &&& 31))) ||| ((w 11) <<< ((3 : Int32) &&& 31)))), .val (.int (4 : Int32))]) rfl ?_
              show Wq _ _ _ _ _ (T28.setTop (mkF m 140 #[.val (.ref apk_1), .val (.int xpk_2), .val (.int xpk_3), .val (.ref apk_4), .val (.int xpk_5), .val (.int (((((((((((((0 : Int32) ||| (w 0)) ||| (w 1)) ||| (w 2)) ||| (w 3)) ||| (w 4)) ||| (w 5)) ||| (w 6)) ||| (w 7)) ||| (w 8)) ||| (w 9)) ||| (w 10)) ||| (w 11))), .val (.int (xpk_5 + (1 : Int32))), .val (.int (xpk_2 + (8 : Int32))), .val (.int (xpk_2 + xpk_3)), .val (.int (((((0 : Int32) ||| ((w 8) <<< ((0 : Int32) &&& 31))) ||| ((w 9) <<< ((1 : Int32) &&& 31))) ||| ((w 10) <<< ((2 : Int32) &&& 31))) ||| ((w 11) <<< ((3 : Int32) &&& 31)))), .val (.int (4 : Int32))] []))
              refine Ow.goto X28 hx (pc' := 100) (hb hby d_prog_14_method_18_140) (by decide) (by decide) ?_
              refine Ow.iload X28 hx (pc' := 102) (hb hby d_prog_14_method_18_100) rfl ?_
              refine Ow.iload X28 hx (pc' := 104) (hb hby d_prog_14_method_18_102) rfl ?_
              refine Ow.iadd X28 hx (pc' := 105) (hb hby d_prog_14_method_18_104) (z := ((xpk_2 + (8 : Int32)) + (4 : Int32))) rfl ?_
              refine Ow.iload X28 hx (pc' := 107) (hb hby d_prog_14_method_18_105) rfl ?_
              by_cases hc107_5 : ((xpk_2 + (8 : Int32)) + (4 : Int32)) < (xpk_2 + xpk_3)
              · skip
                refine Ow.icmpNo X28 hx (pc' := 110) (hb hby d_prog_14_method_18_107) (tlt hc107_5).2.1 ?_
                have G4 : 12 < xpk_3.toInt := by have := (own_c2 (a := 12) hbd (own_ad hbd.1 (own_ad hbd.1 own_z0 8 8 (by decide) (by decide)) 4 4 (by decide) (by decide))).mp hc107_5; omega
                refine Ow.iload X28 hx (pc' := 112) (hb hby d_prog_14_method_18_110) rfl ?_
                refine Ow.aloadN X28 hx (pc' := 113) (hb hby d_prog_14_method_18_112) rfl rfl ?_
                refine Ow.iload X28 hx (pc' := 115) (hb hby d_prog_14_method_18_113) rfl ?_
                refine Ow.iload X28 hx (pc' := 117) (hb hby d_prog_14_method_18_115) rfl ?_
                refine Ow.iadd X28 hx (pc' := 118) (hb hby d_prog_14_method_18_117) (z := ((xpk_2 + (8 : Int32)) + (4 : Int32))) rfl ?_
                refine Ow.ldI X28 hx hZ e28 V_apk_1_t28 (pc' := 119) (hb hby d_prog_14_method_18_118) (j := ((xpk_2 + (8 : Int32)) + (4 : Int32))) (i := (own_n xpk_2 + 12)) (v := (.int (w 12))) ((own_ix (m := 12) hbd.1 (own_ad hbd.1 (own_ad hbd.1 own_z0 8 8 (by decide) (by decide)) 4 4 (by decide) (by decide))).1) ((own_ix (m := 12) hbd.1 (own_ad hbd.1 (own_ad hbd.1 own_z0 8 8 (by decide) (by decide)) 4 4 (by decide) (by decide))).2) (hv _ (own_in (m := 12) hbd (by omega))) ?_
                refine Ow.ior X28 hx (pc' := 120) (hb hby d_prog_14_method_18_119) (z := ((((((((((((((0 : Int32) ||| (w 0)) ||| (w 1)) ||| (w 2)) ||| (w 3)) ||| (w 4)) ||| (w 5)) ||| (w 6)) ||| (w 7)) ||| (w 8)) ||| (w 9)) ||| (w 10)) ||| (w 11)) ||| (w 12))) rfl ?_
                refine Ow.istore X28 hx (pc' := 122) (hb hby d_prog_14_method_18_120) (l' := #[.val (.ref apk_1), .val (.int xpk_2), .val (.int xpk_3), .val (.ref apk_4), .val (.int xpk_5), .val (.int ((((((((((((((0 : Int32) ||| (w 0)) ||| (w 1)) ||| (w 2)) ||| (w 3)) ||| (w 4)) ||| (w 5)) ||| (w 6)) ||| (w 7)) ||| (w 8)) ||| (w 9)) ||| (w 10)) ||| (w 11)) ||| (w 12))), .val (.int (xpk_5 + (1 : Int32))), .val (.int (xpk_2 + (8 : Int32))), .val (.int (xpk_2 + xpk_3)), .val (.int (((((0 : Int32) ||| ((w 8) <<< ((0 : Int32) &&& 31))) ||| ((w 9) <<< ((1 : Int32) &&& 31))) ||| ((w 10) <<< ((2 : Int32) &&& 31))) ||| ((w 11) <<< ((3 : Int32) &&& 31)))), .val (.int (4 : Int32))]) rfl ?_
                refine Ow.iload X28 hx (pc' := 124) (hb hby d_prog_14_method_18_122) rfl ?_
                refine Ow.aloadN X28 hx (pc' := 125) (hb hby d_prog_14_method_18_124) rfl rfl ?_
                refine Ow.iload X28 hx (pc' := 127) (hb hby d_prog_14_method_18_125) rfl ?_
                refine Ow.iload X28 hx (pc' := 129) (hb hby d_prog_14_method_18_127) rfl ?_
                refine Ow.iadd X28 hx (pc' := 130) (hb hby d_prog_14_method_18_129) (z := ((xpk_2 + (8 : Int32)) + (4 : Int32))) rfl ?_
                refine Ow.ldI X28 hx hZ e28 V_apk_1_t28 (pc' := 131) (hb hby d_prog_14_method_18_130) (j := ((xpk_2 + (8 : Int32)) + (4 : Int32))) (i := (own_n xpk_2 + 12)) (v := (.int (w 12))) ((own_ix (m := 12) hbd.1 (own_ad hbd.1 (own_ad hbd.1 own_z0 8 8 (by decide) (by decide)) 4 4 (by decide) (by decide))).1) ((own_ix (m := 12) hbd.1 (own_ad hbd.1 (own_ad hbd.1 own_z0 8 8 (by decide) (by decide)) 4 4 (by decide) (by decide))).2) (hv _ (own_in (m := 12) hbd (by omega))) ?_
                refine Ow.iload X28 hx (pc' := 133) (hb hby d_prog_14_method_18_131) rfl ?_
                refine Ow.ishl X28 hx (pc' := 134) (hb hby d_prog_14_method_18_133) (z := ((w 12) <<< ((4 : Int32) &&& 31))) rfl ?_
                refine Ow.ior X28 hx (pc' := 135) (hb hby d_prog_14_method_18_134) (z := ((((((0 : Int32) ||| ((w 8) <<< ((0 : Int32) &&& 31))) ||| ((w 9) <<< ((1 : Int32) &&& 31))) ||| ((w 10) <<< ((2 : Int32) &&& 31))) ||| ((w 11) <<< ((3 : Int32) &&& 31))) ||| ((w 12) <<< ((4 : Int32) &&& 31)))) rfl ?_
                refine Ow.istore X28 hx (pc' := 137) (hb hby d_prog_14_method_18_135) (l' := #[.val (.ref apk_1), .val (.int xpk_2), .val (.int xpk_3), .val (.ref apk_4), .val (.int xpk_5), .val (.int ((((((((((((((0 : Int32) ||| (w 0)) ||| (w 1)) ||| (w 2)) ||| (w 3)) ||| (w 4)) ||| (w 5)) ||| (w 6)) ||| (w 7)) ||| (w 8)) ||| (w 9)) ||| (w 10)) ||| (w 11)) ||| (w 12))), .val (.int (xpk_5 + (1 : Int32))), .val (.int (xpk_2 + (8 : Int32))), .val (.int (xpk_2 + xpk_3)), .val (.int ((((((0 : Int32) ||| ((w 8) <<< ((0 : Int32) &&& 31))) ||| ((w 9) <<< ((1 : Int32) &&& 31))) ||| ((w 10) <<< ((2 : Int32) &&& 31))) ||| ((w 11) <<< ((3 : Int32) &&& 31))) ||| ((w 12) <<< ((4 : Int32) &&& 31)))), .val (.int (4 : Int32))]) rfl ?_
                refine Ow.iinc X28 hx (pc' := 140) (hb hby d_prog_14_method_18_137) rfl (l' := #[.val (.ref apk_1), .val (.int xpk_2), .val (.int xpk_3), .val (.ref apk_4), .val (.int xpk_5), .val (.int ((((((((((((((0 : Int32) ||| (w 0)) ||| (w 1)) ||| (w 2)) ||| (w 3)) ||| (w 4)) ||| (w 5)) ||| (w 6)) ||| (w 7)) ||| (w 8)) ||| (w 9)) ||| (w 10)) ||| (w 11)) ||| (w 12))), .val (.int (xpk_5 + (1 : Int32))), .val (.int (xpk_2 + (8 : Int32))), .val (.int (xpk_2 + xpk_3)), .val (.int ((((((0 : Int32) ||| ((w 8) <<< ((0 : Int32) &&& 31))) ||| ((w 9) <<< ((1 : Int32) &&& 31))) ||| ((w 10) <<< ((2 : Int32) &&& 31))) ||| ((w 11) <<< ((3 : Int32) &&& 31))) ||| ((w 12) <<< ((4 : Int32) &&& 31)))), .val (.int (5 : Int32))]) rfl ?_
                show Wq _ _ _ _ _ (T28.setTop (mkF m 140 #[.val (.ref apk_1), .val (.int xpk_2), .val (.int xpk_3), .val (.ref apk_4), .val (.int xpk_5), .val (.int ((((((((((((((0 : Int32) ||| (w 0)) ||| (w 1)) ||| (w 2)) ||| (w 3)) ||| (w 4)) ||| (w 5)) ||| (w 6)) ||| (w 7)) ||| (w 8)) ||| (w 9)) ||| (w 10)) ||| (w 11)) ||| (w 12))), .val (.int (xpk_5 + (1 : Int32))), .val (.int (xpk_2 + (8 : Int32))), .val (.int (xpk_2 + xpk_3)), .val (.int ((((((0 : Int32) ||| ((w 8) <<< ((0 : Int32) &&& 31))) ||| ((w 9) <<< ((1 : Int32) &&& 31))) ||| ((w 10) <<< ((2 : Int32) &&& 31))) ||| ((w 11) <<< ((3 : Int32) &&& 31))) ||| ((w 12) <<< ((4 : Int32) &&& 31)))), .val (.int (5 : Int32))] []))
                refine Ow.goto X28 hx (pc' := 100) (hb hby d_prog_14_method_18_140) (by decide) (by decide) ?_
                refine Ow.iload X28 hx (pc' := 102) (hb hby d_prog_14_method_18_100) rfl ?_
                refine Ow.iload X28 hx (pc' := 104) (hb hby d_prog_14_method_18_102) rfl ?_
                refine Ow.iadd X28 hx (pc' := 105) (hb hby d_prog_14_method_18_104) (z := ((xpk_2 + (8 : Int32)) + (5 : Int32))) rfl ?_
                refine Ow.iload X28 hx (pc' := 107) (hb hby d_prog_14_method_18_105) rfl ?_
                by_cases hc107_6 : ((xpk_2 + (8 : Int32)) + (5 : Int32)) < (xpk_2 + xpk_3)
                · skip
                  refine Ow.icmpNo X28 hx (pc' := 110) (hb hby d_prog_14_method_18_107) (tlt hc107_6).2.1 ?_
                  have G5 : 13 < xpk_3.toInt := by have := (own_c2 (a := 13) hbd (own_ad hbd.1 (own_ad hbd.1 own_z0 8 8 (by decide) (by decide)) 5 5 (by decide) (by decide))).mp hc107_6; omega
                  refine Ow.iload X28 hx (pc' := 112) (hb hby d_prog_14_method_18_110) rfl ?_
                  refine Ow.aloadN X28 hx (pc' := 113) (hb hby d_prog_14_method_18_112) rfl rfl ?_
                  refine Ow.iload X28 hx (pc' := 115) (hb hby d_prog_14_method_18_113) rfl ?_
                  refine Ow.iload X28 hx (pc' := 117) (hb hby d_prog_14_method_18_115) rfl ?_
                  refine Ow.iadd X28 hx (pc' := 118) (hb hby d_prog_14_method_18_117) (z := ((xpk_2 + (8 : Int32)) + (5 : Int32))) rfl ?_
                  refine Ow.ldI X28 hx hZ e28 V_apk_1_t28 (pc' := 119) (hb hby d_prog_14_method_18_118) (j := ((xpk_2 + (8 : Int32)) + (5 : Int32))) (i := (own_n xpk_2 + 13)) (v := (.int (w 13))) ((own_ix (m := 13) hbd.1 (own_ad hbd.1 (own_ad hbd.1 own_z0 8 8 (by decide) (by decide)) 5 5 (by decide) (by decide))).1) ((own_ix (m := 13) hbd.1 (own_ad hbd.1 (own_ad hbd.1 own_z0 8 8 (by decide) (by decide)) 5 5 (by decide) (by decide))).2) (hv _ (own_in (m := 13) hbd (by omega))) ?_
                  refine Ow.ior X28 hx (pc' := 120) (hb hby d_prog_14_method_18_119) (z := (((((((((((((((0 : Int32) ||| (w 0)) ||| (w 1)) ||| (w 2)) ||| (w 3)) ||| (w 4)) ||| (w 5)) ||| (w 6)) ||| (w 7)) ||| (w 8)) ||| (w 9)) ||| (w 10)) ||| (w 11)) ||| (w 12)) ||| (w 13))) rfl ?_
                  refine Ow.istore X28 hx (pc' := 122) (hb hby d_prog_14_method_18_120) (l' := #[.val (.ref apk_1), .val (.int xpk_2), .val (.int xpk_3), .val (.ref apk_4), .val (.int xpk_5), .val (.int (((((((((((((((0 : Int32) ||| (w 0)) ||| (w 1)) ||| (w 2)) ||| (w 3)) ||| (w 4)) ||| (w 5)) ||| (w 6)) ||| (w 7)) ||| (w 8)) ||| (w 9)) ||| (w 10)) ||| (w 11)) ||| (w 12)) ||| (w 13))), .val (.int (xpk_5 + (1 : Int32))), .val (.int (xpk_2 + (8 : Int32))), .val (.int (xpk_2 + xpk_3)), .val (.int ((((((0 : Int32) ||| ((w 8) <<< ((0 : Int32) &&& 31))) ||| ((w 9) <<< ((1 : Int32) &&& 31))) ||| ((w 10) <<< ((2 : Int32) &&& 31))) ||| ((w 11) <<< ((3 : Int32) &&& 31))) ||| ((w 12) <<< ((4 : Int32) &&& 31)))), .val (.int (5 : Int32))]) rfl ?_
                  refine Ow.iload X28 hx (pc' := 124) (hb hby d_prog_14_method_18_122) rfl ?_
                  refine Ow.aloadN X28 hx (pc' := 125) (hb hby d_prog_14_method_18_124) rfl rfl ?_
                  refine Ow.iload X28 hx (pc' := 127) (hb hby d_prog_14_method_18_125) rfl ?_
                  refine Ow.iload X28 hx (pc' := 129) (hb hby d_prog_14_method_18_127) rfl ?_
                  refine Ow.iadd X28 hx (pc' := 130) (hb hby d_prog_14_method_18_129) (z := ((xpk_2 + (8 : Int32)) + (5 : Int32))) rfl ?_
                  refine Ow.ldI X28 hx hZ e28 V_apk_1_t28 (pc' := 131) (hb hby d_prog_14_method_18_130) (j := ((xpk_2 + (8 : Int32)) + (5 : Int32))) (i := (own_n xpk_2 + 13)) (v := (.int (w 13))) ((own_ix (m := 13) hbd.1 (own_ad hbd.1 (own_ad hbd.1 own_z0 8 8 (by decide) (by decide)) 5 5 (by decide) (by decide))).1) ((own_ix (m := 13) hbd.1 (own_ad hbd.1 (own_ad hbd.1 own_z0 8 8 (by decide) (by decide)) 5 5 (by decide) (by decide))).2) (hv _ (own_in (m := 13) hbd (by omega))) ?_
                  refine Ow.iload X28 hx (pc' := 133) (hb hby d_prog_14_method_18_131) rfl ?_
                  refine Ow.ishl X28 hx (pc' := 134) (hb hby d_prog_14_method_18_133) (z := ((w 13) <<< ((5 : Int32) &&& 31))) rfl ?_
                  refine Ow.ior X28 hx (pc' := 135) (hb hby d_prog_14_method_18_134) (z := (((((((0 : Int32) ||| ((w 8) <<< ((0 : Int32) &&& 31))) ||| ((w 9) <<< ((1 : Int32) &&& 31))) ||| ((w 10) <<< ((2 : Int32) &&& 31))) ||| ((w 11) <<< ((3 : Int32) &&& 31))) ||| ((w 12) <<< ((4 : Int32) &&& 31))) ||| ((w 13) <<< ((5 : Int32) &&& 31)))) rfl ?_
                  refine Ow.istore X28 hx (pc' := 137) (hb hby d_prog_14_method_18_135) (l' := #[.val (.ref apk_1), .val (.int xpk_2), .val (.int xpk_3), .val (.ref apk_4), .val (.int xpk_5), .val (.int (((((((((((((((0 : Int32) ||| (w 0)) ||| (w 1)) ||| (w 2)) ||| (w 3)) ||| (w 4)) ||| (w 5)) ||| (w 6)) ||| (w 7)) ||| (w 8)) ||| (w 9)) ||| (w 10)) ||| (w 11)) ||| (w 12)) ||| (w 13))), .val (.int (xpk_5 + (1 : Int32))), .val (.int (xpk_2 + (8 : Int32))), .val (.int (xpk_2 + xpk_3)), .val (.int (((((((0 : Int32) ||| ((w 8) <<< ((0 : Int32) &&& 31))) ||| ((w 9) <<< ((1 : Int32) &&& 31))) ||| ((w 10) <<< ((2 : Int32) &&& 31))) ||| ((w 11) <<< ((3 : Int32) &&& 31))) ||| ((w 12) <<< ((4 : Int32) &&& 31))) ||| ((w 13) <<< ((5 : Int32) &&& 31)))), .val (.int (5 : Int32))]) rfl ?_
                  refine Ow.iinc X28 hx (pc' := 140) (hb hby d_prog_14_method_18_137) rfl (l' := #[.val (.ref apk_1), .val (.int xpk_2), .val (.int xpk_3), .val (.ref apk_4), .val (.int xpk_5), .val (.int (((((((((((((((0 : Int32) ||| (w 0)) ||| (w 1)) ||| (w 2)) ||| (w 3)) ||| (w 4)) ||| (w 5)) ||| (w 6)) ||| (w 7)) ||| (w 8)) ||| (w 9)) ||| (w 10)) ||| (w 11)) ||| (w 12)) ||| (w 13))), .val (.int (xpk_5 + (1 : Int32))), .val (.int (xpk_2 + (8 : Int32))), .val (.int (xpk_2 + xpk_3)), .val (.int (((((((0 : Int32) ||| ((w 8) <<< ((0 : Int32) &&& 31))) ||| ((w 9) <<< ((1 : Int32) &&& 31))) ||| ((w 10) <<< ((2 : Int32) &&& 31))) ||| ((w 11) <<< ((3 : Int32) &&& 31))) ||| ((w 12) <<< ((4 : Int32) &&& 31))) ||| ((w 13) <<< ((5 : Int32) &&& 31)))), .val (.int (6 : Int32))]) rfl ?_
                  show Wq _ _ _ _ _ (T28.setTop (mkF m 140 #[.val (.ref apk_1), .val (.int xpk_2), .val (.int xpk_3), .val (.ref apk_4), .val (.int xpk_5), .val (.int (((((((((((((((0 : Int32) ||| (w 0)) ||| (w 1)) ||| (w 2)) ||| (w 3)) ||| (w 4)) ||| (w 5)) ||| (w 6)) ||| (w 7)) ||| (w 8)) ||| (w 9)) ||| (w 10)) ||| (w 11)) ||| (w 12)) ||| (w 13))), .val (.int (xpk_5 + (1 : Int32))), .val (.int (xpk_2 + (8 : Int32))), .val (.int (xpk_2 + xpk_3)), .val (.int (((((((0 : Int32) ||| ((w 8) <<< ((0 : Int32) &&& 31))) ||| ((w 9) <<< ((1 : Int32) &&& 31))) ||| ((w 10) <<< ((2 : Int32) &&& 31))) ||| ((w 11) <<< ((3 : Int32) &&& 31))) ||| ((w 12) <<< ((4 : Int32) &&& 31))) ||| ((w 13) <<< ((5 : Int32) &&& 31)))), .val (.int (6 : Int32))] []))
                  refine Ow.goto X28 hx (pc' := 100) (hb hby d_prog_14_method_18_140) (by decide) (by decide) ?_
                  refine Ow.iload X28 hx (pc' := 102) (hb hby d_prog_14_method_18_100) rfl ?_
                  refine Ow.iload X28 hx (pc' := 104) (hb hby d_prog_14_method_18_102) rfl ?_
                  refine Ow.iadd X28 hx (pc' := 105) (hb hby d_prog_14_method_18_104) (z := ((xpk_2 + (8 : Int32)) + (6 : Int32))) rfl ?_
                  refine Ow.iload X28 hx (pc' := 107) (hb hby d_prog_14_method_18_105) rfl ?_
                  by_cases hc107_7 : ((xpk_2 + (8 : Int32)) + (6 : Int32)) < (xpk_2 + xpk_3)
                  · skip
                    refine Ow.icmpNo X28 hx (pc' := 110) (hb hby d_prog_14_method_18_107) (tlt hc107_7).2.1 ?_
                    have G6 : 14 < xpk_3.toInt := by have := (own_c2 (a := 14) hbd (own_ad hbd.1 (own_ad hbd.1 own_z0 8 8 (by decide) (by decide)) 6 6 (by decide) (by decide))).mp hc107_7; omega
                    refine Ow.iload X28 hx (pc' := 112) (hb hby d_prog_14_method_18_110) rfl ?_
                    refine Ow.aloadN X28 hx (pc' := 113) (hb hby d_prog_14_method_18_112) rfl rfl ?_
                    refine Ow.iload X28 hx (pc' := 115) (hb hby d_prog_14_method_18_113) rfl ?_
                    refine Ow.iload X28 hx (pc' := 117) (hb hby d_prog_14_method_18_115) rfl ?_
                    refine Ow.iadd X28 hx (pc' := 118) (hb hby d_prog_14_method_18_117) (z := ((xpk_2 + (8 : Int32)) + (6 : Int32))) rfl ?_
                    refine Ow.ldI X28 hx hZ e28 V_apk_1_t28 (pc' := 119) (hb hby d_prog_14_method_18_118) (j := ((xpk_2 + (8 : Int32)) + (6 : Int32))) (i := (own_n xpk_2 + 14)) (v := (.int (w 14))) ((own_ix (m := 14) hbd.1 (own_ad hbd.1 (own_ad hbd.1 own_z0 8 8 (by decide) (by decide)) 6 6 (by decide) (by decide))).1) ((own_ix (m := 14) hbd.1 (own_ad hbd.1 (own_ad hbd.1 own_z0 8 8 (by decide) (by decide)) 6 6 (by decide) (by decide))).2) (hv _ (own_in (m := 14) hbd (by omega))) ?_
                    refine Ow.ior X28 hx (pc' := 120) (hb hby d_prog_14_method_18_119) (z := ((((((((((((((((0 : Int32) ||| (w 0)) ||| (w 1)) ||| (w 2)) ||| (w 3)) ||| (w 4)) ||| (w 5)) ||| (w 6)) ||| (w 7)) ||| (w 8)) ||| (w 9)) ||| (w 10)) ||| (w 11)) ||| (w 12)) ||| (w 13)) ||| (w 14))) rfl ?_
                    refine Ow.istore X28 hx (pc' := 122) (hb hby d_prog_14_method_18_120) (l' := #[.val (.ref apk_1), .val (.int xpk_2), .val (.int xpk_3), .val (.ref apk_4), .val (.int xpk_5), .val (.int ((((((((((((((((0 : Int32) ||| (w 0)) ||| (w 1)) ||| (w 2)) ||| (w 3)) ||| (w 4)) ||| (w 5)) ||| (w 6)) ||| (w 7)) ||| (w 8)) ||| (w 9)) ||| (w 10)) ||| (w 11)) ||| (w 12)) ||| (w 13)) ||| (w 14))), .val (.int (xpk_5 + (1 : Int32))), .val (.int (xpk_2 + (8 : Int32))), .val (.int (xpk_2 + xpk_3)), .val (.int (((((((0 : Int32) ||| ((w 8) <<< ((0 : Int32) &&& 31))) ||| ((w 9) <<< ((1 : Int32) &&& 31))) ||| ((w 10) <<< ((2 : Int32) &&& 31))) ||| ((w 11) <<< ((3 : Int32) &&& 31))) ||| ((w 12) <<< ((4 : Int32) &&& 31))) ||| ((w 13) <<< ((5 : Int32) &&& 31)))), .val (.int (6 : Int32))]) rfl ?_
                    refine Ow.iload X28 hx (pc' := 124) (hb hby d_prog_14_method_18_122) rfl ?_
                    refine Ow.aloadN X28 hx (pc' := 125) (hb hby d_prog_14_method_18_124) rfl rfl ?_
                    refine Ow.iload X28 hx (pc' := 127) (hb hby d_prog_14_method_18_125) rfl ?_
                    refine Ow.iload X28 hx (pc' := 129) (hb hby d_prog_14_method_18_127) rfl ?_
                    refine Ow.iadd X28 hx (pc' := 130) (hb hby d_prog_14_method_18_129) (z := ((xpk_2 + (8 : Int32)) + (6 : Int32))) rfl ?_
                    refine Ow.ldI X28 hx hZ e28 V_apk_1_t28 (pc' := 131) (hb hby d_prog_14_method_18_130) (j := ((xpk_2 + (8 : Int32)) + (6 : Int32))) (i := (own_n xpk_2 + 14)) (v := (.int (w 14))) ((own_ix (m := 14) hbd.1 (own_ad hbd.1 (own_ad hbd.1 own_z0 8 8 (by decide) (by decide)) 6 6 (by decide) (by decide))).1) ((own_ix (m := 14) hbd.1 (own_ad hbd.1 (own_ad hbd.1 own_z0 8 8 (by decide) (by decide)) 6 6 (by decide) (by decide))).2) (hv _ (own_in (m := 14) hbd (by omega))) ?_
                    refine Ow.iload X28 hx (pc' := 133) (hb hby d_prog_14_method_18_131) rfl ?_
                    refine Ow.ishl X28 hx (pc' := 134) (hb hby d_prog_14_method_18_133) (z := ((w 14) <<< ((6 : Int32) &&& 31))) rfl ?_
                    refine Ow.ior X28 hx (pc' := 135) (hb hby d_prog_14_method_18_134) (z := ((((((((0 : Int32) ||| ((w 8) <<< ((0 : Int32) &&& 31))) ||| ((w 9) <<< ((1 : Int32) &&& 31))) ||| ((w 10) <<< ((2 : Int32) &&& 31))) ||| ((w 11) <<< ((3 : Int32) &&& 31))) ||| ((w 12) <<< ((4 : Int32) &&& 31))) ||| ((w 13) <<< ((5 : Int32) &&& 31))) ||| ((w 14) <<< ((6 : Int32) &&& 31)))) rfl ?_
                    refine Ow.istore X28 hx (pc' := 137) (hb hby d_prog_14_method_18_135) (l' := #[.val (.ref apk_1), .val (.int xpk_2), .val (.int xpk_3), .val (.ref apk_4), .val (.int xpk_5), .val (.int ((((((((((((((((0 : Int32) ||| (w 0)) ||| (w 1)) ||| (w 2)) ||| (w 3)) ||| (w 4)) ||| (w 5)) ||| (w 6)) ||| (w 7)) ||| (w 8)) ||| (w 9)) ||| (w 10)) ||| (w 11)) ||| (w 12)) ||| (w 13)) ||| (w 14))), .val (.int (xpk_5 + (1 : Int32))), .val (.int (xpk_2 + (8 : Int32))), .val (.int (xpk_2 + xpk_3)), .val (.int ((((((((0 : Int32) ||| ((w 8) <<< ((0 : Int32) &&& 31))) ||| ((w 9) <<< ((1 : Int32) &&& 31))) ||| ((w 10) <<< ((2 : Int32) &&& 31))) ||| ((w 11) <<< ((3 : Int32) &&& 31))) ||| ((w 12) <<< ((4 : Int32) &&& 31))) ||| ((w 13) <<< ((5 : Int32) &&& 31))) ||| ((w 14) <<< ((6 : Int32) &&& 31)))), .val (.int (6 : Int32))]) rfl ?_
                    refine Ow.iinc X28 hx (pc' := 140) (hb hby d_prog_14_method_18_137) rfl (l' := #[.val (.ref apk_1), .val (.int xpk_2), .val (.int xpk_3), .val (.ref apk_4), .val (.int xpk_5), .val (.int ((((((((((((((((0 : Int32) ||| (w 0)) ||| (w 1)) ||| (w 2)) ||| (w 3)) ||| (w 4)) ||| (w 5)) ||| (w 6)) ||| (w 7)) ||| (w 8)) ||| (w 9)) ||| (w 10)) ||| (w 11)) ||| (w 12)) ||| (w 13)) ||| (w 14))), .val (.int (xpk_5 + (1 : Int32))), .val (.int (xpk_2 + (8 : Int32))), .val (.int (xpk_2 + xpk_3)), .val (.int ((((((((0 : Int32) ||| ((w 8) <<< ((0 : Int32) &&& 31))) ||| ((w 9) <<< ((1 : Int32) &&& 31))) ||| ((w 10) <<< ((2 : Int32) &&& 31))) ||| ((w 11) <<< ((3 : Int32) &&& 31))) ||| ((w 12) <<< ((4 : Int32) &&& 31))) ||| ((w 13) <<< ((5 : Int32) &&& 31))) ||| ((w 14) <<< ((6 : Int32) &&& 31)))), .val (.int (7 : Int32))]) rfl ?_
                    show Wq _ _ _ _ _ (T28.setTop (mkF m 140 #[.val (.ref apk_1), .val (.int xpk_2), .val (.int xpk_3), .val (.ref apk_4), .val (.int xpk_5), .val (.int ((((((((((((((((0 : Int32) ||| (w 0)) ||| (w 1)) ||| (w 2)) ||| (w 3)) ||| (w 4)) ||| (w 5)) ||| (w 6)) ||| (w 7)) ||| (w 8)) ||| (w 9)) ||| (w 10)) ||| (w 11)) ||| (w 12)) ||| (w 13)) ||| (w 14))), .val (.int (xpk_5 + (1 : Int32))), .val (.int (xpk_2 + (8 : Int32))), .val (.int (xpk_2 + xpk_3)), .val (.int ((((((((0 : Int32) ||| ((w 8) <<< ((0 : Int32) &&& 31))) ||| ((w 9) <<< ((1 : Int32) &&& 31))) ||| ((w 10) <<< ((2 : Int32) &&& 31))) ||| ((w 11) <<< ((3 : Int32) &&& 31))) ||| ((w 12) <<< ((4 : Int32) &&& 31))) ||| ((w 13) <<< ((5 : Int32) &&& 31))) ||| ((w 14) <<< ((6 : Int32) &&& 31)))), .val (.int (7 : Int32))] []))
                    refine Ow.goto X28 hx (pc' := 100) (hb hby d_prog_14_method_18_140) (by decide) (by decide) ?_
                    refine Ow.iload X28 hx (pc' := 102) (hb hby d_prog_14_method_18_100) rfl ?_
                    refine Ow.iload X28 hx (pc' := 104) (hb hby d_prog_14_method_18_102) rfl ?_
                    refine Ow.iadd X28 hx (pc' := 105) (hb hby d_prog_14_method_18_104) (z := ((xpk_2 + (8 : Int32)) + (7 : Int32))) rfl ?_
                    refine Ow.iload X28 hx (pc' := 107) (hb hby d_prog_14_method_18_105) rfl ?_
                    refine Ow.icmpYes X28 hx (pc' := 143) (hb hby d_prog_14_method_18_107) (flt (mt (own_c2 (a := 15) hbd (own_ad hbd.1 (own_ad hbd.1 own_z0 8 8 (by decide) (by decide)) 7 7 (by decide) (by decide))).mp (by have := hbd.2.2.2; have := hbd.1.1; omega) : ¬ (((xpk_2 + (8 : Int32)) + (7 : Int32)) < (xpk_2 + xpk_3)))).2.1 (by decide) (by decide) ?_
                    have HN : own_n xpk_3 = 15 := own_cn (n := 15) (by omega)
                    refine Ow.aloadN X28 hx (pc' := 144) (hb hby d_prog_14_method_18_143) rfl rfl ?_
                    refine Ow.iload X28 hx (pc' := 146) (hb hby d_prog_14_method_18_144) rfl ?_
                    refine Ow.iload X28 hx (pc' := 148) (hb hby d_prog_14_method_18_146) rfl ?_
                    refine Ow.i2b X28 hx (pc' := 149) (hb hby d_prog_14_method_18_148) (z := (((((((((0 : Int32) ||| ((w 8) <<< ((0 : Int32) &&& 31))) ||| ((w 9) <<< ((1 : Int32) &&& 31))) ||| ((w 10) <<< ((2 : Int32) &&& 31))) ||| ((w 11) <<< ((3 : Int32) &&& 31))) ||| ((w 12) <<< ((4 : Int32) &&& 31))) ||| ((w 13) <<< ((5 : Int32) &&& 31))) ||| ((w 14) <<< ((6 : Int32) &&& 31))).toInt8.toInt32)) rfl ?_
                    obtain ⟨T29, h29, X29, e29, W29, Vr29, st29⟩ := asB X28 hx hZ e28 V_apk_4_t28 (j := (xpk_5 + (1 : Int32))) (i := (own_n xpk_5 + 1)) ((own_ix (m := 1) hbd.2.1 (own_ad hbd.2.1 own_z0 1 1 (by decide) (by decide))).1) ((own_ix (m := 1) hbd.2.1 (own_ad hbd.2.1 own_z0 1 1 (by decide) (by decide))).2) (own_ln hbd.2.1 (by first | exact hl | (simp only [List.length_set]; exact hl)) (by decide)) (y := ((((((((((0 : Int32) ||| ((w 8) <<< ((0 : Int32) &&& 31))) ||| ((w 9) <<< ((1 : Int32) &&& 31))) ||| ((w 10) <<< ((2 : Int32) &&& 31))) ||| ((w 11) <<< ((3 : Int32) &&& 31))) ||| ((w 12) <<< ((4 : Int32) &&& 31))) ||| ((w 13) <<< ((5 : Int32) &&& 31))) ||| ((w 14) <<< ((6 : Int32) &&& 31))).toInt8.toInt32).toInt8.toInt32)) (rfl) (g := (mkF m 149 #[.val (.ref apk_1), .val (.int xpk_2), .val (.int xpk_3), .val (.ref apk_4), .val (.int xpk_5), .val (.int ((((((((((((((((0 : Int32) ||| (w 0)) ||| (w 1)) ||| (w 2)) ||| (w 3)) ||| (w 4)) ||| (w 5)) ||| (w 6)) ||| (w 7)) ||| (w 8)) ||| (w 9)) ||| (w 10)) ||| (w 11)) ||| (w 12)) ||| (w 13)) ||| (w 14))), .val (.int (xpk_5 + (1 : Int32))), .val (.int (xpk_2 + (8 : Int32))), .val (.int (xpk_2 + xpk_3)), .val (.int ((((((((0 : Int32) ||| ((w 8) <<< ((0 : Int32) &&& 31))) ||| ((w 9) <<< ((1 : Int32) &&& 31))) ||| ((w 10) <<< ((2 : Int32) &&& 31))) ||| ((w 11) <<< ((3 : Int32) &&& 31))) ||| ((w 12) <<< ((4 : Int32) &&& 31))) ||| ((w 13) <<< ((5 : Int32) &&& 31))) ||| ((w 14) <<< ((6 : Int32) &&& 31)))), .val (.int (7 : Int32))] [(.int (((((((((0 : Int32) ||| ((w 8) <<< ((0 : Int32) &&& 31))) ||| ((w 9) <<< ((1 : Int32) &&& 31))) ||| ((w 10) <<< ((2 : Int32) &&& 31))) ||| ((w 11) <<< ((3 : Int32) &&& 31))) ||| ((w 12) <<< ((4 : Int32) &&& 31))) ||| ((w 13) <<< ((5 : Int32) &&& 31))) ||| ((w 14) <<< ((6 : Int32) &&& 31))).toInt8.toInt32)), (.int (xpk_5 + (1 : Int32))), (.ref apk_4)])) rfl rfl (hb hby d_prog_14_method_18_149)
                    refine Wq.step st29 ?_
                    have N29 := Fr.snoc X29 N28 g_apk_4
                    have K29 : Keep h0 h29 [apk_4] := K28.wr W29 (Or.inl (List.mem_of_getElem? (i := 0) rfl))
                    have Z29 : n0 ≤ h29.size := Nat.le_trans Z28 (Keep.of_wr W29).1
                    have V_apk_1_t29 := V_apk_1_t28.other W29 ne_apk_1_apk_4
                    have V_apk_4_t29 : Al Z h29 apk_4 .byte ((ds.set (own_n xpk_5 + 0) (.int (((((((((((0 : Int32) ||| ((w 0) <<< ((0 : Int32) &&& 31))) ||| ((w 1) <<< ((1 : Int32) &&& 31))) ||| ((w 2) <<< ((2 : Int32) &&& 31))) ||| ((w 3) <<< ((3 : Int32) &&& 31))) ||| ((w 4) <<< ((4 : Int32) &&& 31))) ||| ((w 5) <<< ((5 : Int32) &&& 31))) ||| ((w 6) <<< ((6 : Int32) &&& 31))) ||| ((w 7) <<< ((7 : Int32) &&& 31))).toInt8.toInt32).toInt8.toInt32))).set (own_n xpk_5 + 1) (.int ((((((((((0 : Int32) ||| ((w 8) <<< ((0 : Int32) &&& 31))) ||| ((w 9) <<< ((1 : Int32) &&& 31))) ||| ((w 10) <<< ((2 : Int32) &&& 31))) ||| ((w 11) <<< ((3 : Int32) &&& 31))) ||| ((w 12) <<< ((4 : Int32) &&& 31))) ||| ((w 13) <<< ((5 : Int32) &&& 31))) ||| ((w 14) <<< ((6 : Int32) &&& 31))).toInt8.toInt32).toInt8.toInt32))) := Vr29
                    show Wq _ _ _ _ _ (T29.setTop (mkF m 150 #[.val (.ref apk_1), .val (.int xpk_2), .val (.int xpk_3), .val (.ref apk_4), .val (.int xpk_5), .val (.int ((((((((((((((((0 : Int32) ||| (w 0)) ||| (w 1)) ||| (w 2)) ||| (w 3)) ||| (w 4)) ||| (w 5)) ||| (w 6)) ||| (w 7)) ||| (w 8)) ||| (w 9)) ||| (w 10)) ||| (w 11)) ||| (w 12)) ||| (w 13)) ||| (w 14))), .val (.int (xpk_5 + (1 : Int32))), .val (.int (xpk_2 + (8 : Int32))), .val (.int (xpk_2 + xpk_3)), .val (.int ((((((((0 : Int32) ||| ((w 8) <<< ((0 : Int32) &&& 31))) ||| ((w 9) <<< ((1 : Int32) &&& 31))) ||| ((w 10) <<< ((2 : Int32) &&& 31))) ||| ((w 11) <<< ((3 : Int32) &&& 31))) ||| ((w 12) <<< ((4 : Int32) &&& 31))) ||| ((w 13) <<< ((5 : Int32) &&& 31))) ||| ((w 14) <<< ((6 : Int32) &&& 31)))), .val (.int (7 : Int32))] []))
                    refine Ow.iload X29 hx (pc' := 152) (hb hby d_prog_14_method_18_150) rfl ?_
                    exact Wq.ret X29 (BodyLoose.notSynchronized Bd) (rv := some (.int ((((((((((((((((0 : Int32) ||| (w 0)) ||| (w 1)) ||| (w 2)) ||| (w 3)) ||| (w 4)) ||| (w 5)) ||| (w 6)) ||| (w 7)) ||| (w 8)) ||| (w 9)) ||| (w 10)) ||| (w 11)) ||| (w 12)) ||| (w 13)) ||| (w 14)))) (fun h => by rw [Bd.returns] at h; cases h) (fun _ hr => retOut X29 hx Bd.returns rfl (Or.inl ⟨rfl, Or.inl rfl, _, rfl⟩) (hb hby d_prog_14_method_18_152) hr) (by decide) (by decide) (by rw [e29]; exact ⟨by rw [HN]; rfl, N29, K29, (by rw [HN]; exact V_apk_4_t29)⟩)
                  · skip
                    refine Ow.icmpYes X28 hx (pc' := 143) (hb hby d_prog_14_method_18_107) (flt hc107_7).2.1 (by decide) (by decide) ?_
                    have HN : own_n xpk_3 = 14 := own_cn (n := 14) (by have := mt (own_c2 (a := 14) hbd (own_ad hbd.1 (own_ad hbd.1 own_z0 8 8 (by decide) (by decide)) 6 6 (by decide) (by decide))).mpr hc107_7; omega)
                    refine Ow.aloadN X28 hx (pc' := 144) (hb hby d_prog_14_method_18_143) rfl rfl ?_
                    refine Ow.iload X28 hx (pc' := 146) (hb hby d_prog_14_method_18_144) rfl ?_
                    refine Ow.iload X28 hx (pc' := 148) (hb hby d_prog_14_method_18_146) rfl ?_
                    refine Ow.i2b X28 hx (pc' := 149) (hb hby d_prog_14_method_18_148) (z := ((((((((0 : Int32) ||| ((w 8) <<< ((0 : Int32) &&& 31))) ||| ((w 9) <<< ((1 : Int32) &&& 31))) ||| ((w 10) <<< ((2 : Int32) &&& 31))) ||| ((w 11) <<< ((3 : Int32) &&& 31))) ||| ((w 12) <<< ((4 : Int32) &&& 31))) ||| ((w 13) <<< ((5 : Int32) &&& 31))).toInt8.toInt32)) rfl ?_
                    obtain ⟨T30, h30, X30, e30, W30, Vr30, st30⟩ := asB X28 hx hZ e28 V_apk_4_t28 (j := (xpk_5 + (1 : Int32))) (i := (own_n xpk_5 + 1)) ((own_ix (m := 1) hbd.2.1 (own_ad hbd.2.1 own_z0 1 1 (by decide) (by decide))).1) ((own_ix (m := 1) hbd.2.1 (own_ad hbd.2.1 own_z0 1 1 (by decide) (by decide))).2) (own_ln hbd.2.1 (by first | exact hl | (simp only [List.length_set]; exact hl)) (by decide)) (y := (((((((((0 : Int32) ||| ((w 8) <<< ((0 : Int32) &&& 31))) ||| ((w 9) <<< ((1 : Int32) &&& 31))) ||| ((w 10) <<< ((2 : Int32) &&& 31))) ||| ((w 11) <<< ((3 : Int32) &&& 31))) ||| ((w 12) <<< ((4 : Int32) &&& 31))) ||| ((w 13) <<< ((5 : Int32) &&& 31))).toInt8.toInt32).toInt8.toInt32)) (rfl) (g := (mkF m 149 #[.val (.ref apk_1), .val (.int xpk_2), .val (.int xpk_3), .val (.ref apk_4), .val (.int xpk_5), .val (.int (((((((((((((((0 : Int32) ||| (w 0)) ||| (w 1)) ||| (w 2)) ||| (w 3)) ||| (w 4)) ||| (w 5)) ||| (w 6)) ||| (w 7)) ||| (w 8)) ||| (w 9)) ||| (w 10)) ||| (w 11)) ||| (w 12)) ||| (w 13))), .val (.int (xpk_5 + (1 : Int32))), .val (.int (xpk_2 + (8 : Int32))), .val (.int (xpk_2 + xpk_3)), .val (.int (((((((0 : Int32) ||| ((w 8) <<< ((0 : Int32) &&& 31))) ||| ((w 9) <<< ((1 : Int32) &&& 31))) ||| ((w 10) <<< ((2 : Int32) &&& 31))) ||| ((w 11) <<< ((3 : Int32) &&& 31))) ||| ((w 12) <<< ((4 : Int32) &&& 31))) ||| ((w 13) <<< ((5 : Int32) &&& 31)))), .val (.int (6 : Int32))] [(.int ((((((((0 : Int32) ||| ((w 8) <<< ((0 : Int32) &&& 31))) ||| ((w 9) <<< ((1 : Int32) &&& 31))) ||| ((w 10) <<< ((2 : Int32) &&& 31))) ||| ((w 11) <<< ((3 : Int32) &&& 31))) ||| ((w 12) <<< ((4 : Int32) &&& 31))) ||| ((w 13) <<< ((5 : Int32) &&& 31))).toInt8.toInt32)), (.int (xpk_5 + (1 : Int32))), (.ref apk_4)])) rfl rfl (hb hby d_prog_14_method_18_149)
                    refine Wq.step st30 ?_
                    have N30 := Fr.snoc X30 N28 g_apk_4
                    have K30 : Keep h0 h30 [apk_4] := K28.wr W30 (Or.inl (List.mem_of_getElem? (i := 0) rfl))
                    have Z30 : n0 ≤ h30.size := Nat.le_trans Z28 (Keep.of_wr W30).1
                    have V_apk_1_t30 := V_apk_1_t28.other W30 ne_apk_1_apk_4
                    have V_apk_4_t30 : Al Z h30 apk_4 .byte ((ds.set (own_n xpk_5 + 0) (.int (((((((((((0 : Int32) ||| ((w 0) <<< ((0 : Int32) &&& 31))) ||| ((w 1) <<< ((1 : Int32) &&& 31))) ||| ((w 2) <<< ((2 : Int32) &&& 31))) ||| ((w 3) <<< ((3 : Int32) &&& 31))) ||| ((w 4) <<< ((4 : Int32) &&& 31))) ||| ((w 5) <<< ((5 : Int32) &&& 31))) ||| ((w 6) <<< ((6 : Int32) &&& 31))) ||| ((w 7) <<< ((7 : Int32) &&& 31))).toInt8.toInt32).toInt8.toInt32))).set (own_n xpk_5 + 1) (.int (((((((((0 : Int32) ||| ((w 8) <<< ((0 : Int32) &&& 31))) ||| ((w 9) <<< ((1 : Int32) &&& 31))) ||| ((w 10) <<< ((2 : Int32) &&& 31))) ||| ((w 11) <<< ((3 : Int32) &&& 31))) ||| ((w 12) <<< ((4 : Int32) &&& 31))) ||| ((w 13) <<< ((5 : Int32) &&& 31))).toInt8.toInt32).toInt8.toInt32))) := Vr30
                    show Wq _ _ _ _ _ (T30.setTop (mkF m 150 #[.val (.ref apk_1), .val (.int xpk_2), .val (.int xpk_3), .val (.ref apk_4), .val (.int xpk_5), .val (.int (((((((((((((((0 : Int32) ||| (w 0)) ||| (w 1)) ||| (w 2)) ||| (w 3)) ||| (w 4)) ||| (w 5)) ||| (w 6)) ||| (w 7)) ||| (w 8)) ||| (w 9)) ||| (w 10)) ||| (w 11)) ||| (w 12)) ||| (w 13))), .val (.int (xpk_5 + (1 : Int32))), .val (.int (xpk_2 + (8 : Int32))), .val (.int (xpk_2 + xpk_3)), .val (.int (((((((0 : Int32) ||| ((w 8) <<< ((0 : Int32) &&& 31))) ||| ((w 9) <<< ((1 : Int32) &&& 31))) ||| ((w 10) <<< ((2 : Int32) &&& 31))) ||| ((w 11) <<< ((3 : Int32) &&& 31))) ||| ((w 12) <<< ((4 : Int32) &&& 31))) ||| ((w 13) <<< ((5 : Int32) &&& 31)))), .val (.int (6 : Int32))] []))
                    refine Ow.iload X30 hx (pc' := 152) (hb hby d_prog_14_method_18_150) rfl ?_
                    exact Wq.ret X30 (BodyLoose.notSynchronized Bd) (rv := some (.int (((((((((((((((0 : Int32) ||| (w 0)) ||| (w 1)) ||| (w 2)) ||| (w 3)) ||| (w 4)) ||| (w 5)) ||| (w 6)) ||| (w 7)) ||| (w 8)) ||| (w 9)) ||| (w 10)) ||| (w 11)) ||| (w 12)) ||| (w 13)))) (fun h => by rw [Bd.returns] at h; cases h) (fun _ hr => retOut X30 hx Bd.returns rfl (Or.inl ⟨rfl, Or.inl rfl, _, rfl⟩) (hb hby d_prog_14_method_18_152) hr) (by decide) (by decide) (by rw [e30]; exact ⟨by rw [HN]; rfl, N30, K30, (by rw [HN]; exact V_apk_4_t30)⟩)
                · skip
                  refine Ow.icmpYes X28 hx (pc' := 143) (hb hby d_prog_14_method_18_107) (flt hc107_6).2.1 (by decide) (by decide) ?_
                  have HN : own_n xpk_3 = 13 := own_cn (n := 13) (by have := mt (own_c2 (a := 13) hbd (own_ad hbd.1 (own_ad hbd.1 own_z0 8 8 (by decide) (by decide)) 5 5 (by decide) (by decide))).mpr hc107_6; omega)
                  refine Ow.aloadN X28 hx (pc' := 144) (hb hby d_prog_14_method_18_143) rfl rfl ?_
                  refine Ow.iload X28 hx (pc' := 146) (hb hby d_prog_14_method_18_144) rfl ?_
                  refine Ow.iload X28 hx (pc' := 148) (hb hby d_prog_14_method_18_146) rfl ?_
                  refine Ow.i2b X28 hx (pc' := 149) (hb hby d_prog_14_method_18_148) (z := (((((((0 : Int32) ||| ((w 8) <<< ((0 : Int32) &&& 31))) ||| ((w 9) <<< ((1 : Int32) &&& 31))) ||| ((w 10) <<< ((2 : Int32) &&& 31))) ||| ((w 11) <<< ((3 : Int32) &&& 31))) ||| ((w 12) <<< ((4 : Int32) &&& 31))).toInt8.toInt32)) rfl ?_
                  obtain ⟨T31, h31, X31, e31, W31, Vr31, st31⟩ := asB X28 hx hZ e28 V_apk_4_t28 (j := (xpk_5 + (1 : Int32))) (i := (own_n xpk_5 + 1)) ((own_ix (m := 1) hbd.2.1 (own_ad hbd.2.1 own_z0 1 1 (by decide) (by decide))).1) ((own_ix (m := 1) hbd.2.1 (own_ad hbd.2.1 own_z0 1 1 (by decide) (by decide))).2) (own_ln hbd.2.1 (by first | exact hl | (simp only [List.length_set]; exact hl)) (by decide)) (y := ((((((((0 : Int32) ||| ((w 8) <<< ((0 : Int32) &&& 31))) ||| ((w 9) <<< ((1 : Int32) &&& 31))) ||| ((w 10) <<< ((2 : Int32) &&& 31))) ||| ((w 11) <<< ((3 : Int32) &&& 31))) ||| ((w 12) <<< ((4 : Int32) &&& 31))).toInt8.toInt32).toInt8.toInt32)) (rfl) (g := (mkF m 149 #[.val (.ref apk_1), .val (.int xpk_2), .val (.int xpk_3), .val (.ref apk_4), .val (.int xpk_5), .val (.int ((((((((((((((0 : Int32) ||| (w 0)) ||| (w 1)) ||| (w 2)) ||| (w 3)) ||| (w 4)) ||| (w 5)) ||| (w 6)) ||| (w 7)) ||| (w 8)) ||| (w 9)) ||| (w 10)) ||| (w 11)) ||| (w 12))), .val (.int (xpk_5 + (1 : Int32))), .val (.int (xpk_2 + (8 : Int32))), .val (.int (xpk_2 + xpk_3)), .val (.int ((((((0 : Int32) ||| ((w 8) <<< ((0 : Int32) &&& 31))) ||| ((w 9) <<< ((1 : Int32) &&& 31))) ||| ((w 10) <<< ((2 : Int32) &&& 31))) ||| ((w 11) <<< ((3 : Int32) &&& 31))) ||| ((w 12) <<< ((4 : Int32) &&& 31)))), .val (.int (5 : Int32))] [(.int (((((((0 : Int32) ||| ((w 8) <<< ((0 : Int32) &&& 31))) ||| ((w 9) <<< ((1 : Int32) &&& 31))) ||| ((w 10) <<< ((2 : Int32) &&& 31))) ||| ((w 11) <<< ((3 : Int32) &&& 31))) ||| ((w 12) <<< ((4 : Int32) &&& 31))).toInt8.toInt32)), (.int (xpk_5 + (1 : Int32))), (.ref apk_4)])) rfl rfl (hb hby d_prog_14_method_18_149)
                  refine Wq.step st31 ?_
                  have N31 := Fr.snoc X31 N28 g_apk_4
                  have K31 : Keep h0 h31 [apk_4] := K28.wr W31 (Or.inl (List.mem_of_getElem? (i := 0) rfl))
                  have Z31 : n0 ≤ h31.size := Nat.le_trans Z28 (Keep.of_wr W31).1
                  have V_apk_1_t31 := V_apk_1_t28.other W31 ne_apk_1_apk_4
                  have V_apk_4_t31 : Al Z h31 apk_4 .byte ((ds.set (own_n xpk_5 + 0) (.int (((((((((((0 : Int32) ||| ((w 0) <<< ((0 : Int32) &&& 31))) ||| ((w 1) <<< ((1 : Int32) &&& 31))) ||| ((w 2) <<< ((2 : Int32) &&& 31))) ||| ((w 3) <<< ((3 : Int32) &&& 31))) ||| ((w 4) <<< ((4 : Int32) &&& 31))) ||| ((w 5) <<< ((5 : Int32) &&& 31))) ||| ((w 6) <<< ((6 : Int32) &&& 31))) ||| ((w 7) <<< ((7 : Int32) &&& 31))).toInt8.toInt32).toInt8.toInt32))).set (own_n xpk_5 + 1) (.int ((((((((0 : Int32) ||| ((w 8) <<< ((0 : Int32) &&& 31))) ||| ((w 9) <<< ((1 : Int32) &&& 31))) ||| ((w 10) <<< ((2 : Int32) &&& 31))) ||| ((w 11) <<< ((3 : Int32) &&& 31))) ||| ((w 12) <<< ((4 : Int32) &&& 31))).toInt8.toInt32).toInt8.toInt32))) := Vr31
                  show Wq _ _ _ _ _ (T31.setTop (mkF m 150 #[.val (.ref apk_1), .val (.int xpk_2), .val (.int xpk_3), .val (.ref apk_4), .val (.int xpk_5), .val (.int ((((((((((((((0 : Int32) ||| (w 0)) ||| (w 1)) ||| (w 2)) ||| (w 3)) ||| (w 4)) ||| (w 5)) ||| (w 6)) ||| (w 7)) ||| (w 8)) ||| (w 9)) ||| (w 10)) ||| (w 11)) ||| (w 12))), .val (.int (xpk_5 + (1 : Int32))), .val (.int (xpk_2 + (8 : Int32))), .val (.int (xpk_2 + xpk_3)), .val (.int ((((((0 : Int32) ||| ((w 8) <<< ((0 : Int32) &&& 31))) ||| ((w 9) <<< ((1 : Int32) &&& 31))) ||| ((w 10) <<< ((2 : Int32) &&& 31))) ||| ((w 11) <<< ((3 : Int32) &&& 31))) ||| ((w 12) <<< ((4 : Int32) &&& 31)))), .val (.int (5 : Int32))] []))
                  refine Ow.iload X31 hx (pc' := 152) (hb hby d_prog_14_method_18_150) rfl ?_
                  exact Wq.ret X31 (BodyLoose.notSynchronized Bd) (rv := some (.int ((((((((((((((0 : Int32) ||| (w 0)) ||| (w 1)) ||| (w 2)) ||| (w 3)) ||| (w 4)) ||| (w 5)) ||| (w 6)) ||| (w 7)) ||| (w 8)) ||| (w 9)) ||| (w 10)) ||| (w 11)) ||| (w 12)))) (fun h => by rw [Bd.returns] at h; cases h) (fun _ hr => retOut X31 hx Bd.returns rfl (Or.inl ⟨rfl, Or.inl rfl, _, rfl⟩) (hb hby d_prog_14_method_18_152) hr) (by decide) (by decide) (by rw [e31]; exact ⟨by rw [HN]; rfl, N31, K31, (by rw [HN]; exact V_apk_4_t31)⟩)
              · skip
                refine Ow.icmpYes X28 hx (pc' := 143) (hb hby d_prog_14_method_18_107) (flt hc107_5).2.1 (by decide) (by decide) ?_
                have HN : own_n xpk_3 = 12 := own_cn (n := 12) (by have := mt (own_c2 (a := 12) hbd (own_ad hbd.1 (own_ad hbd.1 own_z0 8 8 (by decide) (by decide)) 4 4 (by decide) (by decide))).mpr hc107_5; omega)
                refine Ow.aloadN X28 hx (pc' := 144) (hb hby d_prog_14_method_18_143) rfl rfl ?_
                refine Ow.iload X28 hx (pc' := 146) (hb hby d_prog_14_method_18_144) rfl ?_
                refine Ow.iload X28 hx (pc' := 148) (hb hby d_prog_14_method_18_146) rfl ?_
                refine Ow.i2b X28 hx (pc' := 149) (hb hby d_prog_14_method_18_148) (z := ((((((0 : Int32) ||| ((w 8) <<< ((0 : Int32) &&& 31))) ||| ((w 9) <<< ((1 : Int32) &&& 31))) ||| ((w 10) <<< ((2 : Int32) &&& 31))) ||| ((w 11) <<< ((3 : Int32) &&& 31))).toInt8.toInt32)) rfl ?_
                obtain ⟨T32, h32, X32, e32, W32, Vr32, st32⟩ := asB X28 hx hZ e28 V_apk_4_t28 (j := (xpk_5 + (1 : Int32))) (i := (own_n xpk_5 + 1)) ((own_ix (m := 1) hbd.2.1 (own_ad hbd.2.1 own_z0 1 1 (by decide) (by decide))).1) ((own_ix (m := 1) hbd.2.1 (own_ad hbd.2.1 own_z0 1 1 (by decide) (by decide))).2) (own_ln hbd.2.1 (by first | exact hl | (simp only [List.length_set]; exact hl)) (by decide)) (y := (((((((0 : Int32) ||| ((w 8) <<< ((0 : Int32) &&& 31))) ||| ((w 9) <<< ((1 : Int32) &&& 31))) ||| ((w 10) <<< ((2 : Int32) &&& 31))) ||| ((w 11) <<< ((3 : Int32) &&& 31))).toInt8.toInt32).toInt8.toInt32)) (rfl) (g := (mkF m 149 #[.val (.ref apk_1), .val (.int xpk_2), .val (.int xpk_3), .val (.ref apk_4), .val (.int xpk_5), .val (.int (((((((((((((0 : Int32) ||| (w 0)) ||| (w 1)) ||| (w 2)) ||| (w 3)) ||| (w 4)) ||| (w 5)) ||| (w 6)) ||| (w 7)) ||| (w 8)) ||| (w 9)) ||| (w 10)) ||| (w 11))), .val (.int (xpk_5 + (1 : Int32))), .val (.int (xpk_2 + (8 : Int32))), .val (.int (xpk_2 + xpk_3)), .val (.int (((((0 : Int32) ||| ((w 8) <<< ((0 : Int32) &&& 31))) ||| ((w 9) <<< ((1 : Int32) &&& 31))) ||| ((w 10) <<< ((2 : Int32) &&& 31))) ||| ((w 11) <<< ((3 : Int32) &&& 31)))), .val (.int (4 : Int32))] [(.int ((((((0 : Int32) ||| ((w 8) <<< ((0 : Int32) &&& 31))) ||| ((w 9) <<< ((1 : Int32) &&& 31))) ||| ((w 10) <<< ((2 : Int32) &&& 31))) ||| ((w 11) <<< ((3 : Int32) &&& 31))).toInt8.toInt32)), (.int (xpk_5 + (1 : Int32))), (.ref apk_4)])) rfl rfl (hb hby d_prog_14_method_18_149)
                refine Wq.step st32 ?_
                have N32 := Fr.snoc X32 N28 g_apk_4
                have K32 : Keep h0 h32 [apk_4] := K28.wr W32 (Or.inl (List.mem_of_getElem? (i := 0) rfl))
                have Z32 : n0 ≤ h32.size := Nat.le_trans Z28 (Keep.of_wr W32).1
                have V_apk_1_t32 := V_apk_1_t28.other W32 ne_apk_1_apk_4
                have V_apk_4_t32 : Al Z h32 apk_4 .byte ((ds.set (own_n xpk_5 + 0) (.int (((((((((((0 : Int32) ||| ((w 0) <<< ((0 : Int32) &&& 31))) ||| ((w 1) <<< ((1 : Int32) &&& 31))) ||| ((w 2) <<< ((2 : Int32) &&& 31))) ||| ((w 3) <<< ((3 : Int32) &&& 31))) ||| ((w 4) <<< ((4 : Int32) &&& 31))) ||| ((w 5) <<< ((5 : Int32) &&& 31))) ||| ((w 6) <<< ((6 : Int32) &&& 31))) ||| ((w 7) <<< ((7 : Int32) &&& 31))).toInt8.toInt32).toInt8.toInt32))).set (own_n xpk_5 + 1) (.int (((((((0 : Int32) ||| ((w 8) <<< ((0 : Int32) &&& 31))) ||| ((w 9) <<< ((1 : Int32) &&& 31))) ||| ((w 10) <<< ((2 : Int32) &&& 31))) ||| ((w 11) <<< ((3 : Int32) &&& 31))).toInt8.toInt32).toInt8.toInt32))) := Vr32
                show Wq _ _ _ _ _ (T32.setTop (mkF m 150 #[.val (.ref apk_1), .val (.int xpk_2), .val (.int xpk_3), .val (.ref apk_4), .val (.int xpk_5), .val (.int (((((((((((((0 : Int32) ||| (w 0)) ||| (w 1)) ||| (w 2)) ||| (w 3)) ||| (w 4)) ||| (w 5)) ||| (w 6)) ||| (w 7)) ||| (w 8)) ||| (w 9)) ||| (w 10)) ||| (w 11))), .val (.int (xpk_5 + (1 : Int32))), .val (.int (xpk_2 + (8 : Int32))), .val (.int (xpk_2 + xpk_3)), .val (.int (((((0 : Int32) ||| ((w 8) <<< ((0 : Int32) &&& 31))) ||| ((w 9) <<< ((1 : Int32) &&& 31))) ||| ((w 10) <<< ((2 : Int32) &&& 31))) ||| ((w 11) <<< ((3 : Int32) &&& 31)))), .val (.int (4 : Int32))] []))
                refine Ow.iload X32 hx (pc' := 152) (hb hby d_prog_14_method_18_150) rfl ?_
                exact Wq.ret X32 (BodyLoose.notSynchronized Bd) (rv := some (.int (((((((((((((0 : Int32) ||| (w 0)) ||| (w 1)) ||| (w 2)) ||| (w 3)) ||| (w 4)) ||| (w 5)) ||| (w 6)) ||| (w 7)) ||| (w 8)) ||| (w 9)) ||| (w 10)) ||| (w 11)))) (fun h => by rw [Bd.returns] at h; cases h) (fun _ hr => retOut X32 hx Bd.returns rfl (Or.inl ⟨rfl, Or.inl rfl, _, rfl⟩) (hb hby d_prog_14_method_18_152) hr) (by decide) (by decide) (by rw [e32]; exact ⟨by rw [HN]; rfl, N32, K32, (by rw [HN]; exact V_apk_4_t32)⟩)
            · skip
              refine Ow.icmpYes X28 hx (pc' := 143) (hb hby d_prog_14_method_18_107) (flt hc107_4).2.1 (by decide) (by decide) ?_
              have HN : own_n xpk_3 = 11 := own_cn (n := 11) (by have := mt (own_c2 (a := 11) hbd (own_ad hbd.1 (own_ad hbd.1 own_z0 8 8 (by decide) (by decide)) 3 3 (by decide) (by decide))).mpr hc107_4; omega)
              refine Ow.aloadN X28 hx (pc' := 144) (hb hby d_prog_14_method_18_143) rfl rfl ?_
              refine Ow.iload X28 hx (pc' := 146) (hb hby d_prog_14_method_18_144) rfl ?_
              refine Ow.iload X28 hx (pc' := 148) (hb hby d_prog_14_method_18_146) rfl ?_
              refine Ow.i2b X28 hx (pc' := 149) (hb hby d_prog_14_method_18_148) (z := (((((0 : Int32) ||| ((w 8) <<< ((0 : Int32) &&& 31))) ||| ((w 9) <<< ((1 : Int32) &&& 31))) ||| ((w 10) <<< ((2 : Int32) &&& 31))).toInt8.toInt32)) rfl ?_
              obtain ⟨T33, h33, X33, e33, W33, Vr33, st33⟩ := asB X28 hx hZ e28 V_apk_4_t28 (j := (xpk_5 + (1 : Int32))) (i := (own_n xpk_5 + 1)) ((own_ix (m := 1) hbd.2.1 (own_ad hbd.2.1 own_z0 1 1 (by decide) (by decide))).1) ((own_ix (m := 1) hbd.2.1 (own_ad hbd.2.1 own_z0 1 1 (by decide) (by decide))).2) (own_ln hbd.2.1 (by first | exact hl | (simp only [List.length_set]; exact hl)) (by decide)) (y := ((((((0 : Int32) ||| ((w 8) <<< ((0 : Int32) &&& 31))) ||| ((w 9) <<< ((1 : Int32) &&& 31))) ||| ((w 10) <<< ((2 : Int32) &&& 31))).toInt8.toInt32).toInt8.toInt32)) (rfl) (g := (mkF m 149 #[.val (.ref apk_1), .val (.int xpk_2), .val (.int xpk_3), .val (.ref apk_4), .val (.int xpk_5), .val (.int ((((((((((((0 : Int32) ||| (w 0)) ||| (w 1)) ||| (w 2)) ||| (w 3)) ||| (w 4)) ||| (w 5)) ||| (w 6)) ||| (w 7)) ||| (w 8)) ||| (w 9)) ||| (w 10))), .val (.int (xpk_5 + (1 : Int32))), .val (.int (xpk_2 + (8 : Int32))), .val (.int (xpk_2 + xpk_3)), .val (.int ((((0 : Int32) ||| ((w 8) <<< ((0 : Int32) &&& 31))) ||| ((w 9) <<< ((1 : Int32) &&& 31))) ||| ((w 10) <<< ((2 : Int32) &&& 31)))), .val (.int (3 : Int32))] [(.int (((((0 : Int32) ||| ((w 8) <<< ((0 : Int32) &&& 31))) ||| ((w 9) <<< ((1 : Int32) &&& 31))) ||| ((w 10) <<< ((2 : Int32) &&& 31))).toInt8.toInt32)), (.int (xpk_5 + (1 : Int32))), (.ref apk_4)])) rfl rfl (hb hby d_prog_14_method_18_149)
              refine Wq.step st33 ?_
              have N33 := Fr.snoc X33 N28 g_apk_4
              have K33 : Keep h0 h33 [apk_4] := K28.wr W33 (Or.inl (List.mem_of_getElem? (i := 0) rfl))
              have Z33 : n0 ≤ h33.size := Nat.le_trans Z28 (Keep.of_wr W33).1
              have V_apk_1_t33 := V_apk_1_t28.other W33 ne_apk_1_apk_4
              have V_apk_4_t33 : Al Z h33 apk_4 .byte ((ds.set (own_n xpk_5 + 0) (.int (((((((((((0 : Int32) ||| ((w 0) <<< ((0 : Int32) &&& 31))) ||| ((w 1) <<< ((1 : Int32) &&& 31))) ||| ((w 2) <<< ((2 : Int32) &&& 31))) ||| ((w 3) <<< ((3 : Int32) &&& 31))) ||| ((w 4) <<< ((4 : Int32) &&& 31))) ||| ((w 5) <<< ((5 : Int32) &&& 31))) ||| ((w 6) <<< ((6 : Int32) &&& 31))) ||| ((w 7) <<< ((7 : Int32) &&& 31))).toInt8.toInt32).toInt8.toInt32))).set (own_n xpk_5 + 1) (.int ((((((0 : Int32) ||| ((w 8) <<< ((0 : Int32) &&& 31))) ||| ((w 9) <<< ((1 : Int32) &&& 31))) ||| ((w 10) <<< ((2 : Int32) &&& 31))).toInt8.toInt32).toInt8.toInt32))) := Vr33
              show Wq _ _ _ _ _ (T33.setTop (mkF m 150 #[.val (.ref apk_1), .val (.int xpk_2), .val (.int xpk_3), .val (.ref apk_4), .val (.int xpk_5), .val (.int ((((((((((((0 : Int32) ||| (w 0)) ||| (w 1)) ||| (w 2)) ||| (w 3)) ||| (w 4)) ||| (w 5)) ||| (w 6)) ||| (w 7)) ||| (w 8)) ||| (w 9)) ||| (w 10))), .val (.int (xpk_5 + (1 : Int32))), .val (.int (xpk_2 + (8 : Int32))), .val (.int (xpk_2 + xpk_3)), .val (.int ((((0 : Int32) ||| ((w 8) <<< ((0 : Int32) &&& 31))) ||| ((w 9) <<< ((1 : Int32) &&& 31))) ||| ((w 10) <<< ((2 : Int32) &&& 31)))), .val (.int (3 : Int32))] []))
              refine Ow.iload X33 hx (pc' := 152) (hb hby d_prog_14_method_18_150) rfl ?_
              exact Wq.ret X33 (BodyLoose.notSynchronized Bd) (rv := some (.int ((((((((((((0 : Int32) ||| (w 0)) ||| (w 1)) ||| (w 2)) ||| (w 3)) ||| (w 4)) ||| (w 5)) ||| (w 6)) ||| (w 7)) ||| (w 8)) ||| (w 9)) ||| (w 10)))) (fun h => by rw [Bd.returns] at h; cases h) (fun _ hr => retOut X33 hx Bd.returns rfl (Or.inl ⟨rfl, Or.inl rfl, _, rfl⟩) (hb hby d_prog_14_method_18_152) hr) (by decide) (by decide) (by rw [e33]; exact ⟨by rw [HN]; rfl, N33, K33, (by rw [HN]; exact V_apk_4_t33)⟩)
          · skip
            refine Ow.icmpYes X28 hx (pc' := 143) (hb hby d_prog_14_method_18_107) (flt hc107_3).2.1 (by decide) (by decide) ?_
            have HN : own_n xpk_3 = 10 := own_cn (n := 10) (by have := mt (own_c2 (a := 10) hbd (own_ad hbd.1 (own_ad hbd.1 own_z0 8 8 (by decide) (by decide)) 2 2 (by decide) (by decide))).mpr hc107_3; omega)
            refine Ow.aloadN X28 hx (pc' := 144) (hb hby d_prog_14_method_18_143) rfl rfl ?_
            refine Ow.iload X28 hx (pc' := 146) (hb hby d_prog_14_method_18_144) rfl ?_
            refine Ow.iload X28 hx (pc' := 148) (hb hby d_prog_14_method_18_146) rfl ?_
            refine Ow.i2b X28 hx (pc' := 149) (hb hby d_prog_14_method_18_148) (z := ((((0 : Int32) ||| ((w 8) <<< ((0 : Int32) &&& 31))) ||| ((w 9) <<< ((1 : Int32) &&& 31))).toInt8.toInt32)) rfl ?_
            obtain ⟨T34, h34, X34, e34, W34, Vr34, st34⟩ := asB X28 hx hZ e28 V_apk_4_t28 (j := (xpk_5 + (1 : Int32))) (i := (own_n xpk_5 + 1)) ((own_ix (m := 1) hbd.2.1 (own_ad hbd.2.1 own_z0 1 1 (by decide) (by decide))).1) ((own_ix (m := 1) hbd.2.1 (own_ad hbd.2.1 own_z0 1 1 (by decide) (by decide))).2) (own_ln hbd.2.1 (by first | exact hl | (simp only [List.length_set]; exact hl)) (by decide)) (y := (((((0 : Int32) ||| ((w 8) <<< ((0 : Int32) &&& 31))) ||| ((w 9) <<< ((1 : Int32) &&& 31))).toInt8.toInt32).toInt8.toInt32)) (rfl) (g := (mkF m 149 #[.val (.ref apk_1), .val (.int xpk_2), .val (.int xpk_3), .val (.ref apk_4), .val (.int xpk_5), .val (.int (((((((((((0 : Int32) ||| (w 0)) ||| (w 1)) ||| (w 2)) ||| (w 3)) ||| (w 4)) ||| (w 5)) ||| (w 6)) ||| (w 7)) ||| (w 8)) ||| (w 9))), .val (.int (xpk_5 + (1 : Int32))), .val (.int (xpk_2 + (8 : Int32))), .val (.int (xpk_2 + xpk_3)), .val (.int (((0 : Int32) ||| ((w 8) <<< ((0 : Int32) &&& 31))) ||| ((w 9) <<< ((1 : Int32) &&& 31)))), .val (.int (2 : Int32))] [(.int ((((0 : Int32) ||| ((w 8) <<< ((0 : Int32) &&& 31))) ||| ((w 9) <<< ((1 : Int32) &&& 31))).toInt8.toInt32)), (.int (xpk_5 + (1 : Int32))), (.ref apk_4)])) rfl rfl (hb hby d_prog_14_method_18_149)
            refine Wq.step st34 ?_
            have N34 := Fr.snoc X34 N28 g_apk_4
            have K34 : Keep h0 h34 [apk_4] := K28.wr W34 (Or.inl (List.mem_of_getElem? (i := 0) rfl))
            have Z34 : n0 ≤ h34.size := Nat.le_trans Z28 (Keep.of_wr W34).1
            have V_apk_1_t34 := V_apk_1_t28.other W34 ne_apk_1_apk_4
            have V_apk_4_t34 : Al Z h34 apk_4 .byte ((ds.set (own_n xpk_5 + 0) (.int (((((((((((0 : Int32) ||| ((w 0) <<< ((0 : Int32) &&& 31))) ||| ((w 1) <<< ((1 : Int32) &&& 31))) ||| ((w 2) <<< ((2 : Int32) &&& 31))) ||| ((w 3) <<< ((3 : Int32) &&& 31))) ||| ((w 4) <<< ((4 : Int32) &&& 31))) ||| ((w 5) <<< ((5 : Int32) &&& 31))) ||| ((w 6) <<< ((6 : Int32) &&& 31))) ||| ((w 7) <<< ((7 : Int32) &&& 31))).toInt8.toInt32).toInt8.toInt32))).set (own_n xpk_5 + 1) (.int (((((0 : Int32) ||| ((w 8) <<< ((0 : Int32) &&& 31))) ||| ((w 9) <<< ((1 : Int32) &&& 31))).toInt8.toInt32).toInt8.toInt32))) := Vr34
            show Wq _ _ _ _ _ (T34.setTop (mkF m 150 #[.val (.ref apk_1), .val (.int xpk_2), .val (.int xpk_3), .val (.ref apk_4), .val (.int xpk_5), .val (.int (((((((((((0 : Int32) ||| (w 0)) ||| (w 1)) ||| (w 2)) ||| (w 3)) ||| (w 4)) ||| (w 5)) ||| (w 6)) ||| (w 7)) ||| (w 8)) ||| (w 9))), .val (.int (xpk_5 + (1 : Int32))), .val (.int (xpk_2 + (8 : Int32))), .val (.int (xpk_2 + xpk_3)), .val (.int (((0 : Int32) ||| ((w 8) <<< ((0 : Int32) &&& 31))) ||| ((w 9) <<< ((1 : Int32) &&& 31)))), .val (.int (2 : Int32))] []))
            refine Ow.iload X34 hx (pc' := 152) (hb hby d_prog_14_method_18_150) rfl ?_
            exact Wq.ret X34 (BodyLoose.notSynchronized Bd) (rv := some (.int (((((((((((0 : Int32) ||| (w 0)) ||| (w 1)) ||| (w 2)) ||| (w 3)) ||| (w 4)) ||| (w 5)) ||| (w 6)) ||| (w 7)) ||| (w 8)) ||| (w 9)))) (fun h => by rw [Bd.returns] at h; cases h) (fun _ hr => retOut X34 hx Bd.returns rfl (Or.inl ⟨rfl, Or.inl rfl, _, rfl⟩) (hb hby d_prog_14_method_18_152) hr) (by decide) (by decide) (by rw [e34]; exact ⟨by rw [HN]; rfl, N34, K34, (by rw [HN]; exact V_apk_4_t34)⟩)
        · skip
          refine Ow.icmpYes X28 hx (pc' := 143) (hb hby d_prog_14_method_18_107) (flt hc107_2).2.1 (by decide) (by decide) ?_
          have HN : own_n xpk_3 = 9 := own_cn (n := 9) (by have := mt (own_c2 (a := 9) hbd (own_ad hbd.1 (own_ad hbd.1 own_z0 8 8 (by decide) (by decide)) 1 1 (by decide) (by decide))).mpr hc107_2; omega)
          refine Ow.aloadN X28 hx (pc' := 144) (hb hby d_prog_14_method_18_143) rfl rfl ?_
          refine Ow.iload X28 hx (pc' := 146) (hb hby d_prog_14_method_18_144) rfl ?_
          refine Ow.iload X28 hx (pc' := 148) (hb hby d_prog_14_method_18_146) rfl ?_
          refine Ow.i2b X28 hx (pc' := 149) (hb hby d_prog_14_method_18_148) (z := (((0 : Int32) ||| ((w 8) <<< ((0 : Int32) &&& 31))).toInt8.toInt32)) rfl ?_
          obtain ⟨T35, h35, X35, e35, W35, Vr35, st35⟩ := asB X28 hx hZ e28 V_apk_4_t28 (j := (xpk_5 + (1 : Int32))) (i := (own_n xpk_5 + 1)) ((own_ix (m := 1) hbd.2.1 (own_ad hbd.2.1 own_z0 1 1 (by decide) (by decide))).1) ((own_ix (m := 1) hbd.2.1 (own_ad hbd.2.1 own_z0 1 1 (by decide) (by decide))).2) (own_ln hbd.2.1 (by first | exact hl | (simp only [List.length_set]; exact hl)) (by decide)) (y := ((((0 : Int32) ||| ((w 8) <<< ((0 : Int32) &&& 31))).toInt8.toInt32).toInt8.toInt32)) (rfl) (g := (mkF m 149 #[.val (.ref apk_1), .val (.int xpk_2), .val (.int xpk_3), .val (.ref apk_4), .val (.int xpk_5), .val (.int ((((((((((0 : Int32) ||| (w 0)) ||| (w 1)) ||| (w 2)) ||| (w 3)) ||| (w 4)) ||| (w 5)) ||| (w 6)) ||| (w 7)) ||| (w 8))), .val (.int (xpk_5 + (1 : Int32))), .val (.int (xpk_2 + (8 : Int32))), .val (.int (xpk_2 + xpk_3)), .val (.int ((0 : Int32) ||| ((w 8) <<< ((0 : Int32) &&& 31)))), .val (.int (1 : Int32))] [(.int (((0 : Int32) ||| ((w 8) <<< ((0 : Int32) &&& 31))).toInt8.toInt32)), (.int (xpk_5 + (1 : Int32))), (.ref apk_4)])) rfl rfl (hb hby d_prog_14_method_18_149)
          refine Wq.step st35 ?_
          have N35 := Fr.snoc X35 N28 g_apk_4
          have K35 : Keep h0 h35 [apk_4] := K28.wr W35 (Or.inl (List.mem_of_getElem? (i := 0) rfl))
          have Z35 : n0 ≤ h35.size := Nat.le_trans Z28 (Keep.of_wr W35).1
          have V_apk_1_t35 := V_apk_1_t28.other W35 ne_apk_1_apk_4
          have V_apk_4_t35 : Al Z h35 apk_4 .byte ((ds.set (own_n xpk_5 + 0) (.int (((((((((((0 : Int32) ||| ((w 0) <<< ((0 : Int32) &&& 31))) ||| ((w 1) <<< ((1 : Int32) &&& 31))) ||| ((w 2) <<< ((2 : Int32) &&& 31))) ||| ((w 3) <<< ((3 : Int32) &&& 31))) ||| ((w 4) <<< ((4 : Int32) &&& 31))) ||| ((w 5) <<< ((5 : Int32) &&& 31))) ||| ((w 6) <<< ((6 : Int32) &&& 31))) ||| ((w 7) <<< ((7 : Int32) &&& 31))).toInt8.toInt32).toInt8.toInt32))).set (own_n xpk_5 + 1) (.int ((((0 : Int32) ||| ((w 8) <<< ((0 : Int32) &&& 31))).toInt8.toInt32).toInt8.toInt32))) := Vr35
          show Wq _ _ _ _ _ (T35.setTop (mkF m 150 #[.val (.ref apk_1), .val (.int xpk_2), .val (.int xpk_3), .val (.ref apk_4), .val (.int xpk_5), .val (.int ((((((((((0 : Int32) ||| (w 0)) ||| (w 1)) ||| (w 2)) ||| (w 3)) ||| (w 4)) ||| (w 5)) ||| (w 6)) ||| (w 7)) ||| (w 8))), .val (.int (xpk_5 + (1 : Int32))), .val (.int (xpk_2 + (8 : Int32))), .val (.int (xpk_2 + xpk_3)), .val (.int ((0 : Int32) ||| ((w 8) <<< ((0 : Int32) &&& 31)))), .val (.int (1 : Int32))] []))
          refine Ow.iload X35 hx (pc' := 152) (hb hby d_prog_14_method_18_150) rfl ?_
          exact Wq.ret X35 (BodyLoose.notSynchronized Bd) (rv := some (.int ((((((((((0 : Int32) ||| (w 0)) ||| (w 1)) ||| (w 2)) ||| (w 3)) ||| (w 4)) ||| (w 5)) ||| (w 6)) ||| (w 7)) ||| (w 8)))) (fun h => by rw [Bd.returns] at h; cases h) (fun _ hr => retOut X35 hx Bd.returns rfl (Or.inl ⟨rfl, Or.inl rfl, _, rfl⟩) (hb hby d_prog_14_method_18_152) hr) (by decide) (by decide) (by rw [e35]; exact ⟨by rw [HN]; rfl, N35, K35, (by rw [HN]; exact V_apk_4_t35)⟩)
      · skip
        refine Ow.icmpYes X28 hx (pc' := 150) (hb hby d_prog_14_method_18_91) (flt hc91).2.1 (by decide) (by decide) ?_
        have HN : own_n xpk_3 = 8 := own_cn (n := 8) (by have := mt (own_c2 (a := 8) hbd (own_ad hbd.1 own_z0 8 8 (by decide) (by decide))).mpr hc91; have := hbd.2.2.2; have := hbd.1.1; omega)
        refine Ow.iload X28 hx (pc' := 152) (hb hby d_prog_14_method_18_150) rfl ?_
        exact Wq.ret X28 (BodyLoose.notSynchronized Bd) (rv := some (.int (((((((((0 : Int32) ||| (w 0)) ||| (w 1)) ||| (w 2)) ||| (w 3)) ||| (w 4)) ||| (w 5)) ||| (w 6)) ||| (w 7)))) (fun h => by rw [Bd.returns] at h; cases h) (fun _ hr => retOut X28 hx Bd.returns rfl (Or.inl ⟨rfl, Or.inl rfl, _, rfl⟩) (hb hby d_prog_14_method_18_152) hr) (by decide) (by decide) (by rw [e28]; exact ⟨by rw [HN]; rfl, N28, K28, (by rw [HN]; exact V_apk_4_t28)⟩)
    · skip
      refine Ow.icmpNo X28 hx (pc' := 25) (hb hby d_prog_14_method_18_22) (flt hc22_2).2.2.1 ?_
      have L1 : 16 ≤ xpk_3.toInt := by have := mt (own_c1 (a := 8) hbd (own_ad hbd.1 own_z0 8 8 (by decide) (by decide))).mpr hc22_2; omega
      refine Ow.iconst X28 hx (pc' := 26) (hb hby d_prog_14_method_18_25) (z := (0 : Int32)) rfl ?_
      refine Ow.istore X28 hx (pc' := 28) (hb hby d_prog_14_method_18_26) (l' := #[.val (.ref apk_1), .val (.int xpk_2), .val (.int xpk_3), .val (.ref apk_4), .val (.int xpk_5), .val (.int (((((((((0 : Int32) ||| (w 0)) ||| (w 1)) ||| (w 2)) ||| (w 3)) ||| (w 4)) ||| (w 5)) ||| (w 6)) ||| (w 7))), .val (.int (xpk_5 + (1 : Int32))), .val (.int (xpk_2 + (8 : Int32))), .val (.int (xpk_2 + xpk_3)), .val (.int (0 : Int32)), .val (.int (8 : Int32))]) rfl ?_
      refine Ow.iconst X28 hx (pc' := 29) (hb hby d_prog_14_method_18_28) (z := (0 : Int32)) rfl ?_
      refine Ow.istore X28 hx (pc' := 31) (hb hby d_prog_14_method_18_29) (l' := #[.val (.ref apk_1), .val (.int xpk_2), .val (.int xpk_3), .val (.ref apk_4), .val (.int xpk_5), .val (.int (((((((((0 : Int32) ||| (w 0)) ||| (w 1)) ||| (w 2)) ||| (w 3)) ||| (w 4)) ||| (w 5)) ||| (w 6)) ||| (w 7))), .val (.int (xpk_5 + (1 : Int32))), .val (.int (xpk_2 + (8 : Int32))), .val (.int (xpk_2 + xpk_3)), .val (.int (0 : Int32)), .val (.int (0 : Int32))]) rfl ?_
      refine Ow.iload X28 hx (pc' := 33) (hb hby d_prog_14_method_18_31) rfl ?_
      refine Ow.bipush X28 hx (pc' := 35) (hb hby d_prog_14_method_18_33) (z := (8 : Int32)) rfl ?_
      refine Ow.icmpNo X28 hx (pc' := 38) (hb hby d_prog_14_method_18_35) (tlt (by decide : (0 : Int32) < (8 : Int32))).2.1 ?_
      refine Ow.iload X28 hx (pc' := 40) (hb hby d_prog_14_method_18_38) rfl ?_
      refine Ow.aloadN X28 hx (pc' := 41) (hb hby d_prog_14_method_18_40) rfl rfl ?_
      refine Ow.iload X28 hx (pc' := 43) (hb hby d_prog_14_method_18_41) rfl ?_
      refine Ow.iload X28 hx (pc' := 45) (hb hby d_prog_14_method_18_43) rfl ?_
      refine Ow.iadd X28 hx (pc' := 46) (hb hby d_prog_14_method_18_45) (z := ((xpk_2 + (8 : Int32)) + (0 : Int32))) rfl ?_
      refine Ow.ldI X28 hx hZ e28 V_apk_1_t28 (pc' := 47) (hb hby d_prog_14_method_18_46) (j := ((xpk_2 + (8 : Int32)) + (0 : Int32))) (i := (own_n xpk_2 + 8)) (v := (.int (w 8))) ((own_ix (m := 8) hbd.1 (own_ad hbd.1 (own_ad hbd.1 own_z0 8 8 (by decide) (by decide)) 0 0 (by decide) (by decide))).1) ((own_ix (m := 8) hbd.1 (own_ad hbd.1 (own_ad hbd.1 own_z0 8 8 (by decide) (by decide)) 0 0 (by decide) (by decide))).2) (hv _ (own_in (m := 8) hbd (by omega))) ?_
      refine Ow.ior X28 hx (pc' := 48) (hb hby d_prog_14_method_18_47) (z := ((((((((((0 : Int32) ||| (w 0)) ||| (w 1)) ||| (w 2)) ||| (w 3)) ||| (w 4)) ||| (w 5)) ||| (w 6)) ||| (w 7)) ||| (w 8))) rfl ?_
      refine Ow.istore X28 hx (pc' := 50) (hb hby d_prog_14_method_18_48) (l' := #[.val (.ref apk_1), .val (.int xpk_2), .val (.int xpk_3), .val (.ref apk_4), .val (.int xpk_5), .val (.int ((((((((((0 : Int32) ||| (w 0)) ||| (w 1)) ||| (w 2)) ||| (w 3)) ||| (w 4)) ||| (w 5)) ||| (w 6)) ||| (w 7)) ||| (w 8))), .val (.int (xpk_5 + (1 : Int32))), .val (.int (xpk_2 + (8 : Int32))), .val (.int (xpk_2 + xpk_3)), .val (.int (0 : Int32)), .val (.int (0 : Int32))]) rfl ?_
      refine Ow.iload X28 hx (pc' := 52) (hb hby d_prog_14_method_18_50) rfl ?_
      refine Ow.aloadN X28 hx (pc' := 53) (hb hby d_prog_14_method_18_52) rfl rfl ?_
      refine Ow.iload X28 hx (pc' := 55) (hb hby d_prog_14_method_18_53) rfl ?_
      refine Ow.iload X28 hx (pc' := 57) (hb hby d_prog_14_method_18_55) rfl ?_
      refine Ow.iadd X28 hx (pc' := 58) (hb hby d_prog_14_method_18_57) (z := ((xpk_2 + (8 : Int32)) + (0 : Int32))) rfl ?_
      refine Ow.ldI X28 hx hZ e28 V_apk_1_t28 (pc' := 59) (hb hby d_prog_14_method_18_58) (j := ((xpk_2 + (8 : Int32)) + (0 : Int32))) (i := (own_n xpk_2 + 8)) (v := (.int (w 8))) ((own_ix (m := 8) hbd.1 (own_ad hbd.1 (own_ad hbd.1 own_z0 8 8 (by decide) (by decide)) 0 0 (by decide) (by decide))).1) ((own_ix (m := 8) hbd.1 (own_ad hbd.1 (own_ad hbd.1 own_z0 8 8 (by decide) (by decide)) 0 0 (by decide) (by decide))).2) (hv _ (own_in (m := 8) hbd (by omega))) ?_
      refine Ow.iload X28 hx (pc' := 61) (hb hby d_prog_14_method_18_59) rfl ?_
      refine Ow.ishl X28 hx (pc' := 62) (hb hby d_prog_14_method_18_61) (z := ((w 8) <<< ((0 : Int32) &&& 31))) rfl ?_
      refine Ow.ior X28 hx (pc' := 63) (hb hby d_prog_14_method_18_62) (z := ((0 : Int32) ||| ((w 8) <<< ((0 : Int32) &&& 31)))) rfl ?_
      refine Ow.istore X28 hx (pc' := 65) (hb hby d_prog_14_method_18_63) (l' := #[.val (.ref apk_1), .val (.int xpk_2), .val (.int xpk_3), .val (.ref apk_4), .val (.int xpk_5), .val (.int ((((((((((0 : Int32) ||| (w 0)) ||| (w 1)) ||| (w 2)) ||| (w 3)) ||| (w 4)) ||| (w 5)) ||| (w 6)) ||| (w 7)) ||| (w 8))), .val (.int (xpk_5 + (1 : Int32))), .val (.int (xpk_2 + (8 : Int32))), .val (.int (xpk_2 + xpk_3)), .val (.int ((0 : Int32) ||| ((w 8) <<< ((0 : Int32) &&& 31)))), .val (.int (0 : Int32))]) rfl ?_
      refine Ow.iinc X28 hx (pc' := 68) (hb hby d_prog_14_method_18_65) rfl (l' := #[.val (.ref apk_1), .val (.int xpk_2), .val (.int xpk_3), .val (.ref apk_4), .val (.int xpk_5), .val (.int ((((((((((0 : Int32) ||| (w 0)) ||| (w 1)) ||| (w 2)) ||| (w 3)) ||| (w 4)) ||| (w 5)) ||| (w 6)) ||| (w 7)) ||| (w 8))), .val (.int (xpk_5 + (1 : Int32))), .val (.int (xpk_2 + (8 : Int32))), .val (.int (xpk_2 + xpk_3)), .val (.int ((0 : Int32) ||| ((w 8) <<< ((0 : Int32) &&& 31)))), .val (.int (1 : Int32))]) rfl ?_
      show Wq _ _ _ _ _ (T28.setTop (mkF m 68 #[.val (.ref apk_1), .val (.int xpk_2), .val (.int xpk_3), .val (.ref apk_4), .val (.int xpk_5), .val (.int ((((((((((0 : Int32) ||| (w 0)) ||| (w 1)) ||| (w 2)) ||| (w 3)) ||| (w 4)) ||| (w 5)) ||| (w 6)) ||| (w 7)) ||| (w 8))), .val (.int (xpk_5 + (1 : Int32))), .val (.int (xpk_2 + (8 : Int32))), .val (.int (xpk_2 + xpk_3)), .val (.int ((0 : Int32) ||| ((w 8) <<< ((0 : Int32) &&& 31)))), .val (.int (1 : Int32))] []))
      refine Ow.goto X28 hx (pc' := 31) (hb hby d_prog_14_method_18_68) (by decide) (by decide) ?_
      refine Ow.iload X28 hx (pc' := 33) (hb hby d_prog_14_method_18_31) rfl ?_
      refine Ow.bipush X28 hx (pc' := 35) (hb hby d_prog_14_method_18_33) (z := (8 : Int32)) rfl ?_
      refine Ow.icmpNo X28 hx (pc' := 38) (hb hby d_prog_14_method_18_35) (tlt (by decide : (1 : Int32) < (8 : Int32))).2.1 ?_
      refine Ow.iload X28 hx (pc' := 40) (hb hby d_prog_14_method_18_38) rfl ?_
      refine Ow.aloadN X28 hx (pc' := 41) (hb hby d_prog_14_method_18_40) rfl rfl ?_
      refine Ow.iload X28 hx (pc' := 43) (hb hby d_prog_14_method_18_41) rfl ?_
      refine Ow.iload X28 hx (pc' := 45) (hb hby d_prog_14_method_18_43) rfl ?_
      refine Ow.iadd X28 hx (pc' := 46) (hb hby d_prog_14_method_18_45) (z := ((xpk_2 + (8 : Int32)) + (1 : Int32))) rfl ?_
      refine Ow.ldI X28 hx hZ e28 V_apk_1_t28 (pc' := 47) (hb hby d_prog_14_method_18_46) (j := ((xpk_2 + (8 : Int32)) + (1 : Int32))) (i := (own_n xpk_2 + 9)) (v := (.int (w 9))) ((own_ix (m := 9) hbd.1 (own_ad hbd.1 (own_ad hbd.1 own_z0 8 8 (by decide) (by decide)) 1 1 (by decide) (by decide))).1) ((own_ix (m := 9) hbd.1 (own_ad hbd.1 (own_ad hbd.1 own_z0 8 8 (by decide) (by decide)) 1 1 (by decide) (by decide))).2) (hv _ (own_in (m := 9) hbd (by omega))) ?_
      refine Ow.ior X28 hx (pc' := 48) (hb hby d_prog_14_method_18_47) (z := (((((((((((0 : Int32) ||| (w 0)) ||| (w 1)) ||| (w 2)) ||| (w 3)) ||| (w 4)) ||| (w 5)) ||| (w 6)) ||| (w 7)) ||| (w 8)) ||| (w 9))) rfl ?_
      refine Ow.istore X28 hx (pc' := 50) (hb hby d_prog_14_method_18_48) (l' := #[.val (.ref apk_1), .val (.int xpk_2), .val (.int xpk_3), .val (.ref apk_4), .val (.int xpk_5), .val (.int (((((((((((0 : Int32) ||| (w 0)) ||| (w 1)) ||| (w 2)) ||| (w 3)) ||| (w 4)) ||| (w 5)) ||| (w 6)) ||| (w 7)) ||| (w 8)) ||| (w 9))), .val (.int (xpk_5 + (1 : Int32))), .val (.int (xpk_2 + (8 : Int32))), .val (.int (xpk_2 + xpk_3)), .val (.int ((0 : Int32) ||| ((w 8) <<< ((0 : Int32) &&& 31)))), .val (.int (1 : Int32))]) rfl ?_
      refine Ow.iload X28 hx (pc' := 52) (hb hby d_prog_14_method_18_50) rfl ?_
      refine Ow.aloadN X28 hx (pc' := 53) (hb hby d_prog_14_method_18_52) rfl rfl ?_
      refine Ow.iload X28 hx (pc' := 55) (hb hby d_prog_14_method_18_53) rfl ?_
      refine Ow.iload X28 hx (pc' := 57) (hb hby d_prog_14_method_18_55) rfl ?_
      refine Ow.iadd X28 hx (pc' := 58) (hb hby d_prog_14_method_18_57) (z := ((xpk_2 + (8 : Int32)) + (1 : Int32))) rfl ?_
      refine Ow.ldI X28 hx hZ e28 V_apk_1_t28 (pc' := 59) (hb hby d_prog_14_method_18_58) (j := ((xpk_2 + (8 : Int32)) + (1 : Int32))) (i := (own_n xpk_2 + 9)) (v := (.int (w 9))) ((own_ix (m := 9) hbd.1 (own_ad hbd.1 (own_ad hbd.1 own_z0 8 8 (by decide) (by decide)) 1 1 (by decide) (by decide))).1) ((own_ix (m := 9) hbd.1 (own_ad hbd.1 (own_ad hbd.1 own_z0 8 8 (by decide) (by decide)) 1 1 (by decide) (by decide))).2) (hv _ (own_in (m := 9) hbd (by omega))) ?_
      refine Ow.iload X28 hx (pc' := 61) (hb hby d_prog_14_method_18_59) rfl ?_
      refine Ow.ishl X28 hx (pc' := 62) (hb hby d_prog_14_method_18_61) (z := ((w 9) <<< ((1 : Int32) &&& 31))) rfl ?_
      refine Ow.ior X28 hx (pc' := 63) (hb hby d_prog_14_method_18_62) (z := (((0 : Int32) ||| ((w 8) <<< ((0 : Int32) &&& 31))) ||| ((w 9) <<< ((1 : Int32) &&& 31)))) rfl ?_
      refine Ow.istore X28 hx (pc' := 65) (hb hby d_prog_14_method_18_63) (l' := #[.val (.ref apk_1), .val (.int xpk_2), .val (.int xpk_3), .val (.ref apk_4), .val (.int xpk_5), .val (.int (((((((((((0 : Int32) ||| (w 0)) ||| (w 1)) ||| (w 2)) ||| (w 3)) ||| (w 4)) ||| (w 5)) ||| (w 6)) ||| (w 7)) ||| (w 8)) ||| (w 9))), .val (.int (xpk_5 + (1 : Int32))), .val (.int (xpk_2 + (8 : Int32))), .val (.int (xpk_2 + xpk_3)), .val (.int (((0 : Int32) ||| ((w 8) <<< ((0 : Int32) &&& 31))) ||| ((w 9) <<< ((1 : Int32) &&& 31)))), .val (.int (1 : Int32))]) rfl ?_
      refine Ow.iinc X28 hx (pc' := 68) (hb hby d_prog_14_method_18_65) rfl (l' := #[.val (.ref apk_1), .val (.int xpk_2), .val (.int xpk_3), .val (.ref apk_4), .val (.int xpk_5), .val (.int (((((((((((0 : Int32) ||| (w 0)) ||| (w 1)) ||| (w 2)) ||| (w 3)) ||| (w 4)) ||| (w 5)) ||| (w 6)) ||| (w 7)) ||| (w 8)) ||| (w 9))), .val (.int (xpk_5 + (1 : Int32))), .val (.int (xpk_2 + (8 : Int32))), .val (.int (xpk_2 + xpk_3)), .val (.int (((0 : Int32) ||| ((w 8) <<< ((0 : Int32) &&& 31))) ||| ((w 9) <<< ((1 : Int32) &&& 31)))), .val (.int (2 : Int32))]) rfl ?_
      show Wq _ _ _ _ _ (T28.setTop (mkF m 68 #[.val (.ref apk_1), .val (.int xpk_2), .val (.int xpk_3), .val (.ref apk_4), .val (.int xpk_5), .val (.int (((((((((((0 : Int32) ||| (w 0)) ||| (w 1)) ||| (w 2)) ||| (w 3)) ||| (w 4)) ||| (w 5)) ||| (w 6)) ||| (w 7)) ||| (w 8)) ||| (w 9))), .val (.int (xpk_5 + (1 : Int32))), .val (.int (xpk_2 + (8 : Int32))), .val (.int (xpk_2 + xpk_3)), .val (.int (((0 : Int32) ||| ((w 8) <<< ((0 : Int32) &&& 31))) ||| ((w 9) <<< ((1 : Int32) &&& 31)))), .val (.int (2 : Int32))] []))
      refine Ow.goto X28 hx (pc' := 31) (hb hby d_prog_14_method_18_68) (by decide) (by decide) ?_
      refine Ow.iload X28 hx (pc' := 33) (hb hby d_prog_14_method_18_31) rfl ?_
      refine Ow.bipush X28 hx (pc' := 35) (hb hby d_prog_14_method_18_33) (z := (8 : Int32)) rfl ?_
      refine Ow.icmpNo X28 hx (pc' := 38) (hb hby d_prog_14_method_18_35) (tlt (by decide : (2 : Int32) < (8 : Int32))).2.1 ?_
      refine Ow.iload X28 hx (pc' := 40) (hb hby d_prog_14_method_18_38) rfl ?_
      refine Ow.aloadN X28 hx (pc' := 41) (hb hby d_prog_14_method_18_40) rfl rfl ?_
      refine Ow.iload X28 hx (pc' := 43) (hb hby d_prog_14_method_18_41) rfl ?_
      refine Ow.iload X28 hx (pc' := 45) (hb hby d_prog_14_method_18_43) rfl ?_
      refine Ow.iadd X28 hx (pc' := 46) (hb hby d_prog_14_method_18_45) (z := ((xpk_2 + (8 : Int32)) + (2 : Int32))) rfl ?_
      refine Ow.ldI X28 hx hZ e28 V_apk_1_t28 (pc' := 47) (hb hby d_prog_14_method_18_46) (j := ((xpk_2 + (8 : Int32)) + (2 : Int32))) (i := (own_n xpk_2 + 10)) (v := (.int (w 10))) ((own_ix (m := 10) hbd.1 (own_ad hbd.1 (own_ad hbd.1 own_z0 8 8 (by decide) (by decide)) 2 2 (by decide) (by decide))).1) ((own_ix (m := 10) hbd.1 (own_ad hbd.1 (own_ad hbd.1 own_z0 8 8 (by decide) (by decide)) 2 2 (by decide) (by decide))).2) (hv _ (own_in (m := 10) hbd (by omega))) ?_
      refine Ow.ior X28 hx (pc' := 48) (hb hby d_prog_14_method_18_47) (z := ((((((((((((0 : Int32) ||| (w 0)) ||| (w 1)) ||| (w 2)) ||| (w 3)) ||| (w 4)) ||| (w 5)) ||| (w 6)) ||| (w 7)) ||| (w 8)) ||| (w 9)) ||| (w 10))) rfl ?_
      refine Ow.istore X28 hx (pc' := 50) (hb hby d_prog_14_method_18_48) (l' := #[.val (.ref apk_1), .val (.int xpk_2), .val (.int xpk_3), .val (.ref apk_4), .val (.int xpk_5), .val (.int ((((((((((((0 : Int32) ||| (w 0)) ||| (w 1)) ||| (w 2)) ||| (w 3)) ||| (w 4)) ||| (w 5)) ||| (w 6)) ||| (w 7)) ||| (w 8)) ||| (w 9)) ||| (w 10))), .val (.int (xpk_5 + (1 : Int32))), .val (.int (xpk_2 + (8 : Int32))), .val (.int (xpk_2 + xpk_3)), .val (.int (((0 : Int32) ||| ((w 8) <<< ((0 : Int32) &&& 31))) ||| ((w 9) <<< ((1 : Int32) &&& 31)))), .val (.int (2 : Int32))]) rfl ?_
      refine Ow.iload X28 hx (pc' := 52) (hb hby d_prog_14_method_18_50) rfl ?_
      refine Ow.aloadN X28 hx (pc' := 53) (hb hby d_prog_14_method_18_52) rfl rfl ?_
      refine Ow.iload X28 hx (pc' := 55) (hb hby d_prog_14_method_18_53) rfl ?_
      refine Ow.iload X28 hx (pc' := 57) (hb hby d_prog_14_method_18_55) rfl ?_
      refine Ow.iadd X28 hx (pc' := 58) (hb hby d_prog_14_method_18_57) (z := ((xpk_2 + (8 : Int32)) + (2 : Int32))) rfl ?_
      refine Ow.ldI X28 hx hZ e28 V_apk_1_t28 (pc' := 59) (hb hby d_prog_14_method_18_58) (j := ((xpk_2 + (8 : Int32)) + (2 : Int32))) (i := (own_n xpk_2 + 10)) (v := (.int (w 10))) ((own_ix (m := 10) hbd.1 (own_ad hbd.1 (own_ad hbd.1 own_z0 8 8 (by decide) (by decide)) 2 2 (by decide) (by decide))).1) ((own_ix (m := 10) hbd.1 (own_ad hbd.1 (own_ad hbd.1 own_z0 8 8 (by decide) (by decide)) 2 2 (by decide) (by decide))).2) (hv _ (own_in (m := 10) hbd (by omega))) ?_
      refine Ow.iload X28 hx (pc' := 61) (hb hby d_prog_14_method_18_59) rfl ?_
      refine Ow.ishl X28 hx (pc' := 62) (hb hby d_prog_14_method_18_61) (z := ((w 10) <<< ((2 : Int32) &&& 31))) rfl ?_
      refine Ow.ior X28 hx (pc' := 63) (hb hby d_prog_14_method_18_62) (z := ((((0 : Int32) ||| ((w 8) <<< ((0 : Int32) &&& 31))) ||| ((w 9) <<< ((1 : Int32) &&& 31))) ||| ((w 10) <<< ((2 : Int32) &&& 31)))) rfl ?_
      refine Ow.istore X28 hx (pc' := 65) (hb hby d_prog_14_method_18_63) (l' := #[.val (.ref apk_1), .val (.int xpk_2), .val (.int xpk_3), .val (.ref apk_4), .val (.int xpk_5), .val (.int ((((((((((((0 : Int32) ||| (w 0)) ||| (w 1)) ||| (w 2)) ||| (w 3)) ||| (w 4)) ||| (w 5)) ||| (w 6)) ||| (w 7)) ||| (w 8)) ||| (w 9)) ||| (w 10))), .val (.int (xpk_5 + (1 : Int32))), .val (.int (xpk_2 + (8 : Int32))), .val (.int (xpk_2 + xpk_3)), .val (.int ((((0 : Int32) ||| ((w 8) <<< ((0 : Int32) &&& 31))) ||| ((w 9) <<< ((1 : Int32) &&& 31))) ||| ((w 10) <<< ((2 : Int32) &&& 31)))), .val (.int (2 : Int32))]) rfl ?_
      refine Ow.iinc X28 hx (pc' := 68) (hb hby d_prog_14_method_18_65) rfl (l' := #[.val (.ref apk_1), .val (.int xpk_2), .val (.int xpk_3), .val (.ref apk_4), .val (.int xpk_5), .val (.int ((((((((((((0 : Int32) ||| (w 0)) ||| (w 1)) ||| (w 2)) ||| (w 3)) ||| (w 4)) ||| (w 5)) ||| (w 6)) ||| (w 7)) ||| (w 8)) ||| (w 9)) ||| (w 10))), .val (.int (xpk_5 + (1 : Int32))), .val (.int (xpk_2 + (8 : Int32))), .val (.int (xpk_2 + xpk_3)), .val (.int ((((0 : Int32) ||| ((w 8) <<< ((0 : Int32) &&& 31))) ||| ((w 9) <<< ((1 : Int32) &&& 31))) ||| ((w 10) <<< ((2 : Int32) &&& 31)))), .val (.int (3 : Int32))]) rfl ?_
      show Wq _ _ _ _ _ (T28.setTop (mkF m 68 #[.val (.ref apk_1), .val (.int xpk_2), .val (.int xpk_3), .val (.ref apk_4), .val (.int xpk_5), .val (.int ((((((((((((0 : Int32) ||| (w 0)) ||| (w 1)) ||| (w 2)) ||| (w 3)) ||| (w 4)) ||| (w 5)) ||| (w 6)) ||| (w 7)) ||| (w 8)) ||| (w 9)) ||| (w 10))), .val (.int (xpk_5 + (1 : Int32))), .val (.int (xpk_2 + (8 : Int32))), .val (.int (xpk_2 + xpk_3)), .val (.int ((((0 : Int32) ||| ((w 8) <<< ((0 : Int32) &&& 31))) ||| ((w 9) <<< ((1 : Int32) &&& 31))) ||| ((w 10) <<< ((2 : Int32) &&& 31)))), .val (.int (3 : Int32))] []))
      refine Ow.goto X28 hx (pc' := 31) (hb hby d_prog_14_method_18_68) (by decide) (by decide) ?_
      refine Ow.iload X28 hx (pc' := 33) (hb hby d_prog_14_method_18_31) rfl ?_
      refine Ow.bipush X28 hx (pc' := 35) (hb hby d_prog_14_method_18_33) (z := (8 : Int32)) rfl ?_
      refine Ow.icmpNo X28 hx (pc' := 38) (hb hby d_prog_14_method_18_35) (tlt (by decide : (3 : Int32) < (8 : Int32))).2.1 ?_
      refine Ow.iload X28 hx (pc' := 40) (hb hby d_prog_14_method_18_38) rfl ?_
      refine Ow.aloadN X28 hx (pc' := 41) (hb hby d_prog_14_method_18_40) rfl rfl ?_
      refine Ow.iload X28 hx (pc' := 43) (hb hby d_prog_14_method_18_41) rfl ?_
      refine Ow.iload X28 hx (pc' := 45) (hb hby d_prog_14_method_18_43) rfl ?_
      refine Ow.iadd X28 hx (pc' := 46) (hb hby d_prog_14_method_18_45) (z := ((xpk_2 + (8 : Int32)) + (3 : Int32))) rfl ?_
      refine Ow.ldI X28 hx hZ e28 V_apk_1_t28 (pc' := 47) (hb hby d_prog_14_method_18_46) (j := ((xpk_2 + (8 : Int32)) + (3 : Int32))) (i := (own_n xpk_2 + 11)) (v := (.int (w 11))) ((own_ix (m := 11) hbd.1 (own_ad hbd.1 (own_ad hbd.1 own_z0 8 8 (by decide) (by decide)) 3 3 (by decide) (by decide))).1) ((own_ix (m := 11) hbd.1 (own_ad hbd.1 (own_ad hbd.1 own_z0 8 8 (by decide) (by decide)) 3 3 (by decide) (by decide))).2) (hv _ (own_in (m := 11) hbd (by omega))) ?_
      refine Ow.ior X28 hx (pc' := 48) (hb hby d_prog_14_method_18_47) (z := (((((((((((((0 : Int32) ||| (w 0)) ||| (w 1)) ||| (w 2)) ||| (w 3)) ||| (w 4)) ||| (w 5)) ||| (w 6)) ||| (w 7)) ||| (w 8)) ||| (w 9)) ||| (w 10)) ||| (w 11))) rfl ?_
      refine Ow.istore X28 hx (pc' := 50) (hb hby d_prog_14_method_18_48) (l' := #[.val (.ref apk_1), .val (.int xpk_2), .val (.int xpk_3), .val (.ref apk_4), .val (.int xpk_5), .val (.int (((((((((((((0 : Int32) ||| (w 0)) ||| (w 1)) ||| (w 2)) ||| (w 3)) ||| (w 4)) ||| (w 5)) ||| (w 6)) ||| (w 7)) ||| (w 8)) ||| (w 9)) ||| (w 10)) ||| (w 11))), .val (.int (xpk_5 + (1 : Int32))), .val (.int (xpk_2 + (8 : Int32))), .val (.int (xpk_2 + xpk_3)), .val (.int ((((0 : Int32) ||| ((w 8) <<< ((0 : Int32) &&& 31))) ||| ((w 9) <<< ((1 : Int32) &&& 31))) ||| ((w 10) <<< ((2 : Int32) &&& 31)))), .val (.int (3 : Int32))]) rfl ?_
      refine Ow.iload X28 hx (pc' := 52) (hb hby d_prog_14_method_18_50) rfl ?_
      refine Ow.aloadN X28 hx (pc' := 53) (hb hby d_prog_14_method_18_52) rfl rfl ?_
      refine Ow.iload X28 hx (pc' := 55) (hb hby d_prog_14_method_18_53) rfl ?_
      refine Ow.iload X28 hx (pc' := 57) (hb hby d_prog_14_method_18_55) rfl ?_
      refine Ow.iadd X28 hx (pc' := 58) (hb hby d_prog_14_method_18_57) (z := ((xpk_2 + (8 : Int32)) + (3 : Int32))) rfl ?_
      refine Ow.ldI X28 hx hZ e28 V_apk_1_t28 (pc' := 59) (hb hby d_prog_14_method_18_58) (j := ((xpk_2 + (8 : Int32)) + (3 : Int32))) (i := (own_n xpk_2 + 11)) (v := (.int (w 11))) ((own_ix (m := 11) hbd.1 (own_ad hbd.1 (own_ad hbd.1 own_z0 8 8 (by decide) (by decide)) 3 3 (by decide) (by decide))).1) ((own_ix (m := 11) hbd.1 (own_ad hbd.1 (own_ad hbd.1 own_z0 8 8 (by decide) (by decide)) 3 3 (by decide) (by decide))).2) (hv _ (own_in (m := 11) hbd (by omega))) ?_
      refine Ow.iload X28 hx (pc' := 61) (hb hby d_prog_14_method_18_59) rfl ?_
      refine Ow.ishl X28 hx (pc' := 62) (hb hby d_prog_14_method_18_61) (z := ((w 11) <<< ((3 : Int32) &&& 31))) rfl ?_
      refine Ow.ior X28 hx (pc' := 63) (hb hby d_prog_14_method_18_62) (z := (((((0 : Int32) ||| ((w 8) <<< ((0 : Int32) &&& 31))) ||| ((w 9) <<< ((1 : Int32) &&& 31))) ||| ((w 10) <<< ((2 : Int32) &&& 31))) ||| ((w 11) <<< ((3 : Int32) &&& 31)))) rfl ?_
      refine Ow.istore X28 hx (pc' := 65) (hb hby d_prog_14_method_18_63) (l' := #[.val (.ref apk_1), .val (.int xpk_2), .val (.int xpk_3), .val (.ref apk_4), .val (.int xpk_5), .val (.int (((((((((((((0 : Int32) ||| (w 0)) ||| (w 1)) ||| (w 2)) ||| (w 3)) ||| (w 4)) ||| (w 5)) ||| (w 6)) ||| (w 7)) ||| (w 8)) ||| (w 9)) ||| (w 10)) ||| (w 11))), .val (.int (xpk_5 + (1 : Int32))), .val (.int (xpk_2 + (8 : Int32))), .val (.int (xpk_2 + xpk_3)), .val (.int (((((0 : Int32) ||| ((w 8) <<< ((0 : Int32) &&& 31))) ||| ((w 9) <<< ((1 : Int32) &&& 31))) ||| ((w 10) <<< ((2 : Int32) &&& 31))) ||| ((w 11) <<< ((3 : Int32) &&& 31)))), .val (.int (3 : Int32))]) rfl ?_
      refine Ow.iinc X28 hx (pc' := 68) (hb hby d_prog_14_method_18_65) rfl (l' := #[.val (.ref apk_1), .val (.int xpk_2), .val (.int xpk_3), .val (.ref apk_4), .val (.int xpk_5), .val (.int (((((((((((((0 : Int32) ||| (w 0)) ||| (w 1)) ||| (w 2)) ||| (w 3)) ||| (w 4)) ||| (w 5)) ||| (w 6)) ||| (w 7)) ||| (w 8)) ||| (w 9)) ||| (w 10)) ||| (w 11))), .val (.int (xpk_5 + (1 : Int32))), .val (.int (xpk_2 + (8 : Int32))), .val (.int (xpk_2 + xpk_3)), .val (.int (((((0 : Int32) ||| ((w 8) <<< ((0 : Int32) &&& 31))) ||| ((w 9) <<< ((1 : Int32) &&& 31))) ||| ((w 10) <<< ((2 : Int32) &&& 31))) ||| ((w 11) <<< ((3 : Int32) &&& 31)))), .val (.int (4 : Int32))]) rfl ?_
      show Wq _ _ _ _ _ (T28.setTop (mkF m 68 #[.val (.ref apk_1), .val (.int xpk_2), .val (.int xpk_3), .val (.ref apk_4), .val (.int xpk_5), .val (.int (((((((((((((0 : Int32) ||| (w 0)) ||| (w 1)) ||| (w 2)) ||| (w 3)) ||| (w 4)) ||| (w 5)) ||| (w 6)) ||| (w 7)) ||| (w 8)) ||| (w 9)) ||| (w 10)) ||| (w 11))), .val (.int (xpk_5 + (1 : Int32))), .val (.int (xpk_2 + (8 : Int32))), .val (.int (xpk_2 + xpk_3)), .val (.int (((((0 : Int32) ||| ((w 8) <<< ((0 : Int32) &&& 31))) ||| ((w 9) <<< ((1 : Int32) &&& 31))) ||| ((w 10) <<< ((2 : Int32) &&& 31))) ||| ((w 11) <<< ((3 : Int32) &&& 31)))), .val (.int (4 : Int32))] []))
      refine Ow.goto X28 hx (pc' := 31) (hb hby d_prog_14_method_18_68) (by decide) (by decide) ?_
      refine Ow.iload X28 hx (pc' := 33) (hb hby d_prog_14_method_18_31) rfl ?_
      refine Ow.bipush X28 hx (pc' := 35) (hb hby d_prog_14_method_18_33) (z := (8 : Int32)) rfl ?_
      refine Ow.icmpNo X28 hx (pc' := 38) (hb hby d_prog_14_method_18_35) (tlt (by decide : (4 : Int32) < (8 : Int32))).2.1 ?_
      refine Ow.iload X28 hx (pc' := 40) (hb hby d_prog_14_method_18_38) rfl ?_
      refine Ow.aloadN X28 hx (pc' := 41) (hb hby d_prog_14_method_18_40) rfl rfl ?_
      refine Ow.iload X28 hx (pc' := 43) (hb hby d_prog_14_method_18_41) rfl ?_
      refine Ow.iload X28 hx (pc' := 45) (hb hby d_prog_14_method_18_43) rfl ?_
      refine Ow.iadd X28 hx (pc' := 46) (hb hby d_prog_14_method_18_45) (z := ((xpk_2 + (8 : Int32)) + (4 : Int32))) rfl ?_
      refine Ow.ldI X28 hx hZ e28 V_apk_1_t28 (pc' := 47) (hb hby d_prog_14_method_18_46) (j := ((xpk_2 + (8 : Int32)) + (4 : Int32))) (i := (own_n xpk_2 + 12)) (v := (.int (w 12))) ((own_ix (m := 12) hbd.1 (own_ad hbd.1 (own_ad hbd.1 own_z0 8 8 (by decide) (by decide)) 4 4 (by decide) (by decide))).1) ((own_ix (m := 12) hbd.1 (own_ad hbd.1 (own_ad hbd.1 own_z0 8 8 (by decide) (by decide)) 4 4 (by decide) (by decide))).2) (hv _ (own_in (m := 12) hbd (by omega))) ?_
      refine Ow.ior X28 hx (pc' := 48) (hb hby d_prog_14_method_18_47) (z := ((((((((((((((0 : Int32) ||| (w 0)) ||| (w 1)) ||| (w 2)) ||| (w 3)) ||| (w 4)) ||| (w 5)) ||| (w 6)) ||| (w 7)) ||| (w 8)) ||| (w 9)) ||| (w 10)) ||| (w 11)) ||| (w 12))) rfl ?_
      refine Ow.istore X28 hx (pc' := 50) (hb hby d_prog_14_method_18_48) (l' := #[.val (.ref apk_1), .val (.int xpk_2), .val (.int xpk_3), .val (.ref apk_4), .val (.int xpk_5), .val (.int ((((((((((((((0 : Int32) ||| (w 0)) ||| (w 1)) ||| (w 2)) ||| (w 3)) ||| (w 4)) ||| (w 5)) ||| (w 6)) ||| (w 7)) ||| (w 8)) ||| (w 9)) ||| (w 10)) ||| (w 11)) ||| (w 12))), .val (.int (xpk_5 + (1 : Int32))), .val (.int (xpk_2 + (8 : Int32))), .val (.int (xpk_2 + xpk_3)), .val (.int (((((0 : Int32) ||| ((w 8) <<< ((0 : Int32) &&& 31))) ||| ((w 9) <<< ((1 : Int32) &&& 31))) ||| ((w 10) <<< ((2 : Int32) &&& 31))) ||| ((w 11) <<< ((3 : Int32) &&& 31)))), .val (.int (4 : Int32))]) rfl ?_
      refine Ow.iload X28 hx (pc' := 52) (hb hby d_prog_14_method_18_50) rfl ?_
      refine Ow.aloadN X28 hx (pc' := 53) (hb hby d_prog_14_method_18_52) rfl rfl ?_
      refine Ow.iload X28 hx (pc' := 55) (hb hby d_prog_14_method_18_53) rfl ?_
      refine Ow.iload X28 hx (pc' := 57) (hb hby d_prog_14_method_18_55) rfl ?_
      refine Ow.iadd X28 hx (pc' := 58) (hb hby d_prog_14_method_18_57) (z := ((xpk_2 + (8 : Int32)) + (4 : Int32))) rfl ?_
      refine Ow.ldI X28 hx hZ e28 V_apk_1_t28 (pc' := 59) (hb hby d_prog_14_method_18_58) (j := ((xpk_2 + (8 : Int32)) + (4 : Int32))) (i := (own_n xpk_2 + 12)) (v := (.int (w 12))) ((own_ix (m := 12) hbd.1 (own_ad hbd.1 (own_ad hbd.1 own_z0 8 8 (by decide) (by decide)) 4 4 (by decide) (by decide))).1) ((own_ix (m := 12) hbd.1 (own_ad hbd.1 (own_ad hbd.1 own_z0 8 8 (by decide) (by decide)) 4 4 (by decide) (by decide))).2) (hv _ (own_in (m := 12) hbd (by omega))) ?_
      refine Ow.iload X28 hx (pc' := 61) (hb hby d_prog_14_method_18_59) rfl ?_
      refine Ow.ishl X28 hx (pc' := 62) (hb hby d_prog_14_method_18_61) (z := ((w 12) <<< ((4 : Int32) &&& 31))) rfl ?_
      refine Ow.ior X28 hx (pc' := 63) (hb hby d_prog_14_method_18_62) (z := ((((((0 : Int32) ||| ((w 8) <<< ((0 : Int32) &&& 31))) ||| ((w 9) <<< ((1 : Int32) &&& 31))) ||| ((w 10) <<< ((2 : Int32) &&& 31))) ||| ((w 11) <<< ((3 : Int32) &&& 31))) ||| ((w 12) <<< ((4 : Int32) &&& 31)))) rfl ?_
      refine Ow.istore X28 hx (pc' := 65) (hb hby d_prog_14_method_18_63) (l' := #[.val (.ref apk_1), .val (.int xpk_2), .val (.int xpk_3), .val (.ref apk_4), .val (.int xpk_5), .val (.int ((((((((((((((0 : Int32) ||| (w 0)) ||| (w 1)) ||| (w 2)) ||| (w 3)) ||| (w 4)) ||| (w 5)) ||| (w 6)) ||| (w 7)) ||| (w 8)) ||| (w 9)) ||| (w 10)) ||| (w 11)) ||| (w 12))), .val (.int (xpk_5 + (1 : Int32))), .val (.int (xpk_2 + (8 : Int32))), .val (.int (xpk_2 + xpk_3)), .val (.int ((((((0 : Int32) ||| ((w 8) <<< ((0 : Int32) &&& 31))) ||| ((w 9) <<< ((1 : Int32) &&& 31))) ||| ((w 10) <<< ((2 : Int32) &&& 31))) ||| ((w 11) <<< ((3 : Int32) &&& 31))) ||| ((w 12) <<< ((4 : Int32) &&& 31)))), .val (.int (4 : Int32))]) rfl ?_
      refine Ow.iinc X28 hx (pc' := 68) (hb hby d_prog_14_method_18_65) rfl (l' := #[.val (.ref apk_1), .val (.int xpk_2), .val (.int xpk_3), .val (.ref apk_4), .val (.int xpk_5), .val (.int ((((((((((((((0 : Int32) ||| (w 0)) ||| (w 1)) ||| (w 2)) ||| (w 3)) ||| (w 4)) ||| (w 5)) ||| (w 6)) ||| (w 7)) ||| (w 8)) ||| (w 9)) ||| (w 10)) ||| (w 11)) ||| (w 12))), .val (.int (xpk_5 + (1 : Int32))), .val (.int (xpk_2 + (8 : Int32))), .val (.int (xpk_2 + xpk_3)), .val (.int ((((((0 : Int32) ||| ((w 8) <<< ((0 : Int32) &&& 31))) ||| ((w 9) <<< ((1 : Int32) &&& 31))) ||| ((w 10) <<< ((2 : Int32) &&& 31))) ||| ((w 11) <<< ((3 : Int32) &&& 31))) ||| ((w 12) <<< ((4 : Int32) &&& 31)))), .val (.int (5 : Int32))]) rfl ?_
      show Wq _ _ _ _ _ (T28.setTop (mkF m 68 #[.val (.ref apk_1), .val (.int xpk_2), .val (.int xpk_3), .val (.ref apk_4), .val (.int xpk_5), .val (.int ((((((((((((((0 : Int32) ||| (w 0)) ||| (w 1)) ||| (w 2)) ||| (w 3)) ||| (w 4)) ||| (w 5)) ||| (w 6)) ||| (w 7)) ||| (w 8)) ||| (w 9)) ||| (w 10)) ||| (w 11)) ||| (w 12))), .val (.int (xpk_5 + (1 : Int32))), .val (.int (xpk_2 + (8 : Int32))), .val (.int (xpk_2 + xpk_3)), .val (.int ((((((0 : Int32) ||| ((w 8) <<< ((0 : Int32) &&& 31))) ||| ((w 9) <<< ((1 : Int32) &&& 31))) ||| ((w 10) <<< ((2 : Int32) &&& 31))) ||| ((w 11) <<< ((3 : Int32) &&& 31))) ||| ((w 12) <<< ((4 : Int32) &&& 31)))), .val (.int (5 : Int32))] []))
      refine Ow.goto X28 hx (pc' := 31) (hb hby d_prog_14_method_18_68) (by decide) (by decide) ?_
      refine Ow.iload X28 hx (pc' := 33) (hb hby d_prog_14_method_18_31) rfl ?_
      refine Ow.bipush X28 hx (pc' := 35) (hb hby d_prog_14_method_18_33) (z := (8 : Int32)) rfl ?_
      refine Ow.icmpNo X28 hx (pc' := 38) (hb hby d_prog_14_method_18_35) (tlt (by decide : (5 : Int32) < (8 : Int32))).2.1 ?_
      refine Ow.iload X28 hx (pc' := 40) (hb hby d_prog_14_method_18_38) rfl ?_
      refine Ow.aloadN X28 hx (pc' := 41) (hb hby d_prog_14_method_18_40) rfl rfl ?_
      refine Ow.iload X28 hx (pc' := 43) (hb hby d_prog_14_method_18_41) rfl ?_
      refine Ow.iload X28 hx (pc' := 45) (hb hby d_prog_14_method_18_43) rfl ?_
      refine Ow.iadd X28 hx (pc' := 46) (hb hby d_prog_14_method_18_45) (z := ((xpk_2 + (8 : Int32)) + (5 : Int32))) rfl ?_
      refine Ow.ldI X28 hx hZ e28 V_apk_1_t28 (pc' := 47) (hb hby d_prog_14_method_18_46) (j := ((xpk_2 + (8 : Int32)) + (5 : Int32))) (i := (own_n xpk_2 + 13)) (v := (.int (w 13))) ((own_ix (m := 13) hbd.1 (own_ad hbd.1 (own_ad hbd.1 own_z0 8 8 (by decide) (by decide)) 5 5 (by decide) (by decide))).1) ((own_ix (m := 13) hbd.1 (own_ad hbd.1 (own_ad hbd.1 own_z0 8 8 (by decide) (by decide)) 5 5 (by decide) (by decide))).2) (hv _ (own_in (m := 13) hbd (by omega))) ?_
      refine Ow.ior X28 hx (pc' := 48) (hb hby d_prog_14_method_18_47) (z := (((((((((((((((0 : Int32) ||| (w 0)) ||| (w 1)) ||| (w 2)) ||| (w 3)) ||| (w 4)) ||| (w 5)) ||| (w 6)) ||| (w 7)) ||| (w 8)) ||| (w 9)) ||| (w 10)) ||| (w 11)) ||| (w 12)) ||| (w 13))) rfl ?_
      refine Ow.istore X28 hx (pc' := 50) (hb hby d_prog_14_method_18_48) (l' := #[.val (.ref apk_1), .val (.int xpk_2), .val (.int xpk_3), .val (.ref apk_4), .val (.int xpk_5), .val (.int (((((((((((((((0 : Int32) ||| (w 0)) ||| (w 1)) ||| (w 2)) ||| (w 3)) ||| (w 4)) ||| (w 5)) ||| (w 6)) ||| (w 7)) ||| (w 8)) ||| (w 9)) ||| (w 10)) ||| (w 11)) ||| (w 12)) ||| (w 13))), .val (.int (xpk_5 + (1 : Int32))), .val (.int (xpk_2 + (8 : Int32))), .val (.int (xpk_2 + xpk_3)), .val (.int ((((((0 : Int32) ||| ((w 8) <<< ((0 : Int32) &&& 31))) ||| ((w 9) <<< ((1 : Int32) &&& 31))) ||| ((w 10) <<< ((2 : Int32) &&& 31))) ||| ((w 11) <<< ((3 : Int32) &&& 31))) ||| ((w 12) <<< ((4 : Int32) &&& 31)))), .val (.int (5 : Int32))]) rfl ?_
      refine Ow.iload X28 hx (pc' := 52) (hb hby d_prog_14_method_18_50) rfl ?_
      refine Ow.aloadN X28 hx (pc' := 53) (hb hby d_prog_14_method_18_52) rfl rfl ?_
      refine Ow.iload X28 hx (pc' := 55) (hb hby d_prog_14_method_18_53) rfl ?_
      refine Ow.iload X28 hx (pc' := 57) (hb hby d_prog_14_method_18_55) rfl ?_
      refine Ow.iadd X28 hx (pc' := 58) (hb hby d_prog_14_method_18_57) (z := ((xpk_2 + (8 : Int32)) + (5 : Int32))) rfl ?_
      refine Ow.ldI X28 hx hZ e28 V_apk_1_t28 (pc' := 59) (hb hby d_prog_14_method_18_58) (j := ((xpk_2 + (8 : Int32)) + (5 : Int32))) (i := (own_n xpk_2 + 13)) (v := (.int (w 13))) ((own_ix (m := 13) hbd.1 (own_ad hbd.1 (own_ad hbd.1 own_z0 8 8 (by decide) (by decide)) 5 5 (by decide) (by decide))).1) ((own_ix (m := 13) hbd.1 (own_ad hbd.1 (own_ad hbd.1 own_z0 8 8 (by decide) (by decide)) 5 5 (by decide) (by decide))).2) (hv _ (own_in (m := 13) hbd (by omega))) ?_
      refine Ow.iload X28 hx (pc' := 61) (hb hby d_prog_14_method_18_59) rfl ?_
      refine Ow.ishl X28 hx (pc' := 62) (hb hby d_prog_14_method_18_61) (z := ((w 13) <<< ((5 : Int32) &&& 31))) rfl ?_
      refine Ow.ior X28 hx (pc' := 63) (hb hby d_prog_14_method_18_62) (z := (((((((0 : Int32) ||| ((w 8) <<< ((0 : Int32) &&& 31))) ||| ((w 9) <<< ((1 : Int32) &&& 31))) ||| ((w 10) <<< ((2 : Int32) &&& 31))) ||| ((w 11) <<< ((3 : Int32) &&& 31))) ||| ((w 12) <<< ((4 : Int32) &&& 31))) ||| ((w 13) <<< ((5 : Int32) &&& 31)))) rfl ?_
      refine Ow.istore X28 hx (pc' := 65) (hb hby d_prog_14_method_18_63) (l' := #[.val (.ref apk_1), .val (.int xpk_2), .val (.int xpk_3), .val (.ref apk_4), .val (.int xpk_5), .val (.int (((((((((((((((0 : Int32) ||| (w 0)) ||| (w 1)) ||| (w 2)) ||| (w 3)) ||| (w 4)) ||| (w 5)) ||| (w 6)) ||| (w 7)) ||| (w 8)) ||| (w 9)) ||| (w 10)) ||| (w 11)) ||| (w 12)) ||| (w 13))), .val (.int (xpk_5 + (1 : Int32))), .val (.int (xpk_2 + (8 : Int32))), .val (.int (xpk_2 + xpk_3)), .val (.int (((((((0 : Int32) ||| ((w 8) <<< ((0 : Int32) &&& 31))) ||| ((w 9) <<< ((1 : Int32) &&& 31))) ||| ((w 10) <<< ((2 : Int32) &&& 31))) ||| ((w 11) <<< ((3 : Int32) &&& 31))) ||| ((w 12) <<< ((4 : Int32) &&& 31))) ||| ((w 13) <<< ((5 : Int32) &&& 31)))), .val (.int (5 : Int32))]) rfl ?_
      refine Ow.iinc X28 hx (pc' := 68) (hb hby d_prog_14_method_18_65) rfl (l' := #[.val (.ref apk_1), .val (.int xpk_2), .val (.int xpk_3), .val (.ref apk_4), .val (.int xpk_5), .val (.int (((((((((((((((0 : Int32) ||| (w 0)) ||| (w 1)) ||| (w 2)) ||| (w 3)) ||| (w 4)) ||| (w 5)) ||| (w 6)) ||| (w 7)) ||| (w 8)) ||| (w 9)) ||| (w 10)) ||| (w 11)) ||| (w 12)) ||| (w 13))), .val (.int (xpk_5 + (1 : Int32))), .val (.int (xpk_2 + (8 : Int32))), .val (.int (xpk_2 + xpk_3)), .val (.int (((((((0 : Int32) ||| ((w 8) <<< ((0 : Int32) &&& 31))) ||| ((w 9) <<< ((1 : Int32) &&& 31))) ||| ((w 10) <<< ((2 : Int32) &&& 31))) ||| ((w 11) <<< ((3 : Int32) &&& 31))) ||| ((w 12) <<< ((4 : Int32) &&& 31))) ||| ((w 13) <<< ((5 : Int32) &&& 31)))), .val (.int (6 : Int32))]) rfl ?_
      show Wq _ _ _ _ _ (T28.setTop (mkF m 68 #[.val (.ref apk_1), .val (.int xpk_2), .val (.int xpk_3), .val (.ref apk_4), .val (.int xpk_5), .val (.int (((((((((((((((0 : Int32) ||| (w 0)) ||| (w 1)) ||| (w 2)) ||| (w 3)) ||| (w 4)) ||| (w 5)) ||| (w 6)) ||| (w 7)) ||| (w 8)) ||| (w 9)) ||| (w 10)) ||| (w 11)) ||| (w 12)) ||| (w 13))), .val (.int (xpk_5 + (1 : Int32))), .val (.int (xpk_2 + (8 : Int32))), .val (.int (xpk_2 + xpk_3)), .val (.int (((((((0 : Int32) ||| ((w 8) <<< ((0 : Int32) &&& 31))) ||| ((w 9) <<< ((1 : Int32) &&& 31))) ||| ((w 10) <<< ((2 : Int32) &&& 31))) ||| ((w 11) <<< ((3 : Int32) &&& 31))) ||| ((w 12) <<< ((4 : Int32) &&& 31))) ||| ((w 13) <<< ((5 : Int32) &&& 31)))), .val (.int (6 : Int32))] []))
      refine Ow.goto X28 hx (pc' := 31) (hb hby d_prog_14_method_18_68) (by decide) (by decide) ?_
      refine Ow.iload X28 hx (pc' := 33) (hb hby d_prog_14_method_18_31) rfl ?_
      refine Ow.bipush X28 hx (pc' := 35) (hb hby d_prog_14_method_18_33) (z := (8 : Int32)) rfl ?_
      refine Ow.icmpNo X28 hx (pc' := 38) (hb hby d_prog_14_method_18_35) (tlt (by decide : (6 : Int32) < (8 : Int32))).2.1 ?_
      refine Ow.iload X28 hx (pc' := 40) (hb hby d_prog_14_method_18_38) rfl ?_
      refine Ow.aloadN X28 hx (pc' := 41) (hb hby d_prog_14_method_18_40) rfl rfl ?_
      refine Ow.iload X28 hx (pc' := 43) (hb hby d_prog_14_method_18_41) rfl ?_
      refine Ow.iload X28 hx (pc' := 45) (hb hby d_prog_14_method_18_43) rfl ?_
      refine Ow.iadd X28 hx (pc' := 46) (hb hby d_prog_14_method_18_45) (z := ((xpk_2 + (8 : Int32)) + (6 : Int32))) rfl ?_
      refine Ow.ldI X28 hx hZ e28 V_apk_1_t28 (pc' := 47) (hb hby d_prog_14_method_18_46) (j := ((xpk_2 + (8 : Int32)) + (6 : Int32))) (i := (own_n xpk_2 + 14)) (v := (.int (w 14))) ((own_ix (m := 14) hbd.1 (own_ad hbd.1 (own_ad hbd.1 own_z0 8 8 (by decide) (by decide)) 6 6 (by decide) (by decide))).1) ((own_ix (m := 14) hbd.1 (own_ad hbd.1 (own_ad hbd.1 own_z0 8 8 (by decide) (by decide)) 6 6 (by decide) (by decide))).2) (hv _ (own_in (m := 14) hbd (by omega))) ?_
      refine Ow.ior X28 hx (pc' := 48) (hb hby d_prog_14_method_18_47) (z := ((((((((((((((((0 : Int32) ||| (w 0)) ||| (w 1)) ||| (w 2)) ||| (w 3)) ||| (w 4)) ||| (w 5)) ||| (w 6)) ||| (w 7)) ||| (w 8)) ||| (w 9)) ||| (w 10)) ||| (w 11)) ||| (w 12)) ||| (w 13)) ||| (w 14))) rfl ?_
      refine Ow.istore X28 hx (pc' := 50) (hb hby d_prog_14_method_18_48) (l' := #[.val (.ref apk_1), .val (.int xpk_2), .val (.int xpk_3), .val (.ref apk_4), .val (.int xpk_5), .val (.int ((((((((((((((((0 : Int32) ||| (w 0)) ||| (w 1)) ||| (w 2)) ||| (w 3)) ||| (w 4)) ||| (w 5)) ||| (w 6)) ||| (w 7)) ||| (w 8)) ||| (w 9)) ||| (w 10)) ||| (w 11)) ||| (w 12)) ||| (w 13)) ||| (w 14))), .val (.int (xpk_5 + (1 : Int32))), .val (.int (xpk_2 + (8 : Int32))), .val (.int (xpk_2 + xpk_3)), .val (.int (((((((0 : Int32) ||| ((w 8) <<< ((0 : Int32) &&& 31))) ||| ((w 9) <<< ((1 : Int32) &&& 31))) ||| ((w 10) <<< ((2 : Int32) &&& 31))) ||| ((w 11) <<< ((3 : Int32) &&& 31))) ||| ((w 12) <<< ((4 : Int32) &&& 31))) ||| ((w 13) <<< ((5 : Int32) &&& 31)))), .val (.int (6 : Int32))]) rfl ?_
      refine Ow.iload X28 hx (pc' := 52) (hb hby d_prog_14_method_18_50) rfl ?_
      refine Ow.aloadN X28 hx (pc' := 53) (hb hby d_prog_14_method_18_52) rfl rfl ?_
      refine Ow.iload X28 hx (pc' := 55) (hb hby d_prog_14_method_18_53) rfl ?_
      refine Ow.iload X28 hx (pc' := 57) (hb hby d_prog_14_method_18_55) rfl ?_
      refine Ow.iadd X28 hx (pc' := 58) (hb hby d_prog_14_method_18_57) (z := ((xpk_2 + (8 : Int32)) + (6 : Int32))) rfl ?_
      refine Ow.ldI X28 hx hZ e28 V_apk_1_t28 (pc' := 59) (hb hby d_prog_14_method_18_58) (j := ((xpk_2 + (8 : Int32)) + (6 : Int32))) (i := (own_n xpk_2 + 14)) (v := (.int (w 14))) ((own_ix (m := 14) hbd.1 (own_ad hbd.1 (own_ad hbd.1 own_z0 8 8 (by decide) (by decide)) 6 6 (by decide) (by decide))).1) ((own_ix (m := 14) hbd.1 (own_ad hbd.1 (own_ad hbd.1 own_z0 8 8 (by decide) (by decide)) 6 6 (by decide) (by decide))).2) (hv _ (own_in (m := 14) hbd (by omega))) ?_
      refine Ow.iload X28 hx (pc' := 61) (hb hby d_prog_14_method_18_59) rfl ?_
      refine Ow.ishl X28 hx (pc' := 62) (hb hby d_prog_14_method_18_61) (z := ((w 14) <<< ((6 : Int32) &&& 31))) rfl ?_
      refine Ow.ior X28 hx (pc' := 63) (hb hby d_prog_14_method_18_62) (z := ((((((((0 : Int32) ||| ((w 8) <<< ((0 : Int32) &&& 31))) ||| ((w 9) <<< ((1 : Int32) &&& 31))) ||| ((w 10) <<< ((2 : Int32) &&& 31))) ||| ((w 11) <<< ((3 : Int32) &&& 31))) ||| ((w 12) <<< ((4 : Int32) &&& 31))) ||| ((w 13) <<< ((5 : Int32) &&& 31))) ||| ((w 14) <<< ((6 : Int32) &&& 31)))) rfl ?_
      refine Ow.istore X28 hx (pc' := 65) (hb hby d_prog_14_method_18_63) (l' := #[.val (.ref apk_1), .val (.int xpk_2), .val (.int xpk_3), .val (.ref apk_4), .val (.int xpk_5), .val (.int ((((((((((((((((0 : Int32) ||| (w 0)) ||| (w 1)) ||| (w 2)) ||| (w 3)) ||| (w 4)) ||| (w 5)) ||| (w 6)) ||| (w 7)) ||| (w 8)) ||| (w 9)) ||| (w 10)) ||| (w 11)) ||| (w 12)) ||| (w 13)) ||| (w 14))), .val (.int (xpk_5 + (1 : Int32))), .val (.int (xpk_2 + (8 : Int32))), .val (.int (xpk_2 + xpk_3)), .val (.int ((((((((0 : Int32) ||| ((w 8) <<< ((0 : Int32) &&& 31))) ||| ((w 9) <<< ((1 : Int32) &&& 31))) ||| ((w 10) <<< ((2 : Int32) &&& 31))) ||| ((w 11) <<< ((3 : Int32) &&& 31))) ||| ((w 12) <<< ((4 : Int32) &&& 31))) ||| ((w 13) <<< ((5 : Int32) &&& 31))) ||| ((w 14) <<< ((6 : Int32) &&& 31)))), .val (.int (6 : Int32))]) rfl ?_
      refine Ow.iinc X28 hx (pc' := 68) (hb hby d_prog_14_method_18_65) rfl (l' := #[.val (.ref apk_1), .val (.int xpk_2), .val (.int xpk_3), .val (.ref apk_4), .val (.int xpk_5), .val (.int ((((((((((((((((0 : Int32) ||| (w 0)) ||| (w 1)) ||| (w 2)) ||| (w 3)) ||| (w 4)) ||| (w 5)) ||| (w 6)) ||| (w 7)) ||| (w 8)) ||| (w 9)) ||| (w 10)) ||| (w 11)) ||| (w 12)) ||| (w 13)) ||| (w 14))), .val (.int (xpk_5 + (1 : Int32))), .val (.int (xpk_2 + (8 : Int32))), .val (.int (xpk_2 + xpk_3)), .val (.int ((((((((0 : Int32) ||| ((w 8) <<< ((0 : Int32) &&& 31))) ||| ((w 9) <<< ((1 : Int32) &&& 31))) ||| ((w 10) <<< ((2 : Int32) &&& 31))) ||| ((w 11) <<< ((3 : Int32) &&& 31))) ||| ((w 12) <<< ((4 : Int32) &&& 31))) ||| ((w 13) <<< ((5 : Int32) &&& 31))) ||| ((w 14) <<< ((6 : Int32) &&& 31)))), .val (.int (7 : Int32))]) rfl ?_
      show Wq _ _ _ _ _ (T28.setTop (mkF m 68 #[.val (.ref apk_1), .val (.int xpk_2), .val (.int xpk_3), .val (.ref apk_4), .val (.int xpk_5), .val (.int ((((((((((((((((0 : Int32) ||| (w 0)) ||| (w 1)) ||| (w 2)) ||| (w 3)) ||| (w 4)) ||| (w 5)) ||| (w 6)) ||| (w 7)) ||| (w 8)) ||| (w 9)) ||| (w 10)) ||| (w 11)) ||| (w 12)) ||| (w 13)) ||| (w 14))), .val (.int (xpk_5 + (1 : Int32))), .val (.int (xpk_2 + (8 : Int32))), .val (.int (xpk_2 + xpk_3)), .val (.int ((((((((0 : Int32) ||| ((w 8) <<< ((0 : Int32) &&& 31))) ||| ((w 9) <<< ((1 : Int32) &&& 31))) ||| ((w 10) <<< ((2 : Int32) &&& 31))) ||| ((w 11) <<< ((3 : Int32) &&& 31))) ||| ((w 12) <<< ((4 : Int32) &&& 31))) ||| ((w 13) <<< ((5 : Int32) &&& 31))) ||| ((w 14) <<< ((6 : Int32) &&& 31)))), .val (.int (7 : Int32))] []))
      refine Ow.goto X28 hx (pc' := 31) (hb hby d_prog_14_method_18_68) (by decide) (by decide) ?_
      refine Ow.iload X28 hx (pc' := 33) (hb hby d_prog_14_method_18_31) rfl ?_
      refine Ow.bipush X28 hx (pc' := 35) (hb hby d_prog_14_method_18_33) (z := (8 : Int32)) rfl ?_
      refine Ow.icmpNo X28 hx (pc' := 38) (hb hby d_prog_14_method_18_35) (tlt (by decide : (7 : Int32) < (8 : Int32))).2.1 ?_
      refine Ow.iload X28 hx (pc' := 40) (hb hby d_prog_14_method_18_38) rfl ?_
      refine Ow.aloadN X28 hx (pc' := 41) (hb hby d_prog_14_method_18_40) rfl rfl ?_
      refine Ow.iload X28 hx (pc' := 43) (hb hby d_prog_14_method_18_41) rfl ?_
      refine Ow.iload X28 hx (pc' := 45) (hb hby d_prog_14_method_18_43) rfl ?_
      refine Ow.iadd X28 hx (pc' := 46) (hb hby d_prog_14_method_18_45) (z := ((xpk_2 + (8 : Int32)) + (7 : Int32))) rfl ?_
      refine Ow.ldI X28 hx hZ e28 V_apk_1_t28 (pc' := 47) (hb hby d_prog_14_method_18_46) (j := ((xpk_2 + (8 : Int32)) + (7 : Int32))) (i := (own_n xpk_2 + 15)) (v := (.int (w 15))) ((own_ix (m := 15) hbd.1 (own_ad hbd.1 (own_ad hbd.1 own_z0 8 8 (by decide) (by decide)) 7 7 (by decide) (by decide))).1) ((own_ix (m := 15) hbd.1 (own_ad hbd.1 (own_ad hbd.1 own_z0 8 8 (by decide) (by decide)) 7 7 (by decide) (by decide))).2) (hv _ (own_in (m := 15) hbd (by omega))) ?_
      refine Ow.ior X28 hx (pc' := 48) (hb hby d_prog_14_method_18_47) (z := (((((((((((((((((0 : Int32) ||| (w 0)) ||| (w 1)) ||| (w 2)) ||| (w 3)) ||| (w 4)) ||| (w 5)) ||| (w 6)) ||| (w 7)) ||| (w 8)) ||| (w 9)) ||| (w 10)) ||| (w 11)) ||| (w 12)) ||| (w 13)) ||| (w 14)) ||| (w 15))) rfl ?_
      refine Ow.istore X28 hx (pc' := 50) (hb hby d_prog_14_method_18_48) (l' := #[.val (.ref apk_1), .val (.int xpk_2), .val (.int xpk_3), .val (.ref apk_4), .val (.int xpk_5), .val (.int (((((((((((((((((0 : Int32) ||| (w 0)) ||| (w 1)) ||| (w 2)) ||| (w 3)) ||| (w 4)) ||| (w 5)) ||| (w 6)) ||| (w 7)) ||| (w 8)) ||| (w 9)) ||| (w 10)) ||| (w 11)) ||| (w 12)) ||| (w 13)) ||| (w 14)) ||| (w 15))), .val (.int (xpk_5 + (1 : Int32))), .val (.int (xpk_2 + (8 : Int32))), .val (.int (xpk_2 + xpk_3)), .val (.int ((((((((0 : Int32) ||| ((w 8) <<< ((0 : Int32) &&& 31))) ||| ((w 9) <<< ((1 : Int32) &&& 31))) ||| ((w 10) <<< ((2 : Int32) &&& 31))) ||| ((w 11) <<< ((3 : Int32) &&& 31))) ||| ((w 12) <<< ((4 : Int32) &&& 31))) ||| ((w 13) <<< ((5 : Int32) &&& 31))) ||| ((w 14) <<< ((6 : Int32) &&& 31)))), .val (.int (7 : Int32))]) rfl ?_
      refine Ow.iload X28 hx (pc' := 52) (hb hby d_prog_14_method_18_50) rfl ?_
      refine Ow.aloadN X28 hx (pc' := 53) (hb hby d_prog_14_method_18_52) rfl rfl ?_
      refine Ow.iload X28 hx (pc' := 55) (hb hby d_prog_14_method_18_53) rfl ?_
      refine Ow.iload X28 hx (pc' := 57) (hb hby d_prog_14_method_18_55) rfl ?_
      refine Ow.iadd X28 hx (pc' := 58) (hb hby d_prog_14_method_18_57) (z := ((xpk_2 + (8 : Int32)) + (7 : Int32))) rfl ?_
      refine Ow.ldI X28 hx hZ e28 V_apk_1_t28 (pc' := 59) (hb hby d_prog_14_method_18_58) (j := ((xpk_2 + (8 : Int32)) + (7 : Int32))) (i := (own_n xpk_2 + 15)) (v := (.int (w 15))) ((own_ix (m := 15) hbd.1 (own_ad hbd.1 (own_ad hbd.1 own_z0 8 8 (by decide) (by decide)) 7 7 (by decide) (by decide))).1) ((own_ix (m := 15) hbd.1 (own_ad hbd.1 (own_ad hbd.1 own_z0 8 8 (by decide) (by decide)) 7 7 (by decide) (by decide))).2) (hv _ (own_in (m := 15) hbd (by omega))) ?_
      refine Ow.iload X28 hx (pc' := 61) (hb hby d_prog_14_method_18_59) rfl ?_
      refine Ow.ishl X28 hx (pc' := 62) (hb hby d_prog_14_method_18_61) (z := ((w 15) <<< ((7 : Int32) &&& 31))) rfl ?_
      refine Ow.ior X28 hx (pc' := 63) (hb hby d_prog_14_method_18_62) (z := (((((((((0 : Int32) ||| ((w 8) <<< ((0 : Int32) &&& 31))) ||| ((w 9) <<< ((1 : Int32) &&& 31))) ||| ((w 10) <<< ((2 : Int32) &&& 31))) ||| ((w 11) <<< ((3 : Int32) &&& 31))) ||| ((w 12) <<< ((4 : Int32) &&& 31))) ||| ((w 13) <<< ((5 : Int32) &&& 31))) ||| ((w 14) <<< ((6 : Int32) &&& 31))) ||| ((w 15) <<< ((7 : Int32) &&& 31)))) rfl ?_
      refine Ow.istore X28 hx (pc' := 65) (hb hby d_prog_14_method_18_63) (l' := #[.val (.ref apk_1), .val (.int xpk_2), .val (.int xpk_3), .val (.ref apk_4), .val (.int xpk_5), .val (.int (((((((((((((((((0 : Int32) ||| (w 0)) ||| (w 1)) ||| (w 2)) ||| (w 3)) ||| (w 4)) ||| (w 5)) ||| (w 6)) ||| (w 7)) ||| (w 8)) ||| (w 9)) ||| (w 10)) ||| (w 11)) ||| (w 12)) ||| (w 13)) ||| (w 14)) ||| (w 15))), .val (.int (xpk_5 + (1 : Int32))), .val (.int (xpk_2 + (8 : Int32))), .val (.int (xpk_2 + xpk_3)), .val (.int (((((((((0 : Int32) ||| ((w 8) <<< ((0 : Int32) &&& 31))) ||| ((w 9) <<< ((1 : Int32) &&& 31))) ||| ((w 10) <<< ((2 : Int32) &&& 31))) ||| ((w 11) <<< ((3 : Int32) &&& 31))) ||| ((w 12) <<< ((4 : Int32) &&& 31))) ||| ((w 13) <<< ((5 : Int32) &&& 31))) ||| ((w 14) <<< ((6 : Int32) &&& 31))) ||| ((w 15) <<< ((7 : Int32) &&& 31)))), .val (.int (7 : Int32))]) rfl ?_
      refine Ow.iinc X28 hx (pc' := 68) (hb hby d_prog_14_method_18_65) rfl (l' := #[.val (.ref apk_1), .val (.int xpk_2), .val (.int xpk_3), .val (.ref apk_4), .val (.int xpk_5), .val (.int (((((((((((((((((0 : Int32) ||| (w 0)) ||| (w 1)) ||| (w 2)) ||| (w 3)) ||| (w 4)) ||| (w 5)) ||| (w 6)) ||| (w 7)) ||| (w 8)) ||| (w 9)) ||| (w 10)) ||| (w 11)) ||| (w 12)) ||| (w 13)) ||| (w 14)) ||| (w 15))), .val (.int (xpk_5 + (1 : Int32))), .val (.int (xpk_2 + (8 : Int32))), .val (.int (xpk_2 + xpk_3)), .val (.int (((((((((0 : Int32) ||| ((w 8) <<< ((0 : Int32) &&& 31))) ||| ((w 9) <<< ((1 : Int32) &&& 31))) ||| ((w 10) <<< ((2 : Int32) &&& 31))) ||| ((w 11) <<< ((3 : Int32) &&& 31))) ||| ((w 12) <<< ((4 : Int32) &&& 31))) ||| ((w 13) <<< ((5 : Int32) &&& 31))) ||| ((w 14) <<< ((6 : Int32) &&& 31))) ||| ((w 15) <<< ((7 : Int32) &&& 31)))), .val (.int (8 : Int32))]) rfl ?_
      show Wq _ _ _ _ _ (T28.setTop (mkF m 68 #[.val (.ref apk_1), .val (.int xpk_2), .val (.int xpk_3), .val (.ref apk_4), .val (.int xpk_5), .val (.int (((((((((((((((((0 : Int32) ||| (w 0)) ||| (w 1)) ||| (w 2)) ||| (w 3)) ||| (w 4)) ||| (w 5)) ||| (w 6)) ||| (w 7)) ||| (w 8)) ||| (w 9)) ||| (w 10)) ||| (w 11)) ||| (w 12)) ||| (w 13)) ||| (w 14)) ||| (w 15))), .val (.int (xpk_5 + (1 : Int32))), .val (.int (xpk_2 + (8 : Int32))), .val (.int (xpk_2 + xpk_3)), .val (.int (((((((((0 : Int32) ||| ((w 8) <<< ((0 : Int32) &&& 31))) ||| ((w 9) <<< ((1 : Int32) &&& 31))) ||| ((w 10) <<< ((2 : Int32) &&& 31))) ||| ((w 11) <<< ((3 : Int32) &&& 31))) ||| ((w 12) <<< ((4 : Int32) &&& 31))) ||| ((w 13) <<< ((5 : Int32) &&& 31))) ||| ((w 14) <<< ((6 : Int32) &&& 31))) ||| ((w 15) <<< ((7 : Int32) &&& 31)))), .val (.int (8 : Int32))] []))
      refine Ow.goto X28 hx (pc' := 31) (hb hby d_prog_14_method_18_68) (by decide) (by decide) ?_
      refine Ow.iload X28 hx (pc' := 33) (hb hby d_prog_14_method_18_31) rfl ?_
      refine Ow.bipush X28 hx (pc' := 35) (hb hby d_prog_14_method_18_33) (z := (8 : Int32)) rfl ?_
      refine Ow.icmpYes X28 hx (pc' := 71) (hb hby d_prog_14_method_18_35) (flt (by decide : ¬ ((8 : Int32) < (8 : Int32)))).2.1 (by decide) (by decide) ?_
      refine Ow.aloadN X28 hx (pc' := 72) (hb hby d_prog_14_method_18_71) rfl rfl ?_
      refine Ow.iload X28 hx (pc' := 74) (hb hby d_prog_14_method_18_72) rfl ?_
      refine Ow.iinc X28 hx (pc' := 77) (hb hby d_prog_14_method_18_74) rfl (l' := #[.val (.ref apk_1), .val (.int xpk_2), .val (.int xpk_3), .val (.ref apk_4), .val (.int xpk_5), .val (.int (((((((((((((((((0 : Int32) ||| (w 0)) ||| (w 1)) ||| (w 2)) ||| (w 3)) ||| (w 4)) ||| (w 5)) ||| (w 6)) ||| (w 7)) ||| (w 8)) ||| (w 9)) ||| (w 10)) ||| (w 11)) ||| (w 12)) ||| (w 13)) ||| (w 14)) ||| (w 15))), .val (.int ((xpk_5 + (1 : Int32)) + (1 : Int32))), .val (.int (xpk_2 + (8 : Int32))), .val (.int (xpk_2 + xpk_3)), .val (.int (((((((((0 : Int32) ||| ((w 8) <<< ((0 : Int32) &&& 31))) ||| ((w 9) <<< ((1 : Int32) &&& 31))) ||| ((w 10) <<< ((2 : Int32) &&& 31))) ||| ((w 11) <<< ((3 : Int32) &&& 31))) ||| ((w 12) <<< ((4 : Int32) &&& 31))) ||| ((w 13) <<< ((5 : Int32) &&& 31))) ||| ((w 14) <<< ((6 : Int32) &&& 31))) ||| ((w 15) <<< ((7 : Int32) &&& 31)))), .val (.int (8 : Int32))]) rfl ?_
      show Wq _ _ _ _ _ (T28.setTop (mkF m 77 #[.val (.ref apk_1), .val (.int xpk_2), .val (.int xpk_3), .val (.ref apk_4), .val (.int xpk_5), .val (.int (((((((((((((((((0 : Int32) ||| (w 0)) ||| (w 1)) ||| (w 2)) ||| (w 3)) ||| (w 4)) ||| (w 5)) ||| (w 6)) ||| (w 7)) ||| (w 8)) ||| (w 9)) ||| (w 10)) ||| (w 11)) ||| (w 12)) ||| (w 13)) ||| (w 14)) ||| (w 15))), .val (.int ((xpk_5 + (1 : Int32)) + (1 : Int32))), .val (.int (xpk_2 + (8 : Int32))), .val (.int (xpk_2 + xpk_3)), .val (.int (((((((((0 : Int32) ||| ((w 8) <<< ((0 : Int32) &&& 31))) ||| ((w 9) <<< ((1 : Int32) &&& 31))) ||| ((w 10) <<< ((2 : Int32) &&& 31))) ||| ((w 11) <<< ((3 : Int32) &&& 31))) ||| ((w 12) <<< ((4 : Int32) &&& 31))) ||| ((w 13) <<< ((5 : Int32) &&& 31))) ||| ((w 14) <<< ((6 : Int32) &&& 31))) ||| ((w 15) <<< ((7 : Int32) &&& 31)))), .val (.int (8 : Int32))] [(.int (xpk_5 + (1 : Int32))), (.ref apk_4)]))
      refine Ow.iload X28 hx (pc' := 79) (hb hby d_prog_14_method_18_77) rfl ?_
      refine Ow.i2b X28 hx (pc' := 80) (hb hby d_prog_14_method_18_79) (z := ((((((((((0 : Int32) ||| ((w 8) <<< ((0 : Int32) &&& 31))) ||| ((w 9) <<< ((1 : Int32) &&& 31))) ||| ((w 10) <<< ((2 : Int32) &&& 31))) ||| ((w 11) <<< ((3 : Int32) &&& 31))) ||| ((w 12) <<< ((4 : Int32) &&& 31))) ||| ((w 13) <<< ((5 : Int32) &&& 31))) ||| ((w 14) <<< ((6 : Int32) &&& 31))) ||| ((w 15) <<< ((7 : Int32) &&& 31))).toInt8.toInt32)) rfl ?_
      obtain ⟨T36, h36, X36, e36, W36, Vr36, st36⟩ := asB X28 hx hZ e28 V_apk_4_t28 (j := (xpk_5 + (1 : Int32))) (i := (own_n xpk_5 + 1)) ((own_ix (m := 1) hbd.2.1 (own_ad hbd.2.1 own_z0 1 1 (by decide) (by decide))).1) ((own_ix (m := 1) hbd.2.1 (own_ad hbd.2.1 own_z0 1 1 (by decide) (by decide))).2) (own_ln hbd.2.1 (by first | exact hl | (simp only [List.length_set]; exact hl)) (by decide)) (y := (((((((((((0 : Int32) ||| ((w 8) <<< ((0 : Int32) &&& 31))) ||| ((w 9) <<< ((1 : Int32) &&& 31))) ||| ((w 10) <<< ((2 : Int32) &&& 31))) ||| ((w 11) <<< ((3 : Int32) &&& 31))) ||| ((w 12) <<< ((4 : Int32) &&& 31))) ||| ((w 13) <<< ((5 : Int32) &&& 31))) ||| ((w 14) <<< ((6 : Int32) &&& 31))) ||| ((w 15) <<< ((7 : Int32) &&& 31))).toInt8.toInt32).toInt8.toInt32)) (rfl) (g := (mkF m 80 #[.val (.ref apk_1), .val (.int xpk_2), .val (.int xpk_3), .val (.ref apk_4), .val (.int xpk_5), .val (.int (((((((((((((((((0 : Int32) ||| (w 0)) ||| (w 1)) ||| (w 2)) ||| (w 3)) ||| (w 4)) ||| (w 5)) ||| (w 6)) ||| (w 7)) ||| (w 8)) ||| (w 9)) ||| (w 10)) ||| (w 11)) ||| (w 12)) ||| (w 13)) ||| (w 14)) ||| (w 15))), .val (.int ((xpk_5 + (1 : Int32)) + (1 : Int32))), .val (.int (xpk_2 + (8 : Int32))), .val (.int (xpk_2 + xpk_3)), .val (.int (((((((((0 : Int32) ||| ((w 8) <<< ((0 : Int32) &&& 31))) ||| ((w 9) <<< ((1 : Int32) &&& 31))) ||| ((w 10) <<< ((2 : Int32) &&& 31))) ||| ((w 11) <<< ((3 : Int32) &&& 31))) ||| ((w 12) <<< ((4 : Int32) &&& 31))) ||| ((w 13) <<< ((5 : Int32) &&& 31))) ||| ((w 14) <<< ((6 : Int32) &&& 31))) ||| ((w 15) <<< ((7 : Int32) &&& 31)))), .val (.int (8 : Int32))] [(.int ((((((((((0 : Int32) ||| ((w 8) <<< ((0 : Int32) &&& 31))) ||| ((w 9) <<< ((1 : Int32) &&& 31))) ||| ((w 10) <<< ((2 : Int32) &&& 31))) ||| ((w 11) <<< ((3 : Int32) &&& 31))) ||| ((w 12) <<< ((4 : Int32) &&& 31))) ||| ((w 13) <<< ((5 : Int32) &&& 31))) ||| ((w 14) <<< ((6 : Int32) &&& 31))) ||| ((w 15) <<< ((7 : Int32) &&& 31))).toInt8.toInt32)), (.int (xpk_5 + (1 : Int32))), (.ref apk_4)])) rfl rfl (hb hby d_prog_14_method_18_80)
      refine Wq.step st36 ?_
      have N36 := Fr.snoc X36 N28 g_apk_4
      have K36 : Keep h0 h36 [apk_4] := K28.wr W36 (Or.inl (List.mem_of_getElem? (i := 0) rfl))
      have Z36 : n0 ≤ h36.size := Nat.le_trans Z28 (Keep.of_wr W36).1
      have V_apk_1_t36 := V_apk_1_t28.other W36 ne_apk_1_apk_4
      have V_apk_4_t36 : Al Z h36 apk_4 .byte ((ds.set (own_n xpk_5 + 0) (.int (((((((((((0 : Int32) ||| ((w 0) <<< ((0 : Int32) &&& 31))) ||| ((w 1) <<< ((1 : Int32) &&& 31))) ||| ((w 2) <<< ((2 : Int32) &&& 31))) ||| ((w 3) <<< ((3 : Int32) &&& 31))) ||| ((w 4) <<< ((4 : Int32) &&& 31))) ||| ((w 5) <<< ((5 : Int32) &&& 31))) ||| ((w 6) <<< ((6 : Int32) &&& 31))) ||| ((w 7) <<< ((7 : Int32) &&& 31))).toInt8.toInt32).toInt8.toInt32))).set (own_n xpk_5 + 1) (.int (((((((((((0 : Int32) ||| ((w 8) <<< ((0 : Int32) &&& 31))) ||| ((w 9) <<< ((1 : Int32) &&& 31))) ||| ((w 10) <<< ((2 : Int32) &&& 31))) ||| ((w 11) <<< ((3 : Int32) &&& 31))) ||| ((w 12) <<< ((4 : Int32) &&& 31))) ||| ((w 13) <<< ((5 : Int32) &&& 31))) ||| ((w 14) <<< ((6 : Int32) &&& 31))) ||| ((w 15) <<< ((7 : Int32) &&& 31))).toInt8.toInt32).toInt8.toInt32))) := Vr36
      show Wq _ _ _ _ _ (T36.setTop (mkF m 81 #[.val (.ref apk_1), .val (.int xpk_2), .val (.int xpk_3), .val (.ref apk_4), .val (.int xpk_5), .val (.int (((((((((((((((((0 : Int32) ||| (w 0)) ||| (w 1)) ||| (w 2)) ||| (w 3)) ||| (w 4)) ||| (w 5)) ||| (w 6)) ||| (w 7)) ||| (w 8)) ||| (w 9)) ||| (w 10)) ||| (w 11)) ||| (w 12)) ||| (w 13)) ||| (w 14)) ||| (w 15))), .val (.int ((xpk_5 + (1 : Int32)) + (1 : Int32))), .val (.int (xpk_2 + (8 : Int32))), .val (.int (xpk_2 + xpk_3)), .val (.int (((((((((0 : Int32) ||| ((w 8) <<< ((0 : Int32) &&& 31))) ||| ((w 9) <<< ((1 : Int32) &&& 31))) ||| ((w 10) <<< ((2 : Int32) &&& 31))) ||| ((w 11) <<< ((3 : Int32) &&& 31))) ||| ((w 12) <<< ((4 : Int32) &&& 31))) ||| ((w 13) <<< ((5 : Int32) &&& 31))) ||| ((w 14) <<< ((6 : Int32) &&& 31))) ||| ((w 15) <<< ((7 : Int32) &&& 31)))), .val (.int (8 : Int32))] []))
      refine Ow.iinc X36 hx (pc' := 84) (hb hby d_prog_14_method_18_81) rfl (l' := #[.val (.ref apk_1), .val (.int xpk_2), .val (.int xpk_3), .val (.ref apk_4), .val (.int xpk_5), .val (.int (((((((((((((((((0 : Int32) ||| (w 0)) ||| (w 1)) ||| (w 2)) ||| (w 3)) ||| (w 4)) ||| (w 5)) ||| (w 6)) ||| (w 7)) ||| (w 8)) ||| (w 9)) ||| (w 10)) ||| (w 11)) ||| (w 12)) ||| (w 13)) ||| (w 14)) ||| (w 15))), .val (.int ((xpk_5 + (1 : Int32)) + (1 : Int32))), .val (.int ((xpk_2 + (8 : Int32)) + (8 : Int32))), .val (.int (xpk_2 + xpk_3)), .val (.int (((((((((0 : Int32) ||| ((w 8) <<< ((0 : Int32) &&& 31))) ||| ((w 9) <<< ((1 : Int32) &&& 31))) ||| ((w 10) <<< ((2 : Int32) &&& 31))) ||| ((w 11) <<< ((3 : Int32) &&& 31))) ||| ((w 12) <<< ((4 : Int32) &&& 31))) ||| ((w 13) <<< ((5 : Int32) &&& 31))) ||| ((w 14) <<< ((6 : Int32) &&& 31))) ||| ((w 15) <<< ((7 : Int32) &&& 31)))), .val (.int (8 : Int32))]) rfl ?_
      show Wq _ _ _ _ _ (T36.setTop (mkF m 84 #[.val (.ref apk_1), .val (.int xpk_2), .val (.int xpk_3), .val (.ref apk_4), .val (.int xpk_5), .val (.int (((((((((((((((((0 : Int32) ||| (w 0)) ||| (w 1)) ||| (w 2)) ||| (w 3)) ||| (w 4)) ||| (w 5)) ||| (w 6)) ||| (w 7)) ||| (w 8)) ||| (w 9)) ||| (w 10)) ||| (w 11)) ||| (w 12)) ||| (w 13)) ||| (w 14)) ||| (w 15))), .val (.int ((xpk_5 + (1 : Int32)) + (1 : Int32))), .val (.int ((xpk_2 + (8 : Int32)) + (8 : Int32))), .val (.int (xpk_2 + xpk_3)), .val (.int (((((((((0 : Int32) ||| ((w 8) <<< ((0 : Int32) &&& 31))) ||| ((w 9) <<< ((1 : Int32) &&& 31))) ||| ((w 10) <<< ((2 : Int32) &&& 31))) ||| ((w 11) <<< ((3 : Int32) &&& 31))) ||| ((w 12) <<< ((4 : Int32) &&& 31))) ||| ((w 13) <<< ((5 : Int32) &&& 31))) ||| ((w 14) <<< ((6 : Int32) &&& 31))) ||| ((w 15) <<< ((7 : Int32) &&& 31)))), .val (.int (8 : Int32))] []))
      refine Ow.goto X36 hx (pc' := 15) (hb hby d_prog_14_method_18_84) (by decide) (by decide) ?_
      refine Ow.iload X36 hx (pc' := 17) (hb hby d_prog_14_method_18_15) rfl ?_
      refine Ow.iload X36 hx (pc' := 19) (hb hby d_prog_14_method_18_17) rfl ?_
      refine Ow.bipush X36 hx (pc' := 21) (hb hby d_prog_14_method_18_19) (z := (8 : Int32)) rfl ?_
      refine Ow.isub X36 hx (pc' := 22) (hb hby d_prog_14_method_18_21) (z := ((xpk_2 + xpk_3) - (8 : Int32))) rfl ?_
      refine Ow.icmpYes X36 hx (pc' := 87) (hb hby d_prog_14_method_18_22) (tlt ((own_c1 (a := 16) hbd (own_ad hbd.1 (own_ad hbd.1 own_z0 8 8 (by decide) (by decide)) 8 8 (by decide) (by decide))).mpr (by have := hbd.2.2.2; have := hbd.1.1; omega) : ((xpk_2 + xpk_3) - (8 : Int32)) < ((xpk_2 + (8 : Int32)) + (8 : Int32)))).2.2.1 (by decide) (by decide) ?_
      have Z0C : 0 ≤ xpk_3.toInt := hbd.2.2.1
      refine Ow.iload X36 hx (pc' := 89) (hb hby d_prog_14_method_18_87) rfl ?_
      refine Ow.iload X36 hx (pc' := 91) (hb hby d_prog_14_method_18_89) rfl ?_
      by_cases hc91 : ((xpk_2 + (8 : Int32)) + (8 : Int32)) < (xpk_2 + xpk_3)
      · skip
        refine Ow.icmpNo X36 hx (pc' := 94) (hb hby d_prog_14_method_18_91) (tlt hc91).2.1 ?_
        have G0 : 16 < xpk_3.toInt := by have := (own_c2 (a := 16) hbd (own_ad hbd.1 (own_ad hbd.1 own_z0 8 8 (by decide) (by decide)) 8 8 (by decide) (by decide))).mp hc91; omega
        refine Ow.iconst X36 hx (pc' := 95) (hb hby d_prog_14_method_18_94) (z := (0 : Int32)) rfl ?_
        refine Ow.istore X36 hx (pc' := 97) (hb hby d_prog_14_method_18_95) (l' := #[.val (.ref apk_1), .val (.int xpk_2), .val (.int xpk_3), .val (.ref apk_4), .val (.int xpk_5), .val (.int (((((((((((((((((0 : Int32) ||| (w 0)) ||| (w 1)) ||| (w 2)) ||| (w 3)) ||| (w 4)) ||| (w 5)) ||| (w 6)) ||| (w 7)) ||| (w 8)) ||| (w 9)) ||| (w 10)) ||| (w 11)) ||| (w 12)) ||| (w 13)) ||| (w 14)) ||| (w 15))), .val (.int ((xpk_5 + (1 : Int32)) + (1 : Int32))), .val (.int ((xpk_2 + (8 : Int32)) + (8 : Int32))), .val (.int (xpk_2 + xpk_3)), .val (.int (0 : Int32)), .val (.int (8 : Int32))]) rfl ?_
        refine Ow.iconst X36 hx (pc' := 98) (hb hby d_prog_14_method_18_97) (z := (0 : Int32)) rfl ?_
        refine Ow.istore X36 hx (pc' := 100) (hb hby d_prog_14_method_18_98) (l' := #[.val (.ref apk_1), .val (.int xpk_2), .val (.int xpk_3), .val (.ref apk_4), .val (.int xpk_5), .val (.int (((((((((((((((((0 : Int32) ||| (w 0)) ||| (w 1)) ||| (w 2)) ||| (w 3)) ||| (w 4)) ||| (w 5)) ||| (w 6)) ||| (w 7)) ||| (w 8)) ||| (w 9)) ||| (w 10)) ||| (w 11)) ||| (w 12)) ||| (w 13)) ||| (w 14)) ||| (w 15))), .val (.int ((xpk_5 + (1 : Int32)) + (1 : Int32))), .val (.int ((xpk_2 + (8 : Int32)) + (8 : Int32))), .val (.int (xpk_2 + xpk_3)), .val (.int (0 : Int32)), .val (.int (0 : Int32))]) rfl ?_
        refine Ow.iload X36 hx (pc' := 102) (hb hby d_prog_14_method_18_100) rfl ?_
        refine Ow.iload X36 hx (pc' := 104) (hb hby d_prog_14_method_18_102) rfl ?_
        refine Ow.iadd X36 hx (pc' := 105) (hb hby d_prog_14_method_18_104) (z := (((xpk_2 + (8 : Int32)) + (8 : Int32)) + (0 : Int32))) rfl ?_
        refine Ow.iload X36 hx (pc' := 107) (hb hby d_prog_14_method_18_105) rfl ?_
        refine Ow.icmpNo X36 hx (pc' := 110) (hb hby d_prog_14_method_18_107) (tlt ((own_c2 (a := 16) hbd (own_ad hbd.1 (own_ad hbd.1 (own_ad hbd.1 own_z0 8 8 (by decide) (by decide)) 8 8 (by decide) (by decide)) 0 0 (by decide) (by decide))).mpr (by omega) : (((xpk_2 + (8 : Int32)) + (8 : Int32)) + (0 : Int32)) < (xpk_2 + xpk_3))).2.1 ?_
        refine Ow.iload X36 hx (pc' := 112) (hb hby d_prog_14_method_18_110) rfl ?_
        refine Ow.aloadN X36 hx (pc' := 113) (hb hby d_prog_14_method_18_112) rfl rfl ?_
        refine Ow.iload X36 hx (pc' := 115) (hb hby d_prog_14_method_18_113) rfl ?_
        refine Ow.iload X36 hx (pc' := 117) (hb hby d_prog_14_method_18_115) rfl ?_
        refine Ow.iadd X36 hx (pc' := 118) (hb hby d_prog_14_method_18_117) (z := (((xpk_2 + (8 : Int32)) + (8 : Int32)) + (0 : Int32))) rfl ?_
        refine Ow.ldI X36 hx hZ e36 V_apk_1_t36 (pc' := 119) (hb hby d_prog_14_method_18_118) (j := (((xpk_2 + (8 : Int32)) + (8 : Int32)) + (0 : Int32))) (i := (own_n xpk_2 + 16)) (v := (.int (w 16))) ((own_ix (m := 16) hbd.1 (own_ad hbd.1 (own_ad hbd.1 (own_ad hbd.1 own_z0 8 8 (by decide) (by decide)) 8 8 (by decide) (by decide)) 0 0 (by decide) (by decide))).1) ((own_ix (m := 16) hbd.1 (own_ad hbd.1 (own_ad hbd.1 (own_ad hbd.1 own_z0 8 8 (by decide) (by decide)) 8 8 (by decide) (by decide)) 0 0 (by decide) (by decide))).2) (hv _ (own_in (m := 16) hbd (by omega))) ?_
        refine Ow.ior X36 hx (pc' := 120) (hb hby d_prog_14_method_18_119) (z := ((((((((((((((((((0 : Int32) ||| (w 0)) ||| (w 1)) ||| (w 2)) ||| (w 3)) ||| (w 4)) ||| (w 5)) ||| (w 6)) ||| (w 7)) ||| (w 8)) ||| (w 9)) ||| (w 10)) ||| (w 11)) ||| (w 12)) ||| (w 13)) ||| (w 14)) ||| (w 15)) ||| (w 16))) rfl ?_
        refine Ow.istore X36 hx (pc' := 122) (hb hby d_prog_14_method_18_120) (l' := #[.val (.ref apk_1), .val (.int xpk_2), .val (.int xpk_3), .val (.ref apk_4), .val (.int xpk_5), .val (.int ((((((((((((((((((0 : Int32) ||| (w 0)) ||| (w 1)) ||| (w 2)) ||| (w 3)) ||| (w 4)) ||| (w 5)) ||| (w 6)) ||| (w 7)) ||| (w 8)) ||| (w 9)) ||| (w 10)) ||| (w 11)) ||| (w 12)) ||| (w 13)) ||| (w 14)) ||| (w 15)) ||| (w 16))), .val (.int ((xpk_5 + (1 : Int32)) + (1 : Int32))), .val (.int ((xpk_2 + (8 : Int32)) + (8 : Int32))), .val (.int (xpk_2 + xpk_3)), .val (.int (0 : Int32)), .val (.int (0 : Int32))]) rfl ?_
        refine Ow.iload X36 hx (pc' := 124) (hb hby d_prog_14_method_18_122) rfl ?_
        refine Ow.aloadN X36 hx (pc' := 125) (hb hby d_prog_14_method_18_124) rfl rfl ?_
        refine Ow.iload X36 hx (pc' := 127) (hb hby d_prog_14_method_18_125) rfl ?_
        refine Ow.iload X36 hx (pc' := 129) (hb hby d_prog_14_method_18_127) rfl ?_
        refine Ow.iadd X36 hx (pc' := 130) (hb hby d_prog_14_method_18_129) (z := (((xpk_2 + (8 : Int32)) + (8 : Int32)) + (0 : Int32))) rfl ?_
        refine Ow.ldI X36 hx hZ e36 V_apk_1_t36 (pc' := 131) (hb hby d_prog_14_method_18_130) (j := (((xpk_2 + (8 : Int32)) + (8 : Int32)) + (0 : Int32))) (i := (own_n xpk_2 + 16)) (v := (.int (w 16))) ((own_ix (m := 16) hbd.1 (own_ad hbd.1 (own_ad hbd.1 (own_ad hbd.1 own_z0 8 8 (by decide) (by decide)) 8 8 (by decide) (by decide)) 0 0 (by decide) (by decide))).1) ((own_ix (m := 16) hbd.1 (own_ad hbd.1 (own_ad hbd.1 (own_ad hbd.1 own_z0 8 8 (by decide) (by decide)) 8 8 (by decide) (by decide)) 0 0 (by decide) (by decide))).2) (hv _ (own_in (m := 16) hbd (by omega))) ?_
        refine Ow.iload X36 hx (pc' := 133) (hb hby d_prog_14_method_18_131) rfl ?_
        refine Ow.ishl X36 hx (pc' := 134) (hb hby d_prog_14_method_18_133) (z := ((w 16) <<< ((0 : Int32) &&& 31))) rfl ?_
        refine Ow.ior X36 hx (pc' := 135) (hb hby d_prog_14_method_18_134) (z := ((0 : Int32) ||| ((w 16) <<< ((0 : Int32) &&& 31)))) rfl ?_
        refine Ow.istore X36 hx (pc' := 137) (hb hby d_prog_14_method_18_135) (l' := #[.val (.ref apk_1), .val (.int xpk_2), .val (.int xpk_3), .val (.ref apk_4), .val (.int xpk_5), .val (.int ((((((((((((((((((0 : Int32) ||| (w 0)) ||| (w 1)) ||| (w 2)) ||| (w 3)) ||| (w 4)) ||| (w 5)) ||| (w 6)) ||| (w 7)) ||| (w 8)) ||| (w 9)) ||| (w 10)) ||| (w 11)) ||| (w 12)) ||| (w 13)) ||| (w 14)) ||| (w 15)) ||| (w 16))), .val (.int ((xpk_5 + (1 : Int32)) + (1 : Int32))), .val (.int ((xpk_2 + (8 : Int32)) + (8 : Int32))), .val (.int (xpk_2 + xpk_3)), .val (.int ((0 : Int32) ||| ((w 16) <<< ((0 : Int32) &&& 31)))), .val (.int (0 : Int32))]) rfl ?_
        refine Ow.iinc X36 hx (pc' := 140) (hb hby d_prog_14_method_18_137) rfl (l' := #[.val (.ref apk_1), .val (.int xpk_2), .val (.int xpk_3), .val (.ref apk_4), .val (.int xpk_5), .val (.int ((((((((((((((((((0 : Int32) ||| (w 0)) ||| (w 1)) ||| (w 2)) ||| (w 3)) ||| (w 4)) ||| (w 5)) ||| (w 6)) ||| (w 7)) ||| (w 8)) ||| (w 9)) ||| (w 10)) ||| (w 11)) ||| (w 12)) ||| (w 13)) ||| (w 14)) ||| (w 15)) ||| (w 16))), .val (.int ((xpk_5 + (1 : Int32)) + (1 : Int32))), .val (.int ((xpk_2 + (8 : Int32)) + (8 : Int32))), .val (.int (xpk_2 + xpk_3)), .val (.int ((0 : Int32) ||| ((w 16) <<< ((0 : Int32) &&& 31)))), .val (.int (1 : Int32))]) rfl ?_
        show Wq _ _ _ _ _ (T36.setTop (mkF m 140 #[.val (.ref apk_1), .val (.int xpk_2), .val (.int xpk_3), .val (.ref apk_4), .val (.int xpk_5), .val (.int ((((((((((((((((((0 : Int32) ||| (w 0)) ||| (w 1)) ||| (w 2)) ||| (w 3)) ||| (w 4)) ||| (w 5)) ||| (w 6)) ||| (w 7)) ||| (w 8)) ||| (w 9)) ||| (w 10)) ||| (w 11)) ||| (w 12)) ||| (w 13)) ||| (w 14)) ||| (w 15)) ||| (w 16))), .val (.int ((xpk_5 + (1 : Int32)) + (1 : Int32))), .val (.int ((xpk_2 + (8 : Int32)) + (8 : Int32))), .val (.int (xpk_2 + xpk_3)), .val (.int ((0 : Int32) ||| ((w 16) <<< ((0 : Int32) &&& 31)))), .val (.int (1 : Int32))] []))
        refine Ow.goto X36 hx (pc' := 100) (hb hby d_prog_14_method_18_140) (by decide) (by decide) ?_
        refine Ow.iload X36 hx (pc' := 102) (hb hby d_prog_14_method_18_100) rfl ?_
        refine Ow.iload X36 hx (pc' := 104) (hb hby d_prog_14_method_18_102) rfl ?_
        refine Ow.iadd X36 hx (pc' := 105) (hb hby d_prog_14_method_18_104) (z := (((xpk_2 + (8 : Int32)) + (8 : Int32)) + (1 : Int32))) rfl ?_
        refine Ow.iload X36 hx (pc' := 107) (hb hby d_prog_14_method_18_105) rfl ?_
        by_cases hc107_2 : (((xpk_2 + (8 : Int32)) + (8 : Int32)) + (1 : Int32)) < (xpk_2 + xpk_3)
        · skip
          refine Ow.icmpNo X36 hx (pc' := 110) (hb hby d_prog_14_method_18_107) (tlt hc107_2).2.1 ?_
          have G1 : 17 < xpk_3.toInt := by have := (own_c2 (a := 17) hbd (own_ad hbd.1 (own_ad hbd.1 (own_ad hbd.1 own_z0 8 8 (by decide) (by decide)) 8 8 (by decide) (by decide)) 1 1 (by decide) (by decide))).mp hc107_2; omega
          refine Ow.iload X36 hx (pc' := 112) (hb hby d_prog_14_method_18_110) rfl ?_
          refine Ow.aloadN X36 hx (pc' := 113) (hb hby d_prog_14_method_18_112) rfl rfl ?_
          refine Ow.iload X36 hx (pc' := 115) (hb hby d_prog_14_method_18_113) rfl ?_
          refine Ow.iload X36 hx (pc' := 117) (hb hby d_prog_14_method_18_115) rfl ?_
          refine Ow.iadd X36 hx (pc' := 118) (hb hby d_prog_14_method_18_117) (z := (((xpk_2 + (8 : Int32)) + (8 : Int32)) + (1 : Int32))) rfl ?_
          refine Ow.ldI X36 hx hZ e36 V_apk_1_t36 (pc' := 119) (hb hby d_prog_14_method_18_118) (j := (((xpk_2 + (8 : Int32)) + (8 : Int32)) + (1 : Int32))) (i := (own_n xpk_2 + 17)) (v := (.int (w 17))) ((own_ix (m := 17) hbd.1 (own_ad hbd.1 (own_ad hbd.1 (own_ad hbd.1 own_z0 8 8 (by decide) (by decide)) 8 8 (by decide) (by decide)) 1 1 (by decide) (by decide))).1) ((own_ix (m := 17) hbd.1 (own_ad hbd.1 (own_ad hbd.1 (own_ad hbd.1 own_z0 8 8 (by decide) (by decide)) 8 8 (by decide) (by decide)) 1 1 (by decide) (by decide))).2) (hv _ (own_in (m := 17) hbd (by omega))) ?_
          refine Ow.ior X36 hx (pc' := 120) (hb hby d_prog_14_method_18_119) (z := (((((((((((((((((((0 : Int32) ||| (w 0)) ||| (w 1)) ||| (w 2)) ||| (w 3)) ||| (w 4)) ||| (w 5)) ||| (w 6)) ||| (w 7)) ||| (w 8)) ||| (w 9)) ||| (w 10)) ||| (w 11)) ||| (w 12)) ||| (w 13)) ||| (w 14)) ||| (w 15)) ||| (w 16)) ||| (w 17))) rfl ?_
          refine Ow.istore X36 hx (pc' := 122) (hb hby d_prog_14_method_18_120) (l' := #[.val (.ref apk_1), .val (.int xpk_2), .val (.int xpk_3), .val (.ref apk_4), .val (.int xpk_5), .val (.int (((((((((((((((((((0 : Int32) ||| (w 0)) ||| (w 1)) ||| (w 2)) ||| (w 3)) ||| (w 4)) ||| (w 5)) ||| (w 6)) ||| (w 7)) ||| (w 8)) ||| (w 9)) ||| (w 10)) ||| (w 11)) ||| (w 12)) ||| (w 13)) ||| (w 14)) ||| (w 15)) ||| (w 16)) ||| (w 17))), .val (.int ((xpk_5 + (1 : Int32)) + (1 : Int32))), .val (.int ((xpk_2 + (8 : Int32)) + (8 : Int32))), .val (.int (xpk_2 + xpk_3)), .val (.int ((0 : Int32) ||| ((w 16) <<< ((0 : Int32) &&& 31)))), .val (.int (1 : Int32))]) rfl ?_
          refine Ow.iload X36 hx (pc' := 124) (hb hby d_prog_14_method_18_122) rfl ?_
          refine Ow.aloadN X36 hx (pc' := 125) (hb hby d_prog_14_method_18_124) rfl rfl ?_
          refine Ow.iload X36 hx (pc' := 127) (hb hby d_prog_14_method_18_125) rfl ?_
          refine Ow.iload X36 hx (pc' := 129) (hb hby d_prog_14_method_18_127) rfl ?_
          refine Ow.iadd X36 hx (pc' := 130) (hb hby d_prog_14_method_18_129) (z := (((xpk_2 + (8 : Int32)) + (8 : Int32)) + (1 : Int32))) rfl ?_
          refine Ow.ldI X36 hx hZ e36 V_apk_1_t36 (pc' := 131) (hb hby d_prog_14_method_18_130) (j := (((xpk_2 + (8 : Int32)) + (8 : Int32)) + (1 : Int32))) (i := (own_n xpk_2 + 17)) (v := (.int (w 17))) ((own_ix (m := 17) hbd.1 (own_ad hbd.1 (own_ad hbd.1 (own_ad hbd.1 own_z0 8 8 (by decide) (by decide)) 8 8 (by decide) (by decide)) 1 1 (by decide) (by decide))).1) ((own_ix (m := 17) hbd.1 (own_ad hbd.1 (own_ad hbd.1 (own_ad hbd.1 own_z0 8 8 (by decide) (by decide)) 8 8 (by decide) (by decide)) 1 1 (by decide) (by decide))).2) (hv _ (own_in (m := 17) hbd (by omega))) ?_
          refine Ow.iload X36 hx (pc' := 133) (hb hby d_prog_14_method_18_131) rfl ?_
          refine Ow.ishl X36 hx (pc' := 134) (hb hby d_prog_14_method_18_133) (z := ((w 17) <<< ((1 : Int32) &&& 31))) rfl ?_
          refine Ow.ior X36 hx (pc' := 135) (hb hby d_prog_14_method_18_134) (z := (((0 : Int32) ||| ((w 16) <<< ((0 : Int32) &&& 31))) ||| ((w 17) <<< ((1 : Int32) &&& 31)))) rfl ?_
          refine Ow.istore X36 hx (pc' := 137) (hb hby d_prog_14_method_18_135) (l' := #[.val (.ref apk_1), .val (.int xpk_2), .val (.int xpk_3), .val (.ref apk_4), .val (.int xpk_5), .val (.int (((((((((((((((((((0 : Int32) ||| (w 0)) ||| (w 1)) ||| (w 2)) ||| (w 3)) ||| (w 4)) ||| (w 5)) ||| (w 6)) ||| (w 7)) ||| (w 8)) ||| (w 9)) ||| (w 10)) ||| (w 11)) ||| (w 12)) ||| (w 13)) ||| (w 14)) ||| (w 15)) ||| (w 16)) ||| (w 17))), .val (.int ((xpk_5 + (1 : Int32)) + (1 : Int32))), .val (.int ((xpk_2 + (8 : Int32)) + (8 : Int32))), .val (.int (xpk_2 + xpk_3)), .val (.int (((0 : Int32) ||| ((w 16) <<< ((0 : Int32) &&& 31))) ||| ((w 17) <<< ((1 : Int32) &&& 31)))), .val (.int (1 : Int32))]) rfl ?_
          refine Ow.iinc X36 hx (pc' := 140) (hb hby d_prog_14_method_18_137) rfl (l' := #[.val (.ref apk_1), .val (.int xpk_2), .val (.int xpk_3), .val (.ref apk_4), .val (.int xpk_5), .val (.int (((((((((((((((((((0 : Int32) ||| (w 0)) ||| (w 1)) ||| (w 2)) ||| (w 3)) ||| (w 4)) ||| (w 5)) ||| (w 6)) ||| (w 7)) ||| (w 8)) ||| (w 9)) ||| (w 10)) ||| (w 11)) ||| (w 12)) ||| (w 13)) ||| (w 14)) ||| (w 15)) ||| (w 16)) ||| (w 17))), .val (.int ((xpk_5 + (1 : Int32)) + (1 : Int32))), .val (.int ((xpk_2 + (8 : Int32)) + (8 : Int32))), .val (.int (xpk_2 + xpk_3)), .val (.int (((0 : Int32) ||| ((w 16) <<< ((0 : Int32) &&& 31))) ||| ((w 17) <<< ((1 : Int32) &&& 31)))), .val (.int (2 : Int32))]) rfl ?_
          show Wq _ _ _ _ _ (T36.setTop (mkF m 140 #[.val (.ref apk_1), .val (.int xpk_2), .val (.int xpk_3), .val (.ref apk_4), .val (.int xpk_5), .val (.int (((((((((((((((((((0 : Int32) ||| (w 0)) ||| (w 1)) ||| (w 2)) ||| (w 3)) ||| (w 4)) ||| (w 5)) ||| (w 6)) ||| (w 7)) ||| (w 8)) ||| (w 9)) ||| (w 10)) ||| (w 11)) ||| (w 12)) ||| (w 13)) ||| (w 14)) ||| (w 15)) ||| (w 16)) ||| (w 17))), .val (.int ((xpk_5 + (1 : Int32)) + (1 : Int32))), .val (.int ((xpk_2 + (8 : Int32)) + (8 : Int32))), .val (.int (xpk_2 + xpk_3)), .val (.int (((0 : Int32) ||| ((w 16) <<< ((0 : Int32) &&& 31))) ||| ((w 17) <<< ((1 : Int32) &&& 31)))), .val (.int (2 : Int32))] []))
          refine Ow.goto X36 hx (pc' := 100) (hb hby d_prog_14_method_18_140) (by decide) (by decide) ?_
          refine Ow.iload X36 hx (pc' := 102) (hb hby d_prog_14_method_18_100) rfl ?_
          refine Ow.iload X36 hx (pc' := 104) (hb hby d_prog_14_method_18_102) rfl ?_
          refine Ow.iadd X36 hx (pc' := 105) (hb hby d_prog_14_method_18_104) (z := (((xpk_2 + (8 : Int32)) + (8 : Int32)) + (2 : Int32))) rfl ?_
          refine Ow.iload X36 hx (pc' := 107) (hb hby d_prog_14_method_18_105) rfl ?_
          by_cases hc107_3 : (((xpk_2 + (8 : Int32)) + (8 : Int32)) + (2 : Int32)) < (xpk_2 + xpk_3)
          · skip
            refine Ow.icmpNo X36 hx (pc' := 110) (hb hby d_prog_14_method_18_107) (tlt hc107_3).2.1 ?_
            have G2 : 18 < xpk_3.toInt := by have := (own_c2 (a := 18) hbd (own_ad hbd.1 (own_ad hbd.1 (own_ad hbd.1 own_z0 8 8 (by decide) (by decide)) 8 8 (by decide) (by decide)) 2 2 (by decide) (by decide))).mp hc107_3; omega
            refine Ow.iload X36 hx (pc' := 112) (hb hby d_prog_14_method_18_110) rfl ?_
            refine Ow.aloadN X36 hx (pc' := 113) (hb hby d_prog_14_method_18_112) rfl rfl ?_
            refine Ow.iload X36 hx (pc' := 115) (hb hby d_prog_14_method_18_113) rfl ?_
            refine Ow.iload X36 hx (pc' := 117) (hb hby d_prog_14_method_18_115) rfl ?_
            refine Ow.iadd X36 hx (pc' := 118) (hb hby d_prog_14_method_18_117) (z := (((xpk_2 + (8 : Int32)) + (8 : Int32)) + (2 : Int32))) rfl ?_
            refine Ow.ldI X36 hx hZ e36 V_apk_1_t36 (pc' := 119) (hb hby d_prog_14_method_18_118) (j := (((xpk_2 + (8 : Int32)) + (8 : Int32)) + (2 : Int32))) (i := (own_n xpk_2 + 18)) (v := (.int (w 18))) ((own_ix (m := 18) hbd.1 (own_ad hbd.1 (own_ad hbd.1 (own_ad hbd.1 own_z0 8 8 (by decide) (by decide)) 8 8 (by decide) (by decide)) 2 2 (by decide) (by decide))).1) ((own_ix (m := 18) hbd.1 (own_ad hbd.1 (own_ad hbd.1 (own_ad hbd.1 own_z0 8 8 (by decide) (by decide)) 8 8 (by decide) (by decide)) 2 2 (by decide) (by decide))).2) (hv _ (own_in (m := 18) hbd (by omega))) ?_
            refine Ow.ior X36 hx (pc' := 120) (hb hby d_prog_14_method_18_119) (z := ((((((((((((((((((((0 : Int32) ||| (w 0)) ||| (w 1)) ||| (w 2)) ||| (w 3)) ||| (w 4)) ||| (w 5)) ||| (w 6)) ||| (w 7)) ||| (w 8)) ||| (w 9)) ||| (w 10)) ||| (w 11)) ||| (w 12)) ||| (w 13)) ||| (w 14)) ||| (w 15)) ||| (w 16)) ||| (w 17)) ||| (w 18))) rfl ?_
            refine Ow.istore X36 hx (pc' := 122) (hb hby d_prog_14_method_18_120) (l' := #[.val (.ref apk_1), .val (.int xpk_2), .val (.int xpk_3), .val (.ref apk_4), .val (.int xpk_5), .val (.int ((((((((((((((((((((0 : Int32) ||| (w 0)) ||| (w 1)) ||| (w 2)) ||| (w 3)) ||| (w 4)) ||| (w 5)) ||| (w 6)) ||| (w 7)) ||| (w 8)) ||| (w 9)) ||| (w 10)) ||| (w 11)) ||| (w 12)) ||| (w 13)) ||| (w 14)) ||| (w 15)) ||| (w 16)) ||| (w 17)) ||| (w 18))), .val (.int ((xpk_5 + (1 : Int32)) + (1 : Int32))), .val (.int ((xpk_2 + (8 : Int32)) + (8 : Int32))), .val (.int (xpk_2 + xpk_3)), .val (.int (((0 : Int32) ||| ((w 16) <<< ((0 : Int32) &&& 31))) ||| ((w 17) <<< ((1 : Int32) &&& 31)))), .val (.int (2 : Int32))]) rfl ?_
            refine Ow.iload X36 hx (pc' := 124) (hb hby d_prog_14_method_18_122) rfl ?_
            refine Ow.aloadN X36 hx (pc' := 125) (hb hby d_prog_14_method_18_124) rfl rfl ?_
            refine Ow.iload X36 hx (pc' := 127) (hb hby d_prog_14_method_18_125) rfl ?_
            refine Ow.iload X36 hx (pc' := 129) (hb hby d_prog_14_method_18_127) rfl ?_
            refine Ow.iadd X36 hx (pc' := 130) (hb hby d_prog_14_method_18_129) (z := (((xpk_2 + (8 : Int32)) + (8 : Int32)) + (2 : Int32))) rfl ?_
            refine Ow.ldI X36 hx hZ e36 V_apk_1_t36 (pc' := 131) (hb hby d_prog_14_method_18_130) (j := (((xpk_2 + (8 : Int32)) + (8 : Int32)) + (2 : Int32))) (i := (own_n xpk_2 + 18)) (v := (.int (w 18))) ((own_ix (m := 18) hbd.1 (own_ad hbd.1 (own_ad hbd.1 (own_ad hbd.1 own_z0 8 8 (by decide) (by decide)) 8 8 (by decide) (by decide)) 2 2 (by decide) (by decide))).1) ((own_ix (m := 18) hbd.1 (own_ad hbd.1 (own_ad hbd.1 (own_ad hbd.1 own_z0 8 8 (by decide) (by decide)) 8 8 (by decide) (by decide)) 2 2 (by decide) (by decide))).2) (hv _ (own_in (m := 18) hbd (by omega))) ?_
            refine Ow.iload X36 hx (pc' := 133) (hb hby d_prog_14_method_18_131) rfl ?_
            refine Ow.ishl X36 hx (pc' := 134) (hb hby d_prog_14_method_18_133) (z := ((w 18) <<< ((2 : Int32) &&& 31))) rfl ?_
            refine Ow.ior X36 hx (pc' := 135) (hb hby d_prog_14_method_18_134) (z := ((((0 : Int32) ||| ((w 16) <<< ((0 : Int32) &&& 31))) ||| ((w 17) <<< ((1 : Int32) &&& 31))) ||| ((w 18) <<< ((2 : Int32) &&& 31)))) rfl ?_
            refine Ow.istore X36 hx (pc' := 137) (hb hby d_prog_14_method_18_135) (l' := #[.val (.ref apk_1), .val (.int xpk_2), .val (.int xpk_3), .val (.ref apk_4), .val (.int xpk_5), .val (.int ((((((((((((((((((((0 : Int32) ||| (w 0)) ||| (w 1)) ||| (w 2)) ||| (w 3)) ||| (w 4)) ||| (w 5)) ||| (w 6)) ||| (w 7)) ||| (w 8)) ||| (w 9)) ||| (w 10)) ||| (w 11)) ||| (w 12)) ||| (w 13)) ||| (w 14)) ||| (w 15)) ||| (w 16)) ||| (w 17)) ||| (w 18))), .val (.int ((xpk_5 + (1 : Int32)) + (1 : Int32))), .val (.int ((xpk_2 + (8 : Int32)) + (8 : Int32))), .val (.int (xpk_2 + xpk_3)), .val (.int ((((0 : Int32) ||| ((w 16) <<< ((0 : Int32) &&& 31))) ||| ((w 17) <<< ((1 : Int32) &&& 31))) ||| ((w 18) <<< ((2 : Int32) &&& 31)))), .val (.int (2 : Int32))]) rfl ?_
            refine Ow.iinc X36 hx (pc' := 140) (hb hby d_prog_14_method_18_137) rfl (l' := #[.val (.ref apk_1), .val (.int xpk_2), .val (.int xpk_3), .val (.ref apk_4), .val (.int xpk_5), .val (.int ((((((((((((((((((((0 : Int32) ||| (w 0)) ||| (w 1)) ||| (w 2)) ||| (w 3)) ||| (w 4)) ||| (w 5)) ||| (w 6)) ||| (w 7)) ||| (w 8)) ||| (w 9)) ||| (w 10)) ||| (w 11)) ||| (w 12)) ||| (w 13)) ||| (w 14)) ||| (w 15)) ||| (w 16)) ||| (w 17)) ||| (w 18))), .val (.int ((xpk_5 + (1 : Int32)) + (1 : Int32))), .val (.int ((xpk_2 + (8 : Int32)) + (8 : Int32))), .val (.int (xpk_2 + xpk_3)), .val (.int ((((0 : Int32) ||| ((w 16) <<< ((0 : Int32) &&& 31))) ||| ((w 17) <<< ((1 : Int32) &&& 31))) ||| ((w 18) <<< ((2 : Int32) &&& 31)))), .val (.int (3 : Int32))]) rfl ?_
            show Wq _ _ _ _ _ (T36.setTop (mkF m 140 #[.val (.ref apk_1), .val (.int xpk_2), .val (.int xpk_3), .val (.ref apk_4), .val (.int xpk_5), .val (.int ((((((((((((((((((((0 : Int32) ||| (w 0)) ||| (w 1)) ||| (w 2)) ||| (w 3)) ||| (w 4)) ||| (w 5)) ||| (w 6)) ||| (w 7)) ||| (w 8)) ||| (w 9)) ||| (w 10)) ||| (w 11)) ||| (w 12)) ||| (w 13)) ||| (w 14)) ||| (w 15)) ||| (w 16)) ||| (w 17)) ||| (w 18))), .val (.int ((xpk_5 + (1 : Int32)) + (1 : Int32))), .val (.int ((xpk_2 + (8 : Int32)) + (8 : Int32))), .val (.int (xpk_2 + xpk_3)), .val (.int ((((0 : Int32) ||| ((w 16) <<< ((0 : Int32) &&& 31))) ||| ((w 17) <<< ((1 : Int32) &&& 31))) ||| ((w 18) <<< ((2 : Int32) &&& 31)))), .val (.int (3 : Int32))] []))
            refine Ow.goto X36 hx (pc' := 100) (hb hby d_prog_14_method_18_140) (by decide) (by decide) ?_
            refine Ow.iload X36 hx (pc' := 102) (hb hby d_prog_14_method_18_100) rfl ?_
            refine Ow.iload X36 hx (pc' := 104) (hb hby d_prog_14_method_18_102) rfl ?_
            refine Ow.iadd X36 hx (pc' := 105) (hb hby d_prog_14_method_18_104) (z := (((xpk_2 + (8 : Int32)) + (8 : Int32)) + (3 : Int32))) rfl ?_
            refine Ow.iload X36 hx (pc' := 107) (hb hby d_prog_14_method_18_105) rfl ?_
            by_cases hc107_4 : (((xpk_2 + (8 : Int32)) + (8 : Int32)) + (3 : Int32)) < (xpk_2 + xpk_3)
            · skip
              refine Ow.icmpNo X36 hx (pc' := 110) (hb hby d_prog_14_method_18_107) (tlt hc107_4).2.1 ?_
              have G3 : 19 < xpk_3.toInt := by have := (own_c2 (a := 19) hbd (own_ad hbd.1 (own_ad hbd.1 (own_ad hbd.1 own_z0 8 8 (by decide) (by decide)) 8 8 (by decide) (by decide)) 3 3 (by decide) (by decide))).mp hc107_4; omega
              refine Ow.iload X36 hx (pc' := 112) (hb hby d_prog_14_method_18_110) rfl ?_
              refine Ow.aloadN X36 hx (pc' := 113) (hb hby d_prog_14_method_18_112) rfl rfl ?_
              refine Ow.iload X36 hx (pc' := 115) (hb hby d_prog_14_method_18_113) rfl ?_
              refine Ow.iload X36 hx (pc' := 117) (hb hby d_prog_14_method_18_115) rfl ?_
              refine Ow.iadd X36 hx (pc' := 118) (hb hby d_prog_14_method_18_117) (z := (((xpk_2 + (8 : Int32)) + (8 : Int32)) + (3 : Int32))) rfl ?_
              refine Ow.ldI X36 hx hZ e36 V_apk_1_t36 (pc' := 119) (hb hby d_prog_14_method_18_118) (j := (((xpk_2 + (8 : Int32)) + (8 : Int32)) + (3 : Int32))) (i := (own_n xpk_2 + 19)) (v := (.int (w 19))) ((own_ix (m := 19) hbd.1 (own_ad hbd.1 (own_ad hbd.1 (own_ad hbd.1 own_z0 8 8 (by decide) (by decide)) 8 8 (by decide) (by decide)) 3 3 (by decide) (by decide))).1) ((own_ix (m := 19) hbd.1 (own_ad hbd.1 (own_ad hbd.1 (own_ad hbd.1 own_z0 8 8 (by decide) (by decide)) 8 8 (by decide) (by decide)) 3 3 (by decide) (by decide))).2) (hv _ (own_in (m := 19) hbd (by omega))) ?_
              refine Ow.ior X36 hx (pc' := 120) (hb hby d_prog_14_method_18_119) (z := (((((((((((((((((((((0 : Int32) ||| (w 0)) ||| (w 1)) ||| (w 2)) ||| (w 3)) ||| (w 4)) ||| (w 5)) ||| (w 6)) ||| (w 7)) ||| (w 8)) ||| (w 9)) ||| (w 10)) ||| (w 11)) ||| (w 12)) ||| (w 13)) ||| (w 14)) ||| (w 15)) ||| (w 16)) ||| (w 17)) ||| (w 18)) ||| (w 19))) rfl ?_
              refine Ow.istore X36 hx (pc' := 122) (hb hby d_prog_14_method_18_120) (l' := #[.val (.ref apk_1), .val (.int xpk_2), .val (.int xpk_3), .val (.ref apk_4), .val (.int xpk_5), .val (.int (((((((((((((((((((((0 : Int32) ||| (w 0)) ||| (w 1)) ||| (w 2)) ||| (w 3)) ||| (w 4)) ||| (w 5)) ||| (w 6)) ||| (w 7)) ||| (w 8)) ||| (w 9)) ||| (w 10)) ||| (w 11)) ||| (w 12)) ||| (w 13)) ||| (w 14)) ||| (w 15)) ||| (w 16)) ||| (w 17)) ||| (w 18)) ||| (w 19))), .val (.int ((xpk_5 + (1 : Int32)) + (1 : Int32))), .val (.int ((xpk_2 + (8 : Int32)) + (8 : Int32))), .val (.int (xpk_2 + xpk_3)), .val (.int ((((0 : Int32) ||| ((w 16) <<< ((0 : Int32) &&& 31))) ||| ((w 17) <<< ((1 : Int32) &&& 31))) ||| ((w 18) <<< ((2 : Int32) &&& 31)))), .val (.int (3 : Int32))]) rfl ?_
              refine Ow.iload X36 hx (pc' := 124) (hb hby d_prog_14_method_18_122) rfl ?_
              refine Ow.aloadN X36 hx (pc' := 125) (hb hby d_prog_14_method_18_124) rfl rfl ?_
              refine Ow.iload X36 hx (pc' := 127) (hb hby d_prog_14_method_18_125) rfl ?_
              refine Ow.iload X36 hx (pc' := 129) (hb hby d_prog_14_method_18_127) rfl ?_
              refine Ow.iadd X36 hx (pc' := 130) (hb hby d_prog_14_method_18_129) (z := (((xpk_2 + (8 : Int32)) + (8 : Int32)) + (3 : Int32))) rfl ?_
              refine Ow.ldI X36 hx hZ e36 V_apk_1_t36 (pc' := 131) (hb hby d_prog_14_method_18_130) (j := (((xpk_2 + (8 : Int32)) + (8 : Int32)) + (3 : Int32))) (i := (own_n xpk_2 + 19)) (v := (.int (w 19))) ((own_ix (m := 19) hbd.1 (own_ad hbd.1 (own_ad hbd.1 (own_ad hbd.1 own_z0 8 8 (by decide) (by decide)) 8 8 (by decide) (by decide)) 3 3 (by decide) (by decide))).1) ((own_ix (m := 19) hbd.1 (own_ad hbd.1 (own_ad hbd.1 (own_ad hbd.1 own_z0 8 8 (by decide) (by decide)) 8 8 (by decide) (by decide)) 3 3 (by decide) (by decide))).2) (hv _ (own_in (m := 19) hbd (by omega))) ?_
              refine Ow.iload X36 hx (pc' := 133) (hb hby d_prog_14_method_18_131) rfl ?_
              refine Ow.ishl X36 hx (pc' := 134) (hb hby d_prog_14_method_18_133) (z := ((w 19) <<< ((3 : Int32) &&& 31))) rfl ?_
              refine Ow.ior X36 hx (pc' := 135) (hb hby d_prog_14_method_18_134) (z := (((((0 : Int32) ||| ((w 16) <<< ((0 : Int32) &&& 31))) ||| ((w 17) <<< ((1 : Int32) &&& 31))) ||| ((w 18) <<< ((2 : Int32) &&& 31))) ||| ((w 19) <<< ((3 : Int32) &&& 31)))) rfl ?_
              refine Ow.istore X36 hx (pc' := 137) (hb hby d_prog_14_method_18_135) (l' := #[.val (.ref apk_1), .val (.int xpk_2), .val (.int xpk_3), .val (.ref apk_4), .val (.int xpk_5), .val (.int (((((((((((((((((((((0 : Int32) ||| (w 0)) ||| (w 1)) ||| (w 2)) ||| (w 3)) ||| (w 4)) ||| (w 5)) ||| (w 6)) ||| (w 7)) ||| (w 8)) ||| (w 9)) ||| (w 10)) ||| (w 11)) ||| (w 12)) ||| (w 13)) ||| (w 14)) ||| (w 15)) ||| (w 16)) ||| (w 17)) ||| (w 18)) ||| (w 19))), .val (.int ((xpk_5 + (1 : Int32)) + (1 : Int32))), .val (.int ((xpk_2 + (8 : Int32)) + (8 : Int32))), .val (.int (xpk_2 + xpk_3)), .val (.int (((((0 : Int32) ||| ((w 16) <<< ((0 : Int32) &&& 31))) ||| ((w 17) <<< ((1 : Int32) &&& 31))) ||| ((w 18) <<< ((2 : Int32) &&& 31))) ||| ((w 19) <<< ((3 : Int32) &&& 31)))), .val (.int (3 : Int32))]) rfl ?_
              refine Ow.iinc X36 hx (pc' := 140) (hb hby d_prog_14_method_18_137) rfl (l' := #[.val (.ref apk_1), .val (.int xpk_2), .val (.int xpk_3), .val (.ref apk_4), .val (.int xpk_5), .val (.int (((((((((((((((((((((0 : Int32) ||| (w 0)) ||| (w 1)) ||| (w 2)) ||| (w 3)) ||| (w 4)) ||| (w 5)) ||| (w 6)) ||| (w 7)) ||| (w 8)) ||| (w 9)) ||| (w 10)) ||| (w 11)) ||| (w 12)) ||| (w 13)) ||| (w 14)) ||| (w 15)) ||| (w 16)) ||| (w 17)) ||| (w 18)) ||| (w 19))), .val (.int ((xpk_5 + (1 : Int32)) + (1 : Int32))), .val (.int ((xpk_2 + (8 : Int32)) + (8 : Int32))), .val (.int (xpk_2 + xpk_3)), .val (.int (((((0 : Int32) ||| ((w 16) <<< ((0 : Int32) &&& 31))) ||| ((w 17) <<< ((1 : Int32) &&& 31))) ||| ((w 18) <<< ((2 : Int32) &&& 31))) ||| ((w 19) <<< ((3 : Int32) &&& 31)))), .val (.int (4 : Int32))]) rfl ?_
              show Wq _ _ _ _ _ (T36.setTop (mkF m 140 #[.val (.ref apk_1), .val (.int xpk_2), .val (.int xpk_3), .val (.ref apk_4), .val (.int xpk_5), .val (.int (((((((((((((((((((((0 : Int32) ||| (w 0)) ||| (w 1)) ||| (w 2)) ||| (w 3)) ||| (w 4)) ||| (w 5)) ||| (w 6)) ||| (w 7)) ||| (w 8)) ||| (w 9)) ||| (w 10)) ||| (w 11)) ||| (w 12)) ||| (w 13)) ||| (w 14)) ||| (w 15)) ||| (w 16)) ||| (w 17)) ||| (w 18)) ||| (w 19))), .val (.int ((xpk_5 + (1 : Int32)) + (1 : Int32))), .val (.int ((xpk_2 + (8 : Int32)) + (8 : Int32))), .val (.int (xpk_2 + xpk_3)), .val (.int (((((0 : Int32) ||| ((w 16) <<< ((0 : Int32) &&& 31))) ||| ((w 17) <<< ((1 : Int32) &&& 31))) ||| ((w 18) <<< ((2 : Int32) &&& 31))) ||| ((w 19) <<< ((3 : Int32) &&& 31)))), .val (.int (4 : Int32))] []))
              refine Ow.goto X36 hx (pc' := 100) (hb hby d_prog_14_method_18_140) (by decide) (by decide) ?_
              refine Ow.iload X36 hx (pc' := 102) (hb hby d_prog_14_method_18_100) rfl ?_
              refine Ow.iload X36 hx (pc' := 104) (hb hby d_prog_14_method_18_102) rfl ?_
              refine Ow.iadd X36 hx (pc' := 105) (hb hby d_prog_14_method_18_104) (z := (((xpk_2 + (8 : Int32)) + (8 : Int32)) + (4 : Int32))) rfl ?_
              refine Ow.iload X36 hx (pc' := 107) (hb hby d_prog_14_method_18_105) rfl ?_
              refine Ow.icmpYes X36 hx (pc' := 143) (hb hby d_prog_14_method_18_107) (flt (mt (own_c2 (a := 20) hbd (own_ad hbd.1 (own_ad hbd.1 (own_ad hbd.1 own_z0 8 8 (by decide) (by decide)) 8 8 (by decide) (by decide)) 4 4 (by decide) (by decide))).mp (by have := hbd.2.2.2; have := hbd.1.1; omega) : ¬ ((((xpk_2 + (8 : Int32)) + (8 : Int32)) + (4 : Int32)) < (xpk_2 + xpk_3)))).2.1 (by decide) (by decide) ?_
              have HN : own_n xpk_3 = 20 := own_cn (n := 20) (by have := hbd.2.2.2; have := hbd.1.1; omega)
              refine Ow.aloadN X36 hx (pc' := 144) (hb hby d_prog_14_method_18_143) rfl rfl ?_
              refine Ow.iload X36 hx (pc' := 146) (hb hby d_prog_14_method_18_144) rfl ?_
              refine Ow.iload X36 hx (pc' := 148) (hb hby d_prog_14_method_18_146) rfl ?_
              refine Ow.i2b X36 hx (pc' := 149) (hb hby d_prog_14_method_18_148) (z := ((((((0 : Int32) ||| ((w 16) <<< ((0 : Int32) &&& 31))) ||| ((w 17) <<< ((1 : Int32) &&& 31))) ||| ((w 18) <<< ((2 : Int32) &&& 31))) ||| ((w 19) <<< ((3 : Int32) &&& 31))).toInt8.toInt32)) rfl ?_
              obtain ⟨T37, h37, X37, e37, W37, Vr37, st37⟩ := asB X36 hx hZ e36 V_apk_4_t36 (j := ((xpk_5 + (1 : Int32)) + (1 : Int32))) (i := (own_n xpk_5 + 2)) ((own_ix (m := 2) hbd.2.1 (own_ad hbd.2.1 (own_ad hbd.2.1 own_z0 1 1 (by decide) (by decide)) 1 1 (by decide) (by decide))).1) ((own_ix (m := 2) hbd.2.1 (own_ad hbd.2.1 (own_ad hbd.2.1 own_z0 1 1 (by decide) (by decide)) 1 1 (by decide) (by decide))).2) (own_ln hbd.2.1 (by first | exact hl | (simp only [List.length_set]; exact hl)) (by decide)) (y := (((((((0 : Int32) ||| ((w 16) <<< ((0 : Int32) &&& 31))) ||| ((w 17) <<< ((1 : Int32) &&& 31))) ||| ((w 18) <<< ((2 : Int32) &&& 31))) ||| ((w 19) <<< ((3 : Int32) &&& 31))).toInt8.toInt32).toInt8.toInt32)) (rfl) (g := (mkF m 149 #[.val (.ref apk_1), .val (.int xpk_2), .val (.int xpk_3), .val (.ref apk_4), .val (.int xpk_5), .val (.int (((((((((((((((((((((0 : Int32) ||| (w 0)) ||| (w 1)) ||| (w 2)) ||| (w 3)) ||| (w 4)) ||| (w 5)) ||| (w 6)) ||| (w 7)) ||| (w 8)) ||| (w 9)) ||| (w 10)) ||| (w 11)) ||| (w 12)) ||| (w 13)) ||| (w 14)) ||| (w 15)) ||| (w 16)) ||| (w 17)) ||| (w 18)) ||| (w 19))), .val (.int ((xpk_5 + (1 : Int32)) + (1 : Int32))), .val (.int ((xpk_2 + (8 : Int32)) + (8 : Int32))), .val (.int (xpk_2 + xpk_3)), .val (.int (((((0 : Int32) ||| ((w 16) <<< ((0 : Int32) &&& 31))) ||| ((w 17) <<< ((1 : Int32) &&& 31))) ||| ((w 18) <<< ((2 : Int32) &&& 31))) ||| ((w 19) <<< ((3 : Int32) &&& 31)))), .val (.int (4 : Int32))] [(.int ((((((0 : Int32) ||| ((w 16) <<< ((0 : Int32) &&& 31))) ||| ((w 17) <<< ((1 : Int32) &&& 31))) ||| ((w 18) <<< ((2 : Int32) &&& 31))) ||| ((w 19) <<< ((3 : Int32) &&& 31))).toInt8.toInt32)), (.int ((xpk_5 + (1 : Int32)) + (1 : Int32))), (.ref apk_4)])) rfl rfl (hb hby d_prog_14_method_18_149)
              refine Wq.step st37 ?_
              have N37 := Fr.snoc X37 N36 g_apk_4
              have K37 : Keep h0 h37 [apk_4] := K36.wr W37 (Or.inl (List.mem_of_getElem? (i := 0) rfl))
              have Z37 : n0 ≤ h37.size := Nat.le_trans Z36 (Keep.of_wr W37).1
              have V_apk_1_t37 := V_apk_1_t36.other W37 ne_apk_1_apk_4
              have V_apk_4_t37 : Al Z h37 apk_4 .byte (((ds.set (own_n xpk_5 + 0) (.int (((((((((((0 : Int32) ||| ((w 0) <<< ((0 : Int32) &&& 31))) ||| ((w 1) <<< ((1 : Int32) &&& 31))) ||| ((w 2) <<< ((2 : Int32) &&& 31))) ||| ((w 3) <<< ((3 : Int32) &&& 31))) ||| ((w 4) <<< ((4 : Int32) &&& 31))) ||| ((w 5) <<< ((5 : Int32) &&& 31))) ||| ((w 6) <<< ((6 : Int32) &&& 31))) ||| ((w 7) <<< ((7 : Int32) &&& 31))).toInt8.toInt32).toInt8.toInt32))).set (own_n xpk_5 + 1) (.int (((((((((((0 : Int32) ||| ((w 8) <<< ((0 : Int32) &&& 31))) ||| ((w 9) <<< ((1 : Int32) &&& 31))) ||| ((w 10) <<< ((2 : Int32) &&& 31))) ||| ((w 11) <<< ((3 : Int32) &&& 31))) ||| ((w 12) <<< ((4 : Int32) &&& 31))) ||| ((w 13) <<< ((5 : Int32) &&& 31))) ||| ((w 14) <<< ((6 : Int32) &&& 31))) ||| ((w 15) <<< ((7 : Int32) &&& 31))).toInt8.toInt32).toInt8.toInt32))).set (own_n xpk_5 + 2) (.int (((((((0 : Int32) ||| ((w 16) <<< ((0 : Int32) &&& 31))) ||| ((w 17) <<< ((1 : Int32) &&& 31))) ||| ((w 18) <<< ((2 : Int32) &&& 31))) ||| ((w 19) <<< ((3 : Int32) &&& 31))).toInt8.toInt32).toInt8.toInt32))) := Vr37
              show Wq _ _ _ _ _ (T37.setTop (mkF m 150 #[.val (.ref apk_1), .val (.int xpk_2), .val (.int xpk_3), .val (.ref apk_4), .val (.int xpk_5), .val (.int (((((((((((((((((((((0 : Int32) ||| (w 0)) ||| (w 1)) ||| (w 2)) ||| (w 3)) ||| (w 4)) ||| (w 5)) ||| (w 6)) ||| (w 7)) ||| (w 8)) ||| (w 9)) ||| (w 10)) ||| (w 11)) ||| (w 12)) ||| (w 13)) ||| (w 14)) ||| (w 15)) ||| (w 16)) ||| (w 17)) ||| (w 18)) ||| (w 19))), .val (.int ((xpk_5 + (1 : Int32)) + (1 : Int32))), .val (.int ((xpk_2 + (8 : Int32)) + (8 : Int32))), .val (.int (xpk_2 + xpk_3)), .val (.int (((((0 : Int32) ||| ((w 16) <<< ((0 : Int32) &&& 31))) ||| ((w 17) <<< ((1 : Int32) &&& 31))) ||| ((w 18) <<< ((2 : Int32) &&& 31))) ||| ((w 19) <<< ((3 : Int32) &&& 31)))), .val (.int (4 : Int32))] []))
              refine Ow.iload X37 hx (pc' := 152) (hb hby d_prog_14_method_18_150) rfl ?_
              exact Wq.ret X37 (BodyLoose.notSynchronized Bd) (rv := some (.int (((((((((((((((((((((0 : Int32) ||| (w 0)) ||| (w 1)) ||| (w 2)) ||| (w 3)) ||| (w 4)) ||| (w 5)) ||| (w 6)) ||| (w 7)) ||| (w 8)) ||| (w 9)) ||| (w 10)) ||| (w 11)) ||| (w 12)) ||| (w 13)) ||| (w 14)) ||| (w 15)) ||| (w 16)) ||| (w 17)) ||| (w 18)) ||| (w 19)))) (fun h => by rw [Bd.returns] at h; cases h) (fun _ hr => retOut X37 hx Bd.returns rfl (Or.inl ⟨rfl, Or.inl rfl, _, rfl⟩) (hb hby d_prog_14_method_18_152) hr) (by decide) (by decide) (by rw [e37]; exact ⟨by rw [HN]; rfl, N37, K37, (by rw [HN]; exact V_apk_4_t37)⟩)
            · skip
              refine Ow.icmpYes X36 hx (pc' := 143) (hb hby d_prog_14_method_18_107) (flt hc107_4).2.1 (by decide) (by decide) ?_
              have HN : own_n xpk_3 = 19 := own_cn (n := 19) (by have := mt (own_c2 (a := 19) hbd (own_ad hbd.1 (own_ad hbd.1 (own_ad hbd.1 own_z0 8 8 (by decide) (by decide)) 8 8 (by decide) (by decide)) 3 3 (by decide) (by decide))).mpr hc107_4; omega)
              refine Ow.aloadN X36 hx (pc' := 144) (hb hby d_prog_14_method_18_143) rfl rfl ?_
              refine Ow.iload X36 hx (pc' := 146) (hb hby d_prog_14_method_18_144) rfl ?_
              refine Ow.iload X36 hx (pc' := 148) (hb hby d_prog_14_method_18_146) rfl ?_
              refine Ow.i2b X36 hx (pc' := 149) (hb hby d_prog_14_method_18_148) (z := (((((0 : Int32) ||| ((w 16) <<< ((0 : Int32) &&& 31))) ||| ((w 17) <<< ((1 : Int32) &&& 31))) ||| ((w 18) <<< ((2 : Int32) &&& 31))).toInt8.toInt32)) rfl ?_
              obtain ⟨T38, h38, X38, e38, W38, Vr38, st38⟩ := asB X36 hx hZ e36 V_apk_4_t36 (j := ((xpk_5 + (1 : Int32)) + (1 : Int32))) (i := (own_n xpk_5 + 2)) ((own_ix (m := 2) hbd.2.1 (own_ad hbd.2.1 (own_ad hbd.2.1 own_z0 1 1 (by decide) (by decide)) 1 1 (by decide) (by decide))).1) ((own_ix (m := 2) hbd.2.1 (own_ad hbd.2.1 (own_ad hbd.2.1 own_z0 1 1 (by decide) (by decide)) 1 1 (by decide) (by decide))).2) (own_ln hbd.2.1 (by first | exact hl | (simp only [List.length_set]; exact hl)) (by decide)) (y := ((((((0 : Int32) ||| ((w 16) <<< ((0 : Int32) &&& 31))) ||| ((w 17) <<< ((1 : Int32) &&& 31))) ||| ((w 18) <<< ((2 : Int32) &&& 31))).toInt8.toInt32).toInt8.toInt32)) (rfl) (g := (mkF m 149 #[.val (.ref apk_1), .val (.int xpk_2), .val (.int xpk_3), .val (.ref apk_4), .val (.int xpk_5), .val (.int ((((((((((((((((((((0 : Int32) ||| (w 0)) ||| (w 1)) ||| (w 2)) ||| (w 3)) ||| (w 4)) ||| (w 5)) ||| (w 6)) ||| (w 7)) ||| (w 8)) ||| (w 9)) ||| (w 10)) ||| (w 11)) ||| (w 12)) ||| (w 13)) ||| (w 14)) ||| (w 15)) ||| (w 16)) ||| (w 17)) ||| (w 18))), .val (.int ((xpk_5 + (1 : Int32)) + (1 : Int32))), .val (.int ((xpk_2 + (8 : Int32)) + (8 : Int32))), .val (.int (xpk_2 + xpk_3)), .val (.int ((((0 : Int32) ||| ((w 16) <<< ((0 : Int32) &&& 31))) ||| ((w 17) <<< ((1 : Int32) &&& 31))) ||| ((w 18) <<< ((2 : Int32) &&& 31)))), .val (.int (3 : Int32))] [(.int (((((0 : Int32) ||| ((w 16) <<< ((0 : Int32) &&& 31))) ||| ((w 17) <<< ((1 : Int32) &&& 31))) ||| ((w 18) <<< ((2 : Int32) &&& 31))).toInt8.toInt32)), (.int ((xpk_5 + (1 : Int32)) + (1 : Int32))), (.ref apk_4)])) rfl rfl (hb hby d_prog_14_method_18_149)
              refine Wq.step st38 ?_
              have N38 := Fr.snoc X38 N36 g_apk_4
              have K38 : Keep h0 h38 [apk_4] := K36.wr W38 (Or.inl (List.mem_of_getElem? (i := 0) rfl))
              have Z38 : n0 ≤ h38.size := Nat.le_trans Z36 (Keep.of_wr W38).1
              have V_apk_1_t38 := V_apk_1_t36.other W38 ne_apk_1_apk_4
              have V_apk_4_t38 : Al Z h38 apk_4 .byte (((ds.set (own_n xpk_5 + 0) (.int (((((((((((0 : Int32) ||| ((w 0) <<< ((0 : Int32) &&& 31))) ||| ((w 1) <<< ((1 : Int32) &&& 31))) ||| ((w 2) <<< ((2 : Int32) &&& 31))) ||| ((w 3) <<< ((3 : Int32) &&& 31))) ||| ((w 4) <<< ((4 : Int32) &&& 31))) ||| ((w 5) <<< ((5 : Int32) &&& 31))) ||| ((w 6) <<< ((6 : Int32) &&& 31))) ||| ((w 7) <<< ((7 : Int32) &&& 31))).toInt8.toInt32).toInt8.toInt32))).set (own_n xpk_5 + 1) (.int (((((((((((0 : Int32) ||| ((w 8) <<< ((0 : Int32) &&& 31))) ||| ((w 9) <<< ((1 : Int32) &&& 31))) ||| ((w 10) <<< ((2 : Int32) &&& 31))) ||| ((w 11) <<< ((3 : Int32) &&& 31))) ||| ((w 12) <<< ((4 : Int32) &&& 31))) ||| ((w 13) <<< ((5 : Int32) &&& 31))) ||| ((w 14) <<< ((6 : Int32) &&& 31))) ||| ((w 15) <<< ((7 : Int32) &&& 31))).toInt8.toInt32).toInt8.toInt32))).set (own_n xpk_5 + 2) (.int ((((((0 : Int32) ||| ((w 16) <<< ((0 : Int32) &&& 31))) ||| ((w 17) <<< ((1 : Int32) &&& 31))) ||| ((w 18) <<< ((2 : Int32) &&& 31))).toInt8.toInt32).toInt8.toInt32))) := Vr38
              show Wq _ _ _ _ _ (T38.setTop (mkF m 150 #[.val (.ref apk_1), .val (.int xpk_2), .val (.int xpk_3), .val (.ref apk_4), .val (.int xpk_5), .val (.int ((((((((((((((((((((0 : Int32) ||| (w 0)) ||| (w 1)) ||| (w 2)) ||| (w 3)) ||| (w 4)) ||| (w 5)) ||| (w 6)) ||| (w 7)) ||| (w 8)) ||| (w 9)) ||| (w 10)) ||| (w 11)) ||| (w 12)) ||| (w 13)) ||| (w 14)) ||| (w 15)) ||| (w 16)) ||| (w 17)) ||| (w 18))), .val (.int ((xpk_5 + (1 : Int32)) + (1 : Int32))), .val (.int ((xpk_2 + (8 : Int32)) + (8 : Int32))), .val (.int (xpk_2 + xpk_3)), .val (.int ((((0 : Int32) ||| ((w 16) <<< ((0 : Int32) &&& 31))) ||| ((w 17) <<< ((1 : Int32) &&& 31))) ||| ((w 18) <<< ((2 : Int32) &&& 31)))), .val (.int (3 : Int32))] []))
              refine Ow.iload X38 hx (pc' := 152) (hb hby d_prog_14_method_18_150) rfl ?_
              exact Wq.ret X38 (BodyLoose.notSynchronized Bd) (rv := some (.int ((((((((((((((((((((0 : Int32) ||| (w 0)) ||| (w 1)) ||| (w 2)) ||| (w 3)) ||| (w 4)) ||| (w 5)) ||| (w 6)) ||| (w 7)) ||| (w 8)) ||| (w 9)) ||| (w 10)) ||| (w 11)) ||| (w 12)) ||| (w 13)) ||| (w 14)) ||| (w 15)) ||| (w 16)) ||| (w 17)) ||| (w 18)))) (fun h => by rw [Bd.returns] at h; cases h) (fun _ hr => retOut X38 hx Bd.returns rfl (Or.inl ⟨rfl, Or.inl rfl, _, rfl⟩) (hb hby d_prog_14_method_18_152) hr) (by decide) (by decide) (by rw [e38]; exact ⟨by rw [HN]; rfl, N38, K38, (by rw [HN]; exact V_apk_4_t38)⟩)
          · skip
            refine Ow.icmpYes X36 hx (pc' := 143) (hb hby d_prog_14_method_18_107) (flt hc107_3).2.1 (by decide) (by decide) ?_
            have HN : own_n xpk_3 = 18 := own_cn (n := 18) (by have := mt (own_c2 (a := 18) hbd (own_ad hbd.1 (own_ad hbd.1 (own_ad hbd.1 own_z0 8 8 (by decide) (by decide)) 8 8 (by decide) (by decide)) 2 2 (by decide) (by decide))).mpr hc107_3; omega)
            refine Ow.aloadN X36 hx (pc' := 144) (hb hby d_prog_14_method_18_143) rfl rfl ?_
            refine Ow.iload X36 hx (pc' := 146) (hb hby d_prog_14_method_18_144) rfl ?_
            refine Ow.iload X36 hx (pc' := 148) (hb hby d_prog_14_method_18_146) rfl ?_
            refine Ow.i2b X36 hx (pc' := 149) (hb hby d_prog_14_method_18_148) (z := ((((0 : Int32) ||| ((w 16) <<< ((0 : Int32) &&& 31))) ||| ((w 17) <<< ((1 : Int32) &&& 31))).toInt8.toInt32)) rfl ?_
            obtain ⟨T39, h39, X39, e39, W39, Vr39, st39⟩ := asB X36 hx hZ e36 V_apk_4_t36 (j := ((xpk_5 + (1 : Int32)) + (1 : Int32))) (i := (own_n xpk_5 + 2)) ((own_ix (m := 2) hbd.2.1 (own_ad hbd.2.1 (own_ad hbd.2.1 own_z0 1 1 (by decide) (by decide)) 1 1 (by decide) (by decide))).1) ((own_ix (m := 2) hbd.2.1 (own_ad hbd.2.1 (own_ad hbd.2.1 own_z0 1 1 (by decide) (by decide)) 1 1 (by decide) (by decide))).2) (own_ln hbd.2.1 (by first | exact hl | (simp only [List.length_set]; exact hl)) (by decide)) (y := (((((0 : Int32) ||| ((w 16) <<< ((0 : Int32) &&& 31))) ||| ((w 17) <<< ((1 : Int32) &&& 31))).toInt8.toInt32).toInt8.toInt32)) (rfl) (g := (mkF m 149 #[.val (.ref apk_1), .val (.int xpk_2), .val (.int xpk_3), .val (.ref apk_4), .val (.int xpk_5), .val (.int (((((((((((((((((((0 : Int32) ||| (w 0)) ||| (w 1)) ||| (w 2)) ||| (w 3)) ||| (w 4)) ||| (w 5)) ||| (w 6)) ||| (w 7)) ||| (w 8)) ||| (w 9)) ||| (w 10)) ||| (w 11)) ||| (w 12)) ||| (w 13)) ||| (w 14)) ||| (w 15)) ||| (w 16)) ||| (w 17))), .val (.int ((xpk_5 + (1 : Int32)) + (1 : Int32))), .val (.int ((xpk_2 + (8 : Int32)) + (8 : Int32))), .val (.int (xpk_2 + xpk_3)), .val (.int (((0 : Int32) ||| ((w 16) <<< ((0 : Int32) &&& 31))) ||| ((w 17) <<< ((1 : Int32) &&& 31)))), .val (.int (2 : Int32))] [(.int ((((0 : Int32) ||| ((w 16) <<< ((0 : Int32) &&& 31))) ||| ((w 17) <<< ((1 : Int32) &&& 31))).toInt8.toInt32)), (.int ((xpk_5 + (1 : Int32)) + (1 : Int32))), (.ref apk_4)])) rfl rfl (hb hby d_prog_14_method_18_149)
            refine Wq.step st39 ?_
            have N39 := Fr.snoc X39 N36 g_apk_4
            have K39 : Keep h0 h39 [apk_4] := K36.wr W39 (Or.inl (List.mem_of_getElem? (i := 0) rfl))
            have Z39 : n0 ≤ h39.size := Nat.le_trans Z36 (Keep.of_wr W39).1
            have V_apk_1_t39 := V_apk_1_t36.other W39 ne_apk_1_apk_4
            have V_apk_4_t39 : Al Z h39 apk_4 .byte (((ds.set (own_n xpk_5 + 0) (.int (((((((((((0 : Int32) ||| ((w 0) <<< ((0 : Int32) &&& 31))) ||| ((w 1) <<< ((1 : Int32) &&& 31))) ||| ((w 2) <<< ((2 : Int32) &&& 31))) ||| ((w 3) <<< ((3 : Int32) &&& 31))) ||| ((w 4) <<< ((4 : Int32) &&& 31))) ||| ((w 5) <<< ((5 : Int32) &&& 31))) ||| ((w 6) <<< ((6 : Int32) &&& 31))) ||| ((w 7) <<< ((7 : Int32) &&& 31))).toInt8.toInt32).toInt8.toInt32))).set (own_n xpk_5 + 1) (.int (((((((((((0 : Int32) ||| ((w 8) <<< ((0 : Int32) &&& 31))) ||| ((w 9) <<< ((1 : Int32) &&& 31))) ||| ((w 10) <<< ((2 : Int32) &&& 31))) ||| ((w 11) <<< ((3 : Int32) &&& 31))) ||| ((w 12) <<< ((4 : Int32) &&& 31))) ||| ((w 13) <<< ((5 : Int32) &&& 31))) ||| ((w 14) <<< ((6 : Int32) &&& 31))) ||| ((w 15) <<< ((7 : Int32) &&& 31))).toInt8.toInt32).toInt8.toInt32))).set (own_n xpk_5 + 2) (.int (((((0 : Int32) ||| ((w 16) <<< ((0 : Int32) &&& 31))) ||| ((w 17) <<< ((1 : Int32) &&& 31))).toInt8.toInt32).toInt8.toInt32))) := Vr39
            show Wq _ _ _ _ _ (T39.setTop (mkF m 150 #[.val (.ref apk_1), .val (.int xpk_2), .val (.int xpk_3), .val (.ref apk_4), .val (.int xpk_5), .val (.int (((((((((((((((((((0 : Int32) ||| (w 0)) ||| (w 1)) ||| (w 2)) ||| (w 3)) ||| (w 4)) ||| (w 5)) ||| (w 6)) ||| (w 7)) ||| (w 8)) ||| (w 9)) ||| (w 10)) ||| (w 11)) ||| (w 12)) ||| (w 13)) ||| (w 14)) ||| (w 15)) ||| (w 16)) ||| (w 17))), .val (.int ((xpk_5 + (1 : Int32)) + (1 : Int32))), .val (.int ((xpk_2 + (8 : Int32)) + (8 : Int32))), .val (.int (xpk_2 + xpk_3)), .val (.int (((0 : Int32) ||| ((w 16) <<< ((0 : Int32) &&& 31))) ||| ((w 17) <<< ((1 : Int32) &&& 31)))), .val (.int (2 : Int32))] []))
            refine Ow.iload X39 hx (pc' := 152) (hb hby d_prog_14_method_18_150) rfl ?_
            exact Wq.ret X39 (BodyLoose.notSynchronized Bd) (rv := some (.int (((((((((((((((((((0 : Int32) ||| (w 0)) ||| (w 1)) ||| (w 2)) ||| (w 3)) ||| (w 4)) ||| (w 5)) ||| (w 6)) ||| (w 7)) ||| (w 8)) ||| (w 9)) ||| (w 10)) ||| (w 11)) ||| (w 12)) ||| (w 13)) ||| (w 14)) ||| (w 15)) ||| (w 16)) ||| (w 17)))) (fun h => by rw [Bd.returns] at h; cases h) (fun _ hr => retOut X39 hx Bd.returns rfl (Or.inl ⟨rfl, Or.inl rfl, _, rfl⟩) (hb hby d_prog_14_method_18_152) hr) (by decide) (by decide) (by rw [e39]; exact ⟨by rw [HN]; rfl, N39, K39, (by rw [HN]; exact V_apk_4_t39)⟩)
        · skip
          refine Ow.icmpYes X36 hx (pc' := 143) (hb hby d_prog_14_method_18_107) (flt hc107_2).2.1 (by decide) (by decide) ?_
          have HN : own_n xpk_3 = 17 := own_cn (n := 17) (by have := mt (own_c2 (a := 17) hbd (own_ad hbd.1 (own_ad hbd.1 (own_ad hbd.1 own_z0 8 8 (by decide) (by decide)) 8 8 (by decide) (by decide)) 1 1 (by decide) (by decide))).mpr hc107_2; omega)
          refine Ow.aloadN X36 hx (pc' := 144) (hb hby d_prog_14_method_18_143) rfl rfl ?_
          refine Ow.iload X36 hx (pc' := 146) (hb hby d_prog_14_method_18_144) rfl ?_
          refine Ow.iload X36 hx (pc' := 148) (hb hby d_prog_14_method_18_146) rfl ?_
          refine Ow.i2b X36 hx (pc' := 149) (hb hby d_prog_14_method_18_148) (z := (((0 : Int32) ||| ((w 16) <<< ((0 : Int32) &&& 31))).toInt8.toInt32)) rfl ?_
          obtain ⟨T40, h40, X40, e40, W40, Vr40, st40⟩ := asB X36 hx hZ e36 V_apk_4_t36 (j := ((xpk_5 + (1 : Int32)) + (1 : Int32))) (i := (own_n xpk_5 + 2)) ((own_ix (m := 2) hbd.2.1 (own_ad hbd.2.1 (own_ad hbd.2.1 own_z0 1 1 (by decide) (by decide)) 1 1 (by decide) (by decide))).1) ((own_ix (m := 2) hbd.2.1 (own_ad hbd.2.1 (own_ad hbd.2.1 own_z0 1 1 (by decide) (by decide)) 1 1 (by decide) (by decide))).2) (own_ln hbd.2.1 (by first | exact hl | (simp only [List.length_set]; exact hl)) (by decide)) (y := ((((0 : Int32) ||| ((w 16) <<< ((0 : Int32) &&& 31))).toInt8.toInt32).toInt8.toInt32)) (rfl) (g := (mkF m 149 #[.val (.ref apk_1), .val (.int xpk_2), .val (.int xpk_3), .val (.ref apk_4), .val (.int xpk_5), .val (.int ((((((((((((((((((0 : Int32) ||| (w 0)) ||| (w 1)) ||| (w 2)) ||| (w 3)) ||| (w 4)) ||| (w 5)) ||| (w 6)) ||| (w 7)) ||| (w 8)) ||| (w 9)) ||| (w 10)) ||| (w 11)) ||| (w 12)) ||| (w 13)) ||| (w 14)) ||| (w 15)) ||| (w 16))), .val (.int ((xpk_5 + (1 : Int32)) + (1 : Int32))), .val (.int ((xpk_2 + (8 : Int32)) + (8 : Int32))), .val (.int (xpk_2 + xpk_3)), .val (.int ((0 : Int32) ||| ((w 16) <<< ((0 : Int32) &&& 31)))), .val (.int (1 : Int32))] [(.int (((0 : Int32) ||| ((w 16) <<< ((0 : Int32) &&& 31))).toInt8.toInt32)), (.int ((xpk_5 + (1 : Int32)) + (1 : Int32))), (.ref apk_4)])) rfl rfl (hb hby d_prog_14_method_18_149)
          refine Wq.step st40 ?_
          have N40 := Fr.snoc X40 N36 g_apk_4
          have K40 : Keep h0 h40 [apk_4] := K36.wr W40 (Or.inl (List.mem_of_getElem? (i := 0) rfl))
          have Z40 : n0 ≤ h40.size := Nat.le_trans Z36 (Keep.of_wr W40).1
          have V_apk_1_t40 := V_apk_1_t36.other W40 ne_apk_1_apk_4
          have V_apk_4_t40 : Al Z h40 apk_4 .byte (((ds.set (own_n xpk_5 + 0) (.int (((((((((((0 : Int32) ||| ((w 0) <<< ((0 : Int32) &&& 31))) ||| ((w 1) <<< ((1 : Int32) &&& 31))) ||| ((w 2) <<< ((2 : Int32) &&& 31))) ||| ((w 3) <<< ((3 : Int32) &&& 31))) ||| ((w 4) <<< ((4 : Int32) &&& 31))) ||| ((w 5) <<< ((5 : Int32) &&& 31))) ||| ((w 6) <<< ((6 : Int32) &&& 31))) ||| ((w 7) <<< ((7 : Int32) &&& 31))).toInt8.toInt32).toInt8.toInt32))).set (own_n xpk_5 + 1) (.int (((((((((((0 : Int32) ||| ((w 8) <<< ((0 : Int32) &&& 31))) ||| ((w 9) <<< ((1 : Int32) &&& 31))) ||| ((w 10) <<< ((2 : Int32) &&& 31))) ||| ((w 11) <<< ((3 : Int32) &&& 31))) ||| ((w 12) <<< ((4 : Int32) &&& 31))) ||| ((w 13) <<< ((5 : Int32) &&& 31))) ||| ((w 14) <<< ((6 : Int32) &&& 31))) ||| ((w 15) <<< ((7 : Int32) &&& 31))).toInt8.toInt32).toInt8.toInt32))).set (own_n xpk_5 + 2) (.int ((((0 : Int32) ||| ((w 16) <<< ((0 : Int32) &&& 31))).toInt8.toInt32).toInt8.toInt32))) := Vr40
          show Wq _ _ _ _ _ (T40.setTop (mkF m 150 #[.val (.ref apk_1), .val (.int xpk_2), .val (.int xpk_3), .val (.ref apk_4), .val (.int xpk_5), .val (.int ((((((((((((((((((0 : Int32) ||| (w 0)) ||| (w 1)) ||| (w 2)) ||| (w 3)) ||| (w 4)) ||| (w 5)) ||| (w 6)) ||| (w 7)) ||| (w 8)) ||| (w 9)) ||| (w 10)) ||| (w 11)) ||| (w 12)) ||| (w 13)) ||| (w 14)) ||| (w 15)) ||| (w 16))), .val (.int ((xpk_5 + (1 : Int32)) + (1 : Int32))), .val (.int ((xpk_2 + (8 : Int32)) + (8 : Int32))), .val (.int (xpk_2 + xpk_3)), .val (.int ((0 : Int32) ||| ((w 16) <<< ((0 : Int32) &&& 31)))), .val (.int (1 : Int32))] []))
          refine Ow.iload X40 hx (pc' := 152) (hb hby d_prog_14_method_18_150) rfl ?_
          exact Wq.ret X40 (BodyLoose.notSynchronized Bd) (rv := some (.int ((((((((((((((((((0 : Int32) ||| (w 0)) ||| (w 1)) ||| (w 2)) ||| (w 3)) ||| (w 4)) ||| (w 5)) ||| (w 6)) ||| (w 7)) ||| (w 8)) ||| (w 9)) ||| (w 10)) ||| (w 11)) ||| (w 12)) ||| (w 13)) ||| (w 14)) ||| (w 15)) ||| (w 16)))) (fun h => by rw [Bd.returns] at h; cases h) (fun _ hr => retOut X40 hx Bd.returns rfl (Or.inl ⟨rfl, Or.inl rfl, _, rfl⟩) (hb hby d_prog_14_method_18_152) hr) (by decide) (by decide) (by rw [e40]; exact ⟨by rw [HN]; rfl, N40, K40, (by rw [HN]; exact V_apk_4_t40)⟩)
      · skip
        refine Ow.icmpYes X36 hx (pc' := 150) (hb hby d_prog_14_method_18_91) (flt hc91).2.1 (by decide) (by decide) ?_
        have HN : own_n xpk_3 = 16 := own_cn (n := 16) (by have := mt (own_c2 (a := 16) hbd (own_ad hbd.1 (own_ad hbd.1 own_z0 8 8 (by decide) (by decide)) 8 8 (by decide) (by decide))).mpr hc91; have := hbd.2.2.2; have := hbd.1.1; omega)
        refine Ow.iload X36 hx (pc' := 152) (hb hby d_prog_14_method_18_150) rfl ?_
        exact Wq.ret X36 (BodyLoose.notSynchronized Bd) (rv := some (.int (((((((((((((((((0 : Int32) ||| (w 0)) ||| (w 1)) ||| (w 2)) ||| (w 3)) ||| (w 4)) ||| (w 5)) ||| (w 6)) ||| (w 7)) ||| (w 8)) ||| (w 9)) ||| (w 10)) ||| (w 11)) ||| (w 12)) ||| (w 13)) ||| (w 14)) ||| (w 15)))) (fun h => by rw [Bd.returns] at h; cases h) (fun _ hr => retOut X36 hx Bd.returns rfl (Or.inl ⟨rfl, Or.inl rfl, _, rfl⟩) (hb hby d_prog_14_method_18_152) hr) (by decide) (by decide) (by rw [e36]; exact ⟨by rw [HN]; rfl, N36, K36, (by rw [HN]; exact V_apk_4_t36)⟩)
def own_fl (b : Int64) : List Value := [(.int ((b &&& (1 : Int64)).toInt32)), (.int ((((b.toUInt64 >>> ((1 : Int32) &&& 0x3f).toInt64.toUInt64).toInt64) &&& (1 : Int64)).toInt32)), (.int ((((b.toUInt64 >>> ((2 : Int32) &&& 0x3f).toInt64.toUInt64).toInt64) &&& (1 : Int64)).toInt32)), (.int ((((b.toUInt64 >>> ((3 : Int32) &&& 0x3f).toInt64.toUInt64).toInt64) &&& (1 : Int64)).toInt32)), (.int ((((b.toUInt64 >>> ((4 : Int32) &&& 0x3f).toInt64.toUInt64).toInt64) &&& (1 : Int64)).toInt32)), (.int ((((b.toUInt64 >>> ((5 : Int32) &&& 0x3f).toInt64.toUInt64).toInt64) &&& (1 : Int64)).toInt32)), (.int ((((b.toUInt64 >>> ((6 : Int32) &&& 0x3f).toInt64.toUInt64).toInt64) &&& (1 : Int64)).toInt32)), (.int ((((b.toUInt64 >>> ((7 : Int32) &&& 0x3f).toInt64.toUInt64).toInt64) &&& (1 : Int64)).toInt32)), (.int ((((b.toUInt64 >>> ((8 : Int32) &&& 0x3f).toInt64.toUInt64).toInt64) &&& (1 : Int64)).toInt32)), (.int ((((b.toUInt64 >>> ((9 : Int32) &&& 0x3f).toInt64.toUInt64).toInt64) &&& (1 : Int64)).toInt32)), (.int ((((b.toUInt64 >>> ((10 : Int32) &&& 0x3f).toInt64.toUInt64).toInt64) &&& (1 : Int64)).toInt32)), (.int ((((b.toUInt64 >>> ((11 : Int32) &&& 0x3f).toInt64.toUInt64).toInt64) &&& (1 : Int64)).toInt32)), (.int ((((b.toUInt64 >>> ((12 : Int32) &&& 0x3f).toInt64.toUInt64).toInt64) &&& (1 : Int64)).toInt32)), (.int ((((b.toUInt64 >>> ((13 : Int32) &&& 0x3f).toInt64.toUInt64).toInt64) &&& (1 : Int64)).toInt32)), (.int ((((b.toUInt64 >>> ((14 : Int32) &&& 0x3f).toInt64.toUInt64).toInt64) &&& (1 : Int64)).toInt32)), (.int ((((b.toUInt64 >>> ((15 : Int32) &&& 0x3f).toInt64.toUInt64).toInt64) &&& (1 : Int64)).toInt32)), (.int ((((b.toUInt64 >>> ((16 : Int32) &&& 0x3f).toInt64.toUInt64).toInt64) &&& (1 : Int64)).toInt32)), (.int ((((b.toUInt64 >>> ((17 : Int32) &&& 0x3f).toInt64.toUInt64).toInt64) &&& (1 : Int64)).toInt32)), (.int ((((b.toUInt64 >>> ((18 : Int32) &&& 0x3f).toInt64.toUInt64).toInt64) &&& (1 : Int64)).toInt32)), (.int ((((b.toUInt64 >>> ((19 : Int32) &&& 0x3f).toInt64.toUInt64).toInt64) &&& (1 : Int64)).toInt32))]
def own_B (b : Int64) (i : Nat) : Int32 := if b.toBitVec.getLsbD i then (1 : Int32) else (0 : Int32)
def own_W (b : Int64) (F P : Nat) (w : Int32) (i : Nat) : Int32 := if F + i = P then w else own_B b (F + i)
def own_by (W : Nat → Int32) (D n : Nat) (sent : Int32) (i : Nat) : Int32 := if D ≤ i ∧ i < D + (n + 7) / 8 then (((own_pk W (8 * (i - D)) (min 8 (n - 8 * (i - D)))).toInt8.toInt32).toInt8.toInt32) else sent
theorem own_ofN {x : Int32} (h : 0 ≤ x.toInt) : x = Int32.ofNat (own_n x) := by
  have e : ((own_n x : Nat) : Int) = x.toInt := Int.toNat_of_nonneg h
  have : Int32.ofNat (own_n x) = Int32.ofInt x.toInt := by rw [← e]; rfl
  rw [this, Int32.ofInt_toInt]
def own_any (c : Nat → Bool) : Nat → Bool
  | 0 => false
  | k + 1 => own_any c k || c k
theorem own_anyF {c : Nat → Bool} : ∀ {n : Nat}, own_any c n = false ↔ ∀ j, j < n → c j = false
  | 0 => by simp [own_any]
  | n + 1 => by
    simp only [own_any, Bool.or_eq_false_iff, own_anyF (n := n)]
    constructor
    · intro ⟨a, b⟩ j hj
      rcases Nat.lt_succ_iff_lt_or_eq.mp hj with h | h
      · exact a j h
      · rw [h]; exact b
    · intro h
      exact ⟨fun j hj => h j (by omega), h n (by omega)⟩
theorem own_or1 (x : Int32) (a b : Bool) : (x ||| (if a then (1 : Int32) else 0)) ||| (if b then (1 : Int32) else 0) = x ||| (if (a || b) then (1 : Int32) else 0) := by
  cases a <;> cases b <;> simp [Int32.or_assoc]
theorem own_orS {w : Int32} {s : Nat} {c : Nat → Bool} {W : Nat → Int32} : ∀ {n : Nat}, (∀ j, j < n → W j = if j = s then w else if c j then (1 : Int32) else 0) → (c s = false) → own_or W n = (if s < n then w else 0) ||| (if own_any c n then (1 : Int32) else 0)
  | 0, _, _ => by simp [own_or, own_any]
  | n + 1, h, hs => by
    have ih := own_orS (n := n) (fun j hj => h j (by omega)) hs
    have e := h n (by omega)
    simp only [own_or, own_any, ih, e]
    by_cases q : n = s
    · subst q
      simp [hs, Int32.or_comm]
    · rw [if_neg q, own_or1]
      congr 1
      by_cases p : s < n
      · rw [if_pos p, if_pos (by omega)]
      · rw [if_neg p, if_neg (by omega)]
theorem own_sh8 : ∀ k : Fin 8, ((1 : Int32) <<< ((Int32.ofNat k) &&& 31)).toBitVec = BitVec.twoPow 32 k ∧ ((0 : Int32) <<< ((Int32.ofNat k) &&& 31)).toBitVec = 0#32 := by decide
theorem own_pkb {w : Nat → Int32} {a : Nat} {c : Nat → Bool} : ∀ {m : Nat}, m ≤ 8 → (∀ k, k < m → w (a + k) = if c (a + k) then (1 : Int32) else 0) → ∀ j, (own_pk w a m).toBitVec.getLsbD j = (decide (j < m) && c (a + j))
  | 0, _, _, j => by
    show (0#32).getLsbD j = _
    simp
  | m + 1, hm, h, j => by
    have ih := own_pkb (m := m) (by omega) (fun k hk => h k (by omega)) j
    have e := h m (by omega)
    simp only [own_pk, Int32.toBitVec_or, BitVec.getLsbD_or, ih, e]
    have s := own_sh8 ⟨m, by omega⟩
    have z : ((if c (a + m) then (1 : Int32) else 0) <<< ((Int32.ofNat m) &&& 31)).toBitVec.getLsbD j = (c (a + m) && decide (j = m)) := by
      cases hc : c (a + m)
      · simp [s.2]
      · simp only [if_true, s.1, BitVec.getLsbD_twoPow, Bool.true_and]
        by_cases q : j = m
        · subst q; simp; omega
        · simp [q, Ne.symm q]
    rw [z]
    by_cases q : j = m
    · subst q; simp
    · simp only [q, decide_false, Bool.and_false, Bool.or_false]
      congr 1
      simp only [decide_eq_decide]
      omega
theorem own_k1 : ∀ c : Fin 21, (((1 : Int64) <<< ((Int32.ofNat c) &&& 0x3f).toInt64) - (1 : Int64)).toBitVec = BitVec.ofNat 64 (2 ^ (c : Nat) - 1) := by decide
theorem own_k2 : ∀ f : Fin 4, (((Int32.ofNat f) &&& 0x3f).toInt64.toUInt64).toNat = (f : Nat) := by decide
theorem own_k3 : ∀ s : Fin 21, (((1 : Int64) <<< ((Int32.ofNat s) &&& 0x3f).toInt64) ^^^ (-1 : Int64)).toBitVec = ~~~ (BitVec.twoPow 64 s) := by decide
theorem own_k4 : ∀ s : Fin 21, ((((1 : Int32) &&& (1 : Int32)).toInt64) <<< ((Int32.ofNat s) &&& 0x3f).toInt64).toBitVec = BitVec.twoPow 64 s ∧ ((((0 : Int32) &&& (1 : Int32)).toInt64) <<< ((Int32.ofNat s) &&& 0x3f).toInt64).toBitVec = 0#64 := by decide
theorem own_k5 : ∀ c : Fin 21, ((Int32.ofNat c) + (7 : Int32)) / (8 : Int32) = Int32.ofNat (((c : Nat) + 7) / 8) := by decide
theorem own_k6 : ∀ (i : Fin 8) (d : Fin 4), (d : Nat) ≤ i → ((((8 : Int32) * (Int32.ofNat i - Int32.ofNat d)) &&& 0x3f).toInt64.toUInt64).toNat = 8 * ((i : Nat) - d) := by decide
theorem own_k7 : ∀ (i : Fin 8) (d : Fin 4), (Int32.ofNat i < Int32.ofNat d ↔ (i : Nat) < d) := by decide
theorem own_k8 : ∀ (i : Fin 8) (d : Fin 4) (q : Fin 4), (Int32.ofNat i < Int32.ofNat d + Int32.ofNat q ↔ (i : Nat) < d + q) := by decide
theorem own_ush {x : Int64} {k : UInt64} (h : k.toNat < 64) (j : Nat) : ((x.toUInt64 >>> k).toInt64).toBitVec.getLsbD j = x.toBitVec.getLsbD (k.toNat + j) := by
  show ((x.toUInt64 >>> k).toBitVec).getLsbD j = _
  rw [UInt64.toBitVec_shiftRight]
  rw [BitVec.ushiftRight_eq', BitVec.getLsbD_ushiftRight]
  have : (k.toBitVec % 64#64).toNat = k.toNat := by
    rw [BitVec.toNat_umod]
    show k.toNat % 64 = k.toNat
    omega
  have e2 : (k.toBitVec % 64).toNat = k.toNat := this
  rw [e2]; rfl
theorem own_run {b r : Int64} {f c : Nat} (hf : f < 4) (hc : c < 21) (h : (((b.toUInt64 >>> ((Int32.ofNat f) &&& 0x3f).toInt64.toUInt64).toInt64) &&& (((1 : Int64) <<< ((Int32.ofNat c) &&& 0x3f).toInt64) - (1 : Int64))) = r) (j : Nat) : r.toBitVec.getLsbD j = (decide (j < c) && b.toBitVec.getLsbD (f + j)) := by
  subst h
  rw [Int64.toBitVec_and, BitVec.getLsbD_and, own_k1 ⟨c, hc⟩]
  have k := own_k2 ⟨f, hf⟩
  simp only at k
  rw [own_ush (by rw [k]; omega), k]
  rw [BitVec.getLsbD_ofNat, Nat.testBit_two_pow_sub_one]
  by_cases q : j < c
  · have : j < 64 := by omega
    simp [q, this]
  · simp [q]
theorem own_z64 {x : Int64} : x = 0 ↔ ∀ j, x.toBitVec.getLsbD j = false := by
  constructor
  · intro h; subst h; intro j; show (0#64).getLsbD j = false; simp
  · intro h
    apply Int64.toBitVec_inj.mp
    apply BitVec.eq_of_getLsbD_eq
    intro i hi
    rw [h i]
    show false = (0#64).getLsbD i
    simp
theorem own_if64 {x : Int64} {c : Nat → Bool} {n : Nat} (h : ∀ j, x.toBitVec.getLsbD j = (decide (j < n) && c j)) : (if x = (0 : Int64) then (0 : Int32) else (1 : Int32)) = (if own_any c n then (1 : Int32) else 0) := by
  by_cases q : x = 0
  · rw [if_pos q]
    have z := own_z64.mp q
    have : own_any c n = false := own_anyF.mpr fun j hj => by
      have := h j
      rw [z j] at this
      simpa [hj] using this.symm
    rw [this]; rfl
  · rw [if_neg q]
    have : own_any c n = true := by
      cases e : own_any c n with
      | true => rfl
      | false =>
        exact absurd (own_z64.mpr fun j => by
          rw [h j]
          by_cases p : j < n
          · rw [own_anyF.mp e j p]; simp
          · simp [p]) q
    rw [this]; rfl
theorem own_w01 {w : Int32} (h : (w &&& (-2 : Int32)) = (0 : Int32)) : w = (if w.toBitVec.getLsbD 0 then (1 : Int32) else 0) := by
  have h2 : w.toBitVec &&& (-2 : Int32).toBitVec = 0#32 := by
    have := congrArg Int32.toBitVec h
    rw [Int32.toBitVec_and] at this
    exact this
  have hb : ∀ j, 0 < j → w.toBitVec.getLsbD j = false := by
    intro j hj
    by_cases q : j < 32
    · have := congrArg (fun z => BitVec.getLsbD z j) h2
      simp only [BitVec.getLsbD_and] at this
      have k : ((-2 : Int32).toBitVec).getLsbD j = true := by
        have : ∀ j : Fin 32, 0 < (j : Nat) → ((-2 : Int32).toBitVec).getLsbD j = true := by decide
        exact this ⟨j, q⟩ hj
      rw [k] at this
      simpa using this
    · exact BitVec.getLsbD_of_ge _ _ (by omega)
  apply Int32.toBitVec_inj.mp
  apply BitVec.eq_of_getLsbD_eq
  intro i hi
  cases e : w.toBitVec.getLsbD 0
  · show _ = (0#32).getLsbD i
    rcases Nat.eq_zero_or_pos i with q | q
    · subst q; rw [e]; simp
    · rw [hb i q]; simp
  · show _ = (1#32).getLsbD i
    rcases Nat.eq_zero_or_pos i with q | q
    · subst q; rw [e]; decide
    · rw [hb i q]
      have : ∀ j : Fin 32, 0 < (j : Nat) → (1#32).getLsbD j = false := by decide
      exact (this ⟨i, hi⟩ q).symm
theorem own_t32 (x : Int64) {i : Nat} (h : i < 32) : x.toInt32.toBitVec.getLsbD i = x.toBitVec.getLsbD i := by
  rw [Int64.toBitVec_toInt32, BitVec.getLsbD_signExtend]
  simp [h, show i < 64 by omega]
theorem own_t8 (x : Int32) {i : Nat} (h : i < 8) : x.toInt8.toBitVec.getLsbD i = x.toBitVec.getLsbD i := by
  rw [Int32.toBitVec_toInt8, BitVec.getLsbD_signExtend]
  simp [h, show i < 32 by omega]
theorem own_bit {b : Int64} {s : UInt64} (h : s.toNat < 64) : ((((b.toUInt64 >>> s).toInt64) &&& (1 : Int64)).toInt32) = own_B b s.toNat := by
  apply Int32.toBitVec_inj.mp
  apply BitVec.eq_of_getLsbD_eq
  intro i hi
  rw [own_t32 _ hi, Int64.toBitVec_and, BitVec.getLsbD_and, own_ush h]
  have k : ∀ j : Fin 32, ((1 : Int64).toBitVec).getLsbD j = decide ((j : Nat) = 0) := by decide
  have k1 : ∀ j : Fin 32, ((1 : Int32).toBitVec).getLsbD j = decide ((j : Nat) = 0) := by decide
  have k0 : ∀ j : Fin 32, ((0 : Int32).toBitVec).getLsbD j = false := by decide
  have a := k ⟨i, hi⟩
  simp only at a
  rw [a]
  unfold own_B
  by_cases q : i = 0
  · subst q
    cases e : b.toBitVec.getLsbD s.toNat
    · have := k0 ⟨0, hi⟩
      simp only at this
      simp [e]
    · have := k1 ⟨0, hi⟩
      simp only at this
      simp [e]
  · cases e : b.toBitVec.getLsbD s.toNat
    · have := k0 ⟨i, hi⟩
      simp only at this
      simp [q]
    · have := k1 ⟨i, hi⟩
      simp only at this
      simp [q, this]
def own_HI (W : Nat → Int32) (run : Int64) (n : Nat) : Prop := ∃ c : Nat → Bool, (∀ j, j < n → W j = if c j then (1 : Int32) else 0) ∧ ∀ j, run.toBitVec.getLsbD j = (decide (j < n) && c j)
theorem own_byte {W : Nat → Int32} {run : Int64} {n q : Nat} {s : UInt64} (h : own_HI W run n) (hs : s.toNat = 8 * q) (hq : q < 8) : (((own_pk W (8 * q) (min 8 (n - 8 * q))).toInt8.toInt32).toInt8.toInt32) = ((((run.toUInt64 >>> s).toInt64).toInt32).toInt8.toInt32) := by
  obtain ⟨c, h1, h2⟩ := h
  rw [Int8.toInt8_toInt32]
  congr 1
  apply Int8.toBitVec_inj.mp
  apply BitVec.eq_of_getLsbD_eq
  intro i hi
  rw [own_t8 _ hi, own_t8 _ hi, own_t32 _ (by omega), own_ush (by omega), hs, h2, own_pkb (c := c) (by omega) (fun k hk => h1 _ (by omega))]
  congr 1
  simp only [decide_eq_decide]
  omega
theorem own_bit0 (b : Int64) : ((b &&& (1 : Int64)).toInt32) = own_B b 0 := by
  have h := own_bit (b := b) (s := 0) (by decide)
  have e : (b.toUInt64 >>> (0 : UInt64)).toInt64 = b := by
    apply Int64.toBitVec_inj.mp
    apply BitVec.eq_of_getLsbD_eq
    intro i _
    rw [own_ush (by decide)]
    simp
  rw [e] at h
  exact h
theorem own_or2 (a b : Bool) : (if a then (1 : Int32) else 0) ||| (if b then (1 : Int32) else 0) = (if (a || b) then (1 : Int32) else 0) := by
  cases a <;> cases b <;> rfl
theorem own_orP {c : Nat → Bool} {W : Nat → Int32} : ∀ {n : Nat}, (∀ j, j < n → W j = if c j then (1 : Int32) else 0) → own_or W n = (if own_any c n then (1 : Int32) else 0)
  | 0, _ => by simp [own_or, own_any]
  | n + 1, h => by
    have ih := own_orP (n := n) (fun j hj => h j (by omega))
    have hn := h n (by omega)
    show own_or W n ||| W n = if (own_any c n || c n) then (1 : Int32) else 0
    rw [ih, hn]
    exact own_or2 _ _
theorem own_k9 : ∀ (p : Fin 21) (f : Fin 4), (f : Nat) ≤ p → Int32.ofNat p - Int32.ofNat f = Int32.ofNat ((p : Nat) - f) := by decide
theorem own_orO1 {b r : Int64} {f c p : Nat} {w a e : Int32} (hf : f < 4) (hc : c + f ≤ 20) (out : p < f ∨ f + c ≤ p) (h1 : own_or (own_W b f p w) c = a) (h2 : (((b.toUInt64 >>> ((Int32.ofNat f) &&& 0x3f).toInt64.toUInt64).toInt64) &&& (((1 : Int64) <<< ((Int32.ofNat c) &&& 0x3f).toInt64) - (1 : Int64))) = r) (h3 : (if r = (0 : Int64) then (0 : Int32) else (1 : Int32)) = e) : a = e := by
  subst h1 h3
  rw [own_if64 (own_run hf (by omega) h2)]
  refine own_orP fun j hj => ?_
  unfold own_W
  rw [if_neg (by omega)]
  rfl
theorem own_insO1 {b r : Int64} {f c p : Nat} {w : Int32} (hf : f < 4) (hc : c + f ≤ 20) (out : p < f ∨ f + c ≤ p) (h2 : (((b.toUInt64 >>> ((Int32.ofNat f) &&& 0x3f).toInt64.toUInt64).toInt64) &&& (((1 : Int64) <<< ((Int32.ofNat c) &&& 0x3f).toInt64) - (1 : Int64))) = r) : own_HI (own_W b f p w) r c := by
  refine ⟨fun j => b.toBitVec.getLsbD (f + j), fun j hj => ?_, own_run hf (by omega) h2⟩
  unfold own_W
  rw [if_neg (by omega)]
  rfl
theorem own_ex {b r x : Int64} {f c p : Nat} (hf : f < 4) (hc : c + f ≤ 20) (h1 : f ≤ p) (h1' : p < f + c) (h2 : (((b.toUInt64 >>> ((Int32.ofNat f) &&& 0x3f).toInt64.toUInt64).toInt64) &&& (((1 : Int64) <<< ((Int32.ofNat c) &&& 0x3f).toInt64) - (1 : Int64))) = r) (h3 : (r &&& (((1 : Int64) <<< ((Int32.ofNat (p - f)) &&& 0x3f).toInt64) ^^^ (-1 : Int64))) = x) (j : Nat) : x.toBitVec.getLsbD j = (decide (j < c) && (decide (f + j ≠ p) && b.toBitVec.getLsbD (f + j))) := by
  subst h3
  rw [Int64.toBitVec_and, BitVec.getLsbD_and, own_run hf (by omega) h2, own_k3 ⟨p - f, by omega⟩, BitVec.getLsbD_not, BitVec.getLsbD_twoPow]
  by_cases q : j < c
  · have a : j < 64 := by omega
    by_cases e : f + j = p
    · have : p - f = j := by omega
      simp [q, a, e, this]
    · have : ¬ p - f = j := by omega
      simp [q, a, e, this]
  · simp [q]
theorem own_orI1 {b r x : Int64} {f c p : Nat} {w a e : Int32} (hf : f < 4) (hc : c + f ≤ 20) (h1 : f ≤ p) (h1' : p < f + c) (h0 : own_or (own_W b f p w) c = a) (h2 : (((b.toUInt64 >>> ((Int32.ofNat f) &&& 0x3f).toInt64.toUInt64).toInt64) &&& (((1 : Int64) <<< ((Int32.ofNat c) &&& 0x3f).toInt64) - (1 : Int64))) = r) (h3 : (r &&& (((1 : Int64) <<< ((Int32.ofNat (p - f)) &&& 0x3f).toInt64) ^^^ (-1 : Int64))) = x) (h4 : (if x = (0 : Int64) then (0 : Int32) else (1 : Int32)) = e) : a = (w ||| e) := by
  subst h0 h4
  rw [own_if64 (own_ex hf hc h1 h1' h2 h3)]
  have := own_orS (w := w) (s := p - f) (c := fun j => decide (f + j ≠ p) && b.toBitVec.getLsbD (f + j)) (W := own_W b f p w) (n := c) (fun j hj => by
    unfold own_W own_B
    by_cases e : f + j = p
    · have q : j = p - f := by omega
      rw [if_pos e, if_pos q]
    · have q : ¬ j = p - f := by omega
      rw [if_neg e, if_neg q]
      simp [e]) (by simp; intro q; omega)
  rw [this, if_pos (by omega)]
theorem own_insI1 {b r x y : Int64} {f c p : Nat} {w : Int32} (hf : f < 4) (hc : c + f ≤ 20) (h1 : f ≤ p) (h1' : p < f + c) (hw : (w &&& (-2 : Int32)) = (0 : Int32)) (h2 : (((b.toUInt64 >>> ((Int32.ofNat f) &&& 0x3f).toInt64.toUInt64).toInt64) &&& (((1 : Int64) <<< ((Int32.ofNat c) &&& 0x3f).toInt64) - (1 : Int64))) = r) (h3 : (r &&& (((1 : Int64) <<< ((Int32.ofNat (p - f)) &&& 0x3f).toInt64) ^^^ (-1 : Int64))) = x) (h4 : (x ||| (((w &&& (1 : Int32)).toInt64) <<< ((Int32.ofNat (p - f)) &&& 0x3f).toInt64)) = y) : own_HI (own_W b f p w) y c := by
  have w1 := own_w01 hw
  generalize w.toBitVec.getLsbD 0 = wb at w1
  refine ⟨fun j => if f + j = p then wb else b.toBitVec.getLsbD (f + j), fun j hj => ?_, fun j => ?_⟩
  · unfold own_W own_B
    by_cases e : f + j = p
    · simp only [if_pos e]; exact w1
    · simp only [if_neg e]
  · subst h4
    rw [Int64.toBitVec_or, BitVec.getLsbD_or, own_ex hf hc h1 h1' h2 h3]
    have k := own_k4 ⟨p - f, by omega⟩
    have z : ((((w &&& (1 : Int32)).toInt64) <<< ((Int32.ofNat (p - f)) &&& 0x3f).toInt64)).toBitVec.getLsbD j = (wb && decide (f + j = p)) := by
      cases wb
      · rw [if_neg (by simp)] at w1
        subst w1
        rw [k.2]; simp
      · rw [if_pos rfl] at w1
        subst w1
        rw [k.1, BitVec.getLsbD_twoPow]
        by_cases e : f + j = p
        · have : p - f = j := by omega
          have a : j < 64 := by omega
          simp [e, this, a]
        · have : ¬ p - f = j := by omega
          simp [e, this]
    rw [z]
    by_cases e : f + j = p
    · have : j < c := by omega
      simp [e, this]
    · simp [e]
theorem own_nn1 {x : Int32} (h : 0 ≤ x.toInt) {k : Nat} (hk : x.toInt ≤ k) : own_n x ≤ k := by
  show x.toInt.toNat ≤ k
  omega
theorem own_bdn {F C D : Int32} (h : own_bd F C D) : own_n F < 4 ∧ own_n D < 4 ∧ own_n C + own_n F ≤ 20 := by
  obtain ⟨h1, h2, h3, h4⟩ := h
  show F.toInt.toNat < 4 ∧ D.toInt.toNat < 4 ∧ C.toInt.toNat + F.toInt.toNat ≤ 20
  omega
theorem own_lt1 {P F : Int32} (h : 0 ≤ P.toInt) (h2 : 0 ≤ F.toInt) : P < F ↔ own_n P < own_n F := by
  rw [Int32.lt_iff_toInt_lt]
  show _ ↔ P.toInt.toNat < F.toInt.toNat
  omega
theorem own_lt2 {P F C D : Int32} (h : own_bd F C D) (hp : 0 ≤ P.toInt) (s : (F + C).toInt = F.toInt + C.toInt) : P < (F + C) ↔ own_n P < own_n F + own_n C := by
  obtain ⟨h1, h2, h3, h4⟩ := h
  rw [Int32.lt_iff_toInt_lt, s]
  show _ ↔ P.toInt.toNat < F.toInt.toNat + C.toInt.toNat
  omega
theorem own_out {P F C D : Int32} (h : own_bd F C D) (hp : 0 ≤ P.toInt ∧ P.toInt ≤ 20) (s : (F + C).toInt = F.toInt + C.toInt) (o : P < F ∨ ¬ P < (F + C)) : own_n P < own_n F ∨ own_n F + own_n C ≤ own_n P := by
  rcases o with o | o
  · exact Or.inl ((own_lt1 hp.1 h.1.1).mp o)
  · exact Or.inr (by have := mt (own_lt2 h hp.1 s).mpr o; omega)
theorem own_sub1 {P F C D : Int32} (h : own_bd F C D) (hp : 0 ≤ P.toInt ∧ P.toInt ≤ 20) (g : ¬ P < F) : P - F = Int32.ofNat (own_n P - own_n F) := by
  have a := mt (own_lt1 hp.1 h.1.1).mpr g
  have b := own_bdn h
  have e := own_k9 ⟨own_n P, Nat.lt_succ_of_le (own_nn1 hp.1 hp.2)⟩ ⟨own_n F, b.1⟩ (by simp only; omega)
  simp only [← own_ofN hp.1, ← own_ofN h.1.1] at e
  exact e
theorem own_orO {b r : Int64} {F C D P w a e : Int32} (h : own_bd F C D) (hp : 0 ≤ P.toInt ∧ P.toInt ≤ 20) (s : (F + C).toInt = F.toInt + C.toInt) (o : P < F ∨ ¬ P < (F + C)) (h1 : own_or (own_W b (own_n F) (own_n P) w) (own_n C) = a) (h2 : (((b.toUInt64 >>> (F &&& 0x3f).toInt64.toUInt64).toInt64) &&& (((1 : Int64) <<< (C &&& 0x3f).toInt64) - (1 : Int64))) = r) (h3 : (if r = (0 : Int64) then (0 : Int32) else (1 : Int32)) = e) : a = e := by
  have bn := own_bdn h
  rw [own_ofN h.1.1, own_ofN h.2.2.1] at h2
  exact own_orO1 bn.1 bn.2.2 (own_out h hp s o) h1 h2 h3
theorem own_insO {b r : Int64} {F C D P w : Int32} (h : own_bd F C D) (hp : 0 ≤ P.toInt ∧ P.toInt ≤ 20) (s : (F + C).toInt = F.toInt + C.toInt) (o : P < F ∨ ¬ P < (F + C)) (h2 : (((b.toUInt64 >>> (F &&& 0x3f).toInt64.toUInt64).toInt64) &&& (((1 : Int64) <<< (C &&& 0x3f).toInt64) - (1 : Int64))) = r) : own_HI (own_W b (own_n F) (own_n P) w) r (own_n C) := by
  have bn := own_bdn h
  rw [own_ofN h.1.1, own_ofN h.2.2.1] at h2
  exact own_insO1 bn.1 bn.2.2 (own_out h hp s o) h2
theorem own_orI {b r x : Int64} {F C D P w a e t S : Int32} (h : own_bd F C D) (hp : 0 ≤ P.toInt ∧ P.toInt ≤ 20) (s : (F + C).toInt = F.toInt + C.toInt) (g1 : ¬ P < F) (g2 : P < (F + C)) (h1 : own_or (own_W b (own_n F) (own_n P) w) (own_n C) = a) (h2 : (((b.toUInt64 >>> (F &&& 0x3f).toInt64.toUInt64).toInt64) &&& (((1 : Int64) <<< (C &&& 0x3f).toInt64) - (1 : Int64))) = r) (hS : (P - F) = S) (h3 : (r &&& (((1 : Int64) <<< (S &&& 0x3f).toInt64) ^^^ (-1 : Int64))) = x) (h4 : (if x = (0 : Int64) then (0 : Int32) else (1 : Int32)) = e) (h5 : (w ||| e) = t) : a = t := by
  have bn := own_bdn h
  rw [own_sub1 h hp g1] at hS
  subst hS
  rw [own_ofN h.1.1, own_ofN h.2.2.1] at h2
  rw [own_lt1 hp.1 h.1.1] at g1
  rw [own_lt2 h hp.1 s] at g2
  rw [← h5]
  exact own_orI1 bn.1 bn.2.2 (by omega) g2 h1 h2 h3 h4
theorem own_insI {b r x y : Int64} {F C D P w S : Int32} (h : own_bd F C D) (hp : 0 ≤ P.toInt ∧ P.toInt ≤ 20) (s : (F + C).toInt = F.toInt + C.toInt) (g1 : ¬ P < F) (g2 : P < (F + C)) (hw : (w &&& (-2 : Int32)) = (0 : Int32)) (h2 : (((b.toUInt64 >>> (F &&& 0x3f).toInt64.toUInt64).toInt64) &&& (((1 : Int64) <<< (C &&& 0x3f).toInt64) - (1 : Int64))) = r) (hS : (P - F) = S) (h3 : (r &&& (((1 : Int64) <<< (S &&& 0x3f).toInt64) ^^^ (-1 : Int64))) = x) (h4 : (x ||| (((w &&& (1 : Int32)).toInt64) <<< (S &&& 0x3f).toInt64)) = y) : own_HI (own_W b (own_n F) (own_n P) w) y (own_n C) := by
  have bn := own_bdn h
  rw [own_sub1 h hp g1] at hS
  subst hS
  rw [own_ofN h.1.1, own_ofN h.2.2.1] at h2
  rw [own_lt1 hp.1 h.1.1] at g1
  rw [own_lt2 h hp.1 s] at g2
  exact own_insI1 bn.1 bn.2.2 (by omega) g2 hw h2 h3 h4
theorem own_at1 {W : Nat → Int32} {d n : Nat} {run : Int64} {sent ins : Int32} (hd : d < 4) (hn : n ≤ 20) (HI : ins = 0 ∨ own_HI W run n) (j : Nat) (hj : j < 8) : f_at (Int32.ofNat j) (Int32.ofNat d) (Int32.ofNat ((n + 7) / 8)) run sent ins (own_by W d n sent j) = (1 : Int32) := by
  have k7 := own_k7 ⟨j, hj⟩ ⟨d, hd⟩
  have k8 := own_k8 ⟨j, hj⟩ ⟨d, hd⟩ ⟨(n + 7) / 8, by omega⟩
  simp only at k7 k8
  have out : ¬ (d ≤ j ∧ j < d + (n + 7) / 8) → own_by W d n sent j = sent := fun z => if_neg z
  by_cases a : j < d
  · rw [out (by omega)]
    unfold f_at
    rw [if_pos (k7.mpr a), if_pos rfl]; decide
  · by_cases e : j < d + (n + 7) / 8
    · have inn : own_by W d n sent j = (((own_pk W (8 * (j - d)) (min 8 (n - 8 * (j - d)))).toInt8.toInt32).toInt8.toInt32) := if_pos ⟨by omega, e⟩
      rw [inn]
      unfold f_at
      rw [if_neg (mt k7.mp a), if_pos (k8.mpr e)]
      rcases HI with HI | HI
      · rw [if_pos HI]
      · by_cases z : ins = 0
        · rw [if_pos z]
        · have k6 := own_k6 ⟨j, hj⟩ ⟨d, hd⟩ (by simp only; omega)
          simp only at k6
          rw [if_neg z, if_pos (own_byte HI k6 (by omega))]; decide
    · rw [out (by omega)]
      unfold f_at
      rw [if_neg (mt k7.mp a), if_neg (mt k8.mp e), if_pos rfl]; decide
theorem own_at {W : Nat → Int32} {F C D N v : Int32} {run : Int64} {sent ins : Int32} (h : own_bd F C D) (hN : ((C + (7 : Int32)) / (8 : Int32)) = N) (HI : ins = 0 ∨ own_HI W run (own_n C)) (j : Nat) (hj : j < 8) (hv : f_at (Int32.ofNat j) D N run sent ins (own_by W (own_n D) (own_n C) sent j) = v) : ¬ v = (0 : Int32) := by
  have bn := own_bdn h
  have k5 := own_k5 ⟨own_n C, by omega⟩
  simp only [← own_ofN h.2.2.1] at k5
  rw [k5] at hN
  subst hN
  have eD := own_ofN h.2.1.1
  have q := own_at1 (sent := sent) bn.2.1 (by omega) HI j hj
  rw [← eD, hv] at q
  rw [q]; decide
theorem own_nar {x y : Int32} (h : (x.toInt8.toInt32) = y) : nar .byte y = y := by
  subst h
  show (x.toInt8.toInt32).toInt8.toInt32 = _
  rw [Int8.toInt8_toInt32]
theorem own_f3 {x F : Int32} (h : (x &&& (3 : Int32)) = F) : 0 ≤ F.toInt ∧ F.toInt ≤ 3 := by
  subst h
  have m := c_mask x 3 2 (by decide) (by decide)
  omega
theorem own_s21 {F : Int32} (h : 0 ≤ F.toInt ∧ F.toInt ≤ 3) : ((21 : Int32) - F).toInt = 21 - F.toInt := by
  have e : (21 : Int32).toInt = 21 := by decide
  have c := c_isub 21 F
  have r := rng32 (21 - F)
  omega
theorem own_ne21 {x F : Int32} (h : (x &&& (3 : Int32)) = F) : ((21 : Int32) - F) ≠ (0 : Int32) := by
  have b := own_f3 h
  have s := own_s21 b
  intro q
  rw [q] at s
  have e0 : (0 : Int32).toInt = 0 := by decide
  omega
theorem own_bds {x y F C D : Int32} (h1 : (x &&& (3 : Int32)) = F) (h2 : (((x.toUInt32 >>> ((2 : Int32) &&& 31).toUInt32).toInt32) % ((21 : Int32) - F)) = C) (h3 : (y &&& (3 : Int32)) = D) : own_bd F C D := by
  have b := own_f3 h1
  have s := own_s21 b
  subst h2
  have u := c_iushr x 2 2 (by decide) (by decide)
  have q := (c_iremV ((x.toUInt32 >>> ((2 : Int32) &&& 31).toUInt32).toInt32) ((21 : Int32) - F)).1 (by omega) (by omega)
  refine ⟨b, own_f3 h3, q.1, by omega⟩
theorem own_pq {x P : Int32} (h : ((x &&& (32767 : Int32)) % (21 : Int32)) = P) : 0 ≤ P.toInt ∧ P.toInt ≤ 20 := by
  subst h
  have m := c_mask x 32767 15 (by decide) (by decide)
  have q := (c_irem (x &&& 32767) 21 21 (by decide)).1 (by omega)
  omega
theorem own_nn {x P : Int32} (h : ((x &&& (32767 : Int32)) % (21 : Int32)) = P) : ¬ P < 0 := by
  have b := own_pq h
  have e0 : (0 : Int32).toInt = 0 := by decide
  rw [Int32.lt_iff_toInt_lt]
  omega
theorem own_pl {x P : Int32} {b : Int64} (hc : P < (20 : Int32)) (h : ((x &&& (32767 : Int32)) % (21 : Int32)) = P) : own_n P < (own_fl b).length := by
  have q := own_pq h
  have e : (20 : Int32).toInt = 20 := by decide
  rw [Int32.lt_iff_toInt_lt] at hc
  show P.toInt.toNat < 20
  omega
theorem own_p20 {x P : Int32} (hc : ¬ P < (20 : Int32)) (h : ((x &&& (32767 : Int32)) % (21 : Int32)) = P) : own_n P = 20 := by
  have q := own_pq h
  have e : (20 : Int32).toInt = 20 := by decide
  rw [Int32.lt_iff_toInt_lt] at hc
  show P.toInt.toNat = 20
  omega
theorem own_far {F C D P : Int32} (h : own_bd F C D) (hP : own_n P = 20) : ¬ P < (F + C) := by
  have s := own_oc h
  obtain ⟨h1, h2, h3, h4⟩ := h
  have e : P.toInt.toNat = 20 := hP
  rw [Int32.lt_iff_toInt_lt]
  omega
theorem own_fill (b : Int64) : ∀ i, i < 20 → (own_fl b)[i]? = some (.int (own_B b i)) := by
  intro i hi
  match i, hi with
  | 0, _ => exact congrArg (fun z => some (Value.int z)) (own_bit0 b)
  | 1, _ => exact congrArg (fun z => some (Value.int z)) (own_bit (b := b) (s := ((1 : Int32) &&& 0x3f).toInt64.toUInt64) (by decide))
  | 2, _ => exact congrArg (fun z => some (Value.int z)) (own_bit (b := b) (s := ((2 : Int32) &&& 0x3f).toInt64.toUInt64) (by decide))
  | 3, _ => exact congrArg (fun z => some (Value.int z)) (own_bit (b := b) (s := ((3 : Int32) &&& 0x3f).toInt64.toUInt64) (by decide))
  | 4, _ => exact congrArg (fun z => some (Value.int z)) (own_bit (b := b) (s := ((4 : Int32) &&& 0x3f).toInt64.toUInt64) (by decide))
  | 5, _ => exact congrArg (fun z => some (Value.int z)) (own_bit (b := b) (s := ((5 : Int32) &&& 0x3f).toInt64.toUInt64) (by decide))
  | 6, _ => exact congrArg (fun z => some (Value.int z)) (own_bit (b := b) (s := ((6 : Int32) &&& 0x3f).toInt64.toUInt64) (by decide))
  | 7, _ => exact congrArg (fun z => some (Value.int z)) (own_bit (b := b) (s := ((7 : Int32) &&& 0x3f).toInt64.toUInt64) (by decide))
  | 8, _ => exact congrArg (fun z => some (Value.int z)) (own_bit (b := b) (s := ((8 : Int32) &&& 0x3f).toInt64.toUInt64) (by decide))
  | 9, _ => exact congrArg (fun z => some (Value.int z)) (own_bit (b := b) (s := ((9 : Int32) &&& 0x3f).toInt64.toUInt64) (by decide))
  | 10, _ => exact congrArg (fun z => some (Value.int z)) (own_bit (b := b) (s := ((10 : Int32) &&& 0x3f).toInt64.toUInt64) (by decide))
  | 11, _ => exact congrArg (fun z => some (Value.int z)) (own_bit (b := b) (s := ((11 : Int32) &&& 0x3f).toInt64.toUInt64) (by decide))
  | 12, _ => exact congrArg (fun z => some (Value.int z)) (own_bit (b := b) (s := ((12 : Int32) &&& 0x3f).toInt64.toUInt64) (by decide))
  | 13, _ => exact congrArg (fun z => some (Value.int z)) (own_bit (b := b) (s := ((13 : Int32) &&& 0x3f).toInt64.toUInt64) (by decide))
  | 14, _ => exact congrArg (fun z => some (Value.int z)) (own_bit (b := b) (s := ((14 : Int32) &&& 0x3f).toInt64.toUInt64) (by decide))
  | 15, _ => exact congrArg (fun z => some (Value.int z)) (own_bit (b := b) (s := ((15 : Int32) &&& 0x3f).toInt64.toUInt64) (by decide))
  | 16, _ => exact congrArg (fun z => some (Value.int z)) (own_bit (b := b) (s := ((16 : Int32) &&& 0x3f).toInt64.toUInt64) (by decide))
  | 17, _ => exact congrArg (fun z => some (Value.int z)) (own_bit (b := b) (s := ((17 : Int32) &&& 0x3f).toInt64.toUInt64) (by decide))
  | 18, _ => exact congrArg (fun z => some (Value.int z)) (own_bit (b := b) (s := ((18 : Int32) &&& 0x3f).toInt64.toUInt64) (by decide))
  | 19, _ => exact congrArg (fun z => some (Value.int z)) (own_bit (b := b) (s := ((19 : Int32) &&& 0x3f).toInt64.toUInt64) (by decide))
  | n + 20, h => exact absurd h (by omega)
theorem own_hvS {b : Int64} {F : Nat} (P : Nat) (w : Int32) : ∀ i, F + i < 20 → ((own_fl b).set P (.int w))[F + i]? = some (.int (own_W b F P w i)) := by
  intro i hi
  rw [List.getElem?_set]
  unfold own_W
  by_cases q : P = F + i
  · subst q
    rw [if_pos rfl, if_pos rfl, if_pos (show F + i < (own_fl b).length from hi)]
  · rw [if_neg q, if_neg (Ne.symm q)]
    exact own_fill b _ hi
theorem own_hvN {b : Int64} {F P : Nat} (w : Int32) (h : P = 20) : ∀ i, F + i < 20 → (own_fl b)[F + i]? = some (.int (own_W b F P w i)) := by
  intro i hi
  unfold own_W
  rw [if_neg (by omega)]
  exact own_fill b _ hi
theorem own_dql {w : Nat → Int32} {D : Nat} {ds : List Value} {n : Nat} : ∀ {q : Nat}, (own_dq w D ds n q).length = ds.length
  | 0 => rfl
  | q + 1 => by simp only [own_dq, List.length_set, own_dql (q := q)]
theorem own_dqg {w : Nat → Int32} {D : Nat} {ds : List Value} {n : Nat} (i : Nat) : ∀ {q : Nat}, D + q ≤ ds.length → (own_dq w D ds n q)[i]? = if D ≤ i ∧ i < D + q then some (.int (((own_pk w (8 * (i - D)) (min 8 (n - 8 * (i - D)))).toInt8.toInt32).toInt8.toInt32)) else ds[i]?
  | 0, _ => by
    rw [if_neg (by omega)]; rfl
  | q + 1, h => by
    have ih := own_dqg (w := w) (D := D) (ds := ds) (n := n) i (q := q) (by omega)
    show ((own_dq w D ds n q).set (D + q) _)[i]? = _
    rw [List.getElem?_set, own_dql]
    by_cases e : D + q = i
    · subst e
      rw [if_pos rfl, if_pos (show D + q < ds.length by omega), if_pos (show D ≤ D + q ∧ D + q < D + (q + 1) by omega), show D + q - D = q by omega]
    · rw [if_neg e, ih]
      by_cases z : D ≤ i ∧ i < D + q
      · rw [if_pos z, if_pos (by omega)]
      · rw [if_neg z, if_neg (by omega)]
theorem own_get {w : Nat → Int32} {F C D : Int32} (h : own_bd F C D) (s : Int32) (j : Nat) (hj : j < 8) {J : Int32} (hJ : J.toNatClampNeg = j) : (own_dq w (own_n D) [(.int s), (.int s), (.int s), (.int s), (.int s), (.int s), (.int s), (.int s)] (own_n C) ((own_n C + 7) / 8))[J.toNatClampNeg]? = some (.int (own_by w (own_n D) (own_n C) s j)) := by
  have bn := own_bdn h
  rw [hJ, own_dqg j (show own_n D + (own_n C + 7) / 8 ≤ 8 by omega)]
  unfold own_by
  by_cases z : own_n D ≤ j ∧ j < own_n D + (own_n C + 7) / 8
  · rw [if_pos z, if_pos z]
  · rw [if_neg z, if_neg z]
    have : j = 0 ∨ j = 1 ∨ j = 2 ∨ j = 3 ∨ j = 4 ∨ j = 5 ∨ j = 6 ∨ j = 7 := by omega
    rcases this with rfl | rfl | rfl | rfl | rfl | rfl | rfl | rfl <;> rfl

theorem kw0 {Z : State} {a0 : Array Value} (hw : ∀ d ∈ tables_1, d.before a0 Z = true) : (Jvm.Cond.arrayClass Jvm.ClassFile.FieldType.int).before a0 Z = true := hw _ (List.mem_of_getElem? (i := 0) rfl)
theorem kw4 {Z : State} {a0 : Array Value} (hw : ∀ d ∈ tables_1, d.before a0 Z = true) : (Jvm.Cond.code ({ cls := "com/example/tightbit/tightbit/ByteArrayWriterPackOneBitPinLaw", name := "fill", desc := "([IJ)V" } : Jvm.MethodName) method_4_code (3 : Nat) (Option.none : Option Jvm.ClassFile.FieldType)).before a0 Z = true := hw _ (List.mem_of_getElem? (i := 4) rfl)
theorem kw3 {Z : State} {a0 : Array Value} (hw : ∀ d ∈ tables_1, d.before a0 Z = true) : (Jvm.Cond.initialized "com/example/tightbit/tightbit/ByteArrayWriterPackOneBitPinLaw").before a0 Z = true := hw _ (List.mem_of_getElem? (i := 3) rfl)
theorem pd1 : parseMethodDescriptor "([IJ)V" = some ⟨[(.array .int), .long], none⟩ := by decide +kernel
theorem kw1 {Z : State} {a0 : Array Value} (hw : ∀ d ∈ tables_1, d.before a0 Z = true) : (Jvm.Cond.methodLink "com/example/tightbit/tightbit/ByteArrayWriterPackOneBitPinLaw" (7 : Nat) ({ cls := "com/example/tightbit/tightbit/ByteArrayWriterPackOneBitPinLaw", name := "fill", desc := "([IJ)V" } : Jvm.MethodName)).before a0 Z = true := hw _ (List.mem_of_getElem? (i := 1) rfl)
theorem kw2 {Z : State} {a0 : Array Value} (hw : ∀ d ∈ tables_1, d.before a0 Z = true) : (Jvm.Cond.static ({ cls := "com/example/tightbit/tightbit/ByteArrayWriterPackOneBitPinLaw", name := "fill", desc := "([IJ)V" } : Jvm.MethodName)).before a0 Z = true := hw _ (List.mem_of_getElem? (i := 2) rfl)
theorem kw5 {Z : State} {a0 : Array Value} (hw : ∀ d ∈ tables_1, d.before a0 Z = true) : (Jvm.Cond.arrayClass Jvm.ClassFile.FieldType.byte).before a0 Z = true := hw _ (List.mem_of_getElem? (i := 5) rfl)
theorem kw9 {Z : State} {a0 : Array Value} (hw : ∀ d ∈ tables_1, d.before a0 Z = true) : (Jvm.Cond.code ({ cls := "com/example/tightbit/tightbit/ByteArrayWriter", name := "packOneBit", desc := "([III[BI)I" } : Jvm.MethodName) prog_14_method_18_code (11 : Nat) (Option.some Jvm.ClassFile.FieldType.int)).before a0 Z = true := hw _ (List.mem_of_getElem? (i := 9) rfl)
theorem kw8 {Z : State} {a0 : Array Value} (hw : ∀ d ∈ tables_1, d.before a0 Z = true) : (Jvm.Cond.initialized "com/example/tightbit/tightbit/ByteArrayWriter").before a0 Z = true := hw _ (List.mem_of_getElem? (i := 8) rfl)
theorem pd2 : parseMethodDescriptor "([III[BI)I" = some ⟨[(.array .int), .int, .int, (.array .byte), .int], some .int⟩ := by decide +kernel
theorem kw6 {Z : State} {a0 : Array Value} (hw : ∀ d ∈ tables_1, d.before a0 Z = true) : (Jvm.Cond.methodLink "com/example/tightbit/tightbit/ByteArrayWriterPackOneBitPinLaw" (13 : Nat) ({ cls := "com/example/tightbit/tightbit/ByteArrayWriter", name := "packOneBit", desc := "([III[BI)I" } : Jvm.MethodName)).before a0 Z = true := hw _ (List.mem_of_getElem? (i := 6) rfl)
theorem kw7 {Z : State} {a0 : Array Value} (hw : ∀ d ∈ tables_1, d.before a0 Z = true) : (Jvm.Cond.static ({ cls := "com/example/tightbit/tightbit/ByteArrayWriter", name := "packOneBit", desc := "([III[BI)I" } : Jvm.MethodName)).before a0 Z = true := hw _ (List.mem_of_getElem? (i := 7) rfl)
theorem kw12 {Z : State} {a0 : Array Value} (hw : ∀ d ∈ tables_1, d.before a0 Z = true) : (Jvm.Cond.code ({ cls := "com/example/tightbit/tightbit/ByteArrayWriterPackOneBitPinLaw", name := "at", desc := "([BIIIJBZ)Z" } : Jvm.MethodName) method_3_code (8 : Nat) (Option.some Jvm.ClassFile.FieldType.boolean)).before a0 Z = true := hw _ (List.mem_of_getElem? (i := 12) rfl)
theorem pd3 : parseMethodDescriptor "([BIIIJBZ)Z" = some ⟨[(.array .byte), .int, .int, .int, .long, .byte, .boolean], some .boolean⟩ := by decide +kernel
theorem kw10 {Z : State} {a0 : Array Value} (hw : ∀ d ∈ tables_1, d.before a0 Z = true) : (Jvm.Cond.methodLink "com/example/tightbit/tightbit/ByteArrayWriterPackOneBitPinLaw" (21 : Nat) ({ cls := "com/example/tightbit/tightbit/ByteArrayWriterPackOneBitPinLaw", name := "at", desc := "([BIIIJBZ)Z" } : Jvm.MethodName)).before a0 Z = true := hw _ (List.mem_of_getElem? (i := 10) rfl)
theorem kw11 {Z : State} {a0 : Array Value} (hw : ∀ d ∈ tables_1, d.before a0 Z = true) : (Jvm.Cond.static ({ cls := "com/example/tightbit/tightbit/ByteArrayWriterPackOneBitPinLaw", name := "at", desc := "([BIIIJBZ)Z" } : Jvm.MethodName)).before a0 Z = true := hw _ (List.mem_of_getElem? (i := 11) rfl)
theorem kw13 {Z : State} {a0 : Array Value} (hw : ∀ d ∈ tables_1, d.before a0 Z = true) : (Jvm.Cond.constantLong "com/example/tightbit/tightbit/ByteArrayWriterPackOneBitPinLaw" (19 : Nat) (-1 : Int64)).before a0 Z = true := hw _ (List.mem_of_getElem? (i := 13) rfl)
theorem ef_law (m : MethodId) (ylaw_1 : Int64) (xlaw_2 : Int32) (xlaw_3 : Int32) (xlaw_4 : Int32) (xlaw_5 : Int32) (xlaw_6 : Int32) : entryFrame m #[(.long ylaw_1), (.int xlaw_2), (.int xlaw_3), (.int xlaw_4), (.int xlaw_5), (.int xlaw_6)] maxLocals = mkF m 0 #[.val (.long ylaw_1), .second, .val (.int xlaw_2), .val (.int xlaw_3), .val (.int xlaw_4), .val (.int xlaw_5), .val (.int xlaw_6), .unset, .unset, .unset, .unset, .unset, .unset, .unset, .unset, .unset, .unset, .unset, .unset, .unset, .unset, .unset, .unset, .unset, .unset] [] := by first | (simp [entryFrame, mkF, argsToLocals, Value.category, maxLocals]; done) | rfl
def Q_law (n0 : Nat) (v : Option Value) (h : Heap) (L : List Loc) : Prop := v = some (.int 1) ∧ Fr n0 L
set_option maxRecDepth 65536 in
set_option maxHeartbeats 40000000 in
theorem rm_law (l : Launch) (Z : State) (a0 : Array Value) (hw : ∀ d ∈ tables_1, d.before a0 Z = true) (ws : List Jvm.Cond) (ylaw_1 : Int64) (xlaw_2 : Int32) (xlaw_3 : Int32) (xlaw_4 : Int32) (xlaw_5 : Int32) (xlaw_6 : Int32) (h0 : Heap) (n0 : Nat) (Z0 : n0 ≤ h0.size)  :
    MetFree l x (head1 (Jvm.Cond.code x code maxLocals ret :: ws) room_1) (fun a U => a = #[(.long ylaw_1), (.int xlaw_2), (.int xlaw_3), (.int xlaw_4), (.int xlaw_5), (.int xlaw_6)] ∧ Z.Warmed39 U.vm ∧ U.heap = h0) (fun _ _ _ _ _ => True) (fun _ U o U' => ∃ v L, o = .returned v ∧ (Q_law n0) v U'.heap L ∧ FrameEnd U o U' L 16 128) := by
  refine MetFree.of_bodySF (plainFor_of_name pn1) hisR ?_
  intro p e s m args below meth c s₁ Bd hml0 hP hK
  obtain ⟨rfl, hZ, hh⟩ := hP
  have hx := Bd.exec
  have hby := Bd.bytes
  have hml : c.maxLocals = 25 := hml0
  have hown : s.vm.findClass "com/example/tightbit/tightbit/ByteArrayWriterPackOneBitPinLaw" = some m.cls := findClass_of_methodNamed Bd.named
  have hnm := (name_of_methodNamed Bd.named Bd.method).1
  have X0 : Stand p l e room_1 s m #[(.long ylaw_1), (.int xlaw_2), (.int xlaw_3), (.int xlaw_4), (.int xlaw_5), (.int xlaw_6)] below meth c s₁ [] 0 0 := Stand.of_body Bd
  have e0 : s₁.heap = h0 := by rw [← hh, Bd.state]; rfl
  have N0 := Fr.nil n0
  refine Wq.step (p := p) (e := e) (below := below) (En := (fun o t L => FrameEnd s o t L 16 128)) (Q := (Q_law n0)) (fun t k => castTop (ef_law m ylaw_1 xlaw_2 xlaw_3 xlaw_4 xlaw_5 xlaw_6) k) ?_
  show Wq _ _ _ _ _ (s₁.setTop (mkF m 0 #[.val (.long ylaw_1), .second, .val (.int xlaw_2), .val (.int xlaw_3), .val (.int xlaw_4), .val (.int xlaw_5), .val (.int xlaw_6), .unset, .unset, .unset, .unset, .unset, .unset, .unset, .unset, .unset, .unset, .unset, .unset, .unset, .unset, .unset, .unset, .unset, .unset] []))
  refine Ow.iloadN X0 hx (pc' := 1) (hb hby at_0) rfl ?_
  refine Ow.iconst X0 hx (pc' := 2) (hb hby at_1) (z := (3 : Int32)) rfl ?_
  refine Ow.iand X0 hx (pc' := 3) (hb hby at_2) (z := (xlaw_2 &&& (3 : Int32))) rfl ?_
  refine Ow.istore X0 hx (pc' := 5) (hb hby at_3) (l' := #[.val (.long ylaw_1), .second, .val (.int xlaw_2), .val (.int xlaw_3), .val (.int xlaw_4), .val (.int xlaw_5), .val (.int xlaw_6), .val (.int (xlaw_2 &&& (3 : Int32))), .unset, .unset, .unset, .unset, .unset, .unset, .unset, .unset, .unset, .unset, .unset, .unset, .unset, .unset, .unset, .unset, .unset]) rfl ?_
  generalize hv3 : (xlaw_2 &&& (3 : Int32)) = v3
  refine Ow.iloadN X0 hx (pc' := 6) (hb hby at_5) rfl ?_
  refine Ow.iconst X0 hx (pc' := 7) (hb hby at_6) (z := (2 : Int32)) rfl ?_
  refine Ow.iushr X0 hx (pc' := 8) (hb hby at_7) (z := ((xlaw_2.toUInt32 >>> ((2 : Int32) &&& 31).toUInt32).toInt32)) rfl ?_
  refine Ow.bipush X0 hx (pc' := 10) (hb hby at_8) (z := (21 : Int32)) rfl ?_
  refine Ow.iload X0 hx (pc' := 12) (hb hby at_10) rfl ?_
  refine Ow.isub X0 hx (pc' := 13) (hb hby at_12) (z := ((21 : Int32) - v3)) rfl ?_
  refine Ow.irem X0 hx (pc' := 14) (hb hby at_13) (own_ne21 hv3 : ((21 : Int32) - v3) ≠ (0 : Int32)) (z := (((xlaw_2.toUInt32 >>> ((2 : Int32) &&& 31).toUInt32).toInt32) % ((21 : Int32) - v3))) rfl ?_
  refine Ow.istore X0 hx (pc' := 16) (hb hby at_14) (l' := #[.val (.long ylaw_1), .second, .val (.int xlaw_2), .val (.int xlaw_3), .val (.int xlaw_4), .val (.int xlaw_5), .val (.int xlaw_6), .val (.int v3), .val (.int (((xlaw_2.toUInt32 >>> ((2 : Int32) &&& 31).toUInt32).toInt32) % ((21 : Int32) - v3))), .unset, .unset, .unset, .unset, .unset, .unset, .unset, .unset, .unset, .unset, .unset, .unset, .unset, .unset, .unset, .unset]) rfl ?_
  generalize hv14 : (((xlaw_2.toUInt32 >>> ((2 : Int32) &&& 31).toUInt32).toInt32) % ((21 : Int32) - v3)) = v14
  refine Ow.iloadN X0 hx (pc' := 17) (hb hby at_16) rfl ?_
  refine Ow.iconst X0 hx (pc' := 18) (hb hby at_17) (z := (3 : Int32)) rfl ?_
  refine Ow.iand X0 hx (pc' := 19) (hb hby at_18) (z := (xlaw_3 &&& (3 : Int32))) rfl ?_
  refine Ow.istore X0 hx (pc' := 21) (hb hby at_19) (l' := #[.val (.long ylaw_1), .second, .val (.int xlaw_2), .val (.int xlaw_3), .val (.int xlaw_4), .val (.int xlaw_5), .val (.int xlaw_6), .val (.int v3), .val (.int v14), .val (.int (xlaw_3 &&& (3 : Int32))), .unset, .unset, .unset, .unset, .unset, .unset, .unset, .unset, .unset, .unset, .unset, .unset, .unset, .unset, .unset]) rfl ?_
  generalize hv19 : (xlaw_3 &&& (3 : Int32)) = v19
  refine Ow.iload X0 hx (pc' := 23) (hb hby at_21) rfl ?_
  refine Ow.sipush X0 hx (pc' := 26) (hb hby at_23) (z := (32767 : Int32)) rfl ?_
  refine Ow.iand X0 hx (pc' := 27) (hb hby at_26) (z := (xlaw_4 &&& (32767 : Int32))) rfl ?_
  refine Ow.bipush X0 hx (pc' := 29) (hb hby at_27) (z := (21 : Int32)) rfl ?_
  refine Ow.irem X0 hx (pc' := 30) (hb hby at_29) (by decide : (21 : Int32) ≠ (0 : Int32)) (z := ((xlaw_4 &&& (32767 : Int32)) % (21 : Int32))) rfl ?_
  refine Ow.istore X0 hx (pc' := 32) (hb hby at_30) (l' := #[.val (.long ylaw_1), .second, .val (.int xlaw_2), .val (.int xlaw_3), .val (.int xlaw_4), .val (.int xlaw_5), .val (.int xlaw_6), .val (.int v3), .val (.int v14), .val (.int v19), .val (.int ((xlaw_4 &&& (32767 : Int32)) % (21 : Int32))), .unset, .unset, .unset, .unset, .unset, .unset, .unset, .unset, .unset, .unset, .unset, .unset, .unset, .unset]) rfl ?_
  generalize hv30 : ((xlaw_4 &&& (32767 : Int32)) % (21 : Int32)) = v30
  refine Ow.iload X0 hx (pc' := 34) (hb hby at_32) rfl ?_
  refine Ow.bipush X0 hx (pc' := 36) (hb hby at_34) (z := (16 : Int32)) rfl ?_
  refine Ow.iushr X0 hx (pc' := 37) (hb hby at_36) (z := ((xlaw_4.toUInt32 >>> ((16 : Int32) &&& 31).toUInt32).toInt32)) rfl ?_
  refine Ow.iconst X0 hx (pc' := 38) (hb hby at_37) (z := (1 : Int32)) rfl ?_
  refine Ow.iand X0 hx (pc' := 39) (hb hby at_38) (z := (((xlaw_4.toUInt32 >>> ((16 : Int32) &&& 31).toUInt32).toInt32) &&& (1 : Int32))) rfl ?_
  refine Wq.by (U' := s₁.setTop (mkF m 51 #[.val (.long ylaw_1), .second, .val (.int xlaw_2), .val (.int xlaw_3), .val (.int xlaw_4), .val (.int xlaw_5), .val (.int xlaw_6), .val (.int v3), .val (.int v14), .val (.int v19), .val (.int v30), .unset, .unset, .unset, .unset, .unset, .unset, .unset, .unset, .unset, .unset, .unset, .unset, .unset, .unset] [(.int (if (((xlaw_4.toUInt32 >>> ((16 : Int32) &&& 31).toUInt32).toInt32) &&& (1 : Int32)) = (0 : Int32) then (xlaw_5 &&& (1 : Int32)) else xlaw_5))])) (fun k => ?_) ?_
  · skip
    by_cases hm39 : (((xlaw_4.toUInt32 >>> ((16 : Int32) &&& 31).toUInt32).toInt32) &&& (1 : Int32)) = (0 : Int32)
    · skip
      refine Ow.ifYes X0 hx (pc' := 47) (hb hby at_39) ((if0 _ _).trans (teq hm39).1) (by decide) (by decide) ?_
      refine Ow.iload X0 hx (pc' := 49) (hb hby at_47) rfl ?_
      refine Ow.iconst X0 hx (pc' := 50) (hb hby at_49) (z := (1 : Int32)) rfl ?_
      refine Ow.iand X0 hx (pc' := 51) (hb hby at_50) (z := (xlaw_5 &&& (1 : Int32))) rfl ?_
      simp only [if_pos hm39] at k
      exact k
    · skip
      refine Ow.ifNo X0 hx (pc' := 42) (hb hby at_39) ((if0 _ _).trans (feq hm39).1) ?_
      refine Ow.iload X0 hx (pc' := 44) (hb hby at_42) rfl ?_
      refine Ow.goto X0 hx (pc' := 51) (hb hby at_44) (by decide) (by decide) ?_
      simp only [if_neg hm39] at k
      exact k
  show Wq _ _ _ _ _ (s₁.setTop (mkF m 51 #[.val (.long ylaw_1), .second, .val (.int xlaw_2), .val (.int xlaw_3), .val (.int xlaw_4), .val (.int xlaw_5), .val (.int xlaw_6), .val (.int v3), .val (.int v14), .val (.int v19), .val (.int v30), .unset, .unset, .unset, .unset, .unset, .unset, .unset, .unset, .unset, .unset, .unset, .unset, .unset, .unset] [(.int (if (((xlaw_4.toUInt32 >>> ((16 : Int32) &&& 31).toUInt32).toInt32) &&& (1 : Int32)) = (0 : Int32) then (xlaw_5 &&& (1 : Int32)) else xlaw_5))]))
  generalize hms51_0 : (if (((xlaw_4.toUInt32 >>> ((16 : Int32) &&& 31).toUInt32).toInt32) &&& (1 : Int32)) = (0 : Int32) then (xlaw_5 &&& (1 : Int32)) else xlaw_5) = ms51_0
  refine Ow.istore X0 hx (pc' := 53) (hb hby at_51) (l' := #[.val (.long ylaw_1), .second, .val (.int xlaw_2), .val (.int xlaw_3), .val (.int xlaw_4), .val (.int xlaw_5), .val (.int xlaw_6), .val (.int v3), .val (.int v14), .val (.int v19), .val (.int v30), .val (.int ms51_0), .unset, .unset, .unset, .unset, .unset, .unset, .unset, .unset, .unset, .unset, .unset, .unset, .unset]) rfl ?_
  refine Ow.iload X0 hx (pc' := 55) (hb hby at_53) rfl ?_
  refine Ow.i2b X0 hx (pc' := 56) (hb hby at_55) (z := (xlaw_6.toInt8.toInt32)) rfl ?_
  refine Ow.istore X0 hx (pc' := 58) (hb hby at_56) (l' := #[.val (.long ylaw_1), .second, .val (.int xlaw_2), .val (.int xlaw_3), .val (.int xlaw_4), .val (.int xlaw_5), .val (.int xlaw_6), .val (.int v3), .val (.int v14), .val (.int v19), .val (.int v30), .val (.int ms51_0), .val (.int (xlaw_6.toInt8.toInt32)), .unset, .unset, .unset, .unset, .unset, .unset, .unset, .unset, .unset, .unset, .unset, .unset]) rfl ?_
  generalize hv56 : (xlaw_6.toInt8.toInt32) = v56
  refine Ow.bipush X0 hx (pc' := 60) (hb hby at_58) (z := (20 : Int32)) rfl ?_
  obtain ⟨T41, h41, k41, X41, e41, E41, A41, st41⟩ := newP X0 hx hZ (aty := .int) (kw0 hw) e0 (g := (mkF m 60 #[.val (.long ylaw_1), .second, .val (.int xlaw_2), .val (.int xlaw_3), .val (.int xlaw_4), .val (.int xlaw_5), .val (.int xlaw_6), .val (.int v3), .val (.int v14), .val (.int v19), .val (.int v30), .val (.int ms51_0), .val (.int v56), .unset, .unset, .unset, .unset, .unset, .unset, .unset, .unset, .unset, .unset, .unset, .unset] [(.int (20 : Int32))])) rfl (hb hby at_60) rfl (by decide) (cap := 20) (by decide) (by decide) (by decide) (by decide)
  obtain ⟨b41, gz41⟩ : ∃ z, z = h0.size := ⟨_, rfl⟩
  rw [← gz41] at A41 st41
  have g_b41 : n0 ≤ b41 := Nat.le_trans Z0 (Nat.le_of_eq gz41.symm)
  have sz_b41 : h0.size ≤ b41 := Nat.le_of_eq gz41.symm
  have K41 : Keep h0 h41 [] := (Keep.refl h0 []).ext E41
  have Z41 : n0 ≤ h41.size := Nat.le_trans Z0 E41.1
  have V_b41 : Al Z h41 b41 .int [(.int (0 : Int32)), (.int (0 : Int32)), (.int (0 : Int32)), (.int (0 : Int32)), (.int (0 : Int32)), (.int (0 : Int32)), (.int (0 : Int32)), (.int (0 : Int32)), (.int (0 : Int32)), (.int (0 : Int32)), (.int (0 : Int32)), (.int (0 : Int32)), (.int (0 : Int32)), (.int (0 : Int32)), (.int (0 : Int32)), (.int (0 : Int32)), (.int (0 : Int32)), (.int (0 : Int32)), (.int (0 : Int32)), (.int (0 : Int32))] := Al.new A41 (k := 20) (rfl) rfl
  refine Wq.step st41 ?_
  show Wq _ _ _ _ _ (T41.setTop (mkF m 62 #[.val (.long ylaw_1), .second, .val (.int xlaw_2), .val (.int xlaw_3), .val (.int xlaw_4), .val (.int xlaw_5), .val (.int xlaw_6), .val (.int v3), .val (.int v14), .val (.int v19), .val (.int v30), .val (.int ms51_0), .val (.int v56), .unset, .unset, .unset, .unset, .unset, .unset, .unset, .unset, .unset, .unset, .unset, .unset] [(.ref b41)]))
  refine Ow.astore X41 hx (pc' := 64) (hb hby at_62) rfl (l' := #[.val (.long ylaw_1), .second, .val (.int xlaw_2), .val (.int xlaw_3), .val (.int xlaw_4), .val (.int xlaw_5), .val (.int xlaw_6), .val (.int v3), .val (.int v14), .val (.int v19), .val (.int v30), .val (.int ms51_0), .val (.int v56), .val (.ref b41), .unset, .unset, .unset, .unset, .unset, .unset, .unset, .unset, .unset, .unset, .unset]) rfl ?_
  refine Ow.aload X41 hx (pc' := 66) (hb hby at_64) rfl rfl ?_
  refine Ow.lloadN X41 hx (pc' := 67) (hb hby at_66) rfl ?_
  obtain ⟨_, _, ⟨T42, L42, k42, n42⟩, -, X42, ⟨Lc42, hQ42, l42, y42, z42⟩, st42⟩ := Jvm.LawKit.callS X41 hx (y := mt1) hown (mvT hZ (kw1 hw)) (mvT hZ (kw2 hw)) (mvT hZ (kw3 hw)) (mvT hZ (kw4 hw)) (by decide) (backOf (W := 0) (rm_fill l Z a0 hw [] b41 ylaw_1 h41 n0 Z41 V_b41 g_b41) hZ (kw4 hw) (kw3 hw) (by decide) (by decide)) (g := (mkF m 67 #[.val (.long ylaw_1), .second, .val (.int xlaw_2), .val (.int xlaw_3), .val (.int xlaw_4), .val (.int xlaw_5), .val (.int xlaw_6), .val (.int v3), .val (.int v14), .val (.int v19), .val (.int v30), .val (.int ms51_0), .val (.int v56), .val (.ref b41), .unset, .unset, .unset, .unset, .unset, .unset, .unset, .unset, .unset, .unset, .unset] [(.long ylaw_1), (.ref b41)])) rfl (by rw [hml]; rfl) (argsL := [(.ref b41), (.long ylaw_1)]) (rest := []) (lenOf pd1 rfl) rfl (by show 2 * 0 + _ ≤ _; exact Nat.le_of_eq rfl) (hb hby at_67) (fun _ _ => ⟨rfl, e41, (by decide : 1 + 0 ≤ _), (by decide : 20 + 0 ≤ _)⟩)
  dsimp only [Pt.U, Pt.locs, Pt.cells, Pt.slots] at X42 l42 y42 z42 st42 hQ42
  subst l42 y42 z42
  obtain ⟨rfl, Nq42, Kq42, P42_0⟩ := hQ42
  have N42 := Fr.app N0 Nq42
  have K42 : Keep h0 T42.heap [] := K41.trans Kq42 (allS (P := fun x => x ∈ [] ∨ h0.size ≤ x) (Or.inr sz_b41) all0)
  have Z42 : n0 ≤ T42.heap.size := Nat.le_trans Z41 Kq42.1
  have e42 : T42.heap = T42.heap := rfl
  obtain ⟨q43, hq43⟩ : ∃ z : Int32, z = ((ylaw_1 &&& (1 : Int64)).toInt32) := ⟨_, rfl⟩
  rw [← hq43] at P42_0
  obtain ⟨q44, hq44⟩ : ∃ z : Int32, z = ((((ylaw_1.toUInt64 >>> ((1 : Int32) &&& 0x3f).toInt64.toUInt64).toInt64) &&& (1 : Int64)).toInt32) := ⟨_, rfl⟩
  rw [← hq44] at P42_0
  obtain ⟨q45, hq45⟩ : ∃ z : Int32, z = ((((ylaw_1.toUInt64 >>> ((2 : Int32) &&& 0x3f).toInt64.toUInt64).toInt64) &&& (1 : Int64)).toInt32) := ⟨_, rfl⟩
  rw [← hq45] at P42_0
  obtain ⟨q46, hq46⟩ : ∃ z : Int32, z = ((((ylaw_1.toUInt64 >>> ((3 : Int32) &&& 0x3f).toInt64.toUInt64).toInt64) &&& (1 : Int64)).toInt32) := ⟨_, rfl⟩
  rw [← hq46] at P42_0
  obtain ⟨q47, hq47⟩ : ∃ z : Int32, z = ((((ylaw_1.toUInt64 >>> ((4 : Int32) &&& 0x3f).toInt64.toUInt64).toInt64) &&& (1 : Int64)).toInt32) := ⟨_, rfl⟩
  rw [← hq47] at P42_0
  obtain ⟨q48, hq48⟩ : ∃ z : Int32, z = ((((ylaw_1.toUInt64 >>> ((5 : Int32) &&& 0x3f).toInt64.toUInt64).toInt64) &&& (1 : Int64)).toInt32) := ⟨_, rfl⟩
  rw [← hq48] at P42_0
  obtain ⟨q49, hq49⟩ : ∃ z : Int32, z = ((((ylaw_1.toUInt64 >>> ((6 : Int32) &&& 0x3f).toInt64.toUInt64).toInt64) &&& (1 : Int64)).toInt32) := ⟨_, rfl⟩
  rw [← hq49] at P42_0
  obtain ⟨q50, hq50⟩ : ∃ z : Int32, z = ((((ylaw_1.toUInt64 >>> ((7 : Int32) &&& 0x3f).toInt64.toUInt64).toInt64) &&& (1 : Int64)).toInt32) := ⟨_, rfl⟩
  rw [← hq50] at P42_0
  obtain ⟨q51, hq51⟩ : ∃ z : Int32, z = ((((ylaw_1.toUInt64 >>> ((8 : Int32) &&& 0x3f).toInt64.toUInt64).toInt64) &&& (1 : Int64)).toInt32) := ⟨_, rfl⟩
  rw [← hq51] at P42_0
  obtain ⟨q52, hq52⟩ : ∃ z : Int32, z = ((((ylaw_1.toUInt64 >>> ((9 : Int32) &&& 0x3f).toInt64.toUInt64).toInt64) &&& (1 : Int64)).toInt32) := ⟨_, rfl⟩
  rw [← hq52] at P42_0
  obtain ⟨q53, hq53⟩ : ∃ z : Int32, z = ((((ylaw_1.toUInt64 >>> ((10 : Int32) &&& 0x3f).toInt64.toUInt64).toInt64) &&& (1 : Int64)).toInt32) := ⟨_, rfl⟩
  rw [← hq53] at P42_0
  obtain ⟨q54, hq54⟩ : ∃ z : Int32, z = ((((ylaw_1.toUInt64 >>> ((11 : Int32) &&& 0x3f).toInt64.toUInt64).toInt64) &&& (1 : Int64)).toInt32) := ⟨_, rfl⟩
  rw [← hq54] at P42_0
  obtain ⟨q55, hq55⟩ : ∃ z : Int32, z = ((((ylaw_1.toUInt64 >>> ((12 : Int32) &&& 0x3f).toInt64.toUInt64).toInt64) &&& (1 : Int64)).toInt32) := ⟨_, rfl⟩
  rw [← hq55] at P42_0
  obtain ⟨q56, hq56⟩ : ∃ z : Int32, z = ((((ylaw_1.toUInt64 >>> ((13 : Int32) &&& 0x3f).toInt64.toUInt64).toInt64) &&& (1 : Int64)).toInt32) := ⟨_, rfl⟩
  rw [← hq56] at P42_0
  obtain ⟨q57, hq57⟩ : ∃ z : Int32, z = ((((ylaw_1.toUInt64 >>> ((14 : Int32) &&& 0x3f).toInt64.toUInt64).toInt64) &&& (1 : Int64)).toInt32) := ⟨_, rfl⟩
  rw [← hq57] at P42_0
  obtain ⟨q58, hq58⟩ : ∃ z : Int32, z = ((((ylaw_1.toUInt64 >>> ((15 : Int32) &&& 0x3f).toInt64.toUInt64).toInt64) &&& (1 : Int64)).toInt32) := ⟨_, rfl⟩
  rw [← hq58] at P42_0
  obtain ⟨q59, hq59⟩ : ∃ z : Int32, z = ((((ylaw_1.toUInt64 >>> ((16 : Int32) &&& 0x3f).toInt64.toUInt64).toInt64) &&& (1 : Int64)).toInt32) := ⟨_, rfl⟩
  rw [← hq59] at P42_0
  obtain ⟨q60, hq60⟩ : ∃ z : Int32, z = ((((ylaw_1.toUInt64 >>> ((17 : Int32) &&& 0x3f).toInt64.toUInt64).toInt64) &&& (1 : Int64)).toInt32) := ⟨_, rfl⟩
  rw [← hq60] at P42_0
  obtain ⟨q61, hq61⟩ : ∃ z : Int32, z = ((((ylaw_1.toUInt64 >>> ((18 : Int32) &&& 0x3f).toInt64.toUInt64).toInt64) &&& (1 : Int64)).toInt32) := ⟨_, rfl⟩
  rw [← hq61] at P42_0
  obtain ⟨q62, hq62⟩ : ∃ z : Int32, z = ((((ylaw_1.toUInt64 >>> ((19 : Int32) &&& 0x3f).toInt64.toUInt64).toInt64) &&& (1 : Int64)).toInt32) := ⟨_, rfl⟩
  rw [← hq62] at P42_0
  refine Wq.step st42 ?_
  have VF : Al Z T42.heap b41 .int (own_fl ylaw_1) := by subst hq43 hq44 hq45 hq46 hq47 hq48 hq49 hq50 hq51 hq52 hq53 hq54 hq55 hq56 hq57 hq58 hq59 hq60 hq61 hq62; exact P42_0
  show Wq _ _ _ _ _ (T42.setTop (mkF m 70 #[.val (.long ylaw_1), .second, .val (.int xlaw_2), .val (.int xlaw_3), .val (.int xlaw_4), .val (.int xlaw_5), .val (.int xlaw_6), .val (.int v3), .val (.int v14), .val (.int v19), .val (.int v30), .val (.int ms51_0), .val (.int v56), .val (.ref b41), .unset, .unset, .unset, .unset, .unset, .unset, .unset, .unset, .unset, .unset, .unset] []))
  refine Ow.iload X42 hx (pc' := 72) (hb hby at_70) rfl ?_
  refine Ow.bipush X42 hx (pc' := 74) (hb hby at_72) (z := (20 : Int32)) rfl ?_
  by_cases hc74 : v30 < (20 : Int32)
  · skip
    refine Ow.icmpNo X42 hx (pc' := 77) (hb hby at_74) (tlt hc74).2.1 ?_
    refine Ow.aload X42 hx (pc' := 79) (hb hby at_77) rfl rfl ?_
    refine Ow.iload X42 hx (pc' := 81) (hb hby at_79) rfl ?_
    refine Ow.iload X42 hx (pc' := 83) (hb hby at_81) rfl ?_
    obtain ⟨T63, h63, X63, e63, W63, Vr63, st63⟩ := asI X42 hx hZ e42 VF (j := v30) (i := (own_n v30)) (own_nn hv30) (rfl) (own_pl hc74 hv30) (g := (mkF m 83 #[.val (.long ylaw_1), .second, .val (.int xlaw_2), .val (.int xlaw_3), .val (.int xlaw_4), .val (.int xlaw_5), .val (.int xlaw_6), .val (.int v3), .val (.int v14), .val (.int v19), .val (.int v30), .val (.int ms51_0), .val (.int v56), .val (.ref b41), .unset, .unset, .unset, .unset, .unset, .unset, .unset, .unset, .unset, .unset, .unset] [(.int ms51_0), (.int v30), (.ref b41)])) rfl rfl (hb hby at_83)
    refine Wq.step st63 ?_
    have N63 := Fr.snoc X63 N42 g_b41
    have K63 : Keep h0 h63 [] := K42.wr W63 (Or.inr sz_b41)
    have Z63 : n0 ≤ h63.size := Nat.le_trans Z42 (Keep.of_wr W63).1
    have V_b41_t63 : Al Z h63 b41 .int ((own_fl ylaw_1).set (own_n v30) (.int ms51_0)) := Vr63
    show Wq _ _ _ _ _ (T63.setTop (mkF m 84 #[.val (.long ylaw_1), .second, .val (.int xlaw_2), .val (.int xlaw_3), .val (.int xlaw_4), .val (.int xlaw_5), .val (.int xlaw_6), .val (.int v3), .val (.int v14), .val (.int v19), .val (.int v30), .val (.int ms51_0), .val (.int v56), .val (.ref b41), .unset, .unset, .unset, .unset, .unset, .unset, .unset, .unset, .unset, .unset, .unset] []))
    refine Ow.bipush X63 hx (pc' := 86) (hb hby at_84) (z := (8 : Int32)) rfl ?_
    obtain ⟨T64, h64, k64, X64, e64, E64, A64, st64⟩ := newP X63 hx hZ (aty := .byte) (kw5 hw) e63 (g := (mkF m 86 #[.val (.long ylaw_1), .second, .val (.int xlaw_2), .val (.int xlaw_3), .val (.int xlaw_4), .val (.int xlaw_5), .val (.int xlaw_6), .val (.int v3), .val (.int v14), .val (.int v19), .val (.int v30), .val (.int ms51_0), .val (.int v56), .val (.ref b41), .unset, .unset, .unset, .unset, .unset, .unset, .unset, .unset, .unset, .unset, .unset] [(.int (8 : Int32))])) rfl (hb hby at_86) rfl (by decide) (cap := 8) (by decide) (by decide) (by decide) (by decide)
    obtain ⟨b64, gz64⟩ : ∃ z, z = h63.size := ⟨_, rfl⟩
    rw [← gz64] at A64 st64
    have g_b64 : n0 ≤ b64 := Nat.le_trans Z63 (Nat.le_of_eq gz64.symm)
    have sz_b64 : h0.size ≤ b64 := Nat.le_trans K63.1 (Nat.le_of_eq gz64.symm)
    have ne_b41_b64 : b41 ≠ b64 := Nat.ne_of_lt (Nat.lt_of_lt_of_le V_b41_t63.lt (Nat.le_of_eq gz64.symm))
    have K64 : Keep h0 h64 [] := K63.ext E64
    have Z64 : n0 ≤ h64.size := Nat.le_trans Z63 E64.1
    have V_b41_t64 := V_b41_t63.ext E64
    have V_b64 : Al Z h64 b64 .byte [(.int (0 : Int32)), (.int (0 : Int32)), (.int (0 : Int32)), (.int (0 : Int32)), (.int (0 : Int32)), (.int (0 : Int32)), (.int (0 : Int32)), (.int (0 : Int32))] := Al.new A64 (k := 8) (rfl) rfl
    refine Wq.step st64 ?_
    show Wq _ _ _ _ _ (T64.setTop (mkF m 88 #[.val (.long ylaw_1), .second, .val (.int xlaw_2), .val (.int xlaw_3), .val (.int xlaw_4), .val (.int xlaw_5), .val (.int xlaw_6), .val (.int v3), .val (.int v14), .val (.int v19), .val (.int v30), .val (.int ms51_0), .val (.int v56), .val (.ref b41), .unset, .unset, .unset, .unset, .unset, .unset, .unset, .unset, .unset, .unset, .unset] [(.ref b64)]))
    refine Ow.astore X64 hx (pc' := 90) (hb hby at_88) rfl (l' := #[.val (.long ylaw_1), .second, .val (.int xlaw_2), .val (.int xlaw_3), .val (.int xlaw_4), .val (.int xlaw_5), .val (.int xlaw_6), .val (.int v3), .val (.int v14), .val (.int v19), .val (.int v30), .val (.int ms51_0), .val (.int v56), .val (.ref b41), .val (.ref b64), .unset, .unset, .unset, .unset, .unset, .unset, .unset, .unset, .unset, .unset]) rfl ?_
    refine Ow.aload X64 hx (pc' := 92) (hb hby at_90) rfl rfl ?_
    refine Ow.iconst X64 hx (pc' := 93) (hb hby at_92) (z := (0 : Int32)) rfl ?_
    refine Ow.iload X64 hx (pc' := 95) (hb hby at_93) rfl ?_
    obtain ⟨T65, h65, X65, e65, W65, Vr65, st65⟩ := asB X64 hx hZ e64 V_b64 (j := (0 : Int32)) (i := 0) (by decide) rfl (Nat.le_of_ble_eq_true rfl) (y := v56) (own_nar hv56) (g := (mkF m 95 #[.val (.long ylaw_1), .second, .val (.int xlaw_2), .val (.int xlaw_3), .val (.int xlaw_4), .val (.int xlaw_5), .val (.int xlaw_6), .val (.int v3), .val (.int v14), .val (.int v19), .val (.int v30), .val (.int ms51_0), .val (.int v56), .val (.ref b41), .val (.ref b64), .unset, .unset, .unset, .unset, .unset, .unset, .unset, .unset, .unset, .unset] [(.int v56), (.int (0 : Int32)), (.ref b64)])) rfl rfl (hb hby at_95)
    refine Wq.step st65 ?_
    have N65 := Fr.snoc X65 N63 g_b64
    have K65 : Keep h0 h65 [] := K64.wr W65 (Or.inr sz_b64)
    have Z65 : n0 ≤ h65.size := Nat.le_trans Z64 (Keep.of_wr W65).1
    have V_b41_t65 := V_b41_t64.other W65 ne_b41_b64
    have V_b64_t65 : Al Z h65 b64 .byte [(.int v56), (.int (0 : Int32)), (.int (0 : Int32)), (.int (0 : Int32)), (.int (0 : Int32)), (.int (0 : Int32)), (.int (0 : Int32)), (.int (0 : Int32))] := Vr65
    show Wq _ _ _ _ _ (T65.setTop (mkF m 96 #[.val (.long ylaw_1), .second, .val (.int xlaw_2), .val (.int xlaw_3), .val (.int xlaw_4), .val (.int xlaw_5), .val (.int xlaw_6), .val (.int v3), .val (.int v14), .val (.int v19), .val (.int v30), .val (.int ms51_0), .val (.int v56), .val (.ref b41), .val (.ref b64), .unset, .unset, .unset, .unset, .unset, .unset, .unset, .unset, .unset, .unset] []))
    refine Ow.aload X65 hx (pc' := 98) (hb hby at_96) rfl rfl ?_
    refine Ow.iconst X65 hx (pc' := 99) (hb hby at_98) (z := (1 : Int32)) rfl ?_
    refine Ow.iload X65 hx (pc' := 101) (hb hby at_99) rfl ?_
    obtain ⟨T66, h66, X66, e66, W66, Vr66, st66⟩ := asB X65 hx hZ e65 V_b64_t65 (j := (1 : Int32)) (i := 1) (by decide) rfl (Nat.le_of_ble_eq_true rfl) (y := v56) (own_nar hv56) (g := (mkF m 101 #[.val (.long ylaw_1), .second, .val (.int xlaw_2), .val (.int xlaw_3), .val (.int xlaw_4), .val (.int xlaw_5), .val (.int xlaw_6), .val (.int v3), .val (.int v14), .val (.int v19), .val (.int v30), .val (.int ms51_0), .val (.int v56), .val (.ref b41), .val (.ref b64), .unset, .unset, .unset, .unset, .unset, .unset, .unset, .unset, .unset, .unset] [(.int v56), (.int (1 : Int32)), (.ref b64)])) rfl rfl (hb hby at_101)
    refine Wq.step st66 ?_
    have N66 := Fr.snoc X66 N65 g_b64
    have K66 : Keep h0 h66 [] := K65.wr W66 (Or.inr sz_b64)
    have Z66 : n0 ≤ h66.size := Nat.le_trans Z65 (Keep.of_wr W66).1
    have V_b41_t66 := V_b41_t65.other W66 ne_b41_b64
    have V_b64_t66 : Al Z h66 b64 .byte [(.int v56), (.int v56), (.int (0 : Int32)), (.int (0 : Int32)), (.int (0 : Int32)), (.int (0 : Int32)), (.int (0 : Int32)), (.int (0 : Int32))] := Vr66
    show Wq _ _ _ _ _ (T66.setTop (mkF m 102 #[.val (.long ylaw_1), .second, .val (.int xlaw_2), .val (.int xlaw_3), .val (.int xlaw_4), .val (.int xlaw_5), .val (.int xlaw_6), .val (.int v3), .val (.int v14), .val (.int v19), .val (.int v30), .val (.int ms51_0), .val (.int v56), .val (.ref b41), .val (.ref b64), .unset, .unset, .unset, .unset, .unset, .unset, .unset, .unset, .unset, .unset] []))
    refine Ow.aload X66 hx (pc' := 104) (hb hby at_102) rfl rfl ?_
    refine Ow.iconst X66 hx (pc' := 105) (hb hby at_104) (z := (2 : Int32)) rfl ?_
    refine Ow.iload X66 hx (pc' := 107) (hb hby at_105) rfl ?_
    obtain ⟨T67, h67, X67, e67, W67, Vr67, st67⟩ := asB X66 hx hZ e66 V_b64_t66 (j := (2 : Int32)) (i := 2) (by decide) rfl (Nat.le_of_ble_eq_true rfl) (y := v56) (own_nar hv56) (g := (mkF m 107 #[.val (.long ylaw_1), .second, .val (.int xlaw_2), .val (.int xlaw_3), .val (.int xlaw_4), .val (.int xlaw_5), .val (.int xlaw_6), .val (.int v3), .val (.int v14), .val (.int v19), .val (.int v30), .val (.int ms51_0), .val (.int v56), .val (.ref b41), .val (.ref b64), .unset, .unset, .unset, .unset, .unset, .unset, .unset, .unset, .unset, .unset] [(.int v56), (.int (2 : Int32)), (.ref b64)])) rfl rfl (hb hby at_107)
    refine Wq.step st67 ?_
    have N67 := Fr.snoc X67 N66 g_b64
    have K67 : Keep h0 h67 [] := K66.wr W67 (Or.inr sz_b64)
    have Z67 : n0 ≤ h67.size := Nat.le_trans Z66 (Keep.of_wr W67).1
    have V_b41_t67 := V_b41_t66.other W67 ne_b41_b64
    have V_b64_t67 : Al Z h67 b64 .byte [(.int v56), (.int v56), (.int v56), (.int (0 : Int32)), (.int (0 : Int32)), (.int (0 : Int32)), (.int (0 : Int32)), (.int (0 : Int32))] := Vr67
    show Wq _ _ _ _ _ (T67.setTop (mkF m 108 #[.val (.long ylaw_1), .second, .val (.int xlaw_2), .val (.int xlaw_3), .val (.int xlaw_4), .val (.int xlaw_5), .val (.int xlaw_6), .val (.int v3), .val (.int v14), .val (.int v19), .val (.int v30), .val (.int ms51_0), .val (.int v56), .val (.ref b41), .val (.ref b64), .unset, .unset, .unset, .unset, .unset, .unset, .unset, .unset, .unset, .unset] []))
    refine Ow.aload X67 hx (pc' := 110) (hb hby at_108) rfl rfl ?_
    refine Ow.iconst X67 hx (pc' := 111) (hb hby at_110) (z := (3 : Int32)) rfl ?_
    refine Ow.iload X67 hx (pc' := 113) (hb hby at_111) rfl ?_
    obtain ⟨T68, h68, X68, e68, W68, Vr68, st68⟩ := asB X67 hx hZ e67 V_b64_t67 (j := (3 : Int32)) (i := 3) (by decide) rfl (Nat.le_of_ble_eq_true rfl) (y := v56) (own_nar hv56) (g := (mkF m 113 #[.val (.long ylaw_1), .second, .val (.int xlaw_2), .val (.int xlaw_3), .val (.int xlaw_4), .val (.int xlaw_5), .val (.int xlaw_6), .val (.int v3), .val (.int v14), .val (.int v19), .val (.int v30), .val (.int ms51_0), .val (.int v56), .val (.ref b41), .val (.ref b64), .unset, .unset, .unset, .unset, .unset, .unset, .unset, .unset, .unset, .unset] [(.int v56), (.int (3 : Int32)), (.ref b64)])) rfl rfl (hb hby at_113)
    refine Wq.step st68 ?_
    have N68 := Fr.snoc X68 N67 g_b64
    have K68 : Keep h0 h68 [] := K67.wr W68 (Or.inr sz_b64)
    have Z68 : n0 ≤ h68.size := Nat.le_trans Z67 (Keep.of_wr W68).1
    have V_b41_t68 := V_b41_t67.other W68 ne_b41_b64
    have V_b64_t68 : Al Z h68 b64 .byte [(.int v56), (.int v56), (.int v56), (.int v56), (.int (0 : Int32)), (.int (0 : Int32)), (.int (0 : Int32)), (.int (0 : Int32))] := Vr68
    show Wq _ _ _ _ _ (T68.setTop (mkF m 114 #[.val (.long ylaw_1), .second, .val (.int xlaw_2), .val (.int xlaw_3), .val (.int xlaw_4), .val (.int xlaw_5), .val (.int xlaw_6), .val (.int v3), .val (.int v14), .val (.int v19), .val (.int v30), .val (.int ms51_0), .val (.int v56), .val (.ref b41), .val (.ref b64), .unset, .unset, .unset, .unset, .unset, .unset, .unset, .unset, .unset, .unset] []))
    refine Ow.aload X68 hx (pc' := 116) (hb hby at_114) rfl rfl ?_
    refine Ow.iconst X68 hx (pc' := 117) (hb hby at_116) (z := (4 : Int32)) rfl ?_
    refine Ow.iload X68 hx (pc' := 119) (hb hby at_117) rfl ?_
    obtain ⟨T69, h69, X69, e69, W69, Vr69, st69⟩ := asB X68 hx hZ e68 V_b64_t68 (j := (4 : Int32)) (i := 4) (by decide) rfl (Nat.le_of_ble_eq_true rfl) (y := v56) (own_nar hv56) (g := (mkF m 119 #[.val (.long ylaw_1), .second, .val (.int xlaw_2), .val (.int xlaw_3), .val (.int xlaw_4), .val (.int xlaw_5), .val (.int xlaw_6), .val (.int v3), .val (.int v14), .val (.int v19), .val (.int v30), .val (.int ms51_0), .val (.int v56), .val (.ref b41), .val (.ref b64), .unset, .unset, .unset, .unset, .unset, .unset, .unset, .unset, .unset, .unset] [(.int v56), (.int (4 : Int32)), (.ref b64)])) rfl rfl (hb hby at_119)
    refine Wq.step st69 ?_
    have N69 := Fr.snoc X69 N68 g_b64
    have K69 : Keep h0 h69 [] := K68.wr W69 (Or.inr sz_b64)
    have Z69 : n0 ≤ h69.size := Nat.le_trans Z68 (Keep.of_wr W69).1
    have V_b41_t69 := V_b41_t68.other W69 ne_b41_b64
    have V_b64_t69 : Al Z h69 b64 .byte [(.int v56), (.int v56), (.int v56), (.int v56), (.int v56), (.int (0 : Int32)), (.int (0 : Int32)), (.int (0 : Int32))] := Vr69
    show Wq _ _ _ _ _ (T69.setTop (mkF m 120 #[.val (.long ylaw_1), .second, .val (.int xlaw_2), .val (.int xlaw_3), .val (.int xlaw_4), .val (.int xlaw_5), .val (.int xlaw_6), .val (.int v3), .val (.int v14), .val (.int v19), .val (.int v30), .val (.int ms51_0), .val (.int v56), .val (.ref b41), .val (.ref b64), .unset, .unset, .unset, .unset, .unset, .unset, .unset, .unset, .unset, .unset] []))
    refine Ow.aload X69 hx (pc' := 122) (hb hby at_120) rfl rfl ?_
    refine Ow.iconst X69 hx (pc' := 123) (hb hby at_122) (z := (5 : Int32)) rfl ?_
    refine Ow.iload X69 hx (pc' := 125) (hb hby at_123) rfl ?_
    obtain ⟨T70, h70, X70, e70, W70, Vr70, st70⟩ := asB X69 hx hZ e69 V_b64_t69 (j := (5 : Int32)) (i := 5) (by decide) rfl (Nat.le_of_ble_eq_true rfl) (y := v56) (own_nar hv56) (g := (mkF m 125 #[.val (.long ylaw_1), .second, .val (.int xlaw_2), .val (.int xlaw_3), .val (.int xlaw_4), .val (.int xlaw_5), .val (.int xlaw_6), .val (.int v3), .val (.int v14), .val (.int v19), .val (.int v30), .val (.int ms51_0), .val (.int v56), .val (.ref b41), .val (.ref b64), .unset, .unset, .unset, .unset, .unset, .unset, .unset, .unset, .unset, .unset] [(.int v56), (.int (5 : Int32)), (.ref b64)])) rfl rfl (hb hby at_125)
    refine Wq.step st70 ?_
    have N70 := Fr.snoc X70 N69 g_b64
    have K70 : Keep h0 h70 [] := K69.wr W70 (Or.inr sz_b64)
    have Z70 : n0 ≤ h70.size := Nat.le_trans Z69 (Keep.of_wr W70).1
    have V_b41_t70 := V_b41_t69.other W70 ne_b41_b64
    have V_b64_t70 : Al Z h70 b64 .byte [(.int v56), (.int v56), (.int v56), (.int v56), (.int v56), (.int v56), (.int (0 : Int32)), (.int (0 : Int32))] := Vr70
    show Wq _ _ _ _ _ (T70.setTop (mkF m 126 #[.val (.long ylaw_1), .second, .val (.int xlaw_2), .val (.int xlaw_3), .val (.int xlaw_4), .val (.int xlaw_5), .val (.int xlaw_6), .val (.int v3), .val (.int v14), .val (.int v19), .val (.int v30), .val (.int ms51_0), .val (.int v56), .val (.ref b41), .val (.ref b64), .unset, .unset, .unset, .unset, .unset, .unset, .unset, .unset, .unset, .unset] []))
    refine Ow.aload X70 hx (pc' := 128) (hb hby at_126) rfl rfl ?_
    refine Ow.bipush X70 hx (pc' := 130) (hb hby at_128) (z := (6 : Int32)) rfl ?_
    refine Ow.iload X70 hx (pc' := 132) (hb hby at_130) rfl ?_
    obtain ⟨T71, h71, X71, e71, W71, Vr71, st71⟩ := asB X70 hx hZ e70 V_b64_t70 (j := (6 : Int32)) (i := 6) (by decide) rfl (Nat.le_of_ble_eq_true rfl) (y := v56) (own_nar hv56) (g := (mkF m 132 #[.val (.long ylaw_1), .second, .val (.int xlaw_2), .val (.int xlaw_3), .val (.int xlaw_4), .val (.int xlaw_5), .val (.int xlaw_6), .val (.int v3), .val (.int v14), .val (.int v19), .val (.int v30), .val (.int ms51_0), .val (.int v56), .val (.ref b41), .val (.ref b64), .unset, .unset, .unset, .unset, .unset, .unset, .unset, .unset, .unset, .unset] [(.int v56), (.int (6 : Int32)), (.ref b64)])) rfl rfl (hb hby at_132)
    refine Wq.step st71 ?_
    have N71 := Fr.snoc X71 N70 g_b64
    have K71 : Keep h0 h71 [] := K70.wr W71 (Or.inr sz_b64)
    have Z71 : n0 ≤ h71.size := Nat.le_trans Z70 (Keep.of_wr W71).1
    have V_b41_t71 := V_b41_t70.other W71 ne_b41_b64
    have V_b64_t71 : Al Z h71 b64 .byte [(.int v56), (.int v56), (.int v56), (.int v56), (.int v56), (.int v56), (.int v56), (.int (0 : Int32))] := Vr71
    show Wq _ _ _ _ _ (T71.setTop (mkF m 133 #[.val (.long ylaw_1), .second, .val (.int xlaw_2), .val (.int xlaw_3), .val (.int xlaw_4), .val (.int xlaw_5), .val (.int xlaw_6), .val (.int v3), .val (.int v14), .val (.int v19), .val (.int v30), .val (.int ms51_0), .val (.int v56), .val (.ref b41), .val (.ref b64), .unset, .unset, .unset, .unset, .unset, .unset, .unset, .unset, .unset, .unset] []))
    refine Ow.aload X71 hx (pc' := 135) (hb hby at_133) rfl rfl ?_
    refine Ow.bipush X71 hx (pc' := 137) (hb hby at_135) (z := (7 : Int32)) rfl ?_
    refine Ow.iload X71 hx (pc' := 139) (hb hby at_137) rfl ?_
    obtain ⟨T72, h72, X72, e72, W72, Vr72, st72⟩ := asB X71 hx hZ e71 V_b64_t71 (j := (7 : Int32)) (i := 7) (by decide) rfl (Nat.le_of_ble_eq_true rfl) (y := v56) (own_nar hv56) (g := (mkF m 139 #[.val (.long ylaw_1), .second, .val (.int xlaw_2), .val (.int xlaw_3), .val (.int xlaw_4), .val (.int xlaw_5), .val (.int xlaw_6), .val (.int v3), .val (.int v14), .val (.int v19), .val (.int v30), .val (.int ms51_0), .val (.int v56), .val (.ref b41), .val (.ref b64), .unset, .unset, .unset, .unset, .unset, .unset, .unset, .unset, .unset, .unset] [(.int v56), (.int (7 : Int32)), (.ref b64)])) rfl rfl (hb hby at_139)
    refine Wq.step st72 ?_
    have N72 := Fr.snoc X72 N71 g_b64
    have K72 : Keep h0 h72 [] := K71.wr W72 (Or.inr sz_b64)
    have Z72 : n0 ≤ h72.size := Nat.le_trans Z71 (Keep.of_wr W72).1
    have V_b41_t72 := V_b41_t71.other W72 ne_b41_b64
    have V_b64_t72 : Al Z h72 b64 .byte [(.int v56), (.int v56), (.int v56), (.int v56), (.int v56), (.int v56), (.int v56), (.int v56)] := Vr72
    have HB := own_bds hv3 hv14 hv19
    have HQ := own_pq hv30
    show Wq _ _ _ _ _ (T72.setTop (mkF m 140 #[.val (.long ylaw_1), .second, .val (.int xlaw_2), .val (.int xlaw_3), .val (.int xlaw_4), .val (.int xlaw_5), .val (.int xlaw_6), .val (.int v3), .val (.int v14), .val (.int v19), .val (.int v30), .val (.int ms51_0), .val (.int v56), .val (.ref b41), .val (.ref b64), .unset, .unset, .unset, .unset, .unset, .unset, .unset, .unset, .unset, .unset] []))
    refine Ow.aload X72 hx (pc' := 142) (hb hby at_140) rfl rfl ?_
    refine Ow.iload X72 hx (pc' := 144) (hb hby at_142) rfl ?_
    refine Ow.iload X72 hx (pc' := 146) (hb hby at_144) rfl ?_
    refine Ow.aload X72 hx (pc' := 148) (hb hby at_146) rfl rfl ?_
    refine Ow.iload X72 hx (pc' := 150) (hb hby at_148) rfl ?_
    obtain ⟨_, _, ⟨T73, L73, k73, n73⟩, -, X73, ⟨Lc73, hQ73, l73, y73, z73⟩, st73⟩ := Jvm.LawKit.callS X72 hx (y := mt3) hown (mvT hZ (kw6 hw)) (mvT hZ (kw7 hw)) (mvT hZ (kw8 hw)) (mvT hZ (kw9 hw)) (by decide) (backOf (W := 0) (rm_pk l Z a0 hw [] b41 v3 v14 b64 v19 (own_W ylaw_1 (own_n v3) (own_n v30) ms51_0) ((own_fl ylaw_1).set (own_n v30) (.int ms51_0)) [(.int v56), (.int v56), (.int v56), (.int v56), (.int v56), (.int v56), (.int v56), (.int v56)] h72 n0 Z72 (HB) (own_hvS (own_n v30) ms51_0) (rfl) V_b41_t72 V_b64_t72 ne_b41_b64 g_b64) hZ (kw9 hw) (kw8 hw) (by decide) (by decide)) (g := (mkF m 150 #[.val (.long ylaw_1), .second, .val (.int xlaw_2), .val (.int xlaw_3), .val (.int xlaw_4), .val (.int xlaw_5), .val (.int xlaw_6), .val (.int v3), .val (.int v14), .val (.int v19), .val (.int v30), .val (.int ms51_0), .val (.int v56), .val (.ref b41), .val (.ref b64), .unset, .unset, .unset, .unset, .unset, .unset, .unset, .unset, .unset, .unset] [(.int v19), (.ref b64), (.int v14), (.int v3), (.ref b41)])) rfl (by rw [hml]; rfl) (argsL := [(.ref b41), (.int v3), (.int v14), (.ref b64), (.int v19)]) (rest := []) (lenOf pd2 rfl) rfl (by show 2 * 0 + _ ≤ _; exact Nat.le_of_eq rfl) (hb hby at_150) (fun _ _ => ⟨rfl, e72, (by decide : 2 + 0 ≤ _), (by decide : 28 + 0 ≤ _)⟩)
    dsimp only [Pt.U, Pt.locs, Pt.cells, Pt.slots] at X73 l73 y73 z73 st73 hQ73
    subst l73 y73 z73
    obtain ⟨rfl, Nq73, Kq73, P73_0⟩ := hQ73
    have N73 := Fr.app N72 Nq73
    have K73 : Keep h0 T73.heap [] := K72.trans Kq73 (allS (P := fun x => x ∈ [] ∨ h0.size ≤ x) (Or.inr sz_b64) all0)
    have Z73 : n0 ≤ T73.heap.size := Nat.le_trans Z72 Kq73.1
    have V_b41_t73 := V_b41_t72.keep Kq73 (ninS ne_b41_b64 nin0)
    have e73 : T73.heap = T73.heap := rfl
    obtain ⟨q74, hq74⟩ : ∃ z : List Value, z = (own_dq (own_W ylaw_1 (own_n v3) (own_n v30) ms51_0) (own_n v19) [(.int v56), (.int v56), (.int v56), (.int v56), (.int v56), (.int v56), (.int v56), (.int v56)] (own_n v14) ((own_n v14 + 7) / 8)) := ⟨_, rfl⟩
    rw [← hq74] at P73_0
    refine Wq.step st73 ?_
    show Wq _ _ _ _ _ (T73.setTop (mkF m 153 #[.val (.long ylaw_1), .second, .val (.int xlaw_2), .val (.int xlaw_3), .val (.int xlaw_4), .val (.int xlaw_5), .val (.int xlaw_6), .val (.int v3), .val (.int v14), .val (.int v19), .val (.int v30), .val (.int ms51_0), .val (.int v56), .val (.ref b41), .val (.ref b64), .unset, .unset, .unset, .unset, .unset, .unset, .unset, .unset, .unset, .unset] [(.int (own_or (own_W ylaw_1 (own_n v3) (own_n v30) ms51_0) (own_n v14)))]))
    generalize hv150 : (own_or (own_W ylaw_1 (own_n v3) (own_n v30) ms51_0) (own_n v14)) = v150
    show Wq _ _ _ _ _ (T73.setTop (mkF m 153 #[.val (.long ylaw_1), .second, .val (.int xlaw_2), .val (.int xlaw_3), .val (.int xlaw_4), .val (.int xlaw_5), .val (.int xlaw_6), .val (.int v3), .val (.int v14), .val (.int v19), .val (.int v30), .val (.int ms51_0), .val (.int v56), .val (.ref b41), .val (.ref b64), .unset, .unset, .unset, .unset, .unset, .unset, .unset, .unset, .unset, .unset] [(.int v150)]))
    refine Ow.istore X73 hx (pc' := 155) (hb hby at_153) (l' := #[.val (.long ylaw_1), .second, .val (.int xlaw_2), .val (.int xlaw_3), .val (.int xlaw_4), .val (.int xlaw_5), .val (.int xlaw_6), .val (.int v3), .val (.int v14), .val (.int v19), .val (.int v30), .val (.int ms51_0), .val (.int v56), .val (.ref b41), .val (.ref b64), .val (.int v150), .unset, .unset, .unset, .unset, .unset, .unset, .unset, .unset, .unset]) rfl ?_
    refine Ow.iload X73 hx (pc' := 157) (hb hby at_155) rfl ?_
    refine Ow.iload X73 hx (pc' := 159) (hb hby at_157) rfl ?_
    by_cases hc159 : v30 < v3
    · skip
      refine Ow.icmpYes X73 hx (pc' := 176) (hb hby at_159) (tlt hc159).1 (by decide) (by decide) ?_
      refine Ow.iconst X73 hx (pc' := 177) (hb hby at_176) (z := (0 : Int32)) rfl ?_
      refine Ow.istore X73 hx (pc' := 179) (hb hby at_177) (l' := #[.val (.long ylaw_1), .second, .val (.int xlaw_2), .val (.int xlaw_3), .val (.int xlaw_4), .val (.int xlaw_5), .val (.int xlaw_6), .val (.int v3), .val (.int v14), .val (.int v19), .val (.int v30), .val (.int ms51_0), .val (.int v56), .val (.ref b41), .val (.ref b64), .val (.int v150), .val (.int (0 : Int32)), .unset, .unset, .unset, .unset, .unset, .unset, .unset, .unset]) rfl ?_
      refine Ow.lloadN X73 hx (pc' := 180) (hb hby at_179) rfl ?_
      refine Ow.iload X73 hx (pc' := 182) (hb hby at_180) rfl ?_
      refine Ow.lushr X73 hx (pc' := 183) (hb hby at_182) (z := ((ylaw_1.toUInt64 >>> (v3 &&& 0x3f).toInt64.toUInt64).toInt64)) rfl ?_
      refine Ow.lconst X73 hx (pc' := 184) (hb hby at_183) (z := (1 : Int64)) rfl ?_
      refine Ow.iload X73 hx (pc' := 186) (hb hby at_184) rfl ?_
      refine Ow.lshl X73 hx (pc' := 187) (hb hby at_186) (z := ((1 : Int64) <<< (v14 &&& 0x3f).toInt64)) rfl ?_
      refine Ow.lconst X73 hx (pc' := 188) (hb hby at_187) (z := (1 : Int64)) rfl ?_
      refine Ow.lsub X73 hx (pc' := 189) (hb hby at_188) (z := (((1 : Int64) <<< (v14 &&& 0x3f).toInt64) - (1 : Int64))) rfl ?_
      refine Ow.land X73 hx (pc' := 190) (hb hby at_189) (z := (((ylaw_1.toUInt64 >>> (v3 &&& 0x3f).toInt64.toUInt64).toInt64) &&& (((1 : Int64) <<< (v14 &&& 0x3f).toInt64) - (1 : Int64)))) rfl ?_
      refine Ow.lstore X73 hx (pc' := 192) (hb hby at_190) (l' := #[.val (.long ylaw_1), .second, .val (.int xlaw_2), .val (.int xlaw_3), .val (.int xlaw_4), .val (.int xlaw_5), .val (.int xlaw_6), .val (.int v3), .val (.int v14), .val (.int v19), .val (.int v30), .val (.int ms51_0), .val (.int v56), .val (.ref b41), .val (.ref b64), .val (.int v150), .val (.int (0 : Int32)), .val (.long (((ylaw_1.toUInt64 >>> (v3 &&& 0x3f).toInt64.toUInt64).toInt64) &&& (((1 : Int64) <<< (v14 &&& 0x3f).toInt64) - (1 : Int64)))), .second, .unset, .unset, .unset, .unset, .unset, .unset]) rfl ?_
      generalize hv190 : (((ylaw_1.toUInt64 >>> (v3 &&& 0x3f).toInt64.toUInt64).toInt64) &&& (((1 : Int64) <<< (v14 &&& 0x3f).toInt64) - (1 : Int64))) = v190
      refine Ow.lload X73 hx (pc' := 194) (hb hby at_192) rfl ?_
      refine Ow.lstore X73 hx (pc' := 196) (hb hby at_194) (l' := #[.val (.long ylaw_1), .second, .val (.int xlaw_2), .val (.int xlaw_3), .val (.int xlaw_4), .val (.int xlaw_5), .val (.int xlaw_6), .val (.int v3), .val (.int v14), .val (.int v19), .val (.int v30), .val (.int ms51_0), .val (.int v56), .val (.ref b41), .val (.ref b64), .val (.int v150), .val (.int (0 : Int32)), .val (.long v190), .second, .val (.long v190), .second, .unset, .unset, .unset, .unset]) rfl ?_
      refine Ow.iload X73 hx (pc' := 198) (hb hby at_196) rfl ?_
      refine Ow.ifYes X73 hx (pc' := 254) (hb hby at_198) ((if0 _ _).trans (teq (by decide : (0 : Int32) = (0 : Int32))).1) (by decide) (by decide) ?_
      refine Ow.lload X73 hx (pc' := 256) (hb hby at_254) rfl ?_
      refine Ow.lconst X73 hx (pc' := 257) (hb hby at_256) (z := (0 : Int64)) rfl ?_
      refine Ow.lcmp X73 hx (pc' := 258) (hb hby at_257)  ?_
      refine Wq.by (U' := T73.setTop (mkF m 266 #[.val (.long ylaw_1), .second, .val (.int xlaw_2), .val (.int xlaw_3), .val (.int xlaw_4), .val (.int xlaw_5), .val (.int xlaw_6), .val (.int v3), .val (.int v14), .val (.int v19), .val (.int v30), .val (.int ms51_0), .val (.int v56), .val (.ref b41), .val (.ref b64), .val (.int v150), .val (.int (0 : Int32)), .val (.long v190), .second, .val (.long v190), .second, .unset, .unset, .unset, .unset] [(.int (if v190 = (0 : Int64) then (0 : Int32) else (1 : Int32)))])) (fun k => ?_) ?_
      · skip
        by_cases hm258 : v190 = (0 : Int64)
        · skip
          refine Ow.ifYes X73 hx (pc' := 265) (hb hby at_258) ((if0 _ _).trans (teq ((lw_eq _ _).mpr hm258)).1) (by decide) (by decide) ?_
          refine Ow.iconst X73 hx (pc' := 266) (hb hby at_265) (z := (0 : Int32)) rfl ?_
          simp only [if_pos hm258] at k
          exact k
        · skip
          refine Ow.ifNo X73 hx (pc' := 261) (hb hby at_258) ((if0 _ _).trans (feq (mt (lw_eq _ _).mp hm258)).1) ?_
          refine Ow.iconst X73 hx (pc' := 262) (hb hby at_261) (z := (1 : Int32)) rfl ?_
          refine Ow.goto X73 hx (pc' := 266) (hb hby at_262) (by decide) (by decide) ?_
          simp only [if_neg hm258] at k
          exact k
      show Wq _ _ _ _ _ (T73.setTop (mkF m 266 #[.val (.long ylaw_1), .second, .val (.int xlaw_2), .val (.int xlaw_3), .val (.int xlaw_4), .val (.int xlaw_5), .val (.int xlaw_6), .val (.int v3), .val (.int v14), .val (.int v19), .val (.int v30), .val (.int ms51_0), .val (.int v56), .val (.ref b41), .val (.ref b64), .val (.int v150), .val (.int (0 : Int32)), .val (.long v190), .second, .val (.long v190), .second, .unset, .unset, .unset, .unset] [(.int (if v190 = (0 : Int64) then (0 : Int32) else (1 : Int32)))]))
      generalize hms266_0 : (if v190 = (0 : Int64) then (0 : Int32) else (1 : Int32)) = ms266_0
      refine Ow.istore X73 hx (pc' := 268) (hb hby at_266) (l' := #[.val (.long ylaw_1), .second, .val (.int xlaw_2), .val (.int xlaw_3), .val (.int xlaw_4), .val (.int xlaw_5), .val (.int xlaw_6), .val (.int v3), .val (.int v14), .val (.int v19), .val (.int v30), .val (.int ms51_0), .val (.int v56), .val (.ref b41), .val (.ref b64), .val (.int v150), .val (.int (0 : Int32)), .val (.long v190), .second, .val (.long v190), .second, .val (.int ms266_0), .unset, .unset, .unset]) rfl ?_
      refine Ow.iload X73 hx (pc' := 270) (hb hby at_268) rfl ?_
      refine Ow.ifYes X73 hx (pc' := 281) (hb hby at_270) ((if0 _ _).trans (teq (by decide : (0 : Int32) = (0 : Int32))).1) (by decide) (by decide) ?_
      refine Ow.iconst X73 hx (pc' := 282) (hb hby at_281) (z := (1 : Int32)) rfl ?_
      refine Ow.goto X73 hx (pc' := 286) (hb hby at_282) (by decide) (by decide) ?_
      refine Ow.istore X73 hx (pc' := 288) (hb hby at_286) (l' := #[.val (.long ylaw_1), .second, .val (.int xlaw_2), .val (.int xlaw_3), .val (.int xlaw_4), .val (.int xlaw_5), .val (.int xlaw_6), .val (.int v3), .val (.int v14), .val (.int v19), .val (.int v30), .val (.int ms51_0), .val (.int v56), .val (.ref b41), .val (.ref b64), .val (.int v150), .val (.int (0 : Int32)), .val (.long v190), .second, .val (.long v190), .second, .val (.int ms266_0), .val (.int (1 : Int32)), .unset, .unset]) rfl ?_
      refine Ow.iload X73 hx (pc' := 290) (hb hby at_288) rfl ?_
      refine Ow.bipush X73 hx (pc' := 292) (hb hby at_290) (z := (7 : Int32)) rfl ?_
      refine Ow.iadd X73 hx (pc' := 293) (hb hby at_292) (z := (v14 + (7 : Int32))) rfl ?_
      refine Ow.bipush X73 hx (pc' := 295) (hb hby at_293) (z := (8 : Int32)) rfl ?_
      refine Ow.idiv X73 hx (pc' := 296) (hb hby at_295) (by decide : (8 : Int32) ≠ (0 : Int32)) (z := ((v14 + (7 : Int32)) / (8 : Int32))) rfl ?_
      refine Ow.istore X73 hx (pc' := 298) (hb hby at_296) (l' := #[.val (.long ylaw_1), .second, .val (.int xlaw_2), .val (.int xlaw_3), .val (.int xlaw_4), .val (.int xlaw_5), .val (.int xlaw_6), .val (.int v3), .val (.int v14), .val (.int v19), .val (.int v30), .val (.int ms51_0), .val (.int v56), .val (.ref b41), .val (.ref b64), .val (.int v150), .val (.int (0 : Int32)), .val (.long v190), .second, .val (.long v190), .second, .val (.int ms266_0), .val (.int (1 : Int32)), .val (.int ((v14 + (7 : Int32)) / (8 : Int32))), .unset]) rfl ?_
      generalize hv296 : ((v14 + (7 : Int32)) / (8 : Int32)) = v296
      have HO : v150 = ms266_0 := own_orO HB HQ (own_oc HB) (Or.inl hc159) hv150 hv190 hms266_0
      have HI := own_insO (w := ms51_0) HB HQ (own_oc HB) (Or.inl hc159) hv190
      refine Ow.iload X73 hx (pc' := 300) (hb hby at_298) rfl ?_
      refine Ow.iload X73 hx (pc' := 302) (hb hby at_300) rfl ?_
      refine Ow.icmpNo X73 hx (pc' := 305) (hb hby at_302) (teq (HO : v150 = ms266_0)).2 ?_
      refine Ow.iconst X73 hx (pc' := 306) (hb hby at_305) (z := (1 : Int32)) rfl ?_
      refine Ow.goto X73 hx (pc' := 310) (hb hby at_306) (by decide) (by decide) ?_
      refine Ow.istore X73 hx (pc' := 312) (hb hby at_310) (l' := #[.val (.long ylaw_1), .second, .val (.int xlaw_2), .val (.int xlaw_3), .val (.int xlaw_4), .val (.int xlaw_5), .val (.int xlaw_6), .val (.int v3), .val (.int v14), .val (.int v19), .val (.int v30), .val (.int ms51_0), .val (.int v56), .val (.ref b41), .val (.ref b64), .val (.int v150), .val (.int (0 : Int32)), .val (.long v190), .second, .val (.long v190), .second, .val (.int ms266_0), .val (.int (1 : Int32)), .val (.int v296), .val (.int (1 : Int32))]) rfl ?_
      refine Ow.iload X73 hx (pc' := 314) (hb hby at_312) rfl ?_
      refine Ow.ifNo X73 hx (pc' := 317) (hb hby at_314) ((if0 _ _).trans (feq (by decide : ¬ ((1 : Int32) = (0 : Int32)))).1) ?_
      refine Ow.aload X73 hx (pc' := 319) (hb hby at_317) rfl rfl ?_
      refine Ow.iconst X73 hx (pc' := 320) (hb hby at_319) (z := (0 : Int32)) rfl ?_
      refine Ow.iload X73 hx (pc' := 322) (hb hby at_320) rfl ?_
      refine Ow.iload X73 hx (pc' := 324) (hb hby at_322) rfl ?_
      refine Ow.lload X73 hx (pc' := 326) (hb hby at_324) rfl ?_
      refine Ow.iload X73 hx (pc' := 328) (hb hby at_326) rfl ?_
      refine Ow.iload X73 hx (pc' := 330) (hb hby at_328) rfl ?_
      obtain ⟨_, _, ⟨T75, L75, k75, n75⟩, -, X75, ⟨Lc75, hQ75, l75, y75, z75⟩, st75⟩ := Jvm.LawKit.callS X73 hx (y := mt2) hown (mvT hZ (kw10 hw)) (mvT hZ (kw11 hw)) (mvT hZ (kw3 hw)) (mvT hZ (kw12 hw)) (by decide) (backOf (W := 0) (rm_at l Z a0 hw [] b64 (0 : Int32) v19 v296 v190 v56 (1 : Int32) q74 (own_by (own_W ylaw_1 (own_n v3) (own_n v30) ms51_0) (own_n v19) (own_n v14) v56 0) T73.heap n0 Z73 (by decide) (by rw [hq74]; exact own_get HB v56 0 (by decide) (by decide)) P73_0) hZ (kw12 hw) (kw3 hw) (by decide) (by decide)) (g := (mkF m 330 #[.val (.long ylaw_1), .second, .val (.int xlaw_2), .val (.int xlaw_3), .val (.int xlaw_4), .val (.int xlaw_5), .val (.int xlaw_6), .val (.int v3), .val (.int v14), .val (.int v19), .val (.int v30), .val (.int ms51_0), .val (.int v56), .val (.ref b41), .val (.ref b64), .val (.int v150), .val (.int (0 : Int32)), .val (.long v190), .second, .val (.long v190), .second, .val (.int ms266_0), .val (.int (1 : Int32)), .val (.int v296), .val (.int (1 : Int32))] [(.int (1 : Int32)), (.int v56), (.long v190), (.int v296), (.int v19), (.int (0 : Int32)), (.ref b64)])) rfl (by rw [hml]; rfl) (argsL := [(.ref b64), (.int (0 : Int32)), (.int v19), (.int v296), (.long v190), (.int v56), (.int (1 : Int32))]) (rest := []) (lenOf pd3 rfl) rfl (by show 2 * 0 + _ ≤ _; exact Nat.le_of_eq rfl) (hb hby at_330) (fun _ _ => ⟨rfl, e73, (by decide : 2 + 0 ≤ _), (by decide : 28 + 0 ≤ _)⟩)
      dsimp only [Pt.U, Pt.locs, Pt.cells, Pt.slots] at X75 l75 y75 z75 st75 hQ75
      subst l75 y75 z75
      obtain ⟨rfl, Nq75, e75⟩ := hQ75
      have N75 := Fr.app N73 Nq75
      refine Wq.step st75 ?_
      show Wq _ _ _ _ _ (T75.setTop (mkF m 333 #[.val (.long ylaw_1), .second, .val (.int xlaw_2), .val (.int xlaw_3), .val (.int xlaw_4), .val (.int xlaw_5), .val (.int xlaw_6), .val (.int v3), .val (.int v14), .val (.int v19), .val (.int v30), .val (.int ms51_0), .val (.int v56), .val (.ref b41), .val (.ref b64), .val (.int v150), .val (.int (0 : Int32)), .val (.long v190), .second, .val (.long v190), .second, .val (.int ms266_0), .val (.int (1 : Int32)), .val (.int v296), .val (.int (1 : Int32))] [(.int (f_at (0 : Int32) v19 v296 v190 v56 (1 : Int32) (own_by (own_W ylaw_1 (own_n v3) (own_n v30) ms51_0) (own_n v19) (own_n v14) v56 0)))]))
      generalize hv330 : (f_at (0 : Int32) v19 v296 v190 v56 (1 : Int32) (own_by (own_W ylaw_1 (own_n v3) (own_n v30) ms51_0) (own_n v19) (own_n v14) v56 0)) = v330
      show Wq _ _ _ _ _ (T75.setTop (mkF m 333 #[.val (.long ylaw_1), .second, .val (.int xlaw_2), .val (.int xlaw_3), .val (.int xlaw_4), .val (.int xlaw_5), .val (.int xlaw_6), .val (.int v3), .val (.int v14), .val (.int v19), .val (.int v30), .val (.int ms51_0), .val (.int v56), .val (.ref b41), .val (.ref b64), .val (.int v150), .val (.int (0 : Int32)), .val (.long v190), .second, .val (.long v190), .second, .val (.int ms266_0), .val (.int (1 : Int32)), .val (.int v296), .val (.int (1 : Int32))] [(.int v330)]))
      refine Ow.ifNo X75 hx (pc' := 336) (hb hby at_333) ((if0 _ _).trans (feq (own_at HB hv296 (Or.inr HI) 0 (by decide) hv330 : ¬ (v330 = (0 : Int32)))).1) ?_
      refine Ow.iconst X75 hx (pc' := 337) (hb hby at_336) (z := (1 : Int32)) rfl ?_
      refine Ow.goto X75 hx (pc' := 341) (hb hby at_337) (by decide) (by decide) ?_
      refine Ow.istore X75 hx (pc' := 343) (hb hby at_341) (l' := #[.val (.long ylaw_1), .second, .val (.int xlaw_2), .val (.int xlaw_3), .val (.int xlaw_4), .val (.int xlaw_5), .val (.int xlaw_6), .val (.int v3), .val (.int v14), .val (.int v19), .val (.int v30), .val (.int ms51_0), .val (.int v56), .val (.ref b41), .val (.ref b64), .val (.int v150), .val (.int (0 : Int32)), .val (.long v190), .second, .val (.long v190), .second, .val (.int ms266_0), .val (.int (1 : Int32)), .val (.int v296), .val (.int (1 : Int32))]) rfl ?_
      refine Ow.iload X75 hx (pc' := 345) (hb hby at_343) rfl ?_
      refine Ow.ifNo X75 hx (pc' := 348) (hb hby at_345) ((if0 _ _).trans (feq (by decide : ¬ ((1 : Int32) = (0 : Int32)))).1) ?_
      refine Ow.aload X75 hx (pc' := 350) (hb hby at_348) rfl rfl ?_
      refine Ow.iconst X75 hx (pc' := 351) (hb hby at_350) (z := (1 : Int32)) rfl ?_
      refine Ow.iload X75 hx (pc' := 353) (hb hby at_351) rfl ?_
      refine Ow.iload X75 hx (pc' := 355) (hb hby at_353) rfl ?_
      refine Ow.lload X75 hx (pc' := 357) (hb hby at_355) rfl ?_
      refine Ow.iload X75 hx (pc' := 359) (hb hby at_357) rfl ?_
      refine Ow.iload X75 hx (pc' := 361) (hb hby at_359) rfl ?_
      obtain ⟨_, _, ⟨T76, L76, k76, n76⟩, -, X76, ⟨Lc76, hQ76, l76, y76, z76⟩, st76⟩ := Jvm.LawKit.callS X75 hx (y := mt2) hown (mvT hZ (kw10 hw)) (mvT hZ (kw11 hw)) (mvT hZ (kw3 hw)) (mvT hZ (kw12 hw)) (by decide) (backOf (W := 0) (rm_at l Z a0 hw [] b64 (1 : Int32) v19 v296 v190 v56 (1 : Int32) q74 (own_by (own_W ylaw_1 (own_n v3) (own_n v30) ms51_0) (own_n v19) (own_n v14) v56 1) T73.heap n0 Z73 (by decide) (by rw [hq74]; exact own_get HB v56 1 (by decide) (by decide)) P73_0) hZ (kw12 hw) (kw3 hw) (by decide) (by decide)) (g := (mkF m 361 #[.val (.long ylaw_1), .second, .val (.int xlaw_2), .val (.int xlaw_3), .val (.int xlaw_4), .val (.int xlaw_5), .val (.int xlaw_6), .val (.int v3), .val (.int v14), .val (.int v19), .val (.int v30), .val (.int ms51_0), .val (.int v56), .val (.ref b41), .val (.ref b64), .val (.int v150), .val (.int (0 : Int32)), .val (.long v190), .second, .val (.long v190), .second, .val (.int ms266_0), .val (.int (1 : Int32)), .val (.int v296), .val (.int (1 : Int32))] [(.int (1 : Int32)), (.int v56), (.long v190), (.int v296), (.int v19), (.int (1 : Int32)), (.ref b64)])) rfl (by rw [hml]; rfl) (argsL := [(.ref b64), (.int (1 : Int32)), (.int v19), (.int v296), (.long v190), (.int v56), (.int (1 : Int32))]) (rest := []) (lenOf pd3 rfl) rfl (by show 2 * 0 + _ ≤ _; exact Nat.le_of_eq rfl) (hb hby at_361) (fun _ _ => ⟨rfl, e75, (by decide : 2 + 0 ≤ _), (by decide : 28 + 0 ≤ _)⟩)
      dsimp only [Pt.U, Pt.locs, Pt.cells, Pt.slots] at X76 l76 y76 z76 st76 hQ76
      subst l76 y76 z76
      obtain ⟨rfl, Nq76, e76⟩ := hQ76
      have N76 := Fr.app N75 Nq76
      refine Wq.step st76 ?_
      show Wq _ _ _ _ _ (T76.setTop (mkF m 364 #[.val (.long ylaw_1), .second, .val (.int xlaw_2), .val (.int xlaw_3), .val (.int xlaw_4), .val (.int xlaw_5), .val (.int xlaw_6), .val (.int v3), .val (.int v14), .val (.int v19), .val (.int v30), .val (.int ms51_0), .val (.int v56), .val (.ref b41), .val (.ref b64), .val (.int v150), .val (.int (0 : Int32)), .val (.long v190), .second, .val (.long v190), .second, .val (.int ms266_0), .val (.int (1 : Int32)), .val (.int v296), .val (.int (1 : Int32))] [(.int (f_at (1 : Int32) v19 v296 v190 v56 (1 : Int32) (own_by (own_W ylaw_1 (own_n v3) (own_n v30) ms51_0) (own_n v19) (own_n v14) v56 1)))]))
      generalize hv361 : (f_at (1 : Int32) v19 v296 v190 v56 (1 : Int32) (own_by (own_W ylaw_1 (own_n v3) (own_n v30) ms51_0) (own_n v19) (own_n v14) v56 1)) = v361
      show Wq _ _ _ _ _ (T76.setTop (mkF m 364 #[.val (.long ylaw_1), .second, .val (.int xlaw_2), .val (.int xlaw_3), .val (.int xlaw_4), .val (.int xlaw_5), .val (.int xlaw_6), .val (.int v3), .val (.int v14), .val (.int v19), .val (.int v30), .val (.int ms51_0), .val (.int v56), .val (.ref b41), .val (.ref b64), .val (.int v150), .val (.int (0 : Int32)), .val (.long v190), .second, .val (.long v190), .second, .val (.int ms266_0), .val (.int (1 : Int32)), .val (.int v296), .val (.int (1 : Int32))] [(.int v361)]))
      refine Ow.ifNo X76 hx (pc' := 367) (hb hby at_364) ((if0 _ _).trans (feq (own_at HB hv296 (Or.inr HI) 1 (by decide) hv361 : ¬ (v361 = (0 : Int32)))).1) ?_
      refine Ow.iconst X76 hx (pc' := 368) (hb hby at_367) (z := (1 : Int32)) rfl ?_
      refine Ow.goto X76 hx (pc' := 372) (hb hby at_368) (by decide) (by decide) ?_
      refine Ow.istore X76 hx (pc' := 374) (hb hby at_372) (l' := #[.val (.long ylaw_1), .second, .val (.int xlaw_2), .val (.int xlaw_3), .val (.int xlaw_4), .val (.int xlaw_5), .val (.int xlaw_6), .val (.int v3), .val (.int v14), .val (.int v19), .val (.int v30), .val (.int ms51_0), .val (.int v56), .val (.ref b41), .val (.ref b64), .val (.int v150), .val (.int (0 : Int32)), .val (.long v190), .second, .val (.long v190), .second, .val (.int ms266_0), .val (.int (1 : Int32)), .val (.int v296), .val (.int (1 : Int32))]) rfl ?_
      refine Ow.iload X76 hx (pc' := 376) (hb hby at_374) rfl ?_
      refine Ow.ifNo X76 hx (pc' := 379) (hb hby at_376) ((if0 _ _).trans (feq (by decide : ¬ ((1 : Int32) = (0 : Int32)))).1) ?_
      refine Ow.aload X76 hx (pc' := 381) (hb hby at_379) rfl rfl ?_
      refine Ow.iconst X76 hx (pc' := 382) (hb hby at_381) (z := (2 : Int32)) rfl ?_
      refine Ow.iload X76 hx (pc' := 384) (hb hby at_382) rfl ?_
      refine Ow.iload X76 hx (pc' := 386) (hb hby at_384) rfl ?_
      refine Ow.lload X76 hx (pc' := 388) (hb hby at_386) rfl ?_
      refine Ow.iload X76 hx (pc' := 390) (hb hby at_388) rfl ?_
      refine Ow.iload X76 hx (pc' := 392) (hb hby at_390) rfl ?_
      obtain ⟨_, _, ⟨T77, L77, k77, n77⟩, -, X77, ⟨Lc77, hQ77, l77, y77, z77⟩, st77⟩ := Jvm.LawKit.callS X76 hx (y := mt2) hown (mvT hZ (kw10 hw)) (mvT hZ (kw11 hw)) (mvT hZ (kw3 hw)) (mvT hZ (kw12 hw)) (by decide) (backOf (W := 0) (rm_at l Z a0 hw [] b64 (2 : Int32) v19 v296 v190 v56 (1 : Int32) q74 (own_by (own_W ylaw_1 (own_n v3) (own_n v30) ms51_0) (own_n v19) (own_n v14) v56 2) T73.heap n0 Z73 (by decide) (by rw [hq74]; exact own_get HB v56 2 (by decide) (by decide)) P73_0) hZ (kw12 hw) (kw3 hw) (by decide) (by decide)) (g := (mkF m 392 #[.val (.long ylaw_1), .second, .val (.int xlaw_2), .val (.int xlaw_3), .val (.int xlaw_4), .val (.int xlaw_5), .val (.int xlaw_6), .val (.int v3), .val (.int v14), .val (.int v19), .val (.int v30), .val (.int ms51_0), .val (.int v56), .val (.ref b41), .val (.ref b64), .val (.int v150), .val (.int (0 : Int32)), .val (.long v190), .second, .val (.long v190), .second, .val (.int ms266_0), .val (.int (1 : Int32)), .val (.int v296), .val (.int (1 : Int32))] [(.int (1 : Int32)), (.int v56), (.long v190), (.int v296), (.int v19), (.int (2 : Int32)), (.ref b64)])) rfl (by rw [hml]; rfl) (argsL := [(.ref b64), (.int (2 : Int32)), (.int v19), (.int v296), (.long v190), (.int v56), (.int (1 : Int32))]) (rest := []) (lenOf pd3 rfl) rfl (by show 2 * 0 + _ ≤ _; exact Nat.le_of_eq rfl) (hb hby at_392) (fun _ _ => ⟨rfl, e76, (by decide : 2 + 0 ≤ _), (by decide : 28 + 0 ≤ _)⟩)
      dsimp only [Pt.U, Pt.locs, Pt.cells, Pt.slots] at X77 l77 y77 z77 st77 hQ77
      subst l77 y77 z77
      obtain ⟨rfl, Nq77, e77⟩ := hQ77
      have N77 := Fr.app N76 Nq77
      refine Wq.step st77 ?_
      show Wq _ _ _ _ _ (T77.setTop (mkF m 395 #[.val (.long ylaw_1), .second, .val (.int xlaw_2), .val (.int xlaw_3), .val (.int xlaw_4), .val (.int xlaw_5), .val (.int xlaw_6), .val (.int v3), .val (.int v14), .val (.int v19), .val (.int v30), .val (.int ms51_0), .val (.int v56), .val (.ref b41), .val (.ref b64), .val (.int v150), .val (.int (0 : Int32)), .val (.long v190), .second, .val (.long v190), .second, .val (.int ms266_0), .val (.int (1 : Int32)), .val (.int v296), .val (.int (1 : Int32))] [(.int (f_at (2 : Int32) v19 v296 v190 v56 (1 : Int32) (own_by (own_W ylaw_1 (own_n v3) (own_n v30) ms51_0) (own_n v19) (own_n v14) v56 2)))]))
      generalize hv392 : (f_at (2 : Int32) v19 v296 v190 v56 (1 : Int32) (own_by (own_W ylaw_1 (own_n v3) (own_n v30) ms51_0) (own_n v19) (own_n v14) v56 2)) = v392
      show Wq _ _ _ _ _ (T77.setTop (mkF m 395 #[.val (.long ylaw_1), .second, .val (.int xlaw_2), .val (.int xlaw_3), .val (.int xlaw_4), .val (.int xlaw_5), .val (.int xlaw_6), .val (.int v3), .val (.int v14), .val (.int v19), .val (.int v30), .val (.int ms51_0), .val (.int v56), .val (.ref b41), .val (.ref b64), .val (.int v150), .val (.int (0 : Int32)), .val (.long v190), .second, .val (.long v190), .second, .val (.int ms266_0), .val (.int (1 : Int32)), .val (.int v296), .val (.int (1 : Int32))] [(.int v392)]))
      refine Ow.ifNo X77 hx (pc' := 398) (hb hby at_395) ((if0 _ _).trans (feq (own_at HB hv296 (Or.inr HI) 2 (by decide) hv392 : ¬ (v392 = (0 : Int32)))).1) ?_
      refine Ow.iconst X77 hx (pc' := 399) (hb hby at_398) (z := (1 : Int32)) rfl ?_
      refine Ow.goto X77 hx (pc' := 403) (hb hby at_399) (by decide) (by decide) ?_
      refine Ow.istore X77 hx (pc' := 405) (hb hby at_403) (l' := #[.val (.long ylaw_1), .second, .val (.int xlaw_2), .val (.int xlaw_3), .val (.int xlaw_4), .val (.int xlaw_5), .val (.int xlaw_6), .val (.int v3), .val (.int v14), .val (.int v19), .val (.int v30), .val (.int ms51_0), .val (.int v56), .val (.ref b41), .val (.ref b64), .val (.int v150), .val (.int (0 : Int32)), .val (.long v190), .second, .val (.long v190), .second, .val (.int ms266_0), .val (.int (1 : Int32)), .val (.int v296), .val (.int (1 : Int32))]) rfl ?_
      refine Ow.iload X77 hx (pc' := 407) (hb hby at_405) rfl ?_
      refine Ow.ifNo X77 hx (pc' := 410) (hb hby at_407) ((if0 _ _).trans (feq (by decide : ¬ ((1 : Int32) = (0 : Int32)))).1) ?_
      refine Ow.aload X77 hx (pc' := 412) (hb hby at_410) rfl rfl ?_
      refine Ow.iconst X77 hx (pc' := 413) (hb hby at_412) (z := (3 : Int32)) rfl ?_
      refine Ow.iload X77 hx (pc' := 415) (hb hby at_413) rfl ?_
      refine Ow.iload X77 hx (pc' := 417) (hb hby at_415) rfl ?_
      refine Ow.lload X77 hx (pc' := 419) (hb hby at_417) rfl ?_
      refine Ow.iload X77 hx (pc' := 421) (hb hby at_419) rfl ?_
      refine Ow.iload X77 hx (pc' := 423) (hb hby at_421) rfl ?_
      obtain ⟨_, _, ⟨T78, L78, k78, n78⟩, -, X78, ⟨Lc78, hQ78, l78, y78, z78⟩, st78⟩ := Jvm.LawKit.callS X77 hx (y := mt2) hown (mvT hZ (kw10 hw)) (mvT hZ (kw11 hw)) (mvT hZ (kw3 hw)) (mvT hZ (kw12 hw)) (by decide) (backOf (W := 0) (rm_at l Z a0 hw [] b64 (3 : Int32) v19 v296 v190 v56 (1 : Int32) q74 (own_by (own_W ylaw_1 (own_n v3) (own_n v30) ms51_0) (own_n v19) (own_n v14) v56 3) T73.heap n0 Z73 (by decide) (by rw [hq74]; exact own_get HB v56 3 (by decide) (by decide)) P73_0) hZ (kw12 hw) (kw3 hw) (by decide) (by decide)) (g := (mkF m 423 #[.val (.long ylaw_1), .second, .val (.int xlaw_2), .val (.int xlaw_3), .val (.int xlaw_4), .val (.int xlaw_5), .val (.int xlaw_6), .val (.int v3), .val (.int v14), .val (.int v19), .val (.int v30), .val (.int ms51_0), .val (.int v56), .val (.ref b41), .val (.ref b64), .val (.int v150), .val (.int (0 : Int32)), .val (.long v190), .second, .val (.long v190), .second, .val (.int ms266_0), .val (.int (1 : Int32)), .val (.int v296), .val (.int (1 : Int32))] [(.int (1 : Int32)), (.int v56), (.long v190), (.int v296), (.int v19), (.int (3 : Int32)), (.ref b64)])) rfl (by rw [hml]; rfl) (argsL := [(.ref b64), (.int (3 : Int32)), (.int v19), (.int v296), (.long v190), (.int v56), (.int (1 : Int32))]) (rest := []) (lenOf pd3 rfl) rfl (by show 2 * 0 + _ ≤ _; exact Nat.le_of_eq rfl) (hb hby at_423) (fun _ _ => ⟨rfl, e77, (by decide : 2 + 0 ≤ _), (by decide : 28 + 0 ≤ _)⟩)
      dsimp only [Pt.U, Pt.locs, Pt.cells, Pt.slots] at X78 l78 y78 z78 st78 hQ78
      subst l78 y78 z78
      obtain ⟨rfl, Nq78, e78⟩ := hQ78
      have N78 := Fr.app N77 Nq78
      refine Wq.step st78 ?_
      show Wq _ _ _ _ _ (T78.setTop (mkF m 426 #[.val (.long ylaw_1), .second, .val (.int xlaw_2), .val (.int xlaw_3), .val (.int xlaw_4), .val (.int xlaw_5), .val (.int xlaw_6), .val (.int v3), .val (.int v14), .val (.int v19), .val (.int v30), .val (.int ms51_0), .val (.int v56), .val (.ref b41), .val (.ref b64), .val (.int v150), .val (.int (0 : Int32)), .val (.long v190), .second, .val (.long v190), .second, .val (.int ms266_0), .val (.int (1 : Int32)), .val (.int v296), .val (.int (1 : Int32))] [(.int (f_at (3 : Int32) v19 v296 v190 v56 (1 : Int32) (own_by (own_W ylaw_1 (own_n v3) (own_n v30) ms51_0) (own_n v19) (own_n v14) v56 3)))]))
      generalize hv423 : (f_at (3 : Int32) v19 v296 v190 v56 (1 : Int32) (own_by (own_W ylaw_1 (own_n v3) (own_n v30) ms51_0) (own_n v19) (own_n v14) v56 3)) = v423
      show Wq _ _ _ _ _ (T78.setTop (mkF m 426 #[.val (.long ylaw_1), .second, .val (.int xlaw_2), .val (.int xlaw_3), .val (.int xlaw_4), .val (.int xlaw_5), .val (.int xlaw_6), .val (.int v3), .val (.int v14), .val (.int v19), .val (.int v30), .val (.int ms51_0), .val (.int v56), .val (.ref b41), .val (.ref b64), .val (.int v150), .val (.int (0 : Int32)), .val (.long v190), .second, .val (.long v190), .second, .val (.int ms266_0), .val (.int (1 : Int32)), .val (.int v296), .val (.int (1 : Int32))] [(.int v423)]))
      refine Ow.ifNo X78 hx (pc' := 429) (hb hby at_426) ((if0 _ _).trans (feq (own_at HB hv296 (Or.inr HI) 3 (by decide) hv423 : ¬ (v423 = (0 : Int32)))).1) ?_
      refine Ow.iconst X78 hx (pc' := 430) (hb hby at_429) (z := (1 : Int32)) rfl ?_
      refine Ow.goto X78 hx (pc' := 434) (hb hby at_430) (by decide) (by decide) ?_
      refine Ow.istore X78 hx (pc' := 436) (hb hby at_434) (l' := #[.val (.long ylaw_1), .second, .val (.int xlaw_2), .val (.int xlaw_3), .val (.int xlaw_4), .val (.int xlaw_5), .val (.int xlaw_6), .val (.int v3), .val (.int v14), .val (.int v19), .val (.int v30), .val (.int ms51_0), .val (.int v56), .val (.ref b41), .val (.ref b64), .val (.int v150), .val (.int (0 : Int32)), .val (.long v190), .second, .val (.long v190), .second, .val (.int ms266_0), .val (.int (1 : Int32)), .val (.int v296), .val (.int (1 : Int32))]) rfl ?_
      refine Ow.iload X78 hx (pc' := 438) (hb hby at_436) rfl ?_
      refine Ow.ifNo X78 hx (pc' := 441) (hb hby at_438) ((if0 _ _).trans (feq (by decide : ¬ ((1 : Int32) = (0 : Int32)))).1) ?_
      refine Ow.aload X78 hx (pc' := 443) (hb hby at_441) rfl rfl ?_
      refine Ow.iconst X78 hx (pc' := 444) (hb hby at_443) (z := (4 : Int32)) rfl ?_
      refine Ow.iload X78 hx (pc' := 446) (hb hby at_444) rfl ?_
      refine Ow.iload X78 hx (pc' := 448) (hb hby at_446) rfl ?_
      refine Ow.lload X78 hx (pc' := 450) (hb hby at_448) rfl ?_
      refine Ow.iload X78 hx (pc' := 452) (hb hby at_450) rfl ?_
      refine Ow.iload X78 hx (pc' := 454) (hb hby at_452) rfl ?_
      obtain ⟨_, _, ⟨T79, L79, k79, n79⟩, -, X79, ⟨Lc79, hQ79, l79, y79, z79⟩, st79⟩ := Jvm.LawKit.callS X78 hx (y := mt2) hown (mvT hZ (kw10 hw)) (mvT hZ (kw11 hw)) (mvT hZ (kw3 hw)) (mvT hZ (kw12 hw)) (by decide) (backOf (W := 0) (rm_at l Z a0 hw [] b64 (4 : Int32) v19 v296 v190 v56 (1 : Int32) q74 (own_by (own_W ylaw_1 (own_n v3) (own_n v30) ms51_0) (own_n v19) (own_n v14) v56 4) T73.heap n0 Z73 (by decide) (by rw [hq74]; exact own_get HB v56 4 (by decide) (by decide)) P73_0) hZ (kw12 hw) (kw3 hw) (by decide) (by decide)) (g := (mkF m 454 #[.val (.long ylaw_1), .second, .val (.int xlaw_2), .val (.int xlaw_3), .val (.int xlaw_4), .val (.int xlaw_5), .val (.int xlaw_6), .val (.int v3), .val (.int v14), .val (.int v19), .val (.int v30), .val (.int ms51_0), .val (.int v56), .val (.ref b41), .val (.ref b64), .val (.int v150), .val (.int (0 : Int32)), .val (.long v190), .second, .val (.long v190), .second, .val (.int ms266_0), .val (.int (1 : Int32)), .val (.int v296), .val (.int (1 : Int32))] [(.int (1 : Int32)), (.int v56), (.long v190), (.int v296), (.int v19), (.int (4 : Int32)), (.ref b64)])) rfl (by rw [hml]; rfl) (argsL := [(.ref b64), (.int (4 : Int32)), (.int v19), (.int v296), (.long v190), (.int v56), (.int (1 : Int32))]) (rest := []) (lenOf pd3 rfl) rfl (by show 2 * 0 + _ ≤ _; exact Nat.le_of_eq rfl) (hb hby at_454) (fun _ _ => ⟨rfl, e78, (by decide : 2 + 0 ≤ _), (by decide : 28 + 0 ≤ _)⟩)
      dsimp only [Pt.U, Pt.locs, Pt.cells, Pt.slots] at X79 l79 y79 z79 st79 hQ79
      subst l79 y79 z79
      obtain ⟨rfl, Nq79, e79⟩ := hQ79
      have N79 := Fr.app N78 Nq79
      refine Wq.step st79 ?_
      show Wq _ _ _ _ _ (T79.setTop (mkF m 457 #[.val (.long ylaw_1), .second, .val (.int xlaw_2), .val (.int xlaw_3), .val (.int xlaw_4), .val (.int xlaw_5), .val (.int xlaw_6), .val (.int v3), .val (.int v14), .val (.int v19), .val (.int v30), .val (.int ms51_0), .val (.int v56), .val (.ref b41), .val (.ref b64), .val (.int v150), .val (.int (0 : Int32)), .val (.long v190), .second, .val (.long v190), .second, .val (.int ms266_0), .val (.int (1 : Int32)), .val (.int v296), .val (.int (1 : Int32))] [(.int (f_at (4 : Int32) v19 v296 v190 v56 (1 : Int32) (own_by (own_W ylaw_1 (own_n v3) (own_n v30) ms51_0) (own_n v19) (own_n v14) v56 4)))]))
      generalize hv454 : (f_at (4 : Int32) v19 v296 v190 v56 (1 : Int32) (own_by (own_W ylaw_1 (own_n v3) (own_n v30) ms51_0) (own_n v19) (own_n v14) v56 4)) = v454
      show Wq _ _ _ _ _ (T79.setTop (mkF m 457 #[.val (.long ylaw_1), .second, .val (.int xlaw_2), .val (.int xlaw_3), .val (.int xlaw_4), .val (.int xlaw_5), .val (.int xlaw_6), .val (.int v3), .val (.int v14), .val (.int v19), .val (.int v30), .val (.int ms51_0), .val (.int v56), .val (.ref b41), .val (.ref b64), .val (.int v150), .val (.int (0 : Int32)), .val (.long v190), .second, .val (.long v190), .second, .val (.int ms266_0), .val (.int (1 : Int32)), .val (.int v296), .val (.int (1 : Int32))] [(.int v454)]))
      refine Ow.ifNo X79 hx (pc' := 460) (hb hby at_457) ((if0 _ _).trans (feq (own_at HB hv296 (Or.inr HI) 4 (by decide) hv454 : ¬ (v454 = (0 : Int32)))).1) ?_
      refine Ow.iconst X79 hx (pc' := 461) (hb hby at_460) (z := (1 : Int32)) rfl ?_
      refine Ow.goto X79 hx (pc' := 465) (hb hby at_461) (by decide) (by decide) ?_
      refine Ow.istore X79 hx (pc' := 467) (hb hby at_465) (l' := #[.val (.long ylaw_1), .second, .val (.int xlaw_2), .val (.int xlaw_3), .val (.int xlaw_4), .val (.int xlaw_5), .val (.int xlaw_6), .val (.int v3), .val (.int v14), .val (.int v19), .val (.int v30), .val (.int ms51_0), .val (.int v56), .val (.ref b41), .val (.ref b64), .val (.int v150), .val (.int (0 : Int32)), .val (.long v190), .second, .val (.long v190), .second, .val (.int ms266_0), .val (.int (1 : Int32)), .val (.int v296), .val (.int (1 : Int32))]) rfl ?_
      refine Ow.iload X79 hx (pc' := 469) (hb hby at_467) rfl ?_
      refine Ow.ifNo X79 hx (pc' := 472) (hb hby at_469) ((if0 _ _).trans (feq (by decide : ¬ ((1 : Int32) = (0 : Int32)))).1) ?_
      refine Ow.aload X79 hx (pc' := 474) (hb hby at_472) rfl rfl ?_
      refine Ow.iconst X79 hx (pc' := 475) (hb hby at_474) (z := (5 : Int32)) rfl ?_
      refine Ow.iload X79 hx (pc' := 477) (hb hby at_475) rfl ?_
      refine Ow.iload X79 hx (pc' := 479) (hb hby at_477) rfl ?_
      refine Ow.lload X79 hx (pc' := 481) (hb hby at_479) rfl ?_
      refine Ow.iload X79 hx (pc' := 483) (hb hby at_481) rfl ?_
      refine Ow.iload X79 hx (pc' := 485) (hb hby at_483) rfl ?_
      obtain ⟨_, _, ⟨T80, L80, k80, n80⟩, -, X80, ⟨Lc80, hQ80, l80, y80, z80⟩, st80⟩ := Jvm.LawKit.callS X79 hx (y := mt2) hown (mvT hZ (kw10 hw)) (mvT hZ (kw11 hw)) (mvT hZ (kw3 hw)) (mvT hZ (kw12 hw)) (by decide) (backOf (W := 0) (rm_at l Z a0 hw [] b64 (5 : Int32) v19 v296 v190 v56 (1 : Int32) q74 (own_by (own_W ylaw_1 (own_n v3) (own_n v30) ms51_0) (own_n v19) (own_n v14) v56 5) T73.heap n0 Z73 (by decide) (by rw [hq74]; exact own_get HB v56 5 (by decide) (by decide)) P73_0) hZ (kw12 hw) (kw3 hw) (by decide) (by decide)) (g := (mkF m 485 #[.val (.long ylaw_1), .second, .val (.int xlaw_2), .val (.int xlaw_3), .val (.int xlaw_4), .val (.int xlaw_5), .val (.int xlaw_6), .val (.int v3), .val (.int v14), .val (.int v19), .val (.int v30), .val (.int ms51_0), .val (.int v56), .val (.ref b41), .val (.ref b64), .val (.int v150), .val (.int (0 : Int32)), .val (.long v190), .second, .val (.long v190), .second, .val (.int ms266_0), .val (.int (1 : Int32)), .val (.int v296), .val (.int (1 : Int32))] [(.int (1 : Int32)), (.int v56), (.long v190), (.int v296), (.int v19), (.int (5 : Int32)), (.ref b64)])) rfl (by rw [hml]; rfl) (argsL := [(.ref b64), (.int (5 : Int32)), (.int v19), (.int v296), (.long v190), (.int v56), (.int (1 : Int32))]) (rest := []) (lenOf pd3 rfl) rfl (by show 2 * 0 + _ ≤ _; exact Nat.le_of_eq rfl) (hb hby at_485) (fun _ _ => ⟨rfl, e79, (by decide : 2 + 0 ≤ _), (by decide : 28 + 0 ≤ _)⟩)
      dsimp only [Pt.U, Pt.locs, Pt.cells, Pt.slots] at X80 l80 y80 z80 st80 hQ80
      subst l80 y80 z80
      obtain ⟨rfl, Nq80, e80⟩ := hQ80
      have N80 := Fr.app N79 Nq80
      refine Wq.step st80 ?_
      show Wq _ _ _ _ _ (T80.setTop (mkF m 488 #[.val (.long ylaw_1), .second, .val (.int xlaw_2), .val (.int xlaw_3), .val (.int xlaw_4), .val (.int xlaw_5), .val (.int xlaw_6), .val (.int v3), .val (.int v14), .val (.int v19), .val (.int v30), .val (.int ms51_0), .val (.int v56), .val (.ref b41), .val (.ref b64), .val (.int v150), .val (.int (0 : Int32)), .val (.long v190), .second, .val (.long v190), .second, .val (.int ms266_0), .val (.int (1 : Int32)), .val (.int v296), .val (.int (1 : Int32))] [(.int (f_at (5 : Int32) v19 v296 v190 v56 (1 : Int32) (own_by (own_W ylaw_1 (own_n v3) (own_n v30) ms51_0) (own_n v19) (own_n v14) v56 5)))]))
      generalize hv485 : (f_at (5 : Int32) v19 v296 v190 v56 (1 : Int32) (own_by (own_W ylaw_1 (own_n v3) (own_n v30) ms51_0) (own_n v19) (own_n v14) v56 5)) = v485
      show Wq _ _ _ _ _ (T80.setTop (mkF m 488 #[.val (.long ylaw_1), .second, .val (.int xlaw_2), .val (.int xlaw_3), .val (.int xlaw_4), .val (.int xlaw_5), .val (.int xlaw_6), .val (.int v3), .val (.int v14), .val (.int v19), .val (.int v30), .val (.int ms51_0), .val (.int v56), .val (.ref b41), .val (.ref b64), .val (.int v150), .val (.int (0 : Int32)), .val (.long v190), .second, .val (.long v190), .second, .val (.int ms266_0), .val (.int (1 : Int32)), .val (.int v296), .val (.int (1 : Int32))] [(.int v485)]))
      refine Ow.ifNo X80 hx (pc' := 491) (hb hby at_488) ((if0 _ _).trans (feq (own_at HB hv296 (Or.inr HI) 5 (by decide) hv485 : ¬ (v485 = (0 : Int32)))).1) ?_
      refine Ow.iconst X80 hx (pc' := 492) (hb hby at_491) (z := (1 : Int32)) rfl ?_
      refine Ow.goto X80 hx (pc' := 496) (hb hby at_492) (by decide) (by decide) ?_
      refine Ow.istore X80 hx (pc' := 498) (hb hby at_496) (l' := #[.val (.long ylaw_1), .second, .val (.int xlaw_2), .val (.int xlaw_3), .val (.int xlaw_4), .val (.int xlaw_5), .val (.int xlaw_6), .val (.int v3), .val (.int v14), .val (.int v19), .val (.int v30), .val (.int ms51_0), .val (.int v56), .val (.ref b41), .val (.ref b64), .val (.int v150), .val (.int (0 : Int32)), .val (.long v190), .second, .val (.long v190), .second, .val (.int ms266_0), .val (.int (1 : Int32)), .val (.int v296), .val (.int (1 : Int32))]) rfl ?_
      refine Ow.iload X80 hx (pc' := 500) (hb hby at_498) rfl ?_
      refine Ow.ifNo X80 hx (pc' := 503) (hb hby at_500) ((if0 _ _).trans (feq (by decide : ¬ ((1 : Int32) = (0 : Int32)))).1) ?_
      refine Ow.aload X80 hx (pc' := 505) (hb hby at_503) rfl rfl ?_
      refine Ow.bipush X80 hx (pc' := 507) (hb hby at_505) (z := (6 : Int32)) rfl ?_
      refine Ow.iload X80 hx (pc' := 509) (hb hby at_507) rfl ?_
      refine Ow.iload X80 hx (pc' := 511) (hb hby at_509) rfl ?_
      refine Ow.lload X80 hx (pc' := 513) (hb hby at_511) rfl ?_
      refine Ow.iload X80 hx (pc' := 515) (hb hby at_513) rfl ?_
      refine Ow.iload X80 hx (pc' := 517) (hb hby at_515) rfl ?_
      obtain ⟨_, _, ⟨T81, L81, k81, n81⟩, -, X81, ⟨Lc81, hQ81, l81, y81, z81⟩, st81⟩ := Jvm.LawKit.callS X80 hx (y := mt2) hown (mvT hZ (kw10 hw)) (mvT hZ (kw11 hw)) (mvT hZ (kw3 hw)) (mvT hZ (kw12 hw)) (by decide) (backOf (W := 0) (rm_at l Z a0 hw [] b64 (6 : Int32) v19 v296 v190 v56 (1 : Int32) q74 (own_by (own_W ylaw_1 (own_n v3) (own_n v30) ms51_0) (own_n v19) (own_n v14) v56 6) T73.heap n0 Z73 (by decide) (by rw [hq74]; exact own_get HB v56 6 (by decide) (by decide)) P73_0) hZ (kw12 hw) (kw3 hw) (by decide) (by decide)) (g := (mkF m 517 #[.val (.long ylaw_1), .second, .val (.int xlaw_2), .val (.int xlaw_3), .val (.int xlaw_4), .val (.int xlaw_5), .val (.int xlaw_6), .val (.int v3), .val (.int v14), .val (.int v19), .val (.int v30), .val (.int ms51_0), .val (.int v56), .val (.ref b41), .val (.ref b64), .val (.int v150), .val (.int (0 : Int32)), .val (.long v190), .second, .val (.long v190), .second, .val (.int ms266_0), .val (.int (1 : Int32)), .val (.int v296), .val (.int (1 : Int32))] [(.int (1 : Int32)), (.int v56), (.long v190), (.int v296), (.int v19), (.int (6 : Int32)), (.ref b64)])) rfl (by rw [hml]; rfl) (argsL := [(.ref b64), (.int (6 : Int32)), (.int v19), (.int v296), (.long v190), (.int v56), (.int (1 : Int32))]) (rest := []) (lenOf pd3 rfl) rfl (by show 2 * 0 + _ ≤ _; exact Nat.le_of_eq rfl) (hb hby at_517) (fun _ _ => ⟨rfl, e80, (by decide : 2 + 0 ≤ _), (by decide : 28 + 0 ≤ _)⟩)
      dsimp only [Pt.U, Pt.locs, Pt.cells, Pt.slots] at X81 l81 y81 z81 st81 hQ81
      subst l81 y81 z81
      obtain ⟨rfl, Nq81, e81⟩ := hQ81
      have N81 := Fr.app N80 Nq81
      refine Wq.step st81 ?_
      show Wq _ _ _ _ _ (T81.setTop (mkF m 520 #[.val (.long ylaw_1), .second, .val (.int xlaw_2), .val (.int xlaw_3), .val (.int xlaw_4), .val (.int xlaw_5), .val (.int xlaw_6), .val (.int v3), .val (.int v14), .val (.int v19), .val (.int v30), .val (.int ms51_0), .val (.int v56), .val (.ref b41), .val (.ref b64), .val (.int v150), .val (.int (0 : Int32)), .val (.long v190), .second, .val (.long v190), .second, .val (.int ms266_0), .val (.int (1 : Int32)), .val (.int v296), .val (.int (1 : Int32))] [(.int (f_at (6 : Int32) v19 v296 v190 v56 (1 : Int32) (own_by (own_W ylaw_1 (own_n v3) (own_n v30) ms51_0) (own_n v19) (own_n v14) v56 6)))]))
      generalize hv517 : (f_at (6 : Int32) v19 v296 v190 v56 (1 : Int32) (own_by (own_W ylaw_1 (own_n v3) (own_n v30) ms51_0) (own_n v19) (own_n v14) v56 6)) = v517
      show Wq _ _ _ _ _ (T81.setTop (mkF m 520 #[.val (.long ylaw_1), .second, .val (.int xlaw_2), .val (.int xlaw_3), .val (.int xlaw_4), .val (.int xlaw_5), .val (.int xlaw_6), .val (.int v3), .val (.int v14), .val (.int v19), .val (.int v30), .val (.int ms51_0), .val (.int v56), .val (.ref b41), .val (.ref b64), .val (.int v150), .val (.int (0 : Int32)), .val (.long v190), .second, .val (.long v190), .second, .val (.int ms266_0), .val (.int (1 : Int32)), .val (.int v296), .val (.int (1 : Int32))] [(.int v517)]))
      refine Ow.ifNo X81 hx (pc' := 523) (hb hby at_520) ((if0 _ _).trans (feq (own_at HB hv296 (Or.inr HI) 6 (by decide) hv517 : ¬ (v517 = (0 : Int32)))).1) ?_
      refine Ow.iconst X81 hx (pc' := 524) (hb hby at_523) (z := (1 : Int32)) rfl ?_
      refine Ow.goto X81 hx (pc' := 528) (hb hby at_524) (by decide) (by decide) ?_
      refine Ow.istore X81 hx (pc' := 530) (hb hby at_528) (l' := #[.val (.long ylaw_1), .second, .val (.int xlaw_2), .val (.int xlaw_3), .val (.int xlaw_4), .val (.int xlaw_5), .val (.int xlaw_6), .val (.int v3), .val (.int v14), .val (.int v19), .val (.int v30), .val (.int ms51_0), .val (.int v56), .val (.ref b41), .val (.ref b64), .val (.int v150), .val (.int (0 : Int32)), .val (.long v190), .second, .val (.long v190), .second, .val (.int ms266_0), .val (.int (1 : Int32)), .val (.int v296), .val (.int (1 : Int32))]) rfl ?_
      refine Ow.iload X81 hx (pc' := 532) (hb hby at_530) rfl ?_
      refine Ow.ifNo X81 hx (pc' := 535) (hb hby at_532) ((if0 _ _).trans (feq (by decide : ¬ ((1 : Int32) = (0 : Int32)))).1) ?_
      refine Ow.aload X81 hx (pc' := 537) (hb hby at_535) rfl rfl ?_
      refine Ow.bipush X81 hx (pc' := 539) (hb hby at_537) (z := (7 : Int32)) rfl ?_
      refine Ow.iload X81 hx (pc' := 541) (hb hby at_539) rfl ?_
      refine Ow.iload X81 hx (pc' := 543) (hb hby at_541) rfl ?_
      refine Ow.lload X81 hx (pc' := 545) (hb hby at_543) rfl ?_
      refine Ow.iload X81 hx (pc' := 547) (hb hby at_545) rfl ?_
      refine Ow.iload X81 hx (pc' := 549) (hb hby at_547) rfl ?_
      obtain ⟨_, _, ⟨T82, L82, k82, n82⟩, -, X82, ⟨Lc82, hQ82, l82, y82, z82⟩, st82⟩ := Jvm.LawKit.callS X81 hx (y := mt2) hown (mvT hZ (kw10 hw)) (mvT hZ (kw11 hw)) (mvT hZ (kw3 hw)) (mvT hZ (kw12 hw)) (by decide) (backOf (W := 0) (rm_at l Z a0 hw [] b64 (7 : Int32) v19 v296 v190 v56 (1 : Int32) q74 (own_by (own_W ylaw_1 (own_n v3) (own_n v30) ms51_0) (own_n v19) (own_n v14) v56 7) T73.heap n0 Z73 (by decide) (by rw [hq74]; exact own_get HB v56 7 (by decide) (by decide)) P73_0) hZ (kw12 hw) (kw3 hw) (by decide) (by decide)) (g := (mkF m 549 #[.val (.long ylaw_1), .second, .val (.int xlaw_2), .val (.int xlaw_3), .val (.int xlaw_4), .val (.int xlaw_5), .val (.int xlaw_6), .val (.int v3), .val (.int v14), .val (.int v19), .val (.int v30), .val (.int ms51_0), .val (.int v56), .val (.ref b41), .val (.ref b64), .val (.int v150), .val (.int (0 : Int32)), .val (.long v190), .second, .val (.long v190), .second, .val (.int ms266_0), .val (.int (1 : Int32)), .val (.int v296), .val (.int (1 : Int32))] [(.int (1 : Int32)), (.int v56), (.long v190), (.int v296), (.int v19), (.int (7 : Int32)), (.ref b64)])) rfl (by rw [hml]; rfl) (argsL := [(.ref b64), (.int (7 : Int32)), (.int v19), (.int v296), (.long v190), (.int v56), (.int (1 : Int32))]) (rest := []) (lenOf pd3 rfl) rfl (by show 2 * 0 + _ ≤ _; exact Nat.le_of_eq rfl) (hb hby at_549) (fun _ _ => ⟨rfl, e81, (by decide : 2 + 0 ≤ _), (by decide : 28 + 0 ≤ _)⟩)
      dsimp only [Pt.U, Pt.locs, Pt.cells, Pt.slots] at X82 l82 y82 z82 st82 hQ82
      subst l82 y82 z82
      obtain ⟨rfl, Nq82, e82⟩ := hQ82
      have N82 := Fr.app N81 Nq82
      refine Wq.step st82 ?_
      show Wq _ _ _ _ _ (T82.setTop (mkF m 552 #[.val (.long ylaw_1), .second, .val (.int xlaw_2), .val (.int xlaw_3), .val (.int xlaw_4), .val (.int xlaw_5), .val (.int xlaw_6), .val (.int v3), .val (.int v14), .val (.int v19), .val (.int v30), .val (.int ms51_0), .val (.int v56), .val (.ref b41), .val (.ref b64), .val (.int v150), .val (.int (0 : Int32)), .val (.long v190), .second, .val (.long v190), .second, .val (.int ms266_0), .val (.int (1 : Int32)), .val (.int v296), .val (.int (1 : Int32))] [(.int (f_at (7 : Int32) v19 v296 v190 v56 (1 : Int32) (own_by (own_W ylaw_1 (own_n v3) (own_n v30) ms51_0) (own_n v19) (own_n v14) v56 7)))]))
      generalize hv549 : (f_at (7 : Int32) v19 v296 v190 v56 (1 : Int32) (own_by (own_W ylaw_1 (own_n v3) (own_n v30) ms51_0) (own_n v19) (own_n v14) v56 7)) = v549
      show Wq _ _ _ _ _ (T82.setTop (mkF m 552 #[.val (.long ylaw_1), .second, .val (.int xlaw_2), .val (.int xlaw_3), .val (.int xlaw_4), .val (.int xlaw_5), .val (.int xlaw_6), .val (.int v3), .val (.int v14), .val (.int v19), .val (.int v30), .val (.int ms51_0), .val (.int v56), .val (.ref b41), .val (.ref b64), .val (.int v150), .val (.int (0 : Int32)), .val (.long v190), .second, .val (.long v190), .second, .val (.int ms266_0), .val (.int (1 : Int32)), .val (.int v296), .val (.int (1 : Int32))] [(.int v549)]))
      refine Ow.ifNo X82 hx (pc' := 555) (hb hby at_552) ((if0 _ _).trans (feq (own_at HB hv296 (Or.inr HI) 7 (by decide) hv549 : ¬ (v549 = (0 : Int32)))).1) ?_
      refine Ow.iconst X82 hx (pc' := 556) (hb hby at_555) (z := (1 : Int32)) rfl ?_
      refine Ow.goto X82 hx (pc' := 560) (hb hby at_556) (by decide) (by decide) ?_
      refine Ow.istore X82 hx (pc' := 562) (hb hby at_560) (l' := #[.val (.long ylaw_1), .second, .val (.int xlaw_2), .val (.int xlaw_3), .val (.int xlaw_4), .val (.int xlaw_5), .val (.int xlaw_6), .val (.int v3), .val (.int v14), .val (.int v19), .val (.int v30), .val (.int ms51_0), .val (.int v56), .val (.ref b41), .val (.ref b64), .val (.int v150), .val (.int (0 : Int32)), .val (.long v190), .second, .val (.long v190), .second, .val (.int ms266_0), .val (.int (1 : Int32)), .val (.int v296), .val (.int (1 : Int32))]) rfl ?_
      refine Ow.iload X82 hx (pc' := 564) (hb hby at_562) rfl ?_
      exact Wq.ret X82 (BodyLoose.notSynchronized Bd) (rv := some (.int (1 : Int32))) (fun h => by rw [Bd.returns] at h; cases h) (fun _ hr => retN X82 hx (t := .boolean) Bd.returns (by simp) (hb hby at_564) hr) (by decide) (by decide) ⟨rfl, N82⟩
    · skip
      refine Ow.icmpNo X73 hx (pc' := 162) (hb hby at_159) (flt hc159).1 ?_
      refine Ow.iload X73 hx (pc' := 164) (hb hby at_162) rfl ?_
      refine Ow.iload X73 hx (pc' := 166) (hb hby at_164) rfl ?_
      refine Ow.iload X73 hx (pc' := 168) (hb hby at_166) rfl ?_
      refine Ow.iadd X73 hx (pc' := 169) (hb hby at_168) (z := (v3 + v14)) rfl ?_
      by_cases hc169 : v30 < (v3 + v14)
      · skip
        refine Ow.icmpNo X73 hx (pc' := 172) (hb hby at_169) (tlt hc169).2.1 ?_
        refine Ow.iconst X73 hx (pc' := 173) (hb hby at_172) (z := (1 : Int32)) rfl ?_
        refine Ow.goto X73 hx (pc' := 177) (hb hby at_173) (by decide) (by decide) ?_
        refine Ow.istore X73 hx (pc' := 179) (hb hby at_177) (l' := #[.val (.long ylaw_1), .second, .val (.int xlaw_2), .val (.int xlaw_3), .val (.int xlaw_4), .val (.int xlaw_5), .val (.int xlaw_6), .val (.int v3), .val (.int v14), .val (.int v19), .val (.int v30), .val (.int ms51_0), .val (.int v56), .val (.ref b41), .val (.ref b64), .val (.int v150), .val (.int (1 : Int32)), .unset, .unset, .unset, .unset, .unset, .unset, .unset, .unset]) rfl ?_
        refine Ow.lloadN X73 hx (pc' := 180) (hb hby at_179) rfl ?_
        refine Ow.iload X73 hx (pc' := 182) (hb hby at_180) rfl ?_
        refine Ow.lushr X73 hx (pc' := 183) (hb hby at_182) (z := ((ylaw_1.toUInt64 >>> (v3 &&& 0x3f).toInt64.toUInt64).toInt64)) rfl ?_
        refine Ow.lconst X73 hx (pc' := 184) (hb hby at_183) (z := (1 : Int64)) rfl ?_
        refine Ow.iload X73 hx (pc' := 186) (hb hby at_184) rfl ?_
        refine Ow.lshl X73 hx (pc' := 187) (hb hby at_186) (z := ((1 : Int64) <<< (v14 &&& 0x3f).toInt64)) rfl ?_
        refine Ow.lconst X73 hx (pc' := 188) (hb hby at_187) (z := (1 : Int64)) rfl ?_
        refine Ow.lsub X73 hx (pc' := 189) (hb hby at_188) (z := (((1 : Int64) <<< (v14 &&& 0x3f).toInt64) - (1 : Int64))) rfl ?_
        refine Ow.land X73 hx (pc' := 190) (hb hby at_189) (z := (((ylaw_1.toUInt64 >>> (v3 &&& 0x3f).toInt64.toUInt64).toInt64) &&& (((1 : Int64) <<< (v14 &&& 0x3f).toInt64) - (1 : Int64)))) rfl ?_
        refine Ow.lstore X73 hx (pc' := 192) (hb hby at_190) (l' := #[.val (.long ylaw_1), .second, .val (.int xlaw_2), .val (.int xlaw_3), .val (.int xlaw_4), .val (.int xlaw_5), .val (.int xlaw_6), .val (.int v3), .val (.int v14), .val (.int v19), .val (.int v30), .val (.int ms51_0), .val (.int v56), .val (.ref b41), .val (.ref b64), .val (.int v150), .val (.int (1 : Int32)), .val (.long (((ylaw_1.toUInt64 >>> (v3 &&& 0x3f).toInt64.toUInt64).toInt64) &&& (((1 : Int64) <<< (v14 &&& 0x3f).toInt64) - (1 : Int64)))), .second, .unset, .unset, .unset, .unset, .unset, .unset]) rfl ?_
        generalize hv190 : (((ylaw_1.toUInt64 >>> (v3 &&& 0x3f).toInt64.toUInt64).toInt64) &&& (((1 : Int64) <<< (v14 &&& 0x3f).toInt64) - (1 : Int64))) = v190
        refine Ow.lload X73 hx (pc' := 194) (hb hby at_192) rfl ?_
        refine Ow.lstore X73 hx (pc' := 196) (hb hby at_194) (l' := #[.val (.long ylaw_1), .second, .val (.int xlaw_2), .val (.int xlaw_3), .val (.int xlaw_4), .val (.int xlaw_5), .val (.int xlaw_6), .val (.int v3), .val (.int v14), .val (.int v19), .val (.int v30), .val (.int ms51_0), .val (.int v56), .val (.ref b41), .val (.ref b64), .val (.int v150), .val (.int (1 : Int32)), .val (.long v190), .second, .val (.long v190), .second, .unset, .unset, .unset, .unset]) rfl ?_
        refine Ow.iload X73 hx (pc' := 198) (hb hby at_196) rfl ?_
        refine Ow.ifNo X73 hx (pc' := 201) (hb hby at_198) ((if0 _ _).trans (feq (by decide : ¬ ((1 : Int32) = (0 : Int32)))).1) ?_
        refine Ow.iload X73 hx (pc' := 203) (hb hby at_201) rfl ?_
        refine Ow.iload X73 hx (pc' := 205) (hb hby at_203) rfl ?_
        refine Ow.isub X73 hx (pc' := 206) (hb hby at_205) (z := (v30 - v3)) rfl ?_
        refine Ow.istore X73 hx (pc' := 208) (hb hby at_206) (l' := #[.val (.long ylaw_1), .second, .val (.int xlaw_2), .val (.int xlaw_3), .val (.int xlaw_4), .val (.int xlaw_5), .val (.int xlaw_6), .val (.int v3), .val (.int v14), .val (.int v19), .val (.int v30), .val (.int ms51_0), .val (.int v56), .val (.ref b41), .val (.ref b64), .val (.int v150), .val (.int (1 : Int32)), .val (.long v190), .second, .val (.long v190), .second, .unset, .val (.int (v30 - v3)), .unset, .unset]) rfl ?_
        generalize hv206 : (v30 - v3) = v206
        refine Ow.lload X73 hx (pc' := 210) (hb hby at_208) rfl ?_
        refine Ow.lconst X73 hx (pc' := 211) (hb hby at_210) (z := (1 : Int64)) rfl ?_
        refine Ow.iload X73 hx (pc' := 213) (hb hby at_211) rfl ?_
        refine Ow.lshl X73 hx (pc' := 214) (hb hby at_213) (z := ((1 : Int64) <<< (v206 &&& 0x3f).toInt64)) rfl ?_
        refine Ow.ldc2Long X73 hx hZ (pc' := 217) hown (kw13 hw) (hb hby at_214) ?_
        refine Ow.lxor X73 hx (pc' := 218) (hb hby at_217) (z := (((1 : Int64) <<< (v206 &&& 0x3f).toInt64) ^^^ (-1 : Int64))) rfl ?_
        refine Ow.land X73 hx (pc' := 219) (hb hby at_218) (z := (v190 &&& (((1 : Int64) <<< (v206 &&& 0x3f).toInt64) ^^^ (-1 : Int64)))) rfl ?_
        refine Ow.lstore X73 hx (pc' := 221) (hb hby at_219) (l' := #[.val (.long ylaw_1), .second, .val (.int xlaw_2), .val (.int xlaw_3), .val (.int xlaw_4), .val (.int xlaw_5), .val (.int xlaw_6), .val (.int v3), .val (.int v14), .val (.int v19), .val (.int v30), .val (.int ms51_0), .val (.int v56), .val (.ref b41), .val (.ref b64), .val (.int v150), .val (.int (1 : Int32)), .val (.long v190), .second, .val (.long v190), .second, .unset, .val (.int v206), .val (.long (v190 &&& (((1 : Int64) <<< (v206 &&& 0x3f).toInt64) ^^^ (-1 : Int64)))), .second]) rfl ?_
        generalize hv219 : (v190 &&& (((1 : Int64) <<< (v206 &&& 0x3f).toInt64) ^^^ (-1 : Int64))) = v219
        refine Ow.iload X73 hx (pc' := 223) (hb hby at_221) rfl ?_
        refine Ow.lload X73 hx (pc' := 225) (hb hby at_223) rfl ?_
        refine Ow.lconst X73 hx (pc' := 226) (hb hby at_225) (z := (0 : Int64)) rfl ?_
        refine Ow.lcmp X73 hx (pc' := 227) (hb hby at_226)  ?_
        refine Wq.by (U' := T73.setTop (mkF m 235 #[.val (.long ylaw_1), .second, .val (.int xlaw_2), .val (.int xlaw_3), .val (.int xlaw_4), .val (.int xlaw_5), .val (.int xlaw_6), .val (.int v3), .val (.int v14), .val (.int v19), .val (.int v30), .val (.int ms51_0), .val (.int v56), .val (.ref b41), .val (.ref b64), .val (.int v150), .val (.int (1 : Int32)), .val (.long v190), .second, .val (.long v190), .second, .unset, .val (.int v206), .val (.long v219), .second] [(.int (if v219 = (0 : Int64) then (0 : Int32) else (1 : Int32))), (.int ms51_0)])) (fun k => ?_) ?_
        · skip
          by_cases hm227 : v219 = (0 : Int64)
          · skip
            refine Ow.ifYes X73 hx (pc' := 234) (hb hby at_227) ((if0 _ _).trans (teq ((lw_eq _ _).mpr hm227)).1) (by decide) (by decide) ?_
            refine Ow.iconst X73 hx (pc' := 235) (hb hby at_234) (z := (0 : Int32)) rfl ?_
            simp only [if_pos hm227] at k
            exact k
          · skip
            refine Ow.ifNo X73 hx (pc' := 230) (hb hby at_227) ((if0 _ _).trans (feq (mt (lw_eq _ _).mp hm227)).1) ?_
            refine Ow.iconst X73 hx (pc' := 231) (hb hby at_230) (z := (1 : Int32)) rfl ?_
            refine Ow.goto X73 hx (pc' := 235) (hb hby at_231) (by decide) (by decide) ?_
            simp only [if_neg hm227] at k
            exact k
        show Wq _ _ _ _ _ (T73.setTop (mkF m 235 #[.val (.long ylaw_1), .second, .val (.int xlaw_2), .val (.int xlaw_3), .val (.int xlaw_4), .val (.int xlaw_5), .val (.int xlaw_6), .val (.int v3), .val (.int v14), .val (.int v19), .val (.int v30), .val (.int ms51_0), .val (.int v56), .val (.ref b41), .val (.ref b64), .val (.int v150), .val (.int (1 : Int32)), .val (.long v190), .second, .val (.long v190), .second, .unset, .val (.int v206), .val (.long v219), .second] [(.int (if v219 = (0 : Int64) then (0 : Int32) else (1 : Int32))), (.int ms51_0)]))
        generalize hms235_0 : (if v219 = (0 : Int64) then (0 : Int32) else (1 : Int32)) = ms235_0
        refine Ow.ior X73 hx (pc' := 236) (hb hby at_235) (z := (ms51_0 ||| ms235_0)) rfl ?_
        refine Ow.istore X73 hx (pc' := 238) (hb hby at_236) (l' := #[.val (.long ylaw_1), .second, .val (.int xlaw_2), .val (.int xlaw_3), .val (.int xlaw_4), .val (.int xlaw_5), .val (.int xlaw_6), .val (.int v3), .val (.int v14), .val (.int v19), .val (.int v30), .val (.int ms51_0), .val (.int v56), .val (.ref b41), .val (.ref b64), .val (.int v150), .val (.int (1 : Int32)), .val (.long v190), .second, .val (.long v190), .second, .val (.int (ms51_0 ||| ms235_0)), .val (.int v206), .val (.long v219), .second]) rfl ?_
        generalize hv236 : (ms51_0 ||| ms235_0) = v236
        refine Ow.lload X73 hx (pc' := 240) (hb hby at_238) rfl ?_
        refine Ow.iload X73 hx (pc' := 242) (hb hby at_240) rfl ?_
        refine Ow.iconst X73 hx (pc' := 243) (hb hby at_242) (z := (1 : Int32)) rfl ?_
        refine Ow.iand X73 hx (pc' := 244) (hb hby at_243) (z := (ms51_0 &&& (1 : Int32))) rfl ?_
        refine Ow.i2l X73 hx (pc' := 245) (hb hby at_244) (z := ((ms51_0 &&& (1 : Int32)).toInt64)) rfl ?_
        refine Ow.iload X73 hx (pc' := 247) (hb hby at_245) rfl ?_
        refine Ow.lshl X73 hx (pc' := 248) (hb hby at_247) (z := (((ms51_0 &&& (1 : Int32)).toInt64) <<< (v206 &&& 0x3f).toInt64)) rfl ?_
        refine Ow.lor X73 hx (pc' := 249) (hb hby at_248) (z := (v219 ||| (((ms51_0 &&& (1 : Int32)).toInt64) <<< (v206 &&& 0x3f).toInt64))) rfl ?_
        refine Ow.lstore X73 hx (pc' := 251) (hb hby at_249) (l' := #[.val (.long ylaw_1), .second, .val (.int xlaw_2), .val (.int xlaw_3), .val (.int xlaw_4), .val (.int xlaw_5), .val (.int xlaw_6), .val (.int v3), .val (.int v14), .val (.int v19), .val (.int v30), .val (.int ms51_0), .val (.int v56), .val (.ref b41), .val (.ref b64), .val (.int v150), .val (.int (1 : Int32)), .val (.long v190), .second, .val (.long (v219 ||| (((ms51_0 &&& (1 : Int32)).toInt64) <<< (v206 &&& 0x3f).toInt64))), .second, .val (.int v236), .val (.int v206), .val (.long v219), .second]) rfl ?_
        generalize hv249 : (v219 ||| (((ms51_0 &&& (1 : Int32)).toInt64) <<< (v206 &&& 0x3f).toInt64)) = v249
        refine Ow.goto X73 hx (pc' := 268) (hb hby at_251) (by decide) (by decide) ?_
        refine Ow.iload X73 hx (pc' := 270) (hb hby at_268) rfl ?_
        refine Ow.ifNo X73 hx (pc' := 273) (hb hby at_270) ((if0 _ _).trans (feq (by decide : ¬ ((1 : Int32) = (0 : Int32)))).1) ?_
        refine Ow.iload X73 hx (pc' := 275) (hb hby at_273) rfl ?_
        refine Ow.bipush X73 hx (pc' := 277) (hb hby at_275) (z := (-2 : Int32)) rfl ?_
        refine Ow.iand X73 hx (pc' := 278) (hb hby at_277) (z := (ms51_0 &&& (-2 : Int32))) rfl ?_
        by_cases hc278 : (ms51_0 &&& (-2 : Int32)) = (0 : Int32)
        · skip
          refine Ow.ifNo X73 hx (pc' := 281) (hb hby at_278) ((if0 _ _).trans (teq hc278).2) ?_
          refine Ow.iconst X73 hx (pc' := 282) (hb hby at_281) (z := (1 : Int32)) rfl ?_
          refine Ow.goto X73 hx (pc' := 286) (hb hby at_282) (by decide) (by decide) ?_
          refine Ow.istore X73 hx (pc' := 288) (hb hby at_286) (l' := #[.val (.long ylaw_1), .second, .val (.int xlaw_2), .val (.int xlaw_3), .val (.int xlaw_4), .val (.int xlaw_5), .val (.int xlaw_6), .val (.int v3), .val (.int v14), .val (.int v19), .val (.int v30), .val (.int ms51_0), .val (.int v56), .val (.ref b41), .val (.ref b64), .val (.int v150), .val (.int (1 : Int32)), .val (.long v190), .second, .val (.long v249), .second, .val (.int v236), .val (.int (1 : Int32)), .val (.long v219), .second]) rfl ?_
          refine Ow.iload X73 hx (pc' := 290) (hb hby at_288) rfl ?_
          refine Ow.bipush X73 hx (pc' := 292) (hb hby at_290) (z := (7 : Int32)) rfl ?_
          refine Ow.iadd X73 hx (pc' := 293) (hb hby at_292) (z := (v14 + (7 : Int32))) rfl ?_
          refine Ow.bipush X73 hx (pc' := 295) (hb hby at_293) (z := (8 : Int32)) rfl ?_
          refine Ow.idiv X73 hx (pc' := 296) (hb hby at_295) (by decide : (8 : Int32) ≠ (0 : Int32)) (z := ((v14 + (7 : Int32)) / (8 : Int32))) rfl ?_
          refine Ow.istore X73 hx (pc' := 298) (hb hby at_296) (l' := #[.val (.long ylaw_1), .second, .val (.int xlaw_2), .val (.int xlaw_3), .val (.int xlaw_4), .val (.int xlaw_5), .val (.int xlaw_6), .val (.int v3), .val (.int v14), .val (.int v19), .val (.int v30), .val (.int ms51_0), .val (.int v56), .val (.ref b41), .val (.ref b64), .val (.int v150), .val (.int (1 : Int32)), .val (.long v190), .second, .val (.long v249), .second, .val (.int v236), .val (.int (1 : Int32)), .val (.int ((v14 + (7 : Int32)) / (8 : Int32))), .unset]) rfl ?_
          generalize hv296 : ((v14 + (7 : Int32)) / (8 : Int32)) = v296
          have HO : v150 = v236 := own_orI HB HQ (own_oc HB) hc159 hc169 hv150 hv190 hv206 hv219 hms235_0 hv236
          have HI := own_insI HB HQ (own_oc HB) hc159 hc169 hc278 hv190 hv206 hv219 hv249
          refine Ow.iload X73 hx (pc' := 300) (hb hby at_298) rfl ?_
          refine Ow.iload X73 hx (pc' := 302) (hb hby at_300) rfl ?_
          refine Ow.icmpNo X73 hx (pc' := 305) (hb hby at_302) (teq (HO : v150 = v236)).2 ?_
          refine Ow.iconst X73 hx (pc' := 306) (hb hby at_305) (z := (1 : Int32)) rfl ?_
          refine Ow.goto X73 hx (pc' := 310) (hb hby at_306) (by decide) (by decide) ?_
          refine Ow.istore X73 hx (pc' := 312) (hb hby at_310) (l' := #[.val (.long ylaw_1), .second, .val (.int xlaw_2), .val (.int xlaw_3), .val (.int xlaw_4), .val (.int xlaw_5), .val (.int xlaw_6), .val (.int v3), .val (.int v14), .val (.int v19), .val (.int v30), .val (.int ms51_0), .val (.int v56), .val (.ref b41), .val (.ref b64), .val (.int v150), .val (.int (1 : Int32)), .val (.long v190), .second, .val (.long v249), .second, .val (.int v236), .val (.int (1 : Int32)), .val (.int v296), .val (.int (1 : Int32))]) rfl ?_
          refine Ow.iload X73 hx (pc' := 314) (hb hby at_312) rfl ?_
          refine Ow.ifNo X73 hx (pc' := 317) (hb hby at_314) ((if0 _ _).trans (feq (by decide : ¬ ((1 : Int32) = (0 : Int32)))).1) ?_
          refine Ow.aload X73 hx (pc' := 319) (hb hby at_317) rfl rfl ?_
          refine Ow.iconst X73 hx (pc' := 320) (hb hby at_319) (z := (0 : Int32)) rfl ?_
          refine Ow.iload X73 hx (pc' := 322) (hb hby at_320) rfl ?_
          refine Ow.iload X73 hx (pc' := 324) (hb hby at_322) rfl ?_
          refine Ow.lload X73 hx (pc' := 326) (hb hby at_324) rfl ?_
          refine Ow.iload X73 hx (pc' := 328) (hb hby at_326) rfl ?_
          refine Ow.iload X73 hx (pc' := 330) (hb hby at_328) rfl ?_
          obtain ⟨_, _, ⟨T83, L83, k83, n83⟩, -, X83, ⟨Lc83, hQ83, l83, y83, z83⟩, st83⟩ := Jvm.LawKit.callS X73 hx (y := mt2) hown (mvT hZ (kw10 hw)) (mvT hZ (kw11 hw)) (mvT hZ (kw3 hw)) (mvT hZ (kw12 hw)) (by decide) (backOf (W := 0) (rm_at l Z a0 hw [] b64 (0 : Int32) v19 v296 v249 v56 (1 : Int32) q74 (own_by (own_W ylaw_1 (own_n v3) (own_n v30) ms51_0) (own_n v19) (own_n v14) v56 0) T73.heap n0 Z73 (by decide) (by rw [hq74]; exact own_get HB v56 0 (by decide) (by decide)) P73_0) hZ (kw12 hw) (kw3 hw) (by decide) (by decide)) (g := (mkF m 330 #[.val (.long ylaw_1), .second, .val (.int xlaw_2), .val (.int xlaw_3), .val (.int xlaw_4), .val (.int xlaw_5), .val (.int xlaw_6), .val (.int v3), .val (.int v14), .val (.int v19), .val (.int v30), .val (.int ms51_0), .val (.int v56), .val (.ref b41), .val (.ref b64), .val (.int v150), .val (.int (1 : Int32)), .val (.long v190), .second, .val (.long v249), .second, .val (.int v236), .val (.int (1 : Int32)), .val (.int v296), .val (.int (1 : Int32))] [(.int (1 : Int32)), (.int v56), (.long v249), (.int v296), (.int v19), (.int (0 : Int32)), (.ref b64)])) rfl (by rw [hml]; rfl) (argsL := [(.ref b64), (.int (0 : Int32)), (.int v19), (.int v296), (.long v249), (.int v56), (.int (1 : Int32))]) (rest := []) (lenOf pd3 rfl) rfl (by show 2 * 0 + _ ≤ _; exact Nat.le_of_eq rfl) (hb hby at_330) (fun _ _ => ⟨rfl, e73, (by decide : 2 + 0 ≤ _), (by decide : 28 + 0 ≤ _)⟩)
          dsimp only [Pt.U, Pt.locs, Pt.cells, Pt.slots] at X83 l83 y83 z83 st83 hQ83
          subst l83 y83 z83
          obtain ⟨rfl, Nq83, e83⟩ := hQ83
          have N83 := Fr.app N73 Nq83
          refine Wq.step st83 ?_
          show Wq _ _ _ _ _ (T83.setTop (mkF m 333 #[.val (.long ylaw_1), .second, .val (.int xlaw_2), .val (.int xlaw_3), .val (.int xlaw_4), .val (.int xlaw_5), .val (.int xlaw_6), .val (.int v3), .val (.int v14), .val (.int v19), .val (.int v30), .val (.int ms51_0), .val (.int v56), .val (.ref b41), .val (.ref b64), .val (.int v150), .val (.int (1 : Int32)), .val (.long v190), .second, .val (.long v249), .second, .val (.int v236), .val (.int (1 : Int32)), .val (.int v296), .val (.int (1 : Int32))] [(.int (f_at (0 : Int32) v19 v296 v249 v56 (1 : Int32) (own_by (own_W ylaw_1 (own_n v3) (own_n v30) ms51_0) (own_n v19) (own_n v14) v56 0)))]))
          generalize hv330 : (f_at (0 : Int32) v19 v296 v249 v56 (1 : Int32) (own_by (own_W ylaw_1 (own_n v3) (own_n v30) ms51_0) (own_n v19) (own_n v14) v56 0)) = v330
          show Wq _ _ _ _ _ (T83.setTop (mkF m 333 #[.val (.long ylaw_1), .second, .val (.int xlaw_2), .val (.int xlaw_3), .val (.int xlaw_4), .val (.int xlaw_5), .val (.int xlaw_6), .val (.int v3), .val (.int v14), .val (.int v19), .val (.int v30), .val (.int ms51_0), .val (.int v56), .val (.ref b41), .val (.ref b64), .val (.int v150), .val (.int (1 : Int32)), .val (.long v190), .second, .val (.long v249), .second, .val (.int v236), .val (.int (1 : Int32)), .val (.int v296), .val (.int (1 : Int32))] [(.int v330)]))
          refine Ow.ifNo X83 hx (pc' := 336) (hb hby at_333) ((if0 _ _).trans (feq (own_at HB hv296 (Or.inr HI) 0 (by decide) hv330 : ¬ (v330 = (0 : Int32)))).1) ?_
          refine Ow.iconst X83 hx (pc' := 337) (hb hby at_336) (z := (1 : Int32)) rfl ?_
          refine Ow.goto X83 hx (pc' := 341) (hb hby at_337) (by decide) (by decide) ?_
          refine Ow.istore X83 hx (pc' := 343) (hb hby at_341) (l' := #[.val (.long ylaw_1), .second, .val (.int xlaw_2), .val (.int xlaw_3), .val (.int xlaw_4), .val (.int xlaw_5), .val (.int xlaw_6), .val (.int v3), .val (.int v14), .val (.int v19), .val (.int v30), .val (.int ms51_0), .val (.int v56), .val (.ref b41), .val (.ref b64), .val (.int v150), .val (.int (1 : Int32)), .val (.long v190), .second, .val (.long v249), .second, .val (.int v236), .val (.int (1 : Int32)), .val (.int v296), .val (.int (1 : Int32))]) rfl ?_
          refine Ow.iload X83 hx (pc' := 345) (hb hby at_343) rfl ?_
          refine Ow.ifNo X83 hx (pc' := 348) (hb hby at_345) ((if0 _ _).trans (feq (by decide : ¬ ((1 : Int32) = (0 : Int32)))).1) ?_
          refine Ow.aload X83 hx (pc' := 350) (hb hby at_348) rfl rfl ?_
          refine Ow.iconst X83 hx (pc' := 351) (hb hby at_350) (z := (1 : Int32)) rfl ?_
          refine Ow.iload X83 hx (pc' := 353) (hb hby at_351) rfl ?_
          refine Ow.iload X83 hx (pc' := 355) (hb hby at_353) rfl ?_
          refine Ow.lload X83 hx (pc' := 357) (hb hby at_355) rfl ?_
          refine Ow.iload X83 hx (pc' := 359) (hb hby at_357) rfl ?_
          refine Ow.iload X83 hx (pc' := 361) (hb hby at_359) rfl ?_
          obtain ⟨_, _, ⟨T84, L84, k84, n84⟩, -, X84, ⟨Lc84, hQ84, l84, y84, z84⟩, st84⟩ := Jvm.LawKit.callS X83 hx (y := mt2) hown (mvT hZ (kw10 hw)) (mvT hZ (kw11 hw)) (mvT hZ (kw3 hw)) (mvT hZ (kw12 hw)) (by decide) (backOf (W := 0) (rm_at l Z a0 hw [] b64 (1 : Int32) v19 v296 v249 v56 (1 : Int32) q74 (own_by (own_W ylaw_1 (own_n v3) (own_n v30) ms51_0) (own_n v19) (own_n v14) v56 1) T73.heap n0 Z73 (by decide) (by rw [hq74]; exact own_get HB v56 1 (by decide) (by decide)) P73_0) hZ (kw12 hw) (kw3 hw) (by decide) (by decide)) (g := (mkF m 361 #[.val (.long ylaw_1), .second, .val (.int xlaw_2), .val (.int xlaw_3), .val (.int xlaw_4), .val (.int xlaw_5), .val (.int xlaw_6), .val (.int v3), .val (.int v14), .val (.int v19), .val (.int v30), .val (.int ms51_0), .val (.int v56), .val (.ref b41), .val (.ref b64), .val (.int v150), .val (.int (1 : Int32)), .val (.long v190), .second, .val (.long v249), .second, .val (.int v236), .val (.int (1 : Int32)), .val (.int v296), .val (.int (1 : Int32))] [(.int (1 : Int32)), (.int v56), (.long v249), (.int v296), (.int v19), (.int (1 : Int32)), (.ref b64)])) rfl (by rw [hml]; rfl) (argsL := [(.ref b64), (.int (1 : Int32)), (.int v19), (.int v296), (.long v249), (.int v56), (.int (1 : Int32))]) (rest := []) (lenOf pd3 rfl) rfl (by show 2 * 0 + _ ≤ _; exact Nat.le_of_eq rfl) (hb hby at_361) (fun _ _ => ⟨rfl, e83, (by decide : 2 + 0 ≤ _), (by decide : 28 + 0 ≤ _)⟩)
          dsimp only [Pt.U, Pt.locs, Pt.cells, Pt.slots] at X84 l84 y84 z84 st84 hQ84
          subst l84 y84 z84
          obtain ⟨rfl, Nq84, e84⟩ := hQ84
          have N84 := Fr.app N83 Nq84
          refine Wq.step st84 ?_
          show Wq _ _ _ _ _ (T84.setTop (mkF m 364 #[.val (.long ylaw_1), .second, .val (.int xlaw_2), .val (.int xlaw_3), .val (.int xlaw_4), .val (.int xlaw_5), .val (.int xlaw_6), .val (.int v3), .val (.int v14), .val (.int v19), .val (.int v30), .val (.int ms51_0), .val (.int v56), .val (.ref b41), .val (.ref b64), .val (.int v150), .val (.int (1 : Int32)), .val (.long v190), .second, .val (.long v249), .second, .val (.int v236), .val (.int (1 : Int32)), .val (.int v296), .val (.int (1 : Int32))] [(.int (f_at (1 : Int32) v19 v296 v249 v56 (1 : Int32) (own_by (own_W ylaw_1 (own_n v3) (own_n v30) ms51_0) (own_n v19) (own_n v14) v56 1)))]))
          generalize hv361 : (f_at (1 : Int32) v19 v296 v249 v56 (1 : Int32) (own_by (own_W ylaw_1 (own_n v3) (own_n v30) ms51_0) (own_n v19) (own_n v14) v56 1)) = v361
          show Wq _ _ _ _ _ (T84.setTop (mkF m 364 #[.val (.long ylaw_1), .second, .val (.int xlaw_2), .val (.int xlaw_3), .val (.int xlaw_4), .val (.int xlaw_5), .val (.int xlaw_6), .val (.int v3), .val (.int v14), .val (.int v19), .val (.int v30), .val (.int ms51_0), .val (.int v56), .val (.ref b41), .val (.ref b64), .val (.int v150), .val (.int (1 : Int32)), .val (.long v190), .second, .val (.long v249), .second, .val (.int v236), .val (.int (1 : Int32)), .val (.int v296), .val (.int (1 : Int32))] [(.int v361)]))
          refine Ow.ifNo X84 hx (pc' := 367) (hb hby at_364) ((if0 _ _).trans (feq (own_at HB hv296 (Or.inr HI) 1 (by decide) hv361 : ¬ (v361 = (0 : Int32)))).1) ?_
          refine Ow.iconst X84 hx (pc' := 368) (hb hby at_367) (z := (1 : Int32)) rfl ?_
          refine Ow.goto X84 hx (pc' := 372) (hb hby at_368) (by decide) (by decide) ?_
          refine Ow.istore X84 hx (pc' := 374) (hb hby at_372) (l' := #[.val (.long ylaw_1), .second, .val (.int xlaw_2), .val (.int xlaw_3), .val (.int xlaw_4), .val (.int xlaw_5), .val (.int xlaw_6), .val (.int v3), .val (.int v14), .val (.int v19), .val (.int v30), .val (.int ms51_0), .val (.int v56), .val (.ref b41), .val (.ref b64), .val (.int v150), .val (.int (1 : Int32)), .val (.long v190), .second, .val (.long v249), .second, .val (.int v236), .val (.int (1 : Int32)), .val (.int v296), .val (.int (1 : Int32))]) rfl ?_
          refine Ow.iload X84 hx (pc' := 376) (hb hby at_374) rfl ?_
          refine Ow.ifNo X84 hx (pc' := 379) (hb hby at_376) ((if0 _ _).trans (feq (by decide : ¬ ((1 : Int32) = (0 : Int32)))).1) ?_
          refine Ow.aload X84 hx (pc' := 381) (hb hby at_379) rfl rfl ?_
          refine Ow.iconst X84 hx (pc' := 382) (hb hby at_381) (z := (2 : Int32)) rfl ?_
          refine Ow.iload X84 hx (pc' := 384) (hb hby at_382) rfl ?_
          refine Ow.iload X84 hx (pc' := 386) (hb hby at_384) rfl ?_
          refine Ow.lload X84 hx (pc' := 388) (hb hby at_386) rfl ?_
          refine Ow.iload X84 hx (pc' := 390) (hb hby at_388) rfl ?_
          refine Ow.iload X84 hx (pc' := 392) (hb hby at_390) rfl ?_
          obtain ⟨_, _, ⟨T85, L85, k85, n85⟩, -, X85, ⟨Lc85, hQ85, l85, y85, z85⟩, st85⟩ := Jvm.LawKit.callS X84 hx (y := mt2) hown (mvT hZ (kw10 hw)) (mvT hZ (kw11 hw)) (mvT hZ (kw3 hw)) (mvT hZ (kw12 hw)) (by decide) (backOf (W := 0) (rm_at l Z a0 hw [] b64 (2 : Int32) v19 v296 v249 v56 (1 : Int32) q74 (own_by (own_W ylaw_1 (own_n v3) (own_n v30) ms51_0) (own_n v19) (own_n v14) v56 2) T73.heap n0 Z73 (by decide) (by rw [hq74]; exact own_get HB v56 2 (by decide) (by decide)) P73_0) hZ (kw12 hw) (kw3 hw) (by decide) (by decide)) (g := (mkF m 392 #[.val (.long ylaw_1), .second, .val (.int xlaw_2), .val (.int xlaw_3), .val (.int xlaw_4), .val (.int xlaw_5), .val (.int xlaw_6), .val (.int v3), .val (.int v14), .val (.int v19), .val (.int v30), .val (.int ms51_0), .val (.int v56), .val (.ref b41), .val (.ref b64), .val (.int v150), .val (.int (1 : Int32)), .val (.long v190), .second, .val (.long v249), .second, .val (.int v236), .val (.int (1 : Int32)), .val (.int v296), .val (.int (1 : Int32))] [(.int (1 : Int32)), (.int v56), (.long v249), (.int v296), (.int v19), (.int (2 : Int32)), (.ref b64)])) rfl (by rw [hml]; rfl) (argsL := [(.ref b64), (.int (2 : Int32)), (.int v19), (.int v296), (.long v249), (.int v56), (.int (1 : Int32))]) (rest := []) (lenOf pd3 rfl) rfl (by show 2 * 0 + _ ≤ _; exact Nat.le_of_eq rfl) (hb hby at_392) (fun _ _ => ⟨rfl, e84, (by decide : 2 + 0 ≤ _), (by decide : 28 + 0 ≤ _)⟩)
          dsimp only [Pt.U, Pt.locs, Pt.cells, Pt.slots] at X85 l85 y85 z85 st85 hQ85
          subst l85 y85 z85
          obtain ⟨rfl, Nq85, e85⟩ := hQ85
          have N85 := Fr.app N84 Nq85
          refine Wq.step st85 ?_
          show Wq _ _ _ _ _ (T85.setTop (mkF m 395 #[.val (.long ylaw_1), .second, .val (.int xlaw_2), .val (.int xlaw_3), .val (.int xlaw_4), .val (.int xlaw_5), .val (.int xlaw_6), .val (.int v3), .val (.int v14), .val (.int v19), .val (.int v30), .val (.int ms51_0), .val (.int v56), .val (.ref b41), .val (.ref b64), .val (.int v150), .val (.int (1 : Int32)), .val (.long v190), .second, .val (.long v249), .second, .val (.int v236), .val (.int (1 : Int32)), .val (.int v296), .val (.int (1 : Int32))] [(.int (f_at (2 : Int32) v19 v296 v249 v56 (1 : Int32) (own_by (own_W ylaw_1 (own_n v3) (own_n v30) ms51_0) (own_n v19) (own_n v14) v56 2)))]))
          generalize hv392 : (f_at (2 : Int32) v19 v296 v249 v56 (1 : Int32) (own_by (own_W ylaw_1 (own_n v3) (own_n v30) ms51_0) (own_n v19) (own_n v14) v56 2)) = v392
          show Wq _ _ _ _ _ (T85.setTop (mkF m 395 #[.val (.long ylaw_1), .second, .val (.int xlaw_2), .val (.int xlaw_3), .val (.int xlaw_4), .val (.int xlaw_5), .val (.int xlaw_6), .val (.int v3), .val (.int v14), .val (.int v19), .val (.int v30), .val (.int ms51_0), .val (.int v56), .val (.ref b41), .val (.ref b64), .val (.int v150), .val (.int (1 : Int32)), .val (.long v190), .second, .val (.long v249), .second, .val (.int v236), .val (.int (1 : Int32)), .val (.int v296), .val (.int (1 : Int32))] [(.int v392)]))
          refine Ow.ifNo X85 hx (pc' := 398) (hb hby at_395) ((if0 _ _).trans (feq (own_at HB hv296 (Or.inr HI) 2 (by decide) hv392 : ¬ (v392 = (0 : Int32)))).1) ?_
          refine Ow.iconst X85 hx (pc' := 399) (hb hby at_398) (z := (1 : Int32)) rfl ?_
          refine Ow.goto X85 hx (pc' := 403) (hb hby at_399) (by decide) (by decide) ?_
          refine Ow.istore X85 hx (pc' := 405) (hb hby at_403) (l' := #[.val (.long ylaw_1), .second, .val (.int xlaw_2), .val (.int xlaw_3), .val (.int xlaw_4), .val (.int xlaw_5), .val (.int xlaw_6), .val (.int v3), .val (.int v14), .val (.int v19), .val (.int v30), .val (.int ms51_0), .val (.int v56), .val (.ref b41), .val (.ref b64), .val (.int v150), .val (.int (1 : Int32)), .val (.long v190), .second, .val (.long v249), .second, .val (.int v236), .val (.int (1 : Int32)), .val (.int v296), .val (.int (1 : Int32))]) rfl ?_
          refine Ow.iload X85 hx (pc' := 407) (hb hby at_405) rfl ?_
          refine Ow.ifNo X85 hx (pc' := 410) (hb hby at_407) ((if0 _ _).trans (feq (by decide : ¬ ((1 : Int32) = (0 : Int32)))).1) ?_
          refine Ow.aload X85 hx (pc' := 412) (hb hby at_410) rfl rfl ?_
          refine Ow.iconst X85 hx (pc' := 413) (hb hby at_412) (z := (3 : Int32)) rfl ?_
          refine Ow.iload X85 hx (pc' := 415) (hb hby at_413) rfl ?_
          refine Ow.iload X85 hx (pc' := 417) (hb hby at_415) rfl ?_
          refine Ow.lload X85 hx (pc' := 419) (hb hby at_417) rfl ?_
          refine Ow.iload X85 hx (pc' := 421) (hb hby at_419) rfl ?_
          refine Ow.iload X85 hx (pc' := 423) (hb hby at_421) rfl ?_
          obtain ⟨_, _, ⟨T86, L86, k86, n86⟩, -, X86, ⟨Lc86, hQ86, l86, y86, z86⟩, st86⟩ := Jvm.LawKit.callS X85 hx (y := mt2) hown (mvT hZ (kw10 hw)) (mvT hZ (kw11 hw)) (mvT hZ (kw3 hw)) (mvT hZ (kw12 hw)) (by decide) (backOf (W := 0) (rm_at l Z a0 hw [] b64 (3 : Int32) v19 v296 v249 v56 (1 : Int32) q74 (own_by (own_W ylaw_1 (own_n v3) (own_n v30) ms51_0) (own_n v19) (own_n v14) v56 3) T73.heap n0 Z73 (by decide) (by rw [hq74]; exact own_get HB v56 3 (by decide) (by decide)) P73_0) hZ (kw12 hw) (kw3 hw) (by decide) (by decide)) (g := (mkF m 423 #[.val (.long ylaw_1), .second, .val (.int xlaw_2), .val (.int xlaw_3), .val (.int xlaw_4), .val (.int xlaw_5), .val (.int xlaw_6), .val (.int v3), .val (.int v14), .val (.int v19), .val (.int v30), .val (.int ms51_0), .val (.int v56), .val (.ref b41), .val (.ref b64), .val (.int v150), .val (.int (1 : Int32)), .val (.long v190), .second, .val (.long v249), .second, .val (.int v236), .val (.int (1 : Int32)), .val (.int v296), .val (.int (1 : Int32))] [(.int (1 : Int32)), (.int v56), (.long v249), (.int v296), (.int v19), (.int (3 : Int32)), (.ref b64)])) rfl (by rw [hml]; rfl) (argsL := [(.ref b64), (.int (3 : Int32)), (.int v19), (.int v296), (.long v249), (.int v56), (.int (1 : Int32))]) (rest := []) (lenOf pd3 rfl) rfl (by show 2 * 0 + _ ≤ _; exact Nat.le_of_eq rfl) (hb hby at_423) (fun _ _ => ⟨rfl, e85, (by decide : 2 + 0 ≤ _), (by decide : 28 + 0 ≤ _)⟩)
          dsimp only [Pt.U, Pt.locs, Pt.cells, Pt.slots] at X86 l86 y86 z86 st86 hQ86
          subst l86 y86 z86
          obtain ⟨rfl, Nq86, e86⟩ := hQ86
          have N86 := Fr.app N85 Nq86
          refine Wq.step st86 ?_
          show Wq _ _ _ _ _ (T86.setTop (mkF m 426 #[.val (.long ylaw_1), .second, .val (.int xlaw_2), .val (.int xlaw_3), .val (.int xlaw_4), .val (.int xlaw_5), .val (.int xlaw_6), .val (.int v3), .val (.int v14), .val (.int v19), .val (.int v30), .val (.int ms51_0), .val (.int v56), .val (.ref b41), .val (.ref b64), .val (.int v150), .val (.int (1 : Int32)), .val (.long v190), .second, .val (.long v249), .second, .val (.int v236), .val (.int (1 : Int32)), .val (.int v296), .val (.int (1 : Int32))] [(.int (f_at (3 : Int32) v19 v296 v249 v56 (1 : Int32) (own_by (own_W ylaw_1 (own_n v3) (own_n v30) ms51_0) (own_n v19) (own_n v14) v56 3)))]))
          generalize hv423 : (f_at (3 : Int32) v19 v296 v249 v56 (1 : Int32) (own_by (own_W ylaw_1 (own_n v3) (own_n v30) ms51_0) (own_n v19) (own_n v14) v56 3)) = v423
          show Wq _ _ _ _ _ (T86.setTop (mkF m 426 #[.val (.long ylaw_1), .second, .val (.int xlaw_2), .val (.int xlaw_3), .val (.int xlaw_4), .val (.int xlaw_5), .val (.int xlaw_6), .val (.int v3), .val (.int v14), .val (.int v19), .val (.int v30), .val (.int ms51_0), .val (.int v56), .val (.ref b41), .val (.ref b64), .val (.int v150), .val (.int (1 : Int32)), .val (.long v190), .second, .val (.long v249), .second, .val (.int v236), .val (.int (1 : Int32)), .val (.int v296), .val (.int (1 : Int32))] [(.int v423)]))
          refine Ow.ifNo X86 hx (pc' := 429) (hb hby at_426) ((if0 _ _).trans (feq (own_at HB hv296 (Or.inr HI) 3 (by decide) hv423 : ¬ (v423 = (0 : Int32)))).1) ?_
          refine Ow.iconst X86 hx (pc' := 430) (hb hby at_429) (z := (1 : Int32)) rfl ?_
          refine Ow.goto X86 hx (pc' := 434) (hb hby at_430) (by decide) (by decide) ?_
          refine Ow.istore X86 hx (pc' := 436) (hb hby at_434) (l' := #[.val (.long ylaw_1), .second, .val (.int xlaw_2), .val (.int xlaw_3), .val (.int xlaw_4), .val (.int xlaw_5), .val (.int xlaw_6), .val (.int v3), .val (.int v14), .val (.int v19), .val (.int v30), .val (.int ms51_0), .val (.int v56), .val (.ref b41), .val (.ref b64), .val (.int v150), .val (.int (1 : Int32)), .val (.long v190), .second, .val (.long v249), .second, .val (.int v236), .val (.int (1 : Int32)), .val (.int v296), .val (.int (1 : Int32))]) rfl ?_
          refine Ow.iload X86 hx (pc' := 438) (hb hby at_436) rfl ?_
          refine Ow.ifNo X86 hx (pc' := 441) (hb hby at_438) ((if0 _ _).trans (feq (by decide : ¬ ((1 : Int32) = (0 : Int32)))).1) ?_
          refine Ow.aload X86 hx (pc' := 443) (hb hby at_441) rfl rfl ?_
          refine Ow.iconst X86 hx (pc' := 444) (hb hby at_443) (z := (4 : Int32)) rfl ?_
          refine Ow.iload X86 hx (pc' := 446) (hb hby at_444) rfl ?_
          refine Ow.iload X86 hx (pc' := 448) (hb hby at_446) rfl ?_
          refine Ow.lload X86 hx (pc' := 450) (hb hby at_448) rfl ?_
          refine Ow.iload X86 hx (pc' := 452) (hb hby at_450) rfl ?_
          refine Ow.iload X86 hx (pc' := 454) (hb hby at_452) rfl ?_
          obtain ⟨_, _, ⟨T87, L87, k87, n87⟩, -, X87, ⟨Lc87, hQ87, l87, y87, z87⟩, st87⟩ := Jvm.LawKit.callS X86 hx (y := mt2) hown (mvT hZ (kw10 hw)) (mvT hZ (kw11 hw)) (mvT hZ (kw3 hw)) (mvT hZ (kw12 hw)) (by decide) (backOf (W := 0) (rm_at l Z a0 hw [] b64 (4 : Int32) v19 v296 v249 v56 (1 : Int32) q74 (own_by (own_W ylaw_1 (own_n v3) (own_n v30) ms51_0) (own_n v19) (own_n v14) v56 4) T73.heap n0 Z73 (by decide) (by rw [hq74]; exact own_get HB v56 4 (by decide) (by decide)) P73_0) hZ (kw12 hw) (kw3 hw) (by decide) (by decide)) (g := (mkF m 454 #[.val (.long ylaw_1), .second, .val (.int xlaw_2), .val (.int xlaw_3), .val (.int xlaw_4), .val (.int xlaw_5), .val (.int xlaw_6), .val (.int v3), .val (.int v14), .val (.int v19), .val (.int v30), .val (.int ms51_0), .val (.int v56), .val (.ref b41), .val (.ref b64), .val (.int v150), .val (.int (1 : Int32)), .val (.long v190), .second, .val (.long v249), .second, .val (.int v236), .val (.int (1 : Int32)), .val (.int v296), .val (.int (1 : Int32))] [(.int (1 : Int32)), (.int v56), (.long v249), (.int v296), (.int v19), (.int (4 : Int32)), (.ref b64)])) rfl (by rw [hml]; rfl) (argsL := [(.ref b64), (.int (4 : Int32)), (.int v19), (.int v296), (.long v249), (.int v56), (.int (1 : Int32))]) (rest := []) (lenOf pd3 rfl) rfl (by show 2 * 0 + _ ≤ _; exact Nat.le_of_eq rfl) (hb hby at_454) (fun _ _ => ⟨rfl, e86, (by decide : 2 + 0 ≤ _), (by decide : 28 + 0 ≤ _)⟩)
          dsimp only [Pt.U, Pt.locs, Pt.cells, Pt.slots] at X87 l87 y87 z87 st87 hQ87
          subst l87 y87 z87
          obtain ⟨rfl, Nq87, e87⟩ := hQ87
          have N87 := Fr.app N86 Nq87
          refine Wq.step st87 ?_
          show Wq _ _ _ _ _ (T87.setTop (mkF m 457 #[.val (.long ylaw_1), .second, .val (.int xlaw_2), .val (.int xlaw_3), .val (.int xlaw_4), .val (.int xlaw_5), .val (.int xlaw_6), .val (.int v3), .val (.int v14), .val (.int v19), .val (.int v30), .val (.int ms51_0), .val (.int v56), .val (.ref b41), .val (.ref b64), .val (.int v150), .val (.int (1 : Int32)), .val (.long v190), .second, .val (.long v249), .second, .val (.int v236), .val (.int (1 : Int32)), .val (.int v296), .val (.int (1 : Int32))] [(.int (f_at (4 : Int32) v19 v296 v249 v56 (1 : Int32) (own_by (own_W ylaw_1 (own_n v3) (own_n v30) ms51_0) (own_n v19) (own_n v14) v56 4)))]))
          generalize hv454 : (f_at (4 : Int32) v19 v296 v249 v56 (1 : Int32) (own_by (own_W ylaw_1 (own_n v3) (own_n v30) ms51_0) (own_n v19) (own_n v14) v56 4)) = v454
          show Wq _ _ _ _ _ (T87.setTop (mkF m 457 #[.val (.long ylaw_1), .second, .val (.int xlaw_2), .val (.int xlaw_3), .val (.int xlaw_4), .val (.int xlaw_5), .val (.int xlaw_6), .val (.int v3), .val (.int v14), .val (.int v19), .val (.int v30), .val (.int ms51_0), .val (.int v56), .val (.ref b41), .val (.ref b64), .val (.int v150), .val (.int (1 : Int32)), .val (.long v190), .second, .val (.long v249), .second, .val (.int v236), .val (.int (1 : Int32)), .val (.int v296), .val (.int (1 : Int32))] [(.int v454)]))
          refine Ow.ifNo X87 hx (pc' := 460) (hb hby at_457) ((if0 _ _).trans (feq (own_at HB hv296 (Or.inr HI) 4 (by decide) hv454 : ¬ (v454 = (0 : Int32)))).1) ?_
          refine Ow.iconst X87 hx (pc' := 461) (hb hby at_460) (z := (1 : Int32)) rfl ?_
          refine Ow.goto X87 hx (pc' := 465) (hb hby at_461) (by decide) (by decide) ?_
          refine Ow.istore X87 hx (pc' := 467) (hb hby at_465) (l' := #[.val (.long ylaw_1), .second, .val (.int xlaw_2), .val (.int xlaw_3), .val (.int xlaw_4), .val (.int xlaw_5), .val (.int xlaw_6), .val (.int v3), .val (.int v14), .val (.int v19), .val (.int v30), .val (.int ms51_0), .val (.int v56), .val (.ref b41), .val (.ref b64), .val (.int v150), .val (.int (1 : Int32)), .val (.long v190), .second, .val (.long v249), .second, .val (.int v236), .val (.int (1 : Int32)), .val (.int v296), .val (.int (1 : Int32))]) rfl ?_
          refine Ow.iload X87 hx (pc' := 469) (hb hby at_467) rfl ?_
          refine Ow.ifNo X87 hx (pc' := 472) (hb hby at_469) ((if0 _ _).trans (feq (by decide : ¬ ((1 : Int32) = (0 : Int32)))).1) ?_
          refine Ow.aload X87 hx (pc' := 474) (hb hby at_472) rfl rfl ?_
          refine Ow.iconst X87 hx (pc' := 475) (hb hby at_474) (z := (5 : Int32)) rfl ?_
          refine Ow.iload X87 hx (pc' := 477) (hb hby at_475) rfl ?_
          refine Ow.iload X87 hx (pc' := 479) (hb hby at_477) rfl ?_
          refine Ow.lload X87 hx (pc' := 481) (hb hby at_479) rfl ?_
          refine Ow.iload X87 hx (pc' := 483) (hb hby at_481) rfl ?_
          refine Ow.iload X87 hx (pc' := 485) (hb hby at_483) rfl ?_
          obtain ⟨_, _, ⟨T88, L88, k88, n88⟩, -, X88, ⟨Lc88, hQ88, l88, y88, z88⟩, st88⟩ := Jvm.LawKit.callS X87 hx (y := mt2) hown (mvT hZ (kw10 hw)) (mvT hZ (kw11 hw)) (mvT hZ (kw3 hw)) (mvT hZ (kw12 hw)) (by decide) (backOf (W := 0) (rm_at l Z a0 hw [] b64 (5 : Int32) v19 v296 v249 v56 (1 : Int32) q74 (own_by (own_W ylaw_1 (own_n v3) (own_n v30) ms51_0) (own_n v19) (own_n v14) v56 5) T73.heap n0 Z73 (by decide) (by rw [hq74]; exact own_get HB v56 5 (by decide) (by decide)) P73_0) hZ (kw12 hw) (kw3 hw) (by decide) (by decide)) (g := (mkF m 485 #[.val (.long ylaw_1), .second, .val (.int xlaw_2), .val (.int xlaw_3), .val (.int xlaw_4), .val (.int xlaw_5), .val (.int xlaw_6), .val (.int v3), .val (.int v14), .val (.int v19), .val (.int v30), .val (.int ms51_0), .val (.int v56), .val (.ref b41), .val (.ref b64), .val (.int v150), .val (.int (1 : Int32)), .val (.long v190), .second, .val (.long v249), .second, .val (.int v236), .val (.int (1 : Int32)), .val (.int v296), .val (.int (1 : Int32))] [(.int (1 : Int32)), (.int v56), (.long v249), (.int v296), (.int v19), (.int (5 : Int32)), (.ref b64)])) rfl (by rw [hml]; rfl) (argsL := [(.ref b64), (.int (5 : Int32)), (.int v19), (.int v296), (.long v249), (.int v56), (.int (1 : Int32))]) (rest := []) (lenOf pd3 rfl) rfl (by show 2 * 0 + _ ≤ _; exact Nat.le_of_eq rfl) (hb hby at_485) (fun _ _ => ⟨rfl, e87, (by decide : 2 + 0 ≤ _), (by decide : 28 + 0 ≤ _)⟩)
          dsimp only [Pt.U, Pt.locs, Pt.cells, Pt.slots] at X88 l88 y88 z88 st88 hQ88
          subst l88 y88 z88
          obtain ⟨rfl, Nq88, e88⟩ := hQ88
          have N88 := Fr.app N87 Nq88
          refine Wq.step st88 ?_
          show Wq _ _ _ _ _ (T88.setTop (mkF m 488 #[.val (.long ylaw_1), .second, .val (.int xlaw_2), .val (.int xlaw_3), .val (.int xlaw_4), .val (.int xlaw_5), .val (.int xlaw_6), .val (.int v3), .val (.int v14), .val (.int v19), .val (.int v30), .val (.int ms51_0), .val (.int v56), .val (.ref b41), .val (.ref b64), .val (.int v150), .val (.int (1 : Int32)), .val (.long v190), .second, .val (.long v249), .second, .val (.int v236), .val (.int (1 : Int32)), .val (.int v296), .val (.int (1 : Int32))] [(.int (f_at (5 : Int32) v19 v296 v249 v56 (1 : Int32) (own_by (own_W ylaw_1 (own_n v3) (own_n v30) ms51_0) (own_n v19) (own_n v14) v56 5)))]))
          generalize hv485 : (f_at (5 : Int32) v19 v296 v249 v56 (1 : Int32) (own_by (own_W ylaw_1 (own_n v3) (own_n v30) ms51_0) (own_n v19) (own_n v14) v56 5)) = v485
          show Wq _ _ _ _ _ (T88.setTop (mkF m 488 #[.val (.long ylaw_1), .second, .val (.int xlaw_2), .val (.int xlaw_3), .val (.int xlaw_4), .val (.int xlaw_5), .val (.int xlaw_6), .val (.int v3), .val (.int v14), .val (.int v19), .val (.int v30), .val (.int ms51_0), .val (.int v56), .val (.ref b41), .val (.ref b64), .val (.int v150), .val (.int (1 : Int32)), .val (.long v190), .second, .val (.long v249), .second, .val (.int v236), .val (.int (1 : Int32)), .val (.int v296), .val (.int (1 : Int32))] [(.int v485)]))
          refine Ow.ifNo X88 hx (pc' := 491) (hb hby at_488) ((if0 _ _).trans (feq (own_at HB hv296 (Or.inr HI) 5 (by decide) hv485 : ¬ (v485 = (0 : Int32)))).1) ?_
          refine Ow.iconst X88 hx (pc' := 492) (hb hby at_491) (z := (1 : Int32)) rfl ?_
          refine Ow.goto X88 hx (pc' := 496) (hb hby at_492) (by decide) (by decide) ?_
          refine Ow.istore X88 hx (pc' := 498) (hb hby at_496) (l' := #[.val (.long ylaw_1), .second, .val (.int xlaw_2), .val (.int xlaw_3), .val (.int xlaw_4), .val (.int xlaw_5), .val (.int xlaw_6), .val (.int v3), .val (.int v14), .val (.int v19), .val (.int v30), .val (.int ms51_0), .val (.int v56), .val (.ref b41), .val (.ref b64), .val (.int v150), .val (.int (1 : Int32)), .val (.long v190), .second, .val (.long v249), .second, .val (.int v236), .val (.int (1 : Int32)), .val (.int v296), .val (.int (1 : Int32))]) rfl ?_
          refine Ow.iload X88 hx (pc' := 500) (hb hby at_498) rfl ?_
          refine Ow.ifNo X88 hx (pc' := 503) (hb hby at_500) ((if0 _ _).trans (feq (by decide : ¬ ((1 : Int32) = (0 : Int32)))).1) ?_
          refine Ow.aload X88 hx (pc' := 505) (hb hby at_503) rfl rfl ?_
          refine Ow.bipush X88 hx (pc' := 507) (hb hby at_505) (z := (6 : Int32)) rfl ?_
          refine Ow.iload X88 hx (pc' := 509) (hb hby at_507) rfl ?_
          refine Ow.iload X88 hx (pc' := 511) (hb hby at_509) rfl ?_
          refine Ow.lload X88 hx (pc' := 513) (hb hby at_511) rfl ?_
          refine Ow.iload X88 hx (pc' := 515) (hb hby at_513) rfl ?_
          refine Ow.iload X88 hx (pc' := 517) (hb hby at_515) rfl ?_
          obtain ⟨_, _, ⟨T89, L89, k89, n89⟩, -, X89, ⟨Lc89, hQ89, l89, y89, z89⟩, st89⟩ := Jvm.LawKit.callS X88 hx (y := mt2) hown (mvT hZ (kw10 hw)) (mvT hZ (kw11 hw)) (mvT hZ (kw3 hw)) (mvT hZ (kw12 hw)) (by decide) (backOf (W := 0) (rm_at l Z a0 hw [] b64 (6 : Int32) v19 v296 v249 v56 (1 : Int32) q74 (own_by (own_W ylaw_1 (own_n v3) (own_n v30) ms51_0) (own_n v19) (own_n v14) v56 6) T73.heap n0 Z73 (by decide) (by rw [hq74]; exact own_get HB v56 6 (by decide) (by decide)) P73_0) hZ (kw12 hw) (kw3 hw) (by decide) (by decide)) (g := (mkF m 517 #[.val (.long ylaw_1), .second, .val (.int xlaw_2), .val (.int xlaw_3), .val (.int xlaw_4), .val (.int xlaw_5), .val (.int xlaw_6), .val (.int v3), .val (.int v14), .val (.int v19), .val (.int v30), .val (.int ms51_0), .val (.int v56), .val (.ref b41), .val (.ref b64), .val (.int v150), .val (.int (1 : Int32)), .val (.long v190), .second, .val (.long v249), .second, .val (.int v236), .val (.int (1 : Int32)), .val (.int v296), .val (.int (1 : Int32))] [(.int (1 : Int32)), (.int v56), (.long v249), (.int v296), (.int v19), (.int (6 : Int32)), (.ref b64)])) rfl (by rw [hml]; rfl) (argsL := [(.ref b64), (.int (6 : Int32)), (.int v19), (.int v296), (.long v249), (.int v56), (.int (1 : Int32))]) (rest := []) (lenOf pd3 rfl) rfl (by show 2 * 0 + _ ≤ _; exact Nat.le_of_eq rfl) (hb hby at_517) (fun _ _ => ⟨rfl, e88, (by decide : 2 + 0 ≤ _), (by decide : 28 + 0 ≤ _)⟩)
          dsimp only [Pt.U, Pt.locs, Pt.cells, Pt.slots] at X89 l89 y89 z89 st89 hQ89
          subst l89 y89 z89
          obtain ⟨rfl, Nq89, e89⟩ := hQ89
          have N89 := Fr.app N88 Nq89
          refine Wq.step st89 ?_
          show Wq _ _ _ _ _ (T89.setTop (mkF m 520 #[.val (.long ylaw_1), .second, .val (.int xlaw_2), .val (.int xlaw_3), .val (.int xlaw_4), .val (.int xlaw_5), .val (.int xlaw_6), .val (.int v3), .val (.int v14), .val (.int v19), .val (.int v30), .val (.int ms51_0), .val (.int v56), .val (.ref b41), .val (.ref b64), .val (.int v150), .val (.int (1 : Int32)), .val (.long v190), .second, .val (.long v249), .second, .val (.int v236), .val (.int (1 : Int32)), .val (.int v296), .val (.int (1 : Int32))] [(.int (f_at (6 : Int32) v19 v296 v249 v56 (1 : Int32) (own_by (own_W ylaw_1 (own_n v3) (own_n v30) ms51_0) (own_n v19) (own_n v14) v56 6)))]))
          generalize hv517 : (f_at (6 : Int32) v19 v296 v249 v56 (1 : Int32) (own_by (own_W ylaw_1 (own_n v3) (own_n v30) ms51_0) (own_n v19) (own_n v14) v56 6)) = v517
          show Wq _ _ _ _ _ (T89.setTop (mkF m 520 #[.val (.long ylaw_1), .second, .val (.int xlaw_2), .val (.int xlaw_3), .val (.int xlaw_4), .val (.int xlaw_5), .val (.int xlaw_6), .val (.int v3), .val (.int v14), .val (.int v19), .val (.int v30), .val (.int ms51_0), .val (.int v56), .val (.ref b41), .val (.ref b64), .val (.int v150), .val (.int (1 : Int32)), .val (.long v190), .second, .val (.long v249), .second, .val (.int v236), .val (.int (1 : Int32)), .val (.int v296), .val (.int (1 : Int32))] [(.int v517)]))
          refine Ow.ifNo X89 hx (pc' := 523) (hb hby at_520) ((if0 _ _).trans (feq (own_at HB hv296 (Or.inr HI) 6 (by decide) hv517 : ¬ (v517 = (0 : Int32)))).1) ?_
          refine Ow.iconst X89 hx (pc' := 524) (hb hby at_523) (z := (1 : Int32)) rfl ?_
          refine Ow.goto X89 hx (pc' := 528) (hb hby at_524) (by decide) (by decide) ?_
          refine Ow.istore X89 hx (pc' := 530) (hb hby at_528) (l' := #[.val (.long ylaw_1), .second, .val (.int xlaw_2), .val (.int xlaw_3), .val (.int xlaw_4), .val (.int xlaw_5), .val (.int xlaw_6), .val (.int v3), .val (.int v14), .val (.int v19), .val (.int v30), .val (.int ms51_0), .val (.int v56), .val (.ref b41), .val (.ref b64), .val (.int v150), .val (.int (1 : Int32)), .val (.long v190), .second, .val (.long v249), .second, .val (.int v236), .val (.int (1 : Int32)), .val (.int v296), .val (.int (1 : Int32))]) rfl ?_
          refine Ow.iload X89 hx (pc' := 532) (hb hby at_530) rfl ?_
          refine Ow.ifNo X89 hx (pc' := 535) (hb hby at_532) ((if0 _ _).trans (feq (by decide : ¬ ((1 : Int32) = (0 : Int32)))).1) ?_
          refine Ow.aload X89 hx (pc' := 537) (hb hby at_535) rfl rfl ?_
          refine Ow.bipush X89 hx (pc' := 539) (hb hby at_537) (z := (7 : Int32)) rfl ?_
          refine Ow.iload X89 hx (pc' := 541) (hb hby at_539) rfl ?_
          refine Ow.iload X89 hx (pc' := 543) (hb hby at_541) rfl ?_
          refine Ow.lload X89 hx (pc' := 545) (hb hby at_543) rfl ?_
          refine Ow.iload X89 hx (pc' := 547) (hb hby at_545) rfl ?_
          refine Ow.iload X89 hx (pc' := 549) (hb hby at_547) rfl ?_
          obtain ⟨_, _, ⟨T90, L90, k90, n90⟩, -, X90, ⟨Lc90, hQ90, l90, y90, z90⟩, st90⟩ := Jvm.LawKit.callS X89 hx (y := mt2) hown (mvT hZ (kw10 hw)) (mvT hZ (kw11 hw)) (mvT hZ (kw3 hw)) (mvT hZ (kw12 hw)) (by decide) (backOf (W := 0) (rm_at l Z a0 hw [] b64 (7 : Int32) v19 v296 v249 v56 (1 : Int32) q74 (own_by (own_W ylaw_1 (own_n v3) (own_n v30) ms51_0) (own_n v19) (own_n v14) v56 7) T73.heap n0 Z73 (by decide) (by rw [hq74]; exact own_get HB v56 7 (by decide) (by decide)) P73_0) hZ (kw12 hw) (kw3 hw) (by decide) (by decide)) (g := (mkF m 549 #[.val (.long ylaw_1), .second, .val (.int xlaw_2), .val (.int xlaw_3), .val (.int xlaw_4), .val (.int xlaw_5), .val (.int xlaw_6), .val (.int v3), .val (.int v14), .val (.int v19), .val (.int v30), .val (.int ms51_0), .val (.int v56), .val (.ref b41), .val (.ref b64), .val (.int v150), .val (.int (1 : Int32)), .val (.long v190), .second, .val (.long v249), .second, .val (.int v236), .val (.int (1 : Int32)), .val (.int v296), .val (.int (1 : Int32))] [(.int (1 : Int32)), (.int v56), (.long v249), (.int v296), (.int v19), (.int (7 : Int32)), (.ref b64)])) rfl (by rw [hml]; rfl) (argsL := [(.ref b64), (.int (7 : Int32)), (.int v19), (.int v296), (.long v249), (.int v56), (.int (1 : Int32))]) (rest := []) (lenOf pd3 rfl) rfl (by show 2 * 0 + _ ≤ _; exact Nat.le_of_eq rfl) (hb hby at_549) (fun _ _ => ⟨rfl, e89, (by decide : 2 + 0 ≤ _), (by decide : 28 + 0 ≤ _)⟩)
          dsimp only [Pt.U, Pt.locs, Pt.cells, Pt.slots] at X90 l90 y90 z90 st90 hQ90
          subst l90 y90 z90
          obtain ⟨rfl, Nq90, e90⟩ := hQ90
          have N90 := Fr.app N89 Nq90
          refine Wq.step st90 ?_
          show Wq _ _ _ _ _ (T90.setTop (mkF m 552 #[.val (.long ylaw_1), .second, .val (.int xlaw_2), .val (.int xlaw_3), .val (.int xlaw_4), .val (.int xlaw_5), .val (.int xlaw_6), .val (.int v3), .val (.int v14), .val (.int v19), .val (.int v30), .val (.int ms51_0), .val (.int v56), .val (.ref b41), .val (.ref b64), .val (.int v150), .val (.int (1 : Int32)), .val (.long v190), .second, .val (.long v249), .second, .val (.int v236), .val (.int (1 : Int32)), .val (.int v296), .val (.int (1 : Int32))] [(.int (f_at (7 : Int32) v19 v296 v249 v56 (1 : Int32) (own_by (own_W ylaw_1 (own_n v3) (own_n v30) ms51_0) (own_n v19) (own_n v14) v56 7)))]))
          generalize hv549 : (f_at (7 : Int32) v19 v296 v249 v56 (1 : Int32) (own_by (own_W ylaw_1 (own_n v3) (own_n v30) ms51_0) (own_n v19) (own_n v14) v56 7)) = v549
          show Wq _ _ _ _ _ (T90.setTop (mkF m 552 #[.val (.long ylaw_1), .second, .val (.int xlaw_2), .val (.int xlaw_3), .val (.int xlaw_4), .val (.int xlaw_5), .val (.int xlaw_6), .val (.int v3), .val (.int v14), .val (.int v19), .val (.int v30), .val (.int ms51_0), .val (.int v56), .val (.ref b41), .val (.ref b64), .val (.int v150), .val (.int (1 : Int32)), .val (.long v190), .second, .val (.long v249), .second, .val (.int v236), .val (.int (1 : Int32)), .val (.int v296), .val (.int (1 : Int32))] [(.int v549)]))
          refine Ow.ifNo X90 hx (pc' := 555) (hb hby at_552) ((if0 _ _).trans (feq (own_at HB hv296 (Or.inr HI) 7 (by decide) hv549 : ¬ (v549 = (0 : Int32)))).1) ?_
          refine Ow.iconst X90 hx (pc' := 556) (hb hby at_555) (z := (1 : Int32)) rfl ?_
          refine Ow.goto X90 hx (pc' := 560) (hb hby at_556) (by decide) (by decide) ?_
          refine Ow.istore X90 hx (pc' := 562) (hb hby at_560) (l' := #[.val (.long ylaw_1), .second, .val (.int xlaw_2), .val (.int xlaw_3), .val (.int xlaw_4), .val (.int xlaw_5), .val (.int xlaw_6), .val (.int v3), .val (.int v14), .val (.int v19), .val (.int v30), .val (.int ms51_0), .val (.int v56), .val (.ref b41), .val (.ref b64), .val (.int v150), .val (.int (1 : Int32)), .val (.long v190), .second, .val (.long v249), .second, .val (.int v236), .val (.int (1 : Int32)), .val (.int v296), .val (.int (1 : Int32))]) rfl ?_
          refine Ow.iload X90 hx (pc' := 564) (hb hby at_562) rfl ?_
          exact Wq.ret X90 (BodyLoose.notSynchronized Bd) (rv := some (.int (1 : Int32))) (fun h => by rw [Bd.returns] at h; cases h) (fun _ hr => retN X90 hx (t := .boolean) Bd.returns (by simp) (hb hby at_564) hr) (by decide) (by decide) ⟨rfl, N90⟩
        · skip
          refine Ow.ifYes X73 hx (pc' := 285) (hb hby at_278) ((if0 _ _).trans (feq hc278).2) (by decide) (by decide) ?_
          refine Ow.iconst X73 hx (pc' := 286) (hb hby at_285) (z := (0 : Int32)) rfl ?_
          refine Ow.istore X73 hx (pc' := 288) (hb hby at_286) (l' := #[.val (.long ylaw_1), .second, .val (.int xlaw_2), .val (.int xlaw_3), .val (.int xlaw_4), .val (.int xlaw_5), .val (.int xlaw_6), .val (.int v3), .val (.int v14), .val (.int v19), .val (.int v30), .val (.int ms51_0), .val (.int v56), .val (.ref b41), .val (.ref b64), .val (.int v150), .val (.int (1 : Int32)), .val (.long v190), .second, .val (.long v249), .second, .val (.int v236), .val (.int (0 : Int32)), .val (.long v219), .second]) rfl ?_
          refine Ow.iload X73 hx (pc' := 290) (hb hby at_288) rfl ?_
          refine Ow.bipush X73 hx (pc' := 292) (hb hby at_290) (z := (7 : Int32)) rfl ?_
          refine Ow.iadd X73 hx (pc' := 293) (hb hby at_292) (z := (v14 + (7 : Int32))) rfl ?_
          refine Ow.bipush X73 hx (pc' := 295) (hb hby at_293) (z := (8 : Int32)) rfl ?_
          refine Ow.idiv X73 hx (pc' := 296) (hb hby at_295) (by decide : (8 : Int32) ≠ (0 : Int32)) (z := ((v14 + (7 : Int32)) / (8 : Int32))) rfl ?_
          refine Ow.istore X73 hx (pc' := 298) (hb hby at_296) (l' := #[.val (.long ylaw_1), .second, .val (.int xlaw_2), .val (.int xlaw_3), .val (.int xlaw_4), .val (.int xlaw_5), .val (.int xlaw_6), .val (.int v3), .val (.int v14), .val (.int v19), .val (.int v30), .val (.int ms51_0), .val (.int v56), .val (.ref b41), .val (.ref b64), .val (.int v150), .val (.int (1 : Int32)), .val (.long v190), .second, .val (.long v249), .second, .val (.int v236), .val (.int (0 : Int32)), .val (.int ((v14 + (7 : Int32)) / (8 : Int32))), .unset]) rfl ?_
          generalize hv296 : ((v14 + (7 : Int32)) / (8 : Int32)) = v296
          have HO : v150 = v236 := own_orI HB HQ (own_oc HB) hc159 hc169 hv150 hv190 hv206 hv219 hms235_0 hv236
          refine Ow.iload X73 hx (pc' := 300) (hb hby at_298) rfl ?_
          refine Ow.iload X73 hx (pc' := 302) (hb hby at_300) rfl ?_
          refine Ow.icmpNo X73 hx (pc' := 305) (hb hby at_302) (teq (HO : v150 = v236)).2 ?_
          refine Ow.iconst X73 hx (pc' := 306) (hb hby at_305) (z := (1 : Int32)) rfl ?_
          refine Ow.goto X73 hx (pc' := 310) (hb hby at_306) (by decide) (by decide) ?_
          refine Ow.istore X73 hx (pc' := 312) (hb hby at_310) (l' := #[.val (.long ylaw_1), .second, .val (.int xlaw_2), .val (.int xlaw_3), .val (.int xlaw_4), .val (.int xlaw_5), .val (.int xlaw_6), .val (.int v3), .val (.int v14), .val (.int v19), .val (.int v30), .val (.int ms51_0), .val (.int v56), .val (.ref b41), .val (.ref b64), .val (.int v150), .val (.int (1 : Int32)), .val (.long v190), .second, .val (.long v249), .second, .val (.int v236), .val (.int (0 : Int32)), .val (.int v296), .val (.int (1 : Int32))]) rfl ?_
          refine Ow.iload X73 hx (pc' := 314) (hb hby at_312) rfl ?_
          refine Ow.ifNo X73 hx (pc' := 317) (hb hby at_314) ((if0 _ _).trans (feq (by decide : ¬ ((1 : Int32) = (0 : Int32)))).1) ?_
          refine Ow.aload X73 hx (pc' := 319) (hb hby at_317) rfl rfl ?_
          refine Ow.iconst X73 hx (pc' := 320) (hb hby at_319) (z := (0 : Int32)) rfl ?_
          refine Ow.iload X73 hx (pc' := 322) (hb hby at_320) rfl ?_
          refine Ow.iload X73 hx (pc' := 324) (hb hby at_322) rfl ?_
          refine Ow.lload X73 hx (pc' := 326) (hb hby at_324) rfl ?_
          refine Ow.iload X73 hx (pc' := 328) (hb hby at_326) rfl ?_
          refine Ow.iload X73 hx (pc' := 330) (hb hby at_328) rfl ?_
          obtain ⟨_, _, ⟨T91, L91, k91, n91⟩, -, X91, ⟨Lc91, hQ91, l91, y91, z91⟩, st91⟩ := Jvm.LawKit.callS X73 hx (y := mt2) hown (mvT hZ (kw10 hw)) (mvT hZ (kw11 hw)) (mvT hZ (kw3 hw)) (mvT hZ (kw12 hw)) (by decide) (backOf (W := 0) (rm_at l Z a0 hw [] b64 (0 : Int32) v19 v296 v249 v56 (0 : Int32) q74 (own_by (own_W ylaw_1 (own_n v3) (own_n v30) ms51_0) (own_n v19) (own_n v14) v56 0) T73.heap n0 Z73 (by decide) (by rw [hq74]; exact own_get HB v56 0 (by decide) (by decide)) P73_0) hZ (kw12 hw) (kw3 hw) (by decide) (by decide)) (g := (mkF m 330 #[.val (.long ylaw_1), .second, .val (.int xlaw_2), .val (.int xlaw_3), .val (.int xlaw_4), .val (.int xlaw_5), .val (.int xlaw_6), .val (.int v3), .val (.int v14), .val (.int v19), .val (.int v30), .val (.int ms51_0), .val (.int v56), .val (.ref b41), .val (.ref b64), .val (.int v150), .val (.int (1 : Int32)), .val (.long v190), .second, .val (.long v249), .second, .val (.int v236), .val (.int (0 : Int32)), .val (.int v296), .val (.int (1 : Int32))] [(.int (0 : Int32)), (.int v56), (.long v249), (.int v296), (.int v19), (.int (0 : Int32)), (.ref b64)])) rfl (by rw [hml]; rfl) (argsL := [(.ref b64), (.int (0 : Int32)), (.int v19), (.int v296), (.long v249), (.int v56), (.int (0 : Int32))]) (rest := []) (lenOf pd3 rfl) rfl (by show 2 * 0 + _ ≤ _; exact Nat.le_of_eq rfl) (hb hby at_330) (fun _ _ => ⟨rfl, e73, (by decide : 2 + 0 ≤ _), (by decide : 28 + 0 ≤ _)⟩)
          dsimp only [Pt.U, Pt.locs, Pt.cells, Pt.slots] at X91 l91 y91 z91 st91 hQ91
          subst l91 y91 z91
          obtain ⟨rfl, Nq91, e91⟩ := hQ91
          have N91 := Fr.app N73 Nq91
          refine Wq.step st91 ?_
          show Wq _ _ _ _ _ (T91.setTop (mkF m 333 #[.val (.long ylaw_1), .second, .val (.int xlaw_2), .val (.int xlaw_3), .val (.int xlaw_4), .val (.int xlaw_5), .val (.int xlaw_6), .val (.int v3), .val (.int v14), .val (.int v19), .val (.int v30), .val (.int ms51_0), .val (.int v56), .val (.ref b41), .val (.ref b64), .val (.int v150), .val (.int (1 : Int32)), .val (.long v190), .second, .val (.long v249), .second, .val (.int v236), .val (.int (0 : Int32)), .val (.int v296), .val (.int (1 : Int32))] [(.int (f_at (0 : Int32) v19 v296 v249 v56 (0 : Int32) (own_by (own_W ylaw_1 (own_n v3) (own_n v30) ms51_0) (own_n v19) (own_n v14) v56 0)))]))
          generalize hv330 : (f_at (0 : Int32) v19 v296 v249 v56 (0 : Int32) (own_by (own_W ylaw_1 (own_n v3) (own_n v30) ms51_0) (own_n v19) (own_n v14) v56 0)) = v330
          show Wq _ _ _ _ _ (T91.setTop (mkF m 333 #[.val (.long ylaw_1), .second, .val (.int xlaw_2), .val (.int xlaw_3), .val (.int xlaw_4), .val (.int xlaw_5), .val (.int xlaw_6), .val (.int v3), .val (.int v14), .val (.int v19), .val (.int v30), .val (.int ms51_0), .val (.int v56), .val (.ref b41), .val (.ref b64), .val (.int v150), .val (.int (1 : Int32)), .val (.long v190), .second, .val (.long v249), .second, .val (.int v236), .val (.int (0 : Int32)), .val (.int v296), .val (.int (1 : Int32))] [(.int v330)]))
          refine Ow.ifNo X91 hx (pc' := 336) (hb hby at_333) ((if0 _ _).trans (feq (own_at HB hv296 (Or.inl rfl) 0 (by decide) hv330 : ¬ (v330 = (0 : Int32)))).1) ?_
          refine Ow.iconst X91 hx (pc' := 337) (hb hby at_336) (z := (1 : Int32)) rfl ?_
          refine Ow.goto X91 hx (pc' := 341) (hb hby at_337) (by decide) (by decide) ?_
          refine Ow.istore X91 hx (pc' := 343) (hb hby at_341) (l' := #[.val (.long ylaw_1), .second, .val (.int xlaw_2), .val (.int xlaw_3), .val (.int xlaw_4), .val (.int xlaw_5), .val (.int xlaw_6), .val (.int v3), .val (.int v14), .val (.int v19), .val (.int v30), .val (.int ms51_0), .val (.int v56), .val (.ref b41), .val (.ref b64), .val (.int v150), .val (.int (1 : Int32)), .val (.long v190), .second, .val (.long v249), .second, .val (.int v236), .val (.int (0 : Int32)), .val (.int v296), .val (.int (1 : Int32))]) rfl ?_
          refine Ow.iload X91 hx (pc' := 345) (hb hby at_343) rfl ?_
          refine Ow.ifNo X91 hx (pc' := 348) (hb hby at_345) ((if0 _ _).trans (feq (by decide : ¬ ((1 : Int32) = (0 : Int32)))).1) ?_
          refine Ow.aload X91 hx (pc' := 350) (hb hby at_348) rfl rfl ?_
          refine Ow.iconst X91 hx (pc' := 351) (hb hby at_350) (z := (1 : Int32)) rfl ?_
          refine Ow.iload X91 hx (pc' := 353) (hb hby at_351) rfl ?_
          refine Ow.iload X91 hx (pc' := 355) (hb hby at_353) rfl ?_
          refine Ow.lload X91 hx (pc' := 357) (hb hby at_355) rfl ?_
          refine Ow.iload X91 hx (pc' := 359) (hb hby at_357) rfl ?_
          refine Ow.iload X91 hx (pc' := 361) (hb hby at_359) rfl ?_
          obtain ⟨_, _, ⟨T92, L92, k92, n92⟩, -, X92, ⟨Lc92, hQ92, l92, y92, z92⟩, st92⟩ := Jvm.LawKit.callS X91 hx (y := mt2) hown (mvT hZ (kw10 hw)) (mvT hZ (kw11 hw)) (mvT hZ (kw3 hw)) (mvT hZ (kw12 hw)) (by decide) (backOf (W := 0) (rm_at l Z a0 hw [] b64 (1 : Int32) v19 v296 v249 v56 (0 : Int32) q74 (own_by (own_W ylaw_1 (own_n v3) (own_n v30) ms51_0) (own_n v19) (own_n v14) v56 1) T73.heap n0 Z73 (by decide) (by rw [hq74]; exact own_get HB v56 1 (by decide) (by decide)) P73_0) hZ (kw12 hw) (kw3 hw) (by decide) (by decide)) (g := (mkF m 361 #[.val (.long ylaw_1), .second, .val (.int xlaw_2), .val (.int xlaw_3), .val (.int xlaw_4), .val (.int xlaw_5), .val (.int xlaw_6), .val (.int v3), .val (.int v14), .val (.int v19), .val (.int v30), .val (.int ms51_0), .val (.int v56), .val (.ref b41), .val (.ref b64), .val (.int v150), .val (.int (1 : Int32)), .val (.long v190), .second, .val (.long v249), .second, .val (.int v236), .val (.int (0 : Int32)), .val (.int v296), .val (.int (1 : Int32))] [(.int (0 : Int32)), (.int v56), (.long v249), (.int v296), (.int v19), (.int (1 : Int32)), (.ref b64)])) rfl (by rw [hml]; rfl) (argsL := [(.ref b64), (.int (1 : Int32)), (.int v19), (.int v296), (.long v249), (.int v56), (.int (0 : Int32))]) (rest := []) (lenOf pd3 rfl) rfl (by show 2 * 0 + _ ≤ _; exact Nat.le_of_eq rfl) (hb hby at_361) (fun _ _ => ⟨rfl, e91, (by decide : 2 + 0 ≤ _), (by decide : 28 + 0 ≤ _)⟩)
          dsimp only [Pt.U, Pt.locs, Pt.cells, Pt.slots] at X92 l92 y92 z92 st92 hQ92
          subst l92 y92 z92
          obtain ⟨rfl, Nq92, e92⟩ := hQ92
          have N92 := Fr.app N91 Nq92
          refine Wq.step st92 ?_
          show Wq _ _ _ _ _ (T92.setTop (mkF m 364 #[.val (.long ylaw_1), .second, .val (.int xlaw_2), .val (.int xlaw_3), .val (.int xlaw_4), .val (.int xlaw_5), .val (.int xlaw_6), .val (.int v3), .val (.int v14), .val (.int v19), .val (.int v30), .val (.int ms51_0), .val (.int v56), .val (.ref b41), .val (.ref b64), .val (.int v150), .val (.int (1 : Int32)), .val (.long v190), .second, .val (.long v249), .second, .val (.int v236), .val (.int (0 : Int32)), .val (.int v296), .val (.int (1 : Int32))] [(.int (f_at (1 : Int32) v19 v296 v249 v56 (0 : Int32) (own_by (own_W ylaw_1 (own_n v3) (own_n v30) ms51_0) (own_n v19) (own_n v14) v56 1)))]))
          generalize hv361 : (f_at (1 : Int32) v19 v296 v249 v56 (0 : Int32) (own_by (own_W ylaw_1 (own_n v3) (own_n v30) ms51_0) (own_n v19) (own_n v14) v56 1)) = v361
          show Wq _ _ _ _ _ (T92.setTop (mkF m 364 #[.val (.long ylaw_1), .second, .val (.int xlaw_2), .val (.int xlaw_3), .val (.int xlaw_4), .val (.int xlaw_5), .val (.int xlaw_6), .val (.int v3), .val (.int v14), .val (.int v19), .val (.int v30), .val (.int ms51_0), .val (.int v56), .val (.ref b41), .val (.ref b64), .val (.int v150), .val (.int (1 : Int32)), .val (.long v190), .second, .val (.long v249), .second, .val (.int v236), .val (.int (0 : Int32)), .val (.int v296), .val (.int (1 : Int32))] [(.int v361)]))
          refine Ow.ifNo X92 hx (pc' := 367) (hb hby at_364) ((if0 _ _).trans (feq (own_at HB hv296 (Or.inl rfl) 1 (by decide) hv361 : ¬ (v361 = (0 : Int32)))).1) ?_
          refine Ow.iconst X92 hx (pc' := 368) (hb hby at_367) (z := (1 : Int32)) rfl ?_
          refine Ow.goto X92 hx (pc' := 372) (hb hby at_368) (by decide) (by decide) ?_
          refine Ow.istore X92 hx (pc' := 374) (hb hby at_372) (l' := #[.val (.long ylaw_1), .second, .val (.int xlaw_2), .val (.int xlaw_3), .val (.int xlaw_4), .val (.int xlaw_5), .val (.int xlaw_6), .val (.int v3), .val (.int v14), .val (.int v19), .val (.int v30), .val (.int ms51_0), .val (.int v56), .val (.ref b41), .val (.ref b64), .val (.int v150), .val (.int (1 : Int32)), .val (.long v190), .second, .val (.long v249), .second, .val (.int v236), .val (.int (0 : Int32)), .val (.int v296), .val (.int (1 : Int32))]) rfl ?_
          refine Ow.iload X92 hx (pc' := 376) (hb hby at_374) rfl ?_
          refine Ow.ifNo X92 hx (pc' := 379) (hb hby at_376) ((if0 _ _).trans (feq (by decide : ¬ ((1 : Int32) = (0 : Int32)))).1) ?_
          refine Ow.aload X92 hx (pc' := 381) (hb hby at_379) rfl rfl ?_
          refine Ow.iconst X92 hx (pc' := 382) (hb hby at_381) (z := (2 : Int32)) rfl ?_
          refine Ow.iload X92 hx (pc' := 384) (hb hby at_382) rfl ?_
          refine Ow.iload X92 hx (pc' := 386) (hb hby at_384) rfl ?_
          refine Ow.lload X92 hx (pc' := 388) (hb hby at_386) rfl ?_
          refine Ow.iload X92 hx (pc' := 390) (hb hby at_388) rfl ?_
          refine Ow.iload X92 hx (pc' := 392) (hb hby at_390) rfl ?_
          obtain ⟨_, _, ⟨T93, L93, k93, n93⟩, -, X93, ⟨Lc93, hQ93, l93, y93, z93⟩, st93⟩ := Jvm.LawKit.callS X92 hx (y := mt2) hown (mvT hZ (kw10 hw)) (mvT hZ (kw11 hw)) (mvT hZ (kw3 hw)) (mvT hZ (kw12 hw)) (by decide) (backOf (W := 0) (rm_at l Z a0 hw [] b64 (2 : Int32) v19 v296 v249 v56 (0 : Int32) q74 (own_by (own_W ylaw_1 (own_n v3) (own_n v30) ms51_0) (own_n v19) (own_n v14) v56 2) T73.heap n0 Z73 (by decide) (by rw [hq74]; exact own_get HB v56 2 (by decide) (by decide)) P73_0) hZ (kw12 hw) (kw3 hw) (by decide) (by decide)) (g := (mkF m 392 #[.val (.long ylaw_1), .second, .val (.int xlaw_2), .val (.int xlaw_3), .val (.int xlaw_4), .val (.int xlaw_5), .val (.int xlaw_6), .val (.int v3), .val (.int v14), .val (.int v19), .val (.int v30), .val (.int ms51_0), .val (.int v56), .val (.ref b41), .val (.ref b64), .val (.int v150), .val (.int (1 : Int32)), .val (.long v190), .second, .val (.long v249), .second, .val (.int v236), .val (.int (0 : Int32)), .val (.int v296), .val (.int (1 : Int32))] [(.int (0 : Int32)), (.int v56), (.long v249), (.int v296), (.int v19), (.int (2 : Int32)), (.ref b64)])) rfl (by rw [hml]; rfl) (argsL := [(.ref b64), (.int (2 : Int32)), (.int v19), (.int v296), (.long v249), (.int v56), (.int (0 : Int32))]) (rest := []) (lenOf pd3 rfl) rfl (by show 2 * 0 + _ ≤ _; exact Nat.le_of_eq rfl) (hb hby at_392) (fun _ _ => ⟨rfl, e92, (by decide : 2 + 0 ≤ _), (by decide : 28 + 0 ≤ _)⟩)
          dsimp only [Pt.U, Pt.locs, Pt.cells, Pt.slots] at X93 l93 y93 z93 st93 hQ93
          subst l93 y93 z93
          obtain ⟨rfl, Nq93, e93⟩ := hQ93
          have N93 := Fr.app N92 Nq93
          refine Wq.step st93 ?_
          show Wq _ _ _ _ _ (T93.setTop (mkF m 395 #[.val (.long ylaw_1), .second, .val (.int xlaw_2), .val (.int xlaw_3), .val (.int xlaw_4), .val (.int xlaw_5), .val (.int xlaw_6), .val (.int v3), .val (.int v14), .val (.int v19), .val (.int v30), .val (.int ms51_0), .val (.int v56), .val (.ref b41), .val (.ref b64), .val (.int v150), .val (.int (1 : Int32)), .val (.long v190), .second, .val (.long v249), .second, .val (.int v236), .val (.int (0 : Int32)), .val (.int v296), .val (.int (1 : Int32))] [(.int (f_at (2 : Int32) v19 v296 v249 v56 (0 : Int32) (own_by (own_W ylaw_1 (own_n v3) (own_n v30) ms51_0) (own_n v19) (own_n v14) v56 2)))]))
          generalize hv392 : (f_at (2 : Int32) v19 v296 v249 v56 (0 : Int32) (own_by (own_W ylaw_1 (own_n v3) (own_n v30) ms51_0) (own_n v19) (own_n v14) v56 2)) = v392
          show Wq _ _ _ _ _ (T93.setTop (mkF m 395 #[.val (.long ylaw_1), .second, .val (.int xlaw_2), .val (.int xlaw_3), .val (.int xlaw_4), .val (.int xlaw_5), .val (.int xlaw_6), .val (.int v3), .val (.int v14), .val (.int v19), .val (.int v30), .val (.int ms51_0), .val (.int v56), .val (.ref b41), .val (.ref b64), .val (.int v150), .val (.int (1 : Int32)), .val (.long v190), .second, .val (.long v249), .second, .val (.int v236), .val (.int (0 : Int32)), .val (.int v296), .val (.int (1 : Int32))] [(.int v392)]))
          refine Ow.ifNo X93 hx (pc' := 398) (hb hby at_395) ((if0 _ _).trans (feq (own_at HB hv296 (Or.inl rfl) 2 (by decide) hv392 : ¬ (v392 = (0 : Int32)))).1) ?_
          refine Ow.iconst X93 hx (pc' := 399) (hb hby at_398) (z := (1 : Int32)) rfl ?_
          refine Ow.goto X93 hx (pc' := 403) (hb hby at_399) (by decide) (by decide) ?_
          refine Ow.istore X93 hx (pc' := 405) (hb hby at_403) (l' := #[.val (.long ylaw_1), .second, .val (.int xlaw_2), .val (.int xlaw_3), .val (.int xlaw_4), .val (.int xlaw_5), .val (.int xlaw_6), .val (.int v3), .val (.int v14), .val (.int v19), .val (.int v30), .val (.int ms51_0), .val (.int v56), .val (.ref b41), .val (.ref b64), .val (.int v150), .val (.int (1 : Int32)), .val (.long v190), .second, .val (.long v249), .second, .val (.int v236), .val (.int (0 : Int32)), .val (.int v296), .val (.int (1 : Int32))]) rfl ?_
          refine Ow.iload X93 hx (pc' := 407) (hb hby at_405) rfl ?_
          refine Ow.ifNo X93 hx (pc' := 410) (hb hby at_407) ((if0 _ _).trans (feq (by decide : ¬ ((1 : Int32) = (0 : Int32)))).1) ?_
          refine Ow.aload X93 hx (pc' := 412) (hb hby at_410) rfl rfl ?_
          refine Ow.iconst X93 hx (pc' := 413) (hb hby at_412) (z := (3 : Int32)) rfl ?_
          refine Ow.iload X93 hx (pc' := 415) (hb hby at_413) rfl ?_
          refine Ow.iload X93 hx (pc' := 417) (hb hby at_415) rfl ?_
          refine Ow.lload X93 hx (pc' := 419) (hb hby at_417) rfl ?_
          refine Ow.iload X93 hx (pc' := 421) (hb hby at_419) rfl ?_
          refine Ow.iload X93 hx (pc' := 423) (hb hby at_421) rfl ?_
          obtain ⟨_, _, ⟨T94, L94, k94, n94⟩, -, X94, ⟨Lc94, hQ94, l94, y94, z94⟩, st94⟩ := Jvm.LawKit.callS X93 hx (y := mt2) hown (mvT hZ (kw10 hw)) (mvT hZ (kw11 hw)) (mvT hZ (kw3 hw)) (mvT hZ (kw12 hw)) (by decide) (backOf (W := 0) (rm_at l Z a0 hw [] b64 (3 : Int32) v19 v296 v249 v56 (0 : Int32) q74 (own_by (own_W ylaw_1 (own_n v3) (own_n v30) ms51_0) (own_n v19) (own_n v14) v56 3) T73.heap n0 Z73 (by decide) (by rw [hq74]; exact own_get HB v56 3 (by decide) (by decide)) P73_0) hZ (kw12 hw) (kw3 hw) (by decide) (by decide)) (g := (mkF m 423 #[.val (.long ylaw_1), .second, .val (.int xlaw_2), .val (.int xlaw_3), .val (.int xlaw_4), .val (.int xlaw_5), .val (.int xlaw_6), .val (.int v3), .val (.int v14), .val (.int v19), .val (.int v30), .val (.int ms51_0), .val (.int v56), .val (.ref b41), .val (.ref b64), .val (.int v150), .val (.int (1 : Int32)), .val (.long v190), .second, .val (.long v249), .second, .val (.int v236), .val (.int (0 : Int32)), .val (.int v296), .val (.int (1 : Int32))] [(.int (0 : Int32)), (.int v56), (.long v249), (.int v296), (.int v19), (.int (3 : Int32)), (.ref b64)])) rfl (by rw [hml]; rfl) (argsL := [(.ref b64), (.int (3 : Int32)), (.int v19), (.int v296), (.long v249), (.int v56), (.int (0 : Int32))]) (rest := []) (lenOf pd3 rfl) rfl (by show 2 * 0 + _ ≤ _; exact Nat.le_of_eq rfl) (hb hby at_423) (fun _ _ => ⟨rfl, e93, (by decide : 2 + 0 ≤ _), (by decide : 28 + 0 ≤ _)⟩)
          dsimp only [Pt.U, Pt.locs, Pt.cells, Pt.slots] at X94 l94 y94 z94 st94 hQ94
          subst l94 y94 z94
          obtain ⟨rfl, Nq94, e94⟩ := hQ94
          have N94 := Fr.app N93 Nq94
          refine Wq.step st94 ?_
          show Wq _ _ _ _ _ (T94.setTop (mkF m 426 #[.val (.long ylaw_1), .second, .val (.int xlaw_2), .val (.int xlaw_3), .val (.int xlaw_4), .val (.int xlaw_5), .val (.int xlaw_6), .val (.int v3), .val (.int v14), .val (.int v19), .val (.int v30), .val (.int ms51_0), .val (.int v56), .val (.ref b41), .val (.ref b64), .val (.int v150), .val (.int (1 : Int32)), .val (.long v190), .second, .val (.long v249), .second, .val (.int v236), .val (.int (0 : Int32)), .val (.int v296), .val (.int (1 : Int32))] [(.int (f_at (3 : Int32) v19 v296 v249 v56 (0 : Int32) (own_by (own_W ylaw_1 (own_n v3) (own_n v30) ms51_0) (own_n v19) (own_n v14) v56 3)))]))
          generalize hv423 : (f_at (3 : Int32) v19 v296 v249 v56 (0 : Int32) (own_by (own_W ylaw_1 (own_n v3) (own_n v30) ms51_0) (own_n v19) (own_n v14) v56 3)) = v423
          show Wq _ _ _ _ _ (T94.setTop (mkF m 426 #[.val (.long ylaw_1), .second, .val (.int xlaw_2), .val (.int xlaw_3), .val (.int xlaw_4), .val (.int xlaw_5), .val (.int xlaw_6), .val (.int v3), .val (.int v14), .val (.int v19), .val (.int v30), .val (.int ms51_0), .val (.int v56), .val (.ref b41), .val (.ref b64), .val (.int v150), .val (.int (1 : Int32)), .val (.long v190), .second, .val (.long v249), .second, .val (.int v236), .val (.int (0 : Int32)), .val (.int v296), .val (.int (1 : Int32))] [(.int v423)]))
          refine Ow.ifNo X94 hx (pc' := 429) (hb hby at_426) ((if0 _ _).trans (feq (own_at HB hv296 (Or.inl rfl) 3 (by decide) hv423 : ¬ (v423 = (0 : Int32)))).1) ?_
          refine Ow.iconst X94 hx (pc' := 430) (hb hby at_429) (z := (1 : Int32)) rfl ?_
          refine Ow.goto X94 hx (pc' := 434) (hb hby at_430) (by decide) (by decide) ?_
          refine Ow.istore X94 hx (pc' := 436) (hb hby at_434) (l' := #[.val (.long ylaw_1), .second, .val (.int xlaw_2), .val (.int xlaw_3), .val (.int xlaw_4), .val (.int xlaw_5), .val (.int xlaw_6), .val (.int v3), .val (.int v14), .val (.int v19), .val (.int v30), .val (.int ms51_0), .val (.int v56), .val (.ref b41), .val (.ref b64), .val (.int v150), .val (.int (1 : Int32)), .val (.long v190), .second, .val (.long v249), .second, .val (.int v236), .val (.int (0 : Int32)), .val (.int v296), .val (.int (1 : Int32))]) rfl ?_
          refine Ow.iload X94 hx (pc' := 438) (hb hby at_436) rfl ?_
          refine Ow.ifNo X94 hx (pc' := 441) (hb hby at_438) ((if0 _ _).trans (feq (by decide : ¬ ((1 : Int32) = (0 : Int32)))).1) ?_
          refine Ow.aload X94 hx (pc' := 443) (hb hby at_441) rfl rfl ?_
          refine Ow.iconst X94 hx (pc' := 444) (hb hby at_443) (z := (4 : Int32)) rfl ?_
          refine Ow.iload X94 hx (pc' := 446) (hb hby at_444) rfl ?_
          refine Ow.iload X94 hx (pc' := 448) (hb hby at_446) rfl ?_
          refine Ow.lload X94 hx (pc' := 450) (hb hby at_448) rfl ?_
          refine Ow.iload X94 hx (pc' := 452) (hb hby at_450) rfl ?_
          refine Ow.iload X94 hx (pc' := 454) (hb hby at_452) rfl ?_
          obtain ⟨_, _, ⟨T95, L95, k95, n95⟩, -, X95, ⟨Lc95, hQ95, l95, y95, z95⟩, st95⟩ := Jvm.LawKit.callS X94 hx (y := mt2) hown (mvT hZ (kw10 hw)) (mvT hZ (kw11 hw)) (mvT hZ (kw3 hw)) (mvT hZ (kw12 hw)) (by decide) (backOf (W := 0) (rm_at l Z a0 hw [] b64 (4 : Int32) v19 v296 v249 v56 (0 : Int32) q74 (own_by (own_W ylaw_1 (own_n v3) (own_n v30) ms51_0) (own_n v19) (own_n v14) v56 4) T73.heap n0 Z73 (by decide) (by rw [hq74]; exact own_get HB v56 4 (by decide) (by decide)) P73_0) hZ (kw12 hw) (kw3 hw) (by decide) (by decide)) (g := (mkF m 454 #[.val (.long ylaw_1), .second, .val (.int xlaw_2), .val (.int xlaw_3), .val (.int xlaw_4), .val (.int xlaw_5), .val (.int xlaw_6), .val (.int v3), .val (.int v14), .val (.int v19), .val (.int v30), .val (.int ms51_0), .val (.int v56), .val (.ref b41), .val (.ref b64), .val (.int v150), .val (.int (1 : Int32)), .val (.long v190), .second, .val (.long v249), .second, .val (.int v236), .val (.int (0 : Int32)), .val (.int v296), .val (.int (1 : Int32))] [(.int (0 : Int32)), (.int v56), (.long v249), (.int v296), (.int v19), (.int (4 : Int32)), (.ref b64)])) rfl (by rw [hml]; rfl) (argsL := [(.ref b64), (.int (4 : Int32)), (.int v19), (.int v296), (.long v249), (.int v56), (.int (0 : Int32))]) (rest := []) (lenOf pd3 rfl) rfl (by show 2 * 0 + _ ≤ _; exact Nat.le_of_eq rfl) (hb hby at_454) (fun _ _ => ⟨rfl, e94, (by decide : 2 + 0 ≤ _), (by decide : 28 + 0 ≤ _)⟩)
          dsimp only [Pt.U, Pt.locs, Pt.cells, Pt.slots] at X95 l95 y95 z95 st95 hQ95
          subst l95 y95 z95
          obtain ⟨rfl, Nq95, e95⟩ := hQ95
          have N95 := Fr.app N94 Nq95
          refine Wq.step st95 ?_
          show Wq _ _ _ _ _ (T95.setTop (mkF m 457 #[.val (.long ylaw_1), .second, .val (.int xlaw_2), .val (.int xlaw_3), .val (.int xlaw_4), .val (.int xlaw_5), .val (.int xlaw_6), .val (.int v3), .val (.int v14), .val (.int v19), .val (.int v30), .val (.int ms51_0), .val (.int v56), .val (.ref b41), .val (.ref b64), .val (.int v150), .val (.int (1 : Int32)), .val (.long v190), .second, .val (.long v249), .second, .val (.int v236), .val (.int (0 : Int32)), .val (.int v296), .val (.int (1 : Int32))] [(.int (f_at (4 : Int32) v19 v296 v249 v56 (0 : Int32) (own_by (own_W ylaw_1 (own_n v3) (own_n v30) ms51_0) (own_n v19) (own_n v14) v56 4)))]))
          generalize hv454 : (f_at (4 : Int32) v19 v296 v249 v56 (0 : Int32) (own_by (own_W ylaw_1 (own_n v3) (own_n v30) ms51_0) (own_n v19) (own_n v14) v56 4)) = v454
          show Wq _ _ _ _ _ (T95.setTop (mkF m 457 #[.val (.long ylaw_1), .second, .val (.int xlaw_2), .val (.int xlaw_3), .val (.int xlaw_4), .val (.int xlaw_5), .val (.int xlaw_6), .val (.int v3), .val (.int v14), .val (.int v19), .val (.int v30), .val (.int ms51_0), .val (.int v56), .val (.ref b41), .val (.ref b64), .val (.int v150), .val (.int (1 : Int32)), .val (.long v190), .second, .val (.long v249), .second, .val (.int v236), .val (.int (0 : Int32)), .val (.int v296), .val (.int (1 : Int32))] [(.int v454)]))
          refine Ow.ifNo X95 hx (pc' := 460) (hb hby at_457) ((if0 _ _).trans (feq (own_at HB hv296 (Or.inl rfl) 4 (by decide) hv454 : ¬ (v454 = (0 : Int32)))).1) ?_
          refine Ow.iconst X95 hx (pc' := 461) (hb hby at_460) (z := (1 : Int32)) rfl ?_
          refine Ow.goto X95 hx (pc' := 465) (hb hby at_461) (by decide) (by decide) ?_
          refine Ow.istore X95 hx (pc' := 467) (hb hby at_465) (l' := #[.val (.long ylaw_1), .second, .val (.int xlaw_2), .val (.int xlaw_3), .val (.int xlaw_4), .val (.int xlaw_5), .val (.int xlaw_6), .val (.int v3), .val (.int v14), .val (.int v19), .val (.int v30), .val (.int ms51_0), .val (.int v56), .val (.ref b41), .val (.ref b64), .val (.int v150), .val (.int (1 : Int32)), .val (.long v190), .second, .val (.long v249), .second, .val (.int v236), .val (.int (0 : Int32)), .val (.int v296), .val (.int (1 : Int32))]) rfl ?_
          refine Ow.iload X95 hx (pc' := 469) (hb hby at_467) rfl ?_
          refine Ow.ifNo X95 hx (pc' := 472) (hb hby at_469) ((if0 _ _).trans (feq (by decide : ¬ ((1 : Int32) = (0 : Int32)))).1) ?_
          refine Ow.aload X95 hx (pc' := 474) (hb hby at_472) rfl rfl ?_
          refine Ow.iconst X95 hx (pc' := 475) (hb hby at_474) (z := (5 : Int32)) rfl ?_
          refine Ow.iload X95 hx (pc' := 477) (hb hby at_475) rfl ?_
          refine Ow.iload X95 hx (pc' := 479) (hb hby at_477) rfl ?_
          refine Ow.lload X95 hx (pc' := 481) (hb hby at_479) rfl ?_
          refine Ow.iload X95 hx (pc' := 483) (hb hby at_481) rfl ?_
          refine Ow.iload X95 hx (pc' := 485) (hb hby at_483) rfl ?_
          obtain ⟨_, _, ⟨T96, L96, k96, n96⟩, -, X96, ⟨Lc96, hQ96, l96, y96, z96⟩, st96⟩ := Jvm.LawKit.callS X95 hx (y := mt2) hown (mvT hZ (kw10 hw)) (mvT hZ (kw11 hw)) (mvT hZ (kw3 hw)) (mvT hZ (kw12 hw)) (by decide) (backOf (W := 0) (rm_at l Z a0 hw [] b64 (5 : Int32) v19 v296 v249 v56 (0 : Int32) q74 (own_by (own_W ylaw_1 (own_n v3) (own_n v30) ms51_0) (own_n v19) (own_n v14) v56 5) T73.heap n0 Z73 (by decide) (by rw [hq74]; exact own_get HB v56 5 (by decide) (by decide)) P73_0) hZ (kw12 hw) (kw3 hw) (by decide) (by decide)) (g := (mkF m 485 #[.val (.long ylaw_1), .second, .val (.int xlaw_2), .val (.int xlaw_3), .val (.int xlaw_4), .val (.int xlaw_5), .val (.int xlaw_6), .val (.int v3), .val (.int v14), .val (.int v19), .val (.int v30), .val (.int ms51_0), .val (.int v56), .val (.ref b41), .val (.ref b64), .val (.int v150), .val (.int (1 : Int32)), .val (.long v190), .second, .val (.long v249), .second, .val (.int v236), .val (.int (0 : Int32)), .val (.int v296), .val (.int (1 : Int32))] [(.int (0 : Int32)), (.int v56), (.long v249), (.int v296), (.int v19), (.int (5 : Int32)), (.ref b64)])) rfl (by rw [hml]; rfl) (argsL := [(.ref b64), (.int (5 : Int32)), (.int v19), (.int v296), (.long v249), (.int v56), (.int (0 : Int32))]) (rest := []) (lenOf pd3 rfl) rfl (by show 2 * 0 + _ ≤ _; exact Nat.le_of_eq rfl) (hb hby at_485) (fun _ _ => ⟨rfl, e95, (by decide : 2 + 0 ≤ _), (by decide : 28 + 0 ≤ _)⟩)
          dsimp only [Pt.U, Pt.locs, Pt.cells, Pt.slots] at X96 l96 y96 z96 st96 hQ96
          subst l96 y96 z96
          obtain ⟨rfl, Nq96, e96⟩ := hQ96
          have N96 := Fr.app N95 Nq96
          refine Wq.step st96 ?_
          show Wq _ _ _ _ _ (T96.setTop (mkF m 488 #[.val (.long ylaw_1), .second, .val (.int xlaw_2), .val (.int xlaw_3), .val (.int xlaw_4), .val (.int xlaw_5), .val (.int xlaw_6), .val (.int v3), .val (.int v14), .val (.int v19), .val (.int v30), .val (.int ms51_0), .val (.int v56), .val (.ref b41), .val (.ref b64), .val (.int v150), .val (.int (1 : Int32)), .val (.long v190), .second, .val (.long v249), .second, .val (.int v236), .val (.int (0 : Int32)), .val (.int v296), .val (.int (1 : Int32))] [(.int (f_at (5 : Int32) v19 v296 v249 v56 (0 : Int32) (own_by (own_W ylaw_1 (own_n v3) (own_n v30) ms51_0) (own_n v19) (own_n v14) v56 5)))]))
          generalize hv485 : (f_at (5 : Int32) v19 v296 v249 v56 (0 : Int32) (own_by (own_W ylaw_1 (own_n v3) (own_n v30) ms51_0) (own_n v19) (own_n v14) v56 5)) = v485
          show Wq _ _ _ _ _ (T96.setTop (mkF m 488 #[.val (.long ylaw_1), .second, .val (.int xlaw_2), .val (.int xlaw_3), .val (.int xlaw_4), .val (.int xlaw_5), .val (.int xlaw_6), .val (.int v3), .val (.int v14), .val (.int v19), .val (.int v30), .val (.int ms51_0), .val (.int v56), .val (.ref b41), .val (.ref b64), .val (.int v150), .val (.int (1 : Int32)), .val (.long v190), .second, .val (.long v249), .second, .val (.int v236), .val (.int (0 : Int32)), .val (.int v296), .val (.int (1 : Int32))] [(.int v485)]))
          refine Ow.ifNo X96 hx (pc' := 491) (hb hby at_488) ((if0 _ _).trans (feq (own_at HB hv296 (Or.inl rfl) 5 (by decide) hv485 : ¬ (v485 = (0 : Int32)))).1) ?_
          refine Ow.iconst X96 hx (pc' := 492) (hb hby at_491) (z := (1 : Int32)) rfl ?_
          refine Ow.goto X96 hx (pc' := 496) (hb hby at_492) (by decide) (by decide) ?_
          refine Ow.istore X96 hx (pc' := 498) (hb hby at_496) (l' := #[.val (.long ylaw_1), .second, .val (.int xlaw_2), .val (.int xlaw_3), .val (.int xlaw_4), .val (.int xlaw_5), .val (.int xlaw_6), .val (.int v3), .val (.int v14), .val (.int v19), .val (.int v30), .val (.int ms51_0), .val (.int v56), .val (.ref b41), .val (.ref b64), .val (.int v150), .val (.int (1 : Int32)), .val (.long v190), .second, .val (.long v249), .second, .val (.int v236), .val (.int (0 : Int32)), .val (.int v296), .val (.int (1 : Int32))]) rfl ?_
          refine Ow.iload X96 hx (pc' := 500) (hb hby at_498) rfl ?_
          refine Ow.ifNo X96 hx (pc' := 503) (hb hby at_500) ((if0 _ _).trans (feq (by decide : ¬ ((1 : Int32) = (0 : Int32)))).1) ?_
          refine Ow.aload X96 hx (pc' := 505) (hb hby at_503) rfl rfl ?_
          refine Ow.bipush X96 hx (pc' := 507) (hb hby at_505) (z := (6 : Int32)) rfl ?_
          refine Ow.iload X96 hx (pc' := 509) (hb hby at_507) rfl ?_
          refine Ow.iload X96 hx (pc' := 511) (hb hby at_509) rfl ?_
          refine Ow.lload X96 hx (pc' := 513) (hb hby at_511) rfl ?_
          refine Ow.iload X96 hx (pc' := 515) (hb hby at_513) rfl ?_
          refine Ow.iload X96 hx (pc' := 517) (hb hby at_515) rfl ?_
          obtain ⟨_, _, ⟨T97, L97, k97, n97⟩, -, X97, ⟨Lc97, hQ97, l97, y97, z97⟩, st97⟩ := Jvm.LawKit.callS X96 hx (y := mt2) hown (mvT hZ (kw10 hw)) (mvT hZ (kw11 hw)) (mvT hZ (kw3 hw)) (mvT hZ (kw12 hw)) (by decide) (backOf (W := 0) (rm_at l Z a0 hw [] b64 (6 : Int32) v19 v296 v249 v56 (0 : Int32) q74 (own_by (own_W ylaw_1 (own_n v3) (own_n v30) ms51_0) (own_n v19) (own_n v14) v56 6) T73.heap n0 Z73 (by decide) (by rw [hq74]; exact own_get HB v56 6 (by decide) (by decide)) P73_0) hZ (kw12 hw) (kw3 hw) (by decide) (by decide)) (g := (mkF m 517 #[.val (.long ylaw_1), .second, .val (.int xlaw_2), .val (.int xlaw_3), .val (.int xlaw_4), .val (.int xlaw_5), .val (.int xlaw_6), .val (.int v3), .val (.int v14), .val (.int v19), .val (.int v30), .val (.int ms51_0), .val (.int v56), .val (.ref b41), .val (.ref b64), .val (.int v150), .val (.int (1 : Int32)), .val (.long v190), .second, .val (.long v249), .second, .val (.int v236), .val (.int (0 : Int32)), .val (.int v296), .val (.int (1 : Int32))] [(.int (0 : Int32)), (.int v56), (.long v249), (.int v296), (.int v19), (.int (6 : Int32)), (.ref b64)])) rfl (by rw [hml]; rfl) (argsL := [(.ref b64), (.int (6 : Int32)), (.int v19), (.int v296), (.long v249), (.int v56), (.int (0 : Int32))]) (rest := []) (lenOf pd3 rfl) rfl (by show 2 * 0 + _ ≤ _; exact Nat.le_of_eq rfl) (hb hby at_517) (fun _ _ => ⟨rfl, e96, (by decide : 2 + 0 ≤ _), (by decide : 28 + 0 ≤ _)⟩)
          dsimp only [Pt.U, Pt.locs, Pt.cells, Pt.slots] at X97 l97 y97 z97 st97 hQ97
          subst l97 y97 z97
          obtain ⟨rfl, Nq97, e97⟩ := hQ97
          have N97 := Fr.app N96 Nq97
          refine Wq.step st97 ?_
          show Wq _ _ _ _ _ (T97.setTop (mkF m 520 #[.val (.long ylaw_1), .second, .val (.int xlaw_2), .val (.int xlaw_3), .val (.int xlaw_4), .val (.int xlaw_5), .val (.int xlaw_6), .val (.int v3), .val (.int v14), .val (.int v19), .val (.int v30), .val (.int ms51_0), .val (.int v56), .val (.ref b41), .val (.ref b64), .val (.int v150), .val (.int (1 : Int32)), .val (.long v190), .second, .val (.long v249), .second, .val (.int v236), .val (.int (0 : Int32)), .val (.int v296), .val (.int (1 : Int32))] [(.int (f_at (6 : Int32) v19 v296 v249 v56 (0 : Int32) (own_by (own_W ylaw_1 (own_n v3) (own_n v30) ms51_0) (own_n v19) (own_n v14) v56 6)))]))
          generalize hv517 : (f_at (6 : Int32) v19 v296 v249 v56 (0 : Int32) (own_by (own_W ylaw_1 (own_n v3) (own_n v30) ms51_0) (own_n v19) (own_n v14) v56 6)) = v517
          show Wq _ _ _ _ _ (T97.setTop (mkF m 520 #[.val (.long ylaw_1), .second, .val (.int xlaw_2), .val (.int xlaw_3), .val (.int xlaw_4), .val (.int xlaw_5), .val (.int xlaw_6), .val (.int v3), .val (.int v14), .val (.int v19), .val (.int v30), .val (.int ms51_0), .val (.int v56), .val (.ref b41), .val (.ref b64), .val (.int v150), .val (.int (1 : Int32)), .val (.long v190), .second, .val (.long v249), .second, .val (.int v236), .val (.int (0 : Int32)), .val (.int v296), .val (.int (1 : Int32))] [(.int v517)]))
          refine Ow.ifNo X97 hx (pc' := 523) (hb hby at_520) ((if0 _ _).trans (feq (own_at HB hv296 (Or.inl rfl) 6 (by decide) hv517 : ¬ (v517 = (0 : Int32)))).1) ?_
          refine Ow.iconst X97 hx (pc' := 524) (hb hby at_523) (z := (1 : Int32)) rfl ?_
          refine Ow.goto X97 hx (pc' := 528) (hb hby at_524) (by decide) (by decide) ?_
          refine Ow.istore X97 hx (pc' := 530) (hb hby at_528) (l' := #[.val (.long ylaw_1), .second, .val (.int xlaw_2), .val (.int xlaw_3), .val (.int xlaw_4), .val (.int xlaw_5), .val (.int xlaw_6), .val (.int v3), .val (.int v14), .val (.int v19), .val (.int v30), .val (.int ms51_0), .val (.int v56), .val (.ref b41), .val (.ref b64), .val (.int v150), .val (.int (1 : Int32)), .val (.long v190), .second, .val (.long v249), .second, .val (.int v236), .val (.int (0 : Int32)), .val (.int v296), .val (.int (1 : Int32))]) rfl ?_
          refine Ow.iload X97 hx (pc' := 532) (hb hby at_530) rfl ?_
          refine Ow.ifNo X97 hx (pc' := 535) (hb hby at_532) ((if0 _ _).trans (feq (by decide : ¬ ((1 : Int32) = (0 : Int32)))).1) ?_
          refine Ow.aload X97 hx (pc' := 537) (hb hby at_535) rfl rfl ?_
          refine Ow.bipush X97 hx (pc' := 539) (hb hby at_537) (z := (7 : Int32)) rfl ?_
          refine Ow.iload X97 hx (pc' := 541) (hb hby at_539) rfl ?_
          refine Ow.iload X97 hx (pc' := 543) (hb hby at_541) rfl ?_
          refine Ow.lload X97 hx (pc' := 545) (hb hby at_543) rfl ?_
          refine Ow.iload X97 hx (pc' := 547) (hb hby at_545) rfl ?_
          refine Ow.iload X97 hx (pc' := 549) (hb hby at_547) rfl ?_
          obtain ⟨_, _, ⟨T98, L98, k98, n98⟩, -, X98, ⟨Lc98, hQ98, l98, y98, z98⟩, st98⟩ := Jvm.LawKit.callS X97 hx (y := mt2) hown (mvT hZ (kw10 hw)) (mvT hZ (kw11 hw)) (mvT hZ (kw3 hw)) (mvT hZ (kw12 hw)) (by decide) (backOf (W := 0) (rm_at l Z a0 hw [] b64 (7 : Int32) v19 v296 v249 v56 (0 : Int32) q74 (own_by (own_W ylaw_1 (own_n v3) (own_n v30) ms51_0) (own_n v19) (own_n v14) v56 7) T73.heap n0 Z73 (by decide) (by rw [hq74]; exact own_get HB v56 7 (by decide) (by decide)) P73_0) hZ (kw12 hw) (kw3 hw) (by decide) (by decide)) (g := (mkF m 549 #[.val (.long ylaw_1), .second, .val (.int xlaw_2), .val (.int xlaw_3), .val (.int xlaw_4), .val (.int xlaw_5), .val (.int xlaw_6), .val (.int v3), .val (.int v14), .val (.int v19), .val (.int v30), .val (.int ms51_0), .val (.int v56), .val (.ref b41), .val (.ref b64), .val (.int v150), .val (.int (1 : Int32)), .val (.long v190), .second, .val (.long v249), .second, .val (.int v236), .val (.int (0 : Int32)), .val (.int v296), .val (.int (1 : Int32))] [(.int (0 : Int32)), (.int v56), (.long v249), (.int v296), (.int v19), (.int (7 : Int32)), (.ref b64)])) rfl (by rw [hml]; rfl) (argsL := [(.ref b64), (.int (7 : Int32)), (.int v19), (.int v296), (.long v249), (.int v56), (.int (0 : Int32))]) (rest := []) (lenOf pd3 rfl) rfl (by show 2 * 0 + _ ≤ _; exact Nat.le_of_eq rfl) (hb hby at_549) (fun _ _ => ⟨rfl, e97, (by decide : 2 + 0 ≤ _), (by decide : 28 + 0 ≤ _)⟩)
          dsimp only [Pt.U, Pt.locs, Pt.cells, Pt.slots] at X98 l98 y98 z98 st98 hQ98
          subst l98 y98 z98
          obtain ⟨rfl, Nq98, e98⟩ := hQ98
          have N98 := Fr.app N97 Nq98
          refine Wq.step st98 ?_
          show Wq _ _ _ _ _ (T98.setTop (mkF m 552 #[.val (.long ylaw_1), .second, .val (.int xlaw_2), .val (.int xlaw_3), .val (.int xlaw_4), .val (.int xlaw_5), .val (.int xlaw_6), .val (.int v3), .val (.int v14), .val (.int v19), .val (.int v30), .val (.int ms51_0), .val (.int v56), .val (.ref b41), .val (.ref b64), .val (.int v150), .val (.int (1 : Int32)), .val (.long v190), .second, .val (.long v249), .second, .val (.int v236), .val (.int (0 : Int32)), .val (.int v296), .val (.int (1 : Int32))] [(.int (f_at (7 : Int32) v19 v296 v249 v56 (0 : Int32) (own_by (own_W ylaw_1 (own_n v3) (own_n v30) ms51_0) (own_n v19) (own_n v14) v56 7)))]))
          generalize hv549 : (f_at (7 : Int32) v19 v296 v249 v56 (0 : Int32) (own_by (own_W ylaw_1 (own_n v3) (own_n v30) ms51_0) (own_n v19) (own_n v14) v56 7)) = v549
          show Wq _ _ _ _ _ (T98.setTop (mkF m 552 #[.val (.long ylaw_1), .second, .val (.int xlaw_2), .val (.int xlaw_3), .val (.int xlaw_4), .val (.int xlaw_5), .val (.int xlaw_6), .val (.int v3), .val (.int v14), .val (.int v19), .val (.int v30), .val (.int ms51_0), .val (.int v56), .val (.ref b41), .val (.ref b64), .val (.int v150), .val (.int (1 : Int32)), .val (.long v190), .second, .val (.long v249), .second, .val (.int v236), .val (.int (0 : Int32)), .val (.int v296), .val (.int (1 : Int32))] [(.int v549)]))
          refine Ow.ifNo X98 hx (pc' := 555) (hb hby at_552) ((if0 _ _).trans (feq (own_at HB hv296 (Or.inl rfl) 7 (by decide) hv549 : ¬ (v549 = (0 : Int32)))).1) ?_
          refine Ow.iconst X98 hx (pc' := 556) (hb hby at_555) (z := (1 : Int32)) rfl ?_
          refine Ow.goto X98 hx (pc' := 560) (hb hby at_556) (by decide) (by decide) ?_
          refine Ow.istore X98 hx (pc' := 562) (hb hby at_560) (l' := #[.val (.long ylaw_1), .second, .val (.int xlaw_2), .val (.int xlaw_3), .val (.int xlaw_4), .val (.int xlaw_5), .val (.int xlaw_6), .val (.int v3), .val (.int v14), .val (.int v19), .val (.int v30), .val (.int ms51_0), .val (.int v56), .val (.ref b41), .val (.ref b64), .val (.int v150), .val (.int (1 : Int32)), .val (.long v190), .second, .val (.long v249), .second, .val (.int v236), .val (.int (0 : Int32)), .val (.int v296), .val (.int (1 : Int32))]) rfl ?_
          refine Ow.iload X98 hx (pc' := 564) (hb hby at_562) rfl ?_
          exact Wq.ret X98 (BodyLoose.notSynchronized Bd) (rv := some (.int (1 : Int32))) (fun h => by rw [Bd.returns] at h; cases h) (fun _ hr => retN X98 hx (t := .boolean) Bd.returns (by simp) (hb hby at_564) hr) (by decide) (by decide) ⟨rfl, N98⟩
      · skip
        refine Ow.icmpYes X73 hx (pc' := 176) (hb hby at_169) (flt hc169).2.1 (by decide) (by decide) ?_
        refine Ow.iconst X73 hx (pc' := 177) (hb hby at_176) (z := (0 : Int32)) rfl ?_
        refine Ow.istore X73 hx (pc' := 179) (hb hby at_177) (l' := #[.val (.long ylaw_1), .second, .val (.int xlaw_2), .val (.int xlaw_3), .val (.int xlaw_4), .val (.int xlaw_5), .val (.int xlaw_6), .val (.int v3), .val (.int v14), .val (.int v19), .val (.int v30), .val (.int ms51_0), .val (.int v56), .val (.ref b41), .val (.ref b64), .val (.int v150), .val (.int (0 : Int32)), .unset, .unset, .unset, .unset, .unset, .unset, .unset, .unset]) rfl ?_
        refine Ow.lloadN X73 hx (pc' := 180) (hb hby at_179) rfl ?_
        refine Ow.iload X73 hx (pc' := 182) (hb hby at_180) rfl ?_
        refine Ow.lushr X73 hx (pc' := 183) (hb hby at_182) (z := ((ylaw_1.toUInt64 >>> (v3 &&& 0x3f).toInt64.toUInt64).toInt64)) rfl ?_
        refine Ow.lconst X73 hx (pc' := 184) (hb hby at_183) (z := (1 : Int64)) rfl ?_
        refine Ow.iload X73 hx (pc' := 186) (hb hby at_184) rfl ?_
        refine Ow.lshl X73 hx (pc' := 187) (hb hby at_186) (z := ((1 : Int64) <<< (v14 &&& 0x3f).toInt64)) rfl ?_
        refine Ow.lconst X73 hx (pc' := 188) (hb hby at_187) (z := (1 : Int64)) rfl ?_
        refine Ow.lsub X73 hx (pc' := 189) (hb hby at_188) (z := (((1 : Int64) <<< (v14 &&& 0x3f).toInt64) - (1 : Int64))) rfl ?_
        refine Ow.land X73 hx (pc' := 190) (hb hby at_189) (z := (((ylaw_1.toUInt64 >>> (v3 &&& 0x3f).toInt64.toUInt64).toInt64) &&& (((1 : Int64) <<< (v14 &&& 0x3f).toInt64) - (1 : Int64)))) rfl ?_
        refine Ow.lstore X73 hx (pc' := 192) (hb hby at_190) (l' := #[.val (.long ylaw_1), .second, .val (.int xlaw_2), .val (.int xlaw_3), .val (.int xlaw_4), .val (.int xlaw_5), .val (.int xlaw_6), .val (.int v3), .val (.int v14), .val (.int v19), .val (.int v30), .val (.int ms51_0), .val (.int v56), .val (.ref b41), .val (.ref b64), .val (.int v150), .val (.int (0 : Int32)), .val (.long (((ylaw_1.toUInt64 >>> (v3 &&& 0x3f).toInt64.toUInt64).toInt64) &&& (((1 : Int64) <<< (v14 &&& 0x3f).toInt64) - (1 : Int64)))), .second, .unset, .unset, .unset, .unset, .unset, .unset]) rfl ?_
        generalize hv190 : (((ylaw_1.toUInt64 >>> (v3 &&& 0x3f).toInt64.toUInt64).toInt64) &&& (((1 : Int64) <<< (v14 &&& 0x3f).toInt64) - (1 : Int64))) = v190
        refine Ow.lload X73 hx (pc' := 194) (hb hby at_192) rfl ?_
        refine Ow.lstore X73 hx (pc' := 196) (hb hby at_194) (l' := #[.val (.long ylaw_1), .second, .val (.int xlaw_2), .val (.int xlaw_3), .val (.int xlaw_4), .val (.int xlaw_5), .val (.int xlaw_6), .val (.int v3), .val (.int v14), .val (.int v19), .val (.int v30), .val (.int ms51_0), .val (.int v56), .val (.ref b41), .val (.ref b64), .val (.int v150), .val (.int (0 : Int32)), .val (.long v190), .second, .val (.long v190), .second, .unset, .unset, .unset, .unset]) rfl ?_
        refine Ow.iload X73 hx (pc' := 198) (hb hby at_196) rfl ?_
        refine Ow.ifYes X73 hx (pc' := 254) (hb hby at_198) ((if0 _ _).trans (teq (by decide : (0 : Int32) = (0 : Int32))).1) (by decide) (by decide) ?_
        refine Ow.lload X73 hx (pc' := 256) (hb hby at_254) rfl ?_
        refine Ow.lconst X73 hx (pc' := 257) (hb hby at_256) (z := (0 : Int64)) rfl ?_
        refine Ow.lcmp X73 hx (pc' := 258) (hb hby at_257)  ?_
        refine Wq.by (U' := T73.setTop (mkF m 266 #[.val (.long ylaw_1), .second, .val (.int xlaw_2), .val (.int xlaw_3), .val (.int xlaw_4), .val (.int xlaw_5), .val (.int xlaw_6), .val (.int v3), .val (.int v14), .val (.int v19), .val (.int v30), .val (.int ms51_0), .val (.int v56), .val (.ref b41), .val (.ref b64), .val (.int v150), .val (.int (0 : Int32)), .val (.long v190), .second, .val (.long v190), .second, .unset, .unset, .unset, .unset] [(.int (if v190 = (0 : Int64) then (0 : Int32) else (1 : Int32)))])) (fun k => ?_) ?_
        · skip
          by_cases hm258 : v190 = (0 : Int64)
          · skip
            refine Ow.ifYes X73 hx (pc' := 265) (hb hby at_258) ((if0 _ _).trans (teq ((lw_eq _ _).mpr hm258)).1) (by decide) (by decide) ?_
            refine Ow.iconst X73 hx (pc' := 266) (hb hby at_265) (z := (0 : Int32)) rfl ?_
            simp only [if_pos hm258] at k
            exact k
          · skip
            refine Ow.ifNo X73 hx (pc' := 261) (hb hby at_258) ((if0 _ _).trans (feq (mt (lw_eq _ _).mp hm258)).1) ?_
            refine Ow.iconst X73 hx (pc' := 262) (hb hby at_261) (z := (1 : Int32)) rfl ?_
            refine Ow.goto X73 hx (pc' := 266) (hb hby at_262) (by decide) (by decide) ?_
            simp only [if_neg hm258] at k
            exact k
        show Wq _ _ _ _ _ (T73.setTop (mkF m 266 #[.val (.long ylaw_1), .second, .val (.int xlaw_2), .val (.int xlaw_3), .val (.int xlaw_4), .val (.int xlaw_5), .val (.int xlaw_6), .val (.int v3), .val (.int v14), .val (.int v19), .val (.int v30), .val (.int ms51_0), .val (.int v56), .val (.ref b41), .val (.ref b64), .val (.int v150), .val (.int (0 : Int32)), .val (.long v190), .second, .val (.long v190), .second, .unset, .unset, .unset, .unset] [(.int (if v190 = (0 : Int64) then (0 : Int32) else (1 : Int32)))]))
        generalize hms266_0 : (if v190 = (0 : Int64) then (0 : Int32) else (1 : Int32)) = ms266_0
        refine Ow.istore X73 hx (pc' := 268) (hb hby at_266) (l' := #[.val (.long ylaw_1), .second, .val (.int xlaw_2), .val (.int xlaw_3), .val (.int xlaw_4), .val (.int xlaw_5), .val (.int xlaw_6), .val (.int v3), .val (.int v14), .val (.int v19), .val (.int v30), .val (.int ms51_0), .val (.int v56), .val (.ref b41), .val (.ref b64), .val (.int v150), .val (.int (0 : Int32)), .val (.long v190), .second, .val (.long v190), .second, .val (.int ms266_0), .unset, .unset, .unset]) rfl ?_
        refine Ow.iload X73 hx (pc' := 270) (hb hby at_268) rfl ?_
        refine Ow.ifYes X73 hx (pc' := 281) (hb hby at_270) ((if0 _ _).trans (teq (by decide : (0 : Int32) = (0 : Int32))).1) (by decide) (by decide) ?_
        refine Ow.iconst X73 hx (pc' := 282) (hb hby at_281) (z := (1 : Int32)) rfl ?_
        refine Ow.goto X73 hx (pc' := 286) (hb hby at_282) (by decide) (by decide) ?_
        refine Ow.istore X73 hx (pc' := 288) (hb hby at_286) (l' := #[.val (.long ylaw_1), .second, .val (.int xlaw_2), .val (.int xlaw_3), .val (.int xlaw_4), .val (.int xlaw_5), .val (.int xlaw_6), .val (.int v3), .val (.int v14), .val (.int v19), .val (.int v30), .val (.int ms51_0), .val (.int v56), .val (.ref b41), .val (.ref b64), .val (.int v150), .val (.int (0 : Int32)), .val (.long v190), .second, .val (.long v190), .second, .val (.int ms266_0), .val (.int (1 : Int32)), .unset, .unset]) rfl ?_
        refine Ow.iload X73 hx (pc' := 290) (hb hby at_288) rfl ?_
        refine Ow.bipush X73 hx (pc' := 292) (hb hby at_290) (z := (7 : Int32)) rfl ?_
        refine Ow.iadd X73 hx (pc' := 293) (hb hby at_292) (z := (v14 + (7 : Int32))) rfl ?_
        refine Ow.bipush X73 hx (pc' := 295) (hb hby at_293) (z := (8 : Int32)) rfl ?_
        refine Ow.idiv X73 hx (pc' := 296) (hb hby at_295) (by decide : (8 : Int32) ≠ (0 : Int32)) (z := ((v14 + (7 : Int32)) / (8 : Int32))) rfl ?_
        refine Ow.istore X73 hx (pc' := 298) (hb hby at_296) (l' := #[.val (.long ylaw_1), .second, .val (.int xlaw_2), .val (.int xlaw_3), .val (.int xlaw_4), .val (.int xlaw_5), .val (.int xlaw_6), .val (.int v3), .val (.int v14), .val (.int v19), .val (.int v30), .val (.int ms51_0), .val (.int v56), .val (.ref b41), .val (.ref b64), .val (.int v150), .val (.int (0 : Int32)), .val (.long v190), .second, .val (.long v190), .second, .val (.int ms266_0), .val (.int (1 : Int32)), .val (.int ((v14 + (7 : Int32)) / (8 : Int32))), .unset]) rfl ?_
        generalize hv296 : ((v14 + (7 : Int32)) / (8 : Int32)) = v296
        have HO : v150 = ms266_0 := own_orO HB HQ (own_oc HB) (Or.inr hc169) hv150 hv190 hms266_0
        have HI := own_insO (w := ms51_0) HB HQ (own_oc HB) (Or.inr hc169) hv190
        refine Ow.iload X73 hx (pc' := 300) (hb hby at_298) rfl ?_
        refine Ow.iload X73 hx (pc' := 302) (hb hby at_300) rfl ?_
        refine Ow.icmpNo X73 hx (pc' := 305) (hb hby at_302) (teq (HO : v150 = ms266_0)).2 ?_
        refine Ow.iconst X73 hx (pc' := 306) (hb hby at_305) (z := (1 : Int32)) rfl ?_
        refine Ow.goto X73 hx (pc' := 310) (hb hby at_306) (by decide) (by decide) ?_
        refine Ow.istore X73 hx (pc' := 312) (hb hby at_310) (l' := #[.val (.long ylaw_1), .second, .val (.int xlaw_2), .val (.int xlaw_3), .val (.int xlaw_4), .val (.int xlaw_5), .val (.int xlaw_6), .val (.int v3), .val (.int v14), .val (.int v19), .val (.int v30), .val (.int ms51_0), .val (.int v56), .val (.ref b41), .val (.ref b64), .val (.int v150), .val (.int (0 : Int32)), .val (.long v190), .second, .val (.long v190), .second, .val (.int ms266_0), .val (.int (1 : Int32)), .val (.int v296), .val (.int (1 : Int32))]) rfl ?_
        refine Ow.iload X73 hx (pc' := 314) (hb hby at_312) rfl ?_
        refine Ow.ifNo X73 hx (pc' := 317) (hb hby at_314) ((if0 _ _).trans (feq (by decide : ¬ ((1 : Int32) = (0 : Int32)))).1) ?_
        refine Ow.aload X73 hx (pc' := 319) (hb hby at_317) rfl rfl ?_
        refine Ow.iconst X73 hx (pc' := 320) (hb hby at_319) (z := (0 : Int32)) rfl ?_
        refine Ow.iload X73 hx (pc' := 322) (hb hby at_320) rfl ?_
        refine Ow.iload X73 hx (pc' := 324) (hb hby at_322) rfl ?_
        refine Ow.lload X73 hx (pc' := 326) (hb hby at_324) rfl ?_
        refine Ow.iload X73 hx (pc' := 328) (hb hby at_326) rfl ?_
        refine Ow.iload X73 hx (pc' := 330) (hb hby at_328) rfl ?_
        obtain ⟨_, _, ⟨T99, L99, k99, n99⟩, -, X99, ⟨Lc99, hQ99, l99, y99, z99⟩, st99⟩ := Jvm.LawKit.callS X73 hx (y := mt2) hown (mvT hZ (kw10 hw)) (mvT hZ (kw11 hw)) (mvT hZ (kw3 hw)) (mvT hZ (kw12 hw)) (by decide) (backOf (W := 0) (rm_at l Z a0 hw [] b64 (0 : Int32) v19 v296 v190 v56 (1 : Int32) q74 (own_by (own_W ylaw_1 (own_n v3) (own_n v30) ms51_0) (own_n v19) (own_n v14) v56 0) T73.heap n0 Z73 (by decide) (by rw [hq74]; exact own_get HB v56 0 (by decide) (by decide)) P73_0) hZ (kw12 hw) (kw3 hw) (by decide) (by decide)) (g := (mkF m 330 #[.val (.long ylaw_1), .second, .val (.int xlaw_2), .val (.int xlaw_3), .val (.int xlaw_4), .val (.int xlaw_5), .val (.int xlaw_6), .val (.int v3), .val (.int v14), .val (.int v19), .val (.int v30), .val (.int ms51_0), .val (.int v56), .val (.ref b41), .val (.ref b64), .val (.int v150), .val (.int (0 : Int32)), .val (.long v190), .second, .val (.long v190), .second, .val (.int ms266_0), .val (.int (1 : Int32)), .val (.int v296), .val (.int (1 : Int32))] [(.int (1 : Int32)), (.int v56), (.long v190), (.int v296), (.int v19), (.int (0 : Int32)), (.ref b64)])) rfl (by rw [hml]; rfl) (argsL := [(.ref b64), (.int (0 : Int32)), (.int v19), (.int v296), (.long v190), (.int v56), (.int (1 : Int32))]) (rest := []) (lenOf pd3 rfl) rfl (by show 2 * 0 + _ ≤ _; exact Nat.le_of_eq rfl) (hb hby at_330) (fun _ _ => ⟨rfl, e73, (by decide : 2 + 0 ≤ _), (by decide : 28 + 0 ≤ _)⟩)
        dsimp only [Pt.U, Pt.locs, Pt.cells, Pt.slots] at X99 l99 y99 z99 st99 hQ99
        subst l99 y99 z99
        obtain ⟨rfl, Nq99, e99⟩ := hQ99
        have N99 := Fr.app N73 Nq99
        refine Wq.step st99 ?_
        show Wq _ _ _ _ _ (T99.setTop (mkF m 333 #[.val (.long ylaw_1), .second, .val (.int xlaw_2), .val (.int xlaw_3), .val (.int xlaw_4), .val (.int xlaw_5), .val (.int xlaw_6), .val (.int v3), .val (.int v14), .val (.int v19), .val (.int v30), .val (.int ms51_0), .val (.int v56), .val (.ref b41), .val (.ref b64), .val (.int v150), .val (.int (0 : Int32)), .val (.long v190), .second, .val (.long v190), .second, .val (.int ms266_0), .val (.int (1 : Int32)), .val (.int v296), .val (.int (1 : Int32))] [(.int (f_at (0 : Int32) v19 v296 v190 v56 (1 : Int32) (own_by (own_W ylaw_1 (own_n v3) (own_n v30) ms51_0) (own_n v19) (own_n v14) v56 0)))]))
        generalize hv330 : (f_at (0 : Int32) v19 v296 v190 v56 (1 : Int32) (own_by (own_W ylaw_1 (own_n v3) (own_n v30) ms51_0) (own_n v19) (own_n v14) v56 0)) = v330
        show Wq _ _ _ _ _ (T99.setTop (mkF m 333 #[.val (.long ylaw_1), .second, .val (.int xlaw_2), .val (.int xlaw_3), .val (.int xlaw_4), .val (.int xlaw_5), .val (.int xlaw_6), .val (.int v3), .val (.int v14), .val (.int v19), .val (.int v30), .val (.int ms51_0), .val (.int v56), .val (.ref b41), .val (.ref b64), .val (.int v150), .val (.int (0 : Int32)), .val (.long v190), .second, .val (.long v190), .second, .val (.int ms266_0), .val (.int (1 : Int32)), .val (.int v296), .val (.int (1 : Int32))] [(.int v330)]))
        refine Ow.ifNo X99 hx (pc' := 336) (hb hby at_333) ((if0 _ _).trans (feq (own_at HB hv296 (Or.inr HI) 0 (by decide) hv330 : ¬ (v330 = (0 : Int32)))).1) ?_
        refine Ow.iconst X99 hx (pc' := 337) (hb hby at_336) (z := (1 : Int32)) rfl ?_
        refine Ow.goto X99 hx (pc' := 341) (hb hby at_337) (by decide) (by decide) ?_
        refine Ow.istore X99 hx (pc' := 343) (hb hby at_341) (l' := #[.val (.long ylaw_1), .second, .val (.int xlaw_2), .val (.int xlaw_3), .val (.int xlaw_4), .val (.int xlaw_5), .val (.int xlaw_6), .val (.int v3), .val (.int v14), .val (.int v19), .val (.int v30), .val (.int ms51_0), .val (.int v56), .val (.ref b41), .val (.ref b64), .val (.int v150), .val (.int (0 : Int32)), .val (.long v190), .second, .val (.long v190), .second, .val (.int ms266_0), .val (.int (1 : Int32)), .val (.int v296), .val (.int (1 : Int32))]) rfl ?_
        refine Ow.iload X99 hx (pc' := 345) (hb hby at_343) rfl ?_
        refine Ow.ifNo X99 hx (pc' := 348) (hb hby at_345) ((if0 _ _).trans (feq (by decide : ¬ ((1 : Int32) = (0 : Int32)))).1) ?_
        refine Ow.aload X99 hx (pc' := 350) (hb hby at_348) rfl rfl ?_
        refine Ow.iconst X99 hx (pc' := 351) (hb hby at_350) (z := (1 : Int32)) rfl ?_
        refine Ow.iload X99 hx (pc' := 353) (hb hby at_351) rfl ?_
        refine Ow.iload X99 hx (pc' := 355) (hb hby at_353) rfl ?_
        refine Ow.lload X99 hx (pc' := 357) (hb hby at_355) rfl ?_
        refine Ow.iload X99 hx (pc' := 359) (hb hby at_357) rfl ?_
        refine Ow.iload X99 hx (pc' := 361) (hb hby at_359) rfl ?_
        obtain ⟨_, _, ⟨T100, L100, k100, n100⟩, -, X100, ⟨Lc100, hQ100, l100, y100, z100⟩, st100⟩ := Jvm.LawKit.callS X99 hx (y := mt2) hown (mvT hZ (kw10 hw)) (mvT hZ (kw11 hw)) (mvT hZ (kw3 hw)) (mvT hZ (kw12 hw)) (by decide) (backOf (W := 0) (rm_at l Z a0 hw [] b64 (1 : Int32) v19 v296 v190 v56 (1 : Int32) q74 (own_by (own_W ylaw_1 (own_n v3) (own_n v30) ms51_0) (own_n v19) (own_n v14) v56 1) T73.heap n0 Z73 (by decide) (by rw [hq74]; exact own_get HB v56 1 (by decide) (by decide)) P73_0) hZ (kw12 hw) (kw3 hw) (by decide) (by decide)) (g := (mkF m 361 #[.val (.long ylaw_1), .second, .val (.int xlaw_2), .val (.int xlaw_3), .val (.int xlaw_4), .val (.int xlaw_5), .val (.int xlaw_6), .val (.int v3), .val (.int v14), .val (.int v19), .val (.int v30), .val (.int ms51_0), .val (.int v56), .val (.ref b41), .val (.ref b64), .val (.int v150), .val (.int (0 : Int32)), .val (.long v190), .second, .val (.long v190), .second, .val (.int ms266_0), .val (.int (1 : Int32)), .val (.int v296), .val (.int (1 : Int32))] [(.int (1 : Int32)), (.int v56), (.long v190), (.int v296), (.int v19), (.int (1 : Int32)), (.ref b64)])) rfl (by rw [hml]; rfl) (argsL := [(.ref b64), (.int (1 : Int32)), (.int v19), (.int v296), (.long v190), (.int v56), (.int (1 : Int32))]) (rest := []) (lenOf pd3 rfl) rfl (by show 2 * 0 + _ ≤ _; exact Nat.le_of_eq rfl) (hb hby at_361) (fun _ _ => ⟨rfl, e99, (by decide : 2 + 0 ≤ _), (by decide : 28 + 0 ≤ _)⟩)
        dsimp only [Pt.U, Pt.locs, Pt.cells, Pt.slots] at X100 l100 y100 z100 st100 hQ100
        subst l100 y100 z100
        obtain ⟨rfl, Nq100, e100⟩ := hQ100
        have N100 := Fr.app N99 Nq100
        refine Wq.step st100 ?_
        show Wq _ _ _ _ _ (T100.setTop (mkF m 364 #[.val (.long ylaw_1), .second, .val (.int xlaw_2), .val (.int xlaw_3), .val (.int xlaw_4), .val (.int xlaw_5), .val (.int xlaw_6), .val (.int v3), .val (.int v14), .val (.int v19), .val (.int v30), .val (.int ms51_0), .val (.int v56), .val (.ref b41), .val (.ref b64), .val (.int v150), .val (.int (0 : Int32)), .val (.long v190), .second, .val (.long v190), .second, .val (.int ms266_0), .val (.int (1 : Int32)), .val (.int v296), .val (.int (1 : Int32))] [(.int (f_at (1 : Int32) v19 v296 v190 v56 (1 : Int32) (own_by (own_W ylaw_1 (own_n v3) (own_n v30) ms51_0) (own_n v19) (own_n v14) v56 1)))]))
        generalize hv361 : (f_at (1 : Int32) v19 v296 v190 v56 (1 : Int32) (own_by (own_W ylaw_1 (own_n v3) (own_n v30) ms51_0) (own_n v19) (own_n v14) v56 1)) = v361
        show Wq _ _ _ _ _ (T100.setTop (mkF m 364 #[.val (.long ylaw_1), .second, .val (.int xlaw_2), .val (.int xlaw_3), .val (.int xlaw_4), .val (.int xlaw_5), .val (.int xlaw_6), .val (.int v3), .val (.int v14), .val (.int v19), .val (.int v30), .val (.int ms51_0), .val (.int v56), .val (.ref b41), .val (.ref b64), .val (.int v150), .val (.int (0 : Int32)), .val (.long v190), .second, .val (.long v190), .second, .val (.int ms266_0), .val (.int (1 : Int32)), .val (.int v296), .val (.int (1 : Int32))] [(.int v361)]))
        refine Ow.ifNo X100 hx (pc' := 367) (hb hby at_364) ((if0 _ _).trans (feq (own_at HB hv296 (Or.inr HI) 1 (by decide) hv361 : ¬ (v361 = (0 : Int32)))).1) ?_
        refine Ow.iconst X100 hx (pc' := 368) (hb hby at_367) (z := (1 : Int32)) rfl ?_
        refine Ow.goto X100 hx (pc' := 372) (hb hby at_368) (by decide) (by decide) ?_
        refine Ow.istore X100 hx (pc' := 374) (hb hby at_372) (l' := #[.val (.long ylaw_1), .second, .val (.int xlaw_2), .val (.int xlaw_3), .val (.int xlaw_4), .val (.int xlaw_5), .val (.int xlaw_6), .val (.int v3), .val (.int v14), .val (.int v19), .val (.int v30), .val (.int ms51_0), .val (.int v56), .val (.ref b41), .val (.ref b64), .val (.int v150), .val (.int (0 : Int32)), .val (.long v190), .second, .val (.long v190), .second, .val (.int ms266_0), .val (.int (1 : Int32)), .val (.int v296), .val (.int (1 : Int32))]) rfl ?_
        refine Ow.iload X100 hx (pc' := 376) (hb hby at_374) rfl ?_
        refine Ow.ifNo X100 hx (pc' := 379) (hb hby at_376) ((if0 _ _).trans (feq (by decide : ¬ ((1 : Int32) = (0 : Int32)))).1) ?_
        refine Ow.aload X100 hx (pc' := 381) (hb hby at_379) rfl rfl ?_
        refine Ow.iconst X100 hx (pc' := 382) (hb hby at_381) (z := (2 : Int32)) rfl ?_
        refine Ow.iload X100 hx (pc' := 384) (hb hby at_382) rfl ?_
        refine Ow.iload X100 hx (pc' := 386) (hb hby at_384) rfl ?_
        refine Ow.lload X100 hx (pc' := 388) (hb hby at_386) rfl ?_
        refine Ow.iload X100 hx (pc' := 390) (hb hby at_388) rfl ?_
        refine Ow.iload X100 hx (pc' := 392) (hb hby at_390) rfl ?_
        obtain ⟨_, _, ⟨T101, L101, k101, n101⟩, -, X101, ⟨Lc101, hQ101, l101, y101, z101⟩, st101⟩ := Jvm.LawKit.callS X100 hx (y := mt2) hown (mvT hZ (kw10 hw)) (mvT hZ (kw11 hw)) (mvT hZ (kw3 hw)) (mvT hZ (kw12 hw)) (by decide) (backOf (W := 0) (rm_at l Z a0 hw [] b64 (2 : Int32) v19 v296 v190 v56 (1 : Int32) q74 (own_by (own_W ylaw_1 (own_n v3) (own_n v30) ms51_0) (own_n v19) (own_n v14) v56 2) T73.heap n0 Z73 (by decide) (by rw [hq74]; exact own_get HB v56 2 (by decide) (by decide)) P73_0) hZ (kw12 hw) (kw3 hw) (by decide) (by decide)) (g := (mkF m 392 #[.val (.long ylaw_1), .second, .val (.int xlaw_2), .val (.int xlaw_3), .val (.int xlaw_4), .val (.int xlaw_5), .val (.int xlaw_6), .val (.int v3), .val (.int v14), .val (.int v19), .val (.int v30), .val (.int ms51_0), .val (.int v56), .val (.ref b41), .val (.ref b64), .val (.int v150), .val (.int (0 : Int32)), .val (.long v190), .second, .val (.long v190), .second, .val (.int ms266_0), .val (.int (1 : Int32)), .val (.int v296), .val (.int (1 : Int32))] [(.int (1 : Int32)), (.int v56), (.long v190), (.int v296), (.int v19), (.int (2 : Int32)), (.ref b64)])) rfl (by rw [hml]; rfl) (argsL := [(.ref b64), (.int (2 : Int32)), (.int v19), (.int v296), (.long v190), (.int v56), (.int (1 : Int32))]) (rest := []) (lenOf pd3 rfl) rfl (by show 2 * 0 + _ ≤ _; exact Nat.le_of_eq rfl) (hb hby at_392) (fun _ _ => ⟨rfl, e100, (by decide : 2 + 0 ≤ _), (by decide : 28 + 0 ≤ _)⟩)
        dsimp only [Pt.U, Pt.locs, Pt.cells, Pt.slots] at X101 l101 y101 z101 st101 hQ101
        subst l101 y101 z101
        obtain ⟨rfl, Nq101, e101⟩ := hQ101
        have N101 := Fr.app N100 Nq101
        refine Wq.step st101 ?_
        show Wq _ _ _ _ _ (T101.setTop (mkF m 395 #[.val (.long ylaw_1), .second, .val (.int xlaw_2), .val (.int xlaw_3), .val (.int xlaw_4), .val (.int xlaw_5), .val (.int xlaw_6), .val (.int v3), .val (.int v14), .val (.int v19), .val (.int v30), .val (.int ms51_0), .val (.int v56), .val (.ref b41), .val (.ref b64), .val (.int v150), .val (.int (0 : Int32)), .val (.long v190), .second, .val (.long v190), .second, .val (.int ms266_0), .val (.int (1 : Int32)), .val (.int v296), .val (.int (1 : Int32))] [(.int (f_at (2 : Int32) v19 v296 v190 v56 (1 : Int32) (own_by (own_W ylaw_1 (own_n v3) (own_n v30) ms51_0) (own_n v19) (own_n v14) v56 2)))]))
        generalize hv392 : (f_at (2 : Int32) v19 v296 v190 v56 (1 : Int32) (own_by (own_W ylaw_1 (own_n v3) (own_n v30) ms51_0) (own_n v19) (own_n v14) v56 2)) = v392
        show Wq _ _ _ _ _ (T101.setTop (mkF m 395 #[.val (.long ylaw_1), .second, .val (.int xlaw_2), .val (.int xlaw_3), .val (.int xlaw_4), .val (.int xlaw_5), .val (.int xlaw_6), .val (.int v3), .val (.int v14), .val (.int v19), .val (.int v30), .val (.int ms51_0), .val (.int v56), .val (.ref b41), .val (.ref b64), .val (.int v150), .val (.int (0 : Int32)), .val (.long v190), .second, .val (.long v190), .second, .val (.int ms266_0), .val (.int (1 : Int32)), .val (.int v296), .val (.int (1 : Int32))] [(.int v392)]))
        refine Ow.ifNo X101 hx (pc' := 398) (hb hby at_395) ((if0 _ _).trans (feq (own_at HB hv296 (Or.inr HI) 2 (by decide) hv392 : ¬ (v392 = (0 : Int32)))).1) ?_
        refine Ow.iconst X101 hx (pc' := 399) (hb hby at_398) (z := (1 : Int32)) rfl ?_
        refine Ow.goto X101 hx (pc' := 403) (hb hby at_399) (by decide) (by decide) ?_
        refine Ow.istore X101 hx (pc' := 405) (hb hby at_403) (l' := #[.val (.long ylaw_1), .second, .val (.int xlaw_2), .val (.int xlaw_3), .val (.int xlaw_4), .val (.int xlaw_5), .val (.int xlaw_6), .val (.int v3), .val (.int v14), .val (.int v19), .val (.int v30), .val (.int ms51_0), .val (.int v56), .val (.ref b41), .val (.ref b64), .val (.int v150), .val (.int (0 : Int32)), .val (.long v190), .second, .val (.long v190), .second, .val (.int ms266_0), .val (.int (1 : Int32)), .val (.int v296), .val (.int (1 : Int32))]) rfl ?_
        refine Ow.iload X101 hx (pc' := 407) (hb hby at_405) rfl ?_
        refine Ow.ifNo X101 hx (pc' := 410) (hb hby at_407) ((if0 _ _).trans (feq (by decide : ¬ ((1 : Int32) = (0 : Int32)))).1) ?_
        refine Ow.aload X101 hx (pc' := 412) (hb hby at_410) rfl rfl ?_
        refine Ow.iconst X101 hx (pc' := 413) (hb hby at_412) (z := (3 : Int32)) rfl ?_
        refine Ow.iload X101 hx (pc' := 415) (hb hby at_413) rfl ?_
        refine Ow.iload X101 hx (pc' := 417) (hb hby at_415) rfl ?_
        refine Ow.lload X101 hx (pc' := 419) (hb hby at_417) rfl ?_
        refine Ow.iload X101 hx (pc' := 421) (hb hby at_419) rfl ?_
        refine Ow.iload X101 hx (pc' := 423) (hb hby at_421) rfl ?_
        obtain ⟨_, _, ⟨T102, L102, k102, n102⟩, -, X102, ⟨Lc102, hQ102, l102, y102, z102⟩, st102⟩ := Jvm.LawKit.callS X101 hx (y := mt2) hown (mvT hZ (kw10 hw)) (mvT hZ (kw11 hw)) (mvT hZ (kw3 hw)) (mvT hZ (kw12 hw)) (by decide) (backOf (W := 0) (rm_at l Z a0 hw [] b64 (3 : Int32) v19 v296 v190 v56 (1 : Int32) q74 (own_by (own_W ylaw_1 (own_n v3) (own_n v30) ms51_0) (own_n v19) (own_n v14) v56 3) T73.heap n0 Z73 (by decide) (by rw [hq74]; exact own_get HB v56 3 (by decide) (by decide)) P73_0) hZ (kw12 hw) (kw3 hw) (by decide) (by decide)) (g := (mkF m 423 #[.val (.long ylaw_1), .second, .val (.int xlaw_2), .val (.int xlaw_3), .val (.int xlaw_4), .val (.int xlaw_5), .val (.int xlaw_6), .val (.int v3), .val (.int v14), .val (.int v19), .val (.int v30), .val (.int ms51_0), .val (.int v56), .val (.ref b41), .val (.ref b64), .val (.int v150), .val (.int (0 : Int32)), .val (.long v190), .second, .val (.long v190), .second, .val (.int ms266_0), .val (.int (1 : Int32)), .val (.int v296), .val (.int (1 : Int32))] [(.int (1 : Int32)), (.int v56), (.long v190), (.int v296), (.int v19), (.int (3 : Int32)), (.ref b64)])) rfl (by rw [hml]; rfl) (argsL := [(.ref b64), (.int (3 : Int32)), (.int v19), (.int v296), (.long v190), (.int v56), (.int (1 : Int32))]) (rest := []) (lenOf pd3 rfl) rfl (by show 2 * 0 + _ ≤ _; exact Nat.le_of_eq rfl) (hb hby at_423) (fun _ _ => ⟨rfl, e101, (by decide : 2 + 0 ≤ _), (by decide : 28 + 0 ≤ _)⟩)
        dsimp only [Pt.U, Pt.locs, Pt.cells, Pt.slots] at X102 l102 y102 z102 st102 hQ102
        subst l102 y102 z102
        obtain ⟨rfl, Nq102, e102⟩ := hQ102
        have N102 := Fr.app N101 Nq102
        refine Wq.step st102 ?_
        show Wq _ _ _ _ _ (T102.setTop (mkF m 426 #[.val (.long ylaw_1), .second, .val (.int xlaw_2), .val (.int xlaw_3), .val (.int xlaw_4), .val (.int xlaw_5), .val (.int xlaw_6), .val (.int v3), .val (.int v14), .val (.int v19), .val (.int v30), .val (.int ms51_0), .val (.int v56), .val (.ref b41), .val (.ref b64), .val (.int v150), .val (.int (0 : Int32)), .val (.long v190), .second, .val (.long v190), .second, .val (.int ms266_0), .val (.int (1 : Int32)), .val (.int v296), .val (.int (1 : Int32))] [(.int (f_at (3 : Int32) v19 v296 v190 v56 (1 : Int32) (own_by (own_W ylaw_1 (own_n v3) (own_n v30) ms51_0) (own_n v19) (own_n v14) v56 3)))]))
        generalize hv423 : (f_at (3 : Int32) v19 v296 v190 v56 (1 : Int32) (own_by (own_W ylaw_1 (own_n v3) (own_n v30) ms51_0) (own_n v19) (own_n v14) v56 3)) = v423
        show Wq _ _ _ _ _ (T102.setTop (mkF m 426 #[.val (.long ylaw_1), .second, .val (.int xlaw_2), .val (.int xlaw_3), .val (.int xlaw_4), .val (.int xlaw_5), .val (.int xlaw_6), .val (.int v3), .val (.int v14), .val (.int v19), .val (.int v30), .val (.int ms51_0), .val (.int v56), .val (.ref b41), .val (.ref b64), .val (.int v150), .val (.int (0 : Int32)), .val (.long v190), .second, .val (.long v190), .second, .val (.int ms266_0), .val (.int (1 : Int32)), .val (.int v296), .val (.int (1 : Int32))] [(.int v423)]))
        refine Ow.ifNo X102 hx (pc' := 429) (hb hby at_426) ((if0 _ _).trans (feq (own_at HB hv296 (Or.inr HI) 3 (by decide) hv423 : ¬ (v423 = (0 : Int32)))).1) ?_
        refine Ow.iconst X102 hx (pc' := 430) (hb hby at_429) (z := (1 : Int32)) rfl ?_
        refine Ow.goto X102 hx (pc' := 434) (hb hby at_430) (by decide) (by decide) ?_
        refine Ow.istore X102 hx (pc' := 436) (hb hby at_434) (l' := #[.val (.long ylaw_1), .second, .val (.int xlaw_2), .val (.int xlaw_3), .val (.int xlaw_4), .val (.int xlaw_5), .val (.int xlaw_6), .val (.int v3), .val (.int v14), .val (.int v19), .val (.int v30), .val (.int ms51_0), .val (.int v56), .val (.ref b41), .val (.ref b64), .val (.int v150), .val (.int (0 : Int32)), .val (.long v190), .second, .val (.long v190), .second, .val (.int ms266_0), .val (.int (1 : Int32)), .val (.int v296), .val (.int (1 : Int32))]) rfl ?_
        refine Ow.iload X102 hx (pc' := 438) (hb hby at_436) rfl ?_
        refine Ow.ifNo X102 hx (pc' := 441) (hb hby at_438) ((if0 _ _).trans (feq (by decide : ¬ ((1 : Int32) = (0 : Int32)))).1) ?_
        refine Ow.aload X102 hx (pc' := 443) (hb hby at_441) rfl rfl ?_
        refine Ow.iconst X102 hx (pc' := 444) (hb hby at_443) (z := (4 : Int32)) rfl ?_
        refine Ow.iload X102 hx (pc' := 446) (hb hby at_444) rfl ?_
        refine Ow.iload X102 hx (pc' := 448) (hb hby at_446) rfl ?_
        refine Ow.lload X102 hx (pc' := 450) (hb hby at_448) rfl ?_
        refine Ow.iload X102 hx (pc' := 452) (hb hby at_450) rfl ?_
        refine Ow.iload X102 hx (pc' := 454) (hb hby at_452) rfl ?_
        obtain ⟨_, _, ⟨T103, L103, k103, n103⟩, -, X103, ⟨Lc103, hQ103, l103, y103, z103⟩, st103⟩ := Jvm.LawKit.callS X102 hx (y := mt2) hown (mvT hZ (kw10 hw)) (mvT hZ (kw11 hw)) (mvT hZ (kw3 hw)) (mvT hZ (kw12 hw)) (by decide) (backOf (W := 0) (rm_at l Z a0 hw [] b64 (4 : Int32) v19 v296 v190 v56 (1 : Int32) q74 (own_by (own_W ylaw_1 (own_n v3) (own_n v30) ms51_0) (own_n v19) (own_n v14) v56 4) T73.heap n0 Z73 (by decide) (by rw [hq74]; exact own_get HB v56 4 (by decide) (by decide)) P73_0) hZ (kw12 hw) (kw3 hw) (by decide) (by decide)) (g := (mkF m 454 #[.val (.long ylaw_1), .second, .val (.int xlaw_2), .val (.int xlaw_3), .val (.int xlaw_4), .val (.int xlaw_5), .val (.int xlaw_6), .val (.int v3), .val (.int v14), .val (.int v19), .val (.int v30), .val (.int ms51_0), .val (.int v56), .val (.ref b41), .val (.ref b64), .val (.int v150), .val (.int (0 : Int32)), .val (.long v190), .second, .val (.long v190), .second, .val (.int ms266_0), .val (.int (1 : Int32)), .val (.int v296), .val (.int (1 : Int32))] [(.int (1 : Int32)), (.int v56), (.long v190), (.int v296), (.int v19), (.int (4 : Int32)), (.ref b64)])) rfl (by rw [hml]; rfl) (argsL := [(.ref b64), (.int (4 : Int32)), (.int v19), (.int v296), (.long v190), (.int v56), (.int (1 : Int32))]) (rest := []) (lenOf pd3 rfl) rfl (by show 2 * 0 + _ ≤ _; exact Nat.le_of_eq rfl) (hb hby at_454) (fun _ _ => ⟨rfl, e102, (by decide : 2 + 0 ≤ _), (by decide : 28 + 0 ≤ _)⟩)
        dsimp only [Pt.U, Pt.locs, Pt.cells, Pt.slots] at X103 l103 y103 z103 st103 hQ103
        subst l103 y103 z103
        obtain ⟨rfl, Nq103, e103⟩ := hQ103
        have N103 := Fr.app N102 Nq103
        refine Wq.step st103 ?_
        show Wq _ _ _ _ _ (T103.setTop (mkF m 457 #[.val (.long ylaw_1), .second, .val (.int xlaw_2), .val (.int xlaw_3), .val (.int xlaw_4), .val (.int xlaw_5), .val (.int xlaw_6), .val (.int v3), .val (.int v14), .val (.int v19), .val (.int v30), .val (.int ms51_0), .val (.int v56), .val (.ref b41), .val (.ref b64), .val (.int v150), .val (.int (0 : Int32)), .val (.long v190), .second, .val (.long v190), .second, .val (.int ms266_0), .val (.int (1 : Int32)), .val (.int v296), .val (.int (1 : Int32))] [(.int (f_at (4 : Int32) v19 v296 v190 v56 (1 : Int32) (own_by (own_W ylaw_1 (own_n v3) (own_n v30) ms51_0) (own_n v19) (own_n v14) v56 4)))]))
        generalize hv454 : (f_at (4 : Int32) v19 v296 v190 v56 (1 : Int32) (own_by (own_W ylaw_1 (own_n v3) (own_n v30) ms51_0) (own_n v19) (own_n v14) v56 4)) = v454
        show Wq _ _ _ _ _ (T103.setTop (mkF m 457 #[.val (.long ylaw_1), .second, .val (.int xlaw_2), .val (.int xlaw_3), .val (.int xlaw_4), .val (.int xlaw_5), .val (.int xlaw_6), .val (.int v3), .val (.int v14), .val (.int v19), .val (.int v30), .val (.int ms51_0), .val (.int v56), .val (.ref b41), .val (.ref b64), .val (.int v150), .val (.int (0 : Int32)), .val (.long v190), .second, .val (.long v190), .second, .val (.int ms266_0), .val (.int (1 : Int32)), .val (.int v296), .val (.int (1 : Int32))] [(.int v454)]))
        refine Ow.ifNo X103 hx (pc' := 460) (hb hby at_457) ((if0 _ _).trans (feq (own_at HB hv296 (Or.inr HI) 4 (by decide) hv454 : ¬ (v454 = (0 : Int32)))).1) ?_
        refine Ow.iconst X103 hx (pc' := 461) (hb hby at_460) (z := (1 : Int32)) rfl ?_
        refine Ow.goto X103 hx (pc' := 465) (hb hby at_461) (by decide) (by decide) ?_
        refine Ow.istore X103 hx (pc' := 467) (hb hby at_465) (l' := #[.val (.long ylaw_1), .second, .val (.int xlaw_2), .val (.int xlaw_3), .val (.int xlaw_4), .val (.int xlaw_5), .val (.int xlaw_6), .val (.int v3), .val (.int v14), .val (.int v19), .val (.int v30), .val (.int ms51_0), .val (.int v56), .val (.ref b41), .val (.ref b64), .val (.int v150), .val (.int (0 : Int32)), .val (.long v190), .second, .val (.long v190), .second, .val (.int ms266_0), .val (.int (1 : Int32)), .val (.int v296), .val (.int (1 : Int32))]) rfl ?_
        refine Ow.iload X103 hx (pc' := 469) (hb hby at_467) rfl ?_
        refine Ow.ifNo X103 hx (pc' := 472) (hb hby at_469) ((if0 _ _).trans (feq (by decide : ¬ ((1 : Int32) = (0 : Int32)))).1) ?_
        refine Ow.aload X103 hx (pc' := 474) (hb hby at_472) rfl rfl ?_
        refine Ow.iconst X103 hx (pc' := 475) (hb hby at_474) (z := (5 : Int32)) rfl ?_
        refine Ow.iload X103 hx (pc' := 477) (hb hby at_475) rfl ?_
        refine Ow.iload X103 hx (pc' := 479) (hb hby at_477) rfl ?_
        refine Ow.lload X103 hx (pc' := 481) (hb hby at_479) rfl ?_
        refine Ow.iload X103 hx (pc' := 483) (hb hby at_481) rfl ?_
        refine Ow.iload X103 hx (pc' := 485) (hb hby at_483) rfl ?_
        obtain ⟨_, _, ⟨T104, L104, k104, n104⟩, -, X104, ⟨Lc104, hQ104, l104, y104, z104⟩, st104⟩ := Jvm.LawKit.callS X103 hx (y := mt2) hown (mvT hZ (kw10 hw)) (mvT hZ (kw11 hw)) (mvT hZ (kw3 hw)) (mvT hZ (kw12 hw)) (by decide) (backOf (W := 0) (rm_at l Z a0 hw [] b64 (5 : Int32) v19 v296 v190 v56 (1 : Int32) q74 (own_by (own_W ylaw_1 (own_n v3) (own_n v30) ms51_0) (own_n v19) (own_n v14) v56 5) T73.heap n0 Z73 (by decide) (by rw [hq74]; exact own_get HB v56 5 (by decide) (by decide)) P73_0) hZ (kw12 hw) (kw3 hw) (by decide) (by decide)) (g := (mkF m 485 #[.val (.long ylaw_1), .second, .val (.int xlaw_2), .val (.int xlaw_3), .val (.int xlaw_4), .val (.int xlaw_5), .val (.int xlaw_6), .val (.int v3), .val (.int v14), .val (.int v19), .val (.int v30), .val (.int ms51_0), .val (.int v56), .val (.ref b41), .val (.ref b64), .val (.int v150), .val (.int (0 : Int32)), .val (.long v190), .second, .val (.long v190), .second, .val (.int ms266_0), .val (.int (1 : Int32)), .val (.int v296), .val (.int (1 : Int32))] [(.int (1 : Int32)), (.int v56), (.long v190), (.int v296), (.int v19), (.int (5 : Int32)), (.ref b64)])) rfl (by rw [hml]; rfl) (argsL := [(.ref b64), (.int (5 : Int32)), (.int v19), (.int v296), (.long v190), (.int v56), (.int (1 : Int32))]) (rest := []) (lenOf pd3 rfl) rfl (by show 2 * 0 + _ ≤ _; exact Nat.le_of_eq rfl) (hb hby at_485) (fun _ _ => ⟨rfl, e103, (by decide : 2 + 0 ≤ _), (by decide : 28 + 0 ≤ _)⟩)
        dsimp only [Pt.U, Pt.locs, Pt.cells, Pt.slots] at X104 l104 y104 z104 st104 hQ104
        subst l104 y104 z104
        obtain ⟨rfl, Nq104, e104⟩ := hQ104
        have N104 := Fr.app N103 Nq104
        refine Wq.step st104 ?_
        show Wq _ _ _ _ _ (T104.setTop (mkF m 488 #[.val (.long ylaw_1), .second, .val (.int xlaw_2), .val (.int xlaw_3), .val (.int xlaw_4), .val (.int xlaw_5), .val (.int xlaw_6), .val (.int v3), .val (.int v14), .val (.int v19), .val (.int v30), .val (.int ms51_0), .val (.int v56), .val (.ref b41), .val (.ref b64), .val (.int v150), .val (.int (0 : Int32)), .val (.long v190), .second, .val (.long v190), .second, .val (.int ms266_0), .val (.int (1 : Int32)), .val (.int v296), .val (.int (1 : Int32))] [(.int (f_at (5 : Int32) v19 v296 v190 v56 (1 : Int32) (own_by (own_W ylaw_1 (own_n v3) (own_n v30) ms51_0) (own_n v19) (own_n v14) v56 5)))]))
        generalize hv485 : (f_at (5 : Int32) v19 v296 v190 v56 (1 : Int32) (own_by (own_W ylaw_1 (own_n v3) (own_n v30) ms51_0) (own_n v19) (own_n v14) v56 5)) = v485
        show Wq _ _ _ _ _ (T104.setTop (mkF m 488 #[.val (.long ylaw_1), .second, .val (.int xlaw_2), .val (.int xlaw_3), .val (.int xlaw_4), .val (.int xlaw_5), .val (.int xlaw_6), .val (.int v3), .val (.int v14), .val (.int v19), .val (.int v30), .val (.int ms51_0), .val (.int v56), .val (.ref b41), .val (.ref b64), .val (.int v150), .val (.int (0 : Int32)), .val (.long v190), .second, .val (.long v190), .second, .val (.int ms266_0), .val (.int (1 : Int32)), .val (.int v296), .val (.int (1 : Int32))] [(.int v485)]))
        refine Ow.ifNo X104 hx (pc' := 491) (hb hby at_488) ((if0 _ _).trans (feq (own_at HB hv296 (Or.inr HI) 5 (by decide) hv485 : ¬ (v485 = (0 : Int32)))).1) ?_
        refine Ow.iconst X104 hx (pc' := 492) (hb hby at_491) (z := (1 : Int32)) rfl ?_
        refine Ow.goto X104 hx (pc' := 496) (hb hby at_492) (by decide) (by decide) ?_
        refine Ow.istore X104 hx (pc' := 498) (hb hby at_496) (l' := #[.val (.long ylaw_1), .second, .val (.int xlaw_2), .val (.int xlaw_3), .val (.int xlaw_4), .val (.int xlaw_5), .val (.int xlaw_6), .val (.int v3), .val (.int v14), .val (.int v19), .val (.int v30), .val (.int ms51_0), .val (.int v56), .val (.ref b41), .val (.ref b64), .val (.int v150), .val (.int (0 : Int32)), .val (.long v190), .second, .val (.long v190), .second, .val (.int ms266_0), .val (.int (1 : Int32)), .val (.int v296), .val (.int (1 : Int32))]) rfl ?_
        refine Ow.iload X104 hx (pc' := 500) (hb hby at_498) rfl ?_
        refine Ow.ifNo X104 hx (pc' := 503) (hb hby at_500) ((if0 _ _).trans (feq (by decide : ¬ ((1 : Int32) = (0 : Int32)))).1) ?_
        refine Ow.aload X104 hx (pc' := 505) (hb hby at_503) rfl rfl ?_
        refine Ow.bipush X104 hx (pc' := 507) (hb hby at_505) (z := (6 : Int32)) rfl ?_
        refine Ow.iload X104 hx (pc' := 509) (hb hby at_507) rfl ?_
        refine Ow.iload X104 hx (pc' := 511) (hb hby at_509) rfl ?_
        refine Ow.lload X104 hx (pc' := 513) (hb hby at_511) rfl ?_
        refine Ow.iload X104 hx (pc' := 515) (hb hby at_513) rfl ?_
        refine Ow.iload X104 hx (pc' := 517) (hb hby at_515) rfl ?_
        obtain ⟨_, _, ⟨T105, L105, k105, n105⟩, -, X105, ⟨Lc105, hQ105, l105, y105, z105⟩, st105⟩ := Jvm.LawKit.callS X104 hx (y := mt2) hown (mvT hZ (kw10 hw)) (mvT hZ (kw11 hw)) (mvT hZ (kw3 hw)) (mvT hZ (kw12 hw)) (by decide) (backOf (W := 0) (rm_at l Z a0 hw [] b64 (6 : Int32) v19 v296 v190 v56 (1 : Int32) q74 (own_by (own_W ylaw_1 (own_n v3) (own_n v30) ms51_0) (own_n v19) (own_n v14) v56 6) T73.heap n0 Z73 (by decide) (by rw [hq74]; exact own_get HB v56 6 (by decide) (by decide)) P73_0) hZ (kw12 hw) (kw3 hw) (by decide) (by decide)) (g := (mkF m 517 #[.val (.long ylaw_1), .second, .val (.int xlaw_2), .val (.int xlaw_3), .val (.int xlaw_4), .val (.int xlaw_5), .val (.int xlaw_6), .val (.int v3), .val (.int v14), .val (.int v19), .val (.int v30), .val (.int ms51_0), .val (.int v56), .val (.ref b41), .val (.ref b64), .val (.int v150), .val (.int (0 : Int32)), .val (.long v190), .second, .val (.long v190), .second, .val (.int ms266_0), .val (.int (1 : Int32)), .val (.int v296), .val (.int (1 : Int32))] [(.int (1 : Int32)), (.int v56), (.long v190), (.int v296), (.int v19), (.int (6 : Int32)), (.ref b64)])) rfl (by rw [hml]; rfl) (argsL := [(.ref b64), (.int (6 : Int32)), (.int v19), (.int v296), (.long v190), (.int v56), (.int (1 : Int32))]) (rest := []) (lenOf pd3 rfl) rfl (by show 2 * 0 + _ ≤ _; exact Nat.le_of_eq rfl) (hb hby at_517) (fun _ _ => ⟨rfl, e104, (by decide : 2 + 0 ≤ _), (by decide : 28 + 0 ≤ _)⟩)
        dsimp only [Pt.U, Pt.locs, Pt.cells, Pt.slots] at X105 l105 y105 z105 st105 hQ105
        subst l105 y105 z105
        obtain ⟨rfl, Nq105, e105⟩ := hQ105
        have N105 := Fr.app N104 Nq105
        refine Wq.step st105 ?_
        show Wq _ _ _ _ _ (T105.setTop (mkF m 520 #[.val (.long ylaw_1), .second, .val (.int xlaw_2), .val (.int xlaw_3), .val (.int xlaw_4), .val (.int xlaw_5), .val (.int xlaw_6), .val (.int v3), .val (.int v14), .val (.int v19), .val (.int v30), .val (.int ms51_0), .val (.int v56), .val (.ref b41), .val (.ref b64), .val (.int v150), .val (.int (0 : Int32)), .val (.long v190), .second, .val (.long v190), .second, .val (.int ms266_0), .val (.int (1 : Int32)), .val (.int v296), .val (.int (1 : Int32))] [(.int (f_at (6 : Int32) v19 v296 v190 v56 (1 : Int32) (own_by (own_W ylaw_1 (own_n v3) (own_n v30) ms51_0) (own_n v19) (own_n v14) v56 6)))]))
        generalize hv517 : (f_at (6 : Int32) v19 v296 v190 v56 (1 : Int32) (own_by (own_W ylaw_1 (own_n v3) (own_n v30) ms51_0) (own_n v19) (own_n v14) v56 6)) = v517
        show Wq _ _ _ _ _ (T105.setTop (mkF m 520 #[.val (.long ylaw_1), .second, .val (.int xlaw_2), .val (.int xlaw_3), .val (.int xlaw_4), .val (.int xlaw_5), .val (.int xlaw_6), .val (.int v3), .val (.int v14), .val (.int v19), .val (.int v30), .val (.int ms51_0), .val (.int v56), .val (.ref b41), .val (.ref b64), .val (.int v150), .val (.int (0 : Int32)), .val (.long v190), .second, .val (.long v190), .second, .val (.int ms266_0), .val (.int (1 : Int32)), .val (.int v296), .val (.int (1 : Int32))] [(.int v517)]))
        refine Ow.ifNo X105 hx (pc' := 523) (hb hby at_520) ((if0 _ _).trans (feq (own_at HB hv296 (Or.inr HI) 6 (by decide) hv517 : ¬ (v517 = (0 : Int32)))).1) ?_
        refine Ow.iconst X105 hx (pc' := 524) (hb hby at_523) (z := (1 : Int32)) rfl ?_
        refine Ow.goto X105 hx (pc' := 528) (hb hby at_524) (by decide) (by decide) ?_
        refine Ow.istore X105 hx (pc' := 530) (hb hby at_528) (l' := #[.val (.long ylaw_1), .second, .val (.int xlaw_2), .val (.int xlaw_3), .val (.int xlaw_4), .val (.int xlaw_5), .val (.int xlaw_6), .val (.int v3), .val (.int v14), .val (.int v19), .val (.int v30), .val (.int ms51_0), .val (.int v56), .val (.ref b41), .val (.ref b64), .val (.int v150), .val (.int (0 : Int32)), .val (.long v190), .second, .val (.long v190), .second, .val (.int ms266_0), .val (.int (1 : Int32)), .val (.int v296), .val (.int (1 : Int32))]) rfl ?_
        refine Ow.iload X105 hx (pc' := 532) (hb hby at_530) rfl ?_
        refine Ow.ifNo X105 hx (pc' := 535) (hb hby at_532) ((if0 _ _).trans (feq (by decide : ¬ ((1 : Int32) = (0 : Int32)))).1) ?_
        refine Ow.aload X105 hx (pc' := 537) (hb hby at_535) rfl rfl ?_
        refine Ow.bipush X105 hx (pc' := 539) (hb hby at_537) (z := (7 : Int32)) rfl ?_
        refine Ow.iload X105 hx (pc' := 541) (hb hby at_539) rfl ?_
        refine Ow.iload X105 hx (pc' := 543) (hb hby at_541) rfl ?_
        refine Ow.lload X105 hx (pc' := 545) (hb hby at_543) rfl ?_
        refine Ow.iload X105 hx (pc' := 547) (hb hby at_545) rfl ?_
        refine Ow.iload X105 hx (pc' := 549) (hb hby at_547) rfl ?_
        obtain ⟨_, _, ⟨T106, L106, k106, n106⟩, -, X106, ⟨Lc106, hQ106, l106, y106, z106⟩, st106⟩ := Jvm.LawKit.callS X105 hx (y := mt2) hown (mvT hZ (kw10 hw)) (mvT hZ (kw11 hw)) (mvT hZ (kw3 hw)) (mvT hZ (kw12 hw)) (by decide) (backOf (W := 0) (rm_at l Z a0 hw [] b64 (7 : Int32) v19 v296 v190 v56 (1 : Int32) q74 (own_by (own_W ylaw_1 (own_n v3) (own_n v30) ms51_0) (own_n v19) (own_n v14) v56 7) T73.heap n0 Z73 (by decide) (by rw [hq74]; exact own_get HB v56 7 (by decide) (by decide)) P73_0) hZ (kw12 hw) (kw3 hw) (by decide) (by decide)) (g := (mkF m 549 #[.val (.long ylaw_1), .second, .val (.int xlaw_2), .val (.int xlaw_3), .val (.int xlaw_4), .val (.int xlaw_5), .val (.int xlaw_6), .val (.int v3), .val (.int v14), .val (.int v19), .val (.int v30), .val (.int ms51_0), .val (.int v56), .val (.ref b41), .val (.ref b64), .val (.int v150), .val (.int (0 : Int32)), .val (.long v190), .second, .val (.long v190), .second, .val (.int ms266_0), .val (.int (1 : Int32)), .val (.int v296), .val (.int (1 : Int32))] [(.int (1 : Int32)), (.int v56), (.long v190), (.int v296), (.int v19), (.int (7 : Int32)), (.ref b64)])) rfl (by rw [hml]; rfl) (argsL := [(.ref b64), (.int (7 : Int32)), (.int v19), (.int v296), (.long v190), (.int v56), (.int (1 : Int32))]) (rest := []) (lenOf pd3 rfl) rfl (by show 2 * 0 + _ ≤ _; exact Nat.le_of_eq rfl) (hb hby at_549) (fun _ _ => ⟨rfl, e105, (by decide : 2 + 0 ≤ _), (by decide : 28 + 0 ≤ _)⟩)
        dsimp only [Pt.U, Pt.locs, Pt.cells, Pt.slots] at X106 l106 y106 z106 st106 hQ106
        subst l106 y106 z106
        obtain ⟨rfl, Nq106, e106⟩ := hQ106
        have N106 := Fr.app N105 Nq106
        refine Wq.step st106 ?_
        show Wq _ _ _ _ _ (T106.setTop (mkF m 552 #[.val (.long ylaw_1), .second, .val (.int xlaw_2), .val (.int xlaw_3), .val (.int xlaw_4), .val (.int xlaw_5), .val (.int xlaw_6), .val (.int v3), .val (.int v14), .val (.int v19), .val (.int v30), .val (.int ms51_0), .val (.int v56), .val (.ref b41), .val (.ref b64), .val (.int v150), .val (.int (0 : Int32)), .val (.long v190), .second, .val (.long v190), .second, .val (.int ms266_0), .val (.int (1 : Int32)), .val (.int v296), .val (.int (1 : Int32))] [(.int (f_at (7 : Int32) v19 v296 v190 v56 (1 : Int32) (own_by (own_W ylaw_1 (own_n v3) (own_n v30) ms51_0) (own_n v19) (own_n v14) v56 7)))]))
        generalize hv549 : (f_at (7 : Int32) v19 v296 v190 v56 (1 : Int32) (own_by (own_W ylaw_1 (own_n v3) (own_n v30) ms51_0) (own_n v19) (own_n v14) v56 7)) = v549
        show Wq _ _ _ _ _ (T106.setTop (mkF m 552 #[.val (.long ylaw_1), .second, .val (.int xlaw_2), .val (.int xlaw_3), .val (.int xlaw_4), .val (.int xlaw_5), .val (.int xlaw_6), .val (.int v3), .val (.int v14), .val (.int v19), .val (.int v30), .val (.int ms51_0), .val (.int v56), .val (.ref b41), .val (.ref b64), .val (.int v150), .val (.int (0 : Int32)), .val (.long v190), .second, .val (.long v190), .second, .val (.int ms266_0), .val (.int (1 : Int32)), .val (.int v296), .val (.int (1 : Int32))] [(.int v549)]))
        refine Ow.ifNo X106 hx (pc' := 555) (hb hby at_552) ((if0 _ _).trans (feq (own_at HB hv296 (Or.inr HI) 7 (by decide) hv549 : ¬ (v549 = (0 : Int32)))).1) ?_
        refine Ow.iconst X106 hx (pc' := 556) (hb hby at_555) (z := (1 : Int32)) rfl ?_
        refine Ow.goto X106 hx (pc' := 560) (hb hby at_556) (by decide) (by decide) ?_
        refine Ow.istore X106 hx (pc' := 562) (hb hby at_560) (l' := #[.val (.long ylaw_1), .second, .val (.int xlaw_2), .val (.int xlaw_3), .val (.int xlaw_4), .val (.int xlaw_5), .val (.int xlaw_6), .val (.int v3), .val (.int v14), .val (.int v19), .val (.int v30), .val (.int ms51_0), .val (.int v56), .val (.ref b41), .val (.ref b64), .val (.int v150), .val (.int (0 : Int32)), .val (.long v190), .second, .val (.long v190), .second, .val (.int ms266_0), .val (.int (1 : Int32)), .val (.int v296), .val (.int (1 : Int32))]) rfl ?_
        refine Ow.iload X106 hx (pc' := 564) (hb hby at_562) rfl ?_
        exact Wq.ret X106 (BodyLoose.notSynchronized Bd) (rv := some (.int (1 : Int32))) (fun h => by rw [Bd.returns] at h; cases h) (fun _ hr => retN X106 hx (t := .boolean) Bd.returns (by simp) (hb hby at_564) hr) (by decide) (by decide) ⟨rfl, N106⟩
  · skip
    refine Ow.icmpYes X42 hx (pc' := 84) (hb hby at_74) (flt hc74).2.1 (by decide) (by decide) ?_
    have HP := own_p20 hc74 hv30
    refine Ow.bipush X42 hx (pc' := 86) (hb hby at_84) (z := (8 : Int32)) rfl ?_
    obtain ⟨T107, h107, k107, X107, e107, E107, A107, st107⟩ := newP X42 hx hZ (aty := .byte) (kw5 hw) e42 (g := (mkF m 86 #[.val (.long ylaw_1), .second, .val (.int xlaw_2), .val (.int xlaw_3), .val (.int xlaw_4), .val (.int xlaw_5), .val (.int xlaw_6), .val (.int v3), .val (.int v14), .val (.int v19), .val (.int v30), .val (.int ms51_0), .val (.int v56), .val (.ref b41), .unset, .unset, .unset, .unset, .unset, .unset, .unset, .unset, .unset, .unset, .unset] [(.int (8 : Int32))])) rfl (hb hby at_86) rfl (by decide) (cap := 8) (by decide) (by decide) (by decide) (by decide)
    obtain ⟨b107, gz107⟩ : ∃ z, z = T42.heap.size := ⟨_, rfl⟩
    rw [← gz107] at A107 st107
    have g_b107 : n0 ≤ b107 := Nat.le_trans Z42 (Nat.le_of_eq gz107.symm)
    have sz_b107 : h0.size ≤ b107 := Nat.le_trans K42.1 (Nat.le_of_eq gz107.symm)
    have ne_b41_b107 : b41 ≠ b107 := Nat.ne_of_lt (Nat.lt_of_lt_of_le VF.lt (Nat.le_of_eq gz107.symm))
    have K107 : Keep h0 h107 [] := K42.ext E107
    have Z107 : n0 ≤ h107.size := Nat.le_trans Z42 E107.1
    have VF_t107 := VF.ext E107
    have V_b107 : Al Z h107 b107 .byte [(.int (0 : Int32)), (.int (0 : Int32)), (.int (0 : Int32)), (.int (0 : Int32)), (.int (0 : Int32)), (.int (0 : Int32)), (.int (0 : Int32)), (.int (0 : Int32))] := Al.new A107 (k := 8) (rfl) rfl
    refine Wq.step st107 ?_
    show Wq _ _ _ _ _ (T107.setTop (mkF m 88 #[.val (.long ylaw_1), .second, .val (.int xlaw_2), .val (.int xlaw_3), .val (.int xlaw_4), .val (.int xlaw_5), .val (.int xlaw_6), .val (.int v3), .val (.int v14), .val (.int v19), .val (.int v30), .val (.int ms51_0), .val (.int v56), .val (.ref b41), .unset, .unset, .unset, .unset, .unset, .unset, .unset, .unset, .unset, .unset, .unset] [(.ref b107)]))
    refine Ow.astore X107 hx (pc' := 90) (hb hby at_88) rfl (l' := #[.val (.long ylaw_1), .second, .val (.int xlaw_2), .val (.int xlaw_3), .val (.int xlaw_4), .val (.int xlaw_5), .val (.int xlaw_6), .val (.int v3), .val (.int v14), .val (.int v19), .val (.int v30), .val (.int ms51_0), .val (.int v56), .val (.ref b41), .val (.ref b107), .unset, .unset, .unset, .unset, .unset, .unset, .unset, .unset, .unset, .unset]) rfl ?_
    refine Ow.aload X107 hx (pc' := 92) (hb hby at_90) rfl rfl ?_
    refine Ow.iconst X107 hx (pc' := 93) (hb hby at_92) (z := (0 : Int32)) rfl ?_
    refine Ow.iload X107 hx (pc' := 95) (hb hby at_93) rfl ?_
    obtain ⟨T108, h108, X108, e108, W108, Vr108, st108⟩ := asB X107 hx hZ e107 V_b107 (j := (0 : Int32)) (i := 0) (by decide) rfl (Nat.le_of_ble_eq_true rfl) (y := v56) (own_nar hv56) (g := (mkF m 95 #[.val (.long ylaw_1), .second, .val (.int xlaw_2), .val (.int xlaw_3), .val (.int xlaw_4), .val (.int xlaw_5), .val (.int xlaw_6), .val (.int v3), .val (.int v14), .val (.int v19), .val (.int v30), .val (.int ms51_0), .val (.int v56), .val (.ref b41), .val (.ref b107), .unset, .unset, .unset, .unset, .unset, .unset, .unset, .unset, .unset, .unset] [(.int v56), (.int (0 : Int32)), (.ref b107)])) rfl rfl (hb hby at_95)
    refine Wq.step st108 ?_
    have N108 := Fr.snoc X108 N42 g_b107
    have K108 : Keep h0 h108 [] := K107.wr W108 (Or.inr sz_b107)
    have Z108 : n0 ≤ h108.size := Nat.le_trans Z107 (Keep.of_wr W108).1
    have VF_t108 := VF_t107.other W108 ne_b41_b107
    have V_b107_t108 : Al Z h108 b107 .byte [(.int v56), (.int (0 : Int32)), (.int (0 : Int32)), (.int (0 : Int32)), (.int (0 : Int32)), (.int (0 : Int32)), (.int (0 : Int32)), (.int (0 : Int32))] := Vr108
    show Wq _ _ _ _ _ (T108.setTop (mkF m 96 #[.val (.long ylaw_1), .second, .val (.int xlaw_2), .val (.int xlaw_3), .val (.int xlaw_4), .val (.int xlaw_5), .val (.int xlaw_6), .val (.int v3), .val (.int v14), .val (.int v19), .val (.int v30), .val (.int ms51_0), .val (.int v56), .val (.ref b41), .val (.ref b107), .unset, .unset, .unset, .unset, .unset, .unset, .unset, .unset, .unset, .unset] []))
    refine Ow.aload X108 hx (pc' := 98) (hb hby at_96) rfl rfl ?_
    refine Ow.iconst X108 hx (pc' := 99) (hb hby at_98) (z := (1 : Int32)) rfl ?_
    refine Ow.iload X108 hx (pc' := 101) (hb hby at_99) rfl ?_
    obtain ⟨T109, h109, X109, e109, W109, Vr109, st109⟩ := asB X108 hx hZ e108 V_b107_t108 (j := (1 : Int32)) (i := 1) (by decide) rfl (Nat.le_of_ble_eq_true rfl) (y := v56) (own_nar hv56) (g := (mkF m 101 #[.val (.long ylaw_1), .second, .val (.int xlaw_2), .val (.int xlaw_3), .val (.int xlaw_4), .val (.int xlaw_5), .val (.int xlaw_6), .val (.int v3), .val (.int v14), .val (.int v19), .val (.int v30), .val (.int ms51_0), .val (.int v56), .val (.ref b41), .val (.ref b107), .unset, .unset, .unset, .unset, .unset, .unset, .unset, .unset, .unset, .unset] [(.int v56), (.int (1 : Int32)), (.ref b107)])) rfl rfl (hb hby at_101)
    refine Wq.step st109 ?_
    have N109 := Fr.snoc X109 N108 g_b107
    have K109 : Keep h0 h109 [] := K108.wr W109 (Or.inr sz_b107)
    have Z109 : n0 ≤ h109.size := Nat.le_trans Z108 (Keep.of_wr W109).1
    have VF_t109 := VF_t108.other W109 ne_b41_b107
    have V_b107_t109 : Al Z h109 b107 .byte [(.int v56), (.int v56), (.int (0 : Int32)), (.int (0 : Int32)), (.int (0 : Int32)), (.int (0 : Int32)), (.int (0 : Int32)), (.int (0 : Int32))] := Vr109
    show Wq _ _ _ _ _ (T109.setTop (mkF m 102 #[.val (.long ylaw_1), .second, .val (.int xlaw_2), .val (.int xlaw_3), .val (.int xlaw_4), .val (.int xlaw_5), .val (.int xlaw_6), .val (.int v3), .val (.int v14), .val (.int v19), .val (.int v30), .val (.int ms51_0), .val (.int v56), .val (.ref b41), .val (.ref b107), .unset, .unset, .unset, .unset, .unset, .unset, .unset, .unset, .unset, .unset] []))
    refine Ow.aload X109 hx (pc' := 104) (hb hby at_102) rfl rfl ?_
    refine Ow.iconst X109 hx (pc' := 105) (hb hby at_104) (z := (2 : Int32)) rfl ?_
    refine Ow.iload X109 hx (pc' := 107) (hb hby at_105) rfl ?_
    obtain ⟨T110, h110, X110, e110, W110, Vr110, st110⟩ := asB X109 hx hZ e109 V_b107_t109 (j := (2 : Int32)) (i := 2) (by decide) rfl (Nat.le_of_ble_eq_true rfl) (y := v56) (own_nar hv56) (g := (mkF m 107 #[.val (.long ylaw_1), .second, .val (.int xlaw_2), .val (.int xlaw_3), .val (.int xlaw_4), .val (.int xlaw_5), .val (.int xlaw_6), .val (.int v3), .val (.int v14), .val (.int v19), .val (.int v30), .val (.int ms51_0), .val (.int v56), .val (.ref b41), .val (.ref b107), .unset, .unset, .unset, .unset, .unset, .unset, .unset, .unset, .unset, .unset] [(.int v56), (.int (2 : Int32)), (.ref b107)])) rfl rfl (hb hby at_107)
    refine Wq.step st110 ?_
    have N110 := Fr.snoc X110 N109 g_b107
    have K110 : Keep h0 h110 [] := K109.wr W110 (Or.inr sz_b107)
    have Z110 : n0 ≤ h110.size := Nat.le_trans Z109 (Keep.of_wr W110).1
    have VF_t110 := VF_t109.other W110 ne_b41_b107
    have V_b107_t110 : Al Z h110 b107 .byte [(.int v56), (.int v56), (.int v56), (.int (0 : Int32)), (.int (0 : Int32)), (.int (0 : Int32)), (.int (0 : Int32)), (.int (0 : Int32))] := Vr110
    show Wq _ _ _ _ _ (T110.setTop (mkF m 108 #[.val (.long ylaw_1), .second, .val (.int xlaw_2), .val (.int xlaw_3), .val (.int xlaw_4), .val (.int xlaw_5), .val (.int xlaw_6), .val (.int v3), .val (.int v14), .val (.int v19), .val (.int v30), .val (.int ms51_0), .val (.int v56), .val (.ref b41), .val (.ref b107), .unset, .unset, .unset, .unset, .unset, .unset, .unset, .unset, .unset, .unset] []))
    refine Ow.aload X110 hx (pc' := 110) (hb hby at_108) rfl rfl ?_
    refine Ow.iconst X110 hx (pc' := 111) (hb hby at_110) (z := (3 : Int32)) rfl ?_
    refine Ow.iload X110 hx (pc' := 113) (hb hby at_111) rfl ?_
    obtain ⟨T111, h111, X111, e111, W111, Vr111, st111⟩ := asB X110 hx hZ e110 V_b107_t110 (j := (3 : Int32)) (i := 3) (by decide) rfl (Nat.le_of_ble_eq_true rfl) (y := v56) (own_nar hv56) (g := (mkF m 113 #[.val (.long ylaw_1), .second, .val (.int xlaw_2), .val (.int xlaw_3), .val (.int xlaw_4), .val (.int xlaw_5), .val (.int xlaw_6), .val (.int v3), .val (.int v14), .val (.int v19), .val (.int v30), .val (.int ms51_0), .val (.int v56), .val (.ref b41), .val (.ref b107), .unset, .unset, .unset, .unset, .unset, .unset, .unset, .unset, .unset, .unset] [(.int v56), (.int (3 : Int32)), (.ref b107)])) rfl rfl (hb hby at_113)
    refine Wq.step st111 ?_
    have N111 := Fr.snoc X111 N110 g_b107
    have K111 : Keep h0 h111 [] := K110.wr W111 (Or.inr sz_b107)
    have Z111 : n0 ≤ h111.size := Nat.le_trans Z110 (Keep.of_wr W111).1
    have VF_t111 := VF_t110.other W111 ne_b41_b107
    have V_b107_t111 : Al Z h111 b107 .byte [(.int v56), (.int v56), (.int v56), (.int v56), (.int (0 : Int32)), (.int (0 : Int32)), (.int (0 : Int32)), (.int (0 : Int32))] := Vr111
    show Wq _ _ _ _ _ (T111.setTop (mkF m 114 #[.val (.long ylaw_1), .second, .val (.int xlaw_2), .val (.int xlaw_3), .val (.int xlaw_4), .val (.int xlaw_5), .val (.int xlaw_6), .val (.int v3), .val (.int v14), .val (.int v19), .val (.int v30), .val (.int ms51_0), .val (.int v56), .val (.ref b41), .val (.ref b107), .unset, .unset, .unset, .unset, .unset, .unset, .unset, .unset, .unset, .unset] []))
    refine Ow.aload X111 hx (pc' := 116) (hb hby at_114) rfl rfl ?_
    refine Ow.iconst X111 hx (pc' := 117) (hb hby at_116) (z := (4 : Int32)) rfl ?_
    refine Ow.iload X111 hx (pc' := 119) (hb hby at_117) rfl ?_
    obtain ⟨T112, h112, X112, e112, W112, Vr112, st112⟩ := asB X111 hx hZ e111 V_b107_t111 (j := (4 : Int32)) (i := 4) (by decide) rfl (Nat.le_of_ble_eq_true rfl) (y := v56) (own_nar hv56) (g := (mkF m 119 #[.val (.long ylaw_1), .second, .val (.int xlaw_2), .val (.int xlaw_3), .val (.int xlaw_4), .val (.int xlaw_5), .val (.int xlaw_6), .val (.int v3), .val (.int v14), .val (.int v19), .val (.int v30), .val (.int ms51_0), .val (.int v56), .val (.ref b41), .val (.ref b107), .unset, .unset, .unset, .unset, .unset, .unset, .unset, .unset, .unset, .unset] [(.int v56), (.int (4 : Int32)), (.ref b107)])) rfl rfl (hb hby at_119)
    refine Wq.step st112 ?_
    have N112 := Fr.snoc X112 N111 g_b107
    have K112 : Keep h0 h112 [] := K111.wr W112 (Or.inr sz_b107)
    have Z112 : n0 ≤ h112.size := Nat.le_trans Z111 (Keep.of_wr W112).1
    have VF_t112 := VF_t111.other W112 ne_b41_b107
    have V_b107_t112 : Al Z h112 b107 .byte [(.int v56), (.int v56), (.int v56), (.int v56), (.int v56), (.int (0 : Int32)), (.int (0 : Int32)), (.int (0 : Int32))] := Vr112
    show Wq _ _ _ _ _ (T112.setTop (mkF m 120 #[.val (.long ylaw_1), .second, .val (.int xlaw_2), .val (.int xlaw_3), .val (.int xlaw_4), .val (.int xlaw_5), .val (.int xlaw_6), .val (.int v3), .val (.int v14), .val (.int v19), .val (.int v30), .val (.int ms51_0), .val (.int v56), .val (.ref b41), .val (.ref b107), .unset, .unset, .unset, .unset, .unset, .unset, .unset, .unset, .unset, .unset] []))
    refine Ow.aload X112 hx (pc' := 122) (hb hby at_120) rfl rfl ?_
    refine Ow.iconst X112 hx (pc' := 123) (hb hby at_122) (z := (5 : Int32)) rfl ?_
    refine Ow.iload X112 hx (pc' := 125) (hb hby at_123) rfl ?_
    obtain ⟨T113, h113, X113, e113, W113, Vr113, st113⟩ := asB X112 hx hZ e112 V_b107_t112 (j := (5 : Int32)) (i := 5) (by decide) rfl (Nat.le_of_ble_eq_true rfl) (y := v56) (own_nar hv56) (g := (mkF m 125 #[.val (.long ylaw_1), .second, .val (.int xlaw_2), .val (.int xlaw_3), .val (.int xlaw_4), .val (.int xlaw_5), .val (.int xlaw_6), .val (.int v3), .val (.int v14), .val (.int v19), .val (.int v30), .val (.int ms51_0), .val (.int v56), .val (.ref b41), .val (.ref b107), .unset, .unset, .unset, .unset, .unset, .unset, .unset, .unset, .unset, .unset] [(.int v56), (.int (5 : Int32)), (.ref b107)])) rfl rfl (hb hby at_125)
    refine Wq.step st113 ?_
    have N113 := Fr.snoc X113 N112 g_b107
    have K113 : Keep h0 h113 [] := K112.wr W113 (Or.inr sz_b107)
    have Z113 : n0 ≤ h113.size := Nat.le_trans Z112 (Keep.of_wr W113).1
    have VF_t113 := VF_t112.other W113 ne_b41_b107
    have V_b107_t113 : Al Z h113 b107 .byte [(.int v56), (.int v56), (.int v56), (.int v56), (.int v56), (.int v56), (.int (0 : Int32)), (.int (0 : Int32))] := Vr113
    show Wq _ _ _ _ _ (T113.setTop (mkF m 126 #[.val (.long ylaw_1), .second, .val (.int xlaw_2), .val (.int xlaw_3), .val (.int xlaw_4), .val (.int xlaw_5), .val (.int xlaw_6), .val (.int v3), .val (.int v14), .val (.int v19), .val (.int v30), .val (.int ms51_0), .val (.int v56), .val (.ref b41), .val (.ref b107), .unset, .unset, .unset, .unset, .unset, .unset, .unset, .unset, .unset, .unset] []))
    refine Ow.aload X113 hx (pc' := 128) (hb hby at_126) rfl rfl ?_
    refine Ow.bipush X113 hx (pc' := 130) (hb hby at_128) (z := (6 : Int32)) rfl ?_
    refine Ow.iload X113 hx (pc' := 132) (hb hby at_130) rfl ?_
    obtain ⟨T114, h114, X114, e114, W114, Vr114, st114⟩ := asB X113 hx hZ e113 V_b107_t113 (j := (6 : Int32)) (i := 6) (by decide) rfl (Nat.le_of_ble_eq_true rfl) (y := v56) (own_nar hv56) (g := (mkF m 132 #[.val (.long ylaw_1), .second, .val (.int xlaw_2), .val (.int xlaw_3), .val (.int xlaw_4), .val (.int xlaw_5), .val (.int xlaw_6), .val (.int v3), .val (.int v14), .val (.int v19), .val (.int v30), .val (.int ms51_0), .val (.int v56), .val (.ref b41), .val (.ref b107), .unset, .unset, .unset, .unset, .unset, .unset, .unset, .unset, .unset, .unset] [(.int v56), (.int (6 : Int32)), (.ref b107)])) rfl rfl (hb hby at_132)
    refine Wq.step st114 ?_
    have N114 := Fr.snoc X114 N113 g_b107
    have K114 : Keep h0 h114 [] := K113.wr W114 (Or.inr sz_b107)
    have Z114 : n0 ≤ h114.size := Nat.le_trans Z113 (Keep.of_wr W114).1
    have VF_t114 := VF_t113.other W114 ne_b41_b107
    have V_b107_t114 : Al Z h114 b107 .byte [(.int v56), (.int v56), (.int v56), (.int v56), (.int v56), (.int v56), (.int v56), (.int (0 : Int32))] := Vr114
    show Wq _ _ _ _ _ (T114.setTop (mkF m 133 #[.val (.long ylaw_1), .second, .val (.int xlaw_2), .val (.int xlaw_3), .val (.int xlaw_4), .val (.int xlaw_5), .val (.int xlaw_6), .val (.int v3), .val (.int v14), .val (.int v19), .val (.int v30), .val (.int ms51_0), .val (.int v56), .val (.ref b41), .val (.ref b107), .unset, .unset, .unset, .unset, .unset, .unset, .unset, .unset, .unset, .unset] []))
    refine Ow.aload X114 hx (pc' := 135) (hb hby at_133) rfl rfl ?_
    refine Ow.bipush X114 hx (pc' := 137) (hb hby at_135) (z := (7 : Int32)) rfl ?_
    refine Ow.iload X114 hx (pc' := 139) (hb hby at_137) rfl ?_
    obtain ⟨T115, h115, X115, e115, W115, Vr115, st115⟩ := asB X114 hx hZ e114 V_b107_t114 (j := (7 : Int32)) (i := 7) (by decide) rfl (Nat.le_of_ble_eq_true rfl) (y := v56) (own_nar hv56) (g := (mkF m 139 #[.val (.long ylaw_1), .second, .val (.int xlaw_2), .val (.int xlaw_3), .val (.int xlaw_4), .val (.int xlaw_5), .val (.int xlaw_6), .val (.int v3), .val (.int v14), .val (.int v19), .val (.int v30), .val (.int ms51_0), .val (.int v56), .val (.ref b41), .val (.ref b107), .unset, .unset, .unset, .unset, .unset, .unset, .unset, .unset, .unset, .unset] [(.int v56), (.int (7 : Int32)), (.ref b107)])) rfl rfl (hb hby at_139)
    refine Wq.step st115 ?_
    have N115 := Fr.snoc X115 N114 g_b107
    have K115 : Keep h0 h115 [] := K114.wr W115 (Or.inr sz_b107)
    have Z115 : n0 ≤ h115.size := Nat.le_trans Z114 (Keep.of_wr W115).1
    have VF_t115 := VF_t114.other W115 ne_b41_b107
    have V_b107_t115 : Al Z h115 b107 .byte [(.int v56), (.int v56), (.int v56), (.int v56), (.int v56), (.int v56), (.int v56), (.int v56)] := Vr115
    have HB := own_bds hv3 hv14 hv19
    have HQ := own_pq hv30
    show Wq _ _ _ _ _ (T115.setTop (mkF m 140 #[.val (.long ylaw_1), .second, .val (.int xlaw_2), .val (.int xlaw_3), .val (.int xlaw_4), .val (.int xlaw_5), .val (.int xlaw_6), .val (.int v3), .val (.int v14), .val (.int v19), .val (.int v30), .val (.int ms51_0), .val (.int v56), .val (.ref b41), .val (.ref b107), .unset, .unset, .unset, .unset, .unset, .unset, .unset, .unset, .unset, .unset] []))
    refine Ow.aload X115 hx (pc' := 142) (hb hby at_140) rfl rfl ?_
    refine Ow.iload X115 hx (pc' := 144) (hb hby at_142) rfl ?_
    refine Ow.iload X115 hx (pc' := 146) (hb hby at_144) rfl ?_
    refine Ow.aload X115 hx (pc' := 148) (hb hby at_146) rfl rfl ?_
    refine Ow.iload X115 hx (pc' := 150) (hb hby at_148) rfl ?_
    obtain ⟨_, _, ⟨T116, L116, k116, n116⟩, -, X116, ⟨Lc116, hQ116, l116, y116, z116⟩, st116⟩ := Jvm.LawKit.callS X115 hx (y := mt3) hown (mvT hZ (kw6 hw)) (mvT hZ (kw7 hw)) (mvT hZ (kw8 hw)) (mvT hZ (kw9 hw)) (by decide) (backOf (W := 0) (rm_pk l Z a0 hw [] b41 v3 v14 b107 v19 (own_W ylaw_1 (own_n v3) (own_n v30) ms51_0) (own_fl ylaw_1) [(.int v56), (.int v56), (.int v56), (.int v56), (.int v56), (.int v56), (.int v56), (.int v56)] h115 n0 Z115 (HB) (own_hvN ms51_0 HP) (rfl) VF_t115 V_b107_t115 ne_b41_b107 g_b107) hZ (kw9 hw) (kw8 hw) (by decide) (by decide)) (g := (mkF m 150 #[.val (.long ylaw_1), .second, .val (.int xlaw_2), .val (.int xlaw_3), .val (.int xlaw_4), .val (.int xlaw_5), .val (.int xlaw_6), .val (.int v3), .val (.int v14), .val (.int v19), .val (.int v30), .val (.int ms51_0), .val (.int v56), .val (.ref b41), .val (.ref b107), .unset, .unset, .unset, .unset, .unset, .unset, .unset, .unset, .unset, .unset] [(.int v19), (.ref b107), (.int v14), (.int v3), (.ref b41)])) rfl (by rw [hml]; rfl) (argsL := [(.ref b41), (.int v3), (.int v14), (.ref b107), (.int v19)]) (rest := []) (lenOf pd2 rfl) rfl (by show 2 * 0 + _ ≤ _; exact Nat.le_of_eq rfl) (hb hby at_150) (fun _ _ => ⟨rfl, e115, (by decide : 2 + 0 ≤ _), (by decide : 28 + 0 ≤ _)⟩)
    dsimp only [Pt.U, Pt.locs, Pt.cells, Pt.slots] at X116 l116 y116 z116 st116 hQ116
    subst l116 y116 z116
    obtain ⟨rfl, Nq116, Kq116, P116_0⟩ := hQ116
    have N116 := Fr.app N115 Nq116
    have K116 : Keep h0 T116.heap [] := K115.trans Kq116 (allS (P := fun x => x ∈ [] ∨ h0.size ≤ x) (Or.inr sz_b107) all0)
    have Z116 : n0 ≤ T116.heap.size := Nat.le_trans Z115 Kq116.1
    have VF_t116 := VF_t115.keep Kq116 (ninS ne_b41_b107 nin0)
    have e116 : T116.heap = T116.heap := rfl
    obtain ⟨q117, hq117⟩ : ∃ z : List Value, z = (own_dq (own_W ylaw_1 (own_n v3) (own_n v30) ms51_0) (own_n v19) [(.int v56), (.int v56), (.int v56), (.int v56), (.int v56), (.int v56), (.int v56), (.int v56)] (own_n v14) ((own_n v14 + 7) / 8)) := ⟨_, rfl⟩
    rw [← hq117] at P116_0
    refine Wq.step st116 ?_
    show Wq _ _ _ _ _ (T116.setTop (mkF m 153 #[.val (.long ylaw_1), .second, .val (.int xlaw_2), .val (.int xlaw_3), .val (.int xlaw_4), .val (.int xlaw_5), .val (.int xlaw_6), .val (.int v3), .val (.int v14), .val (.int v19), .val (.int v30), .val (.int ms51_0), .val (.int v56), .val (.ref b41), .val (.ref b107), .unset, .unset, .unset, .unset, .unset, .unset, .unset, .unset, .unset, .unset] [(.int (own_or (own_W ylaw_1 (own_n v3) (own_n v30) ms51_0) (own_n v14)))]))
    generalize hv150 : (own_or (own_W ylaw_1 (own_n v3) (own_n v30) ms51_0) (own_n v14)) = v150
    show Wq _ _ _ _ _ (T116.setTop (mkF m 153 #[.val (.long ylaw_1), .second, .val (.int xlaw_2), .val (.int xlaw_3), .val (.int xlaw_4), .val (.int xlaw_5), .val (.int xlaw_6), .val (.int v3), .val (.int v14), .val (.int v19), .val (.int v30), .val (.int ms51_0), .val (.int v56), .val (.ref b41), .val (.ref b107), .unset, .unset, .unset, .unset, .unset, .unset, .unset, .unset, .unset, .unset] [(.int v150)]))
    refine Ow.istore X116 hx (pc' := 155) (hb hby at_153) (l' := #[.val (.long ylaw_1), .second, .val (.int xlaw_2), .val (.int xlaw_3), .val (.int xlaw_4), .val (.int xlaw_5), .val (.int xlaw_6), .val (.int v3), .val (.int v14), .val (.int v19), .val (.int v30), .val (.int ms51_0), .val (.int v56), .val (.ref b41), .val (.ref b107), .val (.int v150), .unset, .unset, .unset, .unset, .unset, .unset, .unset, .unset, .unset]) rfl ?_
    refine Ow.iload X116 hx (pc' := 157) (hb hby at_155) rfl ?_
    refine Ow.iload X116 hx (pc' := 159) (hb hby at_157) rfl ?_
    by_cases hc159 : v30 < v3
    · skip
      refine Ow.icmpYes X116 hx (pc' := 176) (hb hby at_159) (tlt hc159).1 (by decide) (by decide) ?_
      refine Ow.iconst X116 hx (pc' := 177) (hb hby at_176) (z := (0 : Int32)) rfl ?_
      refine Ow.istore X116 hx (pc' := 179) (hb hby at_177) (l' := #[.val (.long ylaw_1), .second, .val (.int xlaw_2), .val (.int xlaw_3), .val (.int xlaw_4), .val (.int xlaw_5), .val (.int xlaw_6), .val (.int v3), .val (.int v14), .val (.int v19), .val (.int v30), .val (.int ms51_0), .val (.int v56), .val (.ref b41), .val (.ref b107), .val (.int v150), .val (.int (0 : Int32)), .unset, .unset, .unset, .unset, .unset, .unset, .unset, .unset]) rfl ?_
      refine Ow.lloadN X116 hx (pc' := 180) (hb hby at_179) rfl ?_
      refine Ow.iload X116 hx (pc' := 182) (hb hby at_180) rfl ?_
      refine Ow.lushr X116 hx (pc' := 183) (hb hby at_182) (z := ((ylaw_1.toUInt64 >>> (v3 &&& 0x3f).toInt64.toUInt64).toInt64)) rfl ?_
      refine Ow.lconst X116 hx (pc' := 184) (hb hby at_183) (z := (1 : Int64)) rfl ?_
      refine Ow.iload X116 hx (pc' := 186) (hb hby at_184) rfl ?_
      refine Ow.lshl X116 hx (pc' := 187) (hb hby at_186) (z := ((1 : Int64) <<< (v14 &&& 0x3f).toInt64)) rfl ?_
      refine Ow.lconst X116 hx (pc' := 188) (hb hby at_187) (z := (1 : Int64)) rfl ?_
      refine Ow.lsub X116 hx (pc' := 189) (hb hby at_188) (z := (((1 : Int64) <<< (v14 &&& 0x3f).toInt64) - (1 : Int64))) rfl ?_
      refine Ow.land X116 hx (pc' := 190) (hb hby at_189) (z := (((ylaw_1.toUInt64 >>> (v3 &&& 0x3f).toInt64.toUInt64).toInt64) &&& (((1 : Int64) <<< (v14 &&& 0x3f).toInt64) - (1 : Int64)))) rfl ?_
      refine Ow.lstore X116 hx (pc' := 192) (hb hby at_190) (l' := #[.val (.long ylaw_1), .second, .val (.int xlaw_2), .val (.int xlaw_3), .val (.int xlaw_4), .val (.int xlaw_5), .val (.int xlaw_6), .val (.int v3), .val (.int v14), .val (.int v19), .val (.int v30), .val (.int ms51_0), .val (.int v56), .val (.ref b41), .val (.ref b107), .val (.int v150), .val (.int (0 : Int32)), .val (.long (((ylaw_1.toUInt64 >>> (v3 &&& 0x3f).toInt64.toUInt64).toInt64) &&& (((1 : Int64) <<< (v14 &&& 0x3f).toInt64) - (1 : Int64)))), .second, .unset, .unset, .unset, .unset, .unset, .unset]) rfl ?_
      generalize hv190 : (((ylaw_1.toUInt64 >>> (v3 &&& 0x3f).toInt64.toUInt64).toInt64) &&& (((1 : Int64) <<< (v14 &&& 0x3f).toInt64) - (1 : Int64))) = v190
      refine Ow.lload X116 hx (pc' := 194) (hb hby at_192) rfl ?_
      refine Ow.lstore X116 hx (pc' := 196) (hb hby at_194) (l' := #[.val (.long ylaw_1), .second, .val (.int xlaw_2), .val (.int xlaw_3), .val (.int xlaw_4), .val (.int xlaw_5), .val (.int xlaw_6), .val (.int v3), .val (.int v14), .val (.int v19), .val (.int v30), .val (.int ms51_0), .val (.int v56), .val (.ref b41), .val (.ref b107), .val (.int v150), .val (.int (0 : Int32)), .val (.long v190), .second, .val (.long v190), .second, .unset, .unset, .unset, .unset]) rfl ?_
      refine Ow.iload X116 hx (pc' := 198) (hb hby at_196) rfl ?_
      refine Ow.ifYes X116 hx (pc' := 254) (hb hby at_198) ((if0 _ _).trans (teq (by decide : (0 : Int32) = (0 : Int32))).1) (by decide) (by decide) ?_
      refine Ow.lload X116 hx (pc' := 256) (hb hby at_254) rfl ?_
      refine Ow.lconst X116 hx (pc' := 257) (hb hby at_256) (z := (0 : Int64)) rfl ?_
      refine Ow.lcmp X116 hx (pc' := 258) (hb hby at_257)  ?_
      refine Wq.by (U' := T116.setTop (mkF m 266 #[.val (.long ylaw_1), .second, .val (.int xlaw_2), .val (.int xlaw_3), .val (.int xlaw_4), .val (.int xlaw_5), .val (.int xlaw_6), .val (.int v3), .val (.int v14), .val (.int v19), .val (.int v30), .val (.int ms51_0), .val (.int v56), .val (.ref b41), .val (.ref b107), .val (.int v150), .val (.int (0 : Int32)), .val (.long v190), .second, .val (.long v190), .second, .unset, .unset, .unset, .unset] [(.int (if v190 = (0 : Int64) then (0 : Int32) else (1 : Int32)))])) (fun k => ?_) ?_
      · skip
        by_cases hm258 : v190 = (0 : Int64)
        · skip
          refine Ow.ifYes X116 hx (pc' := 265) (hb hby at_258) ((if0 _ _).trans (teq ((lw_eq _ _).mpr hm258)).1) (by decide) (by decide) ?_
          refine Ow.iconst X116 hx (pc' := 266) (hb hby at_265) (z := (0 : Int32)) rfl ?_
          simp only [if_pos hm258] at k
          exact k
        · skip
          refine Ow.ifNo X116 hx (pc' := 261) (hb hby at_258) ((if0 _ _).trans (feq (mt (lw_eq _ _).mp hm258)).1) ?_
          refine Ow.iconst X116 hx (pc' := 262) (hb hby at_261) (z := (1 : Int32)) rfl ?_
          refine Ow.goto X116 hx (pc' := 266) (hb hby at_262) (by decide) (by decide) ?_
          simp only [if_neg hm258] at k
          exact k
      show Wq _ _ _ _ _ (T116.setTop (mkF m 266 #[.val (.long ylaw_1), .second, .val (.int xlaw_2), .val (.int xlaw_3), .val (.int xlaw_4), .val (.int xlaw_5), .val (.int xlaw_6), .val (.int v3), .val (.int v14), .val (.int v19), .val (.int v30), .val (.int ms51_0), .val (.int v56), .val (.ref b41), .val (.ref b107), .val (.int v150), .val (.int (0 : Int32)), .val (.long v190), .second, .val (.long v190), .second, .unset, .unset, .unset, .unset] [(.int (if v190 = (0 : Int64) then (0 : Int32) else (1 : Int32)))]))
      generalize hms266_0 : (if v190 = (0 : Int64) then (0 : Int32) else (1 : Int32)) = ms266_0
      refine Ow.istore X116 hx (pc' := 268) (hb hby at_266) (l' := #[.val (.long ylaw_1), .second, .val (.int xlaw_2), .val (.int xlaw_3), .val (.int xlaw_4), .val (.int xlaw_5), .val (.int xlaw_6), .val (.int v3), .val (.int v14), .val (.int v19), .val (.int v30), .val (.int ms51_0), .val (.int v56), .val (.ref b41), .val (.ref b107), .val (.int v150), .val (.int (0 : Int32)), .val (.long v190), .second, .val (.long v190), .second, .val (.int ms266_0), .unset, .unset, .unset]) rfl ?_
      refine Ow.iload X116 hx (pc' := 270) (hb hby at_268) rfl ?_
      refine Ow.ifYes X116 hx (pc' := 281) (hb hby at_270) ((if0 _ _).trans (teq (by decide : (0 : Int32) = (0 : Int32))).1) (by decide) (by decide) ?_
      refine Ow.iconst X116 hx (pc' := 282) (hb hby at_281) (z := (1 : Int32)) rfl ?_
      refine Ow.goto X116 hx (pc' := 286) (hb hby at_282) (by decide) (by decide) ?_
      refine Ow.istore X116 hx (pc' := 288) (hb hby at_286) (l' := #[.val (.long ylaw_1), .second, .val (.int xlaw_2), .val (.int xlaw_3), .val (.int xlaw_4), .val (.int xlaw_5), .val (.int xlaw_6), .val (.int v3), .val (.int v14), .val (.int v19), .val (.int v30), .val (.int ms51_0), .val (.int v56), .val (.ref b41), .val (.ref b107), .val (.int v150), .val (.int (0 : Int32)), .val (.long v190), .second, .val (.long v190), .second, .val (.int ms266_0), .val (.int (1 : Int32)), .unset, .unset]) rfl ?_
      refine Ow.iload X116 hx (pc' := 290) (hb hby at_288) rfl ?_
      refine Ow.bipush X116 hx (pc' := 292) (hb hby at_290) (z := (7 : Int32)) rfl ?_
      refine Ow.iadd X116 hx (pc' := 293) (hb hby at_292) (z := (v14 + (7 : Int32))) rfl ?_
      refine Ow.bipush X116 hx (pc' := 295) (hb hby at_293) (z := (8 : Int32)) rfl ?_
      refine Ow.idiv X116 hx (pc' := 296) (hb hby at_295) (by decide : (8 : Int32) ≠ (0 : Int32)) (z := ((v14 + (7 : Int32)) / (8 : Int32))) rfl ?_
      refine Ow.istore X116 hx (pc' := 298) (hb hby at_296) (l' := #[.val (.long ylaw_1), .second, .val (.int xlaw_2), .val (.int xlaw_3), .val (.int xlaw_4), .val (.int xlaw_5), .val (.int xlaw_6), .val (.int v3), .val (.int v14), .val (.int v19), .val (.int v30), .val (.int ms51_0), .val (.int v56), .val (.ref b41), .val (.ref b107), .val (.int v150), .val (.int (0 : Int32)), .val (.long v190), .second, .val (.long v190), .second, .val (.int ms266_0), .val (.int (1 : Int32)), .val (.int ((v14 + (7 : Int32)) / (8 : Int32))), .unset]) rfl ?_
      generalize hv296 : ((v14 + (7 : Int32)) / (8 : Int32)) = v296
      have HO : v150 = ms266_0 := own_orO HB HQ (own_oc HB) (Or.inl hc159) hv150 hv190 hms266_0
      have HI := own_insO (w := ms51_0) HB HQ (own_oc HB) (Or.inl hc159) hv190
      refine Ow.iload X116 hx (pc' := 300) (hb hby at_298) rfl ?_
      refine Ow.iload X116 hx (pc' := 302) (hb hby at_300) rfl ?_
      refine Ow.icmpNo X116 hx (pc' := 305) (hb hby at_302) (teq (HO : v150 = ms266_0)).2 ?_
      refine Ow.iconst X116 hx (pc' := 306) (hb hby at_305) (z := (1 : Int32)) rfl ?_
      refine Ow.goto X116 hx (pc' := 310) (hb hby at_306) (by decide) (by decide) ?_
      refine Ow.istore X116 hx (pc' := 312) (hb hby at_310) (l' := #[.val (.long ylaw_1), .second, .val (.int xlaw_2), .val (.int xlaw_3), .val (.int xlaw_4), .val (.int xlaw_5), .val (.int xlaw_6), .val (.int v3), .val (.int v14), .val (.int v19), .val (.int v30), .val (.int ms51_0), .val (.int v56), .val (.ref b41), .val (.ref b107), .val (.int v150), .val (.int (0 : Int32)), .val (.long v190), .second, .val (.long v190), .second, .val (.int ms266_0), .val (.int (1 : Int32)), .val (.int v296), .val (.int (1 : Int32))]) rfl ?_
      refine Ow.iload X116 hx (pc' := 314) (hb hby at_312) rfl ?_
      refine Ow.ifNo X116 hx (pc' := 317) (hb hby at_314) ((if0 _ _).trans (feq (by decide : ¬ ((1 : Int32) = (0 : Int32)))).1) ?_
      refine Ow.aload X116 hx (pc' := 319) (hb hby at_317) rfl rfl ?_
      refine Ow.iconst X116 hx (pc' := 320) (hb hby at_319) (z := (0 : Int32)) rfl ?_
      refine Ow.iload X116 hx (pc' := 322) (hb hby at_320) rfl ?_
      refine Ow.iload X116 hx (pc' := 324) (hb hby at_322) rfl ?_
      refine Ow.lload X116 hx (pc' := 326) (hb hby at_324) rfl ?_
      refine Ow.iload X116 hx (pc' := 328) (hb hby at_326) rfl ?_
      refine Ow.iload X116 hx (pc' := 330) (hb hby at_328) rfl ?_
      obtain ⟨_, _, ⟨T118, L118, k118, n118⟩, -, X118, ⟨Lc118, hQ118, l118, y118, z118⟩, st118⟩ := Jvm.LawKit.callS X116 hx (y := mt2) hown (mvT hZ (kw10 hw)) (mvT hZ (kw11 hw)) (mvT hZ (kw3 hw)) (mvT hZ (kw12 hw)) (by decide) (backOf (W := 0) (rm_at l Z a0 hw [] b107 (0 : Int32) v19 v296 v190 v56 (1 : Int32) q117 (own_by (own_W ylaw_1 (own_n v3) (own_n v30) ms51_0) (own_n v19) (own_n v14) v56 0) T116.heap n0 Z116 (by decide) (by rw [hq117]; exact own_get HB v56 0 (by decide) (by decide)) P116_0) hZ (kw12 hw) (kw3 hw) (by decide) (by decide)) (g := (mkF m 330 #[.val (.long ylaw_1), .second, .val (.int xlaw_2), .val (.int xlaw_3), .val (.int xlaw_4), .val (.int xlaw_5), .val (.int xlaw_6), .val (.int v3), .val (.int v14), .val (.int v19), .val (.int v30), .val (.int ms51_0), .val (.int v56), .val (.ref b41), .val (.ref b107), .val (.int v150), .val (.int (0 : Int32)), .val (.long v190), .second, .val (.long v190), .second, .val (.int ms266_0), .val (.int (1 : Int32)), .val (.int v296), .val (.int (1 : Int32))] [(.int (1 : Int32)), (.int v56), (.long v190), (.int v296), (.int v19), (.int (0 : Int32)), (.ref b107)])) rfl (by rw [hml]; rfl) (argsL := [(.ref b107), (.int (0 : Int32)), (.int v19), (.int v296), (.long v190), (.int v56), (.int (1 : Int32))]) (rest := []) (lenOf pd3 rfl) rfl (by show 2 * 0 + _ ≤ _; exact Nat.le_of_eq rfl) (hb hby at_330) (fun _ _ => ⟨rfl, e116, (by decide : 2 + 0 ≤ _), (by decide : 28 + 0 ≤ _)⟩)
      dsimp only [Pt.U, Pt.locs, Pt.cells, Pt.slots] at X118 l118 y118 z118 st118 hQ118
      subst l118 y118 z118
      obtain ⟨rfl, Nq118, e118⟩ := hQ118
      have N118 := Fr.app N116 Nq118
      refine Wq.step st118 ?_
      show Wq _ _ _ _ _ (T118.setTop (mkF m 333 #[.val (.long ylaw_1), .second, .val (.int xlaw_2), .val (.int xlaw_3), .val (.int xlaw_4), .val (.int xlaw_5), .val (.int xlaw_6), .val (.int v3), .val (.int v14), .val (.int v19), .val (.int v30), .val (.int ms51_0), .val (.int v56), .val (.ref b41), .val (.ref b107), .val (.int v150), .val (.int (0 : Int32)), .val (.long v190), .second, .val (.long v190), .second, .val (.int ms266_0), .val (.int (1 : Int32)), .val (.int v296), .val (.int (1 : Int32))] [(.int (f_at (0 : Int32) v19 v296 v190 v56 (1 : Int32) (own_by (own_W ylaw_1 (own_n v3) (own_n v30) ms51_0) (own_n v19) (own_n v14) v56 0)))]))
      generalize hv330 : (f_at (0 : Int32) v19 v296 v190 v56 (1 : Int32) (own_by (own_W ylaw_1 (own_n v3) (own_n v30) ms51_0) (own_n v19) (own_n v14) v56 0)) = v330
      show Wq _ _ _ _ _ (T118.setTop (mkF m 333 #[.val (.long ylaw_1), .second, .val (.int xlaw_2), .val (.int xlaw_3), .val (.int xlaw_4), .val (.int xlaw_5), .val (.int xlaw_6), .val (.int v3), .val (.int v14), .val (.int v19), .val (.int v30), .val (.int ms51_0), .val (.int v56), .val (.ref b41), .val (.ref b107), .val (.int v150), .val (.int (0 : Int32)), .val (.long v190), .second, .val (.long v190), .second, .val (.int ms266_0), .val (.int (1 : Int32)), .val (.int v296), .val (.int (1 : Int32))] [(.int v330)]))
      refine Ow.ifNo X118 hx (pc' := 336) (hb hby at_333) ((if0 _ _).trans (feq (own_at HB hv296 (Or.inr HI) 0 (by decide) hv330 : ¬ (v330 = (0 : Int32)))).1) ?_
      refine Ow.iconst X118 hx (pc' := 337) (hb hby at_336) (z := (1 : Int32)) rfl ?_
      refine Ow.goto X118 hx (pc' := 341) (hb hby at_337) (by decide) (by decide) ?_
      refine Ow.istore X118 hx (pc' := 343) (hb hby at_341) (l' := #[.val (.long ylaw_1), .second, .val (.int xlaw_2), .val (.int xlaw_3), .val (.int xlaw_4), .val (.int xlaw_5), .val (.int xlaw_6), .val (.int v3), .val (.int v14), .val (.int v19), .val (.int v30), .val (.int ms51_0), .val (.int v56), .val (.ref b41), .val (.ref b107), .val (.int v150), .val (.int (0 : Int32)), .val (.long v190), .second, .val (.long v190), .second, .val (.int ms266_0), .val (.int (1 : Int32)), .val (.int v296), .val (.int (1 : Int32))]) rfl ?_
      refine Ow.iload X118 hx (pc' := 345) (hb hby at_343) rfl ?_
      refine Ow.ifNo X118 hx (pc' := 348) (hb hby at_345) ((if0 _ _).trans (feq (by decide : ¬ ((1 : Int32) = (0 : Int32)))).1) ?_
      refine Ow.aload X118 hx (pc' := 350) (hb hby at_348) rfl rfl ?_
      refine Ow.iconst X118 hx (pc' := 351) (hb hby at_350) (z := (1 : Int32)) rfl ?_
      refine Ow.iload X118 hx (pc' := 353) (hb hby at_351) rfl ?_
      refine Ow.iload X118 hx (pc' := 355) (hb hby at_353) rfl ?_
      refine Ow.lload X118 hx (pc' := 357) (hb hby at_355) rfl ?_
      refine Ow.iload X118 hx (pc' := 359) (hb hby at_357) rfl ?_
      refine Ow.iload X118 hx (pc' := 361) (hb hby at_359) rfl ?_
      obtain ⟨_, _, ⟨T119, L119, k119, n119⟩, -, X119, ⟨Lc119, hQ119, l119, y119, z119⟩, st119⟩ := Jvm.LawKit.callS X118 hx (y := mt2) hown (mvT hZ (kw10 hw)) (mvT hZ (kw11 hw)) (mvT hZ (kw3 hw)) (mvT hZ (kw12 hw)) (by decide) (backOf (W := 0) (rm_at l Z a0 hw [] b107 (1 : Int32) v19 v296 v190 v56 (1 : Int32) q117 (own_by (own_W ylaw_1 (own_n v3) (own_n v30) ms51_0) (own_n v19) (own_n v14) v56 1) T116.heap n0 Z116 (by decide) (by rw [hq117]; exact own_get HB v56 1 (by decide) (by decide)) P116_0) hZ (kw12 hw) (kw3 hw) (by decide) (by decide)) (g := (mkF m 361 #[.val (.long ylaw_1), .second, .val (.int xlaw_2), .val (.int xlaw_3), .val (.int xlaw_4), .val (.int xlaw_5), .val (.int xlaw_6), .val (.int v3), .val (.int v14), .val (.int v19), .val (.int v30), .val (.int ms51_0), .val (.int v56), .val (.ref b41), .val (.ref b107), .val (.int v150), .val (.int (0 : Int32)), .val (.long v190), .second, .val (.long v190), .second, .val (.int ms266_0), .val (.int (1 : Int32)), .val (.int v296), .val (.int (1 : Int32))] [(.int (1 : Int32)), (.int v56), (.long v190), (.int v296), (.int v19), (.int (1 : Int32)), (.ref b107)])) rfl (by rw [hml]; rfl) (argsL := [(.ref b107), (.int (1 : Int32)), (.int v19), (.int v296), (.long v190), (.int v56), (.int (1 : Int32))]) (rest := []) (lenOf pd3 rfl) rfl (by show 2 * 0 + _ ≤ _; exact Nat.le_of_eq rfl) (hb hby at_361) (fun _ _ => ⟨rfl, e118, (by decide : 2 + 0 ≤ _), (by decide : 28 + 0 ≤ _)⟩)
      dsimp only [Pt.U, Pt.locs, Pt.cells, Pt.slots] at X119 l119 y119 z119 st119 hQ119
      subst l119 y119 z119
      obtain ⟨rfl, Nq119, e119⟩ := hQ119
      have N119 := Fr.app N118 Nq119
      refine Wq.step st119 ?_
      show Wq _ _ _ _ _ (T119.setTop (mkF m 364 #[.val (.long ylaw_1), .second, .val (.int xlaw_2), .val (.int xlaw_3), .val (.int xlaw_4), .val (.int xlaw_5), .val (.int xlaw_6), .val (.int v3), .val (.int v14), .val (.int v19), .val (.int v30), .val (.int ms51_0), .val (.int v56), .val (.ref b41), .val (.ref b107), .val (.int v150), .val (.int (0 : Int32)), .val (.long v190), .second, .val (.long v190), .second, .val (.int ms266_0), .val (.int (1 : Int32)), .val (.int v296), .val (.int (1 : Int32))] [(.int (f_at (1 : Int32) v19 v296 v190 v56 (1 : Int32) (own_by (own_W ylaw_1 (own_n v3) (own_n v30) ms51_0) (own_n v19) (own_n v14) v56 1)))]))
      generalize hv361 : (f_at (1 : Int32) v19 v296 v190 v56 (1 : Int32) (own_by (own_W ylaw_1 (own_n v3) (own_n v30) ms51_0) (own_n v19) (own_n v14) v56 1)) = v361
      show Wq _ _ _ _ _ (T119.setTop (mkF m 364 #[.val (.long ylaw_1), .second, .val (.int xlaw_2), .val (.int xlaw_3), .val (.int xlaw_4), .val (.int xlaw_5), .val (.int xlaw_6), .val (.int v3), .val (.int v14), .val (.int v19), .val (.int v30), .val (.int ms51_0), .val (.int v56), .val (.ref b41), .val (.ref b107), .val (.int v150), .val (.int (0 : Int32)), .val (.long v190), .second, .val (.long v190), .second, .val (.int ms266_0), .val (.int (1 : Int32)), .val (.int v296), .val (.int (1 : Int32))] [(.int v361)]))
      refine Ow.ifNo X119 hx (pc' := 367) (hb hby at_364) ((if0 _ _).trans (feq (own_at HB hv296 (Or.inr HI) 1 (by decide) hv361 : ¬ (v361 = (0 : Int32)))).1) ?_
      refine Ow.iconst X119 hx (pc' := 368) (hb hby at_367) (z := (1 : Int32)) rfl ?_
      refine Ow.goto X119 hx (pc' := 372) (hb hby at_368) (by decide) (by decide) ?_
      refine Ow.istore X119 hx (pc' := 374) (hb hby at_372) (l' := #[.val (.long ylaw_1), .second, .val (.int xlaw_2), .val (.int xlaw_3), .val (.int xlaw_4), .val (.int xlaw_5), .val (.int xlaw_6), .val (.int v3), .val (.int v14), .val (.int v19), .val (.int v30), .val (.int ms51_0), .val (.int v56), .val (.ref b41), .val (.ref b107), .val (.int v150), .val (.int (0 : Int32)), .val (.long v190), .second, .val (.long v190), .second, .val (.int ms266_0), .val (.int (1 : Int32)), .val (.int v296), .val (.int (1 : Int32))]) rfl ?_
      refine Ow.iload X119 hx (pc' := 376) (hb hby at_374) rfl ?_
      refine Ow.ifNo X119 hx (pc' := 379) (hb hby at_376) ((if0 _ _).trans (feq (by decide : ¬ ((1 : Int32) = (0 : Int32)))).1) ?_
      refine Ow.aload X119 hx (pc' := 381) (hb hby at_379) rfl rfl ?_
      refine Ow.iconst X119 hx (pc' := 382) (hb hby at_381) (z := (2 : Int32)) rfl ?_
      refine Ow.iload X119 hx (pc' := 384) (hb hby at_382) rfl ?_
      refine Ow.iload X119 hx (pc' := 386) (hb hby at_384) rfl ?_
      refine Ow.lload X119 hx (pc' := 388) (hb hby at_386) rfl ?_
      refine Ow.iload X119 hx (pc' := 390) (hb hby at_388) rfl ?_
      refine Ow.iload X119 hx (pc' := 392) (hb hby at_390) rfl ?_
      obtain ⟨_, _, ⟨T120, L120, k120, n120⟩, -, X120, ⟨Lc120, hQ120, l120, y120, z120⟩, st120⟩ := Jvm.LawKit.callS X119 hx (y := mt2) hown (mvT hZ (kw10 hw)) (mvT hZ (kw11 hw)) (mvT hZ (kw3 hw)) (mvT hZ (kw12 hw)) (by decide) (backOf (W := 0) (rm_at l Z a0 hw [] b107 (2 : Int32) v19 v296 v190 v56 (1 : Int32) q117 (own_by (own_W ylaw_1 (own_n v3) (own_n v30) ms51_0) (own_n v19) (own_n v14) v56 2) T116.heap n0 Z116 (by decide) (by rw [hq117]; exact own_get HB v56 2 (by decide) (by decide)) P116_0) hZ (kw12 hw) (kw3 hw) (by decide) (by decide)) (g := (mkF m 392 #[.val (.long ylaw_1), .second, .val (.int xlaw_2), .val (.int xlaw_3), .val (.int xlaw_4), .val (.int xlaw_5), .val (.int xlaw_6), .val (.int v3), .val (.int v14), .val (.int v19), .val (.int v30), .val (.int ms51_0), .val (.int v56), .val (.ref b41), .val (.ref b107), .val (.int v150), .val (.int (0 : Int32)), .val (.long v190), .second, .val (.long v190), .second, .val (.int ms266_0), .val (.int (1 : Int32)), .val (.int v296), .val (.int (1 : Int32))] [(.int (1 : Int32)), (.int v56), (.long v190), (.int v296), (.int v19), (.int (2 : Int32)), (.ref b107)])) rfl (by rw [hml]; rfl) (argsL := [(.ref b107), (.int (2 : Int32)), (.int v19), (.int v296), (.long v190), (.int v56), (.int (1 : Int32))]) (rest := []) (lenOf pd3 rfl) rfl (by show 2 * 0 + _ ≤ _; exact Nat.le_of_eq rfl) (hb hby at_392) (fun _ _ => ⟨rfl, e119, (by decide : 2 + 0 ≤ _), (by decide : 28 + 0 ≤ _)⟩)
      dsimp only [Pt.U, Pt.locs, Pt.cells, Pt.slots] at X120 l120 y120 z120 st120 hQ120
      subst l120 y120 z120
      obtain ⟨rfl, Nq120, e120⟩ := hQ120
      have N120 := Fr.app N119 Nq120
      refine Wq.step st120 ?_
      show Wq _ _ _ _ _ (T120.setTop (mkF m 395 #[.val (.long ylaw_1), .second, .val (.int xlaw_2), .val (.int xlaw_3), .val (.int xlaw_4), .val (.int xlaw_5), .val (.int xlaw_6), .val (.int v3), .val (.int v14), .val (.int v19), .val (.int v30), .val (.int ms51_0), .val (.int v56), .val (.ref b41), .val (.ref b107), .val (.int v150), .val (.int (0 : Int32)), .val (.long v190), .second, .val (.long v190), .second, .val (.int ms266_0), .val (.int (1 : Int32)), .val (.int v296), .val (.int (1 : Int32))] [(.int (f_at (2 : Int32) v19 v296 v190 v56 (1 : Int32) (own_by (own_W ylaw_1 (own_n v3) (own_n v30) ms51_0) (own_n v19) (own_n v14) v56 2)))]))
      generalize hv392 : (f_at (2 : Int32) v19 v296 v190 v56 (1 : Int32) (own_by (own_W ylaw_1 (own_n v3) (own_n v30) ms51_0) (own_n v19) (own_n v14) v56 2)) = v392
      show Wq _ _ _ _ _ (T120.setTop (mkF m 395 #[.val (.long ylaw_1), .second, .val (.int xlaw_2), .val (.int xlaw_3), .val (.int xlaw_4), .val (.int xlaw_5), .val (.int xlaw_6), .val (.int v3), .val (.int v14), .val (.int v19), .val (.int v30), .val (.int ms51_0), .val (.int v56), .val (.ref b41), .val (.ref b107), .val (.int v150), .val (.int (0 : Int32)), .val (.long v190), .second, .val (.long v190), .second, .val (.int ms266_0), .val (.int (1 : Int32)), .val (.int v296), .val (.int (1 : Int32))] [(.int v392)]))
      refine Ow.ifNo X120 hx (pc' := 398) (hb hby at_395) ((if0 _ _).trans (feq (own_at HB hv296 (Or.inr HI) 2 (by decide) hv392 : ¬ (v392 = (0 : Int32)))).1) ?_
      refine Ow.iconst X120 hx (pc' := 399) (hb hby at_398) (z := (1 : Int32)) rfl ?_
      refine Ow.goto X120 hx (pc' := 403) (hb hby at_399) (by decide) (by decide) ?_
      refine Ow.istore X120 hx (pc' := 405) (hb hby at_403) (l' := #[.val (.long ylaw_1), .second, .val (.int xlaw_2), .val (.int xlaw_3), .val (.int xlaw_4), .val (.int xlaw_5), .val (.int xlaw_6), .val (.int v3), .val (.int v14), .val (.int v19), .val (.int v30), .val (.int ms51_0), .val (.int v56), .val (.ref b41), .val (.ref b107), .val (.int v150), .val (.int (0 : Int32)), .val (.long v190), .second, .val (.long v190), .second, .val (.int ms266_0), .val (.int (1 : Int32)), .val (.int v296), .val (.int (1 : Int32))]) rfl ?_
      refine Ow.iload X120 hx (pc' := 407) (hb hby at_405) rfl ?_
      refine Ow.ifNo X120 hx (pc' := 410) (hb hby at_407) ((if0 _ _).trans (feq (by decide : ¬ ((1 : Int32) = (0 : Int32)))).1) ?_
      refine Ow.aload X120 hx (pc' := 412) (hb hby at_410) rfl rfl ?_
      refine Ow.iconst X120 hx (pc' := 413) (hb hby at_412) (z := (3 : Int32)) rfl ?_
      refine Ow.iload X120 hx (pc' := 415) (hb hby at_413) rfl ?_
      refine Ow.iload X120 hx (pc' := 417) (hb hby at_415) rfl ?_
      refine Ow.lload X120 hx (pc' := 419) (hb hby at_417) rfl ?_
      refine Ow.iload X120 hx (pc' := 421) (hb hby at_419) rfl ?_
      refine Ow.iload X120 hx (pc' := 423) (hb hby at_421) rfl ?_
      obtain ⟨_, _, ⟨T121, L121, k121, n121⟩, -, X121, ⟨Lc121, hQ121, l121, y121, z121⟩, st121⟩ := Jvm.LawKit.callS X120 hx (y := mt2) hown (mvT hZ (kw10 hw)) (mvT hZ (kw11 hw)) (mvT hZ (kw3 hw)) (mvT hZ (kw12 hw)) (by decide) (backOf (W := 0) (rm_at l Z a0 hw [] b107 (3 : Int32) v19 v296 v190 v56 (1 : Int32) q117 (own_by (own_W ylaw_1 (own_n v3) (own_n v30) ms51_0) (own_n v19) (own_n v14) v56 3) T116.heap n0 Z116 (by decide) (by rw [hq117]; exact own_get HB v56 3 (by decide) (by decide)) P116_0) hZ (kw12 hw) (kw3 hw) (by decide) (by decide)) (g := (mkF m 423 #[.val (.long ylaw_1), .second, .val (.int xlaw_2), .val (.int xlaw_3), .val (.int xlaw_4), .val (.int xlaw_5), .val (.int xlaw_6), .val (.int v3), .val (.int v14), .val (.int v19), .val (.int v30), .val (.int ms51_0), .val (.int v56), .val (.ref b41), .val (.ref b107), .val (.int v150), .val (.int (0 : Int32)), .val (.long v190), .second, .val (.long v190), .second, .val (.int ms266_0), .val (.int (1 : Int32)), .val (.int v296), .val (.int (1 : Int32))] [(.int (1 : Int32)), (.int v56), (.long v190), (.int v296), (.int v19), (.int (3 : Int32)), (.ref b107)])) rfl (by rw [hml]; rfl) (argsL := [(.ref b107), (.int (3 : Int32)), (.int v19), (.int v296), (.long v190), (.int v56), (.int (1 : Int32))]) (rest := []) (lenOf pd3 rfl) rfl (by show 2 * 0 + _ ≤ _; exact Nat.le_of_eq rfl) (hb hby at_423) (fun _ _ => ⟨rfl, e120, (by decide : 2 + 0 ≤ _), (by decide : 28 + 0 ≤ _)⟩)
      dsimp only [Pt.U, Pt.locs, Pt.cells, Pt.slots] at X121 l121 y121 z121 st121 hQ121
      subst l121 y121 z121
      obtain ⟨rfl, Nq121, e121⟩ := hQ121
      have N121 := Fr.app N120 Nq121
      refine Wq.step st121 ?_
      show Wq _ _ _ _ _ (T121.setTop (mkF m 426 #[.val (.long ylaw_1), .second, .val (.int xlaw_2), .val (.int xlaw_3), .val (.int xlaw_4), .val (.int xlaw_5), .val (.int xlaw_6), .val (.int v3), .val (.int v14), .val (.int v19), .val (.int v30), .val (.int ms51_0), .val (.int v56), .val (.ref b41), .val (.ref b107), .val (.int v150), .val (.int (0 : Int32)), .val (.long v190), .second, .val (.long v190), .second, .val (.int ms266_0), .val (.int (1 : Int32)), .val (.int v296), .val (.int (1 : Int32))] [(.int (f_at (3 : Int32) v19 v296 v190 v56 (1 : Int32) (own_by (own_W ylaw_1 (own_n v3) (own_n v30) ms51_0) (own_n v19) (own_n v14) v56 3)))]))
      generalize hv423 : (f_at (3 : Int32) v19 v296 v190 v56 (1 : Int32) (own_by (own_W ylaw_1 (own_n v3) (own_n v30) ms51_0) (own_n v19) (own_n v14) v56 3)) = v423
      show Wq _ _ _ _ _ (T121.setTop (mkF m 426 #[.val (.long ylaw_1), .second, .val (.int xlaw_2), .val (.int xlaw_3), .val (.int xlaw_4), .val (.int xlaw_5), .val (.int xlaw_6), .val (.int v3), .val (.int v14), .val (.int v19), .val (.int v30), .val (.int ms51_0), .val (.int v56), .val (.ref b41), .val (.ref b107), .val (.int v150), .val (.int (0 : Int32)), .val (.long v190), .second, .val (.long v190), .second, .val (.int ms266_0), .val (.int (1 : Int32)), .val (.int v296), .val (.int (1 : Int32))] [(.int v423)]))
      refine Ow.ifNo X121 hx (pc' := 429) (hb hby at_426) ((if0 _ _).trans (feq (own_at HB hv296 (Or.inr HI) 3 (by decide) hv423 : ¬ (v423 = (0 : Int32)))).1) ?_
      refine Ow.iconst X121 hx (pc' := 430) (hb hby at_429) (z := (1 : Int32)) rfl ?_
      refine Ow.goto X121 hx (pc' := 434) (hb hby at_430) (by decide) (by decide) ?_
      refine Ow.istore X121 hx (pc' := 436) (hb hby at_434) (l' := #[.val (.long ylaw_1), .second, .val (.int xlaw_2), .val (.int xlaw_3), .val (.int xlaw_4), .val (.int xlaw_5), .val (.int xlaw_6), .val (.int v3), .val (.int v14), .val (.int v19), .val (.int v30), .val (.int ms51_0), .val (.int v56), .val (.ref b41), .val (.ref b107), .val (.int v150), .val (.int (0 : Int32)), .val (.long v190), .second, .val (.long v190), .second, .val (.int ms266_0), .val (.int (1 : Int32)), .val (.int v296), .val (.int (1 : Int32))]) rfl ?_
      refine Ow.iload X121 hx (pc' := 438) (hb hby at_436) rfl ?_
      refine Ow.ifNo X121 hx (pc' := 441) (hb hby at_438) ((if0 _ _).trans (feq (by decide : ¬ ((1 : Int32) = (0 : Int32)))).1) ?_
      refine Ow.aload X121 hx (pc' := 443) (hb hby at_441) rfl rfl ?_
      refine Ow.iconst X121 hx (pc' := 444) (hb hby at_443) (z := (4 : Int32)) rfl ?_
      refine Ow.iload X121 hx (pc' := 446) (hb hby at_444) rfl ?_
      refine Ow.iload X121 hx (pc' := 448) (hb hby at_446) rfl ?_
      refine Ow.lload X121 hx (pc' := 450) (hb hby at_448) rfl ?_
      refine Ow.iload X121 hx (pc' := 452) (hb hby at_450) rfl ?_
      refine Ow.iload X121 hx (pc' := 454) (hb hby at_452) rfl ?_
      obtain ⟨_, _, ⟨T122, L122, k122, n122⟩, -, X122, ⟨Lc122, hQ122, l122, y122, z122⟩, st122⟩ := Jvm.LawKit.callS X121 hx (y := mt2) hown (mvT hZ (kw10 hw)) (mvT hZ (kw11 hw)) (mvT hZ (kw3 hw)) (mvT hZ (kw12 hw)) (by decide) (backOf (W := 0) (rm_at l Z a0 hw [] b107 (4 : Int32) v19 v296 v190 v56 (1 : Int32) q117 (own_by (own_W ylaw_1 (own_n v3) (own_n v30) ms51_0) (own_n v19) (own_n v14) v56 4) T116.heap n0 Z116 (by decide) (by rw [hq117]; exact own_get HB v56 4 (by decide) (by decide)) P116_0) hZ (kw12 hw) (kw3 hw) (by decide) (by decide)) (g := (mkF m 454 #[.val (.long ylaw_1), .second, .val (.int xlaw_2), .val (.int xlaw_3), .val (.int xlaw_4), .val (.int xlaw_5), .val (.int xlaw_6), .val (.int v3), .val (.int v14), .val (.int v19), .val (.int v30), .val (.int ms51_0), .val (.int v56), .val (.ref b41), .val (.ref b107), .val (.int v150), .val (.int (0 : Int32)), .val (.long v190), .second, .val (.long v190), .second, .val (.int ms266_0), .val (.int (1 : Int32)), .val (.int v296), .val (.int (1 : Int32))] [(.int (1 : Int32)), (.int v56), (.long v190), (.int v296), (.int v19), (.int (4 : Int32)), (.ref b107)])) rfl (by rw [hml]; rfl) (argsL := [(.ref b107), (.int (4 : Int32)), (.int v19), (.int v296), (.long v190), (.int v56), (.int (1 : Int32))]) (rest := []) (lenOf pd3 rfl) rfl (by show 2 * 0 + _ ≤ _; exact Nat.le_of_eq rfl) (hb hby at_454) (fun _ _ => ⟨rfl, e121, (by decide : 2 + 0 ≤ _), (by decide : 28 + 0 ≤ _)⟩)
      dsimp only [Pt.U, Pt.locs, Pt.cells, Pt.slots] at X122 l122 y122 z122 st122 hQ122
      subst l122 y122 z122
      obtain ⟨rfl, Nq122, e122⟩ := hQ122
      have N122 := Fr.app N121 Nq122
      refine Wq.step st122 ?_
      show Wq _ _ _ _ _ (T122.setTop (mkF m 457 #[.val (.long ylaw_1), .second, .val (.int xlaw_2), .val (.int xlaw_3), .val (.int xlaw_4), .val (.int xlaw_5), .val (.int xlaw_6), .val (.int v3), .val (.int v14), .val (.int v19), .val (.int v30), .val (.int ms51_0), .val (.int v56), .val (.ref b41), .val (.ref b107), .val (.int v150), .val (.int (0 : Int32)), .val (.long v190), .second, .val (.long v190), .second, .val (.int ms266_0), .val (.int (1 : Int32)), .val (.int v296), .val (.int (1 : Int32))] [(.int (f_at (4 : Int32) v19 v296 v190 v56 (1 : Int32) (own_by (own_W ylaw_1 (own_n v3) (own_n v30) ms51_0) (own_n v19) (own_n v14) v56 4)))]))
      generalize hv454 : (f_at (4 : Int32) v19 v296 v190 v56 (1 : Int32) (own_by (own_W ylaw_1 (own_n v3) (own_n v30) ms51_0) (own_n v19) (own_n v14) v56 4)) = v454
      show Wq _ _ _ _ _ (T122.setTop (mkF m 457 #[.val (.long ylaw_1), .second, .val (.int xlaw_2), .val (.int xlaw_3), .val (.int xlaw_4), .val (.int xlaw_5), .val (.int xlaw_6), .val (.int v3), .val (.int v14), .val (.int v19), .val (.int v30), .val (.int ms51_0), .val (.int v56), .val (.ref b41), .val (.ref b107), .val (.int v150), .val (.int (0 : Int32)), .val (.long v190), .second, .val (.long v190), .second, .val (.int ms266_0), .val (.int (1 : Int32)), .val (.int v296), .val (.int (1 : Int32))] [(.int v454)]))
      refine Ow.ifNo X122 hx (pc' := 460) (hb hby at_457) ((if0 _ _).trans (feq (own_at HB hv296 (Or.inr HI) 4 (by decide) hv454 : ¬ (v454 = (0 : Int32)))).1) ?_
      refine Ow.iconst X122 hx (pc' := 461) (hb hby at_460) (z := (1 : Int32)) rfl ?_
      refine Ow.goto X122 hx (pc' := 465) (hb hby at_461) (by decide) (by decide) ?_
      refine Ow.istore X122 hx (pc' := 467) (hb hby at_465) (l' := #[.val (.long ylaw_1), .second, .val (.int xlaw_2), .val (.int xlaw_3), .val (.int xlaw_4), .val (.int xlaw_5), .val (.int xlaw_6), .val (.int v3), .val (.int v14), .val (.int v19), .val (.int v30), .val (.int ms51_0), .val (.int v56), .val (.ref b41), .val (.ref b107), .val (.int v150), .val (.int (0 : Int32)), .val (.long v190), .second, .val (.long v190), .second, .val (.int ms266_0), .val (.int (1 : Int32)), .val (.int v296), .val (.int (1 : Int32))]) rfl ?_
      refine Ow.iload X122 hx (pc' := 469) (hb hby at_467) rfl ?_
      refine Ow.ifNo X122 hx (pc' := 472) (hb hby at_469) ((if0 _ _).trans (feq (by decide : ¬ ((1 : Int32) = (0 : Int32)))).1) ?_
      refine Ow.aload X122 hx (pc' := 474) (hb hby at_472) rfl rfl ?_
      refine Ow.iconst X122 hx (pc' := 475) (hb hby at_474) (z := (5 : Int32)) rfl ?_
      refine Ow.iload X122 hx (pc' := 477) (hb hby at_475) rfl ?_
      refine Ow.iload X122 hx (pc' := 479) (hb hby at_477) rfl ?_
      refine Ow.lload X122 hx (pc' := 481) (hb hby at_479) rfl ?_
      refine Ow.iload X122 hx (pc' := 483) (hb hby at_481) rfl ?_
      refine Ow.iload X122 hx (pc' := 485) (hb hby at_483) rfl ?_
      obtain ⟨_, _, ⟨T123, L123, k123, n123⟩, -, X123, ⟨Lc123, hQ123, l123, y123, z123⟩, st123⟩ := Jvm.LawKit.callS X122 hx (y := mt2) hown (mvT hZ (kw10 hw)) (mvT hZ (kw11 hw)) (mvT hZ (kw3 hw)) (mvT hZ (kw12 hw)) (by decide) (backOf (W := 0) (rm_at l Z a0 hw [] b107 (5 : Int32) v19 v296 v190 v56 (1 : Int32) q117 (own_by (own_W ylaw_1 (own_n v3) (own_n v30) ms51_0) (own_n v19) (own_n v14) v56 5) T116.heap n0 Z116 (by decide) (by rw [hq117]; exact own_get HB v56 5 (by decide) (by decide)) P116_0) hZ (kw12 hw) (kw3 hw) (by decide) (by decide)) (g := (mkF m 485 #[.val (.long ylaw_1), .second, .val (.int xlaw_2), .val (.int xlaw_3), .val (.int xlaw_4), .val (.int xlaw_5), .val (.int xlaw_6), .val (.int v3), .val (.int v14), .val (.int v19), .val (.int v30), .val (.int ms51_0), .val (.int v56), .val (.ref b41), .val (.ref b107), .val (.int v150), .val (.int (0 : Int32)), .val (.long v190), .second, .val (.long v190), .second, .val (.int ms266_0), .val (.int (1 : Int32)), .val (.int v296), .val (.int (1 : Int32))] [(.int (1 : Int32)), (.int v56), (.long v190), (.int v296), (.int v19), (.int (5 : Int32)), (.ref b107)])) rfl (by rw [hml]; rfl) (argsL := [(.ref b107), (.int (5 : Int32)), (.int v19), (.int v296), (.long v190), (.int v56), (.int (1 : Int32))]) (rest := []) (lenOf pd3 rfl) rfl (by show 2 * 0 + _ ≤ _; exact Nat.le_of_eq rfl) (hb hby at_485) (fun _ _ => ⟨rfl, e122, (by decide : 2 + 0 ≤ _), (by decide : 28 + 0 ≤ _)⟩)
      dsimp only [Pt.U, Pt.locs, Pt.cells, Pt.slots] at X123 l123 y123 z123 st123 hQ123
      subst l123 y123 z123
      obtain ⟨rfl, Nq123, e123⟩ := hQ123
      have N123 := Fr.app N122 Nq123
      refine Wq.step st123 ?_
      show Wq _ _ _ _ _ (T123.setTop (mkF m 488 #[.val (.long ylaw_1), .second, .val (.int xlaw_2), .val (.int xlaw_3), .val (.int xlaw_4), .val (.int xlaw_5), .val (.int xlaw_6), .val (.int v3), .val (.int v14), .val (.int v19), .val (.int v30), .val (.int ms51_0), .val (.int v56), .val (.ref b41), .val (.ref b107), .val (.int v150), .val (.int (0 : Int32)), .val (.long v190), .second, .val (.long v190), .second, .val (.int ms266_0), .val (.int (1 : Int32)), .val (.int v296), .val (.int (1 : Int32))] [(.int (f_at (5 : Int32) v19 v296 v190 v56 (1 : Int32) (own_by (own_W ylaw_1 (own_n v3) (own_n v30) ms51_0) (own_n v19) (own_n v14) v56 5)))]))
      generalize hv485 : (f_at (5 : Int32) v19 v296 v190 v56 (1 : Int32) (own_by (own_W ylaw_1 (own_n v3) (own_n v30) ms51_0) (own_n v19) (own_n v14) v56 5)) = v485
      show Wq _ _ _ _ _ (T123.setTop (mkF m 488 #[.val (.long ylaw_1), .second, .val (.int xlaw_2), .val (.int xlaw_3), .val (.int xlaw_4), .val (.int xlaw_5), .val (.int xlaw_6), .val (.int v3), .val (.int v14), .val (.int v19), .val (.int v30), .val (.int ms51_0), .val (.int v56), .val (.ref b41), .val (.ref b107), .val (.int v150), .val (.int (0 : Int32)), .val (.long v190), .second, .val (.long v190), .second, .val (.int ms266_0), .val (.int (1 : Int32)), .val (.int v296), .val (.int (1 : Int32))] [(.int v485)]))
      refine Ow.ifNo X123 hx (pc' := 491) (hb hby at_488) ((if0 _ _).trans (feq (own_at HB hv296 (Or.inr HI) 5 (by decide) hv485 : ¬ (v485 = (0 : Int32)))).1) ?_
      refine Ow.iconst X123 hx (pc' := 492) (hb hby at_491) (z := (1 : Int32)) rfl ?_
      refine Ow.goto X123 hx (pc' := 496) (hb hby at_492) (by decide) (by decide) ?_
      refine Ow.istore X123 hx (pc' := 498) (hb hby at_496) (l' := #[.val (.long ylaw_1), .second, .val (.int xlaw_2), .val (.int xlaw_3), .val (.int xlaw_4), .val (.int xlaw_5), .val (.int xlaw_6), .val (.int v3), .val (.int v14), .val (.int v19), .val (.int v30), .val (.int ms51_0), .val (.int v56), .val (.ref b41), .val (.ref b107), .val (.int v150), .val (.int (0 : Int32)), .val (.long v190), .second, .val (.long v190), .second, .val (.int ms266_0), .val (.int (1 : Int32)), .val (.int v296), .val (.int (1 : Int32))]) rfl ?_
      refine Ow.iload X123 hx (pc' := 500) (hb hby at_498) rfl ?_
      refine Ow.ifNo X123 hx (pc' := 503) (hb hby at_500) ((if0 _ _).trans (feq (by decide : ¬ ((1 : Int32) = (0 : Int32)))).1) ?_
      refine Ow.aload X123 hx (pc' := 505) (hb hby at_503) rfl rfl ?_
      refine Ow.bipush X123 hx (pc' := 507) (hb hby at_505) (z := (6 : Int32)) rfl ?_
      refine Ow.iload X123 hx (pc' := 509) (hb hby at_507) rfl ?_
      refine Ow.iload X123 hx (pc' := 511) (hb hby at_509) rfl ?_
      refine Ow.lload X123 hx (pc' := 513) (hb hby at_511) rfl ?_
      refine Ow.iload X123 hx (pc' := 515) (hb hby at_513) rfl ?_
      refine Ow.iload X123 hx (pc' := 517) (hb hby at_515) rfl ?_
      obtain ⟨_, _, ⟨T124, L124, k124, n124⟩, -, X124, ⟨Lc124, hQ124, l124, y124, z124⟩, st124⟩ := Jvm.LawKit.callS X123 hx (y := mt2) hown (mvT hZ (kw10 hw)) (mvT hZ (kw11 hw)) (mvT hZ (kw3 hw)) (mvT hZ (kw12 hw)) (by decide) (backOf (W := 0) (rm_at l Z a0 hw [] b107 (6 : Int32) v19 v296 v190 v56 (1 : Int32) q117 (own_by (own_W ylaw_1 (own_n v3) (own_n v30) ms51_0) (own_n v19) (own_n v14) v56 6) T116.heap n0 Z116 (by decide) (by rw [hq117]; exact own_get HB v56 6 (by decide) (by decide)) P116_0) hZ (kw12 hw) (kw3 hw) (by decide) (by decide)) (g := (mkF m 517 #[.val (.long ylaw_1), .second, .val (.int xlaw_2), .val (.int xlaw_3), .val (.int xlaw_4), .val (.int xlaw_5), .val (.int xlaw_6), .val (.int v3), .val (.int v14), .val (.int v19), .val (.int v30), .val (.int ms51_0), .val (.int v56), .val (.ref b41), .val (.ref b107), .val (.int v150), .val (.int (0 : Int32)), .val (.long v190), .second, .val (.long v190), .second, .val (.int ms266_0), .val (.int (1 : Int32)), .val (.int v296), .val (.int (1 : Int32))] [(.int (1 : Int32)), (.int v56), (.long v190), (.int v296), (.int v19), (.int (6 : Int32)), (.ref b107)])) rfl (by rw [hml]; rfl) (argsL := [(.ref b107), (.int (6 : Int32)), (.int v19), (.int v296), (.long v190), (.int v56), (.int (1 : Int32))]) (rest := []) (lenOf pd3 rfl) rfl (by show 2 * 0 + _ ≤ _; exact Nat.le_of_eq rfl) (hb hby at_517) (fun _ _ => ⟨rfl, e123, (by decide : 2 + 0 ≤ _), (by decide : 28 + 0 ≤ _)⟩)
      dsimp only [Pt.U, Pt.locs, Pt.cells, Pt.slots] at X124 l124 y124 z124 st124 hQ124
      subst l124 y124 z124
      obtain ⟨rfl, Nq124, e124⟩ := hQ124
      have N124 := Fr.app N123 Nq124
      refine Wq.step st124 ?_
      show Wq _ _ _ _ _ (T124.setTop (mkF m 520 #[.val (.long ylaw_1), .second, .val (.int xlaw_2), .val (.int xlaw_3), .val (.int xlaw_4), .val (.int xlaw_5), .val (.int xlaw_6), .val (.int v3), .val (.int v14), .val (.int v19), .val (.int v30), .val (.int ms51_0), .val (.int v56), .val (.ref b41), .val (.ref b107), .val (.int v150), .val (.int (0 : Int32)), .val (.long v190), .second, .val (.long v190), .second, .val (.int ms266_0), .val (.int (1 : Int32)), .val (.int v296), .val (.int (1 : Int32))] [(.int (f_at (6 : Int32) v19 v296 v190 v56 (1 : Int32) (own_by (own_W ylaw_1 (own_n v3) (own_n v30) ms51_0) (own_n v19) (own_n v14) v56 6)))]))
      generalize hv517 : (f_at (6 : Int32) v19 v296 v190 v56 (1 : Int32) (own_by (own_W ylaw_1 (own_n v3) (own_n v30) ms51_0) (own_n v19) (own_n v14) v56 6)) = v517
      show Wq _ _ _ _ _ (T124.setTop (mkF m 520 #[.val (.long ylaw_1), .second, .val (.int xlaw_2), .val (.int xlaw_3), .val (.int xlaw_4), .val (.int xlaw_5), .val (.int xlaw_6), .val (.int v3), .val (.int v14), .val (.int v19), .val (.int v30), .val (.int ms51_0), .val (.int v56), .val (.ref b41), .val (.ref b107), .val (.int v150), .val (.int (0 : Int32)), .val (.long v190), .second, .val (.long v190), .second, .val (.int ms266_0), .val (.int (1 : Int32)), .val (.int v296), .val (.int (1 : Int32))] [(.int v517)]))
      refine Ow.ifNo X124 hx (pc' := 523) (hb hby at_520) ((if0 _ _).trans (feq (own_at HB hv296 (Or.inr HI) 6 (by decide) hv517 : ¬ (v517 = (0 : Int32)))).1) ?_
      refine Ow.iconst X124 hx (pc' := 524) (hb hby at_523) (z := (1 : Int32)) rfl ?_
      refine Ow.goto X124 hx (pc' := 528) (hb hby at_524) (by decide) (by decide) ?_
      refine Ow.istore X124 hx (pc' := 530) (hb hby at_528) (l' := #[.val (.long ylaw_1), .second, .val (.int xlaw_2), .val (.int xlaw_3), .val (.int xlaw_4), .val (.int xlaw_5), .val (.int xlaw_6), .val (.int v3), .val (.int v14), .val (.int v19), .val (.int v30), .val (.int ms51_0), .val (.int v56), .val (.ref b41), .val (.ref b107), .val (.int v150), .val (.int (0 : Int32)), .val (.long v190), .second, .val (.long v190), .second, .val (.int ms266_0), .val (.int (1 : Int32)), .val (.int v296), .val (.int (1 : Int32))]) rfl ?_
      refine Ow.iload X124 hx (pc' := 532) (hb hby at_530) rfl ?_
      refine Ow.ifNo X124 hx (pc' := 535) (hb hby at_532) ((if0 _ _).trans (feq (by decide : ¬ ((1 : Int32) = (0 : Int32)))).1) ?_
      refine Ow.aload X124 hx (pc' := 537) (hb hby at_535) rfl rfl ?_
      refine Ow.bipush X124 hx (pc' := 539) (hb hby at_537) (z := (7 : Int32)) rfl ?_
      refine Ow.iload X124 hx (pc' := 541) (hb hby at_539) rfl ?_
      refine Ow.iload X124 hx (pc' := 543) (hb hby at_541) rfl ?_
      refine Ow.lload X124 hx (pc' := 545) (hb hby at_543) rfl ?_
      refine Ow.iload X124 hx (pc' := 547) (hb hby at_545) rfl ?_
      refine Ow.iload X124 hx (pc' := 549) (hb hby at_547) rfl ?_
      obtain ⟨_, _, ⟨T125, L125, k125, n125⟩, -, X125, ⟨Lc125, hQ125, l125, y125, z125⟩, st125⟩ := Jvm.LawKit.callS X124 hx (y := mt2) hown (mvT hZ (kw10 hw)) (mvT hZ (kw11 hw)) (mvT hZ (kw3 hw)) (mvT hZ (kw12 hw)) (by decide) (backOf (W := 0) (rm_at l Z a0 hw [] b107 (7 : Int32) v19 v296 v190 v56 (1 : Int32) q117 (own_by (own_W ylaw_1 (own_n v3) (own_n v30) ms51_0) (own_n v19) (own_n v14) v56 7) T116.heap n0 Z116 (by decide) (by rw [hq117]; exact own_get HB v56 7 (by decide) (by decide)) P116_0) hZ (kw12 hw) (kw3 hw) (by decide) (by decide)) (g := (mkF m 549 #[.val (.long ylaw_1), .second, .val (.int xlaw_2), .val (.int xlaw_3), .val (.int xlaw_4), .val (.int xlaw_5), .val (.int xlaw_6), .val (.int v3), .val (.int v14), .val (.int v19), .val (.int v30), .val (.int ms51_0), .val (.int v56), .val (.ref b41), .val (.ref b107), .val (.int v150), .val (.int (0 : Int32)), .val (.long v190), .second, .val (.long v190), .second, .val (.int ms266_0), .val (.int (1 : Int32)), .val (.int v296), .val (.int (1 : Int32))] [(.int (1 : Int32)), (.int v56), (.long v190), (.int v296), (.int v19), (.int (7 : Int32)), (.ref b107)])) rfl (by rw [hml]; rfl) (argsL := [(.ref b107), (.int (7 : Int32)), (.int v19), (.int v296), (.long v190), (.int v56), (.int (1 : Int32))]) (rest := []) (lenOf pd3 rfl) rfl (by show 2 * 0 + _ ≤ _; exact Nat.le_of_eq rfl) (hb hby at_549) (fun _ _ => ⟨rfl, e124, (by decide : 2 + 0 ≤ _), (by decide : 28 + 0 ≤ _)⟩)
      dsimp only [Pt.U, Pt.locs, Pt.cells, Pt.slots] at X125 l125 y125 z125 st125 hQ125
      subst l125 y125 z125
      obtain ⟨rfl, Nq125, e125⟩ := hQ125
      have N125 := Fr.app N124 Nq125
      refine Wq.step st125 ?_
      show Wq _ _ _ _ _ (T125.setTop (mkF m 552 #[.val (.long ylaw_1), .second, .val (.int xlaw_2), .val (.int xlaw_3), .val (.int xlaw_4), .val (.int xlaw_5), .val (.int xlaw_6), .val (.int v3), .val (.int v14), .val (.int v19), .val (.int v30), .val (.int ms51_0), .val (.int v56), .val (.ref b41), .val (.ref b107), .val (.int v150), .val (.int (0 : Int32)), .val (.long v190), .second, .val (.long v190), .second, .val (.int ms266_0), .val (.int (1 : Int32)), .val (.int v296), .val (.int (1 : Int32))] [(.int (f_at (7 : Int32) v19 v296 v190 v56 (1 : Int32) (own_by (own_W ylaw_1 (own_n v3) (own_n v30) ms51_0) (own_n v19) (own_n v14) v56 7)))]))
      generalize hv549 : (f_at (7 : Int32) v19 v296 v190 v56 (1 : Int32) (own_by (own_W ylaw_1 (own_n v3) (own_n v30) ms51_0) (own_n v19) (own_n v14) v56 7)) = v549
      show Wq _ _ _ _ _ (T125.setTop (mkF m 552 #[.val (.long ylaw_1), .second, .val (.int xlaw_2), .val (.int xlaw_3), .val (.int xlaw_4), .val (.int xlaw_5), .val (.int xlaw_6), .val (.int v3), .val (.int v14), .val (.int v19), .val (.int v30), .val (.int ms51_0), .val (.int v56), .val (.ref b41), .val (.ref b107), .val (.int v150), .val (.int (0 : Int32)), .val (.long v190), .second, .val (.long v190), .second, .val (.int ms266_0), .val (.int (1 : Int32)), .val (.int v296), .val (.int (1 : Int32))] [(.int v549)]))
      refine Ow.ifNo X125 hx (pc' := 555) (hb hby at_552) ((if0 _ _).trans (feq (own_at HB hv296 (Or.inr HI) 7 (by decide) hv549 : ¬ (v549 = (0 : Int32)))).1) ?_
      refine Ow.iconst X125 hx (pc' := 556) (hb hby at_555) (z := (1 : Int32)) rfl ?_
      refine Ow.goto X125 hx (pc' := 560) (hb hby at_556) (by decide) (by decide) ?_
      refine Ow.istore X125 hx (pc' := 562) (hb hby at_560) (l' := #[.val (.long ylaw_1), .second, .val (.int xlaw_2), .val (.int xlaw_3), .val (.int xlaw_4), .val (.int xlaw_5), .val (.int xlaw_6), .val (.int v3), .val (.int v14), .val (.int v19), .val (.int v30), .val (.int ms51_0), .val (.int v56), .val (.ref b41), .val (.ref b107), .val (.int v150), .val (.int (0 : Int32)), .val (.long v190), .second, .val (.long v190), .second, .val (.int ms266_0), .val (.int (1 : Int32)), .val (.int v296), .val (.int (1 : Int32))]) rfl ?_
      refine Ow.iload X125 hx (pc' := 564) (hb hby at_562) rfl ?_
      exact Wq.ret X125 (BodyLoose.notSynchronized Bd) (rv := some (.int (1 : Int32))) (fun h => by rw [Bd.returns] at h; cases h) (fun _ hr => retN X125 hx (t := .boolean) Bd.returns (by simp) (hb hby at_564) hr) (by decide) (by decide) ⟨rfl, N125⟩
    · skip
      refine Ow.icmpNo X116 hx (pc' := 162) (hb hby at_159) (flt hc159).1 ?_
      refine Ow.iload X116 hx (pc' := 164) (hb hby at_162) rfl ?_
      refine Ow.iload X116 hx (pc' := 166) (hb hby at_164) rfl ?_
      refine Ow.iload X116 hx (pc' := 168) (hb hby at_166) rfl ?_
      refine Ow.iadd X116 hx (pc' := 169) (hb hby at_168) (z := (v3 + v14)) rfl ?_
      refine Ow.icmpYes X116 hx (pc' := 176) (hb hby at_169) (flt (own_far HB HP : ¬ (v30 < (v3 + v14)))).2.1 (by decide) (by decide) ?_
      refine Ow.iconst X116 hx (pc' := 177) (hb hby at_176) (z := (0 : Int32)) rfl ?_
      refine Ow.istore X116 hx (pc' := 179) (hb hby at_177) (l' := #[.val (.long ylaw_1), .second, .val (.int xlaw_2), .val (.int xlaw_3), .val (.int xlaw_4), .val (.int xlaw_5), .val (.int xlaw_6), .val (.int v3), .val (.int v14), .val (.int v19), .val (.int v30), .val (.int ms51_0), .val (.int v56), .val (.ref b41), .val (.ref b107), .val (.int v150), .val (.int (0 : Int32)), .unset, .unset, .unset, .unset, .unset, .unset, .unset, .unset]) rfl ?_
      refine Ow.lloadN X116 hx (pc' := 180) (hb hby at_179) rfl ?_
      refine Ow.iload X116 hx (pc' := 182) (hb hby at_180) rfl ?_
      refine Ow.lushr X116 hx (pc' := 183) (hb hby at_182) (z := ((ylaw_1.toUInt64 >>> (v3 &&& 0x3f).toInt64.toUInt64).toInt64)) rfl ?_
      refine Ow.lconst X116 hx (pc' := 184) (hb hby at_183) (z := (1 : Int64)) rfl ?_
      refine Ow.iload X116 hx (pc' := 186) (hb hby at_184) rfl ?_
      refine Ow.lshl X116 hx (pc' := 187) (hb hby at_186) (z := ((1 : Int64) <<< (v14 &&& 0x3f).toInt64)) rfl ?_
      refine Ow.lconst X116 hx (pc' := 188) (hb hby at_187) (z := (1 : Int64)) rfl ?_
      refine Ow.lsub X116 hx (pc' := 189) (hb hby at_188) (z := (((1 : Int64) <<< (v14 &&& 0x3f).toInt64) - (1 : Int64))) rfl ?_
      refine Ow.land X116 hx (pc' := 190) (hb hby at_189) (z := (((ylaw_1.toUInt64 >>> (v3 &&& 0x3f).toInt64.toUInt64).toInt64) &&& (((1 : Int64) <<< (v14 &&& 0x3f).toInt64) - (1 : Int64)))) rfl ?_
      refine Ow.lstore X116 hx (pc' := 192) (hb hby at_190) (l' := #[.val (.long ylaw_1), .second, .val (.int xlaw_2), .val (.int xlaw_3), .val (.int xlaw_4), .val (.int xlaw_5), .val (.int xlaw_6), .val (.int v3), .val (.int v14), .val (.int v19), .val (.int v30), .val (.int ms51_0), .val (.int v56), .val (.ref b41), .val (.ref b107), .val (.int v150), .val (.int (0 : Int32)), .val (.long (((ylaw_1.toUInt64 >>> (v3 &&& 0x3f).toInt64.toUInt64).toInt64) &&& (((1 : Int64) <<< (v14 &&& 0x3f).toInt64) - (1 : Int64)))), .second, .unset, .unset, .unset, .unset, .unset, .unset]) rfl ?_
      generalize hv190 : (((ylaw_1.toUInt64 >>> (v3 &&& 0x3f).toInt64.toUInt64).toInt64) &&& (((1 : Int64) <<< (v14 &&& 0x3f).toInt64) - (1 : Int64))) = v190
      refine Ow.lload X116 hx (pc' := 194) (hb hby at_192) rfl ?_
      refine Ow.lstore X116 hx (pc' := 196) (hb hby at_194) (l' := #[.val (.long ylaw_1), .second, .val (.int xlaw_2), .val (.int xlaw_3), .val (.int xlaw_4), .val (.int xlaw_5), .val (.int xlaw_6), .val (.int v3), .val (.int v14), .val (.int v19), .val (.int v30), .val (.int ms51_0), .val (.int v56), .val (.ref b41), .val (.ref b107), .val (.int v150), .val (.int (0 : Int32)), .val (.long v190), .second, .val (.long v190), .second, .unset, .unset, .unset, .unset]) rfl ?_
      refine Ow.iload X116 hx (pc' := 198) (hb hby at_196) rfl ?_
      refine Ow.ifYes X116 hx (pc' := 254) (hb hby at_198) ((if0 _ _).trans (teq (by decide : (0 : Int32) = (0 : Int32))).1) (by decide) (by decide) ?_
      refine Ow.lload X116 hx (pc' := 256) (hb hby at_254) rfl ?_
      refine Ow.lconst X116 hx (pc' := 257) (hb hby at_256) (z := (0 : Int64)) rfl ?_
      refine Ow.lcmp X116 hx (pc' := 258) (hb hby at_257)  ?_
      refine Wq.by (U' := T116.setTop (mkF m 266 #[.val (.long ylaw_1), .second, .val (.int xlaw_2), .val (.int xlaw_3), .val (.int xlaw_4), .val (.int xlaw_5), .val (.int xlaw_6), .val (.int v3), .val (.int v14), .val (.int v19), .val (.int v30), .val (.int ms51_0), .val (.int v56), .val (.ref b41), .val (.ref b107), .val (.int v150), .val (.int (0 : Int32)), .val (.long v190), .second, .val (.long v190), .second, .unset, .unset, .unset, .unset] [(.int (if v190 = (0 : Int64) then (0 : Int32) else (1 : Int32)))])) (fun k => ?_) ?_
      · skip
        by_cases hm258 : v190 = (0 : Int64)
        · skip
          refine Ow.ifYes X116 hx (pc' := 265) (hb hby at_258) ((if0 _ _).trans (teq ((lw_eq _ _).mpr hm258)).1) (by decide) (by decide) ?_
          refine Ow.iconst X116 hx (pc' := 266) (hb hby at_265) (z := (0 : Int32)) rfl ?_
          simp only [if_pos hm258] at k
          exact k
        · skip
          refine Ow.ifNo X116 hx (pc' := 261) (hb hby at_258) ((if0 _ _).trans (feq (mt (lw_eq _ _).mp hm258)).1) ?_
          refine Ow.iconst X116 hx (pc' := 262) (hb hby at_261) (z := (1 : Int32)) rfl ?_
          refine Ow.goto X116 hx (pc' := 266) (hb hby at_262) (by decide) (by decide) ?_
          simp only [if_neg hm258] at k
          exact k
      show Wq _ _ _ _ _ (T116.setTop (mkF m 266 #[.val (.long ylaw_1), .second, .val (.int xlaw_2), .val (.int xlaw_3), .val (.int xlaw_4), .val (.int xlaw_5), .val (.int xlaw_6), .val (.int v3), .val (.int v14), .val (.int v19), .val (.int v30), .val (.int ms51_0), .val (.int v56), .val (.ref b41), .val (.ref b107), .val (.int v150), .val (.int (0 : Int32)), .val (.long v190), .second, .val (.long v190), .second, .unset, .unset, .unset, .unset] [(.int (if v190 = (0 : Int64) then (0 : Int32) else (1 : Int32)))]))
      generalize hms266_0 : (if v190 = (0 : Int64) then (0 : Int32) else (1 : Int32)) = ms266_0
      refine Ow.istore X116 hx (pc' := 268) (hb hby at_266) (l' := #[.val (.long ylaw_1), .second, .val (.int xlaw_2), .val (.int xlaw_3), .val (.int xlaw_4), .val (.int xlaw_5), .val (.int xlaw_6), .val (.int v3), .val (.int v14), .val (.int v19), .val (.int v30), .val (.int ms51_0), .val (.int v56), .val (.ref b41), .val (.ref b107), .val (.int v150), .val (.int (0 : Int32)), .val (.long v190), .second, .val (.long v190), .second, .val (.int ms266_0), .unset, .unset, .unset]) rfl ?_
      refine Ow.iload X116 hx (pc' := 270) (hb hby at_268) rfl ?_
      refine Ow.ifYes X116 hx (pc' := 281) (hb hby at_270) ((if0 _ _).trans (teq (by decide : (0 : Int32) = (0 : Int32))).1) (by decide) (by decide) ?_
      refine Ow.iconst X116 hx (pc' := 282) (hb hby at_281) (z := (1 : Int32)) rfl ?_
      refine Ow.goto X116 hx (pc' := 286) (hb hby at_282) (by decide) (by decide) ?_
      refine Ow.istore X116 hx (pc' := 288) (hb hby at_286) (l' := #[.val (.long ylaw_1), .second, .val (.int xlaw_2), .val (.int xlaw_3), .val (.int xlaw_4), .val (.int xlaw_5), .val (.int xlaw_6), .val (.int v3), .val (.int v14), .val (.int v19), .val (.int v30), .val (.int ms51_0), .val (.int v56), .val (.ref b41), .val (.ref b107), .val (.int v150), .val (.int (0 : Int32)), .val (.long v190), .second, .val (.long v190), .second, .val (.int ms266_0), .val (.int (1 : Int32)), .unset, .unset]) rfl ?_
      refine Ow.iload X116 hx (pc' := 290) (hb hby at_288) rfl ?_
      refine Ow.bipush X116 hx (pc' := 292) (hb hby at_290) (z := (7 : Int32)) rfl ?_
      refine Ow.iadd X116 hx (pc' := 293) (hb hby at_292) (z := (v14 + (7 : Int32))) rfl ?_
      refine Ow.bipush X116 hx (pc' := 295) (hb hby at_293) (z := (8 : Int32)) rfl ?_
      refine Ow.idiv X116 hx (pc' := 296) (hb hby at_295) (by decide : (8 : Int32) ≠ (0 : Int32)) (z := ((v14 + (7 : Int32)) / (8 : Int32))) rfl ?_
      refine Ow.istore X116 hx (pc' := 298) (hb hby at_296) (l' := #[.val (.long ylaw_1), .second, .val (.int xlaw_2), .val (.int xlaw_3), .val (.int xlaw_4), .val (.int xlaw_5), .val (.int xlaw_6), .val (.int v3), .val (.int v14), .val (.int v19), .val (.int v30), .val (.int ms51_0), .val (.int v56), .val (.ref b41), .val (.ref b107), .val (.int v150), .val (.int (0 : Int32)), .val (.long v190), .second, .val (.long v190), .second, .val (.int ms266_0), .val (.int (1 : Int32)), .val (.int ((v14 + (7 : Int32)) / (8 : Int32))), .unset]) rfl ?_
      generalize hv296 : ((v14 + (7 : Int32)) / (8 : Int32)) = v296
      have HO : v150 = ms266_0 := own_orO HB HQ (own_oc HB) (Or.inr (own_far HB HP)) hv150 hv190 hms266_0
      have HI := own_insO (w := ms51_0) HB HQ (own_oc HB) (Or.inr (own_far HB HP)) hv190
      refine Ow.iload X116 hx (pc' := 300) (hb hby at_298) rfl ?_
      refine Ow.iload X116 hx (pc' := 302) (hb hby at_300) rfl ?_
      refine Ow.icmpNo X116 hx (pc' := 305) (hb hby at_302) (teq (HO : v150 = ms266_0)).2 ?_
      refine Ow.iconst X116 hx (pc' := 306) (hb hby at_305) (z := (1 : Int32)) rfl ?_
      refine Ow.goto X116 hx (pc' := 310) (hb hby at_306) (by decide) (by decide) ?_
      refine Ow.istore X116 hx (pc' := 312) (hb hby at_310) (l' := #[.val (.long ylaw_1), .second, .val (.int xlaw_2), .val (.int xlaw_3), .val (.int xlaw_4), .val (.int xlaw_5), .val (.int xlaw_6), .val (.int v3), .val (.int v14), .val (.int v19), .val (.int v30), .val (.int ms51_0), .val (.int v56), .val (.ref b41), .val (.ref b107), .val (.int v150), .val (.int (0 : Int32)), .val (.long v190), .second, .val (.long v190), .second, .val (.int ms266_0), .val (.int (1 : Int32)), .val (.int v296), .val (.int (1 : Int32))]) rfl ?_
      refine Ow.iload X116 hx (pc' := 314) (hb hby at_312) rfl ?_
      refine Ow.ifNo X116 hx (pc' := 317) (hb hby at_314) ((if0 _ _).trans (feq (by decide : ¬ ((1 : Int32) = (0 : Int32)))).1) ?_
      refine Ow.aload X116 hx (pc' := 319) (hb hby at_317) rfl rfl ?_
      refine Ow.iconst X116 hx (pc' := 320) (hb hby at_319) (z := (0 : Int32)) rfl ?_
      refine Ow.iload X116 hx (pc' := 322) (hb hby at_320) rfl ?_
      refine Ow.iload X116 hx (pc' := 324) (hb hby at_322) rfl ?_
      refine Ow.lload X116 hx (pc' := 326) (hb hby at_324) rfl ?_
      refine Ow.iload X116 hx (pc' := 328) (hb hby at_326) rfl ?_
      refine Ow.iload X116 hx (pc' := 330) (hb hby at_328) rfl ?_
      obtain ⟨_, _, ⟨T126, L126, k126, n126⟩, -, X126, ⟨Lc126, hQ126, l126, y126, z126⟩, st126⟩ := Jvm.LawKit.callS X116 hx (y := mt2) hown (mvT hZ (kw10 hw)) (mvT hZ (kw11 hw)) (mvT hZ (kw3 hw)) (mvT hZ (kw12 hw)) (by decide) (backOf (W := 0) (rm_at l Z a0 hw [] b107 (0 : Int32) v19 v296 v190 v56 (1 : Int32) q117 (own_by (own_W ylaw_1 (own_n v3) (own_n v30) ms51_0) (own_n v19) (own_n v14) v56 0) T116.heap n0 Z116 (by decide) (by rw [hq117]; exact own_get HB v56 0 (by decide) (by decide)) P116_0) hZ (kw12 hw) (kw3 hw) (by decide) (by decide)) (g := (mkF m 330 #[.val (.long ylaw_1), .second, .val (.int xlaw_2), .val (.int xlaw_3), .val (.int xlaw_4), .val (.int xlaw_5), .val (.int xlaw_6), .val (.int v3), .val (.int v14), .val (.int v19), .val (.int v30), .val (.int ms51_0), .val (.int v56), .val (.ref b41), .val (.ref b107), .val (.int v150), .val (.int (0 : Int32)), .val (.long v190), .second, .val (.long v190), .second, .val (.int ms266_0), .val (.int (1 : Int32)), .val (.int v296), .val (.int (1 : Int32))] [(.int (1 : Int32)), (.int v56), (.long v190), (.int v296), (.int v19), (.int (0 : Int32)), (.ref b107)])) rfl (by rw [hml]; rfl) (argsL := [(.ref b107), (.int (0 : Int32)), (.int v19), (.int v296), (.long v190), (.int v56), (.int (1 : Int32))]) (rest := []) (lenOf pd3 rfl) rfl (by show 2 * 0 + _ ≤ _; exact Nat.le_of_eq rfl) (hb hby at_330) (fun _ _ => ⟨rfl, e116, (by decide : 2 + 0 ≤ _), (by decide : 28 + 0 ≤ _)⟩)
      dsimp only [Pt.U, Pt.locs, Pt.cells, Pt.slots] at X126 l126 y126 z126 st126 hQ126
      subst l126 y126 z126
      obtain ⟨rfl, Nq126, e126⟩ := hQ126
      have N126 := Fr.app N116 Nq126
      refine Wq.step st126 ?_
      show Wq _ _ _ _ _ (T126.setTop (mkF m 333 #[.val (.long ylaw_1), .second, .val (.int xlaw_2), .val (.int xlaw_3), .val (.int xlaw_4), .val (.int xlaw_5), .val (.int xlaw_6), .val (.int v3), .val (.int v14), .val (.int v19), .val (.int v30), .val (.int ms51_0), .val (.int v56), .val (.ref b41), .val (.ref b107), .val (.int v150), .val (.int (0 : Int32)), .val (.long v190), .second, .val (.long v190), .second, .val (.int ms266_0), .val (.int (1 : Int32)), .val (.int v296), .val (.int (1 : Int32))] [(.int (f_at (0 : Int32) v19 v296 v190 v56 (1 : Int32) (own_by (own_W ylaw_1 (own_n v3) (own_n v30) ms51_0) (own_n v19) (own_n v14) v56 0)))]))
      generalize hv330 : (f_at (0 : Int32) v19 v296 v190 v56 (1 : Int32) (own_by (own_W ylaw_1 (own_n v3) (own_n v30) ms51_0) (own_n v19) (own_n v14) v56 0)) = v330
      show Wq _ _ _ _ _ (T126.setTop (mkF m 333 #[.val (.long ylaw_1), .second, .val (.int xlaw_2), .val (.int xlaw_3), .val (.int xlaw_4), .val (.int xlaw_5), .val (.int xlaw_6), .val (.int v3), .val (.int v14), .val (.int v19), .val (.int v30), .val (.int ms51_0), .val (.int v56), .val (.ref b41), .val (.ref b107), .val (.int v150), .val (.int (0 : Int32)), .val (.long v190), .second, .val (.long v190), .second, .val (.int ms266_0), .val (.int (1 : Int32)), .val (.int v296), .val (.int (1 : Int32))] [(.int v330)]))
      refine Ow.ifNo X126 hx (pc' := 336) (hb hby at_333) ((if0 _ _).trans (feq (own_at HB hv296 (Or.inr HI) 0 (by decide) hv330 : ¬ (v330 = (0 : Int32)))).1) ?_
      refine Ow.iconst X126 hx (pc' := 337) (hb hby at_336) (z := (1 : Int32)) rfl ?_
      refine Ow.goto X126 hx (pc' := 341) (hb hby at_337) (by decide) (by decide) ?_
      refine Ow.istore X126 hx (pc' := 343) (hb hby at_341) (l' := #[.val (.long ylaw_1), .second, .val (.int xlaw_2), .val (.int xlaw_3), .val (.int xlaw_4), .val (.int xlaw_5), .val (.int xlaw_6), .val (.int v3), .val (.int v14), .val (.int v19), .val (.int v30), .val (.int ms51_0), .val (.int v56), .val (.ref b41), .val (.ref b107), .val (.int v150), .val (.int (0 : Int32)), .val (.long v190), .second, .val (.long v190), .second, .val (.int ms266_0), .val (.int (1 : Int32)), .val (.int v296), .val (.int (1 : Int32))]) rfl ?_
      refine Ow.iload X126 hx (pc' := 345) (hb hby at_343) rfl ?_
      refine Ow.ifNo X126 hx (pc' := 348) (hb hby at_345) ((if0 _ _).trans (feq (by decide : ¬ ((1 : Int32) = (0 : Int32)))).1) ?_
      refine Ow.aload X126 hx (pc' := 350) (hb hby at_348) rfl rfl ?_
      refine Ow.iconst X126 hx (pc' := 351) (hb hby at_350) (z := (1 : Int32)) rfl ?_
      refine Ow.iload X126 hx (pc' := 353) (hb hby at_351) rfl ?_
      refine Ow.iload X126 hx (pc' := 355) (hb hby at_353) rfl ?_
      refine Ow.lload X126 hx (pc' := 357) (hb hby at_355) rfl ?_
      refine Ow.iload X126 hx (pc' := 359) (hb hby at_357) rfl ?_
      refine Ow.iload X126 hx (pc' := 361) (hb hby at_359) rfl ?_
      obtain ⟨_, _, ⟨T127, L127, k127, n127⟩, -, X127, ⟨Lc127, hQ127, l127, y127, z127⟩, st127⟩ := Jvm.LawKit.callS X126 hx (y := mt2) hown (mvT hZ (kw10 hw)) (mvT hZ (kw11 hw)) (mvT hZ (kw3 hw)) (mvT hZ (kw12 hw)) (by decide) (backOf (W := 0) (rm_at l Z a0 hw [] b107 (1 : Int32) v19 v296 v190 v56 (1 : Int32) q117 (own_by (own_W ylaw_1 (own_n v3) (own_n v30) ms51_0) (own_n v19) (own_n v14) v56 1) T116.heap n0 Z116 (by decide) (by rw [hq117]; exact own_get HB v56 1 (by decide) (by decide)) P116_0) hZ (kw12 hw) (kw3 hw) (by decide) (by decide)) (g := (mkF m 361 #[.val (.long ylaw_1), .second, .val (.int xlaw_2), .val (.int xlaw_3), .val (.int xlaw_4), .val (.int xlaw_5), .val (.int xlaw_6), .val (.int v3), .val (.int v14), .val (.int v19), .val (.int v30), .val (.int ms51_0), .val (.int v56), .val (.ref b41), .val (.ref b107), .val (.int v150), .val (.int (0 : Int32)), .val (.long v190), .second, .val (.long v190), .second, .val (.int ms266_0), .val (.int (1 : Int32)), .val (.int v296), .val (.int (1 : Int32))] [(.int (1 : Int32)), (.int v56), (.long v190), (.int v296), (.int v19), (.int (1 : Int32)), (.ref b107)])) rfl (by rw [hml]; rfl) (argsL := [(.ref b107), (.int (1 : Int32)), (.int v19), (.int v296), (.long v190), (.int v56), (.int (1 : Int32))]) (rest := []) (lenOf pd3 rfl) rfl (by show 2 * 0 + _ ≤ _; exact Nat.le_of_eq rfl) (hb hby at_361) (fun _ _ => ⟨rfl, e126, (by decide : 2 + 0 ≤ _), (by decide : 28 + 0 ≤ _)⟩)
      dsimp only [Pt.U, Pt.locs, Pt.cells, Pt.slots] at X127 l127 y127 z127 st127 hQ127
      subst l127 y127 z127
      obtain ⟨rfl, Nq127, e127⟩ := hQ127
      have N127 := Fr.app N126 Nq127
      refine Wq.step st127 ?_
      show Wq _ _ _ _ _ (T127.setTop (mkF m 364 #[.val (.long ylaw_1), .second, .val (.int xlaw_2), .val (.int xlaw_3), .val (.int xlaw_4), .val (.int xlaw_5), .val (.int xlaw_6), .val (.int v3), .val (.int v14), .val (.int v19), .val (.int v30), .val (.int ms51_0), .val (.int v56), .val (.ref b41), .val (.ref b107), .val (.int v150), .val (.int (0 : Int32)), .val (.long v190), .second, .val (.long v190), .second, .val (.int ms266_0), .val (.int (1 : Int32)), .val (.int v296), .val (.int (1 : Int32))] [(.int (f_at (1 : Int32) v19 v296 v190 v56 (1 : Int32) (own_by (own_W ylaw_1 (own_n v3) (own_n v30) ms51_0) (own_n v19) (own_n v14) v56 1)))]))
      generalize hv361 : (f_at (1 : Int32) v19 v296 v190 v56 (1 : Int32) (own_by (own_W ylaw_1 (own_n v3) (own_n v30) ms51_0) (own_n v19) (own_n v14) v56 1)) = v361
      show Wq _ _ _ _ _ (T127.setTop (mkF m 364 #[.val (.long ylaw_1), .second, .val (.int xlaw_2), .val (.int xlaw_3), .val (.int xlaw_4), .val (.int xlaw_5), .val (.int xlaw_6), .val (.int v3), .val (.int v14), .val (.int v19), .val (.int v30), .val (.int ms51_0), .val (.int v56), .val (.ref b41), .val (.ref b107), .val (.int v150), .val (.int (0 : Int32)), .val (.long v190), .second, .val (.long v190), .second, .val (.int ms266_0), .val (.int (1 : Int32)), .val (.int v296), .val (.int (1 : Int32))] [(.int v361)]))
      refine Ow.ifNo X127 hx (pc' := 367) (hb hby at_364) ((if0 _ _).trans (feq (own_at HB hv296 (Or.inr HI) 1 (by decide) hv361 : ¬ (v361 = (0 : Int32)))).1) ?_
      refine Ow.iconst X127 hx (pc' := 368) (hb hby at_367) (z := (1 : Int32)) rfl ?_
      refine Ow.goto X127 hx (pc' := 372) (hb hby at_368) (by decide) (by decide) ?_
      refine Ow.istore X127 hx (pc' := 374) (hb hby at_372) (l' := #[.val (.long ylaw_1), .second, .val (.int xlaw_2), .val (.int xlaw_3), .val (.int xlaw_4), .val (.int xlaw_5), .val (.int xlaw_6), .val (.int v3), .val (.int v14), .val (.int v19), .val (.int v30), .val (.int ms51_0), .val (.int v56), .val (.ref b41), .val (.ref b107), .val (.int v150), .val (.int (0 : Int32)), .val (.long v190), .second, .val (.long v190), .second, .val (.int ms266_0), .val (.int (1 : Int32)), .val (.int v296), .val (.int (1 : Int32))]) rfl ?_
      refine Ow.iload X127 hx (pc' := 376) (hb hby at_374) rfl ?_
      refine Ow.ifNo X127 hx (pc' := 379) (hb hby at_376) ((if0 _ _).trans (feq (by decide : ¬ ((1 : Int32) = (0 : Int32)))).1) ?_
      refine Ow.aload X127 hx (pc' := 381) (hb hby at_379) rfl rfl ?_
      refine Ow.iconst X127 hx (pc' := 382) (hb hby at_381) (z := (2 : Int32)) rfl ?_
      refine Ow.iload X127 hx (pc' := 384) (hb hby at_382) rfl ?_
      refine Ow.iload X127 hx (pc' := 386) (hb hby at_384) rfl ?_
      refine Ow.lload X127 hx (pc' := 388) (hb hby at_386) rfl ?_
      refine Ow.iload X127 hx (pc' := 390) (hb hby at_388) rfl ?_
      refine Ow.iload X127 hx (pc' := 392) (hb hby at_390) rfl ?_
      obtain ⟨_, _, ⟨T128, L128, k128, n128⟩, -, X128, ⟨Lc128, hQ128, l128, y128, z128⟩, st128⟩ := Jvm.LawKit.callS X127 hx (y := mt2) hown (mvT hZ (kw10 hw)) (mvT hZ (kw11 hw)) (mvT hZ (kw3 hw)) (mvT hZ (kw12 hw)) (by decide) (backOf (W := 0) (rm_at l Z a0 hw [] b107 (2 : Int32) v19 v296 v190 v56 (1 : Int32) q117 (own_by (own_W ylaw_1 (own_n v3) (own_n v30) ms51_0) (own_n v19) (own_n v14) v56 2) T116.heap n0 Z116 (by decide) (by rw [hq117]; exact own_get HB v56 2 (by decide) (by decide)) P116_0) hZ (kw12 hw) (kw3 hw) (by decide) (by decide)) (g := (mkF m 392 #[.val (.long ylaw_1), .second, .val (.int xlaw_2), .val (.int xlaw_3), .val (.int xlaw_4), .val (.int xlaw_5), .val (.int xlaw_6), .val (.int v3), .val (.int v14), .val (.int v19), .val (.int v30), .val (.int ms51_0), .val (.int v56), .val (.ref b41), .val (.ref b107), .val (.int v150), .val (.int (0 : Int32)), .val (.long v190), .second, .val (.long v190), .second, .val (.int ms266_0), .val (.int (1 : Int32)), .val (.int v296), .val (.int (1 : Int32))] [(.int (1 : Int32)), (.int v56), (.long v190), (.int v296), (.int v19), (.int (2 : Int32)), (.ref b107)])) rfl (by rw [hml]; rfl) (argsL := [(.ref b107), (.int (2 : Int32)), (.int v19), (.int v296), (.long v190), (.int v56), (.int (1 : Int32))]) (rest := []) (lenOf pd3 rfl) rfl (by show 2 * 0 + _ ≤ _; exact Nat.le_of_eq rfl) (hb hby at_392) (fun _ _ => ⟨rfl, e127, (by decide : 2 + 0 ≤ _), (by decide : 28 + 0 ≤ _)⟩)
      dsimp only [Pt.U, Pt.locs, Pt.cells, Pt.slots] at X128 l128 y128 z128 st128 hQ128
      subst l128 y128 z128
      obtain ⟨rfl, Nq128, e128⟩ := hQ128
      have N128 := Fr.app N127 Nq128
      refine Wq.step st128 ?_
      show Wq _ _ _ _ _ (T128.setTop (mkF m 395 #[.val (.long ylaw_1), .second, .val (.int xlaw_2), .val (.int xlaw_3), .val (.int xlaw_4), .val (.int xlaw_5), .val (.int xlaw_6), .val (.int v3), .val (.int v14), .val (.int v19), .val (.int v30), .val (.int ms51_0), .val (.int v56), .val (.ref b41), .val (.ref b107), .val (.int v150), .val (.int (0 : Int32)), .val (.long v190), .second, .val (.long v190), .second, .val (.int ms266_0), .val (.int (1 : Int32)), .val (.int v296), .val (.int (1 : Int32))] [(.int (f_at (2 : Int32) v19 v296 v190 v56 (1 : Int32) (own_by (own_W ylaw_1 (own_n v3) (own_n v30) ms51_0) (own_n v19) (own_n v14) v56 2)))]))
      generalize hv392 : (f_at (2 : Int32) v19 v296 v190 v56 (1 : Int32) (own_by (own_W ylaw_1 (own_n v3) (own_n v30) ms51_0) (own_n v19) (own_n v14) v56 2)) = v392
      show Wq _ _ _ _ _ (T128.setTop (mkF m 395 #[.val (.long ylaw_1), .second, .val (.int xlaw_2), .val (.int xlaw_3), .val (.int xlaw_4), .val (.int xlaw_5), .val (.int xlaw_6), .val (.int v3), .val (.int v14), .val (.int v19), .val (.int v30), .val (.int ms51_0), .val (.int v56), .val (.ref b41), .val (.ref b107), .val (.int v150), .val (.int (0 : Int32)), .val (.long v190), .second, .val (.long v190), .second, .val (.int ms266_0), .val (.int (1 : Int32)), .val (.int v296), .val (.int (1 : Int32))] [(.int v392)]))
      refine Ow.ifNo X128 hx (pc' := 398) (hb hby at_395) ((if0 _ _).trans (feq (own_at HB hv296 (Or.inr HI) 2 (by decide) hv392 : ¬ (v392 = (0 : Int32)))).1) ?_
      refine Ow.iconst X128 hx (pc' := 399) (hb hby at_398) (z := (1 : Int32)) rfl ?_
      refine Ow.goto X128 hx (pc' := 403) (hb hby at_399) (by decide) (by decide) ?_
      refine Ow.istore X128 hx (pc' := 405) (hb hby at_403) (l' := #[.val (.long ylaw_1), .second, .val (.int xlaw_2), .val (.int xlaw_3), .val (.int xlaw_4), .val (.int xlaw_5), .val (.int xlaw_6), .val (.int v3), .val (.int v14), .val (.int v19), .val (.int v30), .val (.int ms51_0), .val (.int v56), .val (.ref b41), .val (.ref b107), .val (.int v150), .val (.int (0 : Int32)), .val (.long v190), .second, .val (.long v190), .second, .val (.int ms266_0), .val (.int (1 : Int32)), .val (.int v296), .val (.int (1 : Int32))]) rfl ?_
      refine Ow.iload X128 hx (pc' := 407) (hb hby at_405) rfl ?_
      refine Ow.ifNo X128 hx (pc' := 410) (hb hby at_407) ((if0 _ _).trans (feq (by decide : ¬ ((1 : Int32) = (0 : Int32)))).1) ?_
      refine Ow.aload X128 hx (pc' := 412) (hb hby at_410) rfl rfl ?_
      refine Ow.iconst X128 hx (pc' := 413) (hb hby at_412) (z := (3 : Int32)) rfl ?_
      refine Ow.iload X128 hx (pc' := 415) (hb hby at_413) rfl ?_
      refine Ow.iload X128 hx (pc' := 417) (hb hby at_415) rfl ?_
      refine Ow.lload X128 hx (pc' := 419) (hb hby at_417) rfl ?_
      refine Ow.iload X128 hx (pc' := 421) (hb hby at_419) rfl ?_
      refine Ow.iload X128 hx (pc' := 423) (hb hby at_421) rfl ?_
      obtain ⟨_, _, ⟨T129, L129, k129, n129⟩, -, X129, ⟨Lc129, hQ129, l129, y129, z129⟩, st129⟩ := Jvm.LawKit.callS X128 hx (y := mt2) hown (mvT hZ (kw10 hw)) (mvT hZ (kw11 hw)) (mvT hZ (kw3 hw)) (mvT hZ (kw12 hw)) (by decide) (backOf (W := 0) (rm_at l Z a0 hw [] b107 (3 : Int32) v19 v296 v190 v56 (1 : Int32) q117 (own_by (own_W ylaw_1 (own_n v3) (own_n v30) ms51_0) (own_n v19) (own_n v14) v56 3) T116.heap n0 Z116 (by decide) (by rw [hq117]; exact own_get HB v56 3 (by decide) (by decide)) P116_0) hZ (kw12 hw) (kw3 hw) (by decide) (by decide)) (g := (mkF m 423 #[.val (.long ylaw_1), .second, .val (.int xlaw_2), .val (.int xlaw_3), .val (.int xlaw_4), .val (.int xlaw_5), .val (.int xlaw_6), .val (.int v3), .val (.int v14), .val (.int v19), .val (.int v30), .val (.int ms51_0), .val (.int v56), .val (.ref b41), .val (.ref b107), .val (.int v150), .val (.int (0 : Int32)), .val (.long v190), .second, .val (.long v190), .second, .val (.int ms266_0), .val (.int (1 : Int32)), .val (.int v296), .val (.int (1 : Int32))] [(.int (1 : Int32)), (.int v56), (.long v190), (.int v296), (.int v19), (.int (3 : Int32)), (.ref b107)])) rfl (by rw [hml]; rfl) (argsL := [(.ref b107), (.int (3 : Int32)), (.int v19), (.int v296), (.long v190), (.int v56), (.int (1 : Int32))]) (rest := []) (lenOf pd3 rfl) rfl (by show 2 * 0 + _ ≤ _; exact Nat.le_of_eq rfl) (hb hby at_423) (fun _ _ => ⟨rfl, e128, (by decide : 2 + 0 ≤ _), (by decide : 28 + 0 ≤ _)⟩)
      dsimp only [Pt.U, Pt.locs, Pt.cells, Pt.slots] at X129 l129 y129 z129 st129 hQ129
      subst l129 y129 z129
      obtain ⟨rfl, Nq129, e129⟩ := hQ129
      have N129 := Fr.app N128 Nq129
      refine Wq.step st129 ?_
      show Wq _ _ _ _ _ (T129.setTop (mkF m 426 #[.val (.long ylaw_1), .second, .val (.int xlaw_2), .val (.int xlaw_3), .val (.int xlaw_4), .val (.int xlaw_5), .val (.int xlaw_6), .val (.int v3), .val (.int v14), .val (.int v19), .val (.int v30), .val (.int ms51_0), .val (.int v56), .val (.ref b41), .val (.ref b107), .val (.int v150), .val (.int (0 : Int32)), .val (.long v190), .second, .val (.long v190), .second, .val (.int ms266_0), .val (.int (1 : Int32)), .val (.int v296), .val (.int (1 : Int32))] [(.int (f_at (3 : Int32) v19 v296 v190 v56 (1 : Int32) (own_by (own_W ylaw_1 (own_n v3) (own_n v30) ms51_0) (own_n v19) (own_n v14) v56 3)))]))
      generalize hv423 : (f_at (3 : Int32) v19 v296 v190 v56 (1 : Int32) (own_by (own_W ylaw_1 (own_n v3) (own_n v30) ms51_0) (own_n v19) (own_n v14) v56 3)) = v423
      show Wq _ _ _ _ _ (T129.setTop (mkF m 426 #[.val (.long ylaw_1), .second, .val (.int xlaw_2), .val (.int xlaw_3), .val (.int xlaw_4), .val (.int xlaw_5), .val (.int xlaw_6), .val (.int v3), .val (.int v14), .val (.int v19), .val (.int v30), .val (.int ms51_0), .val (.int v56), .val (.ref b41), .val (.ref b107), .val (.int v150), .val (.int (0 : Int32)), .val (.long v190), .second, .val (.long v190), .second, .val (.int ms266_0), .val (.int (1 : Int32)), .val (.int v296), .val (.int (1 : Int32))] [(.int v423)]))
      refine Ow.ifNo X129 hx (pc' := 429) (hb hby at_426) ((if0 _ _).trans (feq (own_at HB hv296 (Or.inr HI) 3 (by decide) hv423 : ¬ (v423 = (0 : Int32)))).1) ?_
      refine Ow.iconst X129 hx (pc' := 430) (hb hby at_429) (z := (1 : Int32)) rfl ?_
      refine Ow.goto X129 hx (pc' := 434) (hb hby at_430) (by decide) (by decide) ?_
      refine Ow.istore X129 hx (pc' := 436) (hb hby at_434) (l' := #[.val (.long ylaw_1), .second, .val (.int xlaw_2), .val (.int xlaw_3), .val (.int xlaw_4), .val (.int xlaw_5), .val (.int xlaw_6), .val (.int v3), .val (.int v14), .val (.int v19), .val (.int v30), .val (.int ms51_0), .val (.int v56), .val (.ref b41), .val (.ref b107), .val (.int v150), .val (.int (0 : Int32)), .val (.long v190), .second, .val (.long v190), .second, .val (.int ms266_0), .val (.int (1 : Int32)), .val (.int v296), .val (.int (1 : Int32))]) rfl ?_
      refine Ow.iload X129 hx (pc' := 438) (hb hby at_436) rfl ?_
      refine Ow.ifNo X129 hx (pc' := 441) (hb hby at_438) ((if0 _ _).trans (feq (by decide : ¬ ((1 : Int32) = (0 : Int32)))).1) ?_
      refine Ow.aload X129 hx (pc' := 443) (hb hby at_441) rfl rfl ?_
      refine Ow.iconst X129 hx (pc' := 444) (hb hby at_443) (z := (4 : Int32)) rfl ?_
      refine Ow.iload X129 hx (pc' := 446) (hb hby at_444) rfl ?_
      refine Ow.iload X129 hx (pc' := 448) (hb hby at_446) rfl ?_
      refine Ow.lload X129 hx (pc' := 450) (hb hby at_448) rfl ?_
      refine Ow.iload X129 hx (pc' := 452) (hb hby at_450) rfl ?_
      refine Ow.iload X129 hx (pc' := 454) (hb hby at_452) rfl ?_
      obtain ⟨_, _, ⟨T130, L130, k130, n130⟩, -, X130, ⟨Lc130, hQ130, l130, y130, z130⟩, st130⟩ := Jvm.LawKit.callS X129 hx (y := mt2) hown (mvT hZ (kw10 hw)) (mvT hZ (kw11 hw)) (mvT hZ (kw3 hw)) (mvT hZ (kw12 hw)) (by decide) (backOf (W := 0) (rm_at l Z a0 hw [] b107 (4 : Int32) v19 v296 v190 v56 (1 : Int32) q117 (own_by (own_W ylaw_1 (own_n v3) (own_n v30) ms51_0) (own_n v19) (own_n v14) v56 4) T116.heap n0 Z116 (by decide) (by rw [hq117]; exact own_get HB v56 4 (by decide) (by decide)) P116_0) hZ (kw12 hw) (kw3 hw) (by decide) (by decide)) (g := (mkF m 454 #[.val (.long ylaw_1), .second, .val (.int xlaw_2), .val (.int xlaw_3), .val (.int xlaw_4), .val (.int xlaw_5), .val (.int xlaw_6), .val (.int v3), .val (.int v14), .val (.int v19), .val (.int v30), .val (.int ms51_0), .val (.int v56), .val (.ref b41), .val (.ref b107), .val (.int v150), .val (.int (0 : Int32)), .val (.long v190), .second, .val (.long v190), .second, .val (.int ms266_0), .val (.int (1 : Int32)), .val (.int v296), .val (.int (1 : Int32))] [(.int (1 : Int32)), (.int v56), (.long v190), (.int v296), (.int v19), (.int (4 : Int32)), (.ref b107)])) rfl (by rw [hml]; rfl) (argsL := [(.ref b107), (.int (4 : Int32)), (.int v19), (.int v296), (.long v190), (.int v56), (.int (1 : Int32))]) (rest := []) (lenOf pd3 rfl) rfl (by show 2 * 0 + _ ≤ _; exact Nat.le_of_eq rfl) (hb hby at_454) (fun _ _ => ⟨rfl, e129, (by decide : 2 + 0 ≤ _), (by decide : 28 + 0 ≤ _)⟩)
      dsimp only [Pt.U, Pt.locs, Pt.cells, Pt.slots] at X130 l130 y130 z130 st130 hQ130
      subst l130 y130 z130
      obtain ⟨rfl, Nq130, e130⟩ := hQ130
      have N130 := Fr.app N129 Nq130
      refine Wq.step st130 ?_
      show Wq _ _ _ _ _ (T130.setTop (mkF m 457 #[.val (.long ylaw_1), .second, .val (.int xlaw_2), .val (.int xlaw_3), .val (.int xlaw_4), .val (.int xlaw_5), .val (.int xlaw_6), .val (.int v3), .val (.int v14), .val (.int v19), .val (.int v30), .val (.int ms51_0), .val (.int v56), .val (.ref b41), .val (.ref b107), .val (.int v150), .val (.int (0 : Int32)), .val (.long v190), .second, .val (.long v190), .second, .val (.int ms266_0), .val (.int (1 : Int32)), .val (.int v296), .val (.int (1 : Int32))] [(.int (f_at (4 : Int32) v19 v296 v190 v56 (1 : Int32) (own_by (own_W ylaw_1 (own_n v3) (own_n v30) ms51_0) (own_n v19) (own_n v14) v56 4)))]))
      generalize hv454 : (f_at (4 : Int32) v19 v296 v190 v56 (1 : Int32) (own_by (own_W ylaw_1 (own_n v3) (own_n v30) ms51_0) (own_n v19) (own_n v14) v56 4)) = v454
      show Wq _ _ _ _ _ (T130.setTop (mkF m 457 #[.val (.long ylaw_1), .second, .val (.int xlaw_2), .val (.int xlaw_3), .val (.int xlaw_4), .val (.int xlaw_5), .val (.int xlaw_6), .val (.int v3), .val (.int v14), .val (.int v19), .val (.int v30), .val (.int ms51_0), .val (.int v56), .val (.ref b41), .val (.ref b107), .val (.int v150), .val (.int (0 : Int32)), .val (.long v190), .second, .val (.long v190), .second, .val (.int ms266_0), .val (.int (1 : Int32)), .val (.int v296), .val (.int (1 : Int32))] [(.int v454)]))
      refine Ow.ifNo X130 hx (pc' := 460) (hb hby at_457) ((if0 _ _).trans (feq (own_at HB hv296 (Or.inr HI) 4 (by decide) hv454 : ¬ (v454 = (0 : Int32)))).1) ?_
      refine Ow.iconst X130 hx (pc' := 461) (hb hby at_460) (z := (1 : Int32)) rfl ?_
      refine Ow.goto X130 hx (pc' := 465) (hb hby at_461) (by decide) (by decide) ?_
      refine Ow.istore X130 hx (pc' := 467) (hb hby at_465) (l' := #[.val (.long ylaw_1), .second, .val (.int xlaw_2), .val (.int xlaw_3), .val (.int xlaw_4), .val (.int xlaw_5), .val (.int xlaw_6), .val (.int v3), .val (.int v14), .val (.int v19), .val (.int v30), .val (.int ms51_0), .val (.int v56), .val (.ref b41), .val (.ref b107), .val (.int v150), .val (.int (0 : Int32)), .val (.long v190), .second, .val (.long v190), .second, .val (.int ms266_0), .val (.int (1 : Int32)), .val (.int v296), .val (.int (1 : Int32))]) rfl ?_
      refine Ow.iload X130 hx (pc' := 469) (hb hby at_467) rfl ?_
      refine Ow.ifNo X130 hx (pc' := 472) (hb hby at_469) ((if0 _ _).trans (feq (by decide : ¬ ((1 : Int32) = (0 : Int32)))).1) ?_
      refine Ow.aload X130 hx (pc' := 474) (hb hby at_472) rfl rfl ?_
      refine Ow.iconst X130 hx (pc' := 475) (hb hby at_474) (z := (5 : Int32)) rfl ?_
      refine Ow.iload X130 hx (pc' := 477) (hb hby at_475) rfl ?_
      refine Ow.iload X130 hx (pc' := 479) (hb hby at_477) rfl ?_
      refine Ow.lload X130 hx (pc' := 481) (hb hby at_479) rfl ?_
      refine Ow.iload X130 hx (pc' := 483) (hb hby at_481) rfl ?_
      refine Ow.iload X130 hx (pc' := 485) (hb hby at_483) rfl ?_
      obtain ⟨_, _, ⟨T131, L131, k131, n131⟩, -, X131, ⟨Lc131, hQ131, l131, y131, z131⟩, st131⟩ := Jvm.LawKit.callS X130 hx (y := mt2) hown (mvT hZ (kw10 hw)) (mvT hZ (kw11 hw)) (mvT hZ (kw3 hw)) (mvT hZ (kw12 hw)) (by decide) (backOf (W := 0) (rm_at l Z a0 hw [] b107 (5 : Int32) v19 v296 v190 v56 (1 : Int32) q117 (own_by (own_W ylaw_1 (own_n v3) (own_n v30) ms51_0) (own_n v19) (own_n v14) v56 5) T116.heap n0 Z116 (by decide) (by rw [hq117]; exact own_get HB v56 5 (by decide) (by decide)) P116_0) hZ (kw12 hw) (kw3 hw) (by decide) (by decide)) (g := (mkF m 485 #[.val (.long ylaw_1), .second, .val (.int xlaw_2), .val (.int xlaw_3), .val (.int xlaw_4), .val (.int xlaw_5), .val (.int xlaw_6), .val (.int v3), .val (.int v14), .val (.int v19), .val (.int v30), .val (.int ms51_0), .val (.int v56), .val (.ref b41), .val (.ref b107), .val (.int v150), .val (.int (0 : Int32)), .val (.long v190), .second, .val (.long v190), .second, .val (.int ms266_0), .val (.int (1 : Int32)), .val (.int v296), .val (.int (1 : Int32))] [(.int (1 : Int32)), (.int v56), (.long v190), (.int v296), (.int v19), (.int (5 : Int32)), (.ref b107)])) rfl (by rw [hml]; rfl) (argsL := [(.ref b107), (.int (5 : Int32)), (.int v19), (.int v296), (.long v190), (.int v56), (.int (1 : Int32))]) (rest := []) (lenOf pd3 rfl) rfl (by show 2 * 0 + _ ≤ _; exact Nat.le_of_eq rfl) (hb hby at_485) (fun _ _ => ⟨rfl, e130, (by decide : 2 + 0 ≤ _), (by decide : 28 + 0 ≤ _)⟩)
      dsimp only [Pt.U, Pt.locs, Pt.cells, Pt.slots] at X131 l131 y131 z131 st131 hQ131
      subst l131 y131 z131
      obtain ⟨rfl, Nq131, e131⟩ := hQ131
      have N131 := Fr.app N130 Nq131
      refine Wq.step st131 ?_
      show Wq _ _ _ _ _ (T131.setTop (mkF m 488 #[.val (.long ylaw_1), .second, .val (.int xlaw_2), .val (.int xlaw_3), .val (.int xlaw_4), .val (.int xlaw_5), .val (.int xlaw_6), .val (.int v3), .val (.int v14), .val (.int v19), .val (.int v30), .val (.int ms51_0), .val (.int v56), .val (.ref b41), .val (.ref b107), .val (.int v150), .val (.int (0 : Int32)), .val (.long v190), .second, .val (.long v190), .second, .val (.int ms266_0), .val (.int (1 : Int32)), .val (.int v296), .val (.int (1 : Int32))] [(.int (f_at (5 : Int32) v19 v296 v190 v56 (1 : Int32) (own_by (own_W ylaw_1 (own_n v3) (own_n v30) ms51_0) (own_n v19) (own_n v14) v56 5)))]))
      generalize hv485 : (f_at (5 : Int32) v19 v296 v190 v56 (1 : Int32) (own_by (own_W ylaw_1 (own_n v3) (own_n v30) ms51_0) (own_n v19) (own_n v14) v56 5)) = v485
      show Wq _ _ _ _ _ (T131.setTop (mkF m 488 #[.val (.long ylaw_1), .second, .val (.int xlaw_2), .val (.int xlaw_3), .val (.int xlaw_4), .val (.int xlaw_5), .val (.int xlaw_6), .val (.int v3), .val (.int v14), .val (.int v19), .val (.int v30), .val (.int ms51_0), .val (.int v56), .val (.ref b41), .val (.ref b107), .val (.int v150), .val (.int (0 : Int32)), .val (.long v190), .second, .val (.long v190), .second, .val (.int ms266_0), .val (.int (1 : Int32)), .val (.int v296), .val (.int (1 : Int32))] [(.int v485)]))
      refine Ow.ifNo X131 hx (pc' := 491) (hb hby at_488) ((if0 _ _).trans (feq (own_at HB hv296 (Or.inr HI) 5 (by decide) hv485 : ¬ (v485 = (0 : Int32)))).1) ?_
      refine Ow.iconst X131 hx (pc' := 492) (hb hby at_491) (z := (1 : Int32)) rfl ?_
      refine Ow.goto X131 hx (pc' := 496) (hb hby at_492) (by decide) (by decide) ?_
      refine Ow.istore X131 hx (pc' := 498) (hb hby at_496) (l' := #[.val (.long ylaw_1), .second, .val (.int xlaw_2), .val (.int xlaw_3), .val (.int xlaw_4), .val (.int xlaw_5), .val (.int xlaw_6), .val (.int v3), .val (.int v14), .val (.int v19), .val (.int v30), .val (.int ms51_0), .val (.int v56), .val (.ref b41), .val (.ref b107), .val (.int v150), .val (.int (0 : Int32)), .val (.long v190), .second, .val (.long v190), .second, .val (.int ms266_0), .val (.int (1 : Int32)), .val (.int v296), .val (.int (1 : Int32))]) rfl ?_
      refine Ow.iload X131 hx (pc' := 500) (hb hby at_498) rfl ?_
      refine Ow.ifNo X131 hx (pc' := 503) (hb hby at_500) ((if0 _ _).trans (feq (by decide : ¬ ((1 : Int32) = (0 : Int32)))).1) ?_
      refine Ow.aload X131 hx (pc' := 505) (hb hby at_503) rfl rfl ?_
      refine Ow.bipush X131 hx (pc' := 507) (hb hby at_505) (z := (6 : Int32)) rfl ?_
      refine Ow.iload X131 hx (pc' := 509) (hb hby at_507) rfl ?_
      refine Ow.iload X131 hx (pc' := 511) (hb hby at_509) rfl ?_
      refine Ow.lload X131 hx (pc' := 513) (hb hby at_511) rfl ?_
      refine Ow.iload X131 hx (pc' := 515) (hb hby at_513) rfl ?_
      refine Ow.iload X131 hx (pc' := 517) (hb hby at_515) rfl ?_
      obtain ⟨_, _, ⟨T132, L132, k132, n132⟩, -, X132, ⟨Lc132, hQ132, l132, y132, z132⟩, st132⟩ := Jvm.LawKit.callS X131 hx (y := mt2) hown (mvT hZ (kw10 hw)) (mvT hZ (kw11 hw)) (mvT hZ (kw3 hw)) (mvT hZ (kw12 hw)) (by decide) (backOf (W := 0) (rm_at l Z a0 hw [] b107 (6 : Int32) v19 v296 v190 v56 (1 : Int32) q117 (own_by (own_W ylaw_1 (own_n v3) (own_n v30) ms51_0) (own_n v19) (own_n v14) v56 6) T116.heap n0 Z116 (by decide) (by rw [hq117]; exact own_get HB v56 6 (by decide) (by decide)) P116_0) hZ (kw12 hw) (kw3 hw) (by decide) (by decide)) (g := (mkF m 517 #[.val (.long ylaw_1), .second, .val (.int xlaw_2), .val (.int xlaw_3), .val (.int xlaw_4), .val (.int xlaw_5), .val (.int xlaw_6), .val (.int v3), .val (.int v14), .val (.int v19), .val (.int v30), .val (.int ms51_0), .val (.int v56), .val (.ref b41), .val (.ref b107), .val (.int v150), .val (.int (0 : Int32)), .val (.long v190), .second, .val (.long v190), .second, .val (.int ms266_0), .val (.int (1 : Int32)), .val (.int v296), .val (.int (1 : Int32))] [(.int (1 : Int32)), (.int v56), (.long v190), (.int v296), (.int v19), (.int (6 : Int32)), (.ref b107)])) rfl (by rw [hml]; rfl) (argsL := [(.ref b107), (.int (6 : Int32)), (.int v19), (.int v296), (.long v190), (.int v56), (.int (1 : Int32))]) (rest := []) (lenOf pd3 rfl) rfl (by show 2 * 0 + _ ≤ _; exact Nat.le_of_eq rfl) (hb hby at_517) (fun _ _ => ⟨rfl, e131, (by decide : 2 + 0 ≤ _), (by decide : 28 + 0 ≤ _)⟩)
      dsimp only [Pt.U, Pt.locs, Pt.cells, Pt.slots] at X132 l132 y132 z132 st132 hQ132
      subst l132 y132 z132
      obtain ⟨rfl, Nq132, e132⟩ := hQ132
      have N132 := Fr.app N131 Nq132
      refine Wq.step st132 ?_
      show Wq _ _ _ _ _ (T132.setTop (mkF m 520 #[.val (.long ylaw_1), .second, .val (.int xlaw_2), .val (.int xlaw_3), .val (.int xlaw_4), .val (.int xlaw_5), .val (.int xlaw_6), .val (.int v3), .val (.int v14), .val (.int v19), .val (.int v30), .val (.int ms51_0), .val (.int v56), .val (.ref b41), .val (.ref b107), .val (.int v150), .val (.int (0 : Int32)), .val (.long v190), .second, .val (.long v190), .second, .val (.int ms266_0), .val (.int (1 : Int32)), .val (.int v296), .val (.int (1 : Int32))] [(.int (f_at (6 : Int32) v19 v296 v190 v56 (1 : Int32) (own_by (own_W ylaw_1 (own_n v3) (own_n v30) ms51_0) (own_n v19) (own_n v14) v56 6)))]))
      generalize hv517 : (f_at (6 : Int32) v19 v296 v190 v56 (1 : Int32) (own_by (own_W ylaw_1 (own_n v3) (own_n v30) ms51_0) (own_n v19) (own_n v14) v56 6)) = v517
      show Wq _ _ _ _ _ (T132.setTop (mkF m 520 #[.val (.long ylaw_1), .second, .val (.int xlaw_2), .val (.int xlaw_3), .val (.int xlaw_4), .val (.int xlaw_5), .val (.int xlaw_6), .val (.int v3), .val (.int v14), .val (.int v19), .val (.int v30), .val (.int ms51_0), .val (.int v56), .val (.ref b41), .val (.ref b107), .val (.int v150), .val (.int (0 : Int32)), .val (.long v190), .second, .val (.long v190), .second, .val (.int ms266_0), .val (.int (1 : Int32)), .val (.int v296), .val (.int (1 : Int32))] [(.int v517)]))
      refine Ow.ifNo X132 hx (pc' := 523) (hb hby at_520) ((if0 _ _).trans (feq (own_at HB hv296 (Or.inr HI) 6 (by decide) hv517 : ¬ (v517 = (0 : Int32)))).1) ?_
      refine Ow.iconst X132 hx (pc' := 524) (hb hby at_523) (z := (1 : Int32)) rfl ?_
      refine Ow.goto X132 hx (pc' := 528) (hb hby at_524) (by decide) (by decide) ?_
      refine Ow.istore X132 hx (pc' := 530) (hb hby at_528) (l' := #[.val (.long ylaw_1), .second, .val (.int xlaw_2), .val (.int xlaw_3), .val (.int xlaw_4), .val (.int xlaw_5), .val (.int xlaw_6), .val (.int v3), .val (.int v14), .val (.int v19), .val (.int v30), .val (.int ms51_0), .val (.int v56), .val (.ref b41), .val (.ref b107), .val (.int v150), .val (.int (0 : Int32)), .val (.long v190), .second, .val (.long v190), .second, .val (.int ms266_0), .val (.int (1 : Int32)), .val (.int v296), .val (.int (1 : Int32))]) rfl ?_
      refine Ow.iload X132 hx (pc' := 532) (hb hby at_530) rfl ?_
      refine Ow.ifNo X132 hx (pc' := 535) (hb hby at_532) ((if0 _ _).trans (feq (by decide : ¬ ((1 : Int32) = (0 : Int32)))).1) ?_
      refine Ow.aload X132 hx (pc' := 537) (hb hby at_535) rfl rfl ?_
      refine Ow.bipush X132 hx (pc' := 539) (hb hby at_537) (z := (7 : Int32)) rfl ?_
      refine Ow.iload X132 hx (pc' := 541) (hb hby at_539) rfl ?_
      refine Ow.iload X132 hx (pc' := 543) (hb hby at_541) rfl ?_
      refine Ow.lload X132 hx (pc' := 545) (hb hby at_543) rfl ?_
      refine Ow.iload X132 hx (pc' := 547) (hb hby at_545) rfl ?_
      refine Ow.iload X132 hx (pc' := 549) (hb hby at_547) rfl ?_
      obtain ⟨_, _, ⟨T133, L133, k133, n133⟩, -, X133, ⟨Lc133, hQ133, l133, y133, z133⟩, st133⟩ := Jvm.LawKit.callS X132 hx (y := mt2) hown (mvT hZ (kw10 hw)) (mvT hZ (kw11 hw)) (mvT hZ (kw3 hw)) (mvT hZ (kw12 hw)) (by decide) (backOf (W := 0) (rm_at l Z a0 hw [] b107 (7 : Int32) v19 v296 v190 v56 (1 : Int32) q117 (own_by (own_W ylaw_1 (own_n v3) (own_n v30) ms51_0) (own_n v19) (own_n v14) v56 7) T116.heap n0 Z116 (by decide) (by rw [hq117]; exact own_get HB v56 7 (by decide) (by decide)) P116_0) hZ (kw12 hw) (kw3 hw) (by decide) (by decide)) (g := (mkF m 549 #[.val (.long ylaw_1), .second, .val (.int xlaw_2), .val (.int xlaw_3), .val (.int xlaw_4), .val (.int xlaw_5), .val (.int xlaw_6), .val (.int v3), .val (.int v14), .val (.int v19), .val (.int v30), .val (.int ms51_0), .val (.int v56), .val (.ref b41), .val (.ref b107), .val (.int v150), .val (.int (0 : Int32)), .val (.long v190), .second, .val (.long v190), .second, .val (.int ms266_0), .val (.int (1 : Int32)), .val (.int v296), .val (.int (1 : Int32))] [(.int (1 : Int32)), (.int v56), (.long v190), (.int v296), (.int v19), (.int (7 : Int32)), (.ref b107)])) rfl (by rw [hml]; rfl) (argsL := [(.ref b107), (.int (7 : Int32)), (.int v19), (.int v296), (.long v190), (.int v56), (.int (1 : Int32))]) (rest := []) (lenOf pd3 rfl) rfl (by show 2 * 0 + _ ≤ _; exact Nat.le_of_eq rfl) (hb hby at_549) (fun _ _ => ⟨rfl, e132, (by decide : 2 + 0 ≤ _), (by decide : 28 + 0 ≤ _)⟩)
      dsimp only [Pt.U, Pt.locs, Pt.cells, Pt.slots] at X133 l133 y133 z133 st133 hQ133
      subst l133 y133 z133
      obtain ⟨rfl, Nq133, e133⟩ := hQ133
      have N133 := Fr.app N132 Nq133
      refine Wq.step st133 ?_
      show Wq _ _ _ _ _ (T133.setTop (mkF m 552 #[.val (.long ylaw_1), .second, .val (.int xlaw_2), .val (.int xlaw_3), .val (.int xlaw_4), .val (.int xlaw_5), .val (.int xlaw_6), .val (.int v3), .val (.int v14), .val (.int v19), .val (.int v30), .val (.int ms51_0), .val (.int v56), .val (.ref b41), .val (.ref b107), .val (.int v150), .val (.int (0 : Int32)), .val (.long v190), .second, .val (.long v190), .second, .val (.int ms266_0), .val (.int (1 : Int32)), .val (.int v296), .val (.int (1 : Int32))] [(.int (f_at (7 : Int32) v19 v296 v190 v56 (1 : Int32) (own_by (own_W ylaw_1 (own_n v3) (own_n v30) ms51_0) (own_n v19) (own_n v14) v56 7)))]))
      generalize hv549 : (f_at (7 : Int32) v19 v296 v190 v56 (1 : Int32) (own_by (own_W ylaw_1 (own_n v3) (own_n v30) ms51_0) (own_n v19) (own_n v14) v56 7)) = v549
      show Wq _ _ _ _ _ (T133.setTop (mkF m 552 #[.val (.long ylaw_1), .second, .val (.int xlaw_2), .val (.int xlaw_3), .val (.int xlaw_4), .val (.int xlaw_5), .val (.int xlaw_6), .val (.int v3), .val (.int v14), .val (.int v19), .val (.int v30), .val (.int ms51_0), .val (.int v56), .val (.ref b41), .val (.ref b107), .val (.int v150), .val (.int (0 : Int32)), .val (.long v190), .second, .val (.long v190), .second, .val (.int ms266_0), .val (.int (1 : Int32)), .val (.int v296), .val (.int (1 : Int32))] [(.int v549)]))
      refine Ow.ifNo X133 hx (pc' := 555) (hb hby at_552) ((if0 _ _).trans (feq (own_at HB hv296 (Or.inr HI) 7 (by decide) hv549 : ¬ (v549 = (0 : Int32)))).1) ?_
      refine Ow.iconst X133 hx (pc' := 556) (hb hby at_555) (z := (1 : Int32)) rfl ?_
      refine Ow.goto X133 hx (pc' := 560) (hb hby at_556) (by decide) (by decide) ?_
      refine Ow.istore X133 hx (pc' := 562) (hb hby at_560) (l' := #[.val (.long ylaw_1), .second, .val (.int xlaw_2), .val (.int xlaw_3), .val (.int xlaw_4), .val (.int xlaw_5), .val (.int xlaw_6), .val (.int v3), .val (.int v14), .val (.int v19), .val (.int v30), .val (.int ms51_0), .val (.int v56), .val (.ref b41), .val (.ref b107), .val (.int v150), .val (.int (0 : Int32)), .val (.long v190), .second, .val (.long v190), .second, .val (.int ms266_0), .val (.int (1 : Int32)), .val (.int v296), .val (.int (1 : Int32))]) rfl ?_
      refine Ow.iload X133 hx (pc' := 564) (hb hby at_562) rfl ?_
      exact Wq.ret X133 (BodyLoose.notSynchronized Bd) (rv := some (.int (1 : Int32))) (fun h => by rw [Bd.returns] at h; cases h) (fun _ hr => retN X133 hx (t := .boolean) Bd.returns (by simp) (hb hby at_564) hr) (by decide) (by decide) ⟨rfl, N133⟩
set_option maxRecDepth 65536 in
set_option maxHeartbeats 40000000 in
theorem comes_1 {Post : Tables → Env → Array Value → State → Outcome → State → Prop} (hpost : ∀ tb e args s v u, (limb_1_1.after args s (.returned v) u = true ∧ limb_1_2.after args s (.returned v) u = true ∧ True) → FrameEnd s (.returned v) u (Jvm.fieldLocs frame_1_writes args s ++ Jvm.arrayLocs frame_1_arrays args s ++ Jvm.staticLocs frame_1_statics s) 16 128 → Post tb e args s (.returned v) u) :
    ArmFor flags0 classFile x code maxLocals ret World_1 tables_1 room_1 Calls_1 rest_1 Pre_1 Post := by
  intro l hfl _ _ p e ha hc hk s m args below hf hA hF happ hP
  obtain ⟨hcalls, hrest, hpre⟩ := hP
  obtain ⟨-, -, -, hnamed, -, -, -, hat⟩ := (Spec.applies_iff hf).mp happ
  obtain ⟨hg, hn⟩ := and_e (Cond.before_iff.mp (show (Jvm.Cond.and given_1 narrow_1).before args s = true from hpre))
  obtain ⟨hg1, hg2⟩ := and_e hg
  obtain ⟨ha0, hb0⟩ := and_e hg2
  obtain ⟨ha1, hb1⟩ := and_e hb0
  obtain ⟨ha2, hb2⟩ := and_e hb1
  obtain ⟨ha3, hb3⟩ := and_e hb2
  obtain ⟨ha4, hb4⟩ := and_e hb3
  obtain ⟨w0, w1, w2, w3, w4, w5, rfl⟩ : ∃ w0 w1 w2 w3 w4 w5 : Value, args = #[w0, w1, w2, w3, w4, w5] := by
    have hs : args.size = 6 := by simpa [Cond.value, given_1] using hg1
    obtain ⟨L⟩ := args
    match L, hs with
    | [w0, w1, w2, w3, w4, w5], _ => exact ⟨w0, w1, w2, w3, w4, w5, rfl⟩
  have hw := fun d (hd : d ∈ tables_1) => atoms_spec (ws := Jvm.Cond.code x code maxLocals ret :: tables_1) hat d (List.mem_cons_of_mem _ hd)
  have hfit : Fit s := fun {y c} hc i hi => by
    obtain ⟨ha, rfl⟩ := Array.getElem?_eq_some_iff.mp hc
    have q := List.all_eq_true.mp ((Array.all_eq_true_iff_forall_mem.mp hF) _ (Array.getElem_mem ha)) i (List.mem_range.mpr hi)
    simpa [Array.getElem?_eq_getElem hi] using q
  obtain ⟨i0, ei0⟩ := isL_v ha0
  obtain rfl : w0 = (.long i0) := Option.some.inj ei0
  obtain ⟨i1, ei1⟩ := is_v ha1
  obtain rfl : w1 = (.int i1) := Option.some.inj ei1
  obtain ⟨i2, ei2⟩ := is_v ha2
  obtain rfl : w2 = (.int i2) := Option.some.inj ei2
  obtain ⟨i3, ei3⟩ := is_v ha3
  obtain rfl : w3 = (.int i3) := Option.some.inj ei3
  obtain ⟨i4, ei4⟩ := is_v ha4
  obtain rfl : w4 = (.int i4) := Option.some.inj ei4
  obtain ⟨i5, ei5⟩ := is_v hb4
  obtain rfl : w5 = (.int i5) := Option.some.inj ei5
  obtain ⟨n, o, h1, h2, h3, _, L, rfl, ⟨rfl, N⟩, hq⟩ := rm_law l s _ hw tables_1 i0 i1 i2 i3 i4 i5 s.heap s.heap.size (Nat.le_refl _)  p e ha hc hk s m _ below hf ((Spec.applies_iff_loose hf).mp happ).1 ⟨rfl, State.Warmed39.refl s, rfl⟩ trivial
  refine ⟨n, _, h1, h2, h3, hpost _ _ _ _ _ _ ⟨Cond.after_iff.mpr rfl, Cond.after_iff.mpr (eq_i res_at (Term.int_eval (1)) rfl), trivial⟩ ⟨hq.1, hq.2.1, (hq.2.2.sift fun y hy => Or.inr (N y hy)).mono (by decide) (by decide)⟩⟩
theorem main_1_1 : Claimed_1_1 := comes_1 fun _ _ _ _ _ _ h hF => ⟨h.1, hF⟩
theorem main_1_2 : Claimed_1_2 := comes_1 fun _ _ _ _ _ _ h hF => ⟨h.2.1, hF⟩
end Jvm.Pilot.@@N@@
namespace Jvm.Pilot.@@N@@
open Jvm Jvm.ClassFile Sem Op Lib Jvm.Free Jvm.Stand Jvm.Pilot.@@N@@.Jvm.D
/-! MADE BY PROGRAM (witnessworld.py) out of the Statement's table words and the real class files: 9 classes; the members and pool entries that the words name. The judged class is class 1, her method 1. -/
namespace start1
open Jvm.ClassFile
def u (s : String) : CpInfo := .utf8 (stringToUtf16 s)
/-- a pool by its gaps: so many unusable entries, then the entry; so many at the end -/
def gap : Nat → List CpInfo → List CpInfo
  | 0, r => r
  | n + 1, r => .unusable :: gap n r
def poolList (es : List (Nat × CpInfo)) (last : Nat) : List CpInfo := es.foldr (fun e r => gap e.1 (e.2 :: r)) (gap last [])
def pool (es : List (Nat × CpInfo)) (last : Nat) : Array CpInfo := ⟨poolList es last⟩
def fileOf (pool : Array CpInfo) (this : Nat) (attrs : Array Attribute := #[]) (ms : Array MethodInfo := #[]) (fl : Nat := 33) (sup : Nat := 0) (ifs : Array Nat := #[]) (fds : Array FieldInfo := #[]) : ClassFile where
  minorVersion := 0
  majorVersion := 65
  constantPool := pool
  accessFlags := fl
  thisClass := this
  superClass := sup
  interfaces := ifs
  fields := fds
  methods := ms
  attributes := attrs
def plain (name : String) (sup : Option ClassId) : Class where
  name := name
  kind := .ordinary
  loader := none
  accessFlags := 33
  super := sup
  interfaces := #[]
  cf := none
  fields := #[]
  methods := #[]
  instanceTypes := #[]
  staticTypes := #[]
  resolved := #[]
  callSites := []
  init := .initialized
  statics := none
  mirror := none

def pool0 : Array CpInfo := pool [(5, u "<init>"), (0, u "()V"), (1, .class_ 10), (1, u "java/lang/Object")] 113

def k0m0 : Method := { name := "<init>", desc := "()V", sig := { parameters := [], returnType := none }, accessFlags := 1, code := none }
/-- java/lang/Object -/
def k0 : Class := { plain "java/lang/Object" none with
  accessFlags := 33
  interfaces := #[]
  cf := some (fileOf pool0 8 #[] #[{ accessFlags := 1, nameIndex := 5, descriptorIndex := 6, attributes := #[] }] 33 0 #[] #[])
  fields := #[]
  methods := #[k0m0]
  instanceTypes := #[]
  staticTypes := #[]
  resolved := Array.replicate 124 none
  statics := none }

def pool1 : Array CpInfo := pool [(2, .class_ 4), (1, u "java/lang/Object"), (0, u "<init>"), (0, u "()V"), (0, .methodref 8 9), (0, .class_ 10), (0, .nameAndType 11 12), (0, u "com/example/tightbit/tightbit/ByteArrayWriterPackOneBitPinLaw"), (0, u "fill"), (0, u "([IJ)V"), (0, .methodref 14 15), (0, .class_ 16), (0, .nameAndType 17 18), (0, u "com/example/tightbit/tightbit/ByteArrayWriter"), (0, u "packOneBit"), (0, u "([III[BI)I"), (0, .long 18446744073709551615), (1, .methodref 8 22), (0, .nameAndType 23 24), (0, u "at"), (0, u "([BIIIJBZ)Z"), (2, u "law"), (0, u "(JIIIII)Z")] 7

def k1m0 : Method := { name := "<init>", desc := "()V", sig := { parameters := [], returnType := none }, accessFlags := 2, code := none }
def k1c1 : Code := { maxStack := 8, maxLocals := 25, code := code, exceptionTable := #[], attributes := #[] }
def k1m1 : Method := { name := "law", desc := "(JIIIII)Z", sig := { parameters := [.long, .int, .int, .int, .int, .int], returnType := some .boolean }, accessFlags := 9, code := some k1c1 }
def k1c2 : Code := { maxStack := 6, maxLocals := 8, code := method_3_code, exceptionTable := #[], attributes := #[] }
def k1m2 : Method := { name := "at", desc := "([BIIIJBZ)Z", sig := { parameters := [(.array .byte), .int, .int, .int, .long, .byte, .boolean], returnType := some .boolean }, accessFlags := 10, code := some k1c2 }
def k1c3 : Code := { maxStack := 6, maxLocals := 3, code := method_4_code, exceptionTable := #[], attributes := #[] }
def k1m3 : Method := { name := "fill", desc := "([IJ)V", sig := { parameters := [(.array .int), .long], returnType := none }, accessFlags := 10, code := some k1c3 }
/-- com/example/tightbit/tightbit/ByteArrayWriterPackOneBitPinLaw -/
def k1 : Class := { plain "com/example/tightbit/tightbit/ByteArrayWriterPackOneBitPinLaw" (some 0) with
  accessFlags := 49
  interfaces := #[]
  cf := some (fileOf pool1 8 #[] #[{ accessFlags := 2, nameIndex := 5, descriptorIndex := 6, attributes := #[] }, { accessFlags := 9, nameIndex := 27, descriptorIndex := 28, attributes := #[] }, { accessFlags := 10, nameIndex := 23, descriptorIndex := 24, attributes := #[] }, { accessFlags := 10, nameIndex := 11, descriptorIndex := 12, attributes := #[] }] 49 2 #[] #[])
  fields := #[]
  methods := #[k1m0, k1m1, k1m2, k1m3]
  instanceTypes := #[]
  staticTypes := #[]
  resolved := Array.replicate 36 none
  statics := none }

def pool2 : Array CpInfo := pool [(4, .class_ 6), (1, u "java/lang/Object"), (0, u "<init>"), (0, u "()V"), (1, .class_ 12), (1, u "com/example/tightbit/tightbit/ByteArrayWriter"), (0, u "buffer"), (0, u "[B"), (6, u "size"), (0, u "I"), (62, u "LONGS"), (0, u "Ljava/lang/invoke/VarHandle;"), (39, u "BIG_ENDIAN_LONGS"), (54, u "MAX_SIZE"), (1, u "MAX_VARINT_BYTES"), (20, u "packOneBit"), (0, u "([III[BI)I")] 27

def k2m0 : Method := { name := "<init>", desc := "()V", sig := { parameters := [], returnType := none }, accessFlags := 1, code := none }
def k2c1 : Code := { maxStack := 4, maxLocals := 11, code := prog_14_method_18_code, exceptionTable := #[], attributes := #[] }
def k2m1 : Method := { name := "packOneBit", desc := "([III[BI)I", sig := { parameters := [(.array .int), .int, .int, (.array .byte), .int], returnType := some .int }, accessFlags := 8, code := some k2c1 }
/-- com/example/tightbit/tightbit/ByteArrayWriter -/
def k2 : Class := { plain "com/example/tightbit/tightbit/ByteArrayWriter" (some 0) with
  accessFlags := 49
  interfaces := #[]
  cf := some (fileOf pool2 10 #[] #[{ accessFlags := 1, nameIndex := 7, descriptorIndex := 8, attributes := #[] }, { accessFlags := 8, nameIndex := 204, descriptorIndex := 205, attributes := #[] }] 49 4 #[] #[{ accessFlags := 24, nameIndex := 181, descriptorIndex := 22, attributes := #[] }, { accessFlags := 26, nameIndex := 183, descriptorIndex := 22, attributes := #[] }, { accessFlags := 26, nameIndex := 85, descriptorIndex := 86, attributes := #[] }, { accessFlags := 26, nameIndex := 126, descriptorIndex := 86, attributes := #[] }, { accessFlags := 2, nameIndex := 13, descriptorIndex := 14, attributes := #[] }, { accessFlags := 2, nameIndex := 21, descriptorIndex := 22, attributes := #[] }])
  fields := #[{ name := "MAX_SIZE", type := .int, accessFlags := 24, slot := 0, constantValue := 0 }, { name := "MAX_VARINT_BYTES", type := .int, accessFlags := 26, slot := 1, constantValue := 0 }, { name := "LONGS", type := (.object "java/lang/invoke/VarHandle"), accessFlags := 26, slot := 2, constantValue := 0 }, { name := "BIG_ENDIAN_LONGS", type := (.object "java/lang/invoke/VarHandle"), accessFlags := 26, slot := 3, constantValue := 0 }, { name := "buffer", type := (.array .byte), accessFlags := 2, slot := 0, constantValue := 0 }, { name := "size", type := .int, accessFlags := 2, slot := 1, constantValue := 0 }]
  methods := #[k2m0, k2m1]
  instanceTypes := #[(.array .byte), .int]
  staticTypes := #[.int, .int, (.object "java/lang/invoke/VarHandle"), (.object "java/lang/invoke/VarHandle")]
  resolved := Array.replicate 233 none
  statics := none }

def pool3 : Array CpInfo := pool [(1, u "java/lang/Cloneable"), (0, .class_ 1), (0, u "java/lang/Object"), (0, .class_ 3)] 3

/-- java/lang/Cloneable -/
def k3 : Class := { plain "java/lang/Cloneable" (some 0) with
  accessFlags := 1537
  interfaces := #[]
  cf := some (fileOf pool3 2 #[] #[] 1537 4 #[] #[])
  fields := #[]
  methods := #[]
  instanceTypes := #[]
  staticTypes := #[]
  resolved := Array.replicate 8 none
  statics := none }

def pool4 : Array CpInfo := pool [(1, u "java/io/Serializable"), (0, .class_ 1), (0, u "java/lang/Object"), (0, .class_ 3)] 3

/-- java/io/Serializable -/
def k4 : Class := { plain "java/io/Serializable" (some 0) with
  accessFlags := 1537
  interfaces := #[]
  cf := some (fileOf pool4 2 #[] #[] 1537 4 #[] #[])
  fields := #[]
  methods := #[]
  instanceTypes := #[]
  staticTypes := #[]
  resolved := Array.replicate 8 none
  statics := none }

/-- the primitive byte -/
def k5 : Class := { plain "byte" none with kind := .primitive 'B', accessFlags := 0x411 }
/-- [B -/
def k6 : Class := { plain "[B" (some 0) with kind := .array 5 .byte, interfaces := #[3, 4], accessFlags := 1041 }

/-- the primitive int -/
def k7 : Class := { plain "int" none with kind := .primitive 'I', accessFlags := 0x411 }
/-- [I -/
def k8 : Class := { plain "[I" (some 0) with kind := .array 7 .int, interfaces := #[3, 4], accessFlags := 1041 }

def heap : Heap := #[]
def classes : Array Class := #[k0, k1, k2, k3, k4, k5, k6, k7, k8]
def interned : List (Array UInt16 × Addr) := []
def slotsUsed : Nat := 0
def theMethod : MethodId := ⟨1, 1⟩
def args0 : Array Value := #[.long 5, .int 7, .int 9, .int 11, .int 3, .int 4]
def aboutOver (below : List Frame) : State where
  vm := { classes := classes, interned := interned.toArray }
  heap := heap
  slotsUsed := slotsUsed
  threads := #[{ frames := .invoking theMethod args0 :: below }]
def below0 : List Frame := [.native { method := ⟨0, 0⟩, args := #[] }]
def about1 : State := aboutOver below0
def p0 : Program := .bare "" "" ""
def e0 : Env := launch0.env 0 0 0
theorem w_frames : about1.frames = Frame.invoking theMethod args0 :: below0 := rfl
set_option maxRecDepth 65536 in
theorem w_args : argsFit about1.vm theMethod args0 = true := by decide +kernel
set_option maxRecDepth 65536 in
theorem w_heap : heapFits about1 = true := by decide +kernel
set_option maxRecDepth 65536 in
theorem w_runnable : about1.curStatus? = some .runnable := by decide +kernel
set_option maxRecDepth 65536 in
theorem w_alone : about1.alone = true := by decide +kernel
set_option maxRecDepth 65536 in
theorem w_named : about1.methodNamed? x = some theMethod := by decide +kernel
set_option maxRecDepth 65536 in
theorem w_hears : about1.hears theMethod below0 = true := by decide +kernel
set_option maxRecDepth 65536 in
theorem w_ripe : about1.ripe theMethod args0 below0 = true := by decide +kernel
theorem w_running : about1.status = .running := rfl
set_option maxRecDepth 65536 in
theorem w_room : about1.hasRoom e0.platform room_1 = true :=
  launch0.hasRoom_least _ room_1 (by decide +kernel) (by decide +kernel) (by decide +kernel) (by decide +kernel) (by decide +kernel) (by decide +kernel)
theorem allAtoms_all (ts : List Jvm.Cond) (a : Array Jvm.Value) (st : Jvm.State) : (allAtoms ts).before a st = ts.all (fun c => c.before a st) := by
  induction ts with
  | nil => rfl
  | cons c t ih =>
    show (Jvm.Cond.and c (allAtoms t)).before a st = _
    rw [Jvm.Cond.before_and, ih, List.all_cons]
def words1 : List Jvm.Cond := Jvm.Cond.code x code maxLocals ret :: tables_1
/-- a 'code' word, met by the world's own term for the bytes: nothing is compared byte by byte -/
theorem code_word {y : MethodName} {bytes : ByteArray} {mx : Nat} {rt : Option FieldType} {a : Array Value} {s : State} {m : MethodId} {meth : Method} {c : Code} (h1 : s.methodNamed? y = some m) (h2 : s.vm.method? m = some meth) (h3 : meth.code = some c) (h4 : c.code = bytes)
    (h5 : (c.maxLocals == mx && c.exceptionTable.isEmpty && decide (c.maxStack ≤ mostOperands) && decide (meth.sig.returnType = rt) && !meth.locks && decide (parseMethodDescriptor y.desc = some meth.sig)) = true) : (Jvm.Cond.code y bytes mx rt).before a s = true := by
  simp only [Bool.and_eq_true, beq_iff_eq, Bool.not_eq_true', decide_eq_true_eq] at h5
  obtain ⟨⟨⟨⟨⟨g1, g2⟩, g3⟩, g4⟩, g5⟩, g6⟩ := h5
  simp [Cond.before, Cond.holds, Cond.value, h1, h2, h3, h4, g1, g2, g3, g4, g5, g6]
def isCode : Jvm.Cond → Bool
  | .code _ _ _ _ => true
  | _ => false
theorem all_split {L : List Jvm.Cond} {P : Jvm.Cond → Bool} (h1 : L.all (fun c => isCode c || P c) = true) (h2 : ∀ c ∈ L.filter isCode, P c = true) : L.all P = true := by
  refine List.all_eq_true.mpr fun c hc => ?_
  have h := List.all_eq_true.mp h1 c hc
  rcases Bool.eq_false_or_eq_true (isCode c) with hi | hi
  · exact h2 c (List.mem_filter.mpr ⟨hc, hi⟩)
  · simpa [hi] using h
set_option maxRecDepth 65536 in
theorem w_c0 : (Jvm.Cond.code x code maxLocals ret).before args0 about1 = true := code_word (m := ⟨1, 1⟩) (meth := k1m1) (c := k1c1) (by decide +kernel) rfl rfl rfl (by decide +kernel)
set_option maxRecDepth 65536 in
theorem w_c1 : (Jvm.Cond.code ({ cls := "com/example/tightbit/tightbit/ByteArrayWriterPackOneBitPinLaw", name := "fill", desc := "([IJ)V" } : Jvm.MethodName) method_4_code (3 : Nat) (Option.none : Option Jvm.ClassFile.FieldType)).before args0 about1 = true := code_word (m := ⟨1, 3⟩) (meth := k1m3) (c := k1c3) (by decide +kernel) rfl rfl rfl (by decide +kernel)
set_option maxRecDepth 65536 in
theorem w_c2 : (Jvm.Cond.code ({ cls := "com/example/tightbit/tightbit/ByteArrayWriter", name := "packOneBit", desc := "([III[BI)I" } : Jvm.MethodName) prog_14_method_18_code (11 : Nat) (Option.some Jvm.ClassFile.FieldType.int)).before args0 about1 = true := code_word (m := ⟨2, 1⟩) (meth := k2m1) (c := k2c1) (by decide +kernel) rfl rfl rfl (by decide +kernel)
set_option maxRecDepth 65536 in
theorem w_c3 : (Jvm.Cond.code ({ cls := "com/example/tightbit/tightbit/ByteArrayWriterPackOneBitPinLaw", name := "at", desc := "([BIIIJBZ)Z" } : Jvm.MethodName) method_3_code (8 : Nat) (Option.some Jvm.ClassFile.FieldType.boolean)).before args0 about1 = true := code_word (m := ⟨1, 2⟩) (meth := k1m2) (c := k1c2) (by decide +kernel) rfl rfl rfl (by decide +kernel)
def codes1 : List Jvm.Cond := [Jvm.Cond.code x code maxLocals ret, Jvm.Cond.code ({ cls := "com/example/tightbit/tightbit/ByteArrayWriterPackOneBitPinLaw", name := "fill", desc := "([IJ)V" } : Jvm.MethodName) method_4_code (3 : Nat) (Option.none : Option Jvm.ClassFile.FieldType), Jvm.Cond.code ({ cls := "com/example/tightbit/tightbit/ByteArrayWriter", name := "packOneBit", desc := "([III[BI)I" } : Jvm.MethodName) prog_14_method_18_code (11 : Nat) (Option.some Jvm.ClassFile.FieldType.int), Jvm.Cond.code ({ cls := "com/example/tightbit/tightbit/ByteArrayWriterPackOneBitPinLaw", name := "at", desc := "([BIIIJBZ)Z" } : Jvm.MethodName) method_3_code (8 : Nat) (Option.some Jvm.ClassFile.FieldType.boolean)]
set_option maxRecDepth 65536 in
theorem codes_eq : words1.filter isCode = codes1 := rfl
theorem w_codes : ∀ c ∈ words1.filter isCode, c.before args0 about1 = true := by
  rw [codes_eq]
  intro c hc
  simp only [codes1, List.mem_cons, List.not_mem_nil, or_false] at hc
  rcases hc with rfl | rfl | rfl | rfl
  · exact w_c0
  · exact w_c1
  · exact w_c2
  · exact w_c3
set_option maxRecDepth 65536 in
theorem w_t1 : words1.all (fun c => isCode c || c.before args0 about1) = true := by decide +kernel
theorem w_tables : (allAtoms (Jvm.Cond.code x code maxLocals ret :: tables_1)).before args0 about1 = true := by
  rw [allAtoms_all]
  show words1.all (fun c => c.before args0 about1) = true
  refine all_split ?_ w_codes
  rw [w_t1]
set_option maxRecDepth 65536 in
theorem w_case : (Jvm.Cond.and given_1 narrow_1).before args0 about1 = true := by decide +kernel
theorem w_applies : (headSpec (Jvm.Cond.code x code maxLocals ret :: tables_1) room_1).applies x e0.platform about1 = true :=
  (Spec.applies_iff w_frames).mpr ⟨w_running, w_runnable, w_alone, w_named, w_hears, w_ripe, w_room, w_tables⟩
theorem atStart : AtStart classFile x code maxLocals ret World_1 tables_1 room_1 Calls_1 rest_1 Pre_1 launch0 p0 e0 about1 theMethod args0 below0 :=
  ⟨lists_1, trivial, launch0.admits_env _ _ _, launch0.least_env, fairChoices_fair.cas, fairChoices_fair.clock, w_frames, w_args, w_heap, w_applies, trivial, trivial, w_case⟩
end start1
theorem witness_1 : WitnessClaimed_1 := ⟨start1.p0, start1.e0, start1.about1, start1.theMethod, start1.args0, start1.below0, start1.atStart⟩
end Jvm.Pilot.@@N@@
