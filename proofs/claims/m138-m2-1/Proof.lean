import JvmDerived
import JvmDerived.Pilot.@@N@@Statement
import JvmDerived.Pilot.@@N@@Code
set_option linter.unusedVariables false
set_option linter.unusedSimpArgs false
namespace Jvm.OwnW
open Sem ClassFile Op Lib Jvm.Stand Jvm.Free Jvm.LawKit Jvm.RoadKit
section Base
variable {p : Program} {l : Launch} {e : Env} {R : Room} {s : State} {m : MethodId} {args : Array Value} {below : List Frame} {meth : Method} {c : Code} {T : State} {locs : List Loc} {cells slots : Nat} {Z : State} {h h' : Heap} {a b : Addr} {ty : FieldType} {vs : List Value} {v : Value} {sl : Nat} {ws : List Addr}
variable {Q : Option Value → Heap → List Loc → Prop} {En : Outcome → State → List Loc → Prop} {kc ks : Nat} {U U' : State}
/-- from U the body comes to its end; what it leaves is Q, its frame En -/
def Wq (p : Program) (e : Env) (below : List Frame) (En : Outcome → State → List Loc → Prop) (Q : Option Value → Heap → List Loc → Prop) (U : State) : Prop :=
  ∃ s₂ o, Steps p.tables e below U s₂ ∧ s₂.status = .running ∧ Ended s₂ below o ∧ ∃ v L, o = .returned v ∧ Q v s₂.heap L ∧ En o s₂ L
theorem Wq.step (h1 : ∀ t, Steps p.tables e below U' t → Steps p.tables e below U t) (k : Wq p e below En Q U') : Wq p e below En Q U := by
  obtain ⟨s₂, o, q, r⟩ := k; exact ⟨s₂, o, h1 _ q, r⟩
theorem Wq.steps (h1 : Steps p.tables e below U U') (k : Wq p e below En Q U') : Wq p e below En Q U := by
  obtain ⟨s₂, o, q, r⟩ := k; exact ⟨s₂, o, h1.trans q, r⟩
theorem Wq.by (k1 : Wq p e below En Q U' → Wq p e below En Q U) (k : Wq p e below En Q U') : Wq p e below En Q U := k1 k
theorem Wq.ret {rv : Option Value} {g : JFrame} (X : Stand p l e R s m args below meth c T locs cells slots) (hlk : meth.locks = false) (hv : meth.sig.returnType = none → rv = none)
    (st : ∀ fs, (∀ (f : JFrame) (acts : List Action), f.method = m → f.locked = none → f.entered = [] → (doReturn e (T.setTop f) acts rv).1 = T.setFrames fs) → Steps p.tables e below (T.setTop g) (T.setFrames fs))
    (hc : cells ≤ kc) (hs : slots ≤ ks) (hQ : Q rv T.heap locs) : Wq p e below (fun o t L => FrameEnd s o t L kc ks) Q (T.setTop g) := by
  obtain ⟨fs, hr, hrun, hended, hW, hsame⟩ := X.leave (v := rv) hv hlk
  exact ⟨_, _, st fs hr, hrun, hended, rv, locs, rfl, hQ, ⟨rv, rfl⟩, hW, hsame.mono hc hs⟩
/-- the same for a body that may load a String constant for the first time -/
theorem Wq.retW {rv : Option Value} {g : JFrame} {vm₁ : Vm} {n : Nat} (X : Stand p l e R (s.setVm vm₁) m args below meth c T locs cells slots) (hS : s.Since vm₁ n) (hn : n ≤ T.heap.size) (hlk : meth.locks = false) (hv : meth.sig.returnType = none → rv = none)
    (st : ∀ fs, (∀ (f : JFrame) (acts : List Action), f.method = m → f.locked = none → f.entered = [] → (doReturn e (T.setTop f) acts rv).1 = T.setFrames fs) → Steps p.tables e below (T.setTop g) (T.setFrames fs))
    (hc : cells ≤ kc) (hs : slots ≤ ks) (hQ : Q rv T.heap locs) : Wq p e below (fun o t L => ReturnedEndW s o t L kc ks) Q (T.setTop g) := by
  obtain ⟨fs, hr, hrun, hended, w1, w2, w3, w4⟩ := X.leaveW hS hn (v := rv) hv hlk
  exact ⟨_, _, st fs hr, hrun, hended, rv, locs, rfl, hQ, ⟨rv, rfl⟩, w2, w3, w4.mono hc hs⟩
/-- an array and the whole list of what it holds -/
def Al (Z : State) (h : Heap) (a : Addr) (ty : FieldType) (vs : List Value) : Prop := ∃ cl : Cell, Arr Z h a cl ty ∧ cl.slots.toList = vs
theorem Al.lt (V : Al Z h a ty vs) : a < h.size := by obtain ⟨cl, A, -⟩ := V; exact A.lt
theorem Al.ext (V : Al Z h a ty vs) (E : Ext h h') : Al Z h' a ty vs := by obtain ⟨cl, A, r⟩ := V; exact ⟨cl, A.ext E, r⟩
theorem Al.other (V : Al Z h b ty vs) (W : Wr h h' a sl v) (q : b ≠ a) : Al Z h' b ty vs := by obtain ⟨cl, A, r⟩ := V; exact ⟨cl, A.other W q, r⟩
theorem Al.keep (V : Al Z h a ty vs) (K : Keep h h' ws) (q : a ∉ ws) : Al Z h' a ty vs := by obtain ⟨cl, A, r⟩ := V; exact ⟨cl, ⟨K.2.1 a cl A.1 q, A.2⟩, r⟩
theorem Al.new {cA : ClassId} {n : Int32} {k : Nat} {dv : Value} (A : Arr Z h a (newA cA ty n) ty) (hk : n.toNatClampNeg = k) (hd : defaultValue ty = dv) : Al Z h a ty (List.replicate k dv) := ⟨_, A, by subst hk hd; simp [newA]⟩
theorem Al.set (V : Al Z h a ty vs) (W : Wr h h' a sl v) : Al Z h' a ty (vs.set sl v) := by
  obtain ⟨cl, A, rfl⟩ := V
  exact ⟨_, A.same W, by simp [Cell.setSlot]⟩
theorem Sta.keepN {C n d : String} {v : Value} (F : Sta Z h C n d v) (K : Keep h h' ws) (q : ∀ w ∈ ws, ∀ cell : Cell, h[w]? = some cell → cell.vm.isStatics = false) : Sta Z h' C n d v := by
  obtain ⟨cf, i, k, f, st, cell, h1, h2, h3, h4, h5, h6, h7⟩ := F
  exact ⟨cf, i, k, f, st, cell, h1, h2, h3, h4, K.2.1 _ _ h5 (fun hm => by rw [q st hm cell h5] at h6; cases h6), h6, h7⟩
theorem fldI {t : Term} {C n d : String} {k : Int32} (hx : (Cond.eq (.field t C n d) (.int k)).value args s none s [] = some true) (ev : t.eval args s none [] s = some (.ref a)) : Fld s s.heap a C n d (.int k) := by
  refine Fld.start ?_
  have e1 := fld_at (C := C) (n := n) (dd := d) ev
  obtain ⟨x, y, h1, h2, k1, k2⟩ := cmp_v (Or.inl hx)
  rw [Term.int_eval] at h2
  cases h2
  rw [e1] at h1
  cases x <;> simp only [Kin] at k2 <;> first | (obtain ⟨z, hz⟩ := k2; cases hz) | skip
  have q := gotT (Cond.eq_ints (e1.trans h1) (Term.int_eval k)) hx
  rw [h1, q]
theorem fldJ {t : Term} {C n d : String} {k : Int64} (hx : (Cond.eq (.field t C n d) (.long k)).value args s none s [] = some true) (ev : t.eval args s none [] s = some (.ref a)) : Fld s s.heap a C n d (.long k) := by
  refine Fld.start ?_
  have e1 := fld_at (C := C) (n := n) (dd := d) ev
  obtain ⟨x, y, h1, h2, k1, k2⟩ := cmp_v (Or.inl hx)
  rw [long_at] at h2
  cases h2
  rw [e1] at h1
  cases x <;> simp only [Kin] at k2 <;> first | (obtain ⟨z, hz⟩ := k2; cases hz) | skip
  have q := gotT (eq_L (e1.trans h1) (long_at k)) hx
  rw [h1, q]
theorem Exa.ns {C : String} (F : Exa Z h a C) : ∀ cell : Cell, h[a]? = some cell → cell.vm.isStatics = false := by
  obtain ⟨c1, k, h1, h2, h3, h4, h5⟩ := F
  intro cell hc; cases h1.symm.trans hc; exact h4
theorem Al.ns (V : Al Z h a ty vs) : ∀ cell : Cell, h[a]? = some cell → cell.vm.isStatics = false := by
  obtain ⟨cl, A, -⟩ := V
  intro cell hc; cases A.1.symm.trans hc; exact A.plain
theorem clA (X : Stand p l e R s m args below meth c T locs cells slots) (hx : p.tables.exec = Jvm.exec) (hZ : Z.Warmed39 s.vm) {a0 : Array Value} {own ad : String} {index : Nat} (hown : s.vm.findClass own = some m.cls)
    (w1 : (Cond.methodLink own index ⟨ad, "clone", "()Ljava/lang/Object;"⟩).before a0 Z = true) (w2 : (Cond.sameMethod ad "java/lang/Object" "clone" "()Ljava/lang/Object;").before a0 Z = true) (w3 : (Cond.native ⟨"java/lang/Object", "clone", "()Ljava/lang/Object;"⟩).before a0 Z = true)
    (w4 : (Cond.instanceMethod ⟨"java/lang/Object", "clone", "()Ljava/lang/Object;"⟩).before a0 Z = true) (w5 : (Cond.selects ad ⟨ad, "clone", "()Ljava/lang/Object;"⟩ ⟨"java/lang/Object", "clone", "()Ljava/lang/Object;"⟩).before a0 Z = true) (w6 : (Cond.castable ad "java/lang/Cloneable").before a0 Z = true)
    (eT : T.heap = h) (V : Al Z h a ty vs) (E : Exa Z h a ad) (F : ∀ v ∈ vs, fits ty v = true) {g : JFrame} (hg : g.method = m) (hsize : g.locals.size = c.maxLocals) {rest : List Value} (hst : g.stack = .ref a :: rest) (hd : decode c.code g.pc = .ok (.invokevirtual index, 3))
    (hf : 1 ≤ R.frames) {W cap : Nat} (hW : 2 * g.monitorRoom + (rest.map fun v => v.category).sum ≤ W) (hl : W + 14 ≤ R.locals) (hcap : vs.length ≤ cap) (hc : cells + 1 ≤ R.cells) (hsl : slots + cap ≤ R.slots) :
    ∃ T' h', Stand p l e R s m args below meth c T' locs (cells + 1) (slots + cap) ∧ T'.heap = h' ∧ Ext h h' ∧ Al Z h' h.size ty vs ∧ Exa Z h' h.size ad ∧
      ∀ target, Steps p.tables e below (T'.setTop { g with pc := g.pc + 3, stack := .ref h.size :: rest }) target → Steps p.tables e below (T.setTop g) target := by
  obtain ⟨cl, A, r⟩ := V
  have FC : FitC Z cl := fitC_of A fun i hi v hv => F v (by rw [← r]; exact Array.mem_toList_iff.mpr (Array.mem_of_getElem? hv))
  obtain ⟨T', h', X', e', ex, A', E', st⟩ := cloneA X hx hZ hown w1 w2 w3 w4 w5 w6 eT A E FC hg hsize hst hd hf hW hl (by rw [← Array.length_toList, r]; exact hcap) hc hsl
  exact ⟨T', h', X', e', ex, ⟨_, A', r⟩, E', st⟩
theorem selPriv {a0 : Array Value} {y : MethodName} {k : Nat} (hZ : Z.Warmed39 s.vm) (wi : (Cond.instantiable y.cls k).before a0 Z = true) (wp : (Cond.privateMethod y).before a0 Z = true) (wm : (Cond.instanceMethod y).before a0 Z = true) (hy : y.cls ≠ "java/lang/invoke/MethodHandle" ∧ y.cls ≠ "java/lang/invoke/VarHandle") : (Cond.selects y.cls y y).before args s = true := by
  obtain ⟨c, k, h1, h2, -, h4, -⟩ := Cond.instantiable_spec (mv (args := args) hZ wi)
  simp only [Bool.or_eq_false_iff] at h4
  exact Jvm.Stand.selects_self_of_private h1 h2 h4.1 (Cond.privateMethod_at (mvP hZ wp (args := args))) (mv hZ wm) hy
theorem al_in {cl : Cell} {j : Int32} {i : Nat} (hvs : cl.slots.toList = vs) (hj : ¬ j < 0) (hi : j.toNatClampNeg = i) (hl : i < vs.length) : ¬ (j < 0 ∨ cl.slots.size ≤ j.toNatClampNeg) := by
  subst hvs hi
  rintro (q | q)
  · exact hj q
  · simp only [Array.length_toList] at hl; omega
theorem al_at {cl : Cell} {j : Int32} {i : Nat} (hvs : cl.slots.toList = vs) (hi : j.toNatClampNeg = i) (hv : vs[i]? = some v) : cl.slots[j.toNatClampNeg]? = some v := by
  subst hvs hi; simpa using hv
theorem al_lt {i : Nat} (hv : vs[i]? = some v) : i < vs.length := (List.getElem?_eq_some_iff.mp hv).1
theorem ldI (X : Stand p l e R s m args below meth c T locs cells slots) (hx : p.tables.exec = Jvm.exec) (hZ : Z.Warmed39 s.vm) (eT : T.heap = h) (V : Al Z h a .int vs) {j : Int32} {i : Nat} (hj : ¬ j < 0) (hi : j.toNatClampNeg = i) (hv : vs[i]? = some v) {g : JFrame} (hg : g.method = m) {rest : List Value} (hs : g.stack = .int j :: .ref a :: rest) (hd : decode c.code g.pc = .ok (.iaload, 1)) {target : State}
    (k : Steps p.tables e below (T.setTop { g with pc := g.pc + 1, stack := v :: rest }) target) : Steps p.tables e below (T.setTop g) target := by
  obtain ⟨cl, A, r⟩ := V
  exact X.iaload hx (by rw [eT]; exact A.1) (State.isArrayOf_alike hZ.alike A.2.1) A.2.2 (al_in r hj hi (al_lt hv)) (al_at r hi hv) hg hs hd _ k
theorem ldJ (X : Stand p l e R s m args below meth c T locs cells slots) (hx : p.tables.exec = Jvm.exec) (hZ : Z.Warmed39 s.vm) (eT : T.heap = h) (V : Al Z h a .long vs) {j : Int32} {i : Nat} (hj : ¬ j < 0) (hi : j.toNatClampNeg = i) (hv : vs[i]? = some v) {g : JFrame} (hg : g.method = m) {rest : List Value} (hs : g.stack = .int j :: .ref a :: rest) (hd : decode c.code g.pc = .ok (.laload, 1)) {target : State}
    (k : Steps p.tables e below (T.setTop { g with pc := g.pc + 1, stack := v :: rest }) target) : Steps p.tables e below (T.setTop g) target := by
  obtain ⟨cl, A, r⟩ := V
  exact X.laload hx (by rw [eT]; exact A.1) (State.isArrayOf_alike hZ.alike A.2.1) A.2.2 (al_in r hj hi (al_lt hv)) (al_at r hi hv) hg hs hd _ k
theorem ldC (X : Stand p l e R s m args below meth c T locs cells slots) (hx : p.tables.exec = Jvm.exec) (hZ : Z.Warmed39 s.vm) (eT : T.heap = h) (V : Al Z h a .char vs) {j : Int32} {i : Nat} (hj : ¬ j < 0) (hi : j.toNatClampNeg = i) (hv : vs[i]? = some v) {g : JFrame} (hg : g.method = m) {rest : List Value} (hs : g.stack = .int j :: .ref a :: rest) (hd : decode c.code g.pc = .ok (.caload, 1)) {target : State}
    (k : Steps p.tables e below (T.setTop { g with pc := g.pc + 1, stack := v :: rest }) target) : Steps p.tables e below (T.setTop g) target := by
  obtain ⟨cl, A, r⟩ := V
  exact X.caload hx (by rw [eT]; exact A.1) (State.isArrayOf_alike hZ.alike A.2.1) A.2.2 (al_in r hj hi (al_lt hv)) (al_at r hi hv) hg hs hd _ k
theorem ldB (X : Stand p l e R s m args below meth c T locs cells slots) (hx : p.tables.exec = Jvm.exec) (hZ : Z.Warmed39 s.vm) (eT : T.heap = h) (V : Al Z h a .byte vs) {j : Int32} {i : Nat} (hj : ¬ j < 0) (hi : j.toNatClampNeg = i) (hv : vs[i]? = some v) {g : JFrame} (hg : g.method = m) {rest : List Value} (hs : g.stack = .int j :: .ref a :: rest) (hd : decode c.code g.pc = .ok (.baload, 1)) {target : State}
    (k : Steps p.tables e below (T.setTop { g with pc := g.pc + 1, stack := v :: rest }) target) : Steps p.tables e below (T.setTop g) target := by
  obtain ⟨cl, A, r⟩ := V
  exact X.baloadBytes hx (by rw [eT]; exact A.1) (State.isArrayOf_alike hZ.alike A.2.1) A.2.2 (al_in r hj hi (al_lt hv)) (al_at r hi hv) hg hs hd _ k
theorem ldZ (X : Stand p l e R s m args below meth c T locs cells slots) (hx : p.tables.exec = Jvm.exec) (hZ : Z.Warmed39 s.vm) (eT : T.heap = h) (V : Al Z h a .boolean vs) {j : Int32} {i : Nat} (hj : ¬ j < 0) (hi : j.toNatClampNeg = i) (hv : vs[i]? = some v) {g : JFrame} (hg : g.method = m) {rest : List Value} (hs : g.stack = .int j :: .ref a :: rest) (hd : decode c.code g.pc = .ok (.baload, 1)) {target : State}
    (k : Steps p.tables e below (T.setTop { g with pc := g.pc + 1, stack := v :: rest }) target) : Steps p.tables e below (T.setTop g) target := by
  obtain ⟨cl, A, r⟩ := V
  exact X.baloadBooleans hx (by rw [eT]; exact A.1) (State.isArrayOf_alike hZ.alike A.2.1) A.2.2 (al_in r hj hi (al_lt hv)) (al_at r hi hv) hg hs hd _ k
theorem lenA (X : Stand p l e R s m args below meth c T locs cells slots) (hx : p.tables.exec = Jvm.exec) (hZ : Z.Warmed39 s.vm) (eT : T.heap = h) (V : Al Z h a ty vs) {n : Int32} (hn : vs.length.toInt32 = n) {g : JFrame} (hg : g.method = m) {rest : List Value} (hs : g.stack = .ref a :: rest) (hd : decode c.code g.pc = .ok (.arraylength, 1)) {target : State}
    (k : Steps p.tables e below (T.setTop { g with pc := g.pc + 1, stack := .int n :: rest }) target) : Steps p.tables e below (T.setTop g) target := by
  obtain ⟨cl, A, r⟩ := V
  refine X.arraylength hx (by rw [eT]; exact A.1) (State.isArrayOf_alike hZ.alike A.2.1) hg hs hd _ ?_
  rw [show cl.slots.size.toInt32 = n from by rw [← hn, ← r, Array.length_toList]]
  exact k
theorem asI (X : Stand p l e R s m args below meth c T locs cells slots) (hx : p.tables.exec = Jvm.exec) (hZ : Z.Warmed39 s.vm) (eT : T.heap = h) (V : Al Z h a .int vs) {j : Int32} {i : Nat} {x : Int32} (hj : ¬ j < 0) (hi : j.toNatClampNeg = i) (hl : i < vs.length) {g : JFrame} (hg : g.method = m) {rest : List Value} (hs : g.stack = .int x :: .int j :: .ref a :: rest) (hd : decode c.code g.pc = .ok (.iastore, 1)) :
    ∃ T' h', Stand p l e R s m args below meth c T' (locs ++ [⟨a, i⟩]) cells slots ∧ T'.heap = h' ∧ Wr h h' a i (.int x) ∧ Al Z h' a .int (vs.set i (.int x)) ∧ ∀ target, Steps p.tables e below (T'.setTop { g with pc := g.pc + 1, stack := rest }) target → Steps p.tables e below (T.setTop g) target := by
  have V0 := V
  obtain ⟨cl, A, r⟩ := V
  obtain ⟨T', h', X', e', W, st⟩ := stI X hx hZ eT A (al_in r hj hi hl) hg hs hd
  subst hi
  exact ⟨T', h', X', e', W, V0.set W, st⟩
theorem asJ (X : Stand p l e R s m args below meth c T locs cells slots) (hx : p.tables.exec = Jvm.exec) (hZ : Z.Warmed39 s.vm) (eT : T.heap = h) (V : Al Z h a .long vs) {j : Int32} {i : Nat} {x : Int64} (hj : ¬ j < 0) (hi : j.toNatClampNeg = i) (hl : i < vs.length) {g : JFrame} (hg : g.method = m) {rest : List Value} (hs : g.stack = .long x :: .int j :: .ref a :: rest) (hd : decode c.code g.pc = .ok (.lastore, 1)) :
    ∃ T' h', Stand p l e R s m args below meth c T' (locs ++ [⟨a, i⟩]) cells slots ∧ T'.heap = h' ∧ Wr h h' a i (.long x) ∧ Al Z h' a .long (vs.set i (.long x)) ∧ ∀ target, Steps p.tables e below (T'.setTop { g with pc := g.pc + 1, stack := rest }) target → Steps p.tables e below (T.setTop g) target := by
  have V0 := V
  obtain ⟨cl, A, r⟩ := V
  obtain ⟨T', h', X', e', W, st⟩ := stJ X hx hZ eT A (al_in r hj hi hl) hg hs hd
  subst hi
  exact ⟨T', h', X', e', W, V0.set W, st⟩
theorem asC (X : Stand p l e R s m args below meth c T locs cells slots) (hx : p.tables.exec = Jvm.exec) (hZ : Z.Warmed39 s.vm) (eT : T.heap = h) (V : Al Z h a .char vs) {j : Int32} {i : Nat} {x y : Int32} (hj : ¬ j < 0) (hi : j.toNatClampNeg = i) (hl : i < vs.length) (hy : nar .char x = y) {g : JFrame} (hg : g.method = m) {rest : List Value} (hs : g.stack = .int x :: .int j :: .ref a :: rest) (hd : decode c.code g.pc = .ok (.castore, 1)) :
    ∃ T' h', Stand p l e R s m args below meth c T' (locs ++ [⟨a, i⟩]) cells slots ∧ T'.heap = h' ∧ Wr h h' a i (.int y) ∧ Al Z h' a .char (vs.set i (.int y)) ∧ ∀ target, Steps p.tables e below (T'.setTop { g with pc := g.pc + 1, stack := rest }) target → Steps p.tables e below (T.setTop g) target := by
  have V0 := V
  obtain ⟨cl, A, r⟩ := V
  obtain ⟨T', h', X', e', W, st⟩ := stC X hx hZ eT A (al_in r hj hi hl) hg hs hd
  subst hi hy
  exact ⟨T', h', X', e', W, V0.set W, st⟩
theorem asB (X : Stand p l e R s m args below meth c T locs cells slots) (hx : p.tables.exec = Jvm.exec) (hZ : Z.Warmed39 s.vm) (eT : T.heap = h) (V : Al Z h a .byte vs) {j : Int32} {i : Nat} {x y : Int32} (hj : ¬ j < 0) (hi : j.toNatClampNeg = i) (hl : i < vs.length) (hy : nar .byte x = y) {g : JFrame} (hg : g.method = m) {rest : List Value} (hs : g.stack = .int x :: .int j :: .ref a :: rest) (hd : decode c.code g.pc = .ok (.bastore, 1)) :
    ∃ T' h', Stand p l e R s m args below meth c T' (locs ++ [⟨a, i⟩]) cells slots ∧ T'.heap = h' ∧ Wr h h' a i (.int y) ∧ Al Z h' a .byte (vs.set i (.int y)) ∧ ∀ target, Steps p.tables e below (T'.setTop { g with pc := g.pc + 1, stack := rest }) target → Steps p.tables e below (T.setTop g) target := by
  have V0 := V
  obtain ⟨cl, A, r⟩ := V
  obtain ⟨T', h', X', e', W, st⟩ := stB X hx hZ eT A (al_in r hj hi hl) hg hs hd
  subst hi hy
  exact ⟨T', h', X', e', W, V0.set W, st⟩
theorem asZ (X : Stand p l e R s m args below meth c T locs cells slots) (hx : p.tables.exec = Jvm.exec) (hZ : Z.Warmed39 s.vm) (eT : T.heap = h) (V : Al Z h a .boolean vs) {j : Int32} {i : Nat} {x y : Int32} (hj : ¬ j < 0) (hi : j.toNatClampNeg = i) (hl : i < vs.length) (hy : nar .boolean x = y) {g : JFrame} (hg : g.method = m) {rest : List Value} (hs : g.stack = .int x :: .int j :: .ref a :: rest) (hd : decode c.code g.pc = .ok (.bastore, 1)) :
    ∃ T' h', Stand p l e R s m args below meth c T' (locs ++ [⟨a, i⟩]) cells slots ∧ T'.heap = h' ∧ Wr h h' a i (.int y) ∧ Al Z h' a .boolean (vs.set i (.int y)) ∧ ∀ target, Steps p.tables e below (T'.setTop { g with pc := g.pc + 1, stack := rest }) target → Steps p.tables e below (T.setTop g) target := by
  have V0 := V
  obtain ⟨cl, A, r⟩ := V
  obtain ⟨T', h', X', e', W, st⟩ := stZ X hx hZ eT A (al_in r hj hi hl) hg hs hd
  subst hi hy
  exact ⟨T', h', X', e', W, V0.set W, st⟩
theorem Ow.iloadN (X : Stand p l e R s m args below meth c T locs cells slots) (hx : p.tables.exec = Jvm.exec) {pc : Nat} {ls : Array Slot} {st : List Value} {pc' : Nat} {k : Fin 4} {v : Int32} (hd : decode c.code pc = .ok (.iload_n k, 1)) (hl : ls[k.val]? = some (.val (.int v))) (k : Wq p e below En Q (T.setTop (mkF m pc' ls (.int v :: st)))) (hpc : pc + 1 = pc' := by rfl) : Wq p e below En Q (T.setTop (mkF m pc ls st)) := by subst hpc; exact Wq.step (fun _ q => XS.iloadN X.here hx rfl hd hl q) k
theorem Ow.istoreN (X : Stand p l e R s m args below meth c T locs cells slots) (hx : p.tables.exec = Jvm.exec) {pc : Nat} {ls : Array Slot} {st : List Value} {pc' : Nat} {k : Fin 4} {x : Int32} {l' : Array Slot} (hd : decode c.code pc = .ok (.istore_n k, 1)) (hl : storeLocals ls k.val (.int x) = some l') (k : Wq p e below En Q (T.setTop (mkF m pc' l' st))) (hpc : pc + 1 = pc' := by rfl) : Wq p e below En Q (T.setTop (mkF m pc ls (.int x :: st))) := by subst hpc; exact Wq.step (fun _ q => XS.istoreN X.here hx rfl hd rfl hl q) k
theorem Ow.lloadN (X : Stand p l e R s m args below meth c T locs cells slots) (hx : p.tables.exec = Jvm.exec) {pc : Nat} {ls : Array Slot} {st : List Value} {pc' : Nat} {k : Fin 4} {v : Int64} (hd : decode c.code pc = .ok (.lload_n k, 1)) (hl : ls[k.val]? = some (.val (.long v))) (k : Wq p e below En Q (T.setTop (mkF m pc' ls (.long v :: st)))) (hpc : pc + 1 = pc' := by rfl) : Wq p e below En Q (T.setTop (mkF m pc ls st)) := by subst hpc; exact Wq.step (fun _ q => XS.lloadN X.here hx rfl hd hl q) k
theorem Ow.lstoreN (X : Stand p l e R s m args below meth c T locs cells slots) (hx : p.tables.exec = Jvm.exec) {pc : Nat} {ls : Array Slot} {st : List Value} {pc' : Nat} {k : Fin 4} {x : Int64} {l' : Array Slot} (hd : decode c.code pc = .ok (.lstore_n k, 1)) (hl : storeLocals ls k.val (.long x) = some l') (k : Wq p e below En Q (T.setTop (mkF m pc' l' st))) (hpc : pc + 1 = pc' := by rfl) : Wq p e below En Q (T.setTop (mkF m pc ls (.long x :: st))) := by subst hpc; exact Wq.step (fun _ q => XS.lstoreN X.here hx rfl hd rfl hl q) k
theorem Ow.aloadN (X : Stand p l e R s m args below meth c T locs cells slots) (hx : p.tables.exec = Jvm.exec) {pc : Nat} {ls : Array Slot} {st : List Value} {pc' : Nat} {k : Fin 4} {v : Value} (hd : decode c.code pc = .ok (.aload_n k, 1)) (hl : ls[k.val]? = some (.val v)) (hv : v.isRef = true) (k : Wq p e below En Q (T.setTop (mkF m pc' ls (v :: st)))) (hpc : pc + 1 = pc' := by rfl) : Wq p e below En Q (T.setTop (mkF m pc ls st)) := by subst hpc; exact Wq.step (fun _ q => XS.aloadN X.here hx rfl hd hl hv q) k
theorem Ow.astoreN (X : Stand p l e R s m args below meth c T locs cells slots) (hx : p.tables.exec = Jvm.exec) {pc : Nat} {ls : Array Slot} {st : List Value} {pc' : Nat} {k : Fin 4} {x : Value} {l' : Array Slot} (hd : decode c.code pc = .ok (.astore_n k, 1)) (hv : x.isRef = true) (hl : storeLocals ls k.val x = some l') (k : Wq p e below En Q (T.setTop (mkF m pc' l' st))) (hpc : pc + 1 = pc' := by rfl) : Wq p e below En Q (T.setTop (mkF m pc ls (x :: st))) := by subst hpc; exact Wq.step (fun _ q => XS.astoreN X.here hx rfl hd rfl hv hl q) k
theorem Ow.iload (X : Stand p l e R s m args below meth c T locs cells slots) (hx : p.tables.exec = Jvm.exec) {pc : Nat} {ls : Array Slot} {st : List Value} {pc' : Nat} {k : Nat} {v : Int32} (hd : decode c.code pc = .ok (.iload k, 2)) (hl : ls[k]? = some (.val (.int v))) (k : Wq p e below En Q (T.setTop (mkF m pc' ls (.int v :: st)))) (hpc : pc + 2 = pc' := by rfl) : Wq p e below En Q (T.setTop (mkF m pc ls st)) := by subst hpc; exact Wq.step (fun _ q => XS.iload X.here hx rfl hd hl q) k
theorem Ow.istore (X : Stand p l e R s m args below meth c T locs cells slots) (hx : p.tables.exec = Jvm.exec) {pc : Nat} {ls : Array Slot} {st : List Value} {pc' : Nat} {k : Nat} {x : Int32} {l' : Array Slot} (hd : decode c.code pc = .ok (.istore k, 2)) (hl : storeLocals ls k (.int x) = some l') (k : Wq p e below En Q (T.setTop (mkF m pc' l' st))) (hpc : pc + 2 = pc' := by rfl) : Wq p e below En Q (T.setTop (mkF m pc ls (.int x :: st))) := by subst hpc; exact Wq.step (fun _ q => XS.istore X.here hx rfl hd rfl hl q) k
theorem Ow.lload (X : Stand p l e R s m args below meth c T locs cells slots) (hx : p.tables.exec = Jvm.exec) {pc : Nat} {ls : Array Slot} {st : List Value} {pc' : Nat} {k : Nat} {v : Int64} (hd : decode c.code pc = .ok (.lload k, 2)) (hl : ls[k]? = some (.val (.long v))) (k : Wq p e below En Q (T.setTop (mkF m pc' ls (.long v :: st)))) (hpc : pc + 2 = pc' := by rfl) : Wq p e below En Q (T.setTop (mkF m pc ls st)) := by subst hpc; exact Wq.step (fun _ q => XS.lload X.here hx rfl hd hl q) k
theorem Ow.lstore (X : Stand p l e R s m args below meth c T locs cells slots) (hx : p.tables.exec = Jvm.exec) {pc : Nat} {ls : Array Slot} {st : List Value} {pc' : Nat} {k : Nat} {x : Int64} {l' : Array Slot} (hd : decode c.code pc = .ok (.lstore k, 2)) (hl : storeLocals ls k (.long x) = some l') (k : Wq p e below En Q (T.setTop (mkF m pc' l' st))) (hpc : pc + 2 = pc' := by rfl) : Wq p e below En Q (T.setTop (mkF m pc ls (.long x :: st))) := by subst hpc; exact Wq.step (fun _ q => XS.lstore X.here hx rfl hd rfl hl q) k
theorem Ow.aload (X : Stand p l e R s m args below meth c T locs cells slots) (hx : p.tables.exec = Jvm.exec) {pc : Nat} {ls : Array Slot} {st : List Value} {pc' : Nat} {k : Nat} {v : Value} (hd : decode c.code pc = .ok (.aload k, 2)) (hl : ls[k]? = some (.val v)) (hv : v.isRef = true) (k : Wq p e below En Q (T.setTop (mkF m pc' ls (v :: st)))) (hpc : pc + 2 = pc' := by rfl) : Wq p e below En Q (T.setTop (mkF m pc ls st)) := by subst hpc; exact Wq.step (fun _ q => XS.aload X.here hx rfl hd hl hv q) k
theorem Ow.astore (X : Stand p l e R s m args below meth c T locs cells slots) (hx : p.tables.exec = Jvm.exec) {pc : Nat} {ls : Array Slot} {st : List Value} {pc' : Nat} {k : Nat} {x : Value} {l' : Array Slot} (hd : decode c.code pc = .ok (.astore k, 2)) (hv : x.isRef = true) (hl : storeLocals ls k x = some l') (k : Wq p e below En Q (T.setTop (mkF m pc' l' st))) (hpc : pc + 2 = pc' := by rfl) : Wq p e below En Q (T.setTop (mkF m pc ls (x :: st))) := by subst hpc; exact Wq.step (fun _ q => XS.astore X.here hx rfl hd rfl hv hl q) k
theorem Ow.istoreNS (X : Stand p l e R s m args below meth c T locs cells slots) (hx : p.tables.exec = Jvm.exec) {pc pc' : Nat} {ls : Array Slot} {st : List Value} {k : Fin 4} {x : Int32} {o : Slot} {l' : Array Slot} (hd : decode c.code pc = .ok (.istore_n k, 1)) (hold : ls[k.val]? = some o) (ho : o = .unset ∨ ∃ w, o = .val w ∧ w.category = 1) (hl : ls.setIfInBounds k.val (.val (.int x)) = l') (q : Wq p e below En Q (T.setTop (mkF m pc' l' st))) (hpc : pc + 1 = pc' := by rfl) : Wq p e below En Q (T.setTop (mkF m pc ls (.int x :: st))) := by
  subst hpc hl
  exact Wq.step (fun _ z => XS.istoreN X.here hx rfl hd rfl (XS.store1 hold ho rfl) z) q
theorem Ow.istoreS (X : Stand p l e R s m args below meth c T locs cells slots) (hx : p.tables.exec = Jvm.exec) {pc pc' : Nat} {ls : Array Slot} {st : List Value} {k : Nat} {x : Int32} {o : Slot} {l' : Array Slot} (hd : decode c.code pc = .ok (.istore k, 2)) (hold : ls[k]? = some o) (ho : o = .unset ∨ ∃ w, o = .val w ∧ w.category = 1) (hl : ls.setIfInBounds k (.val (.int x)) = l') (q : Wq p e below En Q (T.setTop (mkF m pc' l' st))) (hpc : pc + 2 = pc' := by rfl) : Wq p e below En Q (T.setTop (mkF m pc ls (.int x :: st))) := by
  subst hpc hl
  exact Wq.step (fun _ z => XS.istore X.here hx rfl hd rfl (XS.store1 hold ho rfl) z) q
theorem Ow.iconst (X : Stand p l e R s m args below meth c T locs cells slots) (hx : p.tables.exec = Jvm.exec) {pc : Nat} {ls : Array Slot} {st : List Value} {pc' : Nat} {i : Int} {z : Int32} (hd : decode c.code pc = .ok (.iconst i, 1)) (hz : Int32.ofInt i = z) (k : Wq p e below En Q (T.setTop (mkF m pc' ls (.int z :: st)))) (hpc : pc + 1 = pc' := by rfl) : Wq p e below En Q (T.setTop (mkF m pc ls st)) := by subst hz hpc; exact Wq.step (fun _ q => XS.iconst X.here hx rfl hd  q) k
theorem Ow.bipush (X : Stand p l e R s m args below meth c T locs cells slots) (hx : p.tables.exec = Jvm.exec) {pc : Nat} {ls : Array Slot} {st : List Value} {pc' : Nat} {i : Int} {z : Int32} (hd : decode c.code pc = .ok (.bipush i, 2)) (hz : (Int8.ofInt i).toInt32 = z) (k : Wq p e below En Q (T.setTop (mkF m pc' ls (.int z :: st)))) (hpc : pc + 2 = pc' := by rfl) : Wq p e below En Q (T.setTop (mkF m pc ls st)) := by subst hz hpc; exact Wq.step (fun _ q => XS.bipush X.here hx rfl hd  q) k
theorem Ow.sipush (X : Stand p l e R s m args below meth c T locs cells slots) (hx : p.tables.exec = Jvm.exec) {pc : Nat} {ls : Array Slot} {st : List Value} {pc' : Nat} {i : Int} {z : Int32} (hd : decode c.code pc = .ok (.sipush i, 3)) (hz : (Int16.ofInt i).toInt32 = z) (k : Wq p e below En Q (T.setTop (mkF m pc' ls (.int z :: st)))) (hpc : pc + 3 = pc' := by rfl) : Wq p e below En Q (T.setTop (mkF m pc ls st)) := by subst hz hpc; exact Wq.step (fun _ q => XS.sipush X.here hx rfl hd  q) k
theorem Ow.lconst (X : Stand p l e R s m args below meth c T locs cells slots) (hx : p.tables.exec = Jvm.exec) {pc : Nat} {ls : Array Slot} {st : List Value} {pc' : Nat} {i : Fin 2} {z : Int64} (hd : decode c.code pc = .ok (.lconst i, 1)) (hz : Int64.ofNat i = z) (k : Wq p e below En Q (T.setTop (mkF m pc' ls (.long z :: st)))) (hpc : pc + 1 = pc' := by rfl) : Wq p e below En Q (T.setTop (mkF m pc ls st)) := by subst hz hpc; exact Wq.step (fun _ q => XS.lconst X.here hx rfl hd  q) k
theorem Ow.aconstNull (X : Stand p l e R s m args below meth c T locs cells slots) (hx : p.tables.exec = Jvm.exec) {pc : Nat} {ls : Array Slot} {st : List Value} {pc' : Nat}  (hd : decode c.code pc = .ok (.aconst_null, 1))  (k : Wq p e below En Q (T.setTop (mkF m pc' ls (.null :: st)))) (hpc : pc + 1 = pc' := by rfl) : Wq p e below En Q (T.setTop (mkF m pc ls st)) := by subst hpc; exact Wq.step (fun _ q => XS.aconstNull X.here hx rfl hd  q) k
theorem Ow.iadd (X : Stand p l e R s m args below meth c T locs cells slots) (hx : p.tables.exec = Jvm.exec) {pc : Nat} {ls : Array Slot} {st : List Value} {pc' : Nat} {x y z : Int32} (hd : decode c.code pc = .ok (.iadd, 1)) (hz : x + y = z) (k : Wq p e below En Q (T.setTop (mkF m pc' ls (.int z :: st)))) (hpc : pc + 1 = pc' := by rfl) : Wq p e below En Q (T.setTop (mkF m pc ls (.int y :: .int x :: st))) := by subst hz hpc; exact Wq.step (fun _ q => XS.iadd X.here hx rfl hd rfl q) k
theorem Ow.ladd (X : Stand p l e R s m args below meth c T locs cells slots) (hx : p.tables.exec = Jvm.exec) {pc : Nat} {ls : Array Slot} {st : List Value} {pc' : Nat} {x y z : Int64} (hd : decode c.code pc = .ok (.ladd, 1)) (hz : x + y = z) (k : Wq p e below En Q (T.setTop (mkF m pc' ls (.long z :: st)))) (hpc : pc + 1 = pc' := by rfl) : Wq p e below En Q (T.setTop (mkF m pc ls (.long y :: .long x :: st))) := by subst hz hpc; exact Wq.step (fun _ q => XS.ladd X.here hx rfl hd rfl q) k
theorem Ow.isub (X : Stand p l e R s m args below meth c T locs cells slots) (hx : p.tables.exec = Jvm.exec) {pc : Nat} {ls : Array Slot} {st : List Value} {pc' : Nat} {x y z : Int32} (hd : decode c.code pc = .ok (.isub, 1)) (hz : x - y = z) (k : Wq p e below En Q (T.setTop (mkF m pc' ls (.int z :: st)))) (hpc : pc + 1 = pc' := by rfl) : Wq p e below En Q (T.setTop (mkF m pc ls (.int y :: .int x :: st))) := by subst hz hpc; exact Wq.step (fun _ q => XS.isub X.here hx rfl hd rfl q) k
theorem Ow.lsub (X : Stand p l e R s m args below meth c T locs cells slots) (hx : p.tables.exec = Jvm.exec) {pc : Nat} {ls : Array Slot} {st : List Value} {pc' : Nat} {x y z : Int64} (hd : decode c.code pc = .ok (.lsub, 1)) (hz : x - y = z) (k : Wq p e below En Q (T.setTop (mkF m pc' ls (.long z :: st)))) (hpc : pc + 1 = pc' := by rfl) : Wq p e below En Q (T.setTop (mkF m pc ls (.long y :: .long x :: st))) := by subst hz hpc; exact Wq.step (fun _ q => XS.lsub X.here hx rfl hd rfl q) k
theorem Ow.imul (X : Stand p l e R s m args below meth c T locs cells slots) (hx : p.tables.exec = Jvm.exec) {pc : Nat} {ls : Array Slot} {st : List Value} {pc' : Nat} {x y z : Int32} (hd : decode c.code pc = .ok (.imul, 1)) (hz : x * y = z) (k : Wq p e below En Q (T.setTop (mkF m pc' ls (.int z :: st)))) (hpc : pc + 1 = pc' := by rfl) : Wq p e below En Q (T.setTop (mkF m pc ls (.int y :: .int x :: st))) := by subst hz hpc; exact Wq.step (fun _ q => XS.imul X.here hx rfl hd rfl q) k
theorem Ow.lmul (X : Stand p l e R s m args below meth c T locs cells slots) (hx : p.tables.exec = Jvm.exec) {pc : Nat} {ls : Array Slot} {st : List Value} {pc' : Nat} {x y z : Int64} (hd : decode c.code pc = .ok (.lmul, 1)) (hz : x * y = z) (k : Wq p e below En Q (T.setTop (mkF m pc' ls (.long z :: st)))) (hpc : pc + 1 = pc' := by rfl) : Wq p e below En Q (T.setTop (mkF m pc ls (.long y :: .long x :: st))) := by subst hz hpc; exact Wq.step (fun _ q => XS.lmul X.here hx rfl hd rfl q) k
theorem Ow.iand (X : Stand p l e R s m args below meth c T locs cells slots) (hx : p.tables.exec = Jvm.exec) {pc : Nat} {ls : Array Slot} {st : List Value} {pc' : Nat} {x y z : Int32} (hd : decode c.code pc = .ok (.iand, 1)) (hz : x &&& y = z) (k : Wq p e below En Q (T.setTop (mkF m pc' ls (.int z :: st)))) (hpc : pc + 1 = pc' := by rfl) : Wq p e below En Q (T.setTop (mkF m pc ls (.int y :: .int x :: st))) := by subst hz hpc; exact Wq.step (fun _ q => XS.iand X.here hx rfl hd rfl q) k
theorem Ow.land (X : Stand p l e R s m args below meth c T locs cells slots) (hx : p.tables.exec = Jvm.exec) {pc : Nat} {ls : Array Slot} {st : List Value} {pc' : Nat} {x y z : Int64} (hd : decode c.code pc = .ok (.land, 1)) (hz : x &&& y = z) (k : Wq p e below En Q (T.setTop (mkF m pc' ls (.long z :: st)))) (hpc : pc + 1 = pc' := by rfl) : Wq p e below En Q (T.setTop (mkF m pc ls (.long y :: .long x :: st))) := by subst hz hpc; exact Wq.step (fun _ q => XS.land X.here hx rfl hd rfl q) k
theorem Ow.ior (X : Stand p l e R s m args below meth c T locs cells slots) (hx : p.tables.exec = Jvm.exec) {pc : Nat} {ls : Array Slot} {st : List Value} {pc' : Nat} {x y z : Int32} (hd : decode c.code pc = .ok (.ior, 1)) (hz : x ||| y = z) (k : Wq p e below En Q (T.setTop (mkF m pc' ls (.int z :: st)))) (hpc : pc + 1 = pc' := by rfl) : Wq p e below En Q (T.setTop (mkF m pc ls (.int y :: .int x :: st))) := by subst hz hpc; exact Wq.step (fun _ q => XS.ior X.here hx rfl hd rfl q) k
theorem Ow.lor (X : Stand p l e R s m args below meth c T locs cells slots) (hx : p.tables.exec = Jvm.exec) {pc : Nat} {ls : Array Slot} {st : List Value} {pc' : Nat} {x y z : Int64} (hd : decode c.code pc = .ok (.lor, 1)) (hz : x ||| y = z) (k : Wq p e below En Q (T.setTop (mkF m pc' ls (.long z :: st)))) (hpc : pc + 1 = pc' := by rfl) : Wq p e below En Q (T.setTop (mkF m pc ls (.long y :: .long x :: st))) := by subst hz hpc; exact Wq.step (fun _ q => XS.lor X.here hx rfl hd rfl q) k
theorem Ow.ixor (X : Stand p l e R s m args below meth c T locs cells slots) (hx : p.tables.exec = Jvm.exec) {pc : Nat} {ls : Array Slot} {st : List Value} {pc' : Nat} {x y z : Int32} (hd : decode c.code pc = .ok (.ixor, 1)) (hz : x ^^^ y = z) (k : Wq p e below En Q (T.setTop (mkF m pc' ls (.int z :: st)))) (hpc : pc + 1 = pc' := by rfl) : Wq p e below En Q (T.setTop (mkF m pc ls (.int y :: .int x :: st))) := by subst hz hpc; exact Wq.step (fun _ q => XS.ixor X.here hx rfl hd rfl q) k
theorem Ow.lxor (X : Stand p l e R s m args below meth c T locs cells slots) (hx : p.tables.exec = Jvm.exec) {pc : Nat} {ls : Array Slot} {st : List Value} {pc' : Nat} {x y z : Int64} (hd : decode c.code pc = .ok (.lxor, 1)) (hz : x ^^^ y = z) (k : Wq p e below En Q (T.setTop (mkF m pc' ls (.long z :: st)))) (hpc : pc + 1 = pc' := by rfl) : Wq p e below En Q (T.setTop (mkF m pc ls (.long y :: .long x :: st))) := by subst hz hpc; exact Wq.step (fun _ q => XS.lxor X.here hx rfl hd rfl q) k
theorem Ow.ineg (X : Stand p l e R s m args below meth c T locs cells slots) (hx : p.tables.exec = Jvm.exec) {pc : Nat} {ls : Array Slot} {st : List Value} {pc' : Nat} {x : Int32} {z : Int32} (hd : decode c.code pc = .ok (.ineg, 1)) (hz : -x = z) (k : Wq p e below En Q (T.setTop (mkF m pc' ls (.int z :: st)))) (hpc : pc + 1 = pc' := by rfl) : Wq p e below En Q (T.setTop (mkF m pc ls (.int x :: st))) := by subst hz hpc; exact Wq.step (fun _ q => XS.ineg X.here hx rfl hd rfl q) k
theorem Ow.lneg (X : Stand p l e R s m args below meth c T locs cells slots) (hx : p.tables.exec = Jvm.exec) {pc : Nat} {ls : Array Slot} {st : List Value} {pc' : Nat} {x : Int64} {z : Int64} (hd : decode c.code pc = .ok (.lneg, 1)) (hz : -x = z) (k : Wq p e below En Q (T.setTop (mkF m pc' ls (.long z :: st)))) (hpc : pc + 1 = pc' := by rfl) : Wq p e below En Q (T.setTop (mkF m pc ls (.long x :: st))) := by subst hz hpc; exact Wq.step (fun _ q => XS.lneg X.here hx rfl hd rfl q) k
theorem Ow.i2l (X : Stand p l e R s m args below meth c T locs cells slots) (hx : p.tables.exec = Jvm.exec) {pc : Nat} {ls : Array Slot} {st : List Value} {pc' : Nat} {x : Int32} {z : Int64} (hd : decode c.code pc = .ok (.i2l, 1)) (hz : x.toInt64 = z) (k : Wq p e below En Q (T.setTop (mkF m pc' ls (.long z :: st)))) (hpc : pc + 1 = pc' := by rfl) : Wq p e below En Q (T.setTop (mkF m pc ls (.int x :: st))) := by subst hz hpc; exact Wq.step (fun _ q => XS.i2l X.here hx rfl hd rfl q) k
theorem Ow.l2i (X : Stand p l e R s m args below meth c T locs cells slots) (hx : p.tables.exec = Jvm.exec) {pc : Nat} {ls : Array Slot} {st : List Value} {pc' : Nat} {x : Int64} {z : Int32} (hd : decode c.code pc = .ok (.l2i, 1)) (hz : x.toInt32 = z) (k : Wq p e below En Q (T.setTop (mkF m pc' ls (.int z :: st)))) (hpc : pc + 1 = pc' := by rfl) : Wq p e below En Q (T.setTop (mkF m pc ls (.long x :: st))) := by subst hz hpc; exact Wq.step (fun _ q => XS.l2i X.here hx rfl hd rfl q) k
theorem Ow.i2b (X : Stand p l e R s m args below meth c T locs cells slots) (hx : p.tables.exec = Jvm.exec) {pc : Nat} {ls : Array Slot} {st : List Value} {pc' : Nat} {x : Int32} {z : Int32} (hd : decode c.code pc = .ok (.i2b, 1)) (hz : x.toInt8.toInt32 = z) (k : Wq p e below En Q (T.setTop (mkF m pc' ls (.int z :: st)))) (hpc : pc + 1 = pc' := by rfl) : Wq p e below En Q (T.setTop (mkF m pc ls (.int x :: st))) := by subst hz hpc; exact Wq.step (fun _ q => XS.i2b X.here hx rfl hd rfl q) k
theorem Ow.i2s (X : Stand p l e R s m args below meth c T locs cells slots) (hx : p.tables.exec = Jvm.exec) {pc : Nat} {ls : Array Slot} {st : List Value} {pc' : Nat} {x : Int32} {z : Int32} (hd : decode c.code pc = .ok (.i2s, 1)) (hz : x.toInt16.toInt32 = z) (k : Wq p e below En Q (T.setTop (mkF m pc' ls (.int z :: st)))) (hpc : pc + 1 = pc' := by rfl) : Wq p e below En Q (T.setTop (mkF m pc ls (.int x :: st))) := by subst hz hpc; exact Wq.step (fun _ q => XS.i2s X.here hx rfl hd rfl q) k
theorem Ow.i2c (X : Stand p l e R s m args below meth c T locs cells slots) (hx : p.tables.exec = Jvm.exec) {pc : Nat} {ls : Array Slot} {st : List Value} {pc' : Nat} {x : Int32} {z : Int32} (hd : decode c.code pc = .ok (.i2c, 1)) (hz : x.toUInt32.toUInt16.toUInt32.toInt32 = z) (k : Wq p e below En Q (T.setTop (mkF m pc' ls (.int z :: st)))) (hpc : pc + 1 = pc' := by rfl) : Wq p e below En Q (T.setTop (mkF m pc ls (.int x :: st))) := by subst hz hpc; exact Wq.step (fun _ q => XS.i2c X.here hx rfl hd rfl q) k
theorem Ow.ishl (X : Stand p l e R s m args below meth c T locs cells slots) (hx : p.tables.exec = Jvm.exec) {pc : Nat} {ls : Array Slot} {st : List Value} {pc' : Nat} {x : Int32} {y : Int32} {z : Int32} (hd : decode c.code pc = .ok (.ishl, 1)) (hz : x <<< (y &&& 31) = z) (k : Wq p e below En Q (T.setTop (mkF m pc' ls (.int z :: st)))) (hpc : pc + 1 = pc' := by rfl) : Wq p e below En Q (T.setTop (mkF m pc ls (.int y :: .int x :: st))) := by subst hz hpc; exact Wq.step (fun _ q => XS.ishl X.here hx rfl hd rfl q) k
theorem Ow.ishr (X : Stand p l e R s m args below meth c T locs cells slots) (hx : p.tables.exec = Jvm.exec) {pc : Nat} {ls : Array Slot} {st : List Value} {pc' : Nat} {x : Int32} {y : Int32} {z : Int32} (hd : decode c.code pc = .ok (.ishr, 1)) (hz : x >>> (y &&& 31) = z) (k : Wq p e below En Q (T.setTop (mkF m pc' ls (.int z :: st)))) (hpc : pc + 1 = pc' := by rfl) : Wq p e below En Q (T.setTop (mkF m pc ls (.int y :: .int x :: st))) := by subst hz hpc; exact Wq.step (fun _ q => XS.ishr X.here hx rfl hd rfl q) k
theorem Ow.iushr (X : Stand p l e R s m args below meth c T locs cells slots) (hx : p.tables.exec = Jvm.exec) {pc : Nat} {ls : Array Slot} {st : List Value} {pc' : Nat} {x : Int32} {y : Int32} {z : Int32} (hd : decode c.code pc = .ok (.iushr, 1)) (hz : (x.toUInt32 >>> (y &&& 31).toUInt32).toInt32 = z) (k : Wq p e below En Q (T.setTop (mkF m pc' ls (.int z :: st)))) (hpc : pc + 1 = pc' := by rfl) : Wq p e below En Q (T.setTop (mkF m pc ls (.int y :: .int x :: st))) := by subst hz hpc; exact Wq.step (fun _ q => XS.iushr X.here hx rfl hd rfl q) k
theorem Ow.lshl (X : Stand p l e R s m args below meth c T locs cells slots) (hx : p.tables.exec = Jvm.exec) {pc : Nat} {ls : Array Slot} {st : List Value} {pc' : Nat} {x : Int64} {y : Int32} {z : Int64} (hd : decode c.code pc = .ok (.lshl, 1)) (hz : x <<< (y &&& 0x3f).toInt64 = z) (k : Wq p e below En Q (T.setTop (mkF m pc' ls (.long z :: st)))) (hpc : pc + 1 = pc' := by rfl) : Wq p e below En Q (T.setTop (mkF m pc ls (.int y :: .long x :: st))) := by subst hz hpc; exact Wq.step (fun _ q => XS.lshl X.here hx rfl hd rfl q) k
theorem Ow.lshr (X : Stand p l e R s m args below meth c T locs cells slots) (hx : p.tables.exec = Jvm.exec) {pc : Nat} {ls : Array Slot} {st : List Value} {pc' : Nat} {x : Int64} {y : Int32} {z : Int64} (hd : decode c.code pc = .ok (.lshr, 1)) (hz : x >>> (y &&& 0x3f).toInt64 = z) (k : Wq p e below En Q (T.setTop (mkF m pc' ls (.long z :: st)))) (hpc : pc + 1 = pc' := by rfl) : Wq p e below En Q (T.setTop (mkF m pc ls (.int y :: .long x :: st))) := by subst hz hpc; exact Wq.step (fun _ q => XS.lshr X.here hx rfl hd rfl q) k
theorem Ow.lushr (X : Stand p l e R s m args below meth c T locs cells slots) (hx : p.tables.exec = Jvm.exec) {pc : Nat} {ls : Array Slot} {st : List Value} {pc' : Nat} {x : Int64} {y : Int32} {z : Int64} (hd : decode c.code pc = .ok (.lushr, 1)) (hz : (x.toUInt64 >>> (y &&& 0x3f).toInt64.toUInt64).toInt64 = z) (k : Wq p e below En Q (T.setTop (mkF m pc' ls (.long z :: st)))) (hpc : pc + 1 = pc' := by rfl) : Wq p e below En Q (T.setTop (mkF m pc ls (.int y :: .long x :: st))) := by subst hz hpc; exact Wq.step (fun _ q => XS.lushr X.here hx rfl hd rfl q) k
theorem Ow.lcmp (X : Stand p l e R s m args below meth c T locs cells slots) (hx : p.tables.exec = Jvm.exec) {pc : Nat} {ls : Array Slot} {st : List Value} {pc' : Nat} {x y : Int64} (hd : decode c.code pc = .ok (.lcmp, 1))  (k : Wq p e below En Q (T.setTop (mkF m pc' ls (.int (lcmpW x y) :: st)))) (hpc : pc + 1 = pc' := by rfl) : Wq p e below En Q (T.setTop (mkF m pc ls (.long y :: .long x :: st))) := by subst hpc; exact Wq.step (fun _ q => XS.lcmp X.here hx rfl hd rfl q) k
theorem Ow.idiv (X : Stand p l e R s m args below meth c T locs cells slots) (hx : p.tables.exec = Jvm.exec) {pc : Nat} {ls : Array Slot} {st : List Value} {pc' : Nat} {x y z : Int32} (hd : decode c.code pc = .ok (.idiv, 1)) (hy : y ≠ 0) (hz : x / y = z) (k : Wq p e below En Q (T.setTop (mkF m pc' ls (.int z :: st)))) (hpc : pc + 1 = pc' := by rfl) : Wq p e below En Q (T.setTop (mkF m pc ls (.int y :: .int x :: st))) := by subst hz hpc; exact Wq.step (fun _ q => XS.idiv X.here hx rfl hd rfl hy q) k
theorem Ow.ldiv (X : Stand p l e R s m args below meth c T locs cells slots) (hx : p.tables.exec = Jvm.exec) {pc : Nat} {ls : Array Slot} {st : List Value} {pc' : Nat} {x y z : Int64} (hd : decode c.code pc = .ok (.ldiv, 1)) (hy : y ≠ 0) (hz : x / y = z) (k : Wq p e below En Q (T.setTop (mkF m pc' ls (.long z :: st)))) (hpc : pc + 1 = pc' := by rfl) : Wq p e below En Q (T.setTop (mkF m pc ls (.long y :: .long x :: st))) := by subst hz hpc; exact Wq.step (fun _ q => XS.ldiv X.here hx rfl hd rfl hy q) k
theorem Ow.irem (X : Stand p l e R s m args below meth c T locs cells slots) (hx : p.tables.exec = Jvm.exec) {pc : Nat} {ls : Array Slot} {st : List Value} {pc' : Nat} {x y z : Int32} (hd : decode c.code pc = .ok (.irem, 1)) (hy : y ≠ 0) (hz : x % y = z) (k : Wq p e below En Q (T.setTop (mkF m pc' ls (.int z :: st)))) (hpc : pc + 1 = pc' := by rfl) : Wq p e below En Q (T.setTop (mkF m pc ls (.int y :: .int x :: st))) := by subst hz hpc; exact Wq.step (fun _ q => iremM X hx rfl hd rfl hy q) k
theorem Ow.lrem (X : Stand p l e R s m args below meth c T locs cells slots) (hx : p.tables.exec = Jvm.exec) {pc : Nat} {ls : Array Slot} {st : List Value} {pc' : Nat} {x y z : Int64} (hd : decode c.code pc = .ok (.lrem, 1)) (hy : y ≠ 0) (hz : x % y = z) (k : Wq p e below En Q (T.setTop (mkF m pc' ls (.long z :: st)))) (hpc : pc + 1 = pc' := by rfl) : Wq p e below En Q (T.setTop (mkF m pc ls (.long y :: .long x :: st))) := by
  rw [← lrem_mod] at hz
  subst hz hpc
  exact Wq.step (fun _ q => XS.lrem X.here hx rfl hd rfl hy q) k
theorem Ow.iinc (X : Stand p l e R s m args below meth c T locs cells slots) (hx : p.tables.exec = Jvm.exec) {pc : Nat} {ls : Array Slot} {st : List Value} {pc' : Nat} {i : Nat} {cst : Int} {x : Int32} {l' : Array Slot} (hd : decode c.code pc = .ok (.iinc i cst, 3)) (hl : ls[i]? = some (.val (.int x))) (hl' : storeLocals ls i (.int (x + Int32.ofInt cst)) = some l') (k : Wq p e below En Q (T.setTop (mkF m pc' l' st))) (hpc : pc + 3 = pc' := by rfl) : Wq p e below En Q (T.setTop (mkF m pc ls st)) := by subst hpc; exact Wq.step (fun _ q => XS.iinc X.here hx rfl hd hl hl' q) k
theorem Ow.dup (X : Stand p l e R s m args below meth c T locs cells slots) (hx : p.tables.exec = Jvm.exec) {pc : Nat} {ls : Array Slot} {st : List Value} {pc' : Nat} {x : Value} (hd : decode c.code pc = .ok (.dup, 1)) (hc : x.category = 1) (k : Wq p e below En Q (T.setTop (mkF m pc' ls (x :: x :: st)))) (hpc : pc + 1 = pc' := by rfl) : Wq p e below En Q (T.setTop (mkF m pc ls (x :: st))) := by subst hpc; exact Wq.step (fun _ q => XS.dup X.here hx rfl hd rfl hc q) k
theorem Ow.pop (X : Stand p l e R s m args below meth c T locs cells slots) (hx : p.tables.exec = Jvm.exec) {pc : Nat} {ls : Array Slot} {st : List Value} {pc' : Nat} {x : Value} (hd : decode c.code pc = .ok (.pop, 1)) (hc : x.category = 1) (k : Wq p e below En Q (T.setTop (mkF m pc' ls st))) (hpc : pc + 1 = pc' := by rfl) : Wq p e below En Q (T.setTop (mkF m pc ls (x :: st))) := by subst hpc; exact Wq.step (fun _ q => XS.pop X.here hx rfl hd rfl hc q) k
theorem Ow.dupX1 (X : Stand p l e R s m args below meth c T locs cells slots) (hx : p.tables.exec = Jvm.exec) {pc : Nat} {ls : Array Slot} {st : List Value} {pc' : Nat} {x y : Value} (hd : decode c.code pc = .ok (.dup_x1, 1)) (hc : x.category = 1) (hc' : y.category = 1) (k : Wq p e below En Q (T.setTop (mkF m pc' ls (x :: y :: x :: st)))) (hpc : pc + 1 = pc' := by rfl) : Wq p e below En Q (T.setTop (mkF m pc ls (x :: y :: st))) := by subst hpc; exact Wq.step (fun _ q => XS.dupX1 X.here hx rfl hd rfl hc hc' q) k
theorem Ow.swap (X : Stand p l e R s m args below meth c T locs cells slots) (hx : p.tables.exec = Jvm.exec) {pc : Nat} {ls : Array Slot} {st : List Value} {pc' : Nat} {x y : Value} (hd : decode c.code pc = .ok (.swap, 1)) (hc : x.category = 1) (hc' : y.category = 1) (k : Wq p e below En Q (T.setTop (mkF m pc' ls (y :: x :: st)))) (hpc : pc + 1 = pc' := by rfl) : Wq p e below En Q (T.setTop (mkF m pc ls (x :: y :: st))) := by subst hpc; exact Wq.step (fun _ q => XS.swap X.here hx rfl hd rfl hc hc' q) k
theorem Ow.dup2 (X : Stand p l e R s m args below meth c T locs cells slots) (hx : p.tables.exec = Jvm.exec) {pc : Nat} {ls : Array Slot} {st : List Value} {pc' : Nat} {x y : Value} (hd : decode c.code pc = .ok (.dup2, 1)) (hc : x.category = 1) (hc' : y.category = 1) (k : Wq p e below En Q (T.setTop (mkF m pc' ls (x :: y :: x :: y :: st)))) (hpc : pc + 1 = pc' := by rfl) : Wq p e below En Q (T.setTop (mkF m pc ls (x :: y :: st))) := by subst hpc; exact Wq.step (fun _ q => Jvm.Free.XT.dup2 X.here hx rfl hd rfl hc hc' q) k
theorem Ow.dup2L (X : Stand p l e R s m args below meth c T locs cells slots) (hx : p.tables.exec = Jvm.exec) {pc : Nat} {ls : Array Slot} {st : List Value} {pc' : Nat} {x : Int64} (hd : decode c.code pc = .ok (.dup2, 1))  (k : Wq p e below En Q (T.setTop (mkF m pc' ls (.long x :: .long x :: st)))) (hpc : pc + 1 = pc' := by rfl) : Wq p e below En Q (T.setTop (mkF m pc ls (.long x :: st))) := by subst hpc; exact Wq.step (fun _ q => Jvm.Free.XT.dup2L X.here hx rfl hd rfl q) k
theorem Ow.goto (X : Stand p l e R s m args below meth c T locs cells slots) (hx : p.tables.exec = Jvm.exec) {pc : Nat} {ls : Array Slot} {st : List Value} {o : Int} {pc' : Nat} (hd : decode c.code pc = .ok (.goto o, 3)) (ho : 0 ≤ (pc : Int) + o) (hp : ((pc : Int) + o).toNat = pc') (k : Wq p e below En Q (T.setTop (mkF m pc' ls st))) : Wq p e below En Q (T.setTop (mkF m pc ls st)) := Wq.step (fun _ q => XS.goto X.here hx rfl rfl hd ho hp q) k
theorem Ow.ifYes (X : Stand p l e R s m args below meth c T locs cells slots) (hx : p.tables.exec = Jvm.exec) {pc : Nat} {ls : Array Slot} {st : List Value} {cd : ClassFile.Cond} {x : Int32} {o : Int} {pc' : Nat} (hd : decode c.code pc = .ok (.ifCond cd o, 3)) (hc : ifCond.holds cd x = true) (ho : 0 ≤ (pc : Int) + o) (hp : ((pc : Int) + o).toNat = pc') (k : Wq p e below En Q (T.setTop (mkF m pc' ls st))) : Wq p e below En Q (T.setTop (mkF m pc ls (.int x :: st))) := Wq.step (fun _ q => XS.ifYes X.here hx rfl rfl hd rfl hc ho hp q) k
theorem Ow.ifNo (X : Stand p l e R s m args below meth c T locs cells slots) (hx : p.tables.exec = Jvm.exec) {pc : Nat} {ls : Array Slot} {st : List Value} {pc' : Nat} {cd : ClassFile.Cond} {x : Int32} {o : Int} (hd : decode c.code pc = .ok (.ifCond cd o, 3)) (hc : ifCond.holds cd x = false) (k : Wq p e below En Q (T.setTop (mkF m pc' ls st))) (hpc : pc + 3 = pc' := by rfl) : Wq p e below En Q (T.setTop (mkF m pc ls (.int x :: st))) := by subst hpc; exact Wq.step (fun _ q => XS.ifNo X.here hx rfl hd rfl hc q) k
theorem Ow.icmpYes (X : Stand p l e R s m args below meth c T locs cells slots) (hx : p.tables.exec = Jvm.exec) {pc : Nat} {ls : Array Slot} {st : List Value} {cd : ClassFile.Cond} {x y : Int32} {o : Int} {pc' : Nat} (hd : decode c.code pc = .ok (.if_icmp cd o, 3)) (hc : if_icmp.holds cd x y = true) (ho : 0 ≤ (pc : Int) + o) (hp : ((pc : Int) + o).toNat = pc') (k : Wq p e below En Q (T.setTop (mkF m pc' ls st))) : Wq p e below En Q (T.setTop (mkF m pc ls (.int y :: .int x :: st))) := Wq.step (fun _ q => XS.icmpYes X.here hx rfl rfl hd rfl hc ho hp q) k
theorem Ow.icmpNo (X : Stand p l e R s m args below meth c T locs cells slots) (hx : p.tables.exec = Jvm.exec) {pc : Nat} {ls : Array Slot} {st : List Value} {pc' : Nat} {cd : ClassFile.Cond} {x y : Int32} {o : Int} (hd : decode c.code pc = .ok (.if_icmp cd o, 3)) (hc : if_icmp.holds cd x y = false) (k : Wq p e below En Q (T.setTop (mkF m pc' ls st))) (hpc : pc + 3 = pc' := by rfl) : Wq p e below En Q (T.setTop (mkF m pc ls (.int y :: .int x :: st))) := by subst hpc; exact Wq.step (fun _ q => XS.icmpNo X.here hx rfl hd rfl hc q) k
theorem Ow.ifnullYes (X : Stand p l e R s m args below meth c T locs cells slots) (hx : p.tables.exec = Jvm.exec) {pc : Nat} {ls : Array Slot} {st : List Value} {o : Int} {pc' : Nat} (hd : decode c.code pc = .ok (.ifnull o, 3)) (ho : 0 ≤ (pc : Int) + o) (hp : ((pc : Int) + o).toNat = pc') (k : Wq p e below En Q (T.setTop (mkF m pc' ls st))) : Wq p e below En Q (T.setTop (mkF m pc ls (.null :: st))) := Wq.step (fun _ q => XS.ifnullYes X.here hx rfl rfl hd rfl ho hp q) k
theorem Ow.ifnullNo (X : Stand p l e R s m args below meth c T locs cells slots) (hx : p.tables.exec = Jvm.exec) {pc : Nat} {ls : Array Slot} {st : List Value} {pc' : Nat} {o : Int} {b : Addr} (hd : decode c.code pc = .ok (.ifnull o, 3))  (k : Wq p e below En Q (T.setTop (mkF m pc' ls st))) (hpc : pc + 3 = pc' := by rfl) : Wq p e below En Q (T.setTop (mkF m pc ls (.ref b :: st))) := by subst hpc; exact Wq.step (fun _ q => XS.ifnullNo X.here hx rfl hd rfl q) k
theorem Ow.ifnonnullYes (X : Stand p l e R s m args below meth c T locs cells slots) (hx : p.tables.exec = Jvm.exec) {pc : Nat} {ls : Array Slot} {st : List Value} {o : Int} {b : Addr} {pc' : Nat} (hd : decode c.code pc = .ok (.ifnonnull o, 3)) (ho : 0 ≤ (pc : Int) + o) (hp : ((pc : Int) + o).toNat = pc') (k : Wq p e below En Q (T.setTop (mkF m pc' ls st))) : Wq p e below En Q (T.setTop (mkF m pc ls (.ref b :: st))) := Wq.step (fun _ q => XS.ifnonnullYes X.here hx rfl rfl hd rfl ho hp q) k
theorem Ow.ifnonnullNo (X : Stand p l e R s m args below meth c T locs cells slots) (hx : p.tables.exec = Jvm.exec) {pc : Nat} {ls : Array Slot} {st : List Value} {pc' : Nat} {o : Int} (hd : decode c.code pc = .ok (.ifnonnull o, 3))  (k : Wq p e below En Q (T.setTop (mkF m pc' ls st))) (hpc : pc + 3 = pc' := by rfl) : Wq p e below En Q (T.setTop (mkF m pc ls (.null :: st))) := by subst hpc; exact Wq.step (fun _ q => XS.ifnonnullNo X.here hx rfl hd rfl q) k
theorem Ow.acmp (X : Stand p l e R s m args below meth c T locs cells slots) (hx : p.tables.exec = Jvm.exec) {pc : Nat} {ls : Array Slot} {st : List Value} {cd : ACond} {x y : Value} {o : Int} {pc' : Nat} {same : Bool} (hd : decode c.code pc = .ok (.if_acmp cd o, 3)) (h1 : x.isRef = true) (h2 : y.isRef = true) (hq : decide (x = y) = same) (ho : 0 ≤ (pc : Int) + o) (hp : pc' = if acV cd same = true then ((pc : Int) + o).toNat else pc + 3) (k : Wq p e below En Q (T.setTop (mkF m pc' ls st))) : Wq p e below En Q (T.setTop (mkF m pc ls (y :: x :: st))) := Wq.step (fun _ q => Jvm.RoadKit.acmp (g := mkF m pc ls (y :: x :: st)) X hx rfl h1 h2 rfl hd rfl hq ho hp q) k
theorem Ow.ldcInt (X : Stand p l e R s m args below meth c T locs cells slots) (hx : p.tables.exec = Jvm.exec) (hZ : Z.Warmed39 s.vm) {a0 : Array Value} {own : String} {index : Nat} {v : Int32} {pc pc' : Nat} {ls : Array Slot} {st : List Value} (hown : s.vm.findClass own = some m.cls) (w : (Cond.constant own index v).before a0 Z = true) (hd : decode c.code pc = .ok (.ldc index, 2)) (k : Wq p e below En Q (T.setTop (mkF m pc' ls (.int v :: st)))) (hpc : pc + 2 = pc' := by rfl) : Wq p e below En Q (T.setTop (mkF m pc ls st)) := by subst hpc; exact Wq.step (fun _ q => X.ldcInt hx hown (mvT hZ w) (g := mkF m pc ls st) rfl hd _ q) k
theorem Ow.ldcwInt (X : Stand p l e R s m args below meth c T locs cells slots) (hx : p.tables.exec = Jvm.exec) (hZ : Z.Warmed39 s.vm) {a0 : Array Value} {own : String} {index : Nat} {v : Int32} {pc pc' : Nat} {ls : Array Slot} {st : List Value} (hown : s.vm.findClass own = some m.cls) (w : (Cond.constant own index v).before a0 Z = true) (hd : decode c.code pc = .ok (.ldc_w index, 3)) (k : Wq p e below En Q (T.setTop (mkF m pc' ls (.int v :: st)))) (hpc : pc + 3 = pc' := by rfl) : Wq p e below En Q (T.setTop (mkF m pc ls st)) := by subst hpc; exact Wq.step (fun _ q => X.ldcwInt hx hown (mvT hZ w) (g := mkF m pc ls st) rfl hd _ q) k
theorem Ow.ldc2Long (X : Stand p l e R s m args below meth c T locs cells slots) (hx : p.tables.exec = Jvm.exec) (hZ : Z.Warmed39 s.vm) {a0 : Array Value} {own : String} {index : Nat} {v : Int64} {pc pc' : Nat} {ls : Array Slot} {st : List Value} (hown : s.vm.findClass own = some m.cls) (w : (Cond.constantLong own index v).before a0 Z = true) (hd : decode c.code pc = .ok (.ldc2_w index, 3)) (k : Wq p e below En Q (T.setTop (mkF m pc' ls (.long v :: st)))) (hpc : pc + 3 = pc' := by rfl) : Wq p e below En Q (T.setTop (mkF m pc ls st)) := by subst hpc; exact Wq.step (fun _ q => X.ldc2Long hx hown (mvT hZ w) (g := mkF m pc ls st) rfl hd _ q) k
theorem Ow.ldI (X : Stand p l e R s m args below meth c T locs cells slots) (hx : p.tables.exec = Jvm.exec) (hZ : Z.Warmed39 s.vm) (eT : T.heap = h) (V : Al Z h a .int vs) {pc pc' : Nat} {ls : Array Slot} {st : List Value} {j : Int32} {i : Nat} (hd : decode c.code pc = .ok (.iaload, 1)) (hj : ¬ j < 0) (hi : j.toNatClampNeg = i) (hv : vs[i]? = some v) (k : Wq p e below En Q (T.setTop (mkF m pc' ls (v :: st)))) (hpc : pc + 1 = pc' := by rfl) : Wq p e below En Q (T.setTop (mkF m pc ls (.int j :: .ref a :: st))) := by subst hpc; exact Wq.step (fun _ q => Jvm.OwnW.ldI X hx hZ eT V hj hi hv (g := mkF m pc ls (.int j :: .ref a :: st)) rfl rfl hd q) k
theorem Ow.ldJ (X : Stand p l e R s m args below meth c T locs cells slots) (hx : p.tables.exec = Jvm.exec) (hZ : Z.Warmed39 s.vm) (eT : T.heap = h) (V : Al Z h a .long vs) {pc pc' : Nat} {ls : Array Slot} {st : List Value} {j : Int32} {i : Nat} (hd : decode c.code pc = .ok (.laload, 1)) (hj : ¬ j < 0) (hi : j.toNatClampNeg = i) (hv : vs[i]? = some v) (k : Wq p e below En Q (T.setTop (mkF m pc' ls (v :: st)))) (hpc : pc + 1 = pc' := by rfl) : Wq p e below En Q (T.setTop (mkF m pc ls (.int j :: .ref a :: st))) := by subst hpc; exact Wq.step (fun _ q => Jvm.OwnW.ldJ X hx hZ eT V hj hi hv (g := mkF m pc ls (.int j :: .ref a :: st)) rfl rfl hd q) k
theorem Ow.ldC (X : Stand p l e R s m args below meth c T locs cells slots) (hx : p.tables.exec = Jvm.exec) (hZ : Z.Warmed39 s.vm) (eT : T.heap = h) (V : Al Z h a .char vs) {pc pc' : Nat} {ls : Array Slot} {st : List Value} {j : Int32} {i : Nat} (hd : decode c.code pc = .ok (.caload, 1)) (hj : ¬ j < 0) (hi : j.toNatClampNeg = i) (hv : vs[i]? = some v) (k : Wq p e below En Q (T.setTop (mkF m pc' ls (v :: st)))) (hpc : pc + 1 = pc' := by rfl) : Wq p e below En Q (T.setTop (mkF m pc ls (.int j :: .ref a :: st))) := by subst hpc; exact Wq.step (fun _ q => Jvm.OwnW.ldC X hx hZ eT V hj hi hv (g := mkF m pc ls (.int j :: .ref a :: st)) rfl rfl hd q) k
theorem Ow.ldB (X : Stand p l e R s m args below meth c T locs cells slots) (hx : p.tables.exec = Jvm.exec) (hZ : Z.Warmed39 s.vm) (eT : T.heap = h) (V : Al Z h a .byte vs) {pc pc' : Nat} {ls : Array Slot} {st : List Value} {j : Int32} {i : Nat} (hd : decode c.code pc = .ok (.baload, 1)) (hj : ¬ j < 0) (hi : j.toNatClampNeg = i) (hv : vs[i]? = some v) (k : Wq p e below En Q (T.setTop (mkF m pc' ls (v :: st)))) (hpc : pc + 1 = pc' := by rfl) : Wq p e below En Q (T.setTop (mkF m pc ls (.int j :: .ref a :: st))) := by subst hpc; exact Wq.step (fun _ q => Jvm.OwnW.ldB X hx hZ eT V hj hi hv (g := mkF m pc ls (.int j :: .ref a :: st)) rfl rfl hd q) k
theorem Ow.ldZ (X : Stand p l e R s m args below meth c T locs cells slots) (hx : p.tables.exec = Jvm.exec) (hZ : Z.Warmed39 s.vm) (eT : T.heap = h) (V : Al Z h a .boolean vs) {pc pc' : Nat} {ls : Array Slot} {st : List Value} {j : Int32} {i : Nat} (hd : decode c.code pc = .ok (.baload, 1)) (hj : ¬ j < 0) (hi : j.toNatClampNeg = i) (hv : vs[i]? = some v) (k : Wq p e below En Q (T.setTop (mkF m pc' ls (v :: st)))) (hpc : pc + 1 = pc' := by rfl) : Wq p e below En Q (T.setTop (mkF m pc ls (.int j :: .ref a :: st))) := by subst hpc; exact Wq.step (fun _ q => Jvm.OwnW.ldZ X hx hZ eT V hj hi hv (g := mkF m pc ls (.int j :: .ref a :: st)) rfl rfl hd q) k
theorem Ow.ldR (X : Stand p l e R s m args below meth c T locs cells slots) (hx : p.tables.exec = Jvm.exec) (hZ : Z.Warmed39 s.vm) (eT : T.heap = h) (V : Al Z h a ty vs) (hty : ty.isReference = true) {pc pc' : Nat} {ls : Array Slot} {st : List Value} {j : Int32} {i : Nat} (hd : decode c.code pc = .ok (.aaload, 1)) (hj : ¬ j < 0) (hi : j.toNatClampNeg = i) (hv : vs[i]? = some v) (k : Wq p e below En Q (T.setTop (mkF m pc' ls (v :: st)))) (hpc : pc + 1 = pc' := by rfl) : Wq p e below En Q (T.setTop (mkF m pc ls (.int j :: .ref a :: st))) := by
  subst hpc
  obtain ⟨cl, A, r⟩ := V
  exact Wq.step (fun _ q => X.aaload hx (by rw [eT]; exact A.1) (State.isArrayOf_alike hZ.alike A.2.1) hty A.2.2 (al_in r hj hi (al_lt hv)) (al_at r hi hv) (g := mkF m pc ls (.int j :: .ref a :: st)) rfl rfl hd _ q) k
theorem Ow.lenA (X : Stand p l e R s m args below meth c T locs cells slots) (hx : p.tables.exec = Jvm.exec) (hZ : Z.Warmed39 s.vm) (eT : T.heap = h) (V : Al Z h a ty vs) {pc pc' : Nat} {ls : Array Slot} {st : List Value} {n : Int32} (hd : decode c.code pc = .ok (.arraylength, 1)) (hn : vs.length.toInt32 = n) (k : Wq p e below En Q (T.setTop (mkF m pc' ls (.int n :: st)))) (hpc : pc + 1 = pc' := by rfl) : Wq p e below En Q (T.setTop (mkF m pc ls (.ref a :: st))) := by subst hpc; exact Wq.step (fun _ q => Jvm.OwnW.lenA X hx hZ eT V hn (g := mkF m pc ls (.ref a :: st)) rfl rfl hd q) k
end Base
end Jvm.OwnW
namespace Jvm.Pilot.@@N@@
open Jvm Jvm.ClassFile Sem Op Lib Jvm.Free Jvm.Stand Jvm.LawKit Jvm.RoadKit Jvm.OwnW Bundle Jvm.Pilot.@@N@@.Jvm.D
theorem d_jdk_29_method_69_0 : decode jdk_29_method_69_code 0 = .ok (.iload_n 0, 1) := by decide +kernel
theorem d_jdk_29_method_69_1 : decode jdk_29_method_69_code 1 = .ok (.iload_n 1, 1) := by decide +kernel
theorem d_jdk_29_method_69_2 : decode jdk_29_method_69_code 2 = .ok (.if_icmp .gt 7, 3) := by decide +kernel
theorem d_jdk_29_method_69_5 : decode jdk_29_method_69_code 5 = .ok (.iload_n 0, 1) := by decide +kernel
theorem d_jdk_29_method_69_6 : decode jdk_29_method_69_code 6 = .ok (.goto 4, 3) := by decide +kernel
theorem d_jdk_29_method_69_9 : decode jdk_29_method_69_code 9 = .ok (.iload_n 1, 1) := by decide +kernel
theorem ef_min (m : MethodId) (xmin_1 : Int32) (xmin_2 : Int32) : entryFrame m #[(.int xmin_1), (.int xmin_2)] 2 = mkF m 0 #[.val (.int xmin_1), .val (.int xmin_2)] [] := by first | (simp [entryFrame, mkF, argsToLocals, Value.category]; done) | rfl
def f_min (xmin_1 : Int32) (xmin_2 : Int32) : Int32 := (if xmin_2 < xmin_1 then xmin_2 else xmin_1)
def Q_min (Z : State) (xmin_1 : Int32) (xmin_2 : Int32) (h0 : Heap) (n0 : Nat) (v : Option Value) (h : Heap) (L : List Loc) : Prop := v = some (.int (f_min xmin_1 xmin_2)) ∧ Fr n0 L ∧ h = h0
theorem d_jdk_29_method_69_10 : decode jdk_29_method_69_code 10 = .ok (.ireturn, 1) := by decide +kernel
abbrev mt1 : MethodName := ⟨"java/lang/Math", "min", "(II)I"⟩
set_option maxRecDepth 65536 in
set_option maxHeartbeats 40000000 in
theorem rm_min (l : Launch) (Z : State) (a0 : Array Value) (hw : ∀ d ∈ tables_1, d.before a0 Z = true) (ws : List Jvm.Cond) (xmin_1 : Int32) (xmin_2 : Int32) (h0 : Heap) (n0 : Nat) (Z0 : n0 ≤ h0.size)  :
    MetFree l mt1 (head1 (Jvm.Cond.code mt1 jdk_29_method_69_code 2 (some .int) :: ws) ({ frames := 0, cells := 0, slots := 0, locals := 0 } : Room)) (fun a U => a = #[(.int xmin_1), (.int xmin_2)] ∧ Z.Warmed39 U.vm ∧ U.heap = h0) (fun _ _ _ _ _ => True) (fun _ U o U' => ∃ v L, o = .returned v ∧ (Q_min Z xmin_1 xmin_2 h0 n0) v U'.heap L ∧ FrameEnd U o U' L ({ frames := 0, cells := 0, slots := 0, locals := 0 } : Room).cells ({ frames := 0, cells := 0, slots := 0, locals := 0 } : Room).slots) := by
  refine MetFree.of_bodySF (by decide +kernel) hisR ?_
  intro p e s m args below meth c s₁ Bd hml0 hP hK
  obtain ⟨rfl, hZ, hh⟩ := hP
  have hx := Bd.exec
  have hby := Bd.bytes
  have hml : c.maxLocals = 2 := hml0
  have hown : s.vm.findClass "java/lang/Math" = some m.cls := findClass_of_methodNamed Bd.named
  have hnm := (name_of_methodNamed Bd.named Bd.method).1
  have X0 : Stand p l e ({ frames := 0, cells := 0, slots := 0, locals := 0 } : Room) s m #[(.int xmin_1), (.int xmin_2)] below meth c s₁ [] 0 0 := Stand.of_body Bd
  have e0 : s₁.heap = h0 := by rw [← hh, Bd.state]; rfl
  have N0 := Fr.nil n0
  refine Wq.step (p := p) (e := e) (below := below) (En := (fun o t L => FrameEnd s o t L ({ frames := 0, cells := 0, slots := 0, locals := 0 } : Room).cells ({ frames := 0, cells := 0, slots := 0, locals := 0 } : Room).slots)) (Q := (Q_min Z xmin_1 xmin_2 h0 n0)) (fun t k => castTop (ef_min m xmin_1 xmin_2) k) ?_
  show Wq _ _ _ _ _ (s₁.setTop (mkF m 0 #[.val (.int xmin_1), .val (.int xmin_2)] []))
  refine Ow.iloadN X0 hx (pc' := 1) (hb hby d_jdk_29_method_69_0) rfl ?_
  refine Ow.iloadN X0 hx (pc' := 2) (hb hby d_jdk_29_method_69_1) rfl ?_
  refine Wq.by (U' := s₁.setTop (mkF m 10 #[.val (.int xmin_1), .val (.int xmin_2)] [(.int (if xmin_2 < xmin_1 then xmin_2 else xmin_1))])) (fun k => ?_) ?_
  · skip
    by_cases hm2 : xmin_2 < xmin_1
    · skip
      refine Ow.icmpYes X0 hx (pc' := 9) (hb hby d_jdk_29_method_69_2) (tlt hm2).2.2.1 (by decide) (by decide) ?_
      refine Ow.iloadN X0 hx (pc' := 10) (hb hby d_jdk_29_method_69_9) rfl ?_
      simp only [if_pos hm2] at k
      exact k
    · skip
      refine Ow.icmpNo X0 hx (pc' := 5) (hb hby d_jdk_29_method_69_2) (flt hm2).2.2.1 ?_
      refine Ow.iloadN X0 hx (pc' := 6) (hb hby d_jdk_29_method_69_5) rfl ?_
      refine Ow.goto X0 hx (pc' := 10) (hb hby d_jdk_29_method_69_6) (by decide) (by decide) ?_
      simp only [if_neg hm2] at k
      exact k
  exact Wq.ret X0 (BodyLoose.notSynchronized Bd) (rv := some (.int (if xmin_2 < xmin_1 then xmin_2 else xmin_1))) (fun h => by rw [Bd.returns] at h; cases h) (fun _ hr => retOut X0 hx Bd.returns rfl (Or.inl ⟨rfl, Or.inl rfl, _, rfl⟩) (hb hby d_jdk_29_method_69_10) hr) (by decide) (by decide) ⟨rfl, N0, e0⟩
theorem kw0 {Z : State} {a0 : Array Value} (hw : ∀ d ∈ tables_1, d.before a0 Z = true) : (Jvm.Cond.constant "com/example/tightbit/tightbit/GallopingSearchFirstAtLeastPinLaw" (7 : Nat) (65535 : Int32)).before a0 Z = true := hw _ (List.mem_of_getElem? (i := 0) rfl)
theorem kw5 {Z : State} {a0 : Array Value} (hw : ∀ d ∈ tables_1, d.before a0 Z = true) : (Jvm.Cond.constantLong "com/example/tightbit/tightbit/GallopingSearchFirstAtLeastPinLaw" (28 : Nat) (255 : Int64)).before a0 Z = true := hw _ (List.mem_of_getElem? (i := 5) rfl)
theorem kw9 {Z : State} {a0 : Array Value} (hw : ∀ d ∈ tables_1, d.before a0 Z = true) : (Jvm.Cond.code ({ cls := "java/lang/Math", name := "min", desc := "(II)I" } : Jvm.MethodName) jdk_29_method_69_code (2 : Nat) (Option.some Jvm.ClassFile.FieldType.int)).before a0 Z = true := hw _ (List.mem_of_getElem? (i := 9) rfl)
theorem kw8 {Z : State} {a0 : Array Value} (hw : ∀ d ∈ tables_1, d.before a0 Z = true) : (Jvm.Cond.initialized "java/lang/Math").before a0 Z = true := hw _ (List.mem_of_getElem? (i := 8) rfl)
theorem pd1 : parseMethodDescriptor "(II)I" = some ⟨[.int, .int], some .int⟩ := by decide +kernel
theorem kw6 {Z : State} {a0 : Array Value} (hw : ∀ d ∈ tables_1, d.before a0 Z = true) : (Jvm.Cond.methodLink "com/example/tightbit/tightbit/GallopingSearchFirstAtLeastPinLaw" (30 : Nat) ({ cls := "java/lang/Math", name := "min", desc := "(II)I" } : Jvm.MethodName)).before a0 Z = true := hw _ (List.mem_of_getElem? (i := 6) rfl)
theorem kw7 {Z : State} {a0 : Array Value} (hw : ∀ d ∈ tables_1, d.before a0 Z = true) : (Jvm.Cond.static ({ cls := "java/lang/Math", name := "min", desc := "(II)I" } : Jvm.MethodName)).before a0 Z = true := hw _ (List.mem_of_getElem? (i := 7) rfl)
theorem d_method_3_0 : decode method_3_code 0 = .ok (.ldc 7, 2) := by decide +kernel
theorem d_method_3_2 : decode method_3_code 2 = .ok (.iload_n 0, 1) := by decide +kernel
theorem d_method_3_3 : decode method_3_code 3 = .ok (.lload_n 1, 1) := by decide +kernel
theorem d_method_3_4 : decode method_3_code 4 = .ok (.bipush 8, 2) := by decide +kernel
theorem d_method_3_6 : decode method_3_code 6 = .ok (.iload_n 3, 1) := by decide +kernel
theorem d_method_3_7 : decode method_3_code 7 = .ok (.imul, 1) := by decide +kernel
theorem d_method_3_8 : decode method_3_code 8 = .ok (.lushr, 1) := by decide +kernel
theorem d_method_3_9 : decode method_3_code 9 = .ok (.ldc2_w 28, 3) := by decide +kernel
theorem d_method_3_12 : decode method_3_code 12 = .ok (.land, 1) := by decide +kernel
theorem d_method_3_13 : decode method_3_code 13 = .ok (.l2i, 1) := by decide +kernel
theorem d_method_3_14 : decode method_3_code 14 = .ok (.iadd, 1) := by decide +kernel
theorem d_method_3_15 : decode method_3_code 15 = .ok (.invokestatic 30, 3) := by decide +kernel
theorem pn1 : plainName "com/example/tightbit/tightbit/GallopingSearchFirstAtLeastPinLaw" = true := by first | (simp [plainName, overriddenIn]; done) | decide +kernel
theorem ef_step (m : MethodId) (xstep_1 : Int32) (ystep_2 : Int64) (xstep_3 : Int32) : entryFrame m #[(.int xstep_1), (.long ystep_2), (.int xstep_3)] 4 = mkF m 0 #[.val (.int xstep_1), .val (.long ystep_2), .second, .val (.int xstep_3)] [] := by first | (simp [entryFrame, mkF, argsToLocals, Value.category]; done) | rfl
def f_step (xstep_1 : Int32) (ystep_2 : Int64) (xstep_3 : Int32) : Int32 := (f_min (65535 : Int32) (xstep_1 + ((((ystep_2.toUInt64 >>> (((8 : Int32) * xstep_3) &&& 0x3f).toInt64.toUInt64).toInt64) &&& (255 : Int64)).toInt32)))
def Q_step (Z : State) (xstep_1 : Int32) (ystep_2 : Int64) (xstep_3 : Int32) (h0 : Heap) (n0 : Nat) (v : Option Value) (h : Heap) (L : List Loc) : Prop := v = some (.int (f_step xstep_1 ystep_2 xstep_3)) ∧ Fr n0 L ∧ h = h0
theorem d_method_3_18 : decode method_3_code 18 = .ok (.ireturn, 1) := by decide +kernel
abbrev mt2 : MethodName := ⟨"com/example/tightbit/tightbit/GallopingSearchFirstAtLeastPinLaw", "step", "(IJI)I"⟩
set_option maxRecDepth 65536 in
set_option maxHeartbeats 40000000 in
theorem rm_step (l : Launch) (Z : State) (a0 : Array Value) (hw : ∀ d ∈ tables_1, d.before a0 Z = true) (ws : List Jvm.Cond) (xstep_1 : Int32) (ystep_2 : Int64) (xstep_3 : Int32) (h0 : Heap) (n0 : Nat) (Z0 : n0 ≤ h0.size)  :
    MetFree l mt2 (head1 (Jvm.Cond.code mt2 method_3_code 4 (some .int) :: ws) ({ frames := 1, cells := 0, slots := 0, locals := 13 } : Room)) (fun a U => a = #[(.int xstep_1), (.long ystep_2), (.int xstep_3)] ∧ Z.Warmed39 U.vm ∧ U.heap = h0) (fun _ _ _ _ _ => True) (fun _ U o U' => ∃ v L, o = .returned v ∧ (Q_step Z xstep_1 ystep_2 xstep_3 h0 n0) v U'.heap L ∧ FrameEnd U o U' L ({ frames := 1, cells := 0, slots := 0, locals := 13 } : Room).cells ({ frames := 1, cells := 0, slots := 0, locals := 13 } : Room).slots) := by
  refine MetFree.of_bodySF (plainFor_of_name pn1) hisR ?_
  intro p e s m args below meth c s₁ Bd hml0 hP hK
  obtain ⟨rfl, hZ, hh⟩ := hP
  have hx := Bd.exec
  have hby := Bd.bytes
  have hml : c.maxLocals = 4 := hml0
  have hown : s.vm.findClass "com/example/tightbit/tightbit/GallopingSearchFirstAtLeastPinLaw" = some m.cls := findClass_of_methodNamed Bd.named
  have hnm := (name_of_methodNamed Bd.named Bd.method).1
  have X0 : Stand p l e ({ frames := 1, cells := 0, slots := 0, locals := 13 } : Room) s m #[(.int xstep_1), (.long ystep_2), (.int xstep_3)] below meth c s₁ [] 0 0 := Stand.of_body Bd
  have e0 : s₁.heap = h0 := by rw [← hh, Bd.state]; rfl
  have N0 := Fr.nil n0
  refine Wq.step (p := p) (e := e) (below := below) (En := (fun o t L => FrameEnd s o t L ({ frames := 1, cells := 0, slots := 0, locals := 13 } : Room).cells ({ frames := 1, cells := 0, slots := 0, locals := 13 } : Room).slots)) (Q := (Q_step Z xstep_1 ystep_2 xstep_3 h0 n0)) (fun t k => castTop (ef_step m xstep_1 ystep_2 xstep_3) k) ?_
  show Wq _ _ _ _ _ (s₁.setTop (mkF m 0 #[.val (.int xstep_1), .val (.long ystep_2), .second, .val (.int xstep_3)] []))
  refine Ow.ldcInt X0 hx hZ (pc' := 2) hown (kw0 hw) (hb hby d_method_3_0) ?_
  refine Ow.iloadN X0 hx (pc' := 3) (hb hby d_method_3_2) rfl ?_
  refine Ow.lloadN X0 hx (pc' := 4) (hb hby d_method_3_3) rfl ?_
  refine Ow.bipush X0 hx (pc' := 6) (hb hby d_method_3_4) (z := (8 : Int32)) rfl ?_
  refine Ow.iloadN X0 hx (pc' := 7) (hb hby d_method_3_6) rfl ?_
  refine Ow.imul X0 hx (pc' := 8) (hb hby d_method_3_7) (z := ((8 : Int32) * xstep_3)) rfl ?_
  refine Ow.lushr X0 hx (pc' := 9) (hb hby d_method_3_8) (z := ((ystep_2.toUInt64 >>> (((8 : Int32) * xstep_3) &&& 0x3f).toInt64.toUInt64).toInt64)) rfl ?_
  refine Ow.ldc2Long X0 hx hZ (pc' := 12) hown (kw5 hw) (hb hby d_method_3_9) ?_
  refine Ow.land X0 hx (pc' := 13) (hb hby d_method_3_12) (z := (((ystep_2.toUInt64 >>> (((8 : Int32) * xstep_3) &&& 0x3f).toInt64.toUInt64).toInt64) &&& (255 : Int64))) rfl ?_
  refine Ow.l2i X0 hx (pc' := 14) (hb hby d_method_3_13) (z := ((((ystep_2.toUInt64 >>> (((8 : Int32) * xstep_3) &&& 0x3f).toInt64.toUInt64).toInt64) &&& (255 : Int64)).toInt32)) rfl ?_
  refine Ow.iadd X0 hx (pc' := 15) (hb hby d_method_3_14) (z := (xstep_1 + ((((ystep_2.toUInt64 >>> (((8 : Int32) * xstep_3) &&& 0x3f).toInt64.toUInt64).toInt64) &&& (255 : Int64)).toInt32))) rfl ?_
  obtain ⟨_, _, ⟨T1, L1, k1, n1⟩, -, X1, ⟨Lc1, hQ1, l1, y1, z1⟩, st1⟩ := Jvm.LawKit.callS X0 hx (y := mt1) hown (mvT hZ (kw6 hw)) (mvT hZ (kw7 hw)) (mvT hZ (kw8 hw)) (mvT hZ (kw9 hw)) (by decide) (backOf (W := 0) (rm_min l Z a0 hw [] (65535 : Int32) (xstep_1 + ((((ystep_2.toUInt64 >>> (((8 : Int32) * xstep_3) &&& 0x3f).toInt64.toUInt64).toInt64) &&& (255 : Int64)).toInt32)) h0 n0 Z0 ) hZ (kw9 hw) (kw8 hw) (by decide) (by decide)) (g := (mkF m 15 #[.val (.int xstep_1), .val (.long ystep_2), .second, .val (.int xstep_3)] [(.int (xstep_1 + ((((ystep_2.toUInt64 >>> (((8 : Int32) * xstep_3) &&& 0x3f).toInt64.toUInt64).toInt64) &&& (255 : Int64)).toInt32))), (.int (65535 : Int32))])) rfl (by rw [hml]; rfl) (argsL := [(.int (65535 : Int32)), (.int (xstep_1 + ((((ystep_2.toUInt64 >>> (((8 : Int32) * xstep_3) &&& 0x3f).toInt64.toUInt64).toInt64) &&& (255 : Int64)).toInt32)))]) (rest := []) (lenOf pd1 rfl) rfl (by show 2 * 0 + _ ≤ _; exact Nat.le_of_eq rfl) (hb hby d_method_3_15) (fun _ _ => ⟨rfl, e0, (by decide : 0 + 0 ≤ _), (by decide : 0 + 0 ≤ _)⟩)
  dsimp only [Pt.U, Pt.locs, Pt.cells, Pt.slots] at X1 l1 y1 z1 st1 hQ1
  subst l1 y1 z1
  obtain ⟨rfl, Nq1, e1⟩ := hQ1
  have N1 := Fr.app N0 Nq1
  refine Wq.step st1 ?_
  show Wq _ _ _ _ _ (T1.setTop (mkF m 18 #[.val (.int xstep_1), .val (.long ystep_2), .second, .val (.int xstep_3)] [(.int (f_min (65535 : Int32) (xstep_1 + ((((ystep_2.toUInt64 >>> (((8 : Int32) * xstep_3) &&& 0x3f).toInt64.toUInt64).toInt64) &&& (255 : Int64)).toInt32))))]))
  exact Wq.ret X1 (BodyLoose.notSynchronized Bd) (rv := some (.int (f_min (65535 : Int32) (xstep_1 + ((((ystep_2.toUInt64 >>> (((8 : Int32) * xstep_3) &&& 0x3f).toInt64.toUInt64).toInt64) &&& (255 : Int64)).toInt32))))) (fun h => by rw [Bd.returns] at h; cases h) (fun _ hr => retOut X1 hx Bd.returns rfl (Or.inl ⟨rfl, Or.inl rfl, _, rfl⟩) (hb hby d_method_3_18) hr) (by decide) (by decide) ⟨rfl, N1, e1⟩
theorem d_method_4_0 : decode method_4_code 0 = .ok (.iload_n 1, 1) := by decide +kernel
theorem d_method_4_1 : decode method_4_code 1 = .ok (.iload_n 2, 1) := by decide +kernel
theorem d_method_4_2 : decode method_4_code 2 = .ok (.if_icmp .ge 6, 3) := by decide +kernel
theorem d_method_4_5 : decode method_4_code 5 = .ok (.ldc 7, 2) := by decide +kernel
theorem d_method_4_8 : decode method_4_code 8 = .ok (.iload_n 1, 1) := by decide +kernel
theorem d_method_4_9 : decode method_4_code 9 = .ok (.iload_n 3, 1) := by decide +kernel
theorem d_method_4_10 : decode method_4_code 10 = .ok (.if_icmp .lt 5, 3) := by decide +kernel
theorem d_method_4_13 : decode method_4_code 13 = .ok (.iconst 0, 1) := by decide +kernel
theorem d_method_4_15 : decode method_4_code 15 = .ok (.iload_n 0, 1) := by decide +kernel
theorem d_method_4_16 : decode method_4_code 16 = .ok (.i2c, 1) := by decide +kernel
theorem ef_cell (m : MethodId) (xcell_1 : Int32) (xcell_2 : Int32) (xcell_3 : Int32) (xcell_4 : Int32) : entryFrame m #[(.int xcell_1), (.int xcell_2), (.int xcell_3), (.int xcell_4)] 4 = mkF m 0 #[.val (.int xcell_1), .val (.int xcell_2), .val (.int xcell_3), .val (.int xcell_4)] [] := by first | (simp [entryFrame, mkF, argsToLocals, Value.category]; done) | rfl
def f_cell (xcell_1 : Int32) (xcell_2 : Int32) (xcell_3 : Int32) (xcell_4 : Int32) : Int32 := (if xcell_2 < xcell_3 then (65535 : Int32) else (if xcell_2 < xcell_4 then ((xcell_1.toUInt32.toUInt16.toUInt32.toInt32).toUInt32.toUInt16.toUInt32.toInt32) else (0 : Int32)))
def Q_cell (Z : State) (xcell_1 : Int32) (xcell_2 : Int32) (xcell_3 : Int32) (xcell_4 : Int32) (h0 : Heap) (n0 : Nat) (v : Option Value) (h : Heap) (L : List Loc) : Prop := v = some (.int (f_cell xcell_1 xcell_2 xcell_3 xcell_4)) ∧ Fr n0 L ∧ h = h0
theorem d_method_4_7 : decode method_4_code 7 = .ok (.ireturn, 1) := by decide +kernel
theorem d_method_4_17 : decode method_4_code 17 = .ok (.ireturn, 1) := by decide +kernel
theorem d_method_4_14 : decode method_4_code 14 = .ok (.ireturn, 1) := by decide +kernel
abbrev mt3 : MethodName := ⟨"com/example/tightbit/tightbit/GallopingSearchFirstAtLeastPinLaw", "cell", "(IIII)C"⟩
set_option maxRecDepth 65536 in
set_option maxHeartbeats 40000000 in
theorem rm_cell (l : Launch) (Z : State) (a0 : Array Value) (hw : ∀ d ∈ tables_1, d.before a0 Z = true) (ws : List Jvm.Cond) (xcell_1 : Int32) (xcell_2 : Int32) (xcell_3 : Int32) (xcell_4 : Int32) (h0 : Heap) (n0 : Nat) (Z0 : n0 ≤ h0.size)  :
    MetFree l mt3 (head1 (Jvm.Cond.code mt3 method_4_code 4 (some .char) :: ws) ({ frames := 0, cells := 0, slots := 0, locals := 0 } : Room)) (fun a U => a = #[(.int xcell_1), (.int xcell_2), (.int xcell_3), (.int xcell_4)] ∧ Z.Warmed39 U.vm ∧ U.heap = h0) (fun _ _ _ _ _ => True) (fun _ U o U' => ∃ v L, o = .returned v ∧ (Q_cell Z xcell_1 xcell_2 xcell_3 xcell_4 h0 n0) v U'.heap L ∧ FrameEnd U o U' L ({ frames := 0, cells := 0, slots := 0, locals := 0 } : Room).cells ({ frames := 0, cells := 0, slots := 0, locals := 0 } : Room).slots) := by
  refine MetFree.of_bodySF (plainFor_of_name pn1) hisR ?_
  intro p e s m args below meth c s₁ Bd hml0 hP hK
  obtain ⟨rfl, hZ, hh⟩ := hP
  have hx := Bd.exec
  have hby := Bd.bytes
  have hml : c.maxLocals = 4 := hml0
  have hown : s.vm.findClass "com/example/tightbit/tightbit/GallopingSearchFirstAtLeastPinLaw" = some m.cls := findClass_of_methodNamed Bd.named
  have hnm := (name_of_methodNamed Bd.named Bd.method).1
  have X0 : Stand p l e ({ frames := 0, cells := 0, slots := 0, locals := 0 } : Room) s m #[(.int xcell_1), (.int xcell_2), (.int xcell_3), (.int xcell_4)] below meth c s₁ [] 0 0 := Stand.of_body Bd
  have e0 : s₁.heap = h0 := by rw [← hh, Bd.state]; rfl
  have N0 := Fr.nil n0
  refine Wq.step (p := p) (e := e) (below := below) (En := (fun o t L => FrameEnd s o t L ({ frames := 0, cells := 0, slots := 0, locals := 0 } : Room).cells ({ frames := 0, cells := 0, slots := 0, locals := 0 } : Room).slots)) (Q := (Q_cell Z xcell_1 xcell_2 xcell_3 xcell_4 h0 n0)) (fun t k => castTop (ef_cell m xcell_1 xcell_2 xcell_3 xcell_4) k) ?_
  show Wq _ _ _ _ _ (s₁.setTop (mkF m 0 #[.val (.int xcell_1), .val (.int xcell_2), .val (.int xcell_3), .val (.int xcell_4)] []))
  refine Ow.iloadN X0 hx (pc' := 1) (hb hby d_method_4_0) rfl ?_
  refine Ow.iloadN X0 hx (pc' := 2) (hb hby d_method_4_1) rfl ?_
  by_cases hc2 : xcell_2 < xcell_3
  · skip
    refine Ow.icmpNo X0 hx (pc' := 5) (hb hby d_method_4_2) (tlt hc2).2.1 ?_
    refine Ow.ldcInt X0 hx hZ (pc' := 7) hown (kw0 hw) (hb hby d_method_4_5) ?_
    exact Wq.ret X0 (BodyLoose.notSynchronized Bd) (rv := some (.int (65535 : Int32))) (fun h => by rw [Bd.returns] at h; cases h) (fun _ hr => retN X0 hx (t := .char) Bd.returns (by simp) (hb hby d_method_4_7) hr) (by decide) (by decide) ⟨by simp only [f_cell, if_pos hc2], N0, e0⟩
  · skip
    refine Ow.icmpYes X0 hx (pc' := 8) (hb hby d_method_4_2) (flt hc2).2.1 (by decide) (by decide) ?_
    refine Ow.iloadN X0 hx (pc' := 9) (hb hby d_method_4_8) rfl ?_
    refine Ow.iloadN X0 hx (pc' := 10) (hb hby d_method_4_9) rfl ?_
    by_cases hc10 : xcell_2 < xcell_4
    · skip
      refine Ow.icmpYes X0 hx (pc' := 15) (hb hby d_method_4_10) (tlt hc10).1 (by decide) (by decide) ?_
      refine Ow.iloadN X0 hx (pc' := 16) (hb hby d_method_4_15) rfl ?_
      refine Ow.i2c X0 hx (pc' := 17) (hb hby d_method_4_16) (z := (xcell_1.toUInt32.toUInt16.toUInt32.toInt32)) rfl ?_
      exact Wq.ret X0 (BodyLoose.notSynchronized Bd) (rv := some (.int ((xcell_1.toUInt32.toUInt16.toUInt32.toInt32).toUInt32.toUInt16.toUInt32.toInt32))) (fun h => by rw [Bd.returns] at h; cases h) (fun _ hr => retN X0 hx (t := .char) Bd.returns (by simp) (hb hby d_method_4_17) hr) (by decide) (by decide) ⟨by simp only [f_cell, if_neg hc2, if_pos hc10], N0, e0⟩
    · skip
      refine Ow.icmpNo X0 hx (pc' := 13) (hb hby d_method_4_10) (flt hc10).1 ?_
      refine Ow.iconst X0 hx (pc' := 14) (hb hby d_method_4_13) (z := (0 : Int32)) rfl ?_
      exact Wq.ret X0 (BodyLoose.notSynchronized Bd) (rv := some (.int (0 : Int32))) (fun h => by rw [Bd.returns] at h; cases h) (fun _ hr => retN X0 hx (t := .char) Bd.returns (by simp) (hb hby d_method_4_14) hr) (by decide) (by decide) ⟨by simp only [f_cell, if_neg hc2, if_neg hc10], N0, e0⟩
theorem d_method_5_0 : decode method_5_code 0 = .ok (.iload_n 1, 1) := by decide +kernel
theorem d_method_5_1 : decode method_5_code 1 = .ok (.iload_n 2, 1) := by decide +kernel
theorem d_method_5_2 : decode method_5_code 2 = .ok (.if_icmp .lt 18, 3) := by decide +kernel
theorem d_method_5_5 : decode method_5_code 5 = .ok (.iload_n 1, 1) := by decide +kernel
theorem d_method_5_6 : decode method_5_code 6 = .ok (.iload_n 3, 1) := by decide +kernel
theorem d_method_5_7 : decode method_5_code 7 = .ok (.if_icmp .ge 13, 3) := by decide +kernel
theorem d_method_5_10 : decode method_5_code 10 = .ok (.aload_n 0, 1) := by decide +kernel
theorem d_method_5_11 : decode method_5_code 11 = .ok (.iload_n 1, 1) := by decide +kernel
theorem d_method_5_12 : decode method_5_code 12 = .ok (.caload, 1) := by decide +kernel
theorem d_method_5_13 : decode method_5_code 13 = .ok (.iload 4, 2) := by decide +kernel
theorem d_method_5_15 : decode method_5_code 15 = .ok (.if_icmp .ge 5, 3) := by decide +kernel
theorem d_method_5_18 : decode method_5_code 18 = .ok (.iconst 1, 1) := by decide +kernel
theorem d_method_5_20 : decode method_5_code 20 = .ok (.iconst 0, 1) := by decide +kernel
theorem ef_bel (m : MethodId) (abel_1 : Addr) (xbel_2 : Int32) (xbel_3 : Int32) (xbel_4 : Int32) (xbel_5 : Int32) : entryFrame m #[(.ref abel_1), (.int xbel_2), (.int xbel_3), (.int xbel_4), (.int xbel_5)] 5 = mkF m 0 #[.val (.ref abel_1), .val (.int xbel_2), .val (.int xbel_3), .val (.int xbel_4), .val (.int xbel_5)] [] := by first | (simp [entryFrame, mkF, argsToLocals, Value.category]; done) | rfl
def f_bel (xbel_2 : Int32) (xbel_3 : Int32) (xbel_4 : Int32) (xbel_5 : Int32) (wB : Int32) : Int32 := (if xbel_2 < xbel_3 then (0 : Int32) else (if xbel_2 < xbel_4 then (if wB < xbel_5 then (1 : Int32) else (0 : Int32)) else (0 : Int32)))
def Q_bel (Z : State) (abel_1 : Addr) (xbel_2 : Int32) (xbel_3 : Int32) (xbel_4 : Int32) (xbel_5 : Int32) (vsB : List Value) (wB : Int32) (h0 : Heap) (n0 : Nat) (v : Option Value) (h : Heap) (L : List Loc) : Prop := v = some (.int (f_bel xbel_2 xbel_3 xbel_4 xbel_5 wB)) ∧ Fr n0 L ∧ h = h0
theorem d_method_5_21 : decode method_5_code 21 = .ok (.ireturn, 1) := by decide +kernel
theorem d_method_5_19 : decode method_5_code 19 = .ok (.ireturn, 1) := by decide +kernel
abbrev mt4 : MethodName := ⟨"com/example/tightbit/tightbit/GallopingSearchFirstAtLeastPinLaw", "below", "([CIIII)I"⟩
set_option maxRecDepth 65536 in
set_option maxHeartbeats 40000000 in
theorem rm_bel (l : Launch) (Z : State) (a0 : Array Value) (hw : ∀ d ∈ tables_1, d.before a0 Z = true) (ws : List Jvm.Cond) (abel_1 : Addr) (xbel_2 : Int32) (xbel_3 : Int32) (xbel_4 : Int32) (xbel_5 : Int32) (vsB : List Value) (wB : Int32) (h0 : Heap) (n0 : Nat) (Z0 : n0 ≤ h0.size) (hj : ¬ xbel_2 < 0) (hv : vsB[xbel_2.toNatClampNeg]? = some (.int wB)) (V_abel_1 : Al Z h0 abel_1 .char vsB) :
    MetFree l mt4 (head1 (Jvm.Cond.code mt4 method_5_code 5 (some .int) :: ws) ({ frames := 0, cells := 0, slots := 0, locals := 0 } : Room)) (fun a U => a = #[(.ref abel_1), (.int xbel_2), (.int xbel_3), (.int xbel_4), (.int xbel_5)] ∧ Z.Warmed39 U.vm ∧ U.heap = h0) (fun _ _ _ _ _ => True) (fun _ U o U' => ∃ v L, o = .returned v ∧ (Q_bel Z abel_1 xbel_2 xbel_3 xbel_4 xbel_5 vsB wB h0 n0) v U'.heap L ∧ FrameEnd U o U' L ({ frames := 0, cells := 0, slots := 0, locals := 0 } : Room).cells ({ frames := 0, cells := 0, slots := 0, locals := 0 } : Room).slots) := by
  refine MetFree.of_bodySF (plainFor_of_name pn1) hisR ?_
  intro p e s m args below meth c s₁ Bd hml0 hP hK
  obtain ⟨rfl, hZ, hh⟩ := hP
  have hx := Bd.exec
  have hby := Bd.bytes
  have hml : c.maxLocals = 5 := hml0
  have hown : s.vm.findClass "com/example/tightbit/tightbit/GallopingSearchFirstAtLeastPinLaw" = some m.cls := findClass_of_methodNamed Bd.named
  have hnm := (name_of_methodNamed Bd.named Bd.method).1
  have X0 : Stand p l e ({ frames := 0, cells := 0, slots := 0, locals := 0 } : Room) s m #[(.ref abel_1), (.int xbel_2), (.int xbel_3), (.int xbel_4), (.int xbel_5)] below meth c s₁ [] 0 0 := Stand.of_body Bd
  have e0 : s₁.heap = h0 := by rw [← hh, Bd.state]; rfl
  have N0 := Fr.nil n0
  refine Wq.step (p := p) (e := e) (below := below) (En := (fun o t L => FrameEnd s o t L ({ frames := 0, cells := 0, slots := 0, locals := 0 } : Room).cells ({ frames := 0, cells := 0, slots := 0, locals := 0 } : Room).slots)) (Q := (Q_bel Z abel_1 xbel_2 xbel_3 xbel_4 xbel_5 vsB wB h0 n0)) (fun t k => castTop (ef_bel m abel_1 xbel_2 xbel_3 xbel_4 xbel_5) k) ?_
  show Wq _ _ _ _ _ (s₁.setTop (mkF m 0 #[.val (.ref abel_1), .val (.int xbel_2), .val (.int xbel_3), .val (.int xbel_4), .val (.int xbel_5)] []))
  refine Ow.iloadN X0 hx (pc' := 1) (hb hby d_method_5_0) rfl ?_
  refine Ow.iloadN X0 hx (pc' := 2) (hb hby d_method_5_1) rfl ?_
  by_cases hc2 : xbel_2 < xbel_3
  · skip
    refine Ow.icmpYes X0 hx (pc' := 20) (hb hby d_method_5_2) (tlt hc2).1 (by decide) (by decide) ?_
    refine Ow.iconst X0 hx (pc' := 21) (hb hby d_method_5_20) (z := (0 : Int32)) rfl ?_
    exact Wq.ret X0 (BodyLoose.notSynchronized Bd) (rv := some (.int (0 : Int32))) (fun h => by rw [Bd.returns] at h; cases h) (fun _ hr => retOut X0 hx Bd.returns rfl (Or.inl ⟨rfl, Or.inl rfl, _, rfl⟩) (hb hby d_method_5_21) hr) (by decide) (by decide) ⟨by simp only [f_bel, if_pos hc2], N0, e0⟩
  · skip
    refine Ow.icmpNo X0 hx (pc' := 5) (hb hby d_method_5_2) (flt hc2).1 ?_
    refine Ow.iloadN X0 hx (pc' := 6) (hb hby d_method_5_5) rfl ?_
    refine Ow.iloadN X0 hx (pc' := 7) (hb hby d_method_5_6) rfl ?_
    by_cases hc7 : xbel_2 < xbel_4
    · skip
      refine Ow.icmpNo X0 hx (pc' := 10) (hb hby d_method_5_7) (tlt hc7).2.1 ?_
      refine Ow.aloadN X0 hx (pc' := 11) (hb hby d_method_5_10) rfl rfl ?_
      refine Ow.iloadN X0 hx (pc' := 12) (hb hby d_method_5_11) rfl ?_
      refine Ow.ldC X0 hx hZ e0 V_abel_1 (pc' := 13) (hb hby d_method_5_12) (j := xbel_2) (i := xbel_2.toNatClampNeg) (v := (.int wB)) (hj) (rfl) (hv) ?_
      refine Ow.iload X0 hx (pc' := 15) (hb hby d_method_5_13) rfl ?_
      by_cases hc15 : wB < xbel_5
      · skip
        refine Ow.icmpNo X0 hx (pc' := 18) (hb hby d_method_5_15) (tlt hc15).2.1 ?_
        refine Ow.iconst X0 hx (pc' := 19) (hb hby d_method_5_18) (z := (1 : Int32)) rfl ?_
        exact Wq.ret X0 (BodyLoose.notSynchronized Bd) (rv := some (.int (1 : Int32))) (fun h => by rw [Bd.returns] at h; cases h) (fun _ hr => retOut X0 hx Bd.returns rfl (Or.inl ⟨rfl, Or.inl rfl, _, rfl⟩) (hb hby d_method_5_19) hr) (by decide) (by decide) ⟨by simp only [f_bel, if_neg hc2, if_pos hc7, if_pos hc15], N0, e0⟩
      · skip
        refine Ow.icmpYes X0 hx (pc' := 20) (hb hby d_method_5_15) (flt hc15).2.1 (by decide) (by decide) ?_
        refine Ow.iconst X0 hx (pc' := 21) (hb hby d_method_5_20) (z := (0 : Int32)) rfl ?_
        exact Wq.ret X0 (BodyLoose.notSynchronized Bd) (rv := some (.int (0 : Int32))) (fun h => by rw [Bd.returns] at h; cases h) (fun _ hr => retOut X0 hx Bd.returns rfl (Or.inl ⟨rfl, Or.inl rfl, _, rfl⟩) (hb hby d_method_5_21) hr) (by decide) (by decide) ⟨by simp only [f_bel, if_neg hc2, if_pos hc7, if_neg hc15], N0, e0⟩
    · skip
      refine Ow.icmpYes X0 hx (pc' := 20) (hb hby d_method_5_7) (flt hc7).2.1 (by decide) (by decide) ?_
      refine Ow.iconst X0 hx (pc' := 21) (hb hby d_method_5_20) (z := (0 : Int32)) rfl ?_
      exact Wq.ret X0 (BodyLoose.notSynchronized Bd) (rv := some (.int (0 : Int32))) (fun h => by rw [Bd.returns] at h; cases h) (fun _ hr => retOut X0 hx Bd.returns rfl (Or.inl ⟨rfl, Or.inl rfl, _, rfl⟩) (hb hby d_method_5_21) hr) (by decide) (by decide) ⟨by simp only [f_bel, if_neg hc2, if_neg hc7], N0, e0⟩
def own_fa (c : Nat → Int32) (F T V r : Int32) : Prop := F.toInt ≤ r.toInt ∧ r.toInt ≤ T.toInt ∧ (∀ i : Nat, F.toInt ≤ i → (i : Int) < r.toInt → (c i).toInt < V.toInt) ∧ (∀ i : Nat, r.toInt ≤ i → (i : Int) < T.toInt → V.toInt ≤ (c i).toInt)
def own_so (c : Nat → Int32) (F T : Int32) : Prop := 0 ≤ F.toInt ∧ F.toInt ≤ T.toInt ∧ T.toInt ≤ 8 ∧ ∀ i j : Nat, F.toInt ≤ i → i ≤ j → (j : Int) < T.toInt → (c i).toInt ≤ (c j).toInt
def own_i1 (c : Nat → Int32) (F T V lo hi st : Int32) : Prop := F.toInt ≤ lo.toInt ∧ lo.toInt ≤ hi.toInt ∧ hi.toInt ≤ T.toInt ∧ 1 ≤ st.toInt ∧ st.toInt ≤ ((2 ^ (hi.toInt - F.toInt).toNat : Nat) : Int) ∧ ∀ i : Nat, F.toInt ≤ i → (i : Int) < lo.toInt → (c i).toInt < V.toInt
def own_i2 (c : Nat → Int32) (F T V lo hi : Int32) : Prop := F.toInt ≤ lo.toInt ∧ lo.toInt ≤ hi.toInt ∧ hi.toInt ≤ T.toInt ∧ (∀ i : Nat, F.toInt ≤ i → (i : Int) < lo.toInt → (c i).toInt < V.toInt) ∧ (∀ i : Nat, hi.toInt ≤ i → (i : Int) < T.toInt → V.toInt ≤ (c i).toInt)
theorem own_tn {x : Int32} (h : 0 ≤ x.toInt) : ¬ x < 0 ∧ (x.toNatClampNeg : Int) = x.toInt := by
  have e0 : (0 : Int32).toInt = 0 := by decide
  refine ⟨?_, ?_⟩
  · rw [Int32.lt_iff_toInt_lt]; omega
  · show ((x.toInt.toNat : Nat) : Int) = x.toInt
    omega
theorem own_pw {k : Nat} (h : k ≤ 8) : ((2 ^ k : Nat) : Int) ≤ 256 := by
  have q : 2 ^ k ≤ 256 := Nat.le_trans (Nat.pow_le_pow_right (show 0 < 2 by decide) h) (by decide)
  show ((2 ^ k : Nat) : Int) ≤ ((256 : Nat) : Int)
  exact Int.ofNat_le.mpr q
theorem own_one : (1 : Int32).toInt = 1 := by decide
theorem own_lt {x y : Int32} (h : x < y) : x.toInt < y.toInt := Int32.lt_iff_toInt_lt.mp h
theorem own_nlt {x y : Int32} (h : ¬ x < y) : y.toInt ≤ x.toInt := by
  rw [Int32.lt_iff_toInt_lt] at h; omega
theorem own_seen {c : Nat → Int32} {F T V lo hi : Int32} (hs : own_so c F T) (h1 : F.toInt ≤ hi.toInt) (h2 : hi < T) (h3 : c hi.toNatClampNeg < V) : ∀ i : Nat, F.toInt ≤ i → (i : Int) < hi.toInt + 1 → (c i).toInt < V.toInt := by
  intro i a b
  have t := (own_tn (x := hi) (by have := hs.1; omega)).2
  have l := own_lt h2
  have q := hs.2.2.2 i hi.toNatClampNeg a (by omega) (by omega)
  have r := own_lt h3
  omega
theorem own_s1a {c : Nat → Int32} {F T V lo hi st : Int32} (hs : own_so c F T) (I : own_i1 c F T V lo hi st) (h1 : hi < T) (h2 : c hi.toNatClampNeg < V) (h3 : st < (T - (hi + (1 : Int32)))) :
    own_i1 c F T V (hi + (1 : Int32)) ((hi + (1 : Int32)) + st) (st <<< ((1 : Int32) &&& 31)) ∧ (T.toInt - ((hi + (1 : Int32)) + st).toInt).toNat < (T.toInt - hi.toInt).toNat := by
  obtain ⟨i1, i2, i3, i4, i5, i6⟩ := I
  have sn := own_seen (lo := lo) hs (by omega) h1 h2
  obtain ⟨s1, s2, s3, s4⟩ := hs
  have l1 := own_lt h1
  have a1 := c_iadd hi 1
  rw [own_one] at a1
  have r1 := rng32 (hi + 1)
  have rh := rng32 hi
  have e1 : (hi + 1).toInt = hi.toInt + 1 := by omega
  have a2 := c_isub T (hi + 1)
  have r2 := rng32 (T - (hi + 1))
  have e2 : (T - (hi + 1)).toInt = T.toInt - hi.toInt - 1 := by omega
  have l3 := own_lt h3
  rw [e2] at l3
  have a3 := c_iadd (hi + 1) st
  have r3 := rng32 ((hi + 1) + st)
  have e3 : ((hi + 1) + st).toInt = hi.toInt + 1 + st.toInt := by omega
  have a4 := c_ishl st 1 1 (by decide)
  have r4 := rng32 (st <<< ((1 : Int32) &&& 31))
  have p1 := own_pw (k := (hi.toInt - F.toInt).toNat) (by omega)
  rw [show ((2 ^ 1 : Nat) : Int) = 2 from by decide] at a4
  have e4 : (st <<< ((1 : Int32) &&& 31)).toInt = st.toInt * 2 := by omega
  refine ⟨⟨?_, ?_, ?_, ?_, ?_, ?_⟩, ?_⟩
  · omega
  · omega
  · omega
  · omega
  · rw [e4, e3]
    have m := Nat.pow_le_pow_right (show 0 < 2 by decide) (show (hi.toInt - F.toInt).toNat + 1 ≤ (hi.toInt + 1 + st.toInt - F.toInt).toNat by omega)
    rw [Nat.pow_succ] at m
    omega
  · intro i a b
    exact sn i a (by omega)
  · omega
theorem own_s1b {c : Nat → Int32} {F T V lo hi st : Int32} (hs : own_so c F T) (I : own_i1 c F T V lo hi st) (h1 : hi < T) (h2 : c hi.toNatClampNeg < V) :
    own_i1 c F T V (hi + (1 : Int32)) T (st <<< ((1 : Int32) &&& 31)) ∧ (T.toInt - T.toInt).toNat < (T.toInt - hi.toInt).toNat := by
  obtain ⟨i1, i2, i3, i4, i5, i6⟩ := I
  have sn := own_seen (lo := lo) hs (by omega) h1 h2
  obtain ⟨s1, s2, s3, s4⟩ := hs
  have l1 := own_lt h1
  have a1 := c_iadd hi 1
  rw [own_one] at a1
  have r1 := rng32 (hi + 1)
  have e1 : (hi + 1).toInt = hi.toInt + 1 := by omega
  have a4 := c_ishl st 1 1 (by decide)
  have r4 := rng32 (st <<< ((1 : Int32) &&& 31))
  have p1 := own_pw (k := (hi.toInt - F.toInt).toNat) (by omega)
  rw [show ((2 ^ 1 : Nat) : Int) = 2 from by decide] at a4
  have e4 : (st <<< ((1 : Int32) &&& 31)).toInt = st.toInt * 2 := by omega
  refine ⟨⟨?_, ?_, ?_, ?_, ?_, ?_⟩, ?_⟩
  · omega
  · omega
  · omega
  · omega
  · rw [e4]
    have m := Nat.pow_le_pow_right (show 0 < 2 by decide) (show (hi.toInt - F.toInt).toNat + 1 ≤ (T.toInt - F.toInt).toNat by omega)
    rw [Nat.pow_succ] at m
    omega
  · intro i a b
    exact sn i a (by omega)
  · omega
theorem own_x1 {c : Nat → Int32} {F T V lo hi st : Int32} (I : own_i1 c F T V lo hi st) (h : ¬ hi < T) : own_i2 c F T V lo hi := by
  obtain ⟨i1, i2, i3, i4, i5, i6⟩ := I
  have l := own_nlt h
  exact ⟨i1, i2, i3, i6, fun i a b => by omega⟩
theorem own_x2 {c : Nat → Int32} {F T V lo hi st : Int32} (hs : own_so c F T) (I : own_i1 c F T V lo hi st) (h1 : hi < T) (h : ¬ c hi.toNatClampNeg < V) : own_i2 c F T V lo hi := by
  obtain ⟨i1, i2, i3, i4, i5, i6⟩ := I
  obtain ⟨s1, s2, s3, s4⟩ := hs
  have l := own_nlt h
  have l1 := own_lt h1
  have t := (own_tn (x := hi) (by omega)).2
  refine ⟨i1, i2, i3, i6, fun i a b => ?_⟩
  have q := s4 hi.toNatClampNeg i (by omega) (by omega) b
  omega
theorem own_mid {c : Nat → Int32} {F T V lo hi : Int32} (hs : own_so c F T) (I : own_i2 c F T V lo hi) (h : lo < hi) : ((((lo + hi).toUInt32 >>> ((1 : Int32) &&& 31).toUInt32).toInt32)).toInt = (lo.toInt + hi.toInt) / 2 := by
  obtain ⟨i1, i2, i3, i4, i5⟩ := I
  obtain ⟨s1, s2, s3, s4⟩ := hs
  have a := c_iadd lo hi
  have r := rng32 (lo + hi)
  have e : (lo + hi).toInt = lo.toInt + hi.toInt := by omega
  have u := c_iushr (lo + hi) 1 1 (by decide) (by decide)
  rw [show ((2 ^ 1 : Nat) : Int) = 2 from by decide, e] at u
  omega
theorem own_s2a {c : Nat → Int32} {F T V lo hi : Int32} (hs : own_so c F T) (I : own_i2 c F T V lo hi) (h : lo < hi) (h2 : c (((lo + hi).toUInt32 >>> ((1 : Int32) &&& 31).toUInt32).toInt32).toNatClampNeg < V) :
    own_i2 c F T V ((((lo + hi).toUInt32 >>> ((1 : Int32) &&& 31).toUInt32).toInt32) + (1 : Int32)) hi ∧ (hi.toInt - ((((lo + hi).toUInt32 >>> ((1 : Int32) &&& 31).toUInt32).toInt32) + (1 : Int32)).toInt).toNat < (hi.toInt - lo.toInt).toNat := by
  have hm := own_mid hs I h
  generalize (((lo + hi).toUInt32 >>> ((1 : Int32) &&& 31).toUInt32).toInt32) = mid at *
  obtain ⟨i1, i2, i3, i4, i5⟩ := I
  obtain ⟨s1, s2, s3, s4⟩ := hs
  have l := own_lt h
  have l2 := own_lt h2
  have a1 := c_iadd mid 1
  rw [own_one] at a1
  have r1 := rng32 (mid + 1)
  have e1 : (mid + 1).toInt = mid.toInt + 1 := by omega
  have t := (own_tn (x := mid) (by omega)).2
  refine ⟨⟨by omega, by omega, i3, fun i a b => ?_, i5⟩, by omega⟩
  have q := s4 i mid.toNatClampNeg a (by omega) (by omega)
  omega
theorem own_s2b {c : Nat → Int32} {F T V lo hi : Int32} (hs : own_so c F T) (I : own_i2 c F T V lo hi) (h : lo < hi) (h2 : ¬ c (((lo + hi).toUInt32 >>> ((1 : Int32) &&& 31).toUInt32).toInt32).toNatClampNeg < V) :
    own_i2 c F T V lo (((lo + hi).toUInt32 >>> ((1 : Int32) &&& 31).toUInt32).toInt32) ∧ ((((lo + hi).toUInt32 >>> ((1 : Int32) &&& 31).toUInt32).toInt32).toInt - lo.toInt).toNat < (hi.toInt - lo.toInt).toNat := by
  have hm := own_mid hs I h
  generalize (((lo + hi).toUInt32 >>> ((1 : Int32) &&& 31).toUInt32).toInt32) = mid at *
  obtain ⟨i1, i2, i3, i4, i5⟩ := I
  obtain ⟨s1, s2, s3, s4⟩ := hs
  have l := own_lt h
  have l2 := own_nlt h2
  have t := (own_tn (x := mid) (by omega)).2
  refine ⟨⟨i1, by omega, by omega, i4, fun i a b => ?_⟩, by omega⟩
  have q := s4 mid.toNatClampNeg i (by omega) (by omega) b
  omega
theorem own_rt {c : Nat → Int32} {F T V lo hi : Int32} (I : own_i2 c F T V lo hi) (h : ¬ lo < hi) : own_fa c F T V lo := by
  obtain ⟨i1, i2, i3, i4, i5⟩ := I
  have l := own_nlt h
  exact ⟨i1, by omega, i4, fun i a b => i5 i (by omega) b⟩
theorem own_b1 {c : Nat → Int32} {F T V lo hi st : Int32} (hs : own_so c F T) (I : own_i1 c F T V lo hi st) (h : hi < T) : ¬ hi < 0 ∧ hi.toNatClampNeg < 8 := by
  obtain ⟨i1, i2, i3, i4, i5, i6⟩ := I
  obtain ⟨s1, s2, s3, s4⟩ := hs
  have l := own_lt h
  have t := own_tn (x := hi) (by omega)
  exact ⟨t.1, by omega⟩
theorem own_b2 {c : Nat → Int32} {F T V lo hi : Int32} (hs : own_so c F T) (I : own_i2 c F T V lo hi) (h : lo < hi) : ¬ (((lo + hi).toUInt32 >>> ((1 : Int32) &&& 31).toUInt32).toInt32) < 0 ∧ (((lo + hi).toUInt32 >>> ((1 : Int32) &&& 31).toUInt32).toInt32).toNatClampNeg < 8 := by
  have hm := own_mid hs I h
  generalize (((lo + hi).toUInt32 >>> ((1 : Int32) &&& 31).toUInt32).toInt32) = mid at *
  obtain ⟨i1, i2, i3, i4, i5⟩ := I
  obtain ⟨s1, s2, s3, s4⟩ := hs
  have l := own_lt h
  have t := own_tn (x := mid) (by omega)
  exact ⟨t.1, by omega⟩
theorem own_i1_start {c : Nat → Int32} {F T V : Int32} (hs : own_so c F T) : own_i1 c F T V F F (1 : Int32) := by
  obtain ⟨s1, s2, s3, s4⟩ := hs
  refine ⟨Int.le_refl _, Int.le_refl _, s2, by decide, ?_, fun i a b => by omega⟩
  rw [own_one, Int.sub_self]
  decide
theorem d_prog_26_method_2_0 : decode prog_26_method_2_code 0 = .ok (.iload_n 1, 1) := by decide +kernel
theorem d_prog_26_method_2_1 : decode prog_26_method_2_code 1 = .ok (.istore 4, 2) := by decide +kernel
theorem d_prog_26_method_2_3 : decode prog_26_method_2_code 3 = .ok (.iload_n 1, 1) := by decide +kernel
theorem d_prog_26_method_2_4 : decode prog_26_method_2_code 4 = .ok (.istore 5, 2) := by decide +kernel
theorem d_prog_26_method_2_6 : decode prog_26_method_2_code 6 = .ok (.iconst 1, 1) := by decide +kernel
theorem d_prog_26_method_2_7 : decode prog_26_method_2_code 7 = .ok (.istore 6, 2) := by decide +kernel
theorem d_prog_26_method_2_9 : decode prog_26_method_2_code 9 = .ok (.iload 5, 2) := by decide +kernel
theorem d_prog_26_method_2_11 : decode prog_26_method_2_code 11 = .ok (.iload_n 2, 1) := by decide +kernel
theorem d_prog_26_method_2_12 : decode prog_26_method_2_code 12 = .ok (.if_icmp .ge 46, 3) := by decide +kernel
theorem d_prog_26_method_2_15 : decode prog_26_method_2_code 15 = .ok (.aload_n 0, 1) := by decide +kernel
theorem d_prog_26_method_2_16 : decode prog_26_method_2_code 16 = .ok (.iload 5, 2) := by decide +kernel
theorem d_prog_26_method_2_18 : decode prog_26_method_2_code 18 = .ok (.caload, 1) := by decide +kernel
theorem d_prog_26_method_2_19 : decode prog_26_method_2_code 19 = .ok (.iload_n 3, 1) := by decide +kernel
theorem d_prog_26_method_2_20 : decode prog_26_method_2_code 20 = .ok (.if_icmp .ge 38, 3) := by decide +kernel
theorem d_prog_26_method_2_23 : decode prog_26_method_2_code 23 = .ok (.iload 5, 2) := by decide +kernel
theorem d_prog_26_method_2_25 : decode prog_26_method_2_code 25 = .ok (.iconst 1, 1) := by decide +kernel
theorem d_prog_26_method_2_26 : decode prog_26_method_2_code 26 = .ok (.iadd, 1) := by decide +kernel
theorem d_prog_26_method_2_27 : decode prog_26_method_2_code 27 = .ok (.istore 4, 2) := by decide +kernel
theorem d_prog_26_method_2_29 : decode prog_26_method_2_code 29 = .ok (.iload_n 2, 1) := by decide +kernel
theorem d_prog_26_method_2_30 : decode prog_26_method_2_code 30 = .ok (.iload 4, 2) := by decide +kernel
theorem d_prog_26_method_2_32 : decode prog_26_method_2_code 32 = .ok (.isub, 1) := by decide +kernel
theorem d_prog_26_method_2_33 : decode prog_26_method_2_code 33 = .ok (.iload 6, 2) := by decide +kernel
theorem d_prog_26_method_2_35 : decode prog_26_method_2_code 35 = .ok (.if_icmp .le 11, 3) := by decide +kernel
theorem d_prog_26_method_2_38 : decode prog_26_method_2_code 38 = .ok (.iload 4, 2) := by decide +kernel
theorem d_prog_26_method_2_40 : decode prog_26_method_2_code 40 = .ok (.iload 6, 2) := by decide +kernel
theorem d_prog_26_method_2_42 : decode prog_26_method_2_code 42 = .ok (.iadd, 1) := by decide +kernel
theorem d_prog_26_method_2_43 : decode prog_26_method_2_code 43 = .ok (.goto 4, 3) := by decide +kernel
theorem d_prog_26_method_2_46 : decode prog_26_method_2_code 46 = .ok (.iload_n 2, 1) := by decide +kernel
theorem d_prog_26_method_2_47 : decode prog_26_method_2_code 47 = .ok (.istore 5, 2) := by decide +kernel
theorem d_prog_26_method_2_49 : decode prog_26_method_2_code 49 = .ok (.iload 6, 2) := by decide +kernel
theorem d_prog_26_method_2_51 : decode prog_26_method_2_code 51 = .ok (.iconst 1, 1) := by decide +kernel
theorem d_prog_26_method_2_52 : decode prog_26_method_2_code 52 = .ok (.ishl, 1) := by decide +kernel
theorem d_prog_26_method_2_53 : decode prog_26_method_2_code 53 = .ok (.istore 6, 2) := by decide +kernel
theorem d_prog_26_method_2_55 : decode prog_26_method_2_code 55 = .ok (.goto (-46), 3) := by decide +kernel
theorem d_prog_26_method_2_58 : decode prog_26_method_2_code 58 = .ok (.iload 4, 2) := by decide +kernel
theorem d_prog_26_method_2_60 : decode prog_26_method_2_code 60 = .ok (.iload 5, 2) := by decide +kernel
theorem d_prog_26_method_2_62 : decode prog_26_method_2_code 62 = .ok (.if_icmp .ge 36, 3) := by decide +kernel
theorem d_prog_26_method_2_65 : decode prog_26_method_2_code 65 = .ok (.iload 4, 2) := by decide +kernel
theorem d_prog_26_method_2_67 : decode prog_26_method_2_code 67 = .ok (.iload 5, 2) := by decide +kernel
theorem d_prog_26_method_2_69 : decode prog_26_method_2_code 69 = .ok (.iadd, 1) := by decide +kernel
theorem d_prog_26_method_2_70 : decode prog_26_method_2_code 70 = .ok (.iconst 1, 1) := by decide +kernel
theorem d_prog_26_method_2_71 : decode prog_26_method_2_code 71 = .ok (.iushr, 1) := by decide +kernel
theorem d_prog_26_method_2_72 : decode prog_26_method_2_code 72 = .ok (.istore 6, 2) := by decide +kernel
theorem d_prog_26_method_2_74 : decode prog_26_method_2_code 74 = .ok (.aload_n 0, 1) := by decide +kernel
theorem d_prog_26_method_2_75 : decode prog_26_method_2_code 75 = .ok (.iload 6, 2) := by decide +kernel
theorem d_prog_26_method_2_77 : decode prog_26_method_2_code 77 = .ok (.caload, 1) := by decide +kernel
theorem d_prog_26_method_2_78 : decode prog_26_method_2_code 78 = .ok (.iload_n 3, 1) := by decide +kernel
theorem d_prog_26_method_2_79 : decode prog_26_method_2_code 79 = .ok (.if_icmp .ge 12, 3) := by decide +kernel
theorem d_prog_26_method_2_82 : decode prog_26_method_2_code 82 = .ok (.iload 6, 2) := by decide +kernel
theorem d_prog_26_method_2_84 : decode prog_26_method_2_code 84 = .ok (.iconst 1, 1) := by decide +kernel
theorem d_prog_26_method_2_85 : decode prog_26_method_2_code 85 = .ok (.iadd, 1) := by decide +kernel
theorem d_prog_26_method_2_86 : decode prog_26_method_2_code 86 = .ok (.istore 4, 2) := by decide +kernel
theorem d_prog_26_method_2_88 : decode prog_26_method_2_code 88 = .ok (.goto 7, 3) := by decide +kernel
theorem d_prog_26_method_2_91 : decode prog_26_method_2_code 91 = .ok (.iload 6, 2) := by decide +kernel
theorem d_prog_26_method_2_93 : decode prog_26_method_2_code 93 = .ok (.istore 5, 2) := by decide +kernel
theorem d_prog_26_method_2_95 : decode prog_26_method_2_code 95 = .ok (.goto (-37), 3) := by decide +kernel
theorem d_prog_26_method_2_98 : decode prog_26_method_2_code 98 = .ok (.iload 4, 2) := by decide +kernel
theorem pn2 : plainName "com/example/tightbit/tightbit/GallopingSearch" = true := by first | (simp [plainName, overriddenIn]; done) | decide +kernel
theorem ef_fa (m : MethodId) (afa_1 : Addr) (xfa_2 : Int32) (xfa_3 : Int32) (xfa_4 : Int32) : entryFrame m #[(.ref afa_1), (.int xfa_2), (.int xfa_3), (.int xfa_4)] 7 = mkF m 0 #[.val (.ref afa_1), .val (.int xfa_2), .val (.int xfa_3), .val (.int xfa_4), .unset, .unset, .unset] [] := by first | (simp [entryFrame, mkF, argsToLocals, Value.category]; done) | rfl
def Q_fa (Z : State) (afa_1 : Addr) (xfa_2 : Int32) (xfa_3 : Int32) (xfa_4 : Int32) (cw : Nat → Int32) (vs : List Value) (h0 : Heap) (n0 : Nat) (v : Option Value) (h : Heap) (L : List Loc) : Prop := ∃ r : Int32, v = some (.int r) ∧ Fr n0 L ∧ h = h0 ∧ (own_fa cw xfa_2 xfa_3 xfa_4 r)
theorem d_prog_26_method_2_100 : decode prog_26_method_2_code 100 = .ok (.ireturn, 1) := by decide +kernel
abbrev mt5 : MethodName := ⟨"com/example/tightbit/tightbit/GallopingSearch", "firstAtLeast", "([CIII)I"⟩
set_option maxRecDepth 65536 in
set_option maxHeartbeats 40000000 in
theorem rm_fa (l : Launch) (Z : State) (a0 : Array Value) (hw : ∀ d ∈ tables_1, d.before a0 Z = true) (ws : List Jvm.Cond) (afa_1 : Addr) (xfa_2 : Int32) (xfa_3 : Int32) (xfa_4 : Int32) (cw : Nat → Int32) (vs : List Value) (h0 : Heap) (n0 : Nat) (Z0 : n0 ≤ h0.size) (hc : ∀ i, i < 8 → vs[i]? = some (.int (cw i))) (hs : own_so cw xfa_2 xfa_3) (V_afa_1 : Al Z h0 afa_1 .char vs) :
    MetFree l mt5 (head1 (Jvm.Cond.code mt5 prog_26_method_2_code 7 (some .int) :: ws) ({ frames := 0, cells := 0, slots := 0, locals := 0 } : Room)) (fun a U => a = #[(.ref afa_1), (.int xfa_2), (.int xfa_3), (.int xfa_4)] ∧ Z.Warmed39 U.vm ∧ U.heap = h0) (fun _ _ _ _ _ => True) (fun _ U o U' => ∃ v L, o = .returned v ∧ (Q_fa Z afa_1 xfa_2 xfa_3 xfa_4 cw vs h0 n0) v U'.heap L ∧ FrameEnd U o U' L ({ frames := 0, cells := 0, slots := 0, locals := 0 } : Room).cells ({ frames := 0, cells := 0, slots := 0, locals := 0 } : Room).slots) := by
  refine MetFree.of_bodySF (plainFor_of_name pn2) hisR ?_
  intro p e s m args below meth c s₁ Bd hml0 hP hK
  obtain ⟨rfl, hZ, hh⟩ := hP
  have hx := Bd.exec
  have hby := Bd.bytes
  have hml : c.maxLocals = 7 := hml0
  have hown : s.vm.findClass "com/example/tightbit/tightbit/GallopingSearch" = some m.cls := findClass_of_methodNamed Bd.named
  have hnm := (name_of_methodNamed Bd.named Bd.method).1
  have X0 : Stand p l e ({ frames := 0, cells := 0, slots := 0, locals := 0 } : Room) s m #[(.ref afa_1), (.int xfa_2), (.int xfa_3), (.int xfa_4)] below meth c s₁ [] 0 0 := Stand.of_body Bd
  have e0 : s₁.heap = h0 := by rw [← hh, Bd.state]; rfl
  have N0 := Fr.nil n0
  refine Wq.step (p := p) (e := e) (below := below) (En := (fun o t L => FrameEnd s o t L ({ frames := 0, cells := 0, slots := 0, locals := 0 } : Room).cells ({ frames := 0, cells := 0, slots := 0, locals := 0 } : Room).slots)) (Q := (Q_fa Z afa_1 xfa_2 xfa_3 xfa_4 cw vs h0 n0)) (fun t k => castTop (ef_fa m afa_1 xfa_2 xfa_3 xfa_4) k) ?_
  show Wq _ _ _ _ _ (s₁.setTop (mkF m 0 #[.val (.ref afa_1), .val (.int xfa_2), .val (.int xfa_3), .val (.int xfa_4), .unset, .unset, .unset] []))
  refine Ow.iloadN X0 hx (pc' := 1) (hb hby d_prog_26_method_2_0) rfl ?_
  refine Ow.istore X0 hx (pc' := 3) (hb hby d_prog_26_method_2_1) (l' := #[.val (.ref afa_1), .val (.int xfa_2), .val (.int xfa_3), .val (.int xfa_4), .val (.int xfa_2), .unset, .unset]) rfl ?_
  refine Ow.iloadN X0 hx (pc' := 4) (hb hby d_prog_26_method_2_3) rfl ?_
  refine Ow.istore X0 hx (pc' := 6) (hb hby d_prog_26_method_2_4) (l' := #[.val (.ref afa_1), .val (.int xfa_2), .val (.int xfa_3), .val (.int xfa_4), .val (.int xfa_2), .val (.int xfa_2), .unset]) rfl ?_
  refine Ow.iconst X0 hx (pc' := 7) (hb hby d_prog_26_method_2_6) (z := (1 : Int32)) rfl ?_
  refine Ow.istore X0 hx (pc' := 9) (hb hby d_prog_26_method_2_7) (l' := #[.val (.ref afa_1), .val (.int xfa_2), .val (.int xfa_3), .val (.int xfa_4), .val (.int xfa_2), .val (.int xfa_2), .val (.int (1 : Int32))]) rfl ?_
  have LP9 : ∀ (n : Nat) (lo : Int32) (hi : Int32) (stp : Int32)  (I1 : own_i1 cw xfa_2 xfa_3 xfa_4 lo hi stp) (hm : (xfa_3.toInt - hi.toInt).toNat = n), Wq p e below (fun o t L => FrameEnd s o t L ({ frames := 0, cells := 0, slots := 0, locals := 0 } : Room).cells ({ frames := 0, cells := 0, slots := 0, locals := 0 } : Room).slots) (Q_fa Z afa_1 xfa_2 xfa_3 xfa_4 cw vs h0 n0) (s₁.setTop (mkF m 9 #[.val (.ref afa_1), .val (.int xfa_2), .val (.int xfa_3), .val (.int xfa_4), .val (.int lo), .val (.int hi), .val (.int stp)] [])) := by
    intro n
    induction n using Nat.strongRecOn with
    | _ n ih =>
    intro lo hi stp  I1 hm
    show Wq _ _ _ _ _ (s₁.setTop (mkF m 9 #[.val (.ref afa_1), .val (.int xfa_2), .val (.int xfa_3), .val (.int xfa_4), .val (.int lo), .val (.int hi), .val (.int stp)] []))
    refine Ow.iload X0 hx (pc' := 11) (hb hby d_prog_26_method_2_9) rfl ?_
    refine Ow.iloadN X0 hx (pc' := 12) (hb hby d_prog_26_method_2_11) rfl ?_
    by_cases hc12 : hi < xfa_3
    · skip
      refine Ow.icmpNo X0 hx (pc' := 15) (hb hby d_prog_26_method_2_12) (tlt hc12).2.1 ?_
      refine Ow.aloadN X0 hx (pc' := 16) (hb hby d_prog_26_method_2_15) rfl rfl ?_
      refine Ow.iload X0 hx (pc' := 18) (hb hby d_prog_26_method_2_16) rfl ?_
      refine Ow.ldC X0 hx hZ e0 V_afa_1 (pc' := 19) (hb hby d_prog_26_method_2_18) (j := hi) (i := hi.toNatClampNeg) (v := (.int (cw hi.toNatClampNeg))) ((own_b1 hs I1 hc12).1) (rfl) (hc _ (own_b1 hs I1 hc12).2) ?_
      refine Ow.iloadN X0 hx (pc' := 20) (hb hby d_prog_26_method_2_19) rfl ?_
      by_cases hc20 : (cw hi.toNatClampNeg) < xfa_4
      · skip
        refine Ow.icmpNo X0 hx (pc' := 23) (hb hby d_prog_26_method_2_20) (tlt hc20).2.1 ?_
        refine Ow.iload X0 hx (pc' := 25) (hb hby d_prog_26_method_2_23) rfl ?_
        refine Ow.iconst X0 hx (pc' := 26) (hb hby d_prog_26_method_2_25) (z := (1 : Int32)) rfl ?_
        refine Ow.iadd X0 hx (pc' := 27) (hb hby d_prog_26_method_2_26) (z := (hi + (1 : Int32))) rfl ?_
        refine Ow.istore X0 hx (pc' := 29) (hb hby d_prog_26_method_2_27) (l' := #[.val (.ref afa_1), .val (.int xfa_2), .val (.int xfa_3), .val (.int xfa_4), .val (.int (hi + (1 : Int32))), .val (.int hi), .val (.int stp)]) rfl ?_
        refine Ow.iloadN X0 hx (pc' := 30) (hb hby d_prog_26_method_2_29) rfl ?_
        refine Ow.iload X0 hx (pc' := 32) (hb hby d_prog_26_method_2_30) rfl ?_
        refine Ow.isub X0 hx (pc' := 33) (hb hby d_prog_26_method_2_32) (z := (xfa_3 - (hi + (1 : Int32)))) rfl ?_
        refine Ow.iload X0 hx (pc' := 35) (hb hby d_prog_26_method_2_33) rfl ?_
        by_cases hc35 : stp < (xfa_3 - (hi + (1 : Int32)))
        · skip
          refine Ow.icmpNo X0 hx (pc' := 38) (hb hby d_prog_26_method_2_35) (tlt hc35).2.2.2 ?_
          refine Ow.iload X0 hx (pc' := 40) (hb hby d_prog_26_method_2_38) rfl ?_
          refine Ow.iload X0 hx (pc' := 42) (hb hby d_prog_26_method_2_40) rfl ?_
          refine Ow.iadd X0 hx (pc' := 43) (hb hby d_prog_26_method_2_42) (z := ((hi + (1 : Int32)) + stp)) rfl ?_
          refine Ow.goto X0 hx (pc' := 47) (hb hby d_prog_26_method_2_43) (by decide) (by decide) ?_
          refine Ow.istore X0 hx (pc' := 49) (hb hby d_prog_26_method_2_47) (l' := #[.val (.ref afa_1), .val (.int xfa_2), .val (.int xfa_3), .val (.int xfa_4), .val (.int (hi + (1 : Int32))), .val (.int ((hi + (1 : Int32)) + stp)), .val (.int stp)]) rfl ?_
          refine Ow.iload X0 hx (pc' := 51) (hb hby d_prog_26_method_2_49) rfl ?_
          refine Ow.iconst X0 hx (pc' := 52) (hb hby d_prog_26_method_2_51) (z := (1 : Int32)) rfl ?_
          refine Ow.ishl X0 hx (pc' := 53) (hb hby d_prog_26_method_2_52) (z := (stp <<< ((1 : Int32) &&& 31))) rfl ?_
          refine Ow.istore X0 hx (pc' := 55) (hb hby d_prog_26_method_2_53) (l' := #[.val (.ref afa_1), .val (.int xfa_2), .val (.int xfa_3), .val (.int xfa_4), .val (.int (hi + (1 : Int32))), .val (.int ((hi + (1 : Int32)) + stp)), .val (.int (stp <<< ((1 : Int32) &&& 31)))]) rfl ?_
          refine Ow.goto X0 hx (pc' := 9) (hb hby d_prog_26_method_2_55) (by decide) (by decide) ?_
          exact ih _ (by rw [← hm]; exact (own_s1a hs I1 hc12 hc20 hc35).2) (hi + (1 : Int32)) ((hi + (1 : Int32)) + stp) (stp <<< ((1 : Int32) &&& 31))  ((own_s1a hs I1 hc12 hc20 hc35).1) rfl
        · skip
          refine Ow.icmpYes X0 hx (pc' := 46) (hb hby d_prog_26_method_2_35) (flt hc35).2.2.2 (by decide) (by decide) ?_
          refine Ow.iloadN X0 hx (pc' := 47) (hb hby d_prog_26_method_2_46) rfl ?_
          refine Ow.istore X0 hx (pc' := 49) (hb hby d_prog_26_method_2_47) (l' := #[.val (.ref afa_1), .val (.int xfa_2), .val (.int xfa_3), .val (.int xfa_4), .val (.int (hi + (1 : Int32))), .val (.int xfa_3), .val (.int stp)]) rfl ?_
          refine Ow.iload X0 hx (pc' := 51) (hb hby d_prog_26_method_2_49) rfl ?_
          refine Ow.iconst X0 hx (pc' := 52) (hb hby d_prog_26_method_2_51) (z := (1 : Int32)) rfl ?_
          refine Ow.ishl X0 hx (pc' := 53) (hb hby d_prog_26_method_2_52) (z := (stp <<< ((1 : Int32) &&& 31))) rfl ?_
          refine Ow.istore X0 hx (pc' := 55) (hb hby d_prog_26_method_2_53) (l' := #[.val (.ref afa_1), .val (.int xfa_2), .val (.int xfa_3), .val (.int xfa_4), .val (.int (hi + (1 : Int32))), .val (.int xfa_3), .val (.int (stp <<< ((1 : Int32) &&& 31)))]) rfl ?_
          refine Ow.goto X0 hx (pc' := 9) (hb hby d_prog_26_method_2_55) (by decide) (by decide) ?_
          exact ih _ (by rw [← hm]; exact (own_s1b hs I1 hc12 hc20).2) (hi + (1 : Int32)) xfa_3 (stp <<< ((1 : Int32) &&& 31))  ((own_s1b hs I1 hc12 hc20).1) rfl
      · skip
        refine Ow.icmpYes X0 hx (pc' := 58) (hb hby d_prog_26_method_2_20) (flt hc20).2.1 (by decide) (by decide) ?_
        have LP58 : ∀ (n : Nat) (lo2 : Int32) (hi2 : Int32) (md : Int32)  (I2 : own_i2 cw xfa_2 xfa_3 xfa_4 lo2 hi2) (hm : (hi2.toInt - lo2.toInt).toNat = n), Wq p e below (fun o t L => FrameEnd s o t L ({ frames := 0, cells := 0, slots := 0, locals := 0 } : Room).cells ({ frames := 0, cells := 0, slots := 0, locals := 0 } : Room).slots) (Q_fa Z afa_1 xfa_2 xfa_3 xfa_4 cw vs h0 n0) (s₁.setTop (mkF m 58 #[.val (.ref afa_1), .val (.int xfa_2), .val (.int xfa_3), .val (.int xfa_4), .val (.int lo2), .val (.int hi2), .val (.int md)] [])) := by
          intro n
          induction n using Nat.strongRecOn with
          | _ n ih =>
          intro lo2 hi2 md  I2 hm
          show Wq _ _ _ _ _ (s₁.setTop (mkF m 58 #[.val (.ref afa_1), .val (.int xfa_2), .val (.int xfa_3), .val (.int xfa_4), .val (.int lo2), .val (.int hi2), .val (.int md)] []))
          refine Ow.iload X0 hx (pc' := 60) (hb hby d_prog_26_method_2_58) rfl ?_
          refine Ow.iload X0 hx (pc' := 62) (hb hby d_prog_26_method_2_60) rfl ?_
          by_cases hc62 : lo2 < hi2
          · skip
            refine Ow.icmpNo X0 hx (pc' := 65) (hb hby d_prog_26_method_2_62) (tlt hc62).2.1 ?_
            refine Ow.iload X0 hx (pc' := 67) (hb hby d_prog_26_method_2_65) rfl ?_
            refine Ow.iload X0 hx (pc' := 69) (hb hby d_prog_26_method_2_67) rfl ?_
            refine Ow.iadd X0 hx (pc' := 70) (hb hby d_prog_26_method_2_69) (z := (lo2 + hi2)) rfl ?_
            refine Ow.iconst X0 hx (pc' := 71) (hb hby d_prog_26_method_2_70) (z := (1 : Int32)) rfl ?_
            refine Ow.iushr X0 hx (pc' := 72) (hb hby d_prog_26_method_2_71) (z := (((lo2 + hi2).toUInt32 >>> ((1 : Int32) &&& 31).toUInt32).toInt32)) rfl ?_
            refine Ow.istore X0 hx (pc' := 74) (hb hby d_prog_26_method_2_72) (l' := #[.val (.ref afa_1), .val (.int xfa_2), .val (.int xfa_3), .val (.int xfa_4), .val (.int lo2), .val (.int hi2), .val (.int (((lo2 + hi2).toUInt32 >>> ((1 : Int32) &&& 31).toUInt32).toInt32))]) rfl ?_
            refine Ow.aloadN X0 hx (pc' := 75) (hb hby d_prog_26_method_2_74) rfl rfl ?_
            refine Ow.iload X0 hx (pc' := 77) (hb hby d_prog_26_method_2_75) rfl ?_
            refine Ow.ldC X0 hx hZ e0 V_afa_1 (pc' := 78) (hb hby d_prog_26_method_2_77) (j := (((lo2 + hi2).toUInt32 >>> ((1 : Int32) &&& 31).toUInt32).toInt32)) (i := (((lo2 + hi2).toUInt32 >>> ((1 : Int32) &&& 31).toUInt32).toInt32).toNatClampNeg) (v := (.int (cw (((lo2 + hi2).toUInt32 >>> ((1 : Int32) &&& 31).toUInt32).toInt32).toNatClampNeg))) ((own_b2 hs I2 hc62).1) (rfl) (hc _ (own_b2 hs I2 hc62).2) ?_
            refine Ow.iloadN X0 hx (pc' := 79) (hb hby d_prog_26_method_2_78) rfl ?_
            by_cases hc79 : (cw (((lo2 + hi2).toUInt32 >>> ((1 : Int32) &&& 31).toUInt32).toInt32).toNatClampNeg) < xfa_4
            · skip
              refine Ow.icmpNo X0 hx (pc' := 82) (hb hby d_prog_26_method_2_79) (tlt hc79).2.1 ?_
              refine Ow.iload X0 hx (pc' := 84) (hb hby d_prog_26_method_2_82) rfl ?_
              refine Ow.iconst X0 hx (pc' := 85) (hb hby d_prog_26_method_2_84) (z := (1 : Int32)) rfl ?_
              refine Ow.iadd X0 hx (pc' := 86) (hb hby d_prog_26_method_2_85) (z := ((((lo2 + hi2).toUInt32 >>> ((1 : Int32) &&& 31).toUInt32).toInt32) + (1 : Int32))) rfl ?_
              refine Ow.istore X0 hx (pc' := 88) (hb hby d_prog_26_method_2_86) (l' := #[.val (.ref afa_1), .val (.int xfa_2), .val (.int xfa_3), .val (.int xfa_4), .val (.int ((((lo2 + hi2).toUInt32 >>> ((1 : Int32) &&& 31).toUInt32).toInt32) + (1 : Int32))), .val (.int hi2), .val (.int (((lo2 + hi2).toUInt32 >>> ((1 : Int32) &&& 31).toUInt32).toInt32))]) rfl ?_
              refine Ow.goto X0 hx (pc' := 95) (hb hby d_prog_26_method_2_88) (by decide) (by decide) ?_
              refine Ow.goto X0 hx (pc' := 58) (hb hby d_prog_26_method_2_95) (by decide) (by decide) ?_
              exact ih _ (by rw [← hm]; exact (own_s2a hs I2 hc62 hc79).2) ((((lo2 + hi2).toUInt32 >>> ((1 : Int32) &&& 31).toUInt32).toInt32) + (1 : Int32)) hi2 (((lo2 + hi2).toUInt32 >>> ((1 : Int32) &&& 31).toUInt32).toInt32)  ((own_s2a hs I2 hc62 hc79).1) rfl
            · skip
              refine Ow.icmpYes X0 hx (pc' := 91) (hb hby d_prog_26_method_2_79) (flt hc79).2.1 (by decide) (by decide) ?_
              refine Ow.iload X0 hx (pc' := 93) (hb hby d_prog_26_method_2_91) rfl ?_
              refine Ow.istore X0 hx (pc' := 95) (hb hby d_prog_26_method_2_93) (l' := #[.val (.ref afa_1), .val (.int xfa_2), .val (.int xfa_3), .val (.int xfa_4), .val (.int lo2), .val (.int (((lo2 + hi2).toUInt32 >>> ((1 : Int32) &&& 31).toUInt32).toInt32)), .val (.int (((lo2 + hi2).toUInt32 >>> ((1 : Int32) &&& 31).toUInt32).toInt32))]) rfl ?_
              refine Ow.goto X0 hx (pc' := 58) (hb hby d_prog_26_method_2_95) (by decide) (by decide) ?_
              exact ih _ (by rw [← hm]; exact (own_s2b hs I2 hc62 hc79).2) lo2 (((lo2 + hi2).toUInt32 >>> ((1 : Int32) &&& 31).toUInt32).toInt32) (((lo2 + hi2).toUInt32 >>> ((1 : Int32) &&& 31).toUInt32).toInt32)  ((own_s2b hs I2 hc62 hc79).1) rfl
          · skip
            refine Ow.icmpYes X0 hx (pc' := 98) (hb hby d_prog_26_method_2_62) (flt hc62).2.1 (by decide) (by decide) ?_
            refine Ow.iload X0 hx (pc' := 100) (hb hby d_prog_26_method_2_98) rfl ?_
            exact Wq.ret X0 (BodyLoose.notSynchronized Bd) (rv := some (.int lo2)) (fun h => by rw [Bd.returns] at h; cases h) (fun _ hr => retOut X0 hx Bd.returns rfl (Or.inl ⟨rfl, Or.inl rfl, _, rfl⟩) (hb hby d_prog_26_method_2_100) hr) (by decide) (by decide) ⟨lo2, rfl, N0, e0, own_rt I2 hc62⟩
        exact LP58 _ lo hi stp  (own_x2 hs I1 hc12 hc20) rfl
    · skip
      refine Ow.icmpYes X0 hx (pc' := 58) (hb hby d_prog_26_method_2_12) (flt hc12).2.1 (by decide) (by decide) ?_
      have LP58 : ∀ (n : Nat) (lo2 : Int32) (hi2 : Int32) (md : Int32)  (I2 : own_i2 cw xfa_2 xfa_3 xfa_4 lo2 hi2) (hm : (hi2.toInt - lo2.toInt).toNat = n), Wq p e below (fun o t L => FrameEnd s o t L ({ frames := 0, cells := 0, slots := 0, locals := 0 } : Room).cells ({ frames := 0, cells := 0, slots := 0, locals := 0 } : Room).slots) (Q_fa Z afa_1 xfa_2 xfa_3 xfa_4 cw vs h0 n0) (s₁.setTop (mkF m 58 #[.val (.ref afa_1), .val (.int xfa_2), .val (.int xfa_3), .val (.int xfa_4), .val (.int lo2), .val (.int hi2), .val (.int md)] [])) := by
        intro n
        induction n using Nat.strongRecOn with
        | _ n ih =>
        intro lo2 hi2 md  I2 hm
        show Wq _ _ _ _ _ (s₁.setTop (mkF m 58 #[.val (.ref afa_1), .val (.int xfa_2), .val (.int xfa_3), .val (.int xfa_4), .val (.int lo2), .val (.int hi2), .val (.int md)] []))
        refine Ow.iload X0 hx (pc' := 60) (hb hby d_prog_26_method_2_58) rfl ?_
        refine Ow.iload X0 hx (pc' := 62) (hb hby d_prog_26_method_2_60) rfl ?_
        by_cases hc62 : lo2 < hi2
        · skip
          refine Ow.icmpNo X0 hx (pc' := 65) (hb hby d_prog_26_method_2_62) (tlt hc62).2.1 ?_
          refine Ow.iload X0 hx (pc' := 67) (hb hby d_prog_26_method_2_65) rfl ?_
          refine Ow.iload X0 hx (pc' := 69) (hb hby d_prog_26_method_2_67) rfl ?_
          refine Ow.iadd X0 hx (pc' := 70) (hb hby d_prog_26_method_2_69) (z := (lo2 + hi2)) rfl ?_
          refine Ow.iconst X0 hx (pc' := 71) (hb hby d_prog_26_method_2_70) (z := (1 : Int32)) rfl ?_
          refine Ow.iushr X0 hx (pc' := 72) (hb hby d_prog_26_method_2_71) (z := (((lo2 + hi2).toUInt32 >>> ((1 : Int32) &&& 31).toUInt32).toInt32)) rfl ?_
          refine Ow.istore X0 hx (pc' := 74) (hb hby d_prog_26_method_2_72) (l' := #[.val (.ref afa_1), .val (.int xfa_2), .val (.int xfa_3), .val (.int xfa_4), .val (.int lo2), .val (.int hi2), .val (.int (((lo2 + hi2).toUInt32 >>> ((1 : Int32) &&& 31).toUInt32).toInt32))]) rfl ?_
          refine Ow.aloadN X0 hx (pc' := 75) (hb hby d_prog_26_method_2_74) rfl rfl ?_
          refine Ow.iload X0 hx (pc' := 77) (hb hby d_prog_26_method_2_75) rfl ?_
          refine Ow.ldC X0 hx hZ e0 V_afa_1 (pc' := 78) (hb hby d_prog_26_method_2_77) (j := (((lo2 + hi2).toUInt32 >>> ((1 : Int32) &&& 31).toUInt32).toInt32)) (i := (((lo2 + hi2).toUInt32 >>> ((1 : Int32) &&& 31).toUInt32).toInt32).toNatClampNeg) (v := (.int (cw (((lo2 + hi2).toUInt32 >>> ((1 : Int32) &&& 31).toUInt32).toInt32).toNatClampNeg))) ((own_b2 hs I2 hc62).1) (rfl) (hc _ (own_b2 hs I2 hc62).2) ?_
          refine Ow.iloadN X0 hx (pc' := 79) (hb hby d_prog_26_method_2_78) rfl ?_
          by_cases hc79 : (cw (((lo2 + hi2).toUInt32 >>> ((1 : Int32) &&& 31).toUInt32).toInt32).toNatClampNeg) < xfa_4
          · skip
            refine Ow.icmpNo X0 hx (pc' := 82) (hb hby d_prog_26_method_2_79) (tlt hc79).2.1 ?_
            refine Ow.iload X0 hx (pc' := 84) (hb hby d_prog_26_method_2_82) rfl ?_
            refine Ow.iconst X0 hx (pc' := 85) (hb hby d_prog_26_method_2_84) (z := (1 : Int32)) rfl ?_
            refine Ow.iadd X0 hx (pc' := 86) (hb hby d_prog_26_method_2_85) (z := ((((lo2 + hi2).toUInt32 >>> ((1 : Int32) &&& 31).toUInt32).toInt32) + (1 : Int32))) rfl ?_
            refine Ow.istore X0 hx (pc' := 88) (hb hby d_prog_26_method_2_86) (l' := #[.val (.ref afa_1), .val (.int xfa_2), .val (.int xfa_3), .val (.int xfa_4), .val (.int ((((lo2 + hi2).toUInt32 >>> ((1 : Int32) &&& 31).toUInt32).toInt32) + (1 : Int32))), .val (.int hi2), .val (.int (((lo2 + hi2).toUInt32 >>> ((1 : Int32) &&& 31).toUInt32).toInt32))]) rfl ?_
            refine Ow.goto X0 hx (pc' := 95) (hb hby d_prog_26_method_2_88) (by decide) (by decide) ?_
            refine Ow.goto X0 hx (pc' := 58) (hb hby d_prog_26_method_2_95) (by decide) (by decide) ?_
            exact ih _ (by rw [← hm]; exact (own_s2a hs I2 hc62 hc79).2) ((((lo2 + hi2).toUInt32 >>> ((1 : Int32) &&& 31).toUInt32).toInt32) + (1 : Int32)) hi2 (((lo2 + hi2).toUInt32 >>> ((1 : Int32) &&& 31).toUInt32).toInt32)  ((own_s2a hs I2 hc62 hc79).1) rfl
          · skip
            refine Ow.icmpYes X0 hx (pc' := 91) (hb hby d_prog_26_method_2_79) (flt hc79).2.1 (by decide) (by decide) ?_
            refine Ow.iload X0 hx (pc' := 93) (hb hby d_prog_26_method_2_91) rfl ?_
            refine Ow.istore X0 hx (pc' := 95) (hb hby d_prog_26_method_2_93) (l' := #[.val (.ref afa_1), .val (.int xfa_2), .val (.int xfa_3), .val (.int xfa_4), .val (.int lo2), .val (.int (((lo2 + hi2).toUInt32 >>> ((1 : Int32) &&& 31).toUInt32).toInt32)), .val (.int (((lo2 + hi2).toUInt32 >>> ((1 : Int32) &&& 31).toUInt32).toInt32))]) rfl ?_
            refine Ow.goto X0 hx (pc' := 58) (hb hby d_prog_26_method_2_95) (by decide) (by decide) ?_
            exact ih _ (by rw [← hm]; exact (own_s2b hs I2 hc62 hc79).2) lo2 (((lo2 + hi2).toUInt32 >>> ((1 : Int32) &&& 31).toUInt32).toInt32) (((lo2 + hi2).toUInt32 >>> ((1 : Int32) &&& 31).toUInt32).toInt32)  ((own_s2b hs I2 hc62 hc79).1) rfl
        · skip
          refine Ow.icmpYes X0 hx (pc' := 98) (hb hby d_prog_26_method_2_62) (flt hc62).2.1 (by decide) (by decide) ?_
          refine Ow.iload X0 hx (pc' := 100) (hb hby d_prog_26_method_2_98) rfl ?_
          exact Wq.ret X0 (BodyLoose.notSynchronized Bd) (rv := some (.int lo2)) (fun h => by rw [Bd.returns] at h; cases h) (fun _ hr => retOut X0 hx Bd.returns rfl (Or.inl ⟨rfl, Or.inl rfl, _, rfl⟩) (hb hby d_prog_26_method_2_100) hr) (by decide) (by decide) ⟨lo2, rfl, N0, e0, own_rt I2 hc62⟩
      exact LP58 _ lo hi stp  (own_x1 I1 hc12) rfl
  exact LP9 _ xfa_2 xfa_2 (1 : Int32)  (own_i1_start hs) rfl
theorem own_pick {vs : List Value} (xs : List Int32) {i : Nat} (e : vs = xs.map Value.int) (hi : i < xs.length) : ∃ w : Int32, vs[i]? = some (.int w) := by
  subst e
  exact ⟨xs[i], by simp [hi]⟩
theorem own_idx7 {x k : Int32} (hk : (((x.toUInt32 >>> ((2 : Int32) &&& 31).toUInt32).toInt32) &&& (7 : Int32)) = k) : ¬ k < 0 ∧ k.toNatClampNeg < 8 := by
  subst hk
  generalize ((x.toUInt32 >>> ((2 : Int32) &&& 31).toUInt32).toInt32) = y
  have h := c_mask y 7 3 (by decide) (by decide)
  have t := own_tn (x := y &&& 7) (by omega)
  exact ⟨t.1, by omega⟩
def own_c (x0 x1 x2 x3 x4 x5 x6 x7 : Int32) : Nat → Int32
  | 0 => x0
  | 1 => x1
  | 2 => x2
  | 3 => x3
  | 4 => x4
  | 5 => x5
  | 6 => x6
  | _ => x7
theorem own_cget {x0 x1 x2 x3 x4 x5 x6 x7 : Int32} : ∀ i, i < 8 → [(Value.int x0), (.int x1), (.int x2), (.int x3), (.int x4), (.int x5), (.int x6), (.int x7)][i]? = some (.int (own_c x0 x1 x2 x3 x4 x5 x6 x7 i)) := by
  intro i hi
  match i, hi with
  | 0, _ => rfl
  | 1, _ => rfl
  | 2, _ => rfl
  | 3, _ => rfl
  | 4, _ => rfl
  | 5, _ => rfl
  | 6, _ => rfl
  | 7, _ => rfl
theorem own_fr {x F : Int32} (h : ((x &&& (15 : Int32)) % (9 : Int32)) = F) : 0 ≤ F.toInt ∧ F.toInt ≤ 8 := by
  subst h
  have h1 := c_mask x 15 4 (by decide) (by decide)
  have h2 := (c_irem (x &&& 15) 9 9 (by decide)).1 (by omega)
  omega
theorem own_ne9 {x F : Int32} (h : ((x &&& (15 : Int32)) % (9 : Int32)) = F) : ((9 : Int32) - F) ≠ (0 : Int32) := by
  have b := own_fr h
  have e9 : (9 : Int32).toInt = 9 := by decide
  have e0 : (0 : Int32).toInt = 0 := by decide
  have c := c_isub 9 F
  have r := rng32 (9 - F)
  intro q
  rw [q, e0, e9] at c
  omega
theorem own_to {x y F T : Int32} (h : ((x &&& (15 : Int32)) % (9 : Int32)) = F) (h2 : (F + ((y &&& (15 : Int32)) % ((9 : Int32) - F))) = T) : F.toInt ≤ T.toInt ∧ T.toInt ≤ 8 := by
  have b := own_fr h
  have e9 : (9 : Int32).toInt = 9 := by decide
  have c := c_isub 9 F
  have r := rng32 (9 - F)
  rw [e9] at c
  have e : (9 - F).toInt = 9 - F.toInt := by omega
  have m := c_mask y 15 4 (by decide) (by decide)
  have q := (c_iremV (y &&& 15) (9 - F)).1 (by omega) (by omega)
  subst h2
  have s := c_iadd F ((y &&& (15 : Int32)) % ((9 : Int32) - F))
  have rs := rng32 (F + ((y &&& (15 : Int32)) % ((9 : Int32) - F)))
  omega
theorem own_step {v w i : Int32} {d : Int64} (h : f_step v d i = w) (h0 : 0 ≤ v.toInt) (h1 : v.toInt ≤ 65535) : v.toInt ≤ w.toInt ∧ w.toInt ≤ 65535 := by
  subst h
  unfold f_step f_min
  generalize ((d.toUInt64 >>> (((8 : Int32) * i) &&& 0x3f).toInt64.toUInt64).toInt64) = z
  have m := c_maskL z 255 8 (by decide) (by decide)
  have l := c_l2i (z &&& 255)
  have r := rng32 (z &&& 255).toInt32
  have e : (z &&& 255).toInt32.toInt = (z &&& 255).toInt := by omega
  have a := c_iadd v (z &&& 255).toInt32
  have ra := rng32 (v + (z &&& 255).toInt32)
  have e6 : (65535 : Int32).toInt = 65535 := by decide
  simp only [Int32.lt_iff_toInt_lt, e6]
  split
  · omega
  · rw [e6]; omega
theorem own_cell {v i F T q : Int32} (h : f_cell v i F T = q) (h0 : 0 ≤ v.toInt) (h1 : v.toInt ≤ 65535) (a : F.toInt ≤ i.toInt) (b : i.toInt < T.toInt) : (q.toUInt32.toUInt16.toUInt32.toInt32).toInt = v.toInt := by
  subst h
  unfold f_cell
  rw [if_neg (by rw [Int32.lt_iff_toInt_lt]; omega), if_pos (by rw [Int32.lt_iff_toInt_lt]; omega)]
  have c1 := c_i2c v
  have c2 := c_i2c (v.toUInt32.toUInt16.toUInt32.toInt32)
  have c3 := c_i2c ((v.toUInt32.toUInt16.toUInt32.toInt32).toUInt32.toUInt16.toUInt32.toInt32)
  omega
theorem own_sorted {F T x0 x1 x2 x3 x4 x5 x6 x7 v0 v1 v2 v3 v4 v5 v6 v7 : Int32} (hF : 0 ≤ F.toInt) (hT : F.toInt ≤ T.toInt) (h8 : T.toInt ≤ 8) (hx0 : F.toInt ≤ 0 → 0 < T.toInt → x0.toInt = v0.toInt) (hx1 : F.toInt ≤ 1 → 1 < T.toInt → x1.toInt = v1.toInt) (hx2 : F.toInt ≤ 2 → 2 < T.toInt → x2.toInt = v2.toInt) (hx3 : F.toInt ≤ 3 → 3 < T.toInt → x3.toInt = v3.toInt) (hx4 : F.toInt ≤ 4 → 4 < T.toInt → x4.toInt = v4.toInt) (hx5 : F.toInt ≤ 5 → 5 < T.toInt → x5.toInt = v5.toInt) (hx6 : F.toInt ≤ 6 → 6 < T.toInt → x6.toInt = v6.toInt) (hx7 : F.toInt ≤ 7 → 7 < T.toInt → x7.toInt = v7.toInt) (hv0 : v0.toInt ≤ v1.toInt) (hv1 : v1.toInt ≤ v2.toInt) (hv2 : v2.toInt ≤ v3.toInt) (hv3 : v3.toInt ≤ v4.toInt) (hv4 : v4.toInt ≤ v5.toInt) (hv5 : v5.toInt ≤ v6.toInt) (hv6 : v6.toInt ≤ v7.toInt) : own_so (own_c x0 x1 x2 x3 x4 x5 x6 x7) F T := by
  have A : ∀ k : Nat, F.toInt ≤ k → (k : Int) < T.toInt → (own_c x0 x1 x2 x3 x4 x5 x6 x7 k).toInt = (own_c v0 v1 v2 v3 v4 v5 v6 v7 k).toInt := by
    intro k a b
    have hk : k = 0 ∨ k = 1 ∨ k = 2 ∨ k = 3 ∨ k = 4 ∨ k = 5 ∨ k = 6 ∨ k = 7 := by clear hx0 hx1 hx2 hx3 hx4 hx5 hx6 hx7; omega
    rcases hk with rfl | rfl | rfl | rfl | rfl | rfl | rfl | rfl
    · exact hx0 a b
    · exact hx1 a b
    · exact hx2 a b
    · exact hx3 a b
    · exact hx4 a b
    · exact hx5 a b
    · exact hx6 a b
    · exact hx7 a b
  clear hx0 hx1 hx2 hx3 hx4 hx5 hx6 hx7
  have M : ∀ k : Nat, k < 7 → (own_c v0 v1 v2 v3 v4 v5 v6 v7 k).toInt ≤ (own_c v0 v1 v2 v3 v4 v5 v6 v7 (k + 1)).toInt := by
    intro k hk
    match k, hk with
    | 0, _ => exact hv0
    | 1, _ => exact hv1
    | 2, _ => exact hv2
    | 3, _ => exact hv3
    | 4, _ => exact hv4
    | 5, _ => exact hv5
    | 6, _ => exact hv6
  have M2 : ∀ (d i : Nat), i + d < 8 → (own_c v0 v1 v2 v3 v4 v5 v6 v7 i).toInt ≤ (own_c v0 v1 v2 v3 v4 v5 v6 v7 (i + d)).toInt := by
    intro d
    induction d with
    | zero => intro i _; exact Int.le_refl _
    | succ d ih => intro i h; exact Int.le_trans (ih i (by omega)) (M (i + d) (by omega))
  refine ⟨hF, hT, h8, fun i j a b c => ?_⟩
  have q1 := A i a (by omega)
  have q2 := A j (by omega) c
  have q3 := M2 (j - i) i (by omega)
  rw [show i + (j - i) = j by omega] at q3
  omega
theorem own_beli {F T V x r b i : Int32} {k : Nat} (hi : i.toInt = k) (h : f_bel i F T V x = b) (a1 : F.toInt ≤ r.toInt) (a2 : r.toInt ≤ T.toInt) (p1 : F.toInt ≤ (k : Int) → (k : Int) < r.toInt → x.toInt < V.toInt) (p2 : r.toInt ≤ (k : Int) → (k : Int) < T.toInt → V.toInt ≤ x.toInt) :
    b.toInt = if F.toInt ≤ (k : Int) ∧ (k : Int) < r.toInt then 1 else 0 := by
  subst h
  unfold f_bel
  simp only [Int32.lt_iff_toInt_lt, hi]
  have e1 : (1 : Int32).toInt = 1 := by decide
  have e0 : (0 : Int32).toInt = 0 := by decide
  repeat' split
  all_goals first | rfl | (exfalso; omega) | (rw [e0]; done) | (rw [e1]; done)
theorem own_addb {x b : Int32} (h1 : 0 ≤ x.toInt) (h2 : x.toInt ≤ 100) (hb : 0 ≤ b.toInt ∧ b.toInt ≤ 1) : (x + b).toInt = x.toInt + b.toInt := by
  have c := c_iadd x b
  have r := rng32 (x + b)
  omega
theorem own_key : ∀ f r : Fin 9, f ≤ r → ((f : Nat) : Int) + (if ((f : Nat) : Int) ≤ (0 : Int) ∧ (0 : Int) < ((r : Nat) : Int) then 1 else 0) + (if ((f : Nat) : Int) ≤ (1 : Int) ∧ (1 : Int) < ((r : Nat) : Int) then 1 else 0) + (if ((f : Nat) : Int) ≤ (2 : Int) ∧ (2 : Int) < ((r : Nat) : Int) then 1 else 0) + (if ((f : Nat) : Int) ≤ (3 : Int) ∧ (3 : Int) < ((r : Nat) : Int) then 1 else 0) + (if ((f : Nat) : Int) ≤ (4 : Int) ∧ (4 : Int) < ((r : Nat) : Int) then 1 else 0) + (if ((f : Nat) : Int) ≤ (5 : Int) ∧ (5 : Int) < ((r : Nat) : Int) then 1 else 0) + (if ((f : Nat) : Int) ≤ (6 : Int) ∧ (6 : Int) < ((r : Nat) : Int) then 1 else 0) + (if ((f : Nat) : Int) ≤ (7 : Int) ∧ (7 : Int) < ((r : Nat) : Int) then 1 else 0) = ((r : Nat) : Int) := by decide
theorem own_final {F T V r x0 x1 x2 x3 x4 x5 x6 x7 b0 b1 b2 b3 b4 b5 b6 b7 S : Int32} (h0 : 0 ≤ F.toInt) (h8 : T.toInt ≤ 8) (hr : own_fa (own_c x0 x1 x2 x3 x4 x5 x6 x7) F T V r) (hb0 : f_bel (0 : Int32) F T V x0 = b0) (hb1 : f_bel (1 : Int32) F T V x1 = b1) (hb2 : f_bel (2 : Int32) F T V x2 = b2) (hb3 : f_bel (3 : Int32) F T V x3 = b3) (hb4 : f_bel (4 : Int32) F T V x4 = b4) (hb5 : f_bel (5 : Int32) F T V x5 = b5) (hb6 : f_bel (6 : Int32) F T V x6 = b6) (hb7 : f_bel (7 : Int32) F T V x7 = b7) (hS : ((((((((F + b0) + b1) + b2) + b3) + b4) + b5) + b6) + b7) = S) : r = S := by
  obtain ⟨a1, a2, p1, p2⟩ := hr
  subst hS
  have g1 : F.toInt.toNat < 9 := by omega
  have g2 : r.toInt.toNat < 9 := by omega
  have g3 : 0 ≤ r.toInt := by omega
  have g4 : F.toInt.toNat ≤ r.toInt.toNat := by omega
  have g5 : r.toInt ≤ 8 := by omega
  have g6 : F.toInt ≤ 8 := by omega
  have K := own_key ⟨F.toInt.toNat, g1⟩ ⟨r.toInt.toNat, g2⟩ g4
  simp only [Int.toNat_of_nonneg h0, Int.toNat_of_nonneg g3] at K
  have B0 : b0.toInt = if F.toInt ≤ (0 : Int) ∧ (0 : Int) < r.toInt then 1 else 0 := own_beli (k := 0) (by decide) hb0 a1 a2 (fun q1 q2 => p1 0 q1 q2) (fun q1 q2 => p2 0 q1 q2)
  have B1 : b1.toInt = if F.toInt ≤ (1 : Int) ∧ (1 : Int) < r.toInt then 1 else 0 := own_beli (k := 1) (by decide) hb1 a1 a2 (fun q1 q2 => p1 1 q1 q2) (fun q1 q2 => p2 1 q1 q2)
  have B2 : b2.toInt = if F.toInt ≤ (2 : Int) ∧ (2 : Int) < r.toInt then 1 else 0 := own_beli (k := 2) (by decide) hb2 a1 a2 (fun q1 q2 => p1 2 q1 q2) (fun q1 q2 => p2 2 q1 q2)
  have B3 : b3.toInt = if F.toInt ≤ (3 : Int) ∧ (3 : Int) < r.toInt then 1 else 0 := own_beli (k := 3) (by decide) hb3 a1 a2 (fun q1 q2 => p1 3 q1 q2) (fun q1 q2 => p2 3 q1 q2)
  have B4 : b4.toInt = if F.toInt ≤ (4 : Int) ∧ (4 : Int) < r.toInt then 1 else 0 := own_beli (k := 4) (by decide) hb4 a1 a2 (fun q1 q2 => p1 4 q1 q2) (fun q1 q2 => p2 4 q1 q2)
  have B5 : b5.toInt = if F.toInt ≤ (5 : Int) ∧ (5 : Int) < r.toInt then 1 else 0 := own_beli (k := 5) (by decide) hb5 a1 a2 (fun q1 q2 => p1 5 q1 q2) (fun q1 q2 => p2 5 q1 q2)
  have B6 : b6.toInt = if F.toInt ≤ (6 : Int) ∧ (6 : Int) < r.toInt then 1 else 0 := own_beli (k := 6) (by decide) hb6 a1 a2 (fun q1 q2 => p1 6 q1 q2) (fun q1 q2 => p2 6 q1 q2)
  have B7 : b7.toInt = if F.toInt ≤ (7 : Int) ∧ (7 : Int) < r.toInt then 1 else 0 := own_beli (k := 7) (by decide) hb7 a1 a2 (fun q1 q2 => p1 7 q1 q2) (fun q1 q2 => p2 7 q1 q2)
  have c0 : 0 ≤ b0.toInt ∧ b0.toInt ≤ 1 := by rw [B0]; split <;> decide
  have c1 : 0 ≤ b1.toInt ∧ b1.toInt ≤ 1 := by rw [B1]; split <;> decide
  have c2 : 0 ≤ b2.toInt ∧ b2.toInt ≤ 1 := by rw [B2]; split <;> decide
  have c3 : 0 ≤ b3.toInt ∧ b3.toInt ≤ 1 := by rw [B3]; split <;> decide
  have c4 : 0 ≤ b4.toInt ∧ b4.toInt ≤ 1 := by rw [B4]; split <;> decide
  have c5 : 0 ≤ b5.toInt ∧ b5.toInt ≤ 1 := by rw [B5]; split <;> decide
  have c6 : 0 ≤ b6.toInt ∧ b6.toInt ≤ 1 := by rw [B6]; split <;> decide
  have c7 : 0 ≤ b7.toInt ∧ b7.toInt ≤ 1 := by rw [B7]; split <;> decide
  rw [← B0, ← B1, ← B2, ← B3, ← B4, ← B5, ← B6, ← B7] at K
  clear B0 hb0 B1 hb1 B2 hb2 B3 hb3 B4 hb4 B5 hb5 B6 hb6 B7 hb7 p1 p2
  have e0 := own_addb (x := F) (b := b0) (by omega) (by omega) c0
  have e1 := own_addb (x := (F + b0)) (b := b1) (by omega) (by omega) c1
  have e2 := own_addb (x := ((F + b0) + b1)) (b := b2) (by omega) (by omega) c2
  have e3 := own_addb (x := (((F + b0) + b1) + b2)) (b := b3) (by omega) (by omega) c3
  have e4 := own_addb (x := ((((F + b0) + b1) + b2) + b3)) (b := b4) (by omega) (by omega) c4
  have e5 := own_addb (x := (((((F + b0) + b1) + b2) + b3) + b4)) (b := b5) (by omega) (by omega) c5
  have e6 := own_addb (x := ((((((F + b0) + b1) + b2) + b3) + b4) + b5)) (b := b6) (by omega) (by omega) c6
  have e7 := own_addb (x := (((((((F + b0) + b1) + b2) + b3) + b4) + b5) + b6)) (b := b7) (by omega) (by omega) c7
  apply Int32.toInt_inj.mp
  omega
theorem own_ck0 {x0 x1 x2 x3 x4 x5 x6 x7 : Int32} : [(Value.int x0), (.int x1), (.int x2), (.int x3), (.int x4), (.int x5), (.int x6), (.int x7)][(0 : Int32).toNatClampNeg]? = some (.int x0) := by
  rw [show (0 : Int32).toNatClampNeg = 0 from by decide]
  rfl
theorem own_cj0 : ¬ (0 : Int32) < 0 := by decide
theorem own_ck1 {x0 x1 x2 x3 x4 x5 x6 x7 : Int32} : [(Value.int x0), (.int x1), (.int x2), (.int x3), (.int x4), (.int x5), (.int x6), (.int x7)][(1 : Int32).toNatClampNeg]? = some (.int x1) := by
  rw [show (1 : Int32).toNatClampNeg = 1 from by decide]
  rfl
theorem own_cj1 : ¬ (1 : Int32) < 0 := by decide
theorem own_ck2 {x0 x1 x2 x3 x4 x5 x6 x7 : Int32} : [(Value.int x0), (.int x1), (.int x2), (.int x3), (.int x4), (.int x5), (.int x6), (.int x7)][(2 : Int32).toNatClampNeg]? = some (.int x2) := by
  rw [show (2 : Int32).toNatClampNeg = 2 from by decide]
  rfl
theorem own_cj2 : ¬ (2 : Int32) < 0 := by decide
theorem own_ck3 {x0 x1 x2 x3 x4 x5 x6 x7 : Int32} : [(Value.int x0), (.int x1), (.int x2), (.int x3), (.int x4), (.int x5), (.int x6), (.int x7)][(3 : Int32).toNatClampNeg]? = some (.int x3) := by
  rw [show (3 : Int32).toNatClampNeg = 3 from by decide]
  rfl
theorem own_cj3 : ¬ (3 : Int32) < 0 := by decide
theorem own_ck4 {x0 x1 x2 x3 x4 x5 x6 x7 : Int32} : [(Value.int x0), (.int x1), (.int x2), (.int x3), (.int x4), (.int x5), (.int x6), (.int x7)][(4 : Int32).toNatClampNeg]? = some (.int x4) := by
  rw [show (4 : Int32).toNatClampNeg = 4 from by decide]
  rfl
theorem own_cj4 : ¬ (4 : Int32) < 0 := by decide
theorem own_ck5 {x0 x1 x2 x3 x4 x5 x6 x7 : Int32} : [(Value.int x0), (.int x1), (.int x2), (.int x3), (.int x4), (.int x5), (.int x6), (.int x7)][(5 : Int32).toNatClampNeg]? = some (.int x5) := by
  rw [show (5 : Int32).toNatClampNeg = 5 from by decide]
  rfl
theorem own_cj5 : ¬ (5 : Int32) < 0 := by decide
theorem own_ck6 {x0 x1 x2 x3 x4 x5 x6 x7 : Int32} : [(Value.int x0), (.int x1), (.int x2), (.int x3), (.int x4), (.int x5), (.int x6), (.int x7)][(6 : Int32).toNatClampNeg]? = some (.int x6) := by
  rw [show (6 : Int32).toNatClampNeg = 6 from by decide]
  rfl
theorem own_cj6 : ¬ (6 : Int32) < 0 := by decide
theorem own_ck7 {x0 x1 x2 x3 x4 x5 x6 x7 : Int32} : [(Value.int x0), (.int x1), (.int x2), (.int x3), (.int x4), (.int x5), (.int x6), (.int x7)][(7 : Int32).toNatClampNeg]? = some (.int x7) := by
  rw [show (7 : Int32).toNatClampNeg = 7 from by decide]
  rfl
theorem own_cj7 : ¬ (7 : Int32) < 0 := by decide
theorem own_HS {xa xb F T v0 v1 v2 v3 v4 v5 v6 v7 c0 c1 c2 c3 c4 c5 c6 c7 : Int32} {d : Int64} (hF : ((xa &&& (15 : Int32)) % (9 : Int32)) = F) (hT : (F + ((((xa.toUInt32 >>> ((4 : Int32) &&& 31).toUInt32).toInt32) &&& (15 : Int32)) % ((9 : Int32) - F))) = T) (h0 : (xb &&& (65535 : Int32)) = v0) (h1 : f_step v0 d (1 : Int32) = v1) (h2 : f_step v1 d (2 : Int32) = v2) (h3 : f_step v2 d (3 : Int32) = v3) (h4 : f_step v3 d (4 : Int32) = v4) (h5 : f_step v4 d (5 : Int32) = v5) (h6 : f_step v5 d (6 : Int32) = v6) (h7 : f_step v6 d (7 : Int32) = v7) (k0 : f_cell v0 (0 : Int32) F T = c0) (k1 : f_cell v1 (1 : Int32) F T = c1) (k2 : f_cell v2 (2 : Int32) F T = c2) (k3 : f_cell v3 (3 : Int32) F T = c3) (k4 : f_cell v4 (4 : Int32) F T = c4) (k5 : f_cell v5 (5 : Int32) F T = c5) (k6 : f_cell v6 (6 : Int32) F T = c6) (k7 : f_cell v7 (7 : Int32) F T = c7) : own_so (own_c (c0.toUInt32.toUInt16.toUInt32.toInt32) (c1.toUInt32.toUInt16.toUInt32.toInt32) (c2.toUInt32.toUInt16.toUInt32.toInt32) (c3.toUInt32.toUInt16.toUInt32.toInt32) (c4.toUInt32.toUInt16.toUInt32.toInt32) (c5.toUInt32.toUInt16.toUInt32.toInt32) (c6.toUInt32.toUInt16.toUInt32.toInt32) (c7.toUInt32.toUInt16.toUInt32.toInt32)) F T := by
  have B7 := own_fr hF
  have B24 := own_to hF hT
  have R0 : 0 ≤ v0.toInt ∧ v0.toInt ≤ 65535 := by rw [← h0]; have m := c_mask xb 65535 16 (by decide) (by decide); omega
  have R1 := own_step h1 (by omega) (by omega)
  have R2 := own_step h2 (by omega) (by omega)
  have R3 := own_step h3 (by omega) (by omega)
  have R4 := own_step h4 (by omega) (by omega)
  have R5 := own_step h5 (by omega) (by omega)
  have R6 := own_step h6 (by omega) (by omega)
  have R7 := own_step h7 (by omega) (by omega)
  exact own_sorted B7.1 B24.1 B24.2 (fun a b => own_cell k0 (by omega) (by omega) a b) (fun a b => own_cell k1 (by omega) (by omega) a b) (fun a b => own_cell k2 (by omega) (by omega) a b) (fun a b => own_cell k3 (by omega) (by omega) a b) (fun a b => own_cell k4 (by omega) (by omega) a b) (fun a b => own_cell k5 (by omega) (by omega) a b) (fun a b => own_cell k6 (by omega) (by omega) a b) (fun a b => own_cell k7 (by omega) (by omega) a b) R1.1 R2.1 R3.1 R4.1 R5.1 R6.1 R7.1
theorem kw4 {Z : State} {a0 : Array Value} (hw : ∀ d ∈ tables_1, d.before a0 Z = true) : (Jvm.Cond.code ({ cls := "com/example/tightbit/tightbit/GallopingSearchFirstAtLeastPinLaw", name := "step", desc := "(IJI)I" } : Jvm.MethodName) method_3_code (4 : Nat) (Option.some Jvm.ClassFile.FieldType.int)).before a0 Z = true := hw _ (List.mem_of_getElem? (i := 4) rfl)
theorem kw3 {Z : State} {a0 : Array Value} (hw : ∀ d ∈ tables_1, d.before a0 Z = true) : (Jvm.Cond.initialized "com/example/tightbit/tightbit/GallopingSearchFirstAtLeastPinLaw").before a0 Z = true := hw _ (List.mem_of_getElem? (i := 3) rfl)
theorem pd2 : parseMethodDescriptor "(IJI)I" = some ⟨[.int, .long, .int], some .int⟩ := by decide +kernel
theorem kw1 {Z : State} {a0 : Array Value} (hw : ∀ d ∈ tables_1, d.before a0 Z = true) : (Jvm.Cond.methodLink "com/example/tightbit/tightbit/GallopingSearchFirstAtLeastPinLaw" (8 : Nat) ({ cls := "com/example/tightbit/tightbit/GallopingSearchFirstAtLeastPinLaw", name := "step", desc := "(IJI)I" } : Jvm.MethodName)).before a0 Z = true := hw _ (List.mem_of_getElem? (i := 1) rfl)
theorem kw2 {Z : State} {a0 : Array Value} (hw : ∀ d ∈ tables_1, d.before a0 Z = true) : (Jvm.Cond.static ({ cls := "com/example/tightbit/tightbit/GallopingSearchFirstAtLeastPinLaw", name := "step", desc := "(IJI)I" } : Jvm.MethodName)).before a0 Z = true := hw _ (List.mem_of_getElem? (i := 2) rfl)
theorem kw10 {Z : State} {a0 : Array Value} (hw : ∀ d ∈ tables_1, d.before a0 Z = true) : (Jvm.Cond.arrayClass Jvm.ClassFile.FieldType.char).before a0 Z = true := hw _ (List.mem_of_getElem? (i := 10) rfl)
theorem kw13 {Z : State} {a0 : Array Value} (hw : ∀ d ∈ tables_1, d.before a0 Z = true) : (Jvm.Cond.code ({ cls := "com/example/tightbit/tightbit/GallopingSearchFirstAtLeastPinLaw", name := "cell", desc := "(IIII)C" } : Jvm.MethodName) method_4_code (4 : Nat) (Option.some Jvm.ClassFile.FieldType.char)).before a0 Z = true := hw _ (List.mem_of_getElem? (i := 13) rfl)
theorem pd3 : parseMethodDescriptor "(IIII)C" = some ⟨[.int, .int, .int, .int], some .char⟩ := by decide +kernel
theorem kw11 {Z : State} {a0 : Array Value} (hw : ∀ d ∈ tables_1, d.before a0 Z = true) : (Jvm.Cond.methodLink "com/example/tightbit/tightbit/GallopingSearchFirstAtLeastPinLaw" (14 : Nat) ({ cls := "com/example/tightbit/tightbit/GallopingSearchFirstAtLeastPinLaw", name := "cell", desc := "(IIII)C" } : Jvm.MethodName)).before a0 Z = true := hw _ (List.mem_of_getElem? (i := 11) rfl)
theorem kw12 {Z : State} {a0 : Array Value} (hw : ∀ d ∈ tables_1, d.before a0 Z = true) : (Jvm.Cond.static ({ cls := "com/example/tightbit/tightbit/GallopingSearchFirstAtLeastPinLaw", name := "cell", desc := "(IIII)C" } : Jvm.MethodName)).before a0 Z = true := hw _ (List.mem_of_getElem? (i := 12) rfl)
theorem kw16 {Z : State} {a0 : Array Value} (hw : ∀ d ∈ tables_1, d.before a0 Z = true) : (Jvm.Cond.code ({ cls := "com/example/tightbit/tightbit/GallopingSearchFirstAtLeastPinLaw", name := "below", desc := "([CIIII)I" } : Jvm.MethodName) method_5_code (5 : Nat) (Option.some Jvm.ClassFile.FieldType.int)).before a0 Z = true := hw _ (List.mem_of_getElem? (i := 16) rfl)
theorem pd4 : parseMethodDescriptor "([CIIII)I" = some ⟨[(.array .char), .int, .int, .int, .int], some .int⟩ := by decide +kernel
theorem kw14 {Z : State} {a0 : Array Value} (hw : ∀ d ∈ tables_1, d.before a0 Z = true) : (Jvm.Cond.methodLink "com/example/tightbit/tightbit/GallopingSearchFirstAtLeastPinLaw" (18 : Nat) ({ cls := "com/example/tightbit/tightbit/GallopingSearchFirstAtLeastPinLaw", name := "below", desc := "([CIIII)I" } : Jvm.MethodName)).before a0 Z = true := hw _ (List.mem_of_getElem? (i := 14) rfl)
theorem kw15 {Z : State} {a0 : Array Value} (hw : ∀ d ∈ tables_1, d.before a0 Z = true) : (Jvm.Cond.static ({ cls := "com/example/tightbit/tightbit/GallopingSearchFirstAtLeastPinLaw", name := "below", desc := "([CIIII)I" } : Jvm.MethodName)).before a0 Z = true := hw _ (List.mem_of_getElem? (i := 15) rfl)
theorem kw20 {Z : State} {a0 : Array Value} (hw : ∀ d ∈ tables_1, d.before a0 Z = true) : (Jvm.Cond.code ({ cls := "com/example/tightbit/tightbit/GallopingSearch", name := "firstAtLeast", desc := "([CIII)I" } : Jvm.MethodName) prog_26_method_2_code (7 : Nat) (Option.some Jvm.ClassFile.FieldType.int)).before a0 Z = true := hw _ (List.mem_of_getElem? (i := 20) rfl)
theorem kw19 {Z : State} {a0 : Array Value} (hw : ∀ d ∈ tables_1, d.before a0 Z = true) : (Jvm.Cond.initialized "com/example/tightbit/tightbit/GallopingSearch").before a0 Z = true := hw _ (List.mem_of_getElem? (i := 19) rfl)
theorem pd5 : parseMethodDescriptor "([CIII)I" = some ⟨[(.array .char), .int, .int, .int], some .int⟩ := by decide +kernel
theorem kw17 {Z : State} {a0 : Array Value} (hw : ∀ d ∈ tables_1, d.before a0 Z = true) : (Jvm.Cond.methodLink "com/example/tightbit/tightbit/GallopingSearchFirstAtLeastPinLaw" (22 : Nat) ({ cls := "com/example/tightbit/tightbit/GallopingSearch", name := "firstAtLeast", desc := "([CIII)I" } : Jvm.MethodName)).before a0 Z = true := hw _ (List.mem_of_getElem? (i := 17) rfl)
theorem kw18 {Z : State} {a0 : Array Value} (hw : ∀ d ∈ tables_1, d.before a0 Z = true) : (Jvm.Cond.static ({ cls := "com/example/tightbit/tightbit/GallopingSearch", name := "firstAtLeast", desc := "([CIII)I" } : Jvm.MethodName)).before a0 Z = true := hw _ (List.mem_of_getElem? (i := 18) rfl)
theorem ef_law (m : MethodId) (xlaw_1 : Int32) (ylaw_2 : Int64) (xlaw_3 : Int32) (xlaw_4 : Int32) (xlaw_5 : Int32) : entryFrame m #[(.int xlaw_1), (.long ylaw_2), (.int xlaw_3), (.int xlaw_4), (.int xlaw_5)] maxLocals = mkF m 0 #[.val (.int xlaw_1), .val (.long ylaw_2), .second, .val (.int xlaw_3), .val (.int xlaw_4), .val (.int xlaw_5), .unset, .unset, .unset, .unset, .unset, .unset, .unset, .unset, .unset, .unset, .unset, .unset, .unset, .unset, .unset, .unset] [] := by first | (simp [entryFrame, mkF, argsToLocals, Value.category, maxLocals]; done) | rfl
def Q_law (n0 : Nat) (v : Option Value) (h : Heap) (L : List Loc) : Prop := v = some (.int 1) ∧ Fr n0 L
set_option maxRecDepth 65536 in
set_option maxHeartbeats 40000000 in
theorem rm_law (l : Launch) (Z : State) (a0 : Array Value) (hw : ∀ d ∈ tables_1, d.before a0 Z = true) (ws : List Jvm.Cond) (xlaw_1 : Int32) (ylaw_2 : Int64) (xlaw_3 : Int32) (xlaw_4 : Int32) (xlaw_5 : Int32) (h0 : Heap) (n0 : Nat) (Z0 : n0 ≤ h0.size)  :
    MetFree l x (head1 (Jvm.Cond.code x code maxLocals ret :: ws) room_1) (fun a U => a = #[(.int xlaw_1), (.long ylaw_2), (.int xlaw_3), (.int xlaw_4), (.int xlaw_5)] ∧ Z.Warmed39 U.vm ∧ U.heap = h0) (fun _ _ _ _ _ => True) (fun _ U o U' => ∃ v L, o = .returned v ∧ (Q_law n0) v U'.heap L ∧ FrameEnd U o U' L 16 128) := by
  refine MetFree.of_bodySF (plainFor_of_name pn1) hisR ?_
  intro p e s m args below meth c s₁ Bd hml0 hP hK
  obtain ⟨rfl, hZ, hh⟩ := hP
  have hx := Bd.exec
  have hby := Bd.bytes
  have hml : c.maxLocals = 22 := hml0
  have hown : s.vm.findClass "com/example/tightbit/tightbit/GallopingSearchFirstAtLeastPinLaw" = some m.cls := findClass_of_methodNamed Bd.named
  have hnm := (name_of_methodNamed Bd.named Bd.method).1
  have X0 : Stand p l e room_1 s m #[(.int xlaw_1), (.long ylaw_2), (.int xlaw_3), (.int xlaw_4), (.int xlaw_5)] below meth c s₁ [] 0 0 := Stand.of_body Bd
  have e0 : s₁.heap = h0 := by rw [← hh, Bd.state]; rfl
  have N0 := Fr.nil n0
  refine Wq.step (p := p) (e := e) (below := below) (En := (fun o t L => FrameEnd s o t L 16 128)) (Q := (Q_law n0)) (fun t k => castTop (ef_law m xlaw_1 ylaw_2 xlaw_3 xlaw_4 xlaw_5) k) ?_
  show Wq _ _ _ _ _ (s₁.setTop (mkF m 0 #[.val (.int xlaw_1), .val (.long ylaw_2), .second, .val (.int xlaw_3), .val (.int xlaw_4), .val (.int xlaw_5), .unset, .unset, .unset, .unset, .unset, .unset, .unset, .unset, .unset, .unset, .unset, .unset, .unset, .unset, .unset, .unset] []))
  refine Ow.iloadN X0 hx (pc' := 1) (hb hby at_0) rfl ?_
  refine Ow.bipush X0 hx (pc' := 3) (hb hby at_1) (z := (15 : Int32)) rfl ?_
  refine Ow.iand X0 hx (pc' := 4) (hb hby at_3) (z := (xlaw_3 &&& (15 : Int32))) rfl ?_
  refine Ow.bipush X0 hx (pc' := 6) (hb hby at_4) (z := (9 : Int32)) rfl ?_
  refine Ow.irem X0 hx (pc' := 7) (hb hby at_6) (by decide : (9 : Int32) ≠ (0 : Int32)) (z := ((xlaw_3 &&& (15 : Int32)) % (9 : Int32))) rfl ?_
  refine Ow.istore X0 hx (pc' := 9) (hb hby at_7) (l' := #[.val (.int xlaw_1), .val (.long ylaw_2), .second, .val (.int xlaw_3), .val (.int xlaw_4), .val (.int xlaw_5), .val (.int ((xlaw_3 &&& (15 : Int32)) % (9 : Int32))), .unset, .unset, .unset, .unset, .unset, .unset, .unset, .unset, .unset, .unset, .unset, .unset, .unset, .unset, .unset]) rfl ?_
  generalize hv7 : ((xlaw_3 &&& (15 : Int32)) % (9 : Int32)) = v7
  refine Ow.iload X0 hx (pc' := 11) (hb hby at_9) rfl ?_
  refine Ow.iloadN X0 hx (pc' := 12) (hb hby at_11) rfl ?_
  refine Ow.iconst X0 hx (pc' := 13) (hb hby at_12) (z := (4 : Int32)) rfl ?_
  refine Ow.iushr X0 hx (pc' := 14) (hb hby at_13) (z := ((xlaw_3.toUInt32 >>> ((4 : Int32) &&& 31).toUInt32).toInt32)) rfl ?_
  refine Ow.bipush X0 hx (pc' := 16) (hb hby at_14) (z := (15 : Int32)) rfl ?_
  refine Ow.iand X0 hx (pc' := 17) (hb hby at_16) (z := (((xlaw_3.toUInt32 >>> ((4 : Int32) &&& 31).toUInt32).toInt32) &&& (15 : Int32))) rfl ?_
  refine Ow.bipush X0 hx (pc' := 19) (hb hby at_17) (z := (9 : Int32)) rfl ?_
  refine Ow.iload X0 hx (pc' := 21) (hb hby at_19) rfl ?_
  refine Ow.isub X0 hx (pc' := 22) (hb hby at_21) (z := ((9 : Int32) - v7)) rfl ?_
  refine Ow.irem X0 hx (pc' := 23) (hb hby at_22) (own_ne9 hv7 : ((9 : Int32) - v7) ≠ (0 : Int32)) (z := ((((xlaw_3.toUInt32 >>> ((4 : Int32) &&& 31).toUInt32).toInt32) &&& (15 : Int32)) % ((9 : Int32) - v7))) rfl ?_
  refine Ow.iadd X0 hx (pc' := 24) (hb hby at_23) (z := (v7 + ((((xlaw_3.toUInt32 >>> ((4 : Int32) &&& 31).toUInt32).toInt32) &&& (15 : Int32)) % ((9 : Int32) - v7)))) rfl ?_
  refine Ow.istore X0 hx (pc' := 26) (hb hby at_24) (l' := #[.val (.int xlaw_1), .val (.long ylaw_2), .second, .val (.int xlaw_3), .val (.int xlaw_4), .val (.int xlaw_5), .val (.int v7), .val (.int (v7 + ((((xlaw_3.toUInt32 >>> ((4 : Int32) &&& 31).toUInt32).toInt32) &&& (15 : Int32)) % ((9 : Int32) - v7)))), .unset, .unset, .unset, .unset, .unset, .unset, .unset, .unset, .unset, .unset, .unset, .unset, .unset, .unset]) rfl ?_
  generalize hv24 : (v7 + ((((xlaw_3.toUInt32 >>> ((4 : Int32) &&& 31).toUInt32).toInt32) &&& (15 : Int32)) % ((9 : Int32) - v7))) = v24
  refine Ow.iloadN X0 hx (pc' := 27) (hb hby at_26) rfl ?_
  refine Ow.ldcInt X0 hx hZ (pc' := 29) hown (kw0 hw) (hb hby at_27) ?_
  refine Ow.iand X0 hx (pc' := 30) (hb hby at_29) (z := (xlaw_1 &&& (65535 : Int32))) rfl ?_
  refine Ow.istore X0 hx (pc' := 32) (hb hby at_30) (l' := #[.val (.int xlaw_1), .val (.long ylaw_2), .second, .val (.int xlaw_3), .val (.int xlaw_4), .val (.int xlaw_5), .val (.int v7), .val (.int v24), .val (.int (xlaw_1 &&& (65535 : Int32))), .unset, .unset, .unset, .unset, .unset, .unset, .unset, .unset, .unset, .unset, .unset, .unset, .unset]) rfl ?_
  generalize hv30 : (xlaw_1 &&& (65535 : Int32)) = v30
  refine Ow.iload X0 hx (pc' := 34) (hb hby at_32) rfl ?_
  refine Ow.lloadN X0 hx (pc' := 35) (hb hby at_34) rfl ?_
  refine Ow.iconst X0 hx (pc' := 36) (hb hby at_35) (z := (1 : Int32)) rfl ?_
  obtain ⟨_, _, ⟨T2, L2, k2, n2⟩, -, X2, ⟨Lc2, hQ2, l2, y2, z2⟩, st2⟩ := Jvm.LawKit.callS X0 hx (y := mt2) hown (mvT hZ (kw1 hw)) (mvT hZ (kw2 hw)) (mvT hZ (kw3 hw)) (mvT hZ (kw4 hw)) (by decide) (backOf (W := 0) (rm_step l Z a0 hw [] v30 ylaw_2 (1 : Int32) h0 n0 Z0 ) hZ (kw4 hw) (kw3 hw) (by decide) (by decide)) (g := (mkF m 36 #[.val (.int xlaw_1), .val (.long ylaw_2), .second, .val (.int xlaw_3), .val (.int xlaw_4), .val (.int xlaw_5), .val (.int v7), .val (.int v24), .val (.int v30), .unset, .unset, .unset, .unset, .unset, .unset, .unset, .unset, .unset, .unset, .unset, .unset, .unset] [(.int (1 : Int32)), (.long ylaw_2), (.int v30)])) rfl (by rw [hml]; rfl) (argsL := [(.int v30), (.long ylaw_2), (.int (1 : Int32))]) (rest := []) (lenOf pd2 rfl) rfl (by show 2 * 0 + _ ≤ _; exact Nat.le_of_eq rfl) (hb hby at_36) (fun _ _ => ⟨rfl, e0, (by decide : 0 + 0 ≤ _), (by decide : 0 + 0 ≤ _)⟩)
  dsimp only [Pt.U, Pt.locs, Pt.cells, Pt.slots] at X2 l2 y2 z2 st2 hQ2
  rw [y2, z2] at X2
  obtain ⟨rfl, Nq2, e2⟩ := hQ2
  have N2 : Fr n0 L2 := by rw [l2]; exact Fr.app N0 Nq2
  refine Wq.step st2 ?_
  show Wq _ _ _ _ _ (T2.setTop (mkF m 39 #[.val (.int xlaw_1), .val (.long ylaw_2), .second, .val (.int xlaw_3), .val (.int xlaw_4), .val (.int xlaw_5), .val (.int v7), .val (.int v24), .val (.int v30), .unset, .unset, .unset, .unset, .unset, .unset, .unset, .unset, .unset, .unset, .unset, .unset, .unset] [(.int (f_step v30 ylaw_2 (1 : Int32)))]))
  generalize hv36 : (f_step v30 ylaw_2 (1 : Int32)) = v36
  show Wq _ _ _ _ _ (T2.setTop (mkF m 39 #[.val (.int xlaw_1), .val (.long ylaw_2), .second, .val (.int xlaw_3), .val (.int xlaw_4), .val (.int xlaw_5), .val (.int v7), .val (.int v24), .val (.int v30), .unset, .unset, .unset, .unset, .unset, .unset, .unset, .unset, .unset, .unset, .unset, .unset, .unset] [(.int v36)]))
  refine Ow.istore X2 hx (pc' := 41) (hb hby at_39) (l' := #[.val (.int xlaw_1), .val (.long ylaw_2), .second, .val (.int xlaw_3), .val (.int xlaw_4), .val (.int xlaw_5), .val (.int v7), .val (.int v24), .val (.int v30), .val (.int v36), .unset, .unset, .unset, .unset, .unset, .unset, .unset, .unset, .unset, .unset, .unset, .unset]) rfl ?_
  refine Ow.iload X2 hx (pc' := 43) (hb hby at_41) rfl ?_
  refine Ow.lloadN X2 hx (pc' := 44) (hb hby at_43) rfl ?_
  refine Ow.iconst X2 hx (pc' := 45) (hb hby at_44) (z := (2 : Int32)) rfl ?_
  obtain ⟨_, _, ⟨T3, L3, k3, n3⟩, -, X3, ⟨Lc3, hQ3, l3, y3, z3⟩, st3⟩ := Jvm.LawKit.callS X2 hx (y := mt2) hown (mvT hZ (kw1 hw)) (mvT hZ (kw2 hw)) (mvT hZ (kw3 hw)) (mvT hZ (kw4 hw)) (by decide) (backOf (W := 0) (rm_step l Z a0 hw [] v36 ylaw_2 (2 : Int32) h0 n0 Z0 ) hZ (kw4 hw) (kw3 hw) (by decide) (by decide)) (g := (mkF m 45 #[.val (.int xlaw_1), .val (.long ylaw_2), .second, .val (.int xlaw_3), .val (.int xlaw_4), .val (.int xlaw_5), .val (.int v7), .val (.int v24), .val (.int v30), .val (.int v36), .unset, .unset, .unset, .unset, .unset, .unset, .unset, .unset, .unset, .unset, .unset, .unset] [(.int (2 : Int32)), (.long ylaw_2), (.int v36)])) rfl (by rw [hml]; rfl) (argsL := [(.int v36), (.long ylaw_2), (.int (2 : Int32))]) (rest := []) (lenOf pd2 rfl) rfl (by show 2 * 0 + _ ≤ _; exact Nat.le_of_eq rfl) (hb hby at_45) (fun _ _ => ⟨rfl, e2, (by decide : 0 + 0 ≤ _), (by decide : 0 + 0 ≤ _)⟩)
  dsimp only [Pt.U, Pt.locs, Pt.cells, Pt.slots] at X3 l3 y3 z3 st3 hQ3
  rw [y3, z3] at X3
  obtain ⟨rfl, Nq3, e3⟩ := hQ3
  have N3 : Fr n0 L3 := by rw [l3]; exact Fr.app N2 Nq3
  refine Wq.step st3 ?_
  show Wq _ _ _ _ _ (T3.setTop (mkF m 48 #[.val (.int xlaw_1), .val (.long ylaw_2), .second, .val (.int xlaw_3), .val (.int xlaw_4), .val (.int xlaw_5), .val (.int v7), .val (.int v24), .val (.int v30), .val (.int v36), .unset, .unset, .unset, .unset, .unset, .unset, .unset, .unset, .unset, .unset, .unset, .unset] [(.int (f_step v36 ylaw_2 (2 : Int32)))]))
  generalize hv45 : (f_step v36 ylaw_2 (2 : Int32)) = v45
  show Wq _ _ _ _ _ (T3.setTop (mkF m 48 #[.val (.int xlaw_1), .val (.long ylaw_2), .second, .val (.int xlaw_3), .val (.int xlaw_4), .val (.int xlaw_5), .val (.int v7), .val (.int v24), .val (.int v30), .val (.int v36), .unset, .unset, .unset, .unset, .unset, .unset, .unset, .unset, .unset, .unset, .unset, .unset] [(.int v45)]))
  refine Ow.istore X3 hx (pc' := 50) (hb hby at_48) (l' := #[.val (.int xlaw_1), .val (.long ylaw_2), .second, .val (.int xlaw_3), .val (.int xlaw_4), .val (.int xlaw_5), .val (.int v7), .val (.int v24), .val (.int v30), .val (.int v36), .val (.int v45), .unset, .unset, .unset, .unset, .unset, .unset, .unset, .unset, .unset, .unset, .unset]) rfl ?_
  refine Ow.iload X3 hx (pc' := 52) (hb hby at_50) rfl ?_
  refine Ow.lloadN X3 hx (pc' := 53) (hb hby at_52) rfl ?_
  refine Ow.iconst X3 hx (pc' := 54) (hb hby at_53) (z := (3 : Int32)) rfl ?_
  obtain ⟨_, _, ⟨T4, L4, k4, n4⟩, -, X4, ⟨Lc4, hQ4, l4, y4, z4⟩, st4⟩ := Jvm.LawKit.callS X3 hx (y := mt2) hown (mvT hZ (kw1 hw)) (mvT hZ (kw2 hw)) (mvT hZ (kw3 hw)) (mvT hZ (kw4 hw)) (by decide) (backOf (W := 0) (rm_step l Z a0 hw [] v45 ylaw_2 (3 : Int32) h0 n0 Z0 ) hZ (kw4 hw) (kw3 hw) (by decide) (by decide)) (g := (mkF m 54 #[.val (.int xlaw_1), .val (.long ylaw_2), .second, .val (.int xlaw_3), .val (.int xlaw_4), .val (.int xlaw_5), .val (.int v7), .val (.int v24), .val (.int v30), .val (.int v36), .val (.int v45), .unset, .unset, .unset, .unset, .unset, .unset, .unset, .unset, .unset, .unset, .unset] [(.int (3 : Int32)), (.long ylaw_2), (.int v45)])) rfl (by rw [hml]; rfl) (argsL := [(.int v45), (.long ylaw_2), (.int (3 : Int32))]) (rest := []) (lenOf pd2 rfl) rfl (by show 2 * 0 + _ ≤ _; exact Nat.le_of_eq rfl) (hb hby at_54) (fun _ _ => ⟨rfl, e3, (by decide : 0 + 0 ≤ _), (by decide : 0 + 0 ≤ _)⟩)
  dsimp only [Pt.U, Pt.locs, Pt.cells, Pt.slots] at X4 l4 y4 z4 st4 hQ4
  rw [y4, z4] at X4
  obtain ⟨rfl, Nq4, e4⟩ := hQ4
  have N4 : Fr n0 L4 := by rw [l4]; exact Fr.app N3 Nq4
  refine Wq.step st4 ?_
  show Wq _ _ _ _ _ (T4.setTop (mkF m 57 #[.val (.int xlaw_1), .val (.long ylaw_2), .second, .val (.int xlaw_3), .val (.int xlaw_4), .val (.int xlaw_5), .val (.int v7), .val (.int v24), .val (.int v30), .val (.int v36), .val (.int v45), .unset, .unset, .unset, .unset, .unset, .unset, .unset, .unset, .unset, .unset, .unset] [(.int (f_step v45 ylaw_2 (3 : Int32)))]))
  generalize hv54 : (f_step v45 ylaw_2 (3 : Int32)) = v54
  show Wq _ _ _ _ _ (T4.setTop (mkF m 57 #[.val (.int xlaw_1), .val (.long ylaw_2), .second, .val (.int xlaw_3), .val (.int xlaw_4), .val (.int xlaw_5), .val (.int v7), .val (.int v24), .val (.int v30), .val (.int v36), .val (.int v45), .unset, .unset, .unset, .unset, .unset, .unset, .unset, .unset, .unset, .unset, .unset] [(.int v54)]))
  refine Ow.istore X4 hx (pc' := 59) (hb hby at_57) (l' := #[.val (.int xlaw_1), .val (.long ylaw_2), .second, .val (.int xlaw_3), .val (.int xlaw_4), .val (.int xlaw_5), .val (.int v7), .val (.int v24), .val (.int v30), .val (.int v36), .val (.int v45), .val (.int v54), .unset, .unset, .unset, .unset, .unset, .unset, .unset, .unset, .unset, .unset]) rfl ?_
  refine Ow.iload X4 hx (pc' := 61) (hb hby at_59) rfl ?_
  refine Ow.lloadN X4 hx (pc' := 62) (hb hby at_61) rfl ?_
  refine Ow.iconst X4 hx (pc' := 63) (hb hby at_62) (z := (4 : Int32)) rfl ?_
  obtain ⟨_, _, ⟨T5, L5, k5, n5⟩, -, X5, ⟨Lc5, hQ5, l5, y5, z5⟩, st5⟩ := Jvm.LawKit.callS X4 hx (y := mt2) hown (mvT hZ (kw1 hw)) (mvT hZ (kw2 hw)) (mvT hZ (kw3 hw)) (mvT hZ (kw4 hw)) (by decide) (backOf (W := 0) (rm_step l Z a0 hw [] v54 ylaw_2 (4 : Int32) h0 n0 Z0 ) hZ (kw4 hw) (kw3 hw) (by decide) (by decide)) (g := (mkF m 63 #[.val (.int xlaw_1), .val (.long ylaw_2), .second, .val (.int xlaw_3), .val (.int xlaw_4), .val (.int xlaw_5), .val (.int v7), .val (.int v24), .val (.int v30), .val (.int v36), .val (.int v45), .val (.int v54), .unset, .unset, .unset, .unset, .unset, .unset, .unset, .unset, .unset, .unset] [(.int (4 : Int32)), (.long ylaw_2), (.int v54)])) rfl (by rw [hml]; rfl) (argsL := [(.int v54), (.long ylaw_2), (.int (4 : Int32))]) (rest := []) (lenOf pd2 rfl) rfl (by show 2 * 0 + _ ≤ _; exact Nat.le_of_eq rfl) (hb hby at_63) (fun _ _ => ⟨rfl, e4, (by decide : 0 + 0 ≤ _), (by decide : 0 + 0 ≤ _)⟩)
  dsimp only [Pt.U, Pt.locs, Pt.cells, Pt.slots] at X5 l5 y5 z5 st5 hQ5
  rw [y5, z5] at X5
  obtain ⟨rfl, Nq5, e5⟩ := hQ5
  have N5 : Fr n0 L5 := by rw [l5]; exact Fr.app N4 Nq5
  refine Wq.step st5 ?_
  show Wq _ _ _ _ _ (T5.setTop (mkF m 66 #[.val (.int xlaw_1), .val (.long ylaw_2), .second, .val (.int xlaw_3), .val (.int xlaw_4), .val (.int xlaw_5), .val (.int v7), .val (.int v24), .val (.int v30), .val (.int v36), .val (.int v45), .val (.int v54), .unset, .unset, .unset, .unset, .unset, .unset, .unset, .unset, .unset, .unset] [(.int (f_step v54 ylaw_2 (4 : Int32)))]))
  generalize hv63 : (f_step v54 ylaw_2 (4 : Int32)) = v63
  show Wq _ _ _ _ _ (T5.setTop (mkF m 66 #[.val (.int xlaw_1), .val (.long ylaw_2), .second, .val (.int xlaw_3), .val (.int xlaw_4), .val (.int xlaw_5), .val (.int v7), .val (.int v24), .val (.int v30), .val (.int v36), .val (.int v45), .val (.int v54), .unset, .unset, .unset, .unset, .unset, .unset, .unset, .unset, .unset, .unset] [(.int v63)]))
  refine Ow.istore X5 hx (pc' := 68) (hb hby at_66) (l' := #[.val (.int xlaw_1), .val (.long ylaw_2), .second, .val (.int xlaw_3), .val (.int xlaw_4), .val (.int xlaw_5), .val (.int v7), .val (.int v24), .val (.int v30), .val (.int v36), .val (.int v45), .val (.int v54), .val (.int v63), .unset, .unset, .unset, .unset, .unset, .unset, .unset, .unset, .unset]) rfl ?_
  refine Ow.iload X5 hx (pc' := 70) (hb hby at_68) rfl ?_
  refine Ow.lloadN X5 hx (pc' := 71) (hb hby at_70) rfl ?_
  refine Ow.iconst X5 hx (pc' := 72) (hb hby at_71) (z := (5 : Int32)) rfl ?_
  obtain ⟨_, _, ⟨T6, L6, k6, n6⟩, -, X6, ⟨Lc6, hQ6, l6, y6, z6⟩, st6⟩ := Jvm.LawKit.callS X5 hx (y := mt2) hown (mvT hZ (kw1 hw)) (mvT hZ (kw2 hw)) (mvT hZ (kw3 hw)) (mvT hZ (kw4 hw)) (by decide) (backOf (W := 0) (rm_step l Z a0 hw [] v63 ylaw_2 (5 : Int32) h0 n0 Z0 ) hZ (kw4 hw) (kw3 hw) (by decide) (by decide)) (g := (mkF m 72 #[.val (.int xlaw_1), .val (.long ylaw_2), .second, .val (.int xlaw_3), .val (.int xlaw_4), .val (.int xlaw_5), .val (.int v7), .val (.int v24), .val (.int v30), .val (.int v36), .val (.int v45), .val (.int v54), .val (.int v63), .unset, .unset, .unset, .unset, .unset, .unset, .unset, .unset, .unset] [(.int (5 : Int32)), (.long ylaw_2), (.int v63)])) rfl (by rw [hml]; rfl) (argsL := [(.int v63), (.long ylaw_2), (.int (5 : Int32))]) (rest := []) (lenOf pd2 rfl) rfl (by show 2 * 0 + _ ≤ _; exact Nat.le_of_eq rfl) (hb hby at_72) (fun _ _ => ⟨rfl, e5, (by decide : 0 + 0 ≤ _), (by decide : 0 + 0 ≤ _)⟩)
  dsimp only [Pt.U, Pt.locs, Pt.cells, Pt.slots] at X6 l6 y6 z6 st6 hQ6
  rw [y6, z6] at X6
  obtain ⟨rfl, Nq6, e6⟩ := hQ6
  have N6 : Fr n0 L6 := by rw [l6]; exact Fr.app N5 Nq6
  refine Wq.step st6 ?_
  show Wq _ _ _ _ _ (T6.setTop (mkF m 75 #[.val (.int xlaw_1), .val (.long ylaw_2), .second, .val (.int xlaw_3), .val (.int xlaw_4), .val (.int xlaw_5), .val (.int v7), .val (.int v24), .val (.int v30), .val (.int v36), .val (.int v45), .val (.int v54), .val (.int v63), .unset, .unset, .unset, .unset, .unset, .unset, .unset, .unset, .unset] [(.int (f_step v63 ylaw_2 (5 : Int32)))]))
  generalize hv72 : (f_step v63 ylaw_2 (5 : Int32)) = v72
  show Wq _ _ _ _ _ (T6.setTop (mkF m 75 #[.val (.int xlaw_1), .val (.long ylaw_2), .second, .val (.int xlaw_3), .val (.int xlaw_4), .val (.int xlaw_5), .val (.int v7), .val (.int v24), .val (.int v30), .val (.int v36), .val (.int v45), .val (.int v54), .val (.int v63), .unset, .unset, .unset, .unset, .unset, .unset, .unset, .unset, .unset] [(.int v72)]))
  refine Ow.istore X6 hx (pc' := 77) (hb hby at_75) (l' := #[.val (.int xlaw_1), .val (.long ylaw_2), .second, .val (.int xlaw_3), .val (.int xlaw_4), .val (.int xlaw_5), .val (.int v7), .val (.int v24), .val (.int v30), .val (.int v36), .val (.int v45), .val (.int v54), .val (.int v63), .val (.int v72), .unset, .unset, .unset, .unset, .unset, .unset, .unset, .unset]) rfl ?_
  refine Ow.iload X6 hx (pc' := 79) (hb hby at_77) rfl ?_
  refine Ow.lloadN X6 hx (pc' := 80) (hb hby at_79) rfl ?_
  refine Ow.bipush X6 hx (pc' := 82) (hb hby at_80) (z := (6 : Int32)) rfl ?_
  obtain ⟨_, _, ⟨T7, L7, k7, n7⟩, -, X7, ⟨Lc7, hQ7, l7, y7, z7⟩, st7⟩ := Jvm.LawKit.callS X6 hx (y := mt2) hown (mvT hZ (kw1 hw)) (mvT hZ (kw2 hw)) (mvT hZ (kw3 hw)) (mvT hZ (kw4 hw)) (by decide) (backOf (W := 0) (rm_step l Z a0 hw [] v72 ylaw_2 (6 : Int32) h0 n0 Z0 ) hZ (kw4 hw) (kw3 hw) (by decide) (by decide)) (g := (mkF m 82 #[.val (.int xlaw_1), .val (.long ylaw_2), .second, .val (.int xlaw_3), .val (.int xlaw_4), .val (.int xlaw_5), .val (.int v7), .val (.int v24), .val (.int v30), .val (.int v36), .val (.int v45), .val (.int v54), .val (.int v63), .val (.int v72), .unset, .unset, .unset, .unset, .unset, .unset, .unset, .unset] [(.int (6 : Int32)), (.long ylaw_2), (.int v72)])) rfl (by rw [hml]; rfl) (argsL := [(.int v72), (.long ylaw_2), (.int (6 : Int32))]) (rest := []) (lenOf pd2 rfl) rfl (by show 2 * 0 + _ ≤ _; exact Nat.le_of_eq rfl) (hb hby at_82) (fun _ _ => ⟨rfl, e6, (by decide : 0 + 0 ≤ _), (by decide : 0 + 0 ≤ _)⟩)
  dsimp only [Pt.U, Pt.locs, Pt.cells, Pt.slots] at X7 l7 y7 z7 st7 hQ7
  rw [y7, z7] at X7
  obtain ⟨rfl, Nq7, e7⟩ := hQ7
  have N7 : Fr n0 L7 := by rw [l7]; exact Fr.app N6 Nq7
  refine Wq.step st7 ?_
  show Wq _ _ _ _ _ (T7.setTop (mkF m 85 #[.val (.int xlaw_1), .val (.long ylaw_2), .second, .val (.int xlaw_3), .val (.int xlaw_4), .val (.int xlaw_5), .val (.int v7), .val (.int v24), .val (.int v30), .val (.int v36), .val (.int v45), .val (.int v54), .val (.int v63), .val (.int v72), .unset, .unset, .unset, .unset, .unset, .unset, .unset, .unset] [(.int (f_step v72 ylaw_2 (6 : Int32)))]))
  generalize hv82 : (f_step v72 ylaw_2 (6 : Int32)) = v82
  show Wq _ _ _ _ _ (T7.setTop (mkF m 85 #[.val (.int xlaw_1), .val (.long ylaw_2), .second, .val (.int xlaw_3), .val (.int xlaw_4), .val (.int xlaw_5), .val (.int v7), .val (.int v24), .val (.int v30), .val (.int v36), .val (.int v45), .val (.int v54), .val (.int v63), .val (.int v72), .unset, .unset, .unset, .unset, .unset, .unset, .unset, .unset] [(.int v82)]))
  refine Ow.istore X7 hx (pc' := 87) (hb hby at_85) (l' := #[.val (.int xlaw_1), .val (.long ylaw_2), .second, .val (.int xlaw_3), .val (.int xlaw_4), .val (.int xlaw_5), .val (.int v7), .val (.int v24), .val (.int v30), .val (.int v36), .val (.int v45), .val (.int v54), .val (.int v63), .val (.int v72), .val (.int v82), .unset, .unset, .unset, .unset, .unset, .unset, .unset]) rfl ?_
  refine Ow.iload X7 hx (pc' := 89) (hb hby at_87) rfl ?_
  refine Ow.lloadN X7 hx (pc' := 90) (hb hby at_89) rfl ?_
  refine Ow.bipush X7 hx (pc' := 92) (hb hby at_90) (z := (7 : Int32)) rfl ?_
  obtain ⟨_, _, ⟨T8, L8, k8, n8⟩, -, X8, ⟨Lc8, hQ8, l8, y8, z8⟩, st8⟩ := Jvm.LawKit.callS X7 hx (y := mt2) hown (mvT hZ (kw1 hw)) (mvT hZ (kw2 hw)) (mvT hZ (kw3 hw)) (mvT hZ (kw4 hw)) (by decide) (backOf (W := 0) (rm_step l Z a0 hw [] v82 ylaw_2 (7 : Int32) h0 n0 Z0 ) hZ (kw4 hw) (kw3 hw) (by decide) (by decide)) (g := (mkF m 92 #[.val (.int xlaw_1), .val (.long ylaw_2), .second, .val (.int xlaw_3), .val (.int xlaw_4), .val (.int xlaw_5), .val (.int v7), .val (.int v24), .val (.int v30), .val (.int v36), .val (.int v45), .val (.int v54), .val (.int v63), .val (.int v72), .val (.int v82), .unset, .unset, .unset, .unset, .unset, .unset, .unset] [(.int (7 : Int32)), (.long ylaw_2), (.int v82)])) rfl (by rw [hml]; rfl) (argsL := [(.int v82), (.long ylaw_2), (.int (7 : Int32))]) (rest := []) (lenOf pd2 rfl) rfl (by show 2 * 0 + _ ≤ _; exact Nat.le_of_eq rfl) (hb hby at_92) (fun _ _ => ⟨rfl, e7, (by decide : 0 + 0 ≤ _), (by decide : 0 + 0 ≤ _)⟩)
  dsimp only [Pt.U, Pt.locs, Pt.cells, Pt.slots] at X8 l8 y8 z8 st8 hQ8
  rw [y8, z8] at X8
  obtain ⟨rfl, Nq8, e8⟩ := hQ8
  have N8 : Fr n0 L8 := by rw [l8]; exact Fr.app N7 Nq8
  refine Wq.step st8 ?_
  show Wq _ _ _ _ _ (T8.setTop (mkF m 95 #[.val (.int xlaw_1), .val (.long ylaw_2), .second, .val (.int xlaw_3), .val (.int xlaw_4), .val (.int xlaw_5), .val (.int v7), .val (.int v24), .val (.int v30), .val (.int v36), .val (.int v45), .val (.int v54), .val (.int v63), .val (.int v72), .val (.int v82), .unset, .unset, .unset, .unset, .unset, .unset, .unset] [(.int (f_step v82 ylaw_2 (7 : Int32)))]))
  generalize hv92 : (f_step v82 ylaw_2 (7 : Int32)) = v92
  show Wq _ _ _ _ _ (T8.setTop (mkF m 95 #[.val (.int xlaw_1), .val (.long ylaw_2), .second, .val (.int xlaw_3), .val (.int xlaw_4), .val (.int xlaw_5), .val (.int v7), .val (.int v24), .val (.int v30), .val (.int v36), .val (.int v45), .val (.int v54), .val (.int v63), .val (.int v72), .val (.int v82), .unset, .unset, .unset, .unset, .unset, .unset, .unset] [(.int v92)]))
  refine Ow.istore X8 hx (pc' := 97) (hb hby at_95) (l' := #[.val (.int xlaw_1), .val (.long ylaw_2), .second, .val (.int xlaw_3), .val (.int xlaw_4), .val (.int xlaw_5), .val (.int v7), .val (.int v24), .val (.int v30), .val (.int v36), .val (.int v45), .val (.int v54), .val (.int v63), .val (.int v72), .val (.int v82), .val (.int v92), .unset, .unset, .unset, .unset, .unset, .unset]) rfl ?_
  refine Ow.bipush X8 hx (pc' := 99) (hb hby at_97) (z := (8 : Int32)) rfl ?_
  obtain ⟨T9, h9, k9, X9, e9, E9, A9, st9⟩ := newP X8 hx hZ (aty := .char) (kw10 hw) e8 (g := (mkF m 99 #[.val (.int xlaw_1), .val (.long ylaw_2), .second, .val (.int xlaw_3), .val (.int xlaw_4), .val (.int xlaw_5), .val (.int v7), .val (.int v24), .val (.int v30), .val (.int v36), .val (.int v45), .val (.int v54), .val (.int v63), .val (.int v72), .val (.int v82), .val (.int v92), .unset, .unset, .unset, .unset, .unset, .unset] [(.int (8 : Int32))])) rfl (hb hby at_99) rfl (by decide) (cap := 8) (by decide) (by decide) (by decide) (by decide)
  obtain ⟨b9, gz9⟩ : ∃ z, z = h0.size := ⟨_, rfl⟩
  rw [← gz9] at A9 st9
  have g_b9 : n0 ≤ b9 := Nat.le_trans Z0 (Nat.le_of_eq gz9.symm)
  have sz_b9 : h0.size ≤ b9 := Nat.le_of_eq gz9.symm
  have K9 : Keep h0 h9 [] := (Keep.refl h0 []).ext E9
  have Z9 : n0 ≤ h9.size := Nat.le_trans Z0 E9.1
  have V_b9 : Al Z h9 b9 .char [(.int (0 : Int32)), (.int (0 : Int32)), (.int (0 : Int32)), (.int (0 : Int32)), (.int (0 : Int32)), (.int (0 : Int32)), (.int (0 : Int32)), (.int (0 : Int32))] := Al.new A9 (k := 8) (rfl) rfl
  refine Wq.step st9 ?_
  show Wq _ _ _ _ _ (T9.setTop (mkF m 101 #[.val (.int xlaw_1), .val (.long ylaw_2), .second, .val (.int xlaw_3), .val (.int xlaw_4), .val (.int xlaw_5), .val (.int v7), .val (.int v24), .val (.int v30), .val (.int v36), .val (.int v45), .val (.int v54), .val (.int v63), .val (.int v72), .val (.int v82), .val (.int v92), .unset, .unset, .unset, .unset, .unset, .unset] [(.ref b9)]))
  refine Ow.astore X9 hx (pc' := 103) (hb hby at_101) rfl (l' := #[.val (.int xlaw_1), .val (.long ylaw_2), .second, .val (.int xlaw_3), .val (.int xlaw_4), .val (.int xlaw_5), .val (.int v7), .val (.int v24), .val (.int v30), .val (.int v36), .val (.int v45), .val (.int v54), .val (.int v63), .val (.int v72), .val (.int v82), .val (.int v92), .val (.ref b9), .unset, .unset, .unset, .unset, .unset]) rfl ?_
  refine Ow.aload X9 hx (pc' := 105) (hb hby at_103) rfl rfl ?_
  refine Ow.iconst X9 hx (pc' := 106) (hb hby at_105) (z := (0 : Int32)) rfl ?_
  refine Ow.iload X9 hx (pc' := 108) (hb hby at_106) rfl ?_
  refine Ow.iconst X9 hx (pc' := 109) (hb hby at_108) (z := (0 : Int32)) rfl ?_
  refine Ow.iload X9 hx (pc' := 111) (hb hby at_109) rfl ?_
  refine Ow.iload X9 hx (pc' := 113) (hb hby at_111) rfl ?_
  obtain ⟨_, _, ⟨T10, L10, k10, n10⟩, -, X10, ⟨Lc10, hQ10, l10, y10, z10⟩, st10⟩ := Jvm.LawKit.callS X9 hx (y := mt3) hown (mvT hZ (kw11 hw)) (mvT hZ (kw12 hw)) (mvT hZ (kw3 hw)) (mvT hZ (kw13 hw)) (by decide) (backOf (W := 2) (rm_cell l Z a0 hw [] v30 (0 : Int32) v7 v24 h9 n0 Z9 ) hZ (kw13 hw) (kw3 hw) (by decide) (by decide)) (g := (mkF m 113 #[.val (.int xlaw_1), .val (.long ylaw_2), .second, .val (.int xlaw_3), .val (.int xlaw_4), .val (.int xlaw_5), .val (.int v7), .val (.int v24), .val (.int v30), .val (.int v36), .val (.int v45), .val (.int v54), .val (.int v63), .val (.int v72), .val (.int v82), .val (.int v92), .val (.ref b9), .unset, .unset, .unset, .unset, .unset] [(.int v24), (.int v7), (.int (0 : Int32)), (.int v30), (.int (0 : Int32)), (.ref b9)])) rfl (by rw [hml]; rfl) (argsL := [(.int v30), (.int (0 : Int32)), (.int v7), (.int v24)]) (rest := [(.int (0 : Int32)), (.ref b9)]) (lenOf pd3 rfl) rfl (by show 2 * 0 + _ ≤ _; exact Nat.le_of_eq rfl) (hb hby at_113) (fun _ _ => ⟨rfl, e9, (by decide : 1 + 0 ≤ _), (by decide : 8 + 0 ≤ _)⟩)
  dsimp only [Pt.U, Pt.locs, Pt.cells, Pt.slots] at X10 l10 y10 z10 st10 hQ10
  rw [y10, z10] at X10
  obtain ⟨rfl, Nq10, e10⟩ := hQ10
  have N10 : Fr n0 L10 := by rw [l10]; exact Fr.app N8 Nq10
  refine Wq.step st10 ?_
  show Wq _ _ _ _ _ (T10.setTop (mkF m 116 #[.val (.int xlaw_1), .val (.long ylaw_2), .second, .val (.int xlaw_3), .val (.int xlaw_4), .val (.int xlaw_5), .val (.int v7), .val (.int v24), .val (.int v30), .val (.int v36), .val (.int v45), .val (.int v54), .val (.int v63), .val (.int v72), .val (.int v82), .val (.int v92), .val (.ref b9), .unset, .unset, .unset, .unset, .unset] [(.int (f_cell v30 (0 : Int32) v7 v24)), (.int (0 : Int32)), (.ref b9)]))
  generalize hv113 : (f_cell v30 (0 : Int32) v7 v24) = v113
  show Wq _ _ _ _ _ (T10.setTop (mkF m 116 #[.val (.int xlaw_1), .val (.long ylaw_2), .second, .val (.int xlaw_3), .val (.int xlaw_4), .val (.int xlaw_5), .val (.int v7), .val (.int v24), .val (.int v30), .val (.int v36), .val (.int v45), .val (.int v54), .val (.int v63), .val (.int v72), .val (.int v82), .val (.int v92), .val (.ref b9), .unset, .unset, .unset, .unset, .unset] [(.int v113), (.int (0 : Int32)), (.ref b9)]))
  obtain ⟨T11, h11, X11, e11, W11, Vr11, st11⟩ := asC X10 hx hZ e10 V_b9 (j := (0 : Int32)) (i := 0) (by decide) rfl (Nat.le_of_ble_eq_true rfl) (y := (v113.toUInt32.toUInt16.toUInt32.toInt32)) rfl (g := (mkF m 116 #[.val (.int xlaw_1), .val (.long ylaw_2), .second, .val (.int xlaw_3), .val (.int xlaw_4), .val (.int xlaw_5), .val (.int v7), .val (.int v24), .val (.int v30), .val (.int v36), .val (.int v45), .val (.int v54), .val (.int v63), .val (.int v72), .val (.int v82), .val (.int v92), .val (.ref b9), .unset, .unset, .unset, .unset, .unset] [(.int v113), (.int (0 : Int32)), (.ref b9)])) rfl rfl (hb hby at_116)
  refine Wq.step st11 ?_
  have N11 := Fr.snoc X11 N10 g_b9
  have K11 : Keep h0 h11 [] := K9.wr W11 (Or.inr sz_b9)
  have Z11 : n0 ≤ h11.size := Nat.le_trans Z9 (Keep.of_wr W11).1
  have V_b9_t11 : Al Z h11 b9 .char [(.int (v113.toUInt32.toUInt16.toUInt32.toInt32)), (.int (0 : Int32)), (.int (0 : Int32)), (.int (0 : Int32)), (.int (0 : Int32)), (.int (0 : Int32)), (.int (0 : Int32)), (.int (0 : Int32))] := Vr11
  show Wq _ _ _ _ _ (T11.setTop (mkF m 117 #[.val (.int xlaw_1), .val (.long ylaw_2), .second, .val (.int xlaw_3), .val (.int xlaw_4), .val (.int xlaw_5), .val (.int v7), .val (.int v24), .val (.int v30), .val (.int v36), .val (.int v45), .val (.int v54), .val (.int v63), .val (.int v72), .val (.int v82), .val (.int v92), .val (.ref b9), .unset, .unset, .unset, .unset, .unset] []))
  refine Ow.aload X11 hx (pc' := 119) (hb hby at_117) rfl rfl ?_
  refine Ow.iconst X11 hx (pc' := 120) (hb hby at_119) (z := (1 : Int32)) rfl ?_
  refine Ow.iload X11 hx (pc' := 122) (hb hby at_120) rfl ?_
  refine Ow.iconst X11 hx (pc' := 123) (hb hby at_122) (z := (1 : Int32)) rfl ?_
  refine Ow.iload X11 hx (pc' := 125) (hb hby at_123) rfl ?_
  refine Ow.iload X11 hx (pc' := 127) (hb hby at_125) rfl ?_
  obtain ⟨_, _, ⟨T12, L12, k12, n12⟩, -, X12, ⟨Lc12, hQ12, l12, y12, z12⟩, st12⟩ := Jvm.LawKit.callS X11 hx (y := mt3) hown (mvT hZ (kw11 hw)) (mvT hZ (kw12 hw)) (mvT hZ (kw3 hw)) (mvT hZ (kw13 hw)) (by decide) (backOf (W := 2) (rm_cell l Z a0 hw [] v36 (1 : Int32) v7 v24 h11 n0 Z11 ) hZ (kw13 hw) (kw3 hw) (by decide) (by decide)) (g := (mkF m 127 #[.val (.int xlaw_1), .val (.long ylaw_2), .second, .val (.int xlaw_3), .val (.int xlaw_4), .val (.int xlaw_5), .val (.int v7), .val (.int v24), .val (.int v30), .val (.int v36), .val (.int v45), .val (.int v54), .val (.int v63), .val (.int v72), .val (.int v82), .val (.int v92), .val (.ref b9), .unset, .unset, .unset, .unset, .unset] [(.int v24), (.int v7), (.int (1 : Int32)), (.int v36), (.int (1 : Int32)), (.ref b9)])) rfl (by rw [hml]; rfl) (argsL := [(.int v36), (.int (1 : Int32)), (.int v7), (.int v24)]) (rest := [(.int (1 : Int32)), (.ref b9)]) (lenOf pd3 rfl) rfl (by show 2 * 0 + _ ≤ _; exact Nat.le_of_eq rfl) (hb hby at_127) (fun _ _ => ⟨rfl, e11, (by decide : 1 + 0 ≤ _), (by decide : 8 + 0 ≤ _)⟩)
  dsimp only [Pt.U, Pt.locs, Pt.cells, Pt.slots] at X12 l12 y12 z12 st12 hQ12
  rw [y12, z12] at X12
  obtain ⟨rfl, Nq12, e12⟩ := hQ12
  have N12 : Fr n0 L12 := by rw [l12]; exact Fr.app N11 Nq12
  refine Wq.step st12 ?_
  show Wq _ _ _ _ _ (T12.setTop (mkF m 130 #[.val (.int xlaw_1), .val (.long ylaw_2), .second, .val (.int xlaw_3), .val (.int xlaw_4), .val (.int xlaw_5), .val (.int v7), .val (.int v24), .val (.int v30), .val (.int v36), .val (.int v45), .val (.int v54), .val (.int v63), .val (.int v72), .val (.int v82), .val (.int v92), .val (.ref b9), .unset, .unset, .unset, .unset, .unset] [(.int (f_cell v36 (1 : Int32) v7 v24)), (.int (1 : Int32)), (.ref b9)]))
  generalize hv127 : (f_cell v36 (1 : Int32) v7 v24) = v127
  show Wq _ _ _ _ _ (T12.setTop (mkF m 130 #[.val (.int xlaw_1), .val (.long ylaw_2), .second, .val (.int xlaw_3), .val (.int xlaw_4), .val (.int xlaw_5), .val (.int v7), .val (.int v24), .val (.int v30), .val (.int v36), .val (.int v45), .val (.int v54), .val (.int v63), .val (.int v72), .val (.int v82), .val (.int v92), .val (.ref b9), .unset, .unset, .unset, .unset, .unset] [(.int v127), (.int (1 : Int32)), (.ref b9)]))
  obtain ⟨T13, h13, X13, e13, W13, Vr13, st13⟩ := asC X12 hx hZ e12 V_b9_t11 (j := (1 : Int32)) (i := 1) (by decide) rfl (Nat.le_of_ble_eq_true rfl) (y := (v127.toUInt32.toUInt16.toUInt32.toInt32)) rfl (g := (mkF m 130 #[.val (.int xlaw_1), .val (.long ylaw_2), .second, .val (.int xlaw_3), .val (.int xlaw_4), .val (.int xlaw_5), .val (.int v7), .val (.int v24), .val (.int v30), .val (.int v36), .val (.int v45), .val (.int v54), .val (.int v63), .val (.int v72), .val (.int v82), .val (.int v92), .val (.ref b9), .unset, .unset, .unset, .unset, .unset] [(.int v127), (.int (1 : Int32)), (.ref b9)])) rfl rfl (hb hby at_130)
  refine Wq.step st13 ?_
  have N13 := Fr.snoc X13 N12 g_b9
  have K13 : Keep h0 h13 [] := K11.wr W13 (Or.inr sz_b9)
  have Z13 : n0 ≤ h13.size := Nat.le_trans Z11 (Keep.of_wr W13).1
  have V_b9_t13 : Al Z h13 b9 .char [(.int (v113.toUInt32.toUInt16.toUInt32.toInt32)), (.int (v127.toUInt32.toUInt16.toUInt32.toInt32)), (.int (0 : Int32)), (.int (0 : Int32)), (.int (0 : Int32)), (.int (0 : Int32)), (.int (0 : Int32)), (.int (0 : Int32))] := Vr13
  show Wq _ _ _ _ _ (T13.setTop (mkF m 131 #[.val (.int xlaw_1), .val (.long ylaw_2), .second, .val (.int xlaw_3), .val (.int xlaw_4), .val (.int xlaw_5), .val (.int v7), .val (.int v24), .val (.int v30), .val (.int v36), .val (.int v45), .val (.int v54), .val (.int v63), .val (.int v72), .val (.int v82), .val (.int v92), .val (.ref b9), .unset, .unset, .unset, .unset, .unset] []))
  refine Ow.aload X13 hx (pc' := 133) (hb hby at_131) rfl rfl ?_
  refine Ow.iconst X13 hx (pc' := 134) (hb hby at_133) (z := (2 : Int32)) rfl ?_
  refine Ow.iload X13 hx (pc' := 136) (hb hby at_134) rfl ?_
  refine Ow.iconst X13 hx (pc' := 137) (hb hby at_136) (z := (2 : Int32)) rfl ?_
  refine Ow.iload X13 hx (pc' := 139) (hb hby at_137) rfl ?_
  refine Ow.iload X13 hx (pc' := 141) (hb hby at_139) rfl ?_
  obtain ⟨_, _, ⟨T14, L14, k14, n14⟩, -, X14, ⟨Lc14, hQ14, l14, y14, z14⟩, st14⟩ := Jvm.LawKit.callS X13 hx (y := mt3) hown (mvT hZ (kw11 hw)) (mvT hZ (kw12 hw)) (mvT hZ (kw3 hw)) (mvT hZ (kw13 hw)) (by decide) (backOf (W := 2) (rm_cell l Z a0 hw [] v45 (2 : Int32) v7 v24 h13 n0 Z13 ) hZ (kw13 hw) (kw3 hw) (by decide) (by decide)) (g := (mkF m 141 #[.val (.int xlaw_1), .val (.long ylaw_2), .second, .val (.int xlaw_3), .val (.int xlaw_4), .val (.int xlaw_5), .val (.int v7), .val (.int v24), .val (.int v30), .val (.int v36), .val (.int v45), .val (.int v54), .val (.int v63), .val (.int v72), .val (.int v82), .val (.int v92), .val (.ref b9), .unset, .unset, .unset, .unset, .unset] [(.int v24), (.int v7), (.int (2 : Int32)), (.int v45), (.int (2 : Int32)), (.ref b9)])) rfl (by rw [hml]; rfl) (argsL := [(.int v45), (.int (2 : Int32)), (.int v7), (.int v24)]) (rest := [(.int (2 : Int32)), (.ref b9)]) (lenOf pd3 rfl) rfl (by show 2 * 0 + _ ≤ _; exact Nat.le_of_eq rfl) (hb hby at_141) (fun _ _ => ⟨rfl, e13, (by decide : 1 + 0 ≤ _), (by decide : 8 + 0 ≤ _)⟩)
  dsimp only [Pt.U, Pt.locs, Pt.cells, Pt.slots] at X14 l14 y14 z14 st14 hQ14
  rw [y14, z14] at X14
  obtain ⟨rfl, Nq14, e14⟩ := hQ14
  have N14 : Fr n0 L14 := by rw [l14]; exact Fr.app N13 Nq14
  refine Wq.step st14 ?_
  show Wq _ _ _ _ _ (T14.setTop (mkF m 144 #[.val (.int xlaw_1), .val (.long ylaw_2), .second, .val (.int xlaw_3), .val (.int xlaw_4), .val (.int xlaw_5), .val (.int v7), .val (.int v24), .val (.int v30), .val (.int v36), .val (.int v45), .val (.int v54), .val (.int v63), .val (.int v72), .val (.int v82), .val (.int v92), .val (.ref b9), .unset, .unset, .unset, .unset, .unset] [(.int (f_cell v45 (2 : Int32) v7 v24)), (.int (2 : Int32)), (.ref b9)]))
  generalize hv141 : (f_cell v45 (2 : Int32) v7 v24) = v141
  show Wq _ _ _ _ _ (T14.setTop (mkF m 144 #[.val (.int xlaw_1), .val (.long ylaw_2), .second, .val (.int xlaw_3), .val (.int xlaw_4), .val (.int xlaw_5), .val (.int v7), .val (.int v24), .val (.int v30), .val (.int v36), .val (.int v45), .val (.int v54), .val (.int v63), .val (.int v72), .val (.int v82), .val (.int v92), .val (.ref b9), .unset, .unset, .unset, .unset, .unset] [(.int v141), (.int (2 : Int32)), (.ref b9)]))
  obtain ⟨T15, h15, X15, e15, W15, Vr15, st15⟩ := asC X14 hx hZ e14 V_b9_t13 (j := (2 : Int32)) (i := 2) (by decide) rfl (Nat.le_of_ble_eq_true rfl) (y := (v141.toUInt32.toUInt16.toUInt32.toInt32)) rfl (g := (mkF m 144 #[.val (.int xlaw_1), .val (.long ylaw_2), .second, .val (.int xlaw_3), .val (.int xlaw_4), .val (.int xlaw_5), .val (.int v7), .val (.int v24), .val (.int v30), .val (.int v36), .val (.int v45), .val (.int v54), .val (.int v63), .val (.int v72), .val (.int v82), .val (.int v92), .val (.ref b9), .unset, .unset, .unset, .unset, .unset] [(.int v141), (.int (2 : Int32)), (.ref b9)])) rfl rfl (hb hby at_144)
  refine Wq.step st15 ?_
  have N15 := Fr.snoc X15 N14 g_b9
  have K15 : Keep h0 h15 [] := K13.wr W15 (Or.inr sz_b9)
  have Z15 : n0 ≤ h15.size := Nat.le_trans Z13 (Keep.of_wr W15).1
  have V_b9_t15 : Al Z h15 b9 .char [(.int (v113.toUInt32.toUInt16.toUInt32.toInt32)), (.int (v127.toUInt32.toUInt16.toUInt32.toInt32)), (.int (v141.toUInt32.toUInt16.toUInt32.toInt32)), (.int (0 : Int32)), (.int (0 : Int32)), (.int (0 : Int32)), (.int (0 : Int32)), (.int (0 : Int32))] := Vr15
  show Wq _ _ _ _ _ (T15.setTop (mkF m 145 #[.val (.int xlaw_1), .val (.long ylaw_2), .second, .val (.int xlaw_3), .val (.int xlaw_4), .val (.int xlaw_5), .val (.int v7), .val (.int v24), .val (.int v30), .val (.int v36), .val (.int v45), .val (.int v54), .val (.int v63), .val (.int v72), .val (.int v82), .val (.int v92), .val (.ref b9), .unset, .unset, .unset, .unset, .unset] []))
  refine Ow.aload X15 hx (pc' := 147) (hb hby at_145) rfl rfl ?_
  refine Ow.iconst X15 hx (pc' := 148) (hb hby at_147) (z := (3 : Int32)) rfl ?_
  refine Ow.iload X15 hx (pc' := 150) (hb hby at_148) rfl ?_
  refine Ow.iconst X15 hx (pc' := 151) (hb hby at_150) (z := (3 : Int32)) rfl ?_
  refine Ow.iload X15 hx (pc' := 153) (hb hby at_151) rfl ?_
  refine Ow.iload X15 hx (pc' := 155) (hb hby at_153) rfl ?_
  obtain ⟨_, _, ⟨T16, L16, k16, n16⟩, -, X16, ⟨Lc16, hQ16, l16, y16, z16⟩, st16⟩ := Jvm.LawKit.callS X15 hx (y := mt3) hown (mvT hZ (kw11 hw)) (mvT hZ (kw12 hw)) (mvT hZ (kw3 hw)) (mvT hZ (kw13 hw)) (by decide) (backOf (W := 2) (rm_cell l Z a0 hw [] v54 (3 : Int32) v7 v24 h15 n0 Z15 ) hZ (kw13 hw) (kw3 hw) (by decide) (by decide)) (g := (mkF m 155 #[.val (.int xlaw_1), .val (.long ylaw_2), .second, .val (.int xlaw_3), .val (.int xlaw_4), .val (.int xlaw_5), .val (.int v7), .val (.int v24), .val (.int v30), .val (.int v36), .val (.int v45), .val (.int v54), .val (.int v63), .val (.int v72), .val (.int v82), .val (.int v92), .val (.ref b9), .unset, .unset, .unset, .unset, .unset] [(.int v24), (.int v7), (.int (3 : Int32)), (.int v54), (.int (3 : Int32)), (.ref b9)])) rfl (by rw [hml]; rfl) (argsL := [(.int v54), (.int (3 : Int32)), (.int v7), (.int v24)]) (rest := [(.int (3 : Int32)), (.ref b9)]) (lenOf pd3 rfl) rfl (by show 2 * 0 + _ ≤ _; exact Nat.le_of_eq rfl) (hb hby at_155) (fun _ _ => ⟨rfl, e15, (by decide : 1 + 0 ≤ _), (by decide : 8 + 0 ≤ _)⟩)
  dsimp only [Pt.U, Pt.locs, Pt.cells, Pt.slots] at X16 l16 y16 z16 st16 hQ16
  rw [y16, z16] at X16
  obtain ⟨rfl, Nq16, e16⟩ := hQ16
  have N16 : Fr n0 L16 := by rw [l16]; exact Fr.app N15 Nq16
  refine Wq.step st16 ?_
  show Wq _ _ _ _ _ (T16.setTop (mkF m 158 #[.val (.int xlaw_1), .val (.long ylaw_2), .second, .val (.int xlaw_3), .val (.int xlaw_4), .val (.int xlaw_5), .val (.int v7), .val (.int v24), .val (.int v30), .val (.int v36), .val (.int v45), .val (.int v54), .val (.int v63), .val (.int v72), .val (.int v82), .val (.int v92), .val (.ref b9), .unset, .unset, .unset, .unset, .unset] [(.int (f_cell v54 (3 : Int32) v7 v24)), (.int (3 : Int32)), (.ref b9)]))
  generalize hv155 : (f_cell v54 (3 : Int32) v7 v24) = v155
  show Wq _ _ _ _ _ (T16.setTop (mkF m 158 #[.val (.int xlaw_1), .val (.long ylaw_2), .second, .val (.int xlaw_3), .val (.int xlaw_4), .val (.int xlaw_5), .val (.int v7), .val (.int v24), .val (.int v30), .val (.int v36), .val (.int v45), .val (.int v54), .val (.int v63), .val (.int v72), .val (.int v82), .val (.int v92), .val (.ref b9), .unset, .unset, .unset, .unset, .unset] [(.int v155), (.int (3 : Int32)), (.ref b9)]))
  obtain ⟨T17, h17, X17, e17, W17, Vr17, st17⟩ := asC X16 hx hZ e16 V_b9_t15 (j := (3 : Int32)) (i := 3) (by decide) rfl (Nat.le_of_ble_eq_true rfl) (y := (v155.toUInt32.toUInt16.toUInt32.toInt32)) rfl (g := (mkF m 158 #[.val (.int xlaw_1), .val (.long ylaw_2), .second, .val (.int xlaw_3), .val (.int xlaw_4), .val (.int xlaw_5), .val (.int v7), .val (.int v24), .val (.int v30), .val (.int v36), .val (.int v45), .val (.int v54), .val (.int v63), .val (.int v72), .val (.int v82), .val (.int v92), .val (.ref b9), .unset, .unset, .unset, .unset, .unset] [(.int v155), (.int (3 : Int32)), (.ref b9)])) rfl rfl (hb hby at_158)
  refine Wq.step st17 ?_
  have N17 := Fr.snoc X17 N16 g_b9
  have K17 : Keep h0 h17 [] := K15.wr W17 (Or.inr sz_b9)
  have Z17 : n0 ≤ h17.size := Nat.le_trans Z15 (Keep.of_wr W17).1
  have V_b9_t17 : Al Z h17 b9 .char [(.int (v113.toUInt32.toUInt16.toUInt32.toInt32)), (.int (v127.toUInt32.toUInt16.toUInt32.toInt32)), (.int (v141.toUInt32.toUInt16.toUInt32.toInt32)), (.int (v155.toUInt32.toUInt16.toUInt32.toInt32)), (.int (0 : Int32)), (.int (0 : Int32)), (.int (0 : Int32)), (.int (0 : Int32))] := Vr17
  show Wq _ _ _ _ _ (T17.setTop (mkF m 159 #[.val (.int xlaw_1), .val (.long ylaw_2), .second, .val (.int xlaw_3), .val (.int xlaw_4), .val (.int xlaw_5), .val (.int v7), .val (.int v24), .val (.int v30), .val (.int v36), .val (.int v45), .val (.int v54), .val (.int v63), .val (.int v72), .val (.int v82), .val (.int v92), .val (.ref b9), .unset, .unset, .unset, .unset, .unset] []))
  refine Ow.aload X17 hx (pc' := 161) (hb hby at_159) rfl rfl ?_
  refine Ow.iconst X17 hx (pc' := 162) (hb hby at_161) (z := (4 : Int32)) rfl ?_
  refine Ow.iload X17 hx (pc' := 164) (hb hby at_162) rfl ?_
  refine Ow.iconst X17 hx (pc' := 165) (hb hby at_164) (z := (4 : Int32)) rfl ?_
  refine Ow.iload X17 hx (pc' := 167) (hb hby at_165) rfl ?_
  refine Ow.iload X17 hx (pc' := 169) (hb hby at_167) rfl ?_
  obtain ⟨_, _, ⟨T18, L18, k18, n18⟩, -, X18, ⟨Lc18, hQ18, l18, y18, z18⟩, st18⟩ := Jvm.LawKit.callS X17 hx (y := mt3) hown (mvT hZ (kw11 hw)) (mvT hZ (kw12 hw)) (mvT hZ (kw3 hw)) (mvT hZ (kw13 hw)) (by decide) (backOf (W := 2) (rm_cell l Z a0 hw [] v63 (4 : Int32) v7 v24 h17 n0 Z17 ) hZ (kw13 hw) (kw3 hw) (by decide) (by decide)) (g := (mkF m 169 #[.val (.int xlaw_1), .val (.long ylaw_2), .second, .val (.int xlaw_3), .val (.int xlaw_4), .val (.int xlaw_5), .val (.int v7), .val (.int v24), .val (.int v30), .val (.int v36), .val (.int v45), .val (.int v54), .val (.int v63), .val (.int v72), .val (.int v82), .val (.int v92), .val (.ref b9), .unset, .unset, .unset, .unset, .unset] [(.int v24), (.int v7), (.int (4 : Int32)), (.int v63), (.int (4 : Int32)), (.ref b9)])) rfl (by rw [hml]; rfl) (argsL := [(.int v63), (.int (4 : Int32)), (.int v7), (.int v24)]) (rest := [(.int (4 : Int32)), (.ref b9)]) (lenOf pd3 rfl) rfl (by show 2 * 0 + _ ≤ _; exact Nat.le_of_eq rfl) (hb hby at_169) (fun _ _ => ⟨rfl, e17, (by decide : 1 + 0 ≤ _), (by decide : 8 + 0 ≤ _)⟩)
  dsimp only [Pt.U, Pt.locs, Pt.cells, Pt.slots] at X18 l18 y18 z18 st18 hQ18
  rw [y18, z18] at X18
  obtain ⟨rfl, Nq18, e18⟩ := hQ18
  have N18 : Fr n0 L18 := by rw [l18]; exact Fr.app N17 Nq18
  refine Wq.step st18 ?_
  show Wq _ _ _ _ _ (T18.setTop (mkF m 172 #[.val (.int xlaw_1), .val (.long ylaw_2), .second, .val (.int xlaw_3), .val (.int xlaw_4), .val (.int xlaw_5), .val (.int v7), .val (.int v24), .val (.int v30), .val (.int v36), .val (.int v45), .val (.int v54), .val (.int v63), .val (.int v72), .val (.int v82), .val (.int v92), .val (.ref b9), .unset, .unset, .unset, .unset, .unset] [(.int (f_cell v63 (4 : Int32) v7 v24)), (.int (4 : Int32)), (.ref b9)]))
  generalize hv169 : (f_cell v63 (4 : Int32) v7 v24) = v169
  show Wq _ _ _ _ _ (T18.setTop (mkF m 172 #[.val (.int xlaw_1), .val (.long ylaw_2), .second, .val (.int xlaw_3), .val (.int xlaw_4), .val (.int xlaw_5), .val (.int v7), .val (.int v24), .val (.int v30), .val (.int v36), .val (.int v45), .val (.int v54), .val (.int v63), .val (.int v72), .val (.int v82), .val (.int v92), .val (.ref b9), .unset, .unset, .unset, .unset, .unset] [(.int v169), (.int (4 : Int32)), (.ref b9)]))
  obtain ⟨T19, h19, X19, e19, W19, Vr19, st19⟩ := asC X18 hx hZ e18 V_b9_t17 (j := (4 : Int32)) (i := 4) (by decide) rfl (Nat.le_of_ble_eq_true rfl) (y := (v169.toUInt32.toUInt16.toUInt32.toInt32)) rfl (g := (mkF m 172 #[.val (.int xlaw_1), .val (.long ylaw_2), .second, .val (.int xlaw_3), .val (.int xlaw_4), .val (.int xlaw_5), .val (.int v7), .val (.int v24), .val (.int v30), .val (.int v36), .val (.int v45), .val (.int v54), .val (.int v63), .val (.int v72), .val (.int v82), .val (.int v92), .val (.ref b9), .unset, .unset, .unset, .unset, .unset] [(.int v169), (.int (4 : Int32)), (.ref b9)])) rfl rfl (hb hby at_172)
  refine Wq.step st19 ?_
  have N19 := Fr.snoc X19 N18 g_b9
  have K19 : Keep h0 h19 [] := K17.wr W19 (Or.inr sz_b9)
  have Z19 : n0 ≤ h19.size := Nat.le_trans Z17 (Keep.of_wr W19).1
  have V_b9_t19 : Al Z h19 b9 .char [(.int (v113.toUInt32.toUInt16.toUInt32.toInt32)), (.int (v127.toUInt32.toUInt16.toUInt32.toInt32)), (.int (v141.toUInt32.toUInt16.toUInt32.toInt32)), (.int (v155.toUInt32.toUInt16.toUInt32.toInt32)), (.int (v169.toUInt32.toUInt16.toUInt32.toInt32)), (.int (0 : Int32)), (.int (0 : Int32)), (.int (0 : Int32))] := Vr19
  show Wq _ _ _ _ _ (T19.setTop (mkF m 173 #[.val (.int xlaw_1), .val (.long ylaw_2), .second, .val (.int xlaw_3), .val (.int xlaw_4), .val (.int xlaw_5), .val (.int v7), .val (.int v24), .val (.int v30), .val (.int v36), .val (.int v45), .val (.int v54), .val (.int v63), .val (.int v72), .val (.int v82), .val (.int v92), .val (.ref b9), .unset, .unset, .unset, .unset, .unset] []))
  refine Ow.aload X19 hx (pc' := 175) (hb hby at_173) rfl rfl ?_
  refine Ow.iconst X19 hx (pc' := 176) (hb hby at_175) (z := (5 : Int32)) rfl ?_
  refine Ow.iload X19 hx (pc' := 178) (hb hby at_176) rfl ?_
  refine Ow.iconst X19 hx (pc' := 179) (hb hby at_178) (z := (5 : Int32)) rfl ?_
  refine Ow.iload X19 hx (pc' := 181) (hb hby at_179) rfl ?_
  refine Ow.iload X19 hx (pc' := 183) (hb hby at_181) rfl ?_
  obtain ⟨_, _, ⟨T20, L20, k20, n20⟩, -, X20, ⟨Lc20, hQ20, l20, y20, z20⟩, st20⟩ := Jvm.LawKit.callS X19 hx (y := mt3) hown (mvT hZ (kw11 hw)) (mvT hZ (kw12 hw)) (mvT hZ (kw3 hw)) (mvT hZ (kw13 hw)) (by decide) (backOf (W := 2) (rm_cell l Z a0 hw [] v72 (5 : Int32) v7 v24 h19 n0 Z19 ) hZ (kw13 hw) (kw3 hw) (by decide) (by decide)) (g := (mkF m 183 #[.val (.int xlaw_1), .val (.long ylaw_2), .second, .val (.int xlaw_3), .val (.int xlaw_4), .val (.int xlaw_5), .val (.int v7), .val (.int v24), .val (.int v30), .val (.int v36), .val (.int v45), .val (.int v54), .val (.int v63), .val (.int v72), .val (.int v82), .val (.int v92), .val (.ref b9), .unset, .unset, .unset, .unset, .unset] [(.int v24), (.int v7), (.int (5 : Int32)), (.int v72), (.int (5 : Int32)), (.ref b9)])) rfl (by rw [hml]; rfl) (argsL := [(.int v72), (.int (5 : Int32)), (.int v7), (.int v24)]) (rest := [(.int (5 : Int32)), (.ref b9)]) (lenOf pd3 rfl) rfl (by show 2 * 0 + _ ≤ _; exact Nat.le_of_eq rfl) (hb hby at_183) (fun _ _ => ⟨rfl, e19, (by decide : 1 + 0 ≤ _), (by decide : 8 + 0 ≤ _)⟩)
  dsimp only [Pt.U, Pt.locs, Pt.cells, Pt.slots] at X20 l20 y20 z20 st20 hQ20
  rw [y20, z20] at X20
  obtain ⟨rfl, Nq20, e20⟩ := hQ20
  have N20 : Fr n0 L20 := by rw [l20]; exact Fr.app N19 Nq20
  refine Wq.step st20 ?_
  show Wq _ _ _ _ _ (T20.setTop (mkF m 186 #[.val (.int xlaw_1), .val (.long ylaw_2), .second, .val (.int xlaw_3), .val (.int xlaw_4), .val (.int xlaw_5), .val (.int v7), .val (.int v24), .val (.int v30), .val (.int v36), .val (.int v45), .val (.int v54), .val (.int v63), .val (.int v72), .val (.int v82), .val (.int v92), .val (.ref b9), .unset, .unset, .unset, .unset, .unset] [(.int (f_cell v72 (5 : Int32) v7 v24)), (.int (5 : Int32)), (.ref b9)]))
  generalize hv183 : (f_cell v72 (5 : Int32) v7 v24) = v183
  show Wq _ _ _ _ _ (T20.setTop (mkF m 186 #[.val (.int xlaw_1), .val (.long ylaw_2), .second, .val (.int xlaw_3), .val (.int xlaw_4), .val (.int xlaw_5), .val (.int v7), .val (.int v24), .val (.int v30), .val (.int v36), .val (.int v45), .val (.int v54), .val (.int v63), .val (.int v72), .val (.int v82), .val (.int v92), .val (.ref b9), .unset, .unset, .unset, .unset, .unset] [(.int v183), (.int (5 : Int32)), (.ref b9)]))
  obtain ⟨T21, h21, X21, e21, W21, Vr21, st21⟩ := asC X20 hx hZ e20 V_b9_t19 (j := (5 : Int32)) (i := 5) (by decide) rfl (Nat.le_of_ble_eq_true rfl) (y := (v183.toUInt32.toUInt16.toUInt32.toInt32)) rfl (g := (mkF m 186 #[.val (.int xlaw_1), .val (.long ylaw_2), .second, .val (.int xlaw_3), .val (.int xlaw_4), .val (.int xlaw_5), .val (.int v7), .val (.int v24), .val (.int v30), .val (.int v36), .val (.int v45), .val (.int v54), .val (.int v63), .val (.int v72), .val (.int v82), .val (.int v92), .val (.ref b9), .unset, .unset, .unset, .unset, .unset] [(.int v183), (.int (5 : Int32)), (.ref b9)])) rfl rfl (hb hby at_186)
  refine Wq.step st21 ?_
  have N21 := Fr.snoc X21 N20 g_b9
  have K21 : Keep h0 h21 [] := K19.wr W21 (Or.inr sz_b9)
  have Z21 : n0 ≤ h21.size := Nat.le_trans Z19 (Keep.of_wr W21).1
  have V_b9_t21 : Al Z h21 b9 .char [(.int (v113.toUInt32.toUInt16.toUInt32.toInt32)), (.int (v127.toUInt32.toUInt16.toUInt32.toInt32)), (.int (v141.toUInt32.toUInt16.toUInt32.toInt32)), (.int (v155.toUInt32.toUInt16.toUInt32.toInt32)), (.int (v169.toUInt32.toUInt16.toUInt32.toInt32)), (.int (v183.toUInt32.toUInt16.toUInt32.toInt32)), (.int (0 : Int32)), (.int (0 : Int32))] := Vr21
  show Wq _ _ _ _ _ (T21.setTop (mkF m 187 #[.val (.int xlaw_1), .val (.long ylaw_2), .second, .val (.int xlaw_3), .val (.int xlaw_4), .val (.int xlaw_5), .val (.int v7), .val (.int v24), .val (.int v30), .val (.int v36), .val (.int v45), .val (.int v54), .val (.int v63), .val (.int v72), .val (.int v82), .val (.int v92), .val (.ref b9), .unset, .unset, .unset, .unset, .unset] []))
  refine Ow.aload X21 hx (pc' := 189) (hb hby at_187) rfl rfl ?_
  refine Ow.bipush X21 hx (pc' := 191) (hb hby at_189) (z := (6 : Int32)) rfl ?_
  refine Ow.iload X21 hx (pc' := 193) (hb hby at_191) rfl ?_
  refine Ow.bipush X21 hx (pc' := 195) (hb hby at_193) (z := (6 : Int32)) rfl ?_
  refine Ow.iload X21 hx (pc' := 197) (hb hby at_195) rfl ?_
  refine Ow.iload X21 hx (pc' := 199) (hb hby at_197) rfl ?_
  obtain ⟨_, _, ⟨T22, L22, k22, n22⟩, -, X22, ⟨Lc22, hQ22, l22, y22, z22⟩, st22⟩ := Jvm.LawKit.callS X21 hx (y := mt3) hown (mvT hZ (kw11 hw)) (mvT hZ (kw12 hw)) (mvT hZ (kw3 hw)) (mvT hZ (kw13 hw)) (by decide) (backOf (W := 2) (rm_cell l Z a0 hw [] v82 (6 : Int32) v7 v24 h21 n0 Z21 ) hZ (kw13 hw) (kw3 hw) (by decide) (by decide)) (g := (mkF m 199 #[.val (.int xlaw_1), .val (.long ylaw_2), .second, .val (.int xlaw_3), .val (.int xlaw_4), .val (.int xlaw_5), .val (.int v7), .val (.int v24), .val (.int v30), .val (.int v36), .val (.int v45), .val (.int v54), .val (.int v63), .val (.int v72), .val (.int v82), .val (.int v92), .val (.ref b9), .unset, .unset, .unset, .unset, .unset] [(.int v24), (.int v7), (.int (6 : Int32)), (.int v82), (.int (6 : Int32)), (.ref b9)])) rfl (by rw [hml]; rfl) (argsL := [(.int v82), (.int (6 : Int32)), (.int v7), (.int v24)]) (rest := [(.int (6 : Int32)), (.ref b9)]) (lenOf pd3 rfl) rfl (by show 2 * 0 + _ ≤ _; exact Nat.le_of_eq rfl) (hb hby at_199) (fun _ _ => ⟨rfl, e21, (by decide : 1 + 0 ≤ _), (by decide : 8 + 0 ≤ _)⟩)
  dsimp only [Pt.U, Pt.locs, Pt.cells, Pt.slots] at X22 l22 y22 z22 st22 hQ22
  rw [y22, z22] at X22
  obtain ⟨rfl, Nq22, e22⟩ := hQ22
  have N22 : Fr n0 L22 := by rw [l22]; exact Fr.app N21 Nq22
  refine Wq.step st22 ?_
  show Wq _ _ _ _ _ (T22.setTop (mkF m 202 #[.val (.int xlaw_1), .val (.long ylaw_2), .second, .val (.int xlaw_3), .val (.int xlaw_4), .val (.int xlaw_5), .val (.int v7), .val (.int v24), .val (.int v30), .val (.int v36), .val (.int v45), .val (.int v54), .val (.int v63), .val (.int v72), .val (.int v82), .val (.int v92), .val (.ref b9), .unset, .unset, .unset, .unset, .unset] [(.int (f_cell v82 (6 : Int32) v7 v24)), (.int (6 : Int32)), (.ref b9)]))
  generalize hv199 : (f_cell v82 (6 : Int32) v7 v24) = v199
  show Wq _ _ _ _ _ (T22.setTop (mkF m 202 #[.val (.int xlaw_1), .val (.long ylaw_2), .second, .val (.int xlaw_3), .val (.int xlaw_4), .val (.int xlaw_5), .val (.int v7), .val (.int v24), .val (.int v30), .val (.int v36), .val (.int v45), .val (.int v54), .val (.int v63), .val (.int v72), .val (.int v82), .val (.int v92), .val (.ref b9), .unset, .unset, .unset, .unset, .unset] [(.int v199), (.int (6 : Int32)), (.ref b9)]))
  obtain ⟨T23, h23, X23, e23, W23, Vr23, st23⟩ := asC X22 hx hZ e22 V_b9_t21 (j := (6 : Int32)) (i := 6) (by decide) rfl (Nat.le_of_ble_eq_true rfl) (y := (v199.toUInt32.toUInt16.toUInt32.toInt32)) rfl (g := (mkF m 202 #[.val (.int xlaw_1), .val (.long ylaw_2), .second, .val (.int xlaw_3), .val (.int xlaw_4), .val (.int xlaw_5), .val (.int v7), .val (.int v24), .val (.int v30), .val (.int v36), .val (.int v45), .val (.int v54), .val (.int v63), .val (.int v72), .val (.int v82), .val (.int v92), .val (.ref b9), .unset, .unset, .unset, .unset, .unset] [(.int v199), (.int (6 : Int32)), (.ref b9)])) rfl rfl (hb hby at_202)
  refine Wq.step st23 ?_
  have N23 := Fr.snoc X23 N22 g_b9
  have K23 : Keep h0 h23 [] := K21.wr W23 (Or.inr sz_b9)
  have Z23 : n0 ≤ h23.size := Nat.le_trans Z21 (Keep.of_wr W23).1
  have V_b9_t23 : Al Z h23 b9 .char [(.int (v113.toUInt32.toUInt16.toUInt32.toInt32)), (.int (v127.toUInt32.toUInt16.toUInt32.toInt32)), (.int (v141.toUInt32.toUInt16.toUInt32.toInt32)), (.int (v155.toUInt32.toUInt16.toUInt32.toInt32)), (.int (v169.toUInt32.toUInt16.toUInt32.toInt32)), (.int (v183.toUInt32.toUInt16.toUInt32.toInt32)), (.int (v199.toUInt32.toUInt16.toUInt32.toInt32)), (.int (0 : Int32))] := Vr23
  show Wq _ _ _ _ _ (T23.setTop (mkF m 203 #[.val (.int xlaw_1), .val (.long ylaw_2), .second, .val (.int xlaw_3), .val (.int xlaw_4), .val (.int xlaw_5), .val (.int v7), .val (.int v24), .val (.int v30), .val (.int v36), .val (.int v45), .val (.int v54), .val (.int v63), .val (.int v72), .val (.int v82), .val (.int v92), .val (.ref b9), .unset, .unset, .unset, .unset, .unset] []))
  refine Ow.aload X23 hx (pc' := 205) (hb hby at_203) rfl rfl ?_
  refine Ow.bipush X23 hx (pc' := 207) (hb hby at_205) (z := (7 : Int32)) rfl ?_
  refine Ow.iload X23 hx (pc' := 209) (hb hby at_207) rfl ?_
  refine Ow.bipush X23 hx (pc' := 211) (hb hby at_209) (z := (7 : Int32)) rfl ?_
  refine Ow.iload X23 hx (pc' := 213) (hb hby at_211) rfl ?_
  refine Ow.iload X23 hx (pc' := 215) (hb hby at_213) rfl ?_
  obtain ⟨_, _, ⟨T24, L24, k24, n24⟩, -, X24, ⟨Lc24, hQ24, l24, y24, z24⟩, st24⟩ := Jvm.LawKit.callS X23 hx (y := mt3) hown (mvT hZ (kw11 hw)) (mvT hZ (kw12 hw)) (mvT hZ (kw3 hw)) (mvT hZ (kw13 hw)) (by decide) (backOf (W := 2) (rm_cell l Z a0 hw [] v92 (7 : Int32) v7 v24 h23 n0 Z23 ) hZ (kw13 hw) (kw3 hw) (by decide) (by decide)) (g := (mkF m 215 #[.val (.int xlaw_1), .val (.long ylaw_2), .second, .val (.int xlaw_3), .val (.int xlaw_4), .val (.int xlaw_5), .val (.int v7), .val (.int v24), .val (.int v30), .val (.int v36), .val (.int v45), .val (.int v54), .val (.int v63), .val (.int v72), .val (.int v82), .val (.int v92), .val (.ref b9), .unset, .unset, .unset, .unset, .unset] [(.int v24), (.int v7), (.int (7 : Int32)), (.int v92), (.int (7 : Int32)), (.ref b9)])) rfl (by rw [hml]; rfl) (argsL := [(.int v92), (.int (7 : Int32)), (.int v7), (.int v24)]) (rest := [(.int (7 : Int32)), (.ref b9)]) (lenOf pd3 rfl) rfl (by show 2 * 0 + _ ≤ _; exact Nat.le_of_eq rfl) (hb hby at_215) (fun _ _ => ⟨rfl, e23, (by decide : 1 + 0 ≤ _), (by decide : 8 + 0 ≤ _)⟩)
  dsimp only [Pt.U, Pt.locs, Pt.cells, Pt.slots] at X24 l24 y24 z24 st24 hQ24
  rw [y24, z24] at X24
  obtain ⟨rfl, Nq24, e24⟩ := hQ24
  have N24 : Fr n0 L24 := by rw [l24]; exact Fr.app N23 Nq24
  refine Wq.step st24 ?_
  show Wq _ _ _ _ _ (T24.setTop (mkF m 218 #[.val (.int xlaw_1), .val (.long ylaw_2), .second, .val (.int xlaw_3), .val (.int xlaw_4), .val (.int xlaw_5), .val (.int v7), .val (.int v24), .val (.int v30), .val (.int v36), .val (.int v45), .val (.int v54), .val (.int v63), .val (.int v72), .val (.int v82), .val (.int v92), .val (.ref b9), .unset, .unset, .unset, .unset, .unset] [(.int (f_cell v92 (7 : Int32) v7 v24)), (.int (7 : Int32)), (.ref b9)]))
  generalize hv215 : (f_cell v92 (7 : Int32) v7 v24) = v215
  show Wq _ _ _ _ _ (T24.setTop (mkF m 218 #[.val (.int xlaw_1), .val (.long ylaw_2), .second, .val (.int xlaw_3), .val (.int xlaw_4), .val (.int xlaw_5), .val (.int v7), .val (.int v24), .val (.int v30), .val (.int v36), .val (.int v45), .val (.int v54), .val (.int v63), .val (.int v72), .val (.int v82), .val (.int v92), .val (.ref b9), .unset, .unset, .unset, .unset, .unset] [(.int v215), (.int (7 : Int32)), (.ref b9)]))
  obtain ⟨T25, h25, X25, e25, W25, Vr25, st25⟩ := asC X24 hx hZ e24 V_b9_t23 (j := (7 : Int32)) (i := 7) (by decide) rfl (Nat.le_of_ble_eq_true rfl) (y := (v215.toUInt32.toUInt16.toUInt32.toInt32)) rfl (g := (mkF m 218 #[.val (.int xlaw_1), .val (.long ylaw_2), .second, .val (.int xlaw_3), .val (.int xlaw_4), .val (.int xlaw_5), .val (.int v7), .val (.int v24), .val (.int v30), .val (.int v36), .val (.int v45), .val (.int v54), .val (.int v63), .val (.int v72), .val (.int v82), .val (.int v92), .val (.ref b9), .unset, .unset, .unset, .unset, .unset] [(.int v215), (.int (7 : Int32)), (.ref b9)])) rfl rfl (hb hby at_218)
  refine Wq.step st25 ?_
  have N25 := Fr.snoc X25 N24 g_b9
  have K25 : Keep h0 h25 [] := K23.wr W25 (Or.inr sz_b9)
  have Z25 : n0 ≤ h25.size := Nat.le_trans Z23 (Keep.of_wr W25).1
  have V_b9_t25 : Al Z h25 b9 .char [(.int (v113.toUInt32.toUInt16.toUInt32.toInt32)), (.int (v127.toUInt32.toUInt16.toUInt32.toInt32)), (.int (v141.toUInt32.toUInt16.toUInt32.toInt32)), (.int (v155.toUInt32.toUInt16.toUInt32.toInt32)), (.int (v169.toUInt32.toUInt16.toUInt32.toInt32)), (.int (v183.toUInt32.toUInt16.toUInt32.toInt32)), (.int (v199.toUInt32.toUInt16.toUInt32.toInt32)), (.int (v215.toUInt32.toUInt16.toUInt32.toInt32))] := Vr25
  show Wq _ _ _ _ _ (T25.setTop (mkF m 219 #[.val (.int xlaw_1), .val (.long ylaw_2), .second, .val (.int xlaw_3), .val (.int xlaw_4), .val (.int xlaw_5), .val (.int v7), .val (.int v24), .val (.int v30), .val (.int v36), .val (.int v45), .val (.int v54), .val (.int v63), .val (.int v72), .val (.int v82), .val (.int v92), .val (.ref b9), .unset, .unset, .unset, .unset, .unset] []))
  refine Ow.iload X25 hx (pc' := 221) (hb hby at_219) rfl ?_
  refine Ow.iconst X25 hx (pc' := 222) (hb hby at_221) (z := (2 : Int32)) rfl ?_
  refine Ow.iushr X25 hx (pc' := 223) (hb hby at_222) (z := ((xlaw_5.toUInt32 >>> ((2 : Int32) &&& 31).toUInt32).toInt32)) rfl ?_
  refine Ow.bipush X25 hx (pc' := 225) (hb hby at_223) (z := (7 : Int32)) rfl ?_
  refine Ow.iand X25 hx (pc' := 226) (hb hby at_225) (z := (((xlaw_5.toUInt32 >>> ((2 : Int32) &&& 31).toUInt32).toInt32) &&& (7 : Int32))) rfl ?_
  refine Ow.istore X25 hx (pc' := 228) (hb hby at_226) (l' := #[.val (.int xlaw_1), .val (.long ylaw_2), .second, .val (.int xlaw_3), .val (.int xlaw_4), .val (.int xlaw_5), .val (.int v7), .val (.int v24), .val (.int v30), .val (.int v36), .val (.int v45), .val (.int v54), .val (.int v63), .val (.int v72), .val (.int v82), .val (.int v92), .val (.ref b9), .val (.int (((xlaw_5.toUInt32 >>> ((2 : Int32) &&& 31).toUInt32).toInt32) &&& (7 : Int32))), .unset, .unset, .unset, .unset]) rfl ?_
  generalize hv226 : (((xlaw_5.toUInt32 >>> ((2 : Int32) &&& 31).toUInt32).toInt32) &&& (7 : Int32)) = v226
  refine Ow.iload X25 hx (pc' := 230) (hb hby at_228) rfl ?_
  refine Ow.iconst X25 hx (pc' := 231) (hb hby at_230) (z := (3 : Int32)) rfl ?_
  refine Ow.iand X25 hx (pc' := 232) (hb hby at_231) (z := (xlaw_5 &&& (3 : Int32))) rfl ?_
  refine Ow.istore X25 hx (pc' := 234) (hb hby at_232) (l' := #[.val (.int xlaw_1), .val (.long ylaw_2), .second, .val (.int xlaw_3), .val (.int xlaw_4), .val (.int xlaw_5), .val (.int v7), .val (.int v24), .val (.int v30), .val (.int v36), .val (.int v45), .val (.int v54), .val (.int v63), .val (.int v72), .val (.int v82), .val (.int v92), .val (.ref b9), .val (.int v226), .val (.int (xlaw_5 &&& (3 : Int32))), .unset, .unset, .unset]) rfl ?_
  generalize hv232 : (xlaw_5 &&& (3 : Int32)) = v232
  refine Ow.iload X25 hx (pc' := 236) (hb hby at_234) rfl ?_
  have J289 : ∀ (tg : Int32), Wq p e below (fun o t L => FrameEnd s o t L 16 128) (Q_law n0) (T25.setTop (mkF m 289 #[.val (.int xlaw_1), .val (.long ylaw_2), .second, .val (.int xlaw_3), .val (.int xlaw_4), .val (.int xlaw_5), .val (.int v7), .val (.int v24), .val (.int v30), .val (.int v36), .val (.int v45), .val (.int v54), .val (.int v63), .val (.int v72), .val (.int v82), .val (.int v92), .val (.ref b9), .val (.int v226), .val (.int v232), .val (.int tg), .unset, .unset] [])) := by
    intro tg
    show Wq _ _ _ _ _ (T25.setTop (mkF m 289 #[.val (.int xlaw_1), .val (.long ylaw_2), .second, .val (.int xlaw_3), .val (.int xlaw_4), .val (.int xlaw_5), .val (.int v7), .val (.int v24), .val (.int v30), .val (.int v36), .val (.int v45), .val (.int v54), .val (.int v63), .val (.int v72), .val (.int v82), .val (.int v92), .val (.ref b9), .val (.int v226), .val (.int v232), .val (.int tg), .unset, .unset] []))
    refine Ow.iload X25 hx (pc' := 291) (hb hby at_289) rfl ?_
    refine Ow.aload X25 hx (pc' := 293) (hb hby at_291) rfl rfl ?_
    refine Ow.iconst X25 hx (pc' := 294) (hb hby at_293) (z := (0 : Int32)) rfl ?_
    refine Ow.iload X25 hx (pc' := 296) (hb hby at_294) rfl ?_
    refine Ow.iload X25 hx (pc' := 298) (hb hby at_296) rfl ?_
    refine Ow.iload X25 hx (pc' := 300) (hb hby at_298) rfl ?_
    obtain ⟨_, _, ⟨T26, L26, k26, n26⟩, -, X26, ⟨Lc26, hQ26, l26, y26, z26⟩, st26⟩ := Jvm.LawKit.callS X25 hx (y := mt4) hown (mvT hZ (kw14 hw)) (mvT hZ (kw15 hw)) (mvT hZ (kw3 hw)) (mvT hZ (kw16 hw)) (by decide) (backOf (W := 1) (rm_bel l Z a0 hw [] b9 (0 : Int32) v7 v24 tg [(.int (v113.toUInt32.toUInt16.toUInt32.toInt32)), (.int (v127.toUInt32.toUInt16.toUInt32.toInt32)), (.int (v141.toUInt32.toUInt16.toUInt32.toInt32)), (.int (v155.toUInt32.toUInt16.toUInt32.toInt32)), (.int (v169.toUInt32.toUInt16.toUInt32.toInt32)), (.int (v183.toUInt32.toUInt16.toUInt32.toInt32)), (.int (v199.toUInt32.toUInt16.toUInt32.toInt32)), (.int (v215.toUInt32.toUInt16.toUInt32.toInt32))] (v113.toUInt32.toUInt16.toUInt32.toInt32) h25 n0 Z25 (own_cj0) (own_ck0) V_b9_t25) hZ (kw16 hw) (kw3 hw) (by decide) (by decide)) (g := (mkF m 300 #[.val (.int xlaw_1), .val (.long ylaw_2), .second, .val (.int xlaw_3), .val (.int xlaw_4), .val (.int xlaw_5), .val (.int v7), .val (.int v24), .val (.int v30), .val (.int v36), .val (.int v45), .val (.int v54), .val (.int v63), .val (.int v72), .val (.int v82), .val (.int v92), .val (.ref b9), .val (.int v226), .val (.int v232), .val (.int tg), .unset, .unset] [(.int tg), (.int v24), (.int v7), (.int (0 : Int32)), (.ref b9), (.int v7)])) rfl (by rw [hml]; rfl) (argsL := [(.ref b9), (.int (0 : Int32)), (.int v7), (.int v24), (.int tg)]) (rest := [(.int v7)]) (lenOf pd4 rfl) rfl (by show 2 * 0 + _ ≤ _; exact Nat.le_of_eq rfl) (hb hby at_300) (fun _ _ => ⟨rfl, e25, (by decide : 1 + 0 ≤ _), (by decide : 8 + 0 ≤ _)⟩)
    dsimp only [Pt.U, Pt.locs, Pt.cells, Pt.slots] at X26 l26 y26 z26 st26 hQ26
    rw [y26, z26] at X26
    obtain ⟨rfl, Nq26, e26⟩ := hQ26
    have N26 : Fr n0 L26 := by rw [l26]; exact Fr.app N25 Nq26
    refine Wq.step st26 ?_
    show Wq _ _ _ _ _ (T26.setTop (mkF m 303 #[.val (.int xlaw_1), .val (.long ylaw_2), .second, .val (.int xlaw_3), .val (.int xlaw_4), .val (.int xlaw_5), .val (.int v7), .val (.int v24), .val (.int v30), .val (.int v36), .val (.int v45), .val (.int v54), .val (.int v63), .val (.int v72), .val (.int v82), .val (.int v92), .val (.ref b9), .val (.int v226), .val (.int v232), .val (.int tg), .unset, .unset] [(.int (f_bel (0 : Int32) v7 v24 tg (v113.toUInt32.toUInt16.toUInt32.toInt32))), (.int v7)]))
    generalize hv300 : (f_bel (0 : Int32) v7 v24 tg (v113.toUInt32.toUInt16.toUInt32.toInt32)) = v300
    show Wq _ _ _ _ _ (T26.setTop (mkF m 303 #[.val (.int xlaw_1), .val (.long ylaw_2), .second, .val (.int xlaw_3), .val (.int xlaw_4), .val (.int xlaw_5), .val (.int v7), .val (.int v24), .val (.int v30), .val (.int v36), .val (.int v45), .val (.int v54), .val (.int v63), .val (.int v72), .val (.int v82), .val (.int v92), .val (.ref b9), .val (.int v226), .val (.int v232), .val (.int tg), .unset, .unset] [(.int v300), (.int v7)]))
    refine Ow.iadd X26 hx (pc' := 304) (hb hby at_303) (z := (v7 + v300)) rfl ?_
    refine Ow.aload X26 hx (pc' := 306) (hb hby at_304) rfl rfl ?_
    refine Ow.iconst X26 hx (pc' := 307) (hb hby at_306) (z := (1 : Int32)) rfl ?_
    refine Ow.iload X26 hx (pc' := 309) (hb hby at_307) rfl ?_
    refine Ow.iload X26 hx (pc' := 311) (hb hby at_309) rfl ?_
    refine Ow.iload X26 hx (pc' := 313) (hb hby at_311) rfl ?_
    obtain ⟨_, _, ⟨T27, L27, k27, n27⟩, -, X27, ⟨Lc27, hQ27, l27, y27, z27⟩, st27⟩ := Jvm.LawKit.callS X26 hx (y := mt4) hown (mvT hZ (kw14 hw)) (mvT hZ (kw15 hw)) (mvT hZ (kw3 hw)) (mvT hZ (kw16 hw)) (by decide) (backOf (W := 1) (rm_bel l Z a0 hw [] b9 (1 : Int32) v7 v24 tg [(.int (v113.toUInt32.toUInt16.toUInt32.toInt32)), (.int (v127.toUInt32.toUInt16.toUInt32.toInt32)), (.int (v141.toUInt32.toUInt16.toUInt32.toInt32)), (.int (v155.toUInt32.toUInt16.toUInt32.toInt32)), (.int (v169.toUInt32.toUInt16.toUInt32.toInt32)), (.int (v183.toUInt32.toUInt16.toUInt32.toInt32)), (.int (v199.toUInt32.toUInt16.toUInt32.toInt32)), (.int (v215.toUInt32.toUInt16.toUInt32.toInt32))] (v127.toUInt32.toUInt16.toUInt32.toInt32) h25 n0 Z25 (own_cj1) (own_ck1) V_b9_t25) hZ (kw16 hw) (kw3 hw) (by decide) (by decide)) (g := (mkF m 313 #[.val (.int xlaw_1), .val (.long ylaw_2), .second, .val (.int xlaw_3), .val (.int xlaw_4), .val (.int xlaw_5), .val (.int v7), .val (.int v24), .val (.int v30), .val (.int v36), .val (.int v45), .val (.int v54), .val (.int v63), .val (.int v72), .val (.int v82), .val (.int v92), .val (.ref b9), .val (.int v226), .val (.int v232), .val (.int tg), .unset, .unset] [(.int tg), (.int v24), (.int v7), (.int (1 : Int32)), (.ref b9), (.int (v7 + v300))])) rfl (by rw [hml]; rfl) (argsL := [(.ref b9), (.int (1 : Int32)), (.int v7), (.int v24), (.int tg)]) (rest := [(.int (v7 + v300))]) (lenOf pd4 rfl) rfl (by show 2 * 0 + _ ≤ _; exact Nat.le_of_eq rfl) (hb hby at_313) (fun _ _ => ⟨rfl, e26, (by decide : 1 + 0 ≤ _), (by decide : 8 + 0 ≤ _)⟩)
    dsimp only [Pt.U, Pt.locs, Pt.cells, Pt.slots] at X27 l27 y27 z27 st27 hQ27
    rw [y27, z27] at X27
    obtain ⟨rfl, Nq27, e27⟩ := hQ27
    have N27 : Fr n0 L27 := by rw [l27]; exact Fr.app N26 Nq27
    refine Wq.step st27 ?_
    show Wq _ _ _ _ _ (T27.setTop (mkF m 316 #[.val (.int xlaw_1), .val (.long ylaw_2), .second, .val (.int xlaw_3), .val (.int xlaw_4), .val (.int xlaw_5), .val (.int v7), .val (.int v24), .val (.int v30), .val (.int v36), .val (.int v45), .val (.int v54), .val (.int v63), .val (.int v72), .val (.int v82), .val (.int v92), .val (.ref b9), .val (.int v226), .val (.int v232), .val (.int tg), .unset, .unset] [(.int (f_bel (1 : Int32) v7 v24 tg (v127.toUInt32.toUInt16.toUInt32.toInt32))), (.int (v7 + v300))]))
    generalize hv313 : (f_bel (1 : Int32) v7 v24 tg (v127.toUInt32.toUInt16.toUInt32.toInt32)) = v313
    show Wq _ _ _ _ _ (T27.setTop (mkF m 316 #[.val (.int xlaw_1), .val (.long ylaw_2), .second, .val (.int xlaw_3), .val (.int xlaw_4), .val (.int xlaw_5), .val (.int v7), .val (.int v24), .val (.int v30), .val (.int v36), .val (.int v45), .val (.int v54), .val (.int v63), .val (.int v72), .val (.int v82), .val (.int v92), .val (.ref b9), .val (.int v226), .val (.int v232), .val (.int tg), .unset, .unset] [(.int v313), (.int (v7 + v300))]))
    refine Ow.iadd X27 hx (pc' := 317) (hb hby at_316) (z := ((v7 + v300) + v313)) rfl ?_
    refine Ow.aload X27 hx (pc' := 319) (hb hby at_317) rfl rfl ?_
    refine Ow.iconst X27 hx (pc' := 320) (hb hby at_319) (z := (2 : Int32)) rfl ?_
    refine Ow.iload X27 hx (pc' := 322) (hb hby at_320) rfl ?_
    refine Ow.iload X27 hx (pc' := 324) (hb hby at_322) rfl ?_
    refine Ow.iload X27 hx (pc' := 326) (hb hby at_324) rfl ?_
    obtain ⟨_, _, ⟨T28, L28, k28, n28⟩, -, X28, ⟨Lc28, hQ28, l28, y28, z28⟩, st28⟩ := Jvm.LawKit.callS X27 hx (y := mt4) hown (mvT hZ (kw14 hw)) (mvT hZ (kw15 hw)) (mvT hZ (kw3 hw)) (mvT hZ (kw16 hw)) (by decide) (backOf (W := 1) (rm_bel l Z a0 hw [] b9 (2 : Int32) v7 v24 tg [(.int (v113.toUInt32.toUInt16.toUInt32.toInt32)), (.int (v127.toUInt32.toUInt16.toUInt32.toInt32)), (.int (v141.toUInt32.toUInt16.toUInt32.toInt32)), (.int (v155.toUInt32.toUInt16.toUInt32.toInt32)), (.int (v169.toUInt32.toUInt16.toUInt32.toInt32)), (.int (v183.toUInt32.toUInt16.toUInt32.toInt32)), (.int (v199.toUInt32.toUInt16.toUInt32.toInt32)), (.int (v215.toUInt32.toUInt16.toUInt32.toInt32))] (v141.toUInt32.toUInt16.toUInt32.toInt32) h25 n0 Z25 (own_cj2) (own_ck2) V_b9_t25) hZ (kw16 hw) (kw3 hw) (by decide) (by decide)) (g := (mkF m 326 #[.val (.int xlaw_1), .val (.long ylaw_2), .second, .val (.int xlaw_3), .val (.int xlaw_4), .val (.int xlaw_5), .val (.int v7), .val (.int v24), .val (.int v30), .val (.int v36), .val (.int v45), .val (.int v54), .val (.int v63), .val (.int v72), .val (.int v82), .val (.int v92), .val (.ref b9), .val (.int v226), .val (.int v232), .val (.int tg), .unset, .unset] [(.int tg), (.int v24), (.int v7), (.int (2 : Int32)), (.ref b9), (.int ((v7 + v300) + v313))])) rfl (by rw [hml]; rfl) (argsL := [(.ref b9), (.int (2 : Int32)), (.int v7), (.int v24), (.int tg)]) (rest := [(.int ((v7 + v300) + v313))]) (lenOf pd4 rfl) rfl (by show 2 * 0 + _ ≤ _; exact Nat.le_of_eq rfl) (hb hby at_326) (fun _ _ => ⟨rfl, e27, (by decide : 1 + 0 ≤ _), (by decide : 8 + 0 ≤ _)⟩)
    dsimp only [Pt.U, Pt.locs, Pt.cells, Pt.slots] at X28 l28 y28 z28 st28 hQ28
    rw [y28, z28] at X28
    obtain ⟨rfl, Nq28, e28⟩ := hQ28
    have N28 : Fr n0 L28 := by rw [l28]; exact Fr.app N27 Nq28
    refine Wq.step st28 ?_
    show Wq _ _ _ _ _ (T28.setTop (mkF m 329 #[.val (.int xlaw_1), .val (.long ylaw_2), .second, .val (.int xlaw_3), .val (.int xlaw_4), .val (.int xlaw_5), .val (.int v7), .val (.int v24), .val (.int v30), .val (.int v36), .val (.int v45), .val (.int v54), .val (.int v63), .val (.int v72), .val (.int v82), .val (.int v92), .val (.ref b9), .val (.int v226), .val (.int v232), .val (.int tg), .unset, .unset] [(.int (f_bel (2 : Int32) v7 v24 tg (v141.toUInt32.toUInt16.toUInt32.toInt32))), (.int ((v7 + v300) + v313))]))
    generalize hv326 : (f_bel (2 : Int32) v7 v24 tg (v141.toUInt32.toUInt16.toUInt32.toInt32)) = v326
    show Wq _ _ _ _ _ (T28.setTop (mkF m 329 #[.val (.int xlaw_1), .val (.long ylaw_2), .second, .val (.int xlaw_3), .val (.int xlaw_4), .val (.int xlaw_5), .val (.int v7), .val (.int v24), .val (.int v30), .val (.int v36), .val (.int v45), .val (.int v54), .val (.int v63), .val (.int v72), .val (.int v82), .val (.int v92), .val (.ref b9), .val (.int v226), .val (.int v232), .val (.int tg), .unset, .unset] [(.int v326), (.int ((v7 + v300) + v313))]))
    refine Ow.iadd X28 hx (pc' := 330) (hb hby at_329) (z := (((v7 + v300) + v313) + v326)) rfl ?_
    refine Ow.aload X28 hx (pc' := 332) (hb hby at_330) rfl rfl ?_
    refine Ow.iconst X28 hx (pc' := 333) (hb hby at_332) (z := (3 : Int32)) rfl ?_
    refine Ow.iload X28 hx (pc' := 335) (hb hby at_333) rfl ?_
    refine Ow.iload X28 hx (pc' := 337) (hb hby at_335) rfl ?_
    refine Ow.iload X28 hx (pc' := 339) (hb hby at_337) rfl ?_
    obtain ⟨_, _, ⟨T29, L29, k29, n29⟩, -, X29, ⟨Lc29, hQ29, l29, y29, z29⟩, st29⟩ := Jvm.LawKit.callS X28 hx (y := mt4) hown (mvT hZ (kw14 hw)) (mvT hZ (kw15 hw)) (mvT hZ (kw3 hw)) (mvT hZ (kw16 hw)) (by decide) (backOf (W := 1) (rm_bel l Z a0 hw [] b9 (3 : Int32) v7 v24 tg [(.int (v113.toUInt32.toUInt16.toUInt32.toInt32)), (.int (v127.toUInt32.toUInt16.toUInt32.toInt32)), (.int (v141.toUInt32.toUInt16.toUInt32.toInt32)), (.int (v155.toUInt32.toUInt16.toUInt32.toInt32)), (.int (v169.toUInt32.toUInt16.toUInt32.toInt32)), (.int (v183.toUInt32.toUInt16.toUInt32.toInt32)), (.int (v199.toUInt32.toUInt16.toUInt32.toInt32)), (.int (v215.toUInt32.toUInt16.toUInt32.toInt32))] (v155.toUInt32.toUInt16.toUInt32.toInt32) h25 n0 Z25 (own_cj3) (own_ck3) V_b9_t25) hZ (kw16 hw) (kw3 hw) (by decide) (by decide)) (g := (mkF m 339 #[.val (.int xlaw_1), .val (.long ylaw_2), .second, .val (.int xlaw_3), .val (.int xlaw_4), .val (.int xlaw_5), .val (.int v7), .val (.int v24), .val (.int v30), .val (.int v36), .val (.int v45), .val (.int v54), .val (.int v63), .val (.int v72), .val (.int v82), .val (.int v92), .val (.ref b9), .val (.int v226), .val (.int v232), .val (.int tg), .unset, .unset] [(.int tg), (.int v24), (.int v7), (.int (3 : Int32)), (.ref b9), (.int (((v7 + v300) + v313) + v326))])) rfl (by rw [hml]; rfl) (argsL := [(.ref b9), (.int (3 : Int32)), (.int v7), (.int v24), (.int tg)]) (rest := [(.int (((v7 + v300) + v313) + v326))]) (lenOf pd4 rfl) rfl (by show 2 * 0 + _ ≤ _; exact Nat.le_of_eq rfl) (hb hby at_339) (fun _ _ => ⟨rfl, e28, (by decide : 1 + 0 ≤ _), (by decide : 8 + 0 ≤ _)⟩)
    dsimp only [Pt.U, Pt.locs, Pt.cells, Pt.slots] at X29 l29 y29 z29 st29 hQ29
    rw [y29, z29] at X29
    obtain ⟨rfl, Nq29, e29⟩ := hQ29
    have N29 : Fr n0 L29 := by rw [l29]; exact Fr.app N28 Nq29
    refine Wq.step st29 ?_
    show Wq _ _ _ _ _ (T29.setTop (mkF m 342 #[.val (.int xlaw_1), .val (.long ylaw_2), .second, .val (.int xlaw_3), .val (.int xlaw_4), .val (.int xlaw_5), .val (.int v7), .val (.int v24), .val (.int v30), .val (.int v36), .val (.int v45), .val (.int v54), .val (.int v63), .val (.int v72), .val (.int v82), .val (.int v92), .val (.ref b9), .val (.int v226), .val (.int v232), .val (.int tg), .unset, .unset] [(.int (f_bel (3 : Int32) v7 v24 tg (v155.toUInt32.toUInt16.toUInt32.toInt32))), (.int (((v7 + v300) + v313) + v326))]))
    generalize hv339 : (f_bel (3 : Int32) v7 v24 tg (v155.toUInt32.toUInt16.toUInt32.toInt32)) = v339
    show Wq _ _ _ _ _ (T29.setTop (mkF m 342 #[.val (.int xlaw_1), .val (.long ylaw_2), .second, .val (.int xlaw_3), .val (.int xlaw_4), .val (.int xlaw_5), .val (.int v7), .val (.int v24), .val (.int v30), .val (.int v36), .val (.int v45), .val (.int v54), .val (.int v63), .val (.int v72), .val (.int v82), .val (.int v92), .val (.ref b9), .val (.int v226), .val (.int v232), .val (.int tg), .unset, .unset] [(.int v339), (.int (((v7 + v300) + v313) + v326))]))
    refine Ow.iadd X29 hx (pc' := 343) (hb hby at_342) (z := ((((v7 + v300) + v313) + v326) + v339)) rfl ?_
    refine Ow.aload X29 hx (pc' := 345) (hb hby at_343) rfl rfl ?_
    refine Ow.iconst X29 hx (pc' := 346) (hb hby at_345) (z := (4 : Int32)) rfl ?_
    refine Ow.iload X29 hx (pc' := 348) (hb hby at_346) rfl ?_
    refine Ow.iload X29 hx (pc' := 350) (hb hby at_348) rfl ?_
    refine Ow.iload X29 hx (pc' := 352) (hb hby at_350) rfl ?_
    obtain ⟨_, _, ⟨T30, L30, k30, n30⟩, -, X30, ⟨Lc30, hQ30, l30, y30, z30⟩, st30⟩ := Jvm.LawKit.callS X29 hx (y := mt4) hown (mvT hZ (kw14 hw)) (mvT hZ (kw15 hw)) (mvT hZ (kw3 hw)) (mvT hZ (kw16 hw)) (by decide) (backOf (W := 1) (rm_bel l Z a0 hw [] b9 (4 : Int32) v7 v24 tg [(.int (v113.toUInt32.toUInt16.toUInt32.toInt32)), (.int (v127.toUInt32.toUInt16.toUInt32.toInt32)), (.int (v141.toUInt32.toUInt16.toUInt32.toInt32)), (.int (v155.toUInt32.toUInt16.toUInt32.toInt32)), (.int (v169.toUInt32.toUInt16.toUInt32.toInt32)), (.int (v183.toUInt32.toUInt16.toUInt32.toInt32)), (.int (v199.toUInt32.toUInt16.toUInt32.toInt32)), (.int (v215.toUInt32.toUInt16.toUInt32.toInt32))] (v169.toUInt32.toUInt16.toUInt32.toInt32) h25 n0 Z25 (own_cj4) (own_ck4) V_b9_t25) hZ (kw16 hw) (kw3 hw) (by decide) (by decide)) (g := (mkF m 352 #[.val (.int xlaw_1), .val (.long ylaw_2), .second, .val (.int xlaw_3), .val (.int xlaw_4), .val (.int xlaw_5), .val (.int v7), .val (.int v24), .val (.int v30), .val (.int v36), .val (.int v45), .val (.int v54), .val (.int v63), .val (.int v72), .val (.int v82), .val (.int v92), .val (.ref b9), .val (.int v226), .val (.int v232), .val (.int tg), .unset, .unset] [(.int tg), (.int v24), (.int v7), (.int (4 : Int32)), (.ref b9), (.int ((((v7 + v300) + v313) + v326) + v339))])) rfl (by rw [hml]; rfl) (argsL := [(.ref b9), (.int (4 : Int32)), (.int v7), (.int v24), (.int tg)]) (rest := [(.int ((((v7 + v300) + v313) + v326) + v339))]) (lenOf pd4 rfl) rfl (by show 2 * 0 + _ ≤ _; exact Nat.le_of_eq rfl) (hb hby at_352) (fun _ _ => ⟨rfl, e29, (by decide : 1 + 0 ≤ _), (by decide : 8 + 0 ≤ _)⟩)
    dsimp only [Pt.U, Pt.locs, Pt.cells, Pt.slots] at X30 l30 y30 z30 st30 hQ30
    rw [y30, z30] at X30
    obtain ⟨rfl, Nq30, e30⟩ := hQ30
    have N30 : Fr n0 L30 := by rw [l30]; exact Fr.app N29 Nq30
    refine Wq.step st30 ?_
    show Wq _ _ _ _ _ (T30.setTop (mkF m 355 #[.val (.int xlaw_1), .val (.long ylaw_2), .second, .val (.int xlaw_3), .val (.int xlaw_4), .val (.int xlaw_5), .val (.int v7), .val (.int v24), .val (.int v30), .val (.int v36), .val (.int v45), .val (.int v54), .val (.int v63), .val (.int v72), .val (.int v82), .val (.int v92), .val (.ref b9), .val (.int v226), .val (.int v232), .val (.int tg), .unset, .unset] [(.int (f_bel (4 : Int32) v7 v24 tg (v169.toUInt32.toUInt16.toUInt32.toInt32))), (.int ((((v7 + v300) + v313) + v326) + v339))]))
    generalize hv352 : (f_bel (4 : Int32) v7 v24 tg (v169.toUInt32.toUInt16.toUInt32.toInt32)) = v352
    show Wq _ _ _ _ _ (T30.setTop (mkF m 355 #[.val (.int xlaw_1), .val (.long ylaw_2), .second, .val (.int xlaw_3), .val (.int xlaw_4), .val (.int xlaw_5), .val (.int v7), .val (.int v24), .val (.int v30), .val (.int v36), .val (.int v45), .val (.int v54), .val (.int v63), .val (.int v72), .val (.int v82), .val (.int v92), .val (.ref b9), .val (.int v226), .val (.int v232), .val (.int tg), .unset, .unset] [(.int v352), (.int ((((v7 + v300) + v313) + v326) + v339))]))
    refine Ow.iadd X30 hx (pc' := 356) (hb hby at_355) (z := (((((v7 + v300) + v313) + v326) + v339) + v352)) rfl ?_
    refine Ow.aload X30 hx (pc' := 358) (hb hby at_356) rfl rfl ?_
    refine Ow.iconst X30 hx (pc' := 359) (hb hby at_358) (z := (5 : Int32)) rfl ?_
    refine Ow.iload X30 hx (pc' := 361) (hb hby at_359) rfl ?_
    refine Ow.iload X30 hx (pc' := 363) (hb hby at_361) rfl ?_
    refine Ow.iload X30 hx (pc' := 365) (hb hby at_363) rfl ?_
    obtain ⟨_, _, ⟨T31, L31, k31, n31⟩, -, X31, ⟨Lc31, hQ31, l31, y31, z31⟩, st31⟩ := Jvm.LawKit.callS X30 hx (y := mt4) hown (mvT hZ (kw14 hw)) (mvT hZ (kw15 hw)) (mvT hZ (kw3 hw)) (mvT hZ (kw16 hw)) (by decide) (backOf (W := 1) (rm_bel l Z a0 hw [] b9 (5 : Int32) v7 v24 tg [(.int (v113.toUInt32.toUInt16.toUInt32.toInt32)), (.int (v127.toUInt32.toUInt16.toUInt32.toInt32)), (.int (v141.toUInt32.toUInt16.toUInt32.toInt32)), (.int (v155.toUInt32.toUInt16.toUInt32.toInt32)), (.int (v169.toUInt32.toUInt16.toUInt32.toInt32)), (.int (v183.toUInt32.toUInt16.toUInt32.toInt32)), (.int (v199.toUInt32.toUInt16.toUInt32.toInt32)), (.int (v215.toUInt32.toUInt16.toUInt32.toInt32))] (v183.toUInt32.toUInt16.toUInt32.toInt32) h25 n0 Z25 (own_cj5) (own_ck5) V_b9_t25) hZ (kw16 hw) (kw3 hw) (by decide) (by decide)) (g := (mkF m 365 #[.val (.int xlaw_1), .val (.long ylaw_2), .second, .val (.int xlaw_3), .val (.int xlaw_4), .val (.int xlaw_5), .val (.int v7), .val (.int v24), .val (.int v30), .val (.int v36), .val (.int v45), .val (.int v54), .val (.int v63), .val (.int v72), .val (.int v82), .val (.int v92), .val (.ref b9), .val (.int v226), .val (.int v232), .val (.int tg), .unset, .unset] [(.int tg), (.int v24), (.int v7), (.int (5 : Int32)), (.ref b9), (.int (((((v7 + v300) + v313) + v326) + v339) + v352))])) rfl (by rw [hml]; rfl) (argsL := [(.ref b9), (.int (5 : Int32)), (.int v7), (.int v24), (.int tg)]) (rest := [(.int (((((v7 + v300) + v313) + v326) + v339) + v352))]) (lenOf pd4 rfl) rfl (by show 2 * 0 + _ ≤ _; exact Nat.le_of_eq rfl) (hb hby at_365) (fun _ _ => ⟨rfl, e30, (by decide : 1 + 0 ≤ _), (by decide : 8 + 0 ≤ _)⟩)
    dsimp only [Pt.U, Pt.locs, Pt.cells, Pt.slots] at X31 l31 y31 z31 st31 hQ31
    rw [y31, z31] at X31
    obtain ⟨rfl, Nq31, e31⟩ := hQ31
    have N31 : Fr n0 L31 := by rw [l31]; exact Fr.app N30 Nq31
    refine Wq.step st31 ?_
    show Wq _ _ _ _ _ (T31.setTop (mkF m 368 #[.val (.int xlaw_1), .val (.long ylaw_2), .second, .val (.int xlaw_3), .val (.int xlaw_4), .val (.int xlaw_5), .val (.int v7), .val (.int v24), .val (.int v30), .val (.int v36), .val (.int v45), .val (.int v54), .val (.int v63), .val (.int v72), .val (.int v82), .val (.int v92), .val (.ref b9), .val (.int v226), .val (.int v232), .val (.int tg), .unset, .unset] [(.int (f_bel (5 : Int32) v7 v24 tg (v183.toUInt32.toUInt16.toUInt32.toInt32))), (.int (((((v7 + v300) + v313) + v326) + v339) + v352))]))
    generalize hv365 : (f_bel (5 : Int32) v7 v24 tg (v183.toUInt32.toUInt16.toUInt32.toInt32)) = v365
    show Wq _ _ _ _ _ (T31.setTop (mkF m 368 #[.val (.int xlaw_1), .val (.long ylaw_2), .second, .val (.int xlaw_3), .val (.int xlaw_4), .val (.int xlaw_5), .val (.int v7), .val (.int v24), .val (.int v30), .val (.int v36), .val (.int v45), .val (.int v54), .val (.int v63), .val (.int v72), .val (.int v82), .val (.int v92), .val (.ref b9), .val (.int v226), .val (.int v232), .val (.int tg), .unset, .unset] [(.int v365), (.int (((((v7 + v300) + v313) + v326) + v339) + v352))]))
    refine Ow.iadd X31 hx (pc' := 369) (hb hby at_368) (z := ((((((v7 + v300) + v313) + v326) + v339) + v352) + v365)) rfl ?_
    refine Ow.aload X31 hx (pc' := 371) (hb hby at_369) rfl rfl ?_
    refine Ow.bipush X31 hx (pc' := 373) (hb hby at_371) (z := (6 : Int32)) rfl ?_
    refine Ow.iload X31 hx (pc' := 375) (hb hby at_373) rfl ?_
    refine Ow.iload X31 hx (pc' := 377) (hb hby at_375) rfl ?_
    refine Ow.iload X31 hx (pc' := 379) (hb hby at_377) rfl ?_
    obtain ⟨_, _, ⟨T32, L32, k32, n32⟩, -, X32, ⟨Lc32, hQ32, l32, y32, z32⟩, st32⟩ := Jvm.LawKit.callS X31 hx (y := mt4) hown (mvT hZ (kw14 hw)) (mvT hZ (kw15 hw)) (mvT hZ (kw3 hw)) (mvT hZ (kw16 hw)) (by decide) (backOf (W := 1) (rm_bel l Z a0 hw [] b9 (6 : Int32) v7 v24 tg [(.int (v113.toUInt32.toUInt16.toUInt32.toInt32)), (.int (v127.toUInt32.toUInt16.toUInt32.toInt32)), (.int (v141.toUInt32.toUInt16.toUInt32.toInt32)), (.int (v155.toUInt32.toUInt16.toUInt32.toInt32)), (.int (v169.toUInt32.toUInt16.toUInt32.toInt32)), (.int (v183.toUInt32.toUInt16.toUInt32.toInt32)), (.int (v199.toUInt32.toUInt16.toUInt32.toInt32)), (.int (v215.toUInt32.toUInt16.toUInt32.toInt32))] (v199.toUInt32.toUInt16.toUInt32.toInt32) h25 n0 Z25 (own_cj6) (own_ck6) V_b9_t25) hZ (kw16 hw) (kw3 hw) (by decide) (by decide)) (g := (mkF m 379 #[.val (.int xlaw_1), .val (.long ylaw_2), .second, .val (.int xlaw_3), .val (.int xlaw_4), .val (.int xlaw_5), .val (.int v7), .val (.int v24), .val (.int v30), .val (.int v36), .val (.int v45), .val (.int v54), .val (.int v63), .val (.int v72), .val (.int v82), .val (.int v92), .val (.ref b9), .val (.int v226), .val (.int v232), .val (.int tg), .unset, .unset] [(.int tg), (.int v24), (.int v7), (.int (6 : Int32)), (.ref b9), (.int ((((((v7 + v300) + v313) + v326) + v339) + v352) + v365))])) rfl (by rw [hml]; rfl) (argsL := [(.ref b9), (.int (6 : Int32)), (.int v7), (.int v24), (.int tg)]) (rest := [(.int ((((((v7 + v300) + v313) + v326) + v339) + v352) + v365))]) (lenOf pd4 rfl) rfl (by show 2 * 0 + _ ≤ _; exact Nat.le_of_eq rfl) (hb hby at_379) (fun _ _ => ⟨rfl, e31, (by decide : 1 + 0 ≤ _), (by decide : 8 + 0 ≤ _)⟩)
    dsimp only [Pt.U, Pt.locs, Pt.cells, Pt.slots] at X32 l32 y32 z32 st32 hQ32
    rw [y32, z32] at X32
    obtain ⟨rfl, Nq32, e32⟩ := hQ32
    have N32 : Fr n0 L32 := by rw [l32]; exact Fr.app N31 Nq32
    refine Wq.step st32 ?_
    show Wq _ _ _ _ _ (T32.setTop (mkF m 382 #[.val (.int xlaw_1), .val (.long ylaw_2), .second, .val (.int xlaw_3), .val (.int xlaw_4), .val (.int xlaw_5), .val (.int v7), .val (.int v24), .val (.int v30), .val (.int v36), .val (.int v45), .val (.int v54), .val (.int v63), .val (.int v72), .val (.int v82), .val (.int v92), .val (.ref b9), .val (.int v226), .val (.int v232), .val (.int tg), .unset, .unset] [(.int (f_bel (6 : Int32) v7 v24 tg (v199.toUInt32.toUInt16.toUInt32.toInt32))), (.int ((((((v7 + v300) + v313) + v326) + v339) + v352) + v365))]))
    generalize hv379 : (f_bel (6 : Int32) v7 v24 tg (v199.toUInt32.toUInt16.toUInt32.toInt32)) = v379
    show Wq _ _ _ _ _ (T32.setTop (mkF m 382 #[.val (.int xlaw_1), .val (.long ylaw_2), .second, .val (.int xlaw_3), .val (.int xlaw_4), .val (.int xlaw_5), .val (.int v7), .val (.int v24), .val (.int v30), .val (.int v36), .val (.int v45), .val (.int v54), .val (.int v63), .val (.int v72), .val (.int v82), .val (.int v92), .val (.ref b9), .val (.int v226), .val (.int v232), .val (.int tg), .unset, .unset] [(.int v379), (.int ((((((v7 + v300) + v313) + v326) + v339) + v352) + v365))]))
    refine Ow.iadd X32 hx (pc' := 383) (hb hby at_382) (z := (((((((v7 + v300) + v313) + v326) + v339) + v352) + v365) + v379)) rfl ?_
    refine Ow.aload X32 hx (pc' := 385) (hb hby at_383) rfl rfl ?_
    refine Ow.bipush X32 hx (pc' := 387) (hb hby at_385) (z := (7 : Int32)) rfl ?_
    refine Ow.iload X32 hx (pc' := 389) (hb hby at_387) rfl ?_
    refine Ow.iload X32 hx (pc' := 391) (hb hby at_389) rfl ?_
    refine Ow.iload X32 hx (pc' := 393) (hb hby at_391) rfl ?_
    obtain ⟨_, _, ⟨T33, L33, k33, n33⟩, -, X33, ⟨Lc33, hQ33, l33, y33, z33⟩, st33⟩ := Jvm.LawKit.callS X32 hx (y := mt4) hown (mvT hZ (kw14 hw)) (mvT hZ (kw15 hw)) (mvT hZ (kw3 hw)) (mvT hZ (kw16 hw)) (by decide) (backOf (W := 1) (rm_bel l Z a0 hw [] b9 (7 : Int32) v7 v24 tg [(.int (v113.toUInt32.toUInt16.toUInt32.toInt32)), (.int (v127.toUInt32.toUInt16.toUInt32.toInt32)), (.int (v141.toUInt32.toUInt16.toUInt32.toInt32)), (.int (v155.toUInt32.toUInt16.toUInt32.toInt32)), (.int (v169.toUInt32.toUInt16.toUInt32.toInt32)), (.int (v183.toUInt32.toUInt16.toUInt32.toInt32)), (.int (v199.toUInt32.toUInt16.toUInt32.toInt32)), (.int (v215.toUInt32.toUInt16.toUInt32.toInt32))] (v215.toUInt32.toUInt16.toUInt32.toInt32) h25 n0 Z25 (own_cj7) (own_ck7) V_b9_t25) hZ (kw16 hw) (kw3 hw) (by decide) (by decide)) (g := (mkF m 393 #[.val (.int xlaw_1), .val (.long ylaw_2), .second, .val (.int xlaw_3), .val (.int xlaw_4), .val (.int xlaw_5), .val (.int v7), .val (.int v24), .val (.int v30), .val (.int v36), .val (.int v45), .val (.int v54), .val (.int v63), .val (.int v72), .val (.int v82), .val (.int v92), .val (.ref b9), .val (.int v226), .val (.int v232), .val (.int tg), .unset, .unset] [(.int tg), (.int v24), (.int v7), (.int (7 : Int32)), (.ref b9), (.int (((((((v7 + v300) + v313) + v326) + v339) + v352) + v365) + v379))])) rfl (by rw [hml]; rfl) (argsL := [(.ref b9), (.int (7 : Int32)), (.int v7), (.int v24), (.int tg)]) (rest := [(.int (((((((v7 + v300) + v313) + v326) + v339) + v352) + v365) + v379))]) (lenOf pd4 rfl) rfl (by show 2 * 0 + _ ≤ _; exact Nat.le_of_eq rfl) (hb hby at_393) (fun _ _ => ⟨rfl, e32, (by decide : 1 + 0 ≤ _), (by decide : 8 + 0 ≤ _)⟩)
    dsimp only [Pt.U, Pt.locs, Pt.cells, Pt.slots] at X33 l33 y33 z33 st33 hQ33
    rw [y33, z33] at X33
    obtain ⟨rfl, Nq33, e33⟩ := hQ33
    have N33 : Fr n0 L33 := by rw [l33]; exact Fr.app N32 Nq33
    refine Wq.step st33 ?_
    show Wq _ _ _ _ _ (T33.setTop (mkF m 396 #[.val (.int xlaw_1), .val (.long ylaw_2), .second, .val (.int xlaw_3), .val (.int xlaw_4), .val (.int xlaw_5), .val (.int v7), .val (.int v24), .val (.int v30), .val (.int v36), .val (.int v45), .val (.int v54), .val (.int v63), .val (.int v72), .val (.int v82), .val (.int v92), .val (.ref b9), .val (.int v226), .val (.int v232), .val (.int tg), .unset, .unset] [(.int (f_bel (7 : Int32) v7 v24 tg (v215.toUInt32.toUInt16.toUInt32.toInt32))), (.int (((((((v7 + v300) + v313) + v326) + v339) + v352) + v365) + v379))]))
    generalize hv393 : (f_bel (7 : Int32) v7 v24 tg (v215.toUInt32.toUInt16.toUInt32.toInt32)) = v393
    show Wq _ _ _ _ _ (T33.setTop (mkF m 396 #[.val (.int xlaw_1), .val (.long ylaw_2), .second, .val (.int xlaw_3), .val (.int xlaw_4), .val (.int xlaw_5), .val (.int v7), .val (.int v24), .val (.int v30), .val (.int v36), .val (.int v45), .val (.int v54), .val (.int v63), .val (.int v72), .val (.int v82), .val (.int v92), .val (.ref b9), .val (.int v226), .val (.int v232), .val (.int tg), .unset, .unset] [(.int v393), (.int (((((((v7 + v300) + v313) + v326) + v339) + v352) + v365) + v379))]))
    refine Ow.iadd X33 hx (pc' := 397) (hb hby at_396) (z := ((((((((v7 + v300) + v313) + v326) + v339) + v352) + v365) + v379) + v393)) rfl ?_
    refine Ow.istore X33 hx (pc' := 399) (hb hby at_397) (l' := #[.val (.int xlaw_1), .val (.long ylaw_2), .second, .val (.int xlaw_3), .val (.int xlaw_4), .val (.int xlaw_5), .val (.int v7), .val (.int v24), .val (.int v30), .val (.int v36), .val (.int v45), .val (.int v54), .val (.int v63), .val (.int v72), .val (.int v82), .val (.int v92), .val (.ref b9), .val (.int v226), .val (.int v232), .val (.int tg), .val (.int ((((((((v7 + v300) + v313) + v326) + v339) + v352) + v365) + v379) + v393)), .unset]) rfl ?_
    generalize hv397 : ((((((((v7 + v300) + v313) + v326) + v339) + v352) + v365) + v379) + v393) = v397
    refine Ow.aload X33 hx (pc' := 401) (hb hby at_399) rfl rfl ?_
    refine Ow.iload X33 hx (pc' := 403) (hb hby at_401) rfl ?_
    refine Ow.iload X33 hx (pc' := 405) (hb hby at_403) rfl ?_
    refine Ow.iload X33 hx (pc' := 407) (hb hby at_405) rfl ?_
    obtain ⟨_, _, ⟨T34, L34, k34, n34⟩, -, X34, ⟨Lc34, hQ34, l34, y34, z34⟩, st34⟩ := Jvm.LawKit.callS X33 hx (y := mt5) hown (mvT hZ (kw17 hw)) (mvT hZ (kw18 hw)) (mvT hZ (kw19 hw)) (mvT hZ (kw20 hw)) (by decide) (backOf (W := 0) (rm_fa l Z a0 hw [] b9 v7 v24 tg (own_c (v113.toUInt32.toUInt16.toUInt32.toInt32) (v127.toUInt32.toUInt16.toUInt32.toInt32) (v141.toUInt32.toUInt16.toUInt32.toInt32) (v155.toUInt32.toUInt16.toUInt32.toInt32) (v169.toUInt32.toUInt16.toUInt32.toInt32) (v183.toUInt32.toUInt16.toUInt32.toInt32) (v199.toUInt32.toUInt16.toUInt32.toInt32) (v215.toUInt32.toUInt16.toUInt32.toInt32)) [(.int (v113.toUInt32.toUInt16.toUInt32.toInt32)), (.int (v127.toUInt32.toUInt16.toUInt32.toInt32)), (.int (v141.toUInt32.toUInt16.toUInt32.toInt32)), (.int (v155.toUInt32.toUInt16.toUInt32.toInt32)), (.int (v169.toUInt32.toUInt16.toUInt32.toInt32)), (.int (v183.toUInt32.toUInt16.toUInt32.toInt32)), (.int (v199.toUInt32.toUInt16.toUInt32.toInt32)), (.int (v215.toUInt32.toUInt16.toUInt32.toInt32))] h25 n0 Z25 (own_cget) ((own_HS hv7 hv24 hv30 hv36 hv45 hv54 hv63 hv72 hv82 hv92 hv113 hv127 hv141 hv155 hv169 hv183 hv199 hv215)) V_b9_t25) hZ (kw20 hw) (kw19 hw) (by decide) (by decide)) (g := (mkF m 407 #[.val (.int xlaw_1), .val (.long ylaw_2), .second, .val (.int xlaw_3), .val (.int xlaw_4), .val (.int xlaw_5), .val (.int v7), .val (.int v24), .val (.int v30), .val (.int v36), .val (.int v45), .val (.int v54), .val (.int v63), .val (.int v72), .val (.int v82), .val (.int v92), .val (.ref b9), .val (.int v226), .val (.int v232), .val (.int tg), .val (.int v397), .unset] [(.int tg), (.int v24), (.int v7), (.ref b9)])) rfl (by rw [hml]; rfl) (argsL := [(.ref b9), (.int v7), (.int v24), (.int tg)]) (rest := []) (lenOf pd5 rfl) rfl (by show 2 * 0 + _ ≤ _; exact Nat.le_of_eq rfl) (hb hby at_407) (fun _ _ => ⟨rfl, e33, (by decide : 1 + 0 ≤ _), (by decide : 8 + 0 ≤ _)⟩)
    dsimp only [Pt.U, Pt.locs, Pt.cells, Pt.slots] at X34 l34 y34 z34 st34 hQ34
    rw [y34, z34] at X34
    obtain ⟨r34, rfl, Nq34, e34, hP34⟩ := hQ34
    have N34 : Fr n0 L34 := by rw [l34]; exact Fr.app N33 Nq34
    refine Wq.step st34 ?_
    show Wq _ _ _ _ _ (T34.setTop (mkF m 410 #[.val (.int xlaw_1), .val (.long ylaw_2), .second, .val (.int xlaw_3), .val (.int xlaw_4), .val (.int xlaw_5), .val (.int v7), .val (.int v24), .val (.int v30), .val (.int v36), .val (.int v45), .val (.int v54), .val (.int v63), .val (.int v72), .val (.int v82), .val (.int v92), .val (.ref b9), .val (.int v226), .val (.int v232), .val (.int tg), .val (.int v397), .unset] [(.int r34)]))
    show Wq _ _ _ _ _ (T34.setTop (mkF m 410 #[.val (.int xlaw_1), .val (.long ylaw_2), .second, .val (.int xlaw_3), .val (.int xlaw_4), .val (.int xlaw_5), .val (.int v7), .val (.int v24), .val (.int v30), .val (.int v36), .val (.int v45), .val (.int v54), .val (.int v63), .val (.int v72), .val (.int v82), .val (.int v92), .val (.ref b9), .val (.int v226), .val (.int v232), .val (.int tg), .val (.int v397), .unset] [(.int r34)]))
    refine Ow.istore X34 hx (pc' := 412) (hb hby at_410) (l' := #[.val (.int xlaw_1), .val (.long ylaw_2), .second, .val (.int xlaw_3), .val (.int xlaw_4), .val (.int xlaw_5), .val (.int v7), .val (.int v24), .val (.int v30), .val (.int v36), .val (.int v45), .val (.int v54), .val (.int v63), .val (.int v72), .val (.int v82), .val (.int v92), .val (.ref b9), .val (.int v226), .val (.int v232), .val (.int tg), .val (.int v397), .val (.int r34)]) rfl ?_
    refine Ow.iload X34 hx (pc' := 414) (hb hby at_412) rfl ?_
    refine Ow.iload X34 hx (pc' := 416) (hb hby at_414) rfl ?_
    refine Ow.icmpNo X34 hx (pc' := 419) (hb hby at_416) (teq (own_final (own_fr hv7).1 (own_to hv7 hv24).2 hP34 hv300 hv313 hv326 hv339 hv352 hv365 hv379 hv393 hv397 : r34 = v397)).2 ?_
    refine Ow.iconst X34 hx (pc' := 420) (hb hby at_419) (z := (1 : Int32)) rfl ?_
    refine Ow.goto X34 hx (pc' := 424) (hb hby at_420) (by decide) (by decide) ?_
    exact Wq.ret X34 (BodyLoose.notSynchronized Bd) (rv := some (.int (1 : Int32))) (fun h => by rw [Bd.returns] at h; cases h) (fun _ hr => retN X34 hx (t := .boolean) Bd.returns (by simp) (hb hby at_424) hr) (by decide) (by decide) ⟨rfl, N34⟩
  by_cases hc236 : v232 = (0 : Int32)
  · skip
    refine Ow.ifNo X25 hx (pc' := 239) (hb hby at_236) ((if0 _ _).trans (teq hc236).2) ?_
    refine Ow.iload X25 hx (pc' := 241) (hb hby at_239) rfl ?_
    refine Ow.istore X25 hx (pc' := 243) (hb hby at_241) (l' := #[.val (.int xlaw_1), .val (.long ylaw_2), .second, .val (.int xlaw_3), .val (.int xlaw_4), .val (.int xlaw_5), .val (.int v7), .val (.int v24), .val (.int v30), .val (.int v36), .val (.int v45), .val (.int v54), .val (.int v63), .val (.int v72), .val (.int v82), .val (.int v92), .val (.ref b9), .val (.int v226), .val (.int v232), .val (.int xlaw_4), .unset, .unset]) rfl ?_
    refine Ow.goto X25 hx (pc' := 289) (hb hby at_243) (by decide) (by decide) ?_
    exact J289 xlaw_4
  · skip
    refine Ow.ifYes X25 hx (pc' := 246) (hb hby at_236) ((if0 _ _).trans (feq hc236).2) (by decide) (by decide) ?_
    refine Ow.iload X25 hx (pc' := 248) (hb hby at_246) rfl ?_
    refine Ow.iconst X25 hx (pc' := 249) (hb hby at_248) (z := (1 : Int32)) rfl ?_
    by_cases hc249 : v232 = (1 : Int32)
    · skip
      refine Ow.icmpNo X25 hx (pc' := 252) (hb hby at_249) (teq hc249).2 ?_
      refine Ow.aload X25 hx (pc' := 254) (hb hby at_252) rfl rfl ?_
      refine Ow.iload X25 hx (pc' := 256) (hb hby at_254) rfl ?_
      obtain ⟨w, hwv⟩ := own_pick (vs := [(.int (v113.toUInt32.toUInt16.toUInt32.toInt32)), (.int (v127.toUInt32.toUInt16.toUInt32.toInt32)), (.int (v141.toUInt32.toUInt16.toUInt32.toInt32)), (.int (v155.toUInt32.toUInt16.toUInt32.toInt32)), (.int (v169.toUInt32.toUInt16.toUInt32.toInt32)), (.int (v183.toUInt32.toUInt16.toUInt32.toInt32)), (.int (v199.toUInt32.toUInt16.toUInt32.toInt32)), (.int (v215.toUInt32.toUInt16.toUInt32.toInt32))]) [(v113.toUInt32.toUInt16.toUInt32.toInt32), (v127.toUInt32.toUInt16.toUInt32.toInt32), (v141.toUInt32.toUInt16.toUInt32.toInt32), (v155.toUInt32.toUInt16.toUInt32.toInt32), (v169.toUInt32.toUInt16.toUInt32.toInt32), (v183.toUInt32.toUInt16.toUInt32.toInt32), (v199.toUInt32.toUInt16.toUInt32.toInt32), (v215.toUInt32.toUInt16.toUInt32.toInt32)] (i := v226.toNatClampNeg) rfl (own_idx7 hv226).2
      refine Ow.ldC X25 hx hZ e25 V_b9_t25 (pc' := 257) (hb hby at_256) (j := v226) (i := v226.toNatClampNeg) (v := (.int w)) ((own_idx7 hv226).1) (rfl) (hwv) ?_
      refine Ow.istore X25 hx (pc' := 259) (hb hby at_257) (l' := #[.val (.int xlaw_1), .val (.long ylaw_2), .second, .val (.int xlaw_3), .val (.int xlaw_4), .val (.int xlaw_5), .val (.int v7), .val (.int v24), .val (.int v30), .val (.int v36), .val (.int v45), .val (.int v54), .val (.int v63), .val (.int v72), .val (.int v82), .val (.int v92), .val (.ref b9), .val (.int v226), .val (.int v232), .val (.int w), .unset, .unset]) rfl ?_
      refine Ow.goto X25 hx (pc' := 289) (hb hby at_259) (by decide) (by decide) ?_
      exact J289 w
    · skip
      refine Ow.icmpYes X25 hx (pc' := 262) (hb hby at_249) (feq hc249).2 (by decide) (by decide) ?_
      refine Ow.iload X25 hx (pc' := 264) (hb hby at_262) rfl ?_
      refine Ow.iconst X25 hx (pc' := 265) (hb hby at_264) (z := (2 : Int32)) rfl ?_
      by_cases hc265 : v232 = (2 : Int32)
      · skip
        refine Ow.icmpNo X25 hx (pc' := 268) (hb hby at_265) (teq hc265).2 ?_
        refine Ow.aload X25 hx (pc' := 270) (hb hby at_268) rfl rfl ?_
        refine Ow.iload X25 hx (pc' := 272) (hb hby at_270) rfl ?_
        obtain ⟨w, hwv⟩ := own_pick (vs := [(.int (v113.toUInt32.toUInt16.toUInt32.toInt32)), (.int (v127.toUInt32.toUInt16.toUInt32.toInt32)), (.int (v141.toUInt32.toUInt16.toUInt32.toInt32)), (.int (v155.toUInt32.toUInt16.toUInt32.toInt32)), (.int (v169.toUInt32.toUInt16.toUInt32.toInt32)), (.int (v183.toUInt32.toUInt16.toUInt32.toInt32)), (.int (v199.toUInt32.toUInt16.toUInt32.toInt32)), (.int (v215.toUInt32.toUInt16.toUInt32.toInt32))]) [(v113.toUInt32.toUInt16.toUInt32.toInt32), (v127.toUInt32.toUInt16.toUInt32.toInt32), (v141.toUInt32.toUInt16.toUInt32.toInt32), (v155.toUInt32.toUInt16.toUInt32.toInt32), (v169.toUInt32.toUInt16.toUInt32.toInt32), (v183.toUInt32.toUInt16.toUInt32.toInt32), (v199.toUInt32.toUInt16.toUInt32.toInt32), (v215.toUInt32.toUInt16.toUInt32.toInt32)] (i := v226.toNatClampNeg) rfl (own_idx7 hv226).2
        refine Ow.ldC X25 hx hZ e25 V_b9_t25 (pc' := 273) (hb hby at_272) (j := v226) (i := v226.toNatClampNeg) (v := (.int w)) ((own_idx7 hv226).1) (rfl) (hwv) ?_
        refine Ow.iconst X25 hx (pc' := 274) (hb hby at_273) (z := (1 : Int32)) rfl ?_
        refine Ow.iadd X25 hx (pc' := 275) (hb hby at_274) (z := (w + (1 : Int32))) rfl ?_
        refine Ow.istore X25 hx (pc' := 277) (hb hby at_275) (l' := #[.val (.int xlaw_1), .val (.long ylaw_2), .second, .val (.int xlaw_3), .val (.int xlaw_4), .val (.int xlaw_5), .val (.int v7), .val (.int v24), .val (.int v30), .val (.int v36), .val (.int v45), .val (.int v54), .val (.int v63), .val (.int v72), .val (.int v82), .val (.int v92), .val (.ref b9), .val (.int v226), .val (.int v232), .val (.int (w + (1 : Int32))), .unset, .unset]) rfl ?_
        generalize hv275 : (w + (1 : Int32)) = v275
        refine Ow.goto X25 hx (pc' := 289) (hb hby at_277) (by decide) (by decide) ?_
        exact J289 v275
      · skip
        refine Ow.icmpYes X25 hx (pc' := 280) (hb hby at_265) (feq hc265).2 (by decide) (by decide) ?_
        refine Ow.aload X25 hx (pc' := 282) (hb hby at_280) rfl rfl ?_
        refine Ow.iload X25 hx (pc' := 284) (hb hby at_282) rfl ?_
        obtain ⟨w, hwv⟩ := own_pick (vs := [(.int (v113.toUInt32.toUInt16.toUInt32.toInt32)), (.int (v127.toUInt32.toUInt16.toUInt32.toInt32)), (.int (v141.toUInt32.toUInt16.toUInt32.toInt32)), (.int (v155.toUInt32.toUInt16.toUInt32.toInt32)), (.int (v169.toUInt32.toUInt16.toUInt32.toInt32)), (.int (v183.toUInt32.toUInt16.toUInt32.toInt32)), (.int (v199.toUInt32.toUInt16.toUInt32.toInt32)), (.int (v215.toUInt32.toUInt16.toUInt32.toInt32))]) [(v113.toUInt32.toUInt16.toUInt32.toInt32), (v127.toUInt32.toUInt16.toUInt32.toInt32), (v141.toUInt32.toUInt16.toUInt32.toInt32), (v155.toUInt32.toUInt16.toUInt32.toInt32), (v169.toUInt32.toUInt16.toUInt32.toInt32), (v183.toUInt32.toUInt16.toUInt32.toInt32), (v199.toUInt32.toUInt16.toUInt32.toInt32), (v215.toUInt32.toUInt16.toUInt32.toInt32)] (i := v226.toNatClampNeg) rfl (own_idx7 hv226).2
        refine Ow.ldC X25 hx hZ e25 V_b9_t25 (pc' := 285) (hb hby at_284) (j := v226) (i := v226.toNatClampNeg) (v := (.int w)) ((own_idx7 hv226).1) (rfl) (hwv) ?_
        refine Ow.iconst X25 hx (pc' := 286) (hb hby at_285) (z := (1 : Int32)) rfl ?_
        refine Ow.isub X25 hx (pc' := 287) (hb hby at_286) (z := (w - (1 : Int32))) rfl ?_
        refine Ow.istore X25 hx (pc' := 289) (hb hby at_287) (l' := #[.val (.int xlaw_1), .val (.long ylaw_2), .second, .val (.int xlaw_3), .val (.int xlaw_4), .val (.int xlaw_5), .val (.int v7), .val (.int v24), .val (.int v30), .val (.int v36), .val (.int v45), .val (.int v54), .val (.int v63), .val (.int v72), .val (.int v82), .val (.int v92), .val (.ref b9), .val (.int v226), .val (.int v232), .val (.int (w - (1 : Int32))), .unset, .unset]) rfl ?_
        generalize hv287 : (w - (1 : Int32)) = v287
        exact J289 v287
set_option maxRecDepth 65536 in
set_option maxHeartbeats 40000000 in
theorem comes_1 {Post : Tables → Env → Array Value → State → Outcome → State → Prop} (hpost : ∀ tb e args s v u, (limb_1_1.after args s (.returned v) u = true ∧ limb_1_2.after args s (.returned v) u = true ∧ True) → FrameEnd s (.returned v) u (Jvm.fieldLocs frame_1_writes args s ++ Jvm.arrayLocs frame_1_arrays args s ++ Jvm.staticLocs frame_1_statics s) 16 128 → Post tb e args s (.returned v) u) :
    ArmFor flags0 classFile x code maxLocals ret World_1 tables_1 room_1 Calls_1 rest_1 Pre_1 Post := by
  intro l hfl _ _ p e ha hc hk s m args below hf hA hF happ hP
  obtain ⟨hcalls, hrest, hpre⟩ := hP
  obtain ⟨-, -, -, hnamed, -, -, -, hat⟩ := (Spec.applies_iff hf).mp happ
  obtain ⟨hg, hn⟩ := and_e (Cond.before_iff.mp (show (Jvm.Cond.and given_1 narrow_1).before args s = true from hpre))
  obtain ⟨hg1, hg2⟩ := and_e hg
  obtain ⟨ha0, hb0⟩ := and_e hg2
  obtain ⟨ha1, hb1⟩ := and_e hb0
  obtain ⟨ha2, hb2⟩ := and_e hb1
  obtain ⟨ha3, hb3⟩ := and_e hb2
  obtain ⟨w0, w1, w2, w3, w4, rfl⟩ : ∃ w0 w1 w2 w3 w4 : Value, args = #[w0, w1, w2, w3, w4] := by
    have hs : args.size = 5 := by simpa [Cond.value, given_1] using hg1
    obtain ⟨L⟩ := args
    match L, hs with
    | [w0, w1, w2, w3, w4], _ => exact ⟨w0, w1, w2, w3, w4, rfl⟩
  have hw := fun d (hd : d ∈ tables_1) => atoms_spec (ws := Jvm.Cond.code x code maxLocals ret :: tables_1) hat d (List.mem_cons_of_mem _ hd)
  have hfit : Fit s := fun {y c} hc i hi => by
    obtain ⟨ha, rfl⟩ := Array.getElem?_eq_some_iff.mp hc
    have q := List.all_eq_true.mp ((Array.all_eq_true_iff_forall_mem.mp hF) _ (Array.getElem_mem ha)) i (List.mem_range.mpr hi)
    simpa [Array.getElem?_eq_getElem hi] using q
  obtain ⟨i0, ei0⟩ := is_v ha0
  obtain rfl : w0 = (.int i0) := Option.some.inj ei0
  obtain ⟨i1, ei1⟩ := isL_v ha1
  obtain rfl : w1 = (.long i1) := Option.some.inj ei1
  obtain ⟨i2, ei2⟩ := is_v ha2
  obtain rfl : w2 = (.int i2) := Option.some.inj ei2
  obtain ⟨i3, ei3⟩ := is_v ha3
  obtain rfl : w3 = (.int i3) := Option.some.inj ei3
  obtain ⟨i4, ei4⟩ := is_v hb3
  obtain rfl : w4 = (.int i4) := Option.some.inj ei4
  obtain ⟨n, o, h1, h2, h3, _, L, rfl, ⟨rfl, N⟩, hq⟩ := rm_law l s _ hw tables_1 i0 i1 i2 i3 i4 s.heap s.heap.size (Nat.le_refl _)  p e ha hc hk s m _ below hf ((Spec.applies_iff_loose hf).mp happ).1 ⟨rfl, State.Warmed39.refl s, rfl⟩ trivial
  refine ⟨n, _, h1, h2, h3, hpost _ _ _ _ _ _ ⟨Cond.after_iff.mpr rfl, Cond.after_iff.mpr (eq_i res_at (Term.int_eval (1)) rfl), trivial⟩ ⟨hq.1, hq.2.1, (hq.2.2.sift fun y hy => Or.inr (N y hy)).mono (by decide) (by decide)⟩⟩
theorem main_1_1 : Claimed_1_1 := comes_1 fun _ _ _ _ _ _ h hF => ⟨h.1, hF⟩
theorem main_1_2 : Claimed_1_2 := comes_1 fun _ _ _ _ _ _ h hF => ⟨h.2.1, hF⟩
end Jvm.Pilot.@@N@@
namespace Jvm.Pilot.@@N@@
open Jvm Jvm.ClassFile Sem Op Lib Jvm.Free Jvm.Stand Jvm.Pilot.@@N@@.Jvm.D
/-! MADE BY PROGRAM (witnessworld.py) out of the Statement's table words and the real class files: 12 classes; the members and pool entries that the words name. The judged class is class 1, her method 1. -/
namespace start1
open Jvm.ClassFile
def u (s : String) : CpInfo := .utf8 (stringToUtf16 s)
/-- a pool by its gaps: so many unusable entries, then the entry; so many at the end -/
def gap : Nat → List CpInfo → List CpInfo
  | 0, r => r
  | n + 1, r => .unusable :: gap n r
def poolList (es : List (Nat × CpInfo)) (last : Nat) : List CpInfo := es.foldr (fun e r => gap e.1 (e.2 :: r)) (gap last [])
def pool (es : List (Nat × CpInfo)) (last : Nat) : Array CpInfo := ⟨poolList es last⟩
def fileOf (pool : Array CpInfo) (this : Nat) (attrs : Array Attribute := #[]) (ms : Array MethodInfo := #[]) (fl : Nat := 33) (sup : Nat := 0) (ifs : Array Nat := #[]) (fds : Array FieldInfo := #[]) : ClassFile where
  minorVersion := 0
  majorVersion := 65
  constantPool := pool
  accessFlags := fl
  thisClass := this
  superClass := sup
  interfaces := ifs
  fields := fds
  methods := ms
  attributes := attrs
def plain (name : String) (sup : Option ClassId) : Class where
  name := name
  kind := .ordinary
  loader := none
  accessFlags := 33
  super := sup
  interfaces := #[]
  cf := none
  fields := #[]
  methods := #[]
  instanceTypes := #[]
  staticTypes := #[]
  resolved := #[]
  callSites := []
  init := .initialized
  statics := none
  mirror := none

def pool0 : Array CpInfo := pool [(5, u "<init>"), (0, u "()V"), (1, .class_ 10), (1, u "java/lang/Object")] 113

def k0m0 : Method := { name := "<init>", desc := "()V", sig := { parameters := [], returnType := none }, accessFlags := 1, code := none }
/-- java/lang/Object -/
def k0 : Class := { plain "java/lang/Object" none with
  accessFlags := 33
  interfaces := #[]
  cf := some (fileOf pool0 8 #[] #[{ accessFlags := 1, nameIndex := 5, descriptorIndex := 6, attributes := #[] }] 33 0 #[] #[])
  fields := #[]
  methods := #[k0m0]
  instanceTypes := #[]
  staticTypes := #[]
  resolved := Array.replicate 124 none
  statics := none }

def pool1 : Array CpInfo := pool [(2, .class_ 4), (1, u "java/lang/Object"), (0, u "<init>"), (0, u "()V"), (0, .integer 65535), (0, .methodref 9 10), (0, .class_ 11), (0, .nameAndType 12 13), (0, u "com/example/tightbit/tightbit/GallopingSearchFirstAtLeastPinLaw"), (0, u "step"), (0, u "(IJI)I"), (0, .methodref 9 15), (0, .nameAndType 16 17), (0, u "cell"), (0, u "(IIII)C"), (0, .methodref 9 19), (0, .nameAndType 20 21), (0, u "below"), (0, u "([CIIII)I"), (0, .methodref 23 24), (0, .class_ 25), (0, .nameAndType 26 27), (0, u "com/example/tightbit/tightbit/GallopingSearch"), (0, u "firstAtLeast"), (0, u "([CIII)I"), (0, .long 255), (1, .methodref 31 32), (0, .class_ 33), (0, .nameAndType 34 35), (0, u "java/lang/Math"), (0, u "min"), (0, u "(II)I"), (2, u "law"), (0, u "(IJIII)Z")] 5

def k1m0 : Method := { name := "<init>", desc := "()V", sig := { parameters := [], returnType := none }, accessFlags := 2, code := none }
def k1c1 : Code := { maxStack := 6, maxLocals := 22, code := code, exceptionTable := #[], attributes := #[] }
def k1m1 : Method := { name := "law", desc := "(IJIII)Z", sig := { parameters := [.int, .long, .int, .int, .int], returnType := some .boolean }, accessFlags := 9, code := some k1c1 }
def k1c2 : Code := { maxStack := 6, maxLocals := 4, code := method_3_code, exceptionTable := #[], attributes := #[] }
def k1m2 : Method := { name := "step", desc := "(IJI)I", sig := { parameters := [.int, .long, .int], returnType := some .int }, accessFlags := 10, code := some k1c2 }
def k1c3 : Code := { maxStack := 2, maxLocals := 4, code := method_4_code, exceptionTable := #[], attributes := #[] }
def k1m3 : Method := { name := "cell", desc := "(IIII)C", sig := { parameters := [.int, .int, .int, .int], returnType := some .char }, accessFlags := 10, code := some k1c3 }
def k1c4 : Code := { maxStack := 2, maxLocals := 5, code := method_5_code, exceptionTable := #[], attributes := #[] }
def k1m4 : Method := { name := "below", desc := "([CIIII)I", sig := { parameters := [(.array .char), .int, .int, .int, .int], returnType := some .int }, accessFlags := 10, code := some k1c4 }
/-- com/example/tightbit/tightbit/GallopingSearchFirstAtLeastPinLaw -/
def k1 : Class := { plain "com/example/tightbit/tightbit/GallopingSearchFirstAtLeastPinLaw" (some 0) with
  accessFlags := 49
  interfaces := #[]
  cf := some (fileOf pool1 9 #[] #[{ accessFlags := 2, nameIndex := 5, descriptorIndex := 6, attributes := #[] }, { accessFlags := 9, nameIndex := 38, descriptorIndex := 39, attributes := #[] }, { accessFlags := 10, nameIndex := 12, descriptorIndex := 13, attributes := #[] }, { accessFlags := 10, nameIndex := 16, descriptorIndex := 17, attributes := #[] }, { accessFlags := 10, nameIndex := 20, descriptorIndex := 21, attributes := #[] }] 49 2 #[] #[])
  fields := #[]
  methods := #[k1m0, k1m1, k1m2, k1m3, k1m4]
  instanceTypes := #[]
  staticTypes := #[]
  resolved := Array.replicate 45 none
  statics := none }

def pool2 : Array CpInfo := pool [(1, .class_ 2), (0, u "java/lang/Math"), (1, .class_ 6), (1, u "java/lang/Object"), (0, u "<init>"), (0, u "()V"), (89, .class_ 100), (1, u "java/lang/Math$RandomNumberGeneratorHolder"), (71, u "negativeZeroFloatBits"), (0, u "J"), (2, u "negativeZeroDoubleBits"), (24, u "min"), (43, u "$assertionsDisabled"), (0, u "Z"), (88, u "(II)I"), (2, u "twoToTheDoubleScaleDown"), (0, u "D"), (4, u "twoToTheDoubleScaleUp"), (9, u "E"), (3, u "PI"), (2, u "TAU"), (2, u "DEGREES_TO_RADIANS"), (0, u "RADIANS_TO_DEGREES")] 94

def k2m0 : Method := { name := "<init>", desc := "()V", sig := { parameters := [], returnType := none }, accessFlags := 2, code := none }
def k2c1 : Code := { maxStack := 2, maxLocals := 2, code := jdk_29_method_69_code, exceptionTable := #[], attributes := #[] }
def k2m1 : Method := { name := "min", desc := "(II)I", sig := { parameters := [.int, .int], returnType := some .int }, accessFlags := 9, code := some k2c1 }
/-- java/lang/Math -/
def k2 : Class := { plain "java/lang/Math" (some 0) with
  accessFlags := 49
  interfaces := #[]
  cf := some (fileOf pool2 1 #[.nestMembers #[98]] #[{ accessFlags := 2, nameIndex := 7, descriptorIndex := 8, attributes := #[] }, { accessFlags := 9, nameIndex := 201, descriptorIndex := 335, attributes := #[] }] 49 4 #[] #[{ accessFlags := 25, nameIndex := 354, descriptorIndex := 339, attributes := #[] }, { accessFlags := 25, nameIndex := 358, descriptorIndex := 339, attributes := #[] }, { accessFlags := 25, nameIndex := 361, descriptorIndex := 339, attributes := #[] }, { accessFlags := 26, nameIndex := 364, descriptorIndex := 339, attributes := #[] }, { accessFlags := 26, nameIndex := 365, descriptorIndex := 339, attributes := #[] }, { accessFlags := 26, nameIndex := 172, descriptorIndex := 173, attributes := #[] }, { accessFlags := 26, nameIndex := 176, descriptorIndex := 173, attributes := #[] }, { accessFlags := 8, nameIndex := 344, descriptorIndex := 339, attributes := #[] }, { accessFlags := 8, nameIndex := 338, descriptorIndex := 339, attributes := #[] }, { accessFlags := 4120, nameIndex := 245, descriptorIndex := 246, attributes := #[] }])
  fields := #[{ name := "E", type := .double, accessFlags := 25, slot := 0, constantValue := 0 }, { name := "PI", type := .double, accessFlags := 25, slot := 1, constantValue := 0 }, { name := "TAU", type := .double, accessFlags := 25, slot := 2, constantValue := 0 }, { name := "DEGREES_TO_RADIANS", type := .double, accessFlags := 26, slot := 3, constantValue := 0 }, { name := "RADIANS_TO_DEGREES", type := .double, accessFlags := 26, slot := 4, constantValue := 0 }, { name := "negativeZeroFloatBits", type := .long, accessFlags := 26, slot := 5, constantValue := 0 }, { name := "negativeZeroDoubleBits", type := .long, accessFlags := 26, slot := 6, constantValue := 0 }, { name := "twoToTheDoubleScaleUp", type := .double, accessFlags := 8, slot := 7, constantValue := 0 }, { name := "twoToTheDoubleScaleDown", type := .double, accessFlags := 8, slot := 8, constantValue := 0 }, { name := "$assertionsDisabled", type := .boolean, accessFlags := 4120, slot := 9, constantValue := 0 }]
  methods := #[k2m0, k2m1]
  instanceTypes := #[]
  staticTypes := #[.double, .double, .double, .double, .double, .long, .long, .double, .double, .boolean]
  resolved := Array.replicate 460 none
  statics := none }

def pool3 : Array CpInfo := pool [(2, .class_ 4), (1, u "java/lang/Object"), (0, u "<init>"), (0, u "()V"), (8, .class_ 16), (0, u "com/example/tightbit/tightbit/GallopingSearch"), (2, u "firstAtLeast"), (0, u "([CIII)I")] 6

def k3m0 : Method := { name := "<init>", desc := "()V", sig := { parameters := [], returnType := none }, accessFlags := 2, code := none }
def k3c1 : Code := { maxStack := 2, maxLocals := 7, code := prog_26_method_2_code, exceptionTable := #[], attributes := #[] }
def k3m1 : Method := { name := "firstAtLeast", desc := "([CIII)I", sig := { parameters := [(.array .char), .int, .int, .int], returnType := some .int }, accessFlags := 8, code := some k3c1 }
/-- com/example/tightbit/tightbit/GallopingSearch -/
def k3 : Class := { plain "com/example/tightbit/tightbit/GallopingSearch" (some 0) with
  accessFlags := 48
  interfaces := #[]
  cf := some (fileOf pool3 15 #[] #[{ accessFlags := 2, nameIndex := 5, descriptorIndex := 6, attributes := #[] }, { accessFlags := 8, nameIndex := 19, descriptorIndex := 20, attributes := #[] }] 48 2 #[] #[])
  fields := #[]
  methods := #[k3m0, k3m1]
  instanceTypes := #[]
  staticTypes := #[]
  resolved := Array.replicate 27 none
  statics := none }

def pool4 : Array CpInfo := pool [(1, u "java/lang/Cloneable"), (0, .class_ 1), (0, u "java/lang/Object"), (0, .class_ 3)] 3

/-- java/lang/Cloneable -/
def k4 : Class := { plain "java/lang/Cloneable" (some 0) with
  accessFlags := 1537
  interfaces := #[]
  cf := some (fileOf pool4 2 #[] #[] 1537 4 #[] #[])
  fields := #[]
  methods := #[]
  instanceTypes := #[]
  staticTypes := #[]
  resolved := Array.replicate 8 none
  statics := none }

def pool5 : Array CpInfo := pool [(1, u "java/io/Serializable"), (0, .class_ 1), (0, u "java/lang/Object"), (0, .class_ 3)] 3

/-- java/io/Serializable -/
def k5 : Class := { plain "java/io/Serializable" (some 0) with
  accessFlags := 1537
  interfaces := #[]
  cf := some (fileOf pool5 2 #[] #[] 1537 4 #[] #[])
  fields := #[]
  methods := #[]
  instanceTypes := #[]
  staticTypes := #[]
  resolved := Array.replicate 8 none
  statics := none }

/-- the primitive byte -/
def k6 : Class := { plain "byte" none with kind := .primitive 'B', accessFlags := 0x411 }
/-- [B -/
def k7 : Class := { plain "[B" (some 0) with kind := .array 6 .byte, interfaces := #[4, 5], accessFlags := 1041 }

/-- the primitive char -/
def k8 : Class := { plain "char" none with kind := .primitive 'C', accessFlags := 0x411 }
/-- [C -/
def k9 : Class := { plain "[C" (some 0) with kind := .array 8 .char, interfaces := #[4, 5], accessFlags := 1041 }

/-- the primitive int -/
def k10 : Class := { plain "int" none with kind := .primitive 'I', accessFlags := 0x411 }
/-- [I -/
def k11 : Class := { plain "[I" (some 0) with kind := .array 10 .int, interfaces := #[4, 5], accessFlags := 1041 }

def heap : Heap := #[]
def classes : Array Class := #[k0, k1, k2, k3, k4, k5, k6, k7, k8, k9, k10, k11]
def interned : List (Array UInt16 × Addr) := []
def slotsUsed : Nat := 0
def theMethod : MethodId := ⟨1, 1⟩
def args0 : Array Value := #[.int 5, .long 7, .int 9, .int 11, .int 3]
def aboutOver (below : List Frame) : State where
  vm := { classes := classes, interned := interned.toArray }
  heap := heap
  slotsUsed := slotsUsed
  threads := #[{ frames := .invoking theMethod args0 :: below }]
def below0 : List Frame := [.native { method := ⟨0, 0⟩, args := #[] }]
def about1 : State := aboutOver below0
def p0 : Program := .bare "" "" ""
def e0 : Env := launch0.env 0 0 0
theorem w_frames : about1.frames = Frame.invoking theMethod args0 :: below0 := rfl
set_option maxRecDepth 65536 in
theorem w_args : argsFit about1.vm theMethod args0 = true := by decide +kernel
set_option maxRecDepth 65536 in
theorem w_heap : heapFits about1 = true := by decide +kernel
set_option maxRecDepth 65536 in
theorem w_runnable : about1.curStatus? = some .runnable := by decide +kernel
set_option maxRecDepth 65536 in
theorem w_alone : about1.alone = true := by decide +kernel
set_option maxRecDepth 65536 in
theorem w_named : about1.methodNamed? x = some theMethod := by decide +kernel
set_option maxRecDepth 65536 in
theorem w_hears : about1.hears theMethod below0 = true := by decide +kernel
set_option maxRecDepth 65536 in
theorem w_ripe : about1.ripe theMethod args0 below0 = true := by decide +kernel
theorem w_running : about1.status = .running := rfl
set_option maxRecDepth 65536 in
theorem w_room : about1.hasRoom e0.platform room_1 = true :=
  launch0.hasRoom_least _ room_1 (by decide +kernel) (by decide +kernel) (by decide +kernel) (by decide +kernel) (by decide +kernel) (by decide +kernel)
theorem allAtoms_all (ts : List Jvm.Cond) (a : Array Jvm.Value) (st : Jvm.State) : (allAtoms ts).before a st = ts.all (fun c => c.before a st) := by
  induction ts with
  | nil => rfl
  | cons c t ih =>
    show (Jvm.Cond.and c (allAtoms t)).before a st = _
    rw [Jvm.Cond.before_and, ih, List.all_cons]
def words1 : List Jvm.Cond := Jvm.Cond.code x code maxLocals ret :: tables_1
/-- a 'code' word, met by the world's own term for the bytes: nothing is compared byte by byte -/
theorem code_word {y : MethodName} {bytes : ByteArray} {mx : Nat} {rt : Option FieldType} {a : Array Value} {s : State} {m : MethodId} {meth : Method} {c : Code} (h1 : s.methodNamed? y = some m) (h2 : s.vm.method? m = some meth) (h3 : meth.code = some c) (h4 : c.code = bytes)
    (h5 : (c.maxLocals == mx && c.exceptionTable.isEmpty && decide (c.maxStack ≤ mostOperands) && decide (meth.sig.returnType = rt) && !meth.locks && decide (parseMethodDescriptor y.desc = some meth.sig)) = true) : (Jvm.Cond.code y bytes mx rt).before a s = true := by
  simp only [Bool.and_eq_true, beq_iff_eq, Bool.not_eq_true', decide_eq_true_eq] at h5
  obtain ⟨⟨⟨⟨⟨g1, g2⟩, g3⟩, g4⟩, g5⟩, g6⟩ := h5
  simp [Cond.before, Cond.holds, Cond.value, h1, h2, h3, h4, g1, g2, g3, g4, g5, g6]
def isCode : Jvm.Cond → Bool
  | .code _ _ _ _ => true
  | _ => false
theorem all_split {L : List Jvm.Cond} {P : Jvm.Cond → Bool} (h1 : L.all (fun c => isCode c || P c) = true) (h2 : ∀ c ∈ L.filter isCode, P c = true) : L.all P = true := by
  refine List.all_eq_true.mpr fun c hc => ?_
  have h := List.all_eq_true.mp h1 c hc
  rcases Bool.eq_false_or_eq_true (isCode c) with hi | hi
  · exact h2 c (List.mem_filter.mpr ⟨hc, hi⟩)
  · simpa [hi] using h
set_option maxRecDepth 65536 in
theorem w_c0 : (Jvm.Cond.code x code maxLocals ret).before args0 about1 = true := code_word (m := ⟨1, 1⟩) (meth := k1m1) (c := k1c1) (by decide +kernel) rfl rfl rfl (by decide +kernel)
set_option maxRecDepth 65536 in
theorem w_c1 : (Jvm.Cond.code ({ cls := "com/example/tightbit/tightbit/GallopingSearchFirstAtLeastPinLaw", name := "step", desc := "(IJI)I" } : Jvm.MethodName) method_3_code (4 : Nat) (Option.some Jvm.ClassFile.FieldType.int)).before args0 about1 = true := code_word (m := ⟨1, 2⟩) (meth := k1m2) (c := k1c2) (by decide +kernel) rfl rfl rfl (by decide +kernel)
set_option maxRecDepth 65536 in
theorem w_c2 : (Jvm.Cond.code ({ cls := "java/lang/Math", name := "min", desc := "(II)I" } : Jvm.MethodName) jdk_29_method_69_code (2 : Nat) (Option.some Jvm.ClassFile.FieldType.int)).before args0 about1 = true := code_word (m := ⟨2, 1⟩) (meth := k2m1) (c := k2c1) (by decide +kernel) rfl rfl rfl (by decide +kernel)
set_option maxRecDepth 65536 in
theorem w_c3 : (Jvm.Cond.code ({ cls := "com/example/tightbit/tightbit/GallopingSearchFirstAtLeastPinLaw", name := "cell", desc := "(IIII)C" } : Jvm.MethodName) method_4_code (4 : Nat) (Option.some Jvm.ClassFile.FieldType.char)).before args0 about1 = true := code_word (m := ⟨1, 3⟩) (meth := k1m3) (c := k1c3) (by decide +kernel) rfl rfl rfl (by decide +kernel)
set_option maxRecDepth 65536 in
theorem w_c4 : (Jvm.Cond.code ({ cls := "com/example/tightbit/tightbit/GallopingSearchFirstAtLeastPinLaw", name := "below", desc := "([CIIII)I" } : Jvm.MethodName) method_5_code (5 : Nat) (Option.some Jvm.ClassFile.FieldType.int)).before args0 about1 = true := code_word (m := ⟨1, 4⟩) (meth := k1m4) (c := k1c4) (by decide +kernel) rfl rfl rfl (by decide +kernel)
set_option maxRecDepth 65536 in
theorem w_c5 : (Jvm.Cond.code ({ cls := "com/example/tightbit/tightbit/GallopingSearch", name := "firstAtLeast", desc := "([CIII)I" } : Jvm.MethodName) prog_26_method_2_code (7 : Nat) (Option.some Jvm.ClassFile.FieldType.int)).before args0 about1 = true := code_word (m := ⟨3, 1⟩) (meth := k3m1) (c := k3c1) (by decide +kernel) rfl rfl rfl (by decide +kernel)
def codes1 : List Jvm.Cond := [Jvm.Cond.code x code maxLocals ret, Jvm.Cond.code ({ cls := "com/example/tightbit/tightbit/GallopingSearchFirstAtLeastPinLaw", name := "step", desc := "(IJI)I" } : Jvm.MethodName) method_3_code (4 : Nat) (Option.some Jvm.ClassFile.FieldType.int), Jvm.Cond.code ({ cls := "java/lang/Math", name := "min", desc := "(II)I" } : Jvm.MethodName) jdk_29_method_69_code (2 : Nat) (Option.some Jvm.ClassFile.FieldType.int), Jvm.Cond.code ({ cls := "com/example/tightbit/tightbit/GallopingSearchFirstAtLeastPinLaw", name := "cell", desc := "(IIII)C" } : Jvm.MethodName) method_4_code (4 : Nat) (Option.some Jvm.ClassFile.FieldType.char), Jvm.Cond.code ({ cls := "com/example/tightbit/tightbit/GallopingSearchFirstAtLeastPinLaw", name := "below", desc := "([CIIII)I" } : Jvm.MethodName) method_5_code (5 : Nat) (Option.some Jvm.ClassFile.FieldType.int), Jvm.Cond.code ({ cls := "com/example/tightbit/tightbit/GallopingSearch", name := "firstAtLeast", desc := "([CIII)I" } : Jvm.MethodName) prog_26_method_2_code (7 : Nat) (Option.some Jvm.ClassFile.FieldType.int)]
set_option maxRecDepth 65536 in
theorem codes_eq : words1.filter isCode = codes1 := rfl
theorem w_codes : ∀ c ∈ words1.filter isCode, c.before args0 about1 = true := by
  rw [codes_eq]
  intro c hc
  simp only [codes1, List.mem_cons, List.not_mem_nil, or_false] at hc
  rcases hc with rfl | rfl | rfl | rfl | rfl | rfl
  · exact w_c0
  · exact w_c1
  · exact w_c2
  · exact w_c3
  · exact w_c4
  · exact w_c5
set_option maxRecDepth 65536 in
theorem w_t1 : words1.all (fun c => isCode c || c.before args0 about1) = true := by decide +kernel
theorem w_tables : (allAtoms (Jvm.Cond.code x code maxLocals ret :: tables_1)).before args0 about1 = true := by
  rw [allAtoms_all]
  show words1.all (fun c => c.before args0 about1) = true
  refine all_split ?_ w_codes
  rw [w_t1]
set_option maxRecDepth 65536 in
theorem w_case : (Jvm.Cond.and given_1 narrow_1).before args0 about1 = true := by decide +kernel
theorem w_applies : (headSpec (Jvm.Cond.code x code maxLocals ret :: tables_1) room_1).applies x e0.platform about1 = true :=
  (Spec.applies_iff w_frames).mpr ⟨w_running, w_runnable, w_alone, w_named, w_hears, w_ripe, w_room, w_tables⟩
theorem atStart : AtStart classFile x code maxLocals ret World_1 tables_1 room_1 Calls_1 rest_1 Pre_1 launch0 p0 e0 about1 theMethod args0 below0 :=
  ⟨lists_1, trivial, launch0.admits_env _ _ _, launch0.least_env, fairChoices_fair.cas, fairChoices_fair.clock, w_frames, w_args, w_heap, w_applies, trivial, trivial, w_case⟩
end start1
theorem witness_1 : WitnessClaimed_1 := ⟨start1.p0, start1.e0, start1.about1, start1.theMethod, start1.args0, start1.below0, start1.atStart⟩
end Jvm.Pilot.@@N@@
