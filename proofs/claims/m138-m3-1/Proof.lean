import JvmDerived
import JvmDerived.Pilot.@@N@@Statement
import JvmDerived.Pilot.@@N@@Code
set_option linter.unusedVariables false
set_option linter.unusedSimpArgs false
namespace Jvm.OwnW
open Sem ClassFile Op Lib Jvm.Stand Jvm.Free Jvm.LawKit Jvm.RoadKit
section Base
variable {p : Program} {l : Launch} {e : Env} {R : Room} {s : State} {m : MethodId} {args : Array Value} {below : List Frame} {meth : Method} {c : Code} {T : State} {locs : List Loc} {cells slots : Nat} {Z : State} {h h' : Heap} {a b : Addr} {ty : FieldType} {vs : List Value} {v : Value} {sl : Nat} {ws : List Addr}
variable {Q : Option Value → Heap → List Loc → Prop} {En : Outcome → State → List Loc → Prop} {kc ks : Nat} {U U' : State}
/-- from U the body comes to its end; what it leaves is Q, its frame En -/
def Wq (p : Program) (e : Env) (below : List Frame) (En : Outcome → State → List Loc → Prop) (Q : Option Value → Heap → List Loc → Prop) (U : State) : Prop :=
  ∃ s₂ o, Steps p.tables e below U s₂ ∧ s₂.status = .running ∧ Ended s₂ below o ∧ ∃ v L, o = .returned v ∧ Q v s₂.heap L ∧ En o s₂ L
theorem Wq.step (h1 : ∀ t, Steps p.tables e below U' t → Steps p.tables e below U t) (k : Wq p e below En Q U') : Wq p e below En Q U := by
  obtain ⟨s₂, o, q, r⟩ := k; exact ⟨s₂, o, h1 _ q, r⟩
theorem Wq.steps (h1 : Steps p.tables e below U U') (k : Wq p e below En Q U') : Wq p e below En Q U := by
  obtain ⟨s₂, o, q, r⟩ := k; exact ⟨s₂, o, h1.trans q, r⟩
theorem Wq.by (k1 : Wq p e below En Q U' → Wq p e below En Q U) (k : Wq p e below En Q U') : Wq p e below En Q U := k1 k
theorem Wq.ret {rv : Option Value} {g : JFrame} (X : Stand p l e R s m args below meth c T locs cells slots) (hlk : meth.locks = false) (hv : meth.sig.returnType = none → rv = none)
    (st : ∀ fs, (∀ (f : JFrame) (acts : List Action), f.method = m → f.locked = none → f.entered = [] → (doReturn e (T.setTop f) acts rv).1 = T.setFrames fs) → Steps p.tables e below (T.setTop g) (T.setFrames fs))
    (hc : cells ≤ kc) (hs : slots ≤ ks) (hQ : Q rv T.heap locs) : Wq p e below (fun o t L => FrameEnd s o t L kc ks) Q (T.setTop g) := by
  obtain ⟨fs, hr, hrun, hended, hW, hsame⟩ := X.leave (v := rv) hv hlk
  exact ⟨_, _, st fs hr, hrun, hended, rv, locs, rfl, hQ, ⟨rv, rfl⟩, hW, hsame.mono hc hs⟩
/-- the same for a body that may load a String constant for the first time -/
theorem Wq.retW {rv : Option Value} {g : JFrame} {vm₁ : Vm} {n : Nat} (X : Stand p l e R (s.setVm vm₁) m args below meth c T locs cells slots) (hS : s.Since vm₁ n) (hn : n ≤ T.heap.size) (hlk : meth.locks = false) (hv : meth.sig.returnType = none → rv = none)
    (st : ∀ fs, (∀ (f : JFrame) (acts : List Action), f.method = m → f.locked = none → f.entered = [] → (doReturn e (T.setTop f) acts rv).1 = T.setFrames fs) → Steps p.tables e below (T.setTop g) (T.setFrames fs))
    (hc : cells ≤ kc) (hs : slots ≤ ks) (hQ : Q rv T.heap locs) : Wq p e below (fun o t L => ReturnedEndW s o t L kc ks) Q (T.setTop g) := by
  obtain ⟨fs, hr, hrun, hended, w1, w2, w3, w4⟩ := X.leaveW hS hn (v := rv) hv hlk
  exact ⟨_, _, st fs hr, hrun, hended, rv, locs, rfl, hQ, ⟨rv, rfl⟩, w2, w3, w4.mono hc hs⟩
/-- an array and the whole list of what it holds -/
def Al (Z : State) (h : Heap) (a : Addr) (ty : FieldType) (vs : List Value) : Prop := ∃ cl : Cell, Arr Z h a cl ty ∧ cl.slots.toList = vs
theorem Al.lt (V : Al Z h a ty vs) : a < h.size := by obtain ⟨cl, A, -⟩ := V; exact A.lt
theorem Al.ext (V : Al Z h a ty vs) (E : Ext h h') : Al Z h' a ty vs := by obtain ⟨cl, A, r⟩ := V; exact ⟨cl, A.ext E, r⟩
theorem Al.other (V : Al Z h b ty vs) (W : Wr h h' a sl v) (q : b ≠ a) : Al Z h' b ty vs := by obtain ⟨cl, A, r⟩ := V; exact ⟨cl, A.other W q, r⟩
theorem Al.keep (V : Al Z h a ty vs) (K : Keep h h' ws) (q : a ∉ ws) : Al Z h' a ty vs := by obtain ⟨cl, A, r⟩ := V; exact ⟨cl, ⟨K.2.1 a cl A.1 q, A.2⟩, r⟩
theorem Al.new {cA : ClassId} {n : Int32} {k : Nat} {dv : Value} (A : Arr Z h a (newA cA ty n) ty) (hk : n.toNatClampNeg = k) (hd : defaultValue ty = dv) : Al Z h a ty (List.replicate k dv) := ⟨_, A, by subst hk hd; simp [newA]⟩
theorem Al.set (V : Al Z h a ty vs) (W : Wr h h' a sl v) : Al Z h' a ty (vs.set sl v) := by
  obtain ⟨cl, A, rfl⟩ := V
  exact ⟨_, A.same W, by simp [Cell.setSlot]⟩
theorem Sta.keepN {C n d : String} {v : Value} (F : Sta Z h C n d v) (K : Keep h h' ws) (q : ∀ w ∈ ws, ∀ cell : Cell, h[w]? = some cell → cell.vm.isStatics = false) : Sta Z h' C n d v := by
  obtain ⟨cf, i, k, f, st, cell, h1, h2, h3, h4, h5, h6, h7⟩ := F
  exact ⟨cf, i, k, f, st, cell, h1, h2, h3, h4, K.2.1 _ _ h5 (fun hm => by rw [q st hm cell h5] at h6; cases h6), h6, h7⟩
theorem fldI {t : Term} {C n d : String} {k : Int32} (hx : (Cond.eq (.field t C n d) (.int k)).value args s none s [] = some true) (ev : t.eval args s none [] s = some (.ref a)) : Fld s s.heap a C n d (.int k) := by
  refine Fld.start ?_
  have e1 := fld_at (C := C) (n := n) (dd := d) ev
  obtain ⟨x, y, h1, h2, k1, k2⟩ := cmp_v (Or.inl hx)
  rw [Term.int_eval] at h2
  cases h2
  rw [e1] at h1
  cases x <;> simp only [Kin] at k2 <;> first | (obtain ⟨z, hz⟩ := k2; cases hz) | skip
  have q := gotT (Cond.eq_ints (e1.trans h1) (Term.int_eval k)) hx
  rw [h1, q]
theorem fldJ {t : Term} {C n d : String} {k : Int64} (hx : (Cond.eq (.field t C n d) (.long k)).value args s none s [] = some true) (ev : t.eval args s none [] s = some (.ref a)) : Fld s s.heap a C n d (.long k) := by
  refine Fld.start ?_
  have e1 := fld_at (C := C) (n := n) (dd := d) ev
  obtain ⟨x, y, h1, h2, k1, k2⟩ := cmp_v (Or.inl hx)
  rw [long_at] at h2
  cases h2
  rw [e1] at h1
  cases x <;> simp only [Kin] at k2 <;> first | (obtain ⟨z, hz⟩ := k2; cases hz) | skip
  have q := gotT (eq_L (e1.trans h1) (long_at k)) hx
  rw [h1, q]
theorem Exa.ns {C : String} (F : Exa Z h a C) : ∀ cell : Cell, h[a]? = some cell → cell.vm.isStatics = false := by
  obtain ⟨c1, k, h1, h2, h3, h4, h5⟩ := F
  intro cell hc; cases h1.symm.trans hc; exact h4
theorem Al.ns (V : Al Z h a ty vs) : ∀ cell : Cell, h[a]? = some cell → cell.vm.isStatics = false := by
  obtain ⟨cl, A, -⟩ := V
  intro cell hc; cases A.1.symm.trans hc; exact A.plain
theorem clA (X : Stand p l e R s m args below meth c T locs cells slots) (hx : p.tables.exec = Jvm.exec) (hZ : Z.Warmed39 s.vm) {a0 : Array Value} {own ad : String} {index : Nat} (hown : s.vm.findClass own = some m.cls)
    (w1 : (Cond.methodLink own index ⟨ad, "clone", "()Ljava/lang/Object;"⟩).before a0 Z = true) (w2 : (Cond.sameMethod ad "java/lang/Object" "clone" "()Ljava/lang/Object;").before a0 Z = true) (w3 : (Cond.native ⟨"java/lang/Object", "clone", "()Ljava/lang/Object;"⟩).before a0 Z = true)
    (w4 : (Cond.instanceMethod ⟨"java/lang/Object", "clone", "()Ljava/lang/Object;"⟩).before a0 Z = true) (w5 : (Cond.selects ad ⟨ad, "clone", "()Ljava/lang/Object;"⟩ ⟨"java/lang/Object", "clone", "()Ljava/lang/Object;"⟩).before a0 Z = true) (w6 : (Cond.castable ad "java/lang/Cloneable").before a0 Z = true)
    (eT : T.heap = h) (V : Al Z h a ty vs) (E : Exa Z h a ad) (F : ∀ v ∈ vs, fits ty v = true) {g : JFrame} (hg : g.method = m) (hsize : g.locals.size = c.maxLocals) {rest : List Value} (hst : g.stack = .ref a :: rest) (hd : decode c.code g.pc = .ok (.invokevirtual index, 3))
    (hf : 1 ≤ R.frames) {W cap : Nat} (hW : 2 * g.monitorRoom + (rest.map fun v => v.category).sum ≤ W) (hl : W + 14 ≤ R.locals) (hcap : vs.length ≤ cap) (hc : cells + 1 ≤ R.cells) (hsl : slots + cap ≤ R.slots) :
    ∃ T' h', Stand p l e R s m args below meth c T' locs (cells + 1) (slots + cap) ∧ T'.heap = h' ∧ Ext h h' ∧ Al Z h' h.size ty vs ∧ Exa Z h' h.size ad ∧
      ∀ target, Steps p.tables e below (T'.setTop { g with pc := g.pc + 3, stack := .ref h.size :: rest }) target → Steps p.tables e below (T.setTop g) target := by
  obtain ⟨cl, A, r⟩ := V
  have FC : FitC Z cl := fitC_of A fun i hi v hv => F v (by rw [← r]; exact Array.mem_toList_iff.mpr (Array.mem_of_getElem? hv))
  obtain ⟨T', h', X', e', ex, A', E', st⟩ := cloneA X hx hZ hown w1 w2 w3 w4 w5 w6 eT A E FC hg hsize hst hd hf hW hl (by rw [← Array.length_toList, r]; exact hcap) hc hsl
  exact ⟨T', h', X', e', ex, ⟨_, A', r⟩, E', st⟩
theorem selPriv {a0 : Array Value} {y : MethodName} {k : Nat} (hZ : Z.Warmed39 s.vm) (wi : (Cond.instantiable y.cls k).before a0 Z = true) (wp : (Cond.privateMethod y).before a0 Z = true) (wm : (Cond.instanceMethod y).before a0 Z = true) (hy : y.cls ≠ "java/lang/invoke/MethodHandle" ∧ y.cls ≠ "java/lang/invoke/VarHandle") : (Cond.selects y.cls y y).before args s = true := by
  obtain ⟨c, k, h1, h2, -, h4, -⟩ := Cond.instantiable_spec (mv (args := args) hZ wi)
  simp only [Bool.or_eq_false_iff] at h4
  exact Jvm.Stand.selects_self_of_private h1 h2 h4.1 (Cond.privateMethod_at (mvP hZ wp (args := args))) (mv hZ wm) hy
theorem al_in {cl : Cell} {j : Int32} {i : Nat} (hvs : cl.slots.toList = vs) (hj : ¬ j < 0) (hi : j.toNatClampNeg = i) (hl : i < vs.length) : ¬ (j < 0 ∨ cl.slots.size ≤ j.toNatClampNeg) := by
  subst hvs hi
  rintro (q | q)
  · exact hj q
  · simp only [Array.length_toList] at hl; omega
theorem al_at {cl : Cell} {j : Int32} {i : Nat} (hvs : cl.slots.toList = vs) (hi : j.toNatClampNeg = i) (hv : vs[i]? = some v) : cl.slots[j.toNatClampNeg]? = some v := by
  subst hvs hi; simpa using hv
theorem al_lt {i : Nat} (hv : vs[i]? = some v) : i < vs.length := (List.getElem?_eq_some_iff.mp hv).1
theorem ldI (X : Stand p l e R s m args below meth c T locs cells slots) (hx : p.tables.exec = Jvm.exec) (hZ : Z.Warmed39 s.vm) (eT : T.heap = h) (V : Al Z h a .int vs) {j : Int32} {i : Nat} (hj : ¬ j < 0) (hi : j.toNatClampNeg = i) (hv : vs[i]? = some v) {g : JFrame} (hg : g.method = m) {rest : List Value} (hs : g.stack = .int j :: .ref a :: rest) (hd : decode c.code g.pc = .ok (.iaload, 1)) {target : State}
    (k : Steps p.tables e below (T.setTop { g with pc := g.pc + 1, stack := v :: rest }) target) : Steps p.tables e below (T.setTop g) target := by
  obtain ⟨cl, A, r⟩ := V
  exact X.iaload hx (by rw [eT]; exact A.1) (State.isArrayOf_alike hZ.alike A.2.1) A.2.2 (al_in r hj hi (al_lt hv)) (al_at r hi hv) hg hs hd _ k
theorem ldJ (X : Stand p l e R s m args below meth c T locs cells slots) (hx : p.tables.exec = Jvm.exec) (hZ : Z.Warmed39 s.vm) (eT : T.heap = h) (V : Al Z h a .long vs) {j : Int32} {i : Nat} (hj : ¬ j < 0) (hi : j.toNatClampNeg = i) (hv : vs[i]? = some v) {g : JFrame} (hg : g.method = m) {rest : List Value} (hs : g.stack = .int j :: .ref a :: rest) (hd : decode c.code g.pc = .ok (.laload, 1)) {target : State}
    (k : Steps p.tables e below (T.setTop { g with pc := g.pc + 1, stack := v :: rest }) target) : Steps p.tables e below (T.setTop g) target := by
  obtain ⟨cl, A, r⟩ := V
  exact X.laload hx (by rw [eT]; exact A.1) (State.isArrayOf_alike hZ.alike A.2.1) A.2.2 (al_in r hj hi (al_lt hv)) (al_at r hi hv) hg hs hd _ k
theorem ldC (X : Stand p l e R s m args below meth c T locs cells slots) (hx : p.tables.exec = Jvm.exec) (hZ : Z.Warmed39 s.vm) (eT : T.heap = h) (V : Al Z h a .char vs) {j : Int32} {i : Nat} (hj : ¬ j < 0) (hi : j.toNatClampNeg = i) (hv : vs[i]? = some v) {g : JFrame} (hg : g.method = m) {rest : List Value} (hs : g.stack = .int j :: .ref a :: rest) (hd : decode c.code g.pc = .ok (.caload, 1)) {target : State}
    (k : Steps p.tables e below (T.setTop { g with pc := g.pc + 1, stack := v :: rest }) target) : Steps p.tables e below (T.setTop g) target := by
  obtain ⟨cl, A, r⟩ := V
  exact X.caload hx (by rw [eT]; exact A.1) (State.isArrayOf_alike hZ.alike A.2.1) A.2.2 (al_in r hj hi (al_lt hv)) (al_at r hi hv) hg hs hd _ k
theorem ldB (X : Stand p l e R s m args below meth c T locs cells slots) (hx : p.tables.exec = Jvm.exec) (hZ : Z.Warmed39 s.vm) (eT : T.heap = h) (V : Al Z h a .byte vs) {j : Int32} {i : Nat} (hj : ¬ j < 0) (hi : j.toNatClampNeg = i) (hv : vs[i]? = some v) {g : JFrame} (hg : g.method = m) {rest : List Value} (hs : g.stack = .int j :: .ref a :: rest) (hd : decode c.code g.pc = .ok (.baload, 1)) {target : State}
    (k : Steps p.tables e below (T.setTop { g with pc := g.pc + 1, stack := v :: rest }) target) : Steps p.tables e below (T.setTop g) target := by
  obtain ⟨cl, A, r⟩ := V
  exact X.baloadBytes hx (by rw [eT]; exact A.1) (State.isArrayOf_alike hZ.alike A.2.1) A.2.2 (al_in r hj hi (al_lt hv)) (al_at r hi hv) hg hs hd _ k
theorem ldZ (X : Stand p l e R s m args below meth c T locs cells slots) (hx : p.tables.exec = Jvm.exec) (hZ : Z.Warmed39 s.vm) (eT : T.heap = h) (V : Al Z h a .boolean vs) {j : Int32} {i : Nat} (hj : ¬ j < 0) (hi : j.toNatClampNeg = i) (hv : vs[i]? = some v) {g : JFrame} (hg : g.method = m) {rest : List Value} (hs : g.stack = .int j :: .ref a :: rest) (hd : decode c.code g.pc = .ok (.baload, 1)) {target : State}
    (k : Steps p.tables e below (T.setTop { g with pc := g.pc + 1, stack := v :: rest }) target) : Steps p.tables e below (T.setTop g) target := by
  obtain ⟨cl, A, r⟩ := V
  exact X.baloadBooleans hx (by rw [eT]; exact A.1) (State.isArrayOf_alike hZ.alike A.2.1) A.2.2 (al_in r hj hi (al_lt hv)) (al_at r hi hv) hg hs hd _ k
theorem lenA (X : Stand p l e R s m args below meth c T locs cells slots) (hx : p.tables.exec = Jvm.exec) (hZ : Z.Warmed39 s.vm) (eT : T.heap = h) (V : Al Z h a ty vs) {n : Int32} (hn : vs.length.toInt32 = n) {g : JFrame} (hg : g.method = m) {rest : List Value} (hs : g.stack = .ref a :: rest) (hd : decode c.code g.pc = .ok (.arraylength, 1)) {target : State}
    (k : Steps p.tables e below (T.setTop { g with pc := g.pc + 1, stack := .int n :: rest }) target) : Steps p.tables e below (T.setTop g) target := by
  obtain ⟨cl, A, r⟩ := V
  refine X.arraylength hx (by rw [eT]; exact A.1) (State.isArrayOf_alike hZ.alike A.2.1) hg hs hd _ ?_
  rw [show cl.slots.size.toInt32 = n from by rw [← hn, ← r, Array.length_toList]]
  exact k
theorem asI (X : Stand p l e R s m args below meth c T locs cells slots) (hx : p.tables.exec = Jvm.exec) (hZ : Z.Warmed39 s.vm) (eT : T.heap = h) (V : Al Z h a .int vs) {j : Int32} {i : Nat} {x : Int32} (hj : ¬ j < 0) (hi : j.toNatClampNeg = i) (hl : i < vs.length) {g : JFrame} (hg : g.method = m) {rest : List Value} (hs : g.stack = .int x :: .int j :: .ref a :: rest) (hd : decode c.code g.pc = .ok (.iastore, 1)) :
    ∃ T' h', Stand p l e R s m args below meth c T' (locs ++ [⟨a, i⟩]) cells slots ∧ T'.heap = h' ∧ Wr h h' a i (.int x) ∧ Al Z h' a .int (vs.set i (.int x)) ∧ ∀ target, Steps p.tables e below (T'.setTop { g with pc := g.pc + 1, stack := rest }) target → Steps p.tables e below (T.setTop g) target := by
  have V0 := V
  obtain ⟨cl, A, r⟩ := V
  obtain ⟨T', h', X', e', W, st⟩ := stI X hx hZ eT A (al_in r hj hi hl) hg hs hd
  subst hi
  exact ⟨T', h', X', e', W, V0.set W, st⟩
theorem asJ (X : Stand p l e R s m args below meth c T locs cells slots) (hx : p.tables.exec = Jvm.exec) (hZ : Z.Warmed39 s.vm) (eT : T.heap = h) (V : Al Z h a .long vs) {j : Int32} {i : Nat} {x : Int64} (hj : ¬ j < 0) (hi : j.toNatClampNeg = i) (hl : i < vs.length) {g : JFrame} (hg : g.method = m) {rest : List Value} (hs : g.stack = .long x :: .int j :: .ref a :: rest) (hd : decode c.code g.pc = .ok (.lastore, 1)) :
    ∃ T' h', Stand p l e R s m args below meth c T' (locs ++ [⟨a, i⟩]) cells slots ∧ T'.heap = h' ∧ Wr h h' a i (.long x) ∧ Al Z h' a .long (vs.set i (.long x)) ∧ ∀ target, Steps p.tables e below (T'.setTop { g with pc := g.pc + 1, stack := rest }) target → Steps p.tables e below (T.setTop g) target := by
  have V0 := V
  obtain ⟨cl, A, r⟩ := V
  obtain ⟨T', h', X', e', W, st⟩ := stJ X hx hZ eT A (al_in r hj hi hl) hg hs hd
  subst hi
  exact ⟨T', h', X', e', W, V0.set W, st⟩
theorem asC (X : Stand p l e R s m args below meth c T locs cells slots) (hx : p.tables.exec = Jvm.exec) (hZ : Z.Warmed39 s.vm) (eT : T.heap = h) (V : Al Z h a .char vs) {j : Int32} {i : Nat} {x y : Int32} (hj : ¬ j < 0) (hi : j.toNatClampNeg = i) (hl : i < vs.length) (hy : nar .char x = y) {g : JFrame} (hg : g.method = m) {rest : List Value} (hs : g.stack = .int x :: .int j :: .ref a :: rest) (hd : decode c.code g.pc = .ok (.castore, 1)) :
    ∃ T' h', Stand p l e R s m args below meth c T' (locs ++ [⟨a, i⟩]) cells slots ∧ T'.heap = h' ∧ Wr h h' a i (.int y) ∧ Al Z h' a .char (vs.set i (.int y)) ∧ ∀ target, Steps p.tables e below (T'.setTop { g with pc := g.pc + 1, stack := rest }) target → Steps p.tables e below (T.setTop g) target := by
  have V0 := V
  obtain ⟨cl, A, r⟩ := V
  obtain ⟨T', h', X', e', W, st⟩ := stC X hx hZ eT A (al_in r hj hi hl) hg hs hd
  subst hi hy
  exact ⟨T', h', X', e', W, V0.set W, st⟩
theorem asB (X : Stand p l e R s m args below meth c T locs cells slots) (hx : p.tables.exec = Jvm.exec) (hZ : Z.Warmed39 s.vm) (eT : T.heap = h) (V : Al Z h a .byte vs) {j : Int32} {i : Nat} {x y : Int32} (hj : ¬ j < 0) (hi : j.toNatClampNeg = i) (hl : i < vs.length) (hy : nar .byte x = y) {g : JFrame} (hg : g.method = m) {rest : List Value} (hs : g.stack = .int x :: .int j :: .ref a :: rest) (hd : decode c.code g.pc = .ok (.bastore, 1)) :
    ∃ T' h', Stand p l e R s m args below meth c T' (locs ++ [⟨a, i⟩]) cells slots ∧ T'.heap = h' ∧ Wr h h' a i (.int y) ∧ Al Z h' a .byte (vs.set i (.int y)) ∧ ∀ target, Steps p.tables e below (T'.setTop { g with pc := g.pc + 1, stack := rest }) target → Steps p.tables e below (T.setTop g) target := by
  have V0 := V
  obtain ⟨cl, A, r⟩ := V
  obtain ⟨T', h', X', e', W, st⟩ := stB X hx hZ eT A (al_in r hj hi hl) hg hs hd
  subst hi hy
  exact ⟨T', h', X', e', W, V0.set W, st⟩
theorem asZ (X : Stand p l e R s m args below meth c T locs cells slots) (hx : p.tables.exec = Jvm.exec) (hZ : Z.Warmed39 s.vm) (eT : T.heap = h) (V : Al Z h a .boolean vs) {j : Int32} {i : Nat} {x y : Int32} (hj : ¬ j < 0) (hi : j.toNatClampNeg = i) (hl : i < vs.length) (hy : nar .boolean x = y) {g : JFrame} (hg : g.method = m) {rest : List Value} (hs : g.stack = .int x :: .int j :: .ref a :: rest) (hd : decode c.code g.pc = .ok (.bastore, 1)) :
    ∃ T' h', Stand p l e R s m args below meth c T' (locs ++ [⟨a, i⟩]) cells slots ∧ T'.heap = h' ∧ Wr h h' a i (.int y) ∧ Al Z h' a .boolean (vs.set i (.int y)) ∧ ∀ target, Steps p.tables e below (T'.setTop { g with pc := g.pc + 1, stack := rest }) target → Steps p.tables e below (T.setTop g) target := by
  have V0 := V
  obtain ⟨cl, A, r⟩ := V
  obtain ⟨T', h', X', e', W, st⟩ := stZ X hx hZ eT A (al_in r hj hi hl) hg hs hd
  subst hi hy
  exact ⟨T', h', X', e', W, V0.set W, st⟩
theorem Ow.iloadN (X : Stand p l e R s m args below meth c T locs cells slots) (hx : p.tables.exec = Jvm.exec) {pc : Nat} {ls : Array Slot} {st : List Value} {pc' : Nat} {k : Fin 4} {v : Int32} (hd : decode c.code pc = .ok (.iload_n k, 1)) (hl : ls[k.val]? = some (.val (.int v))) (k : Wq p e below En Q (T.setTop (mkF m pc' ls (.int v :: st)))) (hpc : pc + 1 = pc' := by rfl) : Wq p e below En Q (T.setTop (mkF m pc ls st)) := by subst hpc; exact Wq.step (fun _ q => XS.iloadN X.here hx rfl hd hl q) k
theorem Ow.istoreN (X : Stand p l e R s m args below meth c T locs cells slots) (hx : p.tables.exec = Jvm.exec) {pc : Nat} {ls : Array Slot} {st : List Value} {pc' : Nat} {k : Fin 4} {x : Int32} {l' : Array Slot} (hd : decode c.code pc = .ok (.istore_n k, 1)) (hl : storeLocals ls k.val (.int x) = some l') (k : Wq p e below En Q (T.setTop (mkF m pc' l' st))) (hpc : pc + 1 = pc' := by rfl) : Wq p e below En Q (T.setTop (mkF m pc ls (.int x :: st))) := by subst hpc; exact Wq.step (fun _ q => XS.istoreN X.here hx rfl hd rfl hl q) k
theorem Ow.lloadN (X : Stand p l e R s m args below meth c T locs cells slots) (hx : p.tables.exec = Jvm.exec) {pc : Nat} {ls : Array Slot} {st : List Value} {pc' : Nat} {k : Fin 4} {v : Int64} (hd : decode c.code pc = .ok (.lload_n k, 1)) (hl : ls[k.val]? = some (.val (.long v))) (k : Wq p e below En Q (T.setTop (mkF m pc' ls (.long v :: st)))) (hpc : pc + 1 = pc' := by rfl) : Wq p e below En Q (T.setTop (mkF m pc ls st)) := by subst hpc; exact Wq.step (fun _ q => XS.lloadN X.here hx rfl hd hl q) k
theorem Ow.lstoreN (X : Stand p l e R s m args below meth c T locs cells slots) (hx : p.tables.exec = Jvm.exec) {pc : Nat} {ls : Array Slot} {st : List Value} {pc' : Nat} {k : Fin 4} {x : Int64} {l' : Array Slot} (hd : decode c.code pc = .ok (.lstore_n k, 1)) (hl : storeLocals ls k.val (.long x) = some l') (k : Wq p e below En Q (T.setTop (mkF m pc' l' st))) (hpc : pc + 1 = pc' := by rfl) : Wq p e below En Q (T.setTop (mkF m pc ls (.long x :: st))) := by subst hpc; exact Wq.step (fun _ q => XS.lstoreN X.here hx rfl hd rfl hl q) k
theorem Ow.aloadN (X : Stand p l e R s m args below meth c T locs cells slots) (hx : p.tables.exec = Jvm.exec) {pc : Nat} {ls : Array Slot} {st : List Value} {pc' : Nat} {k : Fin 4} {v : Value} (hd : decode c.code pc = .ok (.aload_n k, 1)) (hl : ls[k.val]? = some (.val v)) (hv : v.isRef = true) (k : Wq p e below En Q (T.setTop (mkF m pc' ls (v :: st)))) (hpc : pc + 1 = pc' := by rfl) : Wq p e below En Q (T.setTop (mkF m pc ls st)) := by subst hpc; exact Wq.step (fun _ q => XS.aloadN X.here hx rfl hd hl hv q) k
theorem Ow.astoreN (X : Stand p l e R s m args below meth c T locs cells slots) (hx : p.tables.exec = Jvm.exec) {pc : Nat} {ls : Array Slot} {st : List Value} {pc' : Nat} {k : Fin 4} {x : Value} {l' : Array Slot} (hd : decode c.code pc = .ok (.astore_n k, 1)) (hv : x.isRef = true) (hl : storeLocals ls k.val x = some l') (k : Wq p e below En Q (T.setTop (mkF m pc' l' st))) (hpc : pc + 1 = pc' := by rfl) : Wq p e below En Q (T.setTop (mkF m pc ls (x :: st))) := by subst hpc; exact Wq.step (fun _ q => XS.astoreN X.here hx rfl hd rfl hv hl q) k
theorem Ow.iload (X : Stand p l e R s m args below meth c T locs cells slots) (hx : p.tables.exec = Jvm.exec) {pc : Nat} {ls : Array Slot} {st : List Value} {pc' : Nat} {k : Nat} {v : Int32} (hd : decode c.code pc = .ok (.iload k, 2)) (hl : ls[k]? = some (.val (.int v))) (k : Wq p e below En Q (T.setTop (mkF m pc' ls (.int v :: st)))) (hpc : pc + 2 = pc' := by rfl) : Wq p e below En Q (T.setTop (mkF m pc ls st)) := by subst hpc; exact Wq.step (fun _ q => XS.iload X.here hx rfl hd hl q) k
theorem Ow.istore (X : Stand p l e R s m args below meth c T locs cells slots) (hx : p.tables.exec = Jvm.exec) {pc : Nat} {ls : Array Slot} {st : List Value} {pc' : Nat} {k : Nat} {x : Int32} {l' : Array Slot} (hd : decode c.code pc = .ok (.istore k, 2)) (hl : storeLocals ls k (.int x) = some l') (k : Wq p e below En Q (T.setTop (mkF m pc' l' st))) (hpc : pc + 2 = pc' := by rfl) : Wq p e below En Q (T.setTop (mkF m pc ls (.int x :: st))) := by subst hpc; exact Wq.step (fun _ q => XS.istore X.here hx rfl hd rfl hl q) k
theorem Ow.lload (X : Stand p l e R s m args below meth c T locs cells slots) (hx : p.tables.exec = Jvm.exec) {pc : Nat} {ls : Array Slot} {st : List Value} {pc' : Nat} {k : Nat} {v : Int64} (hd : decode c.code pc = .ok (.lload k, 2)) (hl : ls[k]? = some (.val (.long v))) (k : Wq p e below En Q (T.setTop (mkF m pc' ls (.long v :: st)))) (hpc : pc + 2 = pc' := by rfl) : Wq p e below En Q (T.setTop (mkF m pc ls st)) := by subst hpc; exact Wq.step (fun _ q => XS.lload X.here hx rfl hd hl q) k
theorem Ow.lstore (X : Stand p l e R s m args below meth c T locs cells slots) (hx : p.tables.exec = Jvm.exec) {pc : Nat} {ls : Array Slot} {st : List Value} {pc' : Nat} {k : Nat} {x : Int64} {l' : Array Slot} (hd : decode c.code pc = .ok (.lstore k, 2)) (hl : storeLocals ls k (.long x) = some l') (k : Wq p e below En Q (T.setTop (mkF m pc' l' st))) (hpc : pc + 2 = pc' := by rfl) : Wq p e below En Q (T.setTop (mkF m pc ls (.long x :: st))) := by subst hpc; exact Wq.step (fun _ q => XS.lstore X.here hx rfl hd rfl hl q) k
theorem Ow.aload (X : Stand p l e R s m args below meth c T locs cells slots) (hx : p.tables.exec = Jvm.exec) {pc : Nat} {ls : Array Slot} {st : List Value} {pc' : Nat} {k : Nat} {v : Value} (hd : decode c.code pc = .ok (.aload k, 2)) (hl : ls[k]? = some (.val v)) (hv : v.isRef = true) (k : Wq p e below En Q (T.setTop (mkF m pc' ls (v :: st)))) (hpc : pc + 2 = pc' := by rfl) : Wq p e below En Q (T.setTop (mkF m pc ls st)) := by subst hpc; exact Wq.step (fun _ q => XS.aload X.here hx rfl hd hl hv q) k
theorem Ow.astore (X : Stand p l e R s m args below meth c T locs cells slots) (hx : p.tables.exec = Jvm.exec) {pc : Nat} {ls : Array Slot} {st : List Value} {pc' : Nat} {k : Nat} {x : Value} {l' : Array Slot} (hd : decode c.code pc = .ok (.astore k, 2)) (hv : x.isRef = true) (hl : storeLocals ls k x = some l') (k : Wq p e below En Q (T.setTop (mkF m pc' l' st))) (hpc : pc + 2 = pc' := by rfl) : Wq p e below En Q (T.setTop (mkF m pc ls (x :: st))) := by subst hpc; exact Wq.step (fun _ q => XS.astore X.here hx rfl hd rfl hv hl q) k
theorem Ow.istoreNS (X : Stand p l e R s m args below meth c T locs cells slots) (hx : p.tables.exec = Jvm.exec) {pc pc' : Nat} {ls : Array Slot} {st : List Value} {k : Fin 4} {x : Int32} {o : Slot} {l' : Array Slot} (hd : decode c.code pc = .ok (.istore_n k, 1)) (hold : ls[k.val]? = some o) (ho : o = .unset ∨ ∃ w, o = .val w ∧ w.category = 1) (hl : ls.setIfInBounds k.val (.val (.int x)) = l') (q : Wq p e below En Q (T.setTop (mkF m pc' l' st))) (hpc : pc + 1 = pc' := by rfl) : Wq p e below En Q (T.setTop (mkF m pc ls (.int x :: st))) := by
  subst hpc hl
  exact Wq.step (fun _ z => XS.istoreN X.here hx rfl hd rfl (XS.store1 hold ho rfl) z) q
theorem Ow.istoreS (X : Stand p l e R s m args below meth c T locs cells slots) (hx : p.tables.exec = Jvm.exec) {pc pc' : Nat} {ls : Array Slot} {st : List Value} {k : Nat} {x : Int32} {o : Slot} {l' : Array Slot} (hd : decode c.code pc = .ok (.istore k, 2)) (hold : ls[k]? = some o) (ho : o = .unset ∨ ∃ w, o = .val w ∧ w.category = 1) (hl : ls.setIfInBounds k (.val (.int x)) = l') (q : Wq p e below En Q (T.setTop (mkF m pc' l' st))) (hpc : pc + 2 = pc' := by rfl) : Wq p e below En Q (T.setTop (mkF m pc ls (.int x :: st))) := by
  subst hpc hl
  exact Wq.step (fun _ z => XS.istore X.here hx rfl hd rfl (XS.store1 hold ho rfl) z) q
theorem Ow.iconst (X : Stand p l e R s m args below meth c T locs cells slots) (hx : p.tables.exec = Jvm.exec) {pc : Nat} {ls : Array Slot} {st : List Value} {pc' : Nat} {i : Int} {z : Int32} (hd : decode c.code pc = .ok (.iconst i, 1)) (hz : Int32.ofInt i = z) (k : Wq p e below En Q (T.setTop (mkF m pc' ls (.int z :: st)))) (hpc : pc + 1 = pc' := by rfl) : Wq p e below En Q (T.setTop (mkF m pc ls st)) := by subst hz hpc; exact Wq.step (fun _ q => XS.iconst X.here hx rfl hd  q) k
theorem Ow.bipush (X : Stand p l e R s m args below meth c T locs cells slots) (hx : p.tables.exec = Jvm.exec) {pc : Nat} {ls : Array Slot} {st : List Value} {pc' : Nat} {i : Int} {z : Int32} (hd : decode c.code pc = .ok (.bipush i, 2)) (hz : (Int8.ofInt i).toInt32 = z) (k : Wq p e below En Q (T.setTop (mkF m pc' ls (.int z :: st)))) (hpc : pc + 2 = pc' := by rfl) : Wq p e below En Q (T.setTop (mkF m pc ls st)) := by subst hz hpc; exact Wq.step (fun _ q => XS.bipush X.here hx rfl hd  q) k
theorem Ow.sipush (X : Stand p l e R s m args below meth c T locs cells slots) (hx : p.tables.exec = Jvm.exec) {pc : Nat} {ls : Array Slot} {st : List Value} {pc' : Nat} {i : Int} {z : Int32} (hd : decode c.code pc = .ok (.sipush i, 3)) (hz : (Int16.ofInt i).toInt32 = z) (k : Wq p e below En Q (T.setTop (mkF m pc' ls (.int z :: st)))) (hpc : pc + 3 = pc' := by rfl) : Wq p e below En Q (T.setTop (mkF m pc ls st)) := by subst hz hpc; exact Wq.step (fun _ q => XS.sipush X.here hx rfl hd  q) k
theorem Ow.lconst (X : Stand p l e R s m args below meth c T locs cells slots) (hx : p.tables.exec = Jvm.exec) {pc : Nat} {ls : Array Slot} {st : List Value} {pc' : Nat} {i : Fin 2} {z : Int64} (hd : decode c.code pc = .ok (.lconst i, 1)) (hz : Int64.ofNat i = z) (k : Wq p e below En Q (T.setTop (mkF m pc' ls (.long z :: st)))) (hpc : pc + 1 = pc' := by rfl) : Wq p e below En Q (T.setTop (mkF m pc ls st)) := by subst hz hpc; exact Wq.step (fun _ q => XS.lconst X.here hx rfl hd  q) k
theorem Ow.aconstNull (X : Stand p l e R s m args below meth c T locs cells slots) (hx : p.tables.exec = Jvm.exec) {pc : Nat} {ls : Array Slot} {st : List Value} {pc' : Nat}  (hd : decode c.code pc = .ok (.aconst_null, 1))  (k : Wq p e below En Q (T.setTop (mkF m pc' ls (.null :: st)))) (hpc : pc + 1 = pc' := by rfl) : Wq p e below En Q (T.setTop (mkF m pc ls st)) := by subst hpc; exact Wq.step (fun _ q => XS.aconstNull X.here hx rfl hd  q) k
theorem Ow.iadd (X : Stand p l e R s m args below meth c T locs cells slots) (hx : p.tables.exec = Jvm.exec) {pc : Nat} {ls : Array Slot} {st : List Value} {pc' : Nat} {x y z : Int32} (hd : decode c.code pc = .ok (.iadd, 1)) (hz : x + y = z) (k : Wq p e below En Q (T.setTop (mkF m pc' ls (.int z :: st)))) (hpc : pc + 1 = pc' := by rfl) : Wq p e below En Q (T.setTop (mkF m pc ls (.int y :: .int x :: st))) := by subst hz hpc; exact Wq.step (fun _ q => XS.iadd X.here hx rfl hd rfl q) k
theorem Ow.ladd (X : Stand p l e R s m args below meth c T locs cells slots) (hx : p.tables.exec = Jvm.exec) {pc : Nat} {ls : Array Slot} {st : List Value} {pc' : Nat} {x y z : Int64} (hd : decode c.code pc = .ok (.ladd, 1)) (hz : x + y = z) (k : Wq p e below En Q (T.setTop (mkF m pc' ls (.long z :: st)))) (hpc : pc + 1 = pc' := by rfl) : Wq p e below En Q (T.setTop (mkF m pc ls (.long y :: .long x :: st))) := by subst hz hpc; exact Wq.step (fun _ q => XS.ladd X.here hx rfl hd rfl q) k
theorem Ow.isub (X : Stand p l e R s m args below meth c T locs cells slots) (hx : p.tables.exec = Jvm.exec) {pc : Nat} {ls : Array Slot} {st : List Value} {pc' : Nat} {x y z : Int32} (hd : decode c.code pc = .ok (.isub, 1)) (hz : x - y = z) (k : Wq p e below En Q (T.setTop (mkF m pc' ls (.int z :: st)))) (hpc : pc + 1 = pc' := by rfl) : Wq p e below En Q (T.setTop (mkF m pc ls (.int y :: .int x :: st))) := by subst hz hpc; exact Wq.step (fun _ q => XS.isub X.here hx rfl hd rfl q) k
theorem Ow.lsub (X : Stand p l e R s m args below meth c T locs cells slots) (hx : p.tables.exec = Jvm.exec) {pc : Nat} {ls : Array Slot} {st : List Value} {pc' : Nat} {x y z : Int64} (hd : decode c.code pc = .ok (.lsub, 1)) (hz : x - y = z) (k : Wq p e below En Q (T.setTop (mkF m pc' ls (.long z :: st)))) (hpc : pc + 1 = pc' := by rfl) : Wq p e below En Q (T.setTop (mkF m pc ls (.long y :: .long x :: st))) := by subst hz hpc; exact Wq.step (fun _ q => XS.lsub X.here hx rfl hd rfl q) k
theorem Ow.imul (X : Stand p l e R s m args below meth c T locs cells slots) (hx : p.tables.exec = Jvm.exec) {pc : Nat} {ls : Array Slot} {st : List Value} {pc' : Nat} {x y z : Int32} (hd : decode c.code pc = .ok (.imul, 1)) (hz : x * y = z) (k : Wq p e below En Q (T.setTop (mkF m pc' ls (.int z :: st)))) (hpc : pc + 1 = pc' := by rfl) : Wq p e below En Q (T.setTop (mkF m pc ls (.int y :: .int x :: st))) := by subst hz hpc; exact Wq.step (fun _ q => XS.imul X.here hx rfl hd rfl q) k
theorem Ow.lmul (X : Stand p l e R s m args below meth c T locs cells slots) (hx : p.tables.exec = Jvm.exec) {pc : Nat} {ls : Array Slot} {st : List Value} {pc' : Nat} {x y z : Int64} (hd : decode c.code pc = .ok (.lmul, 1)) (hz : x * y = z) (k : Wq p e below En Q (T.setTop (mkF m pc' ls (.long z :: st)))) (hpc : pc + 1 = pc' := by rfl) : Wq p e below En Q (T.setTop (mkF m pc ls (.long y :: .long x :: st))) := by subst hz hpc; exact Wq.step (fun _ q => XS.lmul X.here hx rfl hd rfl q) k
theorem Ow.iand (X : Stand p l e R s m args below meth c T locs cells slots) (hx : p.tables.exec = Jvm.exec) {pc : Nat} {ls : Array Slot} {st : List Value} {pc' : Nat} {x y z : Int32} (hd : decode c.code pc = .ok (.iand, 1)) (hz : x &&& y = z) (k : Wq p e below En Q (T.setTop (mkF m pc' ls (.int z :: st)))) (hpc : pc + 1 = pc' := by rfl) : Wq p e below En Q (T.setTop (mkF m pc ls (.int y :: .int x :: st))) := by subst hz hpc; exact Wq.step (fun _ q => XS.iand X.here hx rfl hd rfl q) k
theorem Ow.land (X : Stand p l e R s m args below meth c T locs cells slots) (hx : p.tables.exec = Jvm.exec) {pc : Nat} {ls : Array Slot} {st : List Value} {pc' : Nat} {x y z : Int64} (hd : decode c.code pc = .ok (.land, 1)) (hz : x &&& y = z) (k : Wq p e below En Q (T.setTop (mkF m pc' ls (.long z :: st)))) (hpc : pc + 1 = pc' := by rfl) : Wq p e below En Q (T.setTop (mkF m pc ls (.long y :: .long x :: st))) := by subst hz hpc; exact Wq.step (fun _ q => XS.land X.here hx rfl hd rfl q) k
theorem Ow.ior (X : Stand p l e R s m args below meth c T locs cells slots) (hx : p.tables.exec = Jvm.exec) {pc : Nat} {ls : Array Slot} {st : List Value} {pc' : Nat} {x y z : Int32} (hd : decode c.code pc = .ok (.ior, 1)) (hz : x ||| y = z) (k : Wq p e below En Q (T.setTop (mkF m pc' ls (.int z :: st)))) (hpc : pc + 1 = pc' := by rfl) : Wq p e below En Q (T.setTop (mkF m pc ls (.int y :: .int x :: st))) := by subst hz hpc; exact Wq.step (fun _ q => XS.ior X.here hx rfl hd rfl q) k
theorem Ow.lor (X : Stand p l e R s m args below meth c T locs cells slots) (hx : p.tables.exec = Jvm.exec) {pc : Nat} {ls : Array Slot} {st : List Value} {pc' : Nat} {x y z : Int64} (hd : decode c.code pc = .ok (.lor, 1)) (hz : x ||| y = z) (k : Wq p e below En Q (T.setTop (mkF m pc' ls (.long z :: st)))) (hpc : pc + 1 = pc' := by rfl) : Wq p e below En Q (T.setTop (mkF m pc ls (.long y :: .long x :: st))) := by subst hz hpc; exact Wq.step (fun _ q => XS.lor X.here hx rfl hd rfl q) k
theorem Ow.ixor (X : Stand p l e R s m args below meth c T locs cells slots) (hx : p.tables.exec = Jvm.exec) {pc : Nat} {ls : Array Slot} {st : List Value} {pc' : Nat} {x y z : Int32} (hd : decode c.code pc = .ok (.ixor, 1)) (hz : x ^^^ y = z) (k : Wq p e below En Q (T.setTop (mkF m pc' ls (.int z :: st)))) (hpc : pc + 1 = pc' := by rfl) : Wq p e below En Q (T.setTop (mkF m pc ls (.int y :: .int x :: st))) := by subst hz hpc; exact Wq.step (fun _ q => XS.ixor X.here hx rfl hd rfl q) k
theorem Ow.lxor (X : Stand p l e R s m args below meth c T locs cells slots) (hx : p.tables.exec = Jvm.exec) {pc : Nat} {ls : Array Slot} {st : List Value} {pc' : Nat} {x y z : Int64} (hd : decode c.code pc = .ok (.lxor, 1)) (hz : x ^^^ y = z) (k : Wq p e below En Q (T.setTop (mkF m pc' ls (.long z :: st)))) (hpc : pc + 1 = pc' := by rfl) : Wq p e below En Q (T.setTop (mkF m pc ls (.long y :: .long x :: st))) := by subst hz hpc; exact Wq.step (fun _ q => XS.lxor X.here hx rfl hd rfl q) k
theorem Ow.ineg (X : Stand p l e R s m args below meth c T locs cells slots) (hx : p.tables.exec = Jvm.exec) {pc : Nat} {ls : Array Slot} {st : List Value} {pc' : Nat} {x : Int32} {z : Int32} (hd : decode c.code pc = .ok (.ineg, 1)) (hz : -x = z) (k : Wq p e below En Q (T.setTop (mkF m pc' ls (.int z :: st)))) (hpc : pc + 1 = pc' := by rfl) : Wq p e below En Q (T.setTop (mkF m pc ls (.int x :: st))) := by subst hz hpc; exact Wq.step (fun _ q => XS.ineg X.here hx rfl hd rfl q) k
theorem Ow.lneg (X : Stand p l e R s m args below meth c T locs cells slots) (hx : p.tables.exec = Jvm.exec) {pc : Nat} {ls : Array Slot} {st : List Value} {pc' : Nat} {x : Int64} {z : Int64} (hd : decode c.code pc = .ok (.lneg, 1)) (hz : -x = z) (k : Wq p e below En Q (T.setTop (mkF m pc' ls (.long z :: st)))) (hpc : pc + 1 = pc' := by rfl) : Wq p e below En Q (T.setTop (mkF m pc ls (.long x :: st))) := by subst hz hpc; exact Wq.step (fun _ q => XS.lneg X.here hx rfl hd rfl q) k
theorem Ow.i2l (X : Stand p l e R s m args below meth c T locs cells slots) (hx : p.tables.exec = Jvm.exec) {pc : Nat} {ls : Array Slot} {st : List Value} {pc' : Nat} {x : Int32} {z : Int64} (hd : decode c.code pc = .ok (.i2l, 1)) (hz : x.toInt64 = z) (k : Wq p e below En Q (T.setTop (mkF m pc' ls (.long z :: st)))) (hpc : pc + 1 = pc' := by rfl) : Wq p e below En Q (T.setTop (mkF m pc ls (.int x :: st))) := by subst hz hpc; exact Wq.step (fun _ q => XS.i2l X.here hx rfl hd rfl q) k
theorem Ow.l2i (X : Stand p l e R s m args below meth c T locs cells slots) (hx : p.tables.exec = Jvm.exec) {pc : Nat} {ls : Array Slot} {st : List Value} {pc' : Nat} {x : Int64} {z : Int32} (hd : decode c.code pc = .ok (.l2i, 1)) (hz : x.toInt32 = z) (k : Wq p e below En Q (T.setTop (mkF m pc' ls (.int z :: st)))) (hpc : pc + 1 = pc' := by rfl) : Wq p e below En Q (T.setTop (mkF m pc ls (.long x :: st))) := by subst hz hpc; exact Wq.step (fun _ q => XS.l2i X.here hx rfl hd rfl q) k
theorem Ow.i2b (X : Stand p l e R s m args below meth c T locs cells slots) (hx : p.tables.exec = Jvm.exec) {pc : Nat} {ls : Array Slot} {st : List Value} {pc' : Nat} {x : Int32} {z : Int32} (hd : decode c.code pc = .ok (.i2b, 1)) (hz : x.toInt8.toInt32 = z) (k : Wq p e below En Q (T.setTop (mkF m pc' ls (.int z :: st)))) (hpc : pc + 1 = pc' := by rfl) : Wq p e below En Q (T.setTop (mkF m pc ls (.int x :: st))) := by subst hz hpc; exact Wq.step (fun _ q => XS.i2b X.here hx rfl hd rfl q) k
theorem Ow.i2s (X : Stand p l e R s m args below meth c T locs cells slots) (hx : p.tables.exec = Jvm.exec) {pc : Nat} {ls : Array Slot} {st : List Value} {pc' : Nat} {x : Int32} {z : Int32} (hd : decode c.code pc = .ok (.i2s, 1)) (hz : x.toInt16.toInt32 = z) (k : Wq p e below En Q (T.setTop (mkF m pc' ls (.int z :: st)))) (hpc : pc + 1 = pc' := by rfl) : Wq p e below En Q (T.setTop (mkF m pc ls (.int x :: st))) := by subst hz hpc; exact Wq.step (fun _ q => XS.i2s X.here hx rfl hd rfl q) k
theorem Ow.i2c (X : Stand p l e R s m args below meth c T locs cells slots) (hx : p.tables.exec = Jvm.exec) {pc : Nat} {ls : Array Slot} {st : List Value} {pc' : Nat} {x : Int32} {z : Int32} (hd : decode c.code pc = .ok (.i2c, 1)) (hz : x.toUInt32.toUInt16.toUInt32.toInt32 = z) (k : Wq p e below En Q (T.setTop (mkF m pc' ls (.int z :: st)))) (hpc : pc + 1 = pc' := by rfl) : Wq p e below En Q (T.setTop (mkF m pc ls (.int x :: st))) := by subst hz hpc; exact Wq.step (fun _ q => XS.i2c X.here hx rfl hd rfl q) k
theorem Ow.ishl (X : Stand p l e R s m args below meth c T locs cells slots) (hx : p.tables.exec = Jvm.exec) {pc : Nat} {ls : Array Slot} {st : List Value} {pc' : Nat} {x : Int32} {y : Int32} {z : Int32} (hd : decode c.code pc = .ok (.ishl, 1)) (hz : x <<< (y &&& 31) = z) (k : Wq p e below En Q (T.setTop (mkF m pc' ls (.int z :: st)))) (hpc : pc + 1 = pc' := by rfl) : Wq p e below En Q (T.setTop (mkF m pc ls (.int y :: .int x :: st))) := by subst hz hpc; exact Wq.step (fun _ q => XS.ishl X.here hx rfl hd rfl q) k
theorem Ow.ishr (X : Stand p l e R s m args below meth c T locs cells slots) (hx : p.tables.exec = Jvm.exec) {pc : Nat} {ls : Array Slot} {st : List Value} {pc' : Nat} {x : Int32} {y : Int32} {z : Int32} (hd : decode c.code pc = .ok (.ishr, 1)) (hz : x >>> (y &&& 31) = z) (k : Wq p e below En Q (T.setTop (mkF m pc' ls (.int z :: st)))) (hpc : pc + 1 = pc' := by rfl) : Wq p e below En Q (T.setTop (mkF m pc ls (.int y :: .int x :: st))) := by subst hz hpc; exact Wq.step (fun _ q => XS.ishr X.here hx rfl hd rfl q) k
theorem Ow.iushr (X : Stand p l e R s m args below meth c T locs cells slots) (hx : p.tables.exec = Jvm.exec) {pc : Nat} {ls : Array Slot} {st : List Value} {pc' : Nat} {x : Int32} {y : Int32} {z : Int32} (hd : decode c.code pc = .ok (.iushr, 1)) (hz : (x.toUInt32 >>> (y &&& 31).toUInt32).toInt32 = z) (k : Wq p e below En Q (T.setTop (mkF m pc' ls (.int z :: st)))) (hpc : pc + 1 = pc' := by rfl) : Wq p e below En Q (T.setTop (mkF m pc ls (.int y :: .int x :: st))) := by subst hz hpc; exact Wq.step (fun _ q => XS.iushr X.here hx rfl hd rfl q) k
theorem Ow.lshl (X : Stand p l e R s m args below meth c T locs cells slots) (hx : p.tables.exec = Jvm.exec) {pc : Nat} {ls : Array Slot} {st : List Value} {pc' : Nat} {x : Int64} {y : Int32} {z : Int64} (hd : decode c.code pc = .ok (.lshl, 1)) (hz : x <<< (y &&& 0x3f).toInt64 = z) (k : Wq p e below En Q (T.setTop (mkF m pc' ls (.long z :: st)))) (hpc : pc + 1 = pc' := by rfl) : Wq p e below En Q (T.setTop (mkF m pc ls (.int y :: .long x :: st))) := by subst hz hpc; exact Wq.step (fun _ q => XS.lshl X.here hx rfl hd rfl q) k
theorem Ow.lshr (X : Stand p l e R s m args below meth c T locs cells slots) (hx : p.tables.exec = Jvm.exec) {pc : Nat} {ls : Array Slot} {st : List Value} {pc' : Nat} {x : Int64} {y : Int32} {z : Int64} (hd : decode c.code pc = .ok (.lshr, 1)) (hz : x >>> (y &&& 0x3f).toInt64 = z) (k : Wq p e below En Q (T.setTop (mkF m pc' ls (.long z :: st)))) (hpc : pc + 1 = pc' := by rfl) : Wq p e below En Q (T.setTop (mkF m pc ls (.int y :: .long x :: st))) := by subst hz hpc; exact Wq.step (fun _ q => XS.lshr X.here hx rfl hd rfl q) k
theorem Ow.lushr (X : Stand p l e R s m args below meth c T locs cells slots) (hx : p.tables.exec = Jvm.exec) {pc : Nat} {ls : Array Slot} {st : List Value} {pc' : Nat} {x : Int64} {y : Int32} {z : Int64} (hd : decode c.code pc = .ok (.lushr, 1)) (hz : (x.toUInt64 >>> (y &&& 0x3f).toInt64.toUInt64).toInt64 = z) (k : Wq p e below En Q (T.setTop (mkF m pc' ls (.long z :: st)))) (hpc : pc + 1 = pc' := by rfl) : Wq p e below En Q (T.setTop (mkF m pc ls (.int y :: .long x :: st))) := by subst hz hpc; exact Wq.step (fun _ q => XS.lushr X.here hx rfl hd rfl q) k
theorem Ow.lcmp (X : Stand p l e R s m args below meth c T locs cells slots) (hx : p.tables.exec = Jvm.exec) {pc : Nat} {ls : Array Slot} {st : List Value} {pc' : Nat} {x y : Int64} (hd : decode c.code pc = .ok (.lcmp, 1))  (k : Wq p e below En Q (T.setTop (mkF m pc' ls (.int (lcmpW x y) :: st)))) (hpc : pc + 1 = pc' := by rfl) : Wq p e below En Q (T.setTop (mkF m pc ls (.long y :: .long x :: st))) := by subst hpc; exact Wq.step (fun _ q => XS.lcmp X.here hx rfl hd rfl q) k
theorem Ow.idiv (X : Stand p l e R s m args below meth c T locs cells slots) (hx : p.tables.exec = Jvm.exec) {pc : Nat} {ls : Array Slot} {st : List Value} {pc' : Nat} {x y z : Int32} (hd : decode c.code pc = .ok (.idiv, 1)) (hy : y ≠ 0) (hz : x / y = z) (k : Wq p e below En Q (T.setTop (mkF m pc' ls (.int z :: st)))) (hpc : pc + 1 = pc' := by rfl) : Wq p e below En Q (T.setTop (mkF m pc ls (.int y :: .int x :: st))) := by subst hz hpc; exact Wq.step (fun _ q => XS.idiv X.here hx rfl hd rfl hy q) k
theorem Ow.ldiv (X : Stand p l e R s m args below meth c T locs cells slots) (hx : p.tables.exec = Jvm.exec) {pc : Nat} {ls : Array Slot} {st : List Value} {pc' : Nat} {x y z : Int64} (hd : decode c.code pc = .ok (.ldiv, 1)) (hy : y ≠ 0) (hz : x / y = z) (k : Wq p e below En Q (T.setTop (mkF m pc' ls (.long z :: st)))) (hpc : pc + 1 = pc' := by rfl) : Wq p e below En Q (T.setTop (mkF m pc ls (.long y :: .long x :: st))) := by subst hz hpc; exact Wq.step (fun _ q => XS.ldiv X.here hx rfl hd rfl hy q) k
theorem Ow.irem (X : Stand p l e R s m args below meth c T locs cells slots) (hx : p.tables.exec = Jvm.exec) {pc : Nat} {ls : Array Slot} {st : List Value} {pc' : Nat} {x y z : Int32} (hd : decode c.code pc = .ok (.irem, 1)) (hy : y ≠ 0) (hz : x % y = z) (k : Wq p e below En Q (T.setTop (mkF m pc' ls (.int z :: st)))) (hpc : pc + 1 = pc' := by rfl) : Wq p e below En Q (T.setTop (mkF m pc ls (.int y :: .int x :: st))) := by subst hz hpc; exact Wq.step (fun _ q => iremM X hx rfl hd rfl hy q) k
theorem Ow.lrem (X : Stand p l e R s m args below meth c T locs cells slots) (hx : p.tables.exec = Jvm.exec) {pc : Nat} {ls : Array Slot} {st : List Value} {pc' : Nat} {x y z : Int64} (hd : decode c.code pc = .ok (.lrem, 1)) (hy : y ≠ 0) (hz : x % y = z) (k : Wq p e below En Q (T.setTop (mkF m pc' ls (.long z :: st)))) (hpc : pc + 1 = pc' := by rfl) : Wq p e below En Q (T.setTop (mkF m pc ls (.long y :: .long x :: st))) := by
  rw [← lrem_mod] at hz
  subst hz hpc
  exact Wq.step (fun _ q => XS.lrem X.here hx rfl hd rfl hy q) k
theorem Ow.iinc (X : Stand p l e R s m args below meth c T locs cells slots) (hx : p.tables.exec = Jvm.exec) {pc : Nat} {ls : Array Slot} {st : List Value} {pc' : Nat} {i : Nat} {cst : Int} {x : Int32} {l' : Array Slot} (hd : decode c.code pc = .ok (.iinc i cst, 3)) (hl : ls[i]? = some (.val (.int x))) (hl' : storeLocals ls i (.int (x + Int32.ofInt cst)) = some l') (k : Wq p e below En Q (T.setTop (mkF m pc' l' st))) (hpc : pc + 3 = pc' := by rfl) : Wq p e below En Q (T.setTop (mkF m pc ls st)) := by subst hpc; exact Wq.step (fun _ q => XS.iinc X.here hx rfl hd hl hl' q) k
theorem Ow.dup (X : Stand p l e R s m args below meth c T locs cells slots) (hx : p.tables.exec = Jvm.exec) {pc : Nat} {ls : Array Slot} {st : List Value} {pc' : Nat} {x : Value} (hd : decode c.code pc = .ok (.dup, 1)) (hc : x.category = 1) (k : Wq p e below En Q (T.setTop (mkF m pc' ls (x :: x :: st)))) (hpc : pc + 1 = pc' := by rfl) : Wq p e below En Q (T.setTop (mkF m pc ls (x :: st))) := by subst hpc; exact Wq.step (fun _ q => XS.dup X.here hx rfl hd rfl hc q) k
theorem Ow.pop (X : Stand p l e R s m args below meth c T locs cells slots) (hx : p.tables.exec = Jvm.exec) {pc : Nat} {ls : Array Slot} {st : List Value} {pc' : Nat} {x : Value} (hd : decode c.code pc = .ok (.pop, 1)) (hc : x.category = 1) (k : Wq p e below En Q (T.setTop (mkF m pc' ls st))) (hpc : pc + 1 = pc' := by rfl) : Wq p e below En Q (T.setTop (mkF m pc ls (x :: st))) := by subst hpc; exact Wq.step (fun _ q => XS.pop X.here hx rfl hd rfl hc q) k
theorem Ow.dupX1 (X : Stand p l e R s m args below meth c T locs cells slots) (hx : p.tables.exec = Jvm.exec) {pc : Nat} {ls : Array Slot} {st : List Value} {pc' : Nat} {x y : Value} (hd : decode c.code pc = .ok (.dup_x1, 1)) (hc : x.category = 1) (hc' : y.category = 1) (k : Wq p e below En Q (T.setTop (mkF m pc' ls (x :: y :: x :: st)))) (hpc : pc + 1 = pc' := by rfl) : Wq p e below En Q (T.setTop (mkF m pc ls (x :: y :: st))) := by subst hpc; exact Wq.step (fun _ q => XS.dupX1 X.here hx rfl hd rfl hc hc' q) k
theorem Ow.swap (X : Stand p l e R s m args below meth c T locs cells slots) (hx : p.tables.exec = Jvm.exec) {pc : Nat} {ls : Array Slot} {st : List Value} {pc' : Nat} {x y : Value} (hd : decode c.code pc = .ok (.swap, 1)) (hc : x.category = 1) (hc' : y.category = 1) (k : Wq p e below En Q (T.setTop (mkF m pc' ls (y :: x :: st)))) (hpc : pc + 1 = pc' := by rfl) : Wq p e below En Q (T.setTop (mkF m pc ls (x :: y :: st))) := by subst hpc; exact Wq.step (fun _ q => XS.swap X.here hx rfl hd rfl hc hc' q) k
theorem Ow.dup2 (X : Stand p l e R s m args below meth c T locs cells slots) (hx : p.tables.exec = Jvm.exec) {pc : Nat} {ls : Array Slot} {st : List Value} {pc' : Nat} {x y : Value} (hd : decode c.code pc = .ok (.dup2, 1)) (hc : x.category = 1) (hc' : y.category = 1) (k : Wq p e below En Q (T.setTop (mkF m pc' ls (x :: y :: x :: y :: st)))) (hpc : pc + 1 = pc' := by rfl) : Wq p e below En Q (T.setTop (mkF m pc ls (x :: y :: st))) := by subst hpc; exact Wq.step (fun _ q => Jvm.Free.XT.dup2 X.here hx rfl hd rfl hc hc' q) k
theorem Ow.dup2L (X : Stand p l e R s m args below meth c T locs cells slots) (hx : p.tables.exec = Jvm.exec) {pc : Nat} {ls : Array Slot} {st : List Value} {pc' : Nat} {x : Int64} (hd : decode c.code pc = .ok (.dup2, 1))  (k : Wq p e below En Q (T.setTop (mkF m pc' ls (.long x :: .long x :: st)))) (hpc : pc + 1 = pc' := by rfl) : Wq p e below En Q (T.setTop (mkF m pc ls (.long x :: st))) := by subst hpc; exact Wq.step (fun _ q => Jvm.Free.XT.dup2L X.here hx rfl hd rfl q) k
theorem Ow.goto (X : Stand p l e R s m args below meth c T locs cells slots) (hx : p.tables.exec = Jvm.exec) {pc : Nat} {ls : Array Slot} {st : List Value} {o : Int} {pc' : Nat} (hd : decode c.code pc = .ok (.goto o, 3)) (ho : 0 ≤ (pc : Int) + o) (hp : ((pc : Int) + o).toNat = pc') (k : Wq p e below En Q (T.setTop (mkF m pc' ls st))) : Wq p e below En Q (T.setTop (mkF m pc ls st)) := Wq.step (fun _ q => XS.goto X.here hx rfl rfl hd ho hp q) k
theorem Ow.ifYes (X : Stand p l e R s m args below meth c T locs cells slots) (hx : p.tables.exec = Jvm.exec) {pc : Nat} {ls : Array Slot} {st : List Value} {cd : ClassFile.Cond} {x : Int32} {o : Int} {pc' : Nat} (hd : decode c.code pc = .ok (.ifCond cd o, 3)) (hc : ifCond.holds cd x = true) (ho : 0 ≤ (pc : Int) + o) (hp : ((pc : Int) + o).toNat = pc') (k : Wq p e below En Q (T.setTop (mkF m pc' ls st))) : Wq p e below En Q (T.setTop (mkF m pc ls (.int x :: st))) := Wq.step (fun _ q => XS.ifYes X.here hx rfl rfl hd rfl hc ho hp q) k
theorem Ow.ifNo (X : Stand p l e R s m args below meth c T locs cells slots) (hx : p.tables.exec = Jvm.exec) {pc : Nat} {ls : Array Slot} {st : List Value} {pc' : Nat} {cd : ClassFile.Cond} {x : Int32} {o : Int} (hd : decode c.code pc = .ok (.ifCond cd o, 3)) (hc : ifCond.holds cd x = false) (k : Wq p e below En Q (T.setTop (mkF m pc' ls st))) (hpc : pc + 3 = pc' := by rfl) : Wq p e below En Q (T.setTop (mkF m pc ls (.int x :: st))) := by subst hpc; exact Wq.step (fun _ q => XS.ifNo X.here hx rfl hd rfl hc q) k
theorem Ow.icmpYes (X : Stand p l e R s m args below meth c T locs cells slots) (hx : p.tables.exec = Jvm.exec) {pc : Nat} {ls : Array Slot} {st : List Value} {cd : ClassFile.Cond} {x y : Int32} {o : Int} {pc' : Nat} (hd : decode c.code pc = .ok (.if_icmp cd o, 3)) (hc : if_icmp.holds cd x y = true) (ho : 0 ≤ (pc : Int) + o) (hp : ((pc : Int) + o).toNat = pc') (k : Wq p e below En Q (T.setTop (mkF m pc' ls st))) : Wq p e below En Q (T.setTop (mkF m pc ls (.int y :: .int x :: st))) := Wq.step (fun _ q => XS.icmpYes X.here hx rfl rfl hd rfl hc ho hp q) k
theorem Ow.icmpNo (X : Stand p l e R s m args below meth c T locs cells slots) (hx : p.tables.exec = Jvm.exec) {pc : Nat} {ls : Array Slot} {st : List Value} {pc' : Nat} {cd : ClassFile.Cond} {x y : Int32} {o : Int} (hd : decode c.code pc = .ok (.if_icmp cd o, 3)) (hc : if_icmp.holds cd x y = false) (k : Wq p e below En Q (T.setTop (mkF m pc' ls st))) (hpc : pc + 3 = pc' := by rfl) : Wq p e below En Q (T.setTop (mkF m pc ls (.int y :: .int x :: st))) := by subst hpc; exact Wq.step (fun _ q => XS.icmpNo X.here hx rfl hd rfl hc q) k
theorem Ow.ifnullYes (X : Stand p l e R s m args below meth c T locs cells slots) (hx : p.tables.exec = Jvm.exec) {pc : Nat} {ls : Array Slot} {st : List Value} {o : Int} {pc' : Nat} (hd : decode c.code pc = .ok (.ifnull o, 3)) (ho : 0 ≤ (pc : Int) + o) (hp : ((pc : Int) + o).toNat = pc') (k : Wq p e below En Q (T.setTop (mkF m pc' ls st))) : Wq p e below En Q (T.setTop (mkF m pc ls (.null :: st))) := Wq.step (fun _ q => XS.ifnullYes X.here hx rfl rfl hd rfl ho hp q) k
theorem Ow.ifnullNo (X : Stand p l e R s m args below meth c T locs cells slots) (hx : p.tables.exec = Jvm.exec) {pc : Nat} {ls : Array Slot} {st : List Value} {pc' : Nat} {o : Int} {b : Addr} (hd : decode c.code pc = .ok (.ifnull o, 3))  (k : Wq p e below En Q (T.setTop (mkF m pc' ls st))) (hpc : pc + 3 = pc' := by rfl) : Wq p e below En Q (T.setTop (mkF m pc ls (.ref b :: st))) := by subst hpc; exact Wq.step (fun _ q => XS.ifnullNo X.here hx rfl hd rfl q) k
theorem Ow.ifnonnullYes (X : Stand p l e R s m args below meth c T locs cells slots) (hx : p.tables.exec = Jvm.exec) {pc : Nat} {ls : Array Slot} {st : List Value} {o : Int} {b : Addr} {pc' : Nat} (hd : decode c.code pc = .ok (.ifnonnull o, 3)) (ho : 0 ≤ (pc : Int) + o) (hp : ((pc : Int) + o).toNat = pc') (k : Wq p e below En Q (T.setTop (mkF m pc' ls st))) : Wq p e below En Q (T.setTop (mkF m pc ls (.ref b :: st))) := Wq.step (fun _ q => XS.ifnonnullYes X.here hx rfl rfl hd rfl ho hp q) k
theorem Ow.ifnonnullNo (X : Stand p l e R s m args below meth c T locs cells slots) (hx : p.tables.exec = Jvm.exec) {pc : Nat} {ls : Array Slot} {st : List Value} {pc' : Nat} {o : Int} (hd : decode c.code pc = .ok (.ifnonnull o, 3))  (k : Wq p e below En Q (T.setTop (mkF m pc' ls st))) (hpc : pc + 3 = pc' := by rfl) : Wq p e below En Q (T.setTop (mkF m pc ls (.null :: st))) := by subst hpc; exact Wq.step (fun _ q => XS.ifnonnullNo X.here hx rfl hd rfl q) k
theorem Ow.acmp (X : Stand p l e R s m args below meth c T locs cells slots) (hx : p.tables.exec = Jvm.exec) {pc : Nat} {ls : Array Slot} {st : List Value} {cd : ACond} {x y : Value} {o : Int} {pc' : Nat} {same : Bool} (hd : decode c.code pc = .ok (.if_acmp cd o, 3)) (h1 : x.isRef = true) (h2 : y.isRef = true) (hq : decide (x = y) = same) (ho : 0 ≤ (pc : Int) + o) (hp : pc' = if acV cd same = true then ((pc : Int) + o).toNat else pc + 3) (k : Wq p e below En Q (T.setTop (mkF m pc' ls st))) : Wq p e below En Q (T.setTop (mkF m pc ls (y :: x :: st))) := Wq.step (fun _ q => Jvm.RoadKit.acmp (g := mkF m pc ls (y :: x :: st)) X hx rfl h1 h2 rfl hd rfl hq ho hp q) k
theorem Ow.ldcInt (X : Stand p l e R s m args below meth c T locs cells slots) (hx : p.tables.exec = Jvm.exec) (hZ : Z.Warmed39 s.vm) {a0 : Array Value} {own : String} {index : Nat} {v : Int32} {pc pc' : Nat} {ls : Array Slot} {st : List Value} (hown : s.vm.findClass own = some m.cls) (w : (Cond.constant own index v).before a0 Z = true) (hd : decode c.code pc = .ok (.ldc index, 2)) (k : Wq p e below En Q (T.setTop (mkF m pc' ls (.int v :: st)))) (hpc : pc + 2 = pc' := by rfl) : Wq p e below En Q (T.setTop (mkF m pc ls st)) := by subst hpc; exact Wq.step (fun _ q => X.ldcInt hx hown (mvT hZ w) (g := mkF m pc ls st) rfl hd _ q) k
theorem Ow.ldcwInt (X : Stand p l e R s m args below meth c T locs cells slots) (hx : p.tables.exec = Jvm.exec) (hZ : Z.Warmed39 s.vm) {a0 : Array Value} {own : String} {index : Nat} {v : Int32} {pc pc' : Nat} {ls : Array Slot} {st : List Value} (hown : s.vm.findClass own = some m.cls) (w : (Cond.constant own index v).before a0 Z = true) (hd : decode c.code pc = .ok (.ldc_w index, 3)) (k : Wq p e below En Q (T.setTop (mkF m pc' ls (.int v :: st)))) (hpc : pc + 3 = pc' := by rfl) : Wq p e below En Q (T.setTop (mkF m pc ls st)) := by subst hpc; exact Wq.step (fun _ q => X.ldcwInt hx hown (mvT hZ w) (g := mkF m pc ls st) rfl hd _ q) k
theorem Ow.ldc2Long (X : Stand p l e R s m args below meth c T locs cells slots) (hx : p.tables.exec = Jvm.exec) (hZ : Z.Warmed39 s.vm) {a0 : Array Value} {own : String} {index : Nat} {v : Int64} {pc pc' : Nat} {ls : Array Slot} {st : List Value} (hown : s.vm.findClass own = some m.cls) (w : (Cond.constantLong own index v).before a0 Z = true) (hd : decode c.code pc = .ok (.ldc2_w index, 3)) (k : Wq p e below En Q (T.setTop (mkF m pc' ls (.long v :: st)))) (hpc : pc + 3 = pc' := by rfl) : Wq p e below En Q (T.setTop (mkF m pc ls st)) := by subst hpc; exact Wq.step (fun _ q => X.ldc2Long hx hown (mvT hZ w) (g := mkF m pc ls st) rfl hd _ q) k
theorem Ow.ldI (X : Stand p l e R s m args below meth c T locs cells slots) (hx : p.tables.exec = Jvm.exec) (hZ : Z.Warmed39 s.vm) (eT : T.heap = h) (V : Al Z h a .int vs) {pc pc' : Nat} {ls : Array Slot} {st : List Value} {j : Int32} {i : Nat} (hd : decode c.code pc = .ok (.iaload, 1)) (hj : ¬ j < 0) (hi : j.toNatClampNeg = i) (hv : vs[i]? = some v) (k : Wq p e below En Q (T.setTop (mkF m pc' ls (v :: st)))) (hpc : pc + 1 = pc' := by rfl) : Wq p e below En Q (T.setTop (mkF m pc ls (.int j :: .ref a :: st))) := by subst hpc; exact Wq.step (fun _ q => Jvm.OwnW.ldI X hx hZ eT V hj hi hv (g := mkF m pc ls (.int j :: .ref a :: st)) rfl rfl hd q) k
theorem Ow.ldJ (X : Stand p l e R s m args below meth c T locs cells slots) (hx : p.tables.exec = Jvm.exec) (hZ : Z.Warmed39 s.vm) (eT : T.heap = h) (V : Al Z h a .long vs) {pc pc' : Nat} {ls : Array Slot} {st : List Value} {j : Int32} {i : Nat} (hd : decode c.code pc = .ok (.laload, 1)) (hj : ¬ j < 0) (hi : j.toNatClampNeg = i) (hv : vs[i]? = some v) (k : Wq p e below En Q (T.setTop (mkF m pc' ls (v :: st)))) (hpc : pc + 1 = pc' := by rfl) : Wq p e below En Q (T.setTop (mkF m pc ls (.int j :: .ref a :: st))) := by subst hpc; exact Wq.step (fun _ q => Jvm.OwnW.ldJ X hx hZ eT V hj hi hv (g := mkF m pc ls (.int j :: .ref a :: st)) rfl rfl hd q) k
theorem Ow.ldC (X : Stand p l e R s m args below meth c T locs cells slots) (hx : p.tables.exec = Jvm.exec) (hZ : Z.Warmed39 s.vm) (eT : T.heap = h) (V : Al Z h a .char vs) {pc pc' : Nat} {ls : Array Slot} {st : List Value} {j : Int32} {i : Nat} (hd : decode c.code pc = .ok (.caload, 1)) (hj : ¬ j < 0) (hi : j.toNatClampNeg = i) (hv : vs[i]? = some v) (k : Wq p e below En Q (T.setTop (mkF m pc' ls (v :: st)))) (hpc : pc + 1 = pc' := by rfl) : Wq p e below En Q (T.setTop (mkF m pc ls (.int j :: .ref a :: st))) := by subst hpc; exact Wq.step (fun _ q => Jvm.OwnW.ldC X hx hZ eT V hj hi hv (g := mkF m pc ls (.int j :: .ref a :: st)) rfl rfl hd q) k
theorem Ow.ldB (X : Stand p l e R s m args below meth c T locs cells slots) (hx : p.tables.exec = Jvm.exec) (hZ : Z.Warmed39 s.vm) (eT : T.heap = h) (V : Al Z h a .byte vs) {pc pc' : Nat} {ls : Array Slot} {st : List Value} {j : Int32} {i : Nat} (hd : decode c.code pc = .ok (.baload, 1)) (hj : ¬ j < 0) (hi : j.toNatClampNeg = i) (hv : vs[i]? = some v) (k : Wq p e below En Q (T.setTop (mkF m pc' ls (v :: st)))) (hpc : pc + 1 = pc' := by rfl) : Wq p e below En Q (T.setTop (mkF m pc ls (.int j :: .ref a :: st))) := by subst hpc; exact Wq.step (fun _ q => Jvm.OwnW.ldB X hx hZ eT V hj hi hv (g := mkF m pc ls (.int j :: .ref a :: st)) rfl rfl hd q) k
theorem Ow.ldZ (X : Stand p l e R s m args below meth c T locs cells slots) (hx : p.tables.exec = Jvm.exec) (hZ : Z.Warmed39 s.vm) (eT : T.heap = h) (V : Al Z h a .boolean vs) {pc pc' : Nat} {ls : Array Slot} {st : List Value} {j : Int32} {i : Nat} (hd : decode c.code pc = .ok (.baload, 1)) (hj : ¬ j < 0) (hi : j.toNatClampNeg = i) (hv : vs[i]? = some v) (k : Wq p e below En Q (T.setTop (mkF m pc' ls (v :: st)))) (hpc : pc + 1 = pc' := by rfl) : Wq p e below En Q (T.setTop (mkF m pc ls (.int j :: .ref a :: st))) := by subst hpc; exact Wq.step (fun _ q => Jvm.OwnW.ldZ X hx hZ eT V hj hi hv (g := mkF m pc ls (.int j :: .ref a :: st)) rfl rfl hd q) k
theorem Ow.ldR (X : Stand p l e R s m args below meth c T locs cells slots) (hx : p.tables.exec = Jvm.exec) (hZ : Z.Warmed39 s.vm) (eT : T.heap = h) (V : Al Z h a ty vs) (hty : ty.isReference = true) {pc pc' : Nat} {ls : Array Slot} {st : List Value} {j : Int32} {i : Nat} (hd : decode c.code pc = .ok (.aaload, 1)) (hj : ¬ j < 0) (hi : j.toNatClampNeg = i) (hv : vs[i]? = some v) (k : Wq p e below En Q (T.setTop (mkF m pc' ls (v :: st)))) (hpc : pc + 1 = pc' := by rfl) : Wq p e below En Q (T.setTop (mkF m pc ls (.int j :: .ref a :: st))) := by
  subst hpc
  obtain ⟨cl, A, r⟩ := V
  exact Wq.step (fun _ q => X.aaload hx (by rw [eT]; exact A.1) (State.isArrayOf_alike hZ.alike A.2.1) hty A.2.2 (al_in r hj hi (al_lt hv)) (al_at r hi hv) (g := mkF m pc ls (.int j :: .ref a :: st)) rfl rfl hd _ q) k
theorem Ow.lenA (X : Stand p l e R s m args below meth c T locs cells slots) (hx : p.tables.exec = Jvm.exec) (hZ : Z.Warmed39 s.vm) (eT : T.heap = h) (V : Al Z h a ty vs) {pc pc' : Nat} {ls : Array Slot} {st : List Value} {n : Int32} (hd : decode c.code pc = .ok (.arraylength, 1)) (hn : vs.length.toInt32 = n) (k : Wq p e below En Q (T.setTop (mkF m pc' ls (.int n :: st)))) (hpc : pc + 1 = pc' := by rfl) : Wq p e below En Q (T.setTop (mkF m pc ls (.ref a :: st))) := by subst hpc; exact Wq.step (fun _ q => Jvm.OwnW.lenA X hx hZ eT V hn (g := mkF m pc ls (.ref a :: st)) rfl rfl hd q) k
end Base
end Jvm.OwnW
namespace Jvm.OwnW
open Sem ClassFile Op Lib Jvm.Stand Jvm.Free Jvm.LawKit Jvm.RoadKit
section BareBody
/-- what the walk of a body starts from where nothing is known of the making of its class (a default method of an interface) -/
def Bare (p : Program) (l : Launch) (x : MethodName) (rm : Room) (bytes : ByteArray) (maxL : Nat) (ret : Option FieldType) (e : Env) (s : State) (m : MethodId) (args : Array Value) (below : List Frame) (meth : Method) (c : Code) (s₁ : State) : Prop :=
  Stand p l e rm s m args below meth c s₁ [] 0 0 ∧ p.tables.exec = Jvm.exec ∧ s.methodNamed? x = some m ∧ meth.sig.returnType = ret ∧ meth.locks = false ∧ c.code = bytes ∧ c.maxLocals = maxL ∧ s₁ = s.setFrames (.java (entryFrame m args maxL) :: below)
theorem Bare.stand {p : Program} {l : Launch} {x : MethodName} {rm : Room} {bytes : ByteArray} {maxL : Nat} {ret : Option FieldType} {e : Env} {s : State} {m : MethodId} {args : Array Value} {below : List Frame} {meth : Method} {c : Code} {s₁ : State} (B : Bare p l x rm bytes maxL ret e s m args below meth c s₁) : Stand p l e rm s m args below meth c s₁ [] 0 0 := B.1
theorem Bare.exec {p : Program} {l : Launch} {x : MethodName} {rm : Room} {bytes : ByteArray} {maxL : Nat} {ret : Option FieldType} {e : Env} {s : State} {m : MethodId} {args : Array Value} {below : List Frame} {meth : Method} {c : Code} {s₁ : State} (B : Bare p l x rm bytes maxL ret e s m args below meth c s₁) : p.tables.exec = Jvm.exec := B.2.1
theorem Bare.named {p : Program} {l : Launch} {x : MethodName} {rm : Room} {bytes : ByteArray} {maxL : Nat} {ret : Option FieldType} {e : Env} {s : State} {m : MethodId} {args : Array Value} {below : List Frame} {meth : Method} {c : Code} {s₁ : State} (B : Bare p l x rm bytes maxL ret e s m args below meth c s₁) : s.methodNamed? x = some m := B.2.2.1
theorem Bare.returns {p : Program} {l : Launch} {x : MethodName} {rm : Room} {bytes : ByteArray} {maxL : Nat} {ret : Option FieldType} {e : Env} {s : State} {m : MethodId} {args : Array Value} {below : List Frame} {meth : Method} {c : Code} {s₁ : State} (B : Bare p l x rm bytes maxL ret e s m args below meth c s₁) : meth.sig.returnType = ret := B.2.2.2.1
theorem Bare.notSynchronized {p : Program} {l : Launch} {x : MethodName} {rm : Room} {bytes : ByteArray} {maxL : Nat} {ret : Option FieldType} {e : Env} {s : State} {m : MethodId} {args : Array Value} {below : List Frame} {meth : Method} {c : Code} {s₁ : State} (B : Bare p l x rm bytes maxL ret e s m args below meth c s₁) : meth.locks = false := B.2.2.2.2.1
theorem Bare.bytes {p : Program} {l : Launch} {x : MethodName} {rm : Room} {bytes : ByteArray} {maxL : Nat} {ret : Option FieldType} {e : Env} {s : State} {m : MethodId} {args : Array Value} {below : List Frame} {meth : Method} {c : Code} {s₁ : State} (B : Bare p l x rm bytes maxL ret e s m args below meth c s₁) : c.code = bytes := B.2.2.2.2.2.1
theorem Bare.locals {p : Program} {l : Launch} {x : MethodName} {rm : Room} {bytes : ByteArray} {maxL : Nat} {ret : Option FieldType} {e : Env} {s : State} {m : MethodId} {args : Array Value} {below : List Frame} {meth : Method} {c : Code} {s₁ : State} (B : Bare p l x rm bytes maxL ret e s m args below meth c s₁) : c.maxLocals = maxL := B.2.2.2.2.2.2.1
theorem Bare.state {p : Program} {l : Launch} {x : MethodName} {rm : Room} {bytes : ByteArray} {maxL : Nat} {ret : Option FieldType} {e : Env} {s : State} {m : MethodId} {args : Array Value} {below : List Frame} {meth : Method} {c : Code} {s₁ : State} (B : Bare p l x rm bytes maxL ret e s m args below meth c s₁) : s₁ = s.setFrames (.java (entryFrame m args maxL) :: below) := B.2.2.2.2.2.2.2
theorem Bare.method {p : Program} {l : Launch} {x : MethodName} {rm : Room} {bytes : ByteArray} {maxL : Nat} {ret : Option FieldType} {e : Env} {s : State} {m : MethodId} {args : Array Value} {below : List Frame} {meth : Method} {c : Code} {s₁ : State} (B : Bare p l x rm bytes maxL ret e s m args below meth c s₁) : s.vm.method? m = some meth := B.1.method
def MetBare (l : Launch) (x : MethodName) (rm : Room) (bytes : ByteArray) (maxL : Nat) (ret : Option FieldType) (P : Array Value → State → Prop) (Q : Array Value → State → Outcome → State → Prop) : Prop :=
  ∀ p e s m args below meth c s₁, Bare p l x rm bytes maxL ret e s m args below meth c s₁ → P args s → ∃ s₂ o, Steps p.tables e below (s₁.setTop (entryFrame m args maxL)) s₂ ∧ s₂.status = .running ∧ Ended s₂ below o ∧ Q args s o s₂
variable {p : Program} {l : Launch} {e : Env} {R : Room} {s : State} {args : Array Value} {below : List Frame} {Z : State} {h : Heap} {a0 : Array Value}
/-- a call of such a body comes back -/
theorem backBare {y : MethodName} {bytes : ByteArray} {maxL : Nat} {ret : Option FieldType} {rm : Room} {len W : Nat} {as' : Array Value} {Q : Option Value → Heap → List Loc → Prop}
    (hM : MetBare l y rm bytes maxL ret (fun a U => a = as' ∧ Z.Warmed39 U.vm ∧ U.heap = h) (fun _ U o U' => ∃ v L, o = .returned v ∧ Q v U'.heap L ∧ FrameEnd U o U' L rm.cells rm.slots))
    (hpl : plainFor y = true) (hx : p.tables.exec = Jvm.exec) (hZ : Z.Warmed39 s.vm) (wc : (Cond.code y bytes maxL ret).before a0 Z = true) (hf : rm.frames + 1 ≤ R.frames) (hl : W + (maxL + 11) + rm.locals ≤ R.locals) :
    Back l R p e below s args y len W (fun A a => a = as' ∧ A.U.heap = h ∧ A.cells + rm.cells ≤ R.cells ∧ A.slots + rm.slots ≤ R.slots)
      (fun A _ v B => ∃ L, Q v B.U.heap L ∧ B.locs = A.locs ++ L ∧ B.cells = A.cells + rm.cells ∧ B.slots = A.slots + rm.slots) := by
  intro m meth c A g ig mk a X hg hsize hdg hW hn hp
  obtain ⟨U, Ls, c0, s0⟩ := A
  obtain ⟨rfl, hh, hc1, hs1⟩ := hp
  dsimp only [Pt.U, Pt.locs, Pt.cells, Pt.slots] at X hn hh hc1 hs1 ⊢
  subst hg
  have hU : Z.Warmed39 U.vm := wtrans hZ X.warmed
  obtain ⟨methY, cY, hmY, hcY, hbY, hlY, hrY, hkY, -⟩ := Cond.code_spec (args := #[]) hn (mv hU wc)
  have hroom := X.room_calling (g := g) (R' := rm) (args' := a) hsize hmY hcY hf (by rw [hlY]; omega) hc1 hs1
  have hfr := State.frames_calling X.here.top g mk a
  have hcur := State.cur_lt_of_frames hfr
  obtain ⟨tt, htt, -⟩ := State.frames_cons hfr
  have hf1 := State.frames_setFrames (s := U.calling g mk a) (.java (entryFrame mk a maxL) :: .java g :: U.frames.tail) hcur
  have htop := State.topJava?_of_frames hf1
  have hcode : (U.calling g mk a).code? g.method = some c := by
    have q := X.here.code
    rw [State.code?_eq] at q ⊢
    simpa [State.calling, State.pushFrame, State.setFrames] using q
  have hears : (U.calling g mk a).hears mk (.java g :: U.frames.tail) = true := by simp [State.hears, hcode, hdg, Except.toOption]
  have hmY' : (U.calling g mk a).vm.method? mk = some methY := hmY
  have hAt : At ((U.calling g mk a).setFrames (.java (entryFrame mk a maxL) :: .java g :: U.frames.tail)) mk cY (.java g :: U.frames.tail) :=
    ⟨by rw [htop]; rfl, ⟨[], by rw [hf1]; rfl⟩, X.here.running, by simpa [State.calling] using X.here.runnable, by simpa [State.calling] using X.here.alone,
      by rw [State.code?_eq]; simp [State.setFrames, hmY', hcY], State.plainMethod.of_named (s := U.calling g mk a) hpl hn hmY'⟩
  have Y : Stand p l e rm (U.calling g mk a) mk a (.java g :: U.frames.tail) methY cY ((U.calling g mk a).setFrames (.java (entryFrame mk a maxL) :: .java g :: U.frames.tail)) [] 0 0 :=
    ⟨X.admits, X.cas, X.clock, hfr, hroom, hears, hmY', hcY, hAt, by rw [hf1]; rfl, State.WarmedH.refl _, by rw [State.stackLimits_setFrames], by rw [State.stackBytes_setFrames], (State.sameButNew.refl _ htt).setFrames _ hcur⟩
  obtain ⟨s₂, o, hst, hrun, hend, v, L, rfl, hq, hfe⟩ := hM p e _ mk a _ methY cY _ ⟨Y, hx, hn, hrY, hkY, hbY, hlY, rfl⟩ ⟨rfl, hU, hh⟩
  -- into the callee's frame
  have hent : (doInvoke e (U.setTop g) [] mk a).1 = ((U.calling g mk a).setFrames (.java (entryFrame mk a maxL) :: .java g :: U.frames.tail)).setTop (entryFrame mk a maxL) := by
    have q : (U.setTop g).pushFrame (.java (entryFrame mk a maxL)) = (U.calling g mk a).setFrames (.java (entryFrame mk a maxL) :: .java g :: U.frames.tail) := by
      unfold State.calling State.pushFrame
      rw [State.setFrames_setFrames, State.frames_setTop' g X.here.top]
    rw [doInvoke_enter X.here.top [] hmY hcY hkY (X.notFull hsize (by omega) (by rw [hlY]; omega)), hlY, q]
  -- and back: the caller's frame, one instruction further
  obtain ⟨c₂, i₂, len₂, hc₂, hd₂, hf₂⟩ := hend
  obtain ⟨-, hw₂, q1, q2, q3, q4, q5, q6⟩ := hfe
  have hw' : U.WarmedH s₂.vm := hw₂
  have ec : c₂ = c := Option.some.inj (hc₂.symm.trans ((by rw [State.code?_eq, State.code?_eq, hw'.alike.method?] : s₂.code? g.method = U.code? g.method).trans X.here.code))
  subst ec
  have el : len₂ = len := by rw [hdg] at hd₂; cases hd₂; rfl
  subst el
  obtain ⟨g₀, hg₀⟩ := Option.isSome_iff_exists.mp X.here.top
  obtain ⟨r₀, hr₀⟩ := State.topJava?_eq_some.mp hg₀
  obtain ⟨t₀, ht₀, -⟩ := State.frames_cons hr₀
  have hs₂ : s₂ = (({ U with heap := s₂.heap, slotsUsed := s₂.slotsUsed } : State).setVm s₂.vm).setTop { g with pc := g.pc + len₂, stack := v.toList ++ g.stack } := by
    have w1 : (({ U with heap := s₂.heap, slotsUsed := s₂.slotsUsed } : State).setVm s₂.vm).frames = .java g₀ :: r₀ := hr₀
    have w2 : s₂ = ({ s₂ with vm := (U.calling g mk a).vm } : State).setVm s₂.vm := rfl
    rw [q1] at w2
    refine w2.trans ?_
    show (({ (U.calling g mk a).setFrames s₂.frames with heap := s₂.heap, slotsUsed := s₂.slotsUsed } : State)).setVm s₂.vm = _
    rw [hf₂, State.calling_eq X.here.top, State.setFrames_setFrames, State.setTop_of_frames _ w1, hr₀]
    rfl
  have hsame : U.sameButNew ({ U with heap := s₂.heap, slotsUsed := s₂.slotsUsed } : State) L rm.cells rm.slots := by
    refine ⟨?_, q2, q3, q4, q5, q6⟩
    show ({ U with heap := s₂.heap, slotsUsed := s₂.slotsUsed } : State) = { U.setFrames U.frames with heap := s₂.heap, slotsUsed := s₂.slotsUsed }
    rw [State.setFrames_self ht₀]
  have XB : Stand p l e R s g.method args below meth c₂ (({ U with heap := s₂.heap, slotsUsed := s₂.slotsUsed } : State).setVm s₂.vm) (Ls ++ L) (c0 + rm.cells) (s0 + rm.slots) :=
    ⟨X.admits, X.cas, X.clock, X.frames, X.room, X.hears, X.method, X.code, (X.here.setHeapUsed s₂.heap s₂.slotsUsed).setVm hw'.alike, X.tail, State.WarmedH.trans X.warmed hw', X.limits, X.bytes, X.same.trans (hsame.setVm s.vm)⟩
  refine ⟨v, ⟨(({ U with heap := s₂.heap, slotsUsed := s₂.slotsUsed } : State).setVm s₂.vm), Ls ++ L, c0 + rm.cells, s0 + rm.slots⟩, XB, ⟨L, hq, rfl, rfl, rfl⟩, ?_⟩
  rw [hent]
  show Steps p.tables e below _ ((({ U with heap := s₂.heap, slotsUsed := s₂.slotsUsed } : State).setVm s₂.vm).setTop { g with pc := g.pc + len₂, stack := v.toList ++ g.stack })
  rw [← hs₂]
  have hst2 : Steps p.tables e ([Frame.java g] ++ below) (((U.calling g mk a).setFrames (.java (entryFrame mk a maxL) :: .java g :: U.frames.tail)).setTop (entryFrame mk a maxL)) s₂ := by
    have q : ([Frame.java g] ++ below : List Frame) = .java g :: U.frames.tail := by rw [X.tail]; rfl
    rw [q]
    exact hst
  exact hst2.weaken
end BareBody
end Jvm.OwnW
namespace Jvm.Pilot.@@N@@
open Jvm Jvm.ClassFile Sem Op Lib Jvm.Free Jvm.Stand Jvm.LawKit Jvm.RoadKit Jvm.OwnW Bundle Jvm.Pilot.@@N@@.Jvm.D
theorem kw8 {Z : State} {a0 : Array Value} (hw : ∀ d ∈ tables_1, d.before a0 Z = true) : (Jvm.Cond.methodLink "com/example/tightbit/tightbit/SparseDocIds$Runs" (1 : Nat) ({ cls := "java/lang/Object", name := "<init>", desc := "()V" } : Jvm.MethodName)).before a0 Z = true := hw _ (List.mem_of_getElem? (i := 8) rfl)
theorem kw9 {Z : State} {a0 : Array Value} (hw : ∀ d ∈ tables_1, d.before a0 Z = true) : (Jvm.Cond.instanceMethod ({ cls := "java/lang/Object", name := "<init>", desc := "()V" } : Jvm.MethodName)).before a0 Z = true := hw _ (List.mem_of_getElem? (i := 9) rfl)
theorem kw10 {Z : State} {a0 : Array Value} (hw : ∀ d ∈ tables_1, d.before a0 Z = true) : (Jvm.Cond.code ({ cls := "java/lang/Object", name := "<init>", desc := "()V" } : Jvm.MethodName) object_method_1_code (1 : Nat) (Option.none : Option Jvm.ClassFile.FieldType)).before a0 Z = true := hw _ (List.mem_of_getElem? (i := 10) rfl)
theorem kw12 {Z : State} {a0 : Array Value} (hw : ∀ d ∈ tables_1, d.before a0 Z = true) : (Jvm.Cond.laysFinal "com/example/tightbit/tightbit/SparseDocIds$Runs" "com/example/tightbit/tightbit/SparseDocIds$Runs" "runs" "[C").before a0 Z = true := hw _ (List.mem_of_getElem? (i := 12) rfl)
theorem kw11 {Z : State} {a0 : Array Value} (hw : ∀ d ∈ tables_1, d.before a0 Z = true) : (Jvm.Cond.fieldLink "com/example/tightbit/tightbit/SparseDocIds$Runs" (7 : Nat) "com/example/tightbit/tightbit/SparseDocIds$Runs" "runs" "[C").before a0 Z = true := hw _ (List.mem_of_getElem? (i := 11) rfl)
theorem kw2 {Z : State} {a0 : Array Value} (hw : ∀ d ∈ tables_1, d.before a0 Z = true) : (Jvm.Cond.instantiable "com/example/tightbit/tightbit/SparseDocIds$Runs" (1 : Nat)).before a0 Z = true := hw _ (List.mem_of_getElem? (i := 2) rfl)
theorem d_prog_67_method_1_0 : decode prog_67_method_1_code 0 = .ok (.aload_n 0, 1) := by decide +kernel
theorem d_prog_67_method_1_1 : decode prog_67_method_1_code 1 = .ok (.invokespecial 1, 3) := by decide +kernel
theorem d_prog_67_method_1_4 : decode prog_67_method_1_code 4 = .ok (.aload_n 0, 1) := by decide +kernel
theorem d_prog_67_method_1_5 : decode prog_67_method_1_code 5 = .ok (.aload_n 1, 1) := by decide +kernel
theorem d_prog_67_method_1_6 : decode prog_67_method_1_code 6 = .ok (.putfield 7, 3) := by decide +kernel
theorem pn1 : plainName "com/example/tightbit/tightbit/SparseDocIds$Runs" = true := by first | (simp [plainName, overriddenIn]; done) | decide +kernel
theorem ef_rctor (m : MethodId) (thisrctor : Addr) (arctor_1 : Addr) : entryFrame m #[(.ref thisrctor), (.ref arctor_1)] 2 = mkF m 0 #[.val (.ref thisrctor), .val (.ref arctor_1)] [] := by first | (simp [entryFrame, mkF, argsToLocals, Value.category]; done) | rfl
def Q_rctor (Z : State) (thisrctor : Addr) (arctor_1 : Addr) (h0 : Heap) (n0 : Nat) (v : Option Value) (h : Heap) (L : List Loc) : Prop := v = none ∧ Fr n0 L ∧ Keep h0 h [thisrctor] ∧ Exa Z h thisrctor "com/example/tightbit/tightbit/SparseDocIds$Runs" ∧ Fld Z h thisrctor "com/example/tightbit/tightbit/SparseDocIds$Runs" "runs" "[C" (.ref arctor_1)
theorem d_prog_67_method_1_9 : decode prog_67_method_1_code 9 = .ok (.return_, 1) := by decide +kernel
abbrev mt1 : MethodName := ⟨"com/example/tightbit/tightbit/SparseDocIds$Runs", "<init>", "([C)V"⟩
set_option maxRecDepth 65536 in
set_option maxHeartbeats 40000000 in
theorem rm_rctor (l : Launch) (Z : State) (a0 : Array Value) (hw : ∀ d ∈ tables_1, d.before a0 Z = true) (ws : List Jvm.Cond) (thisrctor : Addr) (arctor_1 : Addr) (h0 : Heap) (n0 : Nat) (Z0 : n0 ≤ h0.size) (E_thisrctor : Exa Z h0 thisrctor "com/example/tightbit/tightbit/SparseDocIds$Runs") (F_thisrctor_runs : Fld Z h0 thisrctor "com/example/tightbit/tightbit/SparseDocIds$Runs" "runs" "[C" .null) (g_thisrctor : n0 ≤ thisrctor) :
    MetFree l mt1 (head1 (Jvm.Cond.code mt1 prog_67_method_1_code 2 none :: ws) ({ frames := 1, cells := 0, slots := 0, locals := 12 } : Room)) (fun a U => a = #[(.ref thisrctor), (.ref arctor_1)] ∧ Z.Warmed39 U.vm ∧ U.heap = h0) (fun _ _ _ _ _ => True) (fun _ U o U' => ∃ v L, o = .returned v ∧ (Q_rctor Z thisrctor arctor_1 h0 n0) v U'.heap L ∧ FrameEnd U o U' L ({ frames := 1, cells := 0, slots := 0, locals := 12 } : Room).cells ({ frames := 1, cells := 0, slots := 0, locals := 12 } : Room).slots) := by
  refine MetFree.of_bodySF (plainFor_of_name pn1) hisR ?_
  intro p e s m args below meth c s₁ Bd hml0 hP hK
  obtain ⟨rfl, hZ, hh⟩ := hP
  have hx := Bd.exec
  have hby := Bd.bytes
  have hml : c.maxLocals = 2 := hml0
  have hown : s.vm.findClass "com/example/tightbit/tightbit/SparseDocIds$Runs" = some m.cls := findClass_of_methodNamed Bd.named
  have hnm := (name_of_methodNamed Bd.named Bd.method).1
  have X0 : Stand p l e ({ frames := 1, cells := 0, slots := 0, locals := 12 } : Room) s m #[(.ref thisrctor), (.ref arctor_1)] below meth c s₁ [] 0 0 := Stand.of_body Bd
  have e0 : s₁.heap = h0 := by rw [← hh, Bd.state]; rfl
  have N0 := Fr.nil n0
  refine Wq.step (p := p) (e := e) (below := below) (En := (fun o t L => FrameEnd s o t L ({ frames := 1, cells := 0, slots := 0, locals := 12 } : Room).cells ({ frames := 1, cells := 0, slots := 0, locals := 12 } : Room).slots)) (Q := (Q_rctor Z thisrctor arctor_1 h0 n0)) (fun t k => castTop (ef_rctor m thisrctor arctor_1) k) ?_
  show Wq _ _ _ _ _ (s₁.setTop (mkF m 0 #[.val (.ref thisrctor), .val (.ref arctor_1)] []))
  refine Ow.aloadN X0 hx (pc' := 1) (hb hby d_prog_67_method_1_0) rfl rfl ?_
  obtain ⟨T1, X1, e1, st1⟩ := initO X0 hx hZ hown (kw8 hw) (kw9 hw) (kw10 hw) e0 (g := (mkF m 1 #[.val (.ref thisrctor), .val (.ref arctor_1)] [(.ref thisrctor)])) rfl (by rw [hml]; rfl) rfl (hb hby d_prog_67_method_1_1) (by decide) (W := 0) (by show 2 * 0 + _ ≤ _; exact Nat.le_of_eq rfl) (by decide)
  refine Wq.step st1 ?_
  show Wq _ _ _ _ _ (T1.setTop (mkF m 4 #[.val (.ref thisrctor), .val (.ref arctor_1)] []))
  refine Ow.aloadN X1 hx (pc' := 5) (hb hby d_prog_67_method_1_4) rfl rfl ?_
  refine Ow.aloadN X1 hx (pc' := 6) (hb hby d_prog_67_method_1_5) rfl rfl ?_
  obtain ⟨T2, h2, X2, e2, W2, st2⟩ := putF X1 hx hZ hown (host := "") (Or.inl (kw11 hw)) Via.refl e1 F_thisrctor_runs E_thisrctor (Or.inr ⟨(kw12 hw), rfl, hnm⟩) (kw2 hw) (ty := (.array .char)) (by decide) (rfl) (rfl) (g := (mkF m 6 #[.val (.ref thisrctor), .val (.ref arctor_1)] [(.ref arctor_1), (.ref thisrctor)])) rfl rfl (hb hby d_prog_67_method_1_6)
  refine Wq.step st2 ?_
  have N2 := Fr.snoc X2 N0 g_thisrctor
  have K2 : Keep h0 h2 [thisrctor] := (Keep.refl h0 [thisrctor]).wr W2 (Or.inl (List.mem_of_getElem? (i := 0) rfl))
  have Z2 : n0 ≤ h2.size := Nat.le_trans Z0 (Keep.of_wr W2).1
  have E_thisrctor_t2 := E_thisrctor.wr W2
  have F_thisrctor_runs_t2 : Fld Z h2 thisrctor "com/example/tightbit/tightbit/SparseDocIds$Runs" "runs" "[C" (.ref arctor_1) := F_thisrctor_runs.same W2
  show Wq _ _ _ _ _ (T2.setTop (mkF m 9 #[.val (.ref thisrctor), .val (.ref arctor_1)] []))
  exact Wq.ret X2 (BodyLoose.notSynchronized Bd) (rv := none) (fun _ => rfl) (fun _ hr => X2.returnOut hx Bd.returns (hb hby d_prog_67_method_1_9) hr) (by decide) (by decide) (by rw [e2]; exact ⟨rfl, N2, K2, E_thisrctor_t2, F_thisrctor_runs_t2⟩)
theorem d_prog_67_method_3_0 : decode prog_67_method_3_code 0 = .ok (.aload_n 0, 1) := by decide +kernel
theorem d_prog_67_method_3_1 : decode prog_67_method_3_code 1 = .ok (.getfield 7, 3) := by decide +kernel
theorem d_prog_67_method_3_4 : decode prog_67_method_3_code 4 = .ok (.arraylength, 1) := by decide +kernel
theorem d_prog_67_method_3_5 : decode prog_67_method_3_code 5 = .ok (.iconst 1, 1) := by decide +kernel
theorem d_prog_67_method_3_6 : decode prog_67_method_3_code 6 = .ok (.iushr, 1) := by decide +kernel
theorem ef_rc (m : MethodId) (thisrc : Addr) : entryFrame m #[(.ref thisrc)] 1 = mkF m 0 #[.val (.ref thisrc)] [] := by first | (simp [entryFrame, mkF, argsToLocals, Value.category]; done) | rfl
def Q_rc (Z : State) (thisrc : Addr) (urc : Addr) (h0 : Heap) (n0 : Nat) (v : Option Value) (h : Heap) (L : List Loc) : Prop := v = some (.int (1 : Int32)) ∧ Fr n0 L ∧ h = h0
theorem d_prog_67_method_3_7 : decode prog_67_method_3_code 7 = .ok (.ireturn, 1) := by decide +kernel
abbrev mt2 : MethodName := ⟨"com/example/tightbit/tightbit/SparseDocIds$Runs", "runCount", "()I"⟩
set_option maxRecDepth 65536 in
set_option maxHeartbeats 40000000 in
theorem rm_rc (l : Launch) (Z : State) (a0 : Array Value) (hw : ∀ d ∈ tables_1, d.before a0 Z = true) (ws : List Jvm.Cond) (thisrc : Addr) (urc : Addr) (h0 : Heap) (n0 : Nat) (Z0 : n0 ≤ h0.size) (F_thisrc_runs : Fld Z h0 thisrc "com/example/tightbit/tightbit/SparseDocIds$Runs" "runs" "[C" (.ref urc)) (V_urc : Al Z h0 urc .char [(.int (0 : Int32)), (.int (65535 : Int32))]) :
    MetFree l mt2 (head1 (Jvm.Cond.code mt2 prog_67_method_3_code 1 (some .int) :: ws) ({ frames := 0, cells := 0, slots := 0, locals := 0 } : Room)) (fun a U => a = #[(.ref thisrc)] ∧ Z.Warmed39 U.vm ∧ U.heap = h0) (fun _ _ _ _ _ => True) (fun _ U o U' => ∃ v L, o = .returned v ∧ (Q_rc Z thisrc urc h0 n0) v U'.heap L ∧ FrameEnd U o U' L ({ frames := 0, cells := 0, slots := 0, locals := 0 } : Room).cells ({ frames := 0, cells := 0, slots := 0, locals := 0 } : Room).slots) := by
  refine MetFree.of_bodySF (plainFor_of_name pn1) hisR ?_
  intro p e s m args below meth c s₁ Bd hml0 hP hK
  obtain ⟨rfl, hZ, hh⟩ := hP
  have hx := Bd.exec
  have hby := Bd.bytes
  have hml : c.maxLocals = 1 := hml0
  have hown : s.vm.findClass "com/example/tightbit/tightbit/SparseDocIds$Runs" = some m.cls := findClass_of_methodNamed Bd.named
  have hnm := (name_of_methodNamed Bd.named Bd.method).1
  have X0 : Stand p l e ({ frames := 0, cells := 0, slots := 0, locals := 0 } : Room) s m #[(.ref thisrc)] below meth c s₁ [] 0 0 := Stand.of_body Bd
  have e0 : s₁.heap = h0 := by rw [← hh, Bd.state]; rfl
  have N0 := Fr.nil n0
  refine Wq.step (p := p) (e := e) (below := below) (En := (fun o t L => FrameEnd s o t L ({ frames := 0, cells := 0, slots := 0, locals := 0 } : Room).cells ({ frames := 0, cells := 0, slots := 0, locals := 0 } : Room).slots)) (Q := (Q_rc Z thisrc urc h0 n0)) (fun t k => castTop (ef_rc m thisrc) k) ?_
  show Wq _ _ _ _ _ (s₁.setTop (mkF m 0 #[.val (.ref thisrc)] []))
  refine Ow.aloadN X0 hx (pc' := 1) (hb hby d_prog_67_method_3_0) rfl rfl ?_
  obtain ⟨T3, X3, e3, st3⟩ := getF X0 hx hZ hown (host := "") (Or.inl (kw11 hw)) Via.refl e0 F_thisrc_runs (g := (mkF m 1 #[.val (.ref thisrc)] [(.ref thisrc)])) rfl rfl (hb hby d_prog_67_method_3_1)
  refine Wq.step st3 ?_
  show Wq _ _ _ _ _ (T3.setTop (mkF m 4 #[.val (.ref thisrc)] [(.ref urc)]))
  refine Ow.lenA X3 hx hZ e3 V_urc (pc' := 5) (hb hby d_prog_67_method_3_4) (n := (2 : Int32)) (rfl) ?_
  refine Ow.iconst X3 hx (pc' := 6) (hb hby d_prog_67_method_3_5) (z := (1 : Int32)) rfl ?_
  refine Ow.iushr X3 hx (pc' := 7) (hb hby d_prog_67_method_3_6) (z := (1 : Int32)) rfl ?_
  exact Wq.ret X3 (BodyLoose.notSynchronized Bd) (rv := some (.int (1 : Int32))) (fun h => by rw [Bd.returns] at h; cases h) (fun _ hr => retOut X3 hx Bd.returns rfl (Or.inl ⟨rfl, Or.inl rfl, _, rfl⟩) (hb hby d_prog_67_method_3_7) hr) (by decide) (by decide) ⟨by decide, N0, e3⟩
theorem d_prog_67_method_4_0 : decode prog_67_method_4_code 0 = .ok (.aload_n 0, 1) := by decide +kernel
theorem d_prog_67_method_4_1 : decode prog_67_method_4_code 1 = .ok (.getfield 7, 3) := by decide +kernel
theorem d_prog_67_method_4_4 : decode prog_67_method_4_code 4 = .ok (.iload_n 1, 1) := by decide +kernel
theorem d_prog_67_method_4_5 : decode prog_67_method_4_code 5 = .ok (.caload, 1) := by decide +kernel
theorem ef_fi (m : MethodId) (thisfi : Addr) : entryFrame m #[(.ref thisfi), (.int (0 : Int32))] 2 = mkF m 0 #[.val (.ref thisfi), .val (.int (0 : Int32))] [] := by first | (simp [entryFrame, mkF, argsToLocals, Value.category]; done) | rfl
def Q_fi (Z : State) (thisfi : Addr) (ufi : Addr) (h0 : Heap) (n0 : Nat) (v : Option Value) (h : Heap) (L : List Loc) : Prop := v = some (.int (0 : Int32)) ∧ Fr n0 L ∧ h = h0
theorem d_prog_67_method_4_6 : decode prog_67_method_4_code 6 = .ok (.ireturn, 1) := by decide +kernel
abbrev mt3 : MethodName := ⟨"com/example/tightbit/tightbit/SparseDocIds$Runs", "first", "(I)I"⟩
set_option maxRecDepth 65536 in
set_option maxHeartbeats 40000000 in
theorem rm_fi (l : Launch) (Z : State) (a0 : Array Value) (hw : ∀ d ∈ tables_1, d.before a0 Z = true) (ws : List Jvm.Cond) (thisfi : Addr) (ufi : Addr) (h0 : Heap) (n0 : Nat) (Z0 : n0 ≤ h0.size) (F_thisfi_runs : Fld Z h0 thisfi "com/example/tightbit/tightbit/SparseDocIds$Runs" "runs" "[C" (.ref ufi)) (V_ufi : Al Z h0 ufi .char [(.int (0 : Int32)), (.int (65535 : Int32))]) :
    MetFree l mt3 (head1 (Jvm.Cond.code mt3 prog_67_method_4_code 2 (some .int) :: ws) ({ frames := 0, cells := 0, slots := 0, locals := 0 } : Room)) (fun a U => a = #[(.ref thisfi), (.int (0 : Int32))] ∧ Z.Warmed39 U.vm ∧ U.heap = h0) (fun _ _ _ _ _ => True) (fun _ U o U' => ∃ v L, o = .returned v ∧ (Q_fi Z thisfi ufi h0 n0) v U'.heap L ∧ FrameEnd U o U' L ({ frames := 0, cells := 0, slots := 0, locals := 0 } : Room).cells ({ frames := 0, cells := 0, slots := 0, locals := 0 } : Room).slots) := by
  refine MetFree.of_bodySF (plainFor_of_name pn1) hisR ?_
  intro p e s m args below meth c s₁ Bd hml0 hP hK
  obtain ⟨rfl, hZ, hh⟩ := hP
  have hx := Bd.exec
  have hby := Bd.bytes
  have hml : c.maxLocals = 2 := hml0
  have hown : s.vm.findClass "com/example/tightbit/tightbit/SparseDocIds$Runs" = some m.cls := findClass_of_methodNamed Bd.named
  have hnm := (name_of_methodNamed Bd.named Bd.method).1
  have X0 : Stand p l e ({ frames := 0, cells := 0, slots := 0, locals := 0 } : Room) s m #[(.ref thisfi), (.int (0 : Int32))] below meth c s₁ [] 0 0 := Stand.of_body Bd
  have e0 : s₁.heap = h0 := by rw [← hh, Bd.state]; rfl
  have N0 := Fr.nil n0
  refine Wq.step (p := p) (e := e) (below := below) (En := (fun o t L => FrameEnd s o t L ({ frames := 0, cells := 0, slots := 0, locals := 0 } : Room).cells ({ frames := 0, cells := 0, slots := 0, locals := 0 } : Room).slots)) (Q := (Q_fi Z thisfi ufi h0 n0)) (fun t k => castTop (ef_fi m thisfi) k) ?_
  show Wq _ _ _ _ _ (s₁.setTop (mkF m 0 #[.val (.ref thisfi), .val (.int (0 : Int32))] []))
  refine Ow.aloadN X0 hx (pc' := 1) (hb hby d_prog_67_method_4_0) rfl rfl ?_
  obtain ⟨T4, X4, e4, st4⟩ := getF X0 hx hZ hown (host := "") (Or.inl (kw11 hw)) Via.refl e0 F_thisfi_runs (g := (mkF m 1 #[.val (.ref thisfi), .val (.int (0 : Int32))] [(.ref thisfi)])) rfl rfl (hb hby d_prog_67_method_4_1)
  refine Wq.step st4 ?_
  show Wq _ _ _ _ _ (T4.setTop (mkF m 4 #[.val (.ref thisfi), .val (.int (0 : Int32))] [(.ref ufi)]))
  refine Ow.iloadN X4 hx (pc' := 5) (hb hby d_prog_67_method_4_4) rfl ?_
  refine Ow.ldC X4 hx hZ e4 V_ufi (pc' := 6) (hb hby d_prog_67_method_4_5) (j := (0 : Int32)) (i := 0) (v := (.int (0 : Int32))) (by decide) rfl rfl ?_
  exact Wq.ret X4 (BodyLoose.notSynchronized Bd) (rv := some (.int (0 : Int32))) (fun h => by rw [Bd.returns] at h; cases h) (fun _ hr => retOut X4 hx Bd.returns rfl (Or.inl ⟨rfl, Or.inl rfl, _, rfl⟩) (hb hby d_prog_67_method_4_6) hr) (by decide) (by decide) ⟨rfl, N0, e4⟩
theorem kw42 {Z : State} {a0 : Array Value} (hw : ∀ d ∈ tables_1, d.before a0 Z = true) : (Jvm.Cond.code ({ cls := "com/example/tightbit/tightbit/SparseDocIds$Runs", name := "runCount", desc := "()I" } : Jvm.MethodName) prog_67_method_3_code (1 : Nat) (Option.some Jvm.ClassFile.FieldType.int)).before a0 Z = true := hw _ (List.mem_of_getElem? (i := 42) rfl)
theorem kw3 {Z : State} {a0 : Array Value} (hw : ∀ d ∈ tables_1, d.before a0 Z = true) : (Jvm.Cond.initialized "com/example/tightbit/tightbit/SparseDocIds$Runs").before a0 Z = true := hw _ (List.mem_of_getElem? (i := 3) rfl)
theorem pd1 : parseMethodDescriptor "()I" = some ⟨[], some .int⟩ := by decide +kernel
theorem kw38 {Z : State} {a0 : Array Value} (hw : ∀ d ∈ tables_1, d.before a0 Z = true) : (Jvm.Cond.methodLink "com/example/tightbit/tightbit/SparseDocIds$Runs" (13 : Nat) ({ cls := "com/example/tightbit/tightbit/SparseDocIds$Runs", name := "runCount", desc := "()I" } : Jvm.MethodName)).before a0 Z = true := hw _ (List.mem_of_getElem? (i := 38) rfl)
theorem kw39 {Z : State} {a0 : Array Value} (hw : ∀ d ∈ tables_1, d.before a0 Z = true) : (Jvm.Cond.declares ({ cls := "com/example/tightbit/tightbit/SparseDocIds$Runs", name := "runCount", desc := "()I" } : Jvm.MethodName)).before a0 Z = true := hw _ (List.mem_of_getElem? (i := 39) rfl)
theorem kw41 {Z : State} {a0 : Array Value} (hw : ∀ d ∈ tables_1, d.before a0 Z = true) : (Jvm.Cond.selects "com/example/tightbit/tightbit/SparseDocIds$Runs" ({ cls := "com/example/tightbit/tightbit/SparseDocIds$Runs", name := "runCount", desc := "()I" } : Jvm.MethodName) ({ cls := "com/example/tightbit/tightbit/SparseDocIds$Runs", name := "runCount", desc := "()I" } : Jvm.MethodName)).before a0 Z = true := hw _ (List.mem_of_getElem? (i := 41) rfl)
theorem kw40 {Z : State} {a0 : Array Value} (hw : ∀ d ∈ tables_1, d.before a0 Z = true) : (Jvm.Cond.instanceMethod ({ cls := "com/example/tightbit/tightbit/SparseDocIds$Runs", name := "runCount", desc := "()I" } : Jvm.MethodName)).before a0 Z = true := hw _ (List.mem_of_getElem? (i := 40) rfl)
theorem d_prog_67_method_5_0 : decode prog_67_method_5_code 0 = .ok (.aload_n 0, 1) := by decide +kernel
theorem d_prog_67_method_5_1 : decode prog_67_method_5_code 1 = .ok (.getfield 7, 3) := by decide +kernel
theorem d_prog_67_method_5_4 : decode prog_67_method_5_code 4 = .ok (.aload_n 0, 1) := by decide +kernel
theorem d_prog_67_method_5_5 : decode prog_67_method_5_code 5 = .ok (.invokevirtual 13, 3) := by decide +kernel
theorem d_prog_67_method_5_8 : decode prog_67_method_5_code 8 = .ok (.iload_n 1, 1) := by decide +kernel
theorem d_prog_67_method_5_9 : decode prog_67_method_5_code 9 = .ok (.iadd, 1) := by decide +kernel
theorem d_prog_67_method_5_10 : decode prog_67_method_5_code 10 = .ok (.caload, 1) := by decide +kernel
theorem ef_la (m : MethodId) (thisla : Addr) : entryFrame m #[(.ref thisla), (.int (0 : Int32))] 2 = mkF m 0 #[.val (.ref thisla), .val (.int (0 : Int32))] [] := by first | (simp [entryFrame, mkF, argsToLocals, Value.category]; done) | rfl
def Q_la (Z : State) (thisla : Addr) (ula : Addr) (h0 : Heap) (n0 : Nat) (v : Option Value) (h : Heap) (L : List Loc) : Prop := v = some (.int (65535 : Int32)) ∧ Fr n0 L ∧ h = h0
theorem d_prog_67_method_5_11 : decode prog_67_method_5_code 11 = .ok (.ireturn, 1) := by decide +kernel
abbrev mt4 : MethodName := ⟨"com/example/tightbit/tightbit/SparseDocIds$Runs", "last", "(I)I"⟩
set_option maxRecDepth 65536 in
set_option maxHeartbeats 40000000 in
theorem rm_la (l : Launch) (Z : State) (a0 : Array Value) (hw : ∀ d ∈ tables_1, d.before a0 Z = true) (ws : List Jvm.Cond) (thisla : Addr) (ula : Addr) (h0 : Heap) (n0 : Nat) (Z0 : n0 ≤ h0.size) (F_thisla_runs : Fld Z h0 thisla "com/example/tightbit/tightbit/SparseDocIds$Runs" "runs" "[C" (.ref ula)) (V_ula : Al Z h0 ula .char [(.int (0 : Int32)), (.int (65535 : Int32))]) (E_thisla : Exa Z h0 thisla "com/example/tightbit/tightbit/SparseDocIds$Runs") :
    MetFree l mt4 (head1 (Jvm.Cond.code mt4 prog_67_method_5_code 2 (some .int) :: ws) ({ frames := 1, cells := 0, slots := 0, locals := 13 } : Room)) (fun a U => a = #[(.ref thisla), (.int (0 : Int32))] ∧ Z.Warmed39 U.vm ∧ U.heap = h0) (fun _ _ _ _ _ => True) (fun _ U o U' => ∃ v L, o = .returned v ∧ (Q_la Z thisla ula h0 n0) v U'.heap L ∧ FrameEnd U o U' L ({ frames := 1, cells := 0, slots := 0, locals := 13 } : Room).cells ({ frames := 1, cells := 0, slots := 0, locals := 13 } : Room).slots) := by
  refine MetFree.of_bodySF (plainFor_of_name pn1) hisR ?_
  intro p e s m args below meth c s₁ Bd hml0 hP hK
  obtain ⟨rfl, hZ, hh⟩ := hP
  have hx := Bd.exec
  have hby := Bd.bytes
  have hml : c.maxLocals = 2 := hml0
  have hown : s.vm.findClass "com/example/tightbit/tightbit/SparseDocIds$Runs" = some m.cls := findClass_of_methodNamed Bd.named
  have hnm := (name_of_methodNamed Bd.named Bd.method).1
  have X0 : Stand p l e ({ frames := 1, cells := 0, slots := 0, locals := 13 } : Room) s m #[(.ref thisla), (.int (0 : Int32))] below meth c s₁ [] 0 0 := Stand.of_body Bd
  have e0 : s₁.heap = h0 := by rw [← hh, Bd.state]; rfl
  have N0 := Fr.nil n0
  refine Wq.step (p := p) (e := e) (below := below) (En := (fun o t L => FrameEnd s o t L ({ frames := 1, cells := 0, slots := 0, locals := 13 } : Room).cells ({ frames := 1, cells := 0, slots := 0, locals := 13 } : Room).slots)) (Q := (Q_la Z thisla ula h0 n0)) (fun t k => castTop (ef_la m thisla) k) ?_
  show Wq _ _ _ _ _ (s₁.setTop (mkF m 0 #[.val (.ref thisla), .val (.int (0 : Int32))] []))
  refine Ow.aloadN X0 hx (pc' := 1) (hb hby d_prog_67_method_5_0) rfl rfl ?_
  obtain ⟨T5, X5, e5, st5⟩ := getF X0 hx hZ hown (host := "") (Or.inl (kw11 hw)) Via.refl e0 F_thisla_runs (g := (mkF m 1 #[.val (.ref thisla), .val (.int (0 : Int32))] [(.ref thisla)])) rfl rfl (hb hby d_prog_67_method_5_1)
  refine Wq.step st5 ?_
  show Wq _ _ _ _ _ (T5.setTop (mkF m 4 #[.val (.ref thisla), .val (.int (0 : Int32))] [(.ref ula)]))
  refine Ow.aloadN X5 hx (pc' := 5) (hb hby d_prog_67_method_5_4) rfl rfl ?_
  obtain ⟨cq6, kq6, q6a, q6b, q6c⟩ := isOf hZ e5 E_thisla
  obtain ⟨_, _, ⟨T6, L6, k6, n6⟩, -, X6, ⟨Lc6, hQ6, l6, y6, z6⟩, st6⟩ := X5.virtualBack hx (y := mt2) (z := mt2) hown (mvT hZ (kw38 hw)) (mvT hZ (kw39 hw)) (notFace_of_selects (args := #[]) (mvT hZ (kw41 hw))) (mvT hZ (kw41 hw)) (mvT hZ (kw40 hw)) (by decide) (backOf (W := 1) (rm_rc l Z a0 hw [] thisla ula h0 n0 Z0 F_thisla_runs V_ula) hZ (kw42 hw) (kw3 hw) (by decide) (by decide)) q6a q6c (g := (mkF m 5 #[.val (.ref thisla), .val (.int (0 : Int32))] [(.ref thisla), (.ref ula)])) rfl (by rw [hml]; rfl) (Steps.refl _) (argsL := []) (rest := [(.ref ula)]) (lenOf pd1 rfl) rfl (by show 2 * 0 + _ ≤ _; exact Nat.le_of_eq rfl) (hb hby d_prog_67_method_5_5) (fun _ _ => ⟨rfl, e5, (by decide : 0 + 0 ≤ _), (by decide : 0 + 0 ≤ _)⟩)
  dsimp only [Pt.U, Pt.locs, Pt.cells, Pt.slots] at X6 l6 y6 z6 st6 hQ6
  subst l6 y6 z6
  obtain ⟨rfl, Nq6, e6⟩ := hQ6
  have N6 := Fr.app N0 Nq6
  refine Wq.steps st6 ?_
  show Wq _ _ _ _ _ (T6.setTop (mkF m 8 #[.val (.ref thisla), .val (.int (0 : Int32))] [(.int (1 : Int32)), (.ref ula)]))
  refine Ow.iloadN X6 hx (pc' := 9) (hb hby d_prog_67_method_5_8) rfl ?_
  refine Ow.iadd X6 hx (pc' := 10) (hb hby d_prog_67_method_5_9) (z := (1 : Int32)) rfl ?_
  refine Ow.ldC X6 hx hZ e6 V_ula (pc' := 11) (hb hby d_prog_67_method_5_10) (j := (1 : Int32)) (i := 1) (v := (.int (65535 : Int32))) (by decide) (by decide) (rfl) ?_
  exact Wq.ret X6 (BodyLoose.notSynchronized Bd) (rv := some (.int (65535 : Int32))) (fun h => by rw [Bd.returns] at h; cases h) (fun _ hr => retOut X6 hx Bd.returns rfl (Or.inl ⟨rfl, Or.inl rfl, _, rfl⟩) (hb hby d_prog_67_method_5_11) hr) (by decide) (by decide) ⟨rfl, N6, e6⟩
theorem d_jdk_29_method_65_0 : decode jdk_29_method_65_code 0 = .ok (.iload_n 0, 1) := by decide +kernel
theorem d_jdk_29_method_65_1 : decode jdk_29_method_65_code 1 = .ok (.iload_n 1, 1) := by decide +kernel
theorem d_jdk_29_method_65_2 : decode jdk_29_method_65_code 2 = .ok (.if_icmp .lt 7, 3) := by decide +kernel
theorem d_jdk_29_method_65_5 : decode jdk_29_method_65_code 5 = .ok (.iload_n 0, 1) := by decide +kernel
theorem d_jdk_29_method_65_6 : decode jdk_29_method_65_code 6 = .ok (.goto 4, 3) := by decide +kernel
theorem d_jdk_29_method_65_9 : decode jdk_29_method_65_code 9 = .ok (.iload_n 1, 1) := by decide +kernel
theorem ef_max (m : MethodId) (xmax_1 : Int32) (xmax_2 : Int32) : entryFrame m #[(.int xmax_1), (.int xmax_2)] 2 = mkF m 0 #[.val (.int xmax_1), .val (.int xmax_2)] [] := by first | (simp [entryFrame, mkF, argsToLocals, Value.category]; done) | rfl
def f_max (xmax_1 : Int32) (xmax_2 : Int32) : Int32 := (if xmax_1 < xmax_2 then xmax_2 else xmax_1)
def Q_max (Z : State) (xmax_1 : Int32) (xmax_2 : Int32) (h0 : Heap) (n0 : Nat) (v : Option Value) (h : Heap) (L : List Loc) : Prop := v = some (.int (f_max xmax_1 xmax_2)) ∧ Fr n0 L ∧ h = h0
theorem d_jdk_29_method_65_10 : decode jdk_29_method_65_code 10 = .ok (.ireturn, 1) := by decide +kernel
abbrev mt5 : MethodName := ⟨"java/lang/Math", "max", "(II)I"⟩
set_option maxRecDepth 65536 in
set_option maxHeartbeats 40000000 in
theorem rm_max (l : Launch) (Z : State) (a0 : Array Value) (hw : ∀ d ∈ tables_1, d.before a0 Z = true) (ws : List Jvm.Cond) (xmax_1 : Int32) (xmax_2 : Int32) (h0 : Heap) (n0 : Nat) (Z0 : n0 ≤ h0.size)  :
    MetFree l mt5 (head1 (Jvm.Cond.code mt5 jdk_29_method_65_code 2 (some .int) :: ws) ({ frames := 0, cells := 0, slots := 0, locals := 0 } : Room)) (fun a U => a = #[(.int xmax_1), (.int xmax_2)] ∧ Z.Warmed39 U.vm ∧ U.heap = h0) (fun _ _ _ _ _ => True) (fun _ U o U' => ∃ v L, o = .returned v ∧ (Q_max Z xmax_1 xmax_2 h0 n0) v U'.heap L ∧ FrameEnd U o U' L ({ frames := 0, cells := 0, slots := 0, locals := 0 } : Room).cells ({ frames := 0, cells := 0, slots := 0, locals := 0 } : Room).slots) := by
  refine MetFree.of_bodySF (by decide +kernel) hisR ?_
  intro p e s m args below meth c s₁ Bd hml0 hP hK
  obtain ⟨rfl, hZ, hh⟩ := hP
  have hx := Bd.exec
  have hby := Bd.bytes
  have hml : c.maxLocals = 2 := hml0
  have hown : s.vm.findClass "java/lang/Math" = some m.cls := findClass_of_methodNamed Bd.named
  have hnm := (name_of_methodNamed Bd.named Bd.method).1
  have X0 : Stand p l e ({ frames := 0, cells := 0, slots := 0, locals := 0 } : Room) s m #[(.int xmax_1), (.int xmax_2)] below meth c s₁ [] 0 0 := Stand.of_body Bd
  have e0 : s₁.heap = h0 := by rw [← hh, Bd.state]; rfl
  have N0 := Fr.nil n0
  refine Wq.step (p := p) (e := e) (below := below) (En := (fun o t L => FrameEnd s o t L ({ frames := 0, cells := 0, slots := 0, locals := 0 } : Room).cells ({ frames := 0, cells := 0, slots := 0, locals := 0 } : Room).slots)) (Q := (Q_max Z xmax_1 xmax_2 h0 n0)) (fun t k => castTop (ef_max m xmax_1 xmax_2) k) ?_
  show Wq _ _ _ _ _ (s₁.setTop (mkF m 0 #[.val (.int xmax_1), .val (.int xmax_2)] []))
  refine Ow.iloadN X0 hx (pc' := 1) (hb hby d_jdk_29_method_65_0) rfl ?_
  refine Ow.iloadN X0 hx (pc' := 2) (hb hby d_jdk_29_method_65_1) rfl ?_
  refine Wq.by (U' := s₁.setTop (mkF m 10 #[.val (.int xmax_1), .val (.int xmax_2)] [(.int (if xmax_1 < xmax_2 then xmax_2 else xmax_1))])) (fun k => ?_) ?_
  · skip
    by_cases hm2 : xmax_1 < xmax_2
    · skip
      refine Ow.icmpYes X0 hx (pc' := 9) (hb hby d_jdk_29_method_65_2) (tlt hm2).1 (by decide) (by decide) ?_
      refine Ow.iloadN X0 hx (pc' := 10) (hb hby d_jdk_29_method_65_9) rfl ?_
      simp only [if_pos hm2] at k
      exact k
    · skip
      refine Ow.icmpNo X0 hx (pc' := 5) (hb hby d_jdk_29_method_65_2) (flt hm2).1 ?_
      refine Ow.iloadN X0 hx (pc' := 6) (hb hby d_jdk_29_method_65_5) rfl ?_
      refine Ow.goto X0 hx (pc' := 10) (hb hby d_jdk_29_method_65_6) (by decide) (by decide) ?_
      simp only [if_neg hm2] at k
      exact k
  exact Wq.ret X0 (BodyLoose.notSynchronized Bd) (rv := some (.int (if xmax_1 < xmax_2 then xmax_2 else xmax_1))) (fun h => by rw [Bd.returns] at h; cases h) (fun _ hr => retOut X0 hx Bd.returns rfl (Or.inl ⟨rfl, Or.inl rfl, _, rfl⟩) (hb hby d_jdk_29_method_65_10) hr) (by decide) (by decide) ⟨rfl, N0, e0⟩
theorem d_jdk_29_method_69_0 : decode jdk_29_method_69_code 0 = .ok (.iload_n 0, 1) := by decide +kernel
theorem d_jdk_29_method_69_1 : decode jdk_29_method_69_code 1 = .ok (.iload_n 1, 1) := by decide +kernel
theorem d_jdk_29_method_69_2 : decode jdk_29_method_69_code 2 = .ok (.if_icmp .gt 7, 3) := by decide +kernel
theorem d_jdk_29_method_69_5 : decode jdk_29_method_69_code 5 = .ok (.iload_n 0, 1) := by decide +kernel
theorem d_jdk_29_method_69_6 : decode jdk_29_method_69_code 6 = .ok (.goto 4, 3) := by decide +kernel
theorem d_jdk_29_method_69_9 : decode jdk_29_method_69_code 9 = .ok (.iload_n 1, 1) := by decide +kernel
theorem ef_min (m : MethodId) (xmin_1 : Int32) (xmin_2 : Int32) : entryFrame m #[(.int xmin_1), (.int xmin_2)] 2 = mkF m 0 #[.val (.int xmin_1), .val (.int xmin_2)] [] := by first | (simp [entryFrame, mkF, argsToLocals, Value.category]; done) | rfl
def f_min (xmin_1 : Int32) (xmin_2 : Int32) : Int32 := (if xmin_2 < xmin_1 then xmin_2 else xmin_1)
def Q_min (Z : State) (xmin_1 : Int32) (xmin_2 : Int32) (h0 : Heap) (n0 : Nat) (v : Option Value) (h : Heap) (L : List Loc) : Prop := v = some (.int (f_min xmin_1 xmin_2)) ∧ Fr n0 L ∧ h = h0
theorem d_jdk_29_method_69_10 : decode jdk_29_method_69_code 10 = .ok (.ireturn, 1) := by decide +kernel
abbrev mt6 : MethodName := ⟨"java/lang/Math", "min", "(II)I"⟩
set_option maxRecDepth 65536 in
set_option maxHeartbeats 40000000 in
theorem rm_min (l : Launch) (Z : State) (a0 : Array Value) (hw : ∀ d ∈ tables_1, d.before a0 Z = true) (ws : List Jvm.Cond) (xmin_1 : Int32) (xmin_2 : Int32) (h0 : Heap) (n0 : Nat) (Z0 : n0 ≤ h0.size)  :
    MetFree l mt6 (head1 (Jvm.Cond.code mt6 jdk_29_method_69_code 2 (some .int) :: ws) ({ frames := 0, cells := 0, slots := 0, locals := 0 } : Room)) (fun a U => a = #[(.int xmin_1), (.int xmin_2)] ∧ Z.Warmed39 U.vm ∧ U.heap = h0) (fun _ _ _ _ _ => True) (fun _ U o U' => ∃ v L, o = .returned v ∧ (Q_min Z xmin_1 xmin_2 h0 n0) v U'.heap L ∧ FrameEnd U o U' L ({ frames := 0, cells := 0, slots := 0, locals := 0 } : Room).cells ({ frames := 0, cells := 0, slots := 0, locals := 0 } : Room).slots) := by
  refine MetFree.of_bodySF (by decide +kernel) hisR ?_
  intro p e s m args below meth c s₁ Bd hml0 hP hK
  obtain ⟨rfl, hZ, hh⟩ := hP
  have hx := Bd.exec
  have hby := Bd.bytes
  have hml : c.maxLocals = 2 := hml0
  have hown : s.vm.findClass "java/lang/Math" = some m.cls := findClass_of_methodNamed Bd.named
  have hnm := (name_of_methodNamed Bd.named Bd.method).1
  have X0 : Stand p l e ({ frames := 0, cells := 0, slots := 0, locals := 0 } : Room) s m #[(.int xmin_1), (.int xmin_2)] below meth c s₁ [] 0 0 := Stand.of_body Bd
  have e0 : s₁.heap = h0 := by rw [← hh, Bd.state]; rfl
  have N0 := Fr.nil n0
  refine Wq.step (p := p) (e := e) (below := below) (En := (fun o t L => FrameEnd s o t L ({ frames := 0, cells := 0, slots := 0, locals := 0 } : Room).cells ({ frames := 0, cells := 0, slots := 0, locals := 0 } : Room).slots)) (Q := (Q_min Z xmin_1 xmin_2 h0 n0)) (fun t k => castTop (ef_min m xmin_1 xmin_2) k) ?_
  show Wq _ _ _ _ _ (s₁.setTop (mkF m 0 #[.val (.int xmin_1), .val (.int xmin_2)] []))
  refine Ow.iloadN X0 hx (pc' := 1) (hb hby d_jdk_29_method_69_0) rfl ?_
  refine Ow.iloadN X0 hx (pc' := 2) (hb hby d_jdk_29_method_69_1) rfl ?_
  refine Wq.by (U' := s₁.setTop (mkF m 10 #[.val (.int xmin_1), .val (.int xmin_2)] [(.int (if xmin_2 < xmin_1 then xmin_2 else xmin_1))])) (fun k => ?_) ?_
  · skip
    by_cases hm2 : xmin_2 < xmin_1
    · skip
      refine Ow.icmpYes X0 hx (pc' := 9) (hb hby d_jdk_29_method_69_2) (tlt hm2).2.2.1 (by decide) (by decide) ?_
      refine Ow.iloadN X0 hx (pc' := 10) (hb hby d_jdk_29_method_69_9) rfl ?_
      simp only [if_pos hm2] at k
      exact k
    · skip
      refine Ow.icmpNo X0 hx (pc' := 5) (hb hby d_jdk_29_method_69_2) (flt hm2).2.2.1 ?_
      refine Ow.iloadN X0 hx (pc' := 6) (hb hby d_jdk_29_method_69_5) rfl ?_
      refine Ow.goto X0 hx (pc' := 10) (hb hby d_jdk_29_method_69_6) (by decide) (by decide) ?_
      simp only [if_neg hm2] at k
      exact k
  exact Wq.ret X0 (BodyLoose.notSynchronized Bd) (rv := some (.int (if xmin_2 < xmin_1 then xmin_2 else xmin_1))) (fun h => by rw [Bd.returns] at h; cases h) (fun _ hr => retOut X0 hx Bd.returns rfl (Or.inl ⟨rfl, Or.inl rfl, _, rfl⟩) (hb hby d_jdk_29_method_69_10) hr) (by decide) (by decide) ⟨rfl, N0, e0⟩
theorem own_g0 (k : Nat) (hk : k ≤ 65535) : (((((((2 : Int32) - (1 : Int32)).toInt64) * ((Int32.ofNat k).toInt64)).toUInt64 >>> ((16 : Int32) &&& 0x3f).toInt64.toUInt64).toInt64).toInt32) = (0 : Int32) := by
  have e1 : (((2 : Int32) - (1 : Int32)).toInt64) = (1 : Int64) := by decide
  have e2 : ((16 : Int32) &&& 0x3f).toInt64.toUInt64 = (16 : UInt64) := by decide
  have e3 : (Int32.ofNat k).toInt64 = Int64.ofNat k := by
    apply Int64.toInt_inj.mp
    rw [Int32.toInt_toInt64, Int32.toInt_ofNat_of_lt (by omega), Int64.toInt_ofNat_of_lt (by omega)]
  rw [e1, e2, e3, Int64.one_mul]
  have e4 : ((Int64.ofNat k).toUInt64 >>> (16 : UInt64)) = (0 : UInt64) := by
    apply UInt64.toNat_inj.mp
    rw [UInt64.toNat_shiftRight]
    show (Int64.ofNat k).toUInt64.toNat >>> (16 % 64) = 0
    have : (Int64.ofNat k).toUInt64.toNat = k := by
      show (BitVec.ofNat 64 k).toNat = k
      rw [BitVec.toNat_ofNat]; omega
    rw [this, Nat.shiftRight_eq_div_pow]
    exact Nat.div_eq_of_lt (by show k < 65536; omega)
  rw [e4]
  decide
theorem own_g1 {v z : Int32} (h : 0 ≤ v.toInt ∧ v.toInt ≤ 65535) (hz : ((1 : Int32) + (((((((2 : Int32) - (1 : Int32)).toInt64) * (v.toInt64)).toUInt64 >>> ((16 : Int32) &&& 0x3f).toInt64.toUInt64).toInt64).toInt32)) = z) : z = (1 : Int32) := by
  subst hz
  have e : v = Int32.ofNat v.toInt.toNat := by
    have e : ((v.toInt.toNat : Nat) : Int) = v.toInt := Int.toNat_of_nonneg h.1
    have : Int32.ofNat v.toInt.toNat = Int32.ofInt v.toInt := by rw [← e]; rfl
    rw [this, Int32.ofInt_toInt]
  have hn : v.toInt.toNat ≤ 65535 := by omega
  rw [e]
  generalize v.toInt.toNat = k at hn
  rw [show (((((((2 : Int32) - (1 : Int32)).toInt64) * ((Int32.ofNat k).toInt64)).toUInt64 >>> ((16 : Int32) &&& 0x3f).toInt64.toUInt64).toInt64).toInt32) = (0 : Int32) from own_g0 k hn]
  decide
theorem own_n65 {v : Int32} (h : 0 ≤ v.toInt ∧ v.toInt ≤ 65472) : ¬ ((65535 : Int32) < v) := by
  have e : (65535 : Int32).toInt = 65535 := by decide
  rw [Int32.lt_iff_toInt_lt]
  omega
theorem d_prog_27_method_3_0 : decode prog_27_method_3_code 0 = .ok (.iload_n 1, 1) := by decide +kernel
theorem d_prog_27_method_3_1 : decode prog_27_method_3_code 1 = .ok (.iload_n 2, 1) := by decide +kernel
theorem d_prog_27_method_3_2 : decode prog_27_method_3_code 2 = .ok (.iload_n 1, 1) := by decide +kernel
theorem d_prog_27_method_3_3 : decode prog_27_method_3_code 3 = .ok (.isub, 1) := by decide +kernel
theorem d_prog_27_method_3_4 : decode prog_27_method_3_code 4 = .ok (.i2l, 1) := by decide +kernel
theorem d_prog_27_method_3_5 : decode prog_27_method_3_code 5 = .ok (.iload_n 3, 1) := by decide +kernel
theorem d_prog_27_method_3_6 : decode prog_27_method_3_code 6 = .ok (.i2l, 1) := by decide +kernel
theorem d_prog_27_method_3_7 : decode prog_27_method_3_code 7 = .ok (.lmul, 1) := by decide +kernel
theorem d_prog_27_method_3_8 : decode prog_27_method_3_code 8 = .ok (.bipush 16, 2) := by decide +kernel
theorem d_prog_27_method_3_10 : decode prog_27_method_3_code 10 = .ok (.lushr, 1) := by decide +kernel
theorem d_prog_27_method_3_11 : decode prog_27_method_3_code 11 = .ok (.l2i, 1) := by decide +kernel
theorem d_prog_27_method_3_12 : decode prog_27_method_3_code 12 = .ok (.iadd, 1) := by decide +kernel
theorem d_prog_27_method_3_13 : decode prog_27_method_3_code 13 = .ok (.istore 4, 2) := by decide +kernel
theorem d_prog_27_method_3_15 : decode prog_27_method_3_code 15 = .ok (.iconst 1, 1) := by decide +kernel
theorem d_prog_27_method_3_16 : decode prog_27_method_3_code 16 = .ok (.istore 5, 2) := by decide +kernel
theorem d_prog_27_method_3_18 : decode prog_27_method_3_code 18 = .ok (.iload 4, 2) := by decide +kernel
theorem d_prog_27_method_3_20 : decode prog_27_method_3_code 20 = .ok (.iload_n 1, 1) := by decide +kernel
theorem d_prog_27_method_3_21 : decode prog_27_method_3_code 21 = .ok (.if_icmp .le 33, 3) := by decide +kernel
theorem d_prog_27_method_3_54 : decode prog_27_method_3_code 54 = .ok (.iload 4, 2) := by decide +kernel
theorem d_prog_27_method_3_56 : decode prog_27_method_3_code 56 = .ok (.istore 5, 2) := by decide +kernel
theorem d_prog_27_method_3_58 : decode prog_27_method_3_code 58 = .ok (.iload 4, 2) := by decide +kernel
theorem d_prog_27_method_3_60 : decode prog_27_method_3_code 60 = .ok (.istore 6, 2) := by decide +kernel
theorem d_prog_27_method_3_62 : decode prog_27_method_3_code 62 = .ok (.iconst 1, 1) := by decide +kernel
theorem d_prog_27_method_3_63 : decode prog_27_method_3_code 63 = .ok (.istore 7, 2) := by decide +kernel
theorem d_prog_27_method_3_65 : decode prog_27_method_3_code 65 = .ok (.iload 6, 2) := by decide +kernel
theorem d_prog_27_method_3_67 : decode prog_27_method_3_code 67 = .ok (.iload_n 2, 1) := by decide +kernel
theorem d_prog_27_method_3_68 : decode prog_27_method_3_code 68 = .ok (.if_icmp .ge 46, 3) := by decide +kernel
theorem d_prog_27_method_3_71 : decode prog_27_method_3_code 71 = .ok (.aload_n 0, 1) := by decide +kernel
theorem d_prog_27_method_3_72 : decode prog_27_method_3_code 72 = .ok (.iload 6, 2) := by decide +kernel
theorem d_prog_27_method_3_74 : decode prog_27_method_3_code 74 = .ok (.caload, 1) := by decide +kernel
theorem d_prog_27_method_3_75 : decode prog_27_method_3_code 75 = .ok (.iload_n 3, 1) := by decide +kernel
theorem d_prog_27_method_3_76 : decode prog_27_method_3_code 76 = .ok (.if_icmp .ge 38, 3) := by decide +kernel
theorem d_prog_27_method_3_114 : decode prog_27_method_3_code 114 = .ok (.iload 5, 2) := by decide +kernel
theorem d_prog_27_method_3_116 : decode prog_27_method_3_code 116 = .ok (.iload 6, 2) := by decide +kernel
theorem d_prog_27_method_3_118 : decode prog_27_method_3_code 118 = .ok (.if_icmp .ge 36, 3) := by decide +kernel
theorem d_prog_27_method_3_154 : decode prog_27_method_3_code 154 = .ok (.iload 5, 2) := by decide +kernel
theorem pn2 : plainName "com/example/tightbit/tightbit/GallopingSearch" = true := by first | (simp [plainName, overriddenIn]; done) | decide +kernel
theorem ef_fl (m : MethodId) (afl_1 : Addr) (xfl_4 : Int32) : entryFrame m #[(.ref afl_1), (.int (1 : Int32)), (.int (2 : Int32)), (.int xfl_4)] 8 = mkF m 0 #[.val (.ref afl_1), .val (.int (1 : Int32)), .val (.int (2 : Int32)), .val (.int xfl_4), .unset, .unset, .unset, .unset] [] := by first | (simp [entryFrame, mkF, argsToLocals, Value.category]; done) | rfl
def Q_fl (Z : State) (afl_1 : Addr) (xfl_4 : Int32) (h0 : Heap) (n0 : Nat) (v : Option Value) (h : Heap) (L : List Loc) : Prop := v = some (.int (1 : Int32)) ∧ Fr n0 L ∧ h = h0
theorem d_prog_27_method_3_156 : decode prog_27_method_3_code 156 = .ok (.ireturn, 1) := by decide +kernel
abbrev mt7 : MethodName := ⟨"com/example/tightbit/tightbit/GallopingSearch", "firstLowAtLeast", "([CIII)I"⟩
set_option maxRecDepth 65536 in
set_option maxHeartbeats 40000000 in
theorem rm_fl (l : Launch) (Z : State) (a0 : Array Value) (hw : ∀ d ∈ tables_1, d.before a0 Z = true) (ws : List Jvm.Cond) (afl_1 : Addr) (xfl_4 : Int32) (h0 : Heap) (n0 : Nat) (Z0 : n0 ≤ h0.size) (hbd : 0 ≤ xfl_4.toInt ∧ xfl_4.toInt ≤ 65472) (V_afl_1 : Al Z h0 afl_1 .char [(.int (0 : Int32)), (.int (65535 : Int32))]) :
    MetFree l mt7 (head1 (Jvm.Cond.code mt7 prog_27_method_3_code 8 (some .int) :: ws) ({ frames := 0, cells := 0, slots := 0, locals := 0 } : Room)) (fun a U => a = #[(.ref afl_1), (.int (1 : Int32)), (.int (2 : Int32)), (.int xfl_4)] ∧ Z.Warmed39 U.vm ∧ U.heap = h0) (fun _ _ _ _ _ => True) (fun _ U o U' => ∃ v L, o = .returned v ∧ (Q_fl Z afl_1 xfl_4 h0 n0) v U'.heap L ∧ FrameEnd U o U' L ({ frames := 0, cells := 0, slots := 0, locals := 0 } : Room).cells ({ frames := 0, cells := 0, slots := 0, locals := 0 } : Room).slots) := by
  refine MetFree.of_bodySF (plainFor_of_name pn2) hisR ?_
  intro p e s m args below meth c s₁ Bd hml0 hP hK
  obtain ⟨rfl, hZ, hh⟩ := hP
  have hx := Bd.exec
  have hby := Bd.bytes
  have hml : c.maxLocals = 8 := hml0
  have hown : s.vm.findClass "com/example/tightbit/tightbit/GallopingSearch" = some m.cls := findClass_of_methodNamed Bd.named
  have hnm := (name_of_methodNamed Bd.named Bd.method).1
  have X0 : Stand p l e ({ frames := 0, cells := 0, slots := 0, locals := 0 } : Room) s m #[(.ref afl_1), (.int (1 : Int32)), (.int (2 : Int32)), (.int xfl_4)] below meth c s₁ [] 0 0 := Stand.of_body Bd
  have e0 : s₁.heap = h0 := by rw [← hh, Bd.state]; rfl
  have N0 := Fr.nil n0
  refine Wq.step (p := p) (e := e) (below := below) (En := (fun o t L => FrameEnd s o t L ({ frames := 0, cells := 0, slots := 0, locals := 0 } : Room).cells ({ frames := 0, cells := 0, slots := 0, locals := 0 } : Room).slots)) (Q := (Q_fl Z afl_1 xfl_4 h0 n0)) (fun t k => castTop (ef_fl m afl_1 xfl_4) k) ?_
  show Wq _ _ _ _ _ (s₁.setTop (mkF m 0 #[.val (.ref afl_1), .val (.int (1 : Int32)), .val (.int (2 : Int32)), .val (.int xfl_4), .unset, .unset, .unset, .unset] []))
  refine Ow.iloadN X0 hx (pc' := 1) (hb hby d_prog_27_method_3_0) rfl ?_
  refine Ow.iloadN X0 hx (pc' := 2) (hb hby d_prog_27_method_3_1) rfl ?_
  refine Ow.iloadN X0 hx (pc' := 3) (hb hby d_prog_27_method_3_2) rfl ?_
  refine Ow.isub X0 hx (pc' := 4) (hb hby d_prog_27_method_3_3) (z := (1 : Int32)) rfl ?_
  refine Ow.i2l X0 hx (pc' := 5) (hb hby d_prog_27_method_3_4) (z := (1 : Int64)) rfl ?_
  refine Ow.iloadN X0 hx (pc' := 6) (hb hby d_prog_27_method_3_5) rfl ?_
  refine Ow.i2l X0 hx (pc' := 7) (hb hby d_prog_27_method_3_6) (z := (xfl_4.toInt64)) rfl ?_
  refine Ow.lmul X0 hx (pc' := 8) (hb hby d_prog_27_method_3_7) (z := ((1 : Int64) * (xfl_4.toInt64))) rfl ?_
  refine Ow.bipush X0 hx (pc' := 10) (hb hby d_prog_27_method_3_8) (z := (16 : Int32)) rfl ?_
  refine Ow.lushr X0 hx (pc' := 11) (hb hby d_prog_27_method_3_10) (z := ((((1 : Int64) * (xfl_4.toInt64)).toUInt64 >>> ((16 : Int32) &&& 0x3f).toInt64.toUInt64).toInt64)) rfl ?_
  refine Ow.l2i X0 hx (pc' := 12) (hb hby d_prog_27_method_3_11) (z := (((((1 : Int64) * (xfl_4.toInt64)).toUInt64 >>> ((16 : Int32) &&& 0x3f).toInt64.toUInt64).toInt64).toInt32)) rfl ?_
  refine Ow.iadd X0 hx (pc' := 13) (hb hby d_prog_27_method_3_12) (z := ((1 : Int32) + (((((1 : Int64) * (xfl_4.toInt64)).toUInt64 >>> ((16 : Int32) &&& 0x3f).toInt64.toUInt64).toInt64).toInt32))) rfl ?_
  refine Ow.istore X0 hx (pc' := 15) (hb hby d_prog_27_method_3_13) (l' := #[.val (.ref afl_1), .val (.int (1 : Int32)), .val (.int (2 : Int32)), .val (.int xfl_4), .val (.int ((1 : Int32) + (((((1 : Int64) * (xfl_4.toInt64)).toUInt64 >>> ((16 : Int32) &&& 0x3f).toInt64.toUInt64).toInt64).toInt32))), .unset, .unset, .unset]) rfl ?_
  generalize hv13 : ((1 : Int32) + (((((1 : Int64) * (xfl_4.toInt64)).toUInt64 >>> ((16 : Int32) &&& 0x3f).toInt64.toUInt64).toInt64).toInt32)) = v13
  obtain rfl := own_g1 ⟨hbd.1, by omega⟩ hv13
  show Wq _ _ _ _ _ (s₁.setTop (mkF m 15 #[.val (.ref afl_1), .val (.int (1 : Int32)), .val (.int (2 : Int32)), .val (.int xfl_4), .val (.int (1 : Int32)), .unset, .unset, .unset] []))
  refine Ow.iconst X0 hx (pc' := 16) (hb hby d_prog_27_method_3_15) (z := (1 : Int32)) rfl ?_
  refine Ow.istore X0 hx (pc' := 18) (hb hby d_prog_27_method_3_16) (l' := #[.val (.ref afl_1), .val (.int (1 : Int32)), .val (.int (2 : Int32)), .val (.int xfl_4), .val (.int (1 : Int32)), .val (.int (1 : Int32)), .unset, .unset]) rfl ?_
  refine Ow.iload X0 hx (pc' := 20) (hb hby d_prog_27_method_3_18) rfl ?_
  refine Ow.iloadN X0 hx (pc' := 21) (hb hby d_prog_27_method_3_20) rfl ?_
  refine Ow.icmpYes X0 hx (pc' := 54) (hb hby d_prog_27_method_3_21) (flt (by decide : ¬ ((1 : Int32) < (1 : Int32)))).2.2.2 (by decide) (by decide) ?_
  refine Ow.iload X0 hx (pc' := 56) (hb hby d_prog_27_method_3_54) rfl ?_
  refine Ow.istore X0 hx (pc' := 58) (hb hby d_prog_27_method_3_56) (l' := #[.val (.ref afl_1), .val (.int (1 : Int32)), .val (.int (2 : Int32)), .val (.int xfl_4), .val (.int (1 : Int32)), .val (.int (1 : Int32)), .unset, .unset]) rfl ?_
  refine Ow.iload X0 hx (pc' := 60) (hb hby d_prog_27_method_3_58) rfl ?_
  refine Ow.istore X0 hx (pc' := 62) (hb hby d_prog_27_method_3_60) (l' := #[.val (.ref afl_1), .val (.int (1 : Int32)), .val (.int (2 : Int32)), .val (.int xfl_4), .val (.int (1 : Int32)), .val (.int (1 : Int32)), .val (.int (1 : Int32)), .unset]) rfl ?_
  refine Ow.iconst X0 hx (pc' := 63) (hb hby d_prog_27_method_3_62) (z := (1 : Int32)) rfl ?_
  refine Ow.istore X0 hx (pc' := 65) (hb hby d_prog_27_method_3_63) (l' := #[.val (.ref afl_1), .val (.int (1 : Int32)), .val (.int (2 : Int32)), .val (.int xfl_4), .val (.int (1 : Int32)), .val (.int (1 : Int32)), .val (.int (1 : Int32)), .val (.int (1 : Int32))]) rfl ?_
  refine Ow.iload X0 hx (pc' := 67) (hb hby d_prog_27_method_3_65) rfl ?_
  refine Ow.iloadN X0 hx (pc' := 68) (hb hby d_prog_27_method_3_67) rfl ?_
  refine Ow.icmpNo X0 hx (pc' := 71) (hb hby d_prog_27_method_3_68) (tlt (by decide : (1 : Int32) < (2 : Int32))).2.1 ?_
  refine Ow.aloadN X0 hx (pc' := 72) (hb hby d_prog_27_method_3_71) rfl rfl ?_
  refine Ow.iload X0 hx (pc' := 74) (hb hby d_prog_27_method_3_72) rfl ?_
  refine Ow.ldC X0 hx hZ e0 V_afl_1 (pc' := 75) (hb hby d_prog_27_method_3_74) (j := (1 : Int32)) (i := 1) (v := (.int (65535 : Int32))) (by decide) rfl rfl ?_
  refine Ow.iloadN X0 hx (pc' := 76) (hb hby d_prog_27_method_3_75) rfl ?_
  refine Ow.icmpYes X0 hx (pc' := 114) (hb hby d_prog_27_method_3_76) (flt (own_n65 hbd : ¬ ((65535 : Int32) < xfl_4))).2.1 (by decide) (by decide) ?_
  refine Ow.iload X0 hx (pc' := 116) (hb hby d_prog_27_method_3_114) rfl ?_
  refine Ow.iload X0 hx (pc' := 118) (hb hby d_prog_27_method_3_116) rfl ?_
  refine Ow.icmpYes X0 hx (pc' := 154) (hb hby d_prog_27_method_3_118) (flt (by decide : ¬ ((1 : Int32) < (1 : Int32)))).2.1 (by decide) (by decide) ?_
  refine Ow.iload X0 hx (pc' := 156) (hb hby d_prog_27_method_3_154) rfl ?_
  exact Wq.ret X0 (BodyLoose.notSynchronized Bd) (rv := some (.int (1 : Int32))) (fun h => by rw [Bd.returns] at h; cases h) (fun _ hr => retOut X0 hx Bd.returns rfl (Or.inl ⟨rfl, Or.inl rfl, _, rfl⟩) (hb hby d_prog_27_method_3_156) hr) (by decide) (by decide) ⟨rfl, N0, e0⟩
theorem own_w6 {k z : Int32} (h : 0 ≤ k.toInt ∧ k.toInt ≤ 1023) (hz : (k <<< ((6 : Int32) &&& 31)) = z) : z.toInt = 64 * k.toInt := by
  subst hz
  have c := c_ishl k 6 6 (by decide)
  have r := rng32 (k <<< ((6 : Int32) &&& 31))
  omega
theorem own_we {k z y : Int32} (h : 0 ≤ k.toInt ∧ k.toInt ≤ 1023) (hz : z.toInt = 64 * k.toInt) (hy : ((z + (64 : Int32)) - (1 : Int32)) = y) : y.toInt = 64 * k.toInt + 63 := by
  subst hy
  have c := c_iadd z 64
  have r := rng32 (z + 64)
  have c2 := c_isub (z + 64) 1
  have r2 := rng32 ((z + 64) - 1)
  have e64 : (64 : Int32).toInt = 64 := by decide
  have e1 : (1 : Int32).toInt = 1 := by decide
  omega
theorem own_fr0 {k z y x : Int32} (h : 0 ≤ k.toInt ∧ k.toInt ≤ 1023) (hz : z.toInt = 64 * k.toInt) (hq : (f_max (0 : Int32) z) = x) (hy : (x - z) = y) : y = (0 : Int32) := by
  subst hy hq
  have e0 : (0 : Int32).toInt = 0 := by decide
  have m : f_max (0 : Int32) z = z := by
    unfold f_max
    by_cases q : (0 : Int32) < z
    · rw [if_pos q]
    · rw [if_neg q]
      rw [Int32.lt_iff_toInt_lt] at q
      apply Int32.toInt_inj.mp
      omega
  rw [m, Int32.sub_self]
theorem own_to63 {k z y v x : Int32} (h : 0 ≤ k.toInt ∧ k.toInt ≤ 1023) (hz : z.toInt = 64 * k.toInt) (hy : y.toInt = 64 * k.toInt + 63) (hq : (f_min (65535 : Int32) y) = x) (hv : (x - z) = v) : v = (63 : Int32) := by
  subst hv hq
  have e5 : (65535 : Int32).toInt = 65535 := by decide
  have m : f_min (65535 : Int32) y = y := by
    unfold f_min
    by_cases q : y < (65535 : Int32)
    · rw [if_pos q]
    · rw [if_neg q]
      rw [Int32.lt_iff_toInt_lt] at q
      apply Int32.toInt_inj.mp
      omega
  rw [m]
  have c := c_isub y z
  have r := rng32 (y - z)
  have e63 : (63 : Int32).toInt = 63 := by decide
  apply Int32.toInt_inj.mp
  omega
theorem own_b54 {k y : Int32} (h : 0 ≤ k.toInt ∧ k.toInt ≤ 1023) (hy : y.toInt = 64 * k.toInt + 63) : ¬ (y < (0 : Int32)) := by
  have e0 : (0 : Int32).toInt = 0 := by decide
  rw [Int32.lt_iff_toInt_lt]
  omega
theorem kw46 {Z : State} {a0 : Array Value} (hw : ∀ d ∈ tables_1, d.before a0 Z = true) : (Jvm.Cond.code ({ cls := "com/example/tightbit/tightbit/GallopingSearch", name := "firstLowAtLeast", desc := "([CIII)I" } : Jvm.MethodName) prog_27_method_3_code (8 : Nat) (Option.some Jvm.ClassFile.FieldType.int)).before a0 Z = true := hw _ (List.mem_of_getElem? (i := 46) rfl)
theorem kw45 {Z : State} {a0 : Array Value} (hw : ∀ d ∈ tables_1, d.before a0 Z = true) : (Jvm.Cond.initialized "com/example/tightbit/tightbit/GallopingSearch").before a0 Z = true := hw _ (List.mem_of_getElem? (i := 45) rfl)
theorem pd2 : parseMethodDescriptor "([CIII)I" = some ⟨[(.array .char), .int, .int, .int], some .int⟩ := by decide +kernel
theorem kw43 {Z : State} {a0 : Array Value} (hw : ∀ d ∈ tables_1, d.before a0 Z = true) : (Jvm.Cond.methodLink "com/example/tightbit/tightbit/SparseDocIds$Runs" (32 : Nat) ({ cls := "com/example/tightbit/tightbit/GallopingSearch", name := "firstLowAtLeast", desc := "([CIII)I" } : Jvm.MethodName)).before a0 Z = true := hw _ (List.mem_of_getElem? (i := 43) rfl)
theorem kw44 {Z : State} {a0 : Array Value} (hw : ∀ d ∈ tables_1, d.before a0 Z = true) : (Jvm.Cond.static ({ cls := "com/example/tightbit/tightbit/GallopingSearch", name := "firstLowAtLeast", desc := "([CIII)I" } : Jvm.MethodName)).before a0 Z = true := hw _ (List.mem_of_getElem? (i := 44) rfl)
theorem kw51 {Z : State} {a0 : Array Value} (hw : ∀ d ∈ tables_1, d.before a0 Z = true) : (Jvm.Cond.code ({ cls := "com/example/tightbit/tightbit/SparseDocIds$Runs", name := "first", desc := "(I)I" } : Jvm.MethodName) prog_67_method_4_code (2 : Nat) (Option.some Jvm.ClassFile.FieldType.int)).before a0 Z = true := hw _ (List.mem_of_getElem? (i := 51) rfl)
theorem pd3 : parseMethodDescriptor "(I)I" = some ⟨[.int], some .int⟩ := by decide +kernel
theorem kw47 {Z : State} {a0 : Array Value} (hw : ∀ d ∈ tables_1, d.before a0 Z = true) : (Jvm.Cond.methodLink "com/example/tightbit/tightbit/SparseDocIds$Runs" (27 : Nat) ({ cls := "com/example/tightbit/tightbit/SparseDocIds$Runs", name := "first", desc := "(I)I" } : Jvm.MethodName)).before a0 Z = true := hw _ (List.mem_of_getElem? (i := 47) rfl)
theorem kw48 {Z : State} {a0 : Array Value} (hw : ∀ d ∈ tables_1, d.before a0 Z = true) : (Jvm.Cond.declares ({ cls := "com/example/tightbit/tightbit/SparseDocIds$Runs", name := "first", desc := "(I)I" } : Jvm.MethodName)).before a0 Z = true := hw _ (List.mem_of_getElem? (i := 48) rfl)
theorem kw50 {Z : State} {a0 : Array Value} (hw : ∀ d ∈ tables_1, d.before a0 Z = true) : (Jvm.Cond.selects "com/example/tightbit/tightbit/SparseDocIds$Runs" ({ cls := "com/example/tightbit/tightbit/SparseDocIds$Runs", name := "first", desc := "(I)I" } : Jvm.MethodName) ({ cls := "com/example/tightbit/tightbit/SparseDocIds$Runs", name := "first", desc := "(I)I" } : Jvm.MethodName)).before a0 Z = true := hw _ (List.mem_of_getElem? (i := 50) rfl)
theorem kw49 {Z : State} {a0 : Array Value} (hw : ∀ d ∈ tables_1, d.before a0 Z = true) : (Jvm.Cond.instanceMethod ({ cls := "com/example/tightbit/tightbit/SparseDocIds$Runs", name := "first", desc := "(I)I" } : Jvm.MethodName)).before a0 Z = true := hw _ (List.mem_of_getElem? (i := 49) rfl)
theorem kw55 {Z : State} {a0 : Array Value} (hw : ∀ d ∈ tables_1, d.before a0 Z = true) : (Jvm.Cond.code ({ cls := "java/lang/Math", name := "max", desc := "(II)I" } : Jvm.MethodName) jdk_29_method_65_code (2 : Nat) (Option.some Jvm.ClassFile.FieldType.int)).before a0 Z = true := hw _ (List.mem_of_getElem? (i := 55) rfl)
theorem kw54 {Z : State} {a0 : Array Value} (hw : ∀ d ∈ tables_1, d.before a0 Z = true) : (Jvm.Cond.initialized "java/lang/Math").before a0 Z = true := hw _ (List.mem_of_getElem? (i := 54) rfl)
theorem pd4 : parseMethodDescriptor "(II)I" = some ⟨[.int, .int], some .int⟩ := by decide +kernel
theorem kw52 {Z : State} {a0 : Array Value} (hw : ∀ d ∈ tables_1, d.before a0 Z = true) : (Jvm.Cond.methodLink "com/example/tightbit/tightbit/SparseDocIds$Runs" (38 : Nat) ({ cls := "java/lang/Math", name := "max", desc := "(II)I" } : Jvm.MethodName)).before a0 Z = true := hw _ (List.mem_of_getElem? (i := 52) rfl)
theorem kw53 {Z : State} {a0 : Array Value} (hw : ∀ d ∈ tables_1, d.before a0 Z = true) : (Jvm.Cond.static ({ cls := "java/lang/Math", name := "max", desc := "(II)I" } : Jvm.MethodName)).before a0 Z = true := hw _ (List.mem_of_getElem? (i := 53) rfl)
theorem kw60 {Z : State} {a0 : Array Value} (hw : ∀ d ∈ tables_1, d.before a0 Z = true) : (Jvm.Cond.code ({ cls := "com/example/tightbit/tightbit/SparseDocIds$Runs", name := "last", desc := "(I)I" } : Jvm.MethodName) prog_67_method_5_code (2 : Nat) (Option.some Jvm.ClassFile.FieldType.int)).before a0 Z = true := hw _ (List.mem_of_getElem? (i := 60) rfl)
theorem kw56 {Z : State} {a0 : Array Value} (hw : ∀ d ∈ tables_1, d.before a0 Z = true) : (Jvm.Cond.methodLink "com/example/tightbit/tightbit/SparseDocIds$Runs" (23 : Nat) ({ cls := "com/example/tightbit/tightbit/SparseDocIds$Runs", name := "last", desc := "(I)I" } : Jvm.MethodName)).before a0 Z = true := hw _ (List.mem_of_getElem? (i := 56) rfl)
theorem kw57 {Z : State} {a0 : Array Value} (hw : ∀ d ∈ tables_1, d.before a0 Z = true) : (Jvm.Cond.declares ({ cls := "com/example/tightbit/tightbit/SparseDocIds$Runs", name := "last", desc := "(I)I" } : Jvm.MethodName)).before a0 Z = true := hw _ (List.mem_of_getElem? (i := 57) rfl)
theorem kw59 {Z : State} {a0 : Array Value} (hw : ∀ d ∈ tables_1, d.before a0 Z = true) : (Jvm.Cond.selects "com/example/tightbit/tightbit/SparseDocIds$Runs" ({ cls := "com/example/tightbit/tightbit/SparseDocIds$Runs", name := "last", desc := "(I)I" } : Jvm.MethodName) ({ cls := "com/example/tightbit/tightbit/SparseDocIds$Runs", name := "last", desc := "(I)I" } : Jvm.MethodName)).before a0 Z = true := hw _ (List.mem_of_getElem? (i := 59) rfl)
theorem kw58 {Z : State} {a0 : Array Value} (hw : ∀ d ∈ tables_1, d.before a0 Z = true) : (Jvm.Cond.instanceMethod ({ cls := "com/example/tightbit/tightbit/SparseDocIds$Runs", name := "last", desc := "(I)I" } : Jvm.MethodName)).before a0 Z = true := hw _ (List.mem_of_getElem? (i := 58) rfl)
theorem kw63 {Z : State} {a0 : Array Value} (hw : ∀ d ∈ tables_1, d.before a0 Z = true) : (Jvm.Cond.code ({ cls := "java/lang/Math", name := "min", desc := "(II)I" } : Jvm.MethodName) jdk_29_method_69_code (2 : Nat) (Option.some Jvm.ClassFile.FieldType.int)).before a0 Z = true := hw _ (List.mem_of_getElem? (i := 63) rfl)
theorem kw61 {Z : State} {a0 : Array Value} (hw : ∀ d ∈ tables_1, d.before a0 Z = true) : (Jvm.Cond.methodLink "com/example/tightbit/tightbit/SparseDocIds$Runs" (44 : Nat) ({ cls := "java/lang/Math", name := "min", desc := "(II)I" } : Jvm.MethodName)).before a0 Z = true := hw _ (List.mem_of_getElem? (i := 61) rfl)
theorem kw62 {Z : State} {a0 : Array Value} (hw : ∀ d ∈ tables_1, d.before a0 Z = true) : (Jvm.Cond.static ({ cls := "java/lang/Math", name := "min", desc := "(II)I" } : Jvm.MethodName)).before a0 Z = true := hw _ (List.mem_of_getElem? (i := 62) rfl)
theorem kw64 {Z : State} {a0 : Array Value} (hw : ∀ d ∈ tables_1, d.before a0 Z = true) : (Jvm.Cond.constantLong "com/example/tightbit/tightbit/SparseDocIds$Runs" (47 : Nat) (-1 : Int64)).before a0 Z = true := hw _ (List.mem_of_getElem? (i := 64) rfl)
theorem d_prog_67_method_8_0 : decode prog_67_method_8_code 0 = .ok (.iload_n 1, 1) := by decide +kernel
theorem d_prog_67_method_8_1 : decode prog_67_method_8_code 1 = .ok (.bipush 6, 2) := by decide +kernel
theorem d_prog_67_method_8_3 : decode prog_67_method_8_code 3 = .ok (.ishl, 1) := by decide +kernel
theorem d_prog_67_method_8_4 : decode prog_67_method_8_code 4 = .ok (.istore_n 2, 1) := by decide +kernel
theorem d_prog_67_method_8_5 : decode prog_67_method_8_code 5 = .ok (.iload_n 2, 1) := by decide +kernel
theorem d_prog_67_method_8_6 : decode prog_67_method_8_code 6 = .ok (.bipush 64, 2) := by decide +kernel
theorem d_prog_67_method_8_8 : decode prog_67_method_8_code 8 = .ok (.iadd, 1) := by decide +kernel
theorem d_prog_67_method_8_9 : decode prog_67_method_8_code 9 = .ok (.iconst 1, 1) := by decide +kernel
theorem d_prog_67_method_8_10 : decode prog_67_method_8_code 10 = .ok (.isub, 1) := by decide +kernel
theorem d_prog_67_method_8_11 : decode prog_67_method_8_code 11 = .ok (.istore_n 3, 1) := by decide +kernel
theorem d_prog_67_method_8_12 : decode prog_67_method_8_code 12 = .ok (.aload_n 0, 1) := by decide +kernel
theorem d_prog_67_method_8_13 : decode prog_67_method_8_code 13 = .ok (.invokevirtual 13, 3) := by decide +kernel
theorem d_prog_67_method_8_16 : decode prog_67_method_8_code 16 = .ok (.istore 4, 2) := by decide +kernel
theorem d_prog_67_method_8_18 : decode prog_67_method_8_code 18 = .ok (.aload_n 0, 1) := by decide +kernel
theorem d_prog_67_method_8_19 : decode prog_67_method_8_code 19 = .ok (.getfield 7, 3) := by decide +kernel
theorem d_prog_67_method_8_22 : decode prog_67_method_8_code 22 = .ok (.iload 4, 2) := by decide +kernel
theorem d_prog_67_method_8_24 : decode prog_67_method_8_code 24 = .ok (.aload_n 0, 1) := by decide +kernel
theorem d_prog_67_method_8_25 : decode prog_67_method_8_code 25 = .ok (.getfield 7, 3) := by decide +kernel
theorem d_prog_67_method_8_28 : decode prog_67_method_8_code 28 = .ok (.arraylength, 1) := by decide +kernel
theorem d_prog_67_method_8_29 : decode prog_67_method_8_code 29 = .ok (.iload_n 2, 1) := by decide +kernel
theorem d_prog_67_method_8_30 : decode prog_67_method_8_code 30 = .ok (.invokestatic 32, 3) := by decide +kernel
theorem d_prog_67_method_8_33 : decode prog_67_method_8_code 33 = .ok (.iload 4, 2) := by decide +kernel
theorem d_prog_67_method_8_35 : decode prog_67_method_8_code 35 = .ok (.isub, 1) := by decide +kernel
theorem d_prog_67_method_8_36 : decode prog_67_method_8_code 36 = .ok (.istore 5, 2) := by decide +kernel
theorem d_prog_67_method_8_38 : decode prog_67_method_8_code 38 = .ok (.lconst 0, 1) := by decide +kernel
theorem d_prog_67_method_8_39 : decode prog_67_method_8_code 39 = .ok (.lstore 6, 2) := by decide +kernel
theorem d_prog_67_method_8_41 : decode prog_67_method_8_code 41 = .ok (.iload 5, 2) := by decide +kernel
theorem d_prog_67_method_8_43 : decode prog_67_method_8_code 43 = .ok (.iload 4, 2) := by decide +kernel
theorem d_prog_67_method_8_45 : decode prog_67_method_8_code 45 = .ok (.if_icmp .ge 68, 3) := by decide +kernel
theorem d_prog_67_method_8_48 : decode prog_67_method_8_code 48 = .ok (.aload_n 0, 1) := by decide +kernel
theorem d_prog_67_method_8_49 : decode prog_67_method_8_code 49 = .ok (.iload 5, 2) := by decide +kernel
theorem d_prog_67_method_8_51 : decode prog_67_method_8_code 51 = .ok (.invokevirtual 27, 3) := by decide +kernel
theorem d_prog_67_method_8_54 : decode prog_67_method_8_code 54 = .ok (.iload_n 3, 1) := by decide +kernel
theorem d_prog_67_method_8_55 : decode prog_67_method_8_code 55 = .ok (.if_icmp .gt 58, 3) := by decide +kernel
theorem d_prog_67_method_8_58 : decode prog_67_method_8_code 58 = .ok (.aload_n 0, 1) := by decide +kernel
theorem d_prog_67_method_8_59 : decode prog_67_method_8_code 59 = .ok (.iload 5, 2) := by decide +kernel
theorem d_prog_67_method_8_61 : decode prog_67_method_8_code 61 = .ok (.invokevirtual 27, 3) := by decide +kernel
theorem d_prog_67_method_8_64 : decode prog_67_method_8_code 64 = .ok (.iload_n 2, 1) := by decide +kernel
theorem d_prog_67_method_8_65 : decode prog_67_method_8_code 65 = .ok (.invokestatic 38, 3) := by decide +kernel
theorem d_prog_67_method_8_68 : decode prog_67_method_8_code 68 = .ok (.iload_n 2, 1) := by decide +kernel
theorem d_prog_67_method_8_69 : decode prog_67_method_8_code 69 = .ok (.isub, 1) := by decide +kernel
theorem d_prog_67_method_8_70 : decode prog_67_method_8_code 70 = .ok (.istore 8, 2) := by decide +kernel
theorem d_prog_67_method_8_72 : decode prog_67_method_8_code 72 = .ok (.aload_n 0, 1) := by decide +kernel
theorem d_prog_67_method_8_73 : decode prog_67_method_8_code 73 = .ok (.iload 5, 2) := by decide +kernel
theorem d_prog_67_method_8_75 : decode prog_67_method_8_code 75 = .ok (.invokevirtual 23, 3) := by decide +kernel
theorem d_prog_67_method_8_78 : decode prog_67_method_8_code 78 = .ok (.iload_n 3, 1) := by decide +kernel
theorem d_prog_67_method_8_79 : decode prog_67_method_8_code 79 = .ok (.invokestatic 44, 3) := by decide +kernel
theorem d_prog_67_method_8_82 : decode prog_67_method_8_code 82 = .ok (.iload_n 2, 1) := by decide +kernel
theorem d_prog_67_method_8_83 : decode prog_67_method_8_code 83 = .ok (.isub, 1) := by decide +kernel
theorem d_prog_67_method_8_84 : decode prog_67_method_8_code 84 = .ok (.istore 9, 2) := by decide +kernel
theorem d_prog_67_method_8_86 : decode prog_67_method_8_code 86 = .ok (.lload 6, 2) := by decide +kernel
theorem d_prog_67_method_8_88 : decode prog_67_method_8_code 88 = .ok (.ldc2_w 47, 3) := by decide +kernel
theorem d_prog_67_method_8_91 : decode prog_67_method_8_code 91 = .ok (.iload 8, 2) := by decide +kernel
theorem d_prog_67_method_8_93 : decode prog_67_method_8_code 93 = .ok (.lshl, 1) := by decide +kernel
theorem d_prog_67_method_8_94 : decode prog_67_method_8_code 94 = .ok (.ldc2_w 47, 3) := by decide +kernel
theorem d_prog_67_method_8_97 : decode prog_67_method_8_code 97 = .ok (.bipush 63, 2) := by decide +kernel
theorem d_prog_67_method_8_99 : decode prog_67_method_8_code 99 = .ok (.iload 9, 2) := by decide +kernel
theorem d_prog_67_method_8_101 : decode prog_67_method_8_code 101 = .ok (.isub, 1) := by decide +kernel
theorem d_prog_67_method_8_102 : decode prog_67_method_8_code 102 = .ok (.lushr, 1) := by decide +kernel
theorem d_prog_67_method_8_103 : decode prog_67_method_8_code 103 = .ok (.land, 1) := by decide +kernel
theorem d_prog_67_method_8_104 : decode prog_67_method_8_code 104 = .ok (.lor, 1) := by decide +kernel
theorem d_prog_67_method_8_105 : decode prog_67_method_8_code 105 = .ok (.lstore 6, 2) := by decide +kernel
theorem d_prog_67_method_8_107 : decode prog_67_method_8_code 107 = .ok (.iinc 5 1, 3) := by decide +kernel
theorem d_prog_67_method_8_110 : decode prog_67_method_8_code 110 = .ok (.goto (-69), 3) := by decide +kernel
theorem d_prog_67_method_8_113 : decode prog_67_method_8_code 113 = .ok (.lload 6, 2) := by decide +kernel
theorem ef_wd (m : MethodId) (thiswd : Addr) (xwd_1 : Int32) : entryFrame m #[(.ref thiswd), (.int xwd_1)] 10 = mkF m 0 #[.val (.ref thiswd), .val (.int xwd_1), .unset, .unset, .unset, .unset, .unset, .unset, .unset, .unset] [] := by first | (simp [entryFrame, mkF, argsToLocals, Value.category]; done) | rfl
def Q_wd (Z : State) (thiswd : Addr) (xwd_1 : Int32) (uwd : Addr) (h0 : Heap) (n0 : Nat) (v : Option Value) (h : Heap) (L : List Loc) : Prop := v = some (.long (-1 : Int64)) ∧ Fr n0 L ∧ h = h0
theorem d_prog_67_method_8_115 : decode prog_67_method_8_code 115 = .ok (.lreturn, 1) := by decide +kernel
abbrev mt8 : MethodName := ⟨"com/example/tightbit/tightbit/SparseDocIds$Runs", "word", "(I)J"⟩
set_option maxRecDepth 65536 in
set_option maxHeartbeats 40000000 in
theorem rm_wd (l : Launch) (Z : State) (a0 : Array Value) (hw : ∀ d ∈ tables_1, d.before a0 Z = true) (ws : List Jvm.Cond) (thiswd : Addr) (xwd_1 : Int32) (uwd : Addr) (h0 : Heap) (n0 : Nat) (Z0 : n0 ≤ h0.size) (hbd : 0 ≤ xwd_1.toInt ∧ xwd_1.toInt ≤ 1023) (F_thiswd_runs : Fld Z h0 thiswd "com/example/tightbit/tightbit/SparseDocIds$Runs" "runs" "[C" (.ref uwd)) (V_uwd : Al Z h0 uwd .char [(.int (0 : Int32)), (.int (65535 : Int32))]) (E_thiswd : Exa Z h0 thiswd "com/example/tightbit/tightbit/SparseDocIds$Runs") :
    MetFree l mt8 (head1 (Jvm.Cond.code mt8 prog_67_method_8_code 10 (some .long) :: ws) ({ frames := 2, cells := 0, slots := 0, locals := 26 } : Room)) (fun a U => a = #[(.ref thiswd), (.int xwd_1)] ∧ Z.Warmed39 U.vm ∧ U.heap = h0) (fun _ _ _ _ _ => True) (fun _ U o U' => ∃ v L, o = .returned v ∧ (Q_wd Z thiswd xwd_1 uwd h0 n0) v U'.heap L ∧ FrameEnd U o U' L ({ frames := 2, cells := 0, slots := 0, locals := 26 } : Room).cells ({ frames := 2, cells := 0, slots := 0, locals := 26 } : Room).slots) := by
  refine MetFree.of_bodySF (plainFor_of_name pn1) hisR ?_
  intro p e s m args below meth c s₁ Bd hml0 hP hK
  obtain ⟨rfl, hZ, hh⟩ := hP
  have hx := Bd.exec
  have hby := Bd.bytes
  have hml : c.maxLocals = 10 := hml0
  have hown : s.vm.findClass "com/example/tightbit/tightbit/SparseDocIds$Runs" = some m.cls := findClass_of_methodNamed Bd.named
  have hnm := (name_of_methodNamed Bd.named Bd.method).1
  have X0 : Stand p l e ({ frames := 2, cells := 0, slots := 0, locals := 26 } : Room) s m #[(.ref thiswd), (.int xwd_1)] below meth c s₁ [] 0 0 := Stand.of_body Bd
  have e0 : s₁.heap = h0 := by rw [← hh, Bd.state]; rfl
  have N0 := Fr.nil n0
  refine Wq.step (p := p) (e := e) (below := below) (En := (fun o t L => FrameEnd s o t L ({ frames := 2, cells := 0, slots := 0, locals := 26 } : Room).cells ({ frames := 2, cells := 0, slots := 0, locals := 26 } : Room).slots)) (Q := (Q_wd Z thiswd xwd_1 uwd h0 n0)) (fun t k => castTop (ef_wd m thiswd xwd_1) k) ?_
  show Wq _ _ _ _ _ (s₁.setTop (mkF m 0 #[.val (.ref thiswd), .val (.int xwd_1), .unset, .unset, .unset, .unset, .unset, .unset, .unset, .unset] []))
  refine Ow.iloadN X0 hx (pc' := 1) (hb hby d_prog_67_method_8_0) rfl ?_
  refine Ow.bipush X0 hx (pc' := 3) (hb hby d_prog_67_method_8_1) (z := (6 : Int32)) rfl ?_
  refine Ow.ishl X0 hx (pc' := 4) (hb hby d_prog_67_method_8_3) (z := (xwd_1 <<< ((6 : Int32) &&& 31))) rfl ?_
  refine Ow.istoreN X0 hx (pc' := 5) (hb hby d_prog_67_method_8_4) (l' := #[.val (.ref thiswd), .val (.int xwd_1), .val (.int (xwd_1 <<< ((6 : Int32) &&& 31))), .unset, .unset, .unset, .unset, .unset, .unset, .unset]) rfl ?_
  generalize hv4 : (xwd_1 <<< ((6 : Int32) &&& 31)) = v4
  refine Ow.iloadN X0 hx (pc' := 6) (hb hby d_prog_67_method_8_5) rfl ?_
  refine Ow.bipush X0 hx (pc' := 8) (hb hby d_prog_67_method_8_6) (z := (64 : Int32)) rfl ?_
  refine Ow.iadd X0 hx (pc' := 9) (hb hby d_prog_67_method_8_8) (z := (v4 + (64 : Int32))) rfl ?_
  refine Ow.iconst X0 hx (pc' := 10) (hb hby d_prog_67_method_8_9) (z := (1 : Int32)) rfl ?_
  refine Ow.isub X0 hx (pc' := 11) (hb hby d_prog_67_method_8_10) (z := ((v4 + (64 : Int32)) - (1 : Int32))) rfl ?_
  refine Ow.istoreN X0 hx (pc' := 12) (hb hby d_prog_67_method_8_11) (l' := #[.val (.ref thiswd), .val (.int xwd_1), .val (.int v4), .val (.int ((v4 + (64 : Int32)) - (1 : Int32))), .unset, .unset, .unset, .unset, .unset, .unset]) rfl ?_
  generalize hv11 : ((v4 + (64 : Int32)) - (1 : Int32)) = v11
  have W2 := own_w6 hbd hv4
  have W3 := own_we hbd W2 hv11
  refine Ow.aloadN X0 hx (pc' := 13) (hb hby d_prog_67_method_8_12) rfl rfl ?_
  obtain ⟨cq7, kq7, q7a, q7b, q7c⟩ := isOf hZ e0 E_thiswd
  obtain ⟨_, _, ⟨T7, L7, k7, n7⟩, -, X7, ⟨Lc7, hQ7, l7, y7, z7⟩, st7⟩ := X0.virtualBack hx (y := mt2) (z := mt2) hown (mvT hZ (kw38 hw)) (mvT hZ (kw39 hw)) (notFace_of_selects (args := #[]) (mvT hZ (kw41 hw))) (mvT hZ (kw41 hw)) (mvT hZ (kw40 hw)) (by decide) (backOf (W := 0) (rm_rc l Z a0 hw [] thiswd uwd h0 n0 Z0 F_thiswd_runs V_uwd) hZ (kw42 hw) (kw3 hw) (by decide) (by decide)) q7a q7c (g := (mkF m 13 #[.val (.ref thiswd), .val (.int xwd_1), .val (.int v4), .val (.int v11), .unset, .unset, .unset, .unset, .unset, .unset] [(.ref thiswd)])) rfl (by rw [hml]; rfl) (Steps.refl _) (argsL := []) (rest := []) (lenOf pd1 rfl) rfl (by show 2 * 0 + _ ≤ _; exact Nat.le_of_eq rfl) (hb hby d_prog_67_method_8_13) (fun _ _ => ⟨rfl, e0, (by decide : 0 + 0 ≤ _), (by decide : 0 + 0 ≤ _)⟩)
  dsimp only [Pt.U, Pt.locs, Pt.cells, Pt.slots] at X7 l7 y7 z7 st7 hQ7
  subst l7 y7 z7
  obtain ⟨rfl, Nq7, e7⟩ := hQ7
  have N7 := Fr.app N0 Nq7
  refine Wq.steps st7 ?_
  show Wq _ _ _ _ _ (T7.setTop (mkF m 16 #[.val (.ref thiswd), .val (.int xwd_1), .val (.int v4), .val (.int v11), .unset, .unset, .unset, .unset, .unset, .unset] [(.int (1 : Int32))]))
  show Wq _ _ _ _ _ (T7.setTop (mkF m 16 #[.val (.ref thiswd), .val (.int xwd_1), .val (.int v4), .val (.int v11), .unset, .unset, .unset, .unset, .unset, .unset] [(.int (1 : Int32))]))
  refine Ow.istore X7 hx (pc' := 18) (hb hby d_prog_67_method_8_16) (l' := #[.val (.ref thiswd), .val (.int xwd_1), .val (.int v4), .val (.int v11), .val (.int (1 : Int32)), .unset, .unset, .unset, .unset, .unset]) rfl ?_
  refine Ow.aloadN X7 hx (pc' := 19) (hb hby d_prog_67_method_8_18) rfl rfl ?_
  obtain ⟨T8, X8, e8, st8⟩ := getF X7 hx hZ hown (host := "") (Or.inl (kw11 hw)) Via.refl e7 F_thiswd_runs (g := (mkF m 19 #[.val (.ref thiswd), .val (.int xwd_1), .val (.int v4), .val (.int v11), .val (.int (1 : Int32)), .unset, .unset, .unset, .unset, .unset] [(.ref thiswd)])) rfl rfl (hb hby d_prog_67_method_8_19)
  refine Wq.step st8 ?_
  show Wq _ _ _ _ _ (T8.setTop (mkF m 22 #[.val (.ref thiswd), .val (.int xwd_1), .val (.int v4), .val (.int v11), .val (.int (1 : Int32)), .unset, .unset, .unset, .unset, .unset] [(.ref uwd)]))
  refine Ow.iload X8 hx (pc' := 24) (hb hby d_prog_67_method_8_22) rfl ?_
  refine Ow.aloadN X8 hx (pc' := 25) (hb hby d_prog_67_method_8_24) rfl rfl ?_
  obtain ⟨T9, X9, e9, st9⟩ := getF X8 hx hZ hown (host := "") (Or.inl (kw11 hw)) Via.refl e8 F_thiswd_runs (g := (mkF m 25 #[.val (.ref thiswd), .val (.int xwd_1), .val (.int v4), .val (.int v11), .val (.int (1 : Int32)), .unset, .unset, .unset, .unset, .unset] [(.ref thiswd), (.int (1 : Int32)), (.ref uwd)])) rfl rfl (hb hby d_prog_67_method_8_25)
  refine Wq.step st9 ?_
  show Wq _ _ _ _ _ (T9.setTop (mkF m 28 #[.val (.ref thiswd), .val (.int xwd_1), .val (.int v4), .val (.int v11), .val (.int (1 : Int32)), .unset, .unset, .unset, .unset, .unset] [(.ref uwd), (.int (1 : Int32)), (.ref uwd)]))
  refine Ow.lenA X9 hx hZ e9 V_uwd (pc' := 29) (hb hby d_prog_67_method_8_28) (n := (2 : Int32)) (rfl) ?_
  refine Ow.iloadN X9 hx (pc' := 30) (hb hby d_prog_67_method_8_29) rfl ?_
  obtain ⟨_, _, ⟨T10, L10, k10, n10⟩, -, X10, ⟨Lc10, hQ10, l10, y10, z10⟩, st10⟩ := Jvm.LawKit.callS X9 hx (y := mt7) hown (mvT hZ (kw43 hw)) (mvT hZ (kw44 hw)) (mvT hZ (kw45 hw)) (mvT hZ (kw46 hw)) (by decide) (backOf (W := 0) (rm_fl l Z a0 hw [] uwd v4 h0 n0 Z0 (⟨by omega, by omega⟩) V_uwd) hZ (kw46 hw) (kw45 hw) (by decide) (by decide)) (g := (mkF m 30 #[.val (.ref thiswd), .val (.int xwd_1), .val (.int v4), .val (.int v11), .val (.int (1 : Int32)), .unset, .unset, .unset, .unset, .unset] [(.int v4), (.int (2 : Int32)), (.int (1 : Int32)), (.ref uwd)])) rfl (by rw [hml]; rfl) (argsL := [(.ref uwd), (.int (1 : Int32)), (.int (2 : Int32)), (.int v4)]) (rest := []) (lenOf pd2 rfl) rfl (by show 2 * 0 + _ ≤ _; exact Nat.le_of_eq rfl) (hb hby d_prog_67_method_8_30) (fun _ _ => ⟨rfl, e9, (by decide : 0 + 0 ≤ _), (by decide : 0 + 0 ≤ _)⟩)
  dsimp only [Pt.U, Pt.locs, Pt.cells, Pt.slots] at X10 l10 y10 z10 st10 hQ10
  subst l10 y10 z10
  obtain ⟨rfl, Nq10, e10⟩ := hQ10
  have N10 := Fr.app N7 Nq10
  refine Wq.step st10 ?_
  show Wq _ _ _ _ _ (T10.setTop (mkF m 33 #[.val (.ref thiswd), .val (.int xwd_1), .val (.int v4), .val (.int v11), .val (.int (1 : Int32)), .unset, .unset, .unset, .unset, .unset] [(.int (1 : Int32))]))
  show Wq _ _ _ _ _ (T10.setTop (mkF m 33 #[.val (.ref thiswd), .val (.int xwd_1), .val (.int v4), .val (.int v11), .val (.int (1 : Int32)), .unset, .unset, .unset, .unset, .unset] [(.int (1 : Int32))]))
  refine Ow.iload X10 hx (pc' := 35) (hb hby d_prog_67_method_8_33) rfl ?_
  refine Ow.isub X10 hx (pc' := 36) (hb hby d_prog_67_method_8_35) (z := (0 : Int32)) rfl ?_
  refine Ow.istore X10 hx (pc' := 38) (hb hby d_prog_67_method_8_36) (l' := #[.val (.ref thiswd), .val (.int xwd_1), .val (.int v4), .val (.int v11), .val (.int (1 : Int32)), .val (.int (0 : Int32)), .unset, .unset, .unset, .unset]) rfl ?_
  refine Ow.lconst X10 hx (pc' := 39) (hb hby d_prog_67_method_8_38) (z := (0 : Int64)) rfl ?_
  refine Ow.lstore X10 hx (pc' := 41) (hb hby d_prog_67_method_8_39) (l' := #[.val (.ref thiswd), .val (.int xwd_1), .val (.int v4), .val (.int v11), .val (.int (1 : Int32)), .val (.int (0 : Int32)), .val (.long (0 : Int64)), .second, .unset, .unset]) rfl ?_
  refine Ow.iload X10 hx (pc' := 43) (hb hby d_prog_67_method_8_41) rfl ?_
  refine Ow.iload X10 hx (pc' := 45) (hb hby d_prog_67_method_8_43) rfl ?_
  refine Ow.icmpNo X10 hx (pc' := 48) (hb hby d_prog_67_method_8_45) (tlt (by decide : (0 : Int32) < (1 : Int32))).2.1 ?_
  refine Ow.aloadN X10 hx (pc' := 49) (hb hby d_prog_67_method_8_48) rfl rfl ?_
  refine Ow.iload X10 hx (pc' := 51) (hb hby d_prog_67_method_8_49) rfl ?_
  obtain ⟨cq11, kq11, q11a, q11b, q11c⟩ := isOf hZ e10 E_thiswd
  obtain ⟨_, _, ⟨T11, L11, k11, n11⟩, -, X11, ⟨Lc11, hQ11, l11, y11, z11⟩, st11⟩ := X10.virtualBack hx (y := mt3) (z := mt3) hown (mvT hZ (kw47 hw)) (mvT hZ (kw48 hw)) (notFace_of_selects (args := #[]) (mvT hZ (kw50 hw))) (mvT hZ (kw50 hw)) (mvT hZ (kw49 hw)) (by decide) (backOf (W := 0) (rm_fi l Z a0 hw [] thiswd uwd h0 n0 Z0 F_thiswd_runs V_uwd) hZ (kw51 hw) (kw3 hw) (by decide) (by decide)) q11a q11c (g := (mkF m 51 #[.val (.ref thiswd), .val (.int xwd_1), .val (.int v4), .val (.int v11), .val (.int (1 : Int32)), .val (.int (0 : Int32)), .val (.long (0 : Int64)), .second, .unset, .unset] [(.int (0 : Int32)), (.ref thiswd)])) rfl (by rw [hml]; rfl) (Steps.refl _) (argsL := [(.int (0 : Int32))]) (rest := []) (lenOf pd3 rfl) rfl (by show 2 * 0 + _ ≤ _; exact Nat.le_of_eq rfl) (hb hby d_prog_67_method_8_51) (fun _ _ => ⟨rfl, e10, (by decide : 0 + 0 ≤ _), (by decide : 0 + 0 ≤ _)⟩)
  dsimp only [Pt.U, Pt.locs, Pt.cells, Pt.slots] at X11 l11 y11 z11 st11 hQ11
  subst l11 y11 z11
  obtain ⟨rfl, Nq11, e11⟩ := hQ11
  have N11 := Fr.app N10 Nq11
  refine Wq.steps st11 ?_
  show Wq _ _ _ _ _ (T11.setTop (mkF m 54 #[.val (.ref thiswd), .val (.int xwd_1), .val (.int v4), .val (.int v11), .val (.int (1 : Int32)), .val (.int (0 : Int32)), .val (.long (0 : Int64)), .second, .unset, .unset] [(.int (0 : Int32))]))
  show Wq _ _ _ _ _ (T11.setTop (mkF m 54 #[.val (.ref thiswd), .val (.int xwd_1), .val (.int v4), .val (.int v11), .val (.int (1 : Int32)), .val (.int (0 : Int32)), .val (.long (0 : Int64)), .second, .unset, .unset] [(.int (0 : Int32))]))
  refine Ow.iloadN X11 hx (pc' := 55) (hb hby d_prog_67_method_8_54) rfl ?_
  refine Ow.icmpNo X11 hx (pc' := 58) (hb hby d_prog_67_method_8_55) (flt (own_b54 hbd W3 : ¬ (v11 < (0 : Int32)))).2.2.1 ?_
  refine Ow.aloadN X11 hx (pc' := 59) (hb hby d_prog_67_method_8_58) rfl rfl ?_
  refine Ow.iload X11 hx (pc' := 61) (hb hby d_prog_67_method_8_59) rfl ?_
  obtain ⟨cq12, kq12, q12a, q12b, q12c⟩ := isOf hZ e11 E_thiswd
  obtain ⟨_, _, ⟨T12, L12, k12, n12⟩, -, X12, ⟨Lc12, hQ12, l12, y12, z12⟩, st12⟩ := X11.virtualBack hx (y := mt3) (z := mt3) hown (mvT hZ (kw47 hw)) (mvT hZ (kw48 hw)) (notFace_of_selects (args := #[]) (mvT hZ (kw50 hw))) (mvT hZ (kw50 hw)) (mvT hZ (kw49 hw)) (by decide) (backOf (W := 0) (rm_fi l Z a0 hw [] thiswd uwd h0 n0 Z0 F_thiswd_runs V_uwd) hZ (kw51 hw) (kw3 hw) (by decide) (by decide)) q12a q12c (g := (mkF m 61 #[.val (.ref thiswd), .val (.int xwd_1), .val (.int v4), .val (.int v11), .val (.int (1 : Int32)), .val (.int (0 : Int32)), .val (.long (0 : Int64)), .second, .unset, .unset] [(.int (0 : Int32)), (.ref thiswd)])) rfl (by rw [hml]; rfl) (Steps.refl _) (argsL := [(.int (0 : Int32))]) (rest := []) (lenOf pd3 rfl) rfl (by show 2 * 0 + _ ≤ _; exact Nat.le_of_eq rfl) (hb hby d_prog_67_method_8_61) (fun _ _ => ⟨rfl, e11, (by decide : 0 + 0 ≤ _), (by decide : 0 + 0 ≤ _)⟩)
  dsimp only [Pt.U, Pt.locs, Pt.cells, Pt.slots] at X12 l12 y12 z12 st12 hQ12
  subst l12 y12 z12
  obtain ⟨rfl, Nq12, e12⟩ := hQ12
  have N12 := Fr.app N11 Nq12
  refine Wq.steps st12 ?_
  show Wq _ _ _ _ _ (T12.setTop (mkF m 64 #[.val (.ref thiswd), .val (.int xwd_1), .val (.int v4), .val (.int v11), .val (.int (1 : Int32)), .val (.int (0 : Int32)), .val (.long (0 : Int64)), .second, .unset, .unset] [(.int (0 : Int32))]))
  show Wq _ _ _ _ _ (T12.setTop (mkF m 64 #[.val (.ref thiswd), .val (.int xwd_1), .val (.int v4), .val (.int v11), .val (.int (1 : Int32)), .val (.int (0 : Int32)), .val (.long (0 : Int64)), .second, .unset, .unset] [(.int (0 : Int32))]))
  refine Ow.iloadN X12 hx (pc' := 65) (hb hby d_prog_67_method_8_64) rfl ?_
  obtain ⟨_, _, ⟨T13, L13, k13, n13⟩, -, X13, ⟨Lc13, hQ13, l13, y13, z13⟩, st13⟩ := Jvm.LawKit.callS X12 hx (y := mt5) hown (mvT hZ (kw52 hw)) (mvT hZ (kw53 hw)) (mvT hZ (kw54 hw)) (mvT hZ (kw55 hw)) (by decide) (backOf (W := 0) (rm_max l Z a0 hw [] (0 : Int32) v4 h0 n0 Z0 ) hZ (kw55 hw) (kw54 hw) (by decide) (by decide)) (g := (mkF m 65 #[.val (.ref thiswd), .val (.int xwd_1), .val (.int v4), .val (.int v11), .val (.int (1 : Int32)), .val (.int (0 : Int32)), .val (.long (0 : Int64)), .second, .unset, .unset] [(.int v4), (.int (0 : Int32))])) rfl (by rw [hml]; rfl) (argsL := [(.int (0 : Int32)), (.int v4)]) (rest := []) (lenOf pd4 rfl) rfl (by show 2 * 0 + _ ≤ _; exact Nat.le_of_eq rfl) (hb hby d_prog_67_method_8_65) (fun _ _ => ⟨rfl, e12, (by decide : 0 + 0 ≤ _), (by decide : 0 + 0 ≤ _)⟩)
  dsimp only [Pt.U, Pt.locs, Pt.cells, Pt.slots] at X13 l13 y13 z13 st13 hQ13
  subst l13 y13 z13
  obtain ⟨rfl, Nq13, e13⟩ := hQ13
  have N13 := Fr.app N12 Nq13
  refine Wq.step st13 ?_
  show Wq _ _ _ _ _ (T13.setTop (mkF m 68 #[.val (.ref thiswd), .val (.int xwd_1), .val (.int v4), .val (.int v11), .val (.int (1 : Int32)), .val (.int (0 : Int32)), .val (.long (0 : Int64)), .second, .unset, .unset] [(.int (f_max (0 : Int32) v4))]))
  generalize hv65 : (f_max (0 : Int32) v4) = v65
  show Wq _ _ _ _ _ (T13.setTop (mkF m 68 #[.val (.ref thiswd), .val (.int xwd_1), .val (.int v4), .val (.int v11), .val (.int (1 : Int32)), .val (.int (0 : Int32)), .val (.long (0 : Int64)), .second, .unset, .unset] [(.int v65)]))
  refine Ow.iloadN X13 hx (pc' := 69) (hb hby d_prog_67_method_8_68) rfl ?_
  refine Ow.isub X13 hx (pc' := 70) (hb hby d_prog_67_method_8_69) (z := (v65 - v4)) rfl ?_
  refine Ow.istore X13 hx (pc' := 72) (hb hby d_prog_67_method_8_70) (l' := #[.val (.ref thiswd), .val (.int xwd_1), .val (.int v4), .val (.int v11), .val (.int (1 : Int32)), .val (.int (0 : Int32)), .val (.long (0 : Int64)), .second, .val (.int (v65 - v4)), .unset]) rfl ?_
  generalize hv70 : (v65 - v4) = v70
  obtain rfl := own_fr0 hbd W2 hv65 hv70
  show Wq _ _ _ _ _ (T13.setTop (mkF m 72 #[.val (.ref thiswd), .val (.int xwd_1), .val (.int v4), .val (.int v11), .val (.int (1 : Int32)), .val (.int (0 : Int32)), .val (.long (0 : Int64)), .second, .val (.int (0 : Int32)), .unset] []))
  refine Ow.aloadN X13 hx (pc' := 73) (hb hby d_prog_67_method_8_72) rfl rfl ?_
  refine Ow.iload X13 hx (pc' := 75) (hb hby d_prog_67_method_8_73) rfl ?_
  obtain ⟨cq14, kq14, q14a, q14b, q14c⟩ := isOf hZ e13 E_thiswd
  obtain ⟨_, _, ⟨T14, L14, k14, n14⟩, -, X14, ⟨Lc14, hQ14, l14, y14, z14⟩, st14⟩ := X13.virtualBack hx (y := mt4) (z := mt4) hown (mvT hZ (kw56 hw)) (mvT hZ (kw57 hw)) (notFace_of_selects (args := #[]) (mvT hZ (kw59 hw))) (mvT hZ (kw59 hw)) (mvT hZ (kw58 hw)) (by decide) (backOf (W := 0) (rm_la l Z a0 hw [] thiswd uwd h0 n0 Z0 F_thiswd_runs V_uwd E_thiswd) hZ (kw60 hw) (kw3 hw) (by decide) (by decide)) q14a q14c (g := (mkF m 75 #[.val (.ref thiswd), .val (.int xwd_1), .val (.int v4), .val (.int v11), .val (.int (1 : Int32)), .val (.int (0 : Int32)), .val (.long (0 : Int64)), .second, .val (.int (0 : Int32)), .unset] [(.int (0 : Int32)), (.ref thiswd)])) rfl (by rw [hml]; rfl) (Steps.refl _) (argsL := [(.int (0 : Int32))]) (rest := []) (lenOf pd3 rfl) rfl (by show 2 * 0 + _ ≤ _; exact Nat.le_of_eq rfl) (hb hby d_prog_67_method_8_75) (fun _ _ => ⟨rfl, e13, (by decide : 0 + 0 ≤ _), (by decide : 0 + 0 ≤ _)⟩)
  dsimp only [Pt.U, Pt.locs, Pt.cells, Pt.slots] at X14 l14 y14 z14 st14 hQ14
  subst l14 y14 z14
  obtain ⟨rfl, Nq14, e14⟩ := hQ14
  have N14 := Fr.app N13 Nq14
  refine Wq.steps st14 ?_
  show Wq _ _ _ _ _ (T14.setTop (mkF m 78 #[.val (.ref thiswd), .val (.int xwd_1), .val (.int v4), .val (.int v11), .val (.int (1 : Int32)), .val (.int (0 : Int32)), .val (.long (0 : Int64)), .second, .val (.int (0 : Int32)), .unset] [(.int (65535 : Int32))]))
  show Wq _ _ _ _ _ (T14.setTop (mkF m 78 #[.val (.ref thiswd), .val (.int xwd_1), .val (.int v4), .val (.int v11), .val (.int (1 : Int32)), .val (.int (0 : Int32)), .val (.long (0 : Int64)), .second, .val (.int (0 : Int32)), .unset] [(.int (65535 : Int32))]))
  refine Ow.iloadN X14 hx (pc' := 79) (hb hby d_prog_67_method_8_78) rfl ?_
  obtain ⟨_, _, ⟨T15, L15, k15, n15⟩, -, X15, ⟨Lc15, hQ15, l15, y15, z15⟩, st15⟩ := Jvm.LawKit.callS X14 hx (y := mt6) hown (mvT hZ (kw61 hw)) (mvT hZ (kw62 hw)) (mvT hZ (kw54 hw)) (mvT hZ (kw63 hw)) (by decide) (backOf (W := 0) (rm_min l Z a0 hw [] (65535 : Int32) v11 h0 n0 Z0 ) hZ (kw63 hw) (kw54 hw) (by decide) (by decide)) (g := (mkF m 79 #[.val (.ref thiswd), .val (.int xwd_1), .val (.int v4), .val (.int v11), .val (.int (1 : Int32)), .val (.int (0 : Int32)), .val (.long (0 : Int64)), .second, .val (.int (0 : Int32)), .unset] [(.int v11), (.int (65535 : Int32))])) rfl (by rw [hml]; rfl) (argsL := [(.int (65535 : Int32)), (.int v11)]) (rest := []) (lenOf pd4 rfl) rfl (by show 2 * 0 + _ ≤ _; exact Nat.le_of_eq rfl) (hb hby d_prog_67_method_8_79) (fun _ _ => ⟨rfl, e14, (by decide : 0 + 0 ≤ _), (by decide : 0 + 0 ≤ _)⟩)
  dsimp only [Pt.U, Pt.locs, Pt.cells, Pt.slots] at X15 l15 y15 z15 st15 hQ15
  subst l15 y15 z15
  obtain ⟨rfl, Nq15, e15⟩ := hQ15
  have N15 := Fr.app N14 Nq15
  refine Wq.step st15 ?_
  show Wq _ _ _ _ _ (T15.setTop (mkF m 82 #[.val (.ref thiswd), .val (.int xwd_1), .val (.int v4), .val (.int v11), .val (.int (1 : Int32)), .val (.int (0 : Int32)), .val (.long (0 : Int64)), .second, .val (.int (0 : Int32)), .unset] [(.int (f_min (65535 : Int32) v11))]))
  generalize hv79 : (f_min (65535 : Int32) v11) = v79
  show Wq _ _ _ _ _ (T15.setTop (mkF m 82 #[.val (.ref thiswd), .val (.int xwd_1), .val (.int v4), .val (.int v11), .val (.int (1 : Int32)), .val (.int (0 : Int32)), .val (.long (0 : Int64)), .second, .val (.int (0 : Int32)), .unset] [(.int v79)]))
  refine Ow.iloadN X15 hx (pc' := 83) (hb hby d_prog_67_method_8_82) rfl ?_
  refine Ow.isub X15 hx (pc' := 84) (hb hby d_prog_67_method_8_83) (z := (v79 - v4)) rfl ?_
  refine Ow.istore X15 hx (pc' := 86) (hb hby d_prog_67_method_8_84) (l' := #[.val (.ref thiswd), .val (.int xwd_1), .val (.int v4), .val (.int v11), .val (.int (1 : Int32)), .val (.int (0 : Int32)), .val (.long (0 : Int64)), .second, .val (.int (0 : Int32)), .val (.int (v79 - v4))]) rfl ?_
  generalize hv84 : (v79 - v4) = v84
  obtain rfl := own_to63 hbd W2 W3 hv79 hv84
  show Wq _ _ _ _ _ (T15.setTop (mkF m 86 #[.val (.ref thiswd), .val (.int xwd_1), .val (.int v4), .val (.int v11), .val (.int (1 : Int32)), .val (.int (0 : Int32)), .val (.long (0 : Int64)), .second, .val (.int (0 : Int32)), .val (.int (63 : Int32))] []))
  refine Ow.lload X15 hx (pc' := 88) (hb hby d_prog_67_method_8_86) rfl ?_
  refine Ow.ldc2Long X15 hx hZ (pc' := 91) hown (kw64 hw) (hb hby d_prog_67_method_8_88) ?_
  refine Ow.iload X15 hx (pc' := 93) (hb hby d_prog_67_method_8_91) rfl ?_
  refine Ow.lshl X15 hx (pc' := 94) (hb hby d_prog_67_method_8_93) (z := (-1 : Int64)) rfl ?_
  refine Ow.ldc2Long X15 hx hZ (pc' := 97) hown (kw64 hw) (hb hby d_prog_67_method_8_94) ?_
  refine Ow.bipush X15 hx (pc' := 99) (hb hby d_prog_67_method_8_97) (z := (63 : Int32)) rfl ?_
  refine Ow.iload X15 hx (pc' := 101) (hb hby d_prog_67_method_8_99) rfl ?_
  refine Ow.isub X15 hx (pc' := 102) (hb hby d_prog_67_method_8_101) (z := (0 : Int32)) rfl ?_
  refine Ow.lushr X15 hx (pc' := 103) (hb hby d_prog_67_method_8_102) (z := (-1 : Int64)) rfl ?_
  refine Ow.land X15 hx (pc' := 104) (hb hby d_prog_67_method_8_103) (z := (-1 : Int64)) rfl ?_
  refine Ow.lor X15 hx (pc' := 105) (hb hby d_prog_67_method_8_104) (z := (-1 : Int64)) rfl ?_
  refine Ow.lstore X15 hx (pc' := 107) (hb hby d_prog_67_method_8_105) (l' := #[.val (.ref thiswd), .val (.int xwd_1), .val (.int v4), .val (.int v11), .val (.int (1 : Int32)), .val (.int (0 : Int32)), .val (.long (-1 : Int64)), .second, .val (.int (0 : Int32)), .val (.int (63 : Int32))]) rfl ?_
  refine Ow.iinc X15 hx (pc' := 110) (hb hby d_prog_67_method_8_107) rfl (l' := #[.val (.ref thiswd), .val (.int xwd_1), .val (.int v4), .val (.int v11), .val (.int (1 : Int32)), .val (.int (1 : Int32)), .val (.long (-1 : Int64)), .second, .val (.int (0 : Int32)), .val (.int (63 : Int32))]) rfl ?_
  show Wq _ _ _ _ _ (T15.setTop (mkF m 110 #[.val (.ref thiswd), .val (.int xwd_1), .val (.int v4), .val (.int v11), .val (.int (1 : Int32)), .val (.int (1 : Int32)), .val (.long (-1 : Int64)), .second, .val (.int (0 : Int32)), .val (.int (63 : Int32))] []))
  refine Ow.goto X15 hx (pc' := 41) (hb hby d_prog_67_method_8_110) (by decide) (by decide) ?_
  refine Ow.iload X15 hx (pc' := 43) (hb hby d_prog_67_method_8_41) rfl ?_
  refine Ow.iload X15 hx (pc' := 45) (hb hby d_prog_67_method_8_43) rfl ?_
  refine Ow.icmpYes X15 hx (pc' := 113) (hb hby d_prog_67_method_8_45) (flt (by decide : ¬ ((1 : Int32) < (1 : Int32)))).2.1 (by decide) (by decide) ?_
  refine Ow.lload X15 hx (pc' := 115) (hb hby d_prog_67_method_8_113) rfl ?_
  exact Wq.ret X15 (BodyLoose.notSynchronized Bd) (rv := some (.long (-1 : Int64))) (fun h => by rw [Bd.returns] at h; cases h) (fun _ hr => retOut X15 hx Bd.returns rfl (Or.inr (Or.inl ⟨rfl, rfl, _, rfl⟩)) (hb hby d_prog_67_method_8_115) hr) (by decide) (by decide) ⟨by decide, N15, e15⟩
def own_wl (gw : Nat → Int64) : List Value := (List.range 1024).map fun i => Value.long (gw i)
def own_cI (vs : List Value) (k : Int32) : Prop := 0 ≤ k.toInt ∧ k.toInt ≤ 1024 ∧ vs.length = 1024 ∧ ∀ i : Nat, i < k.toInt.toNat → vs[i]? = some (.long (-1 : Int64))
theorem own_wll (gw : Nat → Int64) : (own_wl gw).length = 1024 := by simp [own_wl]
theorem own_wlg (gw : Nat → Int64) {i : Nat} (h : i < 1024) : (own_wl gw)[i]? = some (.long (gw i)) := by
  simp [own_wl, h]
theorem own_wle {vs : List Value} {gw : Nat → Int64} (hl : vs.length = 1024) (h : ∀ i : Nat, i < 1024 → vs[i]? = some (.long (gw i))) : vs = own_wl gw := by
  apply List.ext_getElem?
  intro i
  by_cases q : i < 1024
  · rw [h i q, own_wlg gw q]
  · rw [List.getElem?_eq_none (by omega), List.getElem?_eq_none (by rw [own_wll]; omega)]
theorem own_wls {gw : Nat → Int64} {k : Nat} {v : Int64} : (own_wl gw).set k (.long v) = own_wl (fun j => if j = k then v else gw j) := by
  apply own_wle
  · rw [List.length_set, own_wll]
  · intro i hi
    rw [List.getElem?_set, own_wll]
    by_cases q : k = i
    · subst q; rw [if_pos rfl, if_pos hi, if_pos rfl]
    · rw [if_neg q, own_wlg gw hi, if_neg (Ne.symm q)]
theorem own_c1024 : (1024 : Int32).toInt = 1024 := by decide
theorem own_cin {vs : List Value} {k : Int32} (I : own_cI vs k) (h : k < (1024 : Int32)) : (0 ≤ k.toInt ∧ k.toInt ≤ 1023) ∧ ¬ k < 0 ∧ k.toNatClampNeg < vs.length := by
  obtain ⟨h1, h2, h3, h4⟩ := I
  rw [Int32.lt_iff_toInt_lt, own_c1024] at h
  have e0 : (0 : Int32).toInt = 0 := by decide
  refine ⟨⟨h1, by omega⟩, ?_, ?_⟩
  · rw [Int32.lt_iff_toInt_lt]; omega
  · show k.toInt.toNat < vs.length
    omega
theorem own_cst {vs : List Value} {k : Int32} (I : own_cI vs k) (h : k < (1024 : Int32)) : own_cI (vs.set k.toNatClampNeg (.long (-1 : Int64))) (k + (1 : Int32)) ∧ (1024 - (k + (1 : Int32)).toInt).toNat < (1024 - k.toInt).toNat := by
  have q := own_cin I h
  obtain ⟨h1, h2, h3, h4⟩ := I
  have e1 : (1 : Int32).toInt = 1 := by decide
  have c := c_iadd k 1
  have r := rng32 (k + 1)
  have s : (k + 1).toInt = k.toInt + 1 := by omega
  refine ⟨⟨by omega, by omega, by rw [List.length_set]; exact h3, fun i hi => ?_⟩, by omega⟩
  have t : k.toNatClampNeg = k.toInt.toNat := rfl
  rw [List.getElem?_set]
  by_cases z : k.toNatClampNeg = i
  · rw [if_pos z, if_pos (by omega)]
  · rw [if_neg z]
    exact h4 i (by omega)
theorem own_cfin {vs : List Value} {k : Int32} (I : own_cI vs k) (h : ¬ k < (1024 : Int32)) : vs = own_wl (fun _ => (-1 : Int64)) := by
  obtain ⟨h1, h2, h3, h4⟩ := I
  rw [Int32.lt_iff_toInt_lt, own_c1024] at h
  exact own_wle h3 fun i hi => h4 i (by omega)
theorem kw37 {Z : State} {a0 : Array Value} (hw : ∀ d ∈ tables_1, d.before a0 Z = true) : (Jvm.Cond.code ({ cls := "com/example/tightbit/tightbit/SparseDocIds$Runs", name := "word", desc := "(I)J" } : Jvm.MethodName) prog_67_method_8_code (10 : Nat) (Option.some Jvm.ClassFile.FieldType.long)).before a0 Z = true := hw _ (List.mem_of_getElem? (i := 37) rfl)
theorem pd5 : parseMethodDescriptor "(I)J" = some ⟨[.int], some .long⟩ := by decide +kernel
abbrev mt9 : MethodName := ⟨"com/example/tightbit/tightbit/SparseDocIds$WordBlock", "word", "(I)J"⟩
theorem kw30 {Z : State} {a0 : Array Value} (hw : ∀ d ∈ tables_1, d.before a0 Z = true) : (Jvm.Cond.methodLink "com/example/tightbit/tightbit/SparseDocIds$WordBlock" (3 : Nat) ({ cls := "com/example/tightbit/tightbit/SparseDocIds$WordBlock", name := "word", desc := "(I)J" } : Jvm.MethodName)).before a0 Z = true := hw _ (List.mem_of_getElem? (i := 30) rfl)
theorem kw31 {Z : State} {a0 : Array Value} (hw : ∀ d ∈ tables_1, d.before a0 Z = true) : (Jvm.Cond.declares ({ cls := "com/example/tightbit/tightbit/SparseDocIds$WordBlock", name := "word", desc := "(I)J" } : Jvm.MethodName)).before a0 Z = true := hw _ (List.mem_of_getElem? (i := 31) rfl)
theorem kw32 {Z : State} {a0 : Array Value} (hw : ∀ d ∈ tables_1, d.before a0 Z = true) : (Jvm.Cond.interfaceMethod "com/example/tightbit/tightbit/SparseDocIds$WordBlock" "com/example/tightbit/tightbit/SparseDocIds$WordBlock" "word" "(I)J").before a0 Z = true := hw _ (List.mem_of_getElem? (i := 32) rfl)
theorem kw33 {Z : State} {a0 : Array Value} (hw : ∀ d ∈ tables_1, d.before a0 Z = true) : (Jvm.Cond.selects "com/example/tightbit/tightbit/SparseDocIds$Runs" ({ cls := "com/example/tightbit/tightbit/SparseDocIds$WordBlock", name := "word", desc := "(I)J" } : Jvm.MethodName) ({ cls := "com/example/tightbit/tightbit/SparseDocIds$Runs", name := "word", desc := "(I)J" } : Jvm.MethodName)).before a0 Z = true := hw _ (List.mem_of_getElem? (i := 33) rfl)
theorem kw34 {Z : State} {a0 : Array Value} (hw : ∀ d ∈ tables_1, d.before a0 Z = true) : (Jvm.Cond.instanceMethod ({ cls := "com/example/tightbit/tightbit/SparseDocIds$Runs", name := "word", desc := "(I)J" } : Jvm.MethodName)).before a0 Z = true := hw _ (List.mem_of_getElem? (i := 34) rfl)
theorem kw35 {Z : State} {a0 : Array Value} (hw : ∀ d ∈ tables_1, d.before a0 Z = true) : (Jvm.Cond.publicMethod ({ cls := "com/example/tightbit/tightbit/SparseDocIds$Runs", name := "word", desc := "(I)J" } : Jvm.MethodName)).before a0 Z = true := hw _ (List.mem_of_getElem? (i := 35) rfl)
theorem kw36 {Z : State} {a0 : Array Value} (hw : ∀ d ∈ tables_1, d.before a0 Z = true) : (Jvm.Cond.unhidden "com/example/tightbit/tightbit/SparseDocIds$Runs" "word" "(I)J").before a0 Z = true := hw _ (List.mem_of_getElem? (i := 36) rfl)
theorem kw20 {Z : State} {a0 : Array Value} (hw : ∀ d ∈ tables_1, d.before a0 Z = true) : (Jvm.Cond.castable "com/example/tightbit/tightbit/SparseDocIds$Runs" "com/example/tightbit/tightbit/SparseDocIds$WordBlock").before a0 Z = true := hw _ (List.mem_of_getElem? (i := 20) rfl)
theorem d_prog_70_method_5_0 : decode prog_70_method_5_code 0 = .ok (.iconst 0, 1) := by decide +kernel
theorem d_prog_70_method_5_1 : decode prog_70_method_5_code 1 = .ok (.istore_n 2, 1) := by decide +kernel
theorem d_prog_70_method_5_2 : decode prog_70_method_5_code 2 = .ok (.iload_n 2, 1) := by decide +kernel
theorem d_prog_70_method_5_3 : decode prog_70_method_5_code 3 = .ok (.sipush 1024, 3) := by decide +kernel
theorem d_prog_70_method_5_6 : decode prog_70_method_5_code 6 = .ok (.if_icmp .ge 19, 3) := by decide +kernel
theorem d_prog_70_method_5_9 : decode prog_70_method_5_code 9 = .ok (.aload_n 1, 1) := by decide +kernel
theorem d_prog_70_method_5_10 : decode prog_70_method_5_code 10 = .ok (.iload_n 2, 1) := by decide +kernel
theorem d_prog_70_method_5_11 : decode prog_70_method_5_code 11 = .ok (.aload_n 0, 1) := by decide +kernel
theorem d_prog_70_method_5_12 : decode prog_70_method_5_code 12 = .ok (.iload_n 2, 1) := by decide +kernel
theorem d_prog_70_method_5_13 : decode prog_70_method_5_code 13 = .ok (.invokeinterface 3 2, 5) := by decide +kernel
theorem d_prog_70_method_5_18 : decode prog_70_method_5_code 18 = .ok (.lastore, 1) := by decide +kernel
theorem d_prog_70_method_5_19 : decode prog_70_method_5_code 19 = .ok (.iinc 2 1, 3) := by decide +kernel
theorem d_prog_70_method_5_22 : decode prog_70_method_5_code 22 = .ok (.goto (-20), 3) := by decide +kernel
theorem pn3 : plainName "com/example/tightbit/tightbit/SparseDocIds$WordBlock" = true := by first | (simp [plainName, overriddenIn]; done) | decide +kernel
theorem ef_cw (m : MethodId) (thiscw : Addr) (acw_1 : Addr) : entryFrame m #[(.ref thiscw), (.ref acw_1)] 3 = mkF m 0 #[.val (.ref thiscw), .val (.ref acw_1), .unset] [] := by first | (simp [entryFrame, mkF, argsToLocals, Value.category]; done) | rfl
def Q_cw (Z : State) (thiscw : Addr) (acw_1 : Addr) (ucw : Addr) (vs0 : List Value) (h0 : Heap) (n0 : Nat) (v : Option Value) (h : Heap) (L : List Loc) : Prop := v = none ∧ Fr n0 L ∧ Keep h0 h [acw_1] ∧ Al Z h acw_1 .long (own_wl (fun _ => (-1 : Int64)))
theorem d_prog_70_method_5_25 : decode prog_70_method_5_code 25 = .ok (.return_, 1) := by decide +kernel
abbrev mt10 : MethodName := ⟨"com/example/tightbit/tightbit/SparseDocIds$WordBlock", "copyWords", "([J)V"⟩
set_option maxRecDepth 65536 in
set_option maxHeartbeats 40000000 in
theorem rm_cw (l : Launch) (Z : State) (a0 : Array Value) (hw : ∀ d ∈ tables_1, d.before a0 Z = true) (ws : List Jvm.Cond) (thiscw : Addr) (acw_1 : Addr) (ucw : Addr) (vs0 : List Value) (h0 : Heap) (n0 : Nat) (Z0 : n0 ≤ h0.size) (hlen : vs0.length = 1024) (F_thiscw_runs : Fld Z h0 thiscw "com/example/tightbit/tightbit/SparseDocIds$Runs" "runs" "[C" (.ref ucw)) (V_ucw : Al Z h0 ucw .char [(.int (0 : Int32)), (.int (65535 : Int32))]) (E_thiscw : Exa Z h0 thiscw "com/example/tightbit/tightbit/SparseDocIds$Runs") (V_acw_1 : Al Z h0 acw_1 .long vs0) (ne_ucw_acw_1 : ucw ≠ acw_1) (ne_thiscw_acw_1 : thiscw ≠ acw_1) (g_acw_1 : n0 ≤ acw_1) :
    MetBare l mt10 ({ frames := 3, cells := 0, slots := 0, locals := 49 } : Room) prog_70_method_5_code 3 none (fun a U => a = #[(.ref thiscw), (.ref acw_1)] ∧ Z.Warmed39 U.vm ∧ U.heap = h0) (fun _ U o U' => ∃ v L, o = .returned v ∧ (Q_cw Z thiscw acw_1 ucw vs0 h0 n0) v U'.heap L ∧ FrameEnd U o U' L ({ frames := 3, cells := 0, slots := 0, locals := 49 } : Room).cells ({ frames := 3, cells := 0, slots := 0, locals := 49 } : Room).slots) := by
  intro p e s m args below meth c s₁ Bd hP
  obtain ⟨rfl, hZ, hh⟩ := hP
  have hx := Bd.exec
  have hby := Bd.bytes
  have hml : c.maxLocals = 3 := Bd.locals
  have hown : s.vm.findClass "com/example/tightbit/tightbit/SparseDocIds$WordBlock" = some m.cls := findClass_of_methodNamed Bd.named
  have hnm := (name_of_methodNamed Bd.named Bd.method).1
  have X0 : Stand p l e ({ frames := 3, cells := 0, slots := 0, locals := 49 } : Room) s m #[(.ref thiscw), (.ref acw_1)] below meth c s₁ [] 0 0 := Bd.stand
  have e0 : s₁.heap = h0 := by rw [← hh, Bd.state]; rfl
  have N0 := Fr.nil n0
  refine Wq.step (p := p) (e := e) (below := below) (En := (fun o t L => FrameEnd s o t L ({ frames := 3, cells := 0, slots := 0, locals := 49 } : Room).cells ({ frames := 3, cells := 0, slots := 0, locals := 49 } : Room).slots)) (Q := (Q_cw Z thiscw acw_1 ucw vs0 h0 n0)) (fun t k => castTop (ef_cw m thiscw acw_1) k) ?_
  show Wq _ _ _ _ _ (s₁.setTop (mkF m 0 #[.val (.ref thiscw), .val (.ref acw_1), .unset] []))
  refine Ow.iconst X0 hx (pc' := 1) (hb hby d_prog_70_method_5_0) (z := (0 : Int32)) rfl ?_
  refine Ow.istoreN X0 hx (pc' := 2) (hb hby d_prog_70_method_5_1) (l' := #[.val (.ref thiscw), .val (.ref acw_1), .val (.int (0 : Int32))]) rfl ?_
  have LP2 : ∀ (n : Nat) (k : Int32) (vs : List Value) (T16 : State) (h16 : Heap) (L16 : List Loc) (X16 : Stand p l e ({ frames := 3, cells := 0, slots := 0, locals := 49 } : Room) s m #[(.ref thiscw), (.ref acw_1)] below meth c T16 L16 0 0) (e16 : T16.heap = h16) (N16 : Fr n0 L16) (K16 : Keep h0 h16 [acw_1]) (Z16 : n0 ≤ h16.size) (F_thiscw_runs_t16 : Fld Z h16 thiscw "com/example/tightbit/tightbit/SparseDocIds$Runs" "runs" "[C" (.ref ucw)) (V_ucw_t16 : Al Z h16 ucw .char [(.int (0 : Int32)), (.int (65535 : Int32))]) (E_thiscw_t16 : Exa Z h16 thiscw "com/example/tightbit/tightbit/SparseDocIds$Runs") (V_acw_1_t16 : Al Z h16 acw_1 .long vs) (I : own_cI vs k) (hm : (1024 - k.toInt).toNat = n), Wq p e below (fun o t L => FrameEnd s o t L ({ frames := 3, cells := 0, slots := 0, locals := 49 } : Room).cells ({ frames := 3, cells := 0, slots := 0, locals := 49 } : Room).slots) (Q_cw Z thiscw acw_1 ucw vs0 h0 n0) (T16.setTop (mkF m 2 #[.val (.ref thiscw), .val (.ref acw_1), .val (.int k)] [])) := by
    intro n
    induction n using Nat.strongRecOn with
    | _ n ih =>
    intro k vs T16 h16 L16 X16 e16 N16 K16 Z16 F_thiscw_runs_t16 V_ucw_t16 E_thiscw_t16 V_acw_1_t16 I hm
    show Wq _ _ _ _ _ (T16.setTop (mkF m 2 #[.val (.ref thiscw), .val (.ref acw_1), .val (.int k)] []))
    refine Ow.iloadN X16 hx (pc' := 3) (hb hby d_prog_70_method_5_2) rfl ?_
    refine Ow.sipush X16 hx (pc' := 6) (hb hby d_prog_70_method_5_3) (z := (1024 : Int32)) rfl ?_
    by_cases hc6 : k < (1024 : Int32)
    · skip
      refine Ow.icmpNo X16 hx (pc' := 9) (hb hby d_prog_70_method_5_6) (tlt hc6).2.1 ?_
      refine Ow.aloadN X16 hx (pc' := 10) (hb hby d_prog_70_method_5_9) rfl rfl ?_
      refine Ow.iloadN X16 hx (pc' := 11) (hb hby d_prog_70_method_5_10) rfl ?_
      refine Ow.aloadN X16 hx (pc' := 12) (hb hby d_prog_70_method_5_11) rfl rfl ?_
      refine Ow.iloadN X16 hx (pc' := 13) (hb hby d_prog_70_method_5_12) rfl ?_
      obtain ⟨cq17, kq17, q17a, q17b, q17c⟩ := isOf hZ e16 E_thiscw_t16
      obtain ⟨_, _, ⟨T17, L17, k17, n17⟩, -, X17, ⟨Lc17, hQ17, l17, y17, z17⟩, st17⟩ := X16.interfaceBack hx (xi := mt9) (y := mt8) hown (mvT hZ (kw30 hw)) (mvT hZ (kw31 hw)) (mvT hZ (kw32 hw)) (mvT hZ (kw33 hw)) (mvT hZ (kw34 hw)) (mvT hZ (kw35 hw)) (mvT hZ (kw36 hw)) (mvT hZ (kw20 hw)) (by decide) (backOf (W := 2) (rm_wd l Z a0 hw [] thiscw k ucw h16 n0 Z16 ((own_cin I hc6).1) F_thiscw_runs_t16 V_ucw_t16 E_thiscw_t16) hZ (kw37 hw) (kw3 hw) (by decide) (by decide)) q17a q17b q17c (g := (mkF m 13 #[.val (.ref thiscw), .val (.ref acw_1), .val (.int k)] [(.int k), (.ref thiscw), (.int k), (.ref acw_1)])) rfl (by rw [hml]; rfl) (Steps.refl _) (argsL := [(.int k)]) (rest := [(.int k), (.ref acw_1)]) (lenOf pd5 rfl) rfl (by show 2 * 0 + _ ≤ _; exact Nat.le_of_eq rfl) (hb hby d_prog_70_method_5_13) (fun _ _ => ⟨rfl, e16, (by decide : 0 + 0 ≤ _), (by decide : 0 + 0 ≤ _)⟩)
      dsimp only [Pt.U, Pt.locs, Pt.cells, Pt.slots] at X17 l17 y17 z17 st17 hQ17
      subst l17 y17 z17
      obtain ⟨rfl, Nq17, e17⟩ := hQ17
      have N17 := Fr.app N16 Nq17
      refine Wq.steps st17 ?_
      show Wq _ _ _ _ _ (T17.setTop (mkF m 18 #[.val (.ref thiscw), .val (.ref acw_1), .val (.int k)] [(.long (-1 : Int64)), (.int k), (.ref acw_1)]))
      obtain ⟨T18, h18, X18, e18, W18, Vr18, st18⟩ := asJ X17 hx hZ e17 V_acw_1_t16 (j := k) (i := k.toNatClampNeg) ((own_cin I hc6).2.1) (rfl) ((own_cin I hc6).2.2) (g := (mkF m 18 #[.val (.ref thiscw), .val (.ref acw_1), .val (.int k)] [(.long (-1 : Int64)), (.int k), (.ref acw_1)])) rfl rfl (hb hby d_prog_70_method_5_18)
      refine Wq.step st18 ?_
      have N18 := Fr.snoc X18 N17 g_acw_1
      have K18 : Keep h0 h18 [acw_1] := K16.wr W18 (Or.inl (List.mem_of_getElem? (i := 0) rfl))
      have Z18 : n0 ≤ h18.size := Nat.le_trans Z16 (Keep.of_wr W18).1
      have F_thiscw_runs_t18 := F_thiscw_runs_t16.other W18 (Or.inl ne_thiscw_acw_1)
      have V_ucw_t18 := V_ucw_t16.other W18 ne_ucw_acw_1
      have E_thiscw_t18 := E_thiscw_t16.wr W18
      have V_acw_1_t18 : Al Z h18 acw_1 .long (vs.set k.toNatClampNeg (.long (-1 : Int64))) := Vr18
      show Wq _ _ _ _ _ (T18.setTop (mkF m 19 #[.val (.ref thiscw), .val (.ref acw_1), .val (.int k)] []))
      refine Ow.iinc X18 hx (pc' := 22) (hb hby d_prog_70_method_5_19) rfl (l' := #[.val (.ref thiscw), .val (.ref acw_1), .val (.int (k + (1 : Int32)))]) rfl ?_
      show Wq _ _ _ _ _ (T18.setTop (mkF m 22 #[.val (.ref thiscw), .val (.ref acw_1), .val (.int (k + (1 : Int32)))] []))
      refine Ow.goto X18 hx (pc' := 2) (hb hby d_prog_70_method_5_22) (by decide) (by decide) ?_
      exact ih _ (by rw [← hm]; exact (own_cst I hc6).2) (k + (1 : Int32)) ((vs.set k.toNatClampNeg (.long (-1 : Int64)))) T18 h18 _ X18 e18 N18 K18 Z18 F_thiscw_runs_t18 V_ucw_t18 E_thiscw_t18 V_acw_1_t18 ((own_cst I hc6).1) rfl
    · skip
      refine Ow.icmpYes X16 hx (pc' := 25) (hb hby d_prog_70_method_5_6) (flt hc6).2.1 (by decide) (by decide) ?_
      exact Wq.ret X16 (Bare.notSynchronized Bd) (rv := none) (fun _ => rfl) (fun _ hr => X16.returnOut hx Bd.returns (hb hby d_prog_70_method_5_25) hr) (by decide) (by decide) (by rw [e16]; exact ⟨rfl, N16, K16, (by rw [← own_cfin I hc6]; exact V_acw_1_t16)⟩)
  exact LP2 _ (0 : Int32) (vs0) s₁ h0 _ X0 e0 N0 (Keep.refl h0 [acw_1]) Z0 F_thiscw_runs V_ucw E_thiscw V_acw_1 (⟨by decide, by decide, hlen, fun i hi => absurd hi (Nat.not_lt_zero i)⟩) rfl
theorem kw22 {Z : State} {a0 : Array Value} (hw : ∀ d ∈ tables_1, d.before a0 Z = true) : (Jvm.Cond.arrayClass Jvm.ClassFile.FieldType.long).before a0 Z = true := hw _ (List.mem_of_getElem? (i := 22) rfl)
theorem kw29 {Z : State} {a0 : Array Value} (hw : ∀ d ∈ tables_1, d.before a0 Z = true) : (Jvm.Cond.code ({ cls := "com/example/tightbit/tightbit/SparseDocIds$WordBlock", name := "copyWords", desc := "([J)V" } : Jvm.MethodName) prog_70_method_5_code (3 : Nat) (Option.none : Option Jvm.ClassFile.FieldType)).before a0 Z = true := hw _ (List.mem_of_getElem? (i := 29) rfl)
theorem pd6 : parseMethodDescriptor "([J)V" = some ⟨[(.array .long)], none⟩ := by decide +kernel
theorem kw23 {Z : State} {a0 : Array Value} (hw : ∀ d ∈ tables_1, d.before a0 Z = true) : (Jvm.Cond.methodLink "com/example/tightbit/tightbit/SparseDocIds$WordBlock" (9 : Nat) ({ cls := "com/example/tightbit/tightbit/SparseDocIds$WordBlock", name := "copyWords", desc := "([J)V" } : Jvm.MethodName)).before a0 Z = true := hw _ (List.mem_of_getElem? (i := 23) rfl)
theorem kw24 {Z : State} {a0 : Array Value} (hw : ∀ d ∈ tables_1, d.before a0 Z = true) : (Jvm.Cond.declares ({ cls := "com/example/tightbit/tightbit/SparseDocIds$WordBlock", name := "copyWords", desc := "([J)V" } : Jvm.MethodName)).before a0 Z = true := hw _ (List.mem_of_getElem? (i := 24) rfl)
theorem kw25 {Z : State} {a0 : Array Value} (hw : ∀ d ∈ tables_1, d.before a0 Z = true) : (Jvm.Cond.interfaceMethod "com/example/tightbit/tightbit/SparseDocIds$WordBlock" "com/example/tightbit/tightbit/SparseDocIds$WordBlock" "copyWords" "([J)V").before a0 Z = true := hw _ (List.mem_of_getElem? (i := 25) rfl)
theorem kw26 {Z : State} {a0 : Array Value} (hw : ∀ d ∈ tables_1, d.before a0 Z = true) : (Jvm.Cond.landsInDefault "com/example/tightbit/tightbit/SparseDocIds$Runs" ({ cls := "com/example/tightbit/tightbit/SparseDocIds$WordBlock", name := "copyWords", desc := "([J)V" } : Jvm.MethodName) ({ cls := "com/example/tightbit/tightbit/SparseDocIds$WordBlock", name := "copyWords", desc := "([J)V" } : Jvm.MethodName)).before a0 Z = true := hw _ (List.mem_of_getElem? (i := 26) rfl)
theorem kw27 {Z : State} {a0 : Array Value} (hw : ∀ d ∈ tables_1, d.before a0 Z = true) : (Jvm.Cond.instanceMethod ({ cls := "com/example/tightbit/tightbit/SparseDocIds$WordBlock", name := "copyWords", desc := "([J)V" } : Jvm.MethodName)).before a0 Z = true := hw _ (List.mem_of_getElem? (i := 27) rfl)
theorem kw28 {Z : State} {a0 : Array Value} (hw : ∀ d ∈ tables_1, d.before a0 Z = true) : (Jvm.Cond.publicMethod ({ cls := "com/example/tightbit/tightbit/SparseDocIds$WordBlock", name := "copyWords", desc := "([J)V" } : Jvm.MethodName)).before a0 Z = true := hw _ (List.mem_of_getElem? (i := 28) rfl)
theorem d_prog_70_method_6_0 : decode prog_70_method_6_code 0 = .ok (.sipush 1024, 3) := by decide +kernel
theorem d_prog_70_method_6_3 : decode prog_70_method_6_code 3 = .ok (.newarray .long, 2) := by decide +kernel
theorem d_prog_70_method_6_5 : decode prog_70_method_6_code 5 = .ok (.astore_n 1, 1) := by decide +kernel
theorem d_prog_70_method_6_6 : decode prog_70_method_6_code 6 = .ok (.aload_n 0, 1) := by decide +kernel
theorem d_prog_70_method_6_7 : decode prog_70_method_6_code 7 = .ok (.aload_n 1, 1) := by decide +kernel
theorem d_prog_70_method_6_8 : decode prog_70_method_6_code 8 = .ok (.invokeinterface 9 2, 5) := by decide +kernel
theorem d_prog_70_method_6_13 : decode prog_70_method_6_code 13 = .ok (.aload_n 1, 1) := by decide +kernel
theorem ef_ww (m : MethodId) (thisww : Addr) : entryFrame m #[(.ref thisww)] 2 = mkF m 0 #[.val (.ref thisww), .unset] [] := by first | (simp [entryFrame, mkF, argsToLocals, Value.category]; done) | rfl
def Q_ww (Z : State) (thisww : Addr) (uww : Addr) (h0 : Heap) (n0 : Nat) (v : Option Value) (h : Heap) (L : List Loc) : Prop := ∃ b19 : Addr, v = some (.ref b19) ∧ Fr n0 L ∧ Keep h0 h [] ∧ h0.size ≤ b19 ∧ Al Z h b19 .long (own_wl (fun _ => (-1 : Int64)))
theorem d_prog_70_method_6_14 : decode prog_70_method_6_code 14 = .ok (.areturn, 1) := by decide +kernel
abbrev mt11 : MethodName := ⟨"com/example/tightbit/tightbit/SparseDocIds$WordBlock", "words", "()[J"⟩
set_option maxRecDepth 65536 in
set_option maxHeartbeats 40000000 in
theorem rm_ww (l : Launch) (Z : State) (a0 : Array Value) (hw : ∀ d ∈ tables_1, d.before a0 Z = true) (ws : List Jvm.Cond) (thisww : Addr) (uww : Addr) (h0 : Heap) (n0 : Nat) (Z0 : n0 ≤ h0.size) (F_thisww_runs : Fld Z h0 thisww "com/example/tightbit/tightbit/SparseDocIds$Runs" "runs" "[C" (.ref uww)) (V_uww : Al Z h0 uww .char [(.int (0 : Int32)), (.int (65535 : Int32))]) (E_thisww : Exa Z h0 thisww "com/example/tightbit/tightbit/SparseDocIds$Runs") :
    MetBare l mt11 ({ frames := 4, cells := 1, slots := 1024, locals := 63 } : Room) prog_70_method_6_code 2 (some (.array .long)) (fun a U => a = #[(.ref thisww)] ∧ Z.Warmed39 U.vm ∧ U.heap = h0) (fun _ U o U' => ∃ v L, o = .returned v ∧ (Q_ww Z thisww uww h0 n0) v U'.heap L ∧ FrameEnd U o U' L ({ frames := 4, cells := 1, slots := 1024, locals := 63 } : Room).cells ({ frames := 4, cells := 1, slots := 1024, locals := 63 } : Room).slots) := by
  intro p e s m args below meth c s₁ Bd hP
  obtain ⟨rfl, hZ, hh⟩ := hP
  have hx := Bd.exec
  have hby := Bd.bytes
  have hml : c.maxLocals = 2 := Bd.locals
  have hown : s.vm.findClass "com/example/tightbit/tightbit/SparseDocIds$WordBlock" = some m.cls := findClass_of_methodNamed Bd.named
  have hnm := (name_of_methodNamed Bd.named Bd.method).1
  have X0 : Stand p l e ({ frames := 4, cells := 1, slots := 1024, locals := 63 } : Room) s m #[(.ref thisww)] below meth c s₁ [] 0 0 := Bd.stand
  have e0 : s₁.heap = h0 := by rw [← hh, Bd.state]; rfl
  have N0 := Fr.nil n0
  refine Wq.step (p := p) (e := e) (below := below) (En := (fun o t L => FrameEnd s o t L ({ frames := 4, cells := 1, slots := 1024, locals := 63 } : Room).cells ({ frames := 4, cells := 1, slots := 1024, locals := 63 } : Room).slots)) (Q := (Q_ww Z thisww uww h0 n0)) (fun t k => castTop (ef_ww m thisww) k) ?_
  show Wq _ _ _ _ _ (s₁.setTop (mkF m 0 #[.val (.ref thisww), .unset] []))
  refine Ow.sipush X0 hx (pc' := 3) (hb hby d_prog_70_method_6_0) (z := (1024 : Int32)) rfl ?_
  obtain ⟨T19, h19, k19, X19, e19, E19, A19, st19⟩ := newP X0 hx hZ (aty := .long) (kw22 hw) e0 (g := (mkF m 3 #[.val (.ref thisww), .unset] [(.int (1024 : Int32))])) rfl (hb hby d_prog_70_method_6_3) rfl (by decide) (cap := 1024) (by decide) (by decide) (by decide) (by decide)
  obtain ⟨b19, gz19⟩ : ∃ z, z = h0.size := ⟨_, rfl⟩
  rw [← gz19] at A19 st19
  have g_b19 : n0 ≤ b19 := Nat.le_trans Z0 (Nat.le_of_eq gz19.symm)
  have sz_b19 : h0.size ≤ b19 := Nat.le_of_eq gz19.symm
  have ne_thisww_b19 : thisww ≠ b19 := Nat.ne_of_lt (Nat.lt_of_lt_of_le F_thisww_runs.lt (Nat.le_of_eq gz19.symm))
  have ne_uww_b19 : uww ≠ b19 := Nat.ne_of_lt (Nat.lt_of_lt_of_le V_uww.lt (Nat.le_of_eq gz19.symm))
  have K19 : Keep h0 h19 [] := (Keep.refl h0 []).ext E19
  have Z19 : n0 ≤ h19.size := Nat.le_trans Z0 E19.1
  have F_thisww_runs_t19 := F_thisww_runs.ext E19
  have V_uww_t19 := V_uww.ext E19
  have E_thisww_t19 := E_thisww.ext E19
  have V_b19 : Al Z h19 b19 .long (List.replicate 1024 (.long (0 : Int64))) := Al.new A19 (k := 1024) (rfl) rfl
  refine Wq.step st19 ?_
  show Wq _ _ _ _ _ (T19.setTop (mkF m 5 #[.val (.ref thisww), .unset] [(.ref b19)]))
  refine Ow.astoreN X19 hx (pc' := 6) (hb hby d_prog_70_method_6_5) rfl (l' := #[.val (.ref thisww), .val (.ref b19)]) rfl ?_
  refine Ow.aloadN X19 hx (pc' := 7) (hb hby d_prog_70_method_6_6) rfl rfl ?_
  refine Ow.aloadN X19 hx (pc' := 8) (hb hby d_prog_70_method_6_7) rfl rfl ?_
  obtain ⟨cq20, kq20, q20a, q20b, q20c⟩ := isOf hZ e19 E_thisww_t19
  obtain ⟨_, _, ⟨T20, L20, k20, n20⟩, -, X20, ⟨Lc20, hQ20, l20, y20, z20⟩, st20⟩ := X19.interfaceBackD hx (xi := mt10) (y := mt10) hown (mvT hZ (kw23 hw)) (mvT hZ (kw24 hw)) (mvT hZ (kw25 hw)) (mvD hZ (kw26 hw)) (mvT hZ (kw27 hw)) (mvT hZ (kw28 hw)) (mvT hZ (kw20 hw)) (by decide) (backBare (W := 0) (rm_cw l Z a0 hw [] thisww b19 uww (List.replicate 1024 (.long (0 : Int64))) h19 n0 Z19 (List.length_replicate) F_thisww_runs_t19 V_uww_t19 E_thisww_t19 V_b19 ne_uww_b19 ne_thisww_b19 g_b19) (plainFor_of_name pn3) hx hZ (kw29 hw) (by decide) (by decide)) q20a q20b q20c (g := (mkF m 8 #[.val (.ref thisww), .val (.ref b19)] [(.ref b19), (.ref thisww)])) rfl (by rw [hml]; rfl) (Steps.refl _) (argsL := [(.ref b19)]) (rest := []) (lenOf pd6 rfl) rfl (by show 2 * 0 + _ ≤ _; exact Nat.le_of_eq rfl) (hb hby d_prog_70_method_6_8) (fun _ _ => ⟨rfl, e19, (by decide : 1 + 0 ≤ _), (by decide : 1024 + 0 ≤ _)⟩)
  dsimp only [Pt.U, Pt.locs, Pt.cells, Pt.slots] at X20 l20 y20 z20 st20 hQ20
  subst l20 y20 z20
  obtain ⟨rfl, Nq20, Kq20, P20_0⟩ := hQ20
  have N20 := Fr.app N0 Nq20
  have K20 : Keep h0 T20.heap [] := K19.trans Kq20 (allS (P := fun x => x ∈ [] ∨ h0.size ≤ x) (Or.inr sz_b19) all0)
  have Z20 : n0 ≤ T20.heap.size := Nat.le_trans Z19 Kq20.1
  have F_thisww_runs_t20 := F_thisww_runs_t19.keep Kq20 (ninS ne_thisww_b19 nin0)
  have V_uww_t20 := V_uww_t19.keep Kq20 (ninS ne_uww_b19 nin0)
  have E_thisww_t20 := E_thisww_t19.keep Kq20
  have e20 : T20.heap = T20.heap := rfl
  refine Wq.steps st20 ?_
  show Wq _ _ _ _ _ (T20.setTop (mkF m 13 #[.val (.ref thisww), .val (.ref b19)] []))
  refine Ow.aloadN X20 hx (pc' := 14) (hb hby d_prog_70_method_6_13) rfl rfl ?_
  exact Wq.ret X20 (Bare.notSynchronized Bd) (rv := some (.ref b19)) (fun h => by rw [Bd.returns] at h; cases h) (fun _ hr => retOut X20 hx Bd.returns rfl (Or.inr (Or.inr (Or.inr (Or.inr ⟨rfl, rfl, rfl⟩)))) (hb hby d_prog_70_method_6_14) hr) (by decide) (by decide) (by rw [e20]; exact ⟨b19, rfl, N20, K20, sz_b19, P20_0⟩)
def own_ps (p : Int32) : Nat := p.toInt.toNat / 64
def own_clr (gw : Nat → Int64) (p : Int32) : Nat → Int64 := fun j => if j = own_ps p then (gw (own_ps p) &&& (((1 : Int64) <<< (p &&& 0x3f).toInt64) ^^^ (-1 : Int64))) else gw j
theorem own_p6 {p : Int32} (h : 0 ≤ p.toInt ∧ p.toInt ≤ 65535) : ¬ ((p.toUInt32 >>> ((6 : Int32) &&& 31).toUInt32).toInt32) < 0 ∧ ((p.toUInt32 >>> ((6 : Int32) &&& 31).toUInt32).toInt32).toNatClampNeg = own_ps p ∧ own_ps p < 1024 := by
  have u := c_iushr p 6 6 (by decide) (by decide)
  have e0 : (0 : Int32).toInt = 0 := by decide
  refine ⟨?_, ?_, ?_⟩
  · rw [Int32.lt_iff_toInt_lt]; omega
  · show ((p.toUInt32 >>> ((6 : Int32) &&& 31).toUInt32).toInt32).toInt.toNat = p.toInt.toNat / 64
    omega
  · show p.toInt.toNat / 64 < 1024
    omega
theorem kw89 {Z : State} {a0 : Array Value} (hw : ∀ d ∈ tables_1, d.before a0 Z = true) : (Jvm.Cond.constantLong "com/example/tightbit/tightbit/ComplementRunCountPinLaw" (14 : Nat) (-1 : Int64)).before a0 Z = true := hw _ (List.mem_of_getElem? (i := 89) rfl)
theorem d_method_4_0 : decode method_4_code 0 = .ok (.aload_n 0, 1) := by decide +kernel
theorem d_method_4_1 : decode method_4_code 1 = .ok (.iload_n 1, 1) := by decide +kernel
theorem d_method_4_2 : decode method_4_code 2 = .ok (.bipush 6, 2) := by decide +kernel
theorem d_method_4_4 : decode method_4_code 4 = .ok (.iushr, 1) := by decide +kernel
theorem d_method_4_5 : decode method_4_code 5 = .ok (.dup2, 1) := by decide +kernel
theorem d_method_4_6 : decode method_4_code 6 = .ok (.laload, 1) := by decide +kernel
theorem d_method_4_7 : decode method_4_code 7 = .ok (.lconst 1, 1) := by decide +kernel
theorem d_method_4_8 : decode method_4_code 8 = .ok (.iload_n 1, 1) := by decide +kernel
theorem d_method_4_9 : decode method_4_code 9 = .ok (.lshl, 1) := by decide +kernel
theorem d_method_4_10 : decode method_4_code 10 = .ok (.ldc2_w 14, 3) := by decide +kernel
theorem d_method_4_13 : decode method_4_code 13 = .ok (.lxor, 1) := by decide +kernel
theorem d_method_4_14 : decode method_4_code 14 = .ok (.land, 1) := by decide +kernel
theorem d_method_4_15 : decode method_4_code 15 = .ok (.lastore, 1) := by decide +kernel
theorem pn4 : plainName "com/example/tightbit/tightbit/ComplementRunCountPinLaw" = true := by first | (simp [plainName, overriddenIn]; done) | decide +kernel
theorem ef_cl (m : MethodId) (acl_1 : Addr) (xcl_2 : Int32) : entryFrame m #[(.ref acl_1), (.int xcl_2)] 2 = mkF m 0 #[.val (.ref acl_1), .val (.int xcl_2)] [] := by first | (simp [entryFrame, mkF, argsToLocals, Value.category]; done) | rfl
def Q_cl (Z : State) (acl_1 : Addr) (xcl_2 : Int32) (gw : Nat → Int64) (h0 : Heap) (n0 : Nat) (v : Option Value) (h : Heap) (L : List Loc) : Prop := v = none ∧ Fr n0 L ∧ Keep h0 h [acl_1] ∧ Al Z h acl_1 .long (own_wl (own_clr gw xcl_2))
theorem d_method_4_16 : decode method_4_code 16 = .ok (.return_, 1) := by decide +kernel
abbrev mt12 : MethodName := ⟨"com/example/tightbit/tightbit/ComplementRunCountPinLaw", "clear", "([JI)V"⟩
set_option maxRecDepth 65536 in
set_option maxHeartbeats 40000000 in
theorem rm_cl (l : Launch) (Z : State) (a0 : Array Value) (hw : ∀ d ∈ tables_1, d.before a0 Z = true) (ws : List Jvm.Cond) (acl_1 : Addr) (xcl_2 : Int32) (gw : Nat → Int64) (h0 : Heap) (n0 : Nat) (Z0 : n0 ≤ h0.size) (hbd : 0 ≤ xcl_2.toInt ∧ xcl_2.toInt ≤ 65535) (V_acl_1 : Al Z h0 acl_1 .long (own_wl gw)) (g_acl_1 : n0 ≤ acl_1) :
    MetFree l mt12 (head1 (Jvm.Cond.code mt12 method_4_code 2 none :: ws) ({ frames := 0, cells := 0, slots := 0, locals := 0 } : Room)) (fun a U => a = #[(.ref acl_1), (.int xcl_2)] ∧ Z.Warmed39 U.vm ∧ U.heap = h0) (fun _ _ _ _ _ => True) (fun _ U o U' => ∃ v L, o = .returned v ∧ (Q_cl Z acl_1 xcl_2 gw h0 n0) v U'.heap L ∧ FrameEnd U o U' L ({ frames := 0, cells := 0, slots := 0, locals := 0 } : Room).cells ({ frames := 0, cells := 0, slots := 0, locals := 0 } : Room).slots) := by
  refine MetFree.of_bodySF (plainFor_of_name pn4) hisR ?_
  intro p e s m args below meth c s₁ Bd hml0 hP hK
  obtain ⟨rfl, hZ, hh⟩ := hP
  have hx := Bd.exec
  have hby := Bd.bytes
  have hml : c.maxLocals = 2 := hml0
  have hown : s.vm.findClass "com/example/tightbit/tightbit/ComplementRunCountPinLaw" = some m.cls := findClass_of_methodNamed Bd.named
  have hnm := (name_of_methodNamed Bd.named Bd.method).1
  have X0 : Stand p l e ({ frames := 0, cells := 0, slots := 0, locals := 0 } : Room) s m #[(.ref acl_1), (.int xcl_2)] below meth c s₁ [] 0 0 := Stand.of_body Bd
  have e0 : s₁.heap = h0 := by rw [← hh, Bd.state]; rfl
  have N0 := Fr.nil n0
  refine Wq.step (p := p) (e := e) (below := below) (En := (fun o t L => FrameEnd s o t L ({ frames := 0, cells := 0, slots := 0, locals := 0 } : Room).cells ({ frames := 0, cells := 0, slots := 0, locals := 0 } : Room).slots)) (Q := (Q_cl Z acl_1 xcl_2 gw h0 n0)) (fun t k => castTop (ef_cl m acl_1 xcl_2) k) ?_
  show Wq _ _ _ _ _ (s₁.setTop (mkF m 0 #[.val (.ref acl_1), .val (.int xcl_2)] []))
  refine Ow.aloadN X0 hx (pc' := 1) (hb hby d_method_4_0) rfl rfl ?_
  refine Ow.iloadN X0 hx (pc' := 2) (hb hby d_method_4_1) rfl ?_
  refine Ow.bipush X0 hx (pc' := 4) (hb hby d_method_4_2) (z := (6 : Int32)) rfl ?_
  refine Ow.iushr X0 hx (pc' := 5) (hb hby d_method_4_4) (z := ((xcl_2.toUInt32 >>> ((6 : Int32) &&& 31).toUInt32).toInt32)) rfl ?_
  refine Ow.dup2 X0 hx (pc' := 6) (hb hby d_method_4_5) rfl rfl ?_
  refine Ow.ldJ X0 hx hZ e0 V_acl_1 (pc' := 7) (hb hby d_method_4_6) (j := ((xcl_2.toUInt32 >>> ((6 : Int32) &&& 31).toUInt32).toInt32)) (i := (own_ps xcl_2)) (v := (.long (gw (own_ps xcl_2)))) ((own_p6 hbd).1) ((own_p6 hbd).2.1) (own_wlg gw (own_p6 hbd).2.2) ?_
  refine Ow.lconst X0 hx (pc' := 8) (hb hby d_method_4_7) (z := (1 : Int64)) rfl ?_
  refine Ow.iloadN X0 hx (pc' := 9) (hb hby d_method_4_8) rfl ?_
  refine Ow.lshl X0 hx (pc' := 10) (hb hby d_method_4_9) (z := ((1 : Int64) <<< (xcl_2 &&& 0x3f).toInt64)) rfl ?_
  refine Ow.ldc2Long X0 hx hZ (pc' := 13) hown (kw89 hw) (hb hby d_method_4_10) ?_
  refine Ow.lxor X0 hx (pc' := 14) (hb hby d_method_4_13) (z := (((1 : Int64) <<< (xcl_2 &&& 0x3f).toInt64) ^^^ (-1 : Int64))) rfl ?_
  refine Ow.land X0 hx (pc' := 15) (hb hby d_method_4_14) (z := ((gw (own_ps xcl_2)) &&& (((1 : Int64) <<< (xcl_2 &&& 0x3f).toInt64) ^^^ (-1 : Int64)))) rfl ?_
  obtain ⟨T21, h21, X21, e21, W21, Vr21, st21⟩ := asJ X0 hx hZ e0 V_acl_1 (j := ((xcl_2.toUInt32 >>> ((6 : Int32) &&& 31).toUInt32).toInt32)) (i := (own_ps xcl_2)) ((own_p6 hbd).1) ((own_p6 hbd).2.1) (by rw [own_wll]; exact (own_p6 hbd).2.2) (g := (mkF m 15 #[.val (.ref acl_1), .val (.int xcl_2)] [(.long ((gw (own_ps xcl_2)) &&& (((1 : Int64) <<< (xcl_2 &&& 0x3f).toInt64) ^^^ (-1 : Int64)))), (.int ((xcl_2.toUInt32 >>> ((6 : Int32) &&& 31).toUInt32).toInt32)), (.ref acl_1)])) rfl rfl (hb hby d_method_4_15)
  refine Wq.step st21 ?_
  have N21 := Fr.snoc X21 N0 g_acl_1
  have K21 : Keep h0 h21 [acl_1] := (Keep.refl h0 [acl_1]).wr W21 (Or.inl (List.mem_of_getElem? (i := 0) rfl))
  have Z21 : n0 ≤ h21.size := Nat.le_trans Z0 (Keep.of_wr W21).1
  have V_acl_1_t21 : Al Z h21 acl_1 .long ((own_wl gw).set (own_ps xcl_2) (.long ((gw (own_ps xcl_2)) &&& (((1 : Int64) <<< (xcl_2 &&& 0x3f).toInt64) ^^^ (-1 : Int64))))) := Vr21
  show Wq _ _ _ _ _ (T21.setTop (mkF m 16 #[.val (.ref acl_1), .val (.int xcl_2)] []))
  exact Wq.ret X21 (BodyLoose.notSynchronized Bd) (rv := none) (fun _ => rfl) (fun _ hr => X21.returnOut hx Bd.returns (hb hby d_method_4_16) hr) (by decide) (by decide) (by rw [e21]; exact ⟨rfl, N21, K21, (by rw [show own_wl (own_clr gw xcl_2) = _ from own_wls.symm]; exact V_acl_1_t21)⟩)
theorem d_method_2_0 : decode method_2_code 0 = .ok (.iload_n 1, 1) := by decide +kernel
theorem d_method_2_1 : decode method_2_code 1 = .ok (.iconst 1, 1) := by decide +kernel
theorem d_method_2_2 : decode method_2_code 2 = .ok (.if_icmp .lt 8, 3) := by decide +kernel
theorem d_method_2_5 : decode method_2_code 5 = .ok (.iload_n 0, 1) := by decide +kernel
theorem d_method_2_6 : decode method_2_code 6 = .ok (.iload_n 2, 1) := by decide +kernel
theorem d_method_2_7 : decode method_2_code 7 = .ok (.if_icmp .eq 24, 3) := by decide +kernel
theorem d_method_2_10 : decode method_2_code 10 = .ok (.iload_n 1, 1) := by decide +kernel
theorem d_method_2_11 : decode method_2_code 11 = .ok (.iconst 2, 1) := by decide +kernel
theorem d_method_2_12 : decode method_2_code 12 = .ok (.if_icmp .lt 8, 3) := by decide +kernel
theorem d_method_2_15 : decode method_2_code 15 = .ok (.iload_n 0, 1) := by decide +kernel
theorem d_method_2_16 : decode method_2_code 16 = .ok (.iload_n 3, 1) := by decide +kernel
theorem d_method_2_17 : decode method_2_code 17 = .ok (.if_icmp .eq 14, 3) := by decide +kernel
theorem d_method_2_20 : decode method_2_code 20 = .ok (.iload_n 1, 1) := by decide +kernel
theorem d_method_2_21 : decode method_2_code 21 = .ok (.iconst 3, 1) := by decide +kernel
theorem d_method_2_22 : decode method_2_code 22 = .ok (.if_icmp .lt 13, 3) := by decide +kernel
theorem d_method_2_25 : decode method_2_code 25 = .ok (.iload_n 0, 1) := by decide +kernel
theorem d_method_2_26 : decode method_2_code 26 = .ok (.iload 4, 2) := by decide +kernel
theorem d_method_2_28 : decode method_2_code 28 = .ok (.if_icmp .ne 7, 3) := by decide +kernel
theorem d_method_2_31 : decode method_2_code 31 = .ok (.iconst 1, 1) := by decide +kernel
theorem d_method_2_32 : decode method_2_code 32 = .ok (.goto 4, 3) := by decide +kernel
theorem d_method_2_35 : decode method_2_code 35 = .ok (.iconst 0, 1) := by decide +kernel
theorem ef_in (m : MethodId) (xin_1 : Int32) (xin_2 : Int32) (xin_3 : Int32) (xin_4 : Int32) (xin_5 : Int32) : entryFrame m #[(.int xin_1), (.int xin_2), (.int xin_3), (.int xin_4), (.int xin_5)] 5 = mkF m 0 #[.val (.int xin_1), .val (.int xin_2), .val (.int xin_3), .val (.int xin_4), .val (.int xin_5)] [] := by first | (simp [entryFrame, mkF, argsToLocals, Value.category]; done) | rfl
def f_in (xin_1 : Int32) (xin_2 : Int32) (xin_3 : Int32) (xin_4 : Int32) (xin_5 : Int32) : Int32 := ((if xin_2 < (1 : Int32) then (if xin_2 < (2 : Int32) then (if xin_2 < (3 : Int32) then (0 : Int32) else (if xin_1 = xin_5 then (1 : Int32) else (0 : Int32))) else (if xin_1 = xin_4 then (1 : Int32) else (if xin_2 < (3 : Int32) then (0 : Int32) else (if xin_1 = xin_5 then (1 : Int32) else (0 : Int32))))) else (if xin_1 = xin_3 then (1 : Int32) else (if xin_2 < (2 : Int32) then (if xin_2 < (3 : Int32) then (0 : Int32) else (if xin_1 = xin_5 then (1 : Int32) else (0 : Int32))) else (if xin_1 = xin_4 then (1 : Int32) else (if xin_2 < (3 : Int32) then (0 : Int32) else (if xin_1 = xin_5 then (1 : Int32) else (0 : Int32))))))) &&& 1)
def Q_in (Z : State) (xin_1 : Int32) (xin_2 : Int32) (xin_3 : Int32) (xin_4 : Int32) (xin_5 : Int32) (h0 : Heap) (n0 : Nat) (v : Option Value) (h : Heap) (L : List Loc) : Prop := v = some (.int (f_in xin_1 xin_2 xin_3 xin_4 xin_5)) ∧ Fr n0 L ∧ h = h0
theorem d_method_2_36 : decode method_2_code 36 = .ok (.ireturn, 1) := by decide +kernel
abbrev mt13 : MethodName := ⟨"com/example/tightbit/tightbit/ComplementRunCountPinLaw", "in", "(IIIII)Z"⟩
set_option maxRecDepth 65536 in
set_option maxHeartbeats 40000000 in
theorem rm_in (l : Launch) (Z : State) (a0 : Array Value) (hw : ∀ d ∈ tables_1, d.before a0 Z = true) (ws : List Jvm.Cond) (xin_1 : Int32) (xin_2 : Int32) (xin_3 : Int32) (xin_4 : Int32) (xin_5 : Int32) (h0 : Heap) (n0 : Nat) (Z0 : n0 ≤ h0.size)  :
    MetFree l mt13 (head1 (Jvm.Cond.code mt13 method_2_code 5 (some .boolean) :: ws) ({ frames := 0, cells := 0, slots := 0, locals := 0 } : Room)) (fun a U => a = #[(.int xin_1), (.int xin_2), (.int xin_3), (.int xin_4), (.int xin_5)] ∧ Z.Warmed39 U.vm ∧ U.heap = h0) (fun _ _ _ _ _ => True) (fun _ U o U' => ∃ v L, o = .returned v ∧ (Q_in Z xin_1 xin_2 xin_3 xin_4 xin_5 h0 n0) v U'.heap L ∧ FrameEnd U o U' L ({ frames := 0, cells := 0, slots := 0, locals := 0 } : Room).cells ({ frames := 0, cells := 0, slots := 0, locals := 0 } : Room).slots) := by
  refine MetFree.of_bodySF (plainFor_of_name pn4) hisR ?_
  intro p e s m args below meth c s₁ Bd hml0 hP hK
  obtain ⟨rfl, hZ, hh⟩ := hP
  have hx := Bd.exec
  have hby := Bd.bytes
  have hml : c.maxLocals = 5 := hml0
  have hown : s.vm.findClass "com/example/tightbit/tightbit/ComplementRunCountPinLaw" = some m.cls := findClass_of_methodNamed Bd.named
  have hnm := (name_of_methodNamed Bd.named Bd.method).1
  have X0 : Stand p l e ({ frames := 0, cells := 0, slots := 0, locals := 0 } : Room) s m #[(.int xin_1), (.int xin_2), (.int xin_3), (.int xin_4), (.int xin_5)] below meth c s₁ [] 0 0 := Stand.of_body Bd
  have e0 : s₁.heap = h0 := by rw [← hh, Bd.state]; rfl
  have N0 := Fr.nil n0
  refine Wq.step (p := p) (e := e) (below := below) (En := (fun o t L => FrameEnd s o t L ({ frames := 0, cells := 0, slots := 0, locals := 0 } : Room).cells ({ frames := 0, cells := 0, slots := 0, locals := 0 } : Room).slots)) (Q := (Q_in Z xin_1 xin_2 xin_3 xin_4 xin_5 h0 n0)) (fun t k => castTop (ef_in m xin_1 xin_2 xin_3 xin_4 xin_5) k) ?_
  show Wq _ _ _ _ _ (s₁.setTop (mkF m 0 #[.val (.int xin_1), .val (.int xin_2), .val (.int xin_3), .val (.int xin_4), .val (.int xin_5)] []))
  refine Ow.iloadN X0 hx (pc' := 1) (hb hby d_method_2_0) rfl ?_
  refine Ow.iconst X0 hx (pc' := 2) (hb hby d_method_2_1) (z := (1 : Int32)) rfl ?_
  refine Wq.by (U' := s₁.setTop (mkF m 36 #[.val (.int xin_1), .val (.int xin_2), .val (.int xin_3), .val (.int xin_4), .val (.int xin_5)] [(.int (if xin_2 < (1 : Int32) then (if xin_2 < (2 : Int32) then (if xin_2 < (3 : Int32) then (0 : Int32) else (if xin_1 = xin_5 then (1 : Int32) else (0 : Int32))) else (if xin_1 = xin_4 then (1 : Int32) else (if xin_2 < (3 : Int32) then (0 : Int32) else (if xin_1 = xin_5 then (1 : Int32) else (0 : Int32))))) else (if xin_1 = xin_3 then (1 : Int32) else (if xin_2 < (2 : Int32) then (if xin_2 < (3 : Int32) then (0 : Int32) else (if xin_1 = xin_5 then (1 : Int32) else (0 : Int32))) else (if xin_1 = xin_4 then (1 : Int32) else (if xin_2 < (3 : Int32) then (0 : Int32) else (if xin_1 = xin_5 then (1 : Int32) else (0 : Int32))))))))])) (fun k => ?_) ?_
  · skip
    by_cases hm2 : xin_2 < (1 : Int32)
    · skip
      refine Ow.icmpYes X0 hx (pc' := 10) (hb hby d_method_2_2) (tlt hm2).1 (by decide) (by decide) ?_
      refine Ow.iloadN X0 hx (pc' := 11) (hb hby d_method_2_10) rfl ?_
      refine Ow.iconst X0 hx (pc' := 12) (hb hby d_method_2_11) (z := (2 : Int32)) rfl ?_
      by_cases hm12 : xin_2 < (2 : Int32)
      · skip
        refine Ow.icmpYes X0 hx (pc' := 20) (hb hby d_method_2_12) (tlt hm12).1 (by decide) (by decide) ?_
        refine Ow.iloadN X0 hx (pc' := 21) (hb hby d_method_2_20) rfl ?_
        refine Ow.iconst X0 hx (pc' := 22) (hb hby d_method_2_21) (z := (3 : Int32)) rfl ?_
        by_cases hm22 : xin_2 < (3 : Int32)
        · skip
          refine Ow.icmpYes X0 hx (pc' := 35) (hb hby d_method_2_22) (tlt hm22).1 (by decide) (by decide) ?_
          refine Ow.iconst X0 hx (pc' := 36) (hb hby d_method_2_35) (z := (0 : Int32)) rfl ?_
          simp only [if_pos hm2, if_pos hm12, if_pos hm22] at k
          exact k
        · skip
          refine Ow.icmpNo X0 hx (pc' := 25) (hb hby d_method_2_22) (flt hm22).1 ?_
          refine Ow.iloadN X0 hx (pc' := 26) (hb hby d_method_2_25) rfl ?_
          refine Ow.iload X0 hx (pc' := 28) (hb hby d_method_2_26) rfl ?_
          by_cases hm28 : xin_1 = xin_5
          · skip
            refine Ow.icmpNo X0 hx (pc' := 31) (hb hby d_method_2_28) (teq hm28).2 ?_
            refine Ow.iconst X0 hx (pc' := 32) (hb hby d_method_2_31) (z := (1 : Int32)) rfl ?_
            refine Ow.goto X0 hx (pc' := 36) (hb hby d_method_2_32) (by decide) (by decide) ?_
            simp only [if_pos hm2, if_pos hm12, if_neg hm22, if_pos hm28] at k
            exact k
          · skip
            refine Ow.icmpYes X0 hx (pc' := 35) (hb hby d_method_2_28) (feq hm28).2 (by decide) (by decide) ?_
            refine Ow.iconst X0 hx (pc' := 36) (hb hby d_method_2_35) (z := (0 : Int32)) rfl ?_
            simp only [if_pos hm2, if_pos hm12, if_neg hm22, if_neg hm28] at k
            exact k
      · skip
        refine Ow.icmpNo X0 hx (pc' := 15) (hb hby d_method_2_12) (flt hm12).1 ?_
        refine Ow.iloadN X0 hx (pc' := 16) (hb hby d_method_2_15) rfl ?_
        refine Ow.iloadN X0 hx (pc' := 17) (hb hby d_method_2_16) rfl ?_
        by_cases hm17 : xin_1 = xin_4
        · skip
          refine Ow.icmpYes X0 hx (pc' := 31) (hb hby d_method_2_17) (teq hm17).1 (by decide) (by decide) ?_
          refine Ow.iconst X0 hx (pc' := 32) (hb hby d_method_2_31) (z := (1 : Int32)) rfl ?_
          refine Ow.goto X0 hx (pc' := 36) (hb hby d_method_2_32) (by decide) (by decide) ?_
          simp only [if_pos hm2, if_neg hm12, if_pos hm17] at k
          exact k
        · skip
          refine Ow.icmpNo X0 hx (pc' := 20) (hb hby d_method_2_17) (feq hm17).1 ?_
          refine Ow.iloadN X0 hx (pc' := 21) (hb hby d_method_2_20) rfl ?_
          refine Ow.iconst X0 hx (pc' := 22) (hb hby d_method_2_21) (z := (3 : Int32)) rfl ?_
          by_cases hm22 : xin_2 < (3 : Int32)
          · skip
            refine Ow.icmpYes X0 hx (pc' := 35) (hb hby d_method_2_22) (tlt hm22).1 (by decide) (by decide) ?_
            refine Ow.iconst X0 hx (pc' := 36) (hb hby d_method_2_35) (z := (0 : Int32)) rfl ?_
            simp only [if_pos hm2, if_neg hm12, if_neg hm17, if_pos hm22] at k
            exact k
          · skip
            refine Ow.icmpNo X0 hx (pc' := 25) (hb hby d_method_2_22) (flt hm22).1 ?_
            refine Ow.iloadN X0 hx (pc' := 26) (hb hby d_method_2_25) rfl ?_
            refine Ow.iload X0 hx (pc' := 28) (hb hby d_method_2_26) rfl ?_
            by_cases hm28 : xin_1 = xin_5
            · skip
              refine Ow.icmpNo X0 hx (pc' := 31) (hb hby d_method_2_28) (teq hm28).2 ?_
              refine Ow.iconst X0 hx (pc' := 32) (hb hby d_method_2_31) (z := (1 : Int32)) rfl ?_
              refine Ow.goto X0 hx (pc' := 36) (hb hby d_method_2_32) (by decide) (by decide) ?_
              simp only [if_pos hm2, if_neg hm12, if_neg hm17, if_neg hm22, if_pos hm28] at k
              exact k
            · skip
              refine Ow.icmpYes X0 hx (pc' := 35) (hb hby d_method_2_28) (feq hm28).2 (by decide) (by decide) ?_
              refine Ow.iconst X0 hx (pc' := 36) (hb hby d_method_2_35) (z := (0 : Int32)) rfl ?_
              simp only [if_pos hm2, if_neg hm12, if_neg hm17, if_neg hm22, if_neg hm28] at k
              exact k
    · skip
      refine Ow.icmpNo X0 hx (pc' := 5) (hb hby d_method_2_2) (flt hm2).1 ?_
      refine Ow.iloadN X0 hx (pc' := 6) (hb hby d_method_2_5) rfl ?_
      refine Ow.iloadN X0 hx (pc' := 7) (hb hby d_method_2_6) rfl ?_
      by_cases hm7 : xin_1 = xin_3
      · skip
        refine Ow.icmpYes X0 hx (pc' := 31) (hb hby d_method_2_7) (teq hm7).1 (by decide) (by decide) ?_
        refine Ow.iconst X0 hx (pc' := 32) (hb hby d_method_2_31) (z := (1 : Int32)) rfl ?_
        refine Ow.goto X0 hx (pc' := 36) (hb hby d_method_2_32) (by decide) (by decide) ?_
        simp only [if_neg hm2, if_pos hm7] at k
        exact k
      · skip
        refine Ow.icmpNo X0 hx (pc' := 10) (hb hby d_method_2_7) (feq hm7).1 ?_
        refine Ow.iloadN X0 hx (pc' := 11) (hb hby d_method_2_10) rfl ?_
        refine Ow.iconst X0 hx (pc' := 12) (hb hby d_method_2_11) (z := (2 : Int32)) rfl ?_
        by_cases hm12 : xin_2 < (2 : Int32)
        · skip
          refine Ow.icmpYes X0 hx (pc' := 20) (hb hby d_method_2_12) (tlt hm12).1 (by decide) (by decide) ?_
          refine Ow.iloadN X0 hx (pc' := 21) (hb hby d_method_2_20) rfl ?_
          refine Ow.iconst X0 hx (pc' := 22) (hb hby d_method_2_21) (z := (3 : Int32)) rfl ?_
          by_cases hm22 : xin_2 < (3 : Int32)
          · skip
            refine Ow.icmpYes X0 hx (pc' := 35) (hb hby d_method_2_22) (tlt hm22).1 (by decide) (by decide) ?_
            refine Ow.iconst X0 hx (pc' := 36) (hb hby d_method_2_35) (z := (0 : Int32)) rfl ?_
            simp only [if_neg hm2, if_neg hm7, if_pos hm12, if_pos hm22] at k
            exact k
          · skip
            refine Ow.icmpNo X0 hx (pc' := 25) (hb hby d_method_2_22) (flt hm22).1 ?_
            refine Ow.iloadN X0 hx (pc' := 26) (hb hby d_method_2_25) rfl ?_
            refine Ow.iload X0 hx (pc' := 28) (hb hby d_method_2_26) rfl ?_
            by_cases hm28 : xin_1 = xin_5
            · skip
              refine Ow.icmpNo X0 hx (pc' := 31) (hb hby d_method_2_28) (teq hm28).2 ?_
              refine Ow.iconst X0 hx (pc' := 32) (hb hby d_method_2_31) (z := (1 : Int32)) rfl ?_
              refine Ow.goto X0 hx (pc' := 36) (hb hby d_method_2_32) (by decide) (by decide) ?_
              simp only [if_neg hm2, if_neg hm7, if_pos hm12, if_neg hm22, if_pos hm28] at k
              exact k
            · skip
              refine Ow.icmpYes X0 hx (pc' := 35) (hb hby d_method_2_28) (feq hm28).2 (by decide) (by decide) ?_
              refine Ow.iconst X0 hx (pc' := 36) (hb hby d_method_2_35) (z := (0 : Int32)) rfl ?_
              simp only [if_neg hm2, if_neg hm7, if_pos hm12, if_neg hm22, if_neg hm28] at k
              exact k
        · skip
          refine Ow.icmpNo X0 hx (pc' := 15) (hb hby d_method_2_12) (flt hm12).1 ?_
          refine Ow.iloadN X0 hx (pc' := 16) (hb hby d_method_2_15) rfl ?_
          refine Ow.iloadN X0 hx (pc' := 17) (hb hby d_method_2_16) rfl ?_
          by_cases hm17 : xin_1 = xin_4
          · skip
            refine Ow.icmpYes X0 hx (pc' := 31) (hb hby d_method_2_17) (teq hm17).1 (by decide) (by decide) ?_
            refine Ow.iconst X0 hx (pc' := 32) (hb hby d_method_2_31) (z := (1 : Int32)) rfl ?_
            refine Ow.goto X0 hx (pc' := 36) (hb hby d_method_2_32) (by decide) (by decide) ?_
            simp only [if_neg hm2, if_neg hm7, if_neg hm12, if_pos hm17] at k
            exact k
          · skip
            refine Ow.icmpNo X0 hx (pc' := 20) (hb hby d_method_2_17) (feq hm17).1 ?_
            refine Ow.iloadN X0 hx (pc' := 21) (hb hby d_method_2_20) rfl ?_
            refine Ow.iconst X0 hx (pc' := 22) (hb hby d_method_2_21) (z := (3 : Int32)) rfl ?_
            by_cases hm22 : xin_2 < (3 : Int32)
            · skip
              refine Ow.icmpYes X0 hx (pc' := 35) (hb hby d_method_2_22) (tlt hm22).1 (by decide) (by decide) ?_
              refine Ow.iconst X0 hx (pc' := 36) (hb hby d_method_2_35) (z := (0 : Int32)) rfl ?_
              simp only [if_neg hm2, if_neg hm7, if_neg hm12, if_neg hm17, if_pos hm22] at k
              exact k
            · skip
              refine Ow.icmpNo X0 hx (pc' := 25) (hb hby d_method_2_22) (flt hm22).1 ?_
              refine Ow.iloadN X0 hx (pc' := 26) (hb hby d_method_2_25) rfl ?_
              refine Ow.iload X0 hx (pc' := 28) (hb hby d_method_2_26) rfl ?_
              by_cases hm28 : xin_1 = xin_5
              · skip
                refine Ow.icmpNo X0 hx (pc' := 31) (hb hby d_method_2_28) (teq hm28).2 ?_
                refine Ow.iconst X0 hx (pc' := 32) (hb hby d_method_2_31) (z := (1 : Int32)) rfl ?_
                refine Ow.goto X0 hx (pc' := 36) (hb hby d_method_2_32) (by decide) (by decide) ?_
                simp only [if_neg hm2, if_neg hm7, if_neg hm12, if_neg hm17, if_neg hm22, if_pos hm28] at k
                exact k
              · skip
                refine Ow.icmpYes X0 hx (pc' := 35) (hb hby d_method_2_28) (feq hm28).2 (by decide) (by decide) ?_
                refine Ow.iconst X0 hx (pc' := 36) (hb hby d_method_2_35) (z := (0 : Int32)) rfl ?_
                simp only [if_neg hm2, if_neg hm7, if_neg hm12, if_neg hm17, if_neg hm22, if_neg hm28] at k
                exact k
  exact Wq.ret X0 (BodyLoose.notSynchronized Bd) (rv := some (.int ((if xin_2 < (1 : Int32) then (if xin_2 < (2 : Int32) then (if xin_2 < (3 : Int32) then (0 : Int32) else (if xin_1 = xin_5 then (1 : Int32) else (0 : Int32))) else (if xin_1 = xin_4 then (1 : Int32) else (if xin_2 < (3 : Int32) then (0 : Int32) else (if xin_1 = xin_5 then (1 : Int32) else (0 : Int32))))) else (if xin_1 = xin_3 then (1 : Int32) else (if xin_2 < (2 : Int32) then (if xin_2 < (3 : Int32) then (0 : Int32) else (if xin_1 = xin_5 then (1 : Int32) else (0 : Int32))) else (if xin_1 = xin_4 then (1 : Int32) else (if xin_2 < (3 : Int32) then (0 : Int32) else (if xin_1 = xin_5 then (1 : Int32) else (0 : Int32))))))) &&& 1))) (fun h => by rw [Bd.returns] at h; cases h) (fun _ hr => retN X0 hx (t := .boolean) Bd.returns (by simp) (hb hby d_method_2_36) hr) (by decide) (by decide) ⟨rfl, N0, e0⟩
theorem kw0 {Z : State} {a0 : Array Value} (hw : ∀ d ∈ tables_1, d.before a0 Z = true) : (Jvm.Cond.constant "com/example/tightbit/tightbit/ComplementRunCountPinLaw" (7 : Nat) (65535 : Int32)).before a0 Z = true := hw _ (List.mem_of_getElem? (i := 0) rfl)
theorem kw80 {Z : State} {a0 : Array Value} (hw : ∀ d ∈ tables_1, d.before a0 Z = true) : (Jvm.Cond.code ({ cls := "com/example/tightbit/tightbit/ComplementRunCountPinLaw", name := "in", desc := "(IIIII)Z" } : Jvm.MethodName) method_2_code (5 : Nat) (Option.some Jvm.ClassFile.FieldType.boolean)).before a0 Z = true := hw _ (List.mem_of_getElem? (i := 80) rfl)
theorem kw79 {Z : State} {a0 : Array Value} (hw : ∀ d ∈ tables_1, d.before a0 Z = true) : (Jvm.Cond.initialized "com/example/tightbit/tightbit/ComplementRunCountPinLaw").before a0 Z = true := hw _ (List.mem_of_getElem? (i := 79) rfl)
theorem pd7 : parseMethodDescriptor "(IIIII)Z" = some ⟨[.int, .int, .int, .int, .int], some .boolean⟩ := by decide +kernel
theorem kw77 {Z : State} {a0 : Array Value} (hw : ∀ d ∈ tables_1, d.before a0 Z = true) : (Jvm.Cond.methodLink "com/example/tightbit/tightbit/ComplementRunCountPinLaw" (8 : Nat) ({ cls := "com/example/tightbit/tightbit/ComplementRunCountPinLaw", name := "in", desc := "(IIIII)Z" } : Jvm.MethodName)).before a0 Z = true := hw _ (List.mem_of_getElem? (i := 77) rfl)
theorem kw78 {Z : State} {a0 : Array Value} (hw : ∀ d ∈ tables_1, d.before a0 Z = true) : (Jvm.Cond.static ({ cls := "com/example/tightbit/tightbit/ComplementRunCountPinLaw", name := "in", desc := "(IIIII)Z" } : Jvm.MethodName)).before a0 Z = true := hw _ (List.mem_of_getElem? (i := 78) rfl)
theorem d_method_3_0 : decode method_3_code 0 = .ok (.iload_n 0, 1) := by decide +kernel
theorem d_method_3_1 : decode method_3_code 1 = .ok (.ldc 7, 2) := by decide +kernel
theorem d_method_3_3 : decode method_3_code 3 = .ok (.if_icmp .ge 21, 3) := by decide +kernel
theorem d_method_3_6 : decode method_3_code 6 = .ok (.iload_n 0, 1) := by decide +kernel
theorem d_method_3_7 : decode method_3_code 7 = .ok (.iconst 1, 1) := by decide +kernel
theorem d_method_3_8 : decode method_3_code 8 = .ok (.iadd, 1) := by decide +kernel
theorem d_method_3_9 : decode method_3_code 9 = .ok (.iload_n 1, 1) := by decide +kernel
theorem d_method_3_10 : decode method_3_code 10 = .ok (.iload_n 2, 1) := by decide +kernel
theorem d_method_3_11 : decode method_3_code 11 = .ok (.iload_n 3, 1) := by decide +kernel
theorem d_method_3_12 : decode method_3_code 12 = .ok (.iload 4, 2) := by decide +kernel
theorem d_method_3_14 : decode method_3_code 14 = .ok (.invokestatic 8, 3) := by decide +kernel
theorem d_method_3_17 : decode method_3_code 17 = .ok (.ifCond .ne 7, 3) := by decide +kernel
theorem d_method_3_20 : decode method_3_code 20 = .ok (.iconst 1, 1) := by decide +kernel
theorem d_method_3_21 : decode method_3_code 21 = .ok (.goto 4, 3) := by decide +kernel
theorem d_method_3_24 : decode method_3_code 24 = .ok (.iconst 0, 1) := by decide +kernel
theorem ef_sa (m : MethodId) (xsa_1 : Int32) (xsa_2 : Int32) (xsa_3 : Int32) (xsa_4 : Int32) (xsa_5 : Int32) : entryFrame m #[(.int xsa_1), (.int xsa_2), (.int xsa_3), (.int xsa_4), (.int xsa_5)] 5 = mkF m 0 #[.val (.int xsa_1), .val (.int xsa_2), .val (.int xsa_3), .val (.int xsa_4), .val (.int xsa_5)] [] := by first | (simp [entryFrame, mkF, argsToLocals, Value.category]; done) | rfl
def f_sa (xsa_1 : Int32) (xsa_2 : Int32) (xsa_3 : Int32) (xsa_4 : Int32) (xsa_5 : Int32) : Int32 := (if xsa_1 < (65535 : Int32) then (if (f_in (xsa_1 + (1 : Int32)) xsa_2 xsa_3 xsa_4 xsa_5) = (0 : Int32) then (1 : Int32) else (0 : Int32)) else (0 : Int32))
def Q_sa (Z : State) (xsa_1 : Int32) (xsa_2 : Int32) (xsa_3 : Int32) (xsa_4 : Int32) (xsa_5 : Int32) (h0 : Heap) (n0 : Nat) (v : Option Value) (h : Heap) (L : List Loc) : Prop := v = some (.int (f_sa xsa_1 xsa_2 xsa_3 xsa_4 xsa_5)) ∧ Fr n0 L ∧ h = h0
theorem d_method_3_25 : decode method_3_code 25 = .ok (.ireturn, 1) := by decide +kernel
abbrev mt14 : MethodName := ⟨"com/example/tightbit/tightbit/ComplementRunCountPinLaw", "startsAfter", "(IIIII)I"⟩
set_option maxRecDepth 65536 in
set_option maxHeartbeats 40000000 in
theorem rm_sa (l : Launch) (Z : State) (a0 : Array Value) (hw : ∀ d ∈ tables_1, d.before a0 Z = true) (ws : List Jvm.Cond) (xsa_1 : Int32) (xsa_2 : Int32) (xsa_3 : Int32) (xsa_4 : Int32) (xsa_5 : Int32) (h0 : Heap) (n0 : Nat) (Z0 : n0 ≤ h0.size)  :
    MetFree l mt14 (head1 (Jvm.Cond.code mt14 method_3_code 5 (some .int) :: ws) ({ frames := 1, cells := 0, slots := 0, locals := 16 } : Room)) (fun a U => a = #[(.int xsa_1), (.int xsa_2), (.int xsa_3), (.int xsa_4), (.int xsa_5)] ∧ Z.Warmed39 U.vm ∧ U.heap = h0) (fun _ _ _ _ _ => True) (fun _ U o U' => ∃ v L, o = .returned v ∧ (Q_sa Z xsa_1 xsa_2 xsa_3 xsa_4 xsa_5 h0 n0) v U'.heap L ∧ FrameEnd U o U' L ({ frames := 1, cells := 0, slots := 0, locals := 16 } : Room).cells ({ frames := 1, cells := 0, slots := 0, locals := 16 } : Room).slots) := by
  refine MetFree.of_bodySF (plainFor_of_name pn4) hisR ?_
  intro p e s m args below meth c s₁ Bd hml0 hP hK
  obtain ⟨rfl, hZ, hh⟩ := hP
  have hx := Bd.exec
  have hby := Bd.bytes
  have hml : c.maxLocals = 5 := hml0
  have hown : s.vm.findClass "com/example/tightbit/tightbit/ComplementRunCountPinLaw" = some m.cls := findClass_of_methodNamed Bd.named
  have hnm := (name_of_methodNamed Bd.named Bd.method).1
  have X0 : Stand p l e ({ frames := 1, cells := 0, slots := 0, locals := 16 } : Room) s m #[(.int xsa_1), (.int xsa_2), (.int xsa_3), (.int xsa_4), (.int xsa_5)] below meth c s₁ [] 0 0 := Stand.of_body Bd
  have e0 : s₁.heap = h0 := by rw [← hh, Bd.state]; rfl
  have N0 := Fr.nil n0
  refine Wq.step (p := p) (e := e) (below := below) (En := (fun o t L => FrameEnd s o t L ({ frames := 1, cells := 0, slots := 0, locals := 16 } : Room).cells ({ frames := 1, cells := 0, slots := 0, locals := 16 } : Room).slots)) (Q := (Q_sa Z xsa_1 xsa_2 xsa_3 xsa_4 xsa_5 h0 n0)) (fun t k => castTop (ef_sa m xsa_1 xsa_2 xsa_3 xsa_4 xsa_5) k) ?_
  show Wq _ _ _ _ _ (s₁.setTop (mkF m 0 #[.val (.int xsa_1), .val (.int xsa_2), .val (.int xsa_3), .val (.int xsa_4), .val (.int xsa_5)] []))
  refine Ow.iloadN X0 hx (pc' := 1) (hb hby d_method_3_0) rfl ?_
  refine Ow.ldcInt X0 hx hZ (pc' := 3) hown (kw0 hw) (hb hby d_method_3_1) ?_
  by_cases hc3 : xsa_1 < (65535 : Int32)
  · skip
    refine Ow.icmpNo X0 hx (pc' := 6) (hb hby d_method_3_3) (tlt hc3).2.1 ?_
    refine Ow.iloadN X0 hx (pc' := 7) (hb hby d_method_3_6) rfl ?_
    refine Ow.iconst X0 hx (pc' := 8) (hb hby d_method_3_7) (z := (1 : Int32)) rfl ?_
    refine Ow.iadd X0 hx (pc' := 9) (hb hby d_method_3_8) (z := (xsa_1 + (1 : Int32))) rfl ?_
    refine Ow.iloadN X0 hx (pc' := 10) (hb hby d_method_3_9) rfl ?_
    refine Ow.iloadN X0 hx (pc' := 11) (hb hby d_method_3_10) rfl ?_
    refine Ow.iloadN X0 hx (pc' := 12) (hb hby d_method_3_11) rfl ?_
    refine Ow.iload X0 hx (pc' := 14) (hb hby d_method_3_12) rfl ?_
    obtain ⟨_, _, ⟨T22, L22, k22, n22⟩, -, X22, ⟨Lc22, hQ22, l22, y22, z22⟩, st22⟩ := Jvm.LawKit.callS X0 hx (y := mt13) hown (mvT hZ (kw77 hw)) (mvT hZ (kw78 hw)) (mvT hZ (kw79 hw)) (mvT hZ (kw80 hw)) (by decide) (backOf (W := 0) (rm_in l Z a0 hw [] (xsa_1 + (1 : Int32)) xsa_2 xsa_3 xsa_4 xsa_5 h0 n0 Z0 ) hZ (kw80 hw) (kw79 hw) (by decide) (by decide)) (g := (mkF m 14 #[.val (.int xsa_1), .val (.int xsa_2), .val (.int xsa_3), .val (.int xsa_4), .val (.int xsa_5)] [(.int xsa_5), (.int xsa_4), (.int xsa_3), (.int xsa_2), (.int (xsa_1 + (1 : Int32)))])) rfl (by rw [hml]; rfl) (argsL := [(.int (xsa_1 + (1 : Int32))), (.int xsa_2), (.int xsa_3), (.int xsa_4), (.int xsa_5)]) (rest := []) (lenOf pd7 rfl) rfl (by show 2 * 0 + _ ≤ _; exact Nat.le_of_eq rfl) (hb hby d_method_3_14) (fun _ _ => ⟨rfl, e0, (by decide : 0 + 0 ≤ _), (by decide : 0 + 0 ≤ _)⟩)
    dsimp only [Pt.U, Pt.locs, Pt.cells, Pt.slots] at X22 l22 y22 z22 st22 hQ22
    subst l22 y22 z22
    obtain ⟨rfl, Nq22, e22⟩ := hQ22
    have N22 := Fr.app N0 Nq22
    refine Wq.step st22 ?_
    show Wq _ _ _ _ _ (T22.setTop (mkF m 17 #[.val (.int xsa_1), .val (.int xsa_2), .val (.int xsa_3), .val (.int xsa_4), .val (.int xsa_5)] [(.int (f_in (xsa_1 + (1 : Int32)) xsa_2 xsa_3 xsa_4 xsa_5))]))
    refine Wq.by (U' := T22.setTop (mkF m 25 #[.val (.int xsa_1), .val (.int xsa_2), .val (.int xsa_3), .val (.int xsa_4), .val (.int xsa_5)] [(.int (if (f_in (xsa_1 + (1 : Int32)) xsa_2 xsa_3 xsa_4 xsa_5) = (0 : Int32) then (1 : Int32) else (0 : Int32)))])) (fun k => ?_) ?_
    · skip
      by_cases hm17 : (f_in (xsa_1 + (1 : Int32)) xsa_2 xsa_3 xsa_4 xsa_5) = (0 : Int32)
      · skip
        refine Ow.ifNo X22 hx (pc' := 20) (hb hby d_method_3_17) ((if0 _ _).trans (teq hm17).2) ?_
        refine Ow.iconst X22 hx (pc' := 21) (hb hby d_method_3_20) (z := (1 : Int32)) rfl ?_
        refine Ow.goto X22 hx (pc' := 25) (hb hby d_method_3_21) (by decide) (by decide) ?_
        simp only [if_pos hm17] at k
        exact k
      · skip
        refine Ow.ifYes X22 hx (pc' := 24) (hb hby d_method_3_17) ((if0 _ _).trans (feq hm17).2) (by decide) (by decide) ?_
        refine Ow.iconst X22 hx (pc' := 25) (hb hby d_method_3_24) (z := (0 : Int32)) rfl ?_
        simp only [if_neg hm17] at k
        exact k
    exact Wq.ret X22 (BodyLoose.notSynchronized Bd) (rv := some (.int (if (f_in (xsa_1 + (1 : Int32)) xsa_2 xsa_3 xsa_4 xsa_5) = (0 : Int32) then (1 : Int32) else (0 : Int32)))) (fun h => by rw [Bd.returns] at h; cases h) (fun _ hr => retOut X22 hx Bd.returns rfl (Or.inl ⟨rfl, Or.inl rfl, _, rfl⟩) (hb hby d_method_3_25) hr) (by decide) (by decide) ⟨by simp only [f_sa, if_pos hc3], N22, e22⟩
  · skip
    refine Ow.icmpYes X0 hx (pc' := 24) (hb hby d_method_3_3) (flt hc3).2.1 (by decide) (by decide) ?_
    refine Ow.iconst X0 hx (pc' := 25) (hb hby d_method_3_24) (z := (0 : Int32)) rfl ?_
    exact Wq.ret X0 (BodyLoose.notSynchronized Bd) (rv := some (.int (0 : Int32))) (fun h => by rw [Bd.returns] at h; cases h) (fun _ hr => retOut X0 hx Bd.returns rfl (Or.inl ⟨rfl, Or.inl rfl, _, rfl⟩) (hb hby d_method_3_25) hr) (by decide) (by decide) ⟨by simp only [f_sa, if_neg hc3], N0, e0⟩
theorem kw98 {Z : State} {a0 : Array Value} (hw : ∀ d ∈ tables_1, d.before a0 Z = true) : (Jvm.Cond.constant "java/lang/Integer" (264 : Nat) (65536 : Int32)).before a0 Z = true := hw _ (List.mem_of_getElem? (i := 98) rfl)
theorem d_jdk_33_method_48_0 : decode jdk_33_method_48_code 0 = .ok (.iload_n 0, 1) := by decide +kernel
theorem d_jdk_33_method_48_1 : decode jdk_33_method_48_code 1 = .ok (.iconst (-1), 1) := by decide +kernel
theorem d_jdk_33_method_48_2 : decode jdk_33_method_48_code 2 = .ok (.ixor, 1) := by decide +kernel
theorem d_jdk_33_method_48_3 : decode jdk_33_method_48_code 3 = .ok (.iload_n 0, 1) := by decide +kernel
theorem d_jdk_33_method_48_4 : decode jdk_33_method_48_code 4 = .ok (.iconst 1, 1) := by decide +kernel
theorem d_jdk_33_method_48_5 : decode jdk_33_method_48_code 5 = .ok (.isub, 1) := by decide +kernel
theorem d_jdk_33_method_48_6 : decode jdk_33_method_48_code 6 = .ok (.iand, 1) := by decide +kernel
theorem d_jdk_33_method_48_7 : decode jdk_33_method_48_code 7 = .ok (.istore_n 0, 1) := by decide +kernel
theorem d_jdk_33_method_48_8 : decode jdk_33_method_48_code 8 = .ok (.iload_n 0, 1) := by decide +kernel
theorem d_jdk_33_method_48_9 : decode jdk_33_method_48_code 9 = .ok (.ifCond .gt 8, 3) := by decide +kernel
theorem d_jdk_33_method_48_12 : decode jdk_33_method_48_code 12 = .ok (.iload_n 0, 1) := by decide +kernel
theorem d_jdk_33_method_48_13 : decode jdk_33_method_48_code 13 = .ok (.bipush 32, 2) := by decide +kernel
theorem d_jdk_33_method_48_15 : decode jdk_33_method_48_code 15 = .ok (.iand, 1) := by decide +kernel
theorem d_jdk_33_method_48_17 : decode jdk_33_method_48_code 17 = .ok (.iconst 1, 1) := by decide +kernel
theorem d_jdk_33_method_48_18 : decode jdk_33_method_48_code 18 = .ok (.istore_n 1, 1) := by decide +kernel
theorem d_jdk_33_method_48_19 : decode jdk_33_method_48_code 19 = .ok (.iload_n 0, 1) := by decide +kernel
theorem d_jdk_33_method_48_20 : decode jdk_33_method_48_code 20 = .ok (.ldc_w 264, 3) := by decide +kernel
theorem d_jdk_33_method_48_23 : decode jdk_33_method_48_code 23 = .ok (.if_icmp .le 11, 3) := by decide +kernel
theorem d_jdk_33_method_48_26 : decode jdk_33_method_48_code 26 = .ok (.iinc 1 16, 3) := by decide +kernel
theorem d_jdk_33_method_48_29 : decode jdk_33_method_48_code 29 = .ok (.iload_n 0, 1) := by decide +kernel
theorem d_jdk_33_method_48_30 : decode jdk_33_method_48_code 30 = .ok (.bipush 16, 2) := by decide +kernel
theorem d_jdk_33_method_48_32 : decode jdk_33_method_48_code 32 = .ok (.iushr, 1) := by decide +kernel
theorem d_jdk_33_method_48_33 : decode jdk_33_method_48_code 33 = .ok (.istore_n 0, 1) := by decide +kernel
theorem d_jdk_33_method_48_34 : decode jdk_33_method_48_code 34 = .ok (.iload_n 0, 1) := by decide +kernel
theorem d_jdk_33_method_48_35 : decode jdk_33_method_48_code 35 = .ok (.sipush 256, 3) := by decide +kernel
theorem d_jdk_33_method_48_38 : decode jdk_33_method_48_code 38 = .ok (.if_icmp .le 11, 3) := by decide +kernel
theorem d_jdk_33_method_48_41 : decode jdk_33_method_48_code 41 = .ok (.iinc 1 8, 3) := by decide +kernel
theorem d_jdk_33_method_48_44 : decode jdk_33_method_48_code 44 = .ok (.iload_n 0, 1) := by decide +kernel
theorem d_jdk_33_method_48_45 : decode jdk_33_method_48_code 45 = .ok (.bipush 8, 2) := by decide +kernel
theorem d_jdk_33_method_48_47 : decode jdk_33_method_48_code 47 = .ok (.iushr, 1) := by decide +kernel
theorem d_jdk_33_method_48_48 : decode jdk_33_method_48_code 48 = .ok (.istore_n 0, 1) := by decide +kernel
theorem d_jdk_33_method_48_49 : decode jdk_33_method_48_code 49 = .ok (.iload_n 0, 1) := by decide +kernel
theorem d_jdk_33_method_48_50 : decode jdk_33_method_48_code 50 = .ok (.bipush 16, 2) := by decide +kernel
theorem d_jdk_33_method_48_52 : decode jdk_33_method_48_code 52 = .ok (.if_icmp .le 10, 3) := by decide +kernel
theorem d_jdk_33_method_48_55 : decode jdk_33_method_48_code 55 = .ok (.iinc 1 4, 3) := by decide +kernel
theorem d_jdk_33_method_48_58 : decode jdk_33_method_48_code 58 = .ok (.iload_n 0, 1) := by decide +kernel
theorem d_jdk_33_method_48_59 : decode jdk_33_method_48_code 59 = .ok (.iconst 4, 1) := by decide +kernel
theorem d_jdk_33_method_48_60 : decode jdk_33_method_48_code 60 = .ok (.iushr, 1) := by decide +kernel
theorem d_jdk_33_method_48_61 : decode jdk_33_method_48_code 61 = .ok (.istore_n 0, 1) := by decide +kernel
theorem d_jdk_33_method_48_62 : decode jdk_33_method_48_code 62 = .ok (.iload_n 0, 1) := by decide +kernel
theorem d_jdk_33_method_48_63 : decode jdk_33_method_48_code 63 = .ok (.iconst 4, 1) := by decide +kernel
theorem d_jdk_33_method_48_64 : decode jdk_33_method_48_code 64 = .ok (.if_icmp .le 10, 3) := by decide +kernel
theorem d_jdk_33_method_48_67 : decode jdk_33_method_48_code 67 = .ok (.iinc 1 2, 3) := by decide +kernel
theorem d_jdk_33_method_48_70 : decode jdk_33_method_48_code 70 = .ok (.iload_n 0, 1) := by decide +kernel
theorem d_jdk_33_method_48_71 : decode jdk_33_method_48_code 71 = .ok (.iconst 2, 1) := by decide +kernel
theorem d_jdk_33_method_48_72 : decode jdk_33_method_48_code 72 = .ok (.iushr, 1) := by decide +kernel
theorem d_jdk_33_method_48_73 : decode jdk_33_method_48_code 73 = .ok (.istore_n 0, 1) := by decide +kernel
theorem d_jdk_33_method_48_74 : decode jdk_33_method_48_code 74 = .ok (.iload_n 1, 1) := by decide +kernel
theorem d_jdk_33_method_48_75 : decode jdk_33_method_48_code 75 = .ok (.iload_n 0, 1) := by decide +kernel
theorem d_jdk_33_method_48_76 : decode jdk_33_method_48_code 76 = .ok (.iconst 1, 1) := by decide +kernel
theorem d_jdk_33_method_48_77 : decode jdk_33_method_48_code 77 = .ok (.iushr, 1) := by decide +kernel
theorem d_jdk_33_method_48_78 : decode jdk_33_method_48_code 78 = .ok (.iadd, 1) := by decide +kernel
theorem pn5 : plainName "java/lang/Integer" = true := by first | (simp [plainName, overriddenIn]; done) | decide +kernel
theorem ef_iz (m : MethodId) (xiz_1 : Int32) : entryFrame m #[(.int xiz_1)] 2 = mkF m 0 #[.val (.int xiz_1), .unset] [] := by first | (simp [entryFrame, mkF, argsToLocals, Value.category]; done) | rfl
def f_iz (xiz_1 : Int32) : Int32 := (if (0 : Int32) < ((xiz_1 ^^^ (-1 : Int32)) &&& (xiz_1 - (1 : Int32))) then ((if (4 : Int32) < (if (16 : Int32) < (if (256 : Int32) < (if (65536 : Int32) < ((xiz_1 ^^^ (-1 : Int32)) &&& (xiz_1 - (1 : Int32))) then ((((xiz_1 ^^^ (-1 : Int32)) &&& (xiz_1 - (1 : Int32))).toUInt32 >>> ((16 : Int32) &&& 31).toUInt32).toInt32) else ((xiz_1 ^^^ (-1 : Int32)) &&& (xiz_1 - (1 : Int32)))) then (((if (65536 : Int32) < ((xiz_1 ^^^ (-1 : Int32)) &&& (xiz_1 - (1 : Int32))) then ((((xiz_1 ^^^ (-1 : Int32)) &&& (xiz_1 - (1 : Int32))).toUInt32 >>> ((16 : Int32) &&& 31).toUInt32).toInt32) else ((xiz_1 ^^^ (-1 : Int32)) &&& (xiz_1 - (1 : Int32)))).toUInt32 >>> ((8 : Int32) &&& 31).toUInt32).toInt32) else (if (65536 : Int32) < ((xiz_1 ^^^ (-1 : Int32)) &&& (xiz_1 - (1 : Int32))) then ((((xiz_1 ^^^ (-1 : Int32)) &&& (xiz_1 - (1 : Int32))).toUInt32 >>> ((16 : Int32) &&& 31).toUInt32).toInt32) else ((xiz_1 ^^^ (-1 : Int32)) &&& (xiz_1 - (1 : Int32))))) then (((if (256 : Int32) < (if (65536 : Int32) < ((xiz_1 ^^^ (-1 : Int32)) &&& (xiz_1 - (1 : Int32))) then ((((xiz_1 ^^^ (-1 : Int32)) &&& (xiz_1 - (1 : Int32))).toUInt32 >>> ((16 : Int32) &&& 31).toUInt32).toInt32) else ((xiz_1 ^^^ (-1 : Int32)) &&& (xiz_1 - (1 : Int32)))) then (((if (65536 : Int32) < ((xiz_1 ^^^ (-1 : Int32)) &&& (xiz_1 - (1 : Int32))) then ((((xiz_1 ^^^ (-1 : Int32)) &&& (xiz_1 - (1 : Int32))).toUInt32 >>> ((16 : Int32) &&& 31).toUInt32).toInt32) else ((xiz_1 ^^^ (-1 : Int32)) &&& (xiz_1 - (1 : Int32)))).toUInt32 >>> ((8 : Int32) &&& 31).toUInt32).toInt32) else (if (65536 : Int32) < ((xiz_1 ^^^ (-1 : Int32)) &&& (xiz_1 - (1 : Int32))) then ((((xiz_1 ^^^ (-1 : Int32)) &&& (xiz_1 - (1 : Int32))).toUInt32 >>> ((16 : Int32) &&& 31).toUInt32).toInt32) else ((xiz_1 ^^^ (-1 : Int32)) &&& (xiz_1 - (1 : Int32))))).toUInt32 >>> ((4 : Int32) &&& 31).toUInt32).toInt32) else (if (256 : Int32) < (if (65536 : Int32) < ((xiz_1 ^^^ (-1 : Int32)) &&& (xiz_1 - (1 : Int32))) then ((((xiz_1 ^^^ (-1 : Int32)) &&& (xiz_1 - (1 : Int32))).toUInt32 >>> ((16 : Int32) &&& 31).toUInt32).toInt32) else ((xiz_1 ^^^ (-1 : Int32)) &&& (xiz_1 - (1 : Int32)))) then (((if (65536 : Int32) < ((xiz_1 ^^^ (-1 : Int32)) &&& (xiz_1 - (1 : Int32))) then ((((xiz_1 ^^^ (-1 : Int32)) &&& (xiz_1 - (1 : Int32))).toUInt32 >>> ((16 : Int32) &&& 31).toUInt32).toInt32) else ((xiz_1 ^^^ (-1 : Int32)) &&& (xiz_1 - (1 : Int32)))).toUInt32 >>> ((8 : Int32) &&& 31).toUInt32).toInt32) else (if (65536 : Int32) < ((xiz_1 ^^^ (-1 : Int32)) &&& (xiz_1 - (1 : Int32))) then ((((xiz_1 ^^^ (-1 : Int32)) &&& (xiz_1 - (1 : Int32))).toUInt32 >>> ((16 : Int32) &&& 31).toUInt32).toInt32) else ((xiz_1 ^^^ (-1 : Int32)) &&& (xiz_1 - (1 : Int32)))))) then ((if (16 : Int32) < (if (256 : Int32) < (if (65536 : Int32) < ((xiz_1 ^^^ (-1 : Int32)) &&& (xiz_1 - (1 : Int32))) then ((((xiz_1 ^^^ (-1 : Int32)) &&& (xiz_1 - (1 : Int32))).toUInt32 >>> ((16 : Int32) &&& 31).toUInt32).toInt32) else ((xiz_1 ^^^ (-1 : Int32)) &&& (xiz_1 - (1 : Int32)))) then (((if (65536 : Int32) < ((xiz_1 ^^^ (-1 : Int32)) &&& (xiz_1 - (1 : Int32))) then ((((xiz_1 ^^^ (-1 : Int32)) &&& (xiz_1 - (1 : Int32))).toUInt32 >>> ((16 : Int32) &&& 31).toUInt32).toInt32) else ((xiz_1 ^^^ (-1 : Int32)) &&& (xiz_1 - (1 : Int32)))).toUInt32 >>> ((8 : Int32) &&& 31).toUInt32).toInt32) else (if (65536 : Int32) < ((xiz_1 ^^^ (-1 : Int32)) &&& (xiz_1 - (1 : Int32))) then ((((xiz_1 ^^^ (-1 : Int32)) &&& (xiz_1 - (1 : Int32))).toUInt32 >>> ((16 : Int32) &&& 31).toUInt32).toInt32) else ((xiz_1 ^^^ (-1 : Int32)) &&& (xiz_1 - (1 : Int32))))) then ((if (256 : Int32) < (if (65536 : Int32) < ((xiz_1 ^^^ (-1 : Int32)) &&& (xiz_1 - (1 : Int32))) then ((((xiz_1 ^^^ (-1 : Int32)) &&& (xiz_1 - (1 : Int32))).toUInt32 >>> ((16 : Int32) &&& 31).toUInt32).toInt32) else ((xiz_1 ^^^ (-1 : Int32)) &&& (xiz_1 - (1 : Int32)))) then ((if (65536 : Int32) < ((xiz_1 ^^^ (-1 : Int32)) &&& (xiz_1 - (1 : Int32))) then (17 : Int32) else (1 : Int32)) + (8 : Int32)) else (if (65536 : Int32) < ((xiz_1 ^^^ (-1 : Int32)) &&& (xiz_1 - (1 : Int32))) then (17 : Int32) else (1 : Int32))) + (4 : Int32)) else (if (256 : Int32) < (if (65536 : Int32) < ((xiz_1 ^^^ (-1 : Int32)) &&& (xiz_1 - (1 : Int32))) then ((((xiz_1 ^^^ (-1 : Int32)) &&& (xiz_1 - (1 : Int32))).toUInt32 >>> ((16 : Int32) &&& 31).toUInt32).toInt32) else ((xiz_1 ^^^ (-1 : Int32)) &&& (xiz_1 - (1 : Int32)))) then ((if (65536 : Int32) < ((xiz_1 ^^^ (-1 : Int32)) &&& (xiz_1 - (1 : Int32))) then (17 : Int32) else (1 : Int32)) + (8 : Int32)) else (if (65536 : Int32) < ((xiz_1 ^^^ (-1 : Int32)) &&& (xiz_1 - (1 : Int32))) then (17 : Int32) else (1 : Int32)))) + (2 : Int32)) else (if (16 : Int32) < (if (256 : Int32) < (if (65536 : Int32) < ((xiz_1 ^^^ (-1 : Int32)) &&& (xiz_1 - (1 : Int32))) then ((((xiz_1 ^^^ (-1 : Int32)) &&& (xiz_1 - (1 : Int32))).toUInt32 >>> ((16 : Int32) &&& 31).toUInt32).toInt32) else ((xiz_1 ^^^ (-1 : Int32)) &&& (xiz_1 - (1 : Int32)))) then (((if (65536 : Int32) < ((xiz_1 ^^^ (-1 : Int32)) &&& (xiz_1 - (1 : Int32))) then ((((xiz_1 ^^^ (-1 : Int32)) &&& (xiz_1 - (1 : Int32))).toUInt32 >>> ((16 : Int32) &&& 31).toUInt32).toInt32) else ((xiz_1 ^^^ (-1 : Int32)) &&& (xiz_1 - (1 : Int32)))).toUInt32 >>> ((8 : Int32) &&& 31).toUInt32).toInt32) else (if (65536 : Int32) < ((xiz_1 ^^^ (-1 : Int32)) &&& (xiz_1 - (1 : Int32))) then ((((xiz_1 ^^^ (-1 : Int32)) &&& (xiz_1 - (1 : Int32))).toUInt32 >>> ((16 : Int32) &&& 31).toUInt32).toInt32) else ((xiz_1 ^^^ (-1 : Int32)) &&& (xiz_1 - (1 : Int32))))) then ((if (256 : Int32) < (if (65536 : Int32) < ((xiz_1 ^^^ (-1 : Int32)) &&& (xiz_1 - (1 : Int32))) then ((((xiz_1 ^^^ (-1 : Int32)) &&& (xiz_1 - (1 : Int32))).toUInt32 >>> ((16 : Int32) &&& 31).toUInt32).toInt32) else ((xiz_1 ^^^ (-1 : Int32)) &&& (xiz_1 - (1 : Int32)))) then ((if (65536 : Int32) < ((xiz_1 ^^^ (-1 : Int32)) &&& (xiz_1 - (1 : Int32))) then (17 : Int32) else (1 : Int32)) + (8 : Int32)) else (if (65536 : Int32) < ((xiz_1 ^^^ (-1 : Int32)) &&& (xiz_1 - (1 : Int32))) then (17 : Int32) else (1 : Int32))) + (4 : Int32)) else (if (256 : Int32) < (if (65536 : Int32) < ((xiz_1 ^^^ (-1 : Int32)) &&& (xiz_1 - (1 : Int32))) then ((((xiz_1 ^^^ (-1 : Int32)) &&& (xiz_1 - (1 : Int32))).toUInt32 >>> ((16 : Int32) &&& 31).toUInt32).toInt32) else ((xiz_1 ^^^ (-1 : Int32)) &&& (xiz_1 - (1 : Int32)))) then ((if (65536 : Int32) < ((xiz_1 ^^^ (-1 : Int32)) &&& (xiz_1 - (1 : Int32))) then (17 : Int32) else (1 : Int32)) + (8 : Int32)) else (if (65536 : Int32) < ((xiz_1 ^^^ (-1 : Int32)) &&& (xiz_1 - (1 : Int32))) then (17 : Int32) else (1 : Int32))))) + (((if (4 : Int32) < (if (16 : Int32) < (if (256 : Int32) < (if (65536 : Int32) < ((xiz_1 ^^^ (-1 : Int32)) &&& (xiz_1 - (1 : Int32))) then ((((xiz_1 ^^^ (-1 : Int32)) &&& (xiz_1 - (1 : Int32))).toUInt32 >>> ((16 : Int32) &&& 31).toUInt32).toInt32) else ((xiz_1 ^^^ (-1 : Int32)) &&& (xiz_1 - (1 : Int32)))) then (((if (65536 : Int32) < ((xiz_1 ^^^ (-1 : Int32)) &&& (xiz_1 - (1 : Int32))) then ((((xiz_1 ^^^ (-1 : Int32)) &&& (xiz_1 - (1 : Int32))).toUInt32 >>> ((16 : Int32) &&& 31).toUInt32).toInt32) else ((xiz_1 ^^^ (-1 : Int32)) &&& (xiz_1 - (1 : Int32)))).toUInt32 >>> ((8 : Int32) &&& 31).toUInt32).toInt32) else (if (65536 : Int32) < ((xiz_1 ^^^ (-1 : Int32)) &&& (xiz_1 - (1 : Int32))) then ((((xiz_1 ^^^ (-1 : Int32)) &&& (xiz_1 - (1 : Int32))).toUInt32 >>> ((16 : Int32) &&& 31).toUInt32).toInt32) else ((xiz_1 ^^^ (-1 : Int32)) &&& (xiz_1 - (1 : Int32))))) then (((if (256 : Int32) < (if (65536 : Int32) < ((xiz_1 ^^^ (-1 : Int32)) &&& (xiz_1 - (1 : Int32))) then ((((xiz_1 ^^^ (-1 : Int32)) &&& (xiz_1 - (1 : Int32))).toUInt32 >>> ((16 : Int32) &&& 31).toUInt32).toInt32) else ((xiz_1 ^^^ (-1 : Int32)) &&& (xiz_1 - (1 : Int32)))) then (((if (65536 : Int32) < ((xiz_1 ^^^ (-1 : Int32)) &&& (xiz_1 - (1 : Int32))) then ((((xiz_1 ^^^ (-1 : Int32)) &&& (xiz_1 - (1 : Int32))).toUInt32 >>> ((16 : Int32) &&& 31).toUInt32).toInt32) else ((xiz_1 ^^^ (-1 : Int32)) &&& (xiz_1 - (1 : Int32)))).toUInt32 >>> ((8 : Int32) &&& 31).toUInt32).toInt32) else (if (65536 : Int32) < ((xiz_1 ^^^ (-1 : Int32)) &&& (xiz_1 - (1 : Int32))) then ((((xiz_1 ^^^ (-1 : Int32)) &&& (xiz_1 - (1 : Int32))).toUInt32 >>> ((16 : Int32) &&& 31).toUInt32).toInt32) else ((xiz_1 ^^^ (-1 : Int32)) &&& (xiz_1 - (1 : Int32))))).toUInt32 >>> ((4 : Int32) &&& 31).toUInt32).toInt32) else (if (256 : Int32) < (if (65536 : Int32) < ((xiz_1 ^^^ (-1 : Int32)) &&& (xiz_1 - (1 : Int32))) then ((((xiz_1 ^^^ (-1 : Int32)) &&& (xiz_1 - (1 : Int32))).toUInt32 >>> ((16 : Int32) &&& 31).toUInt32).toInt32) else ((xiz_1 ^^^ (-1 : Int32)) &&& (xiz_1 - (1 : Int32)))) then (((if (65536 : Int32) < ((xiz_1 ^^^ (-1 : Int32)) &&& (xiz_1 - (1 : Int32))) then ((((xiz_1 ^^^ (-1 : Int32)) &&& (xiz_1 - (1 : Int32))).toUInt32 >>> ((16 : Int32) &&& 31).toUInt32).toInt32) else ((xiz_1 ^^^ (-1 : Int32)) &&& (xiz_1 - (1 : Int32)))).toUInt32 >>> ((8 : Int32) &&& 31).toUInt32).toInt32) else (if (65536 : Int32) < ((xiz_1 ^^^ (-1 : Int32)) &&& (xiz_1 - (1 : Int32))) then ((((xiz_1 ^^^ (-1 : Int32)) &&& (xiz_1 - (1 : Int32))).toUInt32 >>> ((16 : Int32) &&& 31).toUInt32).toInt32) else ((xiz_1 ^^^ (-1 : Int32)) &&& (xiz_1 - (1 : Int32)))))) then (((if (16 : Int32) < (if (256 : Int32) < (if (65536 : Int32) < ((xiz_1 ^^^ (-1 : Int32)) &&& (xiz_1 - (1 : Int32))) then ((((xiz_1 ^^^ (-1 : Int32)) &&& (xiz_1 - (1 : Int32))).toUInt32 >>> ((16 : Int32) &&& 31).toUInt32).toInt32) else ((xiz_1 ^^^ (-1 : Int32)) &&& (xiz_1 - (1 : Int32)))) then (((if (65536 : Int32) < ((xiz_1 ^^^ (-1 : Int32)) &&& (xiz_1 - (1 : Int32))) then ((((xiz_1 ^^^ (-1 : Int32)) &&& (xiz_1 - (1 : Int32))).toUInt32 >>> ((16 : Int32) &&& 31).toUInt32).toInt32) else ((xiz_1 ^^^ (-1 : Int32)) &&& (xiz_1 - (1 : Int32)))).toUInt32 >>> ((8 : Int32) &&& 31).toUInt32).toInt32) else (if (65536 : Int32) < ((xiz_1 ^^^ (-1 : Int32)) &&& (xiz_1 - (1 : Int32))) then ((((xiz_1 ^^^ (-1 : Int32)) &&& (xiz_1 - (1 : Int32))).toUInt32 >>> ((16 : Int32) &&& 31).toUInt32).toInt32) else ((xiz_1 ^^^ (-1 : Int32)) &&& (xiz_1 - (1 : Int32))))) then (((if (256 : Int32) < (if (65536 : Int32) < ((xiz_1 ^^^ (-1 : Int32)) &&& (xiz_1 - (1 : Int32))) then ((((xiz_1 ^^^ (-1 : Int32)) &&& (xiz_1 - (1 : Int32))).toUInt32 >>> ((16 : Int32) &&& 31).toUInt32).toInt32) else ((xiz_1 ^^^ (-1 : Int32)) &&& (xiz_1 - (1 : Int32)))) then (((if (65536 : Int32) < ((xiz_1 ^^^ (-1 : Int32)) &&& (xiz_1 - (1 : Int32))) then ((((xiz_1 ^^^ (-1 : Int32)) &&& (xiz_1 - (1 : Int32))).toUInt32 >>> ((16 : Int32) &&& 31).toUInt32).toInt32) else ((xiz_1 ^^^ (-1 : Int32)) &&& (xiz_1 - (1 : Int32)))).toUInt32 >>> ((8 : Int32) &&& 31).toUInt32).toInt32) else (if (65536 : Int32) < ((xiz_1 ^^^ (-1 : Int32)) &&& (xiz_1 - (1 : Int32))) then ((((xiz_1 ^^^ (-1 : Int32)) &&& (xiz_1 - (1 : Int32))).toUInt32 >>> ((16 : Int32) &&& 31).toUInt32).toInt32) else ((xiz_1 ^^^ (-1 : Int32)) &&& (xiz_1 - (1 : Int32))))).toUInt32 >>> ((4 : Int32) &&& 31).toUInt32).toInt32) else (if (256 : Int32) < (if (65536 : Int32) < ((xiz_1 ^^^ (-1 : Int32)) &&& (xiz_1 - (1 : Int32))) then ((((xiz_1 ^^^ (-1 : Int32)) &&& (xiz_1 - (1 : Int32))).toUInt32 >>> ((16 : Int32) &&& 31).toUInt32).toInt32) else ((xiz_1 ^^^ (-1 : Int32)) &&& (xiz_1 - (1 : Int32)))) then (((if (65536 : Int32) < ((xiz_1 ^^^ (-1 : Int32)) &&& (xiz_1 - (1 : Int32))) then ((((xiz_1 ^^^ (-1 : Int32)) &&& (xiz_1 - (1 : Int32))).toUInt32 >>> ((16 : Int32) &&& 31).toUInt32).toInt32) else ((xiz_1 ^^^ (-1 : Int32)) &&& (xiz_1 - (1 : Int32)))).toUInt32 >>> ((8 : Int32) &&& 31).toUInt32).toInt32) else (if (65536 : Int32) < ((xiz_1 ^^^ (-1 : Int32)) &&& (xiz_1 - (1 : Int32))) then ((((xiz_1 ^^^ (-1 : Int32)) &&& (xiz_1 - (1 : Int32))).toUInt32 >>> ((16 : Int32) &&& 31).toUInt32).toInt32) else ((xiz_1 ^^^ (-1 : Int32)) &&& (xiz_1 - (1 : Int32)))))).toUInt32 >>> ((2 : Int32) &&& 31).toUInt32).toInt32) else (if (16 : Int32) < (if (256 : Int32) < (if (65536 : Int32) < ((xiz_1 ^^^ (-1 : Int32)) &&& (xiz_1 - (1 : Int32))) then ((((xiz_1 ^^^ (-1 : Int32)) &&& (xiz_1 - (1 : Int32))).toUInt32 >>> ((16 : Int32) &&& 31).toUInt32).toInt32) else ((xiz_1 ^^^ (-1 : Int32)) &&& (xiz_1 - (1 : Int32)))) then (((if (65536 : Int32) < ((xiz_1 ^^^ (-1 : Int32)) &&& (xiz_1 - (1 : Int32))) then ((((xiz_1 ^^^ (-1 : Int32)) &&& (xiz_1 - (1 : Int32))).toUInt32 >>> ((16 : Int32) &&& 31).toUInt32).toInt32) else ((xiz_1 ^^^ (-1 : Int32)) &&& (xiz_1 - (1 : Int32)))).toUInt32 >>> ((8 : Int32) &&& 31).toUInt32).toInt32) else (if (65536 : Int32) < ((xiz_1 ^^^ (-1 : Int32)) &&& (xiz_1 - (1 : Int32))) then ((((xiz_1 ^^^ (-1 : Int32)) &&& (xiz_1 - (1 : Int32))).toUInt32 >>> ((16 : Int32) &&& 31).toUInt32).toInt32) else ((xiz_1 ^^^ (-1 : Int32)) &&& (xiz_1 - (1 : Int32))))) then (((if (256 : Int32) < (if (65536 : Int32) < ((xiz_1 ^^^ (-1 : Int32)) &&& (xiz_1 - (1 : Int32))) then ((((xiz_1 ^^^ (-1 : Int32)) &&& (xiz_1 - (1 : Int32))).toUInt32 >>> ((16 : Int32) &&& 31).toUInt32).toInt32) else ((xiz_1 ^^^ (-1 : Int32)) &&& (xiz_1 - (1 : Int32)))) then (((if (65536 : Int32) < ((xiz_1 ^^^ (-1 : Int32)) &&& (xiz_1 - (1 : Int32))) then ((((xiz_1 ^^^ (-1 : Int32)) &&& (xiz_1 - (1 : Int32))).toUInt32 >>> ((16 : Int32) &&& 31).toUInt32).toInt32) else ((xiz_1 ^^^ (-1 : Int32)) &&& (xiz_1 - (1 : Int32)))).toUInt32 >>> ((8 : Int32) &&& 31).toUInt32).toInt32) else (if (65536 : Int32) < ((xiz_1 ^^^ (-1 : Int32)) &&& (xiz_1 - (1 : Int32))) then ((((xiz_1 ^^^ (-1 : Int32)) &&& (xiz_1 - (1 : Int32))).toUInt32 >>> ((16 : Int32) &&& 31).toUInt32).toInt32) else ((xiz_1 ^^^ (-1 : Int32)) &&& (xiz_1 - (1 : Int32))))).toUInt32 >>> ((4 : Int32) &&& 31).toUInt32).toInt32) else (if (256 : Int32) < (if (65536 : Int32) < ((xiz_1 ^^^ (-1 : Int32)) &&& (xiz_1 - (1 : Int32))) then ((((xiz_1 ^^^ (-1 : Int32)) &&& (xiz_1 - (1 : Int32))).toUInt32 >>> ((16 : Int32) &&& 31).toUInt32).toInt32) else ((xiz_1 ^^^ (-1 : Int32)) &&& (xiz_1 - (1 : Int32)))) then (((if (65536 : Int32) < ((xiz_1 ^^^ (-1 : Int32)) &&& (xiz_1 - (1 : Int32))) then ((((xiz_1 ^^^ (-1 : Int32)) &&& (xiz_1 - (1 : Int32))).toUInt32 >>> ((16 : Int32) &&& 31).toUInt32).toInt32) else ((xiz_1 ^^^ (-1 : Int32)) &&& (xiz_1 - (1 : Int32)))).toUInt32 >>> ((8 : Int32) &&& 31).toUInt32).toInt32) else (if (65536 : Int32) < ((xiz_1 ^^^ (-1 : Int32)) &&& (xiz_1 - (1 : Int32))) then ((((xiz_1 ^^^ (-1 : Int32)) &&& (xiz_1 - (1 : Int32))).toUInt32 >>> ((16 : Int32) &&& 31).toUInt32).toInt32) else ((xiz_1 ^^^ (-1 : Int32)) &&& (xiz_1 - (1 : Int32))))))).toUInt32 >>> ((1 : Int32) &&& 31).toUInt32).toInt32)) else (((xiz_1 ^^^ (-1 : Int32)) &&& (xiz_1 - (1 : Int32))) &&& (32 : Int32)))
def Q_iz (Z : State) (xiz_1 : Int32) (h0 : Heap) (n0 : Nat) (v : Option Value) (h : Heap) (L : List Loc) : Prop := v = some (.int (f_iz xiz_1)) ∧ Fr n0 L ∧ h = h0
theorem d_jdk_33_method_48_79 : decode jdk_33_method_48_code 79 = .ok (.ireturn, 1) := by decide +kernel
theorem d_jdk_33_method_48_16 : decode jdk_33_method_48_code 16 = .ok (.ireturn, 1) := by decide +kernel
abbrev mt15 : MethodName := ⟨"java/lang/Integer", "numberOfTrailingZeros", "(I)I"⟩
set_option maxRecDepth 65536 in
set_option maxHeartbeats 40000000 in
theorem rm_iz (l : Launch) (Z : State) (a0 : Array Value) (hw : ∀ d ∈ tables_1, d.before a0 Z = true) (ws : List Jvm.Cond) (xiz_1 : Int32) (h0 : Heap) (n0 : Nat) (Z0 : n0 ≤ h0.size)  :
    MetFree l mt15 (head1 (Jvm.Cond.code mt15 jdk_33_method_48_code 2 (some .int) :: ws) ({ frames := 0, cells := 0, slots := 0, locals := 0 } : Room)) (fun a U => a = #[(.int xiz_1)] ∧ Z.Warmed39 U.vm ∧ U.heap = h0) (fun _ _ _ _ _ => True) (fun _ U o U' => ∃ v L, o = .returned v ∧ (Q_iz Z xiz_1 h0 n0) v U'.heap L ∧ FrameEnd U o U' L ({ frames := 0, cells := 0, slots := 0, locals := 0 } : Room).cells ({ frames := 0, cells := 0, slots := 0, locals := 0 } : Room).slots) := by
  refine MetFree.of_bodySF (plainFor_of_name pn5) hisR ?_
  intro p e s m args below meth c s₁ Bd hml0 hP hK
  obtain ⟨rfl, hZ, hh⟩ := hP
  have hx := Bd.exec
  have hby := Bd.bytes
  have hml : c.maxLocals = 2 := hml0
  have hown : s.vm.findClass "java/lang/Integer" = some m.cls := findClass_of_methodNamed Bd.named
  have hnm := (name_of_methodNamed Bd.named Bd.method).1
  have X0 : Stand p l e ({ frames := 0, cells := 0, slots := 0, locals := 0 } : Room) s m #[(.int xiz_1)] below meth c s₁ [] 0 0 := Stand.of_body Bd
  have e0 : s₁.heap = h0 := by rw [← hh, Bd.state]; rfl
  have N0 := Fr.nil n0
  refine Wq.step (p := p) (e := e) (below := below) (En := (fun o t L => FrameEnd s o t L ({ frames := 0, cells := 0, slots := 0, locals := 0 } : Room).cells ({ frames := 0, cells := 0, slots := 0, locals := 0 } : Room).slots)) (Q := (Q_iz Z xiz_1 h0 n0)) (fun t k => castTop (ef_iz m xiz_1) k) ?_
  show Wq _ _ _ _ _ (s₁.setTop (mkF m 0 #[.val (.int xiz_1), .unset] []))
  refine Ow.iloadN X0 hx (pc' := 1) (hb hby d_jdk_33_method_48_0) rfl ?_
  refine Ow.iconst X0 hx (pc' := 2) (hb hby d_jdk_33_method_48_1) (z := (-1 : Int32)) rfl ?_
  refine Ow.ixor X0 hx (pc' := 3) (hb hby d_jdk_33_method_48_2) (z := (xiz_1 ^^^ (-1 : Int32))) rfl ?_
  refine Ow.iloadN X0 hx (pc' := 4) (hb hby d_jdk_33_method_48_3) rfl ?_
  refine Ow.iconst X0 hx (pc' := 5) (hb hby d_jdk_33_method_48_4) (z := (1 : Int32)) rfl ?_
  refine Ow.isub X0 hx (pc' := 6) (hb hby d_jdk_33_method_48_5) (z := (xiz_1 - (1 : Int32))) rfl ?_
  refine Ow.iand X0 hx (pc' := 7) (hb hby d_jdk_33_method_48_6) (z := ((xiz_1 ^^^ (-1 : Int32)) &&& (xiz_1 - (1 : Int32)))) rfl ?_
  refine Ow.istoreN X0 hx (pc' := 8) (hb hby d_jdk_33_method_48_7) (l' := #[.val (.int ((xiz_1 ^^^ (-1 : Int32)) &&& (xiz_1 - (1 : Int32)))), .unset]) rfl ?_
  refine Ow.iloadN X0 hx (pc' := 9) (hb hby d_jdk_33_method_48_8) rfl ?_
  by_cases hc9 : (0 : Int32) < ((xiz_1 ^^^ (-1 : Int32)) &&& (xiz_1 - (1 : Int32)))
  · skip
    refine Ow.ifYes X0 hx (pc' := 17) (hb hby d_jdk_33_method_48_9) ((if0 _ _).trans (tlt hc9).2.2.1) (by decide) (by decide) ?_
    refine Ow.iconst X0 hx (pc' := 18) (hb hby d_jdk_33_method_48_17) (z := (1 : Int32)) rfl ?_
    refine Ow.istoreN X0 hx (pc' := 19) (hb hby d_jdk_33_method_48_18) (l' := #[.val (.int ((xiz_1 ^^^ (-1 : Int32)) &&& (xiz_1 - (1 : Int32)))), .val (.int (1 : Int32))]) rfl ?_
    refine Ow.iloadN X0 hx (pc' := 20) (hb hby d_jdk_33_method_48_19) rfl ?_
    refine Ow.ldcwInt X0 hx hZ (pc' := 23) hown (kw98 hw) (hb hby d_jdk_33_method_48_20) ?_
    refine Wq.by (U' := s₁.setTop (mkF m 34 #[.val (.int (if (65536 : Int32) < ((xiz_1 ^^^ (-1 : Int32)) &&& (xiz_1 - (1 : Int32))) then ((((xiz_1 ^^^ (-1 : Int32)) &&& (xiz_1 - (1 : Int32))).toUInt32 >>> ((16 : Int32) &&& 31).toUInt32).toInt32) else ((xiz_1 ^^^ (-1 : Int32)) &&& (xiz_1 - (1 : Int32))))), .val (.int (if (65536 : Int32) < ((xiz_1 ^^^ (-1 : Int32)) &&& (xiz_1 - (1 : Int32))) then (17 : Int32) else (1 : Int32)))] [])) (fun k => ?_) ?_
    · skip
      by_cases hm23 : (65536 : Int32) < ((xiz_1 ^^^ (-1 : Int32)) &&& (xiz_1 - (1 : Int32)))
      · skip
        refine Ow.icmpNo X0 hx (pc' := 26) (hb hby d_jdk_33_method_48_23) (tlt hm23).2.2.2 ?_
        refine Ow.iinc X0 hx (pc' := 29) (hb hby d_jdk_33_method_48_26) rfl (l' := #[.val (.int ((xiz_1 ^^^ (-1 : Int32)) &&& (xiz_1 - (1 : Int32)))), .val (.int (17 : Int32))]) rfl ?_
        refine Ow.iloadN X0 hx (pc' := 30) (hb hby d_jdk_33_method_48_29) rfl ?_
        refine Ow.bipush X0 hx (pc' := 32) (hb hby d_jdk_33_method_48_30) (z := (16 : Int32)) rfl ?_
        refine Ow.iushr X0 hx (pc' := 33) (hb hby d_jdk_33_method_48_32) (z := ((((xiz_1 ^^^ (-1 : Int32)) &&& (xiz_1 - (1 : Int32))).toUInt32 >>> ((16 : Int32) &&& 31).toUInt32).toInt32)) rfl ?_
        refine Ow.istoreN X0 hx (pc' := 34) (hb hby d_jdk_33_method_48_33) (l' := #[.val (.int ((((xiz_1 ^^^ (-1 : Int32)) &&& (xiz_1 - (1 : Int32))).toUInt32 >>> ((16 : Int32) &&& 31).toUInt32).toInt32)), .val (.int (17 : Int32))]) rfl ?_
        simp only [if_pos hm23] at k
        exact k
      · skip
        refine Ow.icmpYes X0 hx (pc' := 34) (hb hby d_jdk_33_method_48_23) (flt hm23).2.2.2 (by decide) (by decide) ?_
        simp only [if_neg hm23] at k
        exact k
    refine Ow.iloadN X0 hx (pc' := 35) (hb hby d_jdk_33_method_48_34) rfl ?_
    refine Ow.sipush X0 hx (pc' := 38) (hb hby d_jdk_33_method_48_35) (z := (256 : Int32)) rfl ?_
    refine Wq.by (U' := s₁.setTop (mkF m 49 #[.val (.int (if (256 : Int32) < (if (65536 : Int32) < ((xiz_1 ^^^ (-1 : Int32)) &&& (xiz_1 - (1 : Int32))) then ((((xiz_1 ^^^ (-1 : Int32)) &&& (xiz_1 - (1 : Int32))).toUInt32 >>> ((16 : Int32) &&& 31).toUInt32).toInt32) else ((xiz_1 ^^^ (-1 : Int32)) &&& (xiz_1 - (1 : Int32)))) then (((if (65536 : Int32) < ((xiz_1 ^^^ (-1 : Int32)) &&& (xiz_1 - (1 : Int32))) then ((((xiz_1 ^^^ (-1 : Int32)) &&& (xiz_1 - (1 : Int32))).toUInt32 >>> ((16 : Int32) &&& 31).toUInt32).toInt32) else ((xiz_1 ^^^ (-1 : Int32)) &&& (xiz_1 - (1 : Int32)))).toUInt32 >>> ((8 : Int32) &&& 31).toUInt32).toInt32) else (if (65536 : Int32) < ((xiz_1 ^^^ (-1 : Int32)) &&& (xiz_1 - (1 : Int32))) then ((((xiz_1 ^^^ (-1 : Int32)) &&& (xiz_1 - (1 : Int32))).toUInt32 >>> ((16 : Int32) &&& 31).toUInt32).toInt32) else ((xiz_1 ^^^ (-1 : Int32)) &&& (xiz_1 - (1 : Int32)))))), .val (.int (if (256 : Int32) < (if (65536 : Int32) < ((xiz_1 ^^^ (-1 : Int32)) &&& (xiz_1 - (1 : Int32))) then ((((xiz_1 ^^^ (-1 : Int32)) &&& (xiz_1 - (1 : Int32))).toUInt32 >>> ((16 : Int32) &&& 31).toUInt32).toInt32) else ((xiz_1 ^^^ (-1 : Int32)) &&& (xiz_1 - (1 : Int32)))) then ((if (65536 : Int32) < ((xiz_1 ^^^ (-1 : Int32)) &&& (xiz_1 - (1 : Int32))) then (17 : Int32) else (1 : Int32)) + (8 : Int32)) else (if (65536 : Int32) < ((xiz_1 ^^^ (-1 : Int32)) &&& (xiz_1 - (1 : Int32))) then (17 : Int32) else (1 : Int32))))] [])) (fun k => ?_) ?_
    · skip
      by_cases hm38 : (256 : Int32) < (if (65536 : Int32) < ((xiz_1 ^^^ (-1 : Int32)) &&& (xiz_1 - (1 : Int32))) then ((((xiz_1 ^^^ (-1 : Int32)) &&& (xiz_1 - (1 : Int32))).toUInt32 >>> ((16 : Int32) &&& 31).toUInt32).toInt32) else ((xiz_1 ^^^ (-1 : Int32)) &&& (xiz_1 - (1 : Int32))))
      · skip
        refine Ow.icmpNo X0 hx (pc' := 41) (hb hby d_jdk_33_method_48_38) (tlt hm38).2.2.2 ?_
        refine Ow.iinc X0 hx (pc' := 44) (hb hby d_jdk_33_method_48_41) rfl (l' := #[.val (.int (if (65536 : Int32) < ((xiz_1 ^^^ (-1 : Int32)) &&& (xiz_1 - (1 : Int32))) then ((((xiz_1 ^^^ (-1 : Int32)) &&& (xiz_1 - (1 : Int32))).toUInt32 >>> ((16 : Int32) &&& 31).toUInt32).toInt32) else ((xiz_1 ^^^ (-1 : Int32)) &&& (xiz_1 - (1 : Int32))))), .val (.int ((if (65536 : Int32) < ((xiz_1 ^^^ (-1 : Int32)) &&& (xiz_1 - (1 : Int32))) then (17 : Int32) else (1 : Int32)) + (8 : Int32)))]) rfl ?_
        refine Ow.iloadN X0 hx (pc' := 45) (hb hby d_jdk_33_method_48_44) rfl ?_
        refine Ow.bipush X0 hx (pc' := 47) (hb hby d_jdk_33_method_48_45) (z := (8 : Int32)) rfl ?_
        refine Ow.iushr X0 hx (pc' := 48) (hb hby d_jdk_33_method_48_47) (z := (((if (65536 : Int32) < ((xiz_1 ^^^ (-1 : Int32)) &&& (xiz_1 - (1 : Int32))) then ((((xiz_1 ^^^ (-1 : Int32)) &&& (xiz_1 - (1 : Int32))).toUInt32 >>> ((16 : Int32) &&& 31).toUInt32).toInt32) else ((xiz_1 ^^^ (-1 : Int32)) &&& (xiz_1 - (1 : Int32)))).toUInt32 >>> ((8 : Int32) &&& 31).toUInt32).toInt32)) rfl ?_
        refine Ow.istoreN X0 hx (pc' := 49) (hb hby d_jdk_33_method_48_48) (l' := #[.val (.int (((if (65536 : Int32) < ((xiz_1 ^^^ (-1 : Int32)) &&& (xiz_1 - (1 : Int32))) then ((((xiz_1 ^^^ (-1 : Int32)) &&& (xiz_1 - (1 : Int32))).toUInt32 >>> ((16 : Int32) &&& 31).toUInt32).toInt32) else ((xiz_1 ^^^ (-1 : Int32)) &&& (xiz_1 - (1 : Int32)))).toUInt32 >>> ((8 : Int32) &&& 31).toUInt32).toInt32)), .val (.int ((if (65536 : Int32) < ((xiz_1 ^^^ (-1 : Int32)) &&& (xiz_1 - (1 : Int32))) then (17 : Int32) else (1 : Int32)) + (8 : Int32)))]) rfl ?_
        simp only [if_pos hm38] at k
        exact k
      · skip
        refine Ow.icmpYes X0 hx (pc' := 49) (hb hby d_jdk_33_method_48_38) (flt hm38).2.2.2 (by decide) (by decide) ?_
        simp only [if_neg hm38] at k
        exact k
    refine Ow.iloadN X0 hx (pc' := 50) (hb hby d_jdk_33_method_48_49) rfl ?_
    refine Ow.bipush X0 hx (pc' := 52) (hb hby d_jdk_33_method_48_50) (z := (16 : Int32)) rfl ?_
    refine Wq.by (U' := s₁.setTop (mkF m 62 #[.val (.int (if (16 : Int32) < (if (256 : Int32) < (if (65536 : Int32) < ((xiz_1 ^^^ (-1 : Int32)) &&& (xiz_1 - (1 : Int32))) then ((((xiz_1 ^^^ (-1 : Int32)) &&& (xiz_1 - (1 : Int32))).toUInt32 >>> ((16 : Int32) &&& 31).toUInt32).toInt32) else ((xiz_1 ^^^ (-1 : Int32)) &&& (xiz_1 - (1 : Int32)))) then (((if (65536 : Int32) < ((xiz_1 ^^^ (-1 : Int32)) &&& (xiz_1 - (1 : Int32))) then ((((xiz_1 ^^^ (-1 : Int32)) &&& (xiz_1 - (1 : Int32))).toUInt32 >>> ((16 : Int32) &&& 31).toUInt32).toInt32) else ((xiz_1 ^^^ (-1 : Int32)) &&& (xiz_1 - (1 : Int32)))).toUInt32 >>> ((8 : Int32) &&& 31).toUInt32).toInt32) else (if (65536 : Int32) < ((xiz_1 ^^^ (-1 : Int32)) &&& (xiz_1 - (1 : Int32))) then ((((xiz_1 ^^^ (-1 : Int32)) &&& (xiz_1 - (1 : Int32))).toUInt32 >>> ((16 : Int32) &&& 31).toUInt32).toInt32) else ((xiz_1 ^^^ (-1 : Int32)) &&& (xiz_1 - (1 : Int32))))) then (((if (256 : Int32) < (if (65536 : Int32) < ((xiz_1 ^^^ (-1 : Int32)) &&& (xiz_1 - (1 : Int32))) then ((((xiz_1 ^^^ (-1 : Int32)) &&& (xiz_1 - (1 : Int32))).toUInt32 >>> ((16 : Int32) &&& 31).toUInt32).toInt32) else ((xiz_1 ^^^ (-1 : Int32)) &&& (xiz_1 - (1 : Int32)))) then (((if (65536 : Int32) < ((xiz_1 ^^^ (-1 : Int32)) &&& (xiz_1 - (1 : Int32))) then ((((xiz_1 ^^^ (-1 : Int32)) &&& (xiz_1 - (1 : Int32))).toUInt32 >>> ((16 : Int32) &&& 31).toUInt32).toInt32) else ((xiz_1 ^^^ (-1 : Int32)) &&& (xiz_1 - (1 : Int32)))).toUInt32 >>> ((8 : Int32) &&& 31).toUInt32).toInt32) else (if (65536 : Int32) < ((xiz_1 ^^^ (-1 : Int32)) &&& (xiz_1 - (1 : Int32))) then ((((xiz_1 ^^^ (-1 : Int32)) &&& (xiz_1 - (1 : Int32))).toUInt32 >>> ((16 : Int32) &&& 31).toUInt32).toInt32) else ((xiz_1 ^^^ (-1 : Int32)) &&& (xiz_1 - (1 : Int32))))).toUInt32 >>> ((4 : Int32) &&& 31).toUInt32).toInt32) else (if (256 : Int32) < (if (65536 : Int32) < ((xiz_1 ^^^ (-1 : Int32)) &&& (xiz_1 - (1 : Int32))) then ((((xiz_1 ^^^ (-1 : Int32)) &&& (xiz_1 - (1 : Int32))).toUInt32 >>> ((16 : Int32) &&& 31).toUInt32).toInt32) else ((xiz_1 ^^^ (-1 : Int32)) &&& (xiz_1 - (1 : Int32)))) then (((if (65536 : Int32) < ((xiz_1 ^^^ (-1 : Int32)) &&& (xiz_1 - (1 : Int32))) then ((((xiz_1 ^^^ (-1 : Int32)) &&& (xiz_1 - (1 : Int32))).toUInt32 >>> ((16 : Int32) &&& 31).toUInt32).toInt32) else ((xiz_1 ^^^ (-1 : Int32)) &&& (xiz_1 - (1 : Int32)))).toUInt32 >>> ((8 : Int32) &&& 31).toUInt32).toInt32) else (if (65536 : Int32) < ((xiz_1 ^^^ (-1 : Int32)) &&& (xiz_1 - (1 : Int32))) then ((((xiz_1 ^^^ (-1 : Int32)) &&& (xiz_1 - (1 : Int32))).toUInt32 >>> ((16 : Int32) &&& 31).toUInt32).toInt32) else ((xiz_1 ^^^ (-1 : Int32)) &&& (xiz_1 - (1 : Int32))))))), .val (.int (if (16 : Int32) < (if (256 : Int32) < (if (65536 : Int32) < ((xiz_1 ^^^ (-1 : Int32)) &&& (xiz_1 - (1 : Int32))) then ((((xiz_1 ^^^ (-1 : Int32)) &&& (xiz_1 - (1 : Int32))).toUInt32 >>> ((16 : Int32) &&& 31).toUInt32).toInt32) else ((xiz_1 ^^^ (-1 : Int32)) &&& (xiz_1 - (1 : Int32)))) then (((if (65536 : Int32) < ((xiz_1 ^^^ (-1 : Int32)) &&& (xiz_1 - (1 : Int32))) then ((((xiz_1 ^^^ (-1 : Int32)) &&& (xiz_1 - (1 : Int32))).toUInt32 >>> ((16 : Int32) &&& 31).toUInt32).toInt32) else ((xiz_1 ^^^ (-1 : Int32)) &&& (xiz_1 - (1 : Int32)))).toUInt32 >>> ((8 : Int32) &&& 31).toUInt32).toInt32) else (if (65536 : Int32) < ((xiz_1 ^^^ (-1 : Int32)) &&& (xiz_1 - (1 : Int32))) then ((((xiz_1 ^^^ (-1 : Int32)) &&& (xiz_1 - (1 : Int32))).toUInt32 >>> ((16 : Int32) &&& 31).toUInt32).toInt32) else ((xiz_1 ^^^ (-1 : Int32)) &&& (xiz_1 - (1 : Int32))))) then ((if (256 : Int32) < (if (65536 : Int32) < ((xiz_1 ^^^ (-1 : Int32)) &&& (xiz_1 - (1 : Int32))) then ((((xiz_1 ^^^ (-1 : Int32)) &&& (xiz_1 - (1 : Int32))).toUInt32 >>> ((16 : Int32) &&& 31).toUInt32).toInt32) else ((xiz_1 ^^^ (-1 : Int32)) &&& (xiz_1 - (1 : Int32)))) then ((if (65536 : Int32) < ((xiz_1 ^^^ (-1 : Int32)) &&& (xiz_1 - (1 : Int32))) then (17 : Int32) else (1 : Int32)) + (8 : Int32)) else (if (65536 : Int32) < ((xiz_1 ^^^ (-1 : Int32)) &&& (xiz_1 - (1 : Int32))) then (17 : Int32) else (1 : Int32))) + (4 : Int32)) else (if (256 : Int32) < (if (65536 : Int32) < ((xiz_1 ^^^ (-1 : Int32)) &&& (xiz_1 - (1 : Int32))) then ((((xiz_1 ^^^ (-1 : Int32)) &&& (xiz_1 - (1 : Int32))).toUInt32 >>> ((16 : Int32) &&& 31).toUInt32).toInt32) else ((xiz_1 ^^^ (-1 : Int32)) &&& (xiz_1 - (1 : Int32)))) then ((if (65536 : Int32) < ((xiz_1 ^^^ (-1 : Int32)) &&& (xiz_1 - (1 : Int32))) then (17 : Int32) else (1 : Int32)) + (8 : Int32)) else (if (65536 : Int32) < ((xiz_1 ^^^ (-1 : Int32)) &&& (xiz_1 - (1 : Int32))) then (17 : Int32) else (1 : Int32)))))] [])) (fun k => ?_) ?_
    · skip
      by_cases hm52 : (16 : Int32) < (if (256 : Int32) < (if (65536 : Int32) < ((xiz_1 ^^^ (-1 : Int32)) &&& (xiz_1 - (1 : Int32))) then ((((xiz_1 ^^^ (-1 : Int32)) &&& (xiz_1 - (1 : Int32))).toUInt32 >>> ((16 : Int32) &&& 31).toUInt32).toInt32) else ((xiz_1 ^^^ (-1 : Int32)) &&& (xiz_1 - (1 : Int32)))) then (((if (65536 : Int32) < ((xiz_1 ^^^ (-1 : Int32)) &&& (xiz_1 - (1 : Int32))) then ((((xiz_1 ^^^ (-1 : Int32)) &&& (xiz_1 - (1 : Int32))).toUInt32 >>> ((16 : Int32) &&& 31).toUInt32).toInt32) else ((xiz_1 ^^^ (-1 : Int32)) &&& (xiz_1 - (1 : Int32)))).toUInt32 >>> ((8 : Int32) &&& 31).toUInt32).toInt32) else (if (65536 : Int32) < ((xiz_1 ^^^ (-1 : Int32)) &&& (xiz_1 - (1 : Int32))) then ((((xiz_1 ^^^ (-1 : Int32)) &&& (xiz_1 - (1 : Int32))).toUInt32 >>> ((16 : Int32) &&& 31).toUInt32).toInt32) else ((xiz_1 ^^^ (-1 : Int32)) &&& (xiz_1 - (1 : Int32)))))
      · skip
        refine Ow.icmpNo X0 hx (pc' := 55) (hb hby d_jdk_33_method_48_52) (tlt hm52).2.2.2 ?_
        refine Ow.iinc X0 hx (pc' := 58) (hb hby d_jdk_33_method_48_55) rfl (l' := #[.val (.int (if (256 : Int32) < (if (65536 : Int32) < ((xiz_1 ^^^ (-1 : Int32)) &&& (xiz_1 - (1 : Int32))) then ((((xiz_1 ^^^ (-1 : Int32)) &&& (xiz_1 - (1 : Int32))).toUInt32 >>> ((16 : Int32) &&& 31).toUInt32).toInt32) else ((xiz_1 ^^^ (-1 : Int32)) &&& (xiz_1 - (1 : Int32)))) then (((if (65536 : Int32) < ((xiz_1 ^^^ (-1 : Int32)) &&& (xiz_1 - (1 : Int32))) then ((((xiz_1 ^^^ (-1 : Int32)) &&& (xiz_1 - (1 : Int32))).toUInt32 >>> ((16 : Int32) &&& 31).toUInt32).toInt32) else ((xiz_1 ^^^ (-1 : Int32)) &&& (xiz_1 - (1 : Int32)))).toUInt32 >>> ((8 : Int32) &&& 31).toUInt32).toInt32) else (if (65536 : Int32) < ((xiz_1 ^^^ (-1 : Int32)) &&& (xiz_1 - (1 : Int32))) then ((((xiz_1 ^^^ (-1 : Int32)) &&& (xiz_1 - (1 : Int32))).toUInt32 >>> ((16 : Int32) &&& 31).toUInt32).toInt32) else ((xiz_1 ^^^ (-1 : Int32)) &&& (xiz_1 - (1 : Int32)))))), .val (.int ((if (256 : Int32) < (if (65536 : Int32) < ((xiz_1 ^^^ (-1 : Int32)) &&& (xiz_1 - (1 : Int32))) then ((((xiz_1 ^^^ (-1 : Int32)) &&& (xiz_1 - (1 : Int32))).toUInt32 >>> ((16 : Int32) &&& 31).toUInt32).toInt32) else ((xiz_1 ^^^ (-1 : Int32)) &&& (xiz_1 - (1 : Int32)))) then ((if (65536 : Int32) < ((xiz_1 ^^^ (-1 : Int32)) &&& (xiz_1 - (1 : Int32))) then (17 : Int32) else (1 : Int32)) + (8 : Int32)) else (if (65536 : Int32) < ((xiz_1 ^^^ (-1 : Int32)) &&& (xiz_1 - (1 : Int32))) then (17 : Int32) else (1 : Int32))) + (4 : Int32)))]) rfl ?_
        refine Ow.iloadN X0 hx (pc' := 59) (hb hby d_jdk_33_method_48_58) rfl ?_
        refine Ow.iconst X0 hx (pc' := 60) (hb hby d_jdk_33_method_48_59) (z := (4 : Int32)) rfl ?_
        refine Ow.iushr X0 hx (pc' := 61) (hb hby d_jdk_33_method_48_60) (z := (((if (256 : Int32) < (if (65536 : Int32) < ((xiz_1 ^^^ (-1 : Int32)) &&& (xiz_1 - (1 : Int32))) then ((((xiz_1 ^^^ (-1 : Int32)) &&& (xiz_1 - (1 : Int32))).toUInt32 >>> ((16 : Int32) &&& 31).toUInt32).toInt32) else ((xiz_1 ^^^ (-1 : Int32)) &&& (xiz_1 - (1 : Int32)))) then (((if (65536 : Int32) < ((xiz_1 ^^^ (-1 : Int32)) &&& (xiz_1 - (1 : Int32))) then ((((xiz_1 ^^^ (-1 : Int32)) &&& (xiz_1 - (1 : Int32))).toUInt32 >>> ((16 : Int32) &&& 31).toUInt32).toInt32) else ((xiz_1 ^^^ (-1 : Int32)) &&& (xiz_1 - (1 : Int32)))).toUInt32 >>> ((8 : Int32) &&& 31).toUInt32).toInt32) else (if (65536 : Int32) < ((xiz_1 ^^^ (-1 : Int32)) &&& (xiz_1 - (1 : Int32))) then ((((xiz_1 ^^^ (-1 : Int32)) &&& (xiz_1 - (1 : Int32))).toUInt32 >>> ((16 : Int32) &&& 31).toUInt32).toInt32) else ((xiz_1 ^^^ (-1 : Int32)) &&& (xiz_1 - (1 : Int32))))).toUInt32 >>> ((4 : Int32) &&& 31).toUInt32).toInt32)) rfl ?_
        refine Ow.istoreN X0 hx (pc' := 62) (hb hby d_jdk_33_method_48_61) (l' := #[.val (.int (((if (256 : Int32) < (if (65536 : Int32) < ((xiz_1 ^^^ (-1 : Int32)) &&& (xiz_1 - (1 : Int32))) then ((((xiz_1 ^^^ (-1 : Int32)) &&& (xiz_1 - (1 : Int32))).toUInt32 >>> ((16 : Int32) &&& 31).toUInt32).toInt32) else ((xiz_1 ^^^ (-1 : Int32)) &&& (xiz_1 - (1 : Int32)))) then (((if (65536 : Int32) < ((xiz_1 ^^^ (-1 : Int32)) &&& (xiz_1 - (1 : Int32))) then ((((xiz_1 ^^^ (-1 : Int32)) &&& (xiz_1 - (1 : Int32))).toUInt32 >>> ((16 : Int32) &&& 31).toUInt32).toInt32) else ((xiz_1 ^^^ (-1 : Int32)) &&& (xiz_1 - (1 : Int32)))).toUInt32 >>> ((8 : Int32) &&& 31).toUInt32).toInt32) else (if (65536 : Int32) < ((xiz_1 ^^^ (-1 : Int32)) &&& (xiz_1 - (1 : Int32))) then ((((xiz_1 ^^^ (-1 : Int32)) &&& (xiz_1 - (1 : Int32))).toUInt32 >>> ((16 : Int32) &&& 31).toUInt32).toInt32) else ((xiz_1 ^^^ (-1 : Int32)) &&& (xiz_1 - (1 : Int32))))).toUInt32 >>> ((4 : Int32) &&& 31).toUInt32).toInt32)), .val (.int ((if (256 : Int32) < (if (65536 : Int32) < ((xiz_1 ^^^ (-1 : Int32)) &&& (xiz_1 - (1 : Int32))) then ((((xiz_1 ^^^ (-1 : Int32)) &&& (xiz_1 - (1 : Int32))).toUInt32 >>> ((16 : Int32) &&& 31).toUInt32).toInt32) else ((xiz_1 ^^^ (-1 : Int32)) &&& (xiz_1 - (1 : Int32)))) then ((if (65536 : Int32) < ((xiz_1 ^^^ (-1 : Int32)) &&& (xiz_1 - (1 : Int32))) then (17 : Int32) else (1 : Int32)) + (8 : Int32)) else (if (65536 : Int32) < ((xiz_1 ^^^ (-1 : Int32)) &&& (xiz_1 - (1 : Int32))) then (17 : Int32) else (1 : Int32))) + (4 : Int32)))]) rfl ?_
        simp only [if_pos hm52] at k
        exact k
      · skip
        refine Ow.icmpYes X0 hx (pc' := 62) (hb hby d_jdk_33_method_48_52) (flt hm52).2.2.2 (by decide) (by decide) ?_
        simp only [if_neg hm52] at k
        exact k
    refine Ow.iloadN X0 hx (pc' := 63) (hb hby d_jdk_33_method_48_62) rfl ?_
    refine Ow.iconst X0 hx (pc' := 64) (hb hby d_jdk_33_method_48_63) (z := (4 : Int32)) rfl ?_
    refine Wq.by (U' := s₁.setTop (mkF m 74 #[.val (.int (if (4 : Int32) < (if (16 : Int32) < (if (256 : Int32) < (if (65536 : Int32) < ((xiz_1 ^^^ (-1 : Int32)) &&& (xiz_1 - (1 : Int32))) then ((((xiz_1 ^^^ (-1 : Int32)) &&& (xiz_1 - (1 : Int32))).toUInt32 >>> ((16 : Int32) &&& 31).toUInt32).toInt32) else ((xiz_1 ^^^ (-1 : Int32)) &&& (xiz_1 - (1 : Int32)))) then (((if (65536 : Int32) < ((xiz_1 ^^^ (-1 : Int32)) &&& (xiz_1 - (1 : Int32))) then ((((xiz_1 ^^^ (-1 : Int32)) &&& (xiz_1 - (1 : Int32))).toUInt32 >>> ((16 : Int32) &&& 31).toUInt32).toInt32) else ((xiz_1 ^^^ (-1 : Int32)) &&& (xiz_1 - (1 : Int32)))).toUInt32 >>> ((8 : Int32) &&& 31).toUInt32).toInt32) else (if (65536 : Int32) < ((xiz_1 ^^^ (-1 : Int32)) &&& (xiz_1 - (1 : Int32))) then ((((xiz_1 ^^^ (-1 : Int32)) &&& (xiz_1 - (1 : Int32))).toUInt32 >>> ((16 : Int32) &&& 31).toUInt32).toInt32) else ((xiz_1 ^^^ (-1 : Int32)) &&& (xiz_1 - (1 : Int32))))) then (((if (256 : Int32) < (if (65536 : Int32) < ((xiz_1 ^^^ (-1 : Int32)) &&& (xiz_1 - (1 : Int32))) then ((((xiz_1 ^^^ (-1 : Int32)) &&& (xiz_1 - (1 : Int32))).toUInt32 >>> ((16 : Int32) &&& 31).toUInt32).toInt32) else ((xiz_1 ^^^ (-1 : Int32)) &&& (xiz_1 - (1 : Int32)))) then (((if (65536 : Int32) < ((xiz_1 ^^^ (-1 : Int32)) &&& (xiz_1 - (1 : Int32))) then ((((xiz_1 ^^^ (-1 : Int32)) &&& (xiz_1 - (1 : Int32))).toUInt32 >>> ((16 : Int32) &&& 31).toUInt32).toInt32) else ((xiz_1 ^^^ (-1 : Int32)) &&& (xiz_1 - (1 : Int32)))).toUInt32 >>> ((8 : Int32) &&& 31).toUInt32).toInt32) else (if (65536 : Int32) < ((xiz_1 ^^^ (-1 : Int32)) &&& (xiz_1 - (1 : Int32))) then ((((xiz_1 ^^^ (-1 : Int32)) &&& (xiz_1 - (1 : Int32))).toUInt32 >>> ((16 : Int32) &&& 31).toUInt32).toInt32) else ((xiz_1 ^^^ (-1 : Int32)) &&& (xiz_1 - (1 : Int32))))).toUInt32 >>> ((4 : Int32) &&& 31).toUInt32).toInt32) else (if (256 : Int32) < (if (65536 : Int32) < ((xiz_1 ^^^ (-1 : Int32)) &&& (xiz_1 - (1 : Int32))) then ((((xiz_1 ^^^ (-1 : Int32)) &&& (xiz_1 - (1 : Int32))).toUInt32 >>> ((16 : Int32) &&& 31).toUInt32).toInt32) else ((xiz_1 ^^^ (-1 : Int32)) &&& (xiz_1 - (1 : Int32)))) then (((if (65536 : Int32) < ((xiz_1 ^^^ (-1 : Int32)) &&& (xiz_1 - (1 : Int32))) then ((((xiz_1 ^^^ (-1 : Int32)) &&& (xiz_1 - (1 : Int32))).toUInt32 >>> ((16 : Int32) &&& 31).toUInt32).toInt32) else ((xiz_1 ^^^ (-1 : Int32)) &&& (xiz_1 - (1 : Int32)))).toUInt32 >>> ((8 : Int32) &&& 31).toUInt32).toInt32) else (if (65536 : Int32) < ((xiz_1 ^^^ (-1 : Int32)) &&& (xiz_1 - (1 : Int32))) then ((((xiz_1 ^^^ (-1 : Int32)) &&& (xiz_1 - (1 : Int32))).toUInt32 >>> ((16 : Int32) &&& 31).toUInt32).toInt32) else ((xiz_1 ^^^ (-1 : Int32)) &&& (xiz_1 - (1 : Int32)))))) then (((if (16 : Int32) < (if (256 : Int32) < (if (65536 : Int32) < ((xiz_1 ^^^ (-1 : Int32)) &&& (xiz_1 - (1 : Int32))) then ((((xiz_1 ^^^ (-1 : Int32)) &&& (xiz_1 - (1 : Int32))).toUInt32 >>> ((16 : Int32) &&& 31).toUInt32).toInt32) else ((xiz_1 ^^^ (-1 : Int32)) &&& (xiz_1 - (1 : Int32)))) then (((if (65536 : Int32) < ((xiz_1 ^^^ (-1 : Int32)) &&& (xiz_1 - (1 : Int32))) then ((((xiz_1 ^^^ (-1 : Int32)) &&& (xiz_1 - (1 : Int32))).toUInt32 >>> ((16 : Int32) &&& 31).toUInt32).toInt32) else ((xiz_1 ^^^ (-1 : Int32)) &&& (xiz_1 - (1 : Int32)))).toUInt32 >>> ((8 : Int32) &&& 31).toUInt32).toInt32) else (if (65536 : Int32) < ((xiz_1 ^^^ (-1 : Int32)) &&& (xiz_1 - (1 : Int32))) then ((((xiz_1 ^^^ (-1 : Int32)) &&& (xiz_1 - (1 : Int32))).toUInt32 >>> ((16 : Int32) &&& 31).toUInt32).toInt32) else ((xiz_1 ^^^ (-1 : Int32)) &&& (xiz_1 - (1 : Int32))))) then (((if (256 : Int32) < (if (65536 : Int32) < ((xiz_1 ^^^ (-1 : Int32)) &&& (xiz_1 - (1 : Int32))) then ((((xiz_1 ^^^ (-1 : Int32)) &&& (xiz_1 - (1 : Int32))).toUInt32 >>> ((16 : Int32) &&& 31).toUInt32).toInt32) else ((xiz_1 ^^^ (-1 : Int32)) &&& (xiz_1 - (1 : Int32)))) then (((if (65536 : Int32) < ((xiz_1 ^^^ (-1 : Int32)) &&& (xiz_1 - (1 : Int32))) then ((((xiz_1 ^^^ (-1 : Int32)) &&& (xiz_1 - (1 : Int32))).toUInt32 >>> ((16 : Int32) &&& 31).toUInt32).toInt32) else ((xiz_1 ^^^ (-1 : Int32)) &&& (xiz_1 - (1 : Int32)))).toUInt32 >>> ((8 : Int32) &&& 31).toUInt32).toInt32) else (if (65536 : Int32) < ((xiz_1 ^^^ (-1 : Int32)) &&& (xiz_1 - (1 : Int32))) then ((((xiz_1 ^^^ (-1 : Int32)) &&& (xiz_1 - (1 : Int32))).toUInt32 >>> ((16 : Int32) &&& 31).toUInt32).toInt32) else ((xiz_1 ^^^ (-1 : Int32)) &&& (xiz_1 - (1 : Int32))))).toUInt32 >>> ((4 : Int32) &&& 31).toUInt32).toInt32) else (if (256 : Int32) < (if (65536 : Int32) < ((xiz_1 ^^^ (-1 : Int32)) &&& (xiz_1 - (1 : Int32))) then ((((xiz_1 ^^^ (-1 : Int32)) &&& (xiz_1 - (1 : Int32))).toUInt32 >>> ((16 : Int32) &&& 31).toUInt32).toInt32) else ((xiz_1 ^^^ (-1 : Int32)) &&& (xiz_1 - (1 : Int32)))) then (((if (65536 : Int32) < ((xiz_1 ^^^ (-1 : Int32)) &&& (xiz_1 - (1 : Int32))) then ((((xiz_1 ^^^ (-1 : Int32)) &&& (xiz_1 - (1 : Int32))).toUInt32 >>> ((16 : Int32) &&& 31).toUInt32).toInt32) else ((xiz_1 ^^^ (-1 : Int32)) &&& (xiz_1 - (1 : Int32)))).toUInt32 >>> ((8 : Int32) &&& 31).toUInt32).toInt32) else (if (65536 : Int32) < ((xiz_1 ^^^ (-1 : Int32)) &&& (xiz_1 - (1 : Int32))) then ((((xiz_1 ^^^ (-1 : Int32)) &&& (xiz_1 - (1 : Int32))).toUInt32 >>> ((16 : Int32) &&& 31).toUInt32).toInt32) else ((xiz_1 ^^^ (-1 : Int32)) &&& (xiz_1 - (1 : Int32)))))).toUInt32 >>> ((2 : Int32) &&& 31).toUInt32).toInt32) else (if (16 : Int32) < (if (256 : Int32) < (if (65536 : Int32) < ((xiz_1 ^^^ (-1 : Int32)) &&& (xiz_1 - (1 : Int32))) then ((((xiz_1 ^^^ (-1 : Int32)) &&& (xiz_1 - (1 : Int32))).toUInt32 >>> ((16 : Int32) &&& 31).toUInt32).toInt32) else ((xiz_1 ^^^ (-1 : Int32)) &&& (xiz_1 - (1 : Int32)))) then (((if (65536 : Int32) < ((xiz_1 ^^^ (-1 : Int32)) &&& (xiz_1 - (1 : Int32))) then ((((xiz_1 ^^^ (-1 : Int32)) &&& (xiz_1 - (1 : Int32))).toUInt32 >>> ((16 : Int32) &&& 31).toUInt32).toInt32) else ((xiz_1 ^^^ (-1 : Int32)) &&& (xiz_1 - (1 : Int32)))).toUInt32 >>> ((8 : Int32) &&& 31).toUInt32).toInt32) else (if (65536 : Int32) < ((xiz_1 ^^^ (-1 : Int32)) &&& (xiz_1 - (1 : Int32))) then ((((xiz_1 ^^^ (-1 : Int32)) &&& (xiz_1 - (1 : Int32))).toUInt32 >>> ((16 : Int32) &&& 31).toUInt32).toInt32) else ((xiz_1 ^^^ (-1 : Int32)) &&& (xiz_1 - (1 : Int32))))) then (((if (256 : Int32) < (if (65536 : Int32) < ((xiz_1 ^^^ (-1 : Int32)) &&& (xiz_1 - (1 : Int32))) then ((((xiz_1 ^^^ (-1 : Int32)) &&& (xiz_1 - (1 : Int32))).toUInt32 >>> ((16 : Int32) &&& 31).toUInt32).toInt32) else ((xiz_1 ^^^ (-1 : Int32)) &&& (xiz_1 - (1 : Int32)))) then (((if (65536 : Int32) < ((xiz_1 ^^^ (-1 : Int32)) &&& (xiz_1 - (1 : Int32))) then ((((xiz_1 ^^^ (-1 : Int32)) &&& (xiz_1 - (1 : Int32))).toUInt32 >>> ((16 : Int32) &&& 31).toUInt32).toInt32) else ((xiz_1 ^^^ (-1 : Int32)) &&& (xiz_1 - (1 : Int32)))).toUInt32 >>> ((8 : Int32) &&& 31).toUInt32).toInt32) else (if (65536 : Int32) < ((xiz_1 ^^^ (-1 : Int32)) &&& (xiz_1 - (1 : Int32))) then ((((xiz_1 ^^^ (-1 : Int32)) &&& (xiz_1 - (1 : Int32))).toUInt32 >>> ((16 : Int32) &&& 31).toUInt32).toInt32) else ((xiz_1 ^^^ (-1 : Int32)) &&& (xiz_1 - (1 : Int32))))).toUInt32 >>> ((4 : Int32) &&& 31).toUInt32).toInt32) else (if (256 : Int32) < (if (65536 : Int32) < ((xiz_1 ^^^ (-1 : Int32)) &&& (xiz_1 - (1 : Int32))) then ((((xiz_1 ^^^ (-1 : Int32)) &&& (xiz_1 - (1 : Int32))).toUInt32 >>> ((16 : Int32) &&& 31).toUInt32).toInt32) else ((xiz_1 ^^^ (-1 : Int32)) &&& (xiz_1 - (1 : Int32)))) then (((if (65536 : Int32) < ((xiz_1 ^^^ (-1 : Int32)) &&& (xiz_1 - (1 : Int32))) then ((((xiz_1 ^^^ (-1 : Int32)) &&& (xiz_1 - (1 : Int32))).toUInt32 >>> ((16 : Int32) &&& 31).toUInt32).toInt32) else ((xiz_1 ^^^ (-1 : Int32)) &&& (xiz_1 - (1 : Int32)))).toUInt32 >>> ((8 : Int32) &&& 31).toUInt32).toInt32) else (if (65536 : Int32) < ((xiz_1 ^^^ (-1 : Int32)) &&& (xiz_1 - (1 : Int32))) then ((((xiz_1 ^^^ (-1 : Int32)) &&& (xiz_1 - (1 : Int32))).toUInt32 >>> ((16 : Int32) &&& 31).toUInt32).toInt32) else ((xiz_1 ^^^ (-1 : Int32)) &&& (xiz_1 - (1 : Int32)))))))), .val (.int (if (4 : Int32) < (if (16 : Int32) < (if (256 : Int32) < (if (65536 : Int32) < ((xiz_1 ^^^ (-1 : Int32)) &&& (xiz_1 - (1 : Int32))) then ((((xiz_1 ^^^ (-1 : Int32)) &&& (xiz_1 - (1 : Int32))).toUInt32 >>> ((16 : Int32) &&& 31).toUInt32).toInt32) else ((xiz_1 ^^^ (-1 : Int32)) &&& (xiz_1 - (1 : Int32)))) then (((if (65536 : Int32) < ((xiz_1 ^^^ (-1 : Int32)) &&& (xiz_1 - (1 : Int32))) then ((((xiz_1 ^^^ (-1 : Int32)) &&& (xiz_1 - (1 : Int32))).toUInt32 >>> ((16 : Int32) &&& 31).toUInt32).toInt32) else ((xiz_1 ^^^ (-1 : Int32)) &&& (xiz_1 - (1 : Int32)))).toUInt32 >>> ((8 : Int32) &&& 31).toUInt32).toInt32) else (if (65536 : Int32) < ((xiz_1 ^^^ (-1 : Int32)) &&& (xiz_1 - (1 : Int32))) then ((((xiz_1 ^^^ (-1 : Int32)) &&& (xiz_1 - (1 : Int32))).toUInt32 >>> ((16 : Int32) &&& 31).toUInt32).toInt32) else ((xiz_1 ^^^ (-1 : Int32)) &&& (xiz_1 - (1 : Int32))))) then (((if (256 : Int32) < (if (65536 : Int32) < ((xiz_1 ^^^ (-1 : Int32)) &&& (xiz_1 - (1 : Int32))) then ((((xiz_1 ^^^ (-1 : Int32)) &&& (xiz_1 - (1 : Int32))).toUInt32 >>> ((16 : Int32) &&& 31).toUInt32).toInt32) else ((xiz_1 ^^^ (-1 : Int32)) &&& (xiz_1 - (1 : Int32)))) then (((if (65536 : Int32) < ((xiz_1 ^^^ (-1 : Int32)) &&& (xiz_1 - (1 : Int32))) then ((((xiz_1 ^^^ (-1 : Int32)) &&& (xiz_1 - (1 : Int32))).toUInt32 >>> ((16 : Int32) &&& 31).toUInt32).toInt32) else ((xiz_1 ^^^ (-1 : Int32)) &&& (xiz_1 - (1 : Int32)))).toUInt32 >>> ((8 : Int32) &&& 31).toUInt32).toInt32) else (if (65536 : Int32) < ((xiz_1 ^^^ (-1 : Int32)) &&& (xiz_1 - (1 : Int32))) then ((((xiz_1 ^^^ (-1 : Int32)) &&& (xiz_1 - (1 : Int32))).toUInt32 >>> ((16 : Int32) &&& 31).toUInt32).toInt32) else ((xiz_1 ^^^ (-1 : Int32)) &&& (xiz_1 - (1 : Int32))))).toUInt32 >>> ((4 : Int32) &&& 31).toUInt32).toInt32) else (if (256 : Int32) < (if (65536 : Int32) < ((xiz_1 ^^^ (-1 : Int32)) &&& (xiz_1 - (1 : Int32))) then ((((xiz_1 ^^^ (-1 : Int32)) &&& (xiz_1 - (1 : Int32))).toUInt32 >>> ((16 : Int32) &&& 31).toUInt32).toInt32) else ((xiz_1 ^^^ (-1 : Int32)) &&& (xiz_1 - (1 : Int32)))) then (((if (65536 : Int32) < ((xiz_1 ^^^ (-1 : Int32)) &&& (xiz_1 - (1 : Int32))) then ((((xiz_1 ^^^ (-1 : Int32)) &&& (xiz_1 - (1 : Int32))).toUInt32 >>> ((16 : Int32) &&& 31).toUInt32).toInt32) else ((xiz_1 ^^^ (-1 : Int32)) &&& (xiz_1 - (1 : Int32)))).toUInt32 >>> ((8 : Int32) &&& 31).toUInt32).toInt32) else (if (65536 : Int32) < ((xiz_1 ^^^ (-1 : Int32)) &&& (xiz_1 - (1 : Int32))) then ((((xiz_1 ^^^ (-1 : Int32)) &&& (xiz_1 - (1 : Int32))).toUInt32 >>> ((16 : Int32) &&& 31).toUInt32).toInt32) else ((xiz_1 ^^^ (-1 : Int32)) &&& (xiz_1 - (1 : Int32)))))) then ((if (16 : Int32) < (if (256 : Int32) < (if (65536 : Int32) < ((xiz_1 ^^^ (-1 : Int32)) &&& (xiz_1 - (1 : Int32))) then ((((xiz_1 ^^^ (-1 : Int32)) &&& (xiz_1 - (1 : Int32))).toUInt32 >>> ((16 : Int32) &&& 31).toUInt32).toInt32) else ((xiz_1 ^^^ (-1 : Int32)) &&& (xiz_1 - (1 : Int32)))) then (((if (65536 : Int32) < ((xiz_1 ^^^ (-1 : Int32)) &&& (xiz_1 - (1 : Int32))) then ((((xiz_1 ^^^ (-1 : Int32)) &&& (xiz_1 - (1 : Int32))).toUInt32 >>> ((16 : Int32) &&& 31).toUInt32).toInt32) else ((xiz_1 ^^^ (-1 : Int32)) &&& (xiz_1 - (1 : Int32)))).toUInt32 >>> ((8 : Int32) &&& 31).toUInt32).toInt32) else (if (65536 : Int32) < ((xiz_1 ^^^ (-1 : Int32)) &&& (xiz_1 - (1 : Int32))) then ((((xiz_1 ^^^ (-1 : Int32)) &&& (xiz_1 - (1 : Int32))).toUInt32 >>> ((16 : Int32) &&& 31).toUInt32).toInt32) else ((xiz_1 ^^^ (-1 : Int32)) &&& (xiz_1 - (1 : Int32))))) then ((if (256 : Int32) < (if (65536 : Int32) < ((xiz_1 ^^^ (-1 : Int32)) &&& (xiz_1 - (1 : Int32))) then ((((xiz_1 ^^^ (-1 : Int32)) &&& (xiz_1 - (1 : Int32))).toUInt32 >>> ((16 : Int32) &&& 31).toUInt32).toInt32) else ((xiz_1 ^^^ (-1 : Int32)) &&& (xiz_1 - (1 : Int32)))) then ((if (65536 : Int32) < ((xiz_1 ^^^ (-1 : Int32)) &&& (xiz_1 - (1 : Int32))) then (17 : Int32) else (1 : Int32)) + (8 : Int32)) else (if (65536 : Int32) < ((xiz_1 ^^^ (-1 : Int32)) &&& (xiz_1 - (1 : Int32))) then (17 : Int32) else (1 : Int32))) + (4 : Int32)) else (if (256 : Int32) < (if (65536 : Int32) < ((xiz_1 ^^^ (-1 : Int32)) &&& (xiz_1 - (1 : Int32))) then ((((xiz_1 ^^^ (-1 : Int32)) &&& (xiz_1 - (1 : Int32))).toUInt32 >>> ((16 : Int32) &&& 31).toUInt32).toInt32) else ((xiz_1 ^^^ (-1 : Int32)) &&& (xiz_1 - (1 : Int32)))) then ((if (65536 : Int32) < ((xiz_1 ^^^ (-1 : Int32)) &&& (xiz_1 - (1 : Int32))) then (17 : Int32) else (1 : Int32)) + (8 : Int32)) else (if (65536 : Int32) < ((xiz_1 ^^^ (-1 : Int32)) &&& (xiz_1 - (1 : Int32))) then (17 : Int32) else (1 : Int32)))) + (2 : Int32)) else (if (16 : Int32) < (if (256 : Int32) < (if (65536 : Int32) < ((xiz_1 ^^^ (-1 : Int32)) &&& (xiz_1 - (1 : Int32))) then ((((xiz_1 ^^^ (-1 : Int32)) &&& (xiz_1 - (1 : Int32))).toUInt32 >>> ((16 : Int32) &&& 31).toUInt32).toInt32) else ((xiz_1 ^^^ (-1 : Int32)) &&& (xiz_1 - (1 : Int32)))) then (((if (65536 : Int32) < ((xiz_1 ^^^ (-1 : Int32)) &&& (xiz_1 - (1 : Int32))) then ((((xiz_1 ^^^ (-1 : Int32)) &&& (xiz_1 - (1 : Int32))).toUInt32 >>> ((16 : Int32) &&& 31).toUInt32).toInt32) else ((xiz_1 ^^^ (-1 : Int32)) &&& (xiz_1 - (1 : Int32)))).toUInt32 >>> ((8 : Int32) &&& 31).toUInt32).toInt32) else (if (65536 : Int32) < ((xiz_1 ^^^ (-1 : Int32)) &&& (xiz_1 - (1 : Int32))) then ((((xiz_1 ^^^ (-1 : Int32)) &&& (xiz_1 - (1 : Int32))).toUInt32 >>> ((16 : Int32) &&& 31).toUInt32).toInt32) else ((xiz_1 ^^^ (-1 : Int32)) &&& (xiz_1 - (1 : Int32))))) then ((if (256 : Int32) < (if (65536 : Int32) < ((xiz_1 ^^^ (-1 : Int32)) &&& (xiz_1 - (1 : Int32))) then ((((xiz_1 ^^^ (-1 : Int32)) &&& (xiz_1 - (1 : Int32))).toUInt32 >>> ((16 : Int32) &&& 31).toUInt32).toInt32) else ((xiz_1 ^^^ (-1 : Int32)) &&& (xiz_1 - (1 : Int32)))) then ((if (65536 : Int32) < ((xiz_1 ^^^ (-1 : Int32)) &&& (xiz_1 - (1 : Int32))) then (17 : Int32) else (1 : Int32)) + (8 : Int32)) else (if (65536 : Int32) < ((xiz_1 ^^^ (-1 : Int32)) &&& (xiz_1 - (1 : Int32))) then (17 : Int32) else (1 : Int32))) + (4 : Int32)) else (if (256 : Int32) < (if (65536 : Int32) < ((xiz_1 ^^^ (-1 : Int32)) &&& (xiz_1 - (1 : Int32))) then ((((xiz_1 ^^^ (-1 : Int32)) &&& (xiz_1 - (1 : Int32))).toUInt32 >>> ((16 : Int32) &&& 31).toUInt32).toInt32) else ((xiz_1 ^^^ (-1 : Int32)) &&& (xiz_1 - (1 : Int32)))) then ((if (65536 : Int32) < ((xiz_1 ^^^ (-1 : Int32)) &&& (xiz_1 - (1 : Int32))) then (17 : Int32) else (1 : Int32)) + (8 : Int32)) else (if (65536 : Int32) < ((xiz_1 ^^^ (-1 : Int32)) &&& (xiz_1 - (1 : Int32))) then (17 : Int32) else (1 : Int32))))))] [])) (fun k => ?_) ?_
    · skip
      by_cases hm64 : (4 : Int32) < (if (16 : Int32) < (if (256 : Int32) < (if (65536 : Int32) < ((xiz_1 ^^^ (-1 : Int32)) &&& (xiz_1 - (1 : Int32))) then ((((xiz_1 ^^^ (-1 : Int32)) &&& (xiz_1 - (1 : Int32))).toUInt32 >>> ((16 : Int32) &&& 31).toUInt32).toInt32) else ((xiz_1 ^^^ (-1 : Int32)) &&& (xiz_1 - (1 : Int32)))) then (((if (65536 : Int32) < ((xiz_1 ^^^ (-1 : Int32)) &&& (xiz_1 - (1 : Int32))) then ((((xiz_1 ^^^ (-1 : Int32)) &&& (xiz_1 - (1 : Int32))).toUInt32 >>> ((16 : Int32) &&& 31).toUInt32).toInt32) else ((xiz_1 ^^^ (-1 : Int32)) &&& (xiz_1 - (1 : Int32)))).toUInt32 >>> ((8 : Int32) &&& 31).toUInt32).toInt32) else (if (65536 : Int32) < ((xiz_1 ^^^ (-1 : Int32)) &&& (xiz_1 - (1 : Int32))) then ((((xiz_1 ^^^ (-1 : Int32)) &&& (xiz_1 - (1 : Int32))).toUInt32 >>> ((16 : Int32) &&& 31).toUInt32).toInt32) else ((xiz_1 ^^^ (-1 : Int32)) &&& (xiz_1 - (1 : Int32))))) then (((if (256 : Int32) < (if (65536 : Int32) < ((xiz_1 ^^^ (-1 : Int32)) &&& (xiz_1 - (1 : Int32))) then ((((xiz_1 ^^^ (-1 : Int32)) &&& (xiz_1 - (1 : Int32))).toUInt32 >>> ((16 : Int32) &&& 31).toUInt32).toInt32) else ((xiz_1 ^^^ (-1 : Int32)) &&& (xiz_1 - (1 : Int32)))) then (((if (65536 : Int32) < ((xiz_1 ^^^ (-1 : Int32)) &&& (xiz_1 - (1 : Int32))) then ((((xiz_1 ^^^ (-1 : Int32)) &&& (xiz_1 - (1 : Int32))).toUInt32 >>> ((16 : Int32) &&& 31).toUInt32).toInt32) else ((xiz_1 ^^^ (-1 : Int32)) &&& (xiz_1 - (1 : Int32)))).toUInt32 >>> ((8 : Int32) &&& 31).toUInt32).toInt32) else (if (65536 : Int32) < ((xiz_1 ^^^ (-1 : Int32)) &&& (xiz_1 - (1 : Int32))) then ((((xiz_1 ^^^ (-1 : Int32)) &&& (xiz_1 - (1 : Int32))).toUInt32 >>> ((16 : Int32) &&& 31).toUInt32).toInt32) else ((xiz_1 ^^^ (-1 : Int32)) &&& (xiz_1 - (1 : Int32))))).toUInt32 >>> ((4 : Int32) &&& 31).toUInt32).toInt32) else (if (256 : Int32) < (if (65536 : Int32) < ((xiz_1 ^^^ (-1 : Int32)) &&& (xiz_1 - (1 : Int32))) then ((((xiz_1 ^^^ (-1 : Int32)) &&& (xiz_1 - (1 : Int32))).toUInt32 >>> ((16 : Int32) &&& 31).toUInt32).toInt32) else ((xiz_1 ^^^ (-1 : Int32)) &&& (xiz_1 - (1 : Int32)))) then (((if (65536 : Int32) < ((xiz_1 ^^^ (-1 : Int32)) &&& (xiz_1 - (1 : Int32))) then ((((xiz_1 ^^^ (-1 : Int32)) &&& (xiz_1 - (1 : Int32))).toUInt32 >>> ((16 : Int32) &&& 31).toUInt32).toInt32) else ((xiz_1 ^^^ (-1 : Int32)) &&& (xiz_1 - (1 : Int32)))).toUInt32 >>> ((8 : Int32) &&& 31).toUInt32).toInt32) else (if (65536 : Int32) < ((xiz_1 ^^^ (-1 : Int32)) &&& (xiz_1 - (1 : Int32))) then ((((xiz_1 ^^^ (-1 : Int32)) &&& (xiz_1 - (1 : Int32))).toUInt32 >>> ((16 : Int32) &&& 31).toUInt32).toInt32) else ((xiz_1 ^^^ (-1 : Int32)) &&& (xiz_1 - (1 : Int32))))))
      · skip
        refine Ow.icmpNo X0 hx (pc' := 67) (hb hby d_jdk_33_method_48_64) (tlt hm64).2.2.2 ?_
        refine Ow.iinc X0 hx (pc' := 70) (hb hby d_jdk_33_method_48_67) rfl (l' := #[.val (.int (if (16 : Int32) < (if (256 : Int32) < (if (65536 : Int32) < ((xiz_1 ^^^ (-1 : Int32)) &&& (xiz_1 - (1 : Int32))) then ((((xiz_1 ^^^ (-1 : Int32)) &&& (xiz_1 - (1 : Int32))).toUInt32 >>> ((16 : Int32) &&& 31).toUInt32).toInt32) else ((xiz_1 ^^^ (-1 : Int32)) &&& (xiz_1 - (1 : Int32)))) then (((if (65536 : Int32) < ((xiz_1 ^^^ (-1 : Int32)) &&& (xiz_1 - (1 : Int32))) then ((((xiz_1 ^^^ (-1 : Int32)) &&& (xiz_1 - (1 : Int32))).toUInt32 >>> ((16 : Int32) &&& 31).toUInt32).toInt32) else ((xiz_1 ^^^ (-1 : Int32)) &&& (xiz_1 - (1 : Int32)))).toUInt32 >>> ((8 : Int32) &&& 31).toUInt32).toInt32) else (if (65536 : Int32) < ((xiz_1 ^^^ (-1 : Int32)) &&& (xiz_1 - (1 : Int32))) then ((((xiz_1 ^^^ (-1 : Int32)) &&& (xiz_1 - (1 : Int32))).toUInt32 >>> ((16 : Int32) &&& 31).toUInt32).toInt32) else ((xiz_1 ^^^ (-1 : Int32)) &&& (xiz_1 - (1 : Int32))))) then (((if (256 : Int32) < (if (65536 : Int32) < ((xiz_1 ^^^ (-1 : Int32)) &&& (xiz_1 - (1 : Int32))) then ((((xiz_1 ^^^ (-1 : Int32)) &&& (xiz_1 - (1 : Int32))).toUInt32 >>> ((16 : Int32) &&& 31).toUInt32).toInt32) else ((xiz_1 ^^^ (-1 : Int32)) &&& (xiz_1 - (1 : Int32)))) then (((if (65536 : Int32) < ((xiz_1 ^^^ (-1 : Int32)) &&& (xiz_1 - (1 : Int32))) then ((((xiz_1 ^^^ (-1 : Int32)) &&& (xiz_1 - (1 : Int32))).toUInt32 >>> ((16 : Int32) &&& 31).toUInt32).toInt32) else ((xiz_1 ^^^ (-1 : Int32)) &&& (xiz_1 - (1 : Int32)))).toUInt32 >>> ((8 : Int32) &&& 31).toUInt32).toInt32) else (if (65536 : Int32) < ((xiz_1 ^^^ (-1 : Int32)) &&& (xiz_1 - (1 : Int32))) then ((((xiz_1 ^^^ (-1 : Int32)) &&& (xiz_1 - (1 : Int32))).toUInt32 >>> ((16 : Int32) &&& 31).toUInt32).toInt32) else ((xiz_1 ^^^ (-1 : Int32)) &&& (xiz_1 - (1 : Int32))))).toUInt32 >>> ((4 : Int32) &&& 31).toUInt32).toInt32) else (if (256 : Int32) < (if (65536 : Int32) < ((xiz_1 ^^^ (-1 : Int32)) &&& (xiz_1 - (1 : Int32))) then ((((xiz_1 ^^^ (-1 : Int32)) &&& (xiz_1 - (1 : Int32))).toUInt32 >>> ((16 : Int32) &&& 31).toUInt32).toInt32) else ((xiz_1 ^^^ (-1 : Int32)) &&& (xiz_1 - (1 : Int32)))) then (((if (65536 : Int32) < ((xiz_1 ^^^ (-1 : Int32)) &&& (xiz_1 - (1 : Int32))) then ((((xiz_1 ^^^ (-1 : Int32)) &&& (xiz_1 - (1 : Int32))).toUInt32 >>> ((16 : Int32) &&& 31).toUInt32).toInt32) else ((xiz_1 ^^^ (-1 : Int32)) &&& (xiz_1 - (1 : Int32)))).toUInt32 >>> ((8 : Int32) &&& 31).toUInt32).toInt32) else (if (65536 : Int32) < ((xiz_1 ^^^ (-1 : Int32)) &&& (xiz_1 - (1 : Int32))) then ((((xiz_1 ^^^ (-1 : Int32)) &&& (xiz_1 - (1 : Int32))).toUInt32 >>> ((16 : Int32) &&& 31).toUInt32).toInt32) else ((xiz_1 ^^^ (-1 : Int32)) &&& (xiz_1 - (1 : Int32))))))), .val (.int ((if (16 : Int32) < (if (256 : Int32) < (if (65536 : Int32) < ((xiz_1 ^^^ (-1 : Int32)) &&& (xiz_1 - (1 : Int32))) then ((((xiz_1 ^^^ (-1 : Int32)) &&& (xiz_1 - (1 : Int32))).toUInt32 >>> ((16 : Int32) &&& 31).toUInt32).toInt32) else ((xiz_1 ^^^ (-1 : Int32)) &&& (xiz_1 - (1 : Int32)))) then (((if (65536 : Int32) < ((xiz_1 ^^^ (-1 : Int32)) &&& (xiz_1 - (1 : Int32))) then ((((xiz_1 ^^^ (-1 : Int32)) &&& (xiz_1 - (1 : Int32))).toUInt32 >>> ((16 : Int32) &&& 31).toUInt32).toInt32) else ((xiz_1 ^^^ (-1 : Int32)) &&& (xiz_1 - (1 : Int32)))).toUInt32 >>> ((8 : Int32) &&& 31).toUInt32).toInt32) else (if (65536 : Int32) < ((xiz_1 ^^^ (-1 : Int32)) &&& (xiz_1 - (1 : Int32))) then ((((xiz_1 ^^^ (-1 : Int32)) &&& (xiz_1 - (1 : Int32))).toUInt32 >>> ((16 : Int32) &&& 31).toUInt32).toInt32) else ((xiz_1 ^^^ (-1 : Int32)) &&& (xiz_1 - (1 : Int32))))) then ((if (256 : Int32) < (if (65536 : Int32) < ((xiz_1 ^^^ (-1 : Int32)) &&& (xiz_1 - (1 : Int32))) then ((((xiz_1 ^^^ (-1 : Int32)) &&& (xiz_1 - (1 : Int32))).toUInt32 >>> ((16 : Int32) &&& 31).toUInt32).toInt32) else ((xiz_1 ^^^ (-1 : Int32)) &&& (xiz_1 - (1 : Int32)))) then ((if (65536 : Int32) < ((xiz_1 ^^^ (-1 : Int32)) &&& (xiz_1 - (1 : Int32))) then (17 : Int32) else (1 : Int32)) + (8 : Int32)) else (if (65536 : Int32) < ((xiz_1 ^^^ (-1 : Int32)) &&& (xiz_1 - (1 : Int32))) then (17 : Int32) else (1 : Int32))) + (4 : Int32)) else (if (256 : Int32) < (if (65536 : Int32) < ((xiz_1 ^^^ (-1 : Int32)) &&& (xiz_1 - (1 : Int32))) then ((((xiz_1 ^^^ (-1 : Int32)) &&& (xiz_1 - (1 : Int32))).toUInt32 >>> ((16 : Int32) &&& 31).toUInt32).toInt32) else ((xiz_1 ^^^ (-1 : Int32)) &&& (xiz_1 - (1 : Int32)))) then ((if (65536 : Int32) < ((xiz_1 ^^^ (-1 : Int32)) &&& (xiz_1 - (1 : Int32))) then (17 : Int32) else (1 : Int32)) + (8 : Int32)) else (if (65536 : Int32) < ((xiz_1 ^^^ (-1 : Int32)) &&& (xiz_1 - (1 : Int32))) then (17 : Int32) else (1 : Int32)))) + (2 : Int32)))]) rfl ?_
        refine Ow.iloadN X0 hx (pc' := 71) (hb hby d_jdk_33_method_48_70) rfl ?_
        refine Ow.iconst X0 hx (pc' := 72) (hb hby d_jdk_33_method_48_71) (z := (2 : Int32)) rfl ?_
        refine Ow.iushr X0 hx (pc' := 73) (hb hby d_jdk_33_method_48_72) (z := (((if (16 : Int32) < (if (256 : Int32) < (if (65536 : Int32) < ((xiz_1 ^^^ (-1 : Int32)) &&& (xiz_1 - (1 : Int32))) then ((((xiz_1 ^^^ (-1 : Int32)) &&& (xiz_1 - (1 : Int32))).toUInt32 >>> ((16 : Int32) &&& 31).toUInt32).toInt32) else ((xiz_1 ^^^ (-1 : Int32)) &&& (xiz_1 - (1 : Int32)))) then (((if (65536 : Int32) < ((xiz_1 ^^^ (-1 : Int32)) &&& (xiz_1 - (1 : Int32))) then ((((xiz_1 ^^^ (-1 : Int32)) &&& (xiz_1 - (1 : Int32))).toUInt32 >>> ((16 : Int32) &&& 31).toUInt32).toInt32) else ((xiz_1 ^^^ (-1 : Int32)) &&& (xiz_1 - (1 : Int32)))).toUInt32 >>> ((8 : Int32) &&& 31).toUInt32).toInt32) else (if (65536 : Int32) < ((xiz_1 ^^^ (-1 : Int32)) &&& (xiz_1 - (1 : Int32))) then ((((xiz_1 ^^^ (-1 : Int32)) &&& (xiz_1 - (1 : Int32))).toUInt32 >>> ((16 : Int32) &&& 31).toUInt32).toInt32) else ((xiz_1 ^^^ (-1 : Int32)) &&& (xiz_1 - (1 : Int32))))) then (((if (256 : Int32) < (if (65536 : Int32) < ((xiz_1 ^^^ (-1 : Int32)) &&& (xiz_1 - (1 : Int32))) then ((((xiz_1 ^^^ (-1 : Int32)) &&& (xiz_1 - (1 : Int32))).toUInt32 >>> ((16 : Int32) &&& 31).toUInt32).toInt32) else ((xiz_1 ^^^ (-1 : Int32)) &&& (xiz_1 - (1 : Int32)))) then (((if (65536 : Int32) < ((xiz_1 ^^^ (-1 : Int32)) &&& (xiz_1 - (1 : Int32))) then ((((xiz_1 ^^^ (-1 : Int32)) &&& (xiz_1 - (1 : Int32))).toUInt32 >>> ((16 : Int32) &&& 31).toUInt32).toInt32) else ((xiz_1 ^^^ (-1 : Int32)) &&& (xiz_1 - (1 : Int32)))).toUInt32 >>> ((8 : Int32) &&& 31).toUInt32).toInt32) else (if (65536 : Int32) < ((xiz_1 ^^^ (-1 : Int32)) &&& (xiz_1 - (1 : Int32))) then ((((xiz_1 ^^^ (-1 : Int32)) &&& (xiz_1 - (1 : Int32))).toUInt32 >>> ((16 : Int32) &&& 31).toUInt32).toInt32) else ((xiz_1 ^^^ (-1 : Int32)) &&& (xiz_1 - (1 : Int32))))).toUInt32 >>> ((4 : Int32) &&& 31).toUInt32).toInt32) else (if (256 : Int32) < (if (65536 : Int32) < ((xiz_1 ^^^ (-1 : Int32)) &&& (xiz_1 - (1 : Int32))) then ((((xiz_1 ^^^ (-1 : Int32)) &&& (xiz_1 - (1 : Int32))).toUInt32 >>> ((16 : Int32) &&& 31).toUInt32).toInt32) else ((xiz_1 ^^^ (-1 : Int32)) &&& (xiz_1 - (1 : Int32)))) then (((if (65536 : Int32) < ((xiz_1 ^^^ (-1 : Int32)) &&& (xiz_1 - (1 : Int32))) then ((((xiz_1 ^^^ (-1 : Int32)) &&& (xiz_1 - (1 : Int32))).toUInt32 >>> ((16 : Int32) &&& 31).toUInt32).toInt32) else ((xiz_1 ^^^ (-1 : Int32)) &&& (xiz_1 - (1 : Int32)))).toUInt32 >>> ((8 : Int32) &&& 31).toUInt32).toInt32) else (if (65536 : Int32) < ((xiz_1 ^^^ (-1 : Int32)) &&& (xiz_1 - (1 : Int32))) then ((((xiz_1 ^^^ (-1 : Int32)) &&& (xiz_1 - (1 : Int32))).toUInt32 >>> ((16 : Int32) &&& 31).toUInt32).toInt32) else ((xiz_1 ^^^ (-1 : Int32)) &&& (xiz_1 - (1 : Int32)))))).toUInt32 >>> ((2 : Int32) &&& 31).toUInt32).toInt32)) rfl ?_
        refine Ow.istoreN X0 hx (pc' := 74) (hb hby d_jdk_33_method_48_73) (l' := #[.val (.int (((if (16 : Int32) < (if (256 : Int32) < (if (65536 : Int32) < ((xiz_1 ^^^ (-1 : Int32)) &&& (xiz_1 - (1 : Int32))) then ((((xiz_1 ^^^ (-1 : Int32)) &&& (xiz_1 - (1 : Int32))).toUInt32 >>> ((16 : Int32) &&& 31).toUInt32).toInt32) else ((xiz_1 ^^^ (-1 : Int32)) &&& (xiz_1 - (1 : Int32)))) then (((if (65536 : Int32) < ((xiz_1 ^^^ (-1 : Int32)) &&& (xiz_1 - (1 : Int32))) then ((((xiz_1 ^^^ (-1 : Int32)) &&& (xiz_1 - (1 : Int32))).toUInt32 >>> ((16 : Int32) &&& 31).toUInt32).toInt32) else ((xiz_1 ^^^ (-1 : Int32)) &&& (xiz_1 - (1 : Int32)))).toUInt32 >>> ((8 : Int32) &&& 31).toUInt32).toInt32) else (if (65536 : Int32) < ((xiz_1 ^^^ (-1 : Int32)) &&& (xiz_1 - (1 : Int32))) then ((((xiz_1 ^^^ (-1 : Int32)) &&& (xiz_1 - (1 : Int32))).toUInt32 >>> ((16 : Int32) &&& 31).toUInt32).toInt32) else ((xiz_1 ^^^ (-1 : Int32)) &&& (xiz_1 - (1 : Int32))))) then (((if (256 : Int32) < (if (65536 : Int32) < ((xiz_1 ^^^ (-1 : Int32)) &&& (xiz_1 - (1 : Int32))) then ((((xiz_1 ^^^ (-1 : Int32)) &&& (xiz_1 - (1 : Int32))).toUInt32 >>> ((16 : Int32) &&& 31).toUInt32).toInt32) else ((xiz_1 ^^^ (-1 : Int32)) &&& (xiz_1 - (1 : Int32)))) then (((if (65536 : Int32) < ((xiz_1 ^^^ (-1 : Int32)) &&& (xiz_1 - (1 : Int32))) then ((((xiz_1 ^^^ (-1 : Int32)) &&& (xiz_1 - (1 : Int32))).toUInt32 >>> ((16 : Int32) &&& 31).toUInt32).toInt32) else ((xiz_1 ^^^ (-1 : Int32)) &&& (xiz_1 - (1 : Int32)))).toUInt32 >>> ((8 : Int32) &&& 31).toUInt32).toInt32) else (if (65536 : Int32) < ((xiz_1 ^^^ (-1 : Int32)) &&& (xiz_1 - (1 : Int32))) then ((((xiz_1 ^^^ (-1 : Int32)) &&& (xiz_1 - (1 : Int32))).toUInt32 >>> ((16 : Int32) &&& 31).toUInt32).toInt32) else ((xiz_1 ^^^ (-1 : Int32)) &&& (xiz_1 - (1 : Int32))))).toUInt32 >>> ((4 : Int32) &&& 31).toUInt32).toInt32) else (if (256 : Int32) < (if (65536 : Int32) < ((xiz_1 ^^^ (-1 : Int32)) &&& (xiz_1 - (1 : Int32))) then ((((xiz_1 ^^^ (-1 : Int32)) &&& (xiz_1 - (1 : Int32))).toUInt32 >>> ((16 : Int32) &&& 31).toUInt32).toInt32) else ((xiz_1 ^^^ (-1 : Int32)) &&& (xiz_1 - (1 : Int32)))) then (((if (65536 : Int32) < ((xiz_1 ^^^ (-1 : Int32)) &&& (xiz_1 - (1 : Int32))) then ((((xiz_1 ^^^ (-1 : Int32)) &&& (xiz_1 - (1 : Int32))).toUInt32 >>> ((16 : Int32) &&& 31).toUInt32).toInt32) else ((xiz_1 ^^^ (-1 : Int32)) &&& (xiz_1 - (1 : Int32)))).toUInt32 >>> ((8 : Int32) &&& 31).toUInt32).toInt32) else (if (65536 : Int32) < ((xiz_1 ^^^ (-1 : Int32)) &&& (xiz_1 - (1 : Int32))) then ((((xiz_1 ^^^ (-1 : Int32)) &&& (xiz_1 - (1 : Int32))).toUInt32 >>> ((16 : Int32) &&& 31).toUInt32).toInt32) else ((xiz_1 ^^^ (-1 : Int32)) &&& (xiz_1 - (1 : Int32)))))).toUInt32 >>> ((2 : Int32) &&& 31).toUInt32).toInt32)), .val (.int ((if (16 : Int32) < (if (256 : Int32) < (if (65536 : Int32) < ((xiz_1 ^^^ (-1 : Int32)) &&& (xiz_1 - (1 : Int32))) then ((((xiz_1 ^^^ (-1 : Int32)) &&& (xiz_1 - (1 : Int32))).toUInt32 >>> ((16 : Int32) &&& 31).toUInt32).toInt32) else ((xiz_1 ^^^ (-1 : Int32)) &&& (xiz_1 - (1 : Int32)))) then (((if (65536 : Int32) < ((xiz_1 ^^^ (-1 : Int32)) &&& (xiz_1 - (1 : Int32))) then ((((xiz_1 ^^^ (-1 : Int32)) &&& (xiz_1 - (1 : Int32))).toUInt32 >>> ((16 : Int32) &&& 31).toUInt32).toInt32) else ((xiz_1 ^^^ (-1 : Int32)) &&& (xiz_1 - (1 : Int32)))).toUInt32 >>> ((8 : Int32) &&& 31).toUInt32).toInt32) else (if (65536 : Int32) < ((xiz_1 ^^^ (-1 : Int32)) &&& (xiz_1 - (1 : Int32))) then ((((xiz_1 ^^^ (-1 : Int32)) &&& (xiz_1 - (1 : Int32))).toUInt32 >>> ((16 : Int32) &&& 31).toUInt32).toInt32) else ((xiz_1 ^^^ (-1 : Int32)) &&& (xiz_1 - (1 : Int32))))) then ((if (256 : Int32) < (if (65536 : Int32) < ((xiz_1 ^^^ (-1 : Int32)) &&& (xiz_1 - (1 : Int32))) then ((((xiz_1 ^^^ (-1 : Int32)) &&& (xiz_1 - (1 : Int32))).toUInt32 >>> ((16 : Int32) &&& 31).toUInt32).toInt32) else ((xiz_1 ^^^ (-1 : Int32)) &&& (xiz_1 - (1 : Int32)))) then ((if (65536 : Int32) < ((xiz_1 ^^^ (-1 : Int32)) &&& (xiz_1 - (1 : Int32))) then (17 : Int32) else (1 : Int32)) + (8 : Int32)) else (if (65536 : Int32) < ((xiz_1 ^^^ (-1 : Int32)) &&& (xiz_1 - (1 : Int32))) then (17 : Int32) else (1 : Int32))) + (4 : Int32)) else (if (256 : Int32) < (if (65536 : Int32) < ((xiz_1 ^^^ (-1 : Int32)) &&& (xiz_1 - (1 : Int32))) then ((((xiz_1 ^^^ (-1 : Int32)) &&& (xiz_1 - (1 : Int32))).toUInt32 >>> ((16 : Int32) &&& 31).toUInt32).toInt32) else ((xiz_1 ^^^ (-1 : Int32)) &&& (xiz_1 - (1 : Int32)))) then ((if (65536 : Int32) < ((xiz_1 ^^^ (-1 : Int32)) &&& (xiz_1 - (1 : Int32))) then (17 : Int32) else (1 : Int32)) + (8 : Int32)) else (if (65536 : Int32) < ((xiz_1 ^^^ (-1 : Int32)) &&& (xiz_1 - (1 : Int32))) then (17 : Int32) else (1 : Int32)))) + (2 : Int32)))]) rfl ?_
        simp only [if_pos hm64] at k
        exact k
      · skip
        refine Ow.icmpYes X0 hx (pc' := 74) (hb hby d_jdk_33_method_48_64) (flt hm64).2.2.2 (by decide) (by decide) ?_
        simp only [if_neg hm64] at k
        exact k
    refine Ow.iloadN X0 hx (pc' := 75) (hb hby d_jdk_33_method_48_74) rfl ?_
    refine Ow.iloadN X0 hx (pc' := 76) (hb hby d_jdk_33_method_48_75) rfl ?_
    refine Ow.iconst X0 hx (pc' := 77) (hb hby d_jdk_33_method_48_76) (z := (1 : Int32)) rfl ?_
    refine Ow.iushr X0 hx (pc' := 78) (hb hby d_jdk_33_method_48_77) (z := (((if (4 : Int32) < (if (16 : Int32) < (if (256 : Int32) < (if (65536 : Int32) < ((xiz_1 ^^^ (-1 : Int32)) &&& (xiz_1 - (1 : Int32))) then ((((xiz_1 ^^^ (-1 : Int32)) &&& (xiz_1 - (1 : Int32))).toUInt32 >>> ((16 : Int32) &&& 31).toUInt32).toInt32) else ((xiz_1 ^^^ (-1 : Int32)) &&& (xiz_1 - (1 : Int32)))) then (((if (65536 : Int32) < ((xiz_1 ^^^ (-1 : Int32)) &&& (xiz_1 - (1 : Int32))) then ((((xiz_1 ^^^ (-1 : Int32)) &&& (xiz_1 - (1 : Int32))).toUInt32 >>> ((16 : Int32) &&& 31).toUInt32).toInt32) else ((xiz_1 ^^^ (-1 : Int32)) &&& (xiz_1 - (1 : Int32)))).toUInt32 >>> ((8 : Int32) &&& 31).toUInt32).toInt32) else (if (65536 : Int32) < ((xiz_1 ^^^ (-1 : Int32)) &&& (xiz_1 - (1 : Int32))) then ((((xiz_1 ^^^ (-1 : Int32)) &&& (xiz_1 - (1 : Int32))).toUInt32 >>> ((16 : Int32) &&& 31).toUInt32).toInt32) else ((xiz_1 ^^^ (-1 : Int32)) &&& (xiz_1 - (1 : Int32))))) then (((if (256 : Int32) < (if (65536 : Int32) < ((xiz_1 ^^^ (-1 : Int32)) &&& (xiz_1 - (1 : Int32))) then ((((xiz_1 ^^^ (-1 : Int32)) &&& (xiz_1 - (1 : Int32))).toUInt32 >>> ((16 : Int32) &&& 31).toUInt32).toInt32) else ((xiz_1 ^^^ (-1 : Int32)) &&& (xiz_1 - (1 : Int32)))) then (((if (65536 : Int32) < ((xiz_1 ^^^ (-1 : Int32)) &&& (xiz_1 - (1 : Int32))) then ((((xiz_1 ^^^ (-1 : Int32)) &&& (xiz_1 - (1 : Int32))).toUInt32 >>> ((16 : Int32) &&& 31).toUInt32).toInt32) else ((xiz_1 ^^^ (-1 : Int32)) &&& (xiz_1 - (1 : Int32)))).toUInt32 >>> ((8 : Int32) &&& 31).toUInt32).toInt32) else (if (65536 : Int32) < ((xiz_1 ^^^ (-1 : Int32)) &&& (xiz_1 - (1 : Int32))) then ((((xiz_1 ^^^ (-1 : Int32)) &&& (xiz_1 - (1 : Int32))).toUInt32 >>> ((16 : Int32) &&& 31).toUInt32).toInt32) else ((xiz_1 ^^^ (-1 : Int32)) &&& (xiz_1 - (1 : Int32))))).toUInt32 >>> ((4 : Int32) &&& 31).toUInt32).toInt32) else (if (256 : Int32) < (if (65536 : Int32) < ((xiz_1 ^^^ (-1 : Int32)) &&& (xiz_1 - (1 : Int32))) then ((((xiz_1 ^^^ (-1 : Int32)) &&& (xiz_1 - (1 : Int32))).toUInt32 >>> ((16 : Int32) &&& 31).toUInt32).toInt32) else ((xiz_1 ^^^ (-1 : Int32)) &&& (xiz_1 - (1 : Int32)))) then (((if (65536 : Int32) < ((xiz_1 ^^^ (-1 : Int32)) &&& (xiz_1 - (1 : Int32))) then ((((xiz_1 ^^^ (-1 : Int32)) &&& (xiz_1 - (1 : Int32))).toUInt32 >>> ((16 : Int32) &&& 31).toUInt32).toInt32) else ((xiz_1 ^^^ (-1 : Int32)) &&& (xiz_1 - (1 : Int32)))).toUInt32 >>> ((8 : Int32) &&& 31).toUInt32).toInt32) else (if (65536 : Int32) < ((xiz_1 ^^^ (-1 : Int32)) &&& (xiz_1 - (1 : Int32))) then ((((xiz_1 ^^^ (-1 : Int32)) &&& (xiz_1 - (1 : Int32))).toUInt32 >>> ((16 : Int32) &&& 31).toUInt32).toInt32) else ((xiz_1 ^^^ (-1 : Int32)) &&& (xiz_1 - (1 : Int32)))))) then (((if (16 : Int32) < (if (256 : Int32) < (if (65536 : Int32) < ((xiz_1 ^^^ (-1 : Int32)) &&& (xiz_1 - (1 : Int32))) then ((((xiz_1 ^^^ (-1 : Int32)) &&& (xiz_1 - (1 : Int32))).toUInt32 >>> ((16 : Int32) &&& 31).toUInt32).toInt32) else ((xiz_1 ^^^ (-1 : Int32)) &&& (xiz_1 - (1 : Int32)))) then (((if (65536 : Int32) < ((xiz_1 ^^^ (-1 : Int32)) &&& (xiz_1 - (1 : Int32))) then ((((xiz_1 ^^^ (-1 : Int32)) &&& (xiz_1 - (1 : Int32))).toUInt32 >>> ((16 : Int32) &&& 31).toUInt32).toInt32) else ((xiz_1 ^^^ (-1 : Int32)) &&& (xiz_1 - (1 : Int32)))).toUInt32 >>> ((8 : Int32) &&& 31).toUInt32).toInt32) else (if (65536 : Int32) < ((xiz_1 ^^^ (-1 : Int32)) &&& (xiz_1 - (1 : Int32))) then ((((xiz_1 ^^^ (-1 : Int32)) &&& (xiz_1 - (1 : Int32))).toUInt32 >>> ((16 : Int32) &&& 31).toUInt32).toInt32) else ((xiz_1 ^^^ (-1 : Int32)) &&& (xiz_1 - (1 : Int32))))) then (((if (256 : Int32) < (if (65536 : Int32) < ((xiz_1 ^^^ (-1 : Int32)) &&& (xiz_1 - (1 : Int32))) then ((((xiz_1 ^^^ (-1 : Int32)) &&& (xiz_1 - (1 : Int32))).toUInt32 >>> ((16 : Int32) &&& 31).toUInt32).toInt32) else ((xiz_1 ^^^ (-1 : Int32)) &&& (xiz_1 - (1 : Int32)))) then (((if (65536 : Int32) < ((xiz_1 ^^^ (-1 : Int32)) &&& (xiz_1 - (1 : Int32))) then ((((xiz_1 ^^^ (-1 : Int32)) &&& (xiz_1 - (1 : Int32))).toUInt32 >>> ((16 : Int32) &&& 31).toUInt32).toInt32) else ((xiz_1 ^^^ (-1 : Int32)) &&& (xiz_1 - (1 : Int32)))).toUInt32 >>> ((8 : Int32) &&& 31).toUInt32).toInt32) else (if (65536 : Int32) < ((xiz_1 ^^^ (-1 : Int32)) &&& (xiz_1 - (1 : Int32))) then ((((xiz_1 ^^^ (-1 : Int32)) &&& (xiz_1 - (1 : Int32))).toUInt32 >>> ((16 : Int32) &&& 31).toUInt32).toInt32) else ((xiz_1 ^^^ (-1 : Int32)) &&& (xiz_1 - (1 : Int32))))).toUInt32 >>> ((4 : Int32) &&& 31).toUInt32).toInt32) else (if (256 : Int32) < (if (65536 : Int32) < ((xiz_1 ^^^ (-1 : Int32)) &&& (xiz_1 - (1 : Int32))) then ((((xiz_1 ^^^ (-1 : Int32)) &&& (xiz_1 - (1 : Int32))).toUInt32 >>> ((16 : Int32) &&& 31).toUInt32).toInt32) else ((xiz_1 ^^^ (-1 : Int32)) &&& (xiz_1 - (1 : Int32)))) then (((if (65536 : Int32) < ((xiz_1 ^^^ (-1 : Int32)) &&& (xiz_1 - (1 : Int32))) then ((((xiz_1 ^^^ (-1 : Int32)) &&& (xiz_1 - (1 : Int32))).toUInt32 >>> ((16 : Int32) &&& 31).toUInt32).toInt32) else ((xiz_1 ^^^ (-1 : Int32)) &&& (xiz_1 - (1 : Int32)))).toUInt32 >>> ((8 : Int32) &&& 31).toUInt32).toInt32) else (if (65536 : Int32) < ((xiz_1 ^^^ (-1 : Int32)) &&& (xiz_1 - (1 : Int32))) then ((((xiz_1 ^^^ (-1 : Int32)) &&& (xiz_1 - (1 : Int32))).toUInt32 >>> ((16 : Int32) &&& 31).toUInt32).toInt32) else ((xiz_1 ^^^ (-1 : Int32)) &&& (xiz_1 - (1 : Int32)))))).toUInt32 >>> ((2 : Int32) &&& 31).toUInt32).toInt32) else (if (16 : Int32) < (if (256 : Int32) < (if (65536 : Int32) < ((xiz_1 ^^^ (-1 : Int32)) &&& (xiz_1 - (1 : Int32))) then ((((xiz_1 ^^^ (-1 : Int32)) &&& (xiz_1 - (1 : Int32))).toUInt32 >>> ((16 : Int32) &&& 31).toUInt32).toInt32) else ((xiz_1 ^^^ (-1 : Int32)) &&& (xiz_1 - (1 : Int32)))) then (((if (65536 : Int32) < ((xiz_1 ^^^ (-1 : Int32)) &&& (xiz_1 - (1 : Int32))) then ((((xiz_1 ^^^ (-1 : Int32)) &&& (xiz_1 - (1 : Int32))).toUInt32 >>> ((16 : Int32) &&& 31).toUInt32).toInt32) else ((xiz_1 ^^^ (-1 : Int32)) &&& (xiz_1 - (1 : Int32)))).toUInt32 >>> ((8 : Int32) &&& 31).toUInt32).toInt32) else (if (65536 : Int32) < ((xiz_1 ^^^ (-1 : Int32)) &&& (xiz_1 - (1 : Int32))) then ((((xiz_1 ^^^ (-1 : Int32)) &&& (xiz_1 - (1 : Int32))).toUInt32 >>> ((16 : Int32) &&& 31).toUInt32).toInt32) else ((xiz_1 ^^^ (-1 : Int32)) &&& (xiz_1 - (1 : Int32))))) then (((if (256 : Int32) < (if (65536 : Int32) < ((xiz_1 ^^^ (-1 : Int32)) &&& (xiz_1 - (1 : Int32))) then ((((xiz_1 ^^^ (-1 : Int32)) &&& (xiz_1 - (1 : Int32))).toUInt32 >>> ((16 : Int32) &&& 31).toUInt32).toInt32) else ((xiz_1 ^^^ (-1 : Int32)) &&& (xiz_1 - (1 : Int32)))) then (((if (65536 : Int32) < ((xiz_1 ^^^ (-1 : Int32)) &&& (xiz_1 - (1 : Int32))) then ((((xiz_1 ^^^ (-1 : Int32)) &&& (xiz_1 - (1 : Int32))).toUInt32 >>> ((16 : Int32) &&& 31).toUInt32).toInt32) else ((xiz_1 ^^^ (-1 : Int32)) &&& (xiz_1 - (1 : Int32)))).toUInt32 >>> ((8 : Int32) &&& 31).toUInt32).toInt32) else (if (65536 : Int32) < ((xiz_1 ^^^ (-1 : Int32)) &&& (xiz_1 - (1 : Int32))) then ((((xiz_1 ^^^ (-1 : Int32)) &&& (xiz_1 - (1 : Int32))).toUInt32 >>> ((16 : Int32) &&& 31).toUInt32).toInt32) else ((xiz_1 ^^^ (-1 : Int32)) &&& (xiz_1 - (1 : Int32))))).toUInt32 >>> ((4 : Int32) &&& 31).toUInt32).toInt32) else (if (256 : Int32) < (if (65536 : Int32) < ((xiz_1 ^^^ (-1 : Int32)) &&& (xiz_1 - (1 : Int32))) then ((((xiz_1 ^^^ (-1 : Int32)) &&& (xiz_1 - (1 : Int32))).toUInt32 >>> ((16 : Int32) &&& 31).toUInt32).toInt32) else ((xiz_1 ^^^ (-1 : Int32)) &&& (xiz_1 - (1 : Int32)))) then (((if (65536 : Int32) < ((xiz_1 ^^^ (-1 : Int32)) &&& (xiz_1 - (1 : Int32))) then ((((xiz_1 ^^^ (-1 : Int32)) &&& (xiz_1 - (1 : Int32))).toUInt32 >>> ((16 : Int32) &&& 31).toUInt32).toInt32) else ((xiz_1 ^^^ (-1 : Int32)) &&& (xiz_1 - (1 : Int32)))).toUInt32 >>> ((8 : Int32) &&& 31).toUInt32).toInt32) else (if (65536 : Int32) < ((xiz_1 ^^^ (-1 : Int32)) &&& (xiz_1 - (1 : Int32))) then ((((xiz_1 ^^^ (-1 : Int32)) &&& (xiz_1 - (1 : Int32))).toUInt32 >>> ((16 : Int32) &&& 31).toUInt32).toInt32) else ((xiz_1 ^^^ (-1 : Int32)) &&& (xiz_1 - (1 : Int32))))))).toUInt32 >>> ((1 : Int32) &&& 31).toUInt32).toInt32)) rfl ?_
    refine Ow.iadd X0 hx (pc' := 79) (hb hby d_jdk_33_method_48_78) (z := ((if (4 : Int32) < (if (16 : Int32) < (if (256 : Int32) < (if (65536 : Int32) < ((xiz_1 ^^^ (-1 : Int32)) &&& (xiz_1 - (1 : Int32))) then ((((xiz_1 ^^^ (-1 : Int32)) &&& (xiz_1 - (1 : Int32))).toUInt32 >>> ((16 : Int32) &&& 31).toUInt32).toInt32) else ((xiz_1 ^^^ (-1 : Int32)) &&& (xiz_1 - (1 : Int32)))) then (((if (65536 : Int32) < ((xiz_1 ^^^ (-1 : Int32)) &&& (xiz_1 - (1 : Int32))) then ((((xiz_1 ^^^ (-1 : Int32)) &&& (xiz_1 - (1 : Int32))).toUInt32 >>> ((16 : Int32) &&& 31).toUInt32).toInt32) else ((xiz_1 ^^^ (-1 : Int32)) &&& (xiz_1 - (1 : Int32)))).toUInt32 >>> ((8 : Int32) &&& 31).toUInt32).toInt32) else (if (65536 : Int32) < ((xiz_1 ^^^ (-1 : Int32)) &&& (xiz_1 - (1 : Int32))) then ((((xiz_1 ^^^ (-1 : Int32)) &&& (xiz_1 - (1 : Int32))).toUInt32 >>> ((16 : Int32) &&& 31).toUInt32).toInt32) else ((xiz_1 ^^^ (-1 : Int32)) &&& (xiz_1 - (1 : Int32))))) then (((if (256 : Int32) < (if (65536 : Int32) < ((xiz_1 ^^^ (-1 : Int32)) &&& (xiz_1 - (1 : Int32))) then ((((xiz_1 ^^^ (-1 : Int32)) &&& (xiz_1 - (1 : Int32))).toUInt32 >>> ((16 : Int32) &&& 31).toUInt32).toInt32) else ((xiz_1 ^^^ (-1 : Int32)) &&& (xiz_1 - (1 : Int32)))) then (((if (65536 : Int32) < ((xiz_1 ^^^ (-1 : Int32)) &&& (xiz_1 - (1 : Int32))) then ((((xiz_1 ^^^ (-1 : Int32)) &&& (xiz_1 - (1 : Int32))).toUInt32 >>> ((16 : Int32) &&& 31).toUInt32).toInt32) else ((xiz_1 ^^^ (-1 : Int32)) &&& (xiz_1 - (1 : Int32)))).toUInt32 >>> ((8 : Int32) &&& 31).toUInt32).toInt32) else (if (65536 : Int32) < ((xiz_1 ^^^ (-1 : Int32)) &&& (xiz_1 - (1 : Int32))) then ((((xiz_1 ^^^ (-1 : Int32)) &&& (xiz_1 - (1 : Int32))).toUInt32 >>> ((16 : Int32) &&& 31).toUInt32).toInt32) else ((xiz_1 ^^^ (-1 : Int32)) &&& (xiz_1 - (1 : Int32))))).toUInt32 >>> ((4 : Int32) &&& 31).toUInt32).toInt32) else (if (256 : Int32) < (if (65536 : Int32) < ((xiz_1 ^^^ (-1 : Int32)) &&& (xiz_1 - (1 : Int32))) then ((((xiz_1 ^^^ (-1 : Int32)) &&& (xiz_1 - (1 : Int32))).toUInt32 >>> ((16 : Int32) &&& 31).toUInt32).toInt32) else ((xiz_1 ^^^ (-1 : Int32)) &&& (xiz_1 - (1 : Int32)))) then (((if (65536 : Int32) < ((xiz_1 ^^^ (-1 : Int32)) &&& (xiz_1 - (1 : Int32))) then ((((xiz_1 ^^^ (-1 : Int32)) &&& (xiz_1 - (1 : Int32))).toUInt32 >>> ((16 : Int32) &&& 31).toUInt32).toInt32) else ((xiz_1 ^^^ (-1 : Int32)) &&& (xiz_1 - (1 : Int32)))).toUInt32 >>> ((8 : Int32) &&& 31).toUInt32).toInt32) else (if (65536 : Int32) < ((xiz_1 ^^^ (-1 : Int32)) &&& (xiz_1 - (1 : Int32))) then ((((xiz_1 ^^^ (-1 : Int32)) &&& (xiz_1 - (1 : Int32))).toUInt32 >>> ((16 : Int32) &&& 31).toUInt32).toInt32) else ((xiz_1 ^^^ (-1 : Int32)) &&& (xiz_1 - (1 : Int32)))))) then ((if (16 : Int32) < (if (256 : Int32) < (if (65536 : Int32) < ((xiz_1 ^^^ (-1 : Int32)) &&& (xiz_1 - (1 : Int32))) then ((((xiz_1 ^^^ (-1 : Int32)) &&& (xiz_1 - (1 : Int32))).toUInt32 >>> ((16 : Int32) &&& 31).toUInt32).toInt32) else ((xiz_1 ^^^ (-1 : Int32)) &&& (xiz_1 - (1 : Int32)))) then (((if (65536 : Int32) < ((xiz_1 ^^^ (-1 : Int32)) &&& (xiz_1 - (1 : Int32))) then ((((xiz_1 ^^^ (-1 : Int32)) &&& (xiz_1 - (1 : Int32))).toUInt32 >>> ((16 : Int32) &&& 31).toUInt32).toInt32) else ((xiz_1 ^^^ (-1 : Int32)) &&& (xiz_1 - (1 : Int32)))).toUInt32 >>> ((8 : Int32) &&& 31).toUInt32).toInt32) else (if (65536 : Int32) < ((xiz_1 ^^^ (-1 : Int32)) &&& (xiz_1 - (1 : Int32))) then ((((xiz_1 ^^^ (-1 : Int32)) &&& (xiz_1 - (1 : Int32))).toUInt32 >>> ((16 : Int32) &&& 31).toUInt32).toInt32) else ((xiz_1 ^^^ (-1 : Int32)) &&& (xiz_1 - (1 : Int32))))) then ((if (256 : Int32) < (if (65536 : Int32) < ((xiz_1 ^^^ (-1 : Int32)) &&& (xiz_1 - (1 : Int32))) then ((((xiz_1 ^^^ (-1 : Int32)) &&& (xiz_1 - (1 : Int32))).toUInt32 >>> ((16 : Int32) &&& 31).toUInt32).toInt32) else ((xiz_1 ^^^ (-1 : Int32)) &&& (xiz_1 - (1 : Int32)))) then ((if (65536 : Int32) < ((xiz_1 ^^^ (-1 : Int32)) &&& (xiz_1 - (1 : Int32))) then (17 : Int32) else (1 : Int32)) + (8 : Int32)) else (if (65536 : Int32) < ((xiz_1 ^^^ (-1 : Int32)) &&& (xiz_1 - (1 : Int32))) then (17 : Int32) else (1 : Int32))) + (4 : Int32)) else (if (256 : Int32) < (if (65536 : Int32) < ((xiz_1 ^^^ (-1 : Int32)) &&& (xiz_1 - (1 : Int32))) then ((((xiz_1 ^^^ (-1 : Int32)) &&& (xiz_1 - (1 : Int32))).toUInt32 >>> ((16 : Int32) &&& 31).toUInt32).toInt32) else ((xiz_1 ^^^ (-1 : Int32)) &&& (xiz_1 - (1 : Int32)))) then ((if (65536 : Int32) < ((xiz_1 ^^^ (-1 : Int32)) &&& (xiz_1 - (1 : Int32))) then (17 : Int32) else (1 : Int32)) + (8 : Int32)) else (if (65536 : Int32) < ((xiz_1 ^^^ (-1 : Int32)) &&& (xiz_1 - (1 : Int32))) then (17 : Int32) else (1 : Int32)))) + (2 : Int32)) else (if (16 : Int32) < (if (256 : Int32) < (if (65536 : Int32) < ((xiz_1 ^^^ (-1 : Int32)) &&& (xiz_1 - (1 : Int32))) then ((((xiz_1 ^^^ (-1 : Int32)) &&& (xiz_1 - (1 : Int32))).toUInt32 >>> ((16 : Int32) &&& 31).toUInt32).toInt32) else ((xiz_1 ^^^ (-1 : Int32)) &&& (xiz_1 - (1 : Int32)))) then (((if (65536 : Int32) < ((xiz_1 ^^^ (-1 : Int32)) &&& (xiz_1 - (1 : Int32))) then ((((xiz_1 ^^^ (-1 : Int32)) &&& (xiz_1 - (1 : Int32))).toUInt32 >>> ((16 : Int32) &&& 31).toUInt32).toInt32) else ((xiz_1 ^^^ (-1 : Int32)) &&& (xiz_1 - (1 : Int32)))).toUInt32 >>> ((8 : Int32) &&& 31).toUInt32).toInt32) else (if (65536 : Int32) < ((xiz_1 ^^^ (-1 : Int32)) &&& (xiz_1 - (1 : Int32))) then ((((xiz_1 ^^^ (-1 : Int32)) &&& (xiz_1 - (1 : Int32))).toUInt32 >>> ((16 : Int32) &&& 31).toUInt32).toInt32) else ((xiz_1 ^^^ (-1 : Int32)) &&& (xiz_1 - (1 : Int32))))) then ((if (256 : Int32) < (if (65536 : Int32) < ((xiz_1 ^^^ (-1 : Int32)) &&& (xiz_1 - (1 : Int32))) then ((((xiz_1 ^^^ (-1 : Int32)) &&& (xiz_1 - (1 : Int32))).toUInt32 >>> ((16 : Int32) &&& 31).toUInt32).toInt32) else ((xiz_1 ^^^ (-1 : Int32)) &&& (xiz_1 - (1 : Int32)))) then ((if (65536 : Int32) < ((xiz_1 ^^^ (-1 : Int32)) &&& (xiz_1 - (1 : Int32))) then (17 : Int32) else (1 : Int32)) + (8 : Int32)) else (if (65536 : Int32) < ((xiz_1 ^^^ (-1 : Int32)) &&& (xiz_1 - (1 : Int32))) then (17 : Int32) else (1 : Int32))) + (4 : Int32)) else (if (256 : Int32) < (if (65536 : Int32) < ((xiz_1 ^^^ (-1 : Int32)) &&& (xiz_1 - (1 : Int32))) then ((((xiz_1 ^^^ (-1 : Int32)) &&& (xiz_1 - (1 : Int32))).toUInt32 >>> ((16 : Int32) &&& 31).toUInt32).toInt32) else ((xiz_1 ^^^ (-1 : Int32)) &&& (xiz_1 - (1 : Int32)))) then ((if (65536 : Int32) < ((xiz_1 ^^^ (-1 : Int32)) &&& (xiz_1 - (1 : Int32))) then (17 : Int32) else (1 : Int32)) + (8 : Int32)) else (if (65536 : Int32) < ((xiz_1 ^^^ (-1 : Int32)) &&& (xiz_1 - (1 : Int32))) then (17 : Int32) else (1 : Int32))))) + (((if (4 : Int32) < (if (16 : Int32) < (if (256 : Int32) < (if (65536 : Int32) < ((xiz_1 ^^^ (-1 : Int32)) &&& (xiz_1 - (1 : Int32))) then ((((xiz_1 ^^^ (-1 : Int32)) &&& (xiz_1 - (1 : Int32))).toUInt32 >>> ((16 : Int32) &&& 31).toUInt32).toInt32) else ((xiz_1 ^^^ (-1 : Int32)) &&& (xiz_1 - (1 : Int32)))) then (((if (65536 : Int32) < ((xiz_1 ^^^ (-1 : Int32)) &&& (xiz_1 - (1 : Int32))) then ((((xiz_1 ^^^ (-1 : Int32)) &&& (xiz_1 - (1 : Int32))).toUInt32 >>> ((16 : Int32) &&& 31).toUInt32).toInt32) else ((xiz_1 ^^^ (-1 : Int32)) &&& (xiz_1 - (1 : Int32)))).toUInt32 >>> ((8 : Int32) &&& 31).toUInt32).toInt32) else (if (65536 : Int32) < ((xiz_1 ^^^ (-1 : Int32)) &&& (xiz_1 - (1 : Int32))) then ((((xiz_1 ^^^ (-1 : Int32)) &&& (xiz_1 - (1 : Int32))).toUInt32 >>> ((16 : Int32) &&& 31).toUInt32).toInt32) else ((xiz_1 ^^^ (-1 : Int32)) &&& (xiz_1 - (1 : Int32))))) then (((if (256 : Int32) < (if (65536 : Int32) < ((xiz_1 ^^^ (-1 : Int32)) &&& (xiz_1 - (1 : Int32))) then ((((xiz_1 ^^^ (-1 : Int32)) &&& (xiz_1 - (1 : Int32))).toUInt32 >>> ((16 : Int32) &&& 31).toUInt32).toInt32) else ((xiz_1 ^^^ (-1 : Int32)) &&& (xiz_1 - (1 : Int32)))) then (((if (65536 : Int32) < ((xiz_1 ^^^ (-1 : Int32)) &&& (xiz_1 - (1 : Int32))) then ((((xiz_1 ^^^ (-1 : Int32)) &&& (xiz_1 - (1 : Int32))).toUInt32 >>> ((16 : Int32) &&& 31).toUInt32).toInt32) else ((xiz_1 ^^^ (-1 : Int32)) &&& (xiz_1 - (1 : Int32)))).toUInt32 >>> ((8 : Int32) &&& 31).toUInt32).toInt32) else (if (65536 : Int32) < ((xiz_1 ^^^ (-1 : Int32)) &&& (xiz_1 - (1 : Int32))) then ((((xiz_1 ^^^ (-1 : Int32)) &&& (xiz_1 - (1 : Int32))).toUInt32 >>> ((16 : Int32) &&& 31).toUInt32).toInt32) else ((xiz_1 ^^^ (-1 : Int32)) &&& (xiz_1 - (1 : Int32))))).toUInt32 >>> ((4 : Int32) &&& 31).toUInt32).toInt32) else (if (256 : Int32) < (if (65536 : Int32) < ((xiz_1 ^^^ (-1 : Int32)) &&& (xiz_1 - (1 : Int32))) then ((((xiz_1 ^^^ (-1 : Int32)) &&& (xiz_1 - (1 : Int32))).toUInt32 >>> ((16 : Int32) &&& 31).toUInt32).toInt32) else ((xiz_1 ^^^ (-1 : Int32)) &&& (xiz_1 - (1 : Int32)))) then (((if (65536 : Int32) < ((xiz_1 ^^^ (-1 : Int32)) &&& (xiz_1 - (1 : Int32))) then ((((xiz_1 ^^^ (-1 : Int32)) &&& (xiz_1 - (1 : Int32))).toUInt32 >>> ((16 : Int32) &&& 31).toUInt32).toInt32) else ((xiz_1 ^^^ (-1 : Int32)) &&& (xiz_1 - (1 : Int32)))).toUInt32 >>> ((8 : Int32) &&& 31).toUInt32).toInt32) else (if (65536 : Int32) < ((xiz_1 ^^^ (-1 : Int32)) &&& (xiz_1 - (1 : Int32))) then ((((xiz_1 ^^^ (-1 : Int32)) &&& (xiz_1 - (1 : Int32))).toUInt32 >>> ((16 : Int32) &&& 31).toUInt32).toInt32) else ((xiz_1 ^^^ (-1 : Int32)) &&& (xiz_1 - (1 : Int32)))))) then (((if (16 : Int32) < (if (256 : Int32) < (if (65536 : Int32) < ((xiz_1 ^^^ (-1 : Int32)) &&& (xiz_1 - (1 : Int32))) then ((((xiz_1 ^^^ (-1 : Int32)) &&& (xiz_1 - (1 : Int32))).toUInt32 >>> ((16 : Int32) &&& 31).toUInt32).toInt32) else ((xiz_1 ^^^ (-1 : Int32)) &&& (xiz_1 - (1 : Int32)))) then (((if (65536 : Int32) < ((xiz_1 ^^^ (-1 : Int32)) &&& (xiz_1 - (1 : Int32))) then ((((xiz_1 ^^^ (-1 : Int32)) &&& (xiz_1 - (1 : Int32))).toUInt32 >>> ((16 : Int32) &&& 31).toUInt32).toInt32) else ((xiz_1 ^^^ (-1 : Int32)) &&& (xiz_1 - (1 : Int32)))).toUInt32 >>> ((8 : Int32) &&& 31).toUInt32).toInt32) else (if (65536 : Int32) < ((xiz_1 ^^^ (-1 : Int32)) &&& (xiz_1 - (1 : Int32))) then ((((xiz_1 ^^^ (-1 : Int32)) &&& (xiz_1 - (1 : Int32))).toUInt32 >>> ((16 : Int32) &&& 31).toUInt32).toInt32) else ((xiz_1 ^^^ (-1 : Int32)) &&& (xiz_1 - (1 : Int32))))) then (((if (256 : Int32) < (if (65536 : Int32) < ((xiz_1 ^^^ (-1 : Int32)) &&& (xiz_1 - (1 : Int32))) then ((((xiz_1 ^^^ (-1 : Int32)) &&& (xiz_1 - (1 : Int32))).toUInt32 >>> ((16 : Int32) &&& 31).toUInt32).toInt32) else ((xiz_1 ^^^ (-1 : Int32)) &&& (xiz_1 - (1 : Int32)))) then (((if (65536 : Int32) < ((xiz_1 ^^^ (-1 : Int32)) &&& (xiz_1 - (1 : Int32))) then ((((xiz_1 ^^^ (-1 : Int32)) &&& (xiz_1 - (1 : Int32))).toUInt32 >>> ((16 : Int32) &&& 31).toUInt32).toInt32) else ((xiz_1 ^^^ (-1 : Int32)) &&& (xiz_1 - (1 : Int32)))).toUInt32 >>> ((8 : Int32) &&& 31).toUInt32).toInt32) else (if (65536 : Int32) < ((xiz_1 ^^^ (-1 : Int32)) &&& (xiz_1 - (1 : Int32))) then ((((xiz_1 ^^^ (-1 : Int32)) &&& (xiz_1 - (1 : Int32))).toUInt32 >>> ((16 : Int32) &&& 31).toUInt32).toInt32) else ((xiz_1 ^^^ (-1 : Int32)) &&& (xiz_1 - (1 : Int32))))).toUInt32 >>> ((4 : Int32) &&& 31).toUInt32).toInt32) else (if (256 : Int32) < (if (65536 : Int32) < ((xiz_1 ^^^ (-1 : Int32)) &&& (xiz_1 - (1 : Int32))) then ((((xiz_1 ^^^ (-1 : Int32)) &&& (xiz_1 - (1 : Int32))).toUInt32 >>> ((16 : Int32) &&& 31).toUInt32).toInt32) else ((xiz_1 ^^^ (-1 : Int32)) &&& (xiz_1 - (1 : Int32)))) then (((if (65536 : Int32) < ((xiz_1 ^^^ (-1 : Int32)) &&& (xiz_1 - (1 : Int32))) then ((((xiz_1 ^^^ (-1 : Int32)) &&& (xiz_1 - (1 : Int32))).toUInt32 >>> ((16 : Int32) &&& 31).toUInt32).toInt32) else ((xiz_1 ^^^ (-1 : Int32)) &&& (xiz_1 - (1 : Int32)))).toUInt32 >>> ((8 : Int32) &&& 31).toUInt32).toInt32) else (if (65536 : Int32) < ((xiz_1 ^^^ (-1 : Int32)) &&& (xiz_1 - (1 : Int32))) then ((((xiz_1 ^^^ (-1 : Int32)) &&& (xiz_1 - (1 : Int32))).toUInt32 >>> ((16 : Int32) &&& 31).toUInt32).toInt32) else ((xiz_1 ^^^ (-1 : Int32)) &&& (xiz_1 - (1 : Int32)))))).toUInt32 >>> ((2 : Int32) &&& 31).toUInt32).toInt32) else (if (16 : Int32) < (if (256 : Int32) < (if (65536 : Int32) < ((xiz_1 ^^^ (-1 : Int32)) &&& (xiz_1 - (1 : Int32))) then ((((xiz_1 ^^^ (-1 : Int32)) &&& (xiz_1 - (1 : Int32))).toUInt32 >>> ((16 : Int32) &&& 31).toUInt32).toInt32) else ((xiz_1 ^^^ (-1 : Int32)) &&& (xiz_1 - (1 : Int32)))) then (((if (65536 : Int32) < ((xiz_1 ^^^ (-1 : Int32)) &&& (xiz_1 - (1 : Int32))) then ((((xiz_1 ^^^ (-1 : Int32)) &&& (xiz_1 - (1 : Int32))).toUInt32 >>> ((16 : Int32) &&& 31).toUInt32).toInt32) else ((xiz_1 ^^^ (-1 : Int32)) &&& (xiz_1 - (1 : Int32)))).toUInt32 >>> ((8 : Int32) &&& 31).toUInt32).toInt32) else (if (65536 : Int32) < ((xiz_1 ^^^ (-1 : Int32)) &&& (xiz_1 - (1 : Int32))) then ((((xiz_1 ^^^ (-1 : Int32)) &&& (xiz_1 - (1 : Int32))).toUInt32 >>> ((16 : Int32) &&& 31).toUInt32).toInt32) else ((xiz_1 ^^^ (-1 : Int32)) &&& (xiz_1 - (1 : Int32))))) then (((if (256 : Int32) < (if (65536 : Int32) < ((xiz_1 ^^^ (-1 : Int32)) &&& (xiz_1 - (1 : Int32))) then ((((xiz_1 ^^^ (-1 : Int32)) &&& (xiz_1 - (1 : Int32))).toUInt32 >>> ((16 : Int32) &&& 31).toUInt32).toInt32) else ((xiz_1 ^^^ (-1 : Int32)) &&& (xiz_1 - (1 : Int32)))) then (((if (65536 : Int32) < ((xiz_1 ^^^ (-1 : Int32)) &&& (xiz_1 - (1 : Int32))) then ((((xiz_1 ^^^ (-1 : Int32)) &&& (xiz_1 - (1 : Int32))).toUInt32 >>> ((16 : Int32) &&& 31).toUInt32).toInt32) else ((xiz_1 ^^^ (-1 : Int32)) &&& (xiz_1 - (1 : Int32)))).toUInt32 >>> ((8 : Int32) &&& 31).toUInt32).toInt32) else (if (65536 : Int32) < ((xiz_1 ^^^ (-1 : Int32)) &&& (xiz_1 - (1 : Int32))) then ((((xiz_1 ^^^ (-1 : Int32)) &&& (xiz_1 - (1 : Int32))).toUInt32 >>> ((16 : Int32) &&& 31).toUInt32).toInt32) else ((xiz_1 ^^^ (-1 : Int32)) &&& (xiz_1 - (1 : Int32))))).toUInt32 >>> ((4 : Int32) &&& 31).toUInt32).toInt32) else (if (256 : Int32) < (if (65536 : Int32) < ((xiz_1 ^^^ (-1 : Int32)) &&& (xiz_1 - (1 : Int32))) then ((((xiz_1 ^^^ (-1 : Int32)) &&& (xiz_1 - (1 : Int32))).toUInt32 >>> ((16 : Int32) &&& 31).toUInt32).toInt32) else ((xiz_1 ^^^ (-1 : Int32)) &&& (xiz_1 - (1 : Int32)))) then (((if (65536 : Int32) < ((xiz_1 ^^^ (-1 : Int32)) &&& (xiz_1 - (1 : Int32))) then ((((xiz_1 ^^^ (-1 : Int32)) &&& (xiz_1 - (1 : Int32))).toUInt32 >>> ((16 : Int32) &&& 31).toUInt32).toInt32) else ((xiz_1 ^^^ (-1 : Int32)) &&& (xiz_1 - (1 : Int32)))).toUInt32 >>> ((8 : Int32) &&& 31).toUInt32).toInt32) else (if (65536 : Int32) < ((xiz_1 ^^^ (-1 : Int32)) &&& (xiz_1 - (1 : Int32))) then ((((xiz_1 ^^^ (-1 : Int32)) &&& (xiz_1 - (1 : Int32))).toUInt32 >>> ((16 : Int32) &&& 31).toUInt32).toInt32) else ((xiz_1 ^^^ (-1 : Int32)) &&& (xiz_1 - (1 : Int32))))))).toUInt32 >>> ((1 : Int32) &&& 31).toUInt32).toInt32))) rfl ?_
    exact Wq.ret X0 (BodyLoose.notSynchronized Bd) (rv := some (.int ((if (4 : Int32) < (if (16 : Int32) < (if (256 : Int32) < (if (65536 : Int32) < ((xiz_1 ^^^ (-1 : Int32)) &&& (xiz_1 - (1 : Int32))) then ((((xiz_1 ^^^ (-1 : Int32)) &&& (xiz_1 - (1 : Int32))).toUInt32 >>> ((16 : Int32) &&& 31).toUInt32).toInt32) else ((xiz_1 ^^^ (-1 : Int32)) &&& (xiz_1 - (1 : Int32)))) then (((if (65536 : Int32) < ((xiz_1 ^^^ (-1 : Int32)) &&& (xiz_1 - (1 : Int32))) then ((((xiz_1 ^^^ (-1 : Int32)) &&& (xiz_1 - (1 : Int32))).toUInt32 >>> ((16 : Int32) &&& 31).toUInt32).toInt32) else ((xiz_1 ^^^ (-1 : Int32)) &&& (xiz_1 - (1 : Int32)))).toUInt32 >>> ((8 : Int32) &&& 31).toUInt32).toInt32) else (if (65536 : Int32) < ((xiz_1 ^^^ (-1 : Int32)) &&& (xiz_1 - (1 : Int32))) then ((((xiz_1 ^^^ (-1 : Int32)) &&& (xiz_1 - (1 : Int32))).toUInt32 >>> ((16 : Int32) &&& 31).toUInt32).toInt32) else ((xiz_1 ^^^ (-1 : Int32)) &&& (xiz_1 - (1 : Int32))))) then (((if (256 : Int32) < (if (65536 : Int32) < ((xiz_1 ^^^ (-1 : Int32)) &&& (xiz_1 - (1 : Int32))) then ((((xiz_1 ^^^ (-1 : Int32)) &&& (xiz_1 - (1 : Int32))).toUInt32 >>> ((16 : Int32) &&& 31).toUInt32).toInt32) else ((xiz_1 ^^^ (-1 : Int32)) &&& (xiz_1 - (1 : Int32)))) then (((if (65536 : Int32) < ((xiz_1 ^^^ (-1 : Int32)) &&& (xiz_1 - (1 : Int32))) then ((((xiz_1 ^^^ (-1 : Int32)) &&& (xiz_1 - (1 : Int32))).toUInt32 >>> ((16 : Int32) &&& 31).toUInt32).toInt32) else ((xiz_1 ^^^ (-1 : Int32)) &&& (xiz_1 - (1 : Int32)))).toUInt32 >>> ((8 : Int32) &&& 31).toUInt32).toInt32) else (if (65536 : Int32) < ((xiz_1 ^^^ (-1 : Int32)) &&& (xiz_1 - (1 : Int32))) then ((((xiz_1 ^^^ (-1 : Int32)) &&& (xiz_1 - (1 : Int32))).toUInt32 >>> ((16 : Int32) &&& 31).toUInt32).toInt32) else ((xiz_1 ^^^ (-1 : Int32)) &&& (xiz_1 - (1 : Int32))))).toUInt32 >>> ((4 : Int32) &&& 31).toUInt32).toInt32) else (if (256 : Int32) < (if (65536 : Int32) < ((xiz_1 ^^^ (-1 : Int32)) &&& (xiz_1 - (1 : Int32))) then ((((xiz_1 ^^^ (-1 : Int32)) &&& (xiz_1 - (1 : Int32))).toUInt32 >>> ((16 : Int32) &&& 31).toUInt32).toInt32) else ((xiz_1 ^^^ (-1 : Int32)) &&& (xiz_1 - (1 : Int32)))) then (((if (65536 : Int32) < ((xiz_1 ^^^ (-1 : Int32)) &&& (xiz_1 - (1 : Int32))) then ((((xiz_1 ^^^ (-1 : Int32)) &&& (xiz_1 - (1 : Int32))).toUInt32 >>> ((16 : Int32) &&& 31).toUInt32).toInt32) else ((xiz_1 ^^^ (-1 : Int32)) &&& (xiz_1 - (1 : Int32)))).toUInt32 >>> ((8 : Int32) &&& 31).toUInt32).toInt32) else (if (65536 : Int32) < ((xiz_1 ^^^ (-1 : Int32)) &&& (xiz_1 - (1 : Int32))) then ((((xiz_1 ^^^ (-1 : Int32)) &&& (xiz_1 - (1 : Int32))).toUInt32 >>> ((16 : Int32) &&& 31).toUInt32).toInt32) else ((xiz_1 ^^^ (-1 : Int32)) &&& (xiz_1 - (1 : Int32)))))) then ((if (16 : Int32) < (if (256 : Int32) < (if (65536 : Int32) < ((xiz_1 ^^^ (-1 : Int32)) &&& (xiz_1 - (1 : Int32))) then ((((xiz_1 ^^^ (-1 : Int32)) &&& (xiz_1 - (1 : Int32))).toUInt32 >>> ((16 : Int32) &&& 31).toUInt32).toInt32) else ((xiz_1 ^^^ (-1 : Int32)) &&& (xiz_1 - (1 : Int32)))) then (((if (65536 : Int32) < ((xiz_1 ^^^ (-1 : Int32)) &&& (xiz_1 - (1 : Int32))) then ((((xiz_1 ^^^ (-1 : Int32)) &&& (xiz_1 - (1 : Int32))).toUInt32 >>> ((16 : Int32) &&& 31).toUInt32).toInt32) else ((xiz_1 ^^^ (-1 : Int32)) &&& (xiz_1 - (1 : Int32)))).toUInt32 >>> ((8 : Int32) &&& 31).toUInt32).toInt32) else (if (65536 : Int32) < ((xiz_1 ^^^ (-1 : Int32)) &&& (xiz_1 - (1 : Int32))) then ((((xiz_1 ^^^ (-1 : Int32)) &&& (xiz_1 - (1 : Int32))).toUInt32 >>> ((16 : Int32) &&& 31).toUInt32).toInt32) else ((xiz_1 ^^^ (-1 : Int32)) &&& (xiz_1 - (1 : Int32))))) then ((if (256 : Int32) < (if (65536 : Int32) < ((xiz_1 ^^^ (-1 : Int32)) &&& (xiz_1 - (1 : Int32))) then ((((xiz_1 ^^^ (-1 : Int32)) &&& (xiz_1 - (1 : Int32))).toUInt32 >>> ((16 : Int32) &&& 31).toUInt32).toInt32) else ((xiz_1 ^^^ (-1 : Int32)) &&& (xiz_1 - (1 : Int32)))) then ((if (65536 : Int32) < ((xiz_1 ^^^ (-1 : Int32)) &&& (xiz_1 - (1 : Int32))) then (17 : Int32) else (1 : Int32)) + (8 : Int32)) else (if (65536 : Int32) < ((xiz_1 ^^^ (-1 : Int32)) &&& (xiz_1 - (1 : Int32))) then (17 : Int32) else (1 : Int32))) + (4 : Int32)) else (if (256 : Int32) < (if (65536 : Int32) < ((xiz_1 ^^^ (-1 : Int32)) &&& (xiz_1 - (1 : Int32))) then ((((xiz_1 ^^^ (-1 : Int32)) &&& (xiz_1 - (1 : Int32))).toUInt32 >>> ((16 : Int32) &&& 31).toUInt32).toInt32) else ((xiz_1 ^^^ (-1 : Int32)) &&& (xiz_1 - (1 : Int32)))) then ((if (65536 : Int32) < ((xiz_1 ^^^ (-1 : Int32)) &&& (xiz_1 - (1 : Int32))) then (17 : Int32) else (1 : Int32)) + (8 : Int32)) else (if (65536 : Int32) < ((xiz_1 ^^^ (-1 : Int32)) &&& (xiz_1 - (1 : Int32))) then (17 : Int32) else (1 : Int32)))) + (2 : Int32)) else (if (16 : Int32) < (if (256 : Int32) < (if (65536 : Int32) < ((xiz_1 ^^^ (-1 : Int32)) &&& (xiz_1 - (1 : Int32))) then ((((xiz_1 ^^^ (-1 : Int32)) &&& (xiz_1 - (1 : Int32))).toUInt32 >>> ((16 : Int32) &&& 31).toUInt32).toInt32) else ((xiz_1 ^^^ (-1 : Int32)) &&& (xiz_1 - (1 : Int32)))) then (((if (65536 : Int32) < ((xiz_1 ^^^ (-1 : Int32)) &&& (xiz_1 - (1 : Int32))) then ((((xiz_1 ^^^ (-1 : Int32)) &&& (xiz_1 - (1 : Int32))).toUInt32 >>> ((16 : Int32) &&& 31).toUInt32).toInt32) else ((xiz_1 ^^^ (-1 : Int32)) &&& (xiz_1 - (1 : Int32)))).toUInt32 >>> ((8 : Int32) &&& 31).toUInt32).toInt32) else (if (65536 : Int32) < ((xiz_1 ^^^ (-1 : Int32)) &&& (xiz_1 - (1 : Int32))) then ((((xiz_1 ^^^ (-1 : Int32)) &&& (xiz_1 - (1 : Int32))).toUInt32 >>> ((16 : Int32) &&& 31).toUInt32).toInt32) else ((xiz_1 ^^^ (-1 : Int32)) &&& (xiz_1 - (1 : Int32))))) then ((if (256 : Int32) < (if (65536 : Int32) < ((xiz_1 ^^^ (-1 : Int32)) &&& (xiz_1 - (1 : Int32))) then ((((xiz_1 ^^^ (-1 : Int32)) &&& (xiz_1 - (1 : Int32))).toUInt32 >>> ((16 : Int32) &&& 31).toUInt32).toInt32) else ((xiz_1 ^^^ (-1 : Int32)) &&& (xiz_1 - (1 : Int32)))) then ((if (65536 : Int32) < ((xiz_1 ^^^ (-1 : Int32)) &&& (xiz_1 - (1 : Int32))) then (17 : Int32) else (1 : Int32)) + (8 : Int32)) else (if (65536 : Int32) < ((xiz_1 ^^^ (-1 : Int32)) &&& (xiz_1 - (1 : Int32))) then (17 : Int32) else (1 : Int32))) + (4 : Int32)) else (if (256 : Int32) < (if (65536 : Int32) < ((xiz_1 ^^^ (-1 : Int32)) &&& (xiz_1 - (1 : Int32))) then ((((xiz_1 ^^^ (-1 : Int32)) &&& (xiz_1 - (1 : Int32))).toUInt32 >>> ((16 : Int32) &&& 31).toUInt32).toInt32) else ((xiz_1 ^^^ (-1 : Int32)) &&& (xiz_1 - (1 : Int32)))) then ((if (65536 : Int32) < ((xiz_1 ^^^ (-1 : Int32)) &&& (xiz_1 - (1 : Int32))) then (17 : Int32) else (1 : Int32)) + (8 : Int32)) else (if (65536 : Int32) < ((xiz_1 ^^^ (-1 : Int32)) &&& (xiz_1 - (1 : Int32))) then (17 : Int32) else (1 : Int32))))) + (((if (4 : Int32) < (if (16 : Int32) < (if (256 : Int32) < (if (65536 : Int32) < ((xiz_1 ^^^ (-1 : Int32)) &&& (xiz_1 - (1 : Int32))) then ((((xiz_1 ^^^ (-1 : Int32)) &&& (xiz_1 - (1 : Int32))).toUInt32 >>> ((16 : Int32) &&& 31).toUInt32).toInt32) else ((xiz_1 ^^^ (-1 : Int32)) &&& (xiz_1 - (1 : Int32)))) then (((if (65536 : Int32) < ((xiz_1 ^^^ (-1 : Int32)) &&& (xiz_1 - (1 : Int32))) then ((((xiz_1 ^^^ (-1 : Int32)) &&& (xiz_1 - (1 : Int32))).toUInt32 >>> ((16 : Int32) &&& 31).toUInt32).toInt32) else ((xiz_1 ^^^ (-1 : Int32)) &&& (xiz_1 - (1 : Int32)))).toUInt32 >>> ((8 : Int32) &&& 31).toUInt32).toInt32) else (if (65536 : Int32) < ((xiz_1 ^^^ (-1 : Int32)) &&& (xiz_1 - (1 : Int32))) then ((((xiz_1 ^^^ (-1 : Int32)) &&& (xiz_1 - (1 : Int32))).toUInt32 >>> ((16 : Int32) &&& 31).toUInt32).toInt32) else ((xiz_1 ^^^ (-1 : Int32)) &&& (xiz_1 - (1 : Int32))))) then (((if (256 : Int32) < (if (65536 : Int32) < ((xiz_1 ^^^ (-1 : Int32)) &&& (xiz_1 - (1 : Int32))) then ((((xiz_1 ^^^ (-1 : Int32)) &&& (xiz_1 - (1 : Int32))).toUInt32 >>> ((16 : Int32) &&& 31).toUInt32).toInt32) else ((xiz_1 ^^^ (-1 : Int32)) &&& (xiz_1 - (1 : Int32)))) then (((if (65536 : Int32) < ((xiz_1 ^^^ (-1 : Int32)) &&& (xiz_1 - (1 : Int32))) then ((((xiz_1 ^^^ (-1 : Int32)) &&& (xiz_1 - (1 : Int32))).toUInt32 >>> ((16 : Int32) &&& 31).toUInt32).toInt32) else ((xiz_1 ^^^ (-1 : Int32)) &&& (xiz_1 - (1 : Int32)))).toUInt32 >>> ((8 : Int32) &&& 31).toUInt32).toInt32) else (if (65536 : Int32) < ((xiz_1 ^^^ (-1 : Int32)) &&& (xiz_1 - (1 : Int32))) then ((((xiz_1 ^^^ (-1 : Int32)) &&& (xiz_1 - (1 : Int32))).toUInt32 >>> ((16 : Int32) &&& 31).toUInt32).toInt32) else ((xiz_1 ^^^ (-1 : Int32)) &&& (xiz_1 - (1 : Int32))))).toUInt32 >>> ((4 : Int32) &&& 31).toUInt32).toInt32) else (if (256 : Int32) < (if (65536 : Int32) < ((xiz_1 ^^^ (-1 : Int32)) &&& (xiz_1 - (1 : Int32))) then ((((xiz_1 ^^^ (-1 : Int32)) &&& (xiz_1 - (1 : Int32))).toUInt32 >>> ((16 : Int32) &&& 31).toUInt32).toInt32) else ((xiz_1 ^^^ (-1 : Int32)) &&& (xiz_1 - (1 : Int32)))) then (((if (65536 : Int32) < ((xiz_1 ^^^ (-1 : Int32)) &&& (xiz_1 - (1 : Int32))) then ((((xiz_1 ^^^ (-1 : Int32)) &&& (xiz_1 - (1 : Int32))).toUInt32 >>> ((16 : Int32) &&& 31).toUInt32).toInt32) else ((xiz_1 ^^^ (-1 : Int32)) &&& (xiz_1 - (1 : Int32)))).toUInt32 >>> ((8 : Int32) &&& 31).toUInt32).toInt32) else (if (65536 : Int32) < ((xiz_1 ^^^ (-1 : Int32)) &&& (xiz_1 - (1 : Int32))) then ((((xiz_1 ^^^ (-1 : Int32)) &&& (xiz_1 - (1 : Int32))).toUInt32 >>> ((16 : Int32) &&& 31).toUInt32).toInt32) else ((xiz_1 ^^^ (-1 : Int32)) &&& (xiz_1 - (1 : Int32)))))) then (((if (16 : Int32) < (if (256 : Int32) < (if (65536 : Int32) < ((xiz_1 ^^^ (-1 : Int32)) &&& (xiz_1 - (1 : Int32))) then ((((xiz_1 ^^^ (-1 : Int32)) &&& (xiz_1 - (1 : Int32))).toUInt32 >>> ((16 : Int32) &&& 31).toUInt32).toInt32) else ((xiz_1 ^^^ (-1 : Int32)) &&& (xiz_1 - (1 : Int32)))) then (((if (65536 : Int32) < ((xiz_1 ^^^ (-1 : Int32)) &&& (xiz_1 - (1 : Int32))) then ((((xiz_1 ^^^ (-1 : Int32)) &&& (xiz_1 - (1 : Int32))).toUInt32 >>> ((16 : Int32) &&& 31).toUInt32).toInt32) else ((xiz_1 ^^^ (-1 : Int32)) &&& (xiz_1 - (1 : Int32)))).toUInt32 >>> ((8 : Int32) &&& 31).toUInt32).toInt32) else (if (65536 : Int32) < ((xiz_1 ^^^ (-1 : Int32)) &&& (xiz_1 - (1 : Int32))) then ((((xiz_1 ^^^ (-1 : Int32)) &&& (xiz_1 - (1 : Int32))).toUInt32 >>> ((16 : Int32) &&& 31).toUInt32).toInt32) else ((xiz_1 ^^^ (-1 : Int32)) &&& (xiz_1 - (1 : Int32))))) then (((if (256 : Int32) < (if (65536 : Int32) < ((xiz_1 ^^^ (-1 : Int32)) &&& (xiz_1 - (1 : Int32))) then ((((xiz_1 ^^^ (-1 : Int32)) &&& (xiz_1 - (1 : Int32))).toUInt32 >>> ((16 : Int32) &&& 31).toUInt32).toInt32) else ((xiz_1 ^^^ (-1 : Int32)) &&& (xiz_1 - (1 : Int32)))) then (((if (65536 : Int32) < ((xiz_1 ^^^ (-1 : Int32)) &&& (xiz_1 - (1 : Int32))) then ((((xiz_1 ^^^ (-1 : Int32)) &&& (xiz_1 - (1 : Int32))).toUInt32 >>> ((16 : Int32) &&& 31).toUInt32).toInt32) else ((xiz_1 ^^^ (-1 : Int32)) &&& (xiz_1 - (1 : Int32)))).toUInt32 >>> ((8 : Int32) &&& 31).toUInt32).toInt32) else (if (65536 : Int32) < ((xiz_1 ^^^ (-1 : Int32)) &&& (xiz_1 - (1 : Int32))) then ((((xiz_1 ^^^ (-1 : Int32)) &&& (xiz_1 - (1 : Int32))).toUInt32 >>> ((16 : Int32) &&& 31).toUInt32).toInt32) else ((xiz_1 ^^^ (-1 : Int32)) &&& (xiz_1 - (1 : Int32))))).toUInt32 >>> ((4 : Int32) &&& 31).toUInt32).toInt32) else (if (256 : Int32) < (if (65536 : Int32) < ((xiz_1 ^^^ (-1 : Int32)) &&& (xiz_1 - (1 : Int32))) then ((((xiz_1 ^^^ (-1 : Int32)) &&& (xiz_1 - (1 : Int32))).toUInt32 >>> ((16 : Int32) &&& 31).toUInt32).toInt32) else ((xiz_1 ^^^ (-1 : Int32)) &&& (xiz_1 - (1 : Int32)))) then (((if (65536 : Int32) < ((xiz_1 ^^^ (-1 : Int32)) &&& (xiz_1 - (1 : Int32))) then ((((xiz_1 ^^^ (-1 : Int32)) &&& (xiz_1 - (1 : Int32))).toUInt32 >>> ((16 : Int32) &&& 31).toUInt32).toInt32) else ((xiz_1 ^^^ (-1 : Int32)) &&& (xiz_1 - (1 : Int32)))).toUInt32 >>> ((8 : Int32) &&& 31).toUInt32).toInt32) else (if (65536 : Int32) < ((xiz_1 ^^^ (-1 : Int32)) &&& (xiz_1 - (1 : Int32))) then ((((xiz_1 ^^^ (-1 : Int32)) &&& (xiz_1 - (1 : Int32))).toUInt32 >>> ((16 : Int32) &&& 31).toUInt32).toInt32) else ((xiz_1 ^^^ (-1 : Int32)) &&& (xiz_1 - (1 : Int32)))))).toUInt32 >>> ((2 : Int32) &&& 31).toUInt32).toInt32) else (if (16 : Int32) < (if (256 : Int32) < (if (65536 : Int32) < ((xiz_1 ^^^ (-1 : Int32)) &&& (xiz_1 - (1 : Int32))) then ((((xiz_1 ^^^ (-1 : Int32)) &&& (xiz_1 - (1 : Int32))).toUInt32 >>> ((16 : Int32) &&& 31).toUInt32).toInt32) else ((xiz_1 ^^^ (-1 : Int32)) &&& (xiz_1 - (1 : Int32)))) then (((if (65536 : Int32) < ((xiz_1 ^^^ (-1 : Int32)) &&& (xiz_1 - (1 : Int32))) then ((((xiz_1 ^^^ (-1 : Int32)) &&& (xiz_1 - (1 : Int32))).toUInt32 >>> ((16 : Int32) &&& 31).toUInt32).toInt32) else ((xiz_1 ^^^ (-1 : Int32)) &&& (xiz_1 - (1 : Int32)))).toUInt32 >>> ((8 : Int32) &&& 31).toUInt32).toInt32) else (if (65536 : Int32) < ((xiz_1 ^^^ (-1 : Int32)) &&& (xiz_1 - (1 : Int32))) then ((((xiz_1 ^^^ (-1 : Int32)) &&& (xiz_1 - (1 : Int32))).toUInt32 >>> ((16 : Int32) &&& 31).toUInt32).toInt32) else ((xiz_1 ^^^ (-1 : Int32)) &&& (xiz_1 - (1 : Int32))))) then (((if (256 : Int32) < (if (65536 : Int32) < ((xiz_1 ^^^ (-1 : Int32)) &&& (xiz_1 - (1 : Int32))) then ((((xiz_1 ^^^ (-1 : Int32)) &&& (xiz_1 - (1 : Int32))).toUInt32 >>> ((16 : Int32) &&& 31).toUInt32).toInt32) else ((xiz_1 ^^^ (-1 : Int32)) &&& (xiz_1 - (1 : Int32)))) then (((if (65536 : Int32) < ((xiz_1 ^^^ (-1 : Int32)) &&& (xiz_1 - (1 : Int32))) then ((((xiz_1 ^^^ (-1 : Int32)) &&& (xiz_1 - (1 : Int32))).toUInt32 >>> ((16 : Int32) &&& 31).toUInt32).toInt32) else ((xiz_1 ^^^ (-1 : Int32)) &&& (xiz_1 - (1 : Int32)))).toUInt32 >>> ((8 : Int32) &&& 31).toUInt32).toInt32) else (if (65536 : Int32) < ((xiz_1 ^^^ (-1 : Int32)) &&& (xiz_1 - (1 : Int32))) then ((((xiz_1 ^^^ (-1 : Int32)) &&& (xiz_1 - (1 : Int32))).toUInt32 >>> ((16 : Int32) &&& 31).toUInt32).toInt32) else ((xiz_1 ^^^ (-1 : Int32)) &&& (xiz_1 - (1 : Int32))))).toUInt32 >>> ((4 : Int32) &&& 31).toUInt32).toInt32) else (if (256 : Int32) < (if (65536 : Int32) < ((xiz_1 ^^^ (-1 : Int32)) &&& (xiz_1 - (1 : Int32))) then ((((xiz_1 ^^^ (-1 : Int32)) &&& (xiz_1 - (1 : Int32))).toUInt32 >>> ((16 : Int32) &&& 31).toUInt32).toInt32) else ((xiz_1 ^^^ (-1 : Int32)) &&& (xiz_1 - (1 : Int32)))) then (((if (65536 : Int32) < ((xiz_1 ^^^ (-1 : Int32)) &&& (xiz_1 - (1 : Int32))) then ((((xiz_1 ^^^ (-1 : Int32)) &&& (xiz_1 - (1 : Int32))).toUInt32 >>> ((16 : Int32) &&& 31).toUInt32).toInt32) else ((xiz_1 ^^^ (-1 : Int32)) &&& (xiz_1 - (1 : Int32)))).toUInt32 >>> ((8 : Int32) &&& 31).toUInt32).toInt32) else (if (65536 : Int32) < ((xiz_1 ^^^ (-1 : Int32)) &&& (xiz_1 - (1 : Int32))) then ((((xiz_1 ^^^ (-1 : Int32)) &&& (xiz_1 - (1 : Int32))).toUInt32 >>> ((16 : Int32) &&& 31).toUInt32).toInt32) else ((xiz_1 ^^^ (-1 : Int32)) &&& (xiz_1 - (1 : Int32))))))).toUInt32 >>> ((1 : Int32) &&& 31).toUInt32).toInt32)))) (fun h => by rw [Bd.returns] at h; cases h) (fun _ hr => retOut X0 hx Bd.returns rfl (Or.inl ⟨rfl, Or.inl rfl, _, rfl⟩) (hb hby d_jdk_33_method_48_79) hr) (by decide) (by decide) ⟨by simp only [f_iz, if_pos hc9], N0, e0⟩
  · skip
    refine Ow.ifNo X0 hx (pc' := 12) (hb hby d_jdk_33_method_48_9) ((if0 _ _).trans (flt hc9).2.2.1) ?_
    refine Ow.iloadN X0 hx (pc' := 13) (hb hby d_jdk_33_method_48_12) rfl ?_
    refine Ow.bipush X0 hx (pc' := 15) (hb hby d_jdk_33_method_48_13) (z := (32 : Int32)) rfl ?_
    refine Ow.iand X0 hx (pc' := 16) (hb hby d_jdk_33_method_48_15) (z := (((xiz_1 ^^^ (-1 : Int32)) &&& (xiz_1 - (1 : Int32))) &&& (32 : Int32))) rfl ?_
    exact Wq.ret X0 (BodyLoose.notSynchronized Bd) (rv := some (.int (((xiz_1 ^^^ (-1 : Int32)) &&& (xiz_1 - (1 : Int32))) &&& (32 : Int32)))) (fun h => by rw [Bd.returns] at h; cases h) (fun _ hr => retOut X0 hx Bd.returns rfl (Or.inl ⟨rfl, Or.inl rfl, _, rfl⟩) (hb hby d_jdk_33_method_48_16) hr) (by decide) (by decide) ⟨by simp only [f_iz, if_neg hc9], N0, e0⟩
theorem kw97 {Z : State} {a0 : Array Value} (hw : ∀ d ∈ tables_1, d.before a0 Z = true) : (Jvm.Cond.code ({ cls := "java/lang/Integer", name := "numberOfTrailingZeros", desc := "(I)I" } : Jvm.MethodName) jdk_33_method_48_code (2 : Nat) (Option.some Jvm.ClassFile.FieldType.int)).before a0 Z = true := hw _ (List.mem_of_getElem? (i := 97) rfl)
theorem kw96 {Z : State} {a0 : Array Value} (hw : ∀ d ∈ tables_1, d.before a0 Z = true) : (Jvm.Cond.initialized "java/lang/Integer").before a0 Z = true := hw _ (List.mem_of_getElem? (i := 96) rfl)
theorem kw94 {Z : State} {a0 : Array Value} (hw : ∀ d ∈ tables_1, d.before a0 Z = true) : (Jvm.Cond.methodLink "java/lang/Long" (311 : Nat) ({ cls := "java/lang/Integer", name := "numberOfTrailingZeros", desc := "(I)I" } : Jvm.MethodName)).before a0 Z = true := hw _ (List.mem_of_getElem? (i := 94) rfl)
theorem kw95 {Z : State} {a0 : Array Value} (hw : ∀ d ∈ tables_1, d.before a0 Z = true) : (Jvm.Cond.static ({ cls := "java/lang/Integer", name := "numberOfTrailingZeros", desc := "(I)I" } : Jvm.MethodName)).before a0 Z = true := hw _ (List.mem_of_getElem? (i := 95) rfl)
theorem d_jdk_35_method_49_0 : decode jdk_35_method_49_code 0 = .ok (.lload_n 0, 1) := by decide +kernel
theorem d_jdk_35_method_49_1 : decode jdk_35_method_49_code 1 = .ok (.l2i, 1) := by decide +kernel
theorem d_jdk_35_method_49_2 : decode jdk_35_method_49_code 2 = .ok (.istore_n 2, 1) := by decide +kernel
theorem d_jdk_35_method_49_3 : decode jdk_35_method_49_code 3 = .ok (.iload_n 2, 1) := by decide +kernel
theorem d_jdk_35_method_49_4 : decode jdk_35_method_49_code 4 = .ok (.ifCond .ne 17, 3) := by decide +kernel
theorem d_jdk_35_method_49_7 : decode jdk_35_method_49_code 7 = .ok (.bipush 32, 2) := by decide +kernel
theorem d_jdk_35_method_49_9 : decode jdk_35_method_49_code 9 = .ok (.lload_n 0, 1) := by decide +kernel
theorem d_jdk_35_method_49_10 : decode jdk_35_method_49_code 10 = .ok (.bipush 32, 2) := by decide +kernel
theorem d_jdk_35_method_49_12 : decode jdk_35_method_49_code 12 = .ok (.lushr, 1) := by decide +kernel
theorem d_jdk_35_method_49_13 : decode jdk_35_method_49_code 13 = .ok (.l2i, 1) := by decide +kernel
theorem d_jdk_35_method_49_14 : decode jdk_35_method_49_code 14 = .ok (.invokestatic 311, 3) := by decide +kernel
theorem d_jdk_35_method_49_17 : decode jdk_35_method_49_code 17 = .ok (.iadd, 1) := by decide +kernel
theorem d_jdk_35_method_49_18 : decode jdk_35_method_49_code 18 = .ok (.goto 7, 3) := by decide +kernel
theorem d_jdk_35_method_49_21 : decode jdk_35_method_49_code 21 = .ok (.iload_n 2, 1) := by decide +kernel
theorem d_jdk_35_method_49_22 : decode jdk_35_method_49_code 22 = .ok (.invokestatic 311, 3) := by decide +kernel
theorem pn6 : plainName "java/lang/Long" = true := by first | (simp [plainName, overriddenIn]; done) | decide +kernel
theorem ef_lz (m : MethodId) (ylz_1 : Int64) : entryFrame m #[(.long ylz_1)] 3 = mkF m 0 #[.val (.long ylz_1), .second, .unset] [] := by first | (simp [entryFrame, mkF, argsToLocals, Value.category]; done) | rfl
def f_lz (ylz_1 : Int64) : Int32 := (if (ylz_1.toInt32) = (0 : Int32) then ((32 : Int32) + (f_iz (((ylz_1.toUInt64 >>> ((32 : Int32) &&& 0x3f).toInt64.toUInt64).toInt64).toInt32))) else (f_iz (ylz_1.toInt32)))
def Q_lz (Z : State) (ylz_1 : Int64) (h0 : Heap) (n0 : Nat) (v : Option Value) (h : Heap) (L : List Loc) : Prop := v = some (.int (f_lz ylz_1)) ∧ Fr n0 L ∧ h = h0
theorem d_jdk_35_method_49_25 : decode jdk_35_method_49_code 25 = .ok (.ireturn, 1) := by decide +kernel
abbrev mt16 : MethodName := ⟨"java/lang/Long", "numberOfTrailingZeros", "(J)I"⟩
set_option maxRecDepth 65536 in
set_option maxHeartbeats 40000000 in
theorem rm_lz (l : Launch) (Z : State) (a0 : Array Value) (hw : ∀ d ∈ tables_1, d.before a0 Z = true) (ws : List Jvm.Cond) (ylz_1 : Int64) (h0 : Heap) (n0 : Nat) (Z0 : n0 ≤ h0.size)  :
    MetFree l mt16 (head1 (Jvm.Cond.code mt16 jdk_35_method_49_code 3 (some .int) :: ws) ({ frames := 1, cells := 0, slots := 0, locals := 14 } : Room)) (fun a U => a = #[(.long ylz_1)] ∧ Z.Warmed39 U.vm ∧ U.heap = h0) (fun _ _ _ _ _ => True) (fun _ U o U' => ∃ v L, o = .returned v ∧ (Q_lz Z ylz_1 h0 n0) v U'.heap L ∧ FrameEnd U o U' L ({ frames := 1, cells := 0, slots := 0, locals := 14 } : Room).cells ({ frames := 1, cells := 0, slots := 0, locals := 14 } : Room).slots) := by
  refine MetFree.of_bodySF (plainFor_of_name pn6) hisR ?_
  intro p e s m args below meth c s₁ Bd hml0 hP hK
  obtain ⟨rfl, hZ, hh⟩ := hP
  have hx := Bd.exec
  have hby := Bd.bytes
  have hml : c.maxLocals = 3 := hml0
  have hown : s.vm.findClass "java/lang/Long" = some m.cls := findClass_of_methodNamed Bd.named
  have hnm := (name_of_methodNamed Bd.named Bd.method).1
  have X0 : Stand p l e ({ frames := 1, cells := 0, slots := 0, locals := 14 } : Room) s m #[(.long ylz_1)] below meth c s₁ [] 0 0 := Stand.of_body Bd
  have e0 : s₁.heap = h0 := by rw [← hh, Bd.state]; rfl
  have N0 := Fr.nil n0
  refine Wq.step (p := p) (e := e) (below := below) (En := (fun o t L => FrameEnd s o t L ({ frames := 1, cells := 0, slots := 0, locals := 14 } : Room).cells ({ frames := 1, cells := 0, slots := 0, locals := 14 } : Room).slots)) (Q := (Q_lz Z ylz_1 h0 n0)) (fun t k => castTop (ef_lz m ylz_1) k) ?_
  show Wq _ _ _ _ _ (s₁.setTop (mkF m 0 #[.val (.long ylz_1), .second, .unset] []))
  refine Ow.lloadN X0 hx (pc' := 1) (hb hby d_jdk_35_method_49_0) rfl ?_
  refine Ow.l2i X0 hx (pc' := 2) (hb hby d_jdk_35_method_49_1) (z := (ylz_1.toInt32)) rfl ?_
  refine Ow.istoreN X0 hx (pc' := 3) (hb hby d_jdk_35_method_49_2) (l' := #[.val (.long ylz_1), .second, .val (.int (ylz_1.toInt32))]) rfl ?_
  refine Ow.iloadN X0 hx (pc' := 4) (hb hby d_jdk_35_method_49_3) rfl ?_
  by_cases hc4 : (ylz_1.toInt32) = (0 : Int32)
  · skip
    refine Ow.ifNo X0 hx (pc' := 7) (hb hby d_jdk_35_method_49_4) ((if0 _ _).trans (teq hc4).2) ?_
    refine Ow.bipush X0 hx (pc' := 9) (hb hby d_jdk_35_method_49_7) (z := (32 : Int32)) rfl ?_
    refine Ow.lloadN X0 hx (pc' := 10) (hb hby d_jdk_35_method_49_9) rfl ?_
    refine Ow.bipush X0 hx (pc' := 12) (hb hby d_jdk_35_method_49_10) (z := (32 : Int32)) rfl ?_
    refine Ow.lushr X0 hx (pc' := 13) (hb hby d_jdk_35_method_49_12) (z := ((ylz_1.toUInt64 >>> ((32 : Int32) &&& 0x3f).toInt64.toUInt64).toInt64)) rfl ?_
    refine Ow.l2i X0 hx (pc' := 14) (hb hby d_jdk_35_method_49_13) (z := (((ylz_1.toUInt64 >>> ((32 : Int32) &&& 0x3f).toInt64.toUInt64).toInt64).toInt32)) rfl ?_
    obtain ⟨_, _, ⟨T23, L23, k23, n23⟩, -, X23, ⟨Lc23, hQ23, l23, y23, z23⟩, st23⟩ := Jvm.LawKit.callS X0 hx (y := mt15) hown (mvT hZ (kw94 hw)) (mvT hZ (kw95 hw)) (mvT hZ (kw96 hw)) (mvT hZ (kw97 hw)) (by decide) (backOf (W := 1) (rm_iz l Z a0 hw [] (((ylz_1.toUInt64 >>> ((32 : Int32) &&& 0x3f).toInt64.toUInt64).toInt64).toInt32) h0 n0 Z0 ) hZ (kw97 hw) (kw96 hw) (by decide) (by decide)) (g := (mkF m 14 #[.val (.long ylz_1), .second, .val (.int (ylz_1.toInt32))] [(.int (((ylz_1.toUInt64 >>> ((32 : Int32) &&& 0x3f).toInt64.toUInt64).toInt64).toInt32)), (.int (32 : Int32))])) rfl (by rw [hml]; rfl) (argsL := [(.int (((ylz_1.toUInt64 >>> ((32 : Int32) &&& 0x3f).toInt64.toUInt64).toInt64).toInt32))]) (rest := [(.int (32 : Int32))]) (lenOf pd3 rfl) rfl (by show 2 * 0 + _ ≤ _; exact Nat.le_of_eq rfl) (hb hby d_jdk_35_method_49_14) (fun _ _ => ⟨rfl, e0, (by decide : 0 + 0 ≤ _), (by decide : 0 + 0 ≤ _)⟩)
    dsimp only [Pt.U, Pt.locs, Pt.cells, Pt.slots] at X23 l23 y23 z23 st23 hQ23
    subst l23 y23 z23
    obtain ⟨rfl, Nq23, e23⟩ := hQ23
    have N23 := Fr.app N0 Nq23
    refine Wq.step st23 ?_
    show Wq _ _ _ _ _ (T23.setTop (mkF m 17 #[.val (.long ylz_1), .second, .val (.int (ylz_1.toInt32))] [(.int (f_iz (((ylz_1.toUInt64 >>> ((32 : Int32) &&& 0x3f).toInt64.toUInt64).toInt64).toInt32))), (.int (32 : Int32))]))
    refine Ow.iadd X23 hx (pc' := 18) (hb hby d_jdk_35_method_49_17) (z := ((32 : Int32) + (f_iz (((ylz_1.toUInt64 >>> ((32 : Int32) &&& 0x3f).toInt64.toUInt64).toInt64).toInt32)))) rfl ?_
    refine Ow.goto X23 hx (pc' := 25) (hb hby d_jdk_35_method_49_18) (by decide) (by decide) ?_
    exact Wq.ret X23 (BodyLoose.notSynchronized Bd) (rv := some (.int ((32 : Int32) + (f_iz (((ylz_1.toUInt64 >>> ((32 : Int32) &&& 0x3f).toInt64.toUInt64).toInt64).toInt32))))) (fun h => by rw [Bd.returns] at h; cases h) (fun _ hr => retOut X23 hx Bd.returns rfl (Or.inl ⟨rfl, Or.inl rfl, _, rfl⟩) (hb hby d_jdk_35_method_49_25) hr) (by decide) (by decide) ⟨by simp only [f_lz, if_pos hc4], N23, e23⟩
  · skip
    refine Ow.ifYes X0 hx (pc' := 21) (hb hby d_jdk_35_method_49_4) ((if0 _ _).trans (feq hc4).2) (by decide) (by decide) ?_
    refine Ow.iloadN X0 hx (pc' := 22) (hb hby d_jdk_35_method_49_21) rfl ?_
    obtain ⟨_, _, ⟨T24, L24, k24, n24⟩, -, X24, ⟨Lc24, hQ24, l24, y24, z24⟩, st24⟩ := Jvm.LawKit.callS X0 hx (y := mt15) hown (mvT hZ (kw94 hw)) (mvT hZ (kw95 hw)) (mvT hZ (kw96 hw)) (mvT hZ (kw97 hw)) (by decide) (backOf (W := 0) (rm_iz l Z a0 hw [] (ylz_1.toInt32) h0 n0 Z0 ) hZ (kw97 hw) (kw96 hw) (by decide) (by decide)) (g := (mkF m 22 #[.val (.long ylz_1), .second, .val (.int (ylz_1.toInt32))] [(.int (ylz_1.toInt32))])) rfl (by rw [hml]; rfl) (argsL := [(.int (ylz_1.toInt32))]) (rest := []) (lenOf pd3 rfl) rfl (by show 2 * 0 + _ ≤ _; exact Nat.le_of_eq rfl) (hb hby d_jdk_35_method_49_22) (fun _ _ => ⟨rfl, e0, (by decide : 0 + 0 ≤ _), (by decide : 0 + 0 ≤ _)⟩)
    dsimp only [Pt.U, Pt.locs, Pt.cells, Pt.slots] at X24 l24 y24 z24 st24 hQ24
    subst l24 y24 z24
    obtain ⟨rfl, Nq24, e24⟩ := hQ24
    have N24 := Fr.app N0 Nq24
    refine Wq.step st24 ?_
    show Wq _ _ _ _ _ (T24.setTop (mkF m 25 #[.val (.long ylz_1), .second, .val (.int (ylz_1.toInt32))] [(.int (f_iz (ylz_1.toInt32)))]))
    exact Wq.ret X24 (BodyLoose.notSynchronized Bd) (rv := some (.int (f_iz (ylz_1.toInt32)))) (fun h => by rw [Bd.returns] at h; cases h) (fun _ hr => retOut X24 hx Bd.returns rfl (Or.inl ⟨rfl, Or.inl rfl, _, rfl⟩) (hb hby d_jdk_35_method_49_25) hr) (by decide) (by decide) ⟨by simp only [f_lz, if_neg hc4], N24, e24⟩
theorem own_low {x z : Nat} (h1 : x.testBit z = true) (h0 : ∀ j, j < z → x.testBit j = false) : ∃ m, x = 2 ^ z * (2 * m + 1) := by
  have hm : x % 2 ^ z = 0 := by
    apply Nat.eq_of_testBit_eq
    intro i
    rw [Nat.testBit_mod_two_pow, Nat.zero_testBit]
    by_cases q : i < z
    · simp [h0 i q]
    · simp [q]
  have hq : (x / 2 ^ z).testBit 0 = true := by
    rw [Nat.testBit_div_two_pow]; simpa using h1
  have ho : (x / 2 ^ z) % 2 = 1 := by
    simpa [Nat.testBit_zero] using hq
  refine ⟨x / 2 ^ z / 2, ?_⟩
  have e1 := Nat.div_add_mod x (2 ^ z)
  have e2 := Nat.div_add_mod (x / 2 ^ z) 2
  rw [hm, Nat.add_zero] at e1
  rw [ho] at e2
  rw [e2, e1]
theorem own_lowp {m z : Nat} (j : Nat) : (2 ^ z * (2 * m + 1) - 1).testBit j = if j < z then true else (2 * m).testBit (j - z) := by
  have p : 0 < 2 ^ z := Nat.two_pow_pos z
  have e : 2 ^ z * (2 * m + 1) - 1 = 2 ^ z * (2 * m) + (2 ^ z - 1) := by
    rw [Nat.mul_add, Nat.mul_one]; omega
  rw [e, Nat.testBit_two_pow_mul_add _ (by omega), Nat.testBit_two_pow_sub_one]
  by_cases q : j < z
  · simp [q]
  · simp [q]
theorem own_lowq {m z : Nat} (j : Nat) : (2 ^ z * (2 * m + 1)).testBit j = if j < z then false else (2 * m + 1).testBit (j - z) := by
  have e : 2 ^ z * (2 * m + 1) = 2 ^ z * (2 * m + 1) + 0 := by omega
  rw [e, Nat.testBit_two_pow_mul_add _ (Nat.two_pow_pos z)]
  simp
theorem own_lowr {m z j : Nat} (h : ¬ j < z) : (2 * m).testBit (j - z) = (decide (j ≠ z) && (2 * m + 1).testBit (j - z)) := by
  by_cases q : j = z
  · subst q; simp [Nat.testBit_zero]
  · obtain ⟨k, hk⟩ : ∃ k, j - z = k + 1 := ⟨j - z - 1, by omega⟩
    rw [hk, Nat.testBit_succ, Nat.testBit_succ]
    have a : 2 * m / 2 = m := by omega
    have b : (2 * m + 1) / 2 = m := by omega
    simp [a, b, q]
theorem own_bvlow {w : Nat} {x : BitVec w} {z : Nat} (h1 : x.getLsbD z = true) (h0 : ∀ j, j < z → x.getLsbD j = false) (j : Nat) (hj : j < w) : (x - 1#w).getLsbD j = if j < z then true else (decide (j ≠ z) && x.getLsbD j) := by
  obtain ⟨m, hm⟩ := own_low (x := x.toNat) (z := z) h1 h0
  have hz : z < w := by
    by_cases q : z < w
    · exact q
    · rw [BitVec.getLsbD_of_ge _ _ (by omega)] at h1; cases h1
  have hpos : 1 ≤ x.toNat := by
    rw [hm]; exact Nat.mul_pos (Nat.two_pow_pos z) (by omega)
  have hw : 1 < 2 ^ w := Nat.one_lt_two_pow (by omega)
  have e : (x - 1#w).toNat = x.toNat - 1 := by
    rw [BitVec.toNat_sub, BitVec.toNat_ofNat, Nat.mod_eq_of_lt hw]
    have := x.isLt
    rw [show 2 ^ w - 1 + x.toNat = 2 ^ w + (x.toNat - 1) by omega, Nat.add_mod_left, Nat.mod_eq_of_lt (by omega)]
  have a : (x - 1#w).getLsbD j = (x.toNat - 1).testBit j := by rw [← e]; rfl
  have b : x.getLsbD j = x.toNat.testBit j := rfl
  rw [a, b, hm, own_lowp, own_lowq]
  by_cases q : j < z
  · simp [q]
  · simp only [q, if_false]
    exact own_lowr q

def own_izy (y : Int32) : Int32 := (if (0 : Int32) < y then ((if (4 : Int32) < (if (16 : Int32) < (if (256 : Int32) < (if (65536 : Int32) < y then ((y.toUInt32 >>> ((16 : Int32) &&& 31).toUInt32).toInt32) else y) then (((if (65536 : Int32) < y then ((y.toUInt32 >>> ((16 : Int32) &&& 31).toUInt32).toInt32) else y).toUInt32 >>> ((8 : Int32) &&& 31).toUInt32).toInt32) else (if (65536 : Int32) < y then ((y.toUInt32 >>> ((16 : Int32) &&& 31).toUInt32).toInt32) else y)) then (((if (256 : Int32) < (if (65536 : Int32) < y then ((y.toUInt32 >>> ((16 : Int32) &&& 31).toUInt32).toInt32) else y) then (((if (65536 : Int32) < y then ((y.toUInt32 >>> ((16 : Int32) &&& 31).toUInt32).toInt32) else y).toUInt32 >>> ((8 : Int32) &&& 31).toUInt32).toInt32) else (if (65536 : Int32) < y then ((y.toUInt32 >>> ((16 : Int32) &&& 31).toUInt32).toInt32) else y)).toUInt32 >>> ((4 : Int32) &&& 31).toUInt32).toInt32) else (if (256 : Int32) < (if (65536 : Int32) < y then ((y.toUInt32 >>> ((16 : Int32) &&& 31).toUInt32).toInt32) else y) then (((if (65536 : Int32) < y then ((y.toUInt32 >>> ((16 : Int32) &&& 31).toUInt32).toInt32) else y).toUInt32 >>> ((8 : Int32) &&& 31).toUInt32).toInt32) else (if (65536 : Int32) < y then ((y.toUInt32 >>> ((16 : Int32) &&& 31).toUInt32).toInt32) else y))) then ((if (16 : Int32) < (if (256 : Int32) < (if (65536 : Int32) < y then ((y.toUInt32 >>> ((16 : Int32) &&& 31).toUInt32).toInt32) else y) then (((if (65536 : Int32) < y then ((y.toUInt32 >>> ((16 : Int32) &&& 31).toUInt32).toInt32) else y).toUInt32 >>> ((8 : Int32) &&& 31).toUInt32).toInt32) else (if (65536 : Int32) < y then ((y.toUInt32 >>> ((16 : Int32) &&& 31).toUInt32).toInt32) else y)) then ((if (256 : Int32) < (if (65536 : Int32) < y then ((y.toUInt32 >>> ((16 : Int32) &&& 31).toUInt32).toInt32) else y) then ((if (65536 : Int32) < y then (17 : Int32) else (1 : Int32)) + (8 : Int32)) else (if (65536 : Int32) < y then (17 : Int32) else (1 : Int32))) + (4 : Int32)) else (if (256 : Int32) < (if (65536 : Int32) < y then ((y.toUInt32 >>> ((16 : Int32) &&& 31).toUInt32).toInt32) else y) then ((if (65536 : Int32) < y then (17 : Int32) else (1 : Int32)) + (8 : Int32)) else (if (65536 : Int32) < y then (17 : Int32) else (1 : Int32)))) + (2 : Int32)) else (if (16 : Int32) < (if (256 : Int32) < (if (65536 : Int32) < y then ((y.toUInt32 >>> ((16 : Int32) &&& 31).toUInt32).toInt32) else y) then (((if (65536 : Int32) < y then ((y.toUInt32 >>> ((16 : Int32) &&& 31).toUInt32).toInt32) else y).toUInt32 >>> ((8 : Int32) &&& 31).toUInt32).toInt32) else (if (65536 : Int32) < y then ((y.toUInt32 >>> ((16 : Int32) &&& 31).toUInt32).toInt32) else y)) then ((if (256 : Int32) < (if (65536 : Int32) < y then ((y.toUInt32 >>> ((16 : Int32) &&& 31).toUInt32).toInt32) else y) then ((if (65536 : Int32) < y then (17 : Int32) else (1 : Int32)) + (8 : Int32)) else (if (65536 : Int32) < y then (17 : Int32) else (1 : Int32))) + (4 : Int32)) else (if (256 : Int32) < (if (65536 : Int32) < y then ((y.toUInt32 >>> ((16 : Int32) &&& 31).toUInt32).toInt32) else y) then ((if (65536 : Int32) < y then (17 : Int32) else (1 : Int32)) + (8 : Int32)) else (if (65536 : Int32) < y then (17 : Int32) else (1 : Int32))))) + (((if (4 : Int32) < (if (16 : Int32) < (if (256 : Int32) < (if (65536 : Int32) < y then ((y.toUInt32 >>> ((16 : Int32) &&& 31).toUInt32).toInt32) else y) then (((if (65536 : Int32) < y then ((y.toUInt32 >>> ((16 : Int32) &&& 31).toUInt32).toInt32) else y).toUInt32 >>> ((8 : Int32) &&& 31).toUInt32).toInt32) else (if (65536 : Int32) < y then ((y.toUInt32 >>> ((16 : Int32) &&& 31).toUInt32).toInt32) else y)) then (((if (256 : Int32) < (if (65536 : Int32) < y then ((y.toUInt32 >>> ((16 : Int32) &&& 31).toUInt32).toInt32) else y) then (((if (65536 : Int32) < y then ((y.toUInt32 >>> ((16 : Int32) &&& 31).toUInt32).toInt32) else y).toUInt32 >>> ((8 : Int32) &&& 31).toUInt32).toInt32) else (if (65536 : Int32) < y then ((y.toUInt32 >>> ((16 : Int32) &&& 31).toUInt32).toInt32) else y)).toUInt32 >>> ((4 : Int32) &&& 31).toUInt32).toInt32) else (if (256 : Int32) < (if (65536 : Int32) < y then ((y.toUInt32 >>> ((16 : Int32) &&& 31).toUInt32).toInt32) else y) then (((if (65536 : Int32) < y then ((y.toUInt32 >>> ((16 : Int32) &&& 31).toUInt32).toInt32) else y).toUInt32 >>> ((8 : Int32) &&& 31).toUInt32).toInt32) else (if (65536 : Int32) < y then ((y.toUInt32 >>> ((16 : Int32) &&& 31).toUInt32).toInt32) else y))) then (((if (16 : Int32) < (if (256 : Int32) < (if (65536 : Int32) < y then ((y.toUInt32 >>> ((16 : Int32) &&& 31).toUInt32).toInt32) else y) then (((if (65536 : Int32) < y then ((y.toUInt32 >>> ((16 : Int32) &&& 31).toUInt32).toInt32) else y).toUInt32 >>> ((8 : Int32) &&& 31).toUInt32).toInt32) else (if (65536 : Int32) < y then ((y.toUInt32 >>> ((16 : Int32) &&& 31).toUInt32).toInt32) else y)) then (((if (256 : Int32) < (if (65536 : Int32) < y then ((y.toUInt32 >>> ((16 : Int32) &&& 31).toUInt32).toInt32) else y) then (((if (65536 : Int32) < y then ((y.toUInt32 >>> ((16 : Int32) &&& 31).toUInt32).toInt32) else y).toUInt32 >>> ((8 : Int32) &&& 31).toUInt32).toInt32) else (if (65536 : Int32) < y then ((y.toUInt32 >>> ((16 : Int32) &&& 31).toUInt32).toInt32) else y)).toUInt32 >>> ((4 : Int32) &&& 31).toUInt32).toInt32) else (if (256 : Int32) < (if (65536 : Int32) < y then ((y.toUInt32 >>> ((16 : Int32) &&& 31).toUInt32).toInt32) else y) then (((if (65536 : Int32) < y then ((y.toUInt32 >>> ((16 : Int32) &&& 31).toUInt32).toInt32) else y).toUInt32 >>> ((8 : Int32) &&& 31).toUInt32).toInt32) else (if (65536 : Int32) < y then ((y.toUInt32 >>> ((16 : Int32) &&& 31).toUInt32).toInt32) else y))).toUInt32 >>> ((2 : Int32) &&& 31).toUInt32).toInt32) else (if (16 : Int32) < (if (256 : Int32) < (if (65536 : Int32) < y then ((y.toUInt32 >>> ((16 : Int32) &&& 31).toUInt32).toInt32) else y) then (((if (65536 : Int32) < y then ((y.toUInt32 >>> ((16 : Int32) &&& 31).toUInt32).toInt32) else y).toUInt32 >>> ((8 : Int32) &&& 31).toUInt32).toInt32) else (if (65536 : Int32) < y then ((y.toUInt32 >>> ((16 : Int32) &&& 31).toUInt32).toInt32) else y)) then (((if (256 : Int32) < (if (65536 : Int32) < y then ((y.toUInt32 >>> ((16 : Int32) &&& 31).toUInt32).toInt32) else y) then (((if (65536 : Int32) < y then ((y.toUInt32 >>> ((16 : Int32) &&& 31).toUInt32).toInt32) else y).toUInt32 >>> ((8 : Int32) &&& 31).toUInt32).toInt32) else (if (65536 : Int32) < y then ((y.toUInt32 >>> ((16 : Int32) &&& 31).toUInt32).toInt32) else y)).toUInt32 >>> ((4 : Int32) &&& 31).toUInt32).toInt32) else (if (256 : Int32) < (if (65536 : Int32) < y then ((y.toUInt32 >>> ((16 : Int32) &&& 31).toUInt32).toInt32) else y) then (((if (65536 : Int32) < y then ((y.toUInt32 >>> ((16 : Int32) &&& 31).toUInt32).toInt32) else y).toUInt32 >>> ((8 : Int32) &&& 31).toUInt32).toInt32) else (if (65536 : Int32) < y then ((y.toUInt32 >>> ((16 : Int32) &&& 31).toUInt32).toInt32) else y)))).toUInt32 >>> ((1 : Int32) &&& 31).toUInt32).toInt32)) else (y &&& (32 : Int32)))
theorem own_izk : ∀ z : Fin 32, own_izy (Int32.ofNat (2 ^ (z : Nat) - 1)) = Int32.ofNat z := by decide +kernel
theorem own_iz {x : Int32} {z : Nat} (hz : z < 32) (h1 : x.toBitVec.getLsbD z = true) (h0 : ∀ j, j < z → x.toBitVec.getLsbD j = false) : f_iz x = Int32.ofNat z := by
  have e : ((x ^^^ (-1 : Int32)) &&& (x - (1 : Int32))) = Int32.ofNat (2 ^ z - 1) := by
    apply Int32.toBitVec_inj.mp
    apply BitVec.eq_of_getLsbD_eq
    intro i hi
    have w1 : (-1 : Int32).toBitVec = BitVec.allOnes 32 := by decide
    have w2 : (1 : Int32).toBitVec = 1#32 := rfl
    rw [Int32.toBitVec_and, Int32.toBitVec_xor, Int32.toBitVec_sub, w1, w2, BitVec.getLsbD_and, BitVec.getLsbD_xor, BitVec.getLsbD_allOnes, own_bvlow h1 h0 i hi]
    have r : (Int32.ofNat (2 ^ z - 1)).toBitVec.getLsbD i = decide (i < z) := by
      show (BitVec.ofNat 32 (2 ^ z - 1)).getLsbD i = _
      rw [BitVec.getLsbD_ofNat, Nat.testBit_two_pow_sub_one]
      simp [hi]
    rw [r]
    by_cases q : i < z
    · rw [h0 i q]; simp [q, hi]
    · by_cases q2 : i = z
      · subst q2; simp
      · cases e3 : x.toBitVec.getLsbD i <;> simp [q, hi]
  have k := own_izk ⟨z, hz⟩
  have f : f_iz x = own_izy ((x ^^^ (-1 : Int32)) &&& (x - (1 : Int32))) := rfl
  rw [f, e]
  exact k
theorem own_t32 (x : Int64) {i : Nat} (h : i < 32) : x.toInt32.toBitVec.getLsbD i = x.toBitVec.getLsbD i := by
  rw [Int64.toBitVec_toInt32, BitVec.getLsbD_signExtend]
  simp [h, show i < 64 by omega]
theorem own_ush {x : Int64} {k : UInt64} (h : k.toNat < 64) (j : Nat) : ((x.toUInt64 >>> k).toInt64).toBitVec.getLsbD j = x.toBitVec.getLsbD (k.toNat + j) := by
  show ((x.toUInt64 >>> k).toBitVec).getLsbD j = _
  rw [UInt64.toBitVec_shiftRight]
  rw [BitVec.ushiftRight_eq', BitVec.getLsbD_ushiftRight]
  have : (k.toBitVec % 64#64).toNat = k.toNat := by
    rw [BitVec.toNat_umod]
    show k.toNat % 64 = k.toNat
    omega
  have e2 : (k.toBitVec % 64).toNat = k.toNat := this
  rw [e2]; rfl
theorem own_k32 : ∀ z : Fin 32, (32 : Int32) + Int32.ofNat z = Int32.ofNat (32 + z) := by decide
theorem own_lz {b : Int64} {z : Nat} (hz : z < 64) (h1 : b.toBitVec.getLsbD z = true) (h0 : ∀ j, j < z → b.toBitVec.getLsbD j = false) : f_lz b = Int32.ofNat z := by
  unfold f_lz
  by_cases q : z < 32
  · have n0 : ¬ b.toInt32 = (0 : Int32) := by
      intro e
      have w := own_t32 b q
      rw [e, h1] at w
      have : (0#32).getLsbD z = true := w
      simp at this
    rw [if_neg n0]
    exact own_iz q (by rw [own_t32 b q]; exact h1) (fun j hj => by rw [own_t32 b (by omega)]; exact h0 j hj)
  · have e0 : b.toInt32 = (0 : Int32) := by
      apply Int32.toBitVec_inj.mp
      apply BitVec.eq_of_getLsbD_eq
      intro i hi
      rw [own_t32 b hi, h0 i (by omega)]
      show false = (0#32).getLsbD i
      simp
    rw [if_pos e0]
    have ks : (((32 : Int32) &&& 0x3f).toInt64.toUInt64).toNat = 32 := by decide
    have g : ∀ i, i < 32 → (((b.toUInt64 >>> ((32 : Int32) &&& 0x3f).toInt64.toUInt64).toInt64).toInt32).toBitVec.getLsbD i = b.toBitVec.getLsbD (32 + i) := fun i hi => by
      rw [own_t32 _ hi, own_ush (by rw [ks]; decide), ks]
    rw [own_iz (z := z - 32) (by omega) (by rw [g _ (by omega), show 32 + (z - 32) = z by omega]; exact h1) (fun j hj => by rw [g j (by omega)]; exact h0 _ (by omega))]
    have k := own_k32 ⟨z - 32, by omega⟩
    simp only at k
    rw [k, show 32 + (z - 32) = z by omega]

def own_S (gw : Nat → Int64) (n : Nat) (S : Nat → Nat) : Prop := (∀ i j, i < j → j < n → S i < S j) ∧ (∀ i, i < n → S i < 65536) ∧ ∀ w, w < 1024 → ∀ j, j < 64 → ((gw w).toBitVec.getLsbD j = false ↔ ∃ i, i < n ∧ S i = 64 * w + j)
def own_ms (S : Nat → Nat) (n k : Nat) (ms : List Value) : Prop := ms.length = n ∧ ∀ i, i < k → ms[i]? = some (.int (Int32.ofNat (S i)))
def own_oI (n : Nat) (S : Nat → Nat) (k w : Nat) (ms : List Value) : Prop := w ≤ 1024 ∧ k ≤ n ∧ (∀ i, i < n → (S i < 64 * w ↔ i < k)) ∧ own_ms S n k ms
def own_iI (n : Nat) (S : Nat → Nat) (w k : Nat) (bits : Int64) (ms : List Value) : Prop := w < 1024 ∧ k ≤ n ∧ (∀ i, i < n → S i < 64 * w → i < k) ∧ (∀ i, i < k → S i < 64 * (w + 1)) ∧ own_ms S n k ms ∧ ∀ j, (bits.toBitVec.getLsbD j = true ↔ j < 64 ∧ ∃ i, k ≤ i ∧ i < n ∧ S i = 64 * w + j)
theorem own_oIn {gw : Nat → Int64} {n : Nat} {S : Nat → Nat} {k w : Nat} {ms : List Value} (hS : own_S gw n S) (I : own_oI n S k w ms) (hw : w < 1024) : own_iI n S w k (gw w ^^^ (-1 : Int64)) ms := by
  obtain ⟨i1, i2, i3, i4⟩ := I
  obtain ⟨s1, s2, s3⟩ := hS
  refine ⟨hw, i2, fun i hi h => (i3 i hi).mp h, fun i hi => by have := (i3 i (by omega)).mpr hi; omega, i4, fun j => ?_⟩
  have w1 : (-1 : Int64).toBitVec = BitVec.allOnes 64 := by decide
  rw [Int64.toBitVec_xor, w1, BitVec.getLsbD_xor, BitVec.getLsbD_allOnes]
  by_cases q : j < 64
  · have s := s3 w hw j q
    constructor
    · intro h
      have hf : (gw w).toBitVec.getLsbD j = false := by
        cases e : (gw w).toBitVec.getLsbD j
        · rfl
        · rw [e] at h; simp [q] at h
      obtain ⟨i, hi, e⟩ := s.mp hf
      refine ⟨q, i, ?_, hi, e⟩
      have := mt (i3 i hi).mpr
      by_cases z : i < k
      · have := (i3 i hi).mpr z; omega
      · omega
    · intro ⟨_, i, _, hi, e⟩
      rw [s.mpr ⟨i, hi, e⟩]
      simp [q]
  · constructor
    · intro h
      rw [BitVec.getLsbD_of_ge _ _ (by omega)] at h
      simp [q] at h
    · intro ⟨h, _⟩; exact absurd h q
theorem own_iOut {n : Nat} {S : Nat → Nat} {w k : Nat} {ms : List Value} (hs : ∀ i j, i < j → j < n → S i < S j) (I : own_iI n S w k (0 : Int64) ms) : own_oI n S k (w + 1) ms := by
  obtain ⟨i1, i2, i3, i4, i5, i6⟩ := I
  refine ⟨by omega, i2, fun i hi => ⟨fun h => ?_, fun h => ?_⟩, i5⟩
  · by_cases q : i < k
    · exact q
    · exfalso
      have a : ¬ S i < 64 * w := fun z => q (i3 i hi z)
      have b := (i6 (S i - 64 * w)).mpr ⟨by omega, i, by omega, hi, by omega⟩
      have c : (0#64).getLsbD (S i - 64 * w) = true := b
      simp at c
  · exact i4 i h
theorem own_iKey {n : Nat} {S : Nat → Nat} {w k : Nat} {b : Int64} {ms : List Value} (hs : ∀ i j, i < j → j < n → S i < S j) (I : own_iI n S w k b ms) (h : ¬ b = (0 : Int64)) : ∃ z, z < 64 ∧ k < n ∧ S k = 64 * w + z ∧ b.toBitVec.getLsbD z = true ∧ ∀ j, j < z → b.toBitVec.getLsbD j = false := by
  obtain ⟨i1, i2, i3, i4, i5, i6⟩ := I
  have ⟨j, hj⟩ : ∃ j, b.toBitVec.getLsbD j = true := by
    apply Classical.byContradiction
    intro hn
    apply h
    apply Int64.toBitVec_inj.mp
    apply BitVec.eq_of_getLsbD_eq
    intro i _
    have : b.toBitVec.getLsbD i = false := by
      cases e : b.toBitVec.getLsbD i
      · rfl
      · exact absurd ⟨i, e⟩ hn
    rw [this]
    show false = (0#64).getLsbD i
    simp
  obtain ⟨hj64, i, hki, hin, e⟩ := (i6 j).mp hj
  have hk : k < n := by omega
  have a : ¬ S k < 64 * w := fun z => absurd (i3 k hk z) (Nat.lt_irrefl k)
  have le : S k ≤ S i := by
    rcases Nat.lt_or_eq_of_le hki with q | q
    · exact Nat.le_of_lt (hs k i q hin)
    · rw [q]; exact Nat.le_refl _
  refine ⟨S k - 64 * w, by omega, hk, by omega, (i6 _).mpr ⟨by omega, k, Nat.le_refl _, hk, by omega⟩, fun j' hj' => ?_⟩
  cases e2 : b.toBitVec.getLsbD j'
  · rfl
  · obtain ⟨_, i', hki', hin', e'⟩ := (i6 j').mp e2
    exfalso
    rcases Nat.lt_or_eq_of_le hki' with q | q
    · have := hs k i' q hin'; omega
    · subst q; omega
theorem own_iSt {n : Nat} {S : Nat → Nat} {w k : Nat} {b : Int64} {ms : List Value} (hs : ∀ i j, i < j → j < n → S i < S j) (I : own_iI n S w k b ms) {z : Nat} (hz : z < 64) (hk : k < n) (e : S k = 64 * w + z) (h1 : b.toBitVec.getLsbD z = true) (h0 : ∀ j, j < z → b.toBitVec.getLsbD j = false) : own_iI n S w (k + 1) (b &&& (b - (1 : Int64))) (ms.set k (.int (Int32.ofNat (S k)))) := by
  obtain ⟨i1, i2, i3, i4, ⟨i5, i5'⟩, i6⟩ := I
  refine ⟨i1, hk, fun i hi h => by have := i3 i hi h; omega, fun i hi => ?_, ⟨by rw [List.length_set]; exact i5, fun i hi => ?_⟩, fun j => ?_⟩
  · by_cases q : i < k
    · exact i4 i q
    · have : i = k := by omega
      subst this; omega
  · rw [List.getElem?_set]
    by_cases q : k = i
    · subst q; rw [if_pos rfl, if_pos (by omega)]
    · rw [if_neg q]; exact i5' i (by omega)
  · have w2 : (1 : Int64).toBitVec = 1#64 := rfl
    rw [Int64.toBitVec_and, Int64.toBitVec_sub, w2, BitVec.getLsbD_and]
    by_cases hj : j < 64
    · rw [own_bvlow h1 h0 j hj]
      by_cases q : j < z
      · rw [h0 j q]
        simp only [Bool.false_and, Bool.false_eq_true, false_iff]
        intro ⟨_, i, hki, hin, e'⟩
        have := hs k i (by omega) hin
        omega
      · rw [if_neg q]
        by_cases q2 : j = z
        · subst q2
          simp only [ne_eq, not_true_eq_false, decide_false, Bool.false_and, Bool.and_false, Bool.false_eq_true, false_iff]
          intro ⟨_, i, hki, hin, e'⟩
          have := hs k i (by omega) hin
          omega
        · have d : decide (j ≠ z) = true := by simp [q2]
          rw [d, Bool.true_and, Bool.and_self, i6 j]
          constructor
          · intro ⟨a, i, hki, hin, e'⟩
            refine ⟨a, i, ?_, hin, e'⟩
            rcases Nat.lt_or_eq_of_le hki with r | r
            · exact r
            · subst r; omega
          · intro ⟨a, i, hki, hin, e'⟩
            exact ⟨a, i, by omega, hin, e'⟩
    · rw [BitVec.getLsbD_of_ge _ _ (by omega)]
      simp only [Bool.false_and, Bool.false_eq_true, false_iff]
      intro ⟨a, _⟩; exact hj a

def own_n (x : Int32) : Nat := x.toInt.toNat
def own_oJ (n : Nat) (S : Nat → Nat) (cn wi : Int32) (ms : List Value) : Prop := 0 ≤ cn.toInt ∧ 0 ≤ wi.toInt ∧ own_oI n S (own_n cn) (own_n wi) ms
def own_iJ (n : Nat) (S : Nat → Nat) (wi cn : Int32) (bits : Int64) (ms : List Value) : Prop := 0 ≤ cn.toInt ∧ 0 ≤ wi.toInt ∧ own_iI n S (own_n wi) (own_n cn) bits ms
theorem own_nc {x : Int32} (h : 0 ≤ x.toInt) : ((own_n x : Nat) : Int) = x.toInt := Int.toNat_of_nonneg h
theorem own_i1 {x : Int32} (h : 0 ≤ x.toInt) (h2 : x.toInt ≤ 70000) : (x + (1 : Int32)).toInt = x.toInt + 1 ∧ own_n (x + (1 : Int32)) = own_n x + 1 := by
  have e1 : (1 : Int32).toInt = 1 := by decide
  have c := c_iadd x 1
  have r := rng32 (x + 1)
  have s : (x + 1).toInt = x.toInt + 1 := by omega
  refine ⟨s, ?_⟩
  show (x + 1).toInt.toNat = x.toInt.toNat + 1
  omega
theorem own_nz {x : Int32} (h : 0 ≤ x.toInt) : ¬ x < 0 := by
  have e0 : (0 : Int32).toInt = 0 := by decide
  rw [Int32.lt_iff_toInt_lt]; omega
theorem own_jw {n : Nat} {S : Nat → Nat} {cn wi : Int32} {ms : List Value} (I : own_oJ n S cn wi ms) (h : wi < (1024 : Int32)) : ¬ wi < 0 ∧ own_n wi < 1024 := by
  obtain ⟨h1, h2, h3⟩ := I
  rw [Int32.lt_iff_toInt_lt, own_c1024] at h
  have e := own_nc h2
  exact ⟨own_nz h2, by omega⟩
theorem own_ji {gw : Nat → Int64} {n : Nat} {S : Nat → Nat} {cn wi : Int32} {ms : List Value} (hS : own_S gw n S) (I : own_oJ n S cn wi ms) (h : wi < (1024 : Int32)) : own_iJ n S wi cn ((gw (own_n wi)) ^^^ (-1 : Int64)) ms :=
  ⟨I.1, I.2.1, own_oIn hS I.2.2 (own_jw I h).2⟩
theorem own_j0 (S : Nat → Nat) (n : Nat) {ms : List Value} (hl : ms.length = n) : own_oJ n S (0 : Int32) (0 : Int32) ms := by
  have z : own_n (0 : Int32) = 0 := by decide
  refine ⟨by decide, by decide, ?_⟩
  rw [z]
  exact ⟨by omega, by omega, fun i _ => ⟨fun h => absurd h (by omega), fun h => absurd h (by omega)⟩, hl, fun i h => absurd h (by omega)⟩
theorem own_jo {n : Nat} {S : Nat → Nat} {wi cm : Int32} {bt : Int64} {ms : List Value} (hs : ∀ i j, i < j → j < n → S i < S j) (I : own_iJ n S wi cm bt ms) (h : bt = (0 : Int64)) : own_oJ n S cm (wi + (1 : Int32)) ms ∧ (1024 - (wi + (1 : Int32)).toInt).toNat < (1024 - wi.toInt).toNat := by
  subst h
  obtain ⟨h1, h2, h3⟩ := I
  have hw : own_n wi < 1024 := h3.1
  have e := own_nc h2
  have a := own_i1 h2 (by omega)
  refine ⟨⟨h1, by omega, ?_⟩, by omega⟩
  rw [a.2]
  exact own_iOut hs h3
theorem own_js {n : Nat} {S : Nat → Nat} {wi cm : Int32} {bt : Int64} {ms : List Value} (hn : n ≤ 3) (hs : ∀ i j, i < j → j < n → S i < S j) (I : own_iJ n S wi cm bt ms) (h : ¬ bt = (0 : Int64)) : own_iJ n S wi (cm + (1 : Int32)) (bt &&& (bt - (1 : Int64))) (ms.set (own_n cm) (.int (Int32.ofNat (S (own_n cm))))) ∧ ((n : Int) - (cm + (1 : Int32)).toInt).toNat < ((n : Int) - cm.toInt).toNat := by
  obtain ⟨h1, h2, h3⟩ := I
  obtain ⟨z, z1, z2, z3, z4, z5⟩ := own_iKey hs h3 h
  have e := own_nc h1
  have a := own_i1 h1 (by omega)
  refine ⟨⟨by omega, h2, ?_⟩, by omega⟩
  rw [a.2]
  exact own_iSt hs h3 z1 z2 z3 z4 z5
theorem own_on {x : Int32} (h : 0 ≤ x.toInt) : x = Int32.ofNat (own_n x) := by
  have e := own_nc h
  have r := rng32 x
  apply Int32.toInt_inj.mp
  rw [Int32.toInt_ofNat_of_lt (by omega)]
  exact e.symm
theorem own_or {a z : Nat} (ha : a < 1024) (hz : z < 64) : (Int32.ofNat (64 * a) ||| Int32.ofNat z) = Int32.ofNat (64 * a + z) := by
  apply Int32.toBitVec_inj.mp
  apply BitVec.eq_of_toNat_eq
  rw [Int32.toBitVec_or, BitVec.toNat_or]
  show (BitVec.ofNat 32 (64 * a)).toNat ||| (BitVec.ofNat 32 z).toNat = (BitVec.ofNat 32 (64 * a + z)).toNat
  rw [BitVec.toNat_ofNat, BitVec.toNat_ofNat, BitVec.toNat_ofNat, Nat.mod_eq_of_lt (by omega), Nat.mod_eq_of_lt (by omega), Nat.mod_eq_of_lt (by omega)]
  exact (Nat.two_pow_add_eq_or_of_lt (i := 6) hz a).symm
theorem own_jv {wi : Int32} {z : Nat} (h0 : 0 ≤ wi.toInt) (hw : own_n wi < 1024) (hz : z < 64) : ((wi <<< ((6 : Int32) &&& 31)) ||| Int32.ofNat z) = Int32.ofNat (64 * own_n wi + z) := by
  have e := own_nc h0
  have c := c_ishl wi 6 6 (by decide)
  have r := rng32 (wi <<< ((6 : Int32) &&& 31))
  have s : (wi <<< ((6 : Int32) &&& 31)) = Int32.ofNat (64 * own_n wi) := by
    apply Int32.toInt_inj.mp
    rw [Int32.toInt_ofNat_of_lt (by omega)]
    omega
  rw [s, own_or hw hz]
theorem own_jc {k : Nat} (h : k < 65536) : (Int32.ofNat k).toUInt32.toUInt16.toUInt32.toInt32 = Int32.ofNat k := by
  apply Int32.toBitVec_inj.mp
  apply BitVec.eq_of_toNat_eq
  show (((BitVec.ofNat 32 k).setWidth 16).setWidth 32).toNat = (BitVec.ofNat 32 k).toNat
  rw [BitVec.toNat_setWidth, BitVec.toNat_setWidth, BitVec.toNat_ofNat]
  omega
theorem own_jk {n : Nat} {S : Nat → Nat} {wi cm : Int32} {bt : Int64} {ms : List Value} (hs : ∀ i j, i < j → j < n → S i < S j) (I : own_iJ n S wi cm bt ms) (h : ¬ bt = (0 : Int64)) : ¬ cm < 0 ∧ own_n cm < ms.length ∧ (((wi <<< ((6 : Int32) &&& 31)) ||| f_lz bt).toUInt32.toUInt16.toUInt32.toInt32).toUInt32.toUInt16.toUInt32.toInt32 = Int32.ofNat (S (own_n cm)) := by
  obtain ⟨h1, h2, h3⟩ := I
  obtain ⟨z, z1, z2, z3, z4, z5⟩ := own_iKey hs h3 h
  have hw : own_n wi < 1024 := h3.1
  have hl : ms.length = n := h3.2.2.2.2.1.1
  refine ⟨own_nz h1, by omega, ?_⟩
  rw [own_lz z1 z4 z5, own_jv h2 hw z1, ← z3, own_jc (by omega), own_jc (by omega)]
theorem own_jf {gw : Nat → Int64} {n : Nat} {S : Nat → Nat} {cn wi : Int32} {ms : List Value} (hS : own_S gw n S) (I : own_oJ n S cn wi ms) (h : ¬ wi < (1024 : Int32)) : ms = (List.range n).map (fun i => Value.int (Int32.ofNat (S i))) := by
  obtain ⟨h1, h2, i1, i2, i3, i4, i5⟩ := I
  rw [Int32.lt_iff_toInt_lt, own_c1024] at h
  have e := own_nc h2
  have ew : own_n wi = 1024 := by omega
  apply List.ext_getElem?
  intro i
  by_cases q : i < n
  · have a := hS.2.1 i q
    have b := (i3 i q).mp (by omega)
    rw [i5 i b]
    simp [q]
  · rw [List.getElem?_eq_none (by omega), List.getElem?_eq_none (by simp; omega)]
theorem own_jf0 {gw : Nat → Int64} {S : Nat → Nat} {cn wi : Int32} {ms : List Value} (hS : own_S gw 0 S) (I : own_oJ 0 S cn wi ms) (h : ¬ wi < (1024 : Int32)) : ms = [] := own_jf hS I h
theorem own_jf1 {gw : Nat → Int64} {S : Nat → Nat} {cn wi : Int32} {ms : List Value} (hS : own_S gw 1 S) (I : own_oJ 1 S cn wi ms) (h : ¬ wi < (1024 : Int32)) : ms = [(.int (Int32.ofNat (S 0)))] := own_jf hS I h
theorem own_jf2 {gw : Nat → Int64} {S : Nat → Nat} {cn wi : Int32} {ms : List Value} (hS : own_S gw 2 S) (I : own_oJ 2 S cn wi ms) (h : ¬ wi < (1024 : Int32)) : ms = [(.int (Int32.ofNat (S 0))), (.int (Int32.ofNat (S 1)))] := own_jf hS I h
theorem own_jf3 {gw : Nat → Int64} {S : Nat → Nat} {cn wi : Int32} {ms : List Value} (hS : own_S gw 3 S) (I : own_oJ 3 S cn wi ms) (h : ¬ wi < (1024 : Int32)) : ms = [(.int (Int32.ofNat (S 0))), (.int (Int32.ofNat (S 1))), (.int (Int32.ofNat (S 2)))] := own_jf hS I h

theorem kw72 {Z : State} {a0 : Array Value} (hw : ∀ d ∈ tables_1, d.before a0 Z = true) : (Jvm.Cond.methodLink "com/example/tightbit/tightbit/SparseDocIds$Complement" (3 : Nat) ({ cls := "java/lang/Object", name := "<init>", desc := "()V" } : Jvm.MethodName)).before a0 Z = true := hw _ (List.mem_of_getElem? (i := 72) rfl)
theorem kw73 {Z : State} {a0 : Array Value} (hw : ∀ d ∈ tables_1, d.before a0 Z = true) : (Jvm.Cond.constant "com/example/tightbit/tightbit/SparseDocIds$Complement" (9 : Nat) (65536 : Int32)).before a0 Z = true := hw _ (List.mem_of_getElem? (i := 73) rfl)
theorem kw4 {Z : State} {a0 : Array Value} (hw : ∀ d ∈ tables_1, d.before a0 Z = true) : (Jvm.Cond.arrayClass Jvm.ClassFile.FieldType.char).before a0 Z = true := hw _ (List.mem_of_getElem? (i := 4) rfl)
theorem kw75 {Z : State} {a0 : Array Value} (hw : ∀ d ∈ tables_1, d.before a0 Z = true) : (Jvm.Cond.laysFinal "com/example/tightbit/tightbit/SparseDocIds$Complement" "com/example/tightbit/tightbit/SparseDocIds$Complement" "missing" "[C").before a0 Z = true := hw _ (List.mem_of_getElem? (i := 75) rfl)
theorem kw74 {Z : State} {a0 : Array Value} (hw : ∀ d ∈ tables_1, d.before a0 Z = true) : (Jvm.Cond.fieldLink "com/example/tightbit/tightbit/SparseDocIds$Complement" (10 : Nat) "com/example/tightbit/tightbit/SparseDocIds$Complement" "missing" "[C").before a0 Z = true := hw _ (List.mem_of_getElem? (i := 74) rfl)
theorem kw66 {Z : State} {a0 : Array Value} (hw : ∀ d ∈ tables_1, d.before a0 Z = true) : (Jvm.Cond.instantiable "com/example/tightbit/tightbit/SparseDocIds$Complement" (1 : Nat)).before a0 Z = true := hw _ (List.mem_of_getElem? (i := 66) rfl)
theorem kw76 {Z : State} {a0 : Array Value} (hw : ∀ d ∈ tables_1, d.before a0 Z = true) : (Jvm.Cond.constantLong "com/example/tightbit/tightbit/SparseDocIds$Complement" (16 : Nat) (-1 : Int64)).before a0 Z = true := hw _ (List.mem_of_getElem? (i := 76) rfl)
theorem kw93 {Z : State} {a0 : Array Value} (hw : ∀ d ∈ tables_1, d.before a0 Z = true) : (Jvm.Cond.code ({ cls := "java/lang/Long", name := "numberOfTrailingZeros", desc := "(J)I" } : Jvm.MethodName) jdk_35_method_49_code (3 : Nat) (Option.some Jvm.ClassFile.FieldType.int)).before a0 Z = true := hw _ (List.mem_of_getElem? (i := 93) rfl)
theorem kw92 {Z : State} {a0 : Array Value} (hw : ∀ d ∈ tables_1, d.before a0 Z = true) : (Jvm.Cond.initialized "java/lang/Long").before a0 Z = true := hw _ (List.mem_of_getElem? (i := 92) rfl)
theorem pd8 : parseMethodDescriptor "(J)I" = some ⟨[.long], some .int⟩ := by decide +kernel
theorem kw90 {Z : State} {a0 : Array Value} (hw : ∀ d ∈ tables_1, d.before a0 Z = true) : (Jvm.Cond.methodLink "com/example/tightbit/tightbit/SparseDocIds$Complement" (18 : Nat) ({ cls := "java/lang/Long", name := "numberOfTrailingZeros", desc := "(J)I" } : Jvm.MethodName)).before a0 Z = true := hw _ (List.mem_of_getElem? (i := 90) rfl)
theorem kw91 {Z : State} {a0 : Array Value} (hw : ∀ d ∈ tables_1, d.before a0 Z = true) : (Jvm.Cond.static ({ cls := "java/lang/Long", name := "numberOfTrailingZeros", desc := "(J)I" } : Jvm.MethodName)).before a0 Z = true := hw _ (List.mem_of_getElem? (i := 91) rfl)
theorem d_prog_66_method_1_0 : decode prog_66_method_1_code 0 = .ok (.aload_n 0, 1) := by decide +kernel
theorem d_prog_66_method_1_1 : decode prog_66_method_1_code 1 = .ok (.invokespecial 3, 3) := by decide +kernel
theorem d_prog_66_method_1_4 : decode prog_66_method_1_code 4 = .ok (.aload_n 0, 1) := by decide +kernel
theorem d_prog_66_method_1_5 : decode prog_66_method_1_code 5 = .ok (.ldc 9, 2) := by decide +kernel
theorem d_prog_66_method_1_7 : decode prog_66_method_1_code 7 = .ok (.iload_n 2, 1) := by decide +kernel
theorem d_prog_66_method_1_8 : decode prog_66_method_1_code 8 = .ok (.isub, 1) := by decide +kernel
theorem d_prog_66_method_1_9 : decode prog_66_method_1_code 9 = .ok (.newarray .char, 2) := by decide +kernel
theorem d_prog_66_method_1_11 : decode prog_66_method_1_code 11 = .ok (.putfield 10, 3) := by decide +kernel
theorem d_prog_66_method_1_14 : decode prog_66_method_1_code 14 = .ok (.iconst 0, 1) := by decide +kernel
theorem d_prog_66_method_1_15 : decode prog_66_method_1_code 15 = .ok (.istore_n 3, 1) := by decide +kernel
theorem d_prog_66_method_1_16 : decode prog_66_method_1_code 16 = .ok (.iconst 0, 1) := by decide +kernel
theorem d_prog_66_method_1_17 : decode prog_66_method_1_code 17 = .ok (.istore 4, 2) := by decide +kernel
theorem d_prog_66_method_1_19 : decode prog_66_method_1_code 19 = .ok (.iload 4, 2) := by decide +kernel
theorem d_prog_66_method_1_21 : decode prog_66_method_1_code 21 = .ok (.sipush 1024, 3) := by decide +kernel
theorem d_prog_66_method_1_24 : decode prog_66_method_1_code 24 = .ok (.if_icmp .ge 59, 3) := by decide +kernel
theorem d_prog_66_method_1_27 : decode prog_66_method_1_code 27 = .ok (.aload_n 1, 1) := by decide +kernel
theorem d_prog_66_method_1_28 : decode prog_66_method_1_code 28 = .ok (.iload 4, 2) := by decide +kernel
theorem d_prog_66_method_1_30 : decode prog_66_method_1_code 30 = .ok (.laload, 1) := by decide +kernel
theorem d_prog_66_method_1_31 : decode prog_66_method_1_code 31 = .ok (.ldc2_w 16, 3) := by decide +kernel
theorem d_prog_66_method_1_34 : decode prog_66_method_1_code 34 = .ok (.lxor, 1) := by decide +kernel
theorem d_prog_66_method_1_35 : decode prog_66_method_1_code 35 = .ok (.lstore 5, 2) := by decide +kernel
theorem d_prog_66_method_1_37 : decode prog_66_method_1_code 37 = .ok (.lload 5, 2) := by decide +kernel
theorem d_prog_66_method_1_39 : decode prog_66_method_1_code 39 = .ok (.lconst 0, 1) := by decide +kernel
theorem d_prog_66_method_1_40 : decode prog_66_method_1_code 40 = .ok (.lcmp, 1) := by decide +kernel
theorem d_prog_66_method_1_41 : decode prog_66_method_1_code 41 = .ok (.ifCond .eq 36, 3) := by decide +kernel
theorem d_prog_66_method_1_44 : decode prog_66_method_1_code 44 = .ok (.aload_n 0, 1) := by decide +kernel
theorem d_prog_66_method_1_45 : decode prog_66_method_1_code 45 = .ok (.getfield 10, 3) := by decide +kernel
theorem d_prog_66_method_1_48 : decode prog_66_method_1_code 48 = .ok (.iload_n 3, 1) := by decide +kernel
theorem d_prog_66_method_1_49 : decode prog_66_method_1_code 49 = .ok (.iload 4, 2) := by decide +kernel
theorem d_prog_66_method_1_51 : decode prog_66_method_1_code 51 = .ok (.bipush 6, 2) := by decide +kernel
theorem d_prog_66_method_1_53 : decode prog_66_method_1_code 53 = .ok (.ishl, 1) := by decide +kernel
theorem d_prog_66_method_1_54 : decode prog_66_method_1_code 54 = .ok (.lload 5, 2) := by decide +kernel
theorem d_prog_66_method_1_56 : decode prog_66_method_1_code 56 = .ok (.invokestatic 18, 3) := by decide +kernel
theorem d_prog_66_method_1_59 : decode prog_66_method_1_code 59 = .ok (.ior, 1) := by decide +kernel
theorem d_prog_66_method_1_60 : decode prog_66_method_1_code 60 = .ok (.i2c, 1) := by decide +kernel
theorem d_prog_66_method_1_61 : decode prog_66_method_1_code 61 = .ok (.castore, 1) := by decide +kernel
theorem d_prog_66_method_1_62 : decode prog_66_method_1_code 62 = .ok (.iinc 3 1, 3) := by decide +kernel
theorem d_prog_66_method_1_65 : decode prog_66_method_1_code 65 = .ok (.lload 5, 2) := by decide +kernel
theorem d_prog_66_method_1_67 : decode prog_66_method_1_code 67 = .ok (.lload 5, 2) := by decide +kernel
theorem d_prog_66_method_1_69 : decode prog_66_method_1_code 69 = .ok (.lconst 1, 1) := by decide +kernel
theorem d_prog_66_method_1_70 : decode prog_66_method_1_code 70 = .ok (.lsub, 1) := by decide +kernel
theorem d_prog_66_method_1_71 : decode prog_66_method_1_code 71 = .ok (.land, 1) := by decide +kernel
theorem d_prog_66_method_1_72 : decode prog_66_method_1_code 72 = .ok (.lstore 5, 2) := by decide +kernel
theorem d_prog_66_method_1_74 : decode prog_66_method_1_code 74 = .ok (.goto (-37), 3) := by decide +kernel
theorem d_prog_66_method_1_77 : decode prog_66_method_1_code 77 = .ok (.iinc 4 1, 3) := by decide +kernel
theorem d_prog_66_method_1_80 : decode prog_66_method_1_code 80 = .ok (.goto (-61), 3) := by decide +kernel
theorem pn7 : plainName "com/example/tightbit/tightbit/SparseDocIds$Complement" = true := by first | (simp [plainName, overriddenIn]; done) | decide +kernel
theorem ef_k0 (m : MethodId) (thisk0 : Addr) (ak0_1 : Addr) (xk0_2 : Int32) : entryFrame m #[(.ref thisk0), (.ref ak0_1), (.int xk0_2)] 7 = mkF m 0 #[.val (.ref thisk0), .val (.ref ak0_1), .val (.int xk0_2), .unset, .unset, .unset, .unset] [] := by first | (simp [entryFrame, mkF, argsToLocals, Value.category]; done) | rfl
def Q_k0 (Z : State) (thisk0 : Addr) (ak0_1 : Addr) (xk0_2 : Int32) (gw : Nat → Int64) (S : Nat → Nat) (h0 : Heap) (n0 : Nat) (v : Option Value) (h : Heap) (L : List Loc) : Prop := ∃ b26 : Addr, v = none ∧ Fr n0 L ∧ Keep h0 h [thisk0] ∧ h0.size ≤ b26 ∧ Exa Z h thisk0 "com/example/tightbit/tightbit/SparseDocIds$Complement" ∧ Al Z h b26 .char [] ∧ Fld Z h thisk0 "com/example/tightbit/tightbit/SparseDocIds$Complement" "missing" "[C" (.ref b26)
theorem d_prog_66_method_1_83 : decode prog_66_method_1_code 83 = .ok (.return_, 1) := by decide +kernel
abbrev mt17 : MethodName := ⟨"com/example/tightbit/tightbit/SparseDocIds$Complement", "<init>", "([JI)V"⟩
set_option maxRecDepth 65536 in
set_option maxHeartbeats 40000000 in
theorem rm_k0 (l : Launch) (Z : State) (a0 : Array Value) (hw : ∀ d ∈ tables_1, d.before a0 Z = true) (ws : List Jvm.Cond) (thisk0 : Addr) (ak0_1 : Addr) (xk0_2 : Int32) (gw : Nat → Int64) (S : Nat → Nat) (h0 : Heap) (n0 : Nat) (Z0 : n0 ≤ h0.size) (hcnt : ((65536 : Int32) - xk0_2) = (0 : Int32)) (hS : own_S gw 0 S) (E_thisk0 : Exa Z h0 thisk0 "com/example/tightbit/tightbit/SparseDocIds$Complement") (F_thisk0_missing : Fld Z h0 thisk0 "com/example/tightbit/tightbit/SparseDocIds$Complement" "missing" "[C" .null) (g_thisk0 : n0 ≤ thisk0) (V_ak0_1 : Al Z h0 ak0_1 .long (own_wl gw)) (ne_ak0_1_thisk0 : ak0_1 ≠ thisk0) :
    MetFree l mt17 (head1 (Jvm.Cond.code mt17 prog_66_method_1_code 7 none :: ws) ({ frames := 2, cells := 1, slots := 0, locals := 31 } : Room)) (fun a U => a = #[(.ref thisk0), (.ref ak0_1), (.int xk0_2)] ∧ Z.Warmed39 U.vm ∧ U.heap = h0) (fun _ _ _ _ _ => True) (fun _ U o U' => ∃ v L, o = .returned v ∧ (Q_k0 Z thisk0 ak0_1 xk0_2 gw S h0 n0) v U'.heap L ∧ FrameEnd U o U' L ({ frames := 2, cells := 1, slots := 0, locals := 31 } : Room).cells ({ frames := 2, cells := 1, slots := 0, locals := 31 } : Room).slots) := by
  refine MetFree.of_bodySF (plainFor_of_name pn7) hisR ?_
  intro p e s m args below meth c s₁ Bd hml0 hP hK
  obtain ⟨rfl, hZ, hh⟩ := hP
  have hx := Bd.exec
  have hby := Bd.bytes
  have hml : c.maxLocals = 7 := hml0
  have hown : s.vm.findClass "com/example/tightbit/tightbit/SparseDocIds$Complement" = some m.cls := findClass_of_methodNamed Bd.named
  have hnm := (name_of_methodNamed Bd.named Bd.method).1
  have X0 : Stand p l e ({ frames := 2, cells := 1, slots := 0, locals := 31 } : Room) s m #[(.ref thisk0), (.ref ak0_1), (.int xk0_2)] below meth c s₁ [] 0 0 := Stand.of_body Bd
  have e0 : s₁.heap = h0 := by rw [← hh, Bd.state]; rfl
  have N0 := Fr.nil n0
  refine Wq.step (p := p) (e := e) (below := below) (En := (fun o t L => FrameEnd s o t L ({ frames := 2, cells := 1, slots := 0, locals := 31 } : Room).cells ({ frames := 2, cells := 1, slots := 0, locals := 31 } : Room).slots)) (Q := (Q_k0 Z thisk0 ak0_1 xk0_2 gw S h0 n0)) (fun t k => castTop (ef_k0 m thisk0 ak0_1 xk0_2) k) ?_
  show Wq _ _ _ _ _ (s₁.setTop (mkF m 0 #[.val (.ref thisk0), .val (.ref ak0_1), .val (.int xk0_2), .unset, .unset, .unset, .unset] []))
  refine Ow.aloadN X0 hx (pc' := 1) (hb hby d_prog_66_method_1_0) rfl rfl ?_
  obtain ⟨T25, X25, e25, st25⟩ := initO X0 hx hZ hown (kw72 hw) (kw9 hw) (kw10 hw) e0 (g := (mkF m 1 #[.val (.ref thisk0), .val (.ref ak0_1), .val (.int xk0_2), .unset, .unset, .unset, .unset] [(.ref thisk0)])) rfl (by rw [hml]; rfl) rfl (hb hby d_prog_66_method_1_1) (by decide) (W := 0) (by show 2 * 0 + _ ≤ _; exact Nat.le_of_eq rfl) (by decide)
  refine Wq.step st25 ?_
  show Wq _ _ _ _ _ (T25.setTop (mkF m 4 #[.val (.ref thisk0), .val (.ref ak0_1), .val (.int xk0_2), .unset, .unset, .unset, .unset] []))
  refine Ow.aloadN X25 hx (pc' := 5) (hb hby d_prog_66_method_1_4) rfl rfl ?_
  refine Ow.ldcInt X25 hx hZ (pc' := 7) hown (kw73 hw) (hb hby d_prog_66_method_1_5) ?_
  refine Ow.iloadN X25 hx (pc' := 8) (hb hby d_prog_66_method_1_7) rfl ?_
  refine Ow.isub X25 hx (pc' := 9) (hb hby d_prog_66_method_1_8) (z := ((65536 : Int32) - xk0_2)) rfl ?_
  obtain ⟨T26, h26, k26, X26, e26, E26, A26, st26⟩ := newP X25 hx hZ (aty := .char) (kw4 hw) e25 (g := (mkF m 9 #[.val (.ref thisk0), .val (.ref ak0_1), .val (.int xk0_2), .unset, .unset, .unset, .unset] [(.int ((65536 : Int32) - xk0_2)), (.ref thisk0)])) rfl (hb hby d_prog_66_method_1_9) rfl (by rw [hcnt]; decide) (cap := 0) (by rw [hcnt]; decide) (by decide) (by decide) (by decide)
  obtain ⟨b26, gz26⟩ : ∃ z, z = h0.size := ⟨_, rfl⟩
  rw [← gz26] at A26 st26
  have g_b26 : n0 ≤ b26 := Nat.le_trans Z0 (Nat.le_of_eq gz26.symm)
  have sz_b26 : h0.size ≤ b26 := Nat.le_of_eq gz26.symm
  have ne_thisk0_b26 : thisk0 ≠ b26 := Nat.ne_of_lt (Nat.lt_of_lt_of_le E_thisk0.lt (Nat.le_of_eq gz26.symm))
  have ne_ak0_1_b26 : ak0_1 ≠ b26 := Nat.ne_of_lt (Nat.lt_of_lt_of_le V_ak0_1.lt (Nat.le_of_eq gz26.symm))
  have K26 : Keep h0 h26 [thisk0] := (Keep.refl h0 [thisk0]).ext E26
  have Z26 : n0 ≤ h26.size := Nat.le_trans Z0 E26.1
  have E_thisk0_t26 := E_thisk0.ext E26
  have F_thisk0_missing_t26 := F_thisk0_missing.ext E26
  have V_ak0_1_t26 := V_ak0_1.ext E26
  have V_b26 : Al Z h26 b26 .char [] := Al.new A26 (k := 0) (by rw [hcnt]; decide) rfl
  refine Wq.step st26 ?_
  show Wq _ _ _ _ _ (T26.setTop (mkF m 11 #[.val (.ref thisk0), .val (.ref ak0_1), .val (.int xk0_2), .unset, .unset, .unset, .unset] [(.ref b26), (.ref thisk0)]))
  obtain ⟨T27, h27, X27, e27, W27, st27⟩ := putF X26 hx hZ hown (host := "") (Or.inl (kw74 hw)) Via.refl e26 F_thisk0_missing_t26 E_thisk0_t26 (Or.inr ⟨(kw75 hw), rfl, hnm⟩) (kw66 hw) (ty := (.array .char)) (by decide) (rfl) (rfl) (g := (mkF m 11 #[.val (.ref thisk0), .val (.ref ak0_1), .val (.int xk0_2), .unset, .unset, .unset, .unset] [(.ref b26), (.ref thisk0)])) rfl rfl (hb hby d_prog_66_method_1_11)
  refine Wq.step st27 ?_
  have N27 := Fr.snoc X27 N0 g_thisk0
  have K27 : Keep h0 h27 [thisk0] := K26.wr W27 (Or.inl (List.mem_of_getElem? (i := 0) rfl))
  have Z27 : n0 ≤ h27.size := Nat.le_trans Z26 (Keep.of_wr W27).1
  have E_thisk0_t27 := E_thisk0_t26.wr W27
  have V_ak0_1_t27 := V_ak0_1_t26.other W27 ne_ak0_1_thisk0
  have V_b26_t27 := V_b26.other W27 (Ne.symm ne_thisk0_b26)
  have F_thisk0_missing_t27 : Fld Z h27 thisk0 "com/example/tightbit/tightbit/SparseDocIds$Complement" "missing" "[C" (.ref b26) := F_thisk0_missing_t26.same W27
  show Wq _ _ _ _ _ (T27.setTop (mkF m 14 #[.val (.ref thisk0), .val (.ref ak0_1), .val (.int xk0_2), .unset, .unset, .unset, .unset] []))
  refine Ow.iconst X27 hx (pc' := 15) (hb hby d_prog_66_method_1_14) (z := (0 : Int32)) rfl ?_
  refine Ow.istoreN X27 hx (pc' := 16) (hb hby d_prog_66_method_1_15) (l' := #[.val (.ref thisk0), .val (.ref ak0_1), .val (.int xk0_2), .val (.int (0 : Int32)), .unset, .unset, .unset]) rfl ?_
  refine Ow.iconst X27 hx (pc' := 17) (hb hby d_prog_66_method_1_16) (z := (0 : Int32)) rfl ?_
  refine Ow.istore X27 hx (pc' := 19) (hb hby d_prog_66_method_1_17) (l' := #[.val (.ref thisk0), .val (.ref ak0_1), .val (.int xk0_2), .val (.int (0 : Int32)), .val (.int (0 : Int32)), .unset, .unset]) rfl ?_
  have LP19 : ∀ (no : Nat) (cn : Int32) (wi : Int32) (s5 : Slot) (s6 : Slot) (m1 : List Value) (T28 : State) (h28 : Heap) (L28 : List Loc) (X28 : Stand p l e ({ frames := 2, cells := 1, slots := 0, locals := 31 } : Room) s m #[(.ref thisk0), (.ref ak0_1), (.int xk0_2)] below meth c T28 L28 1 0) (e28 : T28.heap = h28) (N28 : Fr n0 L28) (K28 : Keep h0 h28 [thisk0]) (Z28 : n0 ≤ h28.size) (E_thisk0_t28 : Exa Z h28 thisk0 "com/example/tightbit/tightbit/SparseDocIds$Complement") (V_ak0_1_t28 : Al Z h28 ak0_1 .long (own_wl gw)) (V_b26_t28 : Al Z h28 b26 .char m1) (F_thisk0_missing_t28 : Fld Z h28 thisk0 "com/example/tightbit/tightbit/SparseDocIds$Complement" "missing" "[C" (.ref b26)) (I1 : own_oJ 0 S cn wi m1) (HS : (s5 = .unset ∧ s6 = .unset) ∨ ∃ z, s5 = .val (.long z) ∧ s6 = .second) (hmo : (1024 - wi.toInt).toNat = no), Wq p e below (fun o t L => FrameEnd s o t L ({ frames := 2, cells := 1, slots := 0, locals := 31 } : Room).cells ({ frames := 2, cells := 1, slots := 0, locals := 31 } : Room).slots) (Q_k0 Z thisk0 ak0_1 xk0_2 gw S h0 n0) (T28.setTop (mkF m 19 #[.val (.ref thisk0), .val (.ref ak0_1), .val (.int xk0_2), .val (.int cn), .val (.int wi), s5, s6] [])) := by
    intro no
    induction no using Nat.strongRecOn with
    | _ no iho =>
    intro cn wi s5 s6 m1 T28 h28 L28 X28 e28 N28 K28 Z28 E_thisk0_t28 V_ak0_1_t28 V_b26_t28 F_thisk0_missing_t28 I1 HS hmo
    show Wq _ _ _ _ _ (T28.setTop (mkF m 19 #[.val (.ref thisk0), .val (.ref ak0_1), .val (.int xk0_2), .val (.int cn), .val (.int wi), s5, s6] []))
    refine Ow.iload X28 hx (pc' := 21) (hb hby d_prog_66_method_1_19) rfl ?_
    refine Ow.sipush X28 hx (pc' := 24) (hb hby d_prog_66_method_1_21) (z := (1024 : Int32)) rfl ?_
    by_cases hc24 : wi < (1024 : Int32)
    · skip
      refine Ow.icmpNo X28 hx (pc' := 27) (hb hby d_prog_66_method_1_24) (tlt hc24).2.1 ?_
      refine Ow.aloadN X28 hx (pc' := 28) (hb hby d_prog_66_method_1_27) rfl rfl ?_
      refine Ow.iload X28 hx (pc' := 30) (hb hby d_prog_66_method_1_28) rfl ?_
      refine Ow.ldJ X28 hx hZ e28 V_ak0_1_t28 (pc' := 31) (hb hby d_prog_66_method_1_30) (j := wi) (i := (own_n wi)) (v := (.long (gw (own_n wi)))) ((own_jw I1 hc24).1) (rfl) (own_wlg gw (own_jw I1 hc24).2) ?_
      refine Ow.ldc2Long X28 hx hZ (pc' := 34) hown (kw76 hw) (hb hby d_prog_66_method_1_31) ?_
      refine Ow.lxor X28 hx (pc' := 35) (hb hby d_prog_66_method_1_34) (z := ((gw (own_n wi)) ^^^ (-1 : Int64))) rfl ?_
      refine Ow.lstore X28 hx (pc' := 37) (hb hby d_prog_66_method_1_35) (l' := #[.val (.ref thisk0), .val (.ref ak0_1), .val (.int xk0_2), .val (.int cn), .val (.int wi), .val (.long ((gw (own_n wi)) ^^^ (-1 : Int64))), .second]) (by rcases HS with ⟨rfl, rfl⟩ | ⟨_, rfl, rfl⟩ <;> rfl) ?_
      have LP37 : ∀ (ni : Nat) (cm : Int32) (bt : Int64) (m2 : List Value) (T29 : State) (h29 : Heap) (L29 : List Loc) (X29 : Stand p l e ({ frames := 2, cells := 1, slots := 0, locals := 31 } : Room) s m #[(.ref thisk0), (.ref ak0_1), (.int xk0_2)] below meth c T29 L29 1 0) (e29 : T29.heap = h29) (N29 : Fr n0 L29) (K29 : Keep h0 h29 [thisk0]) (Z29 : n0 ≤ h29.size) (E_thisk0_t29 : Exa Z h29 thisk0 "com/example/tightbit/tightbit/SparseDocIds$Complement") (V_ak0_1_t29 : Al Z h29 ak0_1 .long (own_wl gw)) (V_b26_t29 : Al Z h29 b26 .char m2) (F_thisk0_missing_t29 : Fld Z h29 thisk0 "com/example/tightbit/tightbit/SparseDocIds$Complement" "missing" "[C" (.ref b26)) (I2 : own_iJ 0 S wi cm bt m2) (hmi : (((0 : Nat) : Int) - cm.toInt).toNat = ni), Wq p e below (fun o t L => FrameEnd s o t L ({ frames := 2, cells := 1, slots := 0, locals := 31 } : Room).cells ({ frames := 2, cells := 1, slots := 0, locals := 31 } : Room).slots) (Q_k0 Z thisk0 ak0_1 xk0_2 gw S h0 n0) (T29.setTop (mkF m 37 #[.val (.ref thisk0), .val (.ref ak0_1), .val (.int xk0_2), .val (.int cm), .val (.int wi), .val (.long bt), .second] [])) := by
        intro ni
        induction ni using Nat.strongRecOn with
        | _ ni ihi =>
        intro cm bt m2 T29 h29 L29 X29 e29 N29 K29 Z29 E_thisk0_t29 V_ak0_1_t29 V_b26_t29 F_thisk0_missing_t29 I2 hmi
        show Wq _ _ _ _ _ (T29.setTop (mkF m 37 #[.val (.ref thisk0), .val (.ref ak0_1), .val (.int xk0_2), .val (.int cm), .val (.int wi), .val (.long bt), .second] []))
        refine Ow.lload X29 hx (pc' := 39) (hb hby d_prog_66_method_1_37) rfl ?_
        refine Ow.lconst X29 hx (pc' := 40) (hb hby d_prog_66_method_1_39) (z := (0 : Int64)) rfl ?_
        refine Ow.lcmp X29 hx (pc' := 41) (hb hby d_prog_66_method_1_40)  ?_
        by_cases hc41 : bt = (0 : Int64)
        · skip
          refine Ow.ifYes X29 hx (pc' := 77) (hb hby d_prog_66_method_1_41) ((if0 _ _).trans (teq ((lw_eq _ _).mpr hc41)).1) (by decide) (by decide) ?_
          refine Ow.iinc X29 hx (pc' := 80) (hb hby d_prog_66_method_1_77) rfl (l' := #[.val (.ref thisk0), .val (.ref ak0_1), .val (.int xk0_2), .val (.int cm), .val (.int (wi + (1 : Int32))), .val (.long bt), .second]) rfl ?_
          show Wq _ _ _ _ _ (T29.setTop (mkF m 80 #[.val (.ref thisk0), .val (.ref ak0_1), .val (.int xk0_2), .val (.int cm), .val (.int (wi + (1 : Int32))), .val (.long bt), .second] []))
          refine Ow.goto X29 hx (pc' := 19) (hb hby d_prog_66_method_1_80) (by decide) (by decide) ?_
          exact iho _ (by rw [← hmo]; exact (own_jo hS.1 I2 hc41).2) cm (wi + (1 : Int32)) (.val (.long bt)) (.second) (m2) T29 h29 _ X29 e29 N29 K29 Z29 E_thisk0_t29 V_ak0_1_t29 V_b26_t29 F_thisk0_missing_t29 ((own_jo hS.1 I2 hc41).1) (Or.inr ⟨_, rfl, rfl⟩) rfl
        · skip
          refine Ow.ifNo X29 hx (pc' := 44) (hb hby d_prog_66_method_1_41) ((if0 _ _).trans (feq (mt (lw_eq _ _).mp hc41)).1) ?_
          refine Ow.aloadN X29 hx (pc' := 45) (hb hby d_prog_66_method_1_44) rfl rfl ?_
          obtain ⟨T30, X30, e30, st30⟩ := getF X29 hx hZ hown (host := "") (Or.inl (kw74 hw)) Via.refl e29 F_thisk0_missing_t29 (g := (mkF m 45 #[.val (.ref thisk0), .val (.ref ak0_1), .val (.int xk0_2), .val (.int cm), .val (.int wi), .val (.long bt), .second] [(.ref thisk0)])) rfl rfl (hb hby d_prog_66_method_1_45)
          refine Wq.step st30 ?_
          show Wq _ _ _ _ _ (T30.setTop (mkF m 48 #[.val (.ref thisk0), .val (.ref ak0_1), .val (.int xk0_2), .val (.int cm), .val (.int wi), .val (.long bt), .second] [(.ref b26)]))
          refine Ow.iloadN X30 hx (pc' := 49) (hb hby d_prog_66_method_1_48) rfl ?_
          refine Ow.iload X30 hx (pc' := 51) (hb hby d_prog_66_method_1_49) rfl ?_
          refine Ow.bipush X30 hx (pc' := 53) (hb hby d_prog_66_method_1_51) (z := (6 : Int32)) rfl ?_
          refine Ow.ishl X30 hx (pc' := 54) (hb hby d_prog_66_method_1_53) (z := (wi <<< ((6 : Int32) &&& 31))) rfl ?_
          refine Ow.lload X30 hx (pc' := 56) (hb hby d_prog_66_method_1_54) rfl ?_
          obtain ⟨_, _, ⟨T31, L31, k31, n31⟩, -, X31, ⟨Lc31, hQ31, l31, y31, z31⟩, st31⟩ := Jvm.LawKit.callS X30 hx (y := mt16) hown (mvT hZ (kw90 hw)) (mvT hZ (kw91 hw)) (mvT hZ (kw92 hw)) (mvT hZ (kw93 hw)) (by decide) (backOf (W := 3) (rm_lz l Z a0 hw [] bt h29 n0 Z29 ) hZ (kw93 hw) (kw92 hw) (by decide) (by decide)) (g := (mkF m 56 #[.val (.ref thisk0), .val (.ref ak0_1), .val (.int xk0_2), .val (.int cm), .val (.int wi), .val (.long bt), .second] [(.long bt), (.int (wi <<< ((6 : Int32) &&& 31))), (.int cm), (.ref b26)])) rfl (by rw [hml]; rfl) (argsL := [(.long bt)]) (rest := [(.int (wi <<< ((6 : Int32) &&& 31))), (.int cm), (.ref b26)]) (lenOf pd8 rfl) rfl (by show 2 * 0 + _ ≤ _; exact Nat.le_of_eq rfl) (hb hby d_prog_66_method_1_56) (fun _ _ => ⟨rfl, e30, (by decide : 1 + 0 ≤ _), (by decide : 0 + 0 ≤ _)⟩)
          dsimp only [Pt.U, Pt.locs, Pt.cells, Pt.slots] at X31 l31 y31 z31 st31 hQ31
          subst l31 y31 z31
          obtain ⟨rfl, Nq31, e31⟩ := hQ31
          have N31 := Fr.app N29 Nq31
          refine Wq.step st31 ?_
          show Wq _ _ _ _ _ (T31.setTop (mkF m 59 #[.val (.ref thisk0), .val (.ref ak0_1), .val (.int xk0_2), .val (.int cm), .val (.int wi), .val (.long bt), .second] [(.int (f_lz bt)), (.int (wi <<< ((6 : Int32) &&& 31))), (.int cm), (.ref b26)]))
          refine Ow.ior X31 hx (pc' := 60) (hb hby d_prog_66_method_1_59) (z := ((wi <<< ((6 : Int32) &&& 31)) ||| (f_lz bt))) rfl ?_
          refine Ow.i2c X31 hx (pc' := 61) (hb hby d_prog_66_method_1_60) (z := (((wi <<< ((6 : Int32) &&& 31)) ||| (f_lz bt)).toUInt32.toUInt16.toUInt32.toInt32)) rfl ?_
          obtain ⟨T32, h32, X32, e32, W32, Vr32, st32⟩ := asC X31 hx hZ e31 V_b26_t29 (j := cm) (i := (own_n cm)) ((own_jk hS.1 I2 hc41).1) (rfl) ((own_jk hS.1 I2 hc41).2.1) (y := (Int32.ofNat (S (own_n cm)))) ((own_jk hS.1 I2 hc41).2.2) (g := (mkF m 61 #[.val (.ref thisk0), .val (.ref ak0_1), .val (.int xk0_2), .val (.int cm), .val (.int wi), .val (.long bt), .second] [(.int (((wi <<< ((6 : Int32) &&& 31)) ||| (f_lz bt)).toUInt32.toUInt16.toUInt32.toInt32)), (.int cm), (.ref b26)])) rfl rfl (hb hby d_prog_66_method_1_61)
          refine Wq.step st32 ?_
          have N32 := Fr.snoc X32 N31 g_b26
          have K32 : Keep h0 h32 [thisk0] := K29.wr W32 (Or.inr sz_b26)
          have Z32 : n0 ≤ h32.size := Nat.le_trans Z29 (Keep.of_wr W32).1
          have E_thisk0_t32 := E_thisk0_t29.wr W32
          have V_ak0_1_t32 := V_ak0_1_t29.other W32 ne_ak0_1_b26
          have F_thisk0_missing_t32 := F_thisk0_missing_t29.other W32 (Or.inl ne_thisk0_b26)
          have V_b26_t32 : Al Z h32 b26 .char (m2.set (own_n cm) (.int (Int32.ofNat (S (own_n cm))))) := Vr32
          show Wq _ _ _ _ _ (T32.setTop (mkF m 62 #[.val (.ref thisk0), .val (.ref ak0_1), .val (.int xk0_2), .val (.int cm), .val (.int wi), .val (.long bt), .second] []))
          refine Ow.iinc X32 hx (pc' := 65) (hb hby d_prog_66_method_1_62) rfl (l' := #[.val (.ref thisk0), .val (.ref ak0_1), .val (.int xk0_2), .val (.int (cm + (1 : Int32))), .val (.int wi), .val (.long bt), .second]) rfl ?_
          show Wq _ _ _ _ _ (T32.setTop (mkF m 65 #[.val (.ref thisk0), .val (.ref ak0_1), .val (.int xk0_2), .val (.int (cm + (1 : Int32))), .val (.int wi), .val (.long bt), .second] []))
          refine Ow.lload X32 hx (pc' := 67) (hb hby d_prog_66_method_1_65) rfl ?_
          refine Ow.lload X32 hx (pc' := 69) (hb hby d_prog_66_method_1_67) rfl ?_
          refine Ow.lconst X32 hx (pc' := 70) (hb hby d_prog_66_method_1_69) (z := (1 : Int64)) rfl ?_
          refine Ow.lsub X32 hx (pc' := 71) (hb hby d_prog_66_method_1_70) (z := (bt - (1 : Int64))) rfl ?_
          refine Ow.land X32 hx (pc' := 72) (hb hby d_prog_66_method_1_71) (z := (bt &&& (bt - (1 : Int64)))) rfl ?_
          refine Ow.lstore X32 hx (pc' := 74) (hb hby d_prog_66_method_1_72) (l' := #[.val (.ref thisk0), .val (.ref ak0_1), .val (.int xk0_2), .val (.int (cm + (1 : Int32))), .val (.int wi), .val (.long (bt &&& (bt - (1 : Int64)))), .second]) rfl ?_
          refine Ow.goto X32 hx (pc' := 37) (hb hby d_prog_66_method_1_74) (by decide) (by decide) ?_
          exact ihi _ (by rw [← hmi]; exact (own_js (by decide) hS.1 I2 hc41).2) (cm + (1 : Int32)) (bt &&& (bt - (1 : Int64))) ((m2.set (own_n cm) (.int (Int32.ofNat (S (own_n cm)))))) T32 h32 _ X32 e32 N32 K32 Z32 E_thisk0_t32 V_ak0_1_t32 V_b26_t32 F_thisk0_missing_t32 ((own_js (by decide) hS.1 I2 hc41).1) rfl
      exact LP37 _ cn ((gw (own_n wi)) ^^^ (-1 : Int64)) (m1) T28 h28 _ X28 e28 N28 K28 Z28 E_thisk0_t28 V_ak0_1_t28 V_b26_t28 F_thisk0_missing_t28 (own_ji hS I1 hc24) rfl
    · skip
      refine Ow.icmpYes X28 hx (pc' := 83) (hb hby d_prog_66_method_1_24) (flt hc24).2.1 (by decide) (by decide) ?_
      exact Wq.ret X28 (BodyLoose.notSynchronized Bd) (rv := none) (fun _ => rfl) (fun _ hr => X28.returnOut hx Bd.returns (hb hby d_prog_66_method_1_83) hr) (by decide) (by decide) (by rw [e28]; exact ⟨b26, rfl, N28, K28, sz_b26, E_thisk0_t28, (by rw [← own_jf0 hS I1 hc24]; exact V_b26_t28), F_thisk0_missing_t28⟩)
  exact LP19 _ (0 : Int32) (0 : Int32) (.unset) (.unset) ([]) T27 h27 _ X27 e27 N27 K27 Z27 E_thisk0_t27 V_ak0_1_t27 V_b26_t27 F_thisk0_missing_t27 (own_j0 S 0 rfl) (Or.inl ⟨rfl, rfl⟩) rfl
theorem ef_k1 (m : MethodId) (thisk1 : Addr) (ak1_1 : Addr) (xk1_2 : Int32) : entryFrame m #[(.ref thisk1), (.ref ak1_1), (.int xk1_2)] 7 = mkF m 0 #[.val (.ref thisk1), .val (.ref ak1_1), .val (.int xk1_2), .unset, .unset, .unset, .unset] [] := by first | (simp [entryFrame, mkF, argsToLocals, Value.category]; done) | rfl
def Q_k1 (Z : State) (thisk1 : Addr) (ak1_1 : Addr) (xk1_2 : Int32) (gw : Nat → Int64) (S : Nat → Nat) (h0 : Heap) (n0 : Nat) (v : Option Value) (h : Heap) (L : List Loc) : Prop := ∃ b34 : Addr, v = none ∧ Fr n0 L ∧ Keep h0 h [thisk1] ∧ h0.size ≤ b34 ∧ Exa Z h thisk1 "com/example/tightbit/tightbit/SparseDocIds$Complement" ∧ Al Z h b34 .char [(.int (Int32.ofNat (S 0)))] ∧ Fld Z h thisk1 "com/example/tightbit/tightbit/SparseDocIds$Complement" "missing" "[C" (.ref b34)
set_option maxRecDepth 65536 in
set_option maxHeartbeats 40000000 in
theorem rm_k1 (l : Launch) (Z : State) (a0 : Array Value) (hw : ∀ d ∈ tables_1, d.before a0 Z = true) (ws : List Jvm.Cond) (thisk1 : Addr) (ak1_1 : Addr) (xk1_2 : Int32) (gw : Nat → Int64) (S : Nat → Nat) (h0 : Heap) (n0 : Nat) (Z0 : n0 ≤ h0.size) (hcnt : ((65536 : Int32) - xk1_2) = (1 : Int32)) (hS : own_S gw 1 S) (E_thisk1 : Exa Z h0 thisk1 "com/example/tightbit/tightbit/SparseDocIds$Complement") (F_thisk1_missing : Fld Z h0 thisk1 "com/example/tightbit/tightbit/SparseDocIds$Complement" "missing" "[C" .null) (g_thisk1 : n0 ≤ thisk1) (V_ak1_1 : Al Z h0 ak1_1 .long (own_wl gw)) (ne_ak1_1_thisk1 : ak1_1 ≠ thisk1) :
    MetFree l mt17 (head1 (Jvm.Cond.code mt17 prog_66_method_1_code 7 none :: ws) ({ frames := 2, cells := 1, slots := 1, locals := 31 } : Room)) (fun a U => a = #[(.ref thisk1), (.ref ak1_1), (.int xk1_2)] ∧ Z.Warmed39 U.vm ∧ U.heap = h0) (fun _ _ _ _ _ => True) (fun _ U o U' => ∃ v L, o = .returned v ∧ (Q_k1 Z thisk1 ak1_1 xk1_2 gw S h0 n0) v U'.heap L ∧ FrameEnd U o U' L ({ frames := 2, cells := 1, slots := 1, locals := 31 } : Room).cells ({ frames := 2, cells := 1, slots := 1, locals := 31 } : Room).slots) := by
  refine MetFree.of_bodySF (plainFor_of_name pn7) hisR ?_
  intro p e s m args below meth c s₁ Bd hml0 hP hK
  obtain ⟨rfl, hZ, hh⟩ := hP
  have hx := Bd.exec
  have hby := Bd.bytes
  have hml : c.maxLocals = 7 := hml0
  have hown : s.vm.findClass "com/example/tightbit/tightbit/SparseDocIds$Complement" = some m.cls := findClass_of_methodNamed Bd.named
  have hnm := (name_of_methodNamed Bd.named Bd.method).1
  have X0 : Stand p l e ({ frames := 2, cells := 1, slots := 1, locals := 31 } : Room) s m #[(.ref thisk1), (.ref ak1_1), (.int xk1_2)] below meth c s₁ [] 0 0 := Stand.of_body Bd
  have e0 : s₁.heap = h0 := by rw [← hh, Bd.state]; rfl
  have N0 := Fr.nil n0
  refine Wq.step (p := p) (e := e) (below := below) (En := (fun o t L => FrameEnd s o t L ({ frames := 2, cells := 1, slots := 1, locals := 31 } : Room).cells ({ frames := 2, cells := 1, slots := 1, locals := 31 } : Room).slots)) (Q := (Q_k1 Z thisk1 ak1_1 xk1_2 gw S h0 n0)) (fun t k => castTop (ef_k1 m thisk1 ak1_1 xk1_2) k) ?_
  show Wq _ _ _ _ _ (s₁.setTop (mkF m 0 #[.val (.ref thisk1), .val (.ref ak1_1), .val (.int xk1_2), .unset, .unset, .unset, .unset] []))
  refine Ow.aloadN X0 hx (pc' := 1) (hb hby d_prog_66_method_1_0) rfl rfl ?_
  obtain ⟨T33, X33, e33, st33⟩ := initO X0 hx hZ hown (kw72 hw) (kw9 hw) (kw10 hw) e0 (g := (mkF m 1 #[.val (.ref thisk1), .val (.ref ak1_1), .val (.int xk1_2), .unset, .unset, .unset, .unset] [(.ref thisk1)])) rfl (by rw [hml]; rfl) rfl (hb hby d_prog_66_method_1_1) (by decide) (W := 0) (by show 2 * 0 + _ ≤ _; exact Nat.le_of_eq rfl) (by decide)
  refine Wq.step st33 ?_
  show Wq _ _ _ _ _ (T33.setTop (mkF m 4 #[.val (.ref thisk1), .val (.ref ak1_1), .val (.int xk1_2), .unset, .unset, .unset, .unset] []))
  refine Ow.aloadN X33 hx (pc' := 5) (hb hby d_prog_66_method_1_4) rfl rfl ?_
  refine Ow.ldcInt X33 hx hZ (pc' := 7) hown (kw73 hw) (hb hby d_prog_66_method_1_5) ?_
  refine Ow.iloadN X33 hx (pc' := 8) (hb hby d_prog_66_method_1_7) rfl ?_
  refine Ow.isub X33 hx (pc' := 9) (hb hby d_prog_66_method_1_8) (z := ((65536 : Int32) - xk1_2)) rfl ?_
  obtain ⟨T34, h34, k34, X34, e34, E34, A34, st34⟩ := newP X33 hx hZ (aty := .char) (kw4 hw) e33 (g := (mkF m 9 #[.val (.ref thisk1), .val (.ref ak1_1), .val (.int xk1_2), .unset, .unset, .unset, .unset] [(.int ((65536 : Int32) - xk1_2)), (.ref thisk1)])) rfl (hb hby d_prog_66_method_1_9) rfl (by rw [hcnt]; decide) (cap := 1) (by rw [hcnt]; decide) (by decide) (by decide) (by decide)
  obtain ⟨b34, gz34⟩ : ∃ z, z = h0.size := ⟨_, rfl⟩
  rw [← gz34] at A34 st34
  have g_b34 : n0 ≤ b34 := Nat.le_trans Z0 (Nat.le_of_eq gz34.symm)
  have sz_b34 : h0.size ≤ b34 := Nat.le_of_eq gz34.symm
  have ne_thisk1_b34 : thisk1 ≠ b34 := Nat.ne_of_lt (Nat.lt_of_lt_of_le E_thisk1.lt (Nat.le_of_eq gz34.symm))
  have ne_ak1_1_b34 : ak1_1 ≠ b34 := Nat.ne_of_lt (Nat.lt_of_lt_of_le V_ak1_1.lt (Nat.le_of_eq gz34.symm))
  have K34 : Keep h0 h34 [thisk1] := (Keep.refl h0 [thisk1]).ext E34
  have Z34 : n0 ≤ h34.size := Nat.le_trans Z0 E34.1
  have E_thisk1_t34 := E_thisk1.ext E34
  have F_thisk1_missing_t34 := F_thisk1_missing.ext E34
  have V_ak1_1_t34 := V_ak1_1.ext E34
  have V_b34 : Al Z h34 b34 .char [(.int (0 : Int32))] := Al.new A34 (k := 1) (by rw [hcnt]; decide) rfl
  refine Wq.step st34 ?_
  show Wq _ _ _ _ _ (T34.setTop (mkF m 11 #[.val (.ref thisk1), .val (.ref ak1_1), .val (.int xk1_2), .unset, .unset, .unset, .unset] [(.ref b34), (.ref thisk1)]))
  obtain ⟨T35, h35, X35, e35, W35, st35⟩ := putF X34 hx hZ hown (host := "") (Or.inl (kw74 hw)) Via.refl e34 F_thisk1_missing_t34 E_thisk1_t34 (Or.inr ⟨(kw75 hw), rfl, hnm⟩) (kw66 hw) (ty := (.array .char)) (by decide) (rfl) (rfl) (g := (mkF m 11 #[.val (.ref thisk1), .val (.ref ak1_1), .val (.int xk1_2), .unset, .unset, .unset, .unset] [(.ref b34), (.ref thisk1)])) rfl rfl (hb hby d_prog_66_method_1_11)
  refine Wq.step st35 ?_
  have N35 := Fr.snoc X35 N0 g_thisk1
  have K35 : Keep h0 h35 [thisk1] := K34.wr W35 (Or.inl (List.mem_of_getElem? (i := 0) rfl))
  have Z35 : n0 ≤ h35.size := Nat.le_trans Z34 (Keep.of_wr W35).1
  have E_thisk1_t35 := E_thisk1_t34.wr W35
  have V_ak1_1_t35 := V_ak1_1_t34.other W35 ne_ak1_1_thisk1
  have V_b34_t35 := V_b34.other W35 (Ne.symm ne_thisk1_b34)
  have F_thisk1_missing_t35 : Fld Z h35 thisk1 "com/example/tightbit/tightbit/SparseDocIds$Complement" "missing" "[C" (.ref b34) := F_thisk1_missing_t34.same W35
  show Wq _ _ _ _ _ (T35.setTop (mkF m 14 #[.val (.ref thisk1), .val (.ref ak1_1), .val (.int xk1_2), .unset, .unset, .unset, .unset] []))
  refine Ow.iconst X35 hx (pc' := 15) (hb hby d_prog_66_method_1_14) (z := (0 : Int32)) rfl ?_
  refine Ow.istoreN X35 hx (pc' := 16) (hb hby d_prog_66_method_1_15) (l' := #[.val (.ref thisk1), .val (.ref ak1_1), .val (.int xk1_2), .val (.int (0 : Int32)), .unset, .unset, .unset]) rfl ?_
  refine Ow.iconst X35 hx (pc' := 17) (hb hby d_prog_66_method_1_16) (z := (0 : Int32)) rfl ?_
  refine Ow.istore X35 hx (pc' := 19) (hb hby d_prog_66_method_1_17) (l' := #[.val (.ref thisk1), .val (.ref ak1_1), .val (.int xk1_2), .val (.int (0 : Int32)), .val (.int (0 : Int32)), .unset, .unset]) rfl ?_
  have LP19 : ∀ (no : Nat) (cn : Int32) (wi : Int32) (s5 : Slot) (s6 : Slot) (m1 : List Value) (T36 : State) (h36 : Heap) (L36 : List Loc) (X36 : Stand p l e ({ frames := 2, cells := 1, slots := 1, locals := 31 } : Room) s m #[(.ref thisk1), (.ref ak1_1), (.int xk1_2)] below meth c T36 L36 1 1) (e36 : T36.heap = h36) (N36 : Fr n0 L36) (K36 : Keep h0 h36 [thisk1]) (Z36 : n0 ≤ h36.size) (E_thisk1_t36 : Exa Z h36 thisk1 "com/example/tightbit/tightbit/SparseDocIds$Complement") (V_ak1_1_t36 : Al Z h36 ak1_1 .long (own_wl gw)) (V_b34_t36 : Al Z h36 b34 .char m1) (F_thisk1_missing_t36 : Fld Z h36 thisk1 "com/example/tightbit/tightbit/SparseDocIds$Complement" "missing" "[C" (.ref b34)) (I1 : own_oJ 1 S cn wi m1) (HS : (s5 = .unset ∧ s6 = .unset) ∨ ∃ z, s5 = .val (.long z) ∧ s6 = .second) (hmo : (1024 - wi.toInt).toNat = no), Wq p e below (fun o t L => FrameEnd s o t L ({ frames := 2, cells := 1, slots := 1, locals := 31 } : Room).cells ({ frames := 2, cells := 1, slots := 1, locals := 31 } : Room).slots) (Q_k1 Z thisk1 ak1_1 xk1_2 gw S h0 n0) (T36.setTop (mkF m 19 #[.val (.ref thisk1), .val (.ref ak1_1), .val (.int xk1_2), .val (.int cn), .val (.int wi), s5, s6] [])) := by
    intro no
    induction no using Nat.strongRecOn with
    | _ no iho =>
    intro cn wi s5 s6 m1 T36 h36 L36 X36 e36 N36 K36 Z36 E_thisk1_t36 V_ak1_1_t36 V_b34_t36 F_thisk1_missing_t36 I1 HS hmo
    show Wq _ _ _ _ _ (T36.setTop (mkF m 19 #[.val (.ref thisk1), .val (.ref ak1_1), .val (.int xk1_2), .val (.int cn), .val (.int wi), s5, s6] []))
    refine Ow.iload X36 hx (pc' := 21) (hb hby d_prog_66_method_1_19) rfl ?_
    refine Ow.sipush X36 hx (pc' := 24) (hb hby d_prog_66_method_1_21) (z := (1024 : Int32)) rfl ?_
    by_cases hc24 : wi < (1024 : Int32)
    · skip
      refine Ow.icmpNo X36 hx (pc' := 27) (hb hby d_prog_66_method_1_24) (tlt hc24).2.1 ?_
      refine Ow.aloadN X36 hx (pc' := 28) (hb hby d_prog_66_method_1_27) rfl rfl ?_
      refine Ow.iload X36 hx (pc' := 30) (hb hby d_prog_66_method_1_28) rfl ?_
      refine Ow.ldJ X36 hx hZ e36 V_ak1_1_t36 (pc' := 31) (hb hby d_prog_66_method_1_30) (j := wi) (i := (own_n wi)) (v := (.long (gw (own_n wi)))) ((own_jw I1 hc24).1) (rfl) (own_wlg gw (own_jw I1 hc24).2) ?_
      refine Ow.ldc2Long X36 hx hZ (pc' := 34) hown (kw76 hw) (hb hby d_prog_66_method_1_31) ?_
      refine Ow.lxor X36 hx (pc' := 35) (hb hby d_prog_66_method_1_34) (z := ((gw (own_n wi)) ^^^ (-1 : Int64))) rfl ?_
      refine Ow.lstore X36 hx (pc' := 37) (hb hby d_prog_66_method_1_35) (l' := #[.val (.ref thisk1), .val (.ref ak1_1), .val (.int xk1_2), .val (.int cn), .val (.int wi), .val (.long ((gw (own_n wi)) ^^^ (-1 : Int64))), .second]) (by rcases HS with ⟨rfl, rfl⟩ | ⟨_, rfl, rfl⟩ <;> rfl) ?_
      have LP37 : ∀ (ni : Nat) (cm : Int32) (bt : Int64) (m2 : List Value) (T37 : State) (h37 : Heap) (L37 : List Loc) (X37 : Stand p l e ({ frames := 2, cells := 1, slots := 1, locals := 31 } : Room) s m #[(.ref thisk1), (.ref ak1_1), (.int xk1_2)] below meth c T37 L37 1 1) (e37 : T37.heap = h37) (N37 : Fr n0 L37) (K37 : Keep h0 h37 [thisk1]) (Z37 : n0 ≤ h37.size) (E_thisk1_t37 : Exa Z h37 thisk1 "com/example/tightbit/tightbit/SparseDocIds$Complement") (V_ak1_1_t37 : Al Z h37 ak1_1 .long (own_wl gw)) (V_b34_t37 : Al Z h37 b34 .char m2) (F_thisk1_missing_t37 : Fld Z h37 thisk1 "com/example/tightbit/tightbit/SparseDocIds$Complement" "missing" "[C" (.ref b34)) (I2 : own_iJ 1 S wi cm bt m2) (hmi : (((1 : Nat) : Int) - cm.toInt).toNat = ni), Wq p e below (fun o t L => FrameEnd s o t L ({ frames := 2, cells := 1, slots := 1, locals := 31 } : Room).cells ({ frames := 2, cells := 1, slots := 1, locals := 31 } : Room).slots) (Q_k1 Z thisk1 ak1_1 xk1_2 gw S h0 n0) (T37.setTop (mkF m 37 #[.val (.ref thisk1), .val (.ref ak1_1), .val (.int xk1_2), .val (.int cm), .val (.int wi), .val (.long bt), .second] [])) := by
        intro ni
        induction ni using Nat.strongRecOn with
        | _ ni ihi =>
        intro cm bt m2 T37 h37 L37 X37 e37 N37 K37 Z37 E_thisk1_t37 V_ak1_1_t37 V_b34_t37 F_thisk1_missing_t37 I2 hmi
        show Wq _ _ _ _ _ (T37.setTop (mkF m 37 #[.val (.ref thisk1), .val (.ref ak1_1), .val (.int xk1_2), .val (.int cm), .val (.int wi), .val (.long bt), .second] []))
        refine Ow.lload X37 hx (pc' := 39) (hb hby d_prog_66_method_1_37) rfl ?_
        refine Ow.lconst X37 hx (pc' := 40) (hb hby d_prog_66_method_1_39) (z := (0 : Int64)) rfl ?_
        refine Ow.lcmp X37 hx (pc' := 41) (hb hby d_prog_66_method_1_40)  ?_
        by_cases hc41 : bt = (0 : Int64)
        · skip
          refine Ow.ifYes X37 hx (pc' := 77) (hb hby d_prog_66_method_1_41) ((if0 _ _).trans (teq ((lw_eq _ _).mpr hc41)).1) (by decide) (by decide) ?_
          refine Ow.iinc X37 hx (pc' := 80) (hb hby d_prog_66_method_1_77) rfl (l' := #[.val (.ref thisk1), .val (.ref ak1_1), .val (.int xk1_2), .val (.int cm), .val (.int (wi + (1 : Int32))), .val (.long bt), .second]) rfl ?_
          show Wq _ _ _ _ _ (T37.setTop (mkF m 80 #[.val (.ref thisk1), .val (.ref ak1_1), .val (.int xk1_2), .val (.int cm), .val (.int (wi + (1 : Int32))), .val (.long bt), .second] []))
          refine Ow.goto X37 hx (pc' := 19) (hb hby d_prog_66_method_1_80) (by decide) (by decide) ?_
          exact iho _ (by rw [← hmo]; exact (own_jo hS.1 I2 hc41).2) cm (wi + (1 : Int32)) (.val (.long bt)) (.second) (m2) T37 h37 _ X37 e37 N37 K37 Z37 E_thisk1_t37 V_ak1_1_t37 V_b34_t37 F_thisk1_missing_t37 ((own_jo hS.1 I2 hc41).1) (Or.inr ⟨_, rfl, rfl⟩) rfl
        · skip
          refine Ow.ifNo X37 hx (pc' := 44) (hb hby d_prog_66_method_1_41) ((if0 _ _).trans (feq (mt (lw_eq _ _).mp hc41)).1) ?_
          refine Ow.aloadN X37 hx (pc' := 45) (hb hby d_prog_66_method_1_44) rfl rfl ?_
          obtain ⟨T38, X38, e38, st38⟩ := getF X37 hx hZ hown (host := "") (Or.inl (kw74 hw)) Via.refl e37 F_thisk1_missing_t37 (g := (mkF m 45 #[.val (.ref thisk1), .val (.ref ak1_1), .val (.int xk1_2), .val (.int cm), .val (.int wi), .val (.long bt), .second] [(.ref thisk1)])) rfl rfl (hb hby d_prog_66_method_1_45)
          refine Wq.step st38 ?_
          show Wq _ _ _ _ _ (T38.setTop (mkF m 48 #[.val (.ref thisk1), .val (.ref ak1_1), .val (.int xk1_2), .val (.int cm), .val (.int wi), .val (.long bt), .second] [(.ref b34)]))
          refine Ow.iloadN X38 hx (pc' := 49) (hb hby d_prog_66_method_1_48) rfl ?_
          refine Ow.iload X38 hx (pc' := 51) (hb hby d_prog_66_method_1_49) rfl ?_
          refine Ow.bipush X38 hx (pc' := 53) (hb hby d_prog_66_method_1_51) (z := (6 : Int32)) rfl ?_
          refine Ow.ishl X38 hx (pc' := 54) (hb hby d_prog_66_method_1_53) (z := (wi <<< ((6 : Int32) &&& 31))) rfl ?_
          refine Ow.lload X38 hx (pc' := 56) (hb hby d_prog_66_method_1_54) rfl ?_
          obtain ⟨_, _, ⟨T39, L39, k39, n39⟩, -, X39, ⟨Lc39, hQ39, l39, y39, z39⟩, st39⟩ := Jvm.LawKit.callS X38 hx (y := mt16) hown (mvT hZ (kw90 hw)) (mvT hZ (kw91 hw)) (mvT hZ (kw92 hw)) (mvT hZ (kw93 hw)) (by decide) (backOf (W := 3) (rm_lz l Z a0 hw [] bt h37 n0 Z37 ) hZ (kw93 hw) (kw92 hw) (by decide) (by decide)) (g := (mkF m 56 #[.val (.ref thisk1), .val (.ref ak1_1), .val (.int xk1_2), .val (.int cm), .val (.int wi), .val (.long bt), .second] [(.long bt), (.int (wi <<< ((6 : Int32) &&& 31))), (.int cm), (.ref b34)])) rfl (by rw [hml]; rfl) (argsL := [(.long bt)]) (rest := [(.int (wi <<< ((6 : Int32) &&& 31))), (.int cm), (.ref b34)]) (lenOf pd8 rfl) rfl (by show 2 * 0 + _ ≤ _; exact Nat.le_of_eq rfl) (hb hby d_prog_66_method_1_56) (fun _ _ => ⟨rfl, e38, (by decide : 1 + 0 ≤ _), (by decide : 1 + 0 ≤ _)⟩)
          dsimp only [Pt.U, Pt.locs, Pt.cells, Pt.slots] at X39 l39 y39 z39 st39 hQ39
          subst l39 y39 z39
          obtain ⟨rfl, Nq39, e39⟩ := hQ39
          have N39 := Fr.app N37 Nq39
          refine Wq.step st39 ?_
          show Wq _ _ _ _ _ (T39.setTop (mkF m 59 #[.val (.ref thisk1), .val (.ref ak1_1), .val (.int xk1_2), .val (.int cm), .val (.int wi), .val (.long bt), .second] [(.int (f_lz bt)), (.int (wi <<< ((6 : Int32) &&& 31))), (.int cm), (.ref b34)]))
          refine Ow.ior X39 hx (pc' := 60) (hb hby d_prog_66_method_1_59) (z := ((wi <<< ((6 : Int32) &&& 31)) ||| (f_lz bt))) rfl ?_
          refine Ow.i2c X39 hx (pc' := 61) (hb hby d_prog_66_method_1_60) (z := (((wi <<< ((6 : Int32) &&& 31)) ||| (f_lz bt)).toUInt32.toUInt16.toUInt32.toInt32)) rfl ?_
          obtain ⟨T40, h40, X40, e40, W40, Vr40, st40⟩ := asC X39 hx hZ e39 V_b34_t37 (j := cm) (i := (own_n cm)) ((own_jk hS.1 I2 hc41).1) (rfl) ((own_jk hS.1 I2 hc41).2.1) (y := (Int32.ofNat (S (own_n cm)))) ((own_jk hS.1 I2 hc41).2.2) (g := (mkF m 61 #[.val (.ref thisk1), .val (.ref ak1_1), .val (.int xk1_2), .val (.int cm), .val (.int wi), .val (.long bt), .second] [(.int (((wi <<< ((6 : Int32) &&& 31)) ||| (f_lz bt)).toUInt32.toUInt16.toUInt32.toInt32)), (.int cm), (.ref b34)])) rfl rfl (hb hby d_prog_66_method_1_61)
          refine Wq.step st40 ?_
          have N40 := Fr.snoc X40 N39 g_b34
          have K40 : Keep h0 h40 [thisk1] := K37.wr W40 (Or.inr sz_b34)
          have Z40 : n0 ≤ h40.size := Nat.le_trans Z37 (Keep.of_wr W40).1
          have E_thisk1_t40 := E_thisk1_t37.wr W40
          have V_ak1_1_t40 := V_ak1_1_t37.other W40 ne_ak1_1_b34
          have F_thisk1_missing_t40 := F_thisk1_missing_t37.other W40 (Or.inl ne_thisk1_b34)
          have V_b34_t40 : Al Z h40 b34 .char (m2.set (own_n cm) (.int (Int32.ofNat (S (own_n cm))))) := Vr40
          show Wq _ _ _ _ _ (T40.setTop (mkF m 62 #[.val (.ref thisk1), .val (.ref ak1_1), .val (.int xk1_2), .val (.int cm), .val (.int wi), .val (.long bt), .second] []))
          refine Ow.iinc X40 hx (pc' := 65) (hb hby d_prog_66_method_1_62) rfl (l' := #[.val (.ref thisk1), .val (.ref ak1_1), .val (.int xk1_2), .val (.int (cm + (1 : Int32))), .val (.int wi), .val (.long bt), .second]) rfl ?_
          show Wq _ _ _ _ _ (T40.setTop (mkF m 65 #[.val (.ref thisk1), .val (.ref ak1_1), .val (.int xk1_2), .val (.int (cm + (1 : Int32))), .val (.int wi), .val (.long bt), .second] []))
          refine Ow.lload X40 hx (pc' := 67) (hb hby d_prog_66_method_1_65) rfl ?_
          refine Ow.lload X40 hx (pc' := 69) (hb hby d_prog_66_method_1_67) rfl ?_
          refine Ow.lconst X40 hx (pc' := 70) (hb hby d_prog_66_method_1_69) (z := (1 : Int64)) rfl ?_
          refine Ow.lsub X40 hx (pc' := 71) (hb hby d_prog_66_method_1_70) (z := (bt - (1 : Int64))) rfl ?_
          refine Ow.land X40 hx (pc' := 72) (hb hby d_prog_66_method_1_71) (z := (bt &&& (bt - (1 : Int64)))) rfl ?_
          refine Ow.lstore X40 hx (pc' := 74) (hb hby d_prog_66_method_1_72) (l' := #[.val (.ref thisk1), .val (.ref ak1_1), .val (.int xk1_2), .val (.int (cm + (1 : Int32))), .val (.int wi), .val (.long (bt &&& (bt - (1 : Int64)))), .second]) rfl ?_
          refine Ow.goto X40 hx (pc' := 37) (hb hby d_prog_66_method_1_74) (by decide) (by decide) ?_
          exact ihi _ (by rw [← hmi]; exact (own_js (by decide) hS.1 I2 hc41).2) (cm + (1 : Int32)) (bt &&& (bt - (1 : Int64))) ((m2.set (own_n cm) (.int (Int32.ofNat (S (own_n cm)))))) T40 h40 _ X40 e40 N40 K40 Z40 E_thisk1_t40 V_ak1_1_t40 V_b34_t40 F_thisk1_missing_t40 ((own_js (by decide) hS.1 I2 hc41).1) rfl
      exact LP37 _ cn ((gw (own_n wi)) ^^^ (-1 : Int64)) (m1) T36 h36 _ X36 e36 N36 K36 Z36 E_thisk1_t36 V_ak1_1_t36 V_b34_t36 F_thisk1_missing_t36 (own_ji hS I1 hc24) rfl
    · skip
      refine Ow.icmpYes X36 hx (pc' := 83) (hb hby d_prog_66_method_1_24) (flt hc24).2.1 (by decide) (by decide) ?_
      exact Wq.ret X36 (BodyLoose.notSynchronized Bd) (rv := none) (fun _ => rfl) (fun _ hr => X36.returnOut hx Bd.returns (hb hby d_prog_66_method_1_83) hr) (by decide) (by decide) (by rw [e36]; exact ⟨b34, rfl, N36, K36, sz_b34, E_thisk1_t36, (by rw [← own_jf1 hS I1 hc24]; exact V_b34_t36), F_thisk1_missing_t36⟩)
  exact LP19 _ (0 : Int32) (0 : Int32) (.unset) (.unset) ([(.int (0 : Int32))]) T35 h35 _ X35 e35 N35 K35 Z35 E_thisk1_t35 V_ak1_1_t35 V_b34_t35 F_thisk1_missing_t35 (own_j0 S 1 rfl) (Or.inl ⟨rfl, rfl⟩) rfl
theorem ef_k2 (m : MethodId) (thisk2 : Addr) (ak2_1 : Addr) (xk2_2 : Int32) : entryFrame m #[(.ref thisk2), (.ref ak2_1), (.int xk2_2)] 7 = mkF m 0 #[.val (.ref thisk2), .val (.ref ak2_1), .val (.int xk2_2), .unset, .unset, .unset, .unset] [] := by first | (simp [entryFrame, mkF, argsToLocals, Value.category]; done) | rfl
def Q_k2 (Z : State) (thisk2 : Addr) (ak2_1 : Addr) (xk2_2 : Int32) (gw : Nat → Int64) (S : Nat → Nat) (h0 : Heap) (n0 : Nat) (v : Option Value) (h : Heap) (L : List Loc) : Prop := ∃ b42 : Addr, v = none ∧ Fr n0 L ∧ Keep h0 h [thisk2] ∧ h0.size ≤ b42 ∧ Exa Z h thisk2 "com/example/tightbit/tightbit/SparseDocIds$Complement" ∧ Al Z h b42 .char [(.int (Int32.ofNat (S 0))), (.int (Int32.ofNat (S 1)))] ∧ Fld Z h thisk2 "com/example/tightbit/tightbit/SparseDocIds$Complement" "missing" "[C" (.ref b42)
set_option maxRecDepth 65536 in
set_option maxHeartbeats 40000000 in
theorem rm_k2 (l : Launch) (Z : State) (a0 : Array Value) (hw : ∀ d ∈ tables_1, d.before a0 Z = true) (ws : List Jvm.Cond) (thisk2 : Addr) (ak2_1 : Addr) (xk2_2 : Int32) (gw : Nat → Int64) (S : Nat → Nat) (h0 : Heap) (n0 : Nat) (Z0 : n0 ≤ h0.size) (hcnt : ((65536 : Int32) - xk2_2) = (2 : Int32)) (hS : own_S gw 2 S) (E_thisk2 : Exa Z h0 thisk2 "com/example/tightbit/tightbit/SparseDocIds$Complement") (F_thisk2_missing : Fld Z h0 thisk2 "com/example/tightbit/tightbit/SparseDocIds$Complement" "missing" "[C" .null) (g_thisk2 : n0 ≤ thisk2) (V_ak2_1 : Al Z h0 ak2_1 .long (own_wl gw)) (ne_ak2_1_thisk2 : ak2_1 ≠ thisk2) :
    MetFree l mt17 (head1 (Jvm.Cond.code mt17 prog_66_method_1_code 7 none :: ws) ({ frames := 2, cells := 1, slots := 2, locals := 31 } : Room)) (fun a U => a = #[(.ref thisk2), (.ref ak2_1), (.int xk2_2)] ∧ Z.Warmed39 U.vm ∧ U.heap = h0) (fun _ _ _ _ _ => True) (fun _ U o U' => ∃ v L, o = .returned v ∧ (Q_k2 Z thisk2 ak2_1 xk2_2 gw S h0 n0) v U'.heap L ∧ FrameEnd U o U' L ({ frames := 2, cells := 1, slots := 2, locals := 31 } : Room).cells ({ frames := 2, cells := 1, slots := 2, locals := 31 } : Room).slots) := by
  refine MetFree.of_bodySF (plainFor_of_name pn7) hisR ?_
  intro p e s m args below meth c s₁ Bd hml0 hP hK
  obtain ⟨rfl, hZ, hh⟩ := hP
  have hx := Bd.exec
  have hby := Bd.bytes
  have hml : c.maxLocals = 7 := hml0
  have hown : s.vm.findClass "com/example/tightbit/tightbit/SparseDocIds$Complement" = some m.cls := findClass_of_methodNamed Bd.named
  have hnm := (name_of_methodNamed Bd.named Bd.method).1
  have X0 : Stand p l e ({ frames := 2, cells := 1, slots := 2, locals := 31 } : Room) s m #[(.ref thisk2), (.ref ak2_1), (.int xk2_2)] below meth c s₁ [] 0 0 := Stand.of_body Bd
  have e0 : s₁.heap = h0 := by rw [← hh, Bd.state]; rfl
  have N0 := Fr.nil n0
  refine Wq.step (p := p) (e := e) (below := below) (En := (fun o t L => FrameEnd s o t L ({ frames := 2, cells := 1, slots := 2, locals := 31 } : Room).cells ({ frames := 2, cells := 1, slots := 2, locals := 31 } : Room).slots)) (Q := (Q_k2 Z thisk2 ak2_1 xk2_2 gw S h0 n0)) (fun t k => castTop (ef_k2 m thisk2 ak2_1 xk2_2) k) ?_
  show Wq _ _ _ _ _ (s₁.setTop (mkF m 0 #[.val (.ref thisk2), .val (.ref ak2_1), .val (.int xk2_2), .unset, .unset, .unset, .unset] []))
  refine Ow.aloadN X0 hx (pc' := 1) (hb hby d_prog_66_method_1_0) rfl rfl ?_
  obtain ⟨T41, X41, e41, st41⟩ := initO X0 hx hZ hown (kw72 hw) (kw9 hw) (kw10 hw) e0 (g := (mkF m 1 #[.val (.ref thisk2), .val (.ref ak2_1), .val (.int xk2_2), .unset, .unset, .unset, .unset] [(.ref thisk2)])) rfl (by rw [hml]; rfl) rfl (hb hby d_prog_66_method_1_1) (by decide) (W := 0) (by show 2 * 0 + _ ≤ _; exact Nat.le_of_eq rfl) (by decide)
  refine Wq.step st41 ?_
  show Wq _ _ _ _ _ (T41.setTop (mkF m 4 #[.val (.ref thisk2), .val (.ref ak2_1), .val (.int xk2_2), .unset, .unset, .unset, .unset] []))
  refine Ow.aloadN X41 hx (pc' := 5) (hb hby d_prog_66_method_1_4) rfl rfl ?_
  refine Ow.ldcInt X41 hx hZ (pc' := 7) hown (kw73 hw) (hb hby d_prog_66_method_1_5) ?_
  refine Ow.iloadN X41 hx (pc' := 8) (hb hby d_prog_66_method_1_7) rfl ?_
  refine Ow.isub X41 hx (pc' := 9) (hb hby d_prog_66_method_1_8) (z := ((65536 : Int32) - xk2_2)) rfl ?_
  obtain ⟨T42, h42, k42, X42, e42, E42, A42, st42⟩ := newP X41 hx hZ (aty := .char) (kw4 hw) e41 (g := (mkF m 9 #[.val (.ref thisk2), .val (.ref ak2_1), .val (.int xk2_2), .unset, .unset, .unset, .unset] [(.int ((65536 : Int32) - xk2_2)), (.ref thisk2)])) rfl (hb hby d_prog_66_method_1_9) rfl (by rw [hcnt]; decide) (cap := 2) (by rw [hcnt]; decide) (by decide) (by decide) (by decide)
  obtain ⟨b42, gz42⟩ : ∃ z, z = h0.size := ⟨_, rfl⟩
  rw [← gz42] at A42 st42
  have g_b42 : n0 ≤ b42 := Nat.le_trans Z0 (Nat.le_of_eq gz42.symm)
  have sz_b42 : h0.size ≤ b42 := Nat.le_of_eq gz42.symm
  have ne_thisk2_b42 : thisk2 ≠ b42 := Nat.ne_of_lt (Nat.lt_of_lt_of_le E_thisk2.lt (Nat.le_of_eq gz42.symm))
  have ne_ak2_1_b42 : ak2_1 ≠ b42 := Nat.ne_of_lt (Nat.lt_of_lt_of_le V_ak2_1.lt (Nat.le_of_eq gz42.symm))
  have K42 : Keep h0 h42 [thisk2] := (Keep.refl h0 [thisk2]).ext E42
  have Z42 : n0 ≤ h42.size := Nat.le_trans Z0 E42.1
  have E_thisk2_t42 := E_thisk2.ext E42
  have F_thisk2_missing_t42 := F_thisk2_missing.ext E42
  have V_ak2_1_t42 := V_ak2_1.ext E42
  have V_b42 : Al Z h42 b42 .char [(.int (0 : Int32)), (.int (0 : Int32))] := Al.new A42 (k := 2) (by rw [hcnt]; decide) rfl
  refine Wq.step st42 ?_
  show Wq _ _ _ _ _ (T42.setTop (mkF m 11 #[.val (.ref thisk2), .val (.ref ak2_1), .val (.int xk2_2), .unset, .unset, .unset, .unset] [(.ref b42), (.ref thisk2)]))
  obtain ⟨T43, h43, X43, e43, W43, st43⟩ := putF X42 hx hZ hown (host := "") (Or.inl (kw74 hw)) Via.refl e42 F_thisk2_missing_t42 E_thisk2_t42 (Or.inr ⟨(kw75 hw), rfl, hnm⟩) (kw66 hw) (ty := (.array .char)) (by decide) (rfl) (rfl) (g := (mkF m 11 #[.val (.ref thisk2), .val (.ref ak2_1), .val (.int xk2_2), .unset, .unset, .unset, .unset] [(.ref b42), (.ref thisk2)])) rfl rfl (hb hby d_prog_66_method_1_11)
  refine Wq.step st43 ?_
  have N43 := Fr.snoc X43 N0 g_thisk2
  have K43 : Keep h0 h43 [thisk2] := K42.wr W43 (Or.inl (List.mem_of_getElem? (i := 0) rfl))
  have Z43 : n0 ≤ h43.size := Nat.le_trans Z42 (Keep.of_wr W43).1
  have E_thisk2_t43 := E_thisk2_t42.wr W43
  have V_ak2_1_t43 := V_ak2_1_t42.other W43 ne_ak2_1_thisk2
  have V_b42_t43 := V_b42.other W43 (Ne.symm ne_thisk2_b42)
  have F_thisk2_missing_t43 : Fld Z h43 thisk2 "com/example/tightbit/tightbit/SparseDocIds$Complement" "missing" "[C" (.ref b42) := F_thisk2_missing_t42.same W43
  show Wq _ _ _ _ _ (T43.setTop (mkF m 14 #[.val (.ref thisk2), .val (.ref ak2_1), .val (.int xk2_2), .unset, .unset, .unset, .unset] []))
  refine Ow.iconst X43 hx (pc' := 15) (hb hby d_prog_66_method_1_14) (z := (0 : Int32)) rfl ?_
  refine Ow.istoreN X43 hx (pc' := 16) (hb hby d_prog_66_method_1_15) (l' := #[.val (.ref thisk2), .val (.ref ak2_1), .val (.int xk2_2), .val (.int (0 : Int32)), .unset, .unset, .unset]) rfl ?_
  refine Ow.iconst X43 hx (pc' := 17) (hb hby d_prog_66_method_1_16) (z := (0 : Int32)) rfl ?_
  refine Ow.istore X43 hx (pc' := 19) (hb hby d_prog_66_method_1_17) (l' := #[.val (.ref thisk2), .val (.ref ak2_1), .val (.int xk2_2), .val (.int (0 : Int32)), .val (.int (0 : Int32)), .unset, .unset]) rfl ?_
  have LP19 : ∀ (no : Nat) (cn : Int32) (wi : Int32) (s5 : Slot) (s6 : Slot) (m1 : List Value) (T44 : State) (h44 : Heap) (L44 : List Loc) (X44 : Stand p l e ({ frames := 2, cells := 1, slots := 2, locals := 31 } : Room) s m #[(.ref thisk2), (.ref ak2_1), (.int xk2_2)] below meth c T44 L44 1 2) (e44 : T44.heap = h44) (N44 : Fr n0 L44) (K44 : Keep h0 h44 [thisk2]) (Z44 : n0 ≤ h44.size) (E_thisk2_t44 : Exa Z h44 thisk2 "com/example/tightbit/tightbit/SparseDocIds$Complement") (V_ak2_1_t44 : Al Z h44 ak2_1 .long (own_wl gw)) (V_b42_t44 : Al Z h44 b42 .char m1) (F_thisk2_missing_t44 : Fld Z h44 thisk2 "com/example/tightbit/tightbit/SparseDocIds$Complement" "missing" "[C" (.ref b42)) (I1 : own_oJ 2 S cn wi m1) (HS : (s5 = .unset ∧ s6 = .unset) ∨ ∃ z, s5 = .val (.long z) ∧ s6 = .second) (hmo : (1024 - wi.toInt).toNat = no), Wq p e below (fun o t L => FrameEnd s o t L ({ frames := 2, cells := 1, slots := 2, locals := 31 } : Room).cells ({ frames := 2, cells := 1, slots := 2, locals := 31 } : Room).slots) (Q_k2 Z thisk2 ak2_1 xk2_2 gw S h0 n0) (T44.setTop (mkF m 19 #[.val (.ref thisk2), .val (.ref ak2_1), .val (.int xk2_2), .val (.int cn), .val (.int wi), s5, s6] [])) := by
    intro no
    induction no using Nat.strongRecOn with
    | _ no iho =>
    intro cn wi s5 s6 m1 T44 h44 L44 X44 e44 N44 K44 Z44 E_thisk2_t44 V_ak2_1_t44 V_b42_t44 F_thisk2_missing_t44 I1 HS hmo
    show Wq _ _ _ _ _ (T44.setTop (mkF m 19 #[.val (.ref thisk2), .val (.ref ak2_1), .val (.int xk2_2), .val (.int cn), .val (.int wi), s5, s6] []))
    refine Ow.iload X44 hx (pc' := 21) (hb hby d_prog_66_method_1_19) rfl ?_
    refine Ow.sipush X44 hx (pc' := 24) (hb hby d_prog_66_method_1_21) (z := (1024 : Int32)) rfl ?_
    by_cases hc24 : wi < (1024 : Int32)
    · skip
      refine Ow.icmpNo X44 hx (pc' := 27) (hb hby d_prog_66_method_1_24) (tlt hc24).2.1 ?_
      refine Ow.aloadN X44 hx (pc' := 28) (hb hby d_prog_66_method_1_27) rfl rfl ?_
      refine Ow.iload X44 hx (pc' := 30) (hb hby d_prog_66_method_1_28) rfl ?_
      refine Ow.ldJ X44 hx hZ e44 V_ak2_1_t44 (pc' := 31) (hb hby d_prog_66_method_1_30) (j := wi) (i := (own_n wi)) (v := (.long (gw (own_n wi)))) ((own_jw I1 hc24).1) (rfl) (own_wlg gw (own_jw I1 hc24).2) ?_
      refine Ow.ldc2Long X44 hx hZ (pc' := 34) hown (kw76 hw) (hb hby d_prog_66_method_1_31) ?_
      refine Ow.lxor X44 hx (pc' := 35) (hb hby d_prog_66_method_1_34) (z := ((gw (own_n wi)) ^^^ (-1 : Int64))) rfl ?_
      refine Ow.lstore X44 hx (pc' := 37) (hb hby d_prog_66_method_1_35) (l' := #[.val (.ref thisk2), .val (.ref ak2_1), .val (.int xk2_2), .val (.int cn), .val (.int wi), .val (.long ((gw (own_n wi)) ^^^ (-1 : Int64))), .second]) (by rcases HS with ⟨rfl, rfl⟩ | ⟨_, rfl, rfl⟩ <;> rfl) ?_
      have LP37 : ∀ (ni : Nat) (cm : Int32) (bt : Int64) (m2 : List Value) (T45 : State) (h45 : Heap) (L45 : List Loc) (X45 : Stand p l e ({ frames := 2, cells := 1, slots := 2, locals := 31 } : Room) s m #[(.ref thisk2), (.ref ak2_1), (.int xk2_2)] below meth c T45 L45 1 2) (e45 : T45.heap = h45) (N45 : Fr n0 L45) (K45 : Keep h0 h45 [thisk2]) (Z45 : n0 ≤ h45.size) (E_thisk2_t45 : Exa Z h45 thisk2 "com/example/tightbit/tightbit/SparseDocIds$Complement") (V_ak2_1_t45 : Al Z h45 ak2_1 .long (own_wl gw)) (V_b42_t45 : Al Z h45 b42 .char m2) (F_thisk2_missing_t45 : Fld Z h45 thisk2 "com/example/tightbit/tightbit/SparseDocIds$Complement" "missing" "[C" (.ref b42)) (I2 : own_iJ 2 S wi cm bt m2) (hmi : (((2 : Nat) : Int) - cm.toInt).toNat = ni), Wq p e below (fun o t L => FrameEnd s o t L ({ frames := 2, cells := 1, slots := 2, locals := 31 } : Room).cells ({ frames := 2, cells := 1, slots := 2, locals := 31 } : Room).slots) (Q_k2 Z thisk2 ak2_1 xk2_2 gw S h0 n0) (T45.setTop (mkF m 37 #[.val (.ref thisk2), .val (.ref ak2_1), .val (.int xk2_2), .val (.int cm), .val (.int wi), .val (.long bt), .second] [])) := by
        intro ni
        induction ni using Nat.strongRecOn with
        | _ ni ihi =>
        intro cm bt m2 T45 h45 L45 X45 e45 N45 K45 Z45 E_thisk2_t45 V_ak2_1_t45 V_b42_t45 F_thisk2_missing_t45 I2 hmi
        show Wq _ _ _ _ _ (T45.setTop (mkF m 37 #[.val (.ref thisk2), .val (.ref ak2_1), .val (.int xk2_2), .val (.int cm), .val (.int wi), .val (.long bt), .second] []))
        refine Ow.lload X45 hx (pc' := 39) (hb hby d_prog_66_method_1_37) rfl ?_
        refine Ow.lconst X45 hx (pc' := 40) (hb hby d_prog_66_method_1_39) (z := (0 : Int64)) rfl ?_
        refine Ow.lcmp X45 hx (pc' := 41) (hb hby d_prog_66_method_1_40)  ?_
        by_cases hc41 : bt = (0 : Int64)
        · skip
          refine Ow.ifYes X45 hx (pc' := 77) (hb hby d_prog_66_method_1_41) ((if0 _ _).trans (teq ((lw_eq _ _).mpr hc41)).1) (by decide) (by decide) ?_
          refine Ow.iinc X45 hx (pc' := 80) (hb hby d_prog_66_method_1_77) rfl (l' := #[.val (.ref thisk2), .val (.ref ak2_1), .val (.int xk2_2), .val (.int cm), .val (.int (wi + (1 : Int32))), .val (.long bt), .second]) rfl ?_
          show Wq _ _ _ _ _ (T45.setTop (mkF m 80 #[.val (.ref thisk2), .val (.ref ak2_1), .val (.int xk2_2), .val (.int cm), .val (.int (wi + (1 : Int32))), .val (.long bt), .second] []))
          refine Ow.goto X45 hx (pc' := 19) (hb hby d_prog_66_method_1_80) (by decide) (by decide) ?_
          exact iho _ (by rw [← hmo]; exact (own_jo hS.1 I2 hc41).2) cm (wi + (1 : Int32)) (.val (.long bt)) (.second) (m2) T45 h45 _ X45 e45 N45 K45 Z45 E_thisk2_t45 V_ak2_1_t45 V_b42_t45 F_thisk2_missing_t45 ((own_jo hS.1 I2 hc41).1) (Or.inr ⟨_, rfl, rfl⟩) rfl
        · skip
          refine Ow.ifNo X45 hx (pc' := 44) (hb hby d_prog_66_method_1_41) ((if0 _ _).trans (feq (mt (lw_eq _ _).mp hc41)).1) ?_
          refine Ow.aloadN X45 hx (pc' := 45) (hb hby d_prog_66_method_1_44) rfl rfl ?_
          obtain ⟨T46, X46, e46, st46⟩ := getF X45 hx hZ hown (host := "") (Or.inl (kw74 hw)) Via.refl e45 F_thisk2_missing_t45 (g := (mkF m 45 #[.val (.ref thisk2), .val (.ref ak2_1), .val (.int xk2_2), .val (.int cm), .val (.int wi), .val (.long bt), .second] [(.ref thisk2)])) rfl rfl (hb hby d_prog_66_method_1_45)
          refine Wq.step st46 ?_
          show Wq _ _ _ _ _ (T46.setTop (mkF m 48 #[.val (.ref thisk2), .val (.ref ak2_1), .val (.int xk2_2), .val (.int cm), .val (.int wi), .val (.long bt), .second] [(.ref b42)]))
          refine Ow.iloadN X46 hx (pc' := 49) (hb hby d_prog_66_method_1_48) rfl ?_
          refine Ow.iload X46 hx (pc' := 51) (hb hby d_prog_66_method_1_49) rfl ?_
          refine Ow.bipush X46 hx (pc' := 53) (hb hby d_prog_66_method_1_51) (z := (6 : Int32)) rfl ?_
          refine Ow.ishl X46 hx (pc' := 54) (hb hby d_prog_66_method_1_53) (z := (wi <<< ((6 : Int32) &&& 31))) rfl ?_
          refine Ow.lload X46 hx (pc' := 56) (hb hby d_prog_66_method_1_54) rfl ?_
          obtain ⟨_, _, ⟨T47, L47, k47, n47⟩, -, X47, ⟨Lc47, hQ47, l47, y47, z47⟩, st47⟩ := Jvm.LawKit.callS X46 hx (y := mt16) hown (mvT hZ (kw90 hw)) (mvT hZ (kw91 hw)) (mvT hZ (kw92 hw)) (mvT hZ (kw93 hw)) (by decide) (backOf (W := 3) (rm_lz l Z a0 hw [] bt h45 n0 Z45 ) hZ (kw93 hw) (kw92 hw) (by decide) (by decide)) (g := (mkF m 56 #[.val (.ref thisk2), .val (.ref ak2_1), .val (.int xk2_2), .val (.int cm), .val (.int wi), .val (.long bt), .second] [(.long bt), (.int (wi <<< ((6 : Int32) &&& 31))), (.int cm), (.ref b42)])) rfl (by rw [hml]; rfl) (argsL := [(.long bt)]) (rest := [(.int (wi <<< ((6 : Int32) &&& 31))), (.int cm), (.ref b42)]) (lenOf pd8 rfl) rfl (by show 2 * 0 + _ ≤ _; exact Nat.le_of_eq rfl) (hb hby d_prog_66_method_1_56) (fun _ _ => ⟨rfl, e46, (by decide : 1 + 0 ≤ _), (by decide : 2 + 0 ≤ _)⟩)
          dsimp only [Pt.U, Pt.locs, Pt.cells, Pt.slots] at X47 l47 y47 z47 st47 hQ47
          subst l47 y47 z47
          obtain ⟨rfl, Nq47, e47⟩ := hQ47
          have N47 := Fr.app N45 Nq47
          refine Wq.step st47 ?_
          show Wq _ _ _ _ _ (T47.setTop (mkF m 59 #[.val (.ref thisk2), .val (.ref ak2_1), .val (.int xk2_2), .val (.int cm), .val (.int wi), .val (.long bt), .second] [(.int (f_lz bt)), (.int (wi <<< ((6 : Int32) &&& 31))), (.int cm), (.ref b42)]))
          refine Ow.ior X47 hx (pc' := 60) (hb hby d_prog_66_method_1_59) (z := ((wi <<< ((6 : Int32) &&& 31)) ||| (f_lz bt))) rfl ?_
          refine Ow.i2c X47 hx (pc' := 61) (hb hby d_prog_66_method_1_60) (z := (((wi <<< ((6 : Int32) &&& 31)) ||| (f_lz bt)).toUInt32.toUInt16.toUInt32.toInt32)) rfl ?_
          obtain ⟨T48, h48, X48, e48, W48, Vr48, st48⟩ := asC X47 hx hZ e47 V_b42_t45 (j := cm) (i := (own_n cm)) ((own_jk hS.1 I2 hc41).1) (rfl) ((own_jk hS.1 I2 hc41).2.1) (y := (Int32.ofNat (S (own_n cm)))) ((own_jk hS.1 I2 hc41).2.2) (g := (mkF m 61 #[.val (.ref thisk2), .val (.ref ak2_1), .val (.int xk2_2), .val (.int cm), .val (.int wi), .val (.long bt), .second] [(.int (((wi <<< ((6 : Int32) &&& 31)) ||| (f_lz bt)).toUInt32.toUInt16.toUInt32.toInt32)), (.int cm), (.ref b42)])) rfl rfl (hb hby d_prog_66_method_1_61)
          refine Wq.step st48 ?_
          have N48 := Fr.snoc X48 N47 g_b42
          have K48 : Keep h0 h48 [thisk2] := K45.wr W48 (Or.inr sz_b42)
          have Z48 : n0 ≤ h48.size := Nat.le_trans Z45 (Keep.of_wr W48).1
          have E_thisk2_t48 := E_thisk2_t45.wr W48
          have V_ak2_1_t48 := V_ak2_1_t45.other W48 ne_ak2_1_b42
          have F_thisk2_missing_t48 := F_thisk2_missing_t45.other W48 (Or.inl ne_thisk2_b42)
          have V_b42_t48 : Al Z h48 b42 .char (m2.set (own_n cm) (.int (Int32.ofNat (S (own_n cm))))) := Vr48
          show Wq _ _ _ _ _ (T48.setTop (mkF m 62 #[.val (.ref thisk2), .val (.ref ak2_1), .val (.int xk2_2), .val (.int cm), .val (.int wi), .val (.long bt), .second] []))
          refine Ow.iinc X48 hx (pc' := 65) (hb hby d_prog_66_method_1_62) rfl (l' := #[.val (.ref thisk2), .val (.ref ak2_1), .val (.int xk2_2), .val (.int (cm + (1 : Int32))), .val (.int wi), .val (.long bt), .second]) rfl ?_
          show Wq _ _ _ _ _ (T48.setTop (mkF m 65 #[.val (.ref thisk2), .val (.ref ak2_1), .val (.int xk2_2), .val (.int (cm + (1 : Int32))), .val (.int wi), .val (.long bt), .second] []))
          refine Ow.lload X48 hx (pc' := 67) (hb hby d_prog_66_method_1_65) rfl ?_
          refine Ow.lload X48 hx (pc' := 69) (hb hby d_prog_66_method_1_67) rfl ?_
          refine Ow.lconst X48 hx (pc' := 70) (hb hby d_prog_66_method_1_69) (z := (1 : Int64)) rfl ?_
          refine Ow.lsub X48 hx (pc' := 71) (hb hby d_prog_66_method_1_70) (z := (bt - (1 : Int64))) rfl ?_
          refine Ow.land X48 hx (pc' := 72) (hb hby d_prog_66_method_1_71) (z := (bt &&& (bt - (1 : Int64)))) rfl ?_
          refine Ow.lstore X48 hx (pc' := 74) (hb hby d_prog_66_method_1_72) (l' := #[.val (.ref thisk2), .val (.ref ak2_1), .val (.int xk2_2), .val (.int (cm + (1 : Int32))), .val (.int wi), .val (.long (bt &&& (bt - (1 : Int64)))), .second]) rfl ?_
          refine Ow.goto X48 hx (pc' := 37) (hb hby d_prog_66_method_1_74) (by decide) (by decide) ?_
          exact ihi _ (by rw [← hmi]; exact (own_js (by decide) hS.1 I2 hc41).2) (cm + (1 : Int32)) (bt &&& (bt - (1 : Int64))) ((m2.set (own_n cm) (.int (Int32.ofNat (S (own_n cm)))))) T48 h48 _ X48 e48 N48 K48 Z48 E_thisk2_t48 V_ak2_1_t48 V_b42_t48 F_thisk2_missing_t48 ((own_js (by decide) hS.1 I2 hc41).1) rfl
      exact LP37 _ cn ((gw (own_n wi)) ^^^ (-1 : Int64)) (m1) T44 h44 _ X44 e44 N44 K44 Z44 E_thisk2_t44 V_ak2_1_t44 V_b42_t44 F_thisk2_missing_t44 (own_ji hS I1 hc24) rfl
    · skip
      refine Ow.icmpYes X44 hx (pc' := 83) (hb hby d_prog_66_method_1_24) (flt hc24).2.1 (by decide) (by decide) ?_
      exact Wq.ret X44 (BodyLoose.notSynchronized Bd) (rv := none) (fun _ => rfl) (fun _ hr => X44.returnOut hx Bd.returns (hb hby d_prog_66_method_1_83) hr) (by decide) (by decide) (by rw [e44]; exact ⟨b42, rfl, N44, K44, sz_b42, E_thisk2_t44, (by rw [← own_jf2 hS I1 hc24]; exact V_b42_t44), F_thisk2_missing_t44⟩)
  exact LP19 _ (0 : Int32) (0 : Int32) (.unset) (.unset) ([(.int (0 : Int32)), (.int (0 : Int32))]) T43 h43 _ X43 e43 N43 K43 Z43 E_thisk2_t43 V_ak2_1_t43 V_b42_t43 F_thisk2_missing_t43 (own_j0 S 2 rfl) (Or.inl ⟨rfl, rfl⟩) rfl
theorem ef_k3 (m : MethodId) (thisk3 : Addr) (ak3_1 : Addr) (xk3_2 : Int32) : entryFrame m #[(.ref thisk3), (.ref ak3_1), (.int xk3_2)] 7 = mkF m 0 #[.val (.ref thisk3), .val (.ref ak3_1), .val (.int xk3_2), .unset, .unset, .unset, .unset] [] := by first | (simp [entryFrame, mkF, argsToLocals, Value.category]; done) | rfl
def Q_k3 (Z : State) (thisk3 : Addr) (ak3_1 : Addr) (xk3_2 : Int32) (gw : Nat → Int64) (S : Nat → Nat) (h0 : Heap) (n0 : Nat) (v : Option Value) (h : Heap) (L : List Loc) : Prop := ∃ b50 : Addr, v = none ∧ Fr n0 L ∧ Keep h0 h [thisk3] ∧ h0.size ≤ b50 ∧ Exa Z h thisk3 "com/example/tightbit/tightbit/SparseDocIds$Complement" ∧ Al Z h b50 .char [(.int (Int32.ofNat (S 0))), (.int (Int32.ofNat (S 1))), (.int (Int32.ofNat (S 2)))] ∧ Fld Z h thisk3 "com/example/tightbit/tightbit/SparseDocIds$Complement" "missing" "[C" (.ref b50)
set_option maxRecDepth 65536 in
set_option maxHeartbeats 40000000 in
theorem rm_k3 (l : Launch) (Z : State) (a0 : Array Value) (hw : ∀ d ∈ tables_1, d.before a0 Z = true) (ws : List Jvm.Cond) (thisk3 : Addr) (ak3_1 : Addr) (xk3_2 : Int32) (gw : Nat → Int64) (S : Nat → Nat) (h0 : Heap) (n0 : Nat) (Z0 : n0 ≤ h0.size) (hcnt : ((65536 : Int32) - xk3_2) = (3 : Int32)) (hS : own_S gw 3 S) (E_thisk3 : Exa Z h0 thisk3 "com/example/tightbit/tightbit/SparseDocIds$Complement") (F_thisk3_missing : Fld Z h0 thisk3 "com/example/tightbit/tightbit/SparseDocIds$Complement" "missing" "[C" .null) (g_thisk3 : n0 ≤ thisk3) (V_ak3_1 : Al Z h0 ak3_1 .long (own_wl gw)) (ne_ak3_1_thisk3 : ak3_1 ≠ thisk3) :
    MetFree l mt17 (head1 (Jvm.Cond.code mt17 prog_66_method_1_code 7 none :: ws) ({ frames := 2, cells := 1, slots := 3, locals := 31 } : Room)) (fun a U => a = #[(.ref thisk3), (.ref ak3_1), (.int xk3_2)] ∧ Z.Warmed39 U.vm ∧ U.heap = h0) (fun _ _ _ _ _ => True) (fun _ U o U' => ∃ v L, o = .returned v ∧ (Q_k3 Z thisk3 ak3_1 xk3_2 gw S h0 n0) v U'.heap L ∧ FrameEnd U o U' L ({ frames := 2, cells := 1, slots := 3, locals := 31 } : Room).cells ({ frames := 2, cells := 1, slots := 3, locals := 31 } : Room).slots) := by
  refine MetFree.of_bodySF (plainFor_of_name pn7) hisR ?_
  intro p e s m args below meth c s₁ Bd hml0 hP hK
  obtain ⟨rfl, hZ, hh⟩ := hP
  have hx := Bd.exec
  have hby := Bd.bytes
  have hml : c.maxLocals = 7 := hml0
  have hown : s.vm.findClass "com/example/tightbit/tightbit/SparseDocIds$Complement" = some m.cls := findClass_of_methodNamed Bd.named
  have hnm := (name_of_methodNamed Bd.named Bd.method).1
  have X0 : Stand p l e ({ frames := 2, cells := 1, slots := 3, locals := 31 } : Room) s m #[(.ref thisk3), (.ref ak3_1), (.int xk3_2)] below meth c s₁ [] 0 0 := Stand.of_body Bd
  have e0 : s₁.heap = h0 := by rw [← hh, Bd.state]; rfl
  have N0 := Fr.nil n0
  refine Wq.step (p := p) (e := e) (below := below) (En := (fun o t L => FrameEnd s o t L ({ frames := 2, cells := 1, slots := 3, locals := 31 } : Room).cells ({ frames := 2, cells := 1, slots := 3, locals := 31 } : Room).slots)) (Q := (Q_k3 Z thisk3 ak3_1 xk3_2 gw S h0 n0)) (fun t k => castTop (ef_k3 m thisk3 ak3_1 xk3_2) k) ?_
  show Wq _ _ _ _ _ (s₁.setTop (mkF m 0 #[.val (.ref thisk3), .val (.ref ak3_1), .val (.int xk3_2), .unset, .unset, .unset, .unset] []))
  refine Ow.aloadN X0 hx (pc' := 1) (hb hby d_prog_66_method_1_0) rfl rfl ?_
  obtain ⟨T49, X49, e49, st49⟩ := initO X0 hx hZ hown (kw72 hw) (kw9 hw) (kw10 hw) e0 (g := (mkF m 1 #[.val (.ref thisk3), .val (.ref ak3_1), .val (.int xk3_2), .unset, .unset, .unset, .unset] [(.ref thisk3)])) rfl (by rw [hml]; rfl) rfl (hb hby d_prog_66_method_1_1) (by decide) (W := 0) (by show 2 * 0 + _ ≤ _; exact Nat.le_of_eq rfl) (by decide)
  refine Wq.step st49 ?_
  show Wq _ _ _ _ _ (T49.setTop (mkF m 4 #[.val (.ref thisk3), .val (.ref ak3_1), .val (.int xk3_2), .unset, .unset, .unset, .unset] []))
  refine Ow.aloadN X49 hx (pc' := 5) (hb hby d_prog_66_method_1_4) rfl rfl ?_
  refine Ow.ldcInt X49 hx hZ (pc' := 7) hown (kw73 hw) (hb hby d_prog_66_method_1_5) ?_
  refine Ow.iloadN X49 hx (pc' := 8) (hb hby d_prog_66_method_1_7) rfl ?_
  refine Ow.isub X49 hx (pc' := 9) (hb hby d_prog_66_method_1_8) (z := ((65536 : Int32) - xk3_2)) rfl ?_
  obtain ⟨T50, h50, k50, X50, e50, E50, A50, st50⟩ := newP X49 hx hZ (aty := .char) (kw4 hw) e49 (g := (mkF m 9 #[.val (.ref thisk3), .val (.ref ak3_1), .val (.int xk3_2), .unset, .unset, .unset, .unset] [(.int ((65536 : Int32) - xk3_2)), (.ref thisk3)])) rfl (hb hby d_prog_66_method_1_9) rfl (by rw [hcnt]; decide) (cap := 3) (by rw [hcnt]; decide) (by decide) (by decide) (by decide)
  obtain ⟨b50, gz50⟩ : ∃ z, z = h0.size := ⟨_, rfl⟩
  rw [← gz50] at A50 st50
  have g_b50 : n0 ≤ b50 := Nat.le_trans Z0 (Nat.le_of_eq gz50.symm)
  have sz_b50 : h0.size ≤ b50 := Nat.le_of_eq gz50.symm
  have ne_thisk3_b50 : thisk3 ≠ b50 := Nat.ne_of_lt (Nat.lt_of_lt_of_le E_thisk3.lt (Nat.le_of_eq gz50.symm))
  have ne_ak3_1_b50 : ak3_1 ≠ b50 := Nat.ne_of_lt (Nat.lt_of_lt_of_le V_ak3_1.lt (Nat.le_of_eq gz50.symm))
  have K50 : Keep h0 h50 [thisk3] := (Keep.refl h0 [thisk3]).ext E50
  have Z50 : n0 ≤ h50.size := Nat.le_trans Z0 E50.1
  have E_thisk3_t50 := E_thisk3.ext E50
  have F_thisk3_missing_t50 := F_thisk3_missing.ext E50
  have V_ak3_1_t50 := V_ak3_1.ext E50
  have V_b50 : Al Z h50 b50 .char [(.int (0 : Int32)), (.int (0 : Int32)), (.int (0 : Int32))] := Al.new A50 (k := 3) (by rw [hcnt]; decide) rfl
  refine Wq.step st50 ?_
  show Wq _ _ _ _ _ (T50.setTop (mkF m 11 #[.val (.ref thisk3), .val (.ref ak3_1), .val (.int xk3_2), .unset, .unset, .unset, .unset] [(.ref b50), (.ref thisk3)]))
  obtain ⟨T51, h51, X51, e51, W51, st51⟩ := putF X50 hx hZ hown (host := "") (Or.inl (kw74 hw)) Via.refl e50 F_thisk3_missing_t50 E_thisk3_t50 (Or.inr ⟨(kw75 hw), rfl, hnm⟩) (kw66 hw) (ty := (.array .char)) (by decide) (rfl) (rfl) (g := (mkF m 11 #[.val (.ref thisk3), .val (.ref ak3_1), .val (.int xk3_2), .unset, .unset, .unset, .unset] [(.ref b50), (.ref thisk3)])) rfl rfl (hb hby d_prog_66_method_1_11)
  refine Wq.step st51 ?_
  have N51 := Fr.snoc X51 N0 g_thisk3
  have K51 : Keep h0 h51 [thisk3] := K50.wr W51 (Or.inl (List.mem_of_getElem? (i := 0) rfl))
  have Z51 : n0 ≤ h51.size := Nat.le_trans Z50 (Keep.of_wr W51).1
  have E_thisk3_t51 := E_thisk3_t50.wr W51
  have V_ak3_1_t51 := V_ak3_1_t50.other W51 ne_ak3_1_thisk3
  have V_b50_t51 := V_b50.other W51 (Ne.symm ne_thisk3_b50)
  have F_thisk3_missing_t51 : Fld Z h51 thisk3 "com/example/tightbit/tightbit/SparseDocIds$Complement" "missing" "[C" (.ref b50) := F_thisk3_missing_t50.same W51
  show Wq _ _ _ _ _ (T51.setTop (mkF m 14 #[.val (.ref thisk3), .val (.ref ak3_1), .val (.int xk3_2), .unset, .unset, .unset, .unset] []))
  refine Ow.iconst X51 hx (pc' := 15) (hb hby d_prog_66_method_1_14) (z := (0 : Int32)) rfl ?_
  refine Ow.istoreN X51 hx (pc' := 16) (hb hby d_prog_66_method_1_15) (l' := #[.val (.ref thisk3), .val (.ref ak3_1), .val (.int xk3_2), .val (.int (0 : Int32)), .unset, .unset, .unset]) rfl ?_
  refine Ow.iconst X51 hx (pc' := 17) (hb hby d_prog_66_method_1_16) (z := (0 : Int32)) rfl ?_
  refine Ow.istore X51 hx (pc' := 19) (hb hby d_prog_66_method_1_17) (l' := #[.val (.ref thisk3), .val (.ref ak3_1), .val (.int xk3_2), .val (.int (0 : Int32)), .val (.int (0 : Int32)), .unset, .unset]) rfl ?_
  have LP19 : ∀ (no : Nat) (cn : Int32) (wi : Int32) (s5 : Slot) (s6 : Slot) (m1 : List Value) (T52 : State) (h52 : Heap) (L52 : List Loc) (X52 : Stand p l e ({ frames := 2, cells := 1, slots := 3, locals := 31 } : Room) s m #[(.ref thisk3), (.ref ak3_1), (.int xk3_2)] below meth c T52 L52 1 3) (e52 : T52.heap = h52) (N52 : Fr n0 L52) (K52 : Keep h0 h52 [thisk3]) (Z52 : n0 ≤ h52.size) (E_thisk3_t52 : Exa Z h52 thisk3 "com/example/tightbit/tightbit/SparseDocIds$Complement") (V_ak3_1_t52 : Al Z h52 ak3_1 .long (own_wl gw)) (V_b50_t52 : Al Z h52 b50 .char m1) (F_thisk3_missing_t52 : Fld Z h52 thisk3 "com/example/tightbit/tightbit/SparseDocIds$Complement" "missing" "[C" (.ref b50)) (I1 : own_oJ 3 S cn wi m1) (HS : (s5 = .unset ∧ s6 = .unset) ∨ ∃ z, s5 = .val (.long z) ∧ s6 = .second) (hmo : (1024 - wi.toInt).toNat = no), Wq p e below (fun o t L => FrameEnd s o t L ({ frames := 2, cells := 1, slots := 3, locals := 31 } : Room).cells ({ frames := 2, cells := 1, slots := 3, locals := 31 } : Room).slots) (Q_k3 Z thisk3 ak3_1 xk3_2 gw S h0 n0) (T52.setTop (mkF m 19 #[.val (.ref thisk3), .val (.ref ak3_1), .val (.int xk3_2), .val (.int cn), .val (.int wi), s5, s6] [])) := by
    intro no
    induction no using Nat.strongRecOn with
    | _ no iho =>
    intro cn wi s5 s6 m1 T52 h52 L52 X52 e52 N52 K52 Z52 E_thisk3_t52 V_ak3_1_t52 V_b50_t52 F_thisk3_missing_t52 I1 HS hmo
    show Wq _ _ _ _ _ (T52.setTop (mkF m 19 #[.val (.ref thisk3), .val (.ref ak3_1), .val (.int xk3_2), .val (.int cn), .val (.int wi), s5, s6] []))
    refine Ow.iload X52 hx (pc' := 21) (hb hby d_prog_66_method_1_19) rfl ?_
    refine Ow.sipush X52 hx (pc' := 24) (hb hby d_prog_66_method_1_21) (z := (1024 : Int32)) rfl ?_
    by_cases hc24 : wi < (1024 : Int32)
    · skip
      refine Ow.icmpNo X52 hx (pc' := 27) (hb hby d_prog_66_method_1_24) (tlt hc24).2.1 ?_
      refine Ow.aloadN X52 hx (pc' := 28) (hb hby d_prog_66_method_1_27) rfl rfl ?_
      refine Ow.iload X52 hx (pc' := 30) (hb hby d_prog_66_method_1_28) rfl ?_
      refine Ow.ldJ X52 hx hZ e52 V_ak3_1_t52 (pc' := 31) (hb hby d_prog_66_method_1_30) (j := wi) (i := (own_n wi)) (v := (.long (gw (own_n wi)))) ((own_jw I1 hc24).1) (rfl) (own_wlg gw (own_jw I1 hc24).2) ?_
      refine Ow.ldc2Long X52 hx hZ (pc' := 34) hown (kw76 hw) (hb hby d_prog_66_method_1_31) ?_
      refine Ow.lxor X52 hx (pc' := 35) (hb hby d_prog_66_method_1_34) (z := ((gw (own_n wi)) ^^^ (-1 : Int64))) rfl ?_
      refine Ow.lstore X52 hx (pc' := 37) (hb hby d_prog_66_method_1_35) (l' := #[.val (.ref thisk3), .val (.ref ak3_1), .val (.int xk3_2), .val (.int cn), .val (.int wi), .val (.long ((gw (own_n wi)) ^^^ (-1 : Int64))), .second]) (by rcases HS with ⟨rfl, rfl⟩ | ⟨_, rfl, rfl⟩ <;> rfl) ?_
      have LP37 : ∀ (ni : Nat) (cm : Int32) (bt : Int64) (m2 : List Value) (T53 : State) (h53 : Heap) (L53 : List Loc) (X53 : Stand p l e ({ frames := 2, cells := 1, slots := 3, locals := 31 } : Room) s m #[(.ref thisk3), (.ref ak3_1), (.int xk3_2)] below meth c T53 L53 1 3) (e53 : T53.heap = h53) (N53 : Fr n0 L53) (K53 : Keep h0 h53 [thisk3]) (Z53 : n0 ≤ h53.size) (E_thisk3_t53 : Exa Z h53 thisk3 "com/example/tightbit/tightbit/SparseDocIds$Complement") (V_ak3_1_t53 : Al Z h53 ak3_1 .long (own_wl gw)) (V_b50_t53 : Al Z h53 b50 .char m2) (F_thisk3_missing_t53 : Fld Z h53 thisk3 "com/example/tightbit/tightbit/SparseDocIds$Complement" "missing" "[C" (.ref b50)) (I2 : own_iJ 3 S wi cm bt m2) (hmi : (((3 : Nat) : Int) - cm.toInt).toNat = ni), Wq p e below (fun o t L => FrameEnd s o t L ({ frames := 2, cells := 1, slots := 3, locals := 31 } : Room).cells ({ frames := 2, cells := 1, slots := 3, locals := 31 } : Room).slots) (Q_k3 Z thisk3 ak3_1 xk3_2 gw S h0 n0) (T53.setTop (mkF m 37 #[.val (.ref thisk3), .val (.ref ak3_1), .val (.int xk3_2), .val (.int cm), .val (.int wi), .val (.long bt), .second] [])) := by
        intro ni
        induction ni using Nat.strongRecOn with
        | _ ni ihi =>
        intro cm bt m2 T53 h53 L53 X53 e53 N53 K53 Z53 E_thisk3_t53 V_ak3_1_t53 V_b50_t53 F_thisk3_missing_t53 I2 hmi
        show Wq _ _ _ _ _ (T53.setTop (mkF m 37 #[.val (.ref thisk3), .val (.ref ak3_1), .val (.int xk3_2), .val (.int cm), .val (.int wi), .val (.long bt), .second] []))
        refine Ow.lload X53 hx (pc' := 39) (hb hby d_prog_66_method_1_37) rfl ?_
        refine Ow.lconst X53 hx (pc' := 40) (hb hby d_prog_66_method_1_39) (z := (0 : Int64)) rfl ?_
        refine Ow.lcmp X53 hx (pc' := 41) (hb hby d_prog_66_method_1_40)  ?_
        by_cases hc41 : bt = (0 : Int64)
        · skip
          refine Ow.ifYes X53 hx (pc' := 77) (hb hby d_prog_66_method_1_41) ((if0 _ _).trans (teq ((lw_eq _ _).mpr hc41)).1) (by decide) (by decide) ?_
          refine Ow.iinc X53 hx (pc' := 80) (hb hby d_prog_66_method_1_77) rfl (l' := #[.val (.ref thisk3), .val (.ref ak3_1), .val (.int xk3_2), .val (.int cm), .val (.int (wi + (1 : Int32))), .val (.long bt), .second]) rfl ?_
          show Wq _ _ _ _ _ (T53.setTop (mkF m 80 #[.val (.ref thisk3), .val (.ref ak3_1), .val (.int xk3_2), .val (.int cm), .val (.int (wi + (1 : Int32))), .val (.long bt), .second] []))
          refine Ow.goto X53 hx (pc' := 19) (hb hby d_prog_66_method_1_80) (by decide) (by decide) ?_
          exact iho _ (by rw [← hmo]; exact (own_jo hS.1 I2 hc41).2) cm (wi + (1 : Int32)) (.val (.long bt)) (.second) (m2) T53 h53 _ X53 e53 N53 K53 Z53 E_thisk3_t53 V_ak3_1_t53 V_b50_t53 F_thisk3_missing_t53 ((own_jo hS.1 I2 hc41).1) (Or.inr ⟨_, rfl, rfl⟩) rfl
        · skip
          refine Ow.ifNo X53 hx (pc' := 44) (hb hby d_prog_66_method_1_41) ((if0 _ _).trans (feq (mt (lw_eq _ _).mp hc41)).1) ?_
          refine Ow.aloadN X53 hx (pc' := 45) (hb hby d_prog_66_method_1_44) rfl rfl ?_
          obtain ⟨T54, X54, e54, st54⟩ := getF X53 hx hZ hown (host := "") (Or.inl (kw74 hw)) Via.refl e53 F_thisk3_missing_t53 (g := (mkF m 45 #[.val (.ref thisk3), .val (.ref ak3_1), .val (.int xk3_2), .val (.int cm), .val (.int wi), .val (.long bt), .second] [(.ref thisk3)])) rfl rfl (hb hby d_prog_66_method_1_45)
          refine Wq.step st54 ?_
          show Wq _ _ _ _ _ (T54.setTop (mkF m 48 #[.val (.ref thisk3), .val (.ref ak3_1), .val (.int xk3_2), .val (.int cm), .val (.int wi), .val (.long bt), .second] [(.ref b50)]))
          refine Ow.iloadN X54 hx (pc' := 49) (hb hby d_prog_66_method_1_48) rfl ?_
          refine Ow.iload X54 hx (pc' := 51) (hb hby d_prog_66_method_1_49) rfl ?_
          refine Ow.bipush X54 hx (pc' := 53) (hb hby d_prog_66_method_1_51) (z := (6 : Int32)) rfl ?_
          refine Ow.ishl X54 hx (pc' := 54) (hb hby d_prog_66_method_1_53) (z := (wi <<< ((6 : Int32) &&& 31))) rfl ?_
          refine Ow.lload X54 hx (pc' := 56) (hb hby d_prog_66_method_1_54) rfl ?_
          obtain ⟨_, _, ⟨T55, L55, k55, n55⟩, -, X55, ⟨Lc55, hQ55, l55, y55, z55⟩, st55⟩ := Jvm.LawKit.callS X54 hx (y := mt16) hown (mvT hZ (kw90 hw)) (mvT hZ (kw91 hw)) (mvT hZ (kw92 hw)) (mvT hZ (kw93 hw)) (by decide) (backOf (W := 3) (rm_lz l Z a0 hw [] bt h53 n0 Z53 ) hZ (kw93 hw) (kw92 hw) (by decide) (by decide)) (g := (mkF m 56 #[.val (.ref thisk3), .val (.ref ak3_1), .val (.int xk3_2), .val (.int cm), .val (.int wi), .val (.long bt), .second] [(.long bt), (.int (wi <<< ((6 : Int32) &&& 31))), (.int cm), (.ref b50)])) rfl (by rw [hml]; rfl) (argsL := [(.long bt)]) (rest := [(.int (wi <<< ((6 : Int32) &&& 31))), (.int cm), (.ref b50)]) (lenOf pd8 rfl) rfl (by show 2 * 0 + _ ≤ _; exact Nat.le_of_eq rfl) (hb hby d_prog_66_method_1_56) (fun _ _ => ⟨rfl, e54, (by decide : 1 + 0 ≤ _), (by decide : 3 + 0 ≤ _)⟩)
          dsimp only [Pt.U, Pt.locs, Pt.cells, Pt.slots] at X55 l55 y55 z55 st55 hQ55
          subst l55 y55 z55
          obtain ⟨rfl, Nq55, e55⟩ := hQ55
          have N55 := Fr.app N53 Nq55
          refine Wq.step st55 ?_
          show Wq _ _ _ _ _ (T55.setTop (mkF m 59 #[.val (.ref thisk3), .val (.ref ak3_1), .val (.int xk3_2), .val (.int cm), .val (.int wi), .val (.long bt), .second] [(.int (f_lz bt)), (.int (wi <<< ((6 : Int32) &&& 31))), (.int cm), (.ref b50)]))
          refine Ow.ior X55 hx (pc' := 60) (hb hby d_prog_66_method_1_59) (z := ((wi <<< ((6 : Int32) &&& 31)) ||| (f_lz bt))) rfl ?_
          refine Ow.i2c X55 hx (pc' := 61) (hb hby d_prog_66_method_1_60) (z := (((wi <<< ((6 : Int32) &&& 31)) ||| (f_lz bt)).toUInt32.toUInt16.toUInt32.toInt32)) rfl ?_
          obtain ⟨T56, h56, X56, e56, W56, Vr56, st56⟩ := asC X55 hx hZ e55 V_b50_t53 (j := cm) (i := (own_n cm)) ((own_jk hS.1 I2 hc41).1) (rfl) ((own_jk hS.1 I2 hc41).2.1) (y := (Int32.ofNat (S (own_n cm)))) ((own_jk hS.1 I2 hc41).2.2) (g := (mkF m 61 #[.val (.ref thisk3), .val (.ref ak3_1), .val (.int xk3_2), .val (.int cm), .val (.int wi), .val (.long bt), .second] [(.int (((wi <<< ((6 : Int32) &&& 31)) ||| (f_lz bt)).toUInt32.toUInt16.toUInt32.toInt32)), (.int cm), (.ref b50)])) rfl rfl (hb hby d_prog_66_method_1_61)
          refine Wq.step st56 ?_
          have N56 := Fr.snoc X56 N55 g_b50
          have K56 : Keep h0 h56 [thisk3] := K53.wr W56 (Or.inr sz_b50)
          have Z56 : n0 ≤ h56.size := Nat.le_trans Z53 (Keep.of_wr W56).1
          have E_thisk3_t56 := E_thisk3_t53.wr W56
          have V_ak3_1_t56 := V_ak3_1_t53.other W56 ne_ak3_1_b50
          have F_thisk3_missing_t56 := F_thisk3_missing_t53.other W56 (Or.inl ne_thisk3_b50)
          have V_b50_t56 : Al Z h56 b50 .char (m2.set (own_n cm) (.int (Int32.ofNat (S (own_n cm))))) := Vr56
          show Wq _ _ _ _ _ (T56.setTop (mkF m 62 #[.val (.ref thisk3), .val (.ref ak3_1), .val (.int xk3_2), .val (.int cm), .val (.int wi), .val (.long bt), .second] []))
          refine Ow.iinc X56 hx (pc' := 65) (hb hby d_prog_66_method_1_62) rfl (l' := #[.val (.ref thisk3), .val (.ref ak3_1), .val (.int xk3_2), .val (.int (cm + (1 : Int32))), .val (.int wi), .val (.long bt), .second]) rfl ?_
          show Wq _ _ _ _ _ (T56.setTop (mkF m 65 #[.val (.ref thisk3), .val (.ref ak3_1), .val (.int xk3_2), .val (.int (cm + (1 : Int32))), .val (.int wi), .val (.long bt), .second] []))
          refine Ow.lload X56 hx (pc' := 67) (hb hby d_prog_66_method_1_65) rfl ?_
          refine Ow.lload X56 hx (pc' := 69) (hb hby d_prog_66_method_1_67) rfl ?_
          refine Ow.lconst X56 hx (pc' := 70) (hb hby d_prog_66_method_1_69) (z := (1 : Int64)) rfl ?_
          refine Ow.lsub X56 hx (pc' := 71) (hb hby d_prog_66_method_1_70) (z := (bt - (1 : Int64))) rfl ?_
          refine Ow.land X56 hx (pc' := 72) (hb hby d_prog_66_method_1_71) (z := (bt &&& (bt - (1 : Int64)))) rfl ?_
          refine Ow.lstore X56 hx (pc' := 74) (hb hby d_prog_66_method_1_72) (l' := #[.val (.ref thisk3), .val (.ref ak3_1), .val (.int xk3_2), .val (.int (cm + (1 : Int32))), .val (.int wi), .val (.long (bt &&& (bt - (1 : Int64)))), .second]) rfl ?_
          refine Ow.goto X56 hx (pc' := 37) (hb hby d_prog_66_method_1_74) (by decide) (by decide) ?_
          exact ihi _ (by rw [← hmi]; exact (own_js (by decide) hS.1 I2 hc41).2) (cm + (1 : Int32)) (bt &&& (bt - (1 : Int64))) ((m2.set (own_n cm) (.int (Int32.ofNat (S (own_n cm)))))) T56 h56 _ X56 e56 N56 K56 Z56 E_thisk3_t56 V_ak3_1_t56 V_b50_t56 F_thisk3_missing_t56 ((own_js (by decide) hS.1 I2 hc41).1) rfl
      exact LP37 _ cn ((gw (own_n wi)) ^^^ (-1 : Int64)) (m1) T52 h52 _ X52 e52 N52 K52 Z52 E_thisk3_t52 V_ak3_1_t52 V_b50_t52 F_thisk3_missing_t52 (own_ji hS I1 hc24) rfl
    · skip
      refine Ow.icmpYes X52 hx (pc' := 83) (hb hby d_prog_66_method_1_24) (flt hc24).2.1 (by decide) (by decide) ?_
      exact Wq.ret X52 (BodyLoose.notSynchronized Bd) (rv := none) (fun _ => rfl) (fun _ hr => X52.returnOut hx Bd.returns (hb hby d_prog_66_method_1_83) hr) (by decide) (by decide) (by rw [e52]; exact ⟨b50, rfl, N52, K52, sz_b50, E_thisk3_t52, (by rw [← own_jf3 hS I1 hc24]; exact V_b50_t52), F_thisk3_missing_t52⟩)
  exact LP19 _ (0 : Int32) (0 : Int32) (.unset) (.unset) ([(.int (0 : Int32)), (.int (0 : Int32)), (.int (0 : Int32))]) T51 h51 _ X51 e51 N51 K51 Z51 E_thisk3_t51 V_ak3_1_t51 V_b50_t51 F_thisk3_missing_t51 (own_j0 S 3 rfl) (Or.inl ⟨rfl, rfl⟩) rfl
theorem d_prog_66_method_5_0 : decode prog_66_method_5_code 0 = .ok (.aload_n 0, 1) := by decide +kernel
theorem d_prog_66_method_5_1 : decode prog_66_method_5_code 1 = .ok (.getfield 10, 3) := by decide +kernel
theorem d_prog_66_method_5_4 : decode prog_66_method_5_code 4 = .ok (.arraylength, 1) := by decide +kernel
theorem d_prog_66_method_5_5 : decode prog_66_method_5_code 5 = .ok (.iconst 1, 1) := by decide +kernel
theorem d_prog_66_method_5_6 : decode prog_66_method_5_code 6 = .ok (.iadd, 1) := by decide +kernel
theorem d_prog_66_method_5_7 : decode prog_66_method_5_code 7 = .ok (.istore_n 1, 1) := by decide +kernel
theorem d_prog_66_method_5_8 : decode prog_66_method_5_code 8 = .ok (.aload_n 0, 1) := by decide +kernel
theorem d_prog_66_method_5_9 : decode prog_66_method_5_code 9 = .ok (.getfield 10, 3) := by decide +kernel
theorem d_prog_66_method_5_12 : decode prog_66_method_5_code 12 = .ok (.arraylength, 1) := by decide +kernel
theorem d_prog_66_method_5_13 : decode prog_66_method_5_code 13 = .ok (.ifCond .le 15, 3) := by decide +kernel
theorem d_prog_66_method_5_28 : decode prog_66_method_5_code 28 = .ok (.aload_n 0, 1) := by decide +kernel
theorem d_prog_66_method_5_29 : decode prog_66_method_5_code 29 = .ok (.getfield 10, 3) := by decide +kernel
theorem d_prog_66_method_5_32 : decode prog_66_method_5_code 32 = .ok (.arraylength, 1) := by decide +kernel
theorem d_prog_66_method_5_33 : decode prog_66_method_5_code 33 = .ok (.ifCond .le 23, 3) := by decide +kernel
theorem d_prog_66_method_5_56 : decode prog_66_method_5_code 56 = .ok (.iconst 1, 1) := by decide +kernel
theorem d_prog_66_method_5_57 : decode prog_66_method_5_code 57 = .ok (.istore_n 2, 1) := by decide +kernel
theorem d_prog_66_method_5_58 : decode prog_66_method_5_code 58 = .ok (.iload_n 2, 1) := by decide +kernel
theorem d_prog_66_method_5_59 : decode prog_66_method_5_code 59 = .ok (.aload_n 0, 1) := by decide +kernel
theorem d_prog_66_method_5_60 : decode prog_66_method_5_code 60 = .ok (.getfield 10, 3) := by decide +kernel
theorem d_prog_66_method_5_63 : decode prog_66_method_5_code 63 = .ok (.arraylength, 1) := by decide +kernel
theorem d_prog_66_method_5_64 : decode prog_66_method_5_code 64 = .ok (.if_icmp .ge 31, 3) := by decide +kernel
theorem d_prog_66_method_5_95 : decode prog_66_method_5_code 95 = .ok (.iload_n 1, 1) := by decide +kernel
theorem ef_q0 (m : MethodId) (thisq0 : Addr) : entryFrame m #[(.ref thisq0)] 3 = mkF m 0 #[.val (.ref thisq0), .unset, .unset] [] := by first | (simp [entryFrame, mkF, argsToLocals, Value.category]; done) | rfl
def Q_q0 (Z : State) (thisq0 : Addr) (uq0 : Addr) (h0 : Heap) (n0 : Nat) (v : Option Value) (h : Heap) (L : List Loc) : Prop := v = some (.int (1 : Int32)) ∧ Fr n0 L ∧ h = h0
theorem d_prog_66_method_5_96 : decode prog_66_method_5_code 96 = .ok (.ireturn, 1) := by decide +kernel
abbrev mt18 : MethodName := ⟨"com/example/tightbit/tightbit/SparseDocIds$Complement", "runCount", "()I"⟩
set_option maxRecDepth 65536 in
set_option maxHeartbeats 40000000 in
theorem rm_q0 (l : Launch) (Z : State) (a0 : Array Value) (hw : ∀ d ∈ tables_1, d.before a0 Z = true) (ws : List Jvm.Cond) (thisq0 : Addr) (uq0 : Addr) (h0 : Heap) (n0 : Nat) (Z0 : n0 ≤ h0.size) (F_thisq0_missing : Fld Z h0 thisq0 "com/example/tightbit/tightbit/SparseDocIds$Complement" "missing" "[C" (.ref uq0)) (V_uq0 : Al Z h0 uq0 .char []) :
    MetFree l mt18 (head1 (Jvm.Cond.code mt18 prog_66_method_5_code 3 (some .int) :: ws) ({ frames := 0, cells := 0, slots := 0, locals := 0 } : Room)) (fun a U => a = #[(.ref thisq0)] ∧ Z.Warmed39 U.vm ∧ U.heap = h0) (fun _ _ _ _ _ => True) (fun _ U o U' => ∃ v L, o = .returned v ∧ (Q_q0 Z thisq0 uq0 h0 n0) v U'.heap L ∧ FrameEnd U o U' L ({ frames := 0, cells := 0, slots := 0, locals := 0 } : Room).cells ({ frames := 0, cells := 0, slots := 0, locals := 0 } : Room).slots) := by
  refine MetFree.of_bodySF (plainFor_of_name pn7) hisR ?_
  intro p e s m args below meth c s₁ Bd hml0 hP hK
  obtain ⟨rfl, hZ, hh⟩ := hP
  have hx := Bd.exec
  have hby := Bd.bytes
  have hml : c.maxLocals = 3 := hml0
  have hown : s.vm.findClass "com/example/tightbit/tightbit/SparseDocIds$Complement" = some m.cls := findClass_of_methodNamed Bd.named
  have hnm := (name_of_methodNamed Bd.named Bd.method).1
  have X0 : Stand p l e ({ frames := 0, cells := 0, slots := 0, locals := 0 } : Room) s m #[(.ref thisq0)] below meth c s₁ [] 0 0 := Stand.of_body Bd
  have e0 : s₁.heap = h0 := by rw [← hh, Bd.state]; rfl
  have N0 := Fr.nil n0
  refine Wq.step (p := p) (e := e) (below := below) (En := (fun o t L => FrameEnd s o t L ({ frames := 0, cells := 0, slots := 0, locals := 0 } : Room).cells ({ frames := 0, cells := 0, slots := 0, locals := 0 } : Room).slots)) (Q := (Q_q0 Z thisq0 uq0 h0 n0)) (fun t k => castTop (ef_q0 m thisq0) k) ?_
  show Wq _ _ _ _ _ (s₁.setTop (mkF m 0 #[.val (.ref thisq0), .unset, .unset] []))
  refine Ow.aloadN X0 hx (pc' := 1) (hb hby d_prog_66_method_5_0) rfl rfl ?_
  obtain ⟨T57, X57, e57, st57⟩ := getF X0 hx hZ hown (host := "") (Or.inl (kw74 hw)) Via.refl e0 F_thisq0_missing (g := (mkF m 1 #[.val (.ref thisq0), .unset, .unset] [(.ref thisq0)])) rfl rfl (hb hby d_prog_66_method_5_1)
  refine Wq.step st57 ?_
  show Wq _ _ _ _ _ (T57.setTop (mkF m 4 #[.val (.ref thisq0), .unset, .unset] [(.ref uq0)]))
  refine Ow.lenA X57 hx hZ e57 V_uq0 (pc' := 5) (hb hby d_prog_66_method_5_4) (n := (0 : Int32)) (rfl) ?_
  refine Ow.iconst X57 hx (pc' := 6) (hb hby d_prog_66_method_5_5) (z := (1 : Int32)) rfl ?_
  refine Ow.iadd X57 hx (pc' := 7) (hb hby d_prog_66_method_5_6) (z := (1 : Int32)) rfl ?_
  refine Ow.istoreN X57 hx (pc' := 8) (hb hby d_prog_66_method_5_7) (l' := #[.val (.ref thisq0), .val (.int (1 : Int32)), .unset]) rfl ?_
  refine Ow.aloadN X57 hx (pc' := 9) (hb hby d_prog_66_method_5_8) rfl rfl ?_
  obtain ⟨T58, X58, e58, st58⟩ := getF X57 hx hZ hown (host := "") (Or.inl (kw74 hw)) Via.refl e57 F_thisq0_missing (g := (mkF m 9 #[.val (.ref thisq0), .val (.int (1 : Int32)), .unset] [(.ref thisq0)])) rfl rfl (hb hby d_prog_66_method_5_9)
  refine Wq.step st58 ?_
  show Wq _ _ _ _ _ (T58.setTop (mkF m 12 #[.val (.ref thisq0), .val (.int (1 : Int32)), .unset] [(.ref uq0)]))
  refine Ow.lenA X58 hx hZ e58 V_uq0 (pc' := 13) (hb hby d_prog_66_method_5_12) (n := (0 : Int32)) (rfl) ?_
  refine Ow.ifYes X58 hx (pc' := 28) (hb hby d_prog_66_method_5_13) ((if0 _ _).trans (flt (by decide : ¬ ((0 : Int32) < (0 : Int32)))).2.2.2) (by decide) (by decide) ?_
  refine Ow.aloadN X58 hx (pc' := 29) (hb hby d_prog_66_method_5_28) rfl rfl ?_
  obtain ⟨T59, X59, e59, st59⟩ := getF X58 hx hZ hown (host := "") (Or.inl (kw74 hw)) Via.refl e58 F_thisq0_missing (g := (mkF m 29 #[.val (.ref thisq0), .val (.int (1 : Int32)), .unset] [(.ref thisq0)])) rfl rfl (hb hby d_prog_66_method_5_29)
  refine Wq.step st59 ?_
  show Wq _ _ _ _ _ (T59.setTop (mkF m 32 #[.val (.ref thisq0), .val (.int (1 : Int32)), .unset] [(.ref uq0)]))
  refine Ow.lenA X59 hx hZ e59 V_uq0 (pc' := 33) (hb hby d_prog_66_method_5_32) (n := (0 : Int32)) (rfl) ?_
  refine Ow.ifYes X59 hx (pc' := 56) (hb hby d_prog_66_method_5_33) ((if0 _ _).trans (flt (by decide : ¬ ((0 : Int32) < (0 : Int32)))).2.2.2) (by decide) (by decide) ?_
  refine Ow.iconst X59 hx (pc' := 57) (hb hby d_prog_66_method_5_56) (z := (1 : Int32)) rfl ?_
  refine Ow.istoreN X59 hx (pc' := 58) (hb hby d_prog_66_method_5_57) (l' := #[.val (.ref thisq0), .val (.int (1 : Int32)), .val (.int (1 : Int32))]) rfl ?_
  refine Ow.iloadN X59 hx (pc' := 59) (hb hby d_prog_66_method_5_58) rfl ?_
  refine Ow.aloadN X59 hx (pc' := 60) (hb hby d_prog_66_method_5_59) rfl rfl ?_
  obtain ⟨T60, X60, e60, st60⟩ := getF X59 hx hZ hown (host := "") (Or.inl (kw74 hw)) Via.refl e59 F_thisq0_missing (g := (mkF m 60 #[.val (.ref thisq0), .val (.int (1 : Int32)), .val (.int (1 : Int32))] [(.ref thisq0), (.int (1 : Int32))])) rfl rfl (hb hby d_prog_66_method_5_60)
  refine Wq.step st60 ?_
  show Wq _ _ _ _ _ (T60.setTop (mkF m 63 #[.val (.ref thisq0), .val (.int (1 : Int32)), .val (.int (1 : Int32))] [(.ref uq0), (.int (1 : Int32))]))
  refine Ow.lenA X60 hx hZ e60 V_uq0 (pc' := 64) (hb hby d_prog_66_method_5_63) (n := (0 : Int32)) (rfl) ?_
  refine Ow.icmpYes X60 hx (pc' := 95) (hb hby d_prog_66_method_5_64) (flt (by decide : ¬ ((1 : Int32) < (0 : Int32)))).2.1 (by decide) (by decide) ?_
  refine Ow.iloadN X60 hx (pc' := 96) (hb hby d_prog_66_method_5_95) rfl ?_
  exact Wq.ret X60 (BodyLoose.notSynchronized Bd) (rv := some (.int (1 : Int32))) (fun h => by rw [Bd.returns] at h; cases h) (fun _ hr => retOut X60 hx Bd.returns rfl (Or.inl ⟨rfl, Or.inl rfl, _, rfl⟩) (hb hby d_prog_66_method_5_96) hr) (by decide) (by decide) ⟨rfl, N0, e60⟩
theorem kw102 {Z : State} {a0 : Array Value} (hw : ∀ d ∈ tables_1, d.before a0 Z = true) : (Jvm.Cond.constant "com/example/tightbit/tightbit/SparseDocIds$Complement" (30 : Nat) (65535 : Int32)).before a0 Z = true := hw _ (List.mem_of_getElem? (i := 102) rfl)
theorem d_prog_66_method_5_16 : decode prog_66_method_5_code 16 = .ok (.aload_n 0, 1) := by decide +kernel
theorem d_prog_66_method_5_17 : decode prog_66_method_5_code 17 = .ok (.getfield 10, 3) := by decide +kernel
theorem d_prog_66_method_5_20 : decode prog_66_method_5_code 20 = .ok (.iconst 0, 1) := by decide +kernel
theorem d_prog_66_method_5_21 : decode prog_66_method_5_code 21 = .ok (.caload, 1) := by decide +kernel
theorem d_prog_66_method_5_22 : decode prog_66_method_5_code 22 = .ok (.ifCond .ne 6, 3) := by decide +kernel
theorem d_prog_66_method_5_25 : decode prog_66_method_5_code 25 = .ok (.iinc 1 (-1), 3) := by decide +kernel
theorem d_prog_66_method_5_36 : decode prog_66_method_5_code 36 = .ok (.aload_n 0, 1) := by decide +kernel
theorem d_prog_66_method_5_37 : decode prog_66_method_5_code 37 = .ok (.getfield 10, 3) := by decide +kernel
theorem d_prog_66_method_5_40 : decode prog_66_method_5_code 40 = .ok (.aload_n 0, 1) := by decide +kernel
theorem d_prog_66_method_5_41 : decode prog_66_method_5_code 41 = .ok (.getfield 10, 3) := by decide +kernel
theorem d_prog_66_method_5_44 : decode prog_66_method_5_code 44 = .ok (.arraylength, 1) := by decide +kernel
theorem d_prog_66_method_5_45 : decode prog_66_method_5_code 45 = .ok (.iconst 1, 1) := by decide +kernel
theorem d_prog_66_method_5_46 : decode prog_66_method_5_code 46 = .ok (.isub, 1) := by decide +kernel
theorem d_prog_66_method_5_47 : decode prog_66_method_5_code 47 = .ok (.caload, 1) := by decide +kernel
theorem d_prog_66_method_5_48 : decode prog_66_method_5_code 48 = .ok (.ldc 30, 2) := by decide +kernel
theorem d_prog_66_method_5_50 : decode prog_66_method_5_code 50 = .ok (.if_icmp .ne 6, 3) := by decide +kernel
theorem d_prog_66_method_5_53 : decode prog_66_method_5_code 53 = .ok (.iinc 1 (-1), 3) := by decide +kernel
theorem ef_q1 (m : MethodId) (thisq1 : Addr) : entryFrame m #[(.ref thisq1)] 3 = mkF m 0 #[.val (.ref thisq1), .unset, .unset] [] := by first | (simp [entryFrame, mkF, argsToLocals, Value.category]; done) | rfl
def f_q1 (m0q1 : Int32) : Int32 := (if m0q1 = (65535 : Int32) then ((if m0q1 = (0 : Int32) then (1 : Int32) else (2 : Int32)) + (-1 : Int32)) else (if m0q1 = (0 : Int32) then (1 : Int32) else (2 : Int32)))
def Q_q1 (Z : State) (thisq1 : Addr) (uq1 : Addr) (m0q1 : Int32) (h0 : Heap) (n0 : Nat) (v : Option Value) (h : Heap) (L : List Loc) : Prop := v = some (.int (f_q1 m0q1)) ∧ Fr n0 L ∧ h = h0
set_option maxRecDepth 65536 in
set_option maxHeartbeats 40000000 in
theorem rm_q1 (l : Launch) (Z : State) (a0 : Array Value) (hw : ∀ d ∈ tables_1, d.before a0 Z = true) (ws : List Jvm.Cond) (thisq1 : Addr) (uq1 : Addr) (m0q1 : Int32) (h0 : Heap) (n0 : Nat) (Z0 : n0 ≤ h0.size) (F_thisq1_missing : Fld Z h0 thisq1 "com/example/tightbit/tightbit/SparseDocIds$Complement" "missing" "[C" (.ref uq1)) (V_uq1 : Al Z h0 uq1 .char [(.int m0q1)]) :
    MetFree l mt18 (head1 (Jvm.Cond.code mt18 prog_66_method_5_code 3 (some .int) :: ws) ({ frames := 0, cells := 0, slots := 0, locals := 0 } : Room)) (fun a U => a = #[(.ref thisq1)] ∧ Z.Warmed39 U.vm ∧ U.heap = h0) (fun _ _ _ _ _ => True) (fun _ U o U' => ∃ v L, o = .returned v ∧ (Q_q1 Z thisq1 uq1 m0q1 h0 n0) v U'.heap L ∧ FrameEnd U o U' L ({ frames := 0, cells := 0, slots := 0, locals := 0 } : Room).cells ({ frames := 0, cells := 0, slots := 0, locals := 0 } : Room).slots) := by
  refine MetFree.of_bodySF (plainFor_of_name pn7) hisR ?_
  intro p e s m args below meth c s₁ Bd hml0 hP hK
  obtain ⟨rfl, hZ, hh⟩ := hP
  have hx := Bd.exec
  have hby := Bd.bytes
  have hml : c.maxLocals = 3 := hml0
  have hown : s.vm.findClass "com/example/tightbit/tightbit/SparseDocIds$Complement" = some m.cls := findClass_of_methodNamed Bd.named
  have hnm := (name_of_methodNamed Bd.named Bd.method).1
  have X0 : Stand p l e ({ frames := 0, cells := 0, slots := 0, locals := 0 } : Room) s m #[(.ref thisq1)] below meth c s₁ [] 0 0 := Stand.of_body Bd
  have e0 : s₁.heap = h0 := by rw [← hh, Bd.state]; rfl
  have N0 := Fr.nil n0
  refine Wq.step (p := p) (e := e) (below := below) (En := (fun o t L => FrameEnd s o t L ({ frames := 0, cells := 0, slots := 0, locals := 0 } : Room).cells ({ frames := 0, cells := 0, slots := 0, locals := 0 } : Room).slots)) (Q := (Q_q1 Z thisq1 uq1 m0q1 h0 n0)) (fun t k => castTop (ef_q1 m thisq1) k) ?_
  show Wq _ _ _ _ _ (s₁.setTop (mkF m 0 #[.val (.ref thisq1), .unset, .unset] []))
  refine Ow.aloadN X0 hx (pc' := 1) (hb hby d_prog_66_method_5_0) rfl rfl ?_
  obtain ⟨T61, X61, e61, st61⟩ := getF X0 hx hZ hown (host := "") (Or.inl (kw74 hw)) Via.refl e0 F_thisq1_missing (g := (mkF m 1 #[.val (.ref thisq1), .unset, .unset] [(.ref thisq1)])) rfl rfl (hb hby d_prog_66_method_5_1)
  refine Wq.step st61 ?_
  show Wq _ _ _ _ _ (T61.setTop (mkF m 4 #[.val (.ref thisq1), .unset, .unset] [(.ref uq1)]))
  refine Ow.lenA X61 hx hZ e61 V_uq1 (pc' := 5) (hb hby d_prog_66_method_5_4) (n := (1 : Int32)) (rfl) ?_
  refine Ow.iconst X61 hx (pc' := 6) (hb hby d_prog_66_method_5_5) (z := (1 : Int32)) rfl ?_
  refine Ow.iadd X61 hx (pc' := 7) (hb hby d_prog_66_method_5_6) (z := (2 : Int32)) rfl ?_
  refine Ow.istoreN X61 hx (pc' := 8) (hb hby d_prog_66_method_5_7) (l' := #[.val (.ref thisq1), .val (.int (2 : Int32)), .unset]) rfl ?_
  refine Ow.aloadN X61 hx (pc' := 9) (hb hby d_prog_66_method_5_8) rfl rfl ?_
  obtain ⟨T62, X62, e62, st62⟩ := getF X61 hx hZ hown (host := "") (Or.inl (kw74 hw)) Via.refl e61 F_thisq1_missing (g := (mkF m 9 #[.val (.ref thisq1), .val (.int (2 : Int32)), .unset] [(.ref thisq1)])) rfl rfl (hb hby d_prog_66_method_5_9)
  refine Wq.step st62 ?_
  show Wq _ _ _ _ _ (T62.setTop (mkF m 12 #[.val (.ref thisq1), .val (.int (2 : Int32)), .unset] [(.ref uq1)]))
  refine Ow.lenA X62 hx hZ e62 V_uq1 (pc' := 13) (hb hby d_prog_66_method_5_12) (n := (1 : Int32)) (rfl) ?_
  refine Ow.ifNo X62 hx (pc' := 16) (hb hby d_prog_66_method_5_13) ((if0 _ _).trans (tlt (by decide : (0 : Int32) < (1 : Int32))).2.2.2) ?_
  refine Ow.aloadN X62 hx (pc' := 17) (hb hby d_prog_66_method_5_16) rfl rfl ?_
  obtain ⟨T63, X63, e63, st63⟩ := getF X62 hx hZ hown (host := "") (Or.inl (kw74 hw)) Via.refl e62 F_thisq1_missing (g := (mkF m 17 #[.val (.ref thisq1), .val (.int (2 : Int32)), .unset] [(.ref thisq1)])) rfl rfl (hb hby d_prog_66_method_5_17)
  refine Wq.step st63 ?_
  show Wq _ _ _ _ _ (T63.setTop (mkF m 20 #[.val (.ref thisq1), .val (.int (2 : Int32)), .unset] [(.ref uq1)]))
  refine Ow.iconst X63 hx (pc' := 21) (hb hby d_prog_66_method_5_20) (z := (0 : Int32)) rfl ?_
  refine Ow.ldC X63 hx hZ e63 V_uq1 (pc' := 22) (hb hby d_prog_66_method_5_21) (j := (0 : Int32)) (i := 0) (v := (.int m0q1)) (by decide) rfl rfl ?_
  refine Wq.by (U' := T63.setTop (mkF m 28 #[.val (.ref thisq1), .val (.int (if m0q1 = (0 : Int32) then (1 : Int32) else (2 : Int32))), .unset] [])) (fun k => ?_) ?_
  · skip
    by_cases hm22 : m0q1 = (0 : Int32)
    · skip
      refine Ow.ifNo X63 hx (pc' := 25) (hb hby d_prog_66_method_5_22) ((if0 _ _).trans (teq hm22).2) ?_
      refine Ow.iinc X63 hx (pc' := 28) (hb hby d_prog_66_method_5_25) rfl (l' := #[.val (.ref thisq1), .val (.int (1 : Int32)), .unset]) rfl ?_
      simp only [if_pos hm22] at k
      exact k
    · skip
      refine Ow.ifYes X63 hx (pc' := 28) (hb hby d_prog_66_method_5_22) ((if0 _ _).trans (feq hm22).2) (by decide) (by decide) ?_
      simp only [if_neg hm22] at k
      exact k
  refine Ow.aloadN X63 hx (pc' := 29) (hb hby d_prog_66_method_5_28) rfl rfl ?_
  obtain ⟨T64, X64, e64, st64⟩ := getF X63 hx hZ hown (host := "") (Or.inl (kw74 hw)) Via.refl e63 F_thisq1_missing (g := (mkF m 29 #[.val (.ref thisq1), .val (.int (if m0q1 = (0 : Int32) then (1 : Int32) else (2 : Int32))), .unset] [(.ref thisq1)])) rfl rfl (hb hby d_prog_66_method_5_29)
  refine Wq.step st64 ?_
  show Wq _ _ _ _ _ (T64.setTop (mkF m 32 #[.val (.ref thisq1), .val (.int (if m0q1 = (0 : Int32) then (1 : Int32) else (2 : Int32))), .unset] [(.ref uq1)]))
  refine Ow.lenA X64 hx hZ e64 V_uq1 (pc' := 33) (hb hby d_prog_66_method_5_32) (n := (1 : Int32)) (rfl) ?_
  refine Ow.ifNo X64 hx (pc' := 36) (hb hby d_prog_66_method_5_33) ((if0 _ _).trans (tlt (by decide : (0 : Int32) < (1 : Int32))).2.2.2) ?_
  refine Ow.aloadN X64 hx (pc' := 37) (hb hby d_prog_66_method_5_36) rfl rfl ?_
  obtain ⟨T65, X65, e65, st65⟩ := getF X64 hx hZ hown (host := "") (Or.inl (kw74 hw)) Via.refl e64 F_thisq1_missing (g := (mkF m 37 #[.val (.ref thisq1), .val (.int (if m0q1 = (0 : Int32) then (1 : Int32) else (2 : Int32))), .unset] [(.ref thisq1)])) rfl rfl (hb hby d_prog_66_method_5_37)
  refine Wq.step st65 ?_
  show Wq _ _ _ _ _ (T65.setTop (mkF m 40 #[.val (.ref thisq1), .val (.int (if m0q1 = (0 : Int32) then (1 : Int32) else (2 : Int32))), .unset] [(.ref uq1)]))
  refine Ow.aloadN X65 hx (pc' := 41) (hb hby d_prog_66_method_5_40) rfl rfl ?_
  obtain ⟨T66, X66, e66, st66⟩ := getF X65 hx hZ hown (host := "") (Or.inl (kw74 hw)) Via.refl e65 F_thisq1_missing (g := (mkF m 41 #[.val (.ref thisq1), .val (.int (if m0q1 = (0 : Int32) then (1 : Int32) else (2 : Int32))), .unset] [(.ref thisq1), (.ref uq1)])) rfl rfl (hb hby d_prog_66_method_5_41)
  refine Wq.step st66 ?_
  show Wq _ _ _ _ _ (T66.setTop (mkF m 44 #[.val (.ref thisq1), .val (.int (if m0q1 = (0 : Int32) then (1 : Int32) else (2 : Int32))), .unset] [(.ref uq1), (.ref uq1)]))
  refine Ow.lenA X66 hx hZ e66 V_uq1 (pc' := 45) (hb hby d_prog_66_method_5_44) (n := (1 : Int32)) (rfl) ?_
  refine Ow.iconst X66 hx (pc' := 46) (hb hby d_prog_66_method_5_45) (z := (1 : Int32)) rfl ?_
  refine Ow.isub X66 hx (pc' := 47) (hb hby d_prog_66_method_5_46) (z := (0 : Int32)) rfl ?_
  refine Ow.ldC X66 hx hZ e66 V_uq1 (pc' := 48) (hb hby d_prog_66_method_5_47) (j := (0 : Int32)) (i := 0) (v := (.int m0q1)) (by decide) rfl rfl ?_
  refine Ow.ldcInt X66 hx hZ (pc' := 50) hown (kw102 hw) (hb hby d_prog_66_method_5_48) ?_
  refine Wq.by (U' := T66.setTop (mkF m 56 #[.val (.ref thisq1), .val (.int (if m0q1 = (65535 : Int32) then ((if m0q1 = (0 : Int32) then (1 : Int32) else (2 : Int32)) + (-1 : Int32)) else (if m0q1 = (0 : Int32) then (1 : Int32) else (2 : Int32)))), .unset] [])) (fun k => ?_) ?_
  · skip
    by_cases hm50 : m0q1 = (65535 : Int32)
    · skip
      refine Ow.icmpNo X66 hx (pc' := 53) (hb hby d_prog_66_method_5_50) (teq hm50).2 ?_
      refine Ow.iinc X66 hx (pc' := 56) (hb hby d_prog_66_method_5_53) rfl (l' := #[.val (.ref thisq1), .val (.int ((if m0q1 = (0 : Int32) then (1 : Int32) else (2 : Int32)) + (-1 : Int32))), .unset]) rfl ?_
      simp only [if_pos hm50] at k
      exact k
    · skip
      refine Ow.icmpYes X66 hx (pc' := 56) (hb hby d_prog_66_method_5_50) (feq hm50).2 (by decide) (by decide) ?_
      simp only [if_neg hm50] at k
      exact k
  refine Ow.iconst X66 hx (pc' := 57) (hb hby d_prog_66_method_5_56) (z := (1 : Int32)) rfl ?_
  refine Ow.istoreN X66 hx (pc' := 58) (hb hby d_prog_66_method_5_57) (l' := #[.val (.ref thisq1), .val (.int (if m0q1 = (65535 : Int32) then ((if m0q1 = (0 : Int32) then (1 : Int32) else (2 : Int32)) + (-1 : Int32)) else (if m0q1 = (0 : Int32) then (1 : Int32) else (2 : Int32)))), .val (.int (1 : Int32))]) rfl ?_
  refine Ow.iloadN X66 hx (pc' := 59) (hb hby d_prog_66_method_5_58) rfl ?_
  refine Ow.aloadN X66 hx (pc' := 60) (hb hby d_prog_66_method_5_59) rfl rfl ?_
  obtain ⟨T67, X67, e67, st67⟩ := getF X66 hx hZ hown (host := "") (Or.inl (kw74 hw)) Via.refl e66 F_thisq1_missing (g := (mkF m 60 #[.val (.ref thisq1), .val (.int (if m0q1 = (65535 : Int32) then ((if m0q1 = (0 : Int32) then (1 : Int32) else (2 : Int32)) + (-1 : Int32)) else (if m0q1 = (0 : Int32) then (1 : Int32) else (2 : Int32)))), .val (.int (1 : Int32))] [(.ref thisq1), (.int (1 : Int32))])) rfl rfl (hb hby d_prog_66_method_5_60)
  refine Wq.step st67 ?_
  show Wq _ _ _ _ _ (T67.setTop (mkF m 63 #[.val (.ref thisq1), .val (.int (if m0q1 = (65535 : Int32) then ((if m0q1 = (0 : Int32) then (1 : Int32) else (2 : Int32)) + (-1 : Int32)) else (if m0q1 = (0 : Int32) then (1 : Int32) else (2 : Int32)))), .val (.int (1 : Int32))] [(.ref uq1), (.int (1 : Int32))]))
  refine Ow.lenA X67 hx hZ e67 V_uq1 (pc' := 64) (hb hby d_prog_66_method_5_63) (n := (1 : Int32)) (rfl) ?_
  refine Ow.icmpYes X67 hx (pc' := 95) (hb hby d_prog_66_method_5_64) (flt (by decide : ¬ ((1 : Int32) < (1 : Int32)))).2.1 (by decide) (by decide) ?_
  refine Ow.iloadN X67 hx (pc' := 96) (hb hby d_prog_66_method_5_95) rfl ?_
  exact Wq.ret X67 (BodyLoose.notSynchronized Bd) (rv := some (.int (if m0q1 = (65535 : Int32) then ((if m0q1 = (0 : Int32) then (1 : Int32) else (2 : Int32)) + (-1 : Int32)) else (if m0q1 = (0 : Int32) then (1 : Int32) else (2 : Int32))))) (fun h => by rw [Bd.returns] at h; cases h) (fun _ hr => retOut X67 hx Bd.returns rfl (Or.inl ⟨rfl, Or.inl rfl, _, rfl⟩) (hb hby d_prog_66_method_5_96) hr) (by decide) (by decide) ⟨rfl, N0, e67⟩
theorem d_prog_66_method_5_67 : decode prog_66_method_5_code 67 = .ok (.aload_n 0, 1) := by decide +kernel
theorem d_prog_66_method_5_68 : decode prog_66_method_5_code 68 = .ok (.getfield 10, 3) := by decide +kernel
theorem d_prog_66_method_5_71 : decode prog_66_method_5_code 71 = .ok (.iload_n 2, 1) := by decide +kernel
theorem d_prog_66_method_5_72 : decode prog_66_method_5_code 72 = .ok (.caload, 1) := by decide +kernel
theorem d_prog_66_method_5_73 : decode prog_66_method_5_code 73 = .ok (.aload_n 0, 1) := by decide +kernel
theorem d_prog_66_method_5_74 : decode prog_66_method_5_code 74 = .ok (.getfield 10, 3) := by decide +kernel
theorem d_prog_66_method_5_77 : decode prog_66_method_5_code 77 = .ok (.iload_n 2, 1) := by decide +kernel
theorem d_prog_66_method_5_78 : decode prog_66_method_5_code 78 = .ok (.iconst 1, 1) := by decide +kernel
theorem d_prog_66_method_5_79 : decode prog_66_method_5_code 79 = .ok (.isub, 1) := by decide +kernel
theorem d_prog_66_method_5_80 : decode prog_66_method_5_code 80 = .ok (.caload, 1) := by decide +kernel
theorem d_prog_66_method_5_81 : decode prog_66_method_5_code 81 = .ok (.iconst 1, 1) := by decide +kernel
theorem d_prog_66_method_5_82 : decode prog_66_method_5_code 82 = .ok (.iadd, 1) := by decide +kernel
theorem d_prog_66_method_5_83 : decode prog_66_method_5_code 83 = .ok (.if_icmp .ne 6, 3) := by decide +kernel
theorem d_prog_66_method_5_86 : decode prog_66_method_5_code 86 = .ok (.iinc 1 (-1), 3) := by decide +kernel
theorem d_prog_66_method_5_89 : decode prog_66_method_5_code 89 = .ok (.iinc 2 1, 3) := by decide +kernel
theorem d_prog_66_method_5_92 : decode prog_66_method_5_code 92 = .ok (.goto (-34), 3) := by decide +kernel
theorem ef_q2 (m : MethodId) (thisq2 : Addr) : entryFrame m #[(.ref thisq2)] 3 = mkF m 0 #[.val (.ref thisq2), .unset, .unset] [] := by first | (simp [entryFrame, mkF, argsToLocals, Value.category]; done) | rfl
def f_q2 (m0q2 : Int32) (m1q2 : Int32) : Int32 := (if m1q2 = (m0q2 + (1 : Int32)) then ((if m1q2 = (65535 : Int32) then ((if m0q2 = (0 : Int32) then (2 : Int32) else (3 : Int32)) + (-1 : Int32)) else (if m0q2 = (0 : Int32) then (2 : Int32) else (3 : Int32))) + (-1 : Int32)) else (if m1q2 = (65535 : Int32) then ((if m0q2 = (0 : Int32) then (2 : Int32) else (3 : Int32)) + (-1 : Int32)) else (if m0q2 = (0 : Int32) then (2 : Int32) else (3 : Int32))))
def Q_q2 (Z : State) (thisq2 : Addr) (uq2 : Addr) (m0q2 : Int32) (m1q2 : Int32) (h0 : Heap) (n0 : Nat) (v : Option Value) (h : Heap) (L : List Loc) : Prop := v = some (.int (f_q2 m0q2 m1q2)) ∧ Fr n0 L ∧ h = h0
set_option maxRecDepth 65536 in
set_option maxHeartbeats 40000000 in
theorem rm_q2 (l : Launch) (Z : State) (a0 : Array Value) (hw : ∀ d ∈ tables_1, d.before a0 Z = true) (ws : List Jvm.Cond) (thisq2 : Addr) (uq2 : Addr) (m0q2 : Int32) (m1q2 : Int32) (h0 : Heap) (n0 : Nat) (Z0 : n0 ≤ h0.size) (F_thisq2_missing : Fld Z h0 thisq2 "com/example/tightbit/tightbit/SparseDocIds$Complement" "missing" "[C" (.ref uq2)) (V_uq2 : Al Z h0 uq2 .char [(.int m0q2), (.int m1q2)]) :
    MetFree l mt18 (head1 (Jvm.Cond.code mt18 prog_66_method_5_code 3 (some .int) :: ws) ({ frames := 0, cells := 0, slots := 0, locals := 0 } : Room)) (fun a U => a = #[(.ref thisq2)] ∧ Z.Warmed39 U.vm ∧ U.heap = h0) (fun _ _ _ _ _ => True) (fun _ U o U' => ∃ v L, o = .returned v ∧ (Q_q2 Z thisq2 uq2 m0q2 m1q2 h0 n0) v U'.heap L ∧ FrameEnd U o U' L ({ frames := 0, cells := 0, slots := 0, locals := 0 } : Room).cells ({ frames := 0, cells := 0, slots := 0, locals := 0 } : Room).slots) := by
  refine MetFree.of_bodySF (plainFor_of_name pn7) hisR ?_
  intro p e s m args below meth c s₁ Bd hml0 hP hK
  obtain ⟨rfl, hZ, hh⟩ := hP
  have hx := Bd.exec
  have hby := Bd.bytes
  have hml : c.maxLocals = 3 := hml0
  have hown : s.vm.findClass "com/example/tightbit/tightbit/SparseDocIds$Complement" = some m.cls := findClass_of_methodNamed Bd.named
  have hnm := (name_of_methodNamed Bd.named Bd.method).1
  have X0 : Stand p l e ({ frames := 0, cells := 0, slots := 0, locals := 0 } : Room) s m #[(.ref thisq2)] below meth c s₁ [] 0 0 := Stand.of_body Bd
  have e0 : s₁.heap = h0 := by rw [← hh, Bd.state]; rfl
  have N0 := Fr.nil n0
  refine Wq.step (p := p) (e := e) (below := below) (En := (fun o t L => FrameEnd s o t L ({ frames := 0, cells := 0, slots := 0, locals := 0 } : Room).cells ({ frames := 0, cells := 0, slots := 0, locals := 0 } : Room).slots)) (Q := (Q_q2 Z thisq2 uq2 m0q2 m1q2 h0 n0)) (fun t k => castTop (ef_q2 m thisq2) k) ?_
  show Wq _ _ _ _ _ (s₁.setTop (mkF m 0 #[.val (.ref thisq2), .unset, .unset] []))
  refine Ow.aloadN X0 hx (pc' := 1) (hb hby d_prog_66_method_5_0) rfl rfl ?_
  obtain ⟨T68, X68, e68, st68⟩ := getF X0 hx hZ hown (host := "") (Or.inl (kw74 hw)) Via.refl e0 F_thisq2_missing (g := (mkF m 1 #[.val (.ref thisq2), .unset, .unset] [(.ref thisq2)])) rfl rfl (hb hby d_prog_66_method_5_1)
  refine Wq.step st68 ?_
  show Wq _ _ _ _ _ (T68.setTop (mkF m 4 #[.val (.ref thisq2), .unset, .unset] [(.ref uq2)]))
  refine Ow.lenA X68 hx hZ e68 V_uq2 (pc' := 5) (hb hby d_prog_66_method_5_4) (n := (2 : Int32)) (rfl) ?_
  refine Ow.iconst X68 hx (pc' := 6) (hb hby d_prog_66_method_5_5) (z := (1 : Int32)) rfl ?_
  refine Ow.iadd X68 hx (pc' := 7) (hb hby d_prog_66_method_5_6) (z := (3 : Int32)) rfl ?_
  refine Ow.istoreN X68 hx (pc' := 8) (hb hby d_prog_66_method_5_7) (l' := #[.val (.ref thisq2), .val (.int (3 : Int32)), .unset]) rfl ?_
  refine Ow.aloadN X68 hx (pc' := 9) (hb hby d_prog_66_method_5_8) rfl rfl ?_
  obtain ⟨T69, X69, e69, st69⟩ := getF X68 hx hZ hown (host := "") (Or.inl (kw74 hw)) Via.refl e68 F_thisq2_missing (g := (mkF m 9 #[.val (.ref thisq2), .val (.int (3 : Int32)), .unset] [(.ref thisq2)])) rfl rfl (hb hby d_prog_66_method_5_9)
  refine Wq.step st69 ?_
  show Wq _ _ _ _ _ (T69.setTop (mkF m 12 #[.val (.ref thisq2), .val (.int (3 : Int32)), .unset] [(.ref uq2)]))
  refine Ow.lenA X69 hx hZ e69 V_uq2 (pc' := 13) (hb hby d_prog_66_method_5_12) (n := (2 : Int32)) (rfl) ?_
  refine Ow.ifNo X69 hx (pc' := 16) (hb hby d_prog_66_method_5_13) ((if0 _ _).trans (tlt (by decide : (0 : Int32) < (2 : Int32))).2.2.2) ?_
  refine Ow.aloadN X69 hx (pc' := 17) (hb hby d_prog_66_method_5_16) rfl rfl ?_
  obtain ⟨T70, X70, e70, st70⟩ := getF X69 hx hZ hown (host := "") (Or.inl (kw74 hw)) Via.refl e69 F_thisq2_missing (g := (mkF m 17 #[.val (.ref thisq2), .val (.int (3 : Int32)), .unset] [(.ref thisq2)])) rfl rfl (hb hby d_prog_66_method_5_17)
  refine Wq.step st70 ?_
  show Wq _ _ _ _ _ (T70.setTop (mkF m 20 #[.val (.ref thisq2), .val (.int (3 : Int32)), .unset] [(.ref uq2)]))
  refine Ow.iconst X70 hx (pc' := 21) (hb hby d_prog_66_method_5_20) (z := (0 : Int32)) rfl ?_
  refine Ow.ldC X70 hx hZ e70 V_uq2 (pc' := 22) (hb hby d_prog_66_method_5_21) (j := (0 : Int32)) (i := 0) (v := (.int m0q2)) (by decide) rfl rfl ?_
  refine Wq.by (U' := T70.setTop (mkF m 28 #[.val (.ref thisq2), .val (.int (if m0q2 = (0 : Int32) then (2 : Int32) else (3 : Int32))), .unset] [])) (fun k => ?_) ?_
  · skip
    by_cases hm22 : m0q2 = (0 : Int32)
    · skip
      refine Ow.ifNo X70 hx (pc' := 25) (hb hby d_prog_66_method_5_22) ((if0 _ _).trans (teq hm22).2) ?_
      refine Ow.iinc X70 hx (pc' := 28) (hb hby d_prog_66_method_5_25) rfl (l' := #[.val (.ref thisq2), .val (.int (2 : Int32)), .unset]) rfl ?_
      simp only [if_pos hm22] at k
      exact k
    · skip
      refine Ow.ifYes X70 hx (pc' := 28) (hb hby d_prog_66_method_5_22) ((if0 _ _).trans (feq hm22).2) (by decide) (by decide) ?_
      simp only [if_neg hm22] at k
      exact k
  refine Ow.aloadN X70 hx (pc' := 29) (hb hby d_prog_66_method_5_28) rfl rfl ?_
  obtain ⟨T71, X71, e71, st71⟩ := getF X70 hx hZ hown (host := "") (Or.inl (kw74 hw)) Via.refl e70 F_thisq2_missing (g := (mkF m 29 #[.val (.ref thisq2), .val (.int (if m0q2 = (0 : Int32) then (2 : Int32) else (3 : Int32))), .unset] [(.ref thisq2)])) rfl rfl (hb hby d_prog_66_method_5_29)
  refine Wq.step st71 ?_
  show Wq _ _ _ _ _ (T71.setTop (mkF m 32 #[.val (.ref thisq2), .val (.int (if m0q2 = (0 : Int32) then (2 : Int32) else (3 : Int32))), .unset] [(.ref uq2)]))
  refine Ow.lenA X71 hx hZ e71 V_uq2 (pc' := 33) (hb hby d_prog_66_method_5_32) (n := (2 : Int32)) (rfl) ?_
  refine Ow.ifNo X71 hx (pc' := 36) (hb hby d_prog_66_method_5_33) ((if0 _ _).trans (tlt (by decide : (0 : Int32) < (2 : Int32))).2.2.2) ?_
  refine Ow.aloadN X71 hx (pc' := 37) (hb hby d_prog_66_method_5_36) rfl rfl ?_
  obtain ⟨T72, X72, e72, st72⟩ := getF X71 hx hZ hown (host := "") (Or.inl (kw74 hw)) Via.refl e71 F_thisq2_missing (g := (mkF m 37 #[.val (.ref thisq2), .val (.int (if m0q2 = (0 : Int32) then (2 : Int32) else (3 : Int32))), .unset] [(.ref thisq2)])) rfl rfl (hb hby d_prog_66_method_5_37)
  refine Wq.step st72 ?_
  show Wq _ _ _ _ _ (T72.setTop (mkF m 40 #[.val (.ref thisq2), .val (.int (if m0q2 = (0 : Int32) then (2 : Int32) else (3 : Int32))), .unset] [(.ref uq2)]))
  refine Ow.aloadN X72 hx (pc' := 41) (hb hby d_prog_66_method_5_40) rfl rfl ?_
  obtain ⟨T73, X73, e73, st73⟩ := getF X72 hx hZ hown (host := "") (Or.inl (kw74 hw)) Via.refl e72 F_thisq2_missing (g := (mkF m 41 #[.val (.ref thisq2), .val (.int (if m0q2 = (0 : Int32) then (2 : Int32) else (3 : Int32))), .unset] [(.ref thisq2), (.ref uq2)])) rfl rfl (hb hby d_prog_66_method_5_41)
  refine Wq.step st73 ?_
  show Wq _ _ _ _ _ (T73.setTop (mkF m 44 #[.val (.ref thisq2), .val (.int (if m0q2 = (0 : Int32) then (2 : Int32) else (3 : Int32))), .unset] [(.ref uq2), (.ref uq2)]))
  refine Ow.lenA X73 hx hZ e73 V_uq2 (pc' := 45) (hb hby d_prog_66_method_5_44) (n := (2 : Int32)) (rfl) ?_
  refine Ow.iconst X73 hx (pc' := 46) (hb hby d_prog_66_method_5_45) (z := (1 : Int32)) rfl ?_
  refine Ow.isub X73 hx (pc' := 47) (hb hby d_prog_66_method_5_46) (z := (1 : Int32)) rfl ?_
  refine Ow.ldC X73 hx hZ e73 V_uq2 (pc' := 48) (hb hby d_prog_66_method_5_47) (j := (1 : Int32)) (i := 1) (v := (.int m1q2)) (by decide) rfl rfl ?_
  refine Ow.ldcInt X73 hx hZ (pc' := 50) hown (kw102 hw) (hb hby d_prog_66_method_5_48) ?_
  refine Wq.by (U' := T73.setTop (mkF m 56 #[.val (.ref thisq2), .val (.int (if m1q2 = (65535 : Int32) then ((if m0q2 = (0 : Int32) then (2 : Int32) else (3 : Int32)) + (-1 : Int32)) else (if m0q2 = (0 : Int32) then (2 : Int32) else (3 : Int32)))), .unset] [])) (fun k => ?_) ?_
  · skip
    by_cases hm50 : m1q2 = (65535 : Int32)
    · skip
      refine Ow.icmpNo X73 hx (pc' := 53) (hb hby d_prog_66_method_5_50) (teq hm50).2 ?_
      refine Ow.iinc X73 hx (pc' := 56) (hb hby d_prog_66_method_5_53) rfl (l' := #[.val (.ref thisq2), .val (.int ((if m0q2 = (0 : Int32) then (2 : Int32) else (3 : Int32)) + (-1 : Int32))), .unset]) rfl ?_
      simp only [if_pos hm50] at k
      exact k
    · skip
      refine Ow.icmpYes X73 hx (pc' := 56) (hb hby d_prog_66_method_5_50) (feq hm50).2 (by decide) (by decide) ?_
      simp only [if_neg hm50] at k
      exact k
  refine Ow.iconst X73 hx (pc' := 57) (hb hby d_prog_66_method_5_56) (z := (1 : Int32)) rfl ?_
  refine Ow.istoreN X73 hx (pc' := 58) (hb hby d_prog_66_method_5_57) (l' := #[.val (.ref thisq2), .val (.int (if m1q2 = (65535 : Int32) then ((if m0q2 = (0 : Int32) then (2 : Int32) else (3 : Int32)) + (-1 : Int32)) else (if m0q2 = (0 : Int32) then (2 : Int32) else (3 : Int32)))), .val (.int (1 : Int32))]) rfl ?_
  refine Ow.iloadN X73 hx (pc' := 59) (hb hby d_prog_66_method_5_58) rfl ?_
  refine Ow.aloadN X73 hx (pc' := 60) (hb hby d_prog_66_method_5_59) rfl rfl ?_
  obtain ⟨T74, X74, e74, st74⟩ := getF X73 hx hZ hown (host := "") (Or.inl (kw74 hw)) Via.refl e73 F_thisq2_missing (g := (mkF m 60 #[.val (.ref thisq2), .val (.int (if m1q2 = (65535 : Int32) then ((if m0q2 = (0 : Int32) then (2 : Int32) else (3 : Int32)) + (-1 : Int32)) else (if m0q2 = (0 : Int32) then (2 : Int32) else (3 : Int32)))), .val (.int (1 : Int32))] [(.ref thisq2), (.int (1 : Int32))])) rfl rfl (hb hby d_prog_66_method_5_60)
  refine Wq.step st74 ?_
  show Wq _ _ _ _ _ (T74.setTop (mkF m 63 #[.val (.ref thisq2), .val (.int (if m1q2 = (65535 : Int32) then ((if m0q2 = (0 : Int32) then (2 : Int32) else (3 : Int32)) + (-1 : Int32)) else (if m0q2 = (0 : Int32) then (2 : Int32) else (3 : Int32)))), .val (.int (1 : Int32))] [(.ref uq2), (.int (1 : Int32))]))
  refine Ow.lenA X74 hx hZ e74 V_uq2 (pc' := 64) (hb hby d_prog_66_method_5_63) (n := (2 : Int32)) (rfl) ?_
  refine Ow.icmpNo X74 hx (pc' := 67) (hb hby d_prog_66_method_5_64) (tlt (by decide : (1 : Int32) < (2 : Int32))).2.1 ?_
  refine Ow.aloadN X74 hx (pc' := 68) (hb hby d_prog_66_method_5_67) rfl rfl ?_
  obtain ⟨T75, X75, e75, st75⟩ := getF X74 hx hZ hown (host := "") (Or.inl (kw74 hw)) Via.refl e74 F_thisq2_missing (g := (mkF m 68 #[.val (.ref thisq2), .val (.int (if m1q2 = (65535 : Int32) then ((if m0q2 = (0 : Int32) then (2 : Int32) else (3 : Int32)) + (-1 : Int32)) else (if m0q2 = (0 : Int32) then (2 : Int32) else (3 : Int32)))), .val (.int (1 : Int32))] [(.ref thisq2)])) rfl rfl (hb hby d_prog_66_method_5_68)
  refine Wq.step st75 ?_
  show Wq _ _ _ _ _ (T75.setTop (mkF m 71 #[.val (.ref thisq2), .val (.int (if m1q2 = (65535 : Int32) then ((if m0q2 = (0 : Int32) then (2 : Int32) else (3 : Int32)) + (-1 : Int32)) else (if m0q2 = (0 : Int32) then (2 : Int32) else (3 : Int32)))), .val (.int (1 : Int32))] [(.ref uq2)]))
  refine Ow.iloadN X75 hx (pc' := 72) (hb hby d_prog_66_method_5_71) rfl ?_
  refine Ow.ldC X75 hx hZ e75 V_uq2 (pc' := 73) (hb hby d_prog_66_method_5_72) (j := (1 : Int32)) (i := 1) (v := (.int m1q2)) (by decide) rfl rfl ?_
  refine Ow.aloadN X75 hx (pc' := 74) (hb hby d_prog_66_method_5_73) rfl rfl ?_
  obtain ⟨T76, X76, e76, st76⟩ := getF X75 hx hZ hown (host := "") (Or.inl (kw74 hw)) Via.refl e75 F_thisq2_missing (g := (mkF m 74 #[.val (.ref thisq2), .val (.int (if m1q2 = (65535 : Int32) then ((if m0q2 = (0 : Int32) then (2 : Int32) else (3 : Int32)) + (-1 : Int32)) else (if m0q2 = (0 : Int32) then (2 : Int32) else (3 : Int32)))), .val (.int (1 : Int32))] [(.ref thisq2), (.int m1q2)])) rfl rfl (hb hby d_prog_66_method_5_74)
  refine Wq.step st76 ?_
  show Wq _ _ _ _ _ (T76.setTop (mkF m 77 #[.val (.ref thisq2), .val (.int (if m1q2 = (65535 : Int32) then ((if m0q2 = (0 : Int32) then (2 : Int32) else (3 : Int32)) + (-1 : Int32)) else (if m0q2 = (0 : Int32) then (2 : Int32) else (3 : Int32)))), .val (.int (1 : Int32))] [(.ref uq2), (.int m1q2)]))
  refine Ow.iloadN X76 hx (pc' := 78) (hb hby d_prog_66_method_5_77) rfl ?_
  refine Ow.iconst X76 hx (pc' := 79) (hb hby d_prog_66_method_5_78) (z := (1 : Int32)) rfl ?_
  refine Ow.isub X76 hx (pc' := 80) (hb hby d_prog_66_method_5_79) (z := (0 : Int32)) rfl ?_
  refine Ow.ldC X76 hx hZ e76 V_uq2 (pc' := 81) (hb hby d_prog_66_method_5_80) (j := (0 : Int32)) (i := 0) (v := (.int m0q2)) (by decide) rfl rfl ?_
  refine Ow.iconst X76 hx (pc' := 82) (hb hby d_prog_66_method_5_81) (z := (1 : Int32)) rfl ?_
  refine Ow.iadd X76 hx (pc' := 83) (hb hby d_prog_66_method_5_82) (z := (m0q2 + (1 : Int32))) rfl ?_
  refine Wq.by (U' := T76.setTop (mkF m 89 #[.val (.ref thisq2), .val (.int (if m1q2 = (m0q2 + (1 : Int32)) then ((if m1q2 = (65535 : Int32) then ((if m0q2 = (0 : Int32) then (2 : Int32) else (3 : Int32)) + (-1 : Int32)) else (if m0q2 = (0 : Int32) then (2 : Int32) else (3 : Int32))) + (-1 : Int32)) else (if m1q2 = (65535 : Int32) then ((if m0q2 = (0 : Int32) then (2 : Int32) else (3 : Int32)) + (-1 : Int32)) else (if m0q2 = (0 : Int32) then (2 : Int32) else (3 : Int32))))), .val (.int (1 : Int32))] [])) (fun k => ?_) ?_
  · skip
    by_cases hm83 : m1q2 = (m0q2 + (1 : Int32))
    · skip
      refine Ow.icmpNo X76 hx (pc' := 86) (hb hby d_prog_66_method_5_83) (teq hm83).2 ?_
      refine Ow.iinc X76 hx (pc' := 89) (hb hby d_prog_66_method_5_86) rfl (l' := #[.val (.ref thisq2), .val (.int ((if m1q2 = (65535 : Int32) then ((if m0q2 = (0 : Int32) then (2 : Int32) else (3 : Int32)) + (-1 : Int32)) else (if m0q2 = (0 : Int32) then (2 : Int32) else (3 : Int32))) + (-1 : Int32))), .val (.int (1 : Int32))]) rfl ?_
      simp only [if_pos hm83] at k
      exact k
    · skip
      refine Ow.icmpYes X76 hx (pc' := 89) (hb hby d_prog_66_method_5_83) (feq hm83).2 (by decide) (by decide) ?_
      simp only [if_neg hm83] at k
      exact k
  refine Ow.iinc X76 hx (pc' := 92) (hb hby d_prog_66_method_5_89) rfl (l' := #[.val (.ref thisq2), .val (.int (if m1q2 = (m0q2 + (1 : Int32)) then ((if m1q2 = (65535 : Int32) then ((if m0q2 = (0 : Int32) then (2 : Int32) else (3 : Int32)) + (-1 : Int32)) else (if m0q2 = (0 : Int32) then (2 : Int32) else (3 : Int32))) + (-1 : Int32)) else (if m1q2 = (65535 : Int32) then ((if m0q2 = (0 : Int32) then (2 : Int32) else (3 : Int32)) + (-1 : Int32)) else (if m0q2 = (0 : Int32) then (2 : Int32) else (3 : Int32))))), .val (.int (2 : Int32))]) rfl ?_
  show Wq _ _ _ _ _ (T76.setTop (mkF m 92 #[.val (.ref thisq2), .val (.int (if m1q2 = (m0q2 + (1 : Int32)) then ((if m1q2 = (65535 : Int32) then ((if m0q2 = (0 : Int32) then (2 : Int32) else (3 : Int32)) + (-1 : Int32)) else (if m0q2 = (0 : Int32) then (2 : Int32) else (3 : Int32))) + (-1 : Int32)) else (if m1q2 = (65535 : Int32) then ((if m0q2 = (0 : Int32) then (2 : Int32) else (3 : Int32)) + (-1 : Int32)) else (if m0q2 = (0 : Int32) then (2 : Int32) else (3 : Int32))))), .val (.int (2 : Int32))] []))
  refine Ow.goto X76 hx (pc' := 58) (hb hby d_prog_66_method_5_92) (by decide) (by decide) ?_
  refine Ow.iloadN X76 hx (pc' := 59) (hb hby d_prog_66_method_5_58) rfl ?_
  refine Ow.aloadN X76 hx (pc' := 60) (hb hby d_prog_66_method_5_59) rfl rfl ?_
  obtain ⟨T77, X77, e77, st77⟩ := getF X76 hx hZ hown (host := "") (Or.inl (kw74 hw)) Via.refl e76 F_thisq2_missing (g := (mkF m 60 #[.val (.ref thisq2), .val (.int (if m1q2 = (m0q2 + (1 : Int32)) then ((if m1q2 = (65535 : Int32) then ((if m0q2 = (0 : Int32) then (2 : Int32) else (3 : Int32)) + (-1 : Int32)) else (if m0q2 = (0 : Int32) then (2 : Int32) else (3 : Int32))) + (-1 : Int32)) else (if m1q2 = (65535 : Int32) then ((if m0q2 = (0 : Int32) then (2 : Int32) else (3 : Int32)) + (-1 : Int32)) else (if m0q2 = (0 : Int32) then (2 : Int32) else (3 : Int32))))), .val (.int (2 : Int32))] [(.ref thisq2), (.int (2 : Int32))])) rfl rfl (hb hby d_prog_66_method_5_60)
  refine Wq.step st77 ?_
  show Wq _ _ _ _ _ (T77.setTop (mkF m 63 #[.val (.ref thisq2), .val (.int (if m1q2 = (m0q2 + (1 : Int32)) then ((if m1q2 = (65535 : Int32) then ((if m0q2 = (0 : Int32) then (2 : Int32) else (3 : Int32)) + (-1 : Int32)) else (if m0q2 = (0 : Int32) then (2 : Int32) else (3 : Int32))) + (-1 : Int32)) else (if m1q2 = (65535 : Int32) then ((if m0q2 = (0 : Int32) then (2 : Int32) else (3 : Int32)) + (-1 : Int32)) else (if m0q2 = (0 : Int32) then (2 : Int32) else (3 : Int32))))), .val (.int (2 : Int32))] [(.ref uq2), (.int (2 : Int32))]))
  refine Ow.lenA X77 hx hZ e77 V_uq2 (pc' := 64) (hb hby d_prog_66_method_5_63) (n := (2 : Int32)) (rfl) ?_
  refine Ow.icmpYes X77 hx (pc' := 95) (hb hby d_prog_66_method_5_64) (flt (by decide : ¬ ((2 : Int32) < (2 : Int32)))).2.1 (by decide) (by decide) ?_
  refine Ow.iloadN X77 hx (pc' := 96) (hb hby d_prog_66_method_5_95) rfl ?_
  exact Wq.ret X77 (BodyLoose.notSynchronized Bd) (rv := some (.int (if m1q2 = (m0q2 + (1 : Int32)) then ((if m1q2 = (65535 : Int32) then ((if m0q2 = (0 : Int32) then (2 : Int32) else (3 : Int32)) + (-1 : Int32)) else (if m0q2 = (0 : Int32) then (2 : Int32) else (3 : Int32))) + (-1 : Int32)) else (if m1q2 = (65535 : Int32) then ((if m0q2 = (0 : Int32) then (2 : Int32) else (3 : Int32)) + (-1 : Int32)) else (if m0q2 = (0 : Int32) then (2 : Int32) else (3 : Int32)))))) (fun h => by rw [Bd.returns] at h; cases h) (fun _ hr => retOut X77 hx Bd.returns rfl (Or.inl ⟨rfl, Or.inl rfl, _, rfl⟩) (hb hby d_prog_66_method_5_96) hr) (by decide) (by decide) ⟨rfl, N0, e77⟩
theorem ef_q3 (m : MethodId) (thisq3 : Addr) : entryFrame m #[(.ref thisq3)] 3 = mkF m 0 #[.val (.ref thisq3), .unset, .unset] [] := by first | (simp [entryFrame, mkF, argsToLocals, Value.category]; done) | rfl
def f_q3 (m0q3 : Int32) (m1q3 : Int32) (m2q3 : Int32) : Int32 := (if m2q3 = (m1q3 + (1 : Int32)) then ((if m1q3 = (m0q3 + (1 : Int32)) then ((if m2q3 = (65535 : Int32) then ((if m0q3 = (0 : Int32) then (3 : Int32) else (4 : Int32)) + (-1 : Int32)) else (if m0q3 = (0 : Int32) then (3 : Int32) else (4 : Int32))) + (-1 : Int32)) else (if m2q3 = (65535 : Int32) then ((if m0q3 = (0 : Int32) then (3 : Int32) else (4 : Int32)) + (-1 : Int32)) else (if m0q3 = (0 : Int32) then (3 : Int32) else (4 : Int32)))) + (-1 : Int32)) else (if m1q3 = (m0q3 + (1 : Int32)) then ((if m2q3 = (65535 : Int32) then ((if m0q3 = (0 : Int32) then (3 : Int32) else (4 : Int32)) + (-1 : Int32)) else (if m0q3 = (0 : Int32) then (3 : Int32) else (4 : Int32))) + (-1 : Int32)) else (if m2q3 = (65535 : Int32) then ((if m0q3 = (0 : Int32) then (3 : Int32) else (4 : Int32)) + (-1 : Int32)) else (if m0q3 = (0 : Int32) then (3 : Int32) else (4 : Int32)))))
def Q_q3 (Z : State) (thisq3 : Addr) (uq3 : Addr) (m0q3 : Int32) (m1q3 : Int32) (m2q3 : Int32) (h0 : Heap) (n0 : Nat) (v : Option Value) (h : Heap) (L : List Loc) : Prop := v = some (.int (f_q3 m0q3 m1q3 m2q3)) ∧ Fr n0 L ∧ h = h0
set_option maxRecDepth 65536 in
set_option maxHeartbeats 40000000 in
theorem rm_q3 (l : Launch) (Z : State) (a0 : Array Value) (hw : ∀ d ∈ tables_1, d.before a0 Z = true) (ws : List Jvm.Cond) (thisq3 : Addr) (uq3 : Addr) (m0q3 : Int32) (m1q3 : Int32) (m2q3 : Int32) (h0 : Heap) (n0 : Nat) (Z0 : n0 ≤ h0.size) (F_thisq3_missing : Fld Z h0 thisq3 "com/example/tightbit/tightbit/SparseDocIds$Complement" "missing" "[C" (.ref uq3)) (V_uq3 : Al Z h0 uq3 .char [(.int m0q3), (.int m1q3), (.int m2q3)]) :
    MetFree l mt18 (head1 (Jvm.Cond.code mt18 prog_66_method_5_code 3 (some .int) :: ws) ({ frames := 0, cells := 0, slots := 0, locals := 0 } : Room)) (fun a U => a = #[(.ref thisq3)] ∧ Z.Warmed39 U.vm ∧ U.heap = h0) (fun _ _ _ _ _ => True) (fun _ U o U' => ∃ v L, o = .returned v ∧ (Q_q3 Z thisq3 uq3 m0q3 m1q3 m2q3 h0 n0) v U'.heap L ∧ FrameEnd U o U' L ({ frames := 0, cells := 0, slots := 0, locals := 0 } : Room).cells ({ frames := 0, cells := 0, slots := 0, locals := 0 } : Room).slots) := by
  refine MetFree.of_bodySF (plainFor_of_name pn7) hisR ?_
  intro p e s m args below meth c s₁ Bd hml0 hP hK
  obtain ⟨rfl, hZ, hh⟩ := hP
  have hx := Bd.exec
  have hby := Bd.bytes
  have hml : c.maxLocals = 3 := hml0
  have hown : s.vm.findClass "com/example/tightbit/tightbit/SparseDocIds$Complement" = some m.cls := findClass_of_methodNamed Bd.named
  have hnm := (name_of_methodNamed Bd.named Bd.method).1
  have X0 : Stand p l e ({ frames := 0, cells := 0, slots := 0, locals := 0 } : Room) s m #[(.ref thisq3)] below meth c s₁ [] 0 0 := Stand.of_body Bd
  have e0 : s₁.heap = h0 := by rw [← hh, Bd.state]; rfl
  have N0 := Fr.nil n0
  refine Wq.step (p := p) (e := e) (below := below) (En := (fun o t L => FrameEnd s o t L ({ frames := 0, cells := 0, slots := 0, locals := 0 } : Room).cells ({ frames := 0, cells := 0, slots := 0, locals := 0 } : Room).slots)) (Q := (Q_q3 Z thisq3 uq3 m0q3 m1q3 m2q3 h0 n0)) (fun t k => castTop (ef_q3 m thisq3) k) ?_
  show Wq _ _ _ _ _ (s₁.setTop (mkF m 0 #[.val (.ref thisq3), .unset, .unset] []))
  refine Ow.aloadN X0 hx (pc' := 1) (hb hby d_prog_66_method_5_0) rfl rfl ?_
  obtain ⟨T78, X78, e78, st78⟩ := getF X0 hx hZ hown (host := "") (Or.inl (kw74 hw)) Via.refl e0 F_thisq3_missing (g := (mkF m 1 #[.val (.ref thisq3), .unset, .unset] [(.ref thisq3)])) rfl rfl (hb hby d_prog_66_method_5_1)
  refine Wq.step st78 ?_
  show Wq _ _ _ _ _ (T78.setTop (mkF m 4 #[.val (.ref thisq3), .unset, .unset] [(.ref uq3)]))
  refine Ow.lenA X78 hx hZ e78 V_uq3 (pc' := 5) (hb hby d_prog_66_method_5_4) (n := (3 : Int32)) (rfl) ?_
  refine Ow.iconst X78 hx (pc' := 6) (hb hby d_prog_66_method_5_5) (z := (1 : Int32)) rfl ?_
  refine Ow.iadd X78 hx (pc' := 7) (hb hby d_prog_66_method_5_6) (z := (4 : Int32)) rfl ?_
  refine Ow.istoreN X78 hx (pc' := 8) (hb hby d_prog_66_method_5_7) (l' := #[.val (.ref thisq3), .val (.int (4 : Int32)), .unset]) rfl ?_
  refine Ow.aloadN X78 hx (pc' := 9) (hb hby d_prog_66_method_5_8) rfl rfl ?_
  obtain ⟨T79, X79, e79, st79⟩ := getF X78 hx hZ hown (host := "") (Or.inl (kw74 hw)) Via.refl e78 F_thisq3_missing (g := (mkF m 9 #[.val (.ref thisq3), .val (.int (4 : Int32)), .unset] [(.ref thisq3)])) rfl rfl (hb hby d_prog_66_method_5_9)
  refine Wq.step st79 ?_
  show Wq _ _ _ _ _ (T79.setTop (mkF m 12 #[.val (.ref thisq3), .val (.int (4 : Int32)), .unset] [(.ref uq3)]))
  refine Ow.lenA X79 hx hZ e79 V_uq3 (pc' := 13) (hb hby d_prog_66_method_5_12) (n := (3 : Int32)) (rfl) ?_
  refine Ow.ifNo X79 hx (pc' := 16) (hb hby d_prog_66_method_5_13) ((if0 _ _).trans (tlt (by decide : (0 : Int32) < (3 : Int32))).2.2.2) ?_
  refine Ow.aloadN X79 hx (pc' := 17) (hb hby d_prog_66_method_5_16) rfl rfl ?_
  obtain ⟨T80, X80, e80, st80⟩ := getF X79 hx hZ hown (host := "") (Or.inl (kw74 hw)) Via.refl e79 F_thisq3_missing (g := (mkF m 17 #[.val (.ref thisq3), .val (.int (4 : Int32)), .unset] [(.ref thisq3)])) rfl rfl (hb hby d_prog_66_method_5_17)
  refine Wq.step st80 ?_
  show Wq _ _ _ _ _ (T80.setTop (mkF m 20 #[.val (.ref thisq3), .val (.int (4 : Int32)), .unset] [(.ref uq3)]))
  refine Ow.iconst X80 hx (pc' := 21) (hb hby d_prog_66_method_5_20) (z := (0 : Int32)) rfl ?_
  refine Ow.ldC X80 hx hZ e80 V_uq3 (pc' := 22) (hb hby d_prog_66_method_5_21) (j := (0 : Int32)) (i := 0) (v := (.int m0q3)) (by decide) rfl rfl ?_
  refine Wq.by (U' := T80.setTop (mkF m 28 #[.val (.ref thisq3), .val (.int (if m0q3 = (0 : Int32) then (3 : Int32) else (4 : Int32))), .unset] [])) (fun k => ?_) ?_
  · skip
    by_cases hm22 : m0q3 = (0 : Int32)
    · skip
      refine Ow.ifNo X80 hx (pc' := 25) (hb hby d_prog_66_method_5_22) ((if0 _ _).trans (teq hm22).2) ?_
      refine Ow.iinc X80 hx (pc' := 28) (hb hby d_prog_66_method_5_25) rfl (l' := #[.val (.ref thisq3), .val (.int (3 : Int32)), .unset]) rfl ?_
      simp only [if_pos hm22] at k
      exact k
    · skip
      refine Ow.ifYes X80 hx (pc' := 28) (hb hby d_prog_66_method_5_22) ((if0 _ _).trans (feq hm22).2) (by decide) (by decide) ?_
      simp only [if_neg hm22] at k
      exact k
  refine Ow.aloadN X80 hx (pc' := 29) (hb hby d_prog_66_method_5_28) rfl rfl ?_
  obtain ⟨T81, X81, e81, st81⟩ := getF X80 hx hZ hown (host := "") (Or.inl (kw74 hw)) Via.refl e80 F_thisq3_missing (g := (mkF m 29 #[.val (.ref thisq3), .val (.int (if m0q3 = (0 : Int32) then (3 : Int32) else (4 : Int32))), .unset] [(.ref thisq3)])) rfl rfl (hb hby d_prog_66_method_5_29)
  refine Wq.step st81 ?_
  show Wq _ _ _ _ _ (T81.setTop (mkF m 32 #[.val (.ref thisq3), .val (.int (if m0q3 = (0 : Int32) then (3 : Int32) else (4 : Int32))), .unset] [(.ref uq3)]))
  refine Ow.lenA X81 hx hZ e81 V_uq3 (pc' := 33) (hb hby d_prog_66_method_5_32) (n := (3 : Int32)) (rfl) ?_
  refine Ow.ifNo X81 hx (pc' := 36) (hb hby d_prog_66_method_5_33) ((if0 _ _).trans (tlt (by decide : (0 : Int32) < (3 : Int32))).2.2.2) ?_
  refine Ow.aloadN X81 hx (pc' := 37) (hb hby d_prog_66_method_5_36) rfl rfl ?_
  obtain ⟨T82, X82, e82, st82⟩ := getF X81 hx hZ hown (host := "") (Or.inl (kw74 hw)) Via.refl e81 F_thisq3_missing (g := (mkF m 37 #[.val (.ref thisq3), .val (.int (if m0q3 = (0 : Int32) then (3 : Int32) else (4 : Int32))), .unset] [(.ref thisq3)])) rfl rfl (hb hby d_prog_66_method_5_37)
  refine Wq.step st82 ?_
  show Wq _ _ _ _ _ (T82.setTop (mkF m 40 #[.val (.ref thisq3), .val (.int (if m0q3 = (0 : Int32) then (3 : Int32) else (4 : Int32))), .unset] [(.ref uq3)]))
  refine Ow.aloadN X82 hx (pc' := 41) (hb hby d_prog_66_method_5_40) rfl rfl ?_
  obtain ⟨T83, X83, e83, st83⟩ := getF X82 hx hZ hown (host := "") (Or.inl (kw74 hw)) Via.refl e82 F_thisq3_missing (g := (mkF m 41 #[.val (.ref thisq3), .val (.int (if m0q3 = (0 : Int32) then (3 : Int32) else (4 : Int32))), .unset] [(.ref thisq3), (.ref uq3)])) rfl rfl (hb hby d_prog_66_method_5_41)
  refine Wq.step st83 ?_
  show Wq _ _ _ _ _ (T83.setTop (mkF m 44 #[.val (.ref thisq3), .val (.int (if m0q3 = (0 : Int32) then (3 : Int32) else (4 : Int32))), .unset] [(.ref uq3), (.ref uq3)]))
  refine Ow.lenA X83 hx hZ e83 V_uq3 (pc' := 45) (hb hby d_prog_66_method_5_44) (n := (3 : Int32)) (rfl) ?_
  refine Ow.iconst X83 hx (pc' := 46) (hb hby d_prog_66_method_5_45) (z := (1 : Int32)) rfl ?_
  refine Ow.isub X83 hx (pc' := 47) (hb hby d_prog_66_method_5_46) (z := (2 : Int32)) rfl ?_
  refine Ow.ldC X83 hx hZ e83 V_uq3 (pc' := 48) (hb hby d_prog_66_method_5_47) (j := (2 : Int32)) (i := 2) (v := (.int m2q3)) (by decide) rfl rfl ?_
  refine Ow.ldcInt X83 hx hZ (pc' := 50) hown (kw102 hw) (hb hby d_prog_66_method_5_48) ?_
  refine Wq.by (U' := T83.setTop (mkF m 56 #[.val (.ref thisq3), .val (.int (if m2q3 = (65535 : Int32) then ((if m0q3 = (0 : Int32) then (3 : Int32) else (4 : Int32)) + (-1 : Int32)) else (if m0q3 = (0 : Int32) then (3 : Int32) else (4 : Int32)))), .unset] [])) (fun k => ?_) ?_
  · skip
    by_cases hm50 : m2q3 = (65535 : Int32)
    · skip
      refine Ow.icmpNo X83 hx (pc' := 53) (hb hby d_prog_66_method_5_50) (teq hm50).2 ?_
      refine Ow.iinc X83 hx (pc' := 56) (hb hby d_prog_66_method_5_53) rfl (l' := #[.val (.ref thisq3), .val (.int ((if m0q3 = (0 : Int32) then (3 : Int32) else (4 : Int32)) + (-1 : Int32))), .unset]) rfl ?_
      simp only [if_pos hm50] at k
      exact k
    · skip
      refine Ow.icmpYes X83 hx (pc' := 56) (hb hby d_prog_66_method_5_50) (feq hm50).2 (by decide) (by decide) ?_
      simp only [if_neg hm50] at k
      exact k
  refine Ow.iconst X83 hx (pc' := 57) (hb hby d_prog_66_method_5_56) (z := (1 : Int32)) rfl ?_
  refine Ow.istoreN X83 hx (pc' := 58) (hb hby d_prog_66_method_5_57) (l' := #[.val (.ref thisq3), .val (.int (if m2q3 = (65535 : Int32) then ((if m0q3 = (0 : Int32) then (3 : Int32) else (4 : Int32)) + (-1 : Int32)) else (if m0q3 = (0 : Int32) then (3 : Int32) else (4 : Int32)))), .val (.int (1 : Int32))]) rfl ?_
  refine Ow.iloadN X83 hx (pc' := 59) (hb hby d_prog_66_method_5_58) rfl ?_
  refine Ow.aloadN X83 hx (pc' := 60) (hb hby d_prog_66_method_5_59) rfl rfl ?_
  obtain ⟨T84, X84, e84, st84⟩ := getF X83 hx hZ hown (host := "") (Or.inl (kw74 hw)) Via.refl e83 F_thisq3_missing (g := (mkF m 60 #[.val (.ref thisq3), .val (.int (if m2q3 = (65535 : Int32) then ((if m0q3 = (0 : Int32) then (3 : Int32) else (4 : Int32)) + (-1 : Int32)) else (if m0q3 = (0 : Int32) then (3 : Int32) else (4 : Int32)))), .val (.int (1 : Int32))] [(.ref thisq3), (.int (1 : Int32))])) rfl rfl (hb hby d_prog_66_method_5_60)
  refine Wq.step st84 ?_
  show Wq _ _ _ _ _ (T84.setTop (mkF m 63 #[.val (.ref thisq3), .val (.int (if m2q3 = (65535 : Int32) then ((if m0q3 = (0 : Int32) then (3 : Int32) else (4 : Int32)) + (-1 : Int32)) else (if m0q3 = (0 : Int32) then (3 : Int32) else (4 : Int32)))), .val (.int (1 : Int32))] [(.ref uq3), (.int (1 : Int32))]))
  refine Ow.lenA X84 hx hZ e84 V_uq3 (pc' := 64) (hb hby d_prog_66_method_5_63) (n := (3 : Int32)) (rfl) ?_
  refine Ow.icmpNo X84 hx (pc' := 67) (hb hby d_prog_66_method_5_64) (tlt (by decide : (1 : Int32) < (3 : Int32))).2.1 ?_
  refine Ow.aloadN X84 hx (pc' := 68) (hb hby d_prog_66_method_5_67) rfl rfl ?_
  obtain ⟨T85, X85, e85, st85⟩ := getF X84 hx hZ hown (host := "") (Or.inl (kw74 hw)) Via.refl e84 F_thisq3_missing (g := (mkF m 68 #[.val (.ref thisq3), .val (.int (if m2q3 = (65535 : Int32) then ((if m0q3 = (0 : Int32) then (3 : Int32) else (4 : Int32)) + (-1 : Int32)) else (if m0q3 = (0 : Int32) then (3 : Int32) else (4 : Int32)))), .val (.int (1 : Int32))] [(.ref thisq3)])) rfl rfl (hb hby d_prog_66_method_5_68)
  refine Wq.step st85 ?_
  show Wq _ _ _ _ _ (T85.setTop (mkF m 71 #[.val (.ref thisq3), .val (.int (if m2q3 = (65535 : Int32) then ((if m0q3 = (0 : Int32) then (3 : Int32) else (4 : Int32)) + (-1 : Int32)) else (if m0q3 = (0 : Int32) then (3 : Int32) else (4 : Int32)))), .val (.int (1 : Int32))] [(.ref uq3)]))
  refine Ow.iloadN X85 hx (pc' := 72) (hb hby d_prog_66_method_5_71) rfl ?_
  refine Ow.ldC X85 hx hZ e85 V_uq3 (pc' := 73) (hb hby d_prog_66_method_5_72) (j := (1 : Int32)) (i := 1) (v := (.int m1q3)) (by decide) rfl rfl ?_
  refine Ow.aloadN X85 hx (pc' := 74) (hb hby d_prog_66_method_5_73) rfl rfl ?_
  obtain ⟨T86, X86, e86, st86⟩ := getF X85 hx hZ hown (host := "") (Or.inl (kw74 hw)) Via.refl e85 F_thisq3_missing (g := (mkF m 74 #[.val (.ref thisq3), .val (.int (if m2q3 = (65535 : Int32) then ((if m0q3 = (0 : Int32) then (3 : Int32) else (4 : Int32)) + (-1 : Int32)) else (if m0q3 = (0 : Int32) then (3 : Int32) else (4 : Int32)))), .val (.int (1 : Int32))] [(.ref thisq3), (.int m1q3)])) rfl rfl (hb hby d_prog_66_method_5_74)
  refine Wq.step st86 ?_
  show Wq _ _ _ _ _ (T86.setTop (mkF m 77 #[.val (.ref thisq3), .val (.int (if m2q3 = (65535 : Int32) then ((if m0q3 = (0 : Int32) then (3 : Int32) else (4 : Int32)) + (-1 : Int32)) else (if m0q3 = (0 : Int32) then (3 : Int32) else (4 : Int32)))), .val (.int (1 : Int32))] [(.ref uq3), (.int m1q3)]))
  refine Ow.iloadN X86 hx (pc' := 78) (hb hby d_prog_66_method_5_77) rfl ?_
  refine Ow.iconst X86 hx (pc' := 79) (hb hby d_prog_66_method_5_78) (z := (1 : Int32)) rfl ?_
  refine Ow.isub X86 hx (pc' := 80) (hb hby d_prog_66_method_5_79) (z := (0 : Int32)) rfl ?_
  refine Ow.ldC X86 hx hZ e86 V_uq3 (pc' := 81) (hb hby d_prog_66_method_5_80) (j := (0 : Int32)) (i := 0) (v := (.int m0q3)) (by decide) rfl rfl ?_
  refine Ow.iconst X86 hx (pc' := 82) (hb hby d_prog_66_method_5_81) (z := (1 : Int32)) rfl ?_
  refine Ow.iadd X86 hx (pc' := 83) (hb hby d_prog_66_method_5_82) (z := (m0q3 + (1 : Int32))) rfl ?_
  refine Wq.by (U' := T86.setTop (mkF m 89 #[.val (.ref thisq3), .val (.int (if m1q3 = (m0q3 + (1 : Int32)) then ((if m2q3 = (65535 : Int32) then ((if m0q3 = (0 : Int32) then (3 : Int32) else (4 : Int32)) + (-1 : Int32)) else (if m0q3 = (0 : Int32) then (3 : Int32) else (4 : Int32))) + (-1 : Int32)) else (if m2q3 = (65535 : Int32) then ((if m0q3 = (0 : Int32) then (3 : Int32) else (4 : Int32)) + (-1 : Int32)) else (if m0q3 = (0 : Int32) then (3 : Int32) else (4 : Int32))))), .val (.int (1 : Int32))] [])) (fun k => ?_) ?_
  · skip
    by_cases hm83 : m1q3 = (m0q3 + (1 : Int32))
    · skip
      refine Ow.icmpNo X86 hx (pc' := 86) (hb hby d_prog_66_method_5_83) (teq hm83).2 ?_
      refine Ow.iinc X86 hx (pc' := 89) (hb hby d_prog_66_method_5_86) rfl (l' := #[.val (.ref thisq3), .val (.int ((if m2q3 = (65535 : Int32) then ((if m0q3 = (0 : Int32) then (3 : Int32) else (4 : Int32)) + (-1 : Int32)) else (if m0q3 = (0 : Int32) then (3 : Int32) else (4 : Int32))) + (-1 : Int32))), .val (.int (1 : Int32))]) rfl ?_
      simp only [if_pos hm83] at k
      exact k
    · skip
      refine Ow.icmpYes X86 hx (pc' := 89) (hb hby d_prog_66_method_5_83) (feq hm83).2 (by decide) (by decide) ?_
      simp only [if_neg hm83] at k
      exact k
  refine Ow.iinc X86 hx (pc' := 92) (hb hby d_prog_66_method_5_89) rfl (l' := #[.val (.ref thisq3), .val (.int (if m1q3 = (m0q3 + (1 : Int32)) then ((if m2q3 = (65535 : Int32) then ((if m0q3 = (0 : Int32) then (3 : Int32) else (4 : Int32)) + (-1 : Int32)) else (if m0q3 = (0 : Int32) then (3 : Int32) else (4 : Int32))) + (-1 : Int32)) else (if m2q3 = (65535 : Int32) then ((if m0q3 = (0 : Int32) then (3 : Int32) else (4 : Int32)) + (-1 : Int32)) else (if m0q3 = (0 : Int32) then (3 : Int32) else (4 : Int32))))), .val (.int (2 : Int32))]) rfl ?_
  show Wq _ _ _ _ _ (T86.setTop (mkF m 92 #[.val (.ref thisq3), .val (.int (if m1q3 = (m0q3 + (1 : Int32)) then ((if m2q3 = (65535 : Int32) then ((if m0q3 = (0 : Int32) then (3 : Int32) else (4 : Int32)) + (-1 : Int32)) else (if m0q3 = (0 : Int32) then (3 : Int32) else (4 : Int32))) + (-1 : Int32)) else (if m2q3 = (65535 : Int32) then ((if m0q3 = (0 : Int32) then (3 : Int32) else (4 : Int32)) + (-1 : Int32)) else (if m0q3 = (0 : Int32) then (3 : Int32) else (4 : Int32))))), .val (.int (2 : Int32))] []))
  refine Ow.goto X86 hx (pc' := 58) (hb hby d_prog_66_method_5_92) (by decide) (by decide) ?_
  refine Ow.iloadN X86 hx (pc' := 59) (hb hby d_prog_66_method_5_58) rfl ?_
  refine Ow.aloadN X86 hx (pc' := 60) (hb hby d_prog_66_method_5_59) rfl rfl ?_
  obtain ⟨T87, X87, e87, st87⟩ := getF X86 hx hZ hown (host := "") (Or.inl (kw74 hw)) Via.refl e86 F_thisq3_missing (g := (mkF m 60 #[.val (.ref thisq3), .val (.int (if m1q3 = (m0q3 + (1 : Int32)) then ((if m2q3 = (65535 : Int32) then ((if m0q3 = (0 : Int32) then (3 : Int32) else (4 : Int32)) + (-1 : Int32)) else (if m0q3 = (0 : Int32) then (3 : Int32) else (4 : Int32))) + (-1 : Int32)) else (if m2q3 = (65535 : Int32) then ((if m0q3 = (0 : Int32) then (3 : Int32) else (4 : Int32)) + (-1 : Int32)) else (if m0q3 = (0 : Int32) then (3 : Int32) else (4 : Int32))))), .val (.int (2 : Int32))] [(.ref thisq3), (.int (2 : Int32))])) rfl rfl (hb hby d_prog_66_method_5_60)
  refine Wq.step st87 ?_
  show Wq _ _ _ _ _ (T87.setTop (mkF m 63 #[.val (.ref thisq3), .val (.int (if m1q3 = (m0q3 + (1 : Int32)) then ((if m2q3 = (65535 : Int32) then ((if m0q3 = (0 : Int32) then (3 : Int32) else (4 : Int32)) + (-1 : Int32)) else (if m0q3 = (0 : Int32) then (3 : Int32) else (4 : Int32))) + (-1 : Int32)) else (if m2q3 = (65535 : Int32) then ((if m0q3 = (0 : Int32) then (3 : Int32) else (4 : Int32)) + (-1 : Int32)) else (if m0q3 = (0 : Int32) then (3 : Int32) else (4 : Int32))))), .val (.int (2 : Int32))] [(.ref uq3), (.int (2 : Int32))]))
  refine Ow.lenA X87 hx hZ e87 V_uq3 (pc' := 64) (hb hby d_prog_66_method_5_63) (n := (3 : Int32)) (rfl) ?_
  refine Ow.icmpNo X87 hx (pc' := 67) (hb hby d_prog_66_method_5_64) (tlt (by decide : (2 : Int32) < (3 : Int32))).2.1 ?_
  refine Ow.aloadN X87 hx (pc' := 68) (hb hby d_prog_66_method_5_67) rfl rfl ?_
  obtain ⟨T88, X88, e88, st88⟩ := getF X87 hx hZ hown (host := "") (Or.inl (kw74 hw)) Via.refl e87 F_thisq3_missing (g := (mkF m 68 #[.val (.ref thisq3), .val (.int (if m1q3 = (m0q3 + (1 : Int32)) then ((if m2q3 = (65535 : Int32) then ((if m0q3 = (0 : Int32) then (3 : Int32) else (4 : Int32)) + (-1 : Int32)) else (if m0q3 = (0 : Int32) then (3 : Int32) else (4 : Int32))) + (-1 : Int32)) else (if m2q3 = (65535 : Int32) then ((if m0q3 = (0 : Int32) then (3 : Int32) else (4 : Int32)) + (-1 : Int32)) else (if m0q3 = (0 : Int32) then (3 : Int32) else (4 : Int32))))), .val (.int (2 : Int32))] [(.ref thisq3)])) rfl rfl (hb hby d_prog_66_method_5_68)
  refine Wq.step st88 ?_
  show Wq _ _ _ _ _ (T88.setTop (mkF m 71 #[.val (.ref thisq3), .val (.int (if m1q3 = (m0q3 + (1 : Int32)) then ((if m2q3 = (65535 : Int32) then ((if m0q3 = (0 : Int32) then (3 : Int32) else (4 : Int32)) + (-1 : Int32)) else (if m0q3 = (0 : Int32) then (3 : Int32) else (4 : Int32))) + (-1 : Int32)) else (if m2q3 = (65535 : Int32) then ((if m0q3 = (0 : Int32) then (3 : Int32) else (4 : Int32)) + (-1 : Int32)) else (if m0q3 = (0 : Int32) then (3 : Int32) else (4 : Int32))))), .val (.int (2 : Int32))] [(.ref uq3)]))
  refine Ow.iloadN X88 hx (pc' := 72) (hb hby d_prog_66_method_5_71) rfl ?_
  refine Ow.ldC X88 hx hZ e88 V_uq3 (pc' := 73) (hb hby d_prog_66_method_5_72) (j := (2 : Int32)) (i := 2) (v := (.int m2q3)) (by decide) rfl rfl ?_
  refine Ow.aloadN X88 hx (pc' := 74) (hb hby d_prog_66_method_5_73) rfl rfl ?_
  obtain ⟨T89, X89, e89, st89⟩ := getF X88 hx hZ hown (host := "") (Or.inl (kw74 hw)) Via.refl e88 F_thisq3_missing (g := (mkF m 74 #[.val (.ref thisq3), .val (.int (if m1q3 = (m0q3 + (1 : Int32)) then ((if m2q3 = (65535 : Int32) then ((if m0q3 = (0 : Int32) then (3 : Int32) else (4 : Int32)) + (-1 : Int32)) else (if m0q3 = (0 : Int32) then (3 : Int32) else (4 : Int32))) + (-1 : Int32)) else (if m2q3 = (65535 : Int32) then ((if m0q3 = (0 : Int32) then (3 : Int32) else (4 : Int32)) + (-1 : Int32)) else (if m0q3 = (0 : Int32) then (3 : Int32) else (4 : Int32))))), .val (.int (2 : Int32))] [(.ref thisq3), (.int m2q3)])) rfl rfl (hb hby d_prog_66_method_5_74)
  refine Wq.step st89 ?_
  show Wq _ _ _ _ _ (T89.setTop (mkF m 77 #[.val (.ref thisq3), .val (.int (if m1q3 = (m0q3 + (1 : Int32)) then ((if m2q3 = (65535 : Int32) then ((if m0q3 = (0 : Int32) then (3 : Int32) else (4 : Int32)) + (-1 : Int32)) else (if m0q3 = (0 : Int32) then (3 : Int32) else (4 : Int32))) + (-1 : Int32)) else (if m2q3 = (65535 : Int32) then ((if m0q3 = (0 : Int32) then (3 : Int32) else (4 : Int32)) + (-1 : Int32)) else (if m0q3 = (0 : Int32) then (3 : Int32) else (4 : Int32))))), .val (.int (2 : Int32))] [(.ref uq3), (.int m2q3)]))
  refine Ow.iloadN X89 hx (pc' := 78) (hb hby d_prog_66_method_5_77) rfl ?_
  refine Ow.iconst X89 hx (pc' := 79) (hb hby d_prog_66_method_5_78) (z := (1 : Int32)) rfl ?_
  refine Ow.isub X89 hx (pc' := 80) (hb hby d_prog_66_method_5_79) (z := (1 : Int32)) rfl ?_
  refine Ow.ldC X89 hx hZ e89 V_uq3 (pc' := 81) (hb hby d_prog_66_method_5_80) (j := (1 : Int32)) (i := 1) (v := (.int m1q3)) (by decide) rfl rfl ?_
  refine Ow.iconst X89 hx (pc' := 82) (hb hby d_prog_66_method_5_81) (z := (1 : Int32)) rfl ?_
  refine Ow.iadd X89 hx (pc' := 83) (hb hby d_prog_66_method_5_82) (z := (m1q3 + (1 : Int32))) rfl ?_
  refine Wq.by (U' := T89.setTop (mkF m 89 #[.val (.ref thisq3), .val (.int (if m2q3 = (m1q3 + (1 : Int32)) then ((if m1q3 = (m0q3 + (1 : Int32)) then ((if m2q3 = (65535 : Int32) then ((if m0q3 = (0 : Int32) then (3 : Int32) else (4 : Int32)) + (-1 : Int32)) else (if m0q3 = (0 : Int32) then (3 : Int32) else (4 : Int32))) + (-1 : Int32)) else (if m2q3 = (65535 : Int32) then ((if m0q3 = (0 : Int32) then (3 : Int32) else (4 : Int32)) + (-1 : Int32)) else (if m0q3 = (0 : Int32) then (3 : Int32) else (4 : Int32)))) + (-1 : Int32)) else (if m1q3 = (m0q3 + (1 : Int32)) then ((if m2q3 = (65535 : Int32) then ((if m0q3 = (0 : Int32) then (3 : Int32) else (4 : Int32)) + (-1 : Int32)) else (if m0q3 = (0 : Int32) then (3 : Int32) else (4 : Int32))) + (-1 : Int32)) else (if m2q3 = (65535 : Int32) then ((if m0q3 = (0 : Int32) then (3 : Int32) else (4 : Int32)) + (-1 : Int32)) else (if m0q3 = (0 : Int32) then (3 : Int32) else (4 : Int32)))))), .val (.int (2 : Int32))] [])) (fun k => ?_) ?_
  · skip
    by_cases hm83 : m2q3 = (m1q3 + (1 : Int32))
    · skip
      refine Ow.icmpNo X89 hx (pc' := 86) (hb hby d_prog_66_method_5_83) (teq hm83).2 ?_
      refine Ow.iinc X89 hx (pc' := 89) (hb hby d_prog_66_method_5_86) rfl (l' := #[.val (.ref thisq3), .val (.int ((if m1q3 = (m0q3 + (1 : Int32)) then ((if m2q3 = (65535 : Int32) then ((if m0q3 = (0 : Int32) then (3 : Int32) else (4 : Int32)) + (-1 : Int32)) else (if m0q3 = (0 : Int32) then (3 : Int32) else (4 : Int32))) + (-1 : Int32)) else (if m2q3 = (65535 : Int32) then ((if m0q3 = (0 : Int32) then (3 : Int32) else (4 : Int32)) + (-1 : Int32)) else (if m0q3 = (0 : Int32) then (3 : Int32) else (4 : Int32)))) + (-1 : Int32))), .val (.int (2 : Int32))]) rfl ?_
      simp only [if_pos hm83] at k
      exact k
    · skip
      refine Ow.icmpYes X89 hx (pc' := 89) (hb hby d_prog_66_method_5_83) (feq hm83).2 (by decide) (by decide) ?_
      simp only [if_neg hm83] at k
      exact k
  refine Ow.iinc X89 hx (pc' := 92) (hb hby d_prog_66_method_5_89) rfl (l' := #[.val (.ref thisq3), .val (.int (if m2q3 = (m1q3 + (1 : Int32)) then ((if m1q3 = (m0q3 + (1 : Int32)) then ((if m2q3 = (65535 : Int32) then ((if m0q3 = (0 : Int32) then (3 : Int32) else (4 : Int32)) + (-1 : Int32)) else (if m0q3 = (0 : Int32) then (3 : Int32) else (4 : Int32))) + (-1 : Int32)) else (if m2q3 = (65535 : Int32) then ((if m0q3 = (0 : Int32) then (3 : Int32) else (4 : Int32)) + (-1 : Int32)) else (if m0q3 = (0 : Int32) then (3 : Int32) else (4 : Int32)))) + (-1 : Int32)) else (if m1q3 = (m0q3 + (1 : Int32)) then ((if m2q3 = (65535 : Int32) then ((if m0q3 = (0 : Int32) then (3 : Int32) else (4 : Int32)) + (-1 : Int32)) else (if m0q3 = (0 : Int32) then (3 : Int32) else (4 : Int32))) + (-1 : Int32)) else (if m2q3 = (65535 : Int32) then ((if m0q3 = (0 : Int32) then (3 : Int32) else (4 : Int32)) + (-1 : Int32)) else (if m0q3 = (0 : Int32) then (3 : Int32) else (4 : Int32)))))), .val (.int (3 : Int32))]) rfl ?_
  show Wq _ _ _ _ _ (T89.setTop (mkF m 92 #[.val (.ref thisq3), .val (.int (if m2q3 = (m1q3 + (1 : Int32)) then ((if m1q3 = (m0q3 + (1 : Int32)) then ((if m2q3 = (65535 : Int32) then ((if m0q3 = (0 : Int32) then (3 : Int32) else (4 : Int32)) + (-1 : Int32)) else (if m0q3 = (0 : Int32) then (3 : Int32) else (4 : Int32))) + (-1 : Int32)) else (if m2q3 = (65535 : Int32) then ((if m0q3 = (0 : Int32) then (3 : Int32) else (4 : Int32)) + (-1 : Int32)) else (if m0q3 = (0 : Int32) then (3 : Int32) else (4 : Int32)))) + (-1 : Int32)) else (if m1q3 = (m0q3 + (1 : Int32)) then ((if m2q3 = (65535 : Int32) then ((if m0q3 = (0 : Int32) then (3 : Int32) else (4 : Int32)) + (-1 : Int32)) else (if m0q3 = (0 : Int32) then (3 : Int32) else (4 : Int32))) + (-1 : Int32)) else (if m2q3 = (65535 : Int32) then ((if m0q3 = (0 : Int32) then (3 : Int32) else (4 : Int32)) + (-1 : Int32)) else (if m0q3 = (0 : Int32) then (3 : Int32) else (4 : Int32)))))), .val (.int (3 : Int32))] []))
  refine Ow.goto X89 hx (pc' := 58) (hb hby d_prog_66_method_5_92) (by decide) (by decide) ?_
  refine Ow.iloadN X89 hx (pc' := 59) (hb hby d_prog_66_method_5_58) rfl ?_
  refine Ow.aloadN X89 hx (pc' := 60) (hb hby d_prog_66_method_5_59) rfl rfl ?_
  obtain ⟨T90, X90, e90, st90⟩ := getF X89 hx hZ hown (host := "") (Or.inl (kw74 hw)) Via.refl e89 F_thisq3_missing (g := (mkF m 60 #[.val (.ref thisq3), .val (.int (if m2q3 = (m1q3 + (1 : Int32)) then ((if m1q3 = (m0q3 + (1 : Int32)) then ((if m2q3 = (65535 : Int32) then ((if m0q3 = (0 : Int32) then (3 : Int32) else (4 : Int32)) + (-1 : Int32)) else (if m0q3 = (0 : Int32) then (3 : Int32) else (4 : Int32))) + (-1 : Int32)) else (if m2q3 = (65535 : Int32) then ((if m0q3 = (0 : Int32) then (3 : Int32) else (4 : Int32)) + (-1 : Int32)) else (if m0q3 = (0 : Int32) then (3 : Int32) else (4 : Int32)))) + (-1 : Int32)) else (if m1q3 = (m0q3 + (1 : Int32)) then ((if m2q3 = (65535 : Int32) then ((if m0q3 = (0 : Int32) then (3 : Int32) else (4 : Int32)) + (-1 : Int32)) else (if m0q3 = (0 : Int32) then (3 : Int32) else (4 : Int32))) + (-1 : Int32)) else (if m2q3 = (65535 : Int32) then ((if m0q3 = (0 : Int32) then (3 : Int32) else (4 : Int32)) + (-1 : Int32)) else (if m0q3 = (0 : Int32) then (3 : Int32) else (4 : Int32)))))), .val (.int (3 : Int32))] [(.ref thisq3), (.int (3 : Int32))])) rfl rfl (hb hby d_prog_66_method_5_60)
  refine Wq.step st90 ?_
  show Wq _ _ _ _ _ (T90.setTop (mkF m 63 #[.val (.ref thisq3), .val (.int (if m2q3 = (m1q3 + (1 : Int32)) then ((if m1q3 = (m0q3 + (1 : Int32)) then ((if m2q3 = (65535 : Int32) then ((if m0q3 = (0 : Int32) then (3 : Int32) else (4 : Int32)) + (-1 : Int32)) else (if m0q3 = (0 : Int32) then (3 : Int32) else (4 : Int32))) + (-1 : Int32)) else (if m2q3 = (65535 : Int32) then ((if m0q3 = (0 : Int32) then (3 : Int32) else (4 : Int32)) + (-1 : Int32)) else (if m0q3 = (0 : Int32) then (3 : Int32) else (4 : Int32)))) + (-1 : Int32)) else (if m1q3 = (m0q3 + (1 : Int32)) then ((if m2q3 = (65535 : Int32) then ((if m0q3 = (0 : Int32) then (3 : Int32) else (4 : Int32)) + (-1 : Int32)) else (if m0q3 = (0 : Int32) then (3 : Int32) else (4 : Int32))) + (-1 : Int32)) else (if m2q3 = (65535 : Int32) then ((if m0q3 = (0 : Int32) then (3 : Int32) else (4 : Int32)) + (-1 : Int32)) else (if m0q3 = (0 : Int32) then (3 : Int32) else (4 : Int32)))))), .val (.int (3 : Int32))] [(.ref uq3), (.int (3 : Int32))]))
  refine Ow.lenA X90 hx hZ e90 V_uq3 (pc' := 64) (hb hby d_prog_66_method_5_63) (n := (3 : Int32)) (rfl) ?_
  refine Ow.icmpYes X90 hx (pc' := 95) (hb hby d_prog_66_method_5_64) (flt (by decide : ¬ ((3 : Int32) < (3 : Int32)))).2.1 (by decide) (by decide) ?_
  refine Ow.iloadN X90 hx (pc' := 96) (hb hby d_prog_66_method_5_95) rfl ?_
  exact Wq.ret X90 (BodyLoose.notSynchronized Bd) (rv := some (.int (if m2q3 = (m1q3 + (1 : Int32)) then ((if m1q3 = (m0q3 + (1 : Int32)) then ((if m2q3 = (65535 : Int32) then ((if m0q3 = (0 : Int32) then (3 : Int32) else (4 : Int32)) + (-1 : Int32)) else (if m0q3 = (0 : Int32) then (3 : Int32) else (4 : Int32))) + (-1 : Int32)) else (if m2q3 = (65535 : Int32) then ((if m0q3 = (0 : Int32) then (3 : Int32) else (4 : Int32)) + (-1 : Int32)) else (if m0q3 = (0 : Int32) then (3 : Int32) else (4 : Int32)))) + (-1 : Int32)) else (if m1q3 = (m0q3 + (1 : Int32)) then ((if m2q3 = (65535 : Int32) then ((if m0q3 = (0 : Int32) then (3 : Int32) else (4 : Int32)) + (-1 : Int32)) else (if m0q3 = (0 : Int32) then (3 : Int32) else (4 : Int32))) + (-1 : Int32)) else (if m2q3 = (65535 : Int32) then ((if m0q3 = (0 : Int32) then (3 : Int32) else (4 : Int32)) + (-1 : Int32)) else (if m0q3 = (0 : Int32) then (3 : Int32) else (4 : Int32))))))) (fun h => by rw [Bd.returns] at h; cases h) (fun _ hr => retOut X90 hx Bd.returns rfl (Or.inl ⟨rfl, Or.inl rfl, _, rfl⟩) (hb hby d_prog_66_method_5_96) hr) (by decide) (by decide) ⟨rfl, N0, e90⟩
theorem own_tv : ∀ z : Fin 64, (((1 : Int64) <<< (Int32.ofNat z).toInt64) ^^^ (-1 : Int64)).toBitVec = BitVec.allOnes 64 ^^^ BitVec.ofNat 64 (2 ^ (z : Nat)) := by decide
theorem own_tb {z j : Nat} (hz : z < 64) (hj : j < 64) : (((1 : Int64) <<< (Int32.ofNat z).toInt64) ^^^ (-1 : Int64)).toBitVec.getLsbD j = decide (j ≠ z) := by
  have k := own_tv ⟨z, hz⟩
  simp only at k
  rw [k, BitVec.getLsbD_xor, BitVec.getLsbD_allOnes, BitVec.getLsbD_ofNat, Nat.testBit_two_pow]
  by_cases q : z = j
  · subst q; simp [hj]
  · simp [hj, q, Ne.symm q]
theorem own_m63 {p : Int32} (h : 0 ≤ p.toInt) : (p &&& 0x3f) = Int32.ofNat (own_n p % 64) := by
  apply Int32.toBitVec_inj.mp
  apply BitVec.eq_of_toNat_eq
  have e := own_on h
  have hn : own_n p < 2147483648 := by have := rng32 p; have := own_nc h; omega
  have t : p.toBitVec.toNat = own_n p := by
    rw [e]
    show (BitVec.ofNat 32 (own_n p)).toNat = own_n (Int32.ofNat (own_n p))
    rw [← e, BitVec.toNat_ofNat]
    omega
  rw [Int32.toBitVec_and, BitVec.toNat_and, t]
  show own_n p &&& 63 = (BitVec.ofNat 32 (own_n p % 64)).toNat
  rw [BitVec.toNat_ofNat]
  have := Nat.and_two_pow_sub_one_eq_mod (own_n p) 6
  have k : own_n p &&& 63 = own_n p % 64 := this
  rw [k]
  omega
theorem own_clb {gw : Nat → Int64} {p : Int32} (h : 0 ≤ p.toInt ∧ p.toInt ≤ 65535) (w : Nat) {j : Nat} (hj : j < 64) : (own_clr gw p w).toBitVec.getLsbD j = ((gw w).toBitVec.getLsbD j && decide (own_n p ≠ 64 * w + j)) := by
  unfold own_clr
  have es : own_ps p = own_n p / 64 := rfl
  by_cases q : w = own_ps p
  · rw [if_pos q, Int64.toBitVec_and, BitVec.getLsbD_and, own_m63 h.1]
    rw [own_tb (Nat.mod_lt _ (by omega)) hj, ← q]
    congr 1
    apply decide_eq_decide.mpr
    omega
  · rw [if_neg q]
    have : own_n p ≠ 64 * w + j := by omega
    simp [this]
theorem own_all (w : Nat) {j : Nat} (hj : j < 64) : ((fun _ => (-1 : Int64)) w : Int64).toBitVec.getLsbD j = true := by
  have w1 : (-1 : Int64).toBitVec = BitVec.allOnes 64 := by decide
  show (-1 : Int64).toBitVec.getLsbD j = true
  rw [w1, BitVec.getLsbD_allOnes]
  simp [hj]
def own_s1 (a : Nat) : Nat → Nat := fun _ => a
def own_s2 (a b : Nat) : Nat → Nat := fun i => if i = 0 then (if a < b then a else b) else (if a < b then b else a)
def own_mn (a b c : Nat) : Nat := if a < b then (if a < c then a else c) else (if b < c then b else c)
def own_mx (a b c : Nat) : Nat := if a < b then (if b < c then c else b) else (if a < c then c else a)
def own_s3 (a b c : Nat) : Nat → Nat := fun i => if i = 0 then own_mn a b c else if i = 1 then a + b + c - own_mn a b c - own_mx a b c else own_mx a b c
theorem own_nr {p : Int32} (h : 0 ≤ p.toInt ∧ p.toInt ≤ 65535) : own_n p < 65536 := by have := own_nc h.1; omega
theorem own_nne {p q : Int32} (h : 0 ≤ p.toInt ∧ p.toInt ≤ 65535) (h2 : 0 ≤ q.toInt ∧ q.toInt ≤ 65535) (e : ¬ q = p) : own_n p ≠ own_n q := by
  intro k
  apply e
  rw [own_on h.1, own_on h2.1, k]
theorem own_S0 : own_S (fun _ => (-1 : Int64)) 0 (own_s1 0) := by
  refine ⟨fun i j _ h => absurd h (by omega), fun i h => absurd h (by omega), fun w _ j hj => ?_⟩
  rw [own_all w hj]
  constructor
  · intro h; cases h
  · intro ⟨i, hi, _⟩; exact absurd hi (by omega)
theorem own_S1 {a : Int32} (ha : 0 ≤ a.toInt ∧ a.toInt ≤ 65535) : own_S (own_clr (fun _ => (-1 : Int64)) a) 1 (own_s1 (own_n a)) := by
  have A := own_nr ha
  refine ⟨fun i j h1 h2 => absurd h1 (by omega), fun i _ => A, fun w _ j hj => ?_⟩
  rw [own_clb ha w hj, own_all w hj, Bool.true_and, decide_eq_false_iff_not]
  constructor
  · intro h; exact ⟨0, by omega, Classical.byContradiction h⟩
  · intro ⟨i, _, e⟩ h; exact h e
theorem own_S2 {a b : Int32} (ha : 0 ≤ a.toInt ∧ a.toInt ≤ 65535) (hb : 0 ≤ b.toInt ∧ b.toInt ≤ 65535) (ne : ¬ b = a) : own_S (own_clr (own_clr (fun _ => (-1 : Int64)) a) b) 2 (own_s2 (own_n a) (own_n b)) := by
  have A := own_nr ha
  have B := own_nr hb
  have N := own_nne ha hb ne
  refine ⟨fun i j h1 h2 => ?_, fun i _ => ?_, fun w _ j hj => ?_⟩
  · have e1 : i = 0 := by omega
    have e2 : j = 1 := by omega
    subst e1 e2
    show (if own_n a < own_n b then own_n a else own_n b) < (if own_n a < own_n b then own_n b else own_n a)
    split <;> omega
  · unfold own_s2
    split <;> split <;> omega
  · rw [own_clb hb w hj, own_clb ha w hj, own_all w hj, Bool.true_and, Bool.and_eq_false_iff, decide_eq_false_iff_not, decide_eq_false_iff_not, Classical.not_not, Classical.not_not]
    unfold own_s2
    constructor
    · rintro (h | h)
      · by_cases q : own_n a < own_n b
        · exact ⟨0, by omega, by rw [if_pos rfl, if_pos q]; exact h⟩
        · exact ⟨1, by omega, by rw [if_neg (by omega), if_neg q]; exact h⟩
      · by_cases q : own_n a < own_n b
        · exact ⟨1, by omega, by rw [if_neg (by omega), if_pos q]; exact h⟩
        · exact ⟨0, by omega, by rw [if_pos rfl, if_neg q]; exact h⟩
    · intro ⟨i, _, e⟩
      split at e <;> split at e <;> first | exact Or.inl e | exact Or.inr e
theorem own_s30 (x y z : Nat) : own_s3 x y z 0 = own_mn x y z := rfl
theorem own_s31 (x y z : Nat) : own_s3 x y z 1 = x + y + z - own_mn x y z - own_mx x y z := rfl
theorem own_s32 (x y z : Nat) : own_s3 x y z 2 = own_mx x y z := rfl
theorem own_mm {x y z : Nat} (h1 : x ≠ y) (h2 : x ≠ z) (h3 : y ≠ z) : own_mn x y z < x + y + z - own_mn x y z - own_mx x y z ∧ x + y + z - own_mn x y z - own_mx x y z < own_mx x y z := by
  unfold own_mn own_mx
  by_cases a : x < y <;> by_cases b : x < z <;> by_cases c : y < z <;> simp only [a, b, c, if_true, if_false] <;> omega
theorem own_mp {x y z : Nat} (t : Nat) (h1 : x ≠ y) (h2 : x ≠ z) (h3 : y ≠ z) : (own_mn x y z = t ∨ x + y + z - own_mn x y z - own_mx x y z = t ∨ own_mx x y z = t) ↔ (x = t ∨ y = t ∨ z = t) := by
  unfold own_mn own_mx
  by_cases a : x < y <;> by_cases b : x < z <;> by_cases c : y < z <;> simp only [a, b, c, if_true, if_false] <;> omega
theorem own_S3 {a b c : Int32} (ha : 0 ≤ a.toInt ∧ a.toInt ≤ 65535) (hb : 0 ≤ b.toInt ∧ b.toInt ≤ 65535) (hc : 0 ≤ c.toInt ∧ c.toInt ≤ 65535) (n1 : ¬ b = a) (n2 : ¬ c = a) (n3 : ¬ c = b) : own_S (own_clr (own_clr (own_clr (fun _ => (-1 : Int64)) a) b) c) 3 (own_s3 (own_n a) (own_n b) (own_n c)) := by
  have A := own_nr ha
  have B := own_nr hb
  have C := own_nr hc
  have N1 := own_nne ha hb n1
  have N2 := own_nne ha hc n2
  have N3 := own_nne hb hc n3
  have M := own_mm N1 N2 N3
  have X : own_mx (own_n a) (own_n b) (own_n c) < 65536 := by
    have p := (own_mp (own_mx (own_n a) (own_n b) (own_n c)) N1 N2 N3).mp (Or.inr (Or.inr rfl))
    omega
  refine ⟨fun i j h1 h2 => ?_, fun i hi => ?_, fun w _ j hj => ?_⟩
  · have e : (i = 0 ∧ j = 1) ∨ (i = 0 ∧ j = 2) ∨ (i = 1 ∧ j = 2) := by omega
    rcases e with ⟨rfl, rfl⟩ | ⟨rfl, rfl⟩ | ⟨rfl, rfl⟩
    · rw [own_s30, own_s31]; exact M.1
    · rw [own_s30, own_s32]; exact Nat.lt_trans M.1 M.2
    · rw [own_s31, own_s32]; exact M.2
  · have f : i = 0 ∨ i = 1 ∨ i = 2 := by omega
    rcases f with rfl | rfl | rfl
    · rw [own_s30]; exact Nat.lt_trans M.1 (Nat.lt_trans M.2 X)
    · rw [own_s31]; exact Nat.lt_trans M.2 X
    · rw [own_s32]; exact X
  · rw [own_clb hc w hj, own_clb hb w hj, own_clb ha w hj, own_all w hj, Bool.true_and, Bool.and_eq_false_iff, Bool.and_eq_false_iff, decide_eq_false_iff_not, decide_eq_false_iff_not, decide_eq_false_iff_not, Classical.not_not, Classical.not_not, Classical.not_not]
    have P := own_mp (64 * w + j) N1 N2 N3
    rw [or_assoc, ← P]
    constructor
    · rintro (k | k | k)
      · exact ⟨0, by omega, by rw [own_s30]; exact k⟩
      · exact ⟨1, by omega, by rw [own_s31]; exact k⟩
      · exact ⟨2, by omega, by rw [own_s32]; exact k⟩
    · intro ⟨i, hi, e⟩
      have f : i = 0 ∨ i = 1 ∨ i = 2 := by omega
      rcases f with rfl | rfl | rfl
      · rw [own_s30] at e; exact Or.inl e
      · rw [own_s31] at e; exact Or.inr (Or.inl e)
      · rw [own_s32] at e; exact Or.inr (Or.inr e)

theorem own_mk (x : Int32) : 0 ≤ (x &&& (65535 : Int32)).toInt ∧ (x &&& (65535 : Int32)).toInt ≤ 65535 := by
  have m := c_mask x 65535 16 (by decide) (by decide)
  omega
theorem own_RA {x m r : Int32} (h : (if (m &&& (16 : Int32)) = (0 : Int32) then (x &&& (65535 : Int32)) else (0 : Int32)) = r) : 0 ≤ r.toInt ∧ r.toInt ≤ 65535 := by
  subst h
  split
  · exact own_mk _
  · decide
theorem own_RB {y m a r : Int32} (h : (if (m &&& (1 : Int32)) = (0 : Int32) then (y &&& (65535 : Int32)) else ((a + (y &&& (3 : Int32))) &&& (65535 : Int32))) = r) : 0 ≤ r.toInt ∧ r.toInt ≤ 65535 := by
  subst h
  split
  · exact own_mk _
  · exact own_mk _
theorem own_RC {z m b r : Int32} (h : (if (m &&& (32 : Int32)) = (0 : Int32) then (if (m &&& (2 : Int32)) = (0 : Int32) then (z &&& (65535 : Int32)) else ((b + (z &&& (3 : Int32))) &&& (65535 : Int32))) else (65535 : Int32)) = r) : 0 ≤ r.toInt ∧ r.toInt ≤ 65535 := by
  subst h
  split
  · split
    · exact own_mk _
    · exact own_mk _
  · decide
def own_P0 (k a b c : Int32) : Prop := ∀ v, f_in v k a b c = (0 : Int32)
def own_P1 (k a b c : Int32) : Prop := ∀ v, (f_in v k a b c = (0 : Int32) ↔ ¬ v = a)
def own_P2 (k a b c p q : Int32) : Prop := ∀ v, (f_in v k a b c = (0 : Int32) ↔ (¬ v = p ∧ ¬ v = q))
def own_P3 (k a b c : Int32) : Prop := ∀ v, (f_in v k a b c = (0 : Int32) ↔ (¬ v = a ∧ ¬ v = b ∧ ¬ v = c))
theorem own_10 : ¬ (1 : Int32) = (0 : Int32) := by decide
theorem own_in3 {k : Int32} (h : ¬ k < (3 : Int32)) (v a b c : Int32) : f_in v k a b c = (0 : Int32) ↔ (¬ v = a ∧ ¬ v = b ∧ ¬ v = c) := by
  have h2 : ¬ k < (2 : Int32) := by
    rw [Int32.lt_iff_toInt_lt] at h ⊢
    have e3 : (3 : Int32).toInt = 3 := by decide
    have e2 : (2 : Int32).toInt = 2 := by decide
    omega
  have h1 : ¬ k < (1 : Int32) := by
    rw [Int32.lt_iff_toInt_lt] at h ⊢
    have e3 : (3 : Int32).toInt = 3 := by decide
    have e2 : (1 : Int32).toInt = 1 := by decide
    omega
  unfold f_in
  simp only [if_neg h, if_neg h2, if_neg h1]
  by_cases x : v = a
  · rw [if_pos x]; simp [x]
  · rw [if_neg x]
    by_cases y : v = b
    · rw [if_pos y]; simp [y]
    · rw [if_neg y]
      by_cases z : v = c
      · rw [if_pos z]; simp [z]
      · rw [if_neg z]; simp [x, y, z]
theorem own_in2 {k : Int32} (h3 : k < (3 : Int32)) (h : ¬ k < (2 : Int32)) (v a b c : Int32) : f_in v k a b c = (0 : Int32) ↔ (¬ v = a ∧ ¬ v = b) := by
  have h1 : ¬ k < (1 : Int32) := by
    rw [Int32.lt_iff_toInt_lt] at h ⊢
    have e3 : (2 : Int32).toInt = 2 := by decide
    have e2 : (1 : Int32).toInt = 1 := by decide
    omega
  unfold f_in
  simp only [if_pos h3, if_neg h, if_neg h1]
  by_cases x : v = a
  · rw [if_pos x]; simp [x]
  · rw [if_neg x]
    by_cases y : v = b
    · rw [if_pos y]; simp [y]
    · rw [if_neg y]; simp [x, y]
theorem own_in1 {k : Int32} (h2 : k < (2 : Int32)) (h : ¬ k < (1 : Int32)) (v a b c : Int32) : f_in v k a b c = (0 : Int32) ↔ ¬ v = a := by
  have h3 : k < (3 : Int32) := by
    rw [Int32.lt_iff_toInt_lt] at h2 ⊢
    have e3 : (2 : Int32).toInt = 2 := by decide
    have e2 : (3 : Int32).toInt = 3 := by decide
    omega
  unfold f_in
  simp only [if_pos h3, if_pos h2, if_neg h]
  by_cases x : v = a
  · rw [if_pos x]; simp [x]
  · rw [if_neg x]; simp [x]
theorem own_in0 {k : Int32} (h1 : k < (1 : Int32)) (v a b c : Int32) : f_in v k a b c = (0 : Int32) := by
  have h3 : k < (3 : Int32) := by
    rw [Int32.lt_iff_toInt_lt] at h1 ⊢
    have e3 : (1 : Int32).toInt = 1 := by decide
    have e2 : (3 : Int32).toInt = 3 := by decide
    omega
  have h2 : k < (2 : Int32) := by
    rw [Int32.lt_iff_toInt_lt] at h1 ⊢
    have e3 : (1 : Int32).toInt = 1 := by decide
    have e2 : (2 : Int32).toInt = 2 := by decide
    omega
  unfold f_in
  simp only [if_pos h3, if_pos h2, if_pos h1]
  decide
theorem own_cs {k a b c A B C x y z d : Int32} (hA : (if k < (1 : Int32) then (0 : Int32) else (1 : Int32)) = A) (hB : (if k < (2 : Int32) then (0 : Int32) else (if b = a then (0 : Int32) else (1 : Int32))) = B) (hC : (if k < (3 : Int32) then (0 : Int32) else (if c = a then (0 : Int32) else (if c = b then (0 : Int32) else (1 : Int32)))) = C) (hx : (if A = (0 : Int32) then (0 : Int32) else (1 : Int32)) = x) (hy : (if B = (0 : Int32) then (0 : Int32) else (1 : Int32)) = y) (hz : (if C = (0 : Int32) then (0 : Int32) else (1 : Int32)) = z) (hd : ((x + y) + z) = d) :
    (A = (0 : Int32) ∧ B = (0 : Int32) ∧ C = (0 : Int32) ∧ d = (0 : Int32) ∧ own_P0 k a b c) ∨ (A = (1 : Int32) ∧ B = (0 : Int32) ∧ C = (0 : Int32) ∧ d = (1 : Int32) ∧ own_P1 k a b c) ∨ (A = (1 : Int32) ∧ B = (1 : Int32) ∧ C = (0 : Int32) ∧ d = (2 : Int32) ∧ ¬ b = a ∧ own_P2 k a b c a b) ∨ (A = (1 : Int32) ∧ B = (0 : Int32) ∧ C = (1 : Int32) ∧ d = (2 : Int32) ∧ ¬ c = a ∧ own_P2 k a b c a c) ∨ (A = (1 : Int32) ∧ B = (1 : Int32) ∧ C = (1 : Int32) ∧ d = (3 : Int32) ∧ ¬ b = a ∧ ¬ c = a ∧ ¬ c = b ∧ own_P3 k a b c) := by
  subst hd hx hy hz
  by_cases h1 : k < (1 : Int32)
  · have h3 : k < (3 : Int32) := by
      rw [Int32.lt_iff_toInt_lt] at h1 ⊢
      have e3 : (1 : Int32).toInt = 1 := by decide
      have e2 : (3 : Int32).toInt = 3 := by decide
      omega
    have h2 : k < (2 : Int32) := by
      rw [Int32.lt_iff_toInt_lt] at h1 ⊢
      have e3 : (1 : Int32).toInt = 1 := by decide
      have e2 : (2 : Int32).toInt = 2 := by decide
      omega
    rw [if_pos h1] at hA
    rw [if_pos h2] at hB
    rw [if_pos h3] at hC
    subst hA hB hC
    exact Or.inl ⟨rfl, rfl, rfl, by decide, fun v => own_in0 h1 v a b c⟩
  · rw [if_neg h1] at hA
    by_cases h2 : k < (2 : Int32)
    · have h3 : k < (3 : Int32) := by
        rw [Int32.lt_iff_toInt_lt] at h2 ⊢
        have e3 : (2 : Int32).toInt = 2 := by decide
        have e2 : (3 : Int32).toInt = 3 := by decide
        omega
      rw [if_pos h2] at hB
      rw [if_pos h3] at hC
      subst hA hB hC
      exact Or.inr (Or.inl ⟨rfl, rfl, rfl, by decide, fun v => own_in1 h2 h1 v a b c⟩)
    · rw [if_neg h2] at hB
      by_cases h3 : k < (3 : Int32)
      · rw [if_pos h3] at hC
        by_cases e : b = a
        · rw [if_pos e] at hB
          subst hA hB hC
          refine Or.inr (Or.inl ⟨rfl, rfl, rfl, by decide, fun v => ?_⟩)
          rw [own_in2 h3 h2 v a b c, e]
          exact ⟨fun q => q.1, fun q => ⟨q, q⟩⟩
        · rw [if_neg e] at hB
          subst hA hB hC
          exact Or.inr (Or.inr (Or.inl ⟨rfl, rfl, rfl, by decide, e, fun v => own_in2 h3 h2 v a b c⟩))
      · rw [if_neg h3] at hC
        by_cases e : b = a
        · rw [if_pos e] at hB
          by_cases f : c = a
          · rw [if_pos f] at hC
            subst hA hB hC
            refine Or.inr (Or.inl ⟨rfl, rfl, rfl, by decide, fun v => ?_⟩)
            rw [own_in3 h3 v a b c, e, f]
            exact ⟨fun q => q.1, fun q => ⟨q, q, q⟩⟩
          · rw [if_neg f, if_neg (by rw [e]; exact f)] at hC
            subst hA hB hC
            refine Or.inr (Or.inr (Or.inr (Or.inl ⟨rfl, rfl, rfl, by decide, f, fun v => ?_⟩)))
            rw [own_in3 h3 v a b c, e]
            exact ⟨fun q => q.2, fun q => ⟨q.1, q.1, q.2⟩⟩
        · rw [if_neg e] at hB
          by_cases f : c = a
          · rw [if_pos f] at hC
            subst hA hB hC
            refine Or.inr (Or.inr (Or.inl ⟨rfl, rfl, rfl, by decide, e, fun v => ?_⟩))
            rw [own_in3 h3 v a b c, f]
            exact ⟨fun q => ⟨q.1, q.2.1⟩, fun q => ⟨q.1, q.2, q.1⟩⟩
          · rw [if_neg f] at hC
            by_cases g : c = b
            · rw [if_pos g] at hC
              subst hA hB hC
              refine Or.inr (Or.inr (Or.inl ⟨rfl, rfl, rfl, by decide, e, fun v => ?_⟩))
              rw [own_in3 h3 v a b c, g]
              exact ⟨fun q => ⟨q.1, q.2.1⟩, fun q => ⟨q.1, q.2, q.2⟩⟩
            · rw [if_neg g] at hC
              subst hA hB hC
              exact Or.inr (Or.inr (Or.inr (Or.inr ⟨rfl, rfl, rfl, by decide, e, f, g, fun v => own_in3 h3 v a b c⟩)))
def own_st (F : Int32 → Int32) (p : Int32) : Int32 := (if p < (65535 : Int32) then (if F (p + (1 : Int32)) = (0 : Int32) then (1 : Int32) else (0 : Int32)) else (0 : Int32))
def own_ze (F : Int32 → Int32) : Int32 := (if F (0 : Int32) = (0 : Int32) then (1 : Int32) else (0 : Int32))
theorem own_i0 : (0 : Int32).toInt = 0 := by decide
theorem own_i65 : (65535 : Int32).toInt = 65535 := by decide
theorem own_F1s {p : Int32} (hp : 0 ≤ p.toInt ∧ p.toInt ≤ 65535) {F : Int32 → Int32} (P : ∀ v, (F v = (0 : Int32) ↔ ¬ v = p)) : f_q1 p = own_ze F + own_st F p := by
  have e1 := (own_i1 hp.1 (by omega)).1
  have z0 := own_i0
  have z5 := own_i65
  have c0 : F (0 : Int32) = (0 : Int32) ↔ ¬ p = (0 : Int32) := by rw [P, ← Int32.toInt_inj, ← Int32.toInt_inj]; omega
  have c1 : F (p + (1 : Int32)) = (0 : Int32) := by rw [P, ← Int32.toInt_inj]; omega
  have c2 : p < (65535 : Int32) ↔ ¬ p = (65535 : Int32) := by rw [Int32.lt_iff_toInt_lt, ← Int32.toInt_inj]; omega
  unfold own_ze own_st f_q1
  rw [if_pos c1]
  by_cases x : p = (0 : Int32)
  · have x' : ¬ F (0 : Int32) = (0 : Int32) := fun h => c0.mp h x
    simp only [if_pos x, if_neg x']
    by_cases y : p = (65535 : Int32)
    · simp only [if_pos y, if_neg (fun h => c2.mp h y)]; decide
    · simp only [if_neg y, if_pos (c2.mpr y)]; decide
  · simp only [if_neg x, if_pos (c0.mpr x)]
    by_cases y : p = (65535 : Int32)
    · simp only [if_pos y, if_neg (fun h => c2.mp h y)]; decide
    · simp only [if_neg y, if_pos (c2.mpr y)]; decide
theorem own_F2s {p q : Int32} (hp : 0 ≤ p.toInt ∧ p.toInt ≤ 65535) (hq : 0 ≤ q.toInt ∧ q.toInt ≤ 65535) (pq : p.toInt < q.toInt) {F : Int32 → Int32} (P : ∀ v, (F v = (0 : Int32) ↔ (¬ v = p ∧ ¬ v = q))) : f_q2 p q = (own_ze F + own_st F p) + own_st F q := by
  have e1 := (own_i1 hp.1 (by omega)).1
  have e2 := (own_i1 hq.1 (by omega)).1
  have z0 := own_i0
  have z5 := own_i65
  have c0 : F (0 : Int32) = (0 : Int32) ↔ ¬ p = (0 : Int32) := by rw [P, ← Int32.toInt_inj, ← Int32.toInt_inj, ← Int32.toInt_inj]; omega
  have c1 : F (p + (1 : Int32)) = (0 : Int32) ↔ ¬ q = p + (1 : Int32) := by rw [P, ← Int32.toInt_inj, ← Int32.toInt_inj, ← Int32.toInt_inj]; omega
  have c2 : F (q + (1 : Int32)) = (0 : Int32) := by rw [P, ← Int32.toInt_inj, ← Int32.toInt_inj]; omega
  have c3 : p < (65535 : Int32) := by rw [Int32.lt_iff_toInt_lt]; omega
  have c4 : q < (65535 : Int32) ↔ ¬ q = (65535 : Int32) := by rw [Int32.lt_iff_toInt_lt, ← Int32.toInt_inj]; omega
  unfold own_ze own_st f_q2
  rw [if_pos c2, if_pos c3]
  clear P e1 e2 hp hq pq
  have C0 := mt c0.mp
  have C1 := mt c1.mp
  have C4 := mt c4.mp
  rw [Classical.not_not] at C0 C1 C4
  by_cases x : p = (0 : Int32) <;> by_cases y : q = p + (1 : Int32) <;> by_cases z : q = (65535 : Int32) <;> (first | rw [if_pos (c0.mpr x)] | rw [if_neg (C0 x)]) <;> (first | rw [if_pos (c1.mpr y)] | rw [if_neg (C1 y)]) <;> (first | rw [if_pos (c4.mpr z)] | rw [if_neg (C4 z)]) <;> (first | simp only [if_pos y] | simp only [if_neg y]) <;> (first | simp only [if_pos x] | simp only [if_neg x]) <;> (first | simp only [if_pos z] | simp only [if_neg z]) <;> decide
theorem own_F3s {p q r : Int32} (hp : 0 ≤ p.toInt ∧ p.toInt ≤ 65535) (hq : 0 ≤ q.toInt ∧ q.toInt ≤ 65535) (hr : 0 ≤ r.toInt ∧ r.toInt ≤ 65535) (pq : p.toInt < q.toInt) (qr : q.toInt < r.toInt) {F : Int32 → Int32} (P : ∀ v, (F v = (0 : Int32) ↔ (¬ v = p ∧ ¬ v = q ∧ ¬ v = r))) : f_q3 p q r = ((own_ze F + own_st F p) + own_st F q) + own_st F r := by
  have e1 := (own_i1 hp.1 (by omega)).1
  have e2 := (own_i1 hq.1 (by omega)).1
  have e3 := (own_i1 hr.1 (by omega)).1
  have z0 := own_i0
  have z5 := own_i65
  have c0 : F (0 : Int32) = (0 : Int32) ↔ ¬ p = (0 : Int32) := by rw [P, ← Int32.toInt_inj, ← Int32.toInt_inj, ← Int32.toInt_inj, ← Int32.toInt_inj]; omega
  have c1 : F (p + (1 : Int32)) = (0 : Int32) ↔ ¬ q = p + (1 : Int32) := by rw [P, ← Int32.toInt_inj, ← Int32.toInt_inj, ← Int32.toInt_inj, ← Int32.toInt_inj]; omega
  have c5 : F (q + (1 : Int32)) = (0 : Int32) ↔ ¬ r = q + (1 : Int32) := by rw [P, ← Int32.toInt_inj, ← Int32.toInt_inj, ← Int32.toInt_inj, ← Int32.toInt_inj]; omega
  have c2 : F (r + (1 : Int32)) = (0 : Int32) := by rw [P, ← Int32.toInt_inj, ← Int32.toInt_inj, ← Int32.toInt_inj]; omega
  have c3 : p < (65535 : Int32) := by rw [Int32.lt_iff_toInt_lt]; omega
  have c6 : q < (65535 : Int32) := by rw [Int32.lt_iff_toInt_lt]; omega
  have c4 : r < (65535 : Int32) ↔ ¬ r = (65535 : Int32) := by rw [Int32.lt_iff_toInt_lt, ← Int32.toInt_inj]; omega
  unfold own_ze own_st f_q3
  rw [if_pos c2, if_pos c3, if_pos c6]
  clear P e1 e2 e3 hp hq hr pq qr
  have C0 := mt c0.mp
  have C1 := mt c1.mp
  have C4 := mt c4.mp
  have C5 := mt c5.mp
  rw [Classical.not_not] at C0 C1 C4 C5
  by_cases x : p = (0 : Int32) <;> by_cases y : q = p + (1 : Int32) <;> by_cases w : r = q + (1 : Int32) <;> by_cases z : r = (65535 : Int32) <;> (first | rw [if_pos (c0.mpr x)] | rw [if_neg (C0 x)]) <;> (first | rw [if_pos (c1.mpr y)] | rw [if_neg (C1 y)]) <;> (first | rw [if_pos (c5.mpr w)] | rw [if_neg (C5 w)]) <;> (first | rw [if_pos (c4.mpr z)] | rw [if_neg (C4 z)]) <;> (first | simp only [if_pos w] | simp only [if_neg w]) <;> (first | simp only [if_pos y] | simp only [if_neg y]) <;> (first | simp only [if_pos x] | simp only [if_neg x]) <;> (first | simp only [if_pos z] | simp only [if_neg z]) <;> decide
theorem own_ac3 (a b c : Int32) : (a + b) + c = (a + c) + b := by rw [Int32.add_assoc, Int32.add_comm b c, ← Int32.add_assoc]
theorem own_sa (p k a b c : Int32) : f_sa p k a b c = own_st (fun v => f_in v k a b c) p := rfl
theorem own_L0 {k a b c u w : Int32} (P : own_P0 k a b c) (hu : f_in (0 : Int32) k a b c = u) (hw : (if u = (0 : Int32) then (1 : Int32) else (0 : Int32)) = w) : (1 : Int32) = w := by
  rw [← hw, ← hu, if_pos (P 0)]
theorem own_L1 {k a b c u w s t r : Int32} (ha : 0 ≤ a.toInt ∧ a.toInt ≤ 65535) (P : own_P1 k a b c) (hu : f_in (0 : Int32) k a b c = u) (hw : (if u = (0 : Int32) then (1 : Int32) else (0 : Int32)) = w) (hs : f_sa a k a b c = s) (ht : w + s = t) (hr : f_q1 (Int32.ofNat ((own_s1 (own_n a)) 0)) = r) : r = t := by
  have e : Int32.ofNat ((own_s1 (own_n a)) 0) = a := (own_on ha.1).symm
  rw [e] at hr
  subst hr ht hs hw hu
  exact own_F1s ha (F := fun v => f_in v k a b c) P
theorem own_s2l {a b : Int32} (ha : 0 ≤ a.toInt) (hb : 0 ≤ b.toInt) (h : own_n a < own_n b) : Int32.ofNat ((own_s2 (own_n a) (own_n b)) 0) = a ∧ Int32.ofNat ((own_s2 (own_n a) (own_n b)) 1) = b := by
  have z0 : (own_s2 (own_n a) (own_n b)) 0 = own_n a := by unfold own_s2; rw [if_pos rfl, if_pos h]
  have z1 : (own_s2 (own_n a) (own_n b)) 1 = own_n b := by unfold own_s2; rw [if_neg (by omega), if_pos h]
  rw [z0, z1]
  exact ⟨(own_on ha).symm, (own_on hb).symm⟩
theorem own_s2g {a b : Int32} (ha : 0 ≤ a.toInt) (hb : 0 ≤ b.toInt) (h : ¬ own_n a < own_n b) : Int32.ofNat ((own_s2 (own_n a) (own_n b)) 0) = b ∧ Int32.ofNat ((own_s2 (own_n a) (own_n b)) 1) = a := by
  have z0 : (own_s2 (own_n a) (own_n b)) 0 = own_n b := by unfold own_s2; rw [if_pos rfl, if_neg h]
  have z1 : (own_s2 (own_n a) (own_n b)) 1 = own_n a := by unfold own_s2; rw [if_neg (by omega), if_neg h]
  rw [z0, z1]
  exact ⟨(own_on hb).symm, (own_on ha).symm⟩
theorem own_L2 {k a b c p q u w s t s2 t2 r : Int32} (ha : 0 ≤ p.toInt ∧ p.toInt ≤ 65535) (hb : 0 ≤ q.toInt ∧ q.toInt ≤ 65535) (P : ¬ q = p ∧ own_P2 k a b c p q) (hu : f_in (0 : Int32) k a b c = u) (hw : (if u = (0 : Int32) then (1 : Int32) else (0 : Int32)) = w) (hs : f_sa p k a b c = s) (ht : w + s = t) (hs2 : f_sa q k a b c = s2) (ht2 : t + s2 = t2) (hr : f_q2 (Int32.ofNat ((own_s2 (own_n p) (own_n q)) 0)) (Int32.ofNat ((own_s2 (own_n p) (own_n q)) 1)) = r) : r = t2 := by
  have N := own_nne ha hb P.1
  have na := own_nc ha.1
  have nb := own_nc hb.1
  subst ht2 ht hs hw hu hs2
  by_cases h : own_n p < own_n q
  · have e := own_s2l ha.1 hb.1 h
    rw [e.1, e.2] at hr
    subst hr
    exact own_F2s ha hb (by omega) (F := fun v => f_in v k a b c) P.2
  · have e := own_s2g ha.1 hb.1 h
    rw [e.1, e.2] at hr
    subst hr
    refine (own_F2s hb ha (by omega) (F := fun v => f_in v k a b c) (fun v => (P.2 v).trans ⟨fun z => ⟨z.2, z.1⟩, fun z => ⟨z.2, z.1⟩⟩)).trans ?_
    exact own_ac3 _ _ _
theorem own_L3s {k a b c p q r x0 x1 x2 v : Int32} (hp : 0 ≤ p.toInt ∧ p.toInt ≤ 65535) (hq : 0 ≤ q.toInt ∧ q.toInt ≤ 65535) (hr : 0 ≤ r.toInt ∧ r.toInt ≤ 65535) (pq : own_n p < own_n q) (qr : own_n q < own_n r) (P : ∀ v, (f_in v k a b c = (0 : Int32) ↔ (¬ v = p ∧ ¬ v = q ∧ ¬ v = r))) (e0 : x0 = p) (e1 : x1 = q) (e2 : x2 = r) (hv : f_q3 x0 x1 x2 = v) : v = ((own_ze (fun v => f_in v k a b c) + own_st (fun v => f_in v k a b c) p) + own_st (fun v => f_in v k a b c) q) + own_st (fun v => f_in v k a b c) r := by
  subst e0 e1 e2 hv
  have np := own_nc hp.1
  have nq := own_nc hq.1
  have nr := own_nc hr.1
  exact own_F3s hp hq hr (by omega) (by omega) (F := fun v => f_in v k a b c) P
theorem own_s3o {p q r : Nat} {a b c : Nat} (pq : p < q) (qr : q < r) (h : (a = p ∧ b = q ∧ c = r) ∨ (a = p ∧ b = r ∧ c = q) ∨ (a = q ∧ b = p ∧ c = r) ∨ (a = q ∧ b = r ∧ c = p) ∨ (a = r ∧ b = p ∧ c = q) ∨ (a = r ∧ b = q ∧ c = p)) : own_s3 a b c 0 = p ∧ own_s3 a b c 1 = q ∧ own_s3 a b c 2 = r := by
  have m : own_mn a b c = p := by
    unfold own_mn
    by_cases x : a < b <;> by_cases y : a < c <;> by_cases z : b < c <;> simp only [x, y, z, if_true, if_false] <;> omega
  have m2 : own_mx a b c = r := by
    unfold own_mx
    by_cases x : a < b <;> by_cases y : a < c <;> by_cases z : b < c <;> simp only [x, y, z, if_true, if_false] <;> omega
  rw [own_s30, own_s31, own_s32, m, m2]
  exact ⟨rfl, by omega, rfl⟩
theorem own_L3 {k a b c u w s t s2 t2 s3 t3 r : Int32} (ha : 0 ≤ a.toInt ∧ a.toInt ≤ 65535) (hb : 0 ≤ b.toInt ∧ b.toInt ≤ 65535) (hc : 0 ≤ c.toInt ∧ c.toInt ≤ 65535) (P : ¬ b = a ∧ ¬ c = a ∧ ¬ c = b ∧ own_P3 k a b c) (hu : f_in (0 : Int32) k a b c = u) (hw : (if u = (0 : Int32) then (1 : Int32) else (0 : Int32)) = w) (hs : f_sa a k a b c = s) (ht : w + s = t) (hs2 : f_sa b k a b c = s2) (ht2 : t + s2 = t2) (hs3 : f_sa c k a b c = s3) (ht3 : t2 + s3 = t3) (hr : f_q3 (Int32.ofNat ((own_s3 (own_n a) (own_n b) (own_n c)) 0)) (Int32.ofNat ((own_s3 (own_n a) (own_n b) (own_n c)) 1)) (Int32.ofNat ((own_s3 (own_n a) (own_n b) (own_n c)) 2)) = r) : r = t3 := by
  obtain ⟨n1, n2, n3, P⟩ := P
  have N1 := own_nne ha hb n1
  have N2 := own_nne ha hc n2
  have N3 := own_nne hb hc n3
  have oa := (own_on ha.1).symm
  have ob := (own_on hb.1).symm
  have oc := (own_on hc.1).symm
  subst ht3 hs3 ht2 ht hs hw hu hs2
  have G : ∀ p q r' : Int32, (0 ≤ p.toInt ∧ p.toInt ≤ 65535) → (0 ≤ q.toInt ∧ q.toInt ≤ 65535) → (0 ≤ r'.toInt ∧ r'.toInt ≤ 65535) → own_n p < own_n q → own_n q < own_n r' → ((own_n a = own_n p ∧ own_n b = own_n q ∧ own_n c = own_n r') ∨ (own_n a = own_n p ∧ own_n b = own_n r' ∧ own_n c = own_n q) ∨ (own_n a = own_n q ∧ own_n b = own_n p ∧ own_n c = own_n r') ∨ (own_n a = own_n q ∧ own_n b = own_n r' ∧ own_n c = own_n p) ∨ (own_n a = own_n r' ∧ own_n b = own_n p ∧ own_n c = own_n q) ∨ (own_n a = own_n r' ∧ own_n b = own_n q ∧ own_n c = own_n p)) → (∀ v, (f_in v k a b c = (0 : Int32) ↔ (¬ v = p ∧ ¬ v = q ∧ ¬ v = r'))) → r = ((own_ze (fun v => f_in v k a b c) + own_st (fun v => f_in v k a b c) p) + own_st (fun v => f_in v k a b c) q) + own_st (fun v => f_in v k a b c) r' := by
    intro p q r' hp hq hr' pq qr o PP
    have s := own_s3o pq qr o
    exact own_L3s hp hq hr' pq qr PP (by rw [s.1]; exact (own_on hp.1).symm) (by rw [s.2.1]; exact (own_on hq.1).symm) (by rw [s.2.2]; exact (own_on hr'.1).symm) hr
  show r = ((own_ze (fun v => f_in v k a b c) + own_st (fun v => f_in v k a b c) a) + own_st (fun v => f_in v k a b c) b) + own_st (fun v => f_in v k a b c) c
  generalize own_ze (fun v => f_in v k a b c) = Z0 at G
  generalize own_st (fun v => f_in v k a b c) = ST at G
  rcases Nat.lt_or_gt_of_ne N1 with h1 | h1
  · rcases Nat.lt_or_gt_of_ne N3 with h3 | h3
    · exact G a b c ha hb hc h1 h3 (Or.inl ⟨rfl, rfl, rfl⟩) P
    · rcases Nat.lt_or_gt_of_ne N2 with h2 | h2
      · rw [G a c b ha hc hb h2 h3 (Or.inr (Or.inl ⟨rfl, rfl, rfl⟩)) (fun v => (P v).trans ⟨fun z => ⟨z.1, z.2.2, z.2.1⟩, fun z => ⟨z.1, z.2.2, z.2.1⟩⟩)]
        exact own_ac3 _ _ _
      · rw [G c a b hc ha hb h2 h1 (Or.inr (Or.inr (Or.inr (Or.inl ⟨rfl, rfl, rfl⟩)))) (fun v => (P v).trans ⟨fun z => ⟨z.2.2, z.1, z.2.1⟩, fun z => ⟨z.2.1, z.2.2, z.1⟩⟩)]
        rw [own_ac3 Z0 (ST c) (ST a), own_ac3 _ (ST c) (ST b)]
  · rcases Nat.lt_or_gt_of_ne N2 with h2 | h2
    · rw [G b a c hb ha hc h1 h2 (Or.inr (Or.inr (Or.inl ⟨rfl, rfl, rfl⟩))) (fun v => (P v).trans ⟨fun z => ⟨z.2.1, z.1, z.2.2⟩, fun z => ⟨z.2.1, z.1, z.2.2⟩⟩)]
      rw [own_ac3 Z0 (ST b) (ST a)]
    · rcases Nat.lt_or_gt_of_ne N3 with h3 | h3
      · rw [G b c a hb hc ha h3 h2 (Or.inr (Or.inr (Or.inr (Or.inr (Or.inl ⟨rfl, rfl, rfl⟩))))) (fun v => (P v).trans ⟨fun z => ⟨z.2.1, z.2.2, z.1⟩, fun z => ⟨z.2.2, z.1, z.2.1⟩⟩)]
        rw [own_ac3 _ (ST c) (ST a), own_ac3 Z0 (ST b) (ST a)]
      · rw [G c b a hc hb ha h3 h1 (Or.inr (Or.inr (Or.inr (Or.inr (Or.inr ⟨rfl, rfl, rfl⟩))))) (fun v => (P v).trans ⟨fun z => ⟨z.2.2, z.2.1, z.1⟩, fun z => ⟨z.2.2, z.2.1, z.1⟩⟩)]
        rw [own_ac3 _ (ST b) (ST a), own_ac3 Z0 (ST c) (ST a), own_ac3 _ (ST c) (ST b)]

theorem kw1 {Z : State} {a0 : Array Value} (hw : ∀ d ∈ tables_1, d.before a0 Z = true) : (Jvm.Cond.classLink "com/example/tightbit/tightbit/ComplementRunCountPinLaw" (16 : Nat) "com/example/tightbit/tightbit/SparseDocIds$Runs").before a0 Z = true := hw _ (List.mem_of_getElem? (i := 1) rfl)
theorem kw7 {Z : State} {a0 : Array Value} (hw : ∀ d ∈ tables_1, d.before a0 Z = true) : (Jvm.Cond.code ({ cls := "com/example/tightbit/tightbit/SparseDocIds$Runs", name := "<init>", desc := "([C)V" } : Jvm.MethodName) prog_67_method_1_code (2 : Nat) (Option.none : Option Jvm.ClassFile.FieldType)).before a0 Z = true := hw _ (List.mem_of_getElem? (i := 7) rfl)
theorem pd9 : parseMethodDescriptor "([C)V" = some ⟨[(.array .char)], none⟩ := by decide +kernel
theorem kw5 {Z : State} {a0 : Array Value} (hw : ∀ d ∈ tables_1, d.before a0 Z = true) : (Jvm.Cond.methodLink "com/example/tightbit/tightbit/ComplementRunCountPinLaw" (18 : Nat) ({ cls := "com/example/tightbit/tightbit/SparseDocIds$Runs", name := "<init>", desc := "([C)V" } : Jvm.MethodName)).before a0 Z = true := hw _ (List.mem_of_getElem? (i := 5) rfl)
theorem kw6 {Z : State} {a0 : Array Value} (hw : ∀ d ∈ tables_1, d.before a0 Z = true) : (Jvm.Cond.instanceMethod ({ cls := "com/example/tightbit/tightbit/SparseDocIds$Runs", name := "<init>", desc := "([C)V" } : Jvm.MethodName)).before a0 Z = true := hw _ (List.mem_of_getElem? (i := 6) rfl)
theorem kw21 {Z : State} {a0 : Array Value} (hw : ∀ d ∈ tables_1, d.before a0 Z = true) : (Jvm.Cond.code ({ cls := "com/example/tightbit/tightbit/SparseDocIds$WordBlock", name := "words", desc := "()[J" } : Jvm.MethodName) prog_70_method_6_code (2 : Nat) (Option.some (Jvm.ClassFile.FieldType.array Jvm.ClassFile.FieldType.long))).before a0 Z = true := hw _ (List.mem_of_getElem? (i := 21) rfl)
theorem pd10 : parseMethodDescriptor "()[J" = some ⟨[], some (.array .long)⟩ := by decide +kernel
abbrev mt19 : MethodName := ⟨"com/example/tightbit/tightbit/SparseDocIds$Runs", "words", "()[J"⟩
theorem kw13 {Z : State} {a0 : Array Value} (hw : ∀ d ∈ tables_1, d.before a0 Z = true) : (Jvm.Cond.methodLink "com/example/tightbit/tightbit/ComplementRunCountPinLaw" (21 : Nat) ({ cls := "com/example/tightbit/tightbit/SparseDocIds$Runs", name := "words", desc := "()[J" } : Jvm.MethodName)).before a0 Z = true := hw _ (List.mem_of_getElem? (i := 13) rfl)
theorem kw14 {Z : State} {a0 : Array Value} (hw : ∀ d ∈ tables_1, d.before a0 Z = true) : (Jvm.Cond.sameMethod "com/example/tightbit/tightbit/SparseDocIds$Runs" "com/example/tightbit/tightbit/SparseDocIds$WordBlock" "words" "()[J").before a0 Z = true := hw _ (List.mem_of_getElem? (i := 14) rfl)
theorem kw15 {Z : State} {a0 : Array Value} (hw : ∀ d ∈ tables_1, d.before a0 Z = true) : (Jvm.Cond.declares ({ cls := "com/example/tightbit/tightbit/SparseDocIds$WordBlock", name := "words", desc := "()[J" } : Jvm.MethodName)).before a0 Z = true := hw _ (List.mem_of_getElem? (i := 15) rfl)
theorem kw17 {Z : State} {a0 : Array Value} (hw : ∀ d ∈ tables_1, d.before a0 Z = true) : (Jvm.Cond.landsInDefault "com/example/tightbit/tightbit/SparseDocIds$Runs" ({ cls := "com/example/tightbit/tightbit/SparseDocIds$Runs", name := "words", desc := "()[J" } : Jvm.MethodName) ({ cls := "com/example/tightbit/tightbit/SparseDocIds$WordBlock", name := "words", desc := "()[J" } : Jvm.MethodName)).before a0 Z = true := hw _ (List.mem_of_getElem? (i := 17) rfl)
theorem kw16 {Z : State} {a0 : Array Value} (hw : ∀ d ∈ tables_1, d.before a0 Z = true) : (Jvm.Cond.instanceMethod ({ cls := "com/example/tightbit/tightbit/SparseDocIds$WordBlock", name := "words", desc := "()[J" } : Jvm.MethodName)).before a0 Z = true := hw _ (List.mem_of_getElem? (i := 16) rfl)
theorem kw65 {Z : State} {a0 : Array Value} (hw : ∀ d ∈ tables_1, d.before a0 Z = true) : (Jvm.Cond.classLink "com/example/tightbit/tightbit/ComplementRunCountPinLaw" (29 : Nat) "com/example/tightbit/tightbit/SparseDocIds$Complement").before a0 Z = true := hw _ (List.mem_of_getElem? (i := 65) rfl)
theorem kw67 {Z : State} {a0 : Array Value} (hw : ∀ d ∈ tables_1, d.before a0 Z = true) : (Jvm.Cond.initialized "com/example/tightbit/tightbit/SparseDocIds$Complement").before a0 Z = true := hw _ (List.mem_of_getElem? (i := 67) rfl)
theorem kw68 {Z : State} {a0 : Array Value} (hw : ∀ d ∈ tables_1, d.before a0 Z = true) : (Jvm.Cond.constant "com/example/tightbit/tightbit/ComplementRunCountPinLaw" (33 : Nat) (65536 : Int32)).before a0 Z = true := hw _ (List.mem_of_getElem? (i := 68) rfl)
theorem kw71 {Z : State} {a0 : Array Value} (hw : ∀ d ∈ tables_1, d.before a0 Z = true) : (Jvm.Cond.code ({ cls := "com/example/tightbit/tightbit/SparseDocIds$Complement", name := "<init>", desc := "([JI)V" } : Jvm.MethodName) prog_66_method_1_code (7 : Nat) (Option.none : Option Jvm.ClassFile.FieldType)).before a0 Z = true := hw _ (List.mem_of_getElem? (i := 71) rfl)
theorem pd11 : parseMethodDescriptor "([JI)V" = some ⟨[(.array .long), .int], none⟩ := by decide +kernel
theorem kw69 {Z : State} {a0 : Array Value} (hw : ∀ d ∈ tables_1, d.before a0 Z = true) : (Jvm.Cond.methodLink "com/example/tightbit/tightbit/ComplementRunCountPinLaw" (34 : Nat) ({ cls := "com/example/tightbit/tightbit/SparseDocIds$Complement", name := "<init>", desc := "([JI)V" } : Jvm.MethodName)).before a0 Z = true := hw _ (List.mem_of_getElem? (i := 69) rfl)
theorem kw70 {Z : State} {a0 : Array Value} (hw : ∀ d ∈ tables_1, d.before a0 Z = true) : (Jvm.Cond.instanceMethod ({ cls := "com/example/tightbit/tightbit/SparseDocIds$Complement", name := "<init>", desc := "([JI)V" } : Jvm.MethodName)).before a0 Z = true := hw _ (List.mem_of_getElem? (i := 70) rfl)
theorem kw85 {Z : State} {a0 : Array Value} (hw : ∀ d ∈ tables_1, d.before a0 Z = true) : (Jvm.Cond.code ({ cls := "com/example/tightbit/tightbit/SparseDocIds$Complement", name := "runCount", desc := "()I" } : Jvm.MethodName) prog_66_method_5_code (3 : Nat) (Option.some Jvm.ClassFile.FieldType.int)).before a0 Z = true := hw _ (List.mem_of_getElem? (i := 85) rfl)
theorem kw81 {Z : State} {a0 : Array Value} (hw : ∀ d ∈ tables_1, d.before a0 Z = true) : (Jvm.Cond.methodLink "com/example/tightbit/tightbit/ComplementRunCountPinLaw" (40 : Nat) ({ cls := "com/example/tightbit/tightbit/SparseDocIds$Complement", name := "runCount", desc := "()I" } : Jvm.MethodName)).before a0 Z = true := hw _ (List.mem_of_getElem? (i := 81) rfl)
theorem kw82 {Z : State} {a0 : Array Value} (hw : ∀ d ∈ tables_1, d.before a0 Z = true) : (Jvm.Cond.declares ({ cls := "com/example/tightbit/tightbit/SparseDocIds$Complement", name := "runCount", desc := "()I" } : Jvm.MethodName)).before a0 Z = true := hw _ (List.mem_of_getElem? (i := 82) rfl)
theorem kw84 {Z : State} {a0 : Array Value} (hw : ∀ d ∈ tables_1, d.before a0 Z = true) : (Jvm.Cond.selects "com/example/tightbit/tightbit/SparseDocIds$Complement" ({ cls := "com/example/tightbit/tightbit/SparseDocIds$Complement", name := "runCount", desc := "()I" } : Jvm.MethodName) ({ cls := "com/example/tightbit/tightbit/SparseDocIds$Complement", name := "runCount", desc := "()I" } : Jvm.MethodName)).before a0 Z = true := hw _ (List.mem_of_getElem? (i := 84) rfl)
theorem kw83 {Z : State} {a0 : Array Value} (hw : ∀ d ∈ tables_1, d.before a0 Z = true) : (Jvm.Cond.instanceMethod ({ cls := "com/example/tightbit/tightbit/SparseDocIds$Complement", name := "runCount", desc := "()I" } : Jvm.MethodName)).before a0 Z = true := hw _ (List.mem_of_getElem? (i := 83) rfl)
theorem kw88 {Z : State} {a0 : Array Value} (hw : ∀ d ∈ tables_1, d.before a0 Z = true) : (Jvm.Cond.code ({ cls := "com/example/tightbit/tightbit/ComplementRunCountPinLaw", name := "clear", desc := "([JI)V" } : Jvm.MethodName) method_4_code (2 : Nat) (Option.none : Option Jvm.ClassFile.FieldType)).before a0 Z = true := hw _ (List.mem_of_getElem? (i := 88) rfl)
theorem kw86 {Z : State} {a0 : Array Value} (hw : ∀ d ∈ tables_1, d.before a0 Z = true) : (Jvm.Cond.methodLink "com/example/tightbit/tightbit/ComplementRunCountPinLaw" (25 : Nat) ({ cls := "com/example/tightbit/tightbit/ComplementRunCountPinLaw", name := "clear", desc := "([JI)V" } : Jvm.MethodName)).before a0 Z = true := hw _ (List.mem_of_getElem? (i := 86) rfl)
theorem kw87 {Z : State} {a0 : Array Value} (hw : ∀ d ∈ tables_1, d.before a0 Z = true) : (Jvm.Cond.static ({ cls := "com/example/tightbit/tightbit/ComplementRunCountPinLaw", name := "clear", desc := "([JI)V" } : Jvm.MethodName)).before a0 Z = true := hw _ (List.mem_of_getElem? (i := 87) rfl)
theorem kw101 {Z : State} {a0 : Array Value} (hw : ∀ d ∈ tables_1, d.before a0 Z = true) : (Jvm.Cond.code ({ cls := "com/example/tightbit/tightbit/ComplementRunCountPinLaw", name := "startsAfter", desc := "(IIIII)I" } : Jvm.MethodName) method_3_code (5 : Nat) (Option.some Jvm.ClassFile.FieldType.int)).before a0 Z = true := hw _ (List.mem_of_getElem? (i := 101) rfl)
theorem pd12 : parseMethodDescriptor "(IIIII)I" = some ⟨[.int, .int, .int, .int, .int], some .int⟩ := by decide +kernel
theorem kw99 {Z : State} {a0 : Array Value} (hw : ∀ d ∈ tables_1, d.before a0 Z = true) : (Jvm.Cond.methodLink "com/example/tightbit/tightbit/ComplementRunCountPinLaw" (36 : Nat) ({ cls := "com/example/tightbit/tightbit/ComplementRunCountPinLaw", name := "startsAfter", desc := "(IIIII)I" } : Jvm.MethodName)).before a0 Z = true := hw _ (List.mem_of_getElem? (i := 99) rfl)
theorem kw100 {Z : State} {a0 : Array Value} (hw : ∀ d ∈ tables_1, d.before a0 Z = true) : (Jvm.Cond.static ({ cls := "com/example/tightbit/tightbit/ComplementRunCountPinLaw", name := "startsAfter", desc := "(IIIII)I" } : Jvm.MethodName)).before a0 Z = true := hw _ (List.mem_of_getElem? (i := 100) rfl)
theorem ef_law (m : MethodId) (xlaw_1 : Int32) (xlaw_2 : Int32) (xlaw_3 : Int32) (xlaw_4 : Int32) : entryFrame m #[(.int xlaw_1), (.int xlaw_2), (.int xlaw_3), (.int xlaw_4)] maxLocals = mkF m 0 #[.val (.int xlaw_1), .val (.int xlaw_2), .val (.int xlaw_3), .val (.int xlaw_4), .unset, .unset, .unset, .unset, .unset, .unset, .unset, .unset, .unset, .unset, .unset] [] := by first | (simp [entryFrame, mkF, argsToLocals, Value.category, maxLocals]; done) | rfl
def Q_law (n0 : Nat) (v : Option Value) (h : Heap) (L : List Loc) : Prop := v = some (.int 1) ∧ Fr n0 L
set_option maxRecDepth 65536 in
set_option maxHeartbeats 40000000 in
theorem rm_law (l : Launch) (Z : State) (a0 : Array Value) (hw : ∀ d ∈ tables_1, d.before a0 Z = true) (ws : List Jvm.Cond) (xlaw_1 : Int32) (xlaw_2 : Int32) (xlaw_3 : Int32) (xlaw_4 : Int32) (h0 : Heap) (n0 : Nat) (Z0 : n0 ≤ h0.size)  :
    MetFree l x (head1 (Jvm.Cond.code x code maxLocals ret :: ws) room_1) (fun a U => a = #[(.int xlaw_1), (.int xlaw_2), (.int xlaw_3), (.int xlaw_4)] ∧ Z.Warmed39 U.vm ∧ U.heap = h0) (fun _ _ _ _ _ => True) (fun _ U o U' => ∃ v L, o = .returned v ∧ (Q_law n0) v U'.heap L ∧ FrameEnd U o U' L 24 2176) := by
  refine MetFree.of_bodySF (plainFor_of_name pn4) hisR ?_
  intro p e s m args below meth c s₁ Bd hml0 hP hK
  obtain ⟨rfl, hZ, hh⟩ := hP
  have hx := Bd.exec
  have hby := Bd.bytes
  have hml : c.maxLocals = 15 := hml0
  have hown : s.vm.findClass "com/example/tightbit/tightbit/ComplementRunCountPinLaw" = some m.cls := findClass_of_methodNamed Bd.named
  have hnm := (name_of_methodNamed Bd.named Bd.method).1
  have X0 : Stand p l e room_1 s m #[(.int xlaw_1), (.int xlaw_2), (.int xlaw_3), (.int xlaw_4)] below meth c s₁ [] 0 0 := Stand.of_body Bd
  have e0 : s₁.heap = h0 := by rw [← hh, Bd.state]; rfl
  have N0 := Fr.nil n0
  refine Wq.step (p := p) (e := e) (below := below) (En := (fun o t L => FrameEnd s o t L 24 2176)) (Q := (Q_law n0)) (fun t k => castTop (ef_law m xlaw_1 xlaw_2 xlaw_3 xlaw_4) k) ?_
  show Wq _ _ _ _ _ (s₁.setTop (mkF m 0 #[.val (.int xlaw_1), .val (.int xlaw_2), .val (.int xlaw_3), .val (.int xlaw_4), .unset, .unset, .unset, .unset, .unset, .unset, .unset, .unset, .unset, .unset, .unset] []))
  refine Ow.iloadN X0 hx (pc' := 1) (hb hby at_0) rfl ?_
  refine Ow.iconst X0 hx (pc' := 2) (hb hby at_1) (z := (2 : Int32)) rfl ?_
  refine Ow.iushr X0 hx (pc' := 3) (hb hby at_2) (z := ((xlaw_4.toUInt32 >>> ((2 : Int32) &&& 31).toUInt32).toInt32)) rfl ?_
  refine Ow.iconst X0 hx (pc' := 4) (hb hby at_3) (z := (3 : Int32)) rfl ?_
  refine Ow.iand X0 hx (pc' := 5) (hb hby at_4) (z := (((xlaw_4.toUInt32 >>> ((2 : Int32) &&& 31).toUInt32).toInt32) &&& (3 : Int32))) rfl ?_
  refine Ow.istore X0 hx (pc' := 7) (hb hby at_5) (l' := #[.val (.int xlaw_1), .val (.int xlaw_2), .val (.int xlaw_3), .val (.int xlaw_4), .val (.int (((xlaw_4.toUInt32 >>> ((2 : Int32) &&& 31).toUInt32).toInt32) &&& (3 : Int32))), .unset, .unset, .unset, .unset, .unset, .unset, .unset, .unset, .unset, .unset]) rfl ?_
  generalize hv5 : (((xlaw_4.toUInt32 >>> ((2 : Int32) &&& 31).toUInt32).toInt32) &&& (3 : Int32)) = v5
  refine Ow.iloadN X0 hx (pc' := 8) (hb hby at_7) rfl ?_
  refine Ow.bipush X0 hx (pc' := 10) (hb hby at_8) (z := (16 : Int32)) rfl ?_
  refine Ow.iand X0 hx (pc' := 11) (hb hby at_10) (z := (xlaw_4 &&& (16 : Int32))) rfl ?_
  refine Wq.by (U' := s₁.setTop (mkF m 22 #[.val (.int xlaw_1), .val (.int xlaw_2), .val (.int xlaw_3), .val (.int xlaw_4), .val (.int v5), .unset, .unset, .unset, .unset, .unset, .unset, .unset, .unset, .unset, .unset] [(.int (if (xlaw_4 &&& (16 : Int32)) = (0 : Int32) then (xlaw_1 &&& (65535 : Int32)) else (0 : Int32)))])) (fun k => ?_) ?_
  · skip
    by_cases hm11 : (xlaw_4 &&& (16 : Int32)) = (0 : Int32)
    · skip
      refine Ow.ifYes X0 hx (pc' := 18) (hb hby at_11) ((if0 _ _).trans (teq hm11).1) (by decide) (by decide) ?_
      refine Ow.iloadN X0 hx (pc' := 19) (hb hby at_18) rfl ?_
      refine Ow.ldcInt X0 hx hZ (pc' := 21) hown (kw0 hw) (hb hby at_19) ?_
      refine Ow.iand X0 hx (pc' := 22) (hb hby at_21) (z := (xlaw_1 &&& (65535 : Int32))) rfl ?_
      simp only [if_pos hm11] at k
      exact k
    · skip
      refine Ow.ifNo X0 hx (pc' := 14) (hb hby at_11) ((if0 _ _).trans (feq hm11).1) ?_
      refine Ow.iconst X0 hx (pc' := 15) (hb hby at_14) (z := (0 : Int32)) rfl ?_
      refine Ow.goto X0 hx (pc' := 22) (hb hby at_15) (by decide) (by decide) ?_
      simp only [if_neg hm11] at k
      exact k
  show Wq _ _ _ _ _ (s₁.setTop (mkF m 22 #[.val (.int xlaw_1), .val (.int xlaw_2), .val (.int xlaw_3), .val (.int xlaw_4), .val (.int v5), .unset, .unset, .unset, .unset, .unset, .unset, .unset, .unset, .unset, .unset] [(.int (if (xlaw_4 &&& (16 : Int32)) = (0 : Int32) then (xlaw_1 &&& (65535 : Int32)) else (0 : Int32)))]))
  generalize hms22_0 : (if (xlaw_4 &&& (16 : Int32)) = (0 : Int32) then (xlaw_1 &&& (65535 : Int32)) else (0 : Int32)) = ms22_0
  refine Ow.istore X0 hx (pc' := 24) (hb hby at_22) (l' := #[.val (.int xlaw_1), .val (.int xlaw_2), .val (.int xlaw_3), .val (.int xlaw_4), .val (.int v5), .val (.int ms22_0), .unset, .unset, .unset, .unset, .unset, .unset, .unset, .unset, .unset]) rfl ?_
  refine Ow.iloadN X0 hx (pc' := 25) (hb hby at_24) rfl ?_
  refine Ow.iconst X0 hx (pc' := 26) (hb hby at_25) (z := (1 : Int32)) rfl ?_
  refine Ow.iand X0 hx (pc' := 27) (hb hby at_26) (z := (xlaw_4 &&& (1 : Int32))) rfl ?_
  refine Wq.by (U' := s₁.setTop (mkF m 46 #[.val (.int xlaw_1), .val (.int xlaw_2), .val (.int xlaw_3), .val (.int xlaw_4), .val (.int v5), .val (.int ms22_0), .unset, .unset, .unset, .unset, .unset, .unset, .unset, .unset, .unset] [(.int (if (xlaw_4 &&& (1 : Int32)) = (0 : Int32) then (xlaw_2 &&& (65535 : Int32)) else ((ms22_0 + (xlaw_2 &&& (3 : Int32))) &&& (65535 : Int32))))])) (fun k => ?_) ?_
  · skip
    by_cases hm27 : (xlaw_4 &&& (1 : Int32)) = (0 : Int32)
    · skip
      refine Ow.ifYes X0 hx (pc' := 42) (hb hby at_27) ((if0 _ _).trans (teq hm27).1) (by decide) (by decide) ?_
      refine Ow.iloadN X0 hx (pc' := 43) (hb hby at_42) rfl ?_
      refine Ow.ldcInt X0 hx hZ (pc' := 45) hown (kw0 hw) (hb hby at_43) ?_
      refine Ow.iand X0 hx (pc' := 46) (hb hby at_45) (z := (xlaw_2 &&& (65535 : Int32))) rfl ?_
      simp only [if_pos hm27] at k
      exact k
    · skip
      refine Ow.ifNo X0 hx (pc' := 30) (hb hby at_27) ((if0 _ _).trans (feq hm27).1) ?_
      refine Ow.iload X0 hx (pc' := 32) (hb hby at_30) rfl ?_
      refine Ow.iloadN X0 hx (pc' := 33) (hb hby at_32) rfl ?_
      refine Ow.iconst X0 hx (pc' := 34) (hb hby at_33) (z := (3 : Int32)) rfl ?_
      refine Ow.iand X0 hx (pc' := 35) (hb hby at_34) (z := (xlaw_2 &&& (3 : Int32))) rfl ?_
      refine Ow.iadd X0 hx (pc' := 36) (hb hby at_35) (z := (ms22_0 + (xlaw_2 &&& (3 : Int32)))) rfl ?_
      refine Ow.ldcInt X0 hx hZ (pc' := 38) hown (kw0 hw) (hb hby at_36) ?_
      refine Ow.iand X0 hx (pc' := 39) (hb hby at_38) (z := ((ms22_0 + (xlaw_2 &&& (3 : Int32))) &&& (65535 : Int32))) rfl ?_
      refine Ow.goto X0 hx (pc' := 46) (hb hby at_39) (by decide) (by decide) ?_
      simp only [if_neg hm27] at k
      exact k
  show Wq _ _ _ _ _ (s₁.setTop (mkF m 46 #[.val (.int xlaw_1), .val (.int xlaw_2), .val (.int xlaw_3), .val (.int xlaw_4), .val (.int v5), .val (.int ms22_0), .unset, .unset, .unset, .unset, .unset, .unset, .unset, .unset, .unset] [(.int (if (xlaw_4 &&& (1 : Int32)) = (0 : Int32) then (xlaw_2 &&& (65535 : Int32)) else ((ms22_0 + (xlaw_2 &&& (3 : Int32))) &&& (65535 : Int32))))]))
  generalize hms46_0 : (if (xlaw_4 &&& (1 : Int32)) = (0 : Int32) then (xlaw_2 &&& (65535 : Int32)) else ((ms22_0 + (xlaw_2 &&& (3 : Int32))) &&& (65535 : Int32))) = ms46_0
  refine Ow.istore X0 hx (pc' := 48) (hb hby at_46) (l' := #[.val (.int xlaw_1), .val (.int xlaw_2), .val (.int xlaw_3), .val (.int xlaw_4), .val (.int v5), .val (.int ms22_0), .val (.int ms46_0), .unset, .unset, .unset, .unset, .unset, .unset, .unset, .unset]) rfl ?_
  refine Ow.iloadN X0 hx (pc' := 49) (hb hby at_48) rfl ?_
  refine Ow.bipush X0 hx (pc' := 51) (hb hby at_49) (z := (32 : Int32)) rfl ?_
  refine Ow.iand X0 hx (pc' := 52) (hb hby at_51) (z := (xlaw_4 &&& (32 : Int32))) rfl ?_
  refine Wq.by (U' := s₁.setTop (mkF m 82 #[.val (.int xlaw_1), .val (.int xlaw_2), .val (.int xlaw_3), .val (.int xlaw_4), .val (.int v5), .val (.int ms22_0), .val (.int ms46_0), .unset, .unset, .unset, .unset, .unset, .unset, .unset, .unset] [(.int (if (xlaw_4 &&& (32 : Int32)) = (0 : Int32) then (if (xlaw_4 &&& (2 : Int32)) = (0 : Int32) then (xlaw_3 &&& (65535 : Int32)) else ((ms46_0 + (xlaw_3 &&& (3 : Int32))) &&& (65535 : Int32))) else (65535 : Int32)))])) (fun k => ?_) ?_
  · skip
    by_cases hm52 : (xlaw_4 &&& (32 : Int32)) = (0 : Int32)
    · skip
      refine Ow.ifYes X0 hx (pc' := 60) (hb hby at_52) ((if0 _ _).trans (teq hm52).1) (by decide) (by decide) ?_
      refine Ow.iloadN X0 hx (pc' := 61) (hb hby at_60) rfl ?_
      refine Ow.iconst X0 hx (pc' := 62) (hb hby at_61) (z := (2 : Int32)) rfl ?_
      refine Ow.iand X0 hx (pc' := 63) (hb hby at_62) (z := (xlaw_4 &&& (2 : Int32))) rfl ?_
      by_cases hm63 : (xlaw_4 &&& (2 : Int32)) = (0 : Int32)
      · skip
        refine Ow.ifYes X0 hx (pc' := 78) (hb hby at_63) ((if0 _ _).trans (teq hm63).1) (by decide) (by decide) ?_
        refine Ow.iloadN X0 hx (pc' := 79) (hb hby at_78) rfl ?_
        refine Ow.ldcInt X0 hx hZ (pc' := 81) hown (kw0 hw) (hb hby at_79) ?_
        refine Ow.iand X0 hx (pc' := 82) (hb hby at_81) (z := (xlaw_3 &&& (65535 : Int32))) rfl ?_
        simp only [if_pos hm52, if_pos hm63] at k
        exact k
      · skip
        refine Ow.ifNo X0 hx (pc' := 66) (hb hby at_63) ((if0 _ _).trans (feq hm63).1) ?_
        refine Ow.iload X0 hx (pc' := 68) (hb hby at_66) rfl ?_
        refine Ow.iloadN X0 hx (pc' := 69) (hb hby at_68) rfl ?_
        refine Ow.iconst X0 hx (pc' := 70) (hb hby at_69) (z := (3 : Int32)) rfl ?_
        refine Ow.iand X0 hx (pc' := 71) (hb hby at_70) (z := (xlaw_3 &&& (3 : Int32))) rfl ?_
        refine Ow.iadd X0 hx (pc' := 72) (hb hby at_71) (z := (ms46_0 + (xlaw_3 &&& (3 : Int32)))) rfl ?_
        refine Ow.ldcInt X0 hx hZ (pc' := 74) hown (kw0 hw) (hb hby at_72) ?_
        refine Ow.iand X0 hx (pc' := 75) (hb hby at_74) (z := ((ms46_0 + (xlaw_3 &&& (3 : Int32))) &&& (65535 : Int32))) rfl ?_
        refine Ow.goto X0 hx (pc' := 82) (hb hby at_75) (by decide) (by decide) ?_
        simp only [if_pos hm52, if_neg hm63] at k
        exact k
    · skip
      refine Ow.ifNo X0 hx (pc' := 55) (hb hby at_52) ((if0 _ _).trans (feq hm52).1) ?_
      refine Ow.ldcInt X0 hx hZ (pc' := 57) hown (kw0 hw) (hb hby at_55) ?_
      refine Ow.goto X0 hx (pc' := 82) (hb hby at_57) (by decide) (by decide) ?_
      simp only [if_neg hm52] at k
      exact k
  show Wq _ _ _ _ _ (s₁.setTop (mkF m 82 #[.val (.int xlaw_1), .val (.int xlaw_2), .val (.int xlaw_3), .val (.int xlaw_4), .val (.int v5), .val (.int ms22_0), .val (.int ms46_0), .unset, .unset, .unset, .unset, .unset, .unset, .unset, .unset] [(.int (if (xlaw_4 &&& (32 : Int32)) = (0 : Int32) then (if (xlaw_4 &&& (2 : Int32)) = (0 : Int32) then (xlaw_3 &&& (65535 : Int32)) else ((ms46_0 + (xlaw_3 &&& (3 : Int32))) &&& (65535 : Int32))) else (65535 : Int32)))]))
  generalize hms82_0 : (if (xlaw_4 &&& (32 : Int32)) = (0 : Int32) then (if (xlaw_4 &&& (2 : Int32)) = (0 : Int32) then (xlaw_3 &&& (65535 : Int32)) else ((ms46_0 + (xlaw_3 &&& (3 : Int32))) &&& (65535 : Int32))) else (65535 : Int32)) = ms82_0
  refine Ow.istore X0 hx (pc' := 84) (hb hby at_82) (l' := #[.val (.int xlaw_1), .val (.int xlaw_2), .val (.int xlaw_3), .val (.int xlaw_4), .val (.int v5), .val (.int ms22_0), .val (.int ms46_0), .val (.int ms82_0), .unset, .unset, .unset, .unset, .unset, .unset, .unset]) rfl ?_
  have RA := own_RA hms22_0
  have RB := own_RB hms46_0
  have RC := own_RC hms82_0
  refine Ow.iload X0 hx (pc' := 86) (hb hby at_84) rfl ?_
  refine Ow.iconst X0 hx (pc' := 87) (hb hby at_86) (z := (1 : Int32)) rfl ?_
  refine Wq.by (U' := s₁.setTop (mkF m 95 #[.val (.int xlaw_1), .val (.int xlaw_2), .val (.int xlaw_3), .val (.int xlaw_4), .val (.int v5), .val (.int ms22_0), .val (.int ms46_0), .val (.int ms82_0), .unset, .unset, .unset, .unset, .unset, .unset, .unset] [(.int (if v5 < (1 : Int32) then (0 : Int32) else (1 : Int32)))])) (fun k => ?_) ?_
  · skip
    by_cases hm87 : v5 < (1 : Int32)
    · skip
      refine Ow.icmpYes X0 hx (pc' := 94) (hb hby at_87) (tlt hm87).1 (by decide) (by decide) ?_
      refine Ow.iconst X0 hx (pc' := 95) (hb hby at_94) (z := (0 : Int32)) rfl ?_
      simp only [if_pos hm87] at k
      exact k
    · skip
      refine Ow.icmpNo X0 hx (pc' := 90) (hb hby at_87) (flt hm87).1 ?_
      refine Ow.iconst X0 hx (pc' := 91) (hb hby at_90) (z := (1 : Int32)) rfl ?_
      refine Ow.goto X0 hx (pc' := 95) (hb hby at_91) (by decide) (by decide) ?_
      simp only [if_neg hm87] at k
      exact k
  show Wq _ _ _ _ _ (s₁.setTop (mkF m 95 #[.val (.int xlaw_1), .val (.int xlaw_2), .val (.int xlaw_3), .val (.int xlaw_4), .val (.int v5), .val (.int ms22_0), .val (.int ms46_0), .val (.int ms82_0), .unset, .unset, .unset, .unset, .unset, .unset, .unset] [(.int (if v5 < (1 : Int32) then (0 : Int32) else (1 : Int32)))]))
  generalize hms95_0 : (if v5 < (1 : Int32) then (0 : Int32) else (1 : Int32)) = ms95_0
  refine Ow.istore X0 hx (pc' := 97) (hb hby at_95) (l' := #[.val (.int xlaw_1), .val (.int xlaw_2), .val (.int xlaw_3), .val (.int xlaw_4), .val (.int v5), .val (.int ms22_0), .val (.int ms46_0), .val (.int ms82_0), .val (.int ms95_0), .unset, .unset, .unset, .unset, .unset, .unset]) rfl ?_
  refine Ow.iload X0 hx (pc' := 99) (hb hby at_97) rfl ?_
  refine Ow.iconst X0 hx (pc' := 100) (hb hby at_99) (z := (2 : Int32)) rfl ?_
  refine Wq.by (U' := s₁.setTop (mkF m 115 #[.val (.int xlaw_1), .val (.int xlaw_2), .val (.int xlaw_3), .val (.int xlaw_4), .val (.int v5), .val (.int ms22_0), .val (.int ms46_0), .val (.int ms82_0), .val (.int ms95_0), .unset, .unset, .unset, .unset, .unset, .unset] [(.int (if v5 < (2 : Int32) then (0 : Int32) else (if ms46_0 = ms22_0 then (0 : Int32) else (1 : Int32))))])) (fun k => ?_) ?_
  · skip
    by_cases hm100 : v5 < (2 : Int32)
    · skip
      refine Ow.icmpYes X0 hx (pc' := 114) (hb hby at_100) (tlt hm100).1 (by decide) (by decide) ?_
      refine Ow.iconst X0 hx (pc' := 115) (hb hby at_114) (z := (0 : Int32)) rfl ?_
      simp only [if_pos hm100] at k
      exact k
    · skip
      refine Ow.icmpNo X0 hx (pc' := 103) (hb hby at_100) (flt hm100).1 ?_
      refine Ow.iload X0 hx (pc' := 105) (hb hby at_103) rfl ?_
      refine Ow.iload X0 hx (pc' := 107) (hb hby at_105) rfl ?_
      by_cases hm107 : ms46_0 = ms22_0
      · skip
        refine Ow.icmpYes X0 hx (pc' := 114) (hb hby at_107) (teq hm107).1 (by decide) (by decide) ?_
        refine Ow.iconst X0 hx (pc' := 115) (hb hby at_114) (z := (0 : Int32)) rfl ?_
        simp only [if_neg hm100, if_pos hm107] at k
        exact k
      · skip
        refine Ow.icmpNo X0 hx (pc' := 110) (hb hby at_107) (feq hm107).1 ?_
        refine Ow.iconst X0 hx (pc' := 111) (hb hby at_110) (z := (1 : Int32)) rfl ?_
        refine Ow.goto X0 hx (pc' := 115) (hb hby at_111) (by decide) (by decide) ?_
        simp only [if_neg hm100, if_neg hm107] at k
        exact k
  show Wq _ _ _ _ _ (s₁.setTop (mkF m 115 #[.val (.int xlaw_1), .val (.int xlaw_2), .val (.int xlaw_3), .val (.int xlaw_4), .val (.int v5), .val (.int ms22_0), .val (.int ms46_0), .val (.int ms82_0), .val (.int ms95_0), .unset, .unset, .unset, .unset, .unset, .unset] [(.int (if v5 < (2 : Int32) then (0 : Int32) else (if ms46_0 = ms22_0 then (0 : Int32) else (1 : Int32))))]))
  generalize hms115_0 : (if v5 < (2 : Int32) then (0 : Int32) else (if ms46_0 = ms22_0 then (0 : Int32) else (1 : Int32))) = ms115_0
  refine Ow.istore X0 hx (pc' := 117) (hb hby at_115) (l' := #[.val (.int xlaw_1), .val (.int xlaw_2), .val (.int xlaw_3), .val (.int xlaw_4), .val (.int v5), .val (.int ms22_0), .val (.int ms46_0), .val (.int ms82_0), .val (.int ms95_0), .val (.int ms115_0), .unset, .unset, .unset, .unset, .unset]) rfl ?_
  refine Ow.iload X0 hx (pc' := 119) (hb hby at_117) rfl ?_
  refine Ow.iconst X0 hx (pc' := 120) (hb hby at_119) (z := (3 : Int32)) rfl ?_
  refine Wq.by (U' := s₁.setTop (mkF m 142 #[.val (.int xlaw_1), .val (.int xlaw_2), .val (.int xlaw_3), .val (.int xlaw_4), .val (.int v5), .val (.int ms22_0), .val (.int ms46_0), .val (.int ms82_0), .val (.int ms95_0), .val (.int ms115_0), .unset, .unset, .unset, .unset, .unset] [(.int (if v5 < (3 : Int32) then (0 : Int32) else (if ms82_0 = ms22_0 then (0 : Int32) else (if ms82_0 = ms46_0 then (0 : Int32) else (1 : Int32)))))])) (fun k => ?_) ?_
  · skip
    by_cases hm120 : v5 < (3 : Int32)
    · skip
      refine Ow.icmpYes X0 hx (pc' := 141) (hb hby at_120) (tlt hm120).1 (by decide) (by decide) ?_
      refine Ow.iconst X0 hx (pc' := 142) (hb hby at_141) (z := (0 : Int32)) rfl ?_
      simp only [if_pos hm120] at k
      exact k
    · skip
      refine Ow.icmpNo X0 hx (pc' := 123) (hb hby at_120) (flt hm120).1 ?_
      refine Ow.iload X0 hx (pc' := 125) (hb hby at_123) rfl ?_
      refine Ow.iload X0 hx (pc' := 127) (hb hby at_125) rfl ?_
      by_cases hm127 : ms82_0 = ms22_0
      · skip
        refine Ow.icmpYes X0 hx (pc' := 141) (hb hby at_127) (teq hm127).1 (by decide) (by decide) ?_
        refine Ow.iconst X0 hx (pc' := 142) (hb hby at_141) (z := (0 : Int32)) rfl ?_
        simp only [if_neg hm120, if_pos hm127] at k
        exact k
      · skip
        refine Ow.icmpNo X0 hx (pc' := 130) (hb hby at_127) (feq hm127).1 ?_
        refine Ow.iload X0 hx (pc' := 132) (hb hby at_130) rfl ?_
        refine Ow.iload X0 hx (pc' := 134) (hb hby at_132) rfl ?_
        by_cases hm134 : ms82_0 = ms46_0
        · skip
          refine Ow.icmpYes X0 hx (pc' := 141) (hb hby at_134) (teq hm134).1 (by decide) (by decide) ?_
          refine Ow.iconst X0 hx (pc' := 142) (hb hby at_141) (z := (0 : Int32)) rfl ?_
          simp only [if_neg hm120, if_neg hm127, if_pos hm134] at k
          exact k
        · skip
          refine Ow.icmpNo X0 hx (pc' := 137) (hb hby at_134) (feq hm134).1 ?_
          refine Ow.iconst X0 hx (pc' := 138) (hb hby at_137) (z := (1 : Int32)) rfl ?_
          refine Ow.goto X0 hx (pc' := 142) (hb hby at_138) (by decide) (by decide) ?_
          simp only [if_neg hm120, if_neg hm127, if_neg hm134] at k
          exact k
  show Wq _ _ _ _ _ (s₁.setTop (mkF m 142 #[.val (.int xlaw_1), .val (.int xlaw_2), .val (.int xlaw_3), .val (.int xlaw_4), .val (.int v5), .val (.int ms22_0), .val (.int ms46_0), .val (.int ms82_0), .val (.int ms95_0), .val (.int ms115_0), .unset, .unset, .unset, .unset, .unset] [(.int (if v5 < (3 : Int32) then (0 : Int32) else (if ms82_0 = ms22_0 then (0 : Int32) else (if ms82_0 = ms46_0 then (0 : Int32) else (1 : Int32)))))]))
  generalize hms142_0 : (if v5 < (3 : Int32) then (0 : Int32) else (if ms82_0 = ms22_0 then (0 : Int32) else (if ms82_0 = ms46_0 then (0 : Int32) else (1 : Int32)))) = ms142_0
  refine Ow.istore X0 hx (pc' := 144) (hb hby at_142) (l' := #[.val (.int xlaw_1), .val (.int xlaw_2), .val (.int xlaw_3), .val (.int xlaw_4), .val (.int v5), .val (.int ms22_0), .val (.int ms46_0), .val (.int ms82_0), .val (.int ms95_0), .val (.int ms115_0), .val (.int ms142_0), .unset, .unset, .unset, .unset]) rfl ?_
  refine Ow.iload X0 hx (pc' := 146) (hb hby at_144) rfl ?_
  refine Wq.by (U' := s₁.setTop (mkF m 154 #[.val (.int xlaw_1), .val (.int xlaw_2), .val (.int xlaw_3), .val (.int xlaw_4), .val (.int v5), .val (.int ms22_0), .val (.int ms46_0), .val (.int ms82_0), .val (.int ms95_0), .val (.int ms115_0), .val (.int ms142_0), .unset, .unset, .unset, .unset] [(.int (if ms95_0 = (0 : Int32) then (0 : Int32) else (1 : Int32)))])) (fun k => ?_) ?_
  · skip
    by_cases hm146 : ms95_0 = (0 : Int32)
    · skip
      refine Ow.ifYes X0 hx (pc' := 153) (hb hby at_146) ((if0 _ _).trans (teq hm146).1) (by decide) (by decide) ?_
      refine Ow.iconst X0 hx (pc' := 154) (hb hby at_153) (z := (0 : Int32)) rfl ?_
      simp only [if_pos hm146] at k
      exact k
    · skip
      refine Ow.ifNo X0 hx (pc' := 149) (hb hby at_146) ((if0 _ _).trans (feq hm146).1) ?_
      refine Ow.iconst X0 hx (pc' := 150) (hb hby at_149) (z := (1 : Int32)) rfl ?_
      refine Ow.goto X0 hx (pc' := 154) (hb hby at_150) (by decide) (by decide) ?_
      simp only [if_neg hm146] at k
      exact k
  show Wq _ _ _ _ _ (s₁.setTop (mkF m 154 #[.val (.int xlaw_1), .val (.int xlaw_2), .val (.int xlaw_3), .val (.int xlaw_4), .val (.int v5), .val (.int ms22_0), .val (.int ms46_0), .val (.int ms82_0), .val (.int ms95_0), .val (.int ms115_0), .val (.int ms142_0), .unset, .unset, .unset, .unset] [(.int (if ms95_0 = (0 : Int32) then (0 : Int32) else (1 : Int32)))]))
  generalize hms154_0 : (if ms95_0 = (0 : Int32) then (0 : Int32) else (1 : Int32)) = ms154_0
  refine Ow.iload X0 hx (pc' := 156) (hb hby at_154) rfl ?_
  refine Wq.by (U' := s₁.setTop (mkF m 164 #[.val (.int xlaw_1), .val (.int xlaw_2), .val (.int xlaw_3), .val (.int xlaw_4), .val (.int v5), .val (.int ms22_0), .val (.int ms46_0), .val (.int ms82_0), .val (.int ms95_0), .val (.int ms115_0), .val (.int ms142_0), .unset, .unset, .unset, .unset] [(.int (if ms115_0 = (0 : Int32) then (0 : Int32) else (1 : Int32))), (.int ms154_0)])) (fun k => ?_) ?_
  · skip
    by_cases hm156 : ms115_0 = (0 : Int32)
    · skip
      refine Ow.ifYes X0 hx (pc' := 163) (hb hby at_156) ((if0 _ _).trans (teq hm156).1) (by decide) (by decide) ?_
      refine Ow.iconst X0 hx (pc' := 164) (hb hby at_163) (z := (0 : Int32)) rfl ?_
      simp only [if_pos hm156] at k
      exact k
    · skip
      refine Ow.ifNo X0 hx (pc' := 159) (hb hby at_156) ((if0 _ _).trans (feq hm156).1) ?_
      refine Ow.iconst X0 hx (pc' := 160) (hb hby at_159) (z := (1 : Int32)) rfl ?_
      refine Ow.goto X0 hx (pc' := 164) (hb hby at_160) (by decide) (by decide) ?_
      simp only [if_neg hm156] at k
      exact k
  show Wq _ _ _ _ _ (s₁.setTop (mkF m 164 #[.val (.int xlaw_1), .val (.int xlaw_2), .val (.int xlaw_3), .val (.int xlaw_4), .val (.int v5), .val (.int ms22_0), .val (.int ms46_0), .val (.int ms82_0), .val (.int ms95_0), .val (.int ms115_0), .val (.int ms142_0), .unset, .unset, .unset, .unset] [(.int (if ms115_0 = (0 : Int32) then (0 : Int32) else (1 : Int32))), (.int ms154_0)]))
  generalize hms164_0 : (if ms115_0 = (0 : Int32) then (0 : Int32) else (1 : Int32)) = ms164_0
  refine Ow.iadd X0 hx (pc' := 165) (hb hby at_164) (z := (ms154_0 + ms164_0)) rfl ?_
  refine Ow.iload X0 hx (pc' := 167) (hb hby at_165) rfl ?_
  refine Wq.by (U' := s₁.setTop (mkF m 175 #[.val (.int xlaw_1), .val (.int xlaw_2), .val (.int xlaw_3), .val (.int xlaw_4), .val (.int v5), .val (.int ms22_0), .val (.int ms46_0), .val (.int ms82_0), .val (.int ms95_0), .val (.int ms115_0), .val (.int ms142_0), .unset, .unset, .unset, .unset] [(.int (if ms142_0 = (0 : Int32) then (0 : Int32) else (1 : Int32))), (.int (ms154_0 + ms164_0))])) (fun k => ?_) ?_
  · skip
    by_cases hm167 : ms142_0 = (0 : Int32)
    · skip
      refine Ow.ifYes X0 hx (pc' := 174) (hb hby at_167) ((if0 _ _).trans (teq hm167).1) (by decide) (by decide) ?_
      refine Ow.iconst X0 hx (pc' := 175) (hb hby at_174) (z := (0 : Int32)) rfl ?_
      simp only [if_pos hm167] at k
      exact k
    · skip
      refine Ow.ifNo X0 hx (pc' := 170) (hb hby at_167) ((if0 _ _).trans (feq hm167).1) ?_
      refine Ow.iconst X0 hx (pc' := 171) (hb hby at_170) (z := (1 : Int32)) rfl ?_
      refine Ow.goto X0 hx (pc' := 175) (hb hby at_171) (by decide) (by decide) ?_
      simp only [if_neg hm167] at k
      exact k
  show Wq _ _ _ _ _ (s₁.setTop (mkF m 175 #[.val (.int xlaw_1), .val (.int xlaw_2), .val (.int xlaw_3), .val (.int xlaw_4), .val (.int v5), .val (.int ms22_0), .val (.int ms46_0), .val (.int ms82_0), .val (.int ms95_0), .val (.int ms115_0), .val (.int ms142_0), .unset, .unset, .unset, .unset] [(.int (if ms142_0 = (0 : Int32) then (0 : Int32) else (1 : Int32))), (.int (ms154_0 + ms164_0))]))
  generalize hms175_0 : (if ms142_0 = (0 : Int32) then (0 : Int32) else (1 : Int32)) = ms175_0
  refine Ow.iadd X0 hx (pc' := 176) (hb hby at_175) (z := ((ms154_0 + ms164_0) + ms175_0)) rfl ?_
  refine Ow.istore X0 hx (pc' := 178) (hb hby at_176) (l' := #[.val (.int xlaw_1), .val (.int xlaw_2), .val (.int xlaw_3), .val (.int xlaw_4), .val (.int v5), .val (.int ms22_0), .val (.int ms46_0), .val (.int ms82_0), .val (.int ms95_0), .val (.int ms115_0), .val (.int ms142_0), .val (.int ((ms154_0 + ms164_0) + ms175_0)), .unset, .unset, .unset]) rfl ?_
  generalize hv176 : ((ms154_0 + ms164_0) + ms175_0) = v176
  obtain ⟨T91, h91, X91, e91, E91, A91, D91, -, st91⟩ := newO X0 hx hZ hown (kw1 hw) (kw2 hw) (kw3 hw) e0 (g := (mkF m 178 #[.val (.int xlaw_1), .val (.int xlaw_2), .val (.int xlaw_3), .val (.int xlaw_4), .val (.int v5), .val (.int ms22_0), .val (.int ms46_0), .val (.int ms82_0), .val (.int ms95_0), .val (.int ms115_0), .val (.int ms142_0), .val (.int v176), .unset, .unset, .unset] [])) rfl (hb hby at_178) (by decide) (by decide)
  obtain ⟨o91, gz91⟩ : ∃ z, z = h0.size := ⟨_, rfl⟩
  rw [← gz91] at A91 D91 st91
  have g_o91 : n0 ≤ o91 := Nat.le_trans Z0 (Nat.le_of_eq gz91.symm)
  have sz_o91 : h0.size ≤ o91 := Nat.le_of_eq gz91.symm
  have K91 : Keep h0 h91 [] := (Keep.refl h0 []).ext E91
  have Z91 : n0 ≤ h91.size := Nat.le_trans Z0 E91.1
  refine Wq.step st91 ?_
  have F_o91_runs : Fld Z h91 o91 "com/example/tightbit/tightbit/SparseDocIds$Runs" "runs" "[C" .null := D91 (Or.inr (kw12 hw)) (ty := (.array .char)) (by decide)
  show Wq _ _ _ _ _ (T91.setTop (mkF m 181 #[.val (.int xlaw_1), .val (.int xlaw_2), .val (.int xlaw_3), .val (.int xlaw_4), .val (.int v5), .val (.int ms22_0), .val (.int ms46_0), .val (.int ms82_0), .val (.int ms95_0), .val (.int ms115_0), .val (.int ms142_0), .val (.int v176), .unset, .unset, .unset] [(.ref o91)]))
  refine Ow.dup X91 hx (pc' := 182) (hb hby at_181) rfl ?_
  refine Ow.iconst X91 hx (pc' := 183) (hb hby at_182) (z := (2 : Int32)) rfl ?_
  obtain ⟨T92, h92, k92, X92, e92, E92, A92, st92⟩ := newP X91 hx hZ (aty := .char) (kw4 hw) e91 (g := (mkF m 183 #[.val (.int xlaw_1), .val (.int xlaw_2), .val (.int xlaw_3), .val (.int xlaw_4), .val (.int v5), .val (.int ms22_0), .val (.int ms46_0), .val (.int ms82_0), .val (.int ms95_0), .val (.int ms115_0), .val (.int ms142_0), .val (.int v176), .unset, .unset, .unset] [(.int (2 : Int32)), (.ref o91), (.ref o91)])) rfl (hb hby at_183) rfl (by decide) (cap := 2) (by decide) (by decide) (by decide) (by decide)
  obtain ⟨b92, gz92⟩ : ∃ z, z = h91.size := ⟨_, rfl⟩
  rw [← gz92] at A92 st92
  have g_b92 : n0 ≤ b92 := Nat.le_trans Z91 (Nat.le_of_eq gz92.symm)
  have sz_b92 : h0.size ≤ b92 := Nat.le_trans K91.1 (Nat.le_of_eq gz92.symm)
  have ne_o91_b92 : o91 ≠ b92 := Nat.ne_of_lt (Nat.lt_of_lt_of_le A91.lt (Nat.le_of_eq gz92.symm))
  have K92 : Keep h0 h92 [] := K91.ext E92
  have Z92 : n0 ≤ h92.size := Nat.le_trans Z91 E92.1
  have A91_t92 := A91.ext E92
  have F_o91_runs_t92 := F_o91_runs.ext E92
  have V_b92 : Al Z h92 b92 .char [(.int (0 : Int32)), (.int (0 : Int32))] := Al.new A92 (k := 2) (rfl) rfl
  refine Wq.step st92 ?_
  show Wq _ _ _ _ _ (T92.setTop (mkF m 185 #[.val (.int xlaw_1), .val (.int xlaw_2), .val (.int xlaw_3), .val (.int xlaw_4), .val (.int v5), .val (.int ms22_0), .val (.int ms46_0), .val (.int ms82_0), .val (.int ms95_0), .val (.int ms115_0), .val (.int ms142_0), .val (.int v176), .unset, .unset, .unset] [(.ref b92), (.ref o91), (.ref o91)]))
  refine Ow.dup X92 hx (pc' := 186) (hb hby at_185) rfl ?_
  refine Ow.iconst X92 hx (pc' := 187) (hb hby at_186) (z := (0 : Int32)) rfl ?_
  refine Ow.iconst X92 hx (pc' := 188) (hb hby at_187) (z := (0 : Int32)) rfl ?_
  obtain ⟨T93, h93, X93, e93, W93, Vr93, st93⟩ := asC X92 hx hZ e92 V_b92 (j := (0 : Int32)) (i := 0) (by decide) rfl (Nat.le_of_ble_eq_true rfl) (y := (0 : Int32)) rfl (g := (mkF m 188 #[.val (.int xlaw_1), .val (.int xlaw_2), .val (.int xlaw_3), .val (.int xlaw_4), .val (.int v5), .val (.int ms22_0), .val (.int ms46_0), .val (.int ms82_0), .val (.int ms95_0), .val (.int ms115_0), .val (.int ms142_0), .val (.int v176), .unset, .unset, .unset] [(.int (0 : Int32)), (.int (0 : Int32)), (.ref b92), (.ref b92), (.ref o91), (.ref o91)])) rfl rfl (hb hby at_188)
  refine Wq.step st93 ?_
  have N93 := Fr.snoc X93 N0 g_b92
  have K93 : Keep h0 h93 [] := K92.wr W93 (Or.inr sz_b92)
  have Z93 : n0 ≤ h93.size := Nat.le_trans Z92 (Keep.of_wr W93).1
  have A91_t93 := A91_t92.wr W93
  have F_o91_runs_t93 := F_o91_runs_t92.other W93 (Or.inl ne_o91_b92)
  have V_b92_t93 : Al Z h93 b92 .char [(.int (0 : Int32)), (.int (0 : Int32))] := Vr93
  show Wq _ _ _ _ _ (T93.setTop (mkF m 189 #[.val (.int xlaw_1), .val (.int xlaw_2), .val (.int xlaw_3), .val (.int xlaw_4), .val (.int v5), .val (.int ms22_0), .val (.int ms46_0), .val (.int ms82_0), .val (.int ms95_0), .val (.int ms115_0), .val (.int ms142_0), .val (.int v176), .unset, .unset, .unset] [(.ref b92), (.ref o91), (.ref o91)]))
  refine Ow.dup X93 hx (pc' := 190) (hb hby at_189) rfl ?_
  refine Ow.iconst X93 hx (pc' := 191) (hb hby at_190) (z := (1 : Int32)) rfl ?_
  refine Ow.ldcInt X93 hx hZ (pc' := 193) hown (kw0 hw) (hb hby at_191) ?_
  obtain ⟨T94, h94, X94, e94, W94, Vr94, st94⟩ := asC X93 hx hZ e93 V_b92_t93 (j := (1 : Int32)) (i := 1) (by decide) rfl (Nat.le_of_ble_eq_true rfl) (y := (65535 : Int32)) rfl (g := (mkF m 193 #[.val (.int xlaw_1), .val (.int xlaw_2), .val (.int xlaw_3), .val (.int xlaw_4), .val (.int v5), .val (.int ms22_0), .val (.int ms46_0), .val (.int ms82_0), .val (.int ms95_0), .val (.int ms115_0), .val (.int ms142_0), .val (.int v176), .unset, .unset, .unset] [(.int (65535 : Int32)), (.int (1 : Int32)), (.ref b92), (.ref b92), (.ref o91), (.ref o91)])) rfl rfl (hb hby at_193)
  refine Wq.step st94 ?_
  have N94 := Fr.snoc X94 N93 g_b92
  have K94 : Keep h0 h94 [] := K93.wr W94 (Or.inr sz_b92)
  have Z94 : n0 ≤ h94.size := Nat.le_trans Z93 (Keep.of_wr W94).1
  have A91_t94 := A91_t93.wr W94
  have F_o91_runs_t94 := F_o91_runs_t93.other W94 (Or.inl ne_o91_b92)
  have V_b92_t94 : Al Z h94 b92 .char [(.int (0 : Int32)), (.int (65535 : Int32))] := Vr94
  show Wq _ _ _ _ _ (T94.setTop (mkF m 194 #[.val (.int xlaw_1), .val (.int xlaw_2), .val (.int xlaw_3), .val (.int xlaw_4), .val (.int v5), .val (.int ms22_0), .val (.int ms46_0), .val (.int ms82_0), .val (.int ms95_0), .val (.int ms115_0), .val (.int ms142_0), .val (.int v176), .unset, .unset, .unset] [(.ref b92), (.ref o91), (.ref o91)]))
  obtain ⟨_, _, ⟨T95, L95, k95, n95⟩, -, X95, ⟨Lc95, hQ95, l95, y95, z95⟩, st95⟩ := X94.specialBack hx (y := mt1) rfl hown (mvT hZ (kw5 hw)) (mvT hZ (kw6 hw)) (mvT hZ (kw7 hw)) (by decide) (backOf (W := 1) (rm_rctor l Z a0 hw [] o91 b92 h94 n0 Z94 A91_t94 F_o91_runs_t94 g_o91) hZ (kw7 hw) (kw3 hw) (by decide) (by decide)) (g := (mkF m 194 #[.val (.int xlaw_1), .val (.int xlaw_2), .val (.int xlaw_3), .val (.int xlaw_4), .val (.int v5), .val (.int ms22_0), .val (.int ms46_0), .val (.int ms82_0), .val (.int ms95_0), .val (.int ms115_0), .val (.int ms142_0), .val (.int v176), .unset, .unset, .unset] [(.ref b92), (.ref o91), (.ref o91)])) rfl (by rw [hml]; rfl) (Steps.refl _) (a := o91) (argsL := [(.ref b92)]) (rest := [(.ref o91)]) (lenOf pd9 rfl) rfl (by show 2 * 0 + _ ≤ _; exact Nat.le_of_eq rfl) (hb hby at_194) (fun _ _ => ⟨rfl, e94, (by decide : 2 + 0 ≤ _), (by decide : 3 + 0 ≤ _)⟩)
  dsimp only [Pt.U, Pt.locs, Pt.cells, Pt.slots] at X95 l95 y95 z95 st95 hQ95
  subst l95 y95 z95
  obtain ⟨rfl, Nq95, Kq95, P95_0, P95_1⟩ := hQ95
  have N95 := Fr.app N94 Nq95
  have K95 : Keep h0 T95.heap [] := K94.trans Kq95 (allS (P := fun x => x ∈ [] ∨ h0.size ≤ x) (Or.inr sz_o91) all0)
  have Z95 : n0 ≤ T95.heap.size := Nat.le_trans Z94 Kq95.1
  have A91_t95 := A91_t94.keep Kq95
  have V_b92_t95 := V_b92_t94.keep Kq95 (ninS (Ne.symm ne_o91_b92) nin0)
  have e95 : T95.heap = T95.heap := rfl
  refine Wq.steps st95 ?_
  show Wq _ _ _ _ _ (T95.setTop (mkF m 197 #[.val (.int xlaw_1), .val (.int xlaw_2), .val (.int xlaw_3), .val (.int xlaw_4), .val (.int v5), .val (.int ms22_0), .val (.int ms46_0), .val (.int ms82_0), .val (.int ms95_0), .val (.int ms115_0), .val (.int ms142_0), .val (.int v176), .unset, .unset, .unset] [(.ref o91)]))
  obtain ⟨cq96, kq96, q96a, q96b, q96c⟩ := isOf hZ e95 A91_t95
  obtain ⟨_, _, ⟨T96, L96, k96, n96⟩, -, X96, ⟨Lc96, hQ96, l96, y96, z96⟩, st96⟩ := X95.virtualBackUpD hx (x := mt19) (y := mt11) hown (mvT hZ (kw13 hw)) (mvT hZ (kw14 hw)) (mvT hZ (kw15 hw)) (by decide) (mvD hZ (kw17 hw)) (mvT hZ (kw16 hw)) (backBare (W := 0) (rm_ww l Z a0 hw [] o91 b92 T95.heap n0 Z95 P95_1 V_b92_t95 A91_t95) (plainFor_of_name pn3) hx hZ (kw21 hw) (by decide) (by decide)) q96a q96c (g := (mkF m 197 #[.val (.int xlaw_1), .val (.int xlaw_2), .val (.int xlaw_3), .val (.int xlaw_4), .val (.int v5), .val (.int ms22_0), .val (.int ms46_0), .val (.int ms82_0), .val (.int ms95_0), .val (.int ms115_0), .val (.int ms142_0), .val (.int v176), .unset, .unset, .unset] [(.ref o91)])) rfl (by rw [hml]; rfl) (Steps.refl _) (argsL := []) (rest := []) (lenOf pd10 rfl) rfl (by show 2 * 0 + _ ≤ _; exact Nat.le_of_eq rfl) (hb hby at_197) (fun _ _ => ⟨rfl, e95, (by decide : 2 + 1 ≤ _), (by decide : 3 + 1024 ≤ _)⟩)
  dsimp only [Pt.U, Pt.locs, Pt.cells, Pt.slots] at X96 l96 y96 z96 st96 hQ96
  subst l96 y96 z96
  obtain ⟨b19_c96, rfl, Nq96, Kq96, szq_b19_c96, P96_0⟩ := hQ96
  have g_b19_c96 : n0 ≤ b19_c96 := Nat.le_trans Z95 szq_b19_c96
  have sz_b19_c96 : h0.size ≤ b19_c96 := Nat.le_trans K95.1 szq_b19_c96
  have ne_o91_b19_c96 : o91 ≠ b19_c96 := Nat.ne_of_lt (Nat.lt_of_lt_of_le A91_t95.lt szq_b19_c96)
  have ne_b92_b19_c96 : b92 ≠ b19_c96 := Nat.ne_of_lt (Nat.lt_of_lt_of_le V_b92_t95.lt szq_b19_c96)
  have N96 := Fr.app N95 Nq96
  have K96 : Keep h0 T96.heap [] := K95.trans Kq96 all0
  have Z96 : n0 ≤ T96.heap.size := Nat.le_trans Z95 Kq96.1
  have A91_t96 := A91_t95.keep Kq96
  have V_b92_t96 := V_b92_t95.keep Kq96 nin0
  have P95_1_t96 := P95_1.keep Kq96 nin0
  have e96 : T96.heap = T96.heap := rfl
  refine Wq.steps st96 ?_
  show Wq _ _ _ _ _ (T96.setTop (mkF m 200 #[.val (.int xlaw_1), .val (.int xlaw_2), .val (.int xlaw_3), .val (.int xlaw_4), .val (.int v5), .val (.int ms22_0), .val (.int ms46_0), .val (.int ms82_0), .val (.int ms95_0), .val (.int ms115_0), .val (.int ms142_0), .val (.int v176), .unset, .unset, .unset] [(.ref b19_c96)]))
  refine Ow.astore X96 hx (pc' := 202) (hb hby at_200) rfl (l' := #[.val (.int xlaw_1), .val (.int xlaw_2), .val (.int xlaw_3), .val (.int xlaw_4), .val (.int v5), .val (.int ms22_0), .val (.int ms46_0), .val (.int ms82_0), .val (.int ms95_0), .val (.int ms115_0), .val (.int ms142_0), .val (.int v176), .val (.ref b19_c96), .unset, .unset]) rfl ?_
  rcases own_cs hms95_0 hms115_0 hms142_0 hms154_0 hms164_0 hms175_0 hv176 with ⟨rfl, rfl, rfl, rfl, PF⟩ | ⟨rfl, rfl, rfl, rfl, PF⟩ | ⟨rfl, rfl, rfl, rfl, PF⟩ | ⟨rfl, rfl, rfl, rfl, PF⟩ | ⟨rfl, rfl, rfl, rfl, PF⟩
  · skip
    show Wq _ _ _ _ _ (T96.setTop (mkF m 202 #[.val (.int xlaw_1), .val (.int xlaw_2), .val (.int xlaw_3), .val (.int xlaw_4), .val (.int v5), .val (.int ms22_0), .val (.int ms46_0), .val (.int ms82_0), .val (.int (0 : Int32)), .val (.int (0 : Int32)), .val (.int (0 : Int32)), .val (.int (0 : Int32)), .val (.ref b19_c96), .unset, .unset] []))
    refine Ow.iload X96 hx (pc' := 204) (hb hby at_202) rfl ?_
    refine Ow.ifYes X96 hx (pc' := 214) (hb hby at_204) ((if0 _ _).trans (teq (by decide : (0 : Int32) = (0 : Int32))).1) (by decide) (by decide) ?_
    refine Ow.iload X96 hx (pc' := 216) (hb hby at_214) rfl ?_
    refine Ow.ifYes X96 hx (pc' := 226) (hb hby at_216) ((if0 _ _).trans (teq (by decide : (0 : Int32) = (0 : Int32))).1) (by decide) (by decide) ?_
    refine Ow.iload X96 hx (pc' := 228) (hb hby at_226) rfl ?_
    refine Ow.ifYes X96 hx (pc' := 238) (hb hby at_228) ((if0 _ _).trans (teq (by decide : (0 : Int32) = (0 : Int32))).1) (by decide) (by decide) ?_
    obtain ⟨T97, h97, X97, e97, E97, A97, D97, -, st97⟩ := newO X96 hx hZ hown (kw65 hw) (kw66 hw) (kw67 hw) e96 (g := (mkF m 238 #[.val (.int xlaw_1), .val (.int xlaw_2), .val (.int xlaw_3), .val (.int xlaw_4), .val (.int v5), .val (.int ms22_0), .val (.int ms46_0), .val (.int ms82_0), .val (.int (0 : Int32)), .val (.int (0 : Int32)), .val (.int (0 : Int32)), .val (.int (0 : Int32)), .val (.ref b19_c96), .unset, .unset] [])) rfl (hb hby at_238) (by decide) (by decide)
    obtain ⟨o97, gz97⟩ : ∃ z, z = T96.heap.size := ⟨_, rfl⟩
    rw [← gz97] at A97 D97 st97
    have g_o97 : n0 ≤ o97 := Nat.le_trans Z96 (Nat.le_of_eq gz97.symm)
    have sz_o97 : h0.size ≤ o97 := Nat.le_trans K96.1 (Nat.le_of_eq gz97.symm)
    have ne_o91_o97 : o91 ≠ o97 := Nat.ne_of_lt (Nat.lt_of_lt_of_le A91_t96.lt (Nat.le_of_eq gz97.symm))
    have ne_b92_o97 : b92 ≠ o97 := Nat.ne_of_lt (Nat.lt_of_lt_of_le V_b92_t96.lt (Nat.le_of_eq gz97.symm))
    have ne_b19_c96_o97 : b19_c96 ≠ o97 := Nat.ne_of_lt (Nat.lt_of_lt_of_le P96_0.lt (Nat.le_of_eq gz97.symm))
    have K97 : Keep h0 h97 [] := K96.ext E97
    have Z97 : n0 ≤ h97.size := Nat.le_trans Z96 E97.1
    have A91_t97 := A91_t96.ext E97
    have V_b92_t97 := V_b92_t96.ext E97
    have P95_1_t97 := P95_1_t96.ext E97
    have P96_0_t97 := P96_0.ext E97
    refine Wq.step st97 ?_
    have F_o97_missing : Fld Z h97 o97 "com/example/tightbit/tightbit/SparseDocIds$Complement" "missing" "[C" .null := D97 (Or.inr (kw75 hw)) (ty := (.array .char)) (by decide)
    show Wq _ _ _ _ _ (T97.setTop (mkF m 241 #[.val (.int xlaw_1), .val (.int xlaw_2), .val (.int xlaw_3), .val (.int xlaw_4), .val (.int v5), .val (.int ms22_0), .val (.int ms46_0), .val (.int ms82_0), .val (.int (0 : Int32)), .val (.int (0 : Int32)), .val (.int (0 : Int32)), .val (.int (0 : Int32)), .val (.ref b19_c96), .unset, .unset] [(.ref o97)]))
    refine Ow.dup X97 hx (pc' := 242) (hb hby at_241) rfl ?_
    refine Ow.aload X97 hx (pc' := 244) (hb hby at_242) rfl rfl ?_
    refine Ow.ldcInt X97 hx hZ (pc' := 246) hown (kw68 hw) (hb hby at_244) ?_
    refine Ow.iload X97 hx (pc' := 248) (hb hby at_246) rfl ?_
    refine Ow.isub X97 hx (pc' := 249) (hb hby at_248) (z := (65536 : Int32)) rfl ?_
    obtain ⟨_, _, ⟨T98, L98, k98, n98⟩, -, X98, ⟨Lc98, hQ98, l98, y98, z98⟩, st98⟩ := X97.specialBack hx (y := mt17) rfl hown (mvT hZ (kw69 hw)) (mvT hZ (kw70 hw)) (mvT hZ (kw71 hw)) (by decide) (backOf (W := 1) (rm_k0 l Z a0 hw [] o97 b19_c96 (65536 : Int32) (fun _ => (-1 : Int64)) (own_s1 0) h97 n0 Z97 (by decide) (own_S0) A97 F_o97_missing g_o97 P96_0_t97 ne_b19_c96_o97) hZ (kw71 hw) (kw67 hw) (by decide) (by decide)) (g := (mkF m 249 #[.val (.int xlaw_1), .val (.int xlaw_2), .val (.int xlaw_3), .val (.int xlaw_4), .val (.int v5), .val (.int ms22_0), .val (.int ms46_0), .val (.int ms82_0), .val (.int (0 : Int32)), .val (.int (0 : Int32)), .val (.int (0 : Int32)), .val (.int (0 : Int32)), .val (.ref b19_c96), .unset, .unset] [(.int (65536 : Int32)), (.ref b19_c96), (.ref o97), (.ref o97)])) rfl (by rw [hml]; rfl) (Steps.refl _) (a := o97) (argsL := [(.ref b19_c96), (.int (65536 : Int32))]) (rest := [(.ref o97)]) (lenOf pd11 rfl) rfl (by show 2 * 0 + _ ≤ _; exact Nat.le_of_eq rfl) (hb hby at_249) (fun _ _ => ⟨rfl, e97, (by decide : 4 + 1 ≤ _), (by decide : 1028 + 0 ≤ _)⟩)
    dsimp only [Pt.U, Pt.locs, Pt.cells, Pt.slots] at X98 l98 y98 z98 st98 hQ98
    subst l98 y98 z98
    obtain ⟨b26_c98, rfl, Nq98, Kq98, szq_b26_c98, P98_0, P98_1, P98_2⟩ := hQ98
    have g_b26_c98 : n0 ≤ b26_c98 := Nat.le_trans Z97 szq_b26_c98
    have sz_b26_c98 : h0.size ≤ b26_c98 := Nat.le_trans K97.1 szq_b26_c98
    have ne_o91_b26_c98 : o91 ≠ b26_c98 := Nat.ne_of_lt (Nat.lt_of_lt_of_le A91_t97.lt szq_b26_c98)
    have ne_b92_b26_c98 : b92 ≠ b26_c98 := Nat.ne_of_lt (Nat.lt_of_lt_of_le V_b92_t97.lt szq_b26_c98)
    have ne_b19_c96_b26_c98 : b19_c96 ≠ b26_c98 := Nat.ne_of_lt (Nat.lt_of_lt_of_le P96_0_t97.lt szq_b26_c98)
    have ne_o97_b26_c98 : o97 ≠ b26_c98 := Nat.ne_of_lt (Nat.lt_of_lt_of_le A97.lt szq_b26_c98)
    have N98 := Fr.app N96 Nq98
    have K98 : Keep h0 T98.heap [] := K97.trans Kq98 (allS (P := fun x => x ∈ [] ∨ h0.size ≤ x) (Or.inr sz_o97) all0)
    have Z98 : n0 ≤ T98.heap.size := Nat.le_trans Z97 Kq98.1
    have A91_t98 := A91_t97.keep Kq98
    have V_b92_t98 := V_b92_t97.keep Kq98 (ninS ne_b92_o97 nin0)
    have P95_1_t98 := P95_1_t97.keep Kq98 (ninS ne_o91_o97 nin0)
    have P96_0_t98 := P96_0_t97.keep Kq98 (ninS ne_b19_c96_o97 nin0)
    have A97_t98 := A97.keep Kq98
    have e98 : T98.heap = T98.heap := rfl
    refine Wq.steps st98 ?_
    show Wq _ _ _ _ _ (T98.setTop (mkF m 252 #[.val (.int xlaw_1), .val (.int xlaw_2), .val (.int xlaw_3), .val (.int xlaw_4), .val (.int v5), .val (.int ms22_0), .val (.int ms46_0), .val (.int ms82_0), .val (.int (0 : Int32)), .val (.int (0 : Int32)), .val (.int (0 : Int32)), .val (.int (0 : Int32)), .val (.ref b19_c96), .unset, .unset] [(.ref o97)]))
    refine Ow.astore X98 hx (pc' := 254) (hb hby at_252) rfl (l' := #[.val (.int xlaw_1), .val (.int xlaw_2), .val (.int xlaw_3), .val (.int xlaw_4), .val (.int v5), .val (.int ms22_0), .val (.int ms46_0), .val (.int ms82_0), .val (.int (0 : Int32)), .val (.int (0 : Int32)), .val (.int (0 : Int32)), .val (.int (0 : Int32)), .val (.ref b19_c96), .val (.ref o97), .unset]) rfl ?_
    refine Ow.iconst X98 hx (pc' := 255) (hb hby at_254) (z := (0 : Int32)) rfl ?_
    refine Ow.iload X98 hx (pc' := 257) (hb hby at_255) rfl ?_
    refine Ow.iload X98 hx (pc' := 259) (hb hby at_257) rfl ?_
    refine Ow.iload X98 hx (pc' := 261) (hb hby at_259) rfl ?_
    refine Ow.iload X98 hx (pc' := 263) (hb hby at_261) rfl ?_
    obtain ⟨_, _, ⟨T99, L99, k99, n99⟩, -, X99, ⟨Lc99, hQ99, l99, y99, z99⟩, st99⟩ := Jvm.LawKit.callS X98 hx (y := mt13) hown (mvT hZ (kw77 hw)) (mvT hZ (kw78 hw)) (mvT hZ (kw79 hw)) (mvT hZ (kw80 hw)) (by decide) (backOf (W := 0) (rm_in l Z a0 hw [] (0 : Int32) v5 ms22_0 ms46_0 ms82_0 T98.heap n0 Z98 ) hZ (kw80 hw) (kw79 hw) (by decide) (by decide)) (g := (mkF m 263 #[.val (.int xlaw_1), .val (.int xlaw_2), .val (.int xlaw_3), .val (.int xlaw_4), .val (.int v5), .val (.int ms22_0), .val (.int ms46_0), .val (.int ms82_0), .val (.int (0 : Int32)), .val (.int (0 : Int32)), .val (.int (0 : Int32)), .val (.int (0 : Int32)), .val (.ref b19_c96), .val (.ref o97), .unset] [(.int ms82_0), (.int ms46_0), (.int ms22_0), (.int v5), (.int (0 : Int32))])) rfl (by rw [hml]; rfl) (argsL := [(.int (0 : Int32)), (.int v5), (.int ms22_0), (.int ms46_0), (.int ms82_0)]) (rest := []) (lenOf pd7 rfl) rfl (by show 2 * 0 + _ ≤ _; exact Nat.le_of_eq rfl) (hb hby at_263) (fun _ _ => ⟨rfl, e98, (by decide : 5 + 0 ≤ _), (by decide : 1028 + 0 ≤ _)⟩)
    dsimp only [Pt.U, Pt.locs, Pt.cells, Pt.slots] at X99 l99 y99 z99 st99 hQ99
    subst l99 y99 z99
    obtain ⟨rfl, Nq99, e99⟩ := hQ99
    have N99 := Fr.app N98 Nq99
    refine Wq.step st99 ?_
    show Wq _ _ _ _ _ (T99.setTop (mkF m 266 #[.val (.int xlaw_1), .val (.int xlaw_2), .val (.int xlaw_3), .val (.int xlaw_4), .val (.int v5), .val (.int ms22_0), .val (.int ms46_0), .val (.int ms82_0), .val (.int (0 : Int32)), .val (.int (0 : Int32)), .val (.int (0 : Int32)), .val (.int (0 : Int32)), .val (.ref b19_c96), .val (.ref o97), .unset] [(.int (f_in (0 : Int32) v5 ms22_0 ms46_0 ms82_0))]))
    generalize hv263 : (f_in (0 : Int32) v5 ms22_0 ms46_0 ms82_0) = v263
    show Wq _ _ _ _ _ (T99.setTop (mkF m 266 #[.val (.int xlaw_1), .val (.int xlaw_2), .val (.int xlaw_3), .val (.int xlaw_4), .val (.int v5), .val (.int ms22_0), .val (.int ms46_0), .val (.int ms82_0), .val (.int (0 : Int32)), .val (.int (0 : Int32)), .val (.int (0 : Int32)), .val (.int (0 : Int32)), .val (.ref b19_c96), .val (.ref o97), .unset] [(.int v263)]))
    refine Wq.by (U' := T99.setTop (mkF m 274 #[.val (.int xlaw_1), .val (.int xlaw_2), .val (.int xlaw_3), .val (.int xlaw_4), .val (.int v5), .val (.int ms22_0), .val (.int ms46_0), .val (.int ms82_0), .val (.int (0 : Int32)), .val (.int (0 : Int32)), .val (.int (0 : Int32)), .val (.int (0 : Int32)), .val (.ref b19_c96), .val (.ref o97), .unset] [(.int (if v263 = (0 : Int32) then (1 : Int32) else (0 : Int32)))])) (fun k => ?_) ?_
    · skip
      by_cases hm266 : v263 = (0 : Int32)
      · skip
        refine Ow.ifYes X99 hx (pc' := 273) (hb hby at_266) ((if0 _ _).trans (teq hm266).1) (by decide) (by decide) ?_
        refine Ow.iconst X99 hx (pc' := 274) (hb hby at_273) (z := (1 : Int32)) rfl ?_
        simp only [if_pos hm266] at k
        exact k
      · skip
        refine Ow.ifNo X99 hx (pc' := 269) (hb hby at_266) ((if0 _ _).trans (feq hm266).1) ?_
        refine Ow.iconst X99 hx (pc' := 270) (hb hby at_269) (z := (0 : Int32)) rfl ?_
        refine Ow.goto X99 hx (pc' := 274) (hb hby at_270) (by decide) (by decide) ?_
        simp only [if_neg hm266] at k
        exact k
    show Wq _ _ _ _ _ (T99.setTop (mkF m 274 #[.val (.int xlaw_1), .val (.int xlaw_2), .val (.int xlaw_3), .val (.int xlaw_4), .val (.int v5), .val (.int ms22_0), .val (.int ms46_0), .val (.int ms82_0), .val (.int (0 : Int32)), .val (.int (0 : Int32)), .val (.int (0 : Int32)), .val (.int (0 : Int32)), .val (.ref b19_c96), .val (.ref o97), .unset] [(.int (if v263 = (0 : Int32) then (1 : Int32) else (0 : Int32)))]))
    generalize hms274_0 : (if v263 = (0 : Int32) then (1 : Int32) else (0 : Int32)) = ms274_0
    refine Ow.istore X99 hx (pc' := 276) (hb hby at_274) (l' := #[.val (.int xlaw_1), .val (.int xlaw_2), .val (.int xlaw_3), .val (.int xlaw_4), .val (.int v5), .val (.int ms22_0), .val (.int ms46_0), .val (.int ms82_0), .val (.int (0 : Int32)), .val (.int (0 : Int32)), .val (.int (0 : Int32)), .val (.int (0 : Int32)), .val (.ref b19_c96), .val (.ref o97), .val (.int ms274_0)]) rfl ?_
    refine Ow.iload X99 hx (pc' := 278) (hb hby at_276) rfl ?_
    refine Ow.ifYes X99 hx (pc' := 299) (hb hby at_278) ((if0 _ _).trans (teq (by decide : (0 : Int32) = (0 : Int32))).1) (by decide) (by decide) ?_
    refine Ow.iload X99 hx (pc' := 301) (hb hby at_299) rfl ?_
    refine Ow.ifYes X99 hx (pc' := 322) (hb hby at_301) ((if0 _ _).trans (teq (by decide : (0 : Int32) = (0 : Int32))).1) (by decide) (by decide) ?_
    refine Ow.iload X99 hx (pc' := 324) (hb hby at_322) rfl ?_
    refine Ow.ifYes X99 hx (pc' := 345) (hb hby at_324) ((if0 _ _).trans (teq (by decide : (0 : Int32) = (0 : Int32))).1) (by decide) (by decide) ?_
    refine Ow.aload X99 hx (pc' := 347) (hb hby at_345) rfl rfl ?_
    obtain ⟨cq100, kq100, q100a, q100b, q100c⟩ := isOf hZ e99 A97_t98
    obtain ⟨_, _, ⟨T100, L100, k100, n100⟩, -, X100, ⟨Lc100, hQ100, l100, y100, z100⟩, st100⟩ := X99.virtualBack hx (y := mt18) (z := mt18) hown (mvT hZ (kw81 hw)) (mvT hZ (kw82 hw)) (notFace_of_selects (args := #[]) (mvT hZ (kw84 hw))) (mvT hZ (kw84 hw)) (mvT hZ (kw83 hw)) (by decide) (backOf (W := 0) (rm_q0 l Z a0 hw [] o97 b26_c98 T98.heap n0 Z98 P98_2 P98_1) hZ (kw85 hw) (kw67 hw) (by decide) (by decide)) q100a q100c (g := (mkF m 347 #[.val (.int xlaw_1), .val (.int xlaw_2), .val (.int xlaw_3), .val (.int xlaw_4), .val (.int v5), .val (.int ms22_0), .val (.int ms46_0), .val (.int ms82_0), .val (.int (0 : Int32)), .val (.int (0 : Int32)), .val (.int (0 : Int32)), .val (.int (0 : Int32)), .val (.ref b19_c96), .val (.ref o97), .val (.int ms274_0)] [(.ref o97)])) rfl (by rw [hml]; rfl) (Steps.refl _) (argsL := []) (rest := []) (lenOf pd1 rfl) rfl (by show 2 * 0 + _ ≤ _; exact Nat.le_of_eq rfl) (hb hby at_347) (fun _ _ => ⟨rfl, e99, (by decide : 5 + 0 ≤ _), (by decide : 1028 + 0 ≤ _)⟩)
    dsimp only [Pt.U, Pt.locs, Pt.cells, Pt.slots] at X100 l100 y100 z100 st100 hQ100
    subst l100 y100 z100
    obtain ⟨rfl, Nq100, e100⟩ := hQ100
    have N100 := Fr.app N99 Nq100
    refine Wq.steps st100 ?_
    show Wq _ _ _ _ _ (T100.setTop (mkF m 350 #[.val (.int xlaw_1), .val (.int xlaw_2), .val (.int xlaw_3), .val (.int xlaw_4), .val (.int v5), .val (.int ms22_0), .val (.int ms46_0), .val (.int ms82_0), .val (.int (0 : Int32)), .val (.int (0 : Int32)), .val (.int (0 : Int32)), .val (.int (0 : Int32)), .val (.ref b19_c96), .val (.ref o97), .val (.int ms274_0)] [(.int (1 : Int32))]))
    show Wq _ _ _ _ _ (T100.setTop (mkF m 350 #[.val (.int xlaw_1), .val (.int xlaw_2), .val (.int xlaw_3), .val (.int xlaw_4), .val (.int v5), .val (.int ms22_0), .val (.int ms46_0), .val (.int ms82_0), .val (.int (0 : Int32)), .val (.int (0 : Int32)), .val (.int (0 : Int32)), .val (.int (0 : Int32)), .val (.ref b19_c96), .val (.ref o97), .val (.int ms274_0)] [(.int (1 : Int32))]))
    refine Ow.iload X100 hx (pc' := 352) (hb hby at_350) rfl ?_
    refine Ow.icmpNo X100 hx (pc' := 355) (hb hby at_352) (teq (own_L0 PF hv263 hms274_0 : (1 : Int32) = ms274_0)).2 ?_
    refine Ow.iconst X100 hx (pc' := 356) (hb hby at_355) (z := (1 : Int32)) rfl ?_
    refine Ow.goto X100 hx (pc' := 360) (hb hby at_356) (by decide) (by decide) ?_
    exact Wq.ret X100 (BodyLoose.notSynchronized Bd) (rv := some (.int (1 : Int32))) (fun h => by rw [Bd.returns] at h; cases h) (fun _ hr => retN X100 hx (t := .boolean) Bd.returns (by simp) (hb hby at_360) hr) (by decide) (by decide) ⟨rfl, N100⟩
  · skip
    show Wq _ _ _ _ _ (T96.setTop (mkF m 202 #[.val (.int xlaw_1), .val (.int xlaw_2), .val (.int xlaw_3), .val (.int xlaw_4), .val (.int v5), .val (.int ms22_0), .val (.int ms46_0), .val (.int ms82_0), .val (.int (1 : Int32)), .val (.int (0 : Int32)), .val (.int (0 : Int32)), .val (.int (1 : Int32)), .val (.ref b19_c96), .unset, .unset] []))
    refine Ow.iload X96 hx (pc' := 204) (hb hby at_202) rfl ?_
    refine Ow.ifNo X96 hx (pc' := 207) (hb hby at_204) ((if0 _ _).trans (feq (by decide : ¬ ((1 : Int32) = (0 : Int32)))).1) ?_
    refine Ow.aload X96 hx (pc' := 209) (hb hby at_207) rfl rfl ?_
    refine Ow.iload X96 hx (pc' := 211) (hb hby at_209) rfl ?_
    obtain ⟨_, _, ⟨T101, L101, k101, n101⟩, -, X101, ⟨Lc101, hQ101, l101, y101, z101⟩, st101⟩ := Jvm.LawKit.callS X96 hx (y := mt12) hown (mvT hZ (kw86 hw)) (mvT hZ (kw87 hw)) (mvT hZ (kw79 hw)) (mvT hZ (kw88 hw)) (by decide) (backOf (W := 0) (rm_cl l Z a0 hw [] b19_c96 ms22_0 (fun _ => (-1 : Int64)) T96.heap n0 Z96 (RA) P96_0 g_b19_c96) hZ (kw88 hw) (kw79 hw) (by decide) (by decide)) (g := (mkF m 211 #[.val (.int xlaw_1), .val (.int xlaw_2), .val (.int xlaw_3), .val (.int xlaw_4), .val (.int v5), .val (.int ms22_0), .val (.int ms46_0), .val (.int ms82_0), .val (.int (1 : Int32)), .val (.int (0 : Int32)), .val (.int (0 : Int32)), .val (.int (1 : Int32)), .val (.ref b19_c96), .unset, .unset] [(.int ms22_0), (.ref b19_c96)])) rfl (by rw [hml]; rfl) (argsL := [(.ref b19_c96), (.int ms22_0)]) (rest := []) (lenOf pd11 rfl) rfl (by show 2 * 0 + _ ≤ _; exact Nat.le_of_eq rfl) (hb hby at_211) (fun _ _ => ⟨rfl, e96, (by decide : 3 + 0 ≤ _), (by decide : 1027 + 0 ≤ _)⟩)
    dsimp only [Pt.U, Pt.locs, Pt.cells, Pt.slots] at X101 l101 y101 z101 st101 hQ101
    subst l101 y101 z101
    obtain ⟨rfl, Nq101, Kq101, P101_0⟩ := hQ101
    have N101 := Fr.app N96 Nq101
    have K101 : Keep h0 T101.heap [] := K96.trans Kq101 (allS (P := fun x => x ∈ [] ∨ h0.size ≤ x) (Or.inr sz_b19_c96) all0)
    have Z101 : n0 ≤ T101.heap.size := Nat.le_trans Z96 Kq101.1
    have A91_t101 := A91_t96.keep Kq101
    have V_b92_t101 := V_b92_t96.keep Kq101 (ninS ne_b92_b19_c96 nin0)
    have P95_1_t101 := P95_1_t96.keep Kq101 (ninS ne_o91_b19_c96 nin0)
    have e101 : T101.heap = T101.heap := rfl
    refine Wq.step st101 ?_
    show Wq _ _ _ _ _ (T101.setTop (mkF m 214 #[.val (.int xlaw_1), .val (.int xlaw_2), .val (.int xlaw_3), .val (.int xlaw_4), .val (.int v5), .val (.int ms22_0), .val (.int ms46_0), .val (.int ms82_0), .val (.int (1 : Int32)), .val (.int (0 : Int32)), .val (.int (0 : Int32)), .val (.int (1 : Int32)), .val (.ref b19_c96), .unset, .unset] []))
    refine Ow.iload X101 hx (pc' := 216) (hb hby at_214) rfl ?_
    refine Ow.ifYes X101 hx (pc' := 226) (hb hby at_216) ((if0 _ _).trans (teq (by decide : (0 : Int32) = (0 : Int32))).1) (by decide) (by decide) ?_
    refine Ow.iload X101 hx (pc' := 228) (hb hby at_226) rfl ?_
    refine Ow.ifYes X101 hx (pc' := 238) (hb hby at_228) ((if0 _ _).trans (teq (by decide : (0 : Int32) = (0 : Int32))).1) (by decide) (by decide) ?_
    obtain ⟨T102, h102, X102, e102, E102, A102, D102, -, st102⟩ := newO X101 hx hZ hown (kw65 hw) (kw66 hw) (kw67 hw) e101 (g := (mkF m 238 #[.val (.int xlaw_1), .val (.int xlaw_2), .val (.int xlaw_3), .val (.int xlaw_4), .val (.int v5), .val (.int ms22_0), .val (.int ms46_0), .val (.int ms82_0), .val (.int (1 : Int32)), .val (.int (0 : Int32)), .val (.int (0 : Int32)), .val (.int (1 : Int32)), .val (.ref b19_c96), .unset, .unset] [])) rfl (hb hby at_238) (by decide) (by decide)
    obtain ⟨o102, gz102⟩ : ∃ z, z = T101.heap.size := ⟨_, rfl⟩
    rw [← gz102] at A102 D102 st102
    have g_o102 : n0 ≤ o102 := Nat.le_trans Z101 (Nat.le_of_eq gz102.symm)
    have sz_o102 : h0.size ≤ o102 := Nat.le_trans K101.1 (Nat.le_of_eq gz102.symm)
    have ne_o91_o102 : o91 ≠ o102 := Nat.ne_of_lt (Nat.lt_of_lt_of_le A91_t101.lt (Nat.le_of_eq gz102.symm))
    have ne_b92_o102 : b92 ≠ o102 := Nat.ne_of_lt (Nat.lt_of_lt_of_le V_b92_t101.lt (Nat.le_of_eq gz102.symm))
    have ne_b19_c96_o102 : b19_c96 ≠ o102 := Nat.ne_of_lt (Nat.lt_of_lt_of_le P101_0.lt (Nat.le_of_eq gz102.symm))
    have K102 : Keep h0 h102 [] := K101.ext E102
    have Z102 : n0 ≤ h102.size := Nat.le_trans Z101 E102.1
    have A91_t102 := A91_t101.ext E102
    have V_b92_t102 := V_b92_t101.ext E102
    have P95_1_t102 := P95_1_t101.ext E102
    have P101_0_t102 := P101_0.ext E102
    refine Wq.step st102 ?_
    have F_o102_missing : Fld Z h102 o102 "com/example/tightbit/tightbit/SparseDocIds$Complement" "missing" "[C" .null := D102 (Or.inr (kw75 hw)) (ty := (.array .char)) (by decide)
    show Wq _ _ _ _ _ (T102.setTop (mkF m 241 #[.val (.int xlaw_1), .val (.int xlaw_2), .val (.int xlaw_3), .val (.int xlaw_4), .val (.int v5), .val (.int ms22_0), .val (.int ms46_0), .val (.int ms82_0), .val (.int (1 : Int32)), .val (.int (0 : Int32)), .val (.int (0 : Int32)), .val (.int (1 : Int32)), .val (.ref b19_c96), .unset, .unset] [(.ref o102)]))
    refine Ow.dup X102 hx (pc' := 242) (hb hby at_241) rfl ?_
    refine Ow.aload X102 hx (pc' := 244) (hb hby at_242) rfl rfl ?_
    refine Ow.ldcInt X102 hx hZ (pc' := 246) hown (kw68 hw) (hb hby at_244) ?_
    refine Ow.iload X102 hx (pc' := 248) (hb hby at_246) rfl ?_
    refine Ow.isub X102 hx (pc' := 249) (hb hby at_248) (z := (65535 : Int32)) rfl ?_
    obtain ⟨_, _, ⟨T103, L103, k103, n103⟩, -, X103, ⟨Lc103, hQ103, l103, y103, z103⟩, st103⟩ := X102.specialBack hx (y := mt17) rfl hown (mvT hZ (kw69 hw)) (mvT hZ (kw70 hw)) (mvT hZ (kw71 hw)) (by decide) (backOf (W := 1) (rm_k1 l Z a0 hw [] o102 b19_c96 (65535 : Int32) (own_clr (fun _ => (-1 : Int64)) ms22_0) (own_s1 (own_n ms22_0)) h102 n0 Z102 (by decide) (own_S1 RA) A102 F_o102_missing g_o102 P101_0_t102 ne_b19_c96_o102) hZ (kw71 hw) (kw67 hw) (by decide) (by decide)) (g := (mkF m 249 #[.val (.int xlaw_1), .val (.int xlaw_2), .val (.int xlaw_3), .val (.int xlaw_4), .val (.int v5), .val (.int ms22_0), .val (.int ms46_0), .val (.int ms82_0), .val (.int (1 : Int32)), .val (.int (0 : Int32)), .val (.int (0 : Int32)), .val (.int (1 : Int32)), .val (.ref b19_c96), .unset, .unset] [(.int (65535 : Int32)), (.ref b19_c96), (.ref o102), (.ref o102)])) rfl (by rw [hml]; rfl) (Steps.refl _) (a := o102) (argsL := [(.ref b19_c96), (.int (65535 : Int32))]) (rest := [(.ref o102)]) (lenOf pd11 rfl) rfl (by show 2 * 0 + _ ≤ _; exact Nat.le_of_eq rfl) (hb hby at_249) (fun _ _ => ⟨rfl, e102, (by decide : 4 + 1 ≤ _), (by decide : 1028 + 1 ≤ _)⟩)
    dsimp only [Pt.U, Pt.locs, Pt.cells, Pt.slots] at X103 l103 y103 z103 st103 hQ103
    subst l103 y103 z103
    obtain ⟨b34_c103, rfl, Nq103, Kq103, szq_b34_c103, P103_0, P103_1, P103_2⟩ := hQ103
    have g_b34_c103 : n0 ≤ b34_c103 := Nat.le_trans Z102 szq_b34_c103
    have sz_b34_c103 : h0.size ≤ b34_c103 := Nat.le_trans K102.1 szq_b34_c103
    have ne_o91_b34_c103 : o91 ≠ b34_c103 := Nat.ne_of_lt (Nat.lt_of_lt_of_le A91_t102.lt szq_b34_c103)
    have ne_b92_b34_c103 : b92 ≠ b34_c103 := Nat.ne_of_lt (Nat.lt_of_lt_of_le V_b92_t102.lt szq_b34_c103)
    have ne_b19_c96_b34_c103 : b19_c96 ≠ b34_c103 := Nat.ne_of_lt (Nat.lt_of_lt_of_le P101_0_t102.lt szq_b34_c103)
    have ne_o102_b34_c103 : o102 ≠ b34_c103 := Nat.ne_of_lt (Nat.lt_of_lt_of_le A102.lt szq_b34_c103)
    have N103 := Fr.app N101 Nq103
    have K103 : Keep h0 T103.heap [] := K102.trans Kq103 (allS (P := fun x => x ∈ [] ∨ h0.size ≤ x) (Or.inr sz_o102) all0)
    have Z103 : n0 ≤ T103.heap.size := Nat.le_trans Z102 Kq103.1
    have A91_t103 := A91_t102.keep Kq103
    have V_b92_t103 := V_b92_t102.keep Kq103 (ninS ne_b92_o102 nin0)
    have P95_1_t103 := P95_1_t102.keep Kq103 (ninS ne_o91_o102 nin0)
    have P101_0_t103 := P101_0_t102.keep Kq103 (ninS ne_b19_c96_o102 nin0)
    have A102_t103 := A102.keep Kq103
    have e103 : T103.heap = T103.heap := rfl
    refine Wq.steps st103 ?_
    show Wq _ _ _ _ _ (T103.setTop (mkF m 252 #[.val (.int xlaw_1), .val (.int xlaw_2), .val (.int xlaw_3), .val (.int xlaw_4), .val (.int v5), .val (.int ms22_0), .val (.int ms46_0), .val (.int ms82_0), .val (.int (1 : Int32)), .val (.int (0 : Int32)), .val (.int (0 : Int32)), .val (.int (1 : Int32)), .val (.ref b19_c96), .unset, .unset] [(.ref o102)]))
    refine Ow.astore X103 hx (pc' := 254) (hb hby at_252) rfl (l' := #[.val (.int xlaw_1), .val (.int xlaw_2), .val (.int xlaw_3), .val (.int xlaw_4), .val (.int v5), .val (.int ms22_0), .val (.int ms46_0), .val (.int ms82_0), .val (.int (1 : Int32)), .val (.int (0 : Int32)), .val (.int (0 : Int32)), .val (.int (1 : Int32)), .val (.ref b19_c96), .val (.ref o102), .unset]) rfl ?_
    refine Ow.iconst X103 hx (pc' := 255) (hb hby at_254) (z := (0 : Int32)) rfl ?_
    refine Ow.iload X103 hx (pc' := 257) (hb hby at_255) rfl ?_
    refine Ow.iload X103 hx (pc' := 259) (hb hby at_257) rfl ?_
    refine Ow.iload X103 hx (pc' := 261) (hb hby at_259) rfl ?_
    refine Ow.iload X103 hx (pc' := 263) (hb hby at_261) rfl ?_
    obtain ⟨_, _, ⟨T104, L104, k104, n104⟩, -, X104, ⟨Lc104, hQ104, l104, y104, z104⟩, st104⟩ := Jvm.LawKit.callS X103 hx (y := mt13) hown (mvT hZ (kw77 hw)) (mvT hZ (kw78 hw)) (mvT hZ (kw79 hw)) (mvT hZ (kw80 hw)) (by decide) (backOf (W := 0) (rm_in l Z a0 hw [] (0 : Int32) v5 ms22_0 ms46_0 ms82_0 T103.heap n0 Z103 ) hZ (kw80 hw) (kw79 hw) (by decide) (by decide)) (g := (mkF m 263 #[.val (.int xlaw_1), .val (.int xlaw_2), .val (.int xlaw_3), .val (.int xlaw_4), .val (.int v5), .val (.int ms22_0), .val (.int ms46_0), .val (.int ms82_0), .val (.int (1 : Int32)), .val (.int (0 : Int32)), .val (.int (0 : Int32)), .val (.int (1 : Int32)), .val (.ref b19_c96), .val (.ref o102), .unset] [(.int ms82_0), (.int ms46_0), (.int ms22_0), (.int v5), (.int (0 : Int32))])) rfl (by rw [hml]; rfl) (argsL := [(.int (0 : Int32)), (.int v5), (.int ms22_0), (.int ms46_0), (.int ms82_0)]) (rest := []) (lenOf pd7 rfl) rfl (by show 2 * 0 + _ ≤ _; exact Nat.le_of_eq rfl) (hb hby at_263) (fun _ _ => ⟨rfl, e103, (by decide : 5 + 0 ≤ _), (by decide : 1029 + 0 ≤ _)⟩)
    dsimp only [Pt.U, Pt.locs, Pt.cells, Pt.slots] at X104 l104 y104 z104 st104 hQ104
    subst l104 y104 z104
    obtain ⟨rfl, Nq104, e104⟩ := hQ104
    have N104 := Fr.app N103 Nq104
    refine Wq.step st104 ?_
    show Wq _ _ _ _ _ (T104.setTop (mkF m 266 #[.val (.int xlaw_1), .val (.int xlaw_2), .val (.int xlaw_3), .val (.int xlaw_4), .val (.int v5), .val (.int ms22_0), .val (.int ms46_0), .val (.int ms82_0), .val (.int (1 : Int32)), .val (.int (0 : Int32)), .val (.int (0 : Int32)), .val (.int (1 : Int32)), .val (.ref b19_c96), .val (.ref o102), .unset] [(.int (f_in (0 : Int32) v5 ms22_0 ms46_0 ms82_0))]))
    generalize hv263 : (f_in (0 : Int32) v5 ms22_0 ms46_0 ms82_0) = v263
    show Wq _ _ _ _ _ (T104.setTop (mkF m 266 #[.val (.int xlaw_1), .val (.int xlaw_2), .val (.int xlaw_3), .val (.int xlaw_4), .val (.int v5), .val (.int ms22_0), .val (.int ms46_0), .val (.int ms82_0), .val (.int (1 : Int32)), .val (.int (0 : Int32)), .val (.int (0 : Int32)), .val (.int (1 : Int32)), .val (.ref b19_c96), .val (.ref o102), .unset] [(.int v263)]))
    refine Wq.by (U' := T104.setTop (mkF m 274 #[.val (.int xlaw_1), .val (.int xlaw_2), .val (.int xlaw_3), .val (.int xlaw_4), .val (.int v5), .val (.int ms22_0), .val (.int ms46_0), .val (.int ms82_0), .val (.int (1 : Int32)), .val (.int (0 : Int32)), .val (.int (0 : Int32)), .val (.int (1 : Int32)), .val (.ref b19_c96), .val (.ref o102), .unset] [(.int (if v263 = (0 : Int32) then (1 : Int32) else (0 : Int32)))])) (fun k => ?_) ?_
    · skip
      by_cases hm266 : v263 = (0 : Int32)
      · skip
        refine Ow.ifYes X104 hx (pc' := 273) (hb hby at_266) ((if0 _ _).trans (teq hm266).1) (by decide) (by decide) ?_
        refine Ow.iconst X104 hx (pc' := 274) (hb hby at_273) (z := (1 : Int32)) rfl ?_
        simp only [if_pos hm266] at k
        exact k
      · skip
        refine Ow.ifNo X104 hx (pc' := 269) (hb hby at_266) ((if0 _ _).trans (feq hm266).1) ?_
        refine Ow.iconst X104 hx (pc' := 270) (hb hby at_269) (z := (0 : Int32)) rfl ?_
        refine Ow.goto X104 hx (pc' := 274) (hb hby at_270) (by decide) (by decide) ?_
        simp only [if_neg hm266] at k
        exact k
    show Wq _ _ _ _ _ (T104.setTop (mkF m 274 #[.val (.int xlaw_1), .val (.int xlaw_2), .val (.int xlaw_3), .val (.int xlaw_4), .val (.int v5), .val (.int ms22_0), .val (.int ms46_0), .val (.int ms82_0), .val (.int (1 : Int32)), .val (.int (0 : Int32)), .val (.int (0 : Int32)), .val (.int (1 : Int32)), .val (.ref b19_c96), .val (.ref o102), .unset] [(.int (if v263 = (0 : Int32) then (1 : Int32) else (0 : Int32)))]))
    generalize hms274_0 : (if v263 = (0 : Int32) then (1 : Int32) else (0 : Int32)) = ms274_0
    refine Ow.istore X104 hx (pc' := 276) (hb hby at_274) (l' := #[.val (.int xlaw_1), .val (.int xlaw_2), .val (.int xlaw_3), .val (.int xlaw_4), .val (.int v5), .val (.int ms22_0), .val (.int ms46_0), .val (.int ms82_0), .val (.int (1 : Int32)), .val (.int (0 : Int32)), .val (.int (0 : Int32)), .val (.int (1 : Int32)), .val (.ref b19_c96), .val (.ref o102), .val (.int ms274_0)]) rfl ?_
    refine Ow.iload X104 hx (pc' := 278) (hb hby at_276) rfl ?_
    refine Ow.ifNo X104 hx (pc' := 281) (hb hby at_278) ((if0 _ _).trans (feq (by decide : ¬ ((1 : Int32) = (0 : Int32)))).1) ?_
    refine Ow.iload X104 hx (pc' := 283) (hb hby at_281) rfl ?_
    refine Ow.iload X104 hx (pc' := 285) (hb hby at_283) rfl ?_
    refine Ow.iload X104 hx (pc' := 287) (hb hby at_285) rfl ?_
    refine Ow.iload X104 hx (pc' := 289) (hb hby at_287) rfl ?_
    refine Ow.iload X104 hx (pc' := 291) (hb hby at_289) rfl ?_
    refine Ow.iload X104 hx (pc' := 293) (hb hby at_291) rfl ?_
    obtain ⟨_, _, ⟨T105, L105, k105, n105⟩, -, X105, ⟨Lc105, hQ105, l105, y105, z105⟩, st105⟩ := Jvm.LawKit.callS X104 hx (y := mt14) hown (mvT hZ (kw99 hw)) (mvT hZ (kw100 hw)) (mvT hZ (kw79 hw)) (mvT hZ (kw101 hw)) (by decide) (backOf (W := 1) (rm_sa l Z a0 hw [] ms22_0 v5 ms22_0 ms46_0 ms82_0 T103.heap n0 Z103 ) hZ (kw101 hw) (kw79 hw) (by decide) (by decide)) (g := (mkF m 293 #[.val (.int xlaw_1), .val (.int xlaw_2), .val (.int xlaw_3), .val (.int xlaw_4), .val (.int v5), .val (.int ms22_0), .val (.int ms46_0), .val (.int ms82_0), .val (.int (1 : Int32)), .val (.int (0 : Int32)), .val (.int (0 : Int32)), .val (.int (1 : Int32)), .val (.ref b19_c96), .val (.ref o102), .val (.int ms274_0)] [(.int ms82_0), (.int ms46_0), (.int ms22_0), (.int v5), (.int ms22_0), (.int ms274_0)])) rfl (by rw [hml]; rfl) (argsL := [(.int ms22_0), (.int v5), (.int ms22_0), (.int ms46_0), (.int ms82_0)]) (rest := [(.int ms274_0)]) (lenOf pd12 rfl) rfl (by show 2 * 0 + _ ≤ _; exact Nat.le_of_eq rfl) (hb hby at_293) (fun _ _ => ⟨rfl, e104, (by decide : 5 + 0 ≤ _), (by decide : 1029 + 0 ≤ _)⟩)
    dsimp only [Pt.U, Pt.locs, Pt.cells, Pt.slots] at X105 l105 y105 z105 st105 hQ105
    subst l105 y105 z105
    obtain ⟨rfl, Nq105, e105⟩ := hQ105
    have N105 := Fr.app N104 Nq105
    refine Wq.step st105 ?_
    show Wq _ _ _ _ _ (T105.setTop (mkF m 296 #[.val (.int xlaw_1), .val (.int xlaw_2), .val (.int xlaw_3), .val (.int xlaw_4), .val (.int v5), .val (.int ms22_0), .val (.int ms46_0), .val (.int ms82_0), .val (.int (1 : Int32)), .val (.int (0 : Int32)), .val (.int (0 : Int32)), .val (.int (1 : Int32)), .val (.ref b19_c96), .val (.ref o102), .val (.int ms274_0)] [(.int (f_sa ms22_0 v5 ms22_0 ms46_0 ms82_0)), (.int ms274_0)]))
    generalize hv293 : (f_sa ms22_0 v5 ms22_0 ms46_0 ms82_0) = v293
    show Wq _ _ _ _ _ (T105.setTop (mkF m 296 #[.val (.int xlaw_1), .val (.int xlaw_2), .val (.int xlaw_3), .val (.int xlaw_4), .val (.int v5), .val (.int ms22_0), .val (.int ms46_0), .val (.int ms82_0), .val (.int (1 : Int32)), .val (.int (0 : Int32)), .val (.int (0 : Int32)), .val (.int (1 : Int32)), .val (.ref b19_c96), .val (.ref o102), .val (.int ms274_0)] [(.int v293), (.int ms274_0)]))
    refine Ow.iadd X105 hx (pc' := 297) (hb hby at_296) (z := (ms274_0 + v293)) rfl ?_
    refine Ow.istore X105 hx (pc' := 299) (hb hby at_297) (l' := #[.val (.int xlaw_1), .val (.int xlaw_2), .val (.int xlaw_3), .val (.int xlaw_4), .val (.int v5), .val (.int ms22_0), .val (.int ms46_0), .val (.int ms82_0), .val (.int (1 : Int32)), .val (.int (0 : Int32)), .val (.int (0 : Int32)), .val (.int (1 : Int32)), .val (.ref b19_c96), .val (.ref o102), .val (.int (ms274_0 + v293))]) rfl ?_
    generalize hv297 : (ms274_0 + v293) = v297
    refine Ow.iload X105 hx (pc' := 301) (hb hby at_299) rfl ?_
    refine Ow.ifYes X105 hx (pc' := 322) (hb hby at_301) ((if0 _ _).trans (teq (by decide : (0 : Int32) = (0 : Int32))).1) (by decide) (by decide) ?_
    refine Ow.iload X105 hx (pc' := 324) (hb hby at_322) rfl ?_
    refine Ow.ifYes X105 hx (pc' := 345) (hb hby at_324) ((if0 _ _).trans (teq (by decide : (0 : Int32) = (0 : Int32))).1) (by decide) (by decide) ?_
    refine Ow.aload X105 hx (pc' := 347) (hb hby at_345) rfl rfl ?_
    obtain ⟨cq106, kq106, q106a, q106b, q106c⟩ := isOf hZ e105 A102_t103
    obtain ⟨_, _, ⟨T106, L106, k106, n106⟩, -, X106, ⟨Lc106, hQ106, l106, y106, z106⟩, st106⟩ := X105.virtualBack hx (y := mt18) (z := mt18) hown (mvT hZ (kw81 hw)) (mvT hZ (kw82 hw)) (notFace_of_selects (args := #[]) (mvT hZ (kw84 hw))) (mvT hZ (kw84 hw)) (mvT hZ (kw83 hw)) (by decide) (backOf (W := 0) (rm_q1 l Z a0 hw [] o102 b34_c103 (Int32.ofNat ((own_s1 (own_n ms22_0)) 0)) T103.heap n0 Z103 P103_2 P103_1) hZ (kw85 hw) (kw67 hw) (by decide) (by decide)) q106a q106c (g := (mkF m 347 #[.val (.int xlaw_1), .val (.int xlaw_2), .val (.int xlaw_3), .val (.int xlaw_4), .val (.int v5), .val (.int ms22_0), .val (.int ms46_0), .val (.int ms82_0), .val (.int (1 : Int32)), .val (.int (0 : Int32)), .val (.int (0 : Int32)), .val (.int (1 : Int32)), .val (.ref b19_c96), .val (.ref o102), .val (.int v297)] [(.ref o102)])) rfl (by rw [hml]; rfl) (Steps.refl _) (argsL := []) (rest := []) (lenOf pd1 rfl) rfl (by show 2 * 0 + _ ≤ _; exact Nat.le_of_eq rfl) (hb hby at_347) (fun _ _ => ⟨rfl, e105, (by decide : 5 + 0 ≤ _), (by decide : 1029 + 0 ≤ _)⟩)
    dsimp only [Pt.U, Pt.locs, Pt.cells, Pt.slots] at X106 l106 y106 z106 st106 hQ106
    subst l106 y106 z106
    obtain ⟨rfl, Nq106, e106⟩ := hQ106
    have N106 := Fr.app N105 Nq106
    refine Wq.steps st106 ?_
    show Wq _ _ _ _ _ (T106.setTop (mkF m 350 #[.val (.int xlaw_1), .val (.int xlaw_2), .val (.int xlaw_3), .val (.int xlaw_4), .val (.int v5), .val (.int ms22_0), .val (.int ms46_0), .val (.int ms82_0), .val (.int (1 : Int32)), .val (.int (0 : Int32)), .val (.int (0 : Int32)), .val (.int (1 : Int32)), .val (.ref b19_c96), .val (.ref o102), .val (.int v297)] [(.int (f_q1 (Int32.ofNat ((own_s1 (own_n ms22_0)) 0))))]))
    generalize hv347 : (f_q1 (Int32.ofNat ((own_s1 (own_n ms22_0)) 0))) = v347
    show Wq _ _ _ _ _ (T106.setTop (mkF m 350 #[.val (.int xlaw_1), .val (.int xlaw_2), .val (.int xlaw_3), .val (.int xlaw_4), .val (.int v5), .val (.int ms22_0), .val (.int ms46_0), .val (.int ms82_0), .val (.int (1 : Int32)), .val (.int (0 : Int32)), .val (.int (0 : Int32)), .val (.int (1 : Int32)), .val (.ref b19_c96), .val (.ref o102), .val (.int v297)] [(.int v347)]))
    refine Ow.iload X106 hx (pc' := 352) (hb hby at_350) rfl ?_
    refine Ow.icmpNo X106 hx (pc' := 355) (hb hby at_352) (teq (own_L1 RA PF hv263 hms274_0 hv293 hv297 hv347 : v347 = v297)).2 ?_
    refine Ow.iconst X106 hx (pc' := 356) (hb hby at_355) (z := (1 : Int32)) rfl ?_
    refine Ow.goto X106 hx (pc' := 360) (hb hby at_356) (by decide) (by decide) ?_
    exact Wq.ret X106 (BodyLoose.notSynchronized Bd) (rv := some (.int (1 : Int32))) (fun h => by rw [Bd.returns] at h; cases h) (fun _ hr => retN X106 hx (t := .boolean) Bd.returns (by simp) (hb hby at_360) hr) (by decide) (by decide) ⟨rfl, N106⟩
  · skip
    show Wq _ _ _ _ _ (T96.setTop (mkF m 202 #[.val (.int xlaw_1), .val (.int xlaw_2), .val (.int xlaw_3), .val (.int xlaw_4), .val (.int v5), .val (.int ms22_0), .val (.int ms46_0), .val (.int ms82_0), .val (.int (1 : Int32)), .val (.int (1 : Int32)), .val (.int (0 : Int32)), .val (.int (2 : Int32)), .val (.ref b19_c96), .unset, .unset] []))
    refine Ow.iload X96 hx (pc' := 204) (hb hby at_202) rfl ?_
    refine Ow.ifNo X96 hx (pc' := 207) (hb hby at_204) ((if0 _ _).trans (feq (by decide : ¬ ((1 : Int32) = (0 : Int32)))).1) ?_
    refine Ow.aload X96 hx (pc' := 209) (hb hby at_207) rfl rfl ?_
    refine Ow.iload X96 hx (pc' := 211) (hb hby at_209) rfl ?_
    obtain ⟨_, _, ⟨T107, L107, k107, n107⟩, -, X107, ⟨Lc107, hQ107, l107, y107, z107⟩, st107⟩ := Jvm.LawKit.callS X96 hx (y := mt12) hown (mvT hZ (kw86 hw)) (mvT hZ (kw87 hw)) (mvT hZ (kw79 hw)) (mvT hZ (kw88 hw)) (by decide) (backOf (W := 0) (rm_cl l Z a0 hw [] b19_c96 ms22_0 (fun _ => (-1 : Int64)) T96.heap n0 Z96 (RA) P96_0 g_b19_c96) hZ (kw88 hw) (kw79 hw) (by decide) (by decide)) (g := (mkF m 211 #[.val (.int xlaw_1), .val (.int xlaw_2), .val (.int xlaw_3), .val (.int xlaw_4), .val (.int v5), .val (.int ms22_0), .val (.int ms46_0), .val (.int ms82_0), .val (.int (1 : Int32)), .val (.int (1 : Int32)), .val (.int (0 : Int32)), .val (.int (2 : Int32)), .val (.ref b19_c96), .unset, .unset] [(.int ms22_0), (.ref b19_c96)])) rfl (by rw [hml]; rfl) (argsL := [(.ref b19_c96), (.int ms22_0)]) (rest := []) (lenOf pd11 rfl) rfl (by show 2 * 0 + _ ≤ _; exact Nat.le_of_eq rfl) (hb hby at_211) (fun _ _ => ⟨rfl, e96, (by decide : 3 + 0 ≤ _), (by decide : 1027 + 0 ≤ _)⟩)
    dsimp only [Pt.U, Pt.locs, Pt.cells, Pt.slots] at X107 l107 y107 z107 st107 hQ107
    subst l107 y107 z107
    obtain ⟨rfl, Nq107, Kq107, P107_0⟩ := hQ107
    have N107 := Fr.app N96 Nq107
    have K107 : Keep h0 T107.heap [] := K96.trans Kq107 (allS (P := fun x => x ∈ [] ∨ h0.size ≤ x) (Or.inr sz_b19_c96) all0)
    have Z107 : n0 ≤ T107.heap.size := Nat.le_trans Z96 Kq107.1
    have A91_t107 := A91_t96.keep Kq107
    have V_b92_t107 := V_b92_t96.keep Kq107 (ninS ne_b92_b19_c96 nin0)
    have P95_1_t107 := P95_1_t96.keep Kq107 (ninS ne_o91_b19_c96 nin0)
    have e107 : T107.heap = T107.heap := rfl
    refine Wq.step st107 ?_
    show Wq _ _ _ _ _ (T107.setTop (mkF m 214 #[.val (.int xlaw_1), .val (.int xlaw_2), .val (.int xlaw_3), .val (.int xlaw_4), .val (.int v5), .val (.int ms22_0), .val (.int ms46_0), .val (.int ms82_0), .val (.int (1 : Int32)), .val (.int (1 : Int32)), .val (.int (0 : Int32)), .val (.int (2 : Int32)), .val (.ref b19_c96), .unset, .unset] []))
    refine Ow.iload X107 hx (pc' := 216) (hb hby at_214) rfl ?_
    refine Ow.ifNo X107 hx (pc' := 219) (hb hby at_216) ((if0 _ _).trans (feq (by decide : ¬ ((1 : Int32) = (0 : Int32)))).1) ?_
    refine Ow.aload X107 hx (pc' := 221) (hb hby at_219) rfl rfl ?_
    refine Ow.iload X107 hx (pc' := 223) (hb hby at_221) rfl ?_
    obtain ⟨_, _, ⟨T108, L108, k108, n108⟩, -, X108, ⟨Lc108, hQ108, l108, y108, z108⟩, st108⟩ := Jvm.LawKit.callS X107 hx (y := mt12) hown (mvT hZ (kw86 hw)) (mvT hZ (kw87 hw)) (mvT hZ (kw79 hw)) (mvT hZ (kw88 hw)) (by decide) (backOf (W := 0) (rm_cl l Z a0 hw [] b19_c96 ms46_0 (own_clr (fun _ => (-1 : Int64)) ms22_0) T107.heap n0 Z107 (RB) P107_0 g_b19_c96) hZ (kw88 hw) (kw79 hw) (by decide) (by decide)) (g := (mkF m 223 #[.val (.int xlaw_1), .val (.int xlaw_2), .val (.int xlaw_3), .val (.int xlaw_4), .val (.int v5), .val (.int ms22_0), .val (.int ms46_0), .val (.int ms82_0), .val (.int (1 : Int32)), .val (.int (1 : Int32)), .val (.int (0 : Int32)), .val (.int (2 : Int32)), .val (.ref b19_c96), .unset, .unset] [(.int ms46_0), (.ref b19_c96)])) rfl (by rw [hml]; rfl) (argsL := [(.ref b19_c96), (.int ms46_0)]) (rest := []) (lenOf pd11 rfl) rfl (by show 2 * 0 + _ ≤ _; exact Nat.le_of_eq rfl) (hb hby at_223) (fun _ _ => ⟨rfl, e107, (by decide : 3 + 0 ≤ _), (by decide : 1027 + 0 ≤ _)⟩)
    dsimp only [Pt.U, Pt.locs, Pt.cells, Pt.slots] at X108 l108 y108 z108 st108 hQ108
    subst l108 y108 z108
    obtain ⟨rfl, Nq108, Kq108, P108_0⟩ := hQ108
    have N108 := Fr.app N107 Nq108
    have K108 : Keep h0 T108.heap [] := K107.trans Kq108 (allS (P := fun x => x ∈ [] ∨ h0.size ≤ x) (Or.inr sz_b19_c96) all0)
    have Z108 : n0 ≤ T108.heap.size := Nat.le_trans Z107 Kq108.1
    have A91_t108 := A91_t107.keep Kq108
    have V_b92_t108 := V_b92_t107.keep Kq108 (ninS ne_b92_b19_c96 nin0)
    have P95_1_t108 := P95_1_t107.keep Kq108 (ninS ne_o91_b19_c96 nin0)
    have e108 : T108.heap = T108.heap := rfl
    refine Wq.step st108 ?_
    show Wq _ _ _ _ _ (T108.setTop (mkF m 226 #[.val (.int xlaw_1), .val (.int xlaw_2), .val (.int xlaw_3), .val (.int xlaw_4), .val (.int v5), .val (.int ms22_0), .val (.int ms46_0), .val (.int ms82_0), .val (.int (1 : Int32)), .val (.int (1 : Int32)), .val (.int (0 : Int32)), .val (.int (2 : Int32)), .val (.ref b19_c96), .unset, .unset] []))
    refine Ow.iload X108 hx (pc' := 228) (hb hby at_226) rfl ?_
    refine Ow.ifYes X108 hx (pc' := 238) (hb hby at_228) ((if0 _ _).trans (teq (by decide : (0 : Int32) = (0 : Int32))).1) (by decide) (by decide) ?_
    obtain ⟨T109, h109, X109, e109, E109, A109, D109, -, st109⟩ := newO X108 hx hZ hown (kw65 hw) (kw66 hw) (kw67 hw) e108 (g := (mkF m 238 #[.val (.int xlaw_1), .val (.int xlaw_2), .val (.int xlaw_3), .val (.int xlaw_4), .val (.int v5), .val (.int ms22_0), .val (.int ms46_0), .val (.int ms82_0), .val (.int (1 : Int32)), .val (.int (1 : Int32)), .val (.int (0 : Int32)), .val (.int (2 : Int32)), .val (.ref b19_c96), .unset, .unset] [])) rfl (hb hby at_238) (by decide) (by decide)
    obtain ⟨o109, gz109⟩ : ∃ z, z = T108.heap.size := ⟨_, rfl⟩
    rw [← gz109] at A109 D109 st109
    have g_o109 : n0 ≤ o109 := Nat.le_trans Z108 (Nat.le_of_eq gz109.symm)
    have sz_o109 : h0.size ≤ o109 := Nat.le_trans K108.1 (Nat.le_of_eq gz109.symm)
    have ne_o91_o109 : o91 ≠ o109 := Nat.ne_of_lt (Nat.lt_of_lt_of_le A91_t108.lt (Nat.le_of_eq gz109.symm))
    have ne_b92_o109 : b92 ≠ o109 := Nat.ne_of_lt (Nat.lt_of_lt_of_le V_b92_t108.lt (Nat.le_of_eq gz109.symm))
    have ne_b19_c96_o109 : b19_c96 ≠ o109 := Nat.ne_of_lt (Nat.lt_of_lt_of_le P108_0.lt (Nat.le_of_eq gz109.symm))
    have K109 : Keep h0 h109 [] := K108.ext E109
    have Z109 : n0 ≤ h109.size := Nat.le_trans Z108 E109.1
    have A91_t109 := A91_t108.ext E109
    have V_b92_t109 := V_b92_t108.ext E109
    have P95_1_t109 := P95_1_t108.ext E109
    have P108_0_t109 := P108_0.ext E109
    refine Wq.step st109 ?_
    have F_o109_missing : Fld Z h109 o109 "com/example/tightbit/tightbit/SparseDocIds$Complement" "missing" "[C" .null := D109 (Or.inr (kw75 hw)) (ty := (.array .char)) (by decide)
    show Wq _ _ _ _ _ (T109.setTop (mkF m 241 #[.val (.int xlaw_1), .val (.int xlaw_2), .val (.int xlaw_3), .val (.int xlaw_4), .val (.int v5), .val (.int ms22_0), .val (.int ms46_0), .val (.int ms82_0), .val (.int (1 : Int32)), .val (.int (1 : Int32)), .val (.int (0 : Int32)), .val (.int (2 : Int32)), .val (.ref b19_c96), .unset, .unset] [(.ref o109)]))
    refine Ow.dup X109 hx (pc' := 242) (hb hby at_241) rfl ?_
    refine Ow.aload X109 hx (pc' := 244) (hb hby at_242) rfl rfl ?_
    refine Ow.ldcInt X109 hx hZ (pc' := 246) hown (kw68 hw) (hb hby at_244) ?_
    refine Ow.iload X109 hx (pc' := 248) (hb hby at_246) rfl ?_
    refine Ow.isub X109 hx (pc' := 249) (hb hby at_248) (z := (65534 : Int32)) rfl ?_
    obtain ⟨_, _, ⟨T110, L110, k110, n110⟩, -, X110, ⟨Lc110, hQ110, l110, y110, z110⟩, st110⟩ := X109.specialBack hx (y := mt17) rfl hown (mvT hZ (kw69 hw)) (mvT hZ (kw70 hw)) (mvT hZ (kw71 hw)) (by decide) (backOf (W := 1) (rm_k2 l Z a0 hw [] o109 b19_c96 (65534 : Int32) (own_clr (own_clr (fun _ => (-1 : Int64)) ms22_0) ms46_0) (own_s2 (own_n ms22_0) (own_n ms46_0)) h109 n0 Z109 (by decide) (own_S2 RA RB PF.1) A109 F_o109_missing g_o109 P108_0_t109 ne_b19_c96_o109) hZ (kw71 hw) (kw67 hw) (by decide) (by decide)) (g := (mkF m 249 #[.val (.int xlaw_1), .val (.int xlaw_2), .val (.int xlaw_3), .val (.int xlaw_4), .val (.int v5), .val (.int ms22_0), .val (.int ms46_0), .val (.int ms82_0), .val (.int (1 : Int32)), .val (.int (1 : Int32)), .val (.int (0 : Int32)), .val (.int (2 : Int32)), .val (.ref b19_c96), .unset, .unset] [(.int (65534 : Int32)), (.ref b19_c96), (.ref o109), (.ref o109)])) rfl (by rw [hml]; rfl) (Steps.refl _) (a := o109) (argsL := [(.ref b19_c96), (.int (65534 : Int32))]) (rest := [(.ref o109)]) (lenOf pd11 rfl) rfl (by show 2 * 0 + _ ≤ _; exact Nat.le_of_eq rfl) (hb hby at_249) (fun _ _ => ⟨rfl, e109, (by decide : 4 + 1 ≤ _), (by decide : 1028 + 2 ≤ _)⟩)
    dsimp only [Pt.U, Pt.locs, Pt.cells, Pt.slots] at X110 l110 y110 z110 st110 hQ110
    subst l110 y110 z110
    obtain ⟨b42_c110, rfl, Nq110, Kq110, szq_b42_c110, P110_0, P110_1, P110_2⟩ := hQ110
    have g_b42_c110 : n0 ≤ b42_c110 := Nat.le_trans Z109 szq_b42_c110
    have sz_b42_c110 : h0.size ≤ b42_c110 := Nat.le_trans K109.1 szq_b42_c110
    have ne_o91_b42_c110 : o91 ≠ b42_c110 := Nat.ne_of_lt (Nat.lt_of_lt_of_le A91_t109.lt szq_b42_c110)
    have ne_b92_b42_c110 : b92 ≠ b42_c110 := Nat.ne_of_lt (Nat.lt_of_lt_of_le V_b92_t109.lt szq_b42_c110)
    have ne_b19_c96_b42_c110 : b19_c96 ≠ b42_c110 := Nat.ne_of_lt (Nat.lt_of_lt_of_le P108_0_t109.lt szq_b42_c110)
    have ne_o109_b42_c110 : o109 ≠ b42_c110 := Nat.ne_of_lt (Nat.lt_of_lt_of_le A109.lt szq_b42_c110)
    have N110 := Fr.app N108 Nq110
    have K110 : Keep h0 T110.heap [] := K109.trans Kq110 (allS (P := fun x => x ∈ [] ∨ h0.size ≤ x) (Or.inr sz_o109) all0)
    have Z110 : n0 ≤ T110.heap.size := Nat.le_trans Z109 Kq110.1
    have A91_t110 := A91_t109.keep Kq110
    have V_b92_t110 := V_b92_t109.keep Kq110 (ninS ne_b92_o109 nin0)
    have P95_1_t110 := P95_1_t109.keep Kq110 (ninS ne_o91_o109 nin0)
    have P108_0_t110 := P108_0_t109.keep Kq110 (ninS ne_b19_c96_o109 nin0)
    have A109_t110 := A109.keep Kq110
    have e110 : T110.heap = T110.heap := rfl
    refine Wq.steps st110 ?_
    show Wq _ _ _ _ _ (T110.setTop (mkF m 252 #[.val (.int xlaw_1), .val (.int xlaw_2), .val (.int xlaw_3), .val (.int xlaw_4), .val (.int v5), .val (.int ms22_0), .val (.int ms46_0), .val (.int ms82_0), .val (.int (1 : Int32)), .val (.int (1 : Int32)), .val (.int (0 : Int32)), .val (.int (2 : Int32)), .val (.ref b19_c96), .unset, .unset] [(.ref o109)]))
    refine Ow.astore X110 hx (pc' := 254) (hb hby at_252) rfl (l' := #[.val (.int xlaw_1), .val (.int xlaw_2), .val (.int xlaw_3), .val (.int xlaw_4), .val (.int v5), .val (.int ms22_0), .val (.int ms46_0), .val (.int ms82_0), .val (.int (1 : Int32)), .val (.int (1 : Int32)), .val (.int (0 : Int32)), .val (.int (2 : Int32)), .val (.ref b19_c96), .val (.ref o109), .unset]) rfl ?_
    refine Ow.iconst X110 hx (pc' := 255) (hb hby at_254) (z := (0 : Int32)) rfl ?_
    refine Ow.iload X110 hx (pc' := 257) (hb hby at_255) rfl ?_
    refine Ow.iload X110 hx (pc' := 259) (hb hby at_257) rfl ?_
    refine Ow.iload X110 hx (pc' := 261) (hb hby at_259) rfl ?_
    refine Ow.iload X110 hx (pc' := 263) (hb hby at_261) rfl ?_
    obtain ⟨_, _, ⟨T111, L111, k111, n111⟩, -, X111, ⟨Lc111, hQ111, l111, y111, z111⟩, st111⟩ := Jvm.LawKit.callS X110 hx (y := mt13) hown (mvT hZ (kw77 hw)) (mvT hZ (kw78 hw)) (mvT hZ (kw79 hw)) (mvT hZ (kw80 hw)) (by decide) (backOf (W := 0) (rm_in l Z a0 hw [] (0 : Int32) v5 ms22_0 ms46_0 ms82_0 T110.heap n0 Z110 ) hZ (kw80 hw) (kw79 hw) (by decide) (by decide)) (g := (mkF m 263 #[.val (.int xlaw_1), .val (.int xlaw_2), .val (.int xlaw_3), .val (.int xlaw_4), .val (.int v5), .val (.int ms22_0), .val (.int ms46_0), .val (.int ms82_0), .val (.int (1 : Int32)), .val (.int (1 : Int32)), .val (.int (0 : Int32)), .val (.int (2 : Int32)), .val (.ref b19_c96), .val (.ref o109), .unset] [(.int ms82_0), (.int ms46_0), (.int ms22_0), (.int v5), (.int (0 : Int32))])) rfl (by rw [hml]; rfl) (argsL := [(.int (0 : Int32)), (.int v5), (.int ms22_0), (.int ms46_0), (.int ms82_0)]) (rest := []) (lenOf pd7 rfl) rfl (by show 2 * 0 + _ ≤ _; exact Nat.le_of_eq rfl) (hb hby at_263) (fun _ _ => ⟨rfl, e110, (by decide : 5 + 0 ≤ _), (by decide : 1030 + 0 ≤ _)⟩)
    dsimp only [Pt.U, Pt.locs, Pt.cells, Pt.slots] at X111 l111 y111 z111 st111 hQ111
    subst l111 y111 z111
    obtain ⟨rfl, Nq111, e111⟩ := hQ111
    have N111 := Fr.app N110 Nq111
    refine Wq.step st111 ?_
    show Wq _ _ _ _ _ (T111.setTop (mkF m 266 #[.val (.int xlaw_1), .val (.int xlaw_2), .val (.int xlaw_3), .val (.int xlaw_4), .val (.int v5), .val (.int ms22_0), .val (.int ms46_0), .val (.int ms82_0), .val (.int (1 : Int32)), .val (.int (1 : Int32)), .val (.int (0 : Int32)), .val (.int (2 : Int32)), .val (.ref b19_c96), .val (.ref o109), .unset] [(.int (f_in (0 : Int32) v5 ms22_0 ms46_0 ms82_0))]))
    generalize hv263 : (f_in (0 : Int32) v5 ms22_0 ms46_0 ms82_0) = v263
    show Wq _ _ _ _ _ (T111.setTop (mkF m 266 #[.val (.int xlaw_1), .val (.int xlaw_2), .val (.int xlaw_3), .val (.int xlaw_4), .val (.int v5), .val (.int ms22_0), .val (.int ms46_0), .val (.int ms82_0), .val (.int (1 : Int32)), .val (.int (1 : Int32)), .val (.int (0 : Int32)), .val (.int (2 : Int32)), .val (.ref b19_c96), .val (.ref o109), .unset] [(.int v263)]))
    refine Wq.by (U' := T111.setTop (mkF m 274 #[.val (.int xlaw_1), .val (.int xlaw_2), .val (.int xlaw_3), .val (.int xlaw_4), .val (.int v5), .val (.int ms22_0), .val (.int ms46_0), .val (.int ms82_0), .val (.int (1 : Int32)), .val (.int (1 : Int32)), .val (.int (0 : Int32)), .val (.int (2 : Int32)), .val (.ref b19_c96), .val (.ref o109), .unset] [(.int (if v263 = (0 : Int32) then (1 : Int32) else (0 : Int32)))])) (fun k => ?_) ?_
    · skip
      by_cases hm266 : v263 = (0 : Int32)
      · skip
        refine Ow.ifYes X111 hx (pc' := 273) (hb hby at_266) ((if0 _ _).trans (teq hm266).1) (by decide) (by decide) ?_
        refine Ow.iconst X111 hx (pc' := 274) (hb hby at_273) (z := (1 : Int32)) rfl ?_
        simp only [if_pos hm266] at k
        exact k
      · skip
        refine Ow.ifNo X111 hx (pc' := 269) (hb hby at_266) ((if0 _ _).trans (feq hm266).1) ?_
        refine Ow.iconst X111 hx (pc' := 270) (hb hby at_269) (z := (0 : Int32)) rfl ?_
        refine Ow.goto X111 hx (pc' := 274) (hb hby at_270) (by decide) (by decide) ?_
        simp only [if_neg hm266] at k
        exact k
    show Wq _ _ _ _ _ (T111.setTop (mkF m 274 #[.val (.int xlaw_1), .val (.int xlaw_2), .val (.int xlaw_3), .val (.int xlaw_4), .val (.int v5), .val (.int ms22_0), .val (.int ms46_0), .val (.int ms82_0), .val (.int (1 : Int32)), .val (.int (1 : Int32)), .val (.int (0 : Int32)), .val (.int (2 : Int32)), .val (.ref b19_c96), .val (.ref o109), .unset] [(.int (if v263 = (0 : Int32) then (1 : Int32) else (0 : Int32)))]))
    generalize hms274_0 : (if v263 = (0 : Int32) then (1 : Int32) else (0 : Int32)) = ms274_0
    refine Ow.istore X111 hx (pc' := 276) (hb hby at_274) (l' := #[.val (.int xlaw_1), .val (.int xlaw_2), .val (.int xlaw_3), .val (.int xlaw_4), .val (.int v5), .val (.int ms22_0), .val (.int ms46_0), .val (.int ms82_0), .val (.int (1 : Int32)), .val (.int (1 : Int32)), .val (.int (0 : Int32)), .val (.int (2 : Int32)), .val (.ref b19_c96), .val (.ref o109), .val (.int ms274_0)]) rfl ?_
    refine Ow.iload X111 hx (pc' := 278) (hb hby at_276) rfl ?_
    refine Ow.ifNo X111 hx (pc' := 281) (hb hby at_278) ((if0 _ _).trans (feq (by decide : ¬ ((1 : Int32) = (0 : Int32)))).1) ?_
    refine Ow.iload X111 hx (pc' := 283) (hb hby at_281) rfl ?_
    refine Ow.iload X111 hx (pc' := 285) (hb hby at_283) rfl ?_
    refine Ow.iload X111 hx (pc' := 287) (hb hby at_285) rfl ?_
    refine Ow.iload X111 hx (pc' := 289) (hb hby at_287) rfl ?_
    refine Ow.iload X111 hx (pc' := 291) (hb hby at_289) rfl ?_
    refine Ow.iload X111 hx (pc' := 293) (hb hby at_291) rfl ?_
    obtain ⟨_, _, ⟨T112, L112, k112, n112⟩, -, X112, ⟨Lc112, hQ112, l112, y112, z112⟩, st112⟩ := Jvm.LawKit.callS X111 hx (y := mt14) hown (mvT hZ (kw99 hw)) (mvT hZ (kw100 hw)) (mvT hZ (kw79 hw)) (mvT hZ (kw101 hw)) (by decide) (backOf (W := 1) (rm_sa l Z a0 hw [] ms22_0 v5 ms22_0 ms46_0 ms82_0 T110.heap n0 Z110 ) hZ (kw101 hw) (kw79 hw) (by decide) (by decide)) (g := (mkF m 293 #[.val (.int xlaw_1), .val (.int xlaw_2), .val (.int xlaw_3), .val (.int xlaw_4), .val (.int v5), .val (.int ms22_0), .val (.int ms46_0), .val (.int ms82_0), .val (.int (1 : Int32)), .val (.int (1 : Int32)), .val (.int (0 : Int32)), .val (.int (2 : Int32)), .val (.ref b19_c96), .val (.ref o109), .val (.int ms274_0)] [(.int ms82_0), (.int ms46_0), (.int ms22_0), (.int v5), (.int ms22_0), (.int ms274_0)])) rfl (by rw [hml]; rfl) (argsL := [(.int ms22_0), (.int v5), (.int ms22_0), (.int ms46_0), (.int ms82_0)]) (rest := [(.int ms274_0)]) (lenOf pd12 rfl) rfl (by show 2 * 0 + _ ≤ _; exact Nat.le_of_eq rfl) (hb hby at_293) (fun _ _ => ⟨rfl, e111, (by decide : 5 + 0 ≤ _), (by decide : 1030 + 0 ≤ _)⟩)
    dsimp only [Pt.U, Pt.locs, Pt.cells, Pt.slots] at X112 l112 y112 z112 st112 hQ112
    subst l112 y112 z112
    obtain ⟨rfl, Nq112, e112⟩ := hQ112
    have N112 := Fr.app N111 Nq112
    refine Wq.step st112 ?_
    show Wq _ _ _ _ _ (T112.setTop (mkF m 296 #[.val (.int xlaw_1), .val (.int xlaw_2), .val (.int xlaw_3), .val (.int xlaw_4), .val (.int v5), .val (.int ms22_0), .val (.int ms46_0), .val (.int ms82_0), .val (.int (1 : Int32)), .val (.int (1 : Int32)), .val (.int (0 : Int32)), .val (.int (2 : Int32)), .val (.ref b19_c96), .val (.ref o109), .val (.int ms274_0)] [(.int (f_sa ms22_0 v5 ms22_0 ms46_0 ms82_0)), (.int ms274_0)]))
    generalize hv293 : (f_sa ms22_0 v5 ms22_0 ms46_0 ms82_0) = v293
    show Wq _ _ _ _ _ (T112.setTop (mkF m 296 #[.val (.int xlaw_1), .val (.int xlaw_2), .val (.int xlaw_3), .val (.int xlaw_4), .val (.int v5), .val (.int ms22_0), .val (.int ms46_0), .val (.int ms82_0), .val (.int (1 : Int32)), .val (.int (1 : Int32)), .val (.int (0 : Int32)), .val (.int (2 : Int32)), .val (.ref b19_c96), .val (.ref o109), .val (.int ms274_0)] [(.int v293), (.int ms274_0)]))
    refine Ow.iadd X112 hx (pc' := 297) (hb hby at_296) (z := (ms274_0 + v293)) rfl ?_
    refine Ow.istore X112 hx (pc' := 299) (hb hby at_297) (l' := #[.val (.int xlaw_1), .val (.int xlaw_2), .val (.int xlaw_3), .val (.int xlaw_4), .val (.int v5), .val (.int ms22_0), .val (.int ms46_0), .val (.int ms82_0), .val (.int (1 : Int32)), .val (.int (1 : Int32)), .val (.int (0 : Int32)), .val (.int (2 : Int32)), .val (.ref b19_c96), .val (.ref o109), .val (.int (ms274_0 + v293))]) rfl ?_
    generalize hv297 : (ms274_0 + v293) = v297
    refine Ow.iload X112 hx (pc' := 301) (hb hby at_299) rfl ?_
    refine Ow.ifNo X112 hx (pc' := 304) (hb hby at_301) ((if0 _ _).trans (feq (by decide : ¬ ((1 : Int32) = (0 : Int32)))).1) ?_
    refine Ow.iload X112 hx (pc' := 306) (hb hby at_304) rfl ?_
    refine Ow.iload X112 hx (pc' := 308) (hb hby at_306) rfl ?_
    refine Ow.iload X112 hx (pc' := 310) (hb hby at_308) rfl ?_
    refine Ow.iload X112 hx (pc' := 312) (hb hby at_310) rfl ?_
    refine Ow.iload X112 hx (pc' := 314) (hb hby at_312) rfl ?_
    refine Ow.iload X112 hx (pc' := 316) (hb hby at_314) rfl ?_
    obtain ⟨_, _, ⟨T113, L113, k113, n113⟩, -, X113, ⟨Lc113, hQ113, l113, y113, z113⟩, st113⟩ := Jvm.LawKit.callS X112 hx (y := mt14) hown (mvT hZ (kw99 hw)) (mvT hZ (kw100 hw)) (mvT hZ (kw79 hw)) (mvT hZ (kw101 hw)) (by decide) (backOf (W := 1) (rm_sa l Z a0 hw [] ms46_0 v5 ms22_0 ms46_0 ms82_0 T110.heap n0 Z110 ) hZ (kw101 hw) (kw79 hw) (by decide) (by decide)) (g := (mkF m 316 #[.val (.int xlaw_1), .val (.int xlaw_2), .val (.int xlaw_3), .val (.int xlaw_4), .val (.int v5), .val (.int ms22_0), .val (.int ms46_0), .val (.int ms82_0), .val (.int (1 : Int32)), .val (.int (1 : Int32)), .val (.int (0 : Int32)), .val (.int (2 : Int32)), .val (.ref b19_c96), .val (.ref o109), .val (.int v297)] [(.int ms82_0), (.int ms46_0), (.int ms22_0), (.int v5), (.int ms46_0), (.int v297)])) rfl (by rw [hml]; rfl) (argsL := [(.int ms46_0), (.int v5), (.int ms22_0), (.int ms46_0), (.int ms82_0)]) (rest := [(.int v297)]) (lenOf pd12 rfl) rfl (by show 2 * 0 + _ ≤ _; exact Nat.le_of_eq rfl) (hb hby at_316) (fun _ _ => ⟨rfl, e112, (by decide : 5 + 0 ≤ _), (by decide : 1030 + 0 ≤ _)⟩)
    dsimp only [Pt.U, Pt.locs, Pt.cells, Pt.slots] at X113 l113 y113 z113 st113 hQ113
    subst l113 y113 z113
    obtain ⟨rfl, Nq113, e113⟩ := hQ113
    have N113 := Fr.app N112 Nq113
    refine Wq.step st113 ?_
    show Wq _ _ _ _ _ (T113.setTop (mkF m 319 #[.val (.int xlaw_1), .val (.int xlaw_2), .val (.int xlaw_3), .val (.int xlaw_4), .val (.int v5), .val (.int ms22_0), .val (.int ms46_0), .val (.int ms82_0), .val (.int (1 : Int32)), .val (.int (1 : Int32)), .val (.int (0 : Int32)), .val (.int (2 : Int32)), .val (.ref b19_c96), .val (.ref o109), .val (.int v297)] [(.int (f_sa ms46_0 v5 ms22_0 ms46_0 ms82_0)), (.int v297)]))
    generalize hv316 : (f_sa ms46_0 v5 ms22_0 ms46_0 ms82_0) = v316
    show Wq _ _ _ _ _ (T113.setTop (mkF m 319 #[.val (.int xlaw_1), .val (.int xlaw_2), .val (.int xlaw_3), .val (.int xlaw_4), .val (.int v5), .val (.int ms22_0), .val (.int ms46_0), .val (.int ms82_0), .val (.int (1 : Int32)), .val (.int (1 : Int32)), .val (.int (0 : Int32)), .val (.int (2 : Int32)), .val (.ref b19_c96), .val (.ref o109), .val (.int v297)] [(.int v316), (.int v297)]))
    refine Ow.iadd X113 hx (pc' := 320) (hb hby at_319) (z := (v297 + v316)) rfl ?_
    refine Ow.istore X113 hx (pc' := 322) (hb hby at_320) (l' := #[.val (.int xlaw_1), .val (.int xlaw_2), .val (.int xlaw_3), .val (.int xlaw_4), .val (.int v5), .val (.int ms22_0), .val (.int ms46_0), .val (.int ms82_0), .val (.int (1 : Int32)), .val (.int (1 : Int32)), .val (.int (0 : Int32)), .val (.int (2 : Int32)), .val (.ref b19_c96), .val (.ref o109), .val (.int (v297 + v316))]) rfl ?_
    generalize hv320 : (v297 + v316) = v320
    refine Ow.iload X113 hx (pc' := 324) (hb hby at_322) rfl ?_
    refine Ow.ifYes X113 hx (pc' := 345) (hb hby at_324) ((if0 _ _).trans (teq (by decide : (0 : Int32) = (0 : Int32))).1) (by decide) (by decide) ?_
    refine Ow.aload X113 hx (pc' := 347) (hb hby at_345) rfl rfl ?_
    obtain ⟨cq114, kq114, q114a, q114b, q114c⟩ := isOf hZ e113 A109_t110
    obtain ⟨_, _, ⟨T114, L114, k114, n114⟩, -, X114, ⟨Lc114, hQ114, l114, y114, z114⟩, st114⟩ := X113.virtualBack hx (y := mt18) (z := mt18) hown (mvT hZ (kw81 hw)) (mvT hZ (kw82 hw)) (notFace_of_selects (args := #[]) (mvT hZ (kw84 hw))) (mvT hZ (kw84 hw)) (mvT hZ (kw83 hw)) (by decide) (backOf (W := 0) (rm_q2 l Z a0 hw [] o109 b42_c110 (Int32.ofNat ((own_s2 (own_n ms22_0) (own_n ms46_0)) 0)) (Int32.ofNat ((own_s2 (own_n ms22_0) (own_n ms46_0)) 1)) T110.heap n0 Z110 P110_2 P110_1) hZ (kw85 hw) (kw67 hw) (by decide) (by decide)) q114a q114c (g := (mkF m 347 #[.val (.int xlaw_1), .val (.int xlaw_2), .val (.int xlaw_3), .val (.int xlaw_4), .val (.int v5), .val (.int ms22_0), .val (.int ms46_0), .val (.int ms82_0), .val (.int (1 : Int32)), .val (.int (1 : Int32)), .val (.int (0 : Int32)), .val (.int (2 : Int32)), .val (.ref b19_c96), .val (.ref o109), .val (.int v320)] [(.ref o109)])) rfl (by rw [hml]; rfl) (Steps.refl _) (argsL := []) (rest := []) (lenOf pd1 rfl) rfl (by show 2 * 0 + _ ≤ _; exact Nat.le_of_eq rfl) (hb hby at_347) (fun _ _ => ⟨rfl, e113, (by decide : 5 + 0 ≤ _), (by decide : 1030 + 0 ≤ _)⟩)
    dsimp only [Pt.U, Pt.locs, Pt.cells, Pt.slots] at X114 l114 y114 z114 st114 hQ114
    subst l114 y114 z114
    obtain ⟨rfl, Nq114, e114⟩ := hQ114
    have N114 := Fr.app N113 Nq114
    refine Wq.steps st114 ?_
    show Wq _ _ _ _ _ (T114.setTop (mkF m 350 #[.val (.int xlaw_1), .val (.int xlaw_2), .val (.int xlaw_3), .val (.int xlaw_4), .val (.int v5), .val (.int ms22_0), .val (.int ms46_0), .val (.int ms82_0), .val (.int (1 : Int32)), .val (.int (1 : Int32)), .val (.int (0 : Int32)), .val (.int (2 : Int32)), .val (.ref b19_c96), .val (.ref o109), .val (.int v320)] [(.int (f_q2 (Int32.ofNat ((own_s2 (own_n ms22_0) (own_n ms46_0)) 0)) (Int32.ofNat ((own_s2 (own_n ms22_0) (own_n ms46_0)) 1))))]))
    generalize hv347 : (f_q2 (Int32.ofNat ((own_s2 (own_n ms22_0) (own_n ms46_0)) 0)) (Int32.ofNat ((own_s2 (own_n ms22_0) (own_n ms46_0)) 1))) = v347
    show Wq _ _ _ _ _ (T114.setTop (mkF m 350 #[.val (.int xlaw_1), .val (.int xlaw_2), .val (.int xlaw_3), .val (.int xlaw_4), .val (.int v5), .val (.int ms22_0), .val (.int ms46_0), .val (.int ms82_0), .val (.int (1 : Int32)), .val (.int (1 : Int32)), .val (.int (0 : Int32)), .val (.int (2 : Int32)), .val (.ref b19_c96), .val (.ref o109), .val (.int v320)] [(.int v347)]))
    refine Ow.iload X114 hx (pc' := 352) (hb hby at_350) rfl ?_
    refine Ow.icmpNo X114 hx (pc' := 355) (hb hby at_352) (teq (own_L2 RA RB PF hv263 hms274_0 hv293 hv297 hv316 hv320 hv347 : v347 = v320)).2 ?_
    refine Ow.iconst X114 hx (pc' := 356) (hb hby at_355) (z := (1 : Int32)) rfl ?_
    refine Ow.goto X114 hx (pc' := 360) (hb hby at_356) (by decide) (by decide) ?_
    exact Wq.ret X114 (BodyLoose.notSynchronized Bd) (rv := some (.int (1 : Int32))) (fun h => by rw [Bd.returns] at h; cases h) (fun _ hr => retN X114 hx (t := .boolean) Bd.returns (by simp) (hb hby at_360) hr) (by decide) (by decide) ⟨rfl, N114⟩
  · skip
    show Wq _ _ _ _ _ (T96.setTop (mkF m 202 #[.val (.int xlaw_1), .val (.int xlaw_2), .val (.int xlaw_3), .val (.int xlaw_4), .val (.int v5), .val (.int ms22_0), .val (.int ms46_0), .val (.int ms82_0), .val (.int (1 : Int32)), .val (.int (0 : Int32)), .val (.int (1 : Int32)), .val (.int (2 : Int32)), .val (.ref b19_c96), .unset, .unset] []))
    refine Ow.iload X96 hx (pc' := 204) (hb hby at_202) rfl ?_
    refine Ow.ifNo X96 hx (pc' := 207) (hb hby at_204) ((if0 _ _).trans (feq (by decide : ¬ ((1 : Int32) = (0 : Int32)))).1) ?_
    refine Ow.aload X96 hx (pc' := 209) (hb hby at_207) rfl rfl ?_
    refine Ow.iload X96 hx (pc' := 211) (hb hby at_209) rfl ?_
    obtain ⟨_, _, ⟨T115, L115, k115, n115⟩, -, X115, ⟨Lc115, hQ115, l115, y115, z115⟩, st115⟩ := Jvm.LawKit.callS X96 hx (y := mt12) hown (mvT hZ (kw86 hw)) (mvT hZ (kw87 hw)) (mvT hZ (kw79 hw)) (mvT hZ (kw88 hw)) (by decide) (backOf (W := 0) (rm_cl l Z a0 hw [] b19_c96 ms22_0 (fun _ => (-1 : Int64)) T96.heap n0 Z96 (RA) P96_0 g_b19_c96) hZ (kw88 hw) (kw79 hw) (by decide) (by decide)) (g := (mkF m 211 #[.val (.int xlaw_1), .val (.int xlaw_2), .val (.int xlaw_3), .val (.int xlaw_4), .val (.int v5), .val (.int ms22_0), .val (.int ms46_0), .val (.int ms82_0), .val (.int (1 : Int32)), .val (.int (0 : Int32)), .val (.int (1 : Int32)), .val (.int (2 : Int32)), .val (.ref b19_c96), .unset, .unset] [(.int ms22_0), (.ref b19_c96)])) rfl (by rw [hml]; rfl) (argsL := [(.ref b19_c96), (.int ms22_0)]) (rest := []) (lenOf pd11 rfl) rfl (by show 2 * 0 + _ ≤ _; exact Nat.le_of_eq rfl) (hb hby at_211) (fun _ _ => ⟨rfl, e96, (by decide : 3 + 0 ≤ _), (by decide : 1027 + 0 ≤ _)⟩)
    dsimp only [Pt.U, Pt.locs, Pt.cells, Pt.slots] at X115 l115 y115 z115 st115 hQ115
    subst l115 y115 z115
    obtain ⟨rfl, Nq115, Kq115, P115_0⟩ := hQ115
    have N115 := Fr.app N96 Nq115
    have K115 : Keep h0 T115.heap [] := K96.trans Kq115 (allS (P := fun x => x ∈ [] ∨ h0.size ≤ x) (Or.inr sz_b19_c96) all0)
    have Z115 : n0 ≤ T115.heap.size := Nat.le_trans Z96 Kq115.1
    have A91_t115 := A91_t96.keep Kq115
    have V_b92_t115 := V_b92_t96.keep Kq115 (ninS ne_b92_b19_c96 nin0)
    have P95_1_t115 := P95_1_t96.keep Kq115 (ninS ne_o91_b19_c96 nin0)
    have e115 : T115.heap = T115.heap := rfl
    refine Wq.step st115 ?_
    show Wq _ _ _ _ _ (T115.setTop (mkF m 214 #[.val (.int xlaw_1), .val (.int xlaw_2), .val (.int xlaw_3), .val (.int xlaw_4), .val (.int v5), .val (.int ms22_0), .val (.int ms46_0), .val (.int ms82_0), .val (.int (1 : Int32)), .val (.int (0 : Int32)), .val (.int (1 : Int32)), .val (.int (2 : Int32)), .val (.ref b19_c96), .unset, .unset] []))
    refine Ow.iload X115 hx (pc' := 216) (hb hby at_214) rfl ?_
    refine Ow.ifYes X115 hx (pc' := 226) (hb hby at_216) ((if0 _ _).trans (teq (by decide : (0 : Int32) = (0 : Int32))).1) (by decide) (by decide) ?_
    refine Ow.iload X115 hx (pc' := 228) (hb hby at_226) rfl ?_
    refine Ow.ifNo X115 hx (pc' := 231) (hb hby at_228) ((if0 _ _).trans (feq (by decide : ¬ ((1 : Int32) = (0 : Int32)))).1) ?_
    refine Ow.aload X115 hx (pc' := 233) (hb hby at_231) rfl rfl ?_
    refine Ow.iload X115 hx (pc' := 235) (hb hby at_233) rfl ?_
    obtain ⟨_, _, ⟨T116, L116, k116, n116⟩, -, X116, ⟨Lc116, hQ116, l116, y116, z116⟩, st116⟩ := Jvm.LawKit.callS X115 hx (y := mt12) hown (mvT hZ (kw86 hw)) (mvT hZ (kw87 hw)) (mvT hZ (kw79 hw)) (mvT hZ (kw88 hw)) (by decide) (backOf (W := 0) (rm_cl l Z a0 hw [] b19_c96 ms82_0 (own_clr (fun _ => (-1 : Int64)) ms22_0) T115.heap n0 Z115 (RC) P115_0 g_b19_c96) hZ (kw88 hw) (kw79 hw) (by decide) (by decide)) (g := (mkF m 235 #[.val (.int xlaw_1), .val (.int xlaw_2), .val (.int xlaw_3), .val (.int xlaw_4), .val (.int v5), .val (.int ms22_0), .val (.int ms46_0), .val (.int ms82_0), .val (.int (1 : Int32)), .val (.int (0 : Int32)), .val (.int (1 : Int32)), .val (.int (2 : Int32)), .val (.ref b19_c96), .unset, .unset] [(.int ms82_0), (.ref b19_c96)])) rfl (by rw [hml]; rfl) (argsL := [(.ref b19_c96), (.int ms82_0)]) (rest := []) (lenOf pd11 rfl) rfl (by show 2 * 0 + _ ≤ _; exact Nat.le_of_eq rfl) (hb hby at_235) (fun _ _ => ⟨rfl, e115, (by decide : 3 + 0 ≤ _), (by decide : 1027 + 0 ≤ _)⟩)
    dsimp only [Pt.U, Pt.locs, Pt.cells, Pt.slots] at X116 l116 y116 z116 st116 hQ116
    subst l116 y116 z116
    obtain ⟨rfl, Nq116, Kq116, P116_0⟩ := hQ116
    have N116 := Fr.app N115 Nq116
    have K116 : Keep h0 T116.heap [] := K115.trans Kq116 (allS (P := fun x => x ∈ [] ∨ h0.size ≤ x) (Or.inr sz_b19_c96) all0)
    have Z116 : n0 ≤ T116.heap.size := Nat.le_trans Z115 Kq116.1
    have A91_t116 := A91_t115.keep Kq116
    have V_b92_t116 := V_b92_t115.keep Kq116 (ninS ne_b92_b19_c96 nin0)
    have P95_1_t116 := P95_1_t115.keep Kq116 (ninS ne_o91_b19_c96 nin0)
    have e116 : T116.heap = T116.heap := rfl
    refine Wq.step st116 ?_
    show Wq _ _ _ _ _ (T116.setTop (mkF m 238 #[.val (.int xlaw_1), .val (.int xlaw_2), .val (.int xlaw_3), .val (.int xlaw_4), .val (.int v5), .val (.int ms22_0), .val (.int ms46_0), .val (.int ms82_0), .val (.int (1 : Int32)), .val (.int (0 : Int32)), .val (.int (1 : Int32)), .val (.int (2 : Int32)), .val (.ref b19_c96), .unset, .unset] []))
    obtain ⟨T117, h117, X117, e117, E117, A117, D117, -, st117⟩ := newO X116 hx hZ hown (kw65 hw) (kw66 hw) (kw67 hw) e116 (g := (mkF m 238 #[.val (.int xlaw_1), .val (.int xlaw_2), .val (.int xlaw_3), .val (.int xlaw_4), .val (.int v5), .val (.int ms22_0), .val (.int ms46_0), .val (.int ms82_0), .val (.int (1 : Int32)), .val (.int (0 : Int32)), .val (.int (1 : Int32)), .val (.int (2 : Int32)), .val (.ref b19_c96), .unset, .unset] [])) rfl (hb hby at_238) (by decide) (by decide)
    obtain ⟨o117, gz117⟩ : ∃ z, z = T116.heap.size := ⟨_, rfl⟩
    rw [← gz117] at A117 D117 st117
    have g_o117 : n0 ≤ o117 := Nat.le_trans Z116 (Nat.le_of_eq gz117.symm)
    have sz_o117 : h0.size ≤ o117 := Nat.le_trans K116.1 (Nat.le_of_eq gz117.symm)
    have ne_o91_o117 : o91 ≠ o117 := Nat.ne_of_lt (Nat.lt_of_lt_of_le A91_t116.lt (Nat.le_of_eq gz117.symm))
    have ne_b92_o117 : b92 ≠ o117 := Nat.ne_of_lt (Nat.lt_of_lt_of_le V_b92_t116.lt (Nat.le_of_eq gz117.symm))
    have ne_b19_c96_o117 : b19_c96 ≠ o117 := Nat.ne_of_lt (Nat.lt_of_lt_of_le P116_0.lt (Nat.le_of_eq gz117.symm))
    have K117 : Keep h0 h117 [] := K116.ext E117
    have Z117 : n0 ≤ h117.size := Nat.le_trans Z116 E117.1
    have A91_t117 := A91_t116.ext E117
    have V_b92_t117 := V_b92_t116.ext E117
    have P95_1_t117 := P95_1_t116.ext E117
    have P116_0_t117 := P116_0.ext E117
    refine Wq.step st117 ?_
    have F_o117_missing : Fld Z h117 o117 "com/example/tightbit/tightbit/SparseDocIds$Complement" "missing" "[C" .null := D117 (Or.inr (kw75 hw)) (ty := (.array .char)) (by decide)
    show Wq _ _ _ _ _ (T117.setTop (mkF m 241 #[.val (.int xlaw_1), .val (.int xlaw_2), .val (.int xlaw_3), .val (.int xlaw_4), .val (.int v5), .val (.int ms22_0), .val (.int ms46_0), .val (.int ms82_0), .val (.int (1 : Int32)), .val (.int (0 : Int32)), .val (.int (1 : Int32)), .val (.int (2 : Int32)), .val (.ref b19_c96), .unset, .unset] [(.ref o117)]))
    refine Ow.dup X117 hx (pc' := 242) (hb hby at_241) rfl ?_
    refine Ow.aload X117 hx (pc' := 244) (hb hby at_242) rfl rfl ?_
    refine Ow.ldcInt X117 hx hZ (pc' := 246) hown (kw68 hw) (hb hby at_244) ?_
    refine Ow.iload X117 hx (pc' := 248) (hb hby at_246) rfl ?_
    refine Ow.isub X117 hx (pc' := 249) (hb hby at_248) (z := (65534 : Int32)) rfl ?_
    obtain ⟨_, _, ⟨T118, L118, k118, n118⟩, -, X118, ⟨Lc118, hQ118, l118, y118, z118⟩, st118⟩ := X117.specialBack hx (y := mt17) rfl hown (mvT hZ (kw69 hw)) (mvT hZ (kw70 hw)) (mvT hZ (kw71 hw)) (by decide) (backOf (W := 1) (rm_k2 l Z a0 hw [] o117 b19_c96 (65534 : Int32) (own_clr (own_clr (fun _ => (-1 : Int64)) ms22_0) ms82_0) (own_s2 (own_n ms22_0) (own_n ms82_0)) h117 n0 Z117 (by decide) (own_S2 RA RC PF.1) A117 F_o117_missing g_o117 P116_0_t117 ne_b19_c96_o117) hZ (kw71 hw) (kw67 hw) (by decide) (by decide)) (g := (mkF m 249 #[.val (.int xlaw_1), .val (.int xlaw_2), .val (.int xlaw_3), .val (.int xlaw_4), .val (.int v5), .val (.int ms22_0), .val (.int ms46_0), .val (.int ms82_0), .val (.int (1 : Int32)), .val (.int (0 : Int32)), .val (.int (1 : Int32)), .val (.int (2 : Int32)), .val (.ref b19_c96), .unset, .unset] [(.int (65534 : Int32)), (.ref b19_c96), (.ref o117), (.ref o117)])) rfl (by rw [hml]; rfl) (Steps.refl _) (a := o117) (argsL := [(.ref b19_c96), (.int (65534 : Int32))]) (rest := [(.ref o117)]) (lenOf pd11 rfl) rfl (by show 2 * 0 + _ ≤ _; exact Nat.le_of_eq rfl) (hb hby at_249) (fun _ _ => ⟨rfl, e117, (by decide : 4 + 1 ≤ _), (by decide : 1028 + 2 ≤ _)⟩)
    dsimp only [Pt.U, Pt.locs, Pt.cells, Pt.slots] at X118 l118 y118 z118 st118 hQ118
    subst l118 y118 z118
    obtain ⟨b42_c118, rfl, Nq118, Kq118, szq_b42_c118, P118_0, P118_1, P118_2⟩ := hQ118
    have g_b42_c118 : n0 ≤ b42_c118 := Nat.le_trans Z117 szq_b42_c118
    have sz_b42_c118 : h0.size ≤ b42_c118 := Nat.le_trans K117.1 szq_b42_c118
    have ne_o91_b42_c118 : o91 ≠ b42_c118 := Nat.ne_of_lt (Nat.lt_of_lt_of_le A91_t117.lt szq_b42_c118)
    have ne_b92_b42_c118 : b92 ≠ b42_c118 := Nat.ne_of_lt (Nat.lt_of_lt_of_le V_b92_t117.lt szq_b42_c118)
    have ne_b19_c96_b42_c118 : b19_c96 ≠ b42_c118 := Nat.ne_of_lt (Nat.lt_of_lt_of_le P116_0_t117.lt szq_b42_c118)
    have ne_o117_b42_c118 : o117 ≠ b42_c118 := Nat.ne_of_lt (Nat.lt_of_lt_of_le A117.lt szq_b42_c118)
    have N118 := Fr.app N116 Nq118
    have K118 : Keep h0 T118.heap [] := K117.trans Kq118 (allS (P := fun x => x ∈ [] ∨ h0.size ≤ x) (Or.inr sz_o117) all0)
    have Z118 : n0 ≤ T118.heap.size := Nat.le_trans Z117 Kq118.1
    have A91_t118 := A91_t117.keep Kq118
    have V_b92_t118 := V_b92_t117.keep Kq118 (ninS ne_b92_o117 nin0)
    have P95_1_t118 := P95_1_t117.keep Kq118 (ninS ne_o91_o117 nin0)
    have P116_0_t118 := P116_0_t117.keep Kq118 (ninS ne_b19_c96_o117 nin0)
    have A117_t118 := A117.keep Kq118
    have e118 : T118.heap = T118.heap := rfl
    refine Wq.steps st118 ?_
    show Wq _ _ _ _ _ (T118.setTop (mkF m 252 #[.val (.int xlaw_1), .val (.int xlaw_2), .val (.int xlaw_3), .val (.int xlaw_4), .val (.int v5), .val (.int ms22_0), .val (.int ms46_0), .val (.int ms82_0), .val (.int (1 : Int32)), .val (.int (0 : Int32)), .val (.int (1 : Int32)), .val (.int (2 : Int32)), .val (.ref b19_c96), .unset, .unset] [(.ref o117)]))
    refine Ow.astore X118 hx (pc' := 254) (hb hby at_252) rfl (l' := #[.val (.int xlaw_1), .val (.int xlaw_2), .val (.int xlaw_3), .val (.int xlaw_4), .val (.int v5), .val (.int ms22_0), .val (.int ms46_0), .val (.int ms82_0), .val (.int (1 : Int32)), .val (.int (0 : Int32)), .val (.int (1 : Int32)), .val (.int (2 : Int32)), .val (.ref b19_c96), .val (.ref o117), .unset]) rfl ?_
    refine Ow.iconst X118 hx (pc' := 255) (hb hby at_254) (z := (0 : Int32)) rfl ?_
    refine Ow.iload X118 hx (pc' := 257) (hb hby at_255) rfl ?_
    refine Ow.iload X118 hx (pc' := 259) (hb hby at_257) rfl ?_
    refine Ow.iload X118 hx (pc' := 261) (hb hby at_259) rfl ?_
    refine Ow.iload X118 hx (pc' := 263) (hb hby at_261) rfl ?_
    obtain ⟨_, _, ⟨T119, L119, k119, n119⟩, -, X119, ⟨Lc119, hQ119, l119, y119, z119⟩, st119⟩ := Jvm.LawKit.callS X118 hx (y := mt13) hown (mvT hZ (kw77 hw)) (mvT hZ (kw78 hw)) (mvT hZ (kw79 hw)) (mvT hZ (kw80 hw)) (by decide) (backOf (W := 0) (rm_in l Z a0 hw [] (0 : Int32) v5 ms22_0 ms46_0 ms82_0 T118.heap n0 Z118 ) hZ (kw80 hw) (kw79 hw) (by decide) (by decide)) (g := (mkF m 263 #[.val (.int xlaw_1), .val (.int xlaw_2), .val (.int xlaw_3), .val (.int xlaw_4), .val (.int v5), .val (.int ms22_0), .val (.int ms46_0), .val (.int ms82_0), .val (.int (1 : Int32)), .val (.int (0 : Int32)), .val (.int (1 : Int32)), .val (.int (2 : Int32)), .val (.ref b19_c96), .val (.ref o117), .unset] [(.int ms82_0), (.int ms46_0), (.int ms22_0), (.int v5), (.int (0 : Int32))])) rfl (by rw [hml]; rfl) (argsL := [(.int (0 : Int32)), (.int v5), (.int ms22_0), (.int ms46_0), (.int ms82_0)]) (rest := []) (lenOf pd7 rfl) rfl (by show 2 * 0 + _ ≤ _; exact Nat.le_of_eq rfl) (hb hby at_263) (fun _ _ => ⟨rfl, e118, (by decide : 5 + 0 ≤ _), (by decide : 1030 + 0 ≤ _)⟩)
    dsimp only [Pt.U, Pt.locs, Pt.cells, Pt.slots] at X119 l119 y119 z119 st119 hQ119
    subst l119 y119 z119
    obtain ⟨rfl, Nq119, e119⟩ := hQ119
    have N119 := Fr.app N118 Nq119
    refine Wq.step st119 ?_
    show Wq _ _ _ _ _ (T119.setTop (mkF m 266 #[.val (.int xlaw_1), .val (.int xlaw_2), .val (.int xlaw_3), .val (.int xlaw_4), .val (.int v5), .val (.int ms22_0), .val (.int ms46_0), .val (.int ms82_0), .val (.int (1 : Int32)), .val (.int (0 : Int32)), .val (.int (1 : Int32)), .val (.int (2 : Int32)), .val (.ref b19_c96), .val (.ref o117), .unset] [(.int (f_in (0 : Int32) v5 ms22_0 ms46_0 ms82_0))]))
    generalize hv263 : (f_in (0 : Int32) v5 ms22_0 ms46_0 ms82_0) = v263
    show Wq _ _ _ _ _ (T119.setTop (mkF m 266 #[.val (.int xlaw_1), .val (.int xlaw_2), .val (.int xlaw_3), .val (.int xlaw_4), .val (.int v5), .val (.int ms22_0), .val (.int ms46_0), .val (.int ms82_0), .val (.int (1 : Int32)), .val (.int (0 : Int32)), .val (.int (1 : Int32)), .val (.int (2 : Int32)), .val (.ref b19_c96), .val (.ref o117), .unset] [(.int v263)]))
    refine Wq.by (U' := T119.setTop (mkF m 274 #[.val (.int xlaw_1), .val (.int xlaw_2), .val (.int xlaw_3), .val (.int xlaw_4), .val (.int v5), .val (.int ms22_0), .val (.int ms46_0), .val (.int ms82_0), .val (.int (1 : Int32)), .val (.int (0 : Int32)), .val (.int (1 : Int32)), .val (.int (2 : Int32)), .val (.ref b19_c96), .val (.ref o117), .unset] [(.int (if v263 = (0 : Int32) then (1 : Int32) else (0 : Int32)))])) (fun k => ?_) ?_
    · skip
      by_cases hm266 : v263 = (0 : Int32)
      · skip
        refine Ow.ifYes X119 hx (pc' := 273) (hb hby at_266) ((if0 _ _).trans (teq hm266).1) (by decide) (by decide) ?_
        refine Ow.iconst X119 hx (pc' := 274) (hb hby at_273) (z := (1 : Int32)) rfl ?_
        simp only [if_pos hm266] at k
        exact k
      · skip
        refine Ow.ifNo X119 hx (pc' := 269) (hb hby at_266) ((if0 _ _).trans (feq hm266).1) ?_
        refine Ow.iconst X119 hx (pc' := 270) (hb hby at_269) (z := (0 : Int32)) rfl ?_
        refine Ow.goto X119 hx (pc' := 274) (hb hby at_270) (by decide) (by decide) ?_
        simp only [if_neg hm266] at k
        exact k
    show Wq _ _ _ _ _ (T119.setTop (mkF m 274 #[.val (.int xlaw_1), .val (.int xlaw_2), .val (.int xlaw_3), .val (.int xlaw_4), .val (.int v5), .val (.int ms22_0), .val (.int ms46_0), .val (.int ms82_0), .val (.int (1 : Int32)), .val (.int (0 : Int32)), .val (.int (1 : Int32)), .val (.int (2 : Int32)), .val (.ref b19_c96), .val (.ref o117), .unset] [(.int (if v263 = (0 : Int32) then (1 : Int32) else (0 : Int32)))]))
    generalize hms274_0 : (if v263 = (0 : Int32) then (1 : Int32) else (0 : Int32)) = ms274_0
    refine Ow.istore X119 hx (pc' := 276) (hb hby at_274) (l' := #[.val (.int xlaw_1), .val (.int xlaw_2), .val (.int xlaw_3), .val (.int xlaw_4), .val (.int v5), .val (.int ms22_0), .val (.int ms46_0), .val (.int ms82_0), .val (.int (1 : Int32)), .val (.int (0 : Int32)), .val (.int (1 : Int32)), .val (.int (2 : Int32)), .val (.ref b19_c96), .val (.ref o117), .val (.int ms274_0)]) rfl ?_
    refine Ow.iload X119 hx (pc' := 278) (hb hby at_276) rfl ?_
    refine Ow.ifNo X119 hx (pc' := 281) (hb hby at_278) ((if0 _ _).trans (feq (by decide : ¬ ((1 : Int32) = (0 : Int32)))).1) ?_
    refine Ow.iload X119 hx (pc' := 283) (hb hby at_281) rfl ?_
    refine Ow.iload X119 hx (pc' := 285) (hb hby at_283) rfl ?_
    refine Ow.iload X119 hx (pc' := 287) (hb hby at_285) rfl ?_
    refine Ow.iload X119 hx (pc' := 289) (hb hby at_287) rfl ?_
    refine Ow.iload X119 hx (pc' := 291) (hb hby at_289) rfl ?_
    refine Ow.iload X119 hx (pc' := 293) (hb hby at_291) rfl ?_
    obtain ⟨_, _, ⟨T120, L120, k120, n120⟩, -, X120, ⟨Lc120, hQ120, l120, y120, z120⟩, st120⟩ := Jvm.LawKit.callS X119 hx (y := mt14) hown (mvT hZ (kw99 hw)) (mvT hZ (kw100 hw)) (mvT hZ (kw79 hw)) (mvT hZ (kw101 hw)) (by decide) (backOf (W := 1) (rm_sa l Z a0 hw [] ms22_0 v5 ms22_0 ms46_0 ms82_0 T118.heap n0 Z118 ) hZ (kw101 hw) (kw79 hw) (by decide) (by decide)) (g := (mkF m 293 #[.val (.int xlaw_1), .val (.int xlaw_2), .val (.int xlaw_3), .val (.int xlaw_4), .val (.int v5), .val (.int ms22_0), .val (.int ms46_0), .val (.int ms82_0), .val (.int (1 : Int32)), .val (.int (0 : Int32)), .val (.int (1 : Int32)), .val (.int (2 : Int32)), .val (.ref b19_c96), .val (.ref o117), .val (.int ms274_0)] [(.int ms82_0), (.int ms46_0), (.int ms22_0), (.int v5), (.int ms22_0), (.int ms274_0)])) rfl (by rw [hml]; rfl) (argsL := [(.int ms22_0), (.int v5), (.int ms22_0), (.int ms46_0), (.int ms82_0)]) (rest := [(.int ms274_0)]) (lenOf pd12 rfl) rfl (by show 2 * 0 + _ ≤ _; exact Nat.le_of_eq rfl) (hb hby at_293) (fun _ _ => ⟨rfl, e119, (by decide : 5 + 0 ≤ _), (by decide : 1030 + 0 ≤ _)⟩)
    dsimp only [Pt.U, Pt.locs, Pt.cells, Pt.slots] at X120 l120 y120 z120 st120 hQ120
    subst l120 y120 z120
    obtain ⟨rfl, Nq120, e120⟩ := hQ120
    have N120 := Fr.app N119 Nq120
    refine Wq.step st120 ?_
    show Wq _ _ _ _ _ (T120.setTop (mkF m 296 #[.val (.int xlaw_1), .val (.int xlaw_2), .val (.int xlaw_3), .val (.int xlaw_4), .val (.int v5), .val (.int ms22_0), .val (.int ms46_0), .val (.int ms82_0), .val (.int (1 : Int32)), .val (.int (0 : Int32)), .val (.int (1 : Int32)), .val (.int (2 : Int32)), .val (.ref b19_c96), .val (.ref o117), .val (.int ms274_0)] [(.int (f_sa ms22_0 v5 ms22_0 ms46_0 ms82_0)), (.int ms274_0)]))
    generalize hv293 : (f_sa ms22_0 v5 ms22_0 ms46_0 ms82_0) = v293
    show Wq _ _ _ _ _ (T120.setTop (mkF m 296 #[.val (.int xlaw_1), .val (.int xlaw_2), .val (.int xlaw_3), .val (.int xlaw_4), .val (.int v5), .val (.int ms22_0), .val (.int ms46_0), .val (.int ms82_0), .val (.int (1 : Int32)), .val (.int (0 : Int32)), .val (.int (1 : Int32)), .val (.int (2 : Int32)), .val (.ref b19_c96), .val (.ref o117), .val (.int ms274_0)] [(.int v293), (.int ms274_0)]))
    refine Ow.iadd X120 hx (pc' := 297) (hb hby at_296) (z := (ms274_0 + v293)) rfl ?_
    refine Ow.istore X120 hx (pc' := 299) (hb hby at_297) (l' := #[.val (.int xlaw_1), .val (.int xlaw_2), .val (.int xlaw_3), .val (.int xlaw_4), .val (.int v5), .val (.int ms22_0), .val (.int ms46_0), .val (.int ms82_0), .val (.int (1 : Int32)), .val (.int (0 : Int32)), .val (.int (1 : Int32)), .val (.int (2 : Int32)), .val (.ref b19_c96), .val (.ref o117), .val (.int (ms274_0 + v293))]) rfl ?_
    generalize hv297 : (ms274_0 + v293) = v297
    refine Ow.iload X120 hx (pc' := 301) (hb hby at_299) rfl ?_
    refine Ow.ifYes X120 hx (pc' := 322) (hb hby at_301) ((if0 _ _).trans (teq (by decide : (0 : Int32) = (0 : Int32))).1) (by decide) (by decide) ?_
    refine Ow.iload X120 hx (pc' := 324) (hb hby at_322) rfl ?_
    refine Ow.ifNo X120 hx (pc' := 327) (hb hby at_324) ((if0 _ _).trans (feq (by decide : ¬ ((1 : Int32) = (0 : Int32)))).1) ?_
    refine Ow.iload X120 hx (pc' := 329) (hb hby at_327) rfl ?_
    refine Ow.iload X120 hx (pc' := 331) (hb hby at_329) rfl ?_
    refine Ow.iload X120 hx (pc' := 333) (hb hby at_331) rfl ?_
    refine Ow.iload X120 hx (pc' := 335) (hb hby at_333) rfl ?_
    refine Ow.iload X120 hx (pc' := 337) (hb hby at_335) rfl ?_
    refine Ow.iload X120 hx (pc' := 339) (hb hby at_337) rfl ?_
    obtain ⟨_, _, ⟨T121, L121, k121, n121⟩, -, X121, ⟨Lc121, hQ121, l121, y121, z121⟩, st121⟩ := Jvm.LawKit.callS X120 hx (y := mt14) hown (mvT hZ (kw99 hw)) (mvT hZ (kw100 hw)) (mvT hZ (kw79 hw)) (mvT hZ (kw101 hw)) (by decide) (backOf (W := 1) (rm_sa l Z a0 hw [] ms82_0 v5 ms22_0 ms46_0 ms82_0 T118.heap n0 Z118 ) hZ (kw101 hw) (kw79 hw) (by decide) (by decide)) (g := (mkF m 339 #[.val (.int xlaw_1), .val (.int xlaw_2), .val (.int xlaw_3), .val (.int xlaw_4), .val (.int v5), .val (.int ms22_0), .val (.int ms46_0), .val (.int ms82_0), .val (.int (1 : Int32)), .val (.int (0 : Int32)), .val (.int (1 : Int32)), .val (.int (2 : Int32)), .val (.ref b19_c96), .val (.ref o117), .val (.int v297)] [(.int ms82_0), (.int ms46_0), (.int ms22_0), (.int v5), (.int ms82_0), (.int v297)])) rfl (by rw [hml]; rfl) (argsL := [(.int ms82_0), (.int v5), (.int ms22_0), (.int ms46_0), (.int ms82_0)]) (rest := [(.int v297)]) (lenOf pd12 rfl) rfl (by show 2 * 0 + _ ≤ _; exact Nat.le_of_eq rfl) (hb hby at_339) (fun _ _ => ⟨rfl, e120, (by decide : 5 + 0 ≤ _), (by decide : 1030 + 0 ≤ _)⟩)
    dsimp only [Pt.U, Pt.locs, Pt.cells, Pt.slots] at X121 l121 y121 z121 st121 hQ121
    subst l121 y121 z121
    obtain ⟨rfl, Nq121, e121⟩ := hQ121
    have N121 := Fr.app N120 Nq121
    refine Wq.step st121 ?_
    show Wq _ _ _ _ _ (T121.setTop (mkF m 342 #[.val (.int xlaw_1), .val (.int xlaw_2), .val (.int xlaw_3), .val (.int xlaw_4), .val (.int v5), .val (.int ms22_0), .val (.int ms46_0), .val (.int ms82_0), .val (.int (1 : Int32)), .val (.int (0 : Int32)), .val (.int (1 : Int32)), .val (.int (2 : Int32)), .val (.ref b19_c96), .val (.ref o117), .val (.int v297)] [(.int (f_sa ms82_0 v5 ms22_0 ms46_0 ms82_0)), (.int v297)]))
    generalize hv339 : (f_sa ms82_0 v5 ms22_0 ms46_0 ms82_0) = v339
    show Wq _ _ _ _ _ (T121.setTop (mkF m 342 #[.val (.int xlaw_1), .val (.int xlaw_2), .val (.int xlaw_3), .val (.int xlaw_4), .val (.int v5), .val (.int ms22_0), .val (.int ms46_0), .val (.int ms82_0), .val (.int (1 : Int32)), .val (.int (0 : Int32)), .val (.int (1 : Int32)), .val (.int (2 : Int32)), .val (.ref b19_c96), .val (.ref o117), .val (.int v297)] [(.int v339), (.int v297)]))
    refine Ow.iadd X121 hx (pc' := 343) (hb hby at_342) (z := (v297 + v339)) rfl ?_
    refine Ow.istore X121 hx (pc' := 345) (hb hby at_343) (l' := #[.val (.int xlaw_1), .val (.int xlaw_2), .val (.int xlaw_3), .val (.int xlaw_4), .val (.int v5), .val (.int ms22_0), .val (.int ms46_0), .val (.int ms82_0), .val (.int (1 : Int32)), .val (.int (0 : Int32)), .val (.int (1 : Int32)), .val (.int (2 : Int32)), .val (.ref b19_c96), .val (.ref o117), .val (.int (v297 + v339))]) rfl ?_
    generalize hv343 : (v297 + v339) = v343
    refine Ow.aload X121 hx (pc' := 347) (hb hby at_345) rfl rfl ?_
    obtain ⟨cq122, kq122, q122a, q122b, q122c⟩ := isOf hZ e121 A117_t118
    obtain ⟨_, _, ⟨T122, L122, k122, n122⟩, -, X122, ⟨Lc122, hQ122, l122, y122, z122⟩, st122⟩ := X121.virtualBack hx (y := mt18) (z := mt18) hown (mvT hZ (kw81 hw)) (mvT hZ (kw82 hw)) (notFace_of_selects (args := #[]) (mvT hZ (kw84 hw))) (mvT hZ (kw84 hw)) (mvT hZ (kw83 hw)) (by decide) (backOf (W := 0) (rm_q2 l Z a0 hw [] o117 b42_c118 (Int32.ofNat ((own_s2 (own_n ms22_0) (own_n ms82_0)) 0)) (Int32.ofNat ((own_s2 (own_n ms22_0) (own_n ms82_0)) 1)) T118.heap n0 Z118 P118_2 P118_1) hZ (kw85 hw) (kw67 hw) (by decide) (by decide)) q122a q122c (g := (mkF m 347 #[.val (.int xlaw_1), .val (.int xlaw_2), .val (.int xlaw_3), .val (.int xlaw_4), .val (.int v5), .val (.int ms22_0), .val (.int ms46_0), .val (.int ms82_0), .val (.int (1 : Int32)), .val (.int (0 : Int32)), .val (.int (1 : Int32)), .val (.int (2 : Int32)), .val (.ref b19_c96), .val (.ref o117), .val (.int v343)] [(.ref o117)])) rfl (by rw [hml]; rfl) (Steps.refl _) (argsL := []) (rest := []) (lenOf pd1 rfl) rfl (by show 2 * 0 + _ ≤ _; exact Nat.le_of_eq rfl) (hb hby at_347) (fun _ _ => ⟨rfl, e121, (by decide : 5 + 0 ≤ _), (by decide : 1030 + 0 ≤ _)⟩)
    dsimp only [Pt.U, Pt.locs, Pt.cells, Pt.slots] at X122 l122 y122 z122 st122 hQ122
    subst l122 y122 z122
    obtain ⟨rfl, Nq122, e122⟩ := hQ122
    have N122 := Fr.app N121 Nq122
    refine Wq.steps st122 ?_
    show Wq _ _ _ _ _ (T122.setTop (mkF m 350 #[.val (.int xlaw_1), .val (.int xlaw_2), .val (.int xlaw_3), .val (.int xlaw_4), .val (.int v5), .val (.int ms22_0), .val (.int ms46_0), .val (.int ms82_0), .val (.int (1 : Int32)), .val (.int (0 : Int32)), .val (.int (1 : Int32)), .val (.int (2 : Int32)), .val (.ref b19_c96), .val (.ref o117), .val (.int v343)] [(.int (f_q2 (Int32.ofNat ((own_s2 (own_n ms22_0) (own_n ms82_0)) 0)) (Int32.ofNat ((own_s2 (own_n ms22_0) (own_n ms82_0)) 1))))]))
    generalize hv347 : (f_q2 (Int32.ofNat ((own_s2 (own_n ms22_0) (own_n ms82_0)) 0)) (Int32.ofNat ((own_s2 (own_n ms22_0) (own_n ms82_0)) 1))) = v347
    show Wq _ _ _ _ _ (T122.setTop (mkF m 350 #[.val (.int xlaw_1), .val (.int xlaw_2), .val (.int xlaw_3), .val (.int xlaw_4), .val (.int v5), .val (.int ms22_0), .val (.int ms46_0), .val (.int ms82_0), .val (.int (1 : Int32)), .val (.int (0 : Int32)), .val (.int (1 : Int32)), .val (.int (2 : Int32)), .val (.ref b19_c96), .val (.ref o117), .val (.int v343)] [(.int v347)]))
    refine Ow.iload X122 hx (pc' := 352) (hb hby at_350) rfl ?_
    refine Ow.icmpNo X122 hx (pc' := 355) (hb hby at_352) (teq (own_L2 RA RC PF hv263 hms274_0 hv293 hv297 hv339 hv343 hv347 : v347 = v343)).2 ?_
    refine Ow.iconst X122 hx (pc' := 356) (hb hby at_355) (z := (1 : Int32)) rfl ?_
    refine Ow.goto X122 hx (pc' := 360) (hb hby at_356) (by decide) (by decide) ?_
    exact Wq.ret X122 (BodyLoose.notSynchronized Bd) (rv := some (.int (1 : Int32))) (fun h => by rw [Bd.returns] at h; cases h) (fun _ hr => retN X122 hx (t := .boolean) Bd.returns (by simp) (hb hby at_360) hr) (by decide) (by decide) ⟨rfl, N122⟩
  · skip
    show Wq _ _ _ _ _ (T96.setTop (mkF m 202 #[.val (.int xlaw_1), .val (.int xlaw_2), .val (.int xlaw_3), .val (.int xlaw_4), .val (.int v5), .val (.int ms22_0), .val (.int ms46_0), .val (.int ms82_0), .val (.int (1 : Int32)), .val (.int (1 : Int32)), .val (.int (1 : Int32)), .val (.int (3 : Int32)), .val (.ref b19_c96), .unset, .unset] []))
    refine Ow.iload X96 hx (pc' := 204) (hb hby at_202) rfl ?_
    refine Ow.ifNo X96 hx (pc' := 207) (hb hby at_204) ((if0 _ _).trans (feq (by decide : ¬ ((1 : Int32) = (0 : Int32)))).1) ?_
    refine Ow.aload X96 hx (pc' := 209) (hb hby at_207) rfl rfl ?_
    refine Ow.iload X96 hx (pc' := 211) (hb hby at_209) rfl ?_
    obtain ⟨_, _, ⟨T123, L123, k123, n123⟩, -, X123, ⟨Lc123, hQ123, l123, y123, z123⟩, st123⟩ := Jvm.LawKit.callS X96 hx (y := mt12) hown (mvT hZ (kw86 hw)) (mvT hZ (kw87 hw)) (mvT hZ (kw79 hw)) (mvT hZ (kw88 hw)) (by decide) (backOf (W := 0) (rm_cl l Z a0 hw [] b19_c96 ms22_0 (fun _ => (-1 : Int64)) T96.heap n0 Z96 (RA) P96_0 g_b19_c96) hZ (kw88 hw) (kw79 hw) (by decide) (by decide)) (g := (mkF m 211 #[.val (.int xlaw_1), .val (.int xlaw_2), .val (.int xlaw_3), .val (.int xlaw_4), .val (.int v5), .val (.int ms22_0), .val (.int ms46_0), .val (.int ms82_0), .val (.int (1 : Int32)), .val (.int (1 : Int32)), .val (.int (1 : Int32)), .val (.int (3 : Int32)), .val (.ref b19_c96), .unset, .unset] [(.int ms22_0), (.ref b19_c96)])) rfl (by rw [hml]; rfl) (argsL := [(.ref b19_c96), (.int ms22_0)]) (rest := []) (lenOf pd11 rfl) rfl (by show 2 * 0 + _ ≤ _; exact Nat.le_of_eq rfl) (hb hby at_211) (fun _ _ => ⟨rfl, e96, (by decide : 3 + 0 ≤ _), (by decide : 1027 + 0 ≤ _)⟩)
    dsimp only [Pt.U, Pt.locs, Pt.cells, Pt.slots] at X123 l123 y123 z123 st123 hQ123
    subst l123 y123 z123
    obtain ⟨rfl, Nq123, Kq123, P123_0⟩ := hQ123
    have N123 := Fr.app N96 Nq123
    have K123 : Keep h0 T123.heap [] := K96.trans Kq123 (allS (P := fun x => x ∈ [] ∨ h0.size ≤ x) (Or.inr sz_b19_c96) all0)
    have Z123 : n0 ≤ T123.heap.size := Nat.le_trans Z96 Kq123.1
    have A91_t123 := A91_t96.keep Kq123
    have V_b92_t123 := V_b92_t96.keep Kq123 (ninS ne_b92_b19_c96 nin0)
    have P95_1_t123 := P95_1_t96.keep Kq123 (ninS ne_o91_b19_c96 nin0)
    have e123 : T123.heap = T123.heap := rfl
    refine Wq.step st123 ?_
    show Wq _ _ _ _ _ (T123.setTop (mkF m 214 #[.val (.int xlaw_1), .val (.int xlaw_2), .val (.int xlaw_3), .val (.int xlaw_4), .val (.int v5), .val (.int ms22_0), .val (.int ms46_0), .val (.int ms82_0), .val (.int (1 : Int32)), .val (.int (1 : Int32)), .val (.int (1 : Int32)), .val (.int (3 : Int32)), .val (.ref b19_c96), .unset, .unset] []))
    refine Ow.iload X123 hx (pc' := 216) (hb hby at_214) rfl ?_
    refine Ow.ifNo X123 hx (pc' := 219) (hb hby at_216) ((if0 _ _).trans (feq (by decide : ¬ ((1 : Int32) = (0 : Int32)))).1) ?_
    refine Ow.aload X123 hx (pc' := 221) (hb hby at_219) rfl rfl ?_
    refine Ow.iload X123 hx (pc' := 223) (hb hby at_221) rfl ?_
    obtain ⟨_, _, ⟨T124, L124, k124, n124⟩, -, X124, ⟨Lc124, hQ124, l124, y124, z124⟩, st124⟩ := Jvm.LawKit.callS X123 hx (y := mt12) hown (mvT hZ (kw86 hw)) (mvT hZ (kw87 hw)) (mvT hZ (kw79 hw)) (mvT hZ (kw88 hw)) (by decide) (backOf (W := 0) (rm_cl l Z a0 hw [] b19_c96 ms46_0 (own_clr (fun _ => (-1 : Int64)) ms22_0) T123.heap n0 Z123 (RB) P123_0 g_b19_c96) hZ (kw88 hw) (kw79 hw) (by decide) (by decide)) (g := (mkF m 223 #[.val (.int xlaw_1), .val (.int xlaw_2), .val (.int xlaw_3), .val (.int xlaw_4), .val (.int v5), .val (.int ms22_0), .val (.int ms46_0), .val (.int ms82_0), .val (.int (1 : Int32)), .val (.int (1 : Int32)), .val (.int (1 : Int32)), .val (.int (3 : Int32)), .val (.ref b19_c96), .unset, .unset] [(.int ms46_0), (.ref b19_c96)])) rfl (by rw [hml]; rfl) (argsL := [(.ref b19_c96), (.int ms46_0)]) (rest := []) (lenOf pd11 rfl) rfl (by show 2 * 0 + _ ≤ _; exact Nat.le_of_eq rfl) (hb hby at_223) (fun _ _ => ⟨rfl, e123, (by decide : 3 + 0 ≤ _), (by decide : 1027 + 0 ≤ _)⟩)
    dsimp only [Pt.U, Pt.locs, Pt.cells, Pt.slots] at X124 l124 y124 z124 st124 hQ124
    subst l124 y124 z124
    obtain ⟨rfl, Nq124, Kq124, P124_0⟩ := hQ124
    have N124 := Fr.app N123 Nq124
    have K124 : Keep h0 T124.heap [] := K123.trans Kq124 (allS (P := fun x => x ∈ [] ∨ h0.size ≤ x) (Or.inr sz_b19_c96) all0)
    have Z124 : n0 ≤ T124.heap.size := Nat.le_trans Z123 Kq124.1
    have A91_t124 := A91_t123.keep Kq124
    have V_b92_t124 := V_b92_t123.keep Kq124 (ninS ne_b92_b19_c96 nin0)
    have P95_1_t124 := P95_1_t123.keep Kq124 (ninS ne_o91_b19_c96 nin0)
    have e124 : T124.heap = T124.heap := rfl
    refine Wq.step st124 ?_
    show Wq _ _ _ _ _ (T124.setTop (mkF m 226 #[.val (.int xlaw_1), .val (.int xlaw_2), .val (.int xlaw_3), .val (.int xlaw_4), .val (.int v5), .val (.int ms22_0), .val (.int ms46_0), .val (.int ms82_0), .val (.int (1 : Int32)), .val (.int (1 : Int32)), .val (.int (1 : Int32)), .val (.int (3 : Int32)), .val (.ref b19_c96), .unset, .unset] []))
    refine Ow.iload X124 hx (pc' := 228) (hb hby at_226) rfl ?_
    refine Ow.ifNo X124 hx (pc' := 231) (hb hby at_228) ((if0 _ _).trans (feq (by decide : ¬ ((1 : Int32) = (0 : Int32)))).1) ?_
    refine Ow.aload X124 hx (pc' := 233) (hb hby at_231) rfl rfl ?_
    refine Ow.iload X124 hx (pc' := 235) (hb hby at_233) rfl ?_
    obtain ⟨_, _, ⟨T125, L125, k125, n125⟩, -, X125, ⟨Lc125, hQ125, l125, y125, z125⟩, st125⟩ := Jvm.LawKit.callS X124 hx (y := mt12) hown (mvT hZ (kw86 hw)) (mvT hZ (kw87 hw)) (mvT hZ (kw79 hw)) (mvT hZ (kw88 hw)) (by decide) (backOf (W := 0) (rm_cl l Z a0 hw [] b19_c96 ms82_0 (own_clr (own_clr (fun _ => (-1 : Int64)) ms22_0) ms46_0) T124.heap n0 Z124 (RC) P124_0 g_b19_c96) hZ (kw88 hw) (kw79 hw) (by decide) (by decide)) (g := (mkF m 235 #[.val (.int xlaw_1), .val (.int xlaw_2), .val (.int xlaw_3), .val (.int xlaw_4), .val (.int v5), .val (.int ms22_0), .val (.int ms46_0), .val (.int ms82_0), .val (.int (1 : Int32)), .val (.int (1 : Int32)), .val (.int (1 : Int32)), .val (.int (3 : Int32)), .val (.ref b19_c96), .unset, .unset] [(.int ms82_0), (.ref b19_c96)])) rfl (by rw [hml]; rfl) (argsL := [(.ref b19_c96), (.int ms82_0)]) (rest := []) (lenOf pd11 rfl) rfl (by show 2 * 0 + _ ≤ _; exact Nat.le_of_eq rfl) (hb hby at_235) (fun _ _ => ⟨rfl, e124, (by decide : 3 + 0 ≤ _), (by decide : 1027 + 0 ≤ _)⟩)
    dsimp only [Pt.U, Pt.locs, Pt.cells, Pt.slots] at X125 l125 y125 z125 st125 hQ125
    subst l125 y125 z125
    obtain ⟨rfl, Nq125, Kq125, P125_0⟩ := hQ125
    have N125 := Fr.app N124 Nq125
    have K125 : Keep h0 T125.heap [] := K124.trans Kq125 (allS (P := fun x => x ∈ [] ∨ h0.size ≤ x) (Or.inr sz_b19_c96) all0)
    have Z125 : n0 ≤ T125.heap.size := Nat.le_trans Z124 Kq125.1
    have A91_t125 := A91_t124.keep Kq125
    have V_b92_t125 := V_b92_t124.keep Kq125 (ninS ne_b92_b19_c96 nin0)
    have P95_1_t125 := P95_1_t124.keep Kq125 (ninS ne_o91_b19_c96 nin0)
    have e125 : T125.heap = T125.heap := rfl
    refine Wq.step st125 ?_
    show Wq _ _ _ _ _ (T125.setTop (mkF m 238 #[.val (.int xlaw_1), .val (.int xlaw_2), .val (.int xlaw_3), .val (.int xlaw_4), .val (.int v5), .val (.int ms22_0), .val (.int ms46_0), .val (.int ms82_0), .val (.int (1 : Int32)), .val (.int (1 : Int32)), .val (.int (1 : Int32)), .val (.int (3 : Int32)), .val (.ref b19_c96), .unset, .unset] []))
    obtain ⟨T126, h126, X126, e126, E126, A126, D126, -, st126⟩ := newO X125 hx hZ hown (kw65 hw) (kw66 hw) (kw67 hw) e125 (g := (mkF m 238 #[.val (.int xlaw_1), .val (.int xlaw_2), .val (.int xlaw_3), .val (.int xlaw_4), .val (.int v5), .val (.int ms22_0), .val (.int ms46_0), .val (.int ms82_0), .val (.int (1 : Int32)), .val (.int (1 : Int32)), .val (.int (1 : Int32)), .val (.int (3 : Int32)), .val (.ref b19_c96), .unset, .unset] [])) rfl (hb hby at_238) (by decide) (by decide)
    obtain ⟨o126, gz126⟩ : ∃ z, z = T125.heap.size := ⟨_, rfl⟩
    rw [← gz126] at A126 D126 st126
    have g_o126 : n0 ≤ o126 := Nat.le_trans Z125 (Nat.le_of_eq gz126.symm)
    have sz_o126 : h0.size ≤ o126 := Nat.le_trans K125.1 (Nat.le_of_eq gz126.symm)
    have ne_o91_o126 : o91 ≠ o126 := Nat.ne_of_lt (Nat.lt_of_lt_of_le A91_t125.lt (Nat.le_of_eq gz126.symm))
    have ne_b92_o126 : b92 ≠ o126 := Nat.ne_of_lt (Nat.lt_of_lt_of_le V_b92_t125.lt (Nat.le_of_eq gz126.symm))
    have ne_b19_c96_o126 : b19_c96 ≠ o126 := Nat.ne_of_lt (Nat.lt_of_lt_of_le P125_0.lt (Nat.le_of_eq gz126.symm))
    have K126 : Keep h0 h126 [] := K125.ext E126
    have Z126 : n0 ≤ h126.size := Nat.le_trans Z125 E126.1
    have A91_t126 := A91_t125.ext E126
    have V_b92_t126 := V_b92_t125.ext E126
    have P95_1_t126 := P95_1_t125.ext E126
    have P125_0_t126 := P125_0.ext E126
    refine Wq.step st126 ?_
    have F_o126_missing : Fld Z h126 o126 "com/example/tightbit/tightbit/SparseDocIds$Complement" "missing" "[C" .null := D126 (Or.inr (kw75 hw)) (ty := (.array .char)) (by decide)
    show Wq _ _ _ _ _ (T126.setTop (mkF m 241 #[.val (.int xlaw_1), .val (.int xlaw_2), .val (.int xlaw_3), .val (.int xlaw_4), .val (.int v5), .val (.int ms22_0), .val (.int ms46_0), .val (.int ms82_0), .val (.int (1 : Int32)), .val (.int (1 : Int32)), .val (.int (1 : Int32)), .val (.int (3 : Int32)), .val (.ref b19_c96), .unset, .unset] [(.ref o126)]))
    refine Ow.dup X126 hx (pc' := 242) (hb hby at_241) rfl ?_
    refine Ow.aload X126 hx (pc' := 244) (hb hby at_242) rfl rfl ?_
    refine Ow.ldcInt X126 hx hZ (pc' := 246) hown (kw68 hw) (hb hby at_244) ?_
    refine Ow.iload X126 hx (pc' := 248) (hb hby at_246) rfl ?_
    refine Ow.isub X126 hx (pc' := 249) (hb hby at_248) (z := (65533 : Int32)) rfl ?_
    obtain ⟨_, _, ⟨T127, L127, k127, n127⟩, -, X127, ⟨Lc127, hQ127, l127, y127, z127⟩, st127⟩ := X126.specialBack hx (y := mt17) rfl hown (mvT hZ (kw69 hw)) (mvT hZ (kw70 hw)) (mvT hZ (kw71 hw)) (by decide) (backOf (W := 1) (rm_k3 l Z a0 hw [] o126 b19_c96 (65533 : Int32) (own_clr (own_clr (own_clr (fun _ => (-1 : Int64)) ms22_0) ms46_0) ms82_0) (own_s3 (own_n ms22_0) (own_n ms46_0) (own_n ms82_0)) h126 n0 Z126 (by decide) (own_S3 RA RB RC PF.1 PF.2.1 PF.2.2.1) A126 F_o126_missing g_o126 P125_0_t126 ne_b19_c96_o126) hZ (kw71 hw) (kw67 hw) (by decide) (by decide)) (g := (mkF m 249 #[.val (.int xlaw_1), .val (.int xlaw_2), .val (.int xlaw_3), .val (.int xlaw_4), .val (.int v5), .val (.int ms22_0), .val (.int ms46_0), .val (.int ms82_0), .val (.int (1 : Int32)), .val (.int (1 : Int32)), .val (.int (1 : Int32)), .val (.int (3 : Int32)), .val (.ref b19_c96), .unset, .unset] [(.int (65533 : Int32)), (.ref b19_c96), (.ref o126), (.ref o126)])) rfl (by rw [hml]; rfl) (Steps.refl _) (a := o126) (argsL := [(.ref b19_c96), (.int (65533 : Int32))]) (rest := [(.ref o126)]) (lenOf pd11 rfl) rfl (by show 2 * 0 + _ ≤ _; exact Nat.le_of_eq rfl) (hb hby at_249) (fun _ _ => ⟨rfl, e126, (by decide : 4 + 1 ≤ _), (by decide : 1028 + 3 ≤ _)⟩)
    dsimp only [Pt.U, Pt.locs, Pt.cells, Pt.slots] at X127 l127 y127 z127 st127 hQ127
    subst l127 y127 z127
    obtain ⟨b50_c127, rfl, Nq127, Kq127, szq_b50_c127, P127_0, P127_1, P127_2⟩ := hQ127
    have g_b50_c127 : n0 ≤ b50_c127 := Nat.le_trans Z126 szq_b50_c127
    have sz_b50_c127 : h0.size ≤ b50_c127 := Nat.le_trans K126.1 szq_b50_c127
    have ne_o91_b50_c127 : o91 ≠ b50_c127 := Nat.ne_of_lt (Nat.lt_of_lt_of_le A91_t126.lt szq_b50_c127)
    have ne_b92_b50_c127 : b92 ≠ b50_c127 := Nat.ne_of_lt (Nat.lt_of_lt_of_le V_b92_t126.lt szq_b50_c127)
    have ne_b19_c96_b50_c127 : b19_c96 ≠ b50_c127 := Nat.ne_of_lt (Nat.lt_of_lt_of_le P125_0_t126.lt szq_b50_c127)
    have ne_o126_b50_c127 : o126 ≠ b50_c127 := Nat.ne_of_lt (Nat.lt_of_lt_of_le A126.lt szq_b50_c127)
    have N127 := Fr.app N125 Nq127
    have K127 : Keep h0 T127.heap [] := K126.trans Kq127 (allS (P := fun x => x ∈ [] ∨ h0.size ≤ x) (Or.inr sz_o126) all0)
    have Z127 : n0 ≤ T127.heap.size := Nat.le_trans Z126 Kq127.1
    have A91_t127 := A91_t126.keep Kq127
    have V_b92_t127 := V_b92_t126.keep Kq127 (ninS ne_b92_o126 nin0)
    have P95_1_t127 := P95_1_t126.keep Kq127 (ninS ne_o91_o126 nin0)
    have P125_0_t127 := P125_0_t126.keep Kq127 (ninS ne_b19_c96_o126 nin0)
    have A126_t127 := A126.keep Kq127
    have e127 : T127.heap = T127.heap := rfl
    refine Wq.steps st127 ?_
    show Wq _ _ _ _ _ (T127.setTop (mkF m 252 #[.val (.int xlaw_1), .val (.int xlaw_2), .val (.int xlaw_3), .val (.int xlaw_4), .val (.int v5), .val (.int ms22_0), .val (.int ms46_0), .val (.int ms82_0), .val (.int (1 : Int32)), .val (.int (1 : Int32)), .val (.int (1 : Int32)), .val (.int (3 : Int32)), .val (.ref b19_c96), .unset, .unset] [(.ref o126)]))
    refine Ow.astore X127 hx (pc' := 254) (hb hby at_252) rfl (l' := #[.val (.int xlaw_1), .val (.int xlaw_2), .val (.int xlaw_3), .val (.int xlaw_4), .val (.int v5), .val (.int ms22_0), .val (.int ms46_0), .val (.int ms82_0), .val (.int (1 : Int32)), .val (.int (1 : Int32)), .val (.int (1 : Int32)), .val (.int (3 : Int32)), .val (.ref b19_c96), .val (.ref o126), .unset]) rfl ?_
    refine Ow.iconst X127 hx (pc' := 255) (hb hby at_254) (z := (0 : Int32)) rfl ?_
    refine Ow.iload X127 hx (pc' := 257) (hb hby at_255) rfl ?_
    refine Ow.iload X127 hx (pc' := 259) (hb hby at_257) rfl ?_
    refine Ow.iload X127 hx (pc' := 261) (hb hby at_259) rfl ?_
    refine Ow.iload X127 hx (pc' := 263) (hb hby at_261) rfl ?_
    obtain ⟨_, _, ⟨T128, L128, k128, n128⟩, -, X128, ⟨Lc128, hQ128, l128, y128, z128⟩, st128⟩ := Jvm.LawKit.callS X127 hx (y := mt13) hown (mvT hZ (kw77 hw)) (mvT hZ (kw78 hw)) (mvT hZ (kw79 hw)) (mvT hZ (kw80 hw)) (by decide) (backOf (W := 0) (rm_in l Z a0 hw [] (0 : Int32) v5 ms22_0 ms46_0 ms82_0 T127.heap n0 Z127 ) hZ (kw80 hw) (kw79 hw) (by decide) (by decide)) (g := (mkF m 263 #[.val (.int xlaw_1), .val (.int xlaw_2), .val (.int xlaw_3), .val (.int xlaw_4), .val (.int v5), .val (.int ms22_0), .val (.int ms46_0), .val (.int ms82_0), .val (.int (1 : Int32)), .val (.int (1 : Int32)), .val (.int (1 : Int32)), .val (.int (3 : Int32)), .val (.ref b19_c96), .val (.ref o126), .unset] [(.int ms82_0), (.int ms46_0), (.int ms22_0), (.int v5), (.int (0 : Int32))])) rfl (by rw [hml]; rfl) (argsL := [(.int (0 : Int32)), (.int v5), (.int ms22_0), (.int ms46_0), (.int ms82_0)]) (rest := []) (lenOf pd7 rfl) rfl (by show 2 * 0 + _ ≤ _; exact Nat.le_of_eq rfl) (hb hby at_263) (fun _ _ => ⟨rfl, e127, (by decide : 5 + 0 ≤ _), (by decide : 1031 + 0 ≤ _)⟩)
    dsimp only [Pt.U, Pt.locs, Pt.cells, Pt.slots] at X128 l128 y128 z128 st128 hQ128
    subst l128 y128 z128
    obtain ⟨rfl, Nq128, e128⟩ := hQ128
    have N128 := Fr.app N127 Nq128
    refine Wq.step st128 ?_
    show Wq _ _ _ _ _ (T128.setTop (mkF m 266 #[.val (.int xlaw_1), .val (.int xlaw_2), .val (.int xlaw_3), .val (.int xlaw_4), .val (.int v5), .val (.int ms22_0), .val (.int ms46_0), .val (.int ms82_0), .val (.int (1 : Int32)), .val (.int (1 : Int32)), .val (.int (1 : Int32)), .val (.int (3 : Int32)), .val (.ref b19_c96), .val (.ref o126), .unset] [(.int (f_in (0 : Int32) v5 ms22_0 ms46_0 ms82_0))]))
    generalize hv263 : (f_in (0 : Int32) v5 ms22_0 ms46_0 ms82_0) = v263
    show Wq _ _ _ _ _ (T128.setTop (mkF m 266 #[.val (.int xlaw_1), .val (.int xlaw_2), .val (.int xlaw_3), .val (.int xlaw_4), .val (.int v5), .val (.int ms22_0), .val (.int ms46_0), .val (.int ms82_0), .val (.int (1 : Int32)), .val (.int (1 : Int32)), .val (.int (1 : Int32)), .val (.int (3 : Int32)), .val (.ref b19_c96), .val (.ref o126), .unset] [(.int v263)]))
    refine Wq.by (U' := T128.setTop (mkF m 274 #[.val (.int xlaw_1), .val (.int xlaw_2), .val (.int xlaw_3), .val (.int xlaw_4), .val (.int v5), .val (.int ms22_0), .val (.int ms46_0), .val (.int ms82_0), .val (.int (1 : Int32)), .val (.int (1 : Int32)), .val (.int (1 : Int32)), .val (.int (3 : Int32)), .val (.ref b19_c96), .val (.ref o126), .unset] [(.int (if v263 = (0 : Int32) then (1 : Int32) else (0 : Int32)))])) (fun k => ?_) ?_
    · skip
      by_cases hm266 : v263 = (0 : Int32)
      · skip
        refine Ow.ifYes X128 hx (pc' := 273) (hb hby at_266) ((if0 _ _).trans (teq hm266).1) (by decide) (by decide) ?_
        refine Ow.iconst X128 hx (pc' := 274) (hb hby at_273) (z := (1 : Int32)) rfl ?_
        simp only [if_pos hm266] at k
        exact k
      · skip
        refine Ow.ifNo X128 hx (pc' := 269) (hb hby at_266) ((if0 _ _).trans (feq hm266).1) ?_
        refine Ow.iconst X128 hx (pc' := 270) (hb hby at_269) (z := (0 : Int32)) rfl ?_
        refine Ow.goto X128 hx (pc' := 274) (hb hby at_270) (by decide) (by decide) ?_
        simp only [if_neg hm266] at k
        exact k
    show Wq _ _ _ _ _ (T128.setTop (mkF m 274 #[.val (.int xlaw_1), .val (.int xlaw_2), .val (.int xlaw_3), .val (.int xlaw_4), .val (.int v5), .val (.int ms22_0), .val (.int ms46_0), .val (.int ms82_0), .val (.int (1 : Int32)), .val (.int (1 : Int32)), .val (.int (1 : Int32)), .val (.int (3 : Int32)), .val (.ref b19_c96), .val (.ref o126), .unset] [(.int (if v263 = (0 : Int32) then (1 : Int32) else (0 : Int32)))]))
    generalize hms274_0 : (if v263 = (0 : Int32) then (1 : Int32) else (0 : Int32)) = ms274_0
    refine Ow.istore X128 hx (pc' := 276) (hb hby at_274) (l' := #[.val (.int xlaw_1), .val (.int xlaw_2), .val (.int xlaw_3), .val (.int xlaw_4), .val (.int v5), .val (.int ms22_0), .val (.int ms46_0), .val (.int ms82_0), .val (.int (1 : Int32)), .val (.int (1 : Int32)), .val (.int (1 : Int32)), .val (.int (3 : Int32)), .val (.ref b19_c96), .val (.ref o126), .val (.int ms274_0)]) rfl ?_
    refine Ow.iload X128 hx (pc' := 278) (hb hby at_276) rfl ?_
    refine Ow.ifNo X128 hx (pc' := 281) (hb hby at_278) ((if0 _ _).trans (feq (by decide : ¬ ((1 : Int32) = (0 : Int32)))).1) ?_
    refine Ow.iload X128 hx (pc' := 283) (hb hby at_281) rfl ?_
    refine Ow.iload X128 hx (pc' := 285) (hb hby at_283) rfl ?_
    refine Ow.iload X128 hx (pc' := 287) (hb hby at_285) rfl ?_
    refine Ow.iload X128 hx (pc' := 289) (hb hby at_287) rfl ?_
    refine Ow.iload X128 hx (pc' := 291) (hb hby at_289) rfl ?_
    refine Ow.iload X128 hx (pc' := 293) (hb hby at_291) rfl ?_
    obtain ⟨_, _, ⟨T129, L129, k129, n129⟩, -, X129, ⟨Lc129, hQ129, l129, y129, z129⟩, st129⟩ := Jvm.LawKit.callS X128 hx (y := mt14) hown (mvT hZ (kw99 hw)) (mvT hZ (kw100 hw)) (mvT hZ (kw79 hw)) (mvT hZ (kw101 hw)) (by decide) (backOf (W := 1) (rm_sa l Z a0 hw [] ms22_0 v5 ms22_0 ms46_0 ms82_0 T127.heap n0 Z127 ) hZ (kw101 hw) (kw79 hw) (by decide) (by decide)) (g := (mkF m 293 #[.val (.int xlaw_1), .val (.int xlaw_2), .val (.int xlaw_3), .val (.int xlaw_4), .val (.int v5), .val (.int ms22_0), .val (.int ms46_0), .val (.int ms82_0), .val (.int (1 : Int32)), .val (.int (1 : Int32)), .val (.int (1 : Int32)), .val (.int (3 : Int32)), .val (.ref b19_c96), .val (.ref o126), .val (.int ms274_0)] [(.int ms82_0), (.int ms46_0), (.int ms22_0), (.int v5), (.int ms22_0), (.int ms274_0)])) rfl (by rw [hml]; rfl) (argsL := [(.int ms22_0), (.int v5), (.int ms22_0), (.int ms46_0), (.int ms82_0)]) (rest := [(.int ms274_0)]) (lenOf pd12 rfl) rfl (by show 2 * 0 + _ ≤ _; exact Nat.le_of_eq rfl) (hb hby at_293) (fun _ _ => ⟨rfl, e128, (by decide : 5 + 0 ≤ _), (by decide : 1031 + 0 ≤ _)⟩)
    dsimp only [Pt.U, Pt.locs, Pt.cells, Pt.slots] at X129 l129 y129 z129 st129 hQ129
    subst l129 y129 z129
    obtain ⟨rfl, Nq129, e129⟩ := hQ129
    have N129 := Fr.app N128 Nq129
    refine Wq.step st129 ?_
    show Wq _ _ _ _ _ (T129.setTop (mkF m 296 #[.val (.int xlaw_1), .val (.int xlaw_2), .val (.int xlaw_3), .val (.int xlaw_4), .val (.int v5), .val (.int ms22_0), .val (.int ms46_0), .val (.int ms82_0), .val (.int (1 : Int32)), .val (.int (1 : Int32)), .val (.int (1 : Int32)), .val (.int (3 : Int32)), .val (.ref b19_c96), .val (.ref o126), .val (.int ms274_0)] [(.int (f_sa ms22_0 v5 ms22_0 ms46_0 ms82_0)), (.int ms274_0)]))
    generalize hv293 : (f_sa ms22_0 v5 ms22_0 ms46_0 ms82_0) = v293
    show Wq _ _ _ _ _ (T129.setTop (mkF m 296 #[.val (.int xlaw_1), .val (.int xlaw_2), .val (.int xlaw_3), .val (.int xlaw_4), .val (.int v5), .val (.int ms22_0), .val (.int ms46_0), .val (.int ms82_0), .val (.int (1 : Int32)), .val (.int (1 : Int32)), .val (.int (1 : Int32)), .val (.int (3 : Int32)), .val (.ref b19_c96), .val (.ref o126), .val (.int ms274_0)] [(.int v293), (.int ms274_0)]))
    refine Ow.iadd X129 hx (pc' := 297) (hb hby at_296) (z := (ms274_0 + v293)) rfl ?_
    refine Ow.istore X129 hx (pc' := 299) (hb hby at_297) (l' := #[.val (.int xlaw_1), .val (.int xlaw_2), .val (.int xlaw_3), .val (.int xlaw_4), .val (.int v5), .val (.int ms22_0), .val (.int ms46_0), .val (.int ms82_0), .val (.int (1 : Int32)), .val (.int (1 : Int32)), .val (.int (1 : Int32)), .val (.int (3 : Int32)), .val (.ref b19_c96), .val (.ref o126), .val (.int (ms274_0 + v293))]) rfl ?_
    generalize hv297 : (ms274_0 + v293) = v297
    refine Ow.iload X129 hx (pc' := 301) (hb hby at_299) rfl ?_
    refine Ow.ifNo X129 hx (pc' := 304) (hb hby at_301) ((if0 _ _).trans (feq (by decide : ¬ ((1 : Int32) = (0 : Int32)))).1) ?_
    refine Ow.iload X129 hx (pc' := 306) (hb hby at_304) rfl ?_
    refine Ow.iload X129 hx (pc' := 308) (hb hby at_306) rfl ?_
    refine Ow.iload X129 hx (pc' := 310) (hb hby at_308) rfl ?_
    refine Ow.iload X129 hx (pc' := 312) (hb hby at_310) rfl ?_
    refine Ow.iload X129 hx (pc' := 314) (hb hby at_312) rfl ?_
    refine Ow.iload X129 hx (pc' := 316) (hb hby at_314) rfl ?_
    obtain ⟨_, _, ⟨T130, L130, k130, n130⟩, -, X130, ⟨Lc130, hQ130, l130, y130, z130⟩, st130⟩ := Jvm.LawKit.callS X129 hx (y := mt14) hown (mvT hZ (kw99 hw)) (mvT hZ (kw100 hw)) (mvT hZ (kw79 hw)) (mvT hZ (kw101 hw)) (by decide) (backOf (W := 1) (rm_sa l Z a0 hw [] ms46_0 v5 ms22_0 ms46_0 ms82_0 T127.heap n0 Z127 ) hZ (kw101 hw) (kw79 hw) (by decide) (by decide)) (g := (mkF m 316 #[.val (.int xlaw_1), .val (.int xlaw_2), .val (.int xlaw_3), .val (.int xlaw_4), .val (.int v5), .val (.int ms22_0), .val (.int ms46_0), .val (.int ms82_0), .val (.int (1 : Int32)), .val (.int (1 : Int32)), .val (.int (1 : Int32)), .val (.int (3 : Int32)), .val (.ref b19_c96), .val (.ref o126), .val (.int v297)] [(.int ms82_0), (.int ms46_0), (.int ms22_0), (.int v5), (.int ms46_0), (.int v297)])) rfl (by rw [hml]; rfl) (argsL := [(.int ms46_0), (.int v5), (.int ms22_0), (.int ms46_0), (.int ms82_0)]) (rest := [(.int v297)]) (lenOf pd12 rfl) rfl (by show 2 * 0 + _ ≤ _; exact Nat.le_of_eq rfl) (hb hby at_316) (fun _ _ => ⟨rfl, e129, (by decide : 5 + 0 ≤ _), (by decide : 1031 + 0 ≤ _)⟩)
    dsimp only [Pt.U, Pt.locs, Pt.cells, Pt.slots] at X130 l130 y130 z130 st130 hQ130
    subst l130 y130 z130
    obtain ⟨rfl, Nq130, e130⟩ := hQ130
    have N130 := Fr.app N129 Nq130
    refine Wq.step st130 ?_
    show Wq _ _ _ _ _ (T130.setTop (mkF m 319 #[.val (.int xlaw_1), .val (.int xlaw_2), .val (.int xlaw_3), .val (.int xlaw_4), .val (.int v5), .val (.int ms22_0), .val (.int ms46_0), .val (.int ms82_0), .val (.int (1 : Int32)), .val (.int (1 : Int32)), .val (.int (1 : Int32)), .val (.int (3 : Int32)), .val (.ref b19_c96), .val (.ref o126), .val (.int v297)] [(.int (f_sa ms46_0 v5 ms22_0 ms46_0 ms82_0)), (.int v297)]))
    generalize hv316 : (f_sa ms46_0 v5 ms22_0 ms46_0 ms82_0) = v316
    show Wq _ _ _ _ _ (T130.setTop (mkF m 319 #[.val (.int xlaw_1), .val (.int xlaw_2), .val (.int xlaw_3), .val (.int xlaw_4), .val (.int v5), .val (.int ms22_0), .val (.int ms46_0), .val (.int ms82_0), .val (.int (1 : Int32)), .val (.int (1 : Int32)), .val (.int (1 : Int32)), .val (.int (3 : Int32)), .val (.ref b19_c96), .val (.ref o126), .val (.int v297)] [(.int v316), (.int v297)]))
    refine Ow.iadd X130 hx (pc' := 320) (hb hby at_319) (z := (v297 + v316)) rfl ?_
    refine Ow.istore X130 hx (pc' := 322) (hb hby at_320) (l' := #[.val (.int xlaw_1), .val (.int xlaw_2), .val (.int xlaw_3), .val (.int xlaw_4), .val (.int v5), .val (.int ms22_0), .val (.int ms46_0), .val (.int ms82_0), .val (.int (1 : Int32)), .val (.int (1 : Int32)), .val (.int (1 : Int32)), .val (.int (3 : Int32)), .val (.ref b19_c96), .val (.ref o126), .val (.int (v297 + v316))]) rfl ?_
    generalize hv320 : (v297 + v316) = v320
    refine Ow.iload X130 hx (pc' := 324) (hb hby at_322) rfl ?_
    refine Ow.ifNo X130 hx (pc' := 327) (hb hby at_324) ((if0 _ _).trans (feq (by decide : ¬ ((1 : Int32) = (0 : Int32)))).1) ?_
    refine Ow.iload X130 hx (pc' := 329) (hb hby at_327) rfl ?_
    refine Ow.iload X130 hx (pc' := 331) (hb hby at_329) rfl ?_
    refine Ow.iload X130 hx (pc' := 333) (hb hby at_331) rfl ?_
    refine Ow.iload X130 hx (pc' := 335) (hb hby at_333) rfl ?_
    refine Ow.iload X130 hx (pc' := 337) (hb hby at_335) rfl ?_
    refine Ow.iload X130 hx (pc' := 339) (hb hby at_337) rfl ?_
    obtain ⟨_, _, ⟨T131, L131, k131, n131⟩, -, X131, ⟨Lc131, hQ131, l131, y131, z131⟩, st131⟩ := Jvm.LawKit.callS X130 hx (y := mt14) hown (mvT hZ (kw99 hw)) (mvT hZ (kw100 hw)) (mvT hZ (kw79 hw)) (mvT hZ (kw101 hw)) (by decide) (backOf (W := 1) (rm_sa l Z a0 hw [] ms82_0 v5 ms22_0 ms46_0 ms82_0 T127.heap n0 Z127 ) hZ (kw101 hw) (kw79 hw) (by decide) (by decide)) (g := (mkF m 339 #[.val (.int xlaw_1), .val (.int xlaw_2), .val (.int xlaw_3), .val (.int xlaw_4), .val (.int v5), .val (.int ms22_0), .val (.int ms46_0), .val (.int ms82_0), .val (.int (1 : Int32)), .val (.int (1 : Int32)), .val (.int (1 : Int32)), .val (.int (3 : Int32)), .val (.ref b19_c96), .val (.ref o126), .val (.int v320)] [(.int ms82_0), (.int ms46_0), (.int ms22_0), (.int v5), (.int ms82_0), (.int v320)])) rfl (by rw [hml]; rfl) (argsL := [(.int ms82_0), (.int v5), (.int ms22_0), (.int ms46_0), (.int ms82_0)]) (rest := [(.int v320)]) (lenOf pd12 rfl) rfl (by show 2 * 0 + _ ≤ _; exact Nat.le_of_eq rfl) (hb hby at_339) (fun _ _ => ⟨rfl, e130, (by decide : 5 + 0 ≤ _), (by decide : 1031 + 0 ≤ _)⟩)
    dsimp only [Pt.U, Pt.locs, Pt.cells, Pt.slots] at X131 l131 y131 z131 st131 hQ131
    subst l131 y131 z131
    obtain ⟨rfl, Nq131, e131⟩ := hQ131
    have N131 := Fr.app N130 Nq131
    refine Wq.step st131 ?_
    show Wq _ _ _ _ _ (T131.setTop (mkF m 342 #[.val (.int xlaw_1), .val (.int xlaw_2), .val (.int xlaw_3), .val (.int xlaw_4), .val (.int v5), .val (.int ms22_0), .val (.int ms46_0), .val (.int ms82_0), .val (.int (1 : Int32)), .val (.int (1 : Int32)), .val (.int (1 : Int32)), .val (.int (3 : Int32)), .val (.ref b19_c96), .val (.ref o126), .val (.int v320)] [(.int (f_sa ms82_0 v5 ms22_0 ms46_0 ms82_0)), (.int v320)]))
    generalize hv339 : (f_sa ms82_0 v5 ms22_0 ms46_0 ms82_0) = v339
    show Wq _ _ _ _ _ (T131.setTop (mkF m 342 #[.val (.int xlaw_1), .val (.int xlaw_2), .val (.int xlaw_3), .val (.int xlaw_4), .val (.int v5), .val (.int ms22_0), .val (.int ms46_0), .val (.int ms82_0), .val (.int (1 : Int32)), .val (.int (1 : Int32)), .val (.int (1 : Int32)), .val (.int (3 : Int32)), .val (.ref b19_c96), .val (.ref o126), .val (.int v320)] [(.int v339), (.int v320)]))
    refine Ow.iadd X131 hx (pc' := 343) (hb hby at_342) (z := (v320 + v339)) rfl ?_
    refine Ow.istore X131 hx (pc' := 345) (hb hby at_343) (l' := #[.val (.int xlaw_1), .val (.int xlaw_2), .val (.int xlaw_3), .val (.int xlaw_4), .val (.int v5), .val (.int ms22_0), .val (.int ms46_0), .val (.int ms82_0), .val (.int (1 : Int32)), .val (.int (1 : Int32)), .val (.int (1 : Int32)), .val (.int (3 : Int32)), .val (.ref b19_c96), .val (.ref o126), .val (.int (v320 + v339))]) rfl ?_
    generalize hv343 : (v320 + v339) = v343
    refine Ow.aload X131 hx (pc' := 347) (hb hby at_345) rfl rfl ?_
    obtain ⟨cq132, kq132, q132a, q132b, q132c⟩ := isOf hZ e131 A126_t127
    obtain ⟨_, _, ⟨T132, L132, k132, n132⟩, -, X132, ⟨Lc132, hQ132, l132, y132, z132⟩, st132⟩ := X131.virtualBack hx (y := mt18) (z := mt18) hown (mvT hZ (kw81 hw)) (mvT hZ (kw82 hw)) (notFace_of_selects (args := #[]) (mvT hZ (kw84 hw))) (mvT hZ (kw84 hw)) (mvT hZ (kw83 hw)) (by decide) (backOf (W := 0) (rm_q3 l Z a0 hw [] o126 b50_c127 (Int32.ofNat ((own_s3 (own_n ms22_0) (own_n ms46_0) (own_n ms82_0)) 0)) (Int32.ofNat ((own_s3 (own_n ms22_0) (own_n ms46_0) (own_n ms82_0)) 1)) (Int32.ofNat ((own_s3 (own_n ms22_0) (own_n ms46_0) (own_n ms82_0)) 2)) T127.heap n0 Z127 P127_2 P127_1) hZ (kw85 hw) (kw67 hw) (by decide) (by decide)) q132a q132c (g := (mkF m 347 #[.val (.int xlaw_1), .val (.int xlaw_2), .val (.int xlaw_3), .val (.int xlaw_4), .val (.int v5), .val (.int ms22_0), .val (.int ms46_0), .val (.int ms82_0), .val (.int (1 : Int32)), .val (.int (1 : Int32)), .val (.int (1 : Int32)), .val (.int (3 : Int32)), .val (.ref b19_c96), .val (.ref o126), .val (.int v343)] [(.ref o126)])) rfl (by rw [hml]; rfl) (Steps.refl _) (argsL := []) (rest := []) (lenOf pd1 rfl) rfl (by show 2 * 0 + _ ≤ _; exact Nat.le_of_eq rfl) (hb hby at_347) (fun _ _ => ⟨rfl, e131, (by decide : 5 + 0 ≤ _), (by decide : 1031 + 0 ≤ _)⟩)
    dsimp only [Pt.U, Pt.locs, Pt.cells, Pt.slots] at X132 l132 y132 z132 st132 hQ132
    subst l132 y132 z132
    obtain ⟨rfl, Nq132, e132⟩ := hQ132
    have N132 := Fr.app N131 Nq132
    refine Wq.steps st132 ?_
    show Wq _ _ _ _ _ (T132.setTop (mkF m 350 #[.val (.int xlaw_1), .val (.int xlaw_2), .val (.int xlaw_3), .val (.int xlaw_4), .val (.int v5), .val (.int ms22_0), .val (.int ms46_0), .val (.int ms82_0), .val (.int (1 : Int32)), .val (.int (1 : Int32)), .val (.int (1 : Int32)), .val (.int (3 : Int32)), .val (.ref b19_c96), .val (.ref o126), .val (.int v343)] [(.int (f_q3 (Int32.ofNat ((own_s3 (own_n ms22_0) (own_n ms46_0) (own_n ms82_0)) 0)) (Int32.ofNat ((own_s3 (own_n ms22_0) (own_n ms46_0) (own_n ms82_0)) 1)) (Int32.ofNat ((own_s3 (own_n ms22_0) (own_n ms46_0) (own_n ms82_0)) 2))))]))
    generalize hv347 : (f_q3 (Int32.ofNat ((own_s3 (own_n ms22_0) (own_n ms46_0) (own_n ms82_0)) 0)) (Int32.ofNat ((own_s3 (own_n ms22_0) (own_n ms46_0) (own_n ms82_0)) 1)) (Int32.ofNat ((own_s3 (own_n ms22_0) (own_n ms46_0) (own_n ms82_0)) 2))) = v347
    show Wq _ _ _ _ _ (T132.setTop (mkF m 350 #[.val (.int xlaw_1), .val (.int xlaw_2), .val (.int xlaw_3), .val (.int xlaw_4), .val (.int v5), .val (.int ms22_0), .val (.int ms46_0), .val (.int ms82_0), .val (.int (1 : Int32)), .val (.int (1 : Int32)), .val (.int (1 : Int32)), .val (.int (3 : Int32)), .val (.ref b19_c96), .val (.ref o126), .val (.int v343)] [(.int v347)]))
    refine Ow.iload X132 hx (pc' := 352) (hb hby at_350) rfl ?_
    refine Ow.icmpNo X132 hx (pc' := 355) (hb hby at_352) (teq (own_L3 RA RB RC PF hv263 hms274_0 hv293 hv297 hv316 hv320 hv339 hv343 hv347 : v347 = v343)).2 ?_
    refine Ow.iconst X132 hx (pc' := 356) (hb hby at_355) (z := (1 : Int32)) rfl ?_
    refine Ow.goto X132 hx (pc' := 360) (hb hby at_356) (by decide) (by decide) ?_
    exact Wq.ret X132 (BodyLoose.notSynchronized Bd) (rv := some (.int (1 : Int32))) (fun h => by rw [Bd.returns] at h; cases h) (fun _ hr => retN X132 hx (t := .boolean) Bd.returns (by simp) (hb hby at_360) hr) (by decide) (by decide) ⟨rfl, N132⟩
set_option maxRecDepth 65536 in
set_option maxHeartbeats 40000000 in
theorem comes_1 {Post : Tables → Env → Array Value → State → Outcome → State → Prop} (hpost : ∀ tb e args s v u, (limb_1_1.after args s (.returned v) u = true ∧ limb_1_2.after args s (.returned v) u = true ∧ True) → FrameEnd s (.returned v) u (Jvm.fieldLocs frame_1_writes args s ++ Jvm.arrayLocs frame_1_arrays args s ++ Jvm.staticLocs frame_1_statics s) 24 2176 → Post tb e args s (.returned v) u) :
    ArmFor flags0 classFile x code maxLocals ret World_1 tables_1 room_1 Calls_1 rest_1 Pre_1 Post := by
  intro l hfl _ _ p e ha hc hk s m args below hf hA hF happ hP
  obtain ⟨hcalls, hrest, hpre⟩ := hP
  obtain ⟨-, -, -, hnamed, -, -, -, hat⟩ := (Spec.applies_iff hf).mp happ
  obtain ⟨hg, hn⟩ := and_e (Cond.before_iff.mp (show (Jvm.Cond.and given_1 narrow_1).before args s = true from hpre))
  obtain ⟨hg1, hg2⟩ := and_e hg
  obtain ⟨ha0, hb0⟩ := and_e hg2
  obtain ⟨ha1, hb1⟩ := and_e hb0
  obtain ⟨ha2, hb2⟩ := and_e hb1
  obtain ⟨w0, w1, w2, w3, rfl⟩ : ∃ w0 w1 w2 w3 : Value, args = #[w0, w1, w2, w3] := by
    have hs : args.size = 4 := by simpa [Cond.value, given_1] using hg1
    obtain ⟨L⟩ := args
    match L, hs with
    | [w0, w1, w2, w3], _ => exact ⟨w0, w1, w2, w3, rfl⟩
  have hw := fun d (hd : d ∈ tables_1) => atoms_spec (ws := Jvm.Cond.code x code maxLocals ret :: tables_1) hat d (List.mem_cons_of_mem _ hd)
  have hfit : Fit s := fun {y c} hc i hi => by
    obtain ⟨ha, rfl⟩ := Array.getElem?_eq_some_iff.mp hc
    have q := List.all_eq_true.mp ((Array.all_eq_true_iff_forall_mem.mp hF) _ (Array.getElem_mem ha)) i (List.mem_range.mpr hi)
    simpa [Array.getElem?_eq_getElem hi] using q
  obtain ⟨i0, ei0⟩ := is_v ha0
  obtain rfl : w0 = (.int i0) := Option.some.inj ei0
  obtain ⟨i1, ei1⟩ := is_v ha1
  obtain rfl : w1 = (.int i1) := Option.some.inj ei1
  obtain ⟨i2, ei2⟩ := is_v ha2
  obtain rfl : w2 = (.int i2) := Option.some.inj ei2
  obtain ⟨i3, ei3⟩ := is_v hb2
  obtain rfl : w3 = (.int i3) := Option.some.inj ei3
  obtain ⟨n, o, h1, h2, h3, _, L, rfl, ⟨rfl, N⟩, hq⟩ := rm_law l s _ hw tables_1 i0 i1 i2 i3 s.heap s.heap.size (Nat.le_refl _)  p e ha hc hk s m _ below hf ((Spec.applies_iff_loose hf).mp happ).1 ⟨rfl, State.Warmed39.refl s, rfl⟩ trivial
  refine ⟨n, _, h1, h2, h3, hpost _ _ _ _ _ _ ⟨Cond.after_iff.mpr rfl, Cond.after_iff.mpr (eq_i res_at (Term.int_eval (1)) rfl), trivial⟩ ⟨hq.1, hq.2.1, (hq.2.2.sift fun y hy => Or.inr (N y hy)).mono (by decide) (by decide)⟩⟩
theorem main_1_1 : Claimed_1_1 := comes_1 fun _ _ _ _ _ _ h hF => ⟨h.1, hF⟩
theorem main_1_2 : Claimed_1_2 := comes_1 fun _ _ _ _ _ _ h hF => ⟨h.2.1, hF⟩
end Jvm.Pilot.@@N@@
namespace Jvm.Pilot.@@N@@
open Jvm Jvm.ClassFile Sem Op Lib Jvm.Free Jvm.Stand Jvm.Pilot.@@N@@.Jvm.D
/-! MADE BY PROGRAM (witnessworld.py) out of the Statement's table words and the real class files: 23 classes; the members and pool entries that the words name. The judged class is class 1, her method 4. -/
namespace start1
open Jvm.ClassFile
def u (s : String) : CpInfo := .utf8 (stringToUtf16 s)
/-- a pool by its gaps: so many unusable entries, then the entry; so many at the end -/
def gap : Nat → List CpInfo → List CpInfo
  | 0, r => r
  | n + 1, r => .unusable :: gap n r
def poolList (es : List (Nat × CpInfo)) (last : Nat) : List CpInfo := es.foldr (fun e r => gap e.1 (e.2 :: r)) (gap last [])
def pool (es : List (Nat × CpInfo)) (last : Nat) : Array CpInfo := ⟨poolList es last⟩
def fileOf (pool : Array CpInfo) (this : Nat) (attrs : Array Attribute := #[]) (ms : Array MethodInfo := #[]) (fl : Nat := 33) (sup : Nat := 0) (ifs : Array Nat := #[]) (fds : Array FieldInfo := #[]) : ClassFile where
  minorVersion := 0
  majorVersion := 65
  constantPool := pool
  accessFlags := fl
  thisClass := this
  superClass := sup
  interfaces := ifs
  fields := fds
  methods := ms
  attributes := attrs
def plain (name : String) (sup : Option ClassId) : Class where
  name := name
  kind := .ordinary
  loader := none
  accessFlags := 33
  super := sup
  interfaces := #[]
  cf := none
  fields := #[]
  methods := #[]
  instanceTypes := #[]
  staticTypes := #[]
  resolved := #[]
  callSites := []
  init := .initialized
  statics := none
  mirror := none

def pool0 : Array CpInfo := pool [(5, u "<init>"), (0, u "()V"), (1, .class_ 10), (1, u "java/lang/Object")] 113

def k0c0 : Code := { maxStack := 0, maxLocals := 1, code := object_method_1_code, exceptionTable := #[], attributes := #[] }
def k0m0 : Method := { name := "<init>", desc := "()V", sig := { parameters := [], returnType := none }, accessFlags := 1, code := some k0c0 }
/-- java/lang/Object -/
def k0 : Class := { plain "java/lang/Object" none with
  accessFlags := 33
  interfaces := #[]
  cf := some (fileOf pool0 8 #[] #[{ accessFlags := 1, nameIndex := 5, descriptorIndex := 6, attributes := #[] }] 33 0 #[] #[])
  fields := #[]
  methods := #[k0m0]
  instanceTypes := #[]
  staticTypes := #[]
  resolved := Array.replicate 124 none
  statics := none }

def pool1 : Array CpInfo := pool [(2, .class_ 4), (1, u "java/lang/Object"), (0, u "<init>"), (0, u "()V"), (0, .integer 65535), (0, .methodref 9 10), (0, .class_ 11), (0, .nameAndType 12 13), (0, u "com/example/tightbit/tightbit/ComplementRunCountPinLaw"), (0, u "in"), (0, u "(IIIII)Z"), (0, .long 18446744073709551615), (1, .class_ 17), (0, u "com/example/tightbit/tightbit/SparseDocIds$Runs"), (0, .methodref 16 19), (0, .nameAndType 5 20), (0, u "([C)V"), (0, .methodref 16 22), (0, .nameAndType 23 24), (0, u "words"), (0, u "()[J"), (0, .methodref 9 26), (0, .nameAndType 27 28), (0, u "clear"), (0, u "([JI)V"), (0, .class_ 30), (0, u "com/example/tightbit/tightbit/SparseDocIds$Complement"), (2, .integer 65536), (0, .methodref 29 35), (0, .nameAndType 5 28), (0, .methodref 9 37), (0, .nameAndType 38 39), (0, u "startsAfter"), (0, u "(IIIII)I"), (0, .methodref 29 41), (0, .nameAndType 42 43), (0, u "runCount"), (0, u "()I"), (3, u "law"), (0, u "(IIII)Z")] 7

def k1m0 : Method := { name := "<init>", desc := "()V", sig := { parameters := [], returnType := none }, accessFlags := 2, code := none }
def k1c1 : Code := { maxStack := 2, maxLocals := 5, code := method_2_code, exceptionTable := #[], attributes := #[] }
def k1m1 : Method := { name := "in", desc := "(IIIII)Z", sig := { parameters := [.int, .int, .int, .int, .int], returnType := some .boolean }, accessFlags := 10, code := some k1c1 }
def k1c2 : Code := { maxStack := 5, maxLocals := 5, code := method_3_code, exceptionTable := #[], attributes := #[] }
def k1m2 : Method := { name := "startsAfter", desc := "(IIIII)I", sig := { parameters := [.int, .int, .int, .int, .int], returnType := some .int }, accessFlags := 10, code := some k1c2 }
def k1c3 : Code := { maxStack := 8, maxLocals := 2, code := method_4_code, exceptionTable := #[], attributes := #[] }
def k1m3 : Method := { name := "clear", desc := "([JI)V", sig := { parameters := [(.array .long), .int], returnType := none }, accessFlags := 10, code := some k1c3 }
def k1c4 : Code := { maxStack := 6, maxLocals := 15, code := code, exceptionTable := #[], attributes := #[] }
def k1m4 : Method := { name := "law", desc := "(IIII)Z", sig := { parameters := [.int, .int, .int, .int], returnType := some .boolean }, accessFlags := 9, code := some k1c4 }
/-- com/example/tightbit/tightbit/ComplementRunCountPinLaw -/
def k1 : Class := { plain "com/example/tightbit/tightbit/ComplementRunCountPinLaw" (some 0) with
  accessFlags := 49
  interfaces := #[]
  cf := some (fileOf pool1 9 #[] #[{ accessFlags := 2, nameIndex := 5, descriptorIndex := 6, attributes := #[] }, { accessFlags := 10, nameIndex := 12, descriptorIndex := 13, attributes := #[] }, { accessFlags := 10, nameIndex := 38, descriptorIndex := 39, attributes := #[] }, { accessFlags := 10, nameIndex := 27, descriptorIndex := 28, attributes := #[] }, { accessFlags := 9, nameIndex := 47, descriptorIndex := 48, attributes := #[] }] 49 2 #[] #[])
  fields := #[]
  methods := #[k1m0, k1m1, k1m2, k1m3, k1m4]
  instanceTypes := #[]
  staticTypes := #[]
  resolved := Array.replicate 56 none
  statics := none }

def pool2 : Array CpInfo := pool [(1, .class_ 2), (0, u "com/example/tightbit/tightbit/SparseDocIds"), (0, .interfaceMethodref 4 5), (0, .class_ 6), (0, .nameAndType 7 8), (0, u "com/example/tightbit/tightbit/SparseDocIds$WordBlock"), (0, u "word"), (0, u "(I)J"), (0, .interfaceMethodref 4 10), (0, .nameAndType 11 12), (0, u "copyWords"), (0, u "([J)V"), (5, u "words"), (0, u "()[J"), (4, .class_ 25), (0, u "java/lang/Object")] 28

def k2m0 : Method := { name := "word", desc := "(I)J", sig := { parameters := [.int], returnType := some .long }, accessFlags := 1025, code := none }
def k2c1 : Code := { maxStack := 4, maxLocals := 3, code := prog_70_method_5_code, exceptionTable := #[], attributes := #[] }
def k2m1 : Method := { name := "copyWords", desc := "([J)V", sig := { parameters := [(.array .long)], returnType := none }, accessFlags := 1, code := some k2c1 }
def k2c2 : Code := { maxStack := 2, maxLocals := 2, code := prog_70_method_6_code, exceptionTable := #[], attributes := #[] }
def k2m2 : Method := { name := "words", desc := "()[J", sig := { parameters := [], returnType := some (.array .long) }, accessFlags := 1, code := some k2c2 }
/-- com/example/tightbit/tightbit/SparseDocIds$WordBlock -/
def k2 : Class := { plain "com/example/tightbit/tightbit/SparseDocIds$WordBlock" (some 0) with
  accessFlags := 1536
  interfaces := #[]
  cf := some (fileOf pool2 4 #[.nestHost 1] #[{ accessFlags := 1025, nameIndex := 7, descriptorIndex := 8, attributes := #[] }, { accessFlags := 1, nameIndex := 11, descriptorIndex := 12, attributes := #[] }, { accessFlags := 1, nameIndex := 18, descriptorIndex := 19, attributes := #[] }] 1536 24 #[] #[])
  fields := #[]
  methods := #[k2m0, k2m1, k2m2]
  instanceTypes := #[]
  staticTypes := #[]
  resolved := Array.replicate 54 none
  statics := none }

def pool3 : Array CpInfo := pool [(1, .methodref 2 3), (0, .class_ 4), (0, .nameAndType 5 6), (0, u "java/lang/Object"), (0, u "<init>"), (0, u "()V"), (0, .fieldref 8 9), (0, .class_ 10), (0, .nameAndType 11 12), (0, u "com/example/tightbit/tightbit/SparseDocIds$Runs"), (0, u "runs"), (0, u "[C"), (0, .methodref 8 14), (0, .nameAndType 15 16), (0, u "runCount"), (0, u "()I"), (6, .methodref 8 24), (0, .nameAndType 25 26), (0, u "last"), (0, u "(I)I"), (0, .methodref 8 28), (0, .nameAndType 29 26), (0, u "first"), (2, .methodref 33 34), (0, .class_ 35), (0, .nameAndType 36 37), (0, u "com/example/tightbit/tightbit/GallopingSearch"), (0, u "firstLowAtLeast"), (0, u "([CIII)I"), (0, .methodref 39 40), (0, .class_ 41), (0, .nameAndType 42 43), (0, u "java/lang/Math"), (0, u "max"), (0, u "(II)I"), (0, .methodref 39 45), (0, .nameAndType 46 43), (0, u "min"), (0, .long 18446744073709551615), (1, .class_ 50), (0, u "com/example/tightbit/tightbit/SparseDocIds$WordBlock"), (0, u "([C)V"), (7, u "word"), (0, u "(I)J"), (3, .class_ 65), (0, u "com/example/tightbit/tightbit/SparseDocIds")] 4

def k3c0 : Code := { maxStack := 2, maxLocals := 2, code := prog_67_method_1_code, exceptionTable := #[], attributes := #[] }
def k3m0 : Method := { name := "<init>", desc := "([C)V", sig := { parameters := [(.array .char)], returnType := none }, accessFlags := 0, code := some k3c0 }
def k3c1 : Code := { maxStack := 2, maxLocals := 1, code := prog_67_method_3_code, exceptionTable := #[], attributes := #[] }
def k3m1 : Method := { name := "runCount", desc := "()I", sig := { parameters := [], returnType := some .int }, accessFlags := 1, code := some k3c1 }
def k3c2 : Code := { maxStack := 2, maxLocals := 2, code := prog_67_method_4_code, exceptionTable := #[], attributes := #[] }
def k3m2 : Method := { name := "first", desc := "(I)I", sig := { parameters := [.int], returnType := some .int }, accessFlags := 0, code := some k3c2 }
def k3c3 : Code := { maxStack := 3, maxLocals := 2, code := prog_67_method_5_code, exceptionTable := #[], attributes := #[] }
def k3m3 : Method := { name := "last", desc := "(I)I", sig := { parameters := [.int], returnType := some .int }, accessFlags := 0, code := some k3c3 }
def k3c4 : Code := { maxStack := 8, maxLocals := 10, code := prog_67_method_8_code, exceptionTable := #[], attributes := #[] }
def k3m4 : Method := { name := "word", desc := "(I)J", sig := { parameters := [.int], returnType := some .long }, accessFlags := 1, code := some k3c4 }
/-- com/example/tightbit/tightbit/SparseDocIds$Runs -/
def k3 : Class := { plain "com/example/tightbit/tightbit/SparseDocIds$Runs" (some 0) with
  accessFlags := 48
  interfaces := #[2]
  cf := some (fileOf pool3 8 #[.nestHost 64] #[{ accessFlags := 0, nameIndex := 5, descriptorIndex := 51, attributes := #[] }, { accessFlags := 1, nameIndex := 15, descriptorIndex := 16, attributes := #[] }, { accessFlags := 0, nameIndex := 29, descriptorIndex := 26, attributes := #[] }, { accessFlags := 0, nameIndex := 25, descriptorIndex := 26, attributes := #[] }, { accessFlags := 1, nameIndex := 59, descriptorIndex := 60, attributes := #[] }] 48 2 #[49] #[{ accessFlags := 18, nameIndex := 11, descriptorIndex := 12, attributes := #[] }])
  fields := #[{ name := "runs", type := (.array .char), accessFlags := 18, slot := 0, constantValue := 0 }]
  methods := #[k3m0, k3m1, k3m2, k3m3, k3m4]
  instanceTypes := #[(.array .char)]
  staticTypes := #[]
  resolved := Array.replicate 70 none
  statics := none }

def pool4 : Array CpInfo := pool [(2, .class_ 4), (1, u "java/lang/Object"), (0, u "<init>"), (0, u "()V"), (2, .methodref 10 11), (0, .class_ 12), (0, .nameAndType 13 14), (0, u "java/lang/Math"), (0, u "max"), (0, u "(II)I"), (0, .class_ 16), (0, u "com/example/tightbit/tightbit/GallopingSearch"), (3, u "([CIII)I"), (1, u "firstLowAtLeast")] 4

def k4m0 : Method := { name := "<init>", desc := "()V", sig := { parameters := [], returnType := none }, accessFlags := 2, code := none }
def k4c1 : Code := { maxStack := 5, maxLocals := 8, code := prog_27_method_3_code, exceptionTable := #[], attributes := #[] }
def k4m1 : Method := { name := "firstLowAtLeast", desc := "([CIII)I", sig := { parameters := [(.array .char), .int, .int, .int], returnType := some .int }, accessFlags := 8, code := some k4c1 }
/-- com/example/tightbit/tightbit/GallopingSearch -/
def k4 : Class := { plain "com/example/tightbit/tightbit/GallopingSearch" (some 0) with
  accessFlags := 48
  interfaces := #[]
  cf := some (fileOf pool4 15 #[] #[{ accessFlags := 2, nameIndex := 5, descriptorIndex := 6, attributes := #[] }, { accessFlags := 8, nameIndex := 22, descriptorIndex := 20, attributes := #[] }] 48 2 #[] #[])
  fields := #[]
  methods := #[k4m0, k4m1]
  instanceTypes := #[]
  staticTypes := #[]
  resolved := Array.replicate 27 none
  statics := none }

def pool5 : Array CpInfo := pool [(1, .class_ 2), (0, u "java/lang/Math"), (1, .class_ 6), (1, u "java/lang/Object"), (0, u "<init>"), (0, u "()V"), (89, .class_ 100), (1, u "java/lang/Math$RandomNumberGeneratorHolder"), (71, u "negativeZeroFloatBits"), (0, u "J"), (2, u "negativeZeroDoubleBits"), (21, u "max"), (2, u "min"), (43, u "$assertionsDisabled"), (0, u "Z"), (88, u "(II)I"), (2, u "twoToTheDoubleScaleDown"), (0, u "D"), (4, u "twoToTheDoubleScaleUp"), (9, u "E"), (3, u "PI"), (2, u "TAU"), (2, u "DEGREES_TO_RADIANS"), (0, u "RADIANS_TO_DEGREES")] 94

def k5m0 : Method := { name := "<init>", desc := "()V", sig := { parameters := [], returnType := none }, accessFlags := 2, code := none }
def k5c1 : Code := { maxStack := 2, maxLocals := 2, code := jdk_29_method_65_code, exceptionTable := #[], attributes := #[] }
def k5m1 : Method := { name := "max", desc := "(II)I", sig := { parameters := [.int, .int], returnType := some .int }, accessFlags := 9, code := some k5c1 }
def k5c2 : Code := { maxStack := 2, maxLocals := 2, code := jdk_29_method_69_code, exceptionTable := #[], attributes := #[] }
def k5m2 : Method := { name := "min", desc := "(II)I", sig := { parameters := [.int, .int], returnType := some .int }, accessFlags := 9, code := some k5c2 }
/-- java/lang/Math -/
def k5 : Class := { plain "java/lang/Math" (some 0) with
  accessFlags := 49
  interfaces := #[]
  cf := some (fileOf pool5 1 #[.nestMembers #[98]] #[{ accessFlags := 2, nameIndex := 7, descriptorIndex := 8, attributes := #[] }, { accessFlags := 9, nameIndex := 198, descriptorIndex := 335, attributes := #[] }, { accessFlags := 9, nameIndex := 201, descriptorIndex := 335, attributes := #[] }] 49 4 #[] #[{ accessFlags := 25, nameIndex := 354, descriptorIndex := 339, attributes := #[] }, { accessFlags := 25, nameIndex := 358, descriptorIndex := 339, attributes := #[] }, { accessFlags := 25, nameIndex := 361, descriptorIndex := 339, attributes := #[] }, { accessFlags := 26, nameIndex := 364, descriptorIndex := 339, attributes := #[] }, { accessFlags := 26, nameIndex := 365, descriptorIndex := 339, attributes := #[] }, { accessFlags := 26, nameIndex := 172, descriptorIndex := 173, attributes := #[] }, { accessFlags := 26, nameIndex := 176, descriptorIndex := 173, attributes := #[] }, { accessFlags := 8, nameIndex := 344, descriptorIndex := 339, attributes := #[] }, { accessFlags := 8, nameIndex := 338, descriptorIndex := 339, attributes := #[] }, { accessFlags := 4120, nameIndex := 245, descriptorIndex := 246, attributes := #[] }])
  fields := #[{ name := "E", type := .double, accessFlags := 25, slot := 0, constantValue := 0 }, { name := "PI", type := .double, accessFlags := 25, slot := 1, constantValue := 0 }, { name := "TAU", type := .double, accessFlags := 25, slot := 2, constantValue := 0 }, { name := "DEGREES_TO_RADIANS", type := .double, accessFlags := 26, slot := 3, constantValue := 0 }, { name := "RADIANS_TO_DEGREES", type := .double, accessFlags := 26, slot := 4, constantValue := 0 }, { name := "negativeZeroFloatBits", type := .long, accessFlags := 26, slot := 5, constantValue := 0 }, { name := "negativeZeroDoubleBits", type := .long, accessFlags := 26, slot := 6, constantValue := 0 }, { name := "twoToTheDoubleScaleUp", type := .double, accessFlags := 8, slot := 7, constantValue := 0 }, { name := "twoToTheDoubleScaleDown", type := .double, accessFlags := 8, slot := 8, constantValue := 0 }, { name := "$assertionsDisabled", type := .boolean, accessFlags := 4120, slot := 9, constantValue := 0 }]
  methods := #[k5m0, k5m1, k5m2]
  instanceTypes := #[]
  staticTypes := #[.double, .double, .double, .double, .double, .long, .long, .double, .double, .boolean]
  resolved := Array.replicate 460 none
  statics := none }

def pool6 : Array CpInfo := pool [(1, .class_ 2), (0, u "com/example/tightbit/tightbit/SparseDocIds"), (0, .methodref 4 5), (0, .class_ 6), (0, .nameAndType 7 8), (0, u "java/lang/Object"), (0, u "<init>"), (0, u "()V"), (0, .integer 65536), (0, .fieldref 11 12), (0, .class_ 13), (0, .nameAndType 14 15), (0, u "com/example/tightbit/tightbit/SparseDocIds$Complement"), (0, u "missing"), (0, u "[C"), (0, .long 18446744073709551615), (1, .methodref 19 20), (0, .class_ 21), (0, .nameAndType 22 23), (0, u "java/lang/Long"), (0, u "numberOfTrailingZeros"), (0, u "(J)I"), (6, .integer 65535), (12, .class_ 44), (0, u "com/example/tightbit/tightbit/SparseDocIds$WordBlock"), (0, u "([JI)V"), (9, u "()I"), (0, u "runCount")] 12

def k6c0 : Code := { maxStack := 6, maxLocals := 7, code := prog_66_method_1_code, exceptionTable := #[], attributes := #[] }
def k6m0 : Method := { name := "<init>", desc := "([JI)V", sig := { parameters := [(.array .long), .int], returnType := none }, accessFlags := 0, code := some k6c0 }
def k6c1 : Code := { maxStack := 4, maxLocals := 3, code := prog_66_method_5_code, exceptionTable := #[], attributes := #[] }
def k6m1 : Method := { name := "runCount", desc := "()I", sig := { parameters := [], returnType := some .int }, accessFlags := 1, code := some k6c1 }
/-- com/example/tightbit/tightbit/SparseDocIds$Complement -/
def k6 : Class := { plain "com/example/tightbit/tightbit/SparseDocIds$Complement" (some 0) with
  accessFlags := 48
  interfaces := #[2]
  cf := some (fileOf pool6 11 #[.nestHost 1] #[{ accessFlags := 0, nameIndex := 7, descriptorIndex := 45, attributes := #[] }, { accessFlags := 1, nameIndex := 56, descriptorIndex := 55, attributes := #[] }] 48 4 #[43] #[{ accessFlags := 18, nameIndex := 14, descriptorIndex := 15, attributes := #[] }])
  fields := #[{ name := "missing", type := (.array .char), accessFlags := 18, slot := 0, constantValue := 0 }]
  methods := #[k6m0, k6m1]
  instanceTypes := #[(.array .char)]
  staticTypes := #[]
  resolved := Array.replicate 69 none
  statics := none }

def pool7 : Array CpInfo := pool [(1, .class_ 2), (0, u "java/io/Serializable"), (0, .class_ 4), (0, u "java/lang/Object")] 2

/-- java/io/Serializable -/
def k7 : Class := { plain "java/io/Serializable" (some 0) with
  accessFlags := 1537
  interfaces := #[]
  cf := some (fileOf pool7 1 #[] #[] 1537 3 #[] #[])
  fields := #[]
  methods := #[]
  instanceTypes := #[]
  staticTypes := #[]
  resolved := Array.replicate 7 none
  statics := none }

def pool8 : Array CpInfo := pool [(2, .class_ 4), (1, u "java/lang/Object"), (0, u "<init>"), (0, u "()V"), (1, .class_ 10), (1, u "java/lang/Number"), (2, .class_ 14), (0, u "java/io/Serializable"), (0, u "serialVersionUID"), (0, u "J")] 20

def k8m0 : Method := { name := "<init>", desc := "()V", sig := { parameters := [], returnType := none }, accessFlags := 1, code := none }
/-- java/lang/Number -/
def k8 : Class := { plain "java/lang/Number" (some 0) with
  accessFlags := 1057
  interfaces := #[7]
  cf := some (fileOf pool8 8 #[] #[{ accessFlags := 1, nameIndex := 5, descriptorIndex := 6, attributes := #[] }] 1057 2 #[13] #[{ accessFlags := 26, nameIndex := 15, descriptorIndex := 16, attributes := #[] }])
  fields := #[{ name := "serialVersionUID", type := .long, accessFlags := 26, slot := 0, constantValue := 0 }]
  methods := #[k8m0]
  instanceTypes := #[]
  staticTypes := #[.long]
  resolved := Array.replicate 37 none
  statics := none }

def pool9 : Array CpInfo := pool [(1, .class_ 2), (0, u "java/lang/Comparable"), (0, .class_ 4), (0, u "java/lang/Object")] 7

/-- java/lang/Comparable -/
def k9 : Class := { plain "java/lang/Comparable" (some 0) with
  accessFlags := 1537
  interfaces := #[]
  cf := some (fileOf pool9 1 #[] #[] 1537 3 #[] #[])
  fields := #[]
  methods := #[]
  instanceTypes := #[]
  staticTypes := #[]
  resolved := Array.replicate 12 none
  statics := none }

def pool10 : Array CpInfo := pool [(1, .class_ 2), (0, u "java/lang/constant/Constable"), (0, .class_ 4), (0, u "java/lang/Object")] 6

/-- java/lang/constant/Constable -/
def k10 : Class := { plain "java/lang/constant/Constable" (some 0) with
  accessFlags := 1537
  interfaces := #[]
  cf := some (fileOf pool10 1 #[] #[] 1537 3 #[] #[])
  fields := #[]
  methods := #[]
  instanceTypes := #[]
  staticTypes := #[]
  resolved := Array.replicate 11 none
  statics := none }

def pool11 : Array CpInfo := pool [(1, .class_ 2), (0, u "java/lang/constant/ConstantDesc"), (0, .class_ 4), (0, u "java/lang/Object")] 32

/-- java/lang/constant/ConstantDesc -/
def k11 : Class := { plain "java/lang/constant/ConstantDesc" (some 0) with
  accessFlags := 1537
  interfaces := #[]
  cf := some (fileOf pool11 1 #[] #[] 1537 3 #[] #[])
  fields := #[]
  methods := #[]
  instanceTypes := #[]
  staticTypes := #[]
  resolved := Array.replicate 37 none
  statics := none }

def pool12 : Array CpInfo := pool [(1, .class_ 2), (0, u "java/lang/Long"), (15, .class_ 20), (1, u "java/lang/Integer"), (80, u "(J)I"), (133, .class_ 237), (1, u "java/lang/Long$LongCache"), (33, .class_ 272), (0, u "java/lang/Number"), (2, u "value"), (0, u "J"), (33, u "(I)I"), (0, .methodref 18 312), (0, .nameAndType 313 310), (0, u "numberOfTrailingZeros"), (47, u "TYPE"), (0, u "Ljava/lang/Class;"), (0, .class_ 364), (0, u "java/lang/Comparable"), (0, .class_ 366), (0, u "java/lang/constant/Constable"), (0, .class_ 368), (0, u "java/lang/constant/ConstantDesc"), (0, u "MIN_VALUE"), (1, u "MAX_VALUE"), (4, u "SIZE"), (0, u "I"), (1, u "BYTES"), (1, u "serialVersionUID")] 142

def k12c0 : Code := { maxStack := 4, maxLocals := 3, code := jdk_35_method_49_code, exceptionTable := #[], attributes := #[] }
def k12m0 : Method := { name := "numberOfTrailingZeros", desc := "(J)I", sig := { parameters := [.long], returnType := some .int }, accessFlags := 9, code := some k12c0 }
/-- java/lang/Long -/
def k12 : Class := { plain "java/lang/Long" (some 8) with
  accessFlags := 49
  interfaces := #[9, 10, 11]
  cf := some (fileOf pool12 1 #[.nestMembers #[235]] #[{ accessFlags := 9, nameIndex := 313, descriptorIndex := 101, attributes := #[] }] 49 271 #[363, 365, 367] #[{ accessFlags := 25, nameIndex := 369, descriptorIndex := 276, attributes := #[] }, { accessFlags := 25, nameIndex := 371, descriptorIndex := 276, attributes := #[] }, { accessFlags := 25, nameIndex := 361, descriptorIndex := 362, attributes := #[] }, { accessFlags := 18, nameIndex := 275, descriptorIndex := 276, attributes := #[] }, { accessFlags := 25, nameIndex := 376, descriptorIndex := 377, attributes := #[] }, { accessFlags := 25, nameIndex := 379, descriptorIndex := 377, attributes := #[] }, { accessFlags := 26, nameIndex := 381, descriptorIndex := 276, attributes := #[] }])
  fields := #[{ name := "MIN_VALUE", type := .long, accessFlags := 25, slot := 0, constantValue := 0 }, { name := "MAX_VALUE", type := .long, accessFlags := 25, slot := 1, constantValue := 0 }, { name := "TYPE", type := (.object "java/lang/Class"), accessFlags := 25, slot := 2, constantValue := 0 }, { name := "value", type := .long, accessFlags := 18, slot := 0, constantValue := 0 }, { name := "SIZE", type := .int, accessFlags := 25, slot := 3, constantValue := 0 }, { name := "BYTES", type := .int, accessFlags := 25, slot := 4, constantValue := 0 }, { name := "serialVersionUID", type := .long, accessFlags := 26, slot := 5, constantValue := 0 }]
  methods := #[k12m0]
  instanceTypes := #[.long]
  staticTypes := #[.long, .long, (.object "java/lang/Class"), .int, .int, .long]
  resolved := Array.replicate 524 none
  statics := none }

def pool13 : Array CpInfo := pool [(1, .class_ 2), (0, u "java/lang/Integer"), (16, u "digits"), (0, u "[C"), (33, u "(I)I"), (30, u "DigitOnes"), (0, u "[B"), (2, u "DigitTens"), (99, .class_ 190), (0, u "java/lang/Integer$IntegerCache"), (3, u "I"), (8, .class_ 204), (0, u "java/lang/Number"), (2, u "value"), (56, .integer 65536), (37, u "TYPE"), (0, u "Ljava/lang/Class;"), (0, .class_ 305), (0, u "java/lang/Comparable"), (0, .class_ 307), (0, u "java/lang/constant/Constable"), (0, .class_ 309), (0, u "java/lang/constant/ConstantDesc"), (0, u "MIN_VALUE"), (1, u "MAX_VALUE"), (3, u "SIZE"), (1, u "BYTES"), (1, u "serialVersionUID"), (0, u "J"), (84, u "numberOfTrailingZeros")] 46

def k13c0 : Code := { maxStack := 3, maxLocals := 2, code := jdk_33_method_48_code, exceptionTable := #[], attributes := #[] }
def k13m0 : Method := { name := "numberOfTrailingZeros", desc := "(I)I", sig := { parameters := [.int], returnType := some .int }, accessFlags := 9, code := some k13c0 }
/-- java/lang/Integer -/
def k13 : Class := { plain "java/lang/Integer" (some 8) with
  accessFlags := 49
  interfaces := #[9, 10, 11]
  cf := some (fileOf pool13 1 #[.nestMembers #[189]] #[{ accessFlags := 9, nameIndex := 406, descriptorIndex := 54, attributes := #[] }] 49 203 #[304, 306, 308] #[{ accessFlags := 25, nameIndex := 310, descriptorIndex := 194, attributes := #[] }, { accessFlags := 25, nameIndex := 312, descriptorIndex := 194, attributes := #[] }, { accessFlags := 25, nameIndex := 302, descriptorIndex := 303, attributes := #[] }, { accessFlags := 24, nameIndex := 19, descriptorIndex := 20, attributes := #[] }, { accessFlags := 24, nameIndex := 89, descriptorIndex := 86, attributes := #[] }, { accessFlags := 24, nameIndex := 85, descriptorIndex := 86, attributes := #[] }, { accessFlags := 18, nameIndex := 207, descriptorIndex := 194, attributes := #[] }, { accessFlags := 25, nameIndex := 316, descriptorIndex := 194, attributes := #[] }, { accessFlags := 25, nameIndex := 318, descriptorIndex := 194, attributes := #[] }, { accessFlags := 26, nameIndex := 320, descriptorIndex := 321, attributes := #[] }])
  fields := #[{ name := "MIN_VALUE", type := .int, accessFlags := 25, slot := 0, constantValue := 0 }, { name := "MAX_VALUE", type := .int, accessFlags := 25, slot := 1, constantValue := 0 }, { name := "TYPE", type := (.object "java/lang/Class"), accessFlags := 25, slot := 2, constantValue := 0 }, { name := "digits", type := (.array .char), accessFlags := 24, slot := 3, constantValue := 0 }, { name := "DigitTens", type := (.array .byte), accessFlags := 24, slot := 4, constantValue := 0 }, { name := "DigitOnes", type := (.array .byte), accessFlags := 24, slot := 5, constantValue := 0 }, { name := "value", type := .int, accessFlags := 18, slot := 0, constantValue := 0 }, { name := "SIZE", type := .int, accessFlags := 25, slot := 6, constantValue := 0 }, { name := "BYTES", type := .int, accessFlags := 25, slot := 7, constantValue := 0 }, { name := "serialVersionUID", type := .long, accessFlags := 26, slot := 8, constantValue := 0 }]
  methods := #[k13m0]
  instanceTypes := #[.int]
  staticTypes := #[.int, .int, (.object "java/lang/Class"), (.array .char), (.array .byte), (.array .byte), .int, .int, .long]
  resolved := Array.replicate 453 none
  statics := none }

def pool14 : Array CpInfo := pool [(1, u "java/lang/Cloneable"), (0, .class_ 1), (0, u "java/lang/Object"), (0, .class_ 3)] 3

/-- java/lang/Cloneable -/
def k14 : Class := { plain "java/lang/Cloneable" (some 0) with
  accessFlags := 1537
  interfaces := #[]
  cf := some (fileOf pool14 2 #[] #[] 1537 4 #[] #[])
  fields := #[]
  methods := #[]
  instanceTypes := #[]
  staticTypes := #[]
  resolved := Array.replicate 8 none
  statics := none }

/-- the primitive byte -/
def k15 : Class := { plain "byte" none with kind := .primitive 'B', accessFlags := 0x411 }
/-- [B -/
def k16 : Class := { plain "[B" (some 0) with kind := .array 15 .byte, interfaces := #[14, 7], accessFlags := 1041 }

/-- the primitive char -/
def k17 : Class := { plain "char" none with kind := .primitive 'C', accessFlags := 0x411 }
/-- [C -/
def k18 : Class := { plain "[C" (some 0) with kind := .array 17 .char, interfaces := #[14, 7], accessFlags := 1041 }

/-- the primitive int -/
def k19 : Class := { plain "int" none with kind := .primitive 'I', accessFlags := 0x411 }
/-- [I -/
def k20 : Class := { plain "[I" (some 0) with kind := .array 19 .int, interfaces := #[14, 7], accessFlags := 1041 }

/-- the primitive long -/
def k21 : Class := { plain "long" none with kind := .primitive 'J', accessFlags := 0x411 }
/-- [J -/
def k22 : Class := { plain "[J" (some 0) with kind := .array 21 .long, interfaces := #[14, 7], accessFlags := 1041 }

def heap : Heap := #[]
def classes : Array Class := #[k0, k1, k2, k3, k4, k5, k6, k7, k8, k9, k10, k11, k12, k13, k14, k15, k16, k17, k18, k19, k20, k21, k22]
def interned : List (Array UInt16 × Addr) := []
def slotsUsed : Nat := 0
def theMethod : MethodId := ⟨1, 4⟩
def args0 : Array Value := #[.int 5, .int 7, .int 9, .int 12]
def aboutOver (below : List Frame) : State where
  vm := { classes := classes, interned := interned.toArray }
  heap := heap
  slotsUsed := slotsUsed
  threads := #[{ frames := .invoking theMethod args0 :: below }]
def below0 : List Frame := [.native { method := ⟨0, 0⟩, args := #[] }]
def about1 : State := aboutOver below0
def p0 : Program := .bare "" "" ""
def e0 : Env := launch0.env 0 0 0
theorem w_frames : about1.frames = Frame.invoking theMethod args0 :: below0 := rfl
set_option maxRecDepth 65536 in
theorem w_args : argsFit about1.vm theMethod args0 = true := by decide +kernel
set_option maxRecDepth 65536 in
theorem w_heap : heapFits about1 = true := by decide +kernel
set_option maxRecDepth 65536 in
theorem w_runnable : about1.curStatus? = some .runnable := by decide +kernel
set_option maxRecDepth 65536 in
theorem w_alone : about1.alone = true := by decide +kernel
set_option maxRecDepth 65536 in
theorem w_named : about1.methodNamed? x = some theMethod := by decide +kernel
set_option maxRecDepth 65536 in
theorem w_hears : about1.hears theMethod below0 = true := by decide +kernel
set_option maxRecDepth 65536 in
theorem w_ripe : about1.ripe theMethod args0 below0 = true := by decide +kernel
theorem w_running : about1.status = .running := rfl
set_option maxRecDepth 65536 in
theorem w_room : about1.hasRoom e0.platform room_1 = true :=
  launch0.hasRoom_least _ room_1 (by decide +kernel) (by decide +kernel) (by decide +kernel) (by decide +kernel) (by decide +kernel) (by decide +kernel)
theorem allAtoms_all (ts : List Jvm.Cond) (a : Array Jvm.Value) (st : Jvm.State) : (allAtoms ts).before a st = ts.all (fun c => c.before a st) := by
  induction ts with
  | nil => rfl
  | cons c t ih =>
    show (Jvm.Cond.and c (allAtoms t)).before a st = _
    rw [Jvm.Cond.before_and, ih, List.all_cons]
def words1 : List Jvm.Cond := Jvm.Cond.code x code maxLocals ret :: tables_1
/-- a 'code' word, met by the world's own term for the bytes: nothing is compared byte by byte -/
theorem code_word {y : MethodName} {bytes : ByteArray} {mx : Nat} {rt : Option FieldType} {a : Array Value} {s : State} {m : MethodId} {meth : Method} {c : Code} (h1 : s.methodNamed? y = some m) (h2 : s.vm.method? m = some meth) (h3 : meth.code = some c) (h4 : c.code = bytes)
    (h5 : (c.maxLocals == mx && c.exceptionTable.isEmpty && decide (c.maxStack ≤ mostOperands) && decide (meth.sig.returnType = rt) && !meth.locks && decide (parseMethodDescriptor y.desc = some meth.sig)) = true) : (Jvm.Cond.code y bytes mx rt).before a s = true := by
  simp only [Bool.and_eq_true, beq_iff_eq, Bool.not_eq_true', decide_eq_true_eq] at h5
  obtain ⟨⟨⟨⟨⟨g1, g2⟩, g3⟩, g4⟩, g5⟩, g6⟩ := h5
  simp [Cond.before, Cond.holds, Cond.value, h1, h2, h3, h4, g1, g2, g3, g4, g5, g6]
def isCode : Jvm.Cond → Bool
  | .code _ _ _ _ => true
  | _ => false
theorem all_split {L : List Jvm.Cond} {P : Jvm.Cond → Bool} (h1 : L.all (fun c => isCode c || P c) = true) (h2 : ∀ c ∈ L.filter isCode, P c = true) : L.all P = true := by
  refine List.all_eq_true.mpr fun c hc => ?_
  have h := List.all_eq_true.mp h1 c hc
  rcases Bool.eq_false_or_eq_true (isCode c) with hi | hi
  · exact h2 c (List.mem_filter.mpr ⟨hc, hi⟩)
  · simpa [hi] using h
set_option maxRecDepth 65536 in
theorem w_c0 : (Jvm.Cond.code x code maxLocals ret).before args0 about1 = true := code_word (m := ⟨1, 4⟩) (meth := k1m4) (c := k1c4) (by decide +kernel) rfl rfl rfl (by decide +kernel)
set_option maxRecDepth 65536 in
theorem w_c1 : (Jvm.Cond.code ({ cls := "com/example/tightbit/tightbit/SparseDocIds$Runs", name := "<init>", desc := "([C)V" } : Jvm.MethodName) prog_67_method_1_code (2 : Nat) (Option.none : Option Jvm.ClassFile.FieldType)).before args0 about1 = true := code_word (m := ⟨3, 0⟩) (meth := k3m0) (c := k3c0) (by decide +kernel) rfl rfl rfl (by decide +kernel)
set_option maxRecDepth 65536 in
theorem w_c2 : (Jvm.Cond.code ({ cls := "java/lang/Object", name := "<init>", desc := "()V" } : Jvm.MethodName) object_method_1_code (1 : Nat) (Option.none : Option Jvm.ClassFile.FieldType)).before args0 about1 = true := code_word (m := ⟨0, 0⟩) (meth := k0m0) (c := k0c0) (by decide +kernel) rfl rfl rfl (by decide +kernel)
set_option maxRecDepth 65536 in
theorem w_c3 : (Jvm.Cond.code ({ cls := "com/example/tightbit/tightbit/SparseDocIds$WordBlock", name := "words", desc := "()[J" } : Jvm.MethodName) prog_70_method_6_code (2 : Nat) (Option.some (Jvm.ClassFile.FieldType.array Jvm.ClassFile.FieldType.long))).before args0 about1 = true := code_word (m := ⟨2, 2⟩) (meth := k2m2) (c := k2c2) (by decide +kernel) rfl rfl rfl (by decide +kernel)
set_option maxRecDepth 65536 in
theorem w_c4 : (Jvm.Cond.code ({ cls := "com/example/tightbit/tightbit/SparseDocIds$WordBlock", name := "copyWords", desc := "([J)V" } : Jvm.MethodName) prog_70_method_5_code (3 : Nat) (Option.none : Option Jvm.ClassFile.FieldType)).before args0 about1 = true := code_word (m := ⟨2, 1⟩) (meth := k2m1) (c := k2c1) (by decide +kernel) rfl rfl rfl (by decide +kernel)
set_option maxRecDepth 65536 in
theorem w_c5 : (Jvm.Cond.code ({ cls := "com/example/tightbit/tightbit/SparseDocIds$Runs", name := "word", desc := "(I)J" } : Jvm.MethodName) prog_67_method_8_code (10 : Nat) (Option.some Jvm.ClassFile.FieldType.long)).before args0 about1 = true := code_word (m := ⟨3, 4⟩) (meth := k3m4) (c := k3c4) (by decide +kernel) rfl rfl rfl (by decide +kernel)
set_option maxRecDepth 65536 in
theorem w_c6 : (Jvm.Cond.code ({ cls := "com/example/tightbit/tightbit/SparseDocIds$Runs", name := "runCount", desc := "()I" } : Jvm.MethodName) prog_67_method_3_code (1 : Nat) (Option.some Jvm.ClassFile.FieldType.int)).before args0 about1 = true := code_word (m := ⟨3, 1⟩) (meth := k3m1) (c := k3c1) (by decide +kernel) rfl rfl rfl (by decide +kernel)
set_option maxRecDepth 65536 in
theorem w_c7 : (Jvm.Cond.code ({ cls := "com/example/tightbit/tightbit/GallopingSearch", name := "firstLowAtLeast", desc := "([CIII)I" } : Jvm.MethodName) prog_27_method_3_code (8 : Nat) (Option.some Jvm.ClassFile.FieldType.int)).before args0 about1 = true := code_word (m := ⟨4, 1⟩) (meth := k4m1) (c := k4c1) (by decide +kernel) rfl rfl rfl (by decide +kernel)
set_option maxRecDepth 65536 in
theorem w_c8 : (Jvm.Cond.code ({ cls := "com/example/tightbit/tightbit/SparseDocIds$Runs", name := "first", desc := "(I)I" } : Jvm.MethodName) prog_67_method_4_code (2 : Nat) (Option.some Jvm.ClassFile.FieldType.int)).before args0 about1 = true := code_word (m := ⟨3, 2⟩) (meth := k3m2) (c := k3c2) (by decide +kernel) rfl rfl rfl (by decide +kernel)
set_option maxRecDepth 65536 in
theorem w_c9 : (Jvm.Cond.code ({ cls := "java/lang/Math", name := "max", desc := "(II)I" } : Jvm.MethodName) jdk_29_method_65_code (2 : Nat) (Option.some Jvm.ClassFile.FieldType.int)).before args0 about1 = true := code_word (m := ⟨5, 1⟩) (meth := k5m1) (c := k5c1) (by decide +kernel) rfl rfl rfl (by decide +kernel)
set_option maxRecDepth 65536 in
theorem w_c10 : (Jvm.Cond.code ({ cls := "com/example/tightbit/tightbit/SparseDocIds$Runs", name := "last", desc := "(I)I" } : Jvm.MethodName) prog_67_method_5_code (2 : Nat) (Option.some Jvm.ClassFile.FieldType.int)).before args0 about1 = true := code_word (m := ⟨3, 3⟩) (meth := k3m3) (c := k3c3) (by decide +kernel) rfl rfl rfl (by decide +kernel)
set_option maxRecDepth 65536 in
theorem w_c11 : (Jvm.Cond.code ({ cls := "java/lang/Math", name := "min", desc := "(II)I" } : Jvm.MethodName) jdk_29_method_69_code (2 : Nat) (Option.some Jvm.ClassFile.FieldType.int)).before args0 about1 = true := code_word (m := ⟨5, 2⟩) (meth := k5m2) (c := k5c2) (by decide +kernel) rfl rfl rfl (by decide +kernel)
set_option maxRecDepth 65536 in
theorem w_c12 : (Jvm.Cond.code ({ cls := "com/example/tightbit/tightbit/SparseDocIds$Complement", name := "<init>", desc := "([JI)V" } : Jvm.MethodName) prog_66_method_1_code (7 : Nat) (Option.none : Option Jvm.ClassFile.FieldType)).before args0 about1 = true := code_word (m := ⟨6, 0⟩) (meth := k6m0) (c := k6c0) (by decide +kernel) rfl rfl rfl (by decide +kernel)
set_option maxRecDepth 65536 in
theorem w_c13 : (Jvm.Cond.code ({ cls := "com/example/tightbit/tightbit/ComplementRunCountPinLaw", name := "in", desc := "(IIIII)Z" } : Jvm.MethodName) method_2_code (5 : Nat) (Option.some Jvm.ClassFile.FieldType.boolean)).before args0 about1 = true := code_word (m := ⟨1, 1⟩) (meth := k1m1) (c := k1c1) (by decide +kernel) rfl rfl rfl (by decide +kernel)
set_option maxRecDepth 65536 in
theorem w_c14 : (Jvm.Cond.code ({ cls := "com/example/tightbit/tightbit/SparseDocIds$Complement", name := "runCount", desc := "()I" } : Jvm.MethodName) prog_66_method_5_code (3 : Nat) (Option.some Jvm.ClassFile.FieldType.int)).before args0 about1 = true := code_word (m := ⟨6, 1⟩) (meth := k6m1) (c := k6c1) (by decide +kernel) rfl rfl rfl (by decide +kernel)
set_option maxRecDepth 65536 in
theorem w_c15 : (Jvm.Cond.code ({ cls := "com/example/tightbit/tightbit/ComplementRunCountPinLaw", name := "clear", desc := "([JI)V" } : Jvm.MethodName) method_4_code (2 : Nat) (Option.none : Option Jvm.ClassFile.FieldType)).before args0 about1 = true := code_word (m := ⟨1, 3⟩) (meth := k1m3) (c := k1c3) (by decide +kernel) rfl rfl rfl (by decide +kernel)
set_option maxRecDepth 65536 in
theorem w_c16 : (Jvm.Cond.code ({ cls := "java/lang/Long", name := "numberOfTrailingZeros", desc := "(J)I" } : Jvm.MethodName) jdk_35_method_49_code (3 : Nat) (Option.some Jvm.ClassFile.FieldType.int)).before args0 about1 = true := code_word (m := ⟨12, 0⟩) (meth := k12m0) (c := k12c0) (by decide +kernel) rfl rfl rfl (by decide +kernel)
set_option maxRecDepth 65536 in
theorem w_c17 : (Jvm.Cond.code ({ cls := "java/lang/Integer", name := "numberOfTrailingZeros", desc := "(I)I" } : Jvm.MethodName) jdk_33_method_48_code (2 : Nat) (Option.some Jvm.ClassFile.FieldType.int)).before args0 about1 = true := code_word (m := ⟨13, 0⟩) (meth := k13m0) (c := k13c0) (by decide +kernel) rfl rfl rfl (by decide +kernel)
set_option maxRecDepth 65536 in
theorem w_c18 : (Jvm.Cond.code ({ cls := "com/example/tightbit/tightbit/ComplementRunCountPinLaw", name := "startsAfter", desc := "(IIIII)I" } : Jvm.MethodName) method_3_code (5 : Nat) (Option.some Jvm.ClassFile.FieldType.int)).before args0 about1 = true := code_word (m := ⟨1, 2⟩) (meth := k1m2) (c := k1c2) (by decide +kernel) rfl rfl rfl (by decide +kernel)
def codes1 : List Jvm.Cond := [Jvm.Cond.code x code maxLocals ret, Jvm.Cond.code ({ cls := "com/example/tightbit/tightbit/SparseDocIds$Runs", name := "<init>", desc := "([C)V" } : Jvm.MethodName) prog_67_method_1_code (2 : Nat) (Option.none : Option Jvm.ClassFile.FieldType), Jvm.Cond.code ({ cls := "java/lang/Object", name := "<init>", desc := "()V" } : Jvm.MethodName) object_method_1_code (1 : Nat) (Option.none : Option Jvm.ClassFile.FieldType), Jvm.Cond.code ({ cls := "com/example/tightbit/tightbit/SparseDocIds$WordBlock", name := "words", desc := "()[J" } : Jvm.MethodName) prog_70_method_6_code (2 : Nat) (Option.some (Jvm.ClassFile.FieldType.array Jvm.ClassFile.FieldType.long)), Jvm.Cond.code ({ cls := "com/example/tightbit/tightbit/SparseDocIds$WordBlock", name := "copyWords", desc := "([J)V" } : Jvm.MethodName) prog_70_method_5_code (3 : Nat) (Option.none : Option Jvm.ClassFile.FieldType), Jvm.Cond.code ({ cls := "com/example/tightbit/tightbit/SparseDocIds$Runs", name := "word", desc := "(I)J" } : Jvm.MethodName) prog_67_method_8_code (10 : Nat) (Option.some Jvm.ClassFile.FieldType.long), Jvm.Cond.code ({ cls := "com/example/tightbit/tightbit/SparseDocIds$Runs", name := "runCount", desc := "()I" } : Jvm.MethodName) prog_67_method_3_code (1 : Nat) (Option.some Jvm.ClassFile.FieldType.int), Jvm.Cond.code ({ cls := "com/example/tightbit/tightbit/GallopingSearch", name := "firstLowAtLeast", desc := "([CIII)I" } : Jvm.MethodName) prog_27_method_3_code (8 : Nat) (Option.some Jvm.ClassFile.FieldType.int), Jvm.Cond.code ({ cls := "com/example/tightbit/tightbit/SparseDocIds$Runs", name := "first", desc := "(I)I" } : Jvm.MethodName) prog_67_method_4_code (2 : Nat) (Option.some Jvm.ClassFile.FieldType.int), Jvm.Cond.code ({ cls := "java/lang/Math", name := "max", desc := "(II)I" } : Jvm.MethodName) jdk_29_method_65_code (2 : Nat) (Option.some Jvm.ClassFile.FieldType.int), Jvm.Cond.code ({ cls := "com/example/tightbit/tightbit/SparseDocIds$Runs", name := "last", desc := "(I)I" } : Jvm.MethodName) prog_67_method_5_code (2 : Nat) (Option.some Jvm.ClassFile.FieldType.int), Jvm.Cond.code ({ cls := "java/lang/Math", name := "min", desc := "(II)I" } : Jvm.MethodName) jdk_29_method_69_code (2 : Nat) (Option.some Jvm.ClassFile.FieldType.int), Jvm.Cond.code ({ cls := "com/example/tightbit/tightbit/SparseDocIds$Complement", name := "<init>", desc := "([JI)V" } : Jvm.MethodName) prog_66_method_1_code (7 : Nat) (Option.none : Option Jvm.ClassFile.FieldType), Jvm.Cond.code ({ cls := "com/example/tightbit/tightbit/ComplementRunCountPinLaw", name := "in", desc := "(IIIII)Z" } : Jvm.MethodName) method_2_code (5 : Nat) (Option.some Jvm.ClassFile.FieldType.boolean), Jvm.Cond.code ({ cls := "com/example/tightbit/tightbit/SparseDocIds$Complement", name := "runCount", desc := "()I" } : Jvm.MethodName) prog_66_method_5_code (3 : Nat) (Option.some Jvm.ClassFile.FieldType.int), Jvm.Cond.code ({ cls := "com/example/tightbit/tightbit/ComplementRunCountPinLaw", name := "clear", desc := "([JI)V" } : Jvm.MethodName) method_4_code (2 : Nat) (Option.none : Option Jvm.ClassFile.FieldType), Jvm.Cond.code ({ cls := "java/lang/Long", name := "numberOfTrailingZeros", desc := "(J)I" } : Jvm.MethodName) jdk_35_method_49_code (3 : Nat) (Option.some Jvm.ClassFile.FieldType.int), Jvm.Cond.code ({ cls := "java/lang/Integer", name := "numberOfTrailingZeros", desc := "(I)I" } : Jvm.MethodName) jdk_33_method_48_code (2 : Nat) (Option.some Jvm.ClassFile.FieldType.int), Jvm.Cond.code ({ cls := "com/example/tightbit/tightbit/ComplementRunCountPinLaw", name := "startsAfter", desc := "(IIIII)I" } : Jvm.MethodName) method_3_code (5 : Nat) (Option.some Jvm.ClassFile.FieldType.int)]
set_option maxRecDepth 65536 in
theorem codes_eq : words1.filter isCode = codes1 := rfl
theorem w_codes : ∀ c ∈ words1.filter isCode, c.before args0 about1 = true := by
  rw [codes_eq]
  intro c hc
  simp only [codes1, List.mem_cons, List.not_mem_nil, or_false] at hc
  rcases hc with rfl | rfl | rfl | rfl | rfl | rfl | rfl | rfl | rfl | rfl | rfl | rfl | rfl | rfl | rfl | rfl | rfl | rfl | rfl
  · exact w_c0
  · exact w_c1
  · exact w_c2
  · exact w_c3
  · exact w_c4
  · exact w_c5
  · exact w_c6
  · exact w_c7
  · exact w_c8
  · exact w_c9
  · exact w_c10
  · exact w_c11
  · exact w_c12
  · exact w_c13
  · exact w_c14
  · exact w_c15
  · exact w_c16
  · exact w_c17
  · exact w_c18
set_option maxRecDepth 65536 in
theorem w_t1 : (words1.take 24).all (fun c => isCode c || c.before args0 about1) = true := by decide +kernel
set_option maxRecDepth 65536 in
theorem w_t2 : ((words1.drop 24).take 24).all (fun c => isCode c || c.before args0 about1) = true := by decide +kernel
set_option maxRecDepth 65536 in
theorem w_t3 : (((words1.drop 24).drop 24).take 24).all (fun c => isCode c || c.before args0 about1) = true := by decide +kernel
set_option maxRecDepth 65536 in
theorem w_t4 : ((((words1.drop 24).drop 24).drop 24).take 24).all (fun c => isCode c || c.before args0 about1) = true := by decide +kernel
set_option maxRecDepth 65536 in
theorem w_t5 : ((((words1.drop 24).drop 24).drop 24).drop 24).all (fun c => isCode c || c.before args0 about1) = true := by decide +kernel
theorem w_tables : (allAtoms (Jvm.Cond.code x code maxLocals ret :: tables_1)).before args0 about1 = true := by
  rw [allAtoms_all]
  show words1.all (fun c => c.before args0 about1) = true
  refine all_split ?_ w_codes
  rw [← List.take_append_drop 24 words1, List.all_append, w_t1, ← List.take_append_drop 24 (words1.drop 24), List.all_append, w_t2, ← List.take_append_drop 24 ((words1.drop 24).drop 24), List.all_append, w_t3, ← List.take_append_drop 24 (((words1.drop 24).drop 24).drop 24), List.all_append, w_t4, w_t5]
  rfl
set_option maxRecDepth 65536 in
theorem w_case : (Jvm.Cond.and given_1 narrow_1).before args0 about1 = true := by decide +kernel
theorem w_applies : (headSpec (Jvm.Cond.code x code maxLocals ret :: tables_1) room_1).applies x e0.platform about1 = true :=
  (Spec.applies_iff w_frames).mpr ⟨w_running, w_runnable, w_alone, w_named, w_hears, w_ripe, w_room, w_tables⟩
theorem atStart : AtStart classFile x code maxLocals ret World_1 tables_1 room_1 Calls_1 rest_1 Pre_1 launch0 p0 e0 about1 theMethod args0 below0 :=
  ⟨lists_1, trivial, launch0.admits_env _ _ _, launch0.least_env, fairChoices_fair.cas, fairChoices_fair.clock, w_frames, w_args, w_heap, w_applies, trivial, trivial, w_case⟩
end start1
theorem witness_1 : WitnessClaimed_1 := ⟨start1.p0, start1.e0, start1.about1, start1.theMethod, start1.args0, start1.below0, start1.atStart⟩
end Jvm.Pilot.@@N@@
