import JvmDerived
import JvmDerived.Pilot.@@N@@Statement
import JvmDerived.Pilot.@@N@@Code
set_option linter.unusedVariables false
set_option linter.unusedSimpArgs false
namespace Jvm.OwnW
open Sem ClassFile Op Lib Jvm.Stand Jvm.Free Jvm.LawKit Jvm.RoadKit
section Base
variable {p : Program} {l : Launch} {e : Env} {R : Room} {s : State} {m : MethodId} {args : Array Value} {below : List Frame} {meth : Method} {c : Code} {T : State} {locs : List Loc} {cells slots : Nat} {Z : State} {h h' : Heap} {a b : Addr} {ty : FieldType} {vs : List Value} {v : Value} {sl : Nat} {ws : List Addr}
variable {Q : Option Value → Heap → List Loc → Prop} {En : Outcome → State → List Loc → Prop} {kc ks : Nat} {U U' : State}
/-- from U the body comes to its end; what it leaves is Q, its frame En -/
def Wq (p : Program) (e : Env) (below : List Frame) (En : Outcome → State → List Loc → Prop) (Q : Option Value → Heap → List Loc → Prop) (U : State) : Prop :=
  ∃ s₂ o, Steps p.tables e below U s₂ ∧ s₂.status = .running ∧ Ended s₂ below o ∧ ∃ v L, o = .returned v ∧ Q v s₂.heap L ∧ En o s₂ L
theorem Wq.step (h1 : ∀ t, Steps p.tables e below U' t → Steps p.tables e below U t) (k : Wq p e below En Q U') : Wq p e below En Q U := by
  obtain ⟨s₂, o, q, r⟩ := k; exact ⟨s₂, o, h1 _ q, r⟩
theorem Wq.steps (h1 : Steps p.tables e below U U') (k : Wq p e below En Q U') : Wq p e below En Q U := by
  obtain ⟨s₂, o, q, r⟩ := k; exact ⟨s₂, o, h1.trans q, r⟩
theorem Wq.by (k1 : Wq p e below En Q U' → Wq p e below En Q U) (k : Wq p e below En Q U') : Wq p e below En Q U := k1 k
theorem Wq.ret {rv : Option Value} {g : JFrame} (X : Stand p l e R s m args below meth c T locs cells slots) (hlk : meth.locks = false) (hv : meth.sig.returnType = none → rv = none)
    (st : ∀ fs, (∀ (f : JFrame) (acts : List Action), f.method = m → f.locked = none → f.entered = [] → (doReturn e (T.setTop f) acts rv).1 = T.setFrames fs) → Steps p.tables e below (T.setTop g) (T.setFrames fs))
    (hc : cells ≤ kc) (hs : slots ≤ ks) (hQ : Q rv T.heap locs) : Wq p e below (fun o t L => FrameEnd s o t L kc ks) Q (T.setTop g) := by
  obtain ⟨fs, hr, hrun, hended, hW, hsame⟩ := X.leave (v := rv) hv hlk
  exact ⟨_, _, st fs hr, hrun, hended, rv, locs, rfl, hQ, ⟨rv, rfl⟩, hW, hsame.mono hc hs⟩
/-- the same for a body that may load a String constant for the first time -/
theorem Wq.retW {rv : Option Value} {g : JFrame} {vm₁ : Vm} {n : Nat} (X : Stand p l e R (s.setVm vm₁) m args below meth c T locs cells slots) (hS : s.Since vm₁ n) (hn : n ≤ T.heap.size) (hlk : meth.locks = false) (hv : meth.sig.returnType = none → rv = none)
    (st : ∀ fs, (∀ (f : JFrame) (acts : List Action), f.method = m → f.locked = none → f.entered = [] → (doReturn e (T.setTop f) acts rv).1 = T.setFrames fs) → Steps p.tables e below (T.setTop g) (T.setFrames fs))
    (hc : cells ≤ kc) (hs : slots ≤ ks) (hQ : Q rv T.heap locs) : Wq p e below (fun o t L => ReturnedEndW s o t L kc ks) Q (T.setTop g) := by
  obtain ⟨fs, hr, hrun, hended, w1, w2, w3, w4⟩ := X.leaveW hS hn (v := rv) hv hlk
  exact ⟨_, _, st fs hr, hrun, hended, rv, locs, rfl, hQ, ⟨rv, rfl⟩, w2, w3, w4.mono hc hs⟩
/-- an array and the whole list of what it holds -/
def Al (Z : State) (h : Heap) (a : Addr) (ty : FieldType) (vs : List Value) : Prop := ∃ cl : Cell, Arr Z h a cl ty ∧ cl.slots.toList = vs
theorem Al.lt (V : Al Z h a ty vs) : a < h.size := by obtain ⟨cl, A, -⟩ := V; exact A.lt
theorem Al.ext (V : Al Z h a ty vs) (E : Ext h h') : Al Z h' a ty vs := by obtain ⟨cl, A, r⟩ := V; exact ⟨cl, A.ext E, r⟩
theorem Al.other (V : Al Z h b ty vs) (W : Wr h h' a sl v) (q : b ≠ a) : Al Z h' b ty vs := by obtain ⟨cl, A, r⟩ := V; exact ⟨cl, A.other W q, r⟩
theorem Al.keep (V : Al Z h a ty vs) (K : Keep h h' ws) (q : a ∉ ws) : Al Z h' a ty vs := by obtain ⟨cl, A, r⟩ := V; exact ⟨cl, ⟨K.2.1 a cl A.1 q, A.2⟩, r⟩
theorem Al.new {cA : ClassId} {n : Int32} {k : Nat} {dv : Value} (A : Arr Z h a (newA cA ty n) ty) (hk : n.toNatClampNeg = k) (hd : defaultValue ty = dv) : Al Z h a ty (List.replicate k dv) := ⟨_, A, by subst hk hd; simp [newA]⟩
theorem Al.set (V : Al Z h a ty vs) (W : Wr h h' a sl v) : Al Z h' a ty (vs.set sl v) := by
  obtain ⟨cl, A, rfl⟩ := V
  exact ⟨_, A.same W, by simp [Cell.setSlot]⟩
theorem Sta.keepN {C n d : String} {v : Value} (F : Sta Z h C n d v) (K : Keep h h' ws) (q : ∀ w ∈ ws, ∀ cell : Cell, h[w]? = some cell → cell.vm.isStatics = false) : Sta Z h' C n d v := by
  obtain ⟨cf, i, k, f, st, cell, h1, h2, h3, h4, h5, h6, h7⟩ := F
  exact ⟨cf, i, k, f, st, cell, h1, h2, h3, h4, K.2.1 _ _ h5 (fun hm => by rw [q st hm cell h5] at h6; cases h6), h6, h7⟩
theorem fldI {t : Term} {C n d : String} {k : Int32} (hx : (Cond.eq (.field t C n d) (.int k)).value args s none s [] = some true) (ev : t.eval args s none [] s = some (.ref a)) : Fld s s.heap a C n d (.int k) := by
  refine Fld.start ?_
  have e1 := fld_at (C := C) (n := n) (dd := d) ev
  obtain ⟨x, y, h1, h2, k1, k2⟩ := cmp_v (Or.inl hx)
  rw [Term.int_eval] at h2
  cases h2
  rw [e1] at h1
  cases x <;> simp only [Kin] at k2 <;> first | (obtain ⟨z, hz⟩ := k2; cases hz) | skip
  have q := gotT (Cond.eq_ints (e1.trans h1) (Term.int_eval k)) hx
  rw [h1, q]
theorem fldJ {t : Term} {C n d : String} {k : Int64} (hx : (Cond.eq (.field t C n d) (.long k)).value args s none s [] = some true) (ev : t.eval args s none [] s = some (.ref a)) : Fld s s.heap a C n d (.long k) := by
  refine Fld.start ?_
  have e1 := fld_at (C := C) (n := n) (dd := d) ev
  obtain ⟨x, y, h1, h2, k1, k2⟩ := cmp_v (Or.inl hx)
  rw [long_at] at h2
  cases h2
  rw [e1] at h1
  cases x <;> simp only [Kin] at k2 <;> first | (obtain ⟨z, hz⟩ := k2; cases hz) | skip
  have q := gotT (eq_L (e1.trans h1) (long_at k)) hx
  rw [h1, q]
theorem Exa.ns {C : String} (F : Exa Z h a C) : ∀ cell : Cell, h[a]? = some cell → cell.vm.isStatics = false := by
  obtain ⟨c1, k, h1, h2, h3, h4, h5⟩ := F
  intro cell hc; cases h1.symm.trans hc; exact h4
theorem Al.ns (V : Al Z h a ty vs) : ∀ cell : Cell, h[a]? = some cell → cell.vm.isStatics = false := by
  obtain ⟨cl, A, -⟩ := V
  intro cell hc; cases A.1.symm.trans hc; exact A.plain
theorem clA (X : Stand p l e R s m args below meth c T locs cells slots) (hx : p.tables.exec = Jvm.exec) (hZ : Z.Warmed39 s.vm) {a0 : Array Value} {own ad : String} {index : Nat} (hown : s.vm.findClass own = some m.cls)
    (w1 : (Cond.methodLink own index ⟨ad, "clone", "()Ljava/lang/Object;"⟩).before a0 Z = true) (w2 : (Cond.sameMethod ad "java/lang/Object" "clone" "()Ljava/lang/Object;").before a0 Z = true) (w3 : (Cond.native ⟨"java/lang/Object", "clone", "()Ljava/lang/Object;"⟩).before a0 Z = true)
    (w4 : (Cond.instanceMethod ⟨"java/lang/Object", "clone", "()Ljava/lang/Object;"⟩).before a0 Z = true) (w5 : (Cond.selects ad ⟨ad, "clone", "()Ljava/lang/Object;"⟩ ⟨"java/lang/Object", "clone", "()Ljava/lang/Object;"⟩).before a0 Z = true) (w6 : (Cond.castable ad "java/lang/Cloneable").before a0 Z = true)
    (eT : T.heap = h) (V : Al Z h a ty vs) (E : Exa Z h a ad) (F : ∀ v ∈ vs, fits ty v = true) {g : JFrame} (hg : g.method = m) (hsize : g.locals.size = c.maxLocals) {rest : List Value} (hst : g.stack = .ref a :: rest) (hd : decode c.code g.pc = .ok (.invokevirtual index, 3))
    (hf : 1 ≤ R.frames) {W cap : Nat} (hW : 2 * g.monitorRoom + (rest.map fun v => v.category).sum ≤ W) (hl : W + 14 ≤ R.locals) (hcap : vs.length ≤ cap) (hc : cells + 1 ≤ R.cells) (hsl : slots + cap ≤ R.slots) :
    ∃ T' h', Stand p l e R s m args below meth c T' locs (cells + 1) (slots + cap) ∧ T'.heap = h' ∧ Ext h h' ∧ Al Z h' h.size ty vs ∧ Exa Z h' h.size ad ∧
      ∀ target, Steps p.tables e below (T'.setTop { g with pc := g.pc + 3, stack := .ref h.size :: rest }) target → Steps p.tables e below (T.setTop g) target := by
  obtain ⟨cl, A, r⟩ := V
  have FC : FitC Z cl := fitC_of A fun i hi v hv => F v (by rw [← r]; exact Array.mem_toList_iff.mpr (Array.mem_of_getElem? hv))
  obtain ⟨T', h', X', e', ex, A', E', st⟩ := cloneA X hx hZ hown w1 w2 w3 w4 w5 w6 eT A E FC hg hsize hst hd hf hW hl (by rw [← Array.length_toList, r]; exact hcap) hc hsl
  exact ⟨T', h', X', e', ex, ⟨_, A', r⟩, E', st⟩
theorem selPriv {a0 : Array Value} {y : MethodName} {k : Nat} (hZ : Z.Warmed39 s.vm) (wi : (Cond.instantiable y.cls k).before a0 Z = true) (wp : (Cond.privateMethod y).before a0 Z = true) (wm : (Cond.instanceMethod y).before a0 Z = true) (hy : y.cls ≠ "java/lang/invoke/MethodHandle" ∧ y.cls ≠ "java/lang/invoke/VarHandle") : (Cond.selects y.cls y y).before args s = true := by
  obtain ⟨c, k, h1, h2, -, h4, -⟩ := Cond.instantiable_spec (mv (args := args) hZ wi)
  simp only [Bool.or_eq_false_iff] at h4
  exact Jvm.Stand.selects_self_of_private h1 h2 h4.1 (Cond.privateMethod_at (mvP hZ wp (args := args))) (mv hZ wm) hy
theorem al_in {cl : Cell} {j : Int32} {i : Nat} (hvs : cl.slots.toList = vs) (hj : ¬ j < 0) (hi : j.toNatClampNeg = i) (hl : i < vs.length) : ¬ (j < 0 ∨ cl.slots.size ≤ j.toNatClampNeg) := by
  subst hvs hi
  rintro (q | q)
  · exact hj q
  · simp only [Array.length_toList] at hl; omega
theorem al_at {cl : Cell} {j : Int32} {i : Nat} (hvs : cl.slots.toList = vs) (hi : j.toNatClampNeg = i) (hv : vs[i]? = some v) : cl.slots[j.toNatClampNeg]? = some v := by
  subst hvs hi; simpa using hv
theorem al_lt {i : Nat} (hv : vs[i]? = some v) : i < vs.length := (List.getElem?_eq_some_iff.mp hv).1
theorem ldI (X : Stand p l e R s m args below meth c T locs cells slots) (hx : p.tables.exec = Jvm.exec) (hZ : Z.Warmed39 s.vm) (eT : T.heap = h) (V : Al Z h a .int vs) {j : Int32} {i : Nat} (hj : ¬ j < 0) (hi : j.toNatClampNeg = i) (hv : vs[i]? = some v) {g : JFrame} (hg : g.method = m) {rest : List Value} (hs : g.stack = .int j :: .ref a :: rest) (hd : decode c.code g.pc = .ok (.iaload, 1)) {target : State}
    (k : Steps p.tables e below (T.setTop { g with pc := g.pc + 1, stack := v :: rest }) target) : Steps p.tables e below (T.setTop g) target := by
  obtain ⟨cl, A, r⟩ := V
  exact X.iaload hx (by rw [eT]; exact A.1) (State.isArrayOf_alike hZ.alike A.2.1) A.2.2 (al_in r hj hi (al_lt hv)) (al_at r hi hv) hg hs hd _ k
theorem ldJ (X : Stand p l e R s m args below meth c T locs cells slots) (hx : p.tables.exec = Jvm.exec) (hZ : Z.Warmed39 s.vm) (eT : T.heap = h) (V : Al Z h a .long vs) {j : Int32} {i : Nat} (hj : ¬ j < 0) (hi : j.toNatClampNeg = i) (hv : vs[i]? = some v) {g : JFrame} (hg : g.method = m) {rest : List Value} (hs : g.stack = .int j :: .ref a :: rest) (hd : decode c.code g.pc = .ok (.laload, 1)) {target : State}
    (k : Steps p.tables e below (T.setTop { g with pc := g.pc + 1, stack := v :: rest }) target) : Steps p.tables e below (T.setTop g) target := by
  obtain ⟨cl, A, r⟩ := V
  exact X.laload hx (by rw [eT]; exact A.1) (State.isArrayOf_alike hZ.alike A.2.1) A.2.2 (al_in r hj hi (al_lt hv)) (al_at r hi hv) hg hs hd _ k
theorem ldC (X : Stand p l e R s m args below meth c T locs cells slots) (hx : p.tables.exec = Jvm.exec) (hZ : Z.Warmed39 s.vm) (eT : T.heap = h) (V : Al Z h a .char vs) {j : Int32} {i : Nat} (hj : ¬ j < 0) (hi : j.toNatClampNeg = i) (hv : vs[i]? = some v) {g : JFrame} (hg : g.method = m) {rest : List Value} (hs : g.stack = .int j :: .ref a :: rest) (hd : decode c.code g.pc = .ok (.caload, 1)) {target : State}
    (k : Steps p.tables e below (T.setTop { g with pc := g.pc + 1, stack := v :: rest }) target) : Steps p.tables e below (T.setTop g) target := by
  obtain ⟨cl, A, r⟩ := V
  exact X.caload hx (by rw [eT]; exact A.1) (State.isArrayOf_alike hZ.alike A.2.1) A.2.2 (al_in r hj hi (al_lt hv)) (al_at r hi hv) hg hs hd _ k
theorem ldB (X : Stand p l e R s m args below meth c T locs cells slots) (hx : p.tables.exec = Jvm.exec) (hZ : Z.Warmed39 s.vm) (eT : T.heap = h) (V : Al Z h a .byte vs) {j : Int32} {i : Nat} (hj : ¬ j < 0) (hi : j.toNatClampNeg = i) (hv : vs[i]? = some v) {g : JFrame} (hg : g.method = m) {rest : List Value} (hs : g.stack = .int j :: .ref a :: rest) (hd : decode c.code g.pc = .ok (.baload, 1)) {target : State}
    (k : Steps p.tables e below (T.setTop { g with pc := g.pc + 1, stack := v :: rest }) target) : Steps p.tables e below (T.setTop g) target := by
  obtain ⟨cl, A, r⟩ := V
  exact X.baloadBytes hx (by rw [eT]; exact A.1) (State.isArrayOf_alike hZ.alike A.2.1) A.2.2 (al_in r hj hi (al_lt hv)) (al_at r hi hv) hg hs hd _ k
theorem ldZ (X : Stand p l e R s m args below meth c T locs cells slots) (hx : p.tables.exec = Jvm.exec) (hZ : Z.Warmed39 s.vm) (eT : T.heap = h) (V : Al Z h a .boolean vs) {j : Int32} {i : Nat} (hj : ¬ j < 0) (hi : j.toNatClampNeg = i) (hv : vs[i]? = some v) {g : JFrame} (hg : g.method = m) {rest : List Value} (hs : g.stack = .int j :: .ref a :: rest) (hd : decode c.code g.pc = .ok (.baload, 1)) {target : State}
    (k : Steps p.tables e below (T.setTop { g with pc := g.pc + 1, stack := v :: rest }) target) : Steps p.tables e below (T.setTop g) target := by
  obtain ⟨cl, A, r⟩ := V
  exact X.baloadBooleans hx (by rw [eT]; exact A.1) (State.isArrayOf_alike hZ.alike A.2.1) A.2.2 (al_in r hj hi (al_lt hv)) (al_at r hi hv) hg hs hd _ k
theorem lenA (X : Stand p l e R s m args below meth c T locs cells slots) (hx : p.tables.exec = Jvm.exec) (hZ : Z.Warmed39 s.vm) (eT : T.heap = h) (V : Al Z h a ty vs) {n : Int32} (hn : vs.length.toInt32 = n) {g : JFrame} (hg : g.method = m) {rest : List Value} (hs : g.stack = .ref a :: rest) (hd : decode c.code g.pc = .ok (.arraylength, 1)) {target : State}
    (k : Steps p.tables e below (T.setTop { g with pc := g.pc + 1, stack := .int n :: rest }) target) : Steps p.tables e below (T.setTop g) target := by
  obtain ⟨cl, A, r⟩ := V
  refine X.arraylength hx (by rw [eT]; exact A.1) (State.isArrayOf_alike hZ.alike A.2.1) hg hs hd _ ?_
  rw [show cl.slots.size.toInt32 = n from by rw [← hn, ← r, Array.length_toList]]
  exact k
theorem asI (X : Stand p l e R s m args below meth c T locs cells slots) (hx : p.tables.exec = Jvm.exec) (hZ : Z.Warmed39 s.vm) (eT : T.heap = h) (V : Al Z h a .int vs) {j : Int32} {i : Nat} {x : Int32} (hj : ¬ j < 0) (hi : j.toNatClampNeg = i) (hl : i < vs.length) {g : JFrame} (hg : g.method = m) {rest : List Value} (hs : g.stack = .int x :: .int j :: .ref a :: rest) (hd : decode c.code g.pc = .ok (.iastore, 1)) :
    ∃ T' h', Stand p l e R s m args below meth c T' (locs ++ [⟨a, i⟩]) cells slots ∧ T'.heap = h' ∧ Wr h h' a i (.int x) ∧ Al Z h' a .int (vs.set i (.int x)) ∧ ∀ target, Steps p.tables e below (T'.setTop { g with pc := g.pc + 1, stack := rest }) target → Steps p.tables e below (T.setTop g) target := by
  have V0 := V
  obtain ⟨cl, A, r⟩ := V
  obtain ⟨T', h', X', e', W, st⟩ := stI X hx hZ eT A (al_in r hj hi hl) hg hs hd
  subst hi
  exact ⟨T', h', X', e', W, V0.set W, st⟩
theorem asJ (X : Stand p l e R s m args below meth c T locs cells slots) (hx : p.tables.exec = Jvm.exec) (hZ : Z.Warmed39 s.vm) (eT : T.heap = h) (V : Al Z h a .long vs) {j : Int32} {i : Nat} {x : Int64} (hj : ¬ j < 0) (hi : j.toNatClampNeg = i) (hl : i < vs.length) {g : JFrame} (hg : g.method = m) {rest : List Value} (hs : g.stack = .long x :: .int j :: .ref a :: rest) (hd : decode c.code g.pc = .ok (.lastore, 1)) :
    ∃ T' h', Stand p l e R s m args below meth c T' (locs ++ [⟨a, i⟩]) cells slots ∧ T'.heap = h' ∧ Wr h h' a i (.long x) ∧ Al Z h' a .long (vs.set i (.long x)) ∧ ∀ target, Steps p.tables e below (T'.setTop { g with pc := g.pc + 1, stack := rest }) target → Steps p.tables e below (T.setTop g) target := by
  have V0 := V
  obtain ⟨cl, A, r⟩ := V
  obtain ⟨T', h', X', e', W, st⟩ := stJ X hx hZ eT A (al_in r hj hi hl) hg hs hd
  subst hi
  exact ⟨T', h', X', e', W, V0.set W, st⟩
theorem asC (X : Stand p l e R s m args below meth c T locs cells slots) (hx : p.tables.exec = Jvm.exec) (hZ : Z.Warmed39 s.vm) (eT : T.heap = h) (V : Al Z h a .char vs) {j : Int32} {i : Nat} {x y : Int32} (hj : ¬ j < 0) (hi : j.toNatClampNeg = i) (hl : i < vs.length) (hy : nar .char x = y) {g : JFrame} (hg : g.method = m) {rest : List Value} (hs : g.stack = .int x :: .int j :: .ref a :: rest) (hd : decode c.code g.pc = .ok (.castore, 1)) :
    ∃ T' h', Stand p l e R s m args below meth c T' (locs ++ [⟨a, i⟩]) cells slots ∧ T'.heap = h' ∧ Wr h h' a i (.int y) ∧ Al Z h' a .char (vs.set i (.int y)) ∧ ∀ target, Steps p.tables e below (T'.setTop { g with pc := g.pc + 1, stack := rest }) target → Steps p.tables e below (T.setTop g) target := by
  have V0 := V
  obtain ⟨cl, A, r⟩ := V
  obtain ⟨T', h', X', e', W, st⟩ := stC X hx hZ eT A (al_in r hj hi hl) hg hs hd
  subst hi hy
  exact ⟨T', h', X', e', W, V0.set W, st⟩
theorem asB (X : Stand p l e R s m args below meth c T locs cells slots) (hx : p.tables.exec = Jvm.exec) (hZ : Z.Warmed39 s.vm) (eT : T.heap = h) (V : Al Z h a .byte vs) {j : Int32} {i : Nat} {x y : Int32} (hj : ¬ j < 0) (hi : j.toNatClampNeg = i) (hl : i < vs.length) (hy : nar .byte x = y) {g : JFrame} (hg : g.method = m) {rest : List Value} (hs : g.stack = .int x :: .int j :: .ref a :: rest) (hd : decode c.code g.pc = .ok (.bastore, 1)) :
    ∃ T' h', Stand p l e R s m args below meth c T' (locs ++ [⟨a, i⟩]) cells slots ∧ T'.heap = h' ∧ Wr h h' a i (.int y) ∧ Al Z h' a .byte (vs.set i (.int y)) ∧ ∀ target, Steps p.tables e below (T'.setTop { g with pc := g.pc + 1, stack := rest }) target → Steps p.tables e below (T.setTop g) target := by
  have V0 := V
  obtain ⟨cl, A, r⟩ := V
  obtain ⟨T', h', X', e', W, st⟩ := stB X hx hZ eT A (al_in r hj hi hl) hg hs hd
  subst hi hy
  exact ⟨T', h', X', e', W, V0.set W, st⟩
theorem asZ (X : Stand p l e R s m args below meth c T locs cells slots) (hx : p.tables.exec = Jvm.exec) (hZ : Z.Warmed39 s.vm) (eT : T.heap = h) (V : Al Z h a .boolean vs) {j : Int32} {i : Nat} {x y : Int32} (hj : ¬ j < 0) (hi : j.toNatClampNeg = i) (hl : i < vs.length) (hy : nar .boolean x = y) {g : JFrame} (hg : g.method = m) {rest : List Value} (hs : g.stack = .int x :: .int j :: .ref a :: rest) (hd : decode c.code g.pc = .ok (.bastore, 1)) :
    ∃ T' h', Stand p l e R s m args below meth c T' (locs ++ [⟨a, i⟩]) cells slots ∧ T'.heap = h' ∧ Wr h h' a i (.int y) ∧ Al Z h' a .boolean (vs.set i (.int y)) ∧ ∀ target, Steps p.tables e below (T'.setTop { g with pc := g.pc + 1, stack := rest }) target → Steps p.tables e below (T.setTop g) target := by
  have V0 := V
  obtain ⟨cl, A, r⟩ := V
  obtain ⟨T', h', X', e', W, st⟩ := stZ X hx hZ eT A (al_in r hj hi hl) hg hs hd
  subst hi hy
  exact ⟨T', h', X', e', W, V0.set W, st⟩
theorem Ow.iloadN (X : Stand p l e R s m args below meth c T locs cells slots) (hx : p.tables.exec = Jvm.exec) {pc : Nat} {ls : Array Slot} {st : List Value} {pc' : Nat} {k : Fin 4} {v : Int32} (hd : decode c.code pc = .ok (.iload_n k, 1)) (hl : ls[k.val]? = some (.val (.int v))) (k : Wq p e below En Q (T.setTop (mkF m pc' ls (.int v :: st)))) (hpc : pc + 1 = pc' := by rfl) : Wq p e below En Q (T.setTop (mkF m pc ls st)) := by subst hpc; exact Wq.step (fun _ q => XS.iloadN X.here hx rfl hd hl q) k
theorem Ow.istoreN (X : Stand p l e R s m args below meth c T locs cells slots) (hx : p.tables.exec = Jvm.exec) {pc : Nat} {ls : Array Slot} {st : List Value} {pc' : Nat} {k : Fin 4} {x : Int32} {l' : Array Slot} (hd : decode c.code pc = .ok (.istore_n k, 1)) (hl : storeLocals ls k.val (.int x) = some l') (k : Wq p e below En Q (T.setTop (mkF m pc' l' st))) (hpc : pc + 1 = pc' := by rfl) : Wq p e below En Q (T.setTop (mkF m pc ls (.int x :: st))) := by subst hpc; exact Wq.step (fun _ q => XS.istoreN X.here hx rfl hd rfl hl q) k
theorem Ow.lloadN (X : Stand p l e R s m args below meth c T locs cells slots) (hx : p.tables.exec = Jvm.exec) {pc : Nat} {ls : Array Slot} {st : List Value} {pc' : Nat} {k : Fin 4} {v : Int64} (hd : decode c.code pc = .ok (.lload_n k, 1)) (hl : ls[k.val]? = some (.val (.long v))) (k : Wq p e below En Q (T.setTop (mkF m pc' ls (.long v :: st)))) (hpc : pc + 1 = pc' := by rfl) : Wq p e below En Q (T.setTop (mkF m pc ls st)) := by subst hpc; exact Wq.step (fun _ q => XS.lloadN X.here hx rfl hd hl q) k
theorem Ow.lstoreN (X : Stand p l e R s m args below meth c T locs cells slots) (hx : p.tables.exec = Jvm.exec) {pc : Nat} {ls : Array Slot} {st : List Value} {pc' : Nat} {k : Fin 4} {x : Int64} {l' : Array Slot} (hd : decode c.code pc = .ok (.lstore_n k, 1)) (hl : storeLocals ls k.val (.long x) = some l') (k : Wq p e below En Q (T.setTop (mkF m pc' l' st))) (hpc : pc + 1 = pc' := by rfl) : Wq p e below En Q (T.setTop (mkF m pc ls (.long x :: st))) := by subst hpc; exact Wq.step (fun _ q => XS.lstoreN X.here hx rfl hd rfl hl q) k
theorem Ow.aloadN (X : Stand p l e R s m args below meth c T locs cells slots) (hx : p.tables.exec = Jvm.exec) {pc : Nat} {ls : Array Slot} {st : List Value} {pc' : Nat} {k : Fin 4} {v : Value} (hd : decode c.code pc = .ok (.aload_n k, 1)) (hl : ls[k.val]? = some (.val v)) (hv : v.isRef = true) (k : Wq p e below En Q (T.setTop (mkF m pc' ls (v :: st)))) (hpc : pc + 1 = pc' := by rfl) : Wq p e below En Q (T.setTop (mkF m pc ls st)) := by subst hpc; exact Wq.step (fun _ q => XS.aloadN X.here hx rfl hd hl hv q) k
theorem Ow.astoreN (X : Stand p l e R s m args below meth c T locs cells slots) (hx : p.tables.exec = Jvm.exec) {pc : Nat} {ls : Array Slot} {st : List Value} {pc' : Nat} {k : Fin 4} {x : Value} {l' : Array Slot} (hd : decode c.code pc = .ok (.astore_n k, 1)) (hv : x.isRef = true) (hl : storeLocals ls k.val x = some l') (k : Wq p e below En Q (T.setTop (mkF m pc' l' st))) (hpc : pc + 1 = pc' := by rfl) : Wq p e below En Q (T.setTop (mkF m pc ls (x :: st))) := by subst hpc; exact Wq.step (fun _ q => XS.astoreN X.here hx rfl hd rfl hv hl q) k
theorem Ow.iload (X : Stand p l e R s m args below meth c T locs cells slots) (hx : p.tables.exec = Jvm.exec) {pc : Nat} {ls : Array Slot} {st : List Value} {pc' : Nat} {k : Nat} {v : Int32} (hd : decode c.code pc = .ok (.iload k, 2)) (hl : ls[k]? = some (.val (.int v))) (k : Wq p e below En Q (T.setTop (mkF m pc' ls (.int v :: st)))) (hpc : pc + 2 = pc' := by rfl) : Wq p e below En Q (T.setTop (mkF m pc ls st)) := by subst hpc; exact Wq.step (fun _ q => XS.iload X.here hx rfl hd hl q) k
theorem Ow.istore (X : Stand p l e R s m args below meth c T locs cells slots) (hx : p.tables.exec = Jvm.exec) {pc : Nat} {ls : Array Slot} {st : List Value} {pc' : Nat} {k : Nat} {x : Int32} {l' : Array Slot} (hd : decode c.code pc = .ok (.istore k, 2)) (hl : storeLocals ls k (.int x) = some l') (k : Wq p e below En Q (T.setTop (mkF m pc' l' st))) (hpc : pc + 2 = pc' := by rfl) : Wq p e below En Q (T.setTop (mkF m pc ls (.int x :: st))) := by subst hpc; exact Wq.step (fun _ q => XS.istore X.here hx rfl hd rfl hl q) k
theorem Ow.lload (X : Stand p l e R s m args below meth c T locs cells slots) (hx : p.tables.exec = Jvm.exec) {pc : Nat} {ls : Array Slot} {st : List Value} {pc' : Nat} {k : Nat} {v : Int64} (hd : decode c.code pc = .ok (.lload k, 2)) (hl : ls[k]? = some (.val (.long v))) (k : Wq p e below En Q (T.setTop (mkF m pc' ls (.long v :: st)))) (hpc : pc + 2 = pc' := by rfl) : Wq p e below En Q (T.setTop (mkF m pc ls st)) := by subst hpc; exact Wq.step (fun _ q => XS.lload X.here hx rfl hd hl q) k
theorem Ow.lstore (X : Stand p l e R s m args below meth c T locs cells slots) (hx : p.tables.exec = Jvm.exec) {pc : Nat} {ls : Array Slot} {st : List Value} {pc' : Nat} {k : Nat} {x : Int64} {l' : Array Slot} (hd : decode c.code pc = .ok (.lstore k, 2)) (hl : storeLocals ls k (.long x) = some l') (k : Wq p e below En Q (T.setTop (mkF m pc' l' st))) (hpc : pc + 2 = pc' := by rfl) : Wq p e below En Q (T.setTop (mkF m pc ls (.long x :: st))) := by subst hpc; exact Wq.step (fun _ q => XS.lstore X.here hx rfl hd rfl hl q) k
theorem Ow.aload (X : Stand p l e R s m args below meth c T locs cells slots) (hx : p.tables.exec = Jvm.exec) {pc : Nat} {ls : Array Slot} {st : List Value} {pc' : Nat} {k : Nat} {v : Value} (hd : decode c.code pc = .ok (.aload k, 2)) (hl : ls[k]? = some (.val v)) (hv : v.isRef = true) (k : Wq p e below En Q (T.setTop (mkF m pc' ls (v :: st)))) (hpc : pc + 2 = pc' := by rfl) : Wq p e below En Q (T.setTop (mkF m pc ls st)) := by subst hpc; exact Wq.step (fun _ q => XS.aload X.here hx rfl hd hl hv q) k
theorem Ow.astore (X : Stand p l e R s m args below meth c T locs cells slots) (hx : p.tables.exec = Jvm.exec) {pc : Nat} {ls : Array Slot} {st : List Value} {pc' : Nat} {k : Nat} {x : Value} {l' : Array Slot} (hd : decode c.code pc = .ok (.astore k, 2)) (hv : x.isRef = true) (hl : storeLocals ls k x = some l') (k : Wq p e below En Q (T.setTop (mkF m pc' l' st))) (hpc : pc + 2 = pc' := by rfl) : Wq p e below En Q (T.setTop (mkF m pc ls (x :: st))) := by subst hpc; exact Wq.step (fun _ q => XS.astore X.here hx rfl hd rfl hv hl q) k
theorem Ow.istoreNS (X : Stand p l e R s m args below meth c T locs cells slots) (hx : p.tables.exec = Jvm.exec) {pc pc' : Nat} {ls : Array Slot} {st : List Value} {k : Fin 4} {x : Int32} {o : Slot} {l' : Array Slot} (hd : decode c.code pc = .ok (.istore_n k, 1)) (hold : ls[k.val]? = some o) (ho : o = .unset ∨ ∃ w, o = .val w ∧ w.category = 1) (hl : ls.setIfInBounds k.val (.val (.int x)) = l') (q : Wq p e below En Q (T.setTop (mkF m pc' l' st))) (hpc : pc + 1 = pc' := by rfl) : Wq p e below En Q (T.setTop (mkF m pc ls (.int x :: st))) := by
  subst hpc hl
  exact Wq.step (fun _ z => XS.istoreN X.here hx rfl hd rfl (XS.store1 hold ho rfl) z) q
theorem Ow.istoreS (X : Stand p l e R s m args below meth c T locs cells slots) (hx : p.tables.exec = Jvm.exec) {pc pc' : Nat} {ls : Array Slot} {st : List Value} {k : Nat} {x : Int32} {o : Slot} {l' : Array Slot} (hd : decode c.code pc = .ok (.istore k, 2)) (hold : ls[k]? = some o) (ho : o = .unset ∨ ∃ w, o = .val w ∧ w.category = 1) (hl : ls.setIfInBounds k (.val (.int x)) = l') (q : Wq p e below En Q (T.setTop (mkF m pc' l' st))) (hpc : pc + 2 = pc' := by rfl) : Wq p e below En Q (T.setTop (mkF m pc ls (.int x :: st))) := by
  subst hpc hl
  exact Wq.step (fun _ z => XS.istore X.here hx rfl hd rfl (XS.store1 hold ho rfl) z) q
theorem Ow.iconst (X : Stand p l e R s m args below meth c T locs cells slots) (hx : p.tables.exec = Jvm.exec) {pc : Nat} {ls : Array Slot} {st : List Value} {pc' : Nat} {i : Int} {z : Int32} (hd : decode c.code pc = .ok (.iconst i, 1)) (hz : Int32.ofInt i = z) (k : Wq p e below En Q (T.setTop (mkF m pc' ls (.int z :: st)))) (hpc : pc + 1 = pc' := by rfl) : Wq p e below En Q (T.setTop (mkF m pc ls st)) := by subst hz hpc; exact Wq.step (fun _ q => XS.iconst X.here hx rfl hd  q) k
theorem Ow.bipush (X : Stand p l e R s m args below meth c T locs cells slots) (hx : p.tables.exec = Jvm.exec) {pc : Nat} {ls : Array Slot} {st : List Value} {pc' : Nat} {i : Int} {z : Int32} (hd : decode c.code pc = .ok (.bipush i, 2)) (hz : (Int8.ofInt i).toInt32 = z) (k : Wq p e below En Q (T.setTop (mkF m pc' ls (.int z :: st)))) (hpc : pc + 2 = pc' := by rfl) : Wq p e below En Q (T.setTop (mkF m pc ls st)) := by subst hz hpc; exact Wq.step (fun _ q => XS.bipush X.here hx rfl hd  q) k
theorem Ow.sipush (X : Stand p l e R s m args below meth c T locs cells slots) (hx : p.tables.exec = Jvm.exec) {pc : Nat} {ls : Array Slot} {st : List Value} {pc' : Nat} {i : Int} {z : Int32} (hd : decode c.code pc = .ok (.sipush i, 3)) (hz : (Int16.ofInt i).toInt32 = z) (k : Wq p e below En Q (T.setTop (mkF m pc' ls (.int z :: st)))) (hpc : pc + 3 = pc' := by rfl) : Wq p e below En Q (T.setTop (mkF m pc ls st)) := by subst hz hpc; exact Wq.step (fun _ q => XS.sipush X.here hx rfl hd  q) k
theorem Ow.lconst (X : Stand p l e R s m args below meth c T locs cells slots) (hx : p.tables.exec = Jvm.exec) {pc : Nat} {ls : Array Slot} {st : List Value} {pc' : Nat} {i : Fin 2} {z : Int64} (hd : decode c.code pc = .ok (.lconst i, 1)) (hz : Int64.ofNat i = z) (k : Wq p e below En Q (T.setTop (mkF m pc' ls (.long z :: st)))) (hpc : pc + 1 = pc' := by rfl) : Wq p e below En Q (T.setTop (mkF m pc ls st)) := by subst hz hpc; exact Wq.step (fun _ q => XS.lconst X.here hx rfl hd  q) k
theorem Ow.aconstNull (X : Stand p l e R s m args below meth c T locs cells slots) (hx : p.tables.exec = Jvm.exec) {pc : Nat} {ls : Array Slot} {st : List Value} {pc' : Nat}  (hd : decode c.code pc = .ok (.aconst_null, 1))  (k : Wq p e below En Q (T.setTop (mkF m pc' ls (.null :: st)))) (hpc : pc + 1 = pc' := by rfl) : Wq p e below En Q (T.setTop (mkF m pc ls st)) := by subst hpc; exact Wq.step (fun _ q => XS.aconstNull X.here hx rfl hd  q) k
theorem Ow.iadd (X : Stand p l e R s m args below meth c T locs cells slots) (hx : p.tables.exec = Jvm.exec) {pc : Nat} {ls : Array Slot} {st : List Value} {pc' : Nat} {x y z : Int32} (hd : decode c.code pc = .ok (.iadd, 1)) (hz : x + y = z) (k : Wq p e below En Q (T.setTop (mkF m pc' ls (.int z :: st)))) (hpc : pc + 1 = pc' := by rfl) : Wq p e below En Q (T.setTop (mkF m pc ls (.int y :: .int x :: st))) := by subst hz hpc; exact Wq.step (fun _ q => XS.iadd X.here hx rfl hd rfl q) k
theorem Ow.ladd (X : Stand p l e R s m args below meth c T locs cells slots) (hx : p.tables.exec = Jvm.exec) {pc : Nat} {ls : Array Slot} {st : List Value} {pc' : Nat} {x y z : Int64} (hd : decode c.code pc = .ok (.ladd, 1)) (hz : x + y = z) (k : Wq p e below En Q (T.setTop (mkF m pc' ls (.long z :: st)))) (hpc : pc + 1 = pc' := by rfl) : Wq p e below En Q (T.setTop (mkF m pc ls (.long y :: .long x :: st))) := by subst hz hpc; exact Wq.step (fun _ q => XS.ladd X.here hx rfl hd rfl q) k
theorem Ow.isub (X : Stand p l e R s m args below meth c T locs cells slots) (hx : p.tables.exec = Jvm.exec) {pc : Nat} {ls : Array Slot} {st : List Value} {pc' : Nat} {x y z : Int32} (hd : decode c.code pc = .ok (.isub, 1)) (hz : x - y = z) (k : Wq p e below En Q (T.setTop (mkF m pc' ls (.int z :: st)))) (hpc : pc + 1 = pc' := by rfl) : Wq p e below En Q (T.setTop (mkF m pc ls (.int y :: .int x :: st))) := by subst hz hpc; exact Wq.step (fun _ q => XS.isub X.here hx rfl hd rfl q) k
theorem Ow.lsub (X : Stand p l e R s m args below meth c T locs cells slots) (hx : p.tables.exec = Jvm.exec) {pc : Nat} {ls : Array Slot} {st : List Value} {pc' : Nat} {x y z : Int64} (hd : decode c.code pc = .ok (.lsub, 1)) (hz : x - y = z) (k : Wq p e below En Q (T.setTop (mkF m pc' ls (.long z :: st)))) (hpc : pc + 1 = pc' := by rfl) : Wq p e below En Q (T.setTop (mkF m pc ls (.long y :: .long x :: st))) := by subst hz hpc; exact Wq.step (fun _ q => XS.lsub X.here hx rfl hd rfl q) k
theorem Ow.imul (X : Stand p l e R s m args below meth c T locs cells slots) (hx : p.tables.exec = Jvm.exec) {pc : Nat} {ls : Array Slot} {st : List Value} {pc' : Nat} {x y z : Int32} (hd : decode c.code pc = .ok (.imul, 1)) (hz : x * y = z) (k : Wq p e below En Q (T.setTop (mkF m pc' ls (.int z :: st)))) (hpc : pc + 1 = pc' := by rfl) : Wq p e below En Q (T.setTop (mkF m pc ls (.int y :: .int x :: st))) := by subst hz hpc; exact Wq.step (fun _ q => XS.imul X.here hx rfl hd rfl q) k
theorem Ow.lmul (X : Stand p l e R s m args below meth c T locs cells slots) (hx : p.tables.exec = Jvm.exec) {pc : Nat} {ls : Array Slot} {st : List Value} {pc' : Nat} {x y z : Int64} (hd : decode c.code pc = .ok (.lmul, 1)) (hz : x * y = z) (k : Wq p e below En Q (T.setTop (mkF m pc' ls (.long z :: st)))) (hpc : pc + 1 = pc' := by rfl) : Wq p e below En Q (T.setTop (mkF m pc ls (.long y :: .long x :: st))) := by subst hz hpc; exact Wq.step (fun _ q => XS.lmul X.here hx rfl hd rfl q) k
theorem Ow.iand (X : Stand p l e R s m args below meth c T locs cells slots) (hx : p.tables.exec = Jvm.exec) {pc : Nat} {ls : Array Slot} {st : List Value} {pc' : Nat} {x y z : Int32} (hd : decode c.code pc = .ok (.iand, 1)) (hz : x &&& y = z) (k : Wq p e below En Q (T.setTop (mkF m pc' ls (.int z :: st)))) (hpc : pc + 1 = pc' := by rfl) : Wq p e below En Q (T.setTop (mkF m pc ls (.int y :: .int x :: st))) := by subst hz hpc; exact Wq.step (fun _ q => XS.iand X.here hx rfl hd rfl q) k
theorem Ow.land (X : Stand p l e R s m args below meth c T locs cells slots) (hx : p.tables.exec = Jvm.exec) {pc : Nat} {ls : Array Slot} {st : List Value} {pc' : Nat} {x y z : Int64} (hd : decode c.code pc = .ok (.land, 1)) (hz : x &&& y = z) (k : Wq p e below En Q (T.setTop (mkF m pc' ls (.long z :: st)))) (hpc : pc + 1 = pc' := by rfl) : Wq p e below En Q (T.setTop (mkF m pc ls (.long y :: .long x :: st))) := by subst hz hpc; exact Wq.step (fun _ q => XS.land X.here hx rfl hd rfl q) k
theorem Ow.ior (X : Stand p l e R s m args below meth c T locs cells slots) (hx : p.tables.exec = Jvm.exec) {pc : Nat} {ls : Array Slot} {st : List Value} {pc' : Nat} {x y z : Int32} (hd : decode c.code pc = .ok (.ior, 1)) (hz : x ||| y = z) (k : Wq p e below En Q (T.setTop (mkF m pc' ls (.int z :: st)))) (hpc : pc + 1 = pc' := by rfl) : Wq p e below En Q (T.setTop (mkF m pc ls (.int y :: .int x :: st))) := by subst hz hpc; exact Wq.step (fun _ q => XS.ior X.here hx rfl hd rfl q) k
theorem Ow.lor (X : Stand p l e R s m args below meth c T locs cells slots) (hx : p.tables.exec = Jvm.exec) {pc : Nat} {ls : Array Slot} {st : List Value} {pc' : Nat} {x y z : Int64} (hd : decode c.code pc = .ok (.lor, 1)) (hz : x ||| y = z) (k : Wq p e below En Q (T.setTop (mkF m pc' ls (.long z :: st)))) (hpc : pc + 1 = pc' := by rfl) : Wq p e below En Q (T.setTop (mkF m pc ls (.long y :: .long x :: st))) := by subst hz hpc; exact Wq.step (fun _ q => XS.lor X.here hx rfl hd rfl q) k
theorem Ow.ixor (X : Stand p l e R s m args below meth c T locs cells slots) (hx : p.tables.exec = Jvm.exec) {pc : Nat} {ls : Array Slot} {st : List Value} {pc' : Nat} {x y z : Int32} (hd : decode c.code pc = .ok (.ixor, 1)) (hz : x ^^^ y = z) (k : Wq p e below En Q (T.setTop (mkF m pc' ls (.int z :: st)))) (hpc : pc + 1 = pc' := by rfl) : Wq p e below En Q (T.setTop (mkF m pc ls (.int y :: .int x :: st))) := by subst hz hpc; exact Wq.step (fun _ q => XS.ixor X.here hx rfl hd rfl q) k
theorem Ow.lxor (X : Stand p l e R s m args below meth c T locs cells slots) (hx : p.tables.exec = Jvm.exec) {pc : Nat} {ls : Array Slot} {st : List Value} {pc' : Nat} {x y z : Int64} (hd : decode c.code pc = .ok (.lxor, 1)) (hz : x ^^^ y = z) (k : Wq p e below En Q (T.setTop (mkF m pc' ls (.long z :: st)))) (hpc : pc + 1 = pc' := by rfl) : Wq p e below En Q (T.setTop (mkF m pc ls (.long y :: .long x :: st))) := by subst hz hpc; exact Wq.step (fun _ q => XS.lxor X.here hx rfl hd rfl q) k
theorem Ow.ineg (X : Stand p l e R s m args below meth c T locs cells slots) (hx : p.tables.exec = Jvm.exec) {pc : Nat} {ls : Array Slot} {st : List Value} {pc' : Nat} {x : Int32} {z : Int32} (hd : decode c.code pc = .ok (.ineg, 1)) (hz : -x = z) (k : Wq p e below En Q (T.setTop (mkF m pc' ls (.int z :: st)))) (hpc : pc + 1 = pc' := by rfl) : Wq p e below En Q (T.setTop (mkF m pc ls (.int x :: st))) := by subst hz hpc; exact Wq.step (fun _ q => XS.ineg X.here hx rfl hd rfl q) k
theorem Ow.lneg (X : Stand p l e R s m args below meth c T locs cells slots) (hx : p.tables.exec = Jvm.exec) {pc : Nat} {ls : Array Slot} {st : List Value} {pc' : Nat} {x : Int64} {z : Int64} (hd : decode c.code pc = .ok (.lneg, 1)) (hz : -x = z) (k : Wq p e below En Q (T.setTop (mkF m pc' ls (.long z :: st)))) (hpc : pc + 1 = pc' := by rfl) : Wq p e below En Q (T.setTop (mkF m pc ls (.long x :: st))) := by subst hz hpc; exact Wq.step (fun _ q => XS.lneg X.here hx rfl hd rfl q) k
theorem Ow.i2l (X : Stand p l e R s m args below meth c T locs cells slots) (hx : p.tables.exec = Jvm.exec) {pc : Nat} {ls : Array Slot} {st : List Value} {pc' : Nat} {x : Int32} {z : Int64} (hd : decode c.code pc = .ok (.i2l, 1)) (hz : x.toInt64 = z) (k : Wq p e below En Q (T.setTop (mkF m pc' ls (.long z :: st)))) (hpc : pc + 1 = pc' := by rfl) : Wq p e below En Q (T.setTop (mkF m pc ls (.int x :: st))) := by subst hz hpc; exact Wq.step (fun _ q => XS.i2l X.here hx rfl hd rfl q) k
theorem Ow.l2i (X : Stand p l e R s m args below meth c T locs cells slots) (hx : p.tables.exec = Jvm.exec) {pc : Nat} {ls : Array Slot} {st : List Value} {pc' : Nat} {x : Int64} {z : Int32} (hd : decode c.code pc = .ok (.l2i, 1)) (hz : x.toInt32 = z) (k : Wq p e below En Q (T.setTop (mkF m pc' ls (.int z :: st)))) (hpc : pc + 1 = pc' := by rfl) : Wq p e below En Q (T.setTop (mkF m pc ls (.long x :: st))) := by subst hz hpc; exact Wq.step (fun _ q => XS.l2i X.here hx rfl hd rfl q) k
theorem Ow.i2b (X : Stand p l e R s m args below meth c T locs cells slots) (hx : p.tables.exec = Jvm.exec) {pc : Nat} {ls : Array Slot} {st : List Value} {pc' : Nat} {x : Int32} {z : Int32} (hd : decode c.code pc = .ok (.i2b, 1)) (hz : x.toInt8.toInt32 = z) (k : Wq p e below En Q (T.setTop (mkF m pc' ls (.int z :: st)))) (hpc : pc + 1 = pc' := by rfl) : Wq p e below En Q (T.setTop (mkF m pc ls (.int x :: st))) := by subst hz hpc; exact Wq.step (fun _ q => XS.i2b X.here hx rfl hd rfl q) k
theorem Ow.i2s (X : Stand p l e R s m args below meth c T locs cells slots) (hx : p.tables.exec = Jvm.exec) {pc : Nat} {ls : Array Slot} {st : List Value} {pc' : Nat} {x : Int32} {z : Int32} (hd : decode c.code pc = .ok (.i2s, 1)) (hz : x.toInt16.toInt32 = z) (k : Wq p e below En Q (T.setTop (mkF m pc' ls (.int z :: st)))) (hpc : pc + 1 = pc' := by rfl) : Wq p e below En Q (T.setTop (mkF m pc ls (.int x :: st))) := by subst hz hpc; exact Wq.step (fun _ q => XS.i2s X.here hx rfl hd rfl q) k
theorem Ow.i2c (X : Stand p l e R s m args below meth c T locs cells slots) (hx : p.tables.exec = Jvm.exec) {pc : Nat} {ls : Array Slot} {st : List Value} {pc' : Nat} {x : Int32} {z : Int32} (hd : decode c.code pc = .ok (.i2c, 1)) (hz : x.toUInt32.toUInt16.toUInt32.toInt32 = z) (k : Wq p e below En Q (T.setTop (mkF m pc' ls (.int z :: st)))) (hpc : pc + 1 = pc' := by rfl) : Wq p e below En Q (T.setTop (mkF m pc ls (.int x :: st))) := by subst hz hpc; exact Wq.step (fun _ q => XS.i2c X.here hx rfl hd rfl q) k
theorem Ow.ishl (X : Stand p l e R s m args below meth c T locs cells slots) (hx : p.tables.exec = Jvm.exec) {pc : Nat} {ls : Array Slot} {st : List Value} {pc' : Nat} {x : Int32} {y : Int32} {z : Int32} (hd : decode c.code pc = .ok (.ishl, 1)) (hz : x <<< (y &&& 31) = z) (k : Wq p e below En Q (T.setTop (mkF m pc' ls (.int z :: st)))) (hpc : pc + 1 = pc' := by rfl) : Wq p e below En Q (T.setTop (mkF m pc ls (.int y :: .int x :: st))) := by subst hz hpc; exact Wq.step (fun _ q => XS.ishl X.here hx rfl hd rfl q) k
theorem Ow.ishr (X : Stand p l e R s m args below meth c T locs cells slots) (hx : p.tables.exec = Jvm.exec) {pc : Nat} {ls : Array Slot} {st : List Value} {pc' : Nat} {x : Int32} {y : Int32} {z : Int32} (hd : decode c.code pc = .ok (.ishr, 1)) (hz : x >>> (y &&& 31) = z) (k : Wq p e below En Q (T.setTop (mkF m pc' ls (.int z :: st)))) (hpc : pc + 1 = pc' := by rfl) : Wq p e below En Q (T.setTop (mkF m pc ls (.int y :: .int x :: st))) := by subst hz hpc; exact Wq.step (fun _ q => XS.ishr X.here hx rfl hd rfl q) k
theorem Ow.iushr (X : Stand p l e R s m args below meth c T locs cells slots) (hx : p.tables.exec = Jvm.exec) {pc : Nat} {ls : Array Slot} {st : List Value} {pc' : Nat} {x : Int32} {y : Int32} {z : Int32} (hd : decode c.code pc = .ok (.iushr, 1)) (hz : (x.toUInt32 >>> (y &&& 31).toUInt32).toInt32 = z) (k : Wq p e below En Q (T.setTop (mkF m pc' ls (.int z :: st)))) (hpc : pc + 1 = pc' := by rfl) : Wq p e below En Q (T.setTop (mkF m pc ls (.int y :: .int x :: st))) := by subst hz hpc; exact Wq.step (fun _ q => XS.iushr X.here hx rfl hd rfl q) k
theorem Ow.lshl (X : Stand p l e R s m args below meth c T locs cells slots) (hx : p.tables.exec = Jvm.exec) {pc : Nat} {ls : Array Slot} {st : List Value} {pc' : Nat} {x : Int64} {y : Int32} {z : Int64} (hd : decode c.code pc = .ok (.lshl, 1)) (hz : x <<< (y &&& 0x3f).toInt64 = z) (k : Wq p e below En Q (T.setTop (mkF m pc' ls (.long z :: st)))) (hpc : pc + 1 = pc' := by rfl) : Wq p e below En Q (T.setTop (mkF m pc ls (.int y :: .long x :: st))) := by subst hz hpc; exact Wq.step (fun _ q => XS.lshl X.here hx rfl hd rfl q) k
theorem Ow.lshr (X : Stand p l e R s m args below meth c T locs cells slots) (hx : p.tables.exec = Jvm.exec) {pc : Nat} {ls : Array Slot} {st : List Value} {pc' : Nat} {x : Int64} {y : Int32} {z : Int64} (hd : decode c.code pc = .ok (.lshr, 1)) (hz : x >>> (y &&& 0x3f).toInt64 = z) (k : Wq p e below En Q (T.setTop (mkF m pc' ls (.long z :: st)))) (hpc : pc + 1 = pc' := by rfl) : Wq p e below En Q (T.setTop (mkF m pc ls (.int y :: .long x :: st))) := by subst hz hpc; exact Wq.step (fun _ q => XS.lshr X.here hx rfl hd rfl q) k
theorem Ow.lushr (X : Stand p l e R s m args below meth c T locs cells slots) (hx : p.tables.exec = Jvm.exec) {pc : Nat} {ls : Array Slot} {st : List Value} {pc' : Nat} {x : Int64} {y : Int32} {z : Int64} (hd : decode c.code pc = .ok (.lushr, 1)) (hz : (x.toUInt64 >>> (y &&& 0x3f).toInt64.toUInt64).toInt64 = z) (k : Wq p e below En Q (T.setTop (mkF m pc' ls (.long z :: st)))) (hpc : pc + 1 = pc' := by rfl) : Wq p e below En Q (T.setTop (mkF m pc ls (.int y :: .long x :: st))) := by subst hz hpc; exact Wq.step (fun _ q => XS.lushr X.here hx rfl hd rfl q) k
theorem Ow.lcmp (X : Stand p l e R s m args below meth c T locs cells slots) (hx : p.tables.exec = Jvm.exec) {pc : Nat} {ls : Array Slot} {st : List Value} {pc' : Nat} {x y : Int64} (hd : decode c.code pc = .ok (.lcmp, 1))  (k : Wq p e below En Q (T.setTop (mkF m pc' ls (.int (lcmpW x y) :: st)))) (hpc : pc + 1 = pc' := by rfl) : Wq p e below En Q (T.setTop (mkF m pc ls (.long y :: .long x :: st))) := by subst hpc; exact Wq.step (fun _ q => XS.lcmp X.here hx rfl hd rfl q) k
theorem Ow.idiv (X : Stand p l e R s m args below meth c T locs cells slots) (hx : p.tables.exec = Jvm.exec) {pc : Nat} {ls : Array Slot} {st : List Value} {pc' : Nat} {x y z : Int32} (hd : decode c.code pc = .ok (.idiv, 1)) (hy : y ≠ 0) (hz : x / y = z) (k : Wq p e below En Q (T.setTop (mkF m pc' ls (.int z :: st)))) (hpc : pc + 1 = pc' := by rfl) : Wq p e below En Q (T.setTop (mkF m pc ls (.int y :: .int x :: st))) := by subst hz hpc; exact Wq.step (fun _ q => XS.idiv X.here hx rfl hd rfl hy q) k
theorem Ow.ldiv (X : Stand p l e R s m args below meth c T locs cells slots) (hx : p.tables.exec = Jvm.exec) {pc : Nat} {ls : Array Slot} {st : List Value} {pc' : Nat} {x y z : Int64} (hd : decode c.code pc = .ok (.ldiv, 1)) (hy : y ≠ 0) (hz : x / y = z) (k : Wq p e below En Q (T.setTop (mkF m pc' ls (.long z :: st)))) (hpc : pc + 1 = pc' := by rfl) : Wq p e below En Q (T.setTop (mkF m pc ls (.long y :: .long x :: st))) := by subst hz hpc; exact Wq.step (fun _ q => XS.ldiv X.here hx rfl hd rfl hy q) k
theorem Ow.irem (X : Stand p l e R s m args below meth c T locs cells slots) (hx : p.tables.exec = Jvm.exec) {pc : Nat} {ls : Array Slot} {st : List Value} {pc' : Nat} {x y z : Int32} (hd : decode c.code pc = .ok (.irem, 1)) (hy : y ≠ 0) (hz : x % y = z) (k : Wq p e below En Q (T.setTop (mkF m pc' ls (.int z :: st)))) (hpc : pc + 1 = pc' := by rfl) : Wq p e below En Q (T.setTop (mkF m pc ls (.int y :: .int x :: st))) := by subst hz hpc; exact Wq.step (fun _ q => iremM X hx rfl hd rfl hy q) k
theorem Ow.lrem (X : Stand p l e R s m args below meth c T locs cells slots) (hx : p.tables.exec = Jvm.exec) {pc : Nat} {ls : Array Slot} {st : List Value} {pc' : Nat} {x y z : Int64} (hd : decode c.code pc = .ok (.lrem, 1)) (hy : y ≠ 0) (hz : x % y = z) (k : Wq p e below En Q (T.setTop (mkF m pc' ls (.long z :: st)))) (hpc : pc + 1 = pc' := by rfl) : Wq p e below En Q (T.setTop (mkF m pc ls (.long y :: .long x :: st))) := by
  rw [← lrem_mod] at hz
  subst hz hpc
  exact Wq.step (fun _ q => XS.lrem X.here hx rfl hd rfl hy q) k
theorem Ow.iinc (X : Stand p l e R s m args below meth c T locs cells slots) (hx : p.tables.exec = Jvm.exec) {pc : Nat} {ls : Array Slot} {st : List Value} {pc' : Nat} {i : Nat} {cst : Int} {x : Int32} {l' : Array Slot} (hd : decode c.code pc = .ok (.iinc i cst, 3)) (hl : ls[i]? = some (.val (.int x))) (hl' : storeLocals ls i (.int (x + Int32.ofInt cst)) = some l') (k : Wq p e below En Q (T.setTop (mkF m pc' l' st))) (hpc : pc + 3 = pc' := by rfl) : Wq p e below En Q (T.setTop (mkF m pc ls st)) := by subst hpc; exact Wq.step (fun _ q => XS.iinc X.here hx rfl hd hl hl' q) k
theorem Ow.dup (X : Stand p l e R s m args below meth c T locs cells slots) (hx : p.tables.exec = Jvm.exec) {pc : Nat} {ls : Array Slot} {st : List Value} {pc' : Nat} {x : Value} (hd : decode c.code pc = .ok (.dup, 1)) (hc : x.category = 1) (k : Wq p e below En Q (T.setTop (mkF m pc' ls (x :: x :: st)))) (hpc : pc + 1 = pc' := by rfl) : Wq p e below En Q (T.setTop (mkF m pc ls (x :: st))) := by subst hpc; exact Wq.step (fun _ q => XS.dup X.here hx rfl hd rfl hc q) k
theorem Ow.pop (X : Stand p l e R s m args below meth c T locs cells slots) (hx : p.tables.exec = Jvm.exec) {pc : Nat} {ls : Array Slot} {st : List Value} {pc' : Nat} {x : Value} (hd : decode c.code pc = .ok (.pop, 1)) (hc : x.category = 1) (k : Wq p e below En Q (T.setTop (mkF m pc' ls st))) (hpc : pc + 1 = pc' := by rfl) : Wq p e below En Q (T.setTop (mkF m pc ls (x :: st))) := by subst hpc; exact Wq.step (fun _ q => XS.pop X.here hx rfl hd rfl hc q) k
theorem Ow.dupX1 (X : Stand p l e R s m args below meth c T locs cells slots) (hx : p.tables.exec = Jvm.exec) {pc : Nat} {ls : Array Slot} {st : List Value} {pc' : Nat} {x y : Value} (hd : decode c.code pc = .ok (.dup_x1, 1)) (hc : x.category = 1) (hc' : y.category = 1) (k : Wq p e below En Q (T.setTop (mkF m pc' ls (x :: y :: x :: st)))) (hpc : pc + 1 = pc' := by rfl) : Wq p e below En Q (T.setTop (mkF m pc ls (x :: y :: st))) := by subst hpc; exact Wq.step (fun _ q => XS.dupX1 X.here hx rfl hd rfl hc hc' q) k
theorem Ow.swap (X : Stand p l e R s m args below meth c T locs cells slots) (hx : p.tables.exec = Jvm.exec) {pc : Nat} {ls : Array Slot} {st : List Value} {pc' : Nat} {x y : Value} (hd : decode c.code pc = .ok (.swap, 1)) (hc : x.category = 1) (hc' : y.category = 1) (k : Wq p e below En Q (T.setTop (mkF m pc' ls (y :: x :: st)))) (hpc : pc + 1 = pc' := by rfl) : Wq p e below En Q (T.setTop (mkF m pc ls (x :: y :: st))) := by subst hpc; exact Wq.step (fun _ q => XS.swap X.here hx rfl hd rfl hc hc' q) k
theorem Ow.dup2 (X : Stand p l e R s m args below meth c T locs cells slots) (hx : p.tables.exec = Jvm.exec) {pc : Nat} {ls : Array Slot} {st : List Value} {pc' : Nat} {x y : Value} (hd : decode c.code pc = .ok (.dup2, 1)) (hc : x.category = 1) (hc' : y.category = 1) (k : Wq p e below En Q (T.setTop (mkF m pc' ls (x :: y :: x :: y :: st)))) (hpc : pc + 1 = pc' := by rfl) : Wq p e below En Q (T.setTop (mkF m pc ls (x :: y :: st))) := by subst hpc; exact Wq.step (fun _ q => Jvm.Free.XT.dup2 X.here hx rfl hd rfl hc hc' q) k
theorem Ow.dup2L (X : Stand p l e R s m args below meth c T locs cells slots) (hx : p.tables.exec = Jvm.exec) {pc : Nat} {ls : Array Slot} {st : List Value} {pc' : Nat} {x : Int64} (hd : decode c.code pc = .ok (.dup2, 1))  (k : Wq p e below En Q (T.setTop (mkF m pc' ls (.long x :: .long x :: st)))) (hpc : pc + 1 = pc' := by rfl) : Wq p e below En Q (T.setTop (mkF m pc ls (.long x :: st))) := by subst hpc; exact Wq.step (fun _ q => Jvm.Free.XT.dup2L X.here hx rfl hd rfl q) k
theorem Ow.goto (X : Stand p l e R s m args below meth c T locs cells slots) (hx : p.tables.exec = Jvm.exec) {pc : Nat} {ls : Array Slot} {st : List Value} {o : Int} {pc' : Nat} (hd : decode c.code pc = .ok (.goto o, 3)) (ho : 0 ≤ (pc : Int) + o) (hp : ((pc : Int) + o).toNat = pc') (k : Wq p e below En Q (T.setTop (mkF m pc' ls st))) : Wq p e below En Q (T.setTop (mkF m pc ls st)) := Wq.step (fun _ q => XS.goto X.here hx rfl rfl hd ho hp q) k
theorem Ow.ifYes (X : Stand p l e R s m args below meth c T locs cells slots) (hx : p.tables.exec = Jvm.exec) {pc : Nat} {ls : Array Slot} {st : List Value} {cd : ClassFile.Cond} {x : Int32} {o : Int} {pc' : Nat} (hd : decode c.code pc = .ok (.ifCond cd o, 3)) (hc : ifCond.holds cd x = true) (ho : 0 ≤ (pc : Int) + o) (hp : ((pc : Int) + o).toNat = pc') (k : Wq p e below En Q (T.setTop (mkF m pc' ls st))) : Wq p e below En Q (T.setTop (mkF m pc ls (.int x :: st))) := Wq.step (fun _ q => XS.ifYes X.here hx rfl rfl hd rfl hc ho hp q) k
theorem Ow.ifNo (X : Stand p l e R s m args below meth c T locs cells slots) (hx : p.tables.exec = Jvm.exec) {pc : Nat} {ls : Array Slot} {st : List Value} {pc' : Nat} {cd : ClassFile.Cond} {x : Int32} {o : Int} (hd : decode c.code pc = .ok (.ifCond cd o, 3)) (hc : ifCond.holds cd x = false) (k : Wq p e below En Q (T.setTop (mkF m pc' ls st))) (hpc : pc + 3 = pc' := by rfl) : Wq p e below En Q (T.setTop (mkF m pc ls (.int x :: st))) := by subst hpc; exact Wq.step (fun _ q => XS.ifNo X.here hx rfl hd rfl hc q) k
theorem Ow.icmpYes (X : Stand p l e R s m args below meth c T locs cells slots) (hx : p.tables.exec = Jvm.exec) {pc : Nat} {ls : Array Slot} {st : List Value} {cd : ClassFile.Cond} {x y : Int32} {o : Int} {pc' : Nat} (hd : decode c.code pc = .ok (.if_icmp cd o, 3)) (hc : if_icmp.holds cd x y = true) (ho : 0 ≤ (pc : Int) + o) (hp : ((pc : Int) + o).toNat = pc') (k : Wq p e below En Q (T.setTop (mkF m pc' ls st))) : Wq p e below En Q (T.setTop (mkF m pc ls (.int y :: .int x :: st))) := Wq.step (fun _ q => XS.icmpYes X.here hx rfl rfl hd rfl hc ho hp q) k
theorem Ow.icmpNo (X : Stand p l e R s m args below meth c T locs cells slots) (hx : p.tables.exec = Jvm.exec) {pc : Nat} {ls : Array Slot} {st : List Value} {pc' : Nat} {cd : ClassFile.Cond} {x y : Int32} {o : Int} (hd : decode c.code pc = .ok (.if_icmp cd o, 3)) (hc : if_icmp.holds cd x y = false) (k : Wq p e below En Q (T.setTop (mkF m pc' ls st))) (hpc : pc + 3 = pc' := by rfl) : Wq p e below En Q (T.setTop (mkF m pc ls (.int y :: .int x :: st))) := by subst hpc; exact Wq.step (fun _ q => XS.icmpNo X.here hx rfl hd rfl hc q) k
theorem Ow.ifnullYes (X : Stand p l e R s m args below meth c T locs cells slots) (hx : p.tables.exec = Jvm.exec) {pc : Nat} {ls : Array Slot} {st : List Value} {o : Int} {pc' : Nat} (hd : decode c.code pc = .ok (.ifnull o, 3)) (ho : 0 ≤ (pc : Int) + o) (hp : ((pc : Int) + o).toNat = pc') (k : Wq p e below En Q (T.setTop (mkF m pc' ls st))) : Wq p e below En Q (T.setTop (mkF m pc ls (.null :: st))) := Wq.step (fun _ q => XS.ifnullYes X.here hx rfl rfl hd rfl ho hp q) k
theorem Ow.ifnullNo (X : Stand p l e R s m args below meth c T locs cells slots) (hx : p.tables.exec = Jvm.exec) {pc : Nat} {ls : Array Slot} {st : List Value} {pc' : Nat} {o : Int} {b : Addr} (hd : decode c.code pc = .ok (.ifnull o, 3))  (k : Wq p e below En Q (T.setTop (mkF m pc' ls st))) (hpc : pc + 3 = pc' := by rfl) : Wq p e below En Q (T.setTop (mkF m pc ls (.ref b :: st))) := by subst hpc; exact Wq.step (fun _ q => XS.ifnullNo X.here hx rfl hd rfl q) k
theorem Ow.ifnonnullYes (X : Stand p l e R s m args below meth c T locs cells slots) (hx : p.tables.exec = Jvm.exec) {pc : Nat} {ls : Array Slot} {st : List Value} {o : Int} {b : Addr} {pc' : Nat} (hd : decode c.code pc = .ok (.ifnonnull o, 3)) (ho : 0 ≤ (pc : Int) + o) (hp : ((pc : Int) + o).toNat = pc') (k : Wq p e below En Q (T.setTop (mkF m pc' ls st))) : Wq p e below En Q (T.setTop (mkF m pc ls (.ref b :: st))) := Wq.step (fun _ q => XS.ifnonnullYes X.here hx rfl rfl hd rfl ho hp q) k
theorem Ow.ifnonnullNo (X : Stand p l e R s m args below meth c T locs cells slots) (hx : p.tables.exec = Jvm.exec) {pc : Nat} {ls : Array Slot} {st : List Value} {pc' : Nat} {o : Int} (hd : decode c.code pc = .ok (.ifnonnull o, 3))  (k : Wq p e below En Q (T.setTop (mkF m pc' ls st))) (hpc : pc + 3 = pc' := by rfl) : Wq p e below En Q (T.setTop (mkF m pc ls (.null :: st))) := by subst hpc; exact Wq.step (fun _ q => XS.ifnonnullNo X.here hx rfl hd rfl q) k
theorem Ow.acmp (X : Stand p l e R s m args below meth c T locs cells slots) (hx : p.tables.exec = Jvm.exec) {pc : Nat} {ls : Array Slot} {st : List Value} {cd : ACond} {x y : Value} {o : Int} {pc' : Nat} {same : Bool} (hd : decode c.code pc = .ok (.if_acmp cd o, 3)) (h1 : x.isRef = true) (h2 : y.isRef = true) (hq : decide (x = y) = same) (ho : 0 ≤ (pc : Int) + o) (hp : pc' = if acV cd same = true then ((pc : Int) + o).toNat else pc + 3) (k : Wq p e below En Q (T.setTop (mkF m pc' ls st))) : Wq p e below En Q (T.setTop (mkF m pc ls (y :: x :: st))) := Wq.step (fun _ q => Jvm.RoadKit.acmp (g := mkF m pc ls (y :: x :: st)) X hx rfl h1 h2 rfl hd rfl hq ho hp q) k
theorem Ow.ldcInt (X : Stand p l e R s m args below meth c T locs cells slots) (hx : p.tables.exec = Jvm.exec) (hZ : Z.Warmed39 s.vm) {a0 : Array Value} {own : String} {index : Nat} {v : Int32} {pc pc' : Nat} {ls : Array Slot} {st : List Value} (hown : s.vm.findClass own = some m.cls) (w : (Cond.constant own index v).before a0 Z = true) (hd : decode c.code pc = .ok (.ldc index, 2)) (k : Wq p e below En Q (T.setTop (mkF m pc' ls (.int v :: st)))) (hpc : pc + 2 = pc' := by rfl) : Wq p e below En Q (T.setTop (mkF m pc ls st)) := by subst hpc; exact Wq.step (fun _ q => X.ldcInt hx hown (mvT hZ w) (g := mkF m pc ls st) rfl hd _ q) k
theorem Ow.ldcwInt (X : Stand p l e R s m args below meth c T locs cells slots) (hx : p.tables.exec = Jvm.exec) (hZ : Z.Warmed39 s.vm) {a0 : Array Value} {own : String} {index : Nat} {v : Int32} {pc pc' : Nat} {ls : Array Slot} {st : List Value} (hown : s.vm.findClass own = some m.cls) (w : (Cond.constant own index v).before a0 Z = true) (hd : decode c.code pc = .ok (.ldc_w index, 3)) (k : Wq p e below En Q (T.setTop (mkF m pc' ls (.int v :: st)))) (hpc : pc + 3 = pc' := by rfl) : Wq p e below En Q (T.setTop (mkF m pc ls st)) := by subst hpc; exact Wq.step (fun _ q => X.ldcwInt hx hown (mvT hZ w) (g := mkF m pc ls st) rfl hd _ q) k
theorem Ow.ldc2Long (X : Stand p l e R s m args below meth c T locs cells slots) (hx : p.tables.exec = Jvm.exec) (hZ : Z.Warmed39 s.vm) {a0 : Array Value} {own : String} {index : Nat} {v : Int64} {pc pc' : Nat} {ls : Array Slot} {st : List Value} (hown : s.vm.findClass own = some m.cls) (w : (Cond.constantLong own index v).before a0 Z = true) (hd : decode c.code pc = .ok (.ldc2_w index, 3)) (k : Wq p e below En Q (T.setTop (mkF m pc' ls (.long v :: st)))) (hpc : pc + 3 = pc' := by rfl) : Wq p e below En Q (T.setTop (mkF m pc ls st)) := by subst hpc; exact Wq.step (fun _ q => X.ldc2Long hx hown (mvT hZ w) (g := mkF m pc ls st) rfl hd _ q) k
theorem Ow.ldI (X : Stand p l e R s m args below meth c T locs cells slots) (hx : p.tables.exec = Jvm.exec) (hZ : Z.Warmed39 s.vm) (eT : T.heap = h) (V : Al Z h a .int vs) {pc pc' : Nat} {ls : Array Slot} {st : List Value} {j : Int32} {i : Nat} (hd : decode c.code pc = .ok (.iaload, 1)) (hj : ¬ j < 0) (hi : j.toNatClampNeg = i) (hv : vs[i]? = some v) (k : Wq p e below En Q (T.setTop (mkF m pc' ls (v :: st)))) (hpc : pc + 1 = pc' := by rfl) : Wq p e below En Q (T.setTop (mkF m pc ls (.int j :: .ref a :: st))) := by subst hpc; exact Wq.step (fun _ q => Jvm.OwnW.ldI X hx hZ eT V hj hi hv (g := mkF m pc ls (.int j :: .ref a :: st)) rfl rfl hd q) k
theorem Ow.ldJ (X : Stand p l e R s m args below meth c T locs cells slots) (hx : p.tables.exec = Jvm.exec) (hZ : Z.Warmed39 s.vm) (eT : T.heap = h) (V : Al Z h a .long vs) {pc pc' : Nat} {ls : Array Slot} {st : List Value} {j : Int32} {i : Nat} (hd : decode c.code pc = .ok (.laload, 1)) (hj : ¬ j < 0) (hi : j.toNatClampNeg = i) (hv : vs[i]? = some v) (k : Wq p e below En Q (T.setTop (mkF m pc' ls (v :: st)))) (hpc : pc + 1 = pc' := by rfl) : Wq p e below En Q (T.setTop (mkF m pc ls (.int j :: .ref a :: st))) := by subst hpc; exact Wq.step (fun _ q => Jvm.OwnW.ldJ X hx hZ eT V hj hi hv (g := mkF m pc ls (.int j :: .ref a :: st)) rfl rfl hd q) k
theorem Ow.ldC (X : Stand p l e R s m args below meth c T locs cells slots) (hx : p.tables.exec = Jvm.exec) (hZ : Z.Warmed39 s.vm) (eT : T.heap = h) (V : Al Z h a .char vs) {pc pc' : Nat} {ls : Array Slot} {st : List Value} {j : Int32} {i : Nat} (hd : decode c.code pc = .ok (.caload, 1)) (hj : ¬ j < 0) (hi : j.toNatClampNeg = i) (hv : vs[i]? = some v) (k : Wq p e below En Q (T.setTop (mkF m pc' ls (v :: st)))) (hpc : pc + 1 = pc' := by rfl) : Wq p e below En Q (T.setTop (mkF m pc ls (.int j :: .ref a :: st))) := by subst hpc; exact Wq.step (fun _ q => Jvm.OwnW.ldC X hx hZ eT V hj hi hv (g := mkF m pc ls (.int j :: .ref a :: st)) rfl rfl hd q) k
theorem Ow.ldB (X : Stand p l e R s m args below meth c T locs cells slots) (hx : p.tables.exec = Jvm.exec) (hZ : Z.Warmed39 s.vm) (eT : T.heap = h) (V : Al Z h a .byte vs) {pc pc' : Nat} {ls : Array Slot} {st : List Value} {j : Int32} {i : Nat} (hd : decode c.code pc = .ok (.baload, 1)) (hj : ¬ j < 0) (hi : j.toNatClampNeg = i) (hv : vs[i]? = some v) (k : Wq p e below En Q (T.setTop (mkF m pc' ls (v :: st)))) (hpc : pc + 1 = pc' := by rfl) : Wq p e below En Q (T.setTop (mkF m pc ls (.int j :: .ref a :: st))) := by subst hpc; exact Wq.step (fun _ q => Jvm.OwnW.ldB X hx hZ eT V hj hi hv (g := mkF m pc ls (.int j :: .ref a :: st)) rfl rfl hd q) k
theorem Ow.ldZ (X : Stand p l e R s m args below meth c T locs cells slots) (hx : p.tables.exec = Jvm.exec) (hZ : Z.Warmed39 s.vm) (eT : T.heap = h) (V : Al Z h a .boolean vs) {pc pc' : Nat} {ls : Array Slot} {st : List Value} {j : Int32} {i : Nat} (hd : decode c.code pc = .ok (.baload, 1)) (hj : ¬ j < 0) (hi : j.toNatClampNeg = i) (hv : vs[i]? = some v) (k : Wq p e below En Q (T.setTop (mkF m pc' ls (v :: st)))) (hpc : pc + 1 = pc' := by rfl) : Wq p e below En Q (T.setTop (mkF m pc ls (.int j :: .ref a :: st))) := by subst hpc; exact Wq.step (fun _ q => Jvm.OwnW.ldZ X hx hZ eT V hj hi hv (g := mkF m pc ls (.int j :: .ref a :: st)) rfl rfl hd q) k
theorem Ow.ldR (X : Stand p l e R s m args below meth c T locs cells slots) (hx : p.tables.exec = Jvm.exec) (hZ : Z.Warmed39 s.vm) (eT : T.heap = h) (V : Al Z h a ty vs) (hty : ty.isReference = true) {pc pc' : Nat} {ls : Array Slot} {st : List Value} {j : Int32} {i : Nat} (hd : decode c.code pc = .ok (.aaload, 1)) (hj : ¬ j < 0) (hi : j.toNatClampNeg = i) (hv : vs[i]? = some v) (k : Wq p e below En Q (T.setTop (mkF m pc' ls (v :: st)))) (hpc : pc + 1 = pc' := by rfl) : Wq p e below En Q (T.setTop (mkF m pc ls (.int j :: .ref a :: st))) := by
  subst hpc
  obtain ⟨cl, A, r⟩ := V
  exact Wq.step (fun _ q => X.aaload hx (by rw [eT]; exact A.1) (State.isArrayOf_alike hZ.alike A.2.1) hty A.2.2 (al_in r hj hi (al_lt hv)) (al_at r hi hv) (g := mkF m pc ls (.int j :: .ref a :: st)) rfl rfl hd _ q) k
theorem Ow.lenA (X : Stand p l e R s m args below meth c T locs cells slots) (hx : p.tables.exec = Jvm.exec) (hZ : Z.Warmed39 s.vm) (eT : T.heap = h) (V : Al Z h a ty vs) {pc pc' : Nat} {ls : Array Slot} {st : List Value} {n : Int32} (hd : decode c.code pc = .ok (.arraylength, 1)) (hn : vs.length.toInt32 = n) (k : Wq p e below En Q (T.setTop (mkF m pc' ls (.int n :: st)))) (hpc : pc + 1 = pc' := by rfl) : Wq p e below En Q (T.setTop (mkF m pc ls (.ref a :: st))) := by subst hpc; exact Wq.step (fun _ q => Jvm.OwnW.lenA X hx hZ eT V hn (g := mkF m pc ls (.ref a :: st)) rfl rfl hd q) k
end Base
end Jvm.OwnW
namespace Jvm.Pilot.@@N@@
open Jvm Jvm.ClassFile Sem Op Lib Jvm.Free Jvm.Stand Jvm.LawKit Jvm.RoadKit Jvm.OwnW Bundle Jvm.Pilot.@@N@@.Jvm.D
theorem kw16 {Z : State} {a0 : Array Value} (hw : ∀ d ∈ tables_1, d.before a0 Z = true) : (Jvm.Cond.initialized "java/lang/String").before a0 Z = true := hw _ (List.mem_of_getElem? (i := 16) rfl)
theorem kw17 {Z : State} {a0 : Array Value} (hw : ∀ d ∈ tables_1, d.before a0 Z = true) : (Jvm.Cond.instantiable "java/lang/String" (4 : Nat)).before a0 Z = true := hw _ (List.mem_of_getElem? (i := 17) rfl)
theorem kw0 {Z : State} {a0 : Array Value} (hw : ∀ d ∈ tables_1, d.before a0 Z = true) : (Jvm.Cond.arrayClass Jvm.ClassFile.FieldType.byte).before a0 Z = true := hw _ (List.mem_of_getElem? (i := 0) rfl)
theorem kw18 {Z : State} {a0 : Array Value} (hw : ∀ d ∈ tables_1, d.before a0 Z = true) : (Jvm.Cond.laysFinal "java/lang/String" "java/lang/String" "value" "[B").before a0 Z = true := hw _ (List.mem_of_getElem? (i := 18) rfl)
theorem kw19 {Z : State} {a0 : Array Value} (hw : ∀ d ∈ tables_1, d.before a0 Z = true) : (Jvm.Cond.laysFinal "java/lang/String" "java/lang/String" "coder" "B").before a0 Z = true := hw _ (List.mem_of_getElem? (i := 19) rfl)
theorem kw20 {Z : State} {a0 : Array Value} (hw : ∀ d ∈ tables_1, d.before a0 Z = true) : (Jvm.Cond.soleField "java/lang/String" "value").before a0 Z = true := hw _ (List.mem_of_getElem? (i := 20) rfl)
theorem kw21 {Z : State} {a0 : Array Value} (hw : ∀ d ∈ tables_1, d.before a0 Z = true) : (Jvm.Cond.soleField "java/lang/String" "coder").before a0 Z = true := hw _ (List.mem_of_getElem? (i := 21) rfl)
theorem own_strs {Z : State} {a0 : Array Value} (hw : ∀ d ∈ tables_1, d.before a0 Z = true) : ∀ a ∈ Bundle.stringAtoms, a.before a0 Z = true := by
  intro d hd
  simp only [Bundle.stringAtoms, List.mem_cons, List.not_mem_nil, or_false] at hd
  rcases hd with rfl | rfl | rfl | rfl | rfl | rfl | rfl
  · exact kw16 hw
  · exact kw17 hw
  · exact kw0 hw
  · exact kw18 hw
  · exact kw19 hw
  · exact kw20 hw
  · exact kw21 hw
theorem own_nb (y : Int32) : narrow .byte (.int y.toInt8.toInt32) = .int y.toInt8.toInt32 := by
  show Value.int (y.toInt8.toInt32.toInt8.toInt32) = _
  rw [Int8.toInt8_toInt32]
theorem own_bb (P : Int32 → Bool) (h : ∀ v : BitVec 8, P (Int8.ofBitVec v).toInt32 = true) (x : Int32) : P x.toInt8.toInt32 = true := h x.toInt8.toBitVec
theorem kw12 {Z : State} {a0 : Array Value} (hw : ∀ d ∈ tables_1, d.before a0 Z = true) : (Jvm.Cond.methodLink "java/lang/Record" (1 : Nat) ({ cls := "java/lang/Object", name := "<init>", desc := "()V" } : Jvm.MethodName)).before a0 Z = true := hw _ (List.mem_of_getElem? (i := 12) rfl)
theorem kw13 {Z : State} {a0 : Array Value} (hw : ∀ d ∈ tables_1, d.before a0 Z = true) : (Jvm.Cond.instanceMethod ({ cls := "java/lang/Object", name := "<init>", desc := "()V" } : Jvm.MethodName)).before a0 Z = true := hw _ (List.mem_of_getElem? (i := 13) rfl)
theorem kw14 {Z : State} {a0 : Array Value} (hw : ∀ d ∈ tables_1, d.before a0 Z = true) : (Jvm.Cond.code ({ cls := "java/lang/Object", name := "<init>", desc := "()V" } : Jvm.MethodName) object_method_1_code (1 : Nat) (Option.none : Option Jvm.ClassFile.FieldType)).before a0 Z = true := hw _ (List.mem_of_getElem? (i := 14) rfl)
theorem d_jdk_30_method_1_0 : decode jdk_30_method_1_code 0 = .ok (.aload_n 0, 1) := by decide +kernel
theorem d_jdk_30_method_1_1 : decode jdk_30_method_1_code 1 = .ok (.invokespecial 1, 3) := by decide +kernel
theorem pn1 : plainName "java/lang/Record" = true := by first | (simp [plainName, overriddenIn]; done) | decide +kernel
theorem ef_rec (m : MethodId) (thisrec : Addr) : entryFrame m #[(.ref thisrec)] 1 = mkF m 0 #[.val (.ref thisrec)] [] := by first | (simp [entryFrame, mkF, argsToLocals, Value.category]; done) | rfl
def Q_rec (Z : State) (thisrec : Addr) (h0 : Heap) (n0 : Nat) (v : Option Value) (h : Heap) (L : List Loc) : Prop := v = none ∧ Fr n0 L ∧ h = h0
theorem d_jdk_30_method_1_4 : decode jdk_30_method_1_code 4 = .ok (.return_, 1) := by decide +kernel
abbrev mt1 : MethodName := ⟨"java/lang/Record", "<init>", "()V"⟩
set_option maxRecDepth 65536 in
set_option maxHeartbeats 40000000 in
theorem rm_rec (l : Launch) (Z : State) (a0 : Array Value) (hw : ∀ d ∈ tables_1, d.before a0 Z = true) (ws : List Jvm.Cond) (thisrec : Addr) (h0 : Heap) (n0 : Nat) (Z0 : n0 ≤ h0.size)  :
    MetFree l mt1 (head1 (Jvm.Cond.code mt1 jdk_30_method_1_code 1 none :: ws) ({ frames := 1, cells := 0, slots := 0, locals := 12 } : Room)) (fun a U => a = #[(.ref thisrec)] ∧ Z.Warmed39 U.vm ∧ U.heap = h0) (fun _ _ _ _ _ => True) (fun _ U o U' => ∃ v L, o = .returned v ∧ (Q_rec Z thisrec h0 n0) v U'.heap L ∧ FrameEnd U o U' L ({ frames := 1, cells := 0, slots := 0, locals := 12 } : Room).cells ({ frames := 1, cells := 0, slots := 0, locals := 12 } : Room).slots) := by
  refine MetFree.of_bodySF (plainFor_of_name pn1) hisR ?_
  intro p e s m args below meth c s₁ Bd hml0 hP hK
  obtain ⟨rfl, hZ, hh⟩ := hP
  have hx := Bd.exec
  have hby := Bd.bytes
  have hml : c.maxLocals = 1 := hml0
  have hown : s.vm.findClass "java/lang/Record" = some m.cls := findClass_of_methodNamed Bd.named
  have hnm := (name_of_methodNamed Bd.named Bd.method).1
  have X0 : Stand p l e ({ frames := 1, cells := 0, slots := 0, locals := 12 } : Room) s m #[(.ref thisrec)] below meth c s₁ [] 0 0 := Stand.of_body Bd
  have e0 : s₁.heap = h0 := by rw [← hh, Bd.state]; rfl
  have N0 := Fr.nil n0
  refine Wq.step (p := p) (e := e) (below := below) (En := (fun o t L => FrameEnd s o t L ({ frames := 1, cells := 0, slots := 0, locals := 12 } : Room).cells ({ frames := 1, cells := 0, slots := 0, locals := 12 } : Room).slots)) (Q := (Q_rec Z thisrec h0 n0)) (fun t k => castTop (ef_rec m thisrec) k) ?_
  show Wq _ _ _ _ _ (s₁.setTop (mkF m 0 #[.val (.ref thisrec)] []))
  refine Ow.aloadN X0 hx (pc' := 1) (hb hby d_jdk_30_method_1_0) rfl rfl ?_
  obtain ⟨T1, X1, e1, st1⟩ := initO X0 hx hZ hown (kw12 hw) (kw13 hw) (kw14 hw) e0 (g := (mkF m 1 #[.val (.ref thisrec)] [(.ref thisrec)])) rfl (by rw [hml]; rfl) rfl (hb hby d_jdk_30_method_1_1) (by decide) (W := 0) (by show 2 * 0 + _ ≤ _; exact Nat.le_of_eq rfl) (by decide)
  refine Wq.step st1 ?_
  show Wq _ _ _ _ _ (T1.setTop (mkF m 4 #[.val (.ref thisrec)] []))
  exact Wq.ret X1 (BodyLoose.notSynchronized Bd) (rv := none) (fun _ => rfl) (fun _ hr => X1.returnOut hx Bd.returns (hb hby d_jdk_30_method_1_4) hr) (by decide) (by decide) ⟨rfl, N0, e1⟩
theorem d_jdk_31_method_11_0 : decode jdk_31_method_11_code 0 = .ok (.aload_n 0, 1) := by decide +kernel
theorem d_jdk_31_method_11_1 : decode jdk_31_method_11_code 1 = .ok (.ifnonnull 12, 3) := by decide +kernel
theorem d_jdk_31_method_11_13 : decode jdk_31_method_11_code 13 = .ok (.aload_n 0, 1) := by decide +kernel
theorem pn2 : plainName "java/util/Objects" = true := by first | (simp [plainName, overriddenIn]; done) | decide +kernel
theorem ef_rnn (m : MethodId) (arnn_1 : Addr) (arnn_2 : Addr) : entryFrame m #[(.ref arnn_1), (.ref arnn_2)] 2 = mkF m 0 #[.val (.ref arnn_1), .val (.ref arnn_2)] [] := by first | (simp [entryFrame, mkF, argsToLocals, Value.category]; done) | rfl
def Q_rnn (Z : State) (arnn_1 : Addr) (arnn_2 : Addr) (h0 : Heap) (n0 : Nat) (v : Option Value) (h : Heap) (L : List Loc) : Prop := v = some (.ref arnn_1) ∧ Fr n0 L ∧ h = h0
theorem d_jdk_31_method_11_14 : decode jdk_31_method_11_code 14 = .ok (.areturn, 1) := by decide +kernel
abbrev mt2 : MethodName := ⟨"java/util/Objects", "requireNonNull", "(Ljava/lang/Object;Ljava/lang/String;)Ljava/lang/Object;"⟩
set_option maxRecDepth 65536 in
set_option maxHeartbeats 40000000 in
theorem rm_rnn (l : Launch) (Z : State) (a0 : Array Value) (hw : ∀ d ∈ tables_1, d.before a0 Z = true) (ws : List Jvm.Cond) (arnn_1 : Addr) (arnn_2 : Addr) (h0 : Heap) (n0 : Nat) (Z0 : n0 ≤ h0.size)  :
    MetFree l mt2 (head1 (Jvm.Cond.code mt2 jdk_31_method_11_code 2 (some (.object "java/lang/Object")) :: ws) ({ frames := 0, cells := 0, slots := 0, locals := 0 } : Room)) (fun a U => a = #[(.ref arnn_1), (.ref arnn_2)] ∧ Z.Warmed39 U.vm ∧ U.heap = h0) (fun _ _ _ _ _ => True) (fun _ U o U' => ∃ v L, o = .returned v ∧ (Q_rnn Z arnn_1 arnn_2 h0 n0) v U'.heap L ∧ FrameEnd U o U' L ({ frames := 0, cells := 0, slots := 0, locals := 0 } : Room).cells ({ frames := 0, cells := 0, slots := 0, locals := 0 } : Room).slots) := by
  refine MetFree.of_bodySF (plainFor_of_name pn2) hisR ?_
  intro p e s m args below meth c s₁ Bd hml0 hP hK
  obtain ⟨rfl, hZ, hh⟩ := hP
  have hx := Bd.exec
  have hby := Bd.bytes
  have hml : c.maxLocals = 2 := hml0
  have hown : s.vm.findClass "java/util/Objects" = some m.cls := findClass_of_methodNamed Bd.named
  have hnm := (name_of_methodNamed Bd.named Bd.method).1
  have X0 : Stand p l e ({ frames := 0, cells := 0, slots := 0, locals := 0 } : Room) s m #[(.ref arnn_1), (.ref arnn_2)] below meth c s₁ [] 0 0 := Stand.of_body Bd
  have e0 : s₁.heap = h0 := by rw [← hh, Bd.state]; rfl
  have N0 := Fr.nil n0
  refine Wq.step (p := p) (e := e) (below := below) (En := (fun o t L => FrameEnd s o t L ({ frames := 0, cells := 0, slots := 0, locals := 0 } : Room).cells ({ frames := 0, cells := 0, slots := 0, locals := 0 } : Room).slots)) (Q := (Q_rnn Z arnn_1 arnn_2 h0 n0)) (fun t k => castTop (ef_rnn m arnn_1 arnn_2) k) ?_
  show Wq _ _ _ _ _ (s₁.setTop (mkF m 0 #[.val (.ref arnn_1), .val (.ref arnn_2)] []))
  refine Ow.aloadN X0 hx (pc' := 1) (hb hby d_jdk_31_method_11_0) rfl rfl ?_
  refine Ow.ifnonnullYes X0 hx (pc' := 13) (hb hby d_jdk_31_method_11_1) (by decide) (by decide) ?_
  refine Ow.aloadN X0 hx (pc' := 14) (hb hby d_jdk_31_method_11_13) rfl rfl ?_
  exact Wq.ret X0 (BodyLoose.notSynchronized Bd) (rv := some (.ref arnn_1)) (fun h => by rw [Bd.returns] at h; cases h) (fun _ hr => retOut X0 hx Bd.returns rfl (Or.inr (Or.inr (Or.inr (Or.inr ⟨rfl, rfl, rfl⟩)))) (hb hby d_jdk_31_method_11_14) hr) (by decide) (by decide) ⟨rfl, N0, e0⟩
theorem kw11 {Z : State} {a0 : Array Value} (hw : ∀ d ∈ tables_1, d.before a0 Z = true) : (Jvm.Cond.code ({ cls := "java/lang/Record", name := "<init>", desc := "()V" } : Jvm.MethodName) jdk_30_method_1_code (1 : Nat) (Option.none : Option Jvm.ClassFile.FieldType)).before a0 Z = true := hw _ (List.mem_of_getElem? (i := 11) rfl)
theorem kw10 {Z : State} {a0 : Array Value} (hw : ∀ d ∈ tables_1, d.before a0 Z = true) : (Jvm.Cond.initialized "java/lang/Record").before a0 Z = true := hw _ (List.mem_of_getElem? (i := 10) rfl)
theorem pd1 : parseMethodDescriptor "()V" = some ⟨[], none⟩ := by decide +kernel
theorem kw7 {Z : State} {a0 : Array Value} (hw : ∀ d ∈ tables_1, d.before a0 Z = true) : (Jvm.Cond.methodLink "com/example/meridian/meridian/wire/Frame" (1 : Nat) ({ cls := "java/lang/Record", name := "<init>", desc := "()V" } : Jvm.MethodName)).before a0 Z = true := hw _ (List.mem_of_getElem? (i := 7) rfl)
theorem kw8 {Z : State} {a0 : Array Value} (hw : ∀ d ∈ tables_1, d.before a0 Z = true) : (Jvm.Cond.instanceMethod ({ cls := "java/lang/Record", name := "<init>", desc := "()V" } : Jvm.MethodName)).before a0 Z = true := hw _ (List.mem_of_getElem? (i := 8) rfl)
theorem kw15 {Z : State} {a0 : Array Value} (hw : ∀ d ∈ tables_1, d.before a0 Z = true) : (Jvm.Cond.stringLink "com/example/meridian/meridian/wire/Frame" (7 : Nat) "body").before a0 Z = true := hw _ (List.mem_of_getElem? (i := 15) rfl)
theorem kw25 {Z : State} {a0 : Array Value} (hw : ∀ d ∈ tables_1, d.before a0 Z = true) : (Jvm.Cond.code ({ cls := "java/util/Objects", name := "requireNonNull", desc := "(Ljava/lang/Object;Ljava/lang/String;)Ljava/lang/Object;" } : Jvm.MethodName) jdk_31_method_11_code (2 : Nat) (Option.some (Jvm.ClassFile.FieldType.object "java/lang/Object"))).before a0 Z = true := hw _ (List.mem_of_getElem? (i := 25) rfl)
theorem kw24 {Z : State} {a0 : Array Value} (hw : ∀ d ∈ tables_1, d.before a0 Z = true) : (Jvm.Cond.initialized "java/util/Objects").before a0 Z = true := hw _ (List.mem_of_getElem? (i := 24) rfl)
theorem pd2 : parseMethodDescriptor "(Ljava/lang/Object;Ljava/lang/String;)Ljava/lang/Object;" = some ⟨[(.object "java/lang/Object"), (.object "java/lang/String")], some (.object "java/lang/Object")⟩ := by decide +kernel
theorem kw22 {Z : State} {a0 : Array Value} (hw : ∀ d ∈ tables_1, d.before a0 Z = true) : (Jvm.Cond.methodLink "com/example/meridian/meridian/wire/Frame" (9 : Nat) ({ cls := "java/util/Objects", name := "requireNonNull", desc := "(Ljava/lang/Object;Ljava/lang/String;)Ljava/lang/Object;" } : Jvm.MethodName)).before a0 Z = true := hw _ (List.mem_of_getElem? (i := 22) rfl)
theorem kw23 {Z : State} {a0 : Array Value} (hw : ∀ d ∈ tables_1, d.before a0 Z = true) : (Jvm.Cond.static ({ cls := "java/util/Objects", name := "requireNonNull", desc := "(Ljava/lang/Object;Ljava/lang/String;)Ljava/lang/Object;" } : Jvm.MethodName)).before a0 Z = true := hw _ (List.mem_of_getElem? (i := 23) rfl)
theorem kw27 {Z : State} {a0 : Array Value} (hw : ∀ d ∈ tables_1, d.before a0 Z = true) : (Jvm.Cond.laysFinal "com/example/meridian/meridian/wire/Frame" "com/example/meridian/meridian/wire/Frame" "flags" "B").before a0 Z = true := hw _ (List.mem_of_getElem? (i := 27) rfl)
theorem kw26 {Z : State} {a0 : Array Value} (hw : ∀ d ∈ tables_1, d.before a0 Z = true) : (Jvm.Cond.fieldLink "com/example/meridian/meridian/wire/Frame" (15 : Nat) "com/example/meridian/meridian/wire/Frame" "flags" "B").before a0 Z = true := hw _ (List.mem_of_getElem? (i := 26) rfl)
theorem kw2 {Z : State} {a0 : Array Value} (hw : ∀ d ∈ tables_1, d.before a0 Z = true) : (Jvm.Cond.instantiable "com/example/meridian/meridian/wire/Frame" (4 : Nat)).before a0 Z = true := hw _ (List.mem_of_getElem? (i := 2) rfl)
theorem kw29 {Z : State} {a0 : Array Value} (hw : ∀ d ∈ tables_1, d.before a0 Z = true) : (Jvm.Cond.laysFinal "com/example/meridian/meridian/wire/Frame" "com/example/meridian/meridian/wire/Frame" "status" "B").before a0 Z = true := hw _ (List.mem_of_getElem? (i := 29) rfl)
theorem kw31 {Z : State} {a0 : Array Value} (hw : ∀ d ∈ tables_1, d.before a0 Z = true) : (Jvm.Cond.laysFinal "com/example/meridian/meridian/wire/Frame" "com/example/meridian/meridian/wire/Frame" "id" "J").before a0 Z = true := hw _ (List.mem_of_getElem? (i := 31) rfl)
theorem kw33 {Z : State} {a0 : Array Value} (hw : ∀ d ∈ tables_1, d.before a0 Z = true) : (Jvm.Cond.laysFinal "com/example/meridian/meridian/wire/Frame" "com/example/meridian/meridian/wire/Frame" "body" "[B").before a0 Z = true := hw _ (List.mem_of_getElem? (i := 33) rfl)
theorem kw28 {Z : State} {a0 : Array Value} (hw : ∀ d ∈ tables_1, d.before a0 Z = true) : (Jvm.Cond.fieldLink "com/example/meridian/meridian/wire/Frame" (21 : Nat) "com/example/meridian/meridian/wire/Frame" "status" "B").before a0 Z = true := hw _ (List.mem_of_getElem? (i := 28) rfl)
theorem kw30 {Z : State} {a0 : Array Value} (hw : ∀ d ∈ tables_1, d.before a0 Z = true) : (Jvm.Cond.fieldLink "com/example/meridian/meridian/wire/Frame" (24 : Nat) "com/example/meridian/meridian/wire/Frame" "id" "J").before a0 Z = true := hw _ (List.mem_of_getElem? (i := 30) rfl)
theorem kw32 {Z : State} {a0 : Array Value} (hw : ∀ d ∈ tables_1, d.before a0 Z = true) : (Jvm.Cond.fieldLink "com/example/meridian/meridian/wire/Frame" (28 : Nat) "com/example/meridian/meridian/wire/Frame" "body" "[B").before a0 Z = true := hw _ (List.mem_of_getElem? (i := 32) rfl)
theorem d_prog_39_method_1_0 : decode prog_39_method_1_code 0 = .ok (.aload_n 0, 1) := by decide +kernel
theorem d_prog_39_method_1_1 : decode prog_39_method_1_code 1 = .ok (.invokespecial 1, 3) := by decide +kernel
theorem d_prog_39_method_1_4 : decode prog_39_method_1_code 4 = .ok (.aload 5, 2) := by decide +kernel
theorem d_prog_39_method_1_6 : decode prog_39_method_1_code 6 = .ok (.ldc 7, 2) := by decide +kernel
theorem d_prog_39_method_1_8 : decode prog_39_method_1_code 8 = .ok (.invokestatic 9, 3) := by decide +kernel
theorem d_prog_39_method_1_11 : decode prog_39_method_1_code 11 = .ok (.pop, 1) := by decide +kernel
theorem d_prog_39_method_1_12 : decode prog_39_method_1_code 12 = .ok (.aload_n 0, 1) := by decide +kernel
theorem d_prog_39_method_1_13 : decode prog_39_method_1_code 13 = .ok (.iload_n 1, 1) := by decide +kernel
theorem d_prog_39_method_1_14 : decode prog_39_method_1_code 14 = .ok (.putfield 15, 3) := by decide +kernel
theorem d_prog_39_method_1_17 : decode prog_39_method_1_code 17 = .ok (.aload_n 0, 1) := by decide +kernel
theorem d_prog_39_method_1_18 : decode prog_39_method_1_code 18 = .ok (.iload_n 2, 1) := by decide +kernel
theorem d_prog_39_method_1_19 : decode prog_39_method_1_code 19 = .ok (.putfield 21, 3) := by decide +kernel
theorem d_prog_39_method_1_22 : decode prog_39_method_1_code 22 = .ok (.aload_n 0, 1) := by decide +kernel
theorem d_prog_39_method_1_23 : decode prog_39_method_1_code 23 = .ok (.lload_n 3, 1) := by decide +kernel
theorem d_prog_39_method_1_24 : decode prog_39_method_1_code 24 = .ok (.putfield 24, 3) := by decide +kernel
theorem d_prog_39_method_1_27 : decode prog_39_method_1_code 27 = .ok (.aload_n 0, 1) := by decide +kernel
theorem d_prog_39_method_1_28 : decode prog_39_method_1_code 28 = .ok (.aload 5, 2) := by decide +kernel
theorem d_prog_39_method_1_30 : decode prog_39_method_1_code 30 = .ok (.putfield 28, 3) := by decide +kernel
theorem pn3 : plainName "com/example/meridian/meridian/wire/Frame" = true := by first | (simp [plainName, overriddenIn]; done) | decide +kernel
theorem ef_ctor (m : MethodId) (thisctor : Addr) (xctor_1 : Int32) (xctor_2 : Int32) (yctor_3 : Int64) (actor_4 : Addr) : entryFrame m #[(.ref thisctor), (.int xctor_1), (.int xctor_2), (.long yctor_3), (.ref actor_4)] 6 = mkF m 0 #[.val (.ref thisctor), .val (.int xctor_1), .val (.int xctor_2), .val (.long yctor_3), .second, .val (.ref actor_4)] [] := by first | (simp [entryFrame, mkF, argsToLocals, Value.category]; done) | rfl
def Q_ctor (Z : State) (thisctor : Addr) (xctor_1 : Int32) (xctor_2 : Int32) (yctor_3 : Int64) (actor_4 : Addr) (h0 : Heap) (n0 : Nat) (v : Option Value) (h : Heap) (L : List Loc) : Prop := v = none ∧ Fr n0 L ∧ Keep h0 h [thisctor] ∧ Exa Z h thisctor "com/example/meridian/meridian/wire/Frame" ∧ Fld Z h thisctor "com/example/meridian/meridian/wire/Frame" "flags" "B" (.int xctor_1) ∧ Fld Z h thisctor "com/example/meridian/meridian/wire/Frame" "status" "B" (.int xctor_2) ∧ Fld Z h thisctor "com/example/meridian/meridian/wire/Frame" "id" "J" (.long yctor_3) ∧ Fld Z h thisctor "com/example/meridian/meridian/wire/Frame" "body" "[B" (.ref actor_4)
theorem d_prog_39_method_1_33 : decode prog_39_method_1_code 33 = .ok (.return_, 1) := by decide +kernel
abbrev mt3 : MethodName := ⟨"com/example/meridian/meridian/wire/Frame", "<init>", "(BBJ[B)V"⟩
set_option maxRecDepth 65536 in
set_option maxHeartbeats 40000000 in
theorem rm_ctor (l : Launch) (Z : State) (a0 : Array Value) (hw : ∀ d ∈ tables_1, d.before a0 Z = true) (ws : List Jvm.Cond) (thisctor : Addr) (xctor_1 : Int32) (xctor_2 : Int32) (yctor_3 : Int64) (actor_4 : Addr) (h0 : Heap) (n0 : Nat) (Z0 : n0 ≤ h0.size) (n1 : narrow .byte (.int xctor_1) = .int xctor_1) (f1 : fits .byte (.int xctor_1) = true) (n2 : narrow .byte (.int xctor_2) = .int xctor_2) (f2 : fits .byte (.int xctor_2) = true) (E_thisctor : Exa Z h0 thisctor "com/example/meridian/meridian/wire/Frame") (F_thisctor_flags : Fld Z h0 thisctor "com/example/meridian/meridian/wire/Frame" "flags" "B" (.int (0 : Int32))) (F_thisctor_status : Fld Z h0 thisctor "com/example/meridian/meridian/wire/Frame" "status" "B" (.int (0 : Int32))) (F_thisctor_id : Fld Z h0 thisctor "com/example/meridian/meridian/wire/Frame" "id" "J" (.long (0 : Int64))) (F_thisctor_body : Fld Z h0 thisctor "com/example/meridian/meridian/wire/Frame" "body" "[B" .null) (g_thisctor : n0 ≤ thisctor) :
    MetFree l mt3 (head1 (Jvm.Cond.code mt3 prog_39_method_1_code 6 none :: ws) ({ frames := 2, cells := 2, slots := 20, locals := 24 } : Room)) (fun a U => a = #[(.ref thisctor), (.int xctor_1), (.int xctor_2), (.long yctor_3), (.ref actor_4)] ∧ Z.Warmed39 U.vm ∧ U.heap = h0) (fun _ _ _ _ _ => True) (fun _ U o U' => ∃ v L, o = .returned v ∧ (Q_ctor Z thisctor xctor_1 xctor_2 yctor_3 actor_4 h0 n0) v U'.heap L ∧ ReturnedEndW U o U' L ({ frames := 2, cells := 2, slots := 20, locals := 24 } : Room).cells ({ frames := 2, cells := 2, slots := 20, locals := 24 } : Room).slots) := by
  refine MetFree.of_bodySF (plainFor_of_name pn3) hisR ?_
  intro p e s m args below meth c s₁ Bd hml0 hP hK
  obtain ⟨rfl, hZ, hh⟩ := hP
  have hx := Bd.exec
  have hby := Bd.bytes
  have hml : c.maxLocals = 6 := hml0
  have hown : s.vm.findClass "com/example/meridian/meridian/wire/Frame" = some m.cls := findClass_of_methodNamed Bd.named
  have hnm := (name_of_methodNamed Bd.named Bd.method).1
  have hS0 : s.Since s.vm 0 := (State.WarmedH.refl s).since 0
  have hk0 : 0 ≤ h0.size := Nat.zero_le _
  have X0 : Stand p l e ({ frames := 2, cells := 2, slots := 20, locals := 24 } : Room) (s.setVm s.vm) m #[(.ref thisctor), (.int xctor_1), (.int xctor_2), (.long yctor_3), (.ref actor_4)] below meth c s₁ [] 0 0 := Stand.of_body Bd
  have e0 : s₁.heap = h0 := by rw [← hh, Bd.state]; rfl
  have N0 := Fr.nil n0
  refine Wq.step (p := p) (e := e) (below := below) (En := (fun o t L => ReturnedEndW s o t L ({ frames := 2, cells := 2, slots := 20, locals := 24 } : Room).cells ({ frames := 2, cells := 2, slots := 20, locals := 24 } : Room).slots)) (Q := (Q_ctor Z thisctor xctor_1 xctor_2 yctor_3 actor_4 h0 n0)) (fun t k => castTop (ef_ctor m thisctor xctor_1 xctor_2 yctor_3 actor_4) k) ?_
  show Wq _ _ _ _ _ (s₁.setTop (mkF m 0 #[.val (.ref thisctor), .val (.int xctor_1), .val (.int xctor_2), .val (.long yctor_3), .second, .val (.ref actor_4)] []))
  refine Ow.aloadN X0 hx (pc' := 1) (hb hby d_prog_39_method_1_0) rfl rfl ?_
  obtain ⟨_, _, ⟨T2, L2, k2, n2⟩, -, X2, ⟨Lc2, hQ2, l2, y2, z2⟩, st2⟩ := X0.specialBack hx (y := mt1) rfl hown (mvT hZ (kw7 hw)) (mvT hZ (kw8 hw)) (mvT hZ (kw11 hw)) (by decide) (backOf (W := 0) (rm_rec l Z a0 hw [] thisctor h0 n0 Z0 ) hZ (kw11 hw) (kw10 hw) (by decide) (by decide)) (g := (mkF m 1 #[.val (.ref thisctor), .val (.int xctor_1), .val (.int xctor_2), .val (.long yctor_3), .second, .val (.ref actor_4)] [(.ref thisctor)])) rfl (by rw [hml]; rfl) (Steps.refl _) (a := thisctor) (argsL := []) (rest := []) (lenOf pd1 rfl) rfl (by show 2 * 0 + _ ≤ _; exact Nat.le_of_eq rfl) (hb hby d_prog_39_method_1_1) (fun _ _ => ⟨rfl, e0, (by decide : 0 + 0 ≤ _), (by decide : 0 + 0 ≤ _)⟩)
  dsimp only [Pt.U, Pt.locs, Pt.cells, Pt.slots] at X2 l2 y2 z2 st2 hQ2
  subst l2 y2 z2
  obtain ⟨rfl, Nq2, e2⟩ := hQ2
  have N2 := Fr.app N0 Nq2
  refine Wq.steps st2 ?_
  show Wq _ _ _ _ _ (T2.setTop (mkF m 4 #[.val (.ref thisctor), .val (.int xctor_1), .val (.int xctor_2), .val (.long yctor_3), .second, .val (.ref actor_4)] []))
  refine Ow.aload X2 hx (pc' := 6) (hb hby d_prog_39_method_1_4) rfl rfl ?_
  obtain ⟨sl3, T3, h3, k3, X3, e3, E3, hS3, hk3, hZ3, hown3, st3⟩ := ldcS X2 hx hZ hown (kw15 hw) (own_strs hw) e2 hS0 hk0 (g := (mkF m 6 #[.val (.ref thisctor), .val (.int xctor_1), .val (.int xctor_2), .val (.long yctor_3), .second, .val (.ref actor_4)] [(.ref actor_4)])) rfl (hb hby d_prog_39_method_1_6) (n := 16) (by decide) (by decide) (by decide) (by decide)
  have K3 : Keep h0 h3 [thisctor] := (Keep.refl h0 [thisctor]).ext E3
  have Z3 : n0 ≤ h3.size := Nat.le_trans Z0 E3.1
  refine Wq.step st3 ?_
  have E_thisctor_t3 := E_thisctor.ext E3
  have F_thisctor_flags_t3 := F_thisctor_flags.ext E3
  have F_thisctor_status_t3 := F_thisctor_status.ext E3
  have F_thisctor_id_t3 := F_thisctor_id.ext E3
  have F_thisctor_body_t3 := F_thisctor_body.ext E3
  show Wq _ _ _ _ _ (T3.setTop (mkF m 8 #[.val (.ref thisctor), .val (.int xctor_1), .val (.int xctor_2), .val (.long yctor_3), .second, .val (.ref actor_4)] [(.ref sl3), (.ref actor_4)]))
  obtain ⟨_, _, ⟨T4, L4, k4, n4⟩, -, X4, ⟨Lc4, hQ4, l4, y4, z4⟩, st4⟩ := Jvm.LawKit.callS X3 hx (y := mt2) hown3 (mvT hZ3 (kw22 hw)) (mvT hZ3 (kw23 hw)) (mvT hZ3 (kw24 hw)) (mvT hZ3 (kw25 hw)) (by decide) (backOf (W := 0) (rm_rnn l Z a0 hw [] actor_4 sl3 h3 n0 Z3 ) hZ3 (kw25 hw) (kw24 hw) (by decide) (by decide)) (g := (mkF m 8 #[.val (.ref thisctor), .val (.int xctor_1), .val (.int xctor_2), .val (.long yctor_3), .second, .val (.ref actor_4)] [(.ref sl3), (.ref actor_4)])) rfl (by rw [hml]; rfl) (argsL := [(.ref actor_4), (.ref sl3)]) (rest := []) (lenOf pd2 rfl) rfl (by show 2 * 0 + _ ≤ _; exact Nat.le_of_eq rfl) (hb hby d_prog_39_method_1_8) (fun _ _ => ⟨rfl, e3, (by decide : 2 + 0 ≤ _), (by decide : 20 + 0 ≤ _)⟩)
  dsimp only [Pt.U, Pt.locs, Pt.cells, Pt.slots] at X4 l4 y4 z4 st4 hQ4
  subst l4 y4 z4
  obtain ⟨rfl, Nq4, e4⟩ := hQ4
  have N4 := Fr.app N2 Nq4
  refine Wq.step st4 ?_
  show Wq _ _ _ _ _ (T4.setTop (mkF m 11 #[.val (.ref thisctor), .val (.int xctor_1), .val (.int xctor_2), .val (.long yctor_3), .second, .val (.ref actor_4)] [(.ref actor_4)]))
  refine Ow.pop X4 hx (pc' := 12) (hb hby d_prog_39_method_1_11) rfl ?_
  refine Ow.aloadN X4 hx (pc' := 13) (hb hby d_prog_39_method_1_12) rfl rfl ?_
  refine Ow.iloadN X4 hx (pc' := 14) (hb hby d_prog_39_method_1_13) rfl ?_
  obtain ⟨T5, h5, X5, e5, W5, st5⟩ := putF X4 hx hZ3 hown3 (host := "") (Or.inl (kw26 hw)) Via.refl e4 F_thisctor_flags_t3 E_thisctor_t3 (Or.inr ⟨(kw27 hw), rfl, hnm⟩) (kw2 hw) (ty := .byte) (by decide) (n1) (f1) (g := (mkF m 14 #[.val (.ref thisctor), .val (.int xctor_1), .val (.int xctor_2), .val (.long yctor_3), .second, .val (.ref actor_4)] [(.int xctor_1), (.ref thisctor)])) rfl rfl (hb hby d_prog_39_method_1_14)
  refine Wq.step st5 ?_
  have N5 := Fr.snoc X5 N4 g_thisctor
  have K5 : Keep h0 h5 [thisctor] := K3.wr W5 (Or.inl (List.mem_of_getElem? (i := 0) rfl))
  have Z5 : n0 ≤ h5.size := Nat.le_trans Z3 (Keep.of_wr W5).1
  have hk5 := Nat.le_trans hk3 (Keep.of_wr W5).1
  have E_thisctor_t5 := E_thisctor_t3.wr W5
  have F_thisctor_status_t5 := F_thisctor_status_t3.other W5 (Or.inr (slot_ne (Or.inr (kw29 hw)) (Or.inr (kw27 hw)) (by decide) (t := .byte) (t' := .byte) (by decide) (by decide)))
  have F_thisctor_id_t5 := F_thisctor_id_t3.other W5 (Or.inr (slot_ne (Or.inr (kw31 hw)) (Or.inr (kw27 hw)) (by decide) (t := .long) (t' := .byte) (by decide) (by decide)))
  have F_thisctor_body_t5 := F_thisctor_body_t3.other W5 (Or.inr (slot_ne (Or.inr (kw33 hw)) (Or.inr (kw27 hw)) (by decide) (t := (.array .byte)) (t' := .byte) (by decide) (by decide)))
  have F_thisctor_flags_t5 : Fld Z h5 thisctor "com/example/meridian/meridian/wire/Frame" "flags" "B" (.int xctor_1) := F_thisctor_flags_t3.same W5
  show Wq _ _ _ _ _ (T5.setTop (mkF m 17 #[.val (.ref thisctor), .val (.int xctor_1), .val (.int xctor_2), .val (.long yctor_3), .second, .val (.ref actor_4)] []))
  refine Ow.aloadN X5 hx (pc' := 18) (hb hby d_prog_39_method_1_17) rfl rfl ?_
  refine Ow.iloadN X5 hx (pc' := 19) (hb hby d_prog_39_method_1_18) rfl ?_
  obtain ⟨T6, h6, X6, e6, W6, st6⟩ := putF X5 hx hZ3 hown3 (host := "") (Or.inl (kw28 hw)) Via.refl e5 F_thisctor_status_t5 E_thisctor_t5 (Or.inr ⟨(kw29 hw), rfl, hnm⟩) (kw2 hw) (ty := .byte) (by decide) (n2) (f2) (g := (mkF m 19 #[.val (.ref thisctor), .val (.int xctor_1), .val (.int xctor_2), .val (.long yctor_3), .second, .val (.ref actor_4)] [(.int xctor_2), (.ref thisctor)])) rfl rfl (hb hby d_prog_39_method_1_19)
  refine Wq.step st6 ?_
  have N6 := Fr.snoc X6 N5 g_thisctor
  have K6 : Keep h0 h6 [thisctor] := K5.wr W6 (Or.inl (List.mem_of_getElem? (i := 0) rfl))
  have Z6 : n0 ≤ h6.size := Nat.le_trans Z5 (Keep.of_wr W6).1
  have hk6 := Nat.le_trans hk5 (Keep.of_wr W6).1
  have E_thisctor_t6 := E_thisctor_t5.wr W6
  have F_thisctor_id_t6 := F_thisctor_id_t5.other W6 (Or.inr (slot_ne (Or.inr (kw31 hw)) (Or.inr (kw29 hw)) (by decide) (t := .long) (t' := .byte) (by decide) (by decide)))
  have F_thisctor_body_t6 := F_thisctor_body_t5.other W6 (Or.inr (slot_ne (Or.inr (kw33 hw)) (Or.inr (kw29 hw)) (by decide) (t := (.array .byte)) (t' := .byte) (by decide) (by decide)))
  have F_thisctor_flags_t6 := F_thisctor_flags_t5.other W6 (Or.inr (slot_ne (Or.inr (kw27 hw)) (Or.inr (kw29 hw)) (by decide) (t := .byte) (t' := .byte) (by decide) (by decide)))
  have F_thisctor_status_t6 : Fld Z h6 thisctor "com/example/meridian/meridian/wire/Frame" "status" "B" (.int xctor_2) := F_thisctor_status_t5.same W6
  show Wq _ _ _ _ _ (T6.setTop (mkF m 22 #[.val (.ref thisctor), .val (.int xctor_1), .val (.int xctor_2), .val (.long yctor_3), .second, .val (.ref actor_4)] []))
  refine Ow.aloadN X6 hx (pc' := 23) (hb hby d_prog_39_method_1_22) rfl rfl ?_
  refine Ow.lloadN X6 hx (pc' := 24) (hb hby d_prog_39_method_1_23) rfl ?_
  obtain ⟨T7, h7, X7, e7, W7, st7⟩ := putF X6 hx hZ3 hown3 (host := "") (Or.inl (kw30 hw)) Via.refl e6 F_thisctor_id_t6 E_thisctor_t6 (Or.inr ⟨(kw31 hw), rfl, hnm⟩) (kw2 hw) (ty := .long) (by decide) (rfl) (rfl) (g := (mkF m 24 #[.val (.ref thisctor), .val (.int xctor_1), .val (.int xctor_2), .val (.long yctor_3), .second, .val (.ref actor_4)] [(.long yctor_3), (.ref thisctor)])) rfl rfl (hb hby d_prog_39_method_1_24)
  refine Wq.step st7 ?_
  have N7 := Fr.snoc X7 N6 g_thisctor
  have K7 : Keep h0 h7 [thisctor] := K6.wr W7 (Or.inl (List.mem_of_getElem? (i := 0) rfl))
  have Z7 : n0 ≤ h7.size := Nat.le_trans Z6 (Keep.of_wr W7).1
  have hk7 := Nat.le_trans hk6 (Keep.of_wr W7).1
  have E_thisctor_t7 := E_thisctor_t6.wr W7
  have F_thisctor_body_t7 := F_thisctor_body_t6.other W7 (Or.inr (slot_ne (Or.inr (kw33 hw)) (Or.inr (kw31 hw)) (by decide) (t := (.array .byte)) (t' := .long) (by decide) (by decide)))
  have F_thisctor_flags_t7 := F_thisctor_flags_t6.other W7 (Or.inr (slot_ne (Or.inr (kw27 hw)) (Or.inr (kw31 hw)) (by decide) (t := .byte) (t' := .long) (by decide) (by decide)))
  have F_thisctor_status_t7 := F_thisctor_status_t6.other W7 (Or.inr (slot_ne (Or.inr (kw29 hw)) (Or.inr (kw31 hw)) (by decide) (t := .byte) (t' := .long) (by decide) (by decide)))
  have F_thisctor_id_t7 : Fld Z h7 thisctor "com/example/meridian/meridian/wire/Frame" "id" "J" (.long yctor_3) := F_thisctor_id_t6.same W7
  show Wq _ _ _ _ _ (T7.setTop (mkF m 27 #[.val (.ref thisctor), .val (.int xctor_1), .val (.int xctor_2), .val (.long yctor_3), .second, .val (.ref actor_4)] []))
  refine Ow.aloadN X7 hx (pc' := 28) (hb hby d_prog_39_method_1_27) rfl rfl ?_
  refine Ow.aload X7 hx (pc' := 30) (hb hby d_prog_39_method_1_28) rfl rfl ?_
  obtain ⟨T8, h8, X8, e8, W8, st8⟩ := putF X7 hx hZ3 hown3 (host := "") (Or.inl (kw32 hw)) Via.refl e7 F_thisctor_body_t7 E_thisctor_t7 (Or.inr ⟨(kw33 hw), rfl, hnm⟩) (kw2 hw) (ty := (.array .byte)) (by decide) (rfl) (rfl) (g := (mkF m 30 #[.val (.ref thisctor), .val (.int xctor_1), .val (.int xctor_2), .val (.long yctor_3), .second, .val (.ref actor_4)] [(.ref actor_4), (.ref thisctor)])) rfl rfl (hb hby d_prog_39_method_1_30)
  refine Wq.step st8 ?_
  have N8 := Fr.snoc X8 N7 g_thisctor
  have K8 : Keep h0 h8 [thisctor] := K7.wr W8 (Or.inl (List.mem_of_getElem? (i := 0) rfl))
  have Z8 : n0 ≤ h8.size := Nat.le_trans Z7 (Keep.of_wr W8).1
  have hk8 := Nat.le_trans hk7 (Keep.of_wr W8).1
  have E_thisctor_t8 := E_thisctor_t7.wr W8
  have F_thisctor_flags_t8 := F_thisctor_flags_t7.other W8 (Or.inr (slot_ne (Or.inr (kw27 hw)) (Or.inr (kw33 hw)) (by decide) (t := .byte) (t' := (.array .byte)) (by decide) (by decide)))
  have F_thisctor_status_t8 := F_thisctor_status_t7.other W8 (Or.inr (slot_ne (Or.inr (kw29 hw)) (Or.inr (kw33 hw)) (by decide) (t := .byte) (t' := (.array .byte)) (by decide) (by decide)))
  have F_thisctor_id_t8 := F_thisctor_id_t7.other W8 (Or.inr (slot_ne (Or.inr (kw31 hw)) (Or.inr (kw33 hw)) (by decide) (t := .long) (t' := (.array .byte)) (by decide) (by decide)))
  have F_thisctor_body_t8 : Fld Z h8 thisctor "com/example/meridian/meridian/wire/Frame" "body" "[B" (.ref actor_4) := F_thisctor_body_t7.same W8
  show Wq _ _ _ _ _ (T8.setTop (mkF m 33 #[.val (.ref thisctor), .val (.int xctor_1), .val (.int xctor_2), .val (.long yctor_3), .second, .val (.ref actor_4)] []))
  exact Wq.retW X8 hS3 (by rw [e8]; exact hk8) (BodyLoose.notSynchronized Bd) (rv := none) (fun _ => rfl) (fun _ hr => X8.returnOut hx Bd.returns (hb hby d_prog_39_method_1_33) hr) (by decide) (by decide) (by rw [e8]; exact ⟨rfl, N8, K8, E_thisctor_t8, F_thisctor_flags_t8, F_thisctor_status_t8, F_thisctor_id_t8, F_thisctor_body_t8⟩)
theorem own_and3 (x : Int32) : ¬ (x &&& (3 : Int32)) < 0 ∧ (x &&& (3 : Int32)).toNatClampNeg ≤ 3 := by
  have h := c_mask x 3 2 (by decide) (by decide)
  have e0 : (0 : Int32).toInt = 0 := by decide
  refine ⟨?_, ?_⟩
  · rw [Int32.lt_iff_toInt_lt]; omega
  · show (x &&& 3).toInt.toNat ≤ 3
    omega
theorem d_prog_39_method_6_0 : decode prog_39_method_6_code 0 = .ok (.aload_n 0, 1) := by decide +kernel
theorem d_prog_39_method_6_1 : decode prog_39_method_6_code 1 = .ok (.getfield 15, 3) := by decide +kernel
theorem d_prog_39_method_6_4 : decode prog_39_method_6_code 4 = .ok (.sipush 128, 3) := by decide +kernel
theorem d_prog_39_method_6_7 : decode prog_39_method_6_code 7 = .ok (.iand, 1) := by decide +kernel
theorem d_prog_39_method_6_8 : decode prog_39_method_6_code 8 = .ok (.ifCond .eq 7, 3) := by decide +kernel
theorem d_prog_39_method_6_11 : decode prog_39_method_6_code 11 = .ok (.iconst 1, 1) := by decide +kernel
theorem d_prog_39_method_6_12 : decode prog_39_method_6_code 12 = .ok (.goto 4, 3) := by decide +kernel
theorem d_prog_39_method_6_15 : decode prog_39_method_6_code 15 = .ok (.iconst 0, 1) := by decide +kernel
theorem ef_isr (m : MethodId) (thisisr : Addr) : entryFrame m #[(.ref thisisr)] 1 = mkF m 0 #[.val (.ref thisisr)] [] := by first | (simp [entryFrame, mkF, argsToLocals, Value.category]; done) | rfl
def f_isr (wisr_flags : Int32) : Int32 := ((if (wisr_flags &&& (128 : Int32)) = (0 : Int32) then (0 : Int32) else (1 : Int32)) &&& 1)
def Q_isr (Z : State) (thisisr : Addr) (wisr_flags : Int32) (h0 : Heap) (n0 : Nat) (v : Option Value) (h : Heap) (L : List Loc) : Prop := v = some (.int (f_isr wisr_flags)) ∧ Fr n0 L ∧ h = h0
theorem d_prog_39_method_6_16 : decode prog_39_method_6_code 16 = .ok (.ireturn, 1) := by decide +kernel
abbrev mt4 : MethodName := ⟨"com/example/meridian/meridian/wire/Frame", "isRequest", "()Z"⟩
set_option maxRecDepth 65536 in
set_option maxHeartbeats 40000000 in
theorem rm_isr (l : Launch) (Z : State) (a0 : Array Value) (hw : ∀ d ∈ tables_1, d.before a0 Z = true) (ws : List Jvm.Cond) (thisisr : Addr) (wisr_flags : Int32) (h0 : Heap) (n0 : Nat) (Z0 : n0 ≤ h0.size) (F_thisisr_flags : Fld Z h0 thisisr "com/example/meridian/meridian/wire/Frame" "flags" "B" (.int wisr_flags)) :
    MetFree l mt4 (head1 (Jvm.Cond.code mt4 prog_39_method_6_code 1 (some .boolean) :: ws) ({ frames := 0, cells := 0, slots := 0, locals := 0 } : Room)) (fun a U => a = #[(.ref thisisr)] ∧ Z.Warmed39 U.vm ∧ U.heap = h0) (fun _ _ _ _ _ => True) (fun _ U o U' => ∃ v L, o = .returned v ∧ (Q_isr Z thisisr wisr_flags h0 n0) v U'.heap L ∧ FrameEnd U o U' L ({ frames := 0, cells := 0, slots := 0, locals := 0 } : Room).cells ({ frames := 0, cells := 0, slots := 0, locals := 0 } : Room).slots) := by
  refine MetFree.of_bodySF (plainFor_of_name pn3) hisR ?_
  intro p e s m args below meth c s₁ Bd hml0 hP hK
  obtain ⟨rfl, hZ, hh⟩ := hP
  have hx := Bd.exec
  have hby := Bd.bytes
  have hml : c.maxLocals = 1 := hml0
  have hown : s.vm.findClass "com/example/meridian/meridian/wire/Frame" = some m.cls := findClass_of_methodNamed Bd.named
  have hnm := (name_of_methodNamed Bd.named Bd.method).1
  have X0 : Stand p l e ({ frames := 0, cells := 0, slots := 0, locals := 0 } : Room) s m #[(.ref thisisr)] below meth c s₁ [] 0 0 := Stand.of_body Bd
  have e0 : s₁.heap = h0 := by rw [← hh, Bd.state]; rfl
  have N0 := Fr.nil n0
  refine Wq.step (p := p) (e := e) (below := below) (En := (fun o t L => FrameEnd s o t L ({ frames := 0, cells := 0, slots := 0, locals := 0 } : Room).cells ({ frames := 0, cells := 0, slots := 0, locals := 0 } : Room).slots)) (Q := (Q_isr Z thisisr wisr_flags h0 n0)) (fun t k => castTop (ef_isr m thisisr) k) ?_
  show Wq _ _ _ _ _ (s₁.setTop (mkF m 0 #[.val (.ref thisisr)] []))
  refine Ow.aloadN X0 hx (pc' := 1) (hb hby d_prog_39_method_6_0) rfl rfl ?_
  obtain ⟨T9, X9, e9, st9⟩ := getF X0 hx hZ hown (host := "") (Or.inl (kw26 hw)) Via.refl e0 F_thisisr_flags (g := (mkF m 1 #[.val (.ref thisisr)] [(.ref thisisr)])) rfl rfl (hb hby d_prog_39_method_6_1)
  refine Wq.step st9 ?_
  show Wq _ _ _ _ _ (T9.setTop (mkF m 4 #[.val (.ref thisisr)] [(.int wisr_flags)]))
  refine Ow.sipush X9 hx (pc' := 7) (hb hby d_prog_39_method_6_4) (z := (128 : Int32)) rfl ?_
  refine Ow.iand X9 hx (pc' := 8) (hb hby d_prog_39_method_6_7) (z := (wisr_flags &&& (128 : Int32))) rfl ?_
  refine Wq.by (U' := T9.setTop (mkF m 16 #[.val (.ref thisisr)] [(.int (if (wisr_flags &&& (128 : Int32)) = (0 : Int32) then (0 : Int32) else (1 : Int32)))])) (fun k => ?_) ?_
  · skip
    by_cases hm8 : (wisr_flags &&& (128 : Int32)) = (0 : Int32)
    · skip
      refine Ow.ifYes X9 hx (pc' := 15) (hb hby d_prog_39_method_6_8) ((if0 _ _).trans (teq hm8).1) (by decide) (by decide) ?_
      refine Ow.iconst X9 hx (pc' := 16) (hb hby d_prog_39_method_6_15) (z := (0 : Int32)) rfl ?_
      simp only [if_pos hm8] at k
      exact k
    · skip
      refine Ow.ifNo X9 hx (pc' := 11) (hb hby d_prog_39_method_6_8) ((if0 _ _).trans (feq hm8).1) ?_
      refine Ow.iconst X9 hx (pc' := 12) (hb hby d_prog_39_method_6_11) (z := (1 : Int32)) rfl ?_
      refine Ow.goto X9 hx (pc' := 16) (hb hby d_prog_39_method_6_12) (by decide) (by decide) ?_
      simp only [if_neg hm8] at k
      exact k
  exact Wq.ret X9 (BodyLoose.notSynchronized Bd) (rv := some (.int ((if (wisr_flags &&& (128 : Int32)) = (0 : Int32) then (0 : Int32) else (1 : Int32)) &&& 1))) (fun h => by rw [Bd.returns] at h; cases h) (fun _ hr => retN X9 hx (t := .boolean) Bd.returns (by simp) (hb hby d_prog_39_method_6_16) hr) (by decide) (by decide) ⟨rfl, N0, e9⟩
theorem d_prog_39_method_10_0 : decode prog_39_method_10_code 0 = .ok (.iload_n 0, 1) := by decide +kernel
theorem d_prog_39_method_10_1 : decode prog_39_method_10_code 1 = .ok (.bipush (-32), 2) := by decide +kernel
theorem d_prog_39_method_10_3 : decode prog_39_method_10_code 3 = .ok (.iand, 1) := by decide +kernel
theorem d_prog_39_method_10_4 : decode prog_39_method_10_code 4 = .ok (.ifCond .eq 17, 3) := by decide +kernel
theorem d_prog_39_method_10_21 : decode prog_39_method_10_code 21 = .ok (.iload_n 0, 1) := by decide +kernel
theorem ef_chk (m : MethodId) (xchk_1 : Int32) : entryFrame m #[(.int xchk_1)] 1 = mkF m 0 #[.val (.int xchk_1)] [] := by first | (simp [entryFrame, mkF, argsToLocals, Value.category]; done) | rfl
def Q_chk (Z : State) (xchk_1 : Int32) (h0 : Heap) (n0 : Nat) (v : Option Value) (h : Heap) (L : List Loc) : Prop := v = some (.int xchk_1) ∧ Fr n0 L ∧ h = h0
theorem d_prog_39_method_10_22 : decode prog_39_method_10_code 22 = .ok (.ireturn, 1) := by decide +kernel
abbrev mt5 : MethodName := ⟨"com/example/meridian/meridian/wire/Frame", "checked", "(I)I"⟩
set_option maxRecDepth 65536 in
set_option maxHeartbeats 40000000 in
theorem rm_chk (l : Launch) (Z : State) (a0 : Array Value) (hw : ∀ d ∈ tables_1, d.before a0 Z = true) (ws : List Jvm.Cond) (xchk_1 : Int32) (h0 : Heap) (n0 : Nat) (Z0 : n0 ≤ h0.size) (hc4 : (xchk_1 &&& (-32 : Int32)) = (0 : Int32)) :
    MetFree l mt5 (head1 (Jvm.Cond.code mt5 prog_39_method_10_code 1 (some .int) :: ws) ({ frames := 0, cells := 0, slots := 0, locals := 0 } : Room)) (fun a U => a = #[(.int xchk_1)] ∧ Z.Warmed39 U.vm ∧ U.heap = h0) (fun _ _ _ _ _ => True) (fun _ U o U' => ∃ v L, o = .returned v ∧ (Q_chk Z xchk_1 h0 n0) v U'.heap L ∧ FrameEnd U o U' L ({ frames := 0, cells := 0, slots := 0, locals := 0 } : Room).cells ({ frames := 0, cells := 0, slots := 0, locals := 0 } : Room).slots) := by
  refine MetFree.of_bodySF (plainFor_of_name pn3) hisR ?_
  intro p e s m args below meth c s₁ Bd hml0 hP hK
  obtain ⟨rfl, hZ, hh⟩ := hP
  have hx := Bd.exec
  have hby := Bd.bytes
  have hml : c.maxLocals = 1 := hml0
  have hown : s.vm.findClass "com/example/meridian/meridian/wire/Frame" = some m.cls := findClass_of_methodNamed Bd.named
  have hnm := (name_of_methodNamed Bd.named Bd.method).1
  have X0 : Stand p l e ({ frames := 0, cells := 0, slots := 0, locals := 0 } : Room) s m #[(.int xchk_1)] below meth c s₁ [] 0 0 := Stand.of_body Bd
  have e0 : s₁.heap = h0 := by rw [← hh, Bd.state]; rfl
  have N0 := Fr.nil n0
  refine Wq.step (p := p) (e := e) (below := below) (En := (fun o t L => FrameEnd s o t L ({ frames := 0, cells := 0, slots := 0, locals := 0 } : Room).cells ({ frames := 0, cells := 0, slots := 0, locals := 0 } : Room).slots)) (Q := (Q_chk Z xchk_1 h0 n0)) (fun t k => castTop (ef_chk m xchk_1) k) ?_
  show Wq _ _ _ _ _ (s₁.setTop (mkF m 0 #[.val (.int xchk_1)] []))
  refine Ow.iloadN X0 hx (pc' := 1) (hb hby d_prog_39_method_10_0) rfl ?_
  refine Ow.bipush X0 hx (pc' := 3) (hb hby d_prog_39_method_10_1) (z := (-32 : Int32)) rfl ?_
  refine Ow.iand X0 hx (pc' := 4) (hb hby d_prog_39_method_10_3) (z := (xchk_1 &&& (-32 : Int32))) rfl ?_
  refine Ow.ifYes X0 hx (pc' := 21) (hb hby d_prog_39_method_10_4) ((if0 _ _).trans (teq hc4).1) (by decide) (by decide) ?_
  refine Ow.iloadN X0 hx (pc' := 22) (hb hby d_prog_39_method_10_21) rfl ?_
  exact Wq.ret X0 (BodyLoose.notSynchronized Bd) (rv := some (.int xchk_1)) (fun h => by rw [Bd.returns] at h; cases h) (fun _ hr => retOut X0 hx Bd.returns rfl (Or.inl ⟨rfl, Or.inl rfl, _, rfl⟩) (hb hby d_prog_39_method_10_22) hr) (by decide) (by decide) ⟨rfl, N0, e0⟩
theorem kw58 {Z : State} {a0 : Array Value} (hw : ∀ d ∈ tables_1, d.before a0 Z = true) : (Jvm.Cond.fieldLink "com/example/meridian/meridian/wire/Status" (44 : Nat) "com/example/meridian/meridian/wire/Status" "code" "B").before a0 Z = true := hw _ (List.mem_of_getElem? (i := 58) rfl)
theorem d_prog_41_method_4_0 : decode prog_41_method_4_code 0 = .ok (.aload_n 0, 1) := by decide +kernel
theorem d_prog_41_method_4_1 : decode prog_41_method_4_code 1 = .ok (.getfield 44, 3) := by decide +kernel
theorem pn4 : plainName "com/example/meridian/meridian/wire/Status" = true := by first | (simp [plainName, overriddenIn]; done) | decide +kernel
theorem ef_code (m : MethodId) (thiscode : Addr) : entryFrame m #[(.ref thiscode)] 1 = mkF m 0 #[.val (.ref thiscode)] [] := by first | (simp [entryFrame, mkF, argsToLocals, Value.category]; done) | rfl
def f_code (wcode_code : Int32) : Int32 := (wcode_code.toInt8.toInt32)
def Q_code (Z : State) (thiscode : Addr) (wcode_code : Int32) (h0 : Heap) (n0 : Nat) (v : Option Value) (h : Heap) (L : List Loc) : Prop := v = some (.int (f_code wcode_code)) ∧ Fr n0 L ∧ h = h0
theorem d_prog_41_method_4_4 : decode prog_41_method_4_code 4 = .ok (.ireturn, 1) := by decide +kernel
abbrev mt6 : MethodName := ⟨"com/example/meridian/meridian/wire/Status", "code", "()B"⟩
set_option maxRecDepth 65536 in
set_option maxHeartbeats 40000000 in
theorem rm_code (l : Launch) (Z : State) (a0 : Array Value) (hw : ∀ d ∈ tables_1, d.before a0 Z = true) (ws : List Jvm.Cond) (thiscode : Addr) (wcode_code : Int32) (h0 : Heap) (n0 : Nat) (Z0 : n0 ≤ h0.size) (F_thiscode_code : Fld Z h0 thiscode "com/example/meridian/meridian/wire/Status" "code" "B" (.int wcode_code)) :
    MetFree l mt6 (head1 (Jvm.Cond.code mt6 prog_41_method_4_code 1 (some .byte) :: ws) ({ frames := 0, cells := 0, slots := 0, locals := 0 } : Room)) (fun a U => a = #[(.ref thiscode)] ∧ Z.Warmed39 U.vm ∧ U.heap = h0) (fun _ _ _ _ _ => True) (fun _ U o U' => ∃ v L, o = .returned v ∧ (Q_code Z thiscode wcode_code h0 n0) v U'.heap L ∧ FrameEnd U o U' L ({ frames := 0, cells := 0, slots := 0, locals := 0 } : Room).cells ({ frames := 0, cells := 0, slots := 0, locals := 0 } : Room).slots) := by
  refine MetFree.of_bodySF (plainFor_of_name pn4) hisR ?_
  intro p e s m args below meth c s₁ Bd hml0 hP hK
  obtain ⟨rfl, hZ, hh⟩ := hP
  have hx := Bd.exec
  have hby := Bd.bytes
  have hml : c.maxLocals = 1 := hml0
  have hown : s.vm.findClass "com/example/meridian/meridian/wire/Status" = some m.cls := findClass_of_methodNamed Bd.named
  have hnm := (name_of_methodNamed Bd.named Bd.method).1
  have X0 : Stand p l e ({ frames := 0, cells := 0, slots := 0, locals := 0 } : Room) s m #[(.ref thiscode)] below meth c s₁ [] 0 0 := Stand.of_body Bd
  have e0 : s₁.heap = h0 := by rw [← hh, Bd.state]; rfl
  have N0 := Fr.nil n0
  refine Wq.step (p := p) (e := e) (below := below) (En := (fun o t L => FrameEnd s o t L ({ frames := 0, cells := 0, slots := 0, locals := 0 } : Room).cells ({ frames := 0, cells := 0, slots := 0, locals := 0 } : Room).slots)) (Q := (Q_code Z thiscode wcode_code h0 n0)) (fun t k => castTop (ef_code m thiscode) k) ?_
  show Wq _ _ _ _ _ (s₁.setTop (mkF m 0 #[.val (.ref thiscode)] []))
  refine Ow.aloadN X0 hx (pc' := 1) (hb hby d_prog_41_method_4_0) rfl rfl ?_
  obtain ⟨T10, X10, e10, st10⟩ := getF X0 hx hZ hown (host := "") (Or.inl (kw58 hw)) Via.refl e0 F_thiscode_code (g := (mkF m 1 #[.val (.ref thiscode)] [(.ref thiscode)])) rfl rfl (hb hby d_prog_41_method_4_1)
  refine Wq.step st10 ?_
  show Wq _ _ _ _ _ (T10.setTop (mkF m 4 #[.val (.ref thiscode)] [(.int wcode_code)]))
  exact Wq.ret X10 (BodyLoose.notSynchronized Bd) (rv := some (.int (wcode_code.toInt8.toInt32))) (fun h => by rw [Bd.returns] at h; cases h) (fun _ hr => retN X10 hx (t := .byte) Bd.returns (by simp) (hb hby d_prog_41_method_4_4) hr) (by decide) (by decide) ⟨rfl, N0, e10⟩
theorem kw42 {Z : State} {a0 : Array Value} (hw : ∀ d ∈ tables_1, d.before a0 Z = true) : (Jvm.Cond.classLink "com/example/meridian/meridian/wire/Frame" (16 : Nat) "com/example/meridian/meridian/wire/Frame").before a0 Z = true := hw _ (List.mem_of_getElem? (i := 42) rfl)
theorem kw3 {Z : State} {a0 : Array Value} (hw : ∀ d ∈ tables_1, d.before a0 Z = true) : (Jvm.Cond.initialized "com/example/meridian/meridian/wire/Frame").before a0 Z = true := hw _ (List.mem_of_getElem? (i := 3) rfl)
theorem kw45 {Z : State} {a0 : Array Value} (hw : ∀ d ∈ tables_1, d.before a0 Z = true) : (Jvm.Cond.code ({ cls := "com/example/meridian/meridian/wire/Frame", name := "checked", desc := "(I)I" } : Jvm.MethodName) prog_39_method_10_code (1 : Nat) (Option.some Jvm.ClassFile.FieldType.int)).before a0 Z = true := hw _ (List.mem_of_getElem? (i := 45) rfl)
theorem pd3 : parseMethodDescriptor "(I)I" = some ⟨[.int], some .int⟩ := by decide +kernel
theorem kw43 {Z : State} {a0 : Array Value} (hw : ∀ d ∈ tables_1, d.before a0 Z = true) : (Jvm.Cond.methodLink "com/example/meridian/meridian/wire/Frame" (31 : Nat) ({ cls := "com/example/meridian/meridian/wire/Frame", name := "checked", desc := "(I)I" } : Jvm.MethodName)).before a0 Z = true := hw _ (List.mem_of_getElem? (i := 43) rfl)
theorem kw44 {Z : State} {a0 : Array Value} (hw : ∀ d ∈ tables_1, d.before a0 Z = true) : (Jvm.Cond.static ({ cls := "com/example/meridian/meridian/wire/Frame", name := "checked", desc := "(I)I" } : Jvm.MethodName)).before a0 Z = true := hw _ (List.mem_of_getElem? (i := 44) rfl)
theorem kw6 {Z : State} {a0 : Array Value} (hw : ∀ d ∈ tables_1, d.before a0 Z = true) : (Jvm.Cond.code ({ cls := "com/example/meridian/meridian/wire/Frame", name := "<init>", desc := "(BBJ[B)V" } : Jvm.MethodName) prog_39_method_1_code (6 : Nat) (Option.none : Option Jvm.ClassFile.FieldType)).before a0 Z = true := hw _ (List.mem_of_getElem? (i := 6) rfl)
theorem pd4 : parseMethodDescriptor "(BBJ[B)V" = some ⟨[.byte, .byte, .long, (.array .byte)], none⟩ := by decide +kernel
theorem kw46 {Z : State} {a0 : Array Value} (hw : ∀ d ∈ tables_1, d.before a0 Z = true) : (Jvm.Cond.methodLink "com/example/meridian/meridian/wire/Frame" (35 : Nat) ({ cls := "com/example/meridian/meridian/wire/Frame", name := "<init>", desc := "(BBJ[B)V" } : Jvm.MethodName)).before a0 Z = true := hw _ (List.mem_of_getElem? (i := 46) rfl)
theorem kw5 {Z : State} {a0 : Array Value} (hw : ∀ d ∈ tables_1, d.before a0 Z = true) : (Jvm.Cond.instanceMethod ({ cls := "com/example/meridian/meridian/wire/Frame", name := "<init>", desc := "(BBJ[B)V" } : Jvm.MethodName)).before a0 Z = true := hw _ (List.mem_of_getElem? (i := 5) rfl)
theorem d_prog_39_method_2_0 : decode prog_39_method_2_code 0 = .ok (.new 16, 3) := by decide +kernel
theorem d_prog_39_method_2_3 : decode prog_39_method_2_code 3 = .ok (.dup, 1) := by decide +kernel
theorem d_prog_39_method_2_4 : decode prog_39_method_2_code 4 = .ok (.sipush 192, 3) := by decide +kernel
theorem d_prog_39_method_2_7 : decode prog_39_method_2_code 7 = .ok (.iload_n 2, 1) := by decide +kernel
theorem d_prog_39_method_2_8 : decode prog_39_method_2_code 8 = .ok (.invokestatic 31, 3) := by decide +kernel
theorem d_prog_39_method_2_11 : decode prog_39_method_2_code 11 = .ok (.ior, 1) := by decide +kernel
theorem d_prog_39_method_2_12 : decode prog_39_method_2_code 12 = .ok (.i2b, 1) := by decide +kernel
theorem d_prog_39_method_2_13 : decode prog_39_method_2_code 13 = .ok (.iconst 0, 1) := by decide +kernel
theorem d_prog_39_method_2_14 : decode prog_39_method_2_code 14 = .ok (.lload_n 0, 1) := by decide +kernel
theorem d_prog_39_method_2_15 : decode prog_39_method_2_code 15 = .ok (.aload_n 3, 1) := by decide +kernel
theorem d_prog_39_method_2_16 : decode prog_39_method_2_code 16 = .ok (.invokespecial 35, 3) := by decide +kernel
theorem ef_rq (m : MethodId) (yrq_1 : Int64) (xrq_2 : Int32) (arq_3 : Addr) : entryFrame m #[(.long yrq_1), (.int xrq_2), (.ref arq_3)] 4 = mkF m 0 #[.val (.long yrq_1), .second, .val (.int xrq_2), .val (.ref arq_3)] [] := by first | (simp [entryFrame, mkF, argsToLocals, Value.category]; done) | rfl
def Q_rq (Z : State) (yrq_1 : Int64) (xrq_2 : Int32) (arq_3 : Addr) (h0 : Heap) (n0 : Nat) (v : Option Value) (h : Heap) (L : List Loc) : Prop := ∃ o11 : Addr, v = some (.ref o11) ∧ Fr n0 L ∧ Keep h0 h [] ∧ h0.size ≤ o11 ∧ Exa Z h o11 "com/example/meridian/meridian/wire/Frame" ∧ Fld Z h o11 "com/example/meridian/meridian/wire/Frame" "flags" "B" (.int (((192 : Int32) ||| xrq_2).toInt8.toInt32)) ∧ Fld Z h o11 "com/example/meridian/meridian/wire/Frame" "status" "B" (.int (0 : Int32)) ∧ Fld Z h o11 "com/example/meridian/meridian/wire/Frame" "id" "J" (.long yrq_1) ∧ Fld Z h o11 "com/example/meridian/meridian/wire/Frame" "body" "[B" (.ref arq_3)
theorem d_prog_39_method_2_19 : decode prog_39_method_2_code 19 = .ok (.areturn, 1) := by decide +kernel
abbrev mt7 : MethodName := ⟨"com/example/meridian/meridian/wire/Frame", "request", "(JI[B)Lcom/example/meridian/meridian/wire/Frame;"⟩
set_option maxRecDepth 65536 in
set_option maxHeartbeats 40000000 in
theorem rm_rq (l : Launch) (Z : State) (a0 : Array Value) (hw : ∀ d ∈ tables_1, d.before a0 Z = true) (ws : List Jvm.Cond) (yrq_1 : Int64) (xrq_2 : Int32) (arq_3 : Addr) (h0 : Heap) (n0 : Nat) (Z0 : n0 ≤ h0.size) (hsid : (xrq_2 &&& (-32 : Int32)) = (0 : Int32)) :
    MetFree l mt7 (head1 (Jvm.Cond.code mt7 prog_39_method_2_code 4 (some (.object "com/example/meridian/meridian/wire/Frame")) :: ws) ({ frames := 3, cells := 3, slots := 24, locals := 42 } : Room)) (fun a U => a = #[(.long yrq_1), (.int xrq_2), (.ref arq_3)] ∧ Z.Warmed39 U.vm ∧ U.heap = h0) (fun _ _ _ _ _ => True) (fun _ U o U' => ∃ v L, o = .returned v ∧ (Q_rq Z yrq_1 xrq_2 arq_3 h0 n0) v U'.heap L ∧ ReturnedEndW U o U' L ({ frames := 3, cells := 3, slots := 24, locals := 42 } : Room).cells ({ frames := 3, cells := 3, slots := 24, locals := 42 } : Room).slots) := by
  refine MetFree.of_bodySF (plainFor_of_name pn3) hisR ?_
  intro p e s m args below meth c s₁ Bd hml0 hP hK
  obtain ⟨rfl, hZ, hh⟩ := hP
  have hx := Bd.exec
  have hby := Bd.bytes
  have hml : c.maxLocals = 4 := hml0
  have hown : s.vm.findClass "com/example/meridian/meridian/wire/Frame" = some m.cls := findClass_of_methodNamed Bd.named
  have hnm := (name_of_methodNamed Bd.named Bd.method).1
  have hS0 : s.Since s.vm 0 := (State.WarmedH.refl s).since 0
  have hk0 : 0 ≤ h0.size := Nat.zero_le _
  have X0 : Stand p l e ({ frames := 3, cells := 3, slots := 24, locals := 42 } : Room) (s.setVm s.vm) m #[(.long yrq_1), (.int xrq_2), (.ref arq_3)] below meth c s₁ [] 0 0 := Stand.of_body Bd
  have e0 : s₁.heap = h0 := by rw [← hh, Bd.state]; rfl
  have N0 := Fr.nil n0
  refine Wq.step (p := p) (e := e) (below := below) (En := (fun o t L => ReturnedEndW s o t L ({ frames := 3, cells := 3, slots := 24, locals := 42 } : Room).cells ({ frames := 3, cells := 3, slots := 24, locals := 42 } : Room).slots)) (Q := (Q_rq Z yrq_1 xrq_2 arq_3 h0 n0)) (fun t k => castTop (ef_rq m yrq_1 xrq_2 arq_3) k) ?_
  show Wq _ _ _ _ _ (s₁.setTop (mkF m 0 #[.val (.long yrq_1), .second, .val (.int xrq_2), .val (.ref arq_3)] []))
  obtain ⟨T11, h11, X11, e11, E11, A11, D11, -, st11⟩ := newO X0 hx hZ hown (kw42 hw) (kw2 hw) (kw3 hw) e0 (g := (mkF m 0 #[.val (.long yrq_1), .second, .val (.int xrq_2), .val (.ref arq_3)] [])) rfl (hb hby d_prog_39_method_2_0) (by decide) (by decide)
  obtain ⟨o11, gz11⟩ : ∃ z, z = h0.size := ⟨_, rfl⟩
  rw [← gz11] at A11 D11 st11
  have g_o11 : n0 ≤ o11 := Nat.le_trans Z0 (Nat.le_of_eq gz11.symm)
  have sz_o11 : h0.size ≤ o11 := Nat.le_of_eq gz11.symm
  have K11 : Keep h0 h11 [] := (Keep.refl h0 []).ext E11
  have Z11 : n0 ≤ h11.size := Nat.le_trans Z0 E11.1
  have hk11 := Nat.le_trans hk0 E11.1
  refine Wq.step st11 ?_
  have F_o11_flags : Fld Z h11 o11 "com/example/meridian/meridian/wire/Frame" "flags" "B" (.int (0 : Int32)) := D11 (Or.inr (kw27 hw)) (ty := .byte) (by decide)
  have F_o11_status : Fld Z h11 o11 "com/example/meridian/meridian/wire/Frame" "status" "B" (.int (0 : Int32)) := D11 (Or.inr (kw29 hw)) (ty := .byte) (by decide)
  have F_o11_id : Fld Z h11 o11 "com/example/meridian/meridian/wire/Frame" "id" "J" (.long (0 : Int64)) := D11 (Or.inr (kw31 hw)) (ty := .long) (by decide)
  have F_o11_body : Fld Z h11 o11 "com/example/meridian/meridian/wire/Frame" "body" "[B" .null := D11 (Or.inr (kw33 hw)) (ty := (.array .byte)) (by decide)
  show Wq _ _ _ _ _ (T11.setTop (mkF m 3 #[.val (.long yrq_1), .second, .val (.int xrq_2), .val (.ref arq_3)] [(.ref o11)]))
  refine Ow.dup X11 hx (pc' := 4) (hb hby d_prog_39_method_2_3) rfl ?_
  refine Ow.sipush X11 hx (pc' := 7) (hb hby d_prog_39_method_2_4) (z := (192 : Int32)) rfl ?_
  refine Ow.iloadN X11 hx (pc' := 8) (hb hby d_prog_39_method_2_7) rfl ?_
  obtain ⟨_, _, ⟨T12, L12, k12, n12⟩, -, X12, ⟨Lc12, hQ12, l12, y12, z12⟩, st12⟩ := Jvm.LawKit.callS X11 hx (y := mt5) hown (mvT hZ (kw43 hw)) (mvT hZ (kw44 hw)) (mvT hZ (kw3 hw)) (mvT hZ (kw45 hw)) (by decide) (backOf (W := 3) (rm_chk l Z a0 hw [] xrq_2 h11 n0 Z11 (hsid)) hZ (kw45 hw) (kw3 hw) (by decide) (by decide)) (g := (mkF m 8 #[.val (.long yrq_1), .second, .val (.int xrq_2), .val (.ref arq_3)] [(.int xrq_2), (.int (192 : Int32)), (.ref o11), (.ref o11)])) rfl (by rw [hml]; rfl) (argsL := [(.int xrq_2)]) (rest := [(.int (192 : Int32)), (.ref o11), (.ref o11)]) (lenOf pd3 rfl) rfl (by show 2 * 0 + _ ≤ _; exact Nat.le_of_eq rfl) (hb hby d_prog_39_method_2_8) (fun _ _ => ⟨rfl, e11, (by decide : 1 + 0 ≤ _), (by decide : 4 + 0 ≤ _)⟩)
  dsimp only [Pt.U, Pt.locs, Pt.cells, Pt.slots] at X12 l12 y12 z12 st12 hQ12
  subst l12 y12 z12
  obtain ⟨rfl, Nq12, e12⟩ := hQ12
  have N12 := Fr.app N0 Nq12
  refine Wq.step st12 ?_
  show Wq _ _ _ _ _ (T12.setTop (mkF m 11 #[.val (.long yrq_1), .second, .val (.int xrq_2), .val (.ref arq_3)] [(.int xrq_2), (.int (192 : Int32)), (.ref o11), (.ref o11)]))
  refine Ow.ior X12 hx (pc' := 12) (hb hby d_prog_39_method_2_11) (z := ((192 : Int32) ||| xrq_2)) rfl ?_
  refine Ow.i2b X12 hx (pc' := 13) (hb hby d_prog_39_method_2_12) (z := (((192 : Int32) ||| xrq_2).toInt8.toInt32)) rfl ?_
  refine Ow.iconst X12 hx (pc' := 14) (hb hby d_prog_39_method_2_13) (z := (0 : Int32)) rfl ?_
  refine Ow.lloadN X12 hx (pc' := 15) (hb hby d_prog_39_method_2_14) rfl ?_
  refine Ow.aloadN X12 hx (pc' := 16) (hb hby d_prog_39_method_2_15) rfl rfl ?_
  obtain ⟨_, _, ⟨T13, L13, k13, n13⟩, -, Xr13, hSr13, hgr13, ⟨Lc13, hQ13, l13, y13, z13⟩, st13⟩ := X12.specialBackS hx (y := mt3) rfl hown (mvT hZ (kw46 hw)) (mvT hZ (kw5 hw)) (mvT hZ (kw6 hw)) (by decide) (backOfS (W := 1) (rm_ctor l Z a0 hw [] o11 (((192 : Int32) ||| xrq_2).toInt8.toInt32) (0 : Int32) yrq_1 arq_3 h11 n0 Z11 (own_nb _) (fits_nar_byte _) (rfl) (rfl) A11 F_o11_flags F_o11_status F_o11_id F_o11_body g_o11) hZ (kw6 hw) (kw3 hw) (by decide) (by decide)) (g := (mkF m 16 #[.val (.long yrq_1), .second, .val (.int xrq_2), .val (.ref arq_3)] [(.ref arq_3), (.long yrq_1), (.int (0 : Int32)), (.int (((192 : Int32) ||| xrq_2).toInt8.toInt32)), (.ref o11), (.ref o11)])) rfl (by rw [hml]; rfl) (Steps.refl _) (a := o11) (argsL := [(.int (((192 : Int32) ||| xrq_2).toInt8.toInt32)), (.int (0 : Int32)), (.long yrq_1), (.ref arq_3)]) (rest := [(.ref o11)]) (lenOf pd4 rfl) rfl (by show 2 * 0 + _ ≤ _; exact Nat.le_of_eq rfl) (hb hby d_prog_39_method_2_16) (fun _ _ => ⟨rfl, e12, (by decide : 1 + 2 ≤ _), (by decide : 4 + 20 ≤ _)⟩)
  dsimp only [Pt.U, Pt.locs, Pt.cells, Pt.slots] at Xr13 hSr13 hgr13 l13 y13 z13 st13 hQ13
  subst l13 y13 z13
  obtain ⟨X13, hS13, hZ13, hown13⟩ := rebS hS0 (by rw [e12]; exact hk11) Xr13 hSr13 hgr13 hZ hown
  have hk13 := Nat.le_refl T13.heap.size
  obtain ⟨rfl, Nq13, Kq13, P13_0, P13_1, P13_2, P13_3, P13_4⟩ := hQ13
  have N13 := Fr.app N12 Nq13
  have K13 : Keep h0 T13.heap [] := K11.trans Kq13 (allS (P := fun x => x ∈ [] ∨ h0.size ≤ x) (Or.inr sz_o11) all0)
  have Z13 : n0 ≤ T13.heap.size := Nat.le_trans Z11 Kq13.1
  have A11_t13 := A11.keep Kq13
  have e13 : T13.heap = T13.heap := rfl
  refine Wq.steps st13 ?_
  show Wq _ _ _ _ _ (T13.setTop (mkF m 19 #[.val (.long yrq_1), .second, .val (.int xrq_2), .val (.ref arq_3)] [(.ref o11)]))
  exact Wq.retW X13 hS13 (by rw [e13]; exact hk13) (BodyLoose.notSynchronized Bd) (rv := some (.ref o11)) (fun h => by rw [Bd.returns] at h; cases h) (fun _ hr => retOut X13 hx Bd.returns rfl (Or.inr (Or.inr (Or.inr (Or.inr ⟨rfl, rfl, rfl⟩)))) (hb hby d_prog_39_method_2_19) hr) (by decide) (by decide) (by rw [e13]; exact ⟨o11, rfl, N13, K13, sz_o11, A11_t13, P13_1, P13_2, P13_3, P13_4⟩)
theorem kw57 {Z : State} {a0 : Array Value} (hw : ∀ d ∈ tables_1, d.before a0 Z = true) : (Jvm.Cond.code ({ cls := "com/example/meridian/meridian/wire/Status", name := "code", desc := "()B" } : Jvm.MethodName) prog_41_method_4_code (1 : Nat) (Option.some Jvm.ClassFile.FieldType.byte)).before a0 Z = true := hw _ (List.mem_of_getElem? (i := 57) rfl)
theorem kw48 {Z : State} {a0 : Array Value} (hw : ∀ d ∈ tables_1, d.before a0 Z = true) : (Jvm.Cond.initialized "com/example/meridian/meridian/wire/Status").before a0 Z = true := hw _ (List.mem_of_getElem? (i := 48) rfl)
theorem pd5 : parseMethodDescriptor "()B" = some ⟨[], some .byte⟩ := by decide +kernel
theorem kw53 {Z : State} {a0 : Array Value} (hw : ∀ d ∈ tables_1, d.before a0 Z = true) : (Jvm.Cond.methodLink "com/example/meridian/meridian/wire/Frame" (38 : Nat) ({ cls := "com/example/meridian/meridian/wire/Status", name := "code", desc := "()B" } : Jvm.MethodName)).before a0 Z = true := hw _ (List.mem_of_getElem? (i := 53) rfl)
theorem kw54 {Z : State} {a0 : Array Value} (hw : ∀ d ∈ tables_1, d.before a0 Z = true) : (Jvm.Cond.declares ({ cls := "com/example/meridian/meridian/wire/Status", name := "code", desc := "()B" } : Jvm.MethodName)).before a0 Z = true := hw _ (List.mem_of_getElem? (i := 54) rfl)
theorem kw56 {Z : State} {a0 : Array Value} (hw : ∀ d ∈ tables_1, d.before a0 Z = true) : (Jvm.Cond.selects "com/example/meridian/meridian/wire/Status" ({ cls := "com/example/meridian/meridian/wire/Status", name := "code", desc := "()B" } : Jvm.MethodName) ({ cls := "com/example/meridian/meridian/wire/Status", name := "code", desc := "()B" } : Jvm.MethodName)).before a0 Z = true := hw _ (List.mem_of_getElem? (i := 56) rfl)
theorem kw55 {Z : State} {a0 : Array Value} (hw : ∀ d ∈ tables_1, d.before a0 Z = true) : (Jvm.Cond.instanceMethod ({ cls := "com/example/meridian/meridian/wire/Status", name := "code", desc := "()B" } : Jvm.MethodName)).before a0 Z = true := hw _ (List.mem_of_getElem? (i := 55) rfl)
theorem d_prog_39_method_3_0 : decode prog_39_method_3_code 0 = .ok (.new 16, 3) := by decide +kernel
theorem d_prog_39_method_3_3 : decode prog_39_method_3_code 3 = .ok (.dup, 1) := by decide +kernel
theorem d_prog_39_method_3_4 : decode prog_39_method_3_code 4 = .ok (.iload_n 2, 1) := by decide +kernel
theorem d_prog_39_method_3_5 : decode prog_39_method_3_code 5 = .ok (.invokestatic 31, 3) := by decide +kernel
theorem d_prog_39_method_3_8 : decode prog_39_method_3_code 8 = .ok (.i2b, 1) := by decide +kernel
theorem d_prog_39_method_3_9 : decode prog_39_method_3_code 9 = .ok (.aload_n 3, 1) := by decide +kernel
theorem d_prog_39_method_3_10 : decode prog_39_method_3_code 10 = .ok (.invokevirtual 38, 3) := by decide +kernel
theorem d_prog_39_method_3_13 : decode prog_39_method_3_code 13 = .ok (.lload_n 0, 1) := by decide +kernel
theorem d_prog_39_method_3_14 : decode prog_39_method_3_code 14 = .ok (.aload 4, 2) := by decide +kernel
theorem d_prog_39_method_3_16 : decode prog_39_method_3_code 16 = .ok (.invokespecial 35, 3) := by decide +kernel
theorem ef_rs (m : MethodId) (yrs_1 : Int64) (xrs_2 : Int32) (ars_3 : Addr) (ars_4 : Addr) : entryFrame m #[(.long yrs_1), (.int xrs_2), (.ref ars_3), (.ref ars_4)] 5 = mkF m 0 #[.val (.long yrs_1), .second, .val (.int xrs_2), .val (.ref ars_3), .val (.ref ars_4)] [] := by first | (simp [entryFrame, mkF, argsToLocals, Value.category]; done) | rfl
def Q_rs (Z : State) (yrs_1 : Int64) (xrs_2 : Int32) (ars_3 : Addr) (ars_4 : Addr) (wrs : Int32) (h0 : Heap) (n0 : Nat) (v : Option Value) (h : Heap) (L : List Loc) : Prop := ∃ o14 : Addr, v = some (.ref o14) ∧ Fr n0 L ∧ Keep h0 h [] ∧ h0.size ≤ o14 ∧ Exa Z h o14 "com/example/meridian/meridian/wire/Frame" ∧ Fld Z h o14 "com/example/meridian/meridian/wire/Frame" "flags" "B" (.int (xrs_2.toInt8.toInt32)) ∧ Fld Z h o14 "com/example/meridian/meridian/wire/Frame" "status" "B" (.int (f_code wrs)) ∧ Fld Z h o14 "com/example/meridian/meridian/wire/Frame" "id" "J" (.long yrs_1) ∧ Fld Z h o14 "com/example/meridian/meridian/wire/Frame" "body" "[B" (.ref ars_4)
theorem d_prog_39_method_3_19 : decode prog_39_method_3_code 19 = .ok (.areturn, 1) := by decide +kernel
abbrev mt8 : MethodName := ⟨"com/example/meridian/meridian/wire/Frame", "response", "(JILcom/example/meridian/meridian/wire/Status;[B)Lcom/example/meridian/meridian/wire/Frame;"⟩
set_option maxRecDepth 65536 in
set_option maxHeartbeats 40000000 in
theorem rm_rs (l : Launch) (Z : State) (a0 : Array Value) (hw : ∀ d ∈ tables_1, d.before a0 Z = true) (ws : List Jvm.Cond) (yrs_1 : Int64) (xrs_2 : Int32) (ars_3 : Addr) (ars_4 : Addr) (wrs : Int32) (h0 : Heap) (n0 : Nat) (Z0 : n0 ≤ h0.size) (hsid : (xrs_2 &&& (-32 : Int32)) = (0 : Int32)) (E_ars_3 : Exa Z h0 ars_3 "com/example/meridian/meridian/wire/Status") (F_ars_3_code : Fld Z h0 ars_3 "com/example/meridian/meridian/wire/Status" "code" "B" (.int wrs)) :
    MetFree l mt8 (head1 (Jvm.Cond.code mt8 prog_39_method_3_code 5 (some (.object "com/example/meridian/meridian/wire/Frame")) :: ws) ({ frames := 3, cells := 3, slots := 24, locals := 42 } : Room)) (fun a U => a = #[(.long yrs_1), (.int xrs_2), (.ref ars_3), (.ref ars_4)] ∧ Z.Warmed39 U.vm ∧ U.heap = h0) (fun _ _ _ _ _ => True) (fun _ U o U' => ∃ v L, o = .returned v ∧ (Q_rs Z yrs_1 xrs_2 ars_3 ars_4 wrs h0 n0) v U'.heap L ∧ ReturnedEndW U o U' L ({ frames := 3, cells := 3, slots := 24, locals := 42 } : Room).cells ({ frames := 3, cells := 3, slots := 24, locals := 42 } : Room).slots) := by
  refine MetFree.of_bodySF (plainFor_of_name pn3) hisR ?_
  intro p e s m args below meth c s₁ Bd hml0 hP hK
  obtain ⟨rfl, hZ, hh⟩ := hP
  have hx := Bd.exec
  have hby := Bd.bytes
  have hml : c.maxLocals = 5 := hml0
  have hown : s.vm.findClass "com/example/meridian/meridian/wire/Frame" = some m.cls := findClass_of_methodNamed Bd.named
  have hnm := (name_of_methodNamed Bd.named Bd.method).1
  have hS0 : s.Since s.vm 0 := (State.WarmedH.refl s).since 0
  have hk0 : 0 ≤ h0.size := Nat.zero_le _
  have X0 : Stand p l e ({ frames := 3, cells := 3, slots := 24, locals := 42 } : Room) (s.setVm s.vm) m #[(.long yrs_1), (.int xrs_2), (.ref ars_3), (.ref ars_4)] below meth c s₁ [] 0 0 := Stand.of_body Bd
  have e0 : s₁.heap = h0 := by rw [← hh, Bd.state]; rfl
  have N0 := Fr.nil n0
  refine Wq.step (p := p) (e := e) (below := below) (En := (fun o t L => ReturnedEndW s o t L ({ frames := 3, cells := 3, slots := 24, locals := 42 } : Room).cells ({ frames := 3, cells := 3, slots := 24, locals := 42 } : Room).slots)) (Q := (Q_rs Z yrs_1 xrs_2 ars_3 ars_4 wrs h0 n0)) (fun t k => castTop (ef_rs m yrs_1 xrs_2 ars_3 ars_4) k) ?_
  show Wq _ _ _ _ _ (s₁.setTop (mkF m 0 #[.val (.long yrs_1), .second, .val (.int xrs_2), .val (.ref ars_3), .val (.ref ars_4)] []))
  obtain ⟨T14, h14, X14, e14, E14, A14, D14, -, st14⟩ := newO X0 hx hZ hown (kw42 hw) (kw2 hw) (kw3 hw) e0 (g := (mkF m 0 #[.val (.long yrs_1), .second, .val (.int xrs_2), .val (.ref ars_3), .val (.ref ars_4)] [])) rfl (hb hby d_prog_39_method_3_0) (by decide) (by decide)
  obtain ⟨o14, gz14⟩ : ∃ z, z = h0.size := ⟨_, rfl⟩
  rw [← gz14] at A14 D14 st14
  have g_o14 : n0 ≤ o14 := Nat.le_trans Z0 (Nat.le_of_eq gz14.symm)
  have sz_o14 : h0.size ≤ o14 := Nat.le_of_eq gz14.symm
  have ne_ars_3_o14 : ars_3 ≠ o14 := Nat.ne_of_lt (Nat.lt_of_lt_of_le E_ars_3.lt (Nat.le_of_eq gz14.symm))
  have K14 : Keep h0 h14 [] := (Keep.refl h0 []).ext E14
  have Z14 : n0 ≤ h14.size := Nat.le_trans Z0 E14.1
  have hk14 := Nat.le_trans hk0 E14.1
  have E_ars_3_t14 := E_ars_3.ext E14
  have F_ars_3_code_t14 := F_ars_3_code.ext E14
  refine Wq.step st14 ?_
  have F_o14_flags : Fld Z h14 o14 "com/example/meridian/meridian/wire/Frame" "flags" "B" (.int (0 : Int32)) := D14 (Or.inr (kw27 hw)) (ty := .byte) (by decide)
  have F_o14_status : Fld Z h14 o14 "com/example/meridian/meridian/wire/Frame" "status" "B" (.int (0 : Int32)) := D14 (Or.inr (kw29 hw)) (ty := .byte) (by decide)
  have F_o14_id : Fld Z h14 o14 "com/example/meridian/meridian/wire/Frame" "id" "J" (.long (0 : Int64)) := D14 (Or.inr (kw31 hw)) (ty := .long) (by decide)
  have F_o14_body : Fld Z h14 o14 "com/example/meridian/meridian/wire/Frame" "body" "[B" .null := D14 (Or.inr (kw33 hw)) (ty := (.array .byte)) (by decide)
  show Wq _ _ _ _ _ (T14.setTop (mkF m 3 #[.val (.long yrs_1), .second, .val (.int xrs_2), .val (.ref ars_3), .val (.ref ars_4)] [(.ref o14)]))
  refine Ow.dup X14 hx (pc' := 4) (hb hby d_prog_39_method_3_3) rfl ?_
  refine Ow.iloadN X14 hx (pc' := 5) (hb hby d_prog_39_method_3_4) rfl ?_
  obtain ⟨_, _, ⟨T15, L15, k15, n15⟩, -, X15, ⟨Lc15, hQ15, l15, y15, z15⟩, st15⟩ := Jvm.LawKit.callS X14 hx (y := mt5) hown (mvT hZ (kw43 hw)) (mvT hZ (kw44 hw)) (mvT hZ (kw3 hw)) (mvT hZ (kw45 hw)) (by decide) (backOf (W := 2) (rm_chk l Z a0 hw [] xrs_2 h14 n0 Z14 (hsid)) hZ (kw45 hw) (kw3 hw) (by decide) (by decide)) (g := (mkF m 5 #[.val (.long yrs_1), .second, .val (.int xrs_2), .val (.ref ars_3), .val (.ref ars_4)] [(.int xrs_2), (.ref o14), (.ref o14)])) rfl (by rw [hml]; rfl) (argsL := [(.int xrs_2)]) (rest := [(.ref o14), (.ref o14)]) (lenOf pd3 rfl) rfl (by show 2 * 0 + _ ≤ _; exact Nat.le_of_eq rfl) (hb hby d_prog_39_method_3_5) (fun _ _ => ⟨rfl, e14, (by decide : 1 + 0 ≤ _), (by decide : 4 + 0 ≤ _)⟩)
  dsimp only [Pt.U, Pt.locs, Pt.cells, Pt.slots] at X15 l15 y15 z15 st15 hQ15
  subst l15 y15 z15
  obtain ⟨rfl, Nq15, e15⟩ := hQ15
  have N15 := Fr.app N0 Nq15
  refine Wq.step st15 ?_
  show Wq _ _ _ _ _ (T15.setTop (mkF m 8 #[.val (.long yrs_1), .second, .val (.int xrs_2), .val (.ref ars_3), .val (.ref ars_4)] [(.int xrs_2), (.ref o14), (.ref o14)]))
  refine Ow.i2b X15 hx (pc' := 9) (hb hby d_prog_39_method_3_8) (z := (xrs_2.toInt8.toInt32)) rfl ?_
  refine Ow.aloadN X15 hx (pc' := 10) (hb hby d_prog_39_method_3_9) rfl rfl ?_
  obtain ⟨cq16, kq16, q16a, q16b, q16c⟩ := isOf hZ e15 E_ars_3_t14
  obtain ⟨_, _, ⟨T16, L16, k16, n16⟩, -, X16, ⟨Lc16, hQ16, l16, y16, z16⟩, st16⟩ := X15.virtualBack hx (y := mt6) (z := mt6) hown (mvT hZ (kw53 hw)) (mvT hZ (kw54 hw)) (notFace_of_selects (args := #[]) (mvT hZ (kw56 hw))) (mvT hZ (kw56 hw)) (mvT hZ (kw55 hw)) (by decide) (backOf (W := 3) (rm_code l Z a0 hw [] ars_3 wrs h14 n0 Z14 F_ars_3_code_t14) hZ (kw57 hw) (kw48 hw) (by decide) (by decide)) q16a q16c (g := (mkF m 10 #[.val (.long yrs_1), .second, .val (.int xrs_2), .val (.ref ars_3), .val (.ref ars_4)] [(.ref ars_3), (.int (xrs_2.toInt8.toInt32)), (.ref o14), (.ref o14)])) rfl (by rw [hml]; rfl) (Steps.refl _) (argsL := []) (rest := [(.int (xrs_2.toInt8.toInt32)), (.ref o14), (.ref o14)]) (lenOf pd5 rfl) rfl (by show 2 * 0 + _ ≤ _; exact Nat.le_of_eq rfl) (hb hby d_prog_39_method_3_10) (fun _ _ => ⟨rfl, e15, (by decide : 1 + 0 ≤ _), (by decide : 4 + 0 ≤ _)⟩)
  dsimp only [Pt.U, Pt.locs, Pt.cells, Pt.slots] at X16 l16 y16 z16 st16 hQ16
  subst l16 y16 z16
  obtain ⟨rfl, Nq16, e16⟩ := hQ16
  have N16 := Fr.app N15 Nq16
  refine Wq.steps st16 ?_
  show Wq _ _ _ _ _ (T16.setTop (mkF m 13 #[.val (.long yrs_1), .second, .val (.int xrs_2), .val (.ref ars_3), .val (.ref ars_4)] [(.int (f_code wrs)), (.int (xrs_2.toInt8.toInt32)), (.ref o14), (.ref o14)]))
  refine Ow.lloadN X16 hx (pc' := 14) (hb hby d_prog_39_method_3_13) rfl ?_
  refine Ow.aload X16 hx (pc' := 16) (hb hby d_prog_39_method_3_14) rfl rfl ?_
  obtain ⟨_, _, ⟨T17, L17, k17, n17⟩, -, Xr17, hSr17, hgr17, ⟨Lc17, hQ17, l17, y17, z17⟩, st17⟩ := X16.specialBackS hx (y := mt3) rfl hown (mvT hZ (kw46 hw)) (mvT hZ (kw5 hw)) (mvT hZ (kw6 hw)) (by decide) (backOfS (W := 1) (rm_ctor l Z a0 hw [] o14 (xrs_2.toInt8.toInt32) (f_code wrs) yrs_1 ars_4 h14 n0 Z14 (own_nb _) (fits_nar_byte _) (own_nb _) (fits_nar_byte _) A14 F_o14_flags F_o14_status F_o14_id F_o14_body g_o14) hZ (kw6 hw) (kw3 hw) (by decide) (by decide)) (g := (mkF m 16 #[.val (.long yrs_1), .second, .val (.int xrs_2), .val (.ref ars_3), .val (.ref ars_4)] [(.ref ars_4), (.long yrs_1), (.int (f_code wrs)), (.int (xrs_2.toInt8.toInt32)), (.ref o14), (.ref o14)])) rfl (by rw [hml]; rfl) (Steps.refl _) (a := o14) (argsL := [(.int (xrs_2.toInt8.toInt32)), (.int (f_code wrs)), (.long yrs_1), (.ref ars_4)]) (rest := [(.ref o14)]) (lenOf pd4 rfl) rfl (by show 2 * 0 + _ ≤ _; exact Nat.le_of_eq rfl) (hb hby d_prog_39_method_3_16) (fun _ _ => ⟨rfl, e16, (by decide : 1 + 2 ≤ _), (by decide : 4 + 20 ≤ _)⟩)
  dsimp only [Pt.U, Pt.locs, Pt.cells, Pt.slots] at Xr17 hSr17 hgr17 l17 y17 z17 st17 hQ17
  subst l17 y17 z17
  obtain ⟨X17, hS17, hZ17, hown17⟩ := rebS hS0 (by rw [e16]; exact hk14) Xr17 hSr17 hgr17 hZ hown
  have hk17 := Nat.le_refl T17.heap.size
  obtain ⟨rfl, Nq17, Kq17, P17_0, P17_1, P17_2, P17_3, P17_4⟩ := hQ17
  have N17 := Fr.app N16 Nq17
  have K17 : Keep h0 T17.heap [] := K14.trans Kq17 (allS (P := fun x => x ∈ [] ∨ h0.size ≤ x) (Or.inr sz_o14) all0)
  have Z17 : n0 ≤ T17.heap.size := Nat.le_trans Z14 Kq17.1
  have E_ars_3_t17 := E_ars_3_t14.keep Kq17
  have F_ars_3_code_t17 := F_ars_3_code_t14.keep Kq17 (ninS ne_ars_3_o14 nin0)
  have A14_t17 := A14.keep Kq17
  have e17 : T17.heap = T17.heap := rfl
  refine Wq.steps st17 ?_
  show Wq _ _ _ _ _ (T17.setTop (mkF m 19 #[.val (.long yrs_1), .second, .val (.int xrs_2), .val (.ref ars_3), .val (.ref ars_4)] [(.ref o14)]))
  exact Wq.retW X17 hS17 (by rw [e17]; exact hk17) (BodyLoose.notSynchronized Bd) (rv := some (.ref o14)) (fun h => by rw [Bd.returns] at h; cases h) (fun _ hr => retOut X17 hx Bd.returns rfl (Or.inr (Or.inr (Or.inr (Or.inr ⟨rfl, rfl, rfl⟩)))) (hb hby d_prog_39_method_3_19) hr) (by decide) (by decide) (by rw [e17]; exact ⟨o14, rfl, N17, K17, sz_o14, A14_t17, P17_1, P17_2, P17_3, P17_4⟩)
theorem kw63 {Z : State} {a0 : Array Value} (hw : ∀ d ∈ tables_1, d.before a0 Z = true) : (Jvm.Cond.fieldLink "com/example/meridian/meridian/wire/Frame" (44 : Nat) "com/example/meridian/meridian/wire/Frame" "NO_BODY" "[B").before a0 Z = true := hw _ (List.mem_of_getElem? (i := 63) rfl)
theorem d_prog_39_method_4_0 : decode prog_39_method_4_code 0 = .ok (.new 16, 3) := by decide +kernel
theorem d_prog_39_method_4_3 : decode prog_39_method_4_code 3 = .ok (.dup, 1) := by decide +kernel
theorem d_prog_39_method_4_4 : decode prog_39_method_4_code 4 = .ok (.sipush 224, 3) := by decide +kernel
theorem d_prog_39_method_4_7 : decode prog_39_method_4_code 7 = .ok (.iload_n 2, 1) := by decide +kernel
theorem d_prog_39_method_4_8 : decode prog_39_method_4_code 8 = .ok (.invokestatic 31, 3) := by decide +kernel
theorem d_prog_39_method_4_11 : decode prog_39_method_4_code 11 = .ok (.ior, 1) := by decide +kernel
theorem d_prog_39_method_4_12 : decode prog_39_method_4_code 12 = .ok (.i2b, 1) := by decide +kernel
theorem d_prog_39_method_4_13 : decode prog_39_method_4_code 13 = .ok (.iconst 0, 1) := by decide +kernel
theorem d_prog_39_method_4_14 : decode prog_39_method_4_code 14 = .ok (.lload_n 0, 1) := by decide +kernel
theorem d_prog_39_method_4_15 : decode prog_39_method_4_code 15 = .ok (.getstatic 44, 3) := by decide +kernel
theorem d_prog_39_method_4_18 : decode prog_39_method_4_code 18 = .ok (.invokespecial 35, 3) := by decide +kernel
theorem ef_hb (m : MethodId) (yhb_1 : Int64) (xhb_2 : Int32) : entryFrame m #[(.long yhb_1), (.int xhb_2)] 3 = mkF m 0 #[.val (.long yhb_1), .second, .val (.int xhb_2)] [] := by first | (simp [entryFrame, mkF, argsToLocals, Value.category]; done) | rfl
def Q_hb (Z : State) (yhb_1 : Int64) (xhb_2 : Int32) (unb : Addr) (h0 : Heap) (n0 : Nat) (v : Option Value) (h : Heap) (L : List Loc) : Prop := ∃ o18 : Addr, v = some (.ref o18) ∧ Fr n0 L ∧ Keep h0 h [] ∧ h0.size ≤ o18 ∧ Exa Z h o18 "com/example/meridian/meridian/wire/Frame" ∧ Fld Z h o18 "com/example/meridian/meridian/wire/Frame" "flags" "B" (.int (((224 : Int32) ||| xhb_2).toInt8.toInt32)) ∧ Fld Z h o18 "com/example/meridian/meridian/wire/Frame" "status" "B" (.int (0 : Int32)) ∧ Fld Z h o18 "com/example/meridian/meridian/wire/Frame" "id" "J" (.long yhb_1) ∧ Fld Z h o18 "com/example/meridian/meridian/wire/Frame" "body" "[B" (.ref unb)
theorem d_prog_39_method_4_21 : decode prog_39_method_4_code 21 = .ok (.areturn, 1) := by decide +kernel
abbrev mt9 : MethodName := ⟨"com/example/meridian/meridian/wire/Frame", "heartbeat", "(JI)Lcom/example/meridian/meridian/wire/Frame;"⟩
set_option maxRecDepth 65536 in
set_option maxHeartbeats 40000000 in
theorem rm_hb (l : Launch) (Z : State) (a0 : Array Value) (hw : ∀ d ∈ tables_1, d.before a0 Z = true) (ws : List Jvm.Cond) (yhb_1 : Int64) (xhb_2 : Int32) (unb : Addr) (h0 : Heap) (n0 : Nat) (Z0 : n0 ≤ h0.size) (hsid : (xhb_2 &&& (-32 : Int32)) = (0 : Int32)) (S_NO_BODY : Sta Z h0 "com/example/meridian/meridian/wire/Frame" "NO_BODY" "[B" (.ref unb)) :
    MetFree l mt9 (head1 (Jvm.Cond.code mt9 prog_39_method_4_code 3 (some (.object "com/example/meridian/meridian/wire/Frame")) :: ws) ({ frames := 3, cells := 3, slots := 24, locals := 42 } : Room)) (fun a U => a = #[(.long yhb_1), (.int xhb_2)] ∧ Z.Warmed39 U.vm ∧ U.heap = h0) (fun _ _ _ _ _ => True) (fun _ U o U' => ∃ v L, o = .returned v ∧ (Q_hb Z yhb_1 xhb_2 unb h0 n0) v U'.heap L ∧ ReturnedEndW U o U' L ({ frames := 3, cells := 3, slots := 24, locals := 42 } : Room).cells ({ frames := 3, cells := 3, slots := 24, locals := 42 } : Room).slots) := by
  refine MetFree.of_bodySF (plainFor_of_name pn3) hisR ?_
  intro p e s m args below meth c s₁ Bd hml0 hP hK
  obtain ⟨rfl, hZ, hh⟩ := hP
  have hx := Bd.exec
  have hby := Bd.bytes
  have hml : c.maxLocals = 3 := hml0
  have hown : s.vm.findClass "com/example/meridian/meridian/wire/Frame" = some m.cls := findClass_of_methodNamed Bd.named
  have hnm := (name_of_methodNamed Bd.named Bd.method).1
  have hS0 : s.Since s.vm 0 := (State.WarmedH.refl s).since 0
  have hk0 : 0 ≤ h0.size := Nat.zero_le _
  have X0 : Stand p l e ({ frames := 3, cells := 3, slots := 24, locals := 42 } : Room) (s.setVm s.vm) m #[(.long yhb_1), (.int xhb_2)] below meth c s₁ [] 0 0 := Stand.of_body Bd
  have e0 : s₁.heap = h0 := by rw [← hh, Bd.state]; rfl
  have N0 := Fr.nil n0
  refine Wq.step (p := p) (e := e) (below := below) (En := (fun o t L => ReturnedEndW s o t L ({ frames := 3, cells := 3, slots := 24, locals := 42 } : Room).cells ({ frames := 3, cells := 3, slots := 24, locals := 42 } : Room).slots)) (Q := (Q_hb Z yhb_1 xhb_2 unb h0 n0)) (fun t k => castTop (ef_hb m yhb_1 xhb_2) k) ?_
  show Wq _ _ _ _ _ (s₁.setTop (mkF m 0 #[.val (.long yhb_1), .second, .val (.int xhb_2)] []))
  obtain ⟨T18, h18, X18, e18, E18, A18, D18, -, st18⟩ := newO X0 hx hZ hown (kw42 hw) (kw2 hw) (kw3 hw) e0 (g := (mkF m 0 #[.val (.long yhb_1), .second, .val (.int xhb_2)] [])) rfl (hb hby d_prog_39_method_4_0) (by decide) (by decide)
  obtain ⟨o18, gz18⟩ : ∃ z, z = h0.size := ⟨_, rfl⟩
  rw [← gz18] at A18 D18 st18
  have g_o18 : n0 ≤ o18 := Nat.le_trans Z0 (Nat.le_of_eq gz18.symm)
  have sz_o18 : h0.size ≤ o18 := Nat.le_of_eq gz18.symm
  have K18 : Keep h0 h18 [] := (Keep.refl h0 []).ext E18
  have Z18 : n0 ≤ h18.size := Nat.le_trans Z0 E18.1
  have hk18 := Nat.le_trans hk0 E18.1
  have S_NO_BODY_t18 := S_NO_BODY.ext E18
  refine Wq.step st18 ?_
  have F_o18_flags : Fld Z h18 o18 "com/example/meridian/meridian/wire/Frame" "flags" "B" (.int (0 : Int32)) := D18 (Or.inr (kw27 hw)) (ty := .byte) (by decide)
  have F_o18_status : Fld Z h18 o18 "com/example/meridian/meridian/wire/Frame" "status" "B" (.int (0 : Int32)) := D18 (Or.inr (kw29 hw)) (ty := .byte) (by decide)
  have F_o18_id : Fld Z h18 o18 "com/example/meridian/meridian/wire/Frame" "id" "J" (.long (0 : Int64)) := D18 (Or.inr (kw31 hw)) (ty := .long) (by decide)
  have F_o18_body : Fld Z h18 o18 "com/example/meridian/meridian/wire/Frame" "body" "[B" .null := D18 (Or.inr (kw33 hw)) (ty := (.array .byte)) (by decide)
  show Wq _ _ _ _ _ (T18.setTop (mkF m 3 #[.val (.long yhb_1), .second, .val (.int xhb_2)] [(.ref o18)]))
  refine Ow.dup X18 hx (pc' := 4) (hb hby d_prog_39_method_4_3) rfl ?_
  refine Ow.sipush X18 hx (pc' := 7) (hb hby d_prog_39_method_4_4) (z := (224 : Int32)) rfl ?_
  refine Ow.iloadN X18 hx (pc' := 8) (hb hby d_prog_39_method_4_7) rfl ?_
  obtain ⟨_, _, ⟨T19, L19, k19, n19⟩, -, X19, ⟨Lc19, hQ19, l19, y19, z19⟩, st19⟩ := Jvm.LawKit.callS X18 hx (y := mt5) hown (mvT hZ (kw43 hw)) (mvT hZ (kw44 hw)) (mvT hZ (kw3 hw)) (mvT hZ (kw45 hw)) (by decide) (backOf (W := 3) (rm_chk l Z a0 hw [] xhb_2 h18 n0 Z18 (hsid)) hZ (kw45 hw) (kw3 hw) (by decide) (by decide)) (g := (mkF m 8 #[.val (.long yhb_1), .second, .val (.int xhb_2)] [(.int xhb_2), (.int (224 : Int32)), (.ref o18), (.ref o18)])) rfl (by rw [hml]; rfl) (argsL := [(.int xhb_2)]) (rest := [(.int (224 : Int32)), (.ref o18), (.ref o18)]) (lenOf pd3 rfl) rfl (by show 2 * 0 + _ ≤ _; exact Nat.le_of_eq rfl) (hb hby d_prog_39_method_4_8) (fun _ _ => ⟨rfl, e18, (by decide : 1 + 0 ≤ _), (by decide : 4 + 0 ≤ _)⟩)
  dsimp only [Pt.U, Pt.locs, Pt.cells, Pt.slots] at X19 l19 y19 z19 st19 hQ19
  subst l19 y19 z19
  obtain ⟨rfl, Nq19, e19⟩ := hQ19
  have N19 := Fr.app N0 Nq19
  refine Wq.step st19 ?_
  show Wq _ _ _ _ _ (T19.setTop (mkF m 11 #[.val (.long yhb_1), .second, .val (.int xhb_2)] [(.int xhb_2), (.int (224 : Int32)), (.ref o18), (.ref o18)]))
  refine Ow.ior X19 hx (pc' := 12) (hb hby d_prog_39_method_4_11) (z := ((224 : Int32) ||| xhb_2)) rfl ?_
  refine Ow.i2b X19 hx (pc' := 13) (hb hby d_prog_39_method_4_12) (z := (((224 : Int32) ||| xhb_2).toInt8.toInt32)) rfl ?_
  refine Ow.iconst X19 hx (pc' := 14) (hb hby d_prog_39_method_4_13) (z := (0 : Int32)) rfl ?_
  refine Ow.lloadN X19 hx (pc' := 15) (hb hby d_prog_39_method_4_14) rfl ?_
  obtain ⟨T20, X20, e20, st20⟩ := getS2 X19 hx hZ hown (host := "") (Or.inl (kw63 hw)) Via.refl e19 S_NO_BODY_t18 (g := (mkF m 15 #[.val (.long yhb_1), .second, .val (.int xhb_2)] [(.long yhb_1), (.int (0 : Int32)), (.int (((224 : Int32) ||| xhb_2).toInt8.toInt32)), (.ref o18), (.ref o18)])) rfl (hb hby d_prog_39_method_4_15)
  refine Wq.step st20 ?_
  show Wq _ _ _ _ _ (T20.setTop (mkF m 18 #[.val (.long yhb_1), .second, .val (.int xhb_2)] [(.ref unb), (.long yhb_1), (.int (0 : Int32)), (.int (((224 : Int32) ||| xhb_2).toInt8.toInt32)), (.ref o18), (.ref o18)]))
  obtain ⟨_, _, ⟨T21, L21, k21, n21⟩, -, Xr21, hSr21, hgr21, ⟨Lc21, hQ21, l21, y21, z21⟩, st21⟩ := X20.specialBackS hx (y := mt3) rfl hown (mvT hZ (kw46 hw)) (mvT hZ (kw5 hw)) (mvT hZ (kw6 hw)) (by decide) (backOfS (W := 1) (rm_ctor l Z a0 hw [] o18 (((224 : Int32) ||| xhb_2).toInt8.toInt32) (0 : Int32) yhb_1 unb h18 n0 Z18 (own_nb _) (fits_nar_byte _) (rfl) (rfl) A18 F_o18_flags F_o18_status F_o18_id F_o18_body g_o18) hZ (kw6 hw) (kw3 hw) (by decide) (by decide)) (g := (mkF m 18 #[.val (.long yhb_1), .second, .val (.int xhb_2)] [(.ref unb), (.long yhb_1), (.int (0 : Int32)), (.int (((224 : Int32) ||| xhb_2).toInt8.toInt32)), (.ref o18), (.ref o18)])) rfl (by rw [hml]; rfl) (Steps.refl _) (a := o18) (argsL := [(.int (((224 : Int32) ||| xhb_2).toInt8.toInt32)), (.int (0 : Int32)), (.long yhb_1), (.ref unb)]) (rest := [(.ref o18)]) (lenOf pd4 rfl) rfl (by show 2 * 0 + _ ≤ _; exact Nat.le_of_eq rfl) (hb hby d_prog_39_method_4_18) (fun _ _ => ⟨rfl, e20, (by decide : 1 + 2 ≤ _), (by decide : 4 + 20 ≤ _)⟩)
  dsimp only [Pt.U, Pt.locs, Pt.cells, Pt.slots] at Xr21 hSr21 hgr21 l21 y21 z21 st21 hQ21
  subst l21 y21 z21
  obtain ⟨X21, hS21, hZ21, hown21⟩ := rebS hS0 (by rw [e20]; exact hk18) Xr21 hSr21 hgr21 hZ hown
  have hk21 := Nat.le_refl T21.heap.size
  obtain ⟨rfl, Nq21, Kq21, P21_0, P21_1, P21_2, P21_3, P21_4⟩ := hQ21
  have N21 := Fr.app N19 Nq21
  have K21 : Keep h0 T21.heap [] := K18.trans Kq21 (allS (P := fun x => x ∈ [] ∨ h0.size ≤ x) (Or.inr sz_o18) all0)
  have Z21 : n0 ≤ T21.heap.size := Nat.le_trans Z18 Kq21.1
  have S_NO_BODY_t21 := Jvm.OwnW.Sta.keepN S_NO_BODY_t18 Kq21 (allS (P := fun w => ∀ cell : Cell, h18[w]? = some cell → cell.vm.isStatics = false) (Jvm.OwnW.Exa.ns A18) all0)
  have A18_t21 := A18.keep Kq21
  have e21 : T21.heap = T21.heap := rfl
  refine Wq.steps st21 ?_
  show Wq _ _ _ _ _ (T21.setTop (mkF m 21 #[.val (.long yhb_1), .second, .val (.int xhb_2)] [(.ref o18)]))
  exact Wq.retW X21 hS21 (by rw [e21]; exact hk21) (BodyLoose.notSynchronized Bd) (rv := some (.ref o18)) (fun h => by rw [Bd.returns] at h; cases h) (fun _ hr => retOut X21 hx Bd.returns rfl (Or.inr (Or.inr (Or.inr (Or.inr ⟨rfl, rfl, rfl⟩)))) (hb hby d_prog_39_method_4_21) hr) (by decide) (by decide) (by rw [e21]; exact ⟨o18, rfl, N21, K21, sz_o18, A18_t21, P21_1, P21_2, P21_3, P21_4⟩)
theorem kw68 {Z : State} {a0 : Array Value} (hw : ∀ d ∈ tables_1, d.before a0 Z = true) : (Jvm.Cond.fieldLink "com/example/meridian/meridian/wire/Frame" (47 : Nat) "com/example/meridian/meridian/wire/Status" "OK" "Lcom/example/meridian/meridian/wire/Status;").before a0 Z = true := hw _ (List.mem_of_getElem? (i := 68) rfl)
theorem d_prog_39_method_5_0 : decode prog_39_method_5_code 0 = .ok (.new 16, 3) := by decide +kernel
theorem d_prog_39_method_5_3 : decode prog_39_method_5_code 3 = .ok (.dup, 1) := by decide +kernel
theorem d_prog_39_method_5_4 : decode prog_39_method_5_code 4 = .ok (.bipush 32, 2) := by decide +kernel
theorem d_prog_39_method_5_6 : decode prog_39_method_5_code 6 = .ok (.iload_n 2, 1) := by decide +kernel
theorem d_prog_39_method_5_7 : decode prog_39_method_5_code 7 = .ok (.invokestatic 31, 3) := by decide +kernel
theorem d_prog_39_method_5_10 : decode prog_39_method_5_code 10 = .ok (.ior, 1) := by decide +kernel
theorem d_prog_39_method_5_11 : decode prog_39_method_5_code 11 = .ok (.i2b, 1) := by decide +kernel
theorem d_prog_39_method_5_12 : decode prog_39_method_5_code 12 = .ok (.getstatic 47, 3) := by decide +kernel
theorem d_prog_39_method_5_15 : decode prog_39_method_5_code 15 = .ok (.invokevirtual 38, 3) := by decide +kernel
theorem d_prog_39_method_5_18 : decode prog_39_method_5_code 18 = .ok (.lload_n 0, 1) := by decide +kernel
theorem d_prog_39_method_5_19 : decode prog_39_method_5_code 19 = .ok (.getstatic 44, 3) := by decide +kernel
theorem d_prog_39_method_5_22 : decode prog_39_method_5_code 22 = .ok (.invokespecial 35, 3) := by decide +kernel
theorem ef_hr (m : MethodId) (yhr_1 : Int64) (xhr_2 : Int32) : entryFrame m #[(.long yhr_1), (.int xhr_2)] 3 = mkF m 0 #[.val (.long yhr_1), .second, .val (.int xhr_2)] [] := by first | (simp [entryFrame, mkF, argsToLocals, Value.category]; done) | rfl
def Q_hr (Z : State) (yhr_1 : Int64) (xhr_2 : Int32) (unb : Addr) (uok : Addr) (whr : Int32) (h0 : Heap) (n0 : Nat) (v : Option Value) (h : Heap) (L : List Loc) : Prop := ∃ o22 : Addr, v = some (.ref o22) ∧ Fr n0 L ∧ Keep h0 h [] ∧ h0.size ≤ o22 ∧ Exa Z h o22 "com/example/meridian/meridian/wire/Frame" ∧ Fld Z h o22 "com/example/meridian/meridian/wire/Frame" "flags" "B" (.int (((32 : Int32) ||| xhr_2).toInt8.toInt32)) ∧ Fld Z h o22 "com/example/meridian/meridian/wire/Frame" "status" "B" (.int (f_code whr)) ∧ Fld Z h o22 "com/example/meridian/meridian/wire/Frame" "id" "J" (.long yhr_1) ∧ Fld Z h o22 "com/example/meridian/meridian/wire/Frame" "body" "[B" (.ref unb)
theorem d_prog_39_method_5_25 : decode prog_39_method_5_code 25 = .ok (.areturn, 1) := by decide +kernel
abbrev mt10 : MethodName := ⟨"com/example/meridian/meridian/wire/Frame", "heartbeatResponse", "(JI)Lcom/example/meridian/meridian/wire/Frame;"⟩
set_option maxRecDepth 65536 in
set_option maxHeartbeats 40000000 in
theorem rm_hr (l : Launch) (Z : State) (a0 : Array Value) (hw : ∀ d ∈ tables_1, d.before a0 Z = true) (ws : List Jvm.Cond) (yhr_1 : Int64) (xhr_2 : Int32) (unb : Addr) (uok : Addr) (whr : Int32) (h0 : Heap) (n0 : Nat) (Z0 : n0 ≤ h0.size) (hsid : (xhr_2 &&& (-32 : Int32)) = (0 : Int32)) (S_NO_BODY : Sta Z h0 "com/example/meridian/meridian/wire/Frame" "NO_BODY" "[B" (.ref unb)) (S_OK : Sta Z h0 "com/example/meridian/meridian/wire/Status" "OK" "Lcom/example/meridian/meridian/wire/Status;" (.ref uok)) (E_uok : Exa Z h0 uok "com/example/meridian/meridian/wire/Status") (F_uok_code : Fld Z h0 uok "com/example/meridian/meridian/wire/Status" "code" "B" (.int whr)) :
    MetFree l mt10 (head1 (Jvm.Cond.code mt10 prog_39_method_5_code 3 (some (.object "com/example/meridian/meridian/wire/Frame")) :: ws) ({ frames := 3, cells := 3, slots := 24, locals := 42 } : Room)) (fun a U => a = #[(.long yhr_1), (.int xhr_2)] ∧ Z.Warmed39 U.vm ∧ U.heap = h0) (fun _ _ _ _ _ => True) (fun _ U o U' => ∃ v L, o = .returned v ∧ (Q_hr Z yhr_1 xhr_2 unb uok whr h0 n0) v U'.heap L ∧ ReturnedEndW U o U' L ({ frames := 3, cells := 3, slots := 24, locals := 42 } : Room).cells ({ frames := 3, cells := 3, slots := 24, locals := 42 } : Room).slots) := by
  refine MetFree.of_bodySF (plainFor_of_name pn3) hisR ?_
  intro p e s m args below meth c s₁ Bd hml0 hP hK
  obtain ⟨rfl, hZ, hh⟩ := hP
  have hx := Bd.exec
  have hby := Bd.bytes
  have hml : c.maxLocals = 3 := hml0
  have hown : s.vm.findClass "com/example/meridian/meridian/wire/Frame" = some m.cls := findClass_of_methodNamed Bd.named
  have hnm := (name_of_methodNamed Bd.named Bd.method).1
  have hS0 : s.Since s.vm 0 := (State.WarmedH.refl s).since 0
  have hk0 : 0 ≤ h0.size := Nat.zero_le _
  have X0 : Stand p l e ({ frames := 3, cells := 3, slots := 24, locals := 42 } : Room) (s.setVm s.vm) m #[(.long yhr_1), (.int xhr_2)] below meth c s₁ [] 0 0 := Stand.of_body Bd
  have e0 : s₁.heap = h0 := by rw [← hh, Bd.state]; rfl
  have N0 := Fr.nil n0
  refine Wq.step (p := p) (e := e) (below := below) (En := (fun o t L => ReturnedEndW s o t L ({ frames := 3, cells := 3, slots := 24, locals := 42 } : Room).cells ({ frames := 3, cells := 3, slots := 24, locals := 42 } : Room).slots)) (Q := (Q_hr Z yhr_1 xhr_2 unb uok whr h0 n0)) (fun t k => castTop (ef_hr m yhr_1 xhr_2) k) ?_
  show Wq _ _ _ _ _ (s₁.setTop (mkF m 0 #[.val (.long yhr_1), .second, .val (.int xhr_2)] []))
  obtain ⟨T22, h22, X22, e22, E22, A22, D22, -, st22⟩ := newO X0 hx hZ hown (kw42 hw) (kw2 hw) (kw3 hw) e0 (g := (mkF m 0 #[.val (.long yhr_1), .second, .val (.int xhr_2)] [])) rfl (hb hby d_prog_39_method_5_0) (by decide) (by decide)
  obtain ⟨o22, gz22⟩ : ∃ z, z = h0.size := ⟨_, rfl⟩
  rw [← gz22] at A22 D22 st22
  have g_o22 : n0 ≤ o22 := Nat.le_trans Z0 (Nat.le_of_eq gz22.symm)
  have sz_o22 : h0.size ≤ o22 := Nat.le_of_eq gz22.symm
  have ne_uok_o22 : uok ≠ o22 := Nat.ne_of_lt (Nat.lt_of_lt_of_le E_uok.lt (Nat.le_of_eq gz22.symm))
  have K22 : Keep h0 h22 [] := (Keep.refl h0 []).ext E22
  have Z22 : n0 ≤ h22.size := Nat.le_trans Z0 E22.1
  have hk22 := Nat.le_trans hk0 E22.1
  have S_NO_BODY_t22 := S_NO_BODY.ext E22
  have S_OK_t22 := S_OK.ext E22
  have E_uok_t22 := E_uok.ext E22
  have F_uok_code_t22 := F_uok_code.ext E22
  refine Wq.step st22 ?_
  have F_o22_flags : Fld Z h22 o22 "com/example/meridian/meridian/wire/Frame" "flags" "B" (.int (0 : Int32)) := D22 (Or.inr (kw27 hw)) (ty := .byte) (by decide)
  have F_o22_status : Fld Z h22 o22 "com/example/meridian/meridian/wire/Frame" "status" "B" (.int (0 : Int32)) := D22 (Or.inr (kw29 hw)) (ty := .byte) (by decide)
  have F_o22_id : Fld Z h22 o22 "com/example/meridian/meridian/wire/Frame" "id" "J" (.long (0 : Int64)) := D22 (Or.inr (kw31 hw)) (ty := .long) (by decide)
  have F_o22_body : Fld Z h22 o22 "com/example/meridian/meridian/wire/Frame" "body" "[B" .null := D22 (Or.inr (kw33 hw)) (ty := (.array .byte)) (by decide)
  show Wq _ _ _ _ _ (T22.setTop (mkF m 3 #[.val (.long yhr_1), .second, .val (.int xhr_2)] [(.ref o22)]))
  refine Ow.dup X22 hx (pc' := 4) (hb hby d_prog_39_method_5_3) rfl ?_
  refine Ow.bipush X22 hx (pc' := 6) (hb hby d_prog_39_method_5_4) (z := (32 : Int32)) rfl ?_
  refine Ow.iloadN X22 hx (pc' := 7) (hb hby d_prog_39_method_5_6) rfl ?_
  obtain ⟨_, _, ⟨T23, L23, k23, n23⟩, -, X23, ⟨Lc23, hQ23, l23, y23, z23⟩, st23⟩ := Jvm.LawKit.callS X22 hx (y := mt5) hown (mvT hZ (kw43 hw)) (mvT hZ (kw44 hw)) (mvT hZ (kw3 hw)) (mvT hZ (kw45 hw)) (by decide) (backOf (W := 3) (rm_chk l Z a0 hw [] xhr_2 h22 n0 Z22 (hsid)) hZ (kw45 hw) (kw3 hw) (by decide) (by decide)) (g := (mkF m 7 #[.val (.long yhr_1), .second, .val (.int xhr_2)] [(.int xhr_2), (.int (32 : Int32)), (.ref o22), (.ref o22)])) rfl (by rw [hml]; rfl) (argsL := [(.int xhr_2)]) (rest := [(.int (32 : Int32)), (.ref o22), (.ref o22)]) (lenOf pd3 rfl) rfl (by show 2 * 0 + _ ≤ _; exact Nat.le_of_eq rfl) (hb hby d_prog_39_method_5_7) (fun _ _ => ⟨rfl, e22, (by decide : 1 + 0 ≤ _), (by decide : 4 + 0 ≤ _)⟩)
  dsimp only [Pt.U, Pt.locs, Pt.cells, Pt.slots] at X23 l23 y23 z23 st23 hQ23
  subst l23 y23 z23
  obtain ⟨rfl, Nq23, e23⟩ := hQ23
  have N23 := Fr.app N0 Nq23
  refine Wq.step st23 ?_
  show Wq _ _ _ _ _ (T23.setTop (mkF m 10 #[.val (.long yhr_1), .second, .val (.int xhr_2)] [(.int xhr_2), (.int (32 : Int32)), (.ref o22), (.ref o22)]))
  refine Ow.ior X23 hx (pc' := 11) (hb hby d_prog_39_method_5_10) (z := ((32 : Int32) ||| xhr_2)) rfl ?_
  refine Ow.i2b X23 hx (pc' := 12) (hb hby d_prog_39_method_5_11) (z := (((32 : Int32) ||| xhr_2).toInt8.toInt32)) rfl ?_
  obtain ⟨T24, X24, e24, st24⟩ := getS2 X23 hx hZ hown (host := "") (Or.inl (kw68 hw)) Via.refl e23 S_OK_t22 (g := (mkF m 12 #[.val (.long yhr_1), .second, .val (.int xhr_2)] [(.int (((32 : Int32) ||| xhr_2).toInt8.toInt32)), (.ref o22), (.ref o22)])) rfl (hb hby d_prog_39_method_5_12)
  refine Wq.step st24 ?_
  show Wq _ _ _ _ _ (T24.setTop (mkF m 15 #[.val (.long yhr_1), .second, .val (.int xhr_2)] [(.ref uok), (.int (((32 : Int32) ||| xhr_2).toInt8.toInt32)), (.ref o22), (.ref o22)]))
  obtain ⟨cq25, kq25, q25a, q25b, q25c⟩ := isOf hZ e24 E_uok_t22
  obtain ⟨_, _, ⟨T25, L25, k25, n25⟩, -, X25, ⟨Lc25, hQ25, l25, y25, z25⟩, st25⟩ := X24.virtualBack hx (y := mt6) (z := mt6) hown (mvT hZ (kw53 hw)) (mvT hZ (kw54 hw)) (notFace_of_selects (args := #[]) (mvT hZ (kw56 hw))) (mvT hZ (kw56 hw)) (mvT hZ (kw55 hw)) (by decide) (backOf (W := 3) (rm_code l Z a0 hw [] uok whr h22 n0 Z22 F_uok_code_t22) hZ (kw57 hw) (kw48 hw) (by decide) (by decide)) q25a q25c (g := (mkF m 15 #[.val (.long yhr_1), .second, .val (.int xhr_2)] [(.ref uok), (.int (((32 : Int32) ||| xhr_2).toInt8.toInt32)), (.ref o22), (.ref o22)])) rfl (by rw [hml]; rfl) (Steps.refl _) (argsL := []) (rest := [(.int (((32 : Int32) ||| xhr_2).toInt8.toInt32)), (.ref o22), (.ref o22)]) (lenOf pd5 rfl) rfl (by show 2 * 0 + _ ≤ _; exact Nat.le_of_eq rfl) (hb hby d_prog_39_method_5_15) (fun _ _ => ⟨rfl, e24, (by decide : 1 + 0 ≤ _), (by decide : 4 + 0 ≤ _)⟩)
  dsimp only [Pt.U, Pt.locs, Pt.cells, Pt.slots] at X25 l25 y25 z25 st25 hQ25
  subst l25 y25 z25
  obtain ⟨rfl, Nq25, e25⟩ := hQ25
  have N25 := Fr.app N23 Nq25
  refine Wq.steps st25 ?_
  show Wq _ _ _ _ _ (T25.setTop (mkF m 18 #[.val (.long yhr_1), .second, .val (.int xhr_2)] [(.int (f_code whr)), (.int (((32 : Int32) ||| xhr_2).toInt8.toInt32)), (.ref o22), (.ref o22)]))
  refine Ow.lloadN X25 hx (pc' := 19) (hb hby d_prog_39_method_5_18) rfl ?_
  obtain ⟨T26, X26, e26, st26⟩ := getS2 X25 hx hZ hown (host := "") (Or.inl (kw63 hw)) Via.refl e25 S_NO_BODY_t22 (g := (mkF m 19 #[.val (.long yhr_1), .second, .val (.int xhr_2)] [(.long yhr_1), (.int (f_code whr)), (.int (((32 : Int32) ||| xhr_2).toInt8.toInt32)), (.ref o22), (.ref o22)])) rfl (hb hby d_prog_39_method_5_19)
  refine Wq.step st26 ?_
  show Wq _ _ _ _ _ (T26.setTop (mkF m 22 #[.val (.long yhr_1), .second, .val (.int xhr_2)] [(.ref unb), (.long yhr_1), (.int (f_code whr)), (.int (((32 : Int32) ||| xhr_2).toInt8.toInt32)), (.ref o22), (.ref o22)]))
  obtain ⟨_, _, ⟨T27, L27, k27, n27⟩, -, Xr27, hSr27, hgr27, ⟨Lc27, hQ27, l27, y27, z27⟩, st27⟩ := X26.specialBackS hx (y := mt3) rfl hown (mvT hZ (kw46 hw)) (mvT hZ (kw5 hw)) (mvT hZ (kw6 hw)) (by decide) (backOfS (W := 1) (rm_ctor l Z a0 hw [] o22 (((32 : Int32) ||| xhr_2).toInt8.toInt32) (f_code whr) yhr_1 unb h22 n0 Z22 (own_nb _) (fits_nar_byte _) (own_nb _) (fits_nar_byte _) A22 F_o22_flags F_o22_status F_o22_id F_o22_body g_o22) hZ (kw6 hw) (kw3 hw) (by decide) (by decide)) (g := (mkF m 22 #[.val (.long yhr_1), .second, .val (.int xhr_2)] [(.ref unb), (.long yhr_1), (.int (f_code whr)), (.int (((32 : Int32) ||| xhr_2).toInt8.toInt32)), (.ref o22), (.ref o22)])) rfl (by rw [hml]; rfl) (Steps.refl _) (a := o22) (argsL := [(.int (((32 : Int32) ||| xhr_2).toInt8.toInt32)), (.int (f_code whr)), (.long yhr_1), (.ref unb)]) (rest := [(.ref o22)]) (lenOf pd4 rfl) rfl (by show 2 * 0 + _ ≤ _; exact Nat.le_of_eq rfl) (hb hby d_prog_39_method_5_22) (fun _ _ => ⟨rfl, e26, (by decide : 1 + 2 ≤ _), (by decide : 4 + 20 ≤ _)⟩)
  dsimp only [Pt.U, Pt.locs, Pt.cells, Pt.slots] at Xr27 hSr27 hgr27 l27 y27 z27 st27 hQ27
  subst l27 y27 z27
  obtain ⟨X27, hS27, hZ27, hown27⟩ := rebS hS0 (by rw [e26]; exact hk22) Xr27 hSr27 hgr27 hZ hown
  have hk27 := Nat.le_refl T27.heap.size
  obtain ⟨rfl, Nq27, Kq27, P27_0, P27_1, P27_2, P27_3, P27_4⟩ := hQ27
  have N27 := Fr.app N25 Nq27
  have K27 : Keep h0 T27.heap [] := K22.trans Kq27 (allS (P := fun x => x ∈ [] ∨ h0.size ≤ x) (Or.inr sz_o22) all0)
  have Z27 : n0 ≤ T27.heap.size := Nat.le_trans Z22 Kq27.1
  have S_NO_BODY_t27 := Jvm.OwnW.Sta.keepN S_NO_BODY_t22 Kq27 (allS (P := fun w => ∀ cell : Cell, h22[w]? = some cell → cell.vm.isStatics = false) (Jvm.OwnW.Exa.ns A22) all0)
  have S_OK_t27 := Jvm.OwnW.Sta.keepN S_OK_t22 Kq27 (allS (P := fun w => ∀ cell : Cell, h22[w]? = some cell → cell.vm.isStatics = false) (Jvm.OwnW.Exa.ns A22) all0)
  have E_uok_t27 := E_uok_t22.keep Kq27
  have F_uok_code_t27 := F_uok_code_t22.keep Kq27 (ninS ne_uok_o22 nin0)
  have A22_t27 := A22.keep Kq27
  have e27 : T27.heap = T27.heap := rfl
  refine Wq.steps st27 ?_
  show Wq _ _ _ _ _ (T27.setTop (mkF m 25 #[.val (.long yhr_1), .second, .val (.int xhr_2)] [(.ref o22)]))
  exact Wq.retW X27 hS27 (by rw [e27]; exact hk27) (BodyLoose.notSynchronized Bd) (rv := some (.ref o22)) (fun h => by rw [Bd.returns] at h; cases h) (fun _ hr => retOut X27 hx Bd.returns rfl (Or.inr (Or.inr (Or.inr (Or.inr ⟨rfl, rfl, rfl⟩)))) (hb hby d_prog_39_method_5_25) hr) (by decide) (by decide) (by rw [e27]; exact ⟨o22, rfl, N27, K27, sz_o22, A22_t27, P27_1, P27_2, P27_3, P27_4⟩)
theorem own_31 (P : Int32 → Bool) (h : ∀ n : Fin 32, P (Int32.ofNat n.val) = true) (x : Int32) : P (x &&& (31 : Int32)) = true := by
  have hm := c_mask x 31 5 (by decide) (by decide)
  have e : (x &&& (31 : Int32)) = Int32.ofNat (x.toInt % 32).toNat := by
    apply Int32.toInt_inj.mp
    rw [Int32.toInt_ofNat_of_lt (by omega), hm]
    omega
  rw [e]
  exact h ⟨(x.toInt % 32).toNat, by omega⟩
theorem own_m58 (x : Int32) : f_isr (x.toInt8.toInt32) = (if (x.toInt8.toInt32) < (0 : Int32) then (1 : Int32) else (0 : Int32)) := by
  have h := own_bb (fun y => decide (f_isr y = (if y < (0 : Int32) then (1 : Int32) else (0 : Int32)))) (by decide +kernel) x
  exact of_decide_eq_true h
theorem own_sid (x : Int32) : ((x &&& (31 : Int32)) &&& (-32 : Int32)) = (0 : Int32) := by
  have h := own_31 (fun y => decide ((y &&& (-32 : Int32)) = (0 : Int32))) (by decide +kernel) x
  exact of_decide_eq_true h
theorem own_m74 (x : Int32) : ¬ (f_isr (((192 : Int32) ||| (x &&& (31 : Int32))).toInt8.toInt32) = (0 : Int32)) := by
  have h := own_31 (fun y => decide (¬ (f_isr (((192 : Int32) ||| y).toInt8.toInt32) = (0 : Int32)))) (by decide +kernel) x
  exact of_decide_eq_true h
theorem own_m93 (x : Int32) : f_isr ((x &&& (31 : Int32)).toInt8.toInt32) = (0 : Int32) := by
  have h := own_31 (fun y => decide (f_isr (y.toInt8.toInt32) = (0 : Int32))) (by decide +kernel) x
  exact of_decide_eq_true h
theorem own_m107 (x : Int32) : ¬ (f_isr (((224 : Int32) ||| (x &&& (31 : Int32))).toInt8.toInt32) = (0 : Int32)) := by
  have h := own_31 (fun y => decide (¬ (f_isr (((224 : Int32) ||| y).toInt8.toInt32) = (0 : Int32)))) (by decide +kernel) x
  exact of_decide_eq_true h
theorem own_m121 (x : Int32) : f_isr (((32 : Int32) ||| (x &&& (31 : Int32))).toInt8.toInt32) = (0 : Int32) := by
  have h := own_31 (fun y => decide (f_isr (((32 : Int32) ||| y).toInt8.toInt32) = (0 : Int32))) (by decide +kernel) x
  exact of_decide_eq_true h
theorem kw49 {Z : State} {a0 : Array Value} (hw : ∀ d ∈ tables_1, d.before a0 Z = true) : (Jvm.Cond.laysStatic "com/example/meridian/meridian/wire/Status" "SERVER_ERROR" "Lcom/example/meridian/meridian/wire/Status;").before a0 Z = true := hw _ (List.mem_of_getElem? (i := 49) rfl)
theorem kw64 {Z : State} {a0 : Array Value} (hw : ∀ d ∈ tables_1, d.before a0 Z = true) : (Jvm.Cond.laysStatic "com/example/meridian/meridian/wire/Frame" "NO_BODY" "[B").before a0 Z = true := hw _ (List.mem_of_getElem? (i := 64) rfl)
theorem kw69 {Z : State} {a0 : Array Value} (hw : ∀ d ∈ tables_1, d.before a0 Z = true) : (Jvm.Cond.laysStatic "com/example/meridian/meridian/wire/Status" "OK" "Lcom/example/meridian/meridian/wire/Status;").before a0 Z = true := hw _ (List.mem_of_getElem? (i := 69) rfl)
theorem kw1 {Z : State} {a0 : Array Value} (hw : ∀ d ∈ tables_1, d.before a0 Z = true) : (Jvm.Cond.classLink "com/example/meridian/meridian/wire/FrameIsRequestPinLaw" (7 : Nat) "com/example/meridian/meridian/wire/Frame").before a0 Z = true := hw _ (List.mem_of_getElem? (i := 1) rfl)
theorem kw4 {Z : State} {a0 : Array Value} (hw : ∀ d ∈ tables_1, d.before a0 Z = true) : (Jvm.Cond.methodLink "com/example/meridian/meridian/wire/FrameIsRequestPinLaw" (9 : Nat) ({ cls := "com/example/meridian/meridian/wire/Frame", name := "<init>", desc := "(BBJ[B)V" } : Jvm.MethodName)).before a0 Z = true := hw _ (List.mem_of_getElem? (i := 4) rfl)
theorem kw38 {Z : State} {a0 : Array Value} (hw : ∀ d ∈ tables_1, d.before a0 Z = true) : (Jvm.Cond.code ({ cls := "com/example/meridian/meridian/wire/Frame", name := "isRequest", desc := "()Z" } : Jvm.MethodName) prog_39_method_6_code (1 : Nat) (Option.some Jvm.ClassFile.FieldType.boolean)).before a0 Z = true := hw _ (List.mem_of_getElem? (i := 38) rfl)
theorem pd6 : parseMethodDescriptor "()Z" = some ⟨[], some .boolean⟩ := by decide +kernel
theorem kw34 {Z : State} {a0 : Array Value} (hw : ∀ d ∈ tables_1, d.before a0 Z = true) : (Jvm.Cond.methodLink "com/example/meridian/meridian/wire/FrameIsRequestPinLaw" (12 : Nat) ({ cls := "com/example/meridian/meridian/wire/Frame", name := "isRequest", desc := "()Z" } : Jvm.MethodName)).before a0 Z = true := hw _ (List.mem_of_getElem? (i := 34) rfl)
theorem kw35 {Z : State} {a0 : Array Value} (hw : ∀ d ∈ tables_1, d.before a0 Z = true) : (Jvm.Cond.declares ({ cls := "com/example/meridian/meridian/wire/Frame", name := "isRequest", desc := "()Z" } : Jvm.MethodName)).before a0 Z = true := hw _ (List.mem_of_getElem? (i := 35) rfl)
theorem kw37 {Z : State} {a0 : Array Value} (hw : ∀ d ∈ tables_1, d.before a0 Z = true) : (Jvm.Cond.selects "com/example/meridian/meridian/wire/Frame" ({ cls := "com/example/meridian/meridian/wire/Frame", name := "isRequest", desc := "()Z" } : Jvm.MethodName) ({ cls := "com/example/meridian/meridian/wire/Frame", name := "isRequest", desc := "()Z" } : Jvm.MethodName)).before a0 Z = true := hw _ (List.mem_of_getElem? (i := 37) rfl)
theorem kw36 {Z : State} {a0 : Array Value} (hw : ∀ d ∈ tables_1, d.before a0 Z = true) : (Jvm.Cond.instanceMethod ({ cls := "com/example/meridian/meridian/wire/Frame", name := "isRequest", desc := "()Z" } : Jvm.MethodName)).before a0 Z = true := hw _ (List.mem_of_getElem? (i := 36) rfl)
theorem kw41 {Z : State} {a0 : Array Value} (hw : ∀ d ∈ tables_1, d.before a0 Z = true) : (Jvm.Cond.code ({ cls := "com/example/meridian/meridian/wire/Frame", name := "request", desc := "(JI[B)Lcom/example/meridian/meridian/wire/Frame;" } : Jvm.MethodName) prog_39_method_2_code (4 : Nat) (Option.some (Jvm.ClassFile.FieldType.object "com/example/meridian/meridian/wire/Frame"))).before a0 Z = true := hw _ (List.mem_of_getElem? (i := 41) rfl)
theorem pd7 : parseMethodDescriptor "(JI[B)Lcom/example/meridian/meridian/wire/Frame;" = some ⟨[.long, .int, (.array .byte)], some (.object "com/example/meridian/meridian/wire/Frame")⟩ := by decide +kernel
theorem kw39 {Z : State} {a0 : Array Value} (hw : ∀ d ∈ tables_1, d.before a0 Z = true) : (Jvm.Cond.methodLink "com/example/meridian/meridian/wire/FrameIsRequestPinLaw" (16 : Nat) ({ cls := "com/example/meridian/meridian/wire/Frame", name := "request", desc := "(JI[B)Lcom/example/meridian/meridian/wire/Frame;" } : Jvm.MethodName)).before a0 Z = true := hw _ (List.mem_of_getElem? (i := 39) rfl)
theorem kw40 {Z : State} {a0 : Array Value} (hw : ∀ d ∈ tables_1, d.before a0 Z = true) : (Jvm.Cond.static ({ cls := "com/example/meridian/meridian/wire/Frame", name := "request", desc := "(JI[B)Lcom/example/meridian/meridian/wire/Frame;" } : Jvm.MethodName)).before a0 Z = true := hw _ (List.mem_of_getElem? (i := 40) rfl)
theorem kw47 {Z : State} {a0 : Array Value} (hw : ∀ d ∈ tables_1, d.before a0 Z = true) : (Jvm.Cond.fieldLink "com/example/meridian/meridian/wire/FrameIsRequestPinLaw" (20 : Nat) "com/example/meridian/meridian/wire/Status" "SERVER_ERROR" "Lcom/example/meridian/meridian/wire/Status;").before a0 Z = true := hw _ (List.mem_of_getElem? (i := 47) rfl)
theorem kw52 {Z : State} {a0 : Array Value} (hw : ∀ d ∈ tables_1, d.before a0 Z = true) : (Jvm.Cond.code ({ cls := "com/example/meridian/meridian/wire/Frame", name := "response", desc := "(JILcom/example/meridian/meridian/wire/Status;[B)Lcom/example/meridian/meridian/wire/Frame;" } : Jvm.MethodName) prog_39_method_3_code (5 : Nat) (Option.some (Jvm.ClassFile.FieldType.object "com/example/meridian/meridian/wire/Frame"))).before a0 Z = true := hw _ (List.mem_of_getElem? (i := 52) rfl)
theorem pd8 : parseMethodDescriptor "(JILcom/example/meridian/meridian/wire/Status;[B)Lcom/example/meridian/meridian/wire/Frame;" = some ⟨[.long, .int, (.object "com/example/meridian/meridian/wire/Status"), (.array .byte)], some (.object "com/example/meridian/meridian/wire/Frame")⟩ := by decide +kernel
theorem kw50 {Z : State} {a0 : Array Value} (hw : ∀ d ∈ tables_1, d.before a0 Z = true) : (Jvm.Cond.methodLink "com/example/meridian/meridian/wire/FrameIsRequestPinLaw" (26 : Nat) ({ cls := "com/example/meridian/meridian/wire/Frame", name := "response", desc := "(JILcom/example/meridian/meridian/wire/Status;[B)Lcom/example/meridian/meridian/wire/Frame;" } : Jvm.MethodName)).before a0 Z = true := hw _ (List.mem_of_getElem? (i := 50) rfl)
theorem kw51 {Z : State} {a0 : Array Value} (hw : ∀ d ∈ tables_1, d.before a0 Z = true) : (Jvm.Cond.static ({ cls := "com/example/meridian/meridian/wire/Frame", name := "response", desc := "(JILcom/example/meridian/meridian/wire/Status;[B)Lcom/example/meridian/meridian/wire/Frame;" } : Jvm.MethodName)).before a0 Z = true := hw _ (List.mem_of_getElem? (i := 51) rfl)
theorem kw62 {Z : State} {a0 : Array Value} (hw : ∀ d ∈ tables_1, d.before a0 Z = true) : (Jvm.Cond.code ({ cls := "com/example/meridian/meridian/wire/Frame", name := "heartbeat", desc := "(JI)Lcom/example/meridian/meridian/wire/Frame;" } : Jvm.MethodName) prog_39_method_4_code (3 : Nat) (Option.some (Jvm.ClassFile.FieldType.object "com/example/meridian/meridian/wire/Frame"))).before a0 Z = true := hw _ (List.mem_of_getElem? (i := 62) rfl)
theorem pd9 : parseMethodDescriptor "(JI)Lcom/example/meridian/meridian/wire/Frame;" = some ⟨[.long, .int], some (.object "com/example/meridian/meridian/wire/Frame")⟩ := by decide +kernel
theorem kw60 {Z : State} {a0 : Array Value} (hw : ∀ d ∈ tables_1, d.before a0 Z = true) : (Jvm.Cond.methodLink "com/example/meridian/meridian/wire/FrameIsRequestPinLaw" (30 : Nat) ({ cls := "com/example/meridian/meridian/wire/Frame", name := "heartbeat", desc := "(JI)Lcom/example/meridian/meridian/wire/Frame;" } : Jvm.MethodName)).before a0 Z = true := hw _ (List.mem_of_getElem? (i := 60) rfl)
theorem kw61 {Z : State} {a0 : Array Value} (hw : ∀ d ∈ tables_1, d.before a0 Z = true) : (Jvm.Cond.static ({ cls := "com/example/meridian/meridian/wire/Frame", name := "heartbeat", desc := "(JI)Lcom/example/meridian/meridian/wire/Frame;" } : Jvm.MethodName)).before a0 Z = true := hw _ (List.mem_of_getElem? (i := 61) rfl)
theorem kw67 {Z : State} {a0 : Array Value} (hw : ∀ d ∈ tables_1, d.before a0 Z = true) : (Jvm.Cond.code ({ cls := "com/example/meridian/meridian/wire/Frame", name := "heartbeatResponse", desc := "(JI)Lcom/example/meridian/meridian/wire/Frame;" } : Jvm.MethodName) prog_39_method_5_code (3 : Nat) (Option.some (Jvm.ClassFile.FieldType.object "com/example/meridian/meridian/wire/Frame"))).before a0 Z = true := hw _ (List.mem_of_getElem? (i := 67) rfl)
theorem kw65 {Z : State} {a0 : Array Value} (hw : ∀ d ∈ tables_1, d.before a0 Z = true) : (Jvm.Cond.methodLink "com/example/meridian/meridian/wire/FrameIsRequestPinLaw" (34 : Nat) ({ cls := "com/example/meridian/meridian/wire/Frame", name := "heartbeatResponse", desc := "(JI)Lcom/example/meridian/meridian/wire/Frame;" } : Jvm.MethodName)).before a0 Z = true := hw _ (List.mem_of_getElem? (i := 65) rfl)
theorem kw66 {Z : State} {a0 : Array Value} (hw : ∀ d ∈ tables_1, d.before a0 Z = true) : (Jvm.Cond.static ({ cls := "com/example/meridian/meridian/wire/Frame", name := "heartbeatResponse", desc := "(JI)Lcom/example/meridian/meridian/wire/Frame;" } : Jvm.MethodName)).before a0 Z = true := hw _ (List.mem_of_getElem? (i := 66) rfl)
theorem pn5 : plainName "com/example/meridian/meridian/wire/FrameIsRequestPinLaw" = true := by first | (simp [plainName, overriddenIn]; done) | decide +kernel
theorem ef_law (m : MethodId) (xlaw_1 : Int32) (xlaw_2 : Int32) (ylaw_3 : Int64) (xlaw_4 : Int32) : entryFrame m #[(.int xlaw_1), (.int xlaw_2), (.long ylaw_3), (.int xlaw_4)] maxLocals = mkF m 0 #[.val (.int xlaw_1), .val (.int xlaw_2), .val (.long ylaw_3), .second, .val (.int xlaw_4), .unset, .unset, .unset, .unset, .unset, .unset] [] := by first | (simp [entryFrame, mkF, argsToLocals, Value.category, maxLocals]; done) | rfl
def Q_law (n0 : Nat) (v : Option Value) (h : Heap) (L : List Loc) : Prop := v = some (.int 1) ∧ Fr n0 L
set_option maxRecDepth 65536 in
set_option maxHeartbeats 40000000 in
theorem rm_law (l : Launch) (Z : State) (a0 : Array Value) (hw : ∀ d ∈ tables_1, d.before a0 Z = true) (ws : List Jvm.Cond) (xlaw_1 : Int32) (xlaw_2 : Int32) (ylaw_3 : Int64) (xlaw_4 : Int32) (uSERVER_ERROR : Addr) (uNO_BODY : Addr) (uOK : Addr) (h0 : Heap) (n0 : Nat) (Z0 : n0 ≤ h0.size) (S_SERVER_ERROR : Sta Z h0 "com/example/meridian/meridian/wire/Status" "SERVER_ERROR" "Lcom/example/meridian/meridian/wire/Status;" (.ref uSERVER_ERROR)) (E_uSERVER_ERROR : Exa Z h0 uSERVER_ERROR "com/example/meridian/meridian/wire/Status") (F_uSERVER_ERROR_code : Fld Z h0 uSERVER_ERROR "com/example/meridian/meridian/wire/Status" "code" "B" (.int (6 : Int32))) (S_NO_BODY : Sta Z h0 "com/example/meridian/meridian/wire/Frame" "NO_BODY" "[B" (.ref uNO_BODY)) (S_OK : Sta Z h0 "com/example/meridian/meridian/wire/Status" "OK" "Lcom/example/meridian/meridian/wire/Status;" (.ref uOK)) (E_uOK : Exa Z h0 uOK "com/example/meridian/meridian/wire/Status") (F_uOK_code : Fld Z h0 uOK "com/example/meridian/meridian/wire/Status" "code" "B" (.int (0 : Int32))) :
    MetFree l x (head1 (Jvm.Cond.code x code maxLocals ret :: ws) room_1) (fun a U => a = #[(.int xlaw_1), (.int xlaw_2), (.long ylaw_3), (.int xlaw_4)] ∧ Z.Warmed39 U.vm ∧ U.heap = h0) (fun _ _ _ _ _ => True) (fun _ U o U' => ∃ v L, o = .returned v ∧ (Q_law n0) v U'.heap L ∧ ReturnedEndW U o U' L 24 1152) := by
  refine MetFree.of_bodySF (plainFor_of_name pn5) hisR ?_
  intro p e s m args below meth c s₁ Bd hml0 hP hK
  obtain ⟨rfl, hZ, hh⟩ := hP
  have hx := Bd.exec
  have hby := Bd.bytes
  have hml : c.maxLocals = 11 := hml0
  have hown : s.vm.findClass "com/example/meridian/meridian/wire/FrameIsRequestPinLaw" = some m.cls := findClass_of_methodNamed Bd.named
  have hnm := (name_of_methodNamed Bd.named Bd.method).1
  have hS0 : s.Since s.vm 0 := (State.WarmedH.refl s).since 0
  have hk0 : 0 ≤ h0.size := Nat.zero_le _
  have X0 : Stand p l e room_1 (s.setVm s.vm) m #[(.int xlaw_1), (.int xlaw_2), (.long ylaw_3), (.int xlaw_4)] below meth c s₁ [] 0 0 := Stand.of_body Bd
  have e0 : s₁.heap = h0 := by rw [← hh, Bd.state]; rfl
  have N0 := Fr.nil n0
  refine Wq.step (p := p) (e := e) (below := below) (En := (fun o t L => ReturnedEndW s o t L 24 1152)) (Q := (Q_law n0)) (fun t k => castTop (ef_law m xlaw_1 xlaw_2 ylaw_3 xlaw_4) k) ?_
  show Wq _ _ _ _ _ (s₁.setTop (mkF m 0 #[.val (.int xlaw_1), .val (.int xlaw_2), .val (.long ylaw_3), .second, .val (.int xlaw_4), .unset, .unset, .unset, .unset, .unset, .unset] []))
  refine Ow.iloadN X0 hx (pc' := 1) (hb hby at_0) rfl ?_
  refine Ow.i2b X0 hx (pc' := 2) (hb hby at_1) (z := (xlaw_1.toInt8.toInt32)) rfl ?_
  refine Ow.istore X0 hx (pc' := 4) (hb hby at_2) (l' := #[.val (.int xlaw_1), .val (.int xlaw_2), .val (.long ylaw_3), .second, .val (.int xlaw_4), .val (.int (xlaw_1.toInt8.toInt32)), .unset, .unset, .unset, .unset, .unset]) rfl ?_
  generalize hv2 : (xlaw_1.toInt8.toInt32) = v2
  refine Ow.iloadN X0 hx (pc' := 5) (hb hby at_4) rfl ?_
  refine Ow.iconst X0 hx (pc' := 6) (hb hby at_5) (z := (3 : Int32)) rfl ?_
  refine Ow.iand X0 hx (pc' := 7) (hb hby at_6) (z := (xlaw_1 &&& (3 : Int32))) rfl ?_
  obtain ⟨T28, h28, k28, X28, e28, E28, A28, st28⟩ := newP X0 hx hZ (aty := .byte) (kw0 hw) e0 (g := (mkF m 7 #[.val (.int xlaw_1), .val (.int xlaw_2), .val (.long ylaw_3), .second, .val (.int xlaw_4), .val (.int v2), .unset, .unset, .unset, .unset, .unset] [(.int (xlaw_1 &&& (3 : Int32)))])) rfl (hb hby at_7) rfl ((own_and3 xlaw_1).1) (cap := 3) ((own_and3 xlaw_1).2) (by decide) (by decide) (by decide)
  obtain ⟨b28, gz28⟩ : ∃ z, z = h0.size := ⟨_, rfl⟩
  rw [← gz28] at A28 st28
  have g_b28 : n0 ≤ b28 := Nat.le_trans Z0 (Nat.le_of_eq gz28.symm)
  have sz_b28 : h0.size ≤ b28 := Nat.le_of_eq gz28.symm
  have ne_uSERVER_ERROR_b28 : uSERVER_ERROR ≠ b28 := Nat.ne_of_lt (Nat.lt_of_lt_of_le E_uSERVER_ERROR.lt (Nat.le_of_eq gz28.symm))
  have ne_uOK_b28 : uOK ≠ b28 := Nat.ne_of_lt (Nat.lt_of_lt_of_le E_uOK.lt (Nat.le_of_eq gz28.symm))
  have K28 : Keep h0 h28 [] := (Keep.refl h0 []).ext E28
  have Z28 : n0 ≤ h28.size := Nat.le_trans Z0 E28.1
  have hk28 := Nat.le_trans hk0 E28.1
  have S_SERVER_ERROR_t28 := S_SERVER_ERROR.ext E28
  have E_uSERVER_ERROR_t28 := E_uSERVER_ERROR.ext E28
  have F_uSERVER_ERROR_code_t28 := F_uSERVER_ERROR_code.ext E28
  have S_NO_BODY_t28 := S_NO_BODY.ext E28
  have S_OK_t28 := S_OK.ext E28
  have E_uOK_t28 := E_uOK.ext E28
  have F_uOK_code_t28 := F_uOK_code.ext E28
  have V_b28 : Al Z h28 b28 .byte (List.replicate ((xlaw_1 &&& (3 : Int32)).toNatClampNeg) (.int (0 : Int32))) := Al.new A28 (k := ((xlaw_1 &&& (3 : Int32)).toNatClampNeg)) (rfl) rfl
  refine Wq.step st28 ?_
  show Wq _ _ _ _ _ (T28.setTop (mkF m 9 #[.val (.int xlaw_1), .val (.int xlaw_2), .val (.long ylaw_3), .second, .val (.int xlaw_4), .val (.int v2), .unset, .unset, .unset, .unset, .unset] [(.ref b28)]))
  refine Ow.astore X28 hx (pc' := 11) (hb hby at_9) rfl (l' := #[.val (.int xlaw_1), .val (.int xlaw_2), .val (.long ylaw_3), .second, .val (.int xlaw_4), .val (.int v2), .val (.ref b28), .unset, .unset, .unset, .unset]) rfl ?_
  refine Ow.iconst X28 hx (pc' := 12) (hb hby at_11) (z := (0 : Int32)) rfl ?_
  obtain ⟨T29, h29, k29, X29, e29, E29, A29, st29⟩ := newP X28 hx hZ (aty := .byte) (kw0 hw) e28 (g := (mkF m 12 #[.val (.int xlaw_1), .val (.int xlaw_2), .val (.long ylaw_3), .second, .val (.int xlaw_4), .val (.int v2), .val (.ref b28), .unset, .unset, .unset, .unset] [(.int (0 : Int32))])) rfl (hb hby at_12) rfl (by decide) (cap := 0) (by decide) (by decide) (by decide) (by decide)
  obtain ⟨b29, gz29⟩ : ∃ z, z = h28.size := ⟨_, rfl⟩
  rw [← gz29] at A29 st29
  have g_b29 : n0 ≤ b29 := Nat.le_trans Z28 (Nat.le_of_eq gz29.symm)
  have sz_b29 : h0.size ≤ b29 := Nat.le_trans K28.1 (Nat.le_of_eq gz29.symm)
  have ne_uSERVER_ERROR_b29 : uSERVER_ERROR ≠ b29 := Nat.ne_of_lt (Nat.lt_of_lt_of_le E_uSERVER_ERROR_t28.lt (Nat.le_of_eq gz29.symm))
  have ne_uOK_b29 : uOK ≠ b29 := Nat.ne_of_lt (Nat.lt_of_lt_of_le E_uOK_t28.lt (Nat.le_of_eq gz29.symm))
  have ne_b28_b29 : b28 ≠ b29 := Nat.ne_of_lt (Nat.lt_of_lt_of_le V_b28.lt (Nat.le_of_eq gz29.symm))
  have K29 : Keep h0 h29 [] := K28.ext E29
  have Z29 : n0 ≤ h29.size := Nat.le_trans Z28 E29.1
  have hk29 := Nat.le_trans hk28 E29.1
  have S_SERVER_ERROR_t29 := S_SERVER_ERROR_t28.ext E29
  have E_uSERVER_ERROR_t29 := E_uSERVER_ERROR_t28.ext E29
  have F_uSERVER_ERROR_code_t29 := F_uSERVER_ERROR_code_t28.ext E29
  have S_NO_BODY_t29 := S_NO_BODY_t28.ext E29
  have S_OK_t29 := S_OK_t28.ext E29
  have E_uOK_t29 := E_uOK_t28.ext E29
  have F_uOK_code_t29 := F_uOK_code_t28.ext E29
  have V_b28_t29 := V_b28.ext E29
  have V_b29 : Al Z h29 b29 .byte [] := Al.new A29 (k := 0) (rfl) rfl
  refine Wq.step st29 ?_
  show Wq _ _ _ _ _ (T29.setTop (mkF m 14 #[.val (.int xlaw_1), .val (.int xlaw_2), .val (.long ylaw_3), .second, .val (.int xlaw_4), .val (.int v2), .val (.ref b28), .unset, .unset, .unset, .unset] [(.ref b29)]))
  refine Ow.astore X29 hx (pc' := 16) (hb hby at_14) rfl (l' := #[.val (.int xlaw_1), .val (.int xlaw_2), .val (.long ylaw_3), .second, .val (.int xlaw_4), .val (.int v2), .val (.ref b28), .val (.ref b29), .unset, .unset, .unset]) rfl ?_
  refine Ow.iload X29 hx (pc' := 18) (hb hby at_16) rfl ?_
  refine Ow.bipush X29 hx (pc' := 20) (hb hby at_18) (z := (31 : Int32)) rfl ?_
  refine Ow.iand X29 hx (pc' := 21) (hb hby at_20) (z := (xlaw_4 &&& (31 : Int32))) rfl ?_
  refine Ow.istore X29 hx (pc' := 23) (hb hby at_21) (l' := #[.val (.int xlaw_1), .val (.int xlaw_2), .val (.long ylaw_3), .second, .val (.int xlaw_4), .val (.int v2), .val (.ref b28), .val (.ref b29), .val (.int (xlaw_4 &&& (31 : Int32))), .unset, .unset]) rfl ?_
  generalize hv21 : (xlaw_4 &&& (31 : Int32)) = v21
  obtain ⟨T30, h30, X30, e30, E30, A30, D30, -, st30⟩ := newO X29 hx hZ hown (kw1 hw) (kw2 hw) (kw3 hw) e29 (g := (mkF m 23 #[.val (.int xlaw_1), .val (.int xlaw_2), .val (.long ylaw_3), .second, .val (.int xlaw_4), .val (.int v2), .val (.ref b28), .val (.ref b29), .val (.int v21), .unset, .unset] [])) rfl (hb hby at_23) (by decide) (by decide)
  obtain ⟨o30, gz30⟩ : ∃ z, z = h29.size := ⟨_, rfl⟩
  rw [← gz30] at A30 D30 st30
  have g_o30 : n0 ≤ o30 := Nat.le_trans Z29 (Nat.le_of_eq gz30.symm)
  have sz_o30 : h0.size ≤ o30 := Nat.le_trans K29.1 (Nat.le_of_eq gz30.symm)
  have ne_uSERVER_ERROR_o30 : uSERVER_ERROR ≠ o30 := Nat.ne_of_lt (Nat.lt_of_lt_of_le E_uSERVER_ERROR_t29.lt (Nat.le_of_eq gz30.symm))
  have ne_uOK_o30 : uOK ≠ o30 := Nat.ne_of_lt (Nat.lt_of_lt_of_le E_uOK_t29.lt (Nat.le_of_eq gz30.symm))
  have ne_b28_o30 : b28 ≠ o30 := Nat.ne_of_lt (Nat.lt_of_lt_of_le V_b28_t29.lt (Nat.le_of_eq gz30.symm))
  have ne_b29_o30 : b29 ≠ o30 := Nat.ne_of_lt (Nat.lt_of_lt_of_le V_b29.lt (Nat.le_of_eq gz30.symm))
  have K30 : Keep h0 h30 [] := K29.ext E30
  have Z30 : n0 ≤ h30.size := Nat.le_trans Z29 E30.1
  have hk30 := Nat.le_trans hk29 E30.1
  have S_SERVER_ERROR_t30 := S_SERVER_ERROR_t29.ext E30
  have E_uSERVER_ERROR_t30 := E_uSERVER_ERROR_t29.ext E30
  have F_uSERVER_ERROR_code_t30 := F_uSERVER_ERROR_code_t29.ext E30
  have S_NO_BODY_t30 := S_NO_BODY_t29.ext E30
  have S_OK_t30 := S_OK_t29.ext E30
  have E_uOK_t30 := E_uOK_t29.ext E30
  have F_uOK_code_t30 := F_uOK_code_t29.ext E30
  have V_b28_t30 := V_b28_t29.ext E30
  have V_b29_t30 := V_b29.ext E30
  refine Wq.step st30 ?_
  have F_o30_flags : Fld Z h30 o30 "com/example/meridian/meridian/wire/Frame" "flags" "B" (.int (0 : Int32)) := D30 (Or.inr (kw27 hw)) (ty := .byte) (by decide)
  have F_o30_status : Fld Z h30 o30 "com/example/meridian/meridian/wire/Frame" "status" "B" (.int (0 : Int32)) := D30 (Or.inr (kw29 hw)) (ty := .byte) (by decide)
  have F_o30_id : Fld Z h30 o30 "com/example/meridian/meridian/wire/Frame" "id" "J" (.long (0 : Int64)) := D30 (Or.inr (kw31 hw)) (ty := .long) (by decide)
  have F_o30_body : Fld Z h30 o30 "com/example/meridian/meridian/wire/Frame" "body" "[B" .null := D30 (Or.inr (kw33 hw)) (ty := (.array .byte)) (by decide)
  show Wq _ _ _ _ _ (T30.setTop (mkF m 26 #[.val (.int xlaw_1), .val (.int xlaw_2), .val (.long ylaw_3), .second, .val (.int xlaw_4), .val (.int v2), .val (.ref b28), .val (.ref b29), .val (.int v21), .unset, .unset] [(.ref o30)]))
  refine Ow.dup X30 hx (pc' := 27) (hb hby at_26) rfl ?_
  refine Ow.iload X30 hx (pc' := 29) (hb hby at_27) rfl ?_
  refine Ow.iloadN X30 hx (pc' := 30) (hb hby at_29) rfl ?_
  refine Ow.i2b X30 hx (pc' := 31) (hb hby at_30) (z := (xlaw_2.toInt8.toInt32)) rfl ?_
  refine Ow.lloadN X30 hx (pc' := 32) (hb hby at_31) rfl ?_
  refine Ow.aload X30 hx (pc' := 34) (hb hby at_32) rfl rfl ?_
  obtain ⟨_, _, ⟨T31, L31, k31, n31⟩, -, Xr31, hSr31, hgr31, ⟨Lc31, hQ31, l31, y31, z31⟩, st31⟩ := X30.specialBackS hx (y := mt3) rfl hown (mvT hZ (kw4 hw)) (mvT hZ (kw5 hw)) (mvT hZ (kw6 hw)) (by decide) (backOfS (W := 1) (rm_ctor l Z a0 hw [] o30 v2 (xlaw_2.toInt8.toInt32) ylaw_3 b28 h30 n0 Z30 (by subst hv2; exact own_nb _) (by subst hv2; exact fits_nar_byte _) (own_nb _) (fits_nar_byte _) A30 F_o30_flags F_o30_status F_o30_id F_o30_body g_o30) hZ (kw6 hw) (kw3 hw) (by decide) (by decide)) (g := (mkF m 34 #[.val (.int xlaw_1), .val (.int xlaw_2), .val (.long ylaw_3), .second, .val (.int xlaw_4), .val (.int v2), .val (.ref b28), .val (.ref b29), .val (.int v21), .unset, .unset] [(.ref b28), (.long ylaw_3), (.int (xlaw_2.toInt8.toInt32)), (.int v2), (.ref o30), (.ref o30)])) rfl (by rw [hml]; rfl) (Steps.refl _) (a := o30) (argsL := [(.int v2), (.int (xlaw_2.toInt8.toInt32)), (.long ylaw_3), (.ref b28)]) (rest := [(.ref o30)]) (lenOf pd4 rfl) rfl (by show 2 * 0 + _ ≤ _; exact Nat.le_of_eq rfl) (hb hby at_34) (fun _ _ => ⟨rfl, e30, (by decide : 3 + 2 ≤ _), (by decide : 7 + 20 ≤ _)⟩)
  dsimp only [Pt.U, Pt.locs, Pt.cells, Pt.slots] at Xr31 hSr31 hgr31 l31 y31 z31 st31 hQ31
  subst l31 y31 z31
  obtain ⟨X31, hS31, hZ31, hown31⟩ := rebS hS0 (by rw [e30]; exact hk30) Xr31 hSr31 hgr31 hZ hown
  have hk31 := Nat.le_refl T31.heap.size
  obtain ⟨rfl, Nq31, Kq31, P31_0, P31_1, P31_2, P31_3, P31_4⟩ := hQ31
  have N31 := Fr.app N0 Nq31
  have K31 : Keep h0 T31.heap [] := K30.trans Kq31 (allS (P := fun x => x ∈ [] ∨ h0.size ≤ x) (Or.inr sz_o30) all0)
  have Z31 : n0 ≤ T31.heap.size := Nat.le_trans Z30 Kq31.1
  have S_SERVER_ERROR_t31 := Jvm.OwnW.Sta.keepN S_SERVER_ERROR_t30 Kq31 (allS (P := fun w => ∀ cell : Cell, h30[w]? = some cell → cell.vm.isStatics = false) (Jvm.OwnW.Exa.ns A30) all0)
  have E_uSERVER_ERROR_t31 := E_uSERVER_ERROR_t30.keep Kq31
  have F_uSERVER_ERROR_code_t31 := F_uSERVER_ERROR_code_t30.keep Kq31 (ninS ne_uSERVER_ERROR_o30 nin0)
  have S_NO_BODY_t31 := Jvm.OwnW.Sta.keepN S_NO_BODY_t30 Kq31 (allS (P := fun w => ∀ cell : Cell, h30[w]? = some cell → cell.vm.isStatics = false) (Jvm.OwnW.Exa.ns A30) all0)
  have S_OK_t31 := Jvm.OwnW.Sta.keepN S_OK_t30 Kq31 (allS (P := fun w => ∀ cell : Cell, h30[w]? = some cell → cell.vm.isStatics = false) (Jvm.OwnW.Exa.ns A30) all0)
  have E_uOK_t31 := E_uOK_t30.keep Kq31
  have F_uOK_code_t31 := F_uOK_code_t30.keep Kq31 (ninS ne_uOK_o30 nin0)
  have V_b28_t31 := V_b28_t30.keep Kq31 (ninS ne_b28_o30 nin0)
  have V_b29_t31 := V_b29_t30.keep Kq31 (ninS ne_b29_o30 nin0)
  have A30_t31 := A30.keep Kq31
  have e31 : T31.heap = T31.heap := rfl
  obtain ⟨q32, hq32⟩ : ∃ z : Int32, z = (xlaw_2.toInt8.toInt32) := ⟨_, rfl⟩
  rw [← hq32] at P31_2
  refine Wq.steps st31 ?_
  show Wq _ _ _ _ _ (T31.setTop (mkF m 37 #[.val (.int xlaw_1), .val (.int xlaw_2), .val (.long ylaw_3), .second, .val (.int xlaw_4), .val (.int v2), .val (.ref b28), .val (.ref b29), .val (.int v21), .unset, .unset] [(.ref o30)]))
  refine Ow.astore X31 hx (pc' := 39) (hb hby at_37) rfl (l' := #[.val (.int xlaw_1), .val (.int xlaw_2), .val (.long ylaw_3), .second, .val (.int xlaw_4), .val (.int v2), .val (.ref b28), .val (.ref b29), .val (.int v21), .val (.ref o30), .unset]) rfl ?_
  refine Ow.iload X31 hx (pc' := 41) (hb hby at_39) rfl ?_
  refine Wq.by (U' := T31.setTop (mkF m 49 #[.val (.int xlaw_1), .val (.int xlaw_2), .val (.long ylaw_3), .second, .val (.int xlaw_4), .val (.int v2), .val (.ref b28), .val (.ref b29), .val (.int v21), .val (.ref o30), .unset] [(.int (if v2 < (0 : Int32) then (1 : Int32) else (0 : Int32)))])) (fun k => ?_) ?_
  · skip
    by_cases hm41 : v2 < (0 : Int32)
    · skip
      refine Ow.ifNo X31 hx (pc' := 44) (hb hby at_41) ((if0 _ _).trans (tlt hm41).2.1) ?_
      refine Ow.iconst X31 hx (pc' := 45) (hb hby at_44) (z := (1 : Int32)) rfl ?_
      refine Ow.goto X31 hx (pc' := 49) (hb hby at_45) (by decide) (by decide) ?_
      simp only [if_pos hm41] at k
      exact k
    · skip
      refine Ow.ifYes X31 hx (pc' := 48) (hb hby at_41) ((if0 _ _).trans (flt hm41).2.1) (by decide) (by decide) ?_
      refine Ow.iconst X31 hx (pc' := 49) (hb hby at_48) (z := (0 : Int32)) rfl ?_
      simp only [if_neg hm41] at k
      exact k
  show Wq _ _ _ _ _ (T31.setTop (mkF m 49 #[.val (.int xlaw_1), .val (.int xlaw_2), .val (.long ylaw_3), .second, .val (.int xlaw_4), .val (.int v2), .val (.ref b28), .val (.ref b29), .val (.int v21), .val (.ref o30), .unset] [(.int (if v2 < (0 : Int32) then (1 : Int32) else (0 : Int32)))]))
  generalize hms49_0 : (if v2 < (0 : Int32) then (1 : Int32) else (0 : Int32)) = ms49_0
  refine Ow.istore X31 hx (pc' := 51) (hb hby at_49) (l' := #[.val (.int xlaw_1), .val (.int xlaw_2), .val (.long ylaw_3), .second, .val (.int xlaw_4), .val (.int v2), .val (.ref b28), .val (.ref b29), .val (.int v21), .val (.ref o30), .val (.int ms49_0)]) rfl ?_
  refine Ow.aload X31 hx (pc' := 53) (hb hby at_51) rfl rfl ?_
  obtain ⟨cq33, kq33, q33a, q33b, q33c⟩ := isOf hZ31 e31 A30_t31
  obtain ⟨_, _, ⟨T33, L33, k33, n33⟩, -, X33, ⟨Lc33, hQ33, l33, y33, z33⟩, st33⟩ := X31.virtualBack hx (y := mt4) (z := mt4) hown31 (mvT hZ31 (kw34 hw)) (mvT hZ31 (kw35 hw)) (notFace_of_selects (args := #[]) (mvT hZ31 (kw37 hw))) (mvT hZ31 (kw37 hw)) (mvT hZ31 (kw36 hw)) (by decide) (backOf (W := 0) (rm_isr l Z a0 hw [] o30 v2 T31.heap n0 Z31 P31_1) hZ31 (kw38 hw) (kw3 hw) (by decide) (by decide)) q33a q33c (g := (mkF m 53 #[.val (.int xlaw_1), .val (.int xlaw_2), .val (.long ylaw_3), .second, .val (.int xlaw_4), .val (.int v2), .val (.ref b28), .val (.ref b29), .val (.int v21), .val (.ref o30), .val (.int ms49_0)] [(.ref o30)])) rfl (by rw [hml]; rfl) (Steps.refl _) (argsL := []) (rest := []) (lenOf pd6 rfl) rfl (by show 2 * 0 + _ ≤ _; exact Nat.le_of_eq rfl) (hb hby at_53) (fun _ _ => ⟨rfl, e31, (by decide : 5 + 0 ≤ _), (by decide : 27 + 0 ≤ _)⟩)
  dsimp only [Pt.U, Pt.locs, Pt.cells, Pt.slots] at X33 l33 y33 z33 st33 hQ33
  subst l33 y33 z33
  obtain ⟨rfl, Nq33, e33⟩ := hQ33
  have N33 := Fr.app N31 Nq33
  refine Wq.steps st33 ?_
  show Wq _ _ _ _ _ (T33.setTop (mkF m 56 #[.val (.int xlaw_1), .val (.int xlaw_2), .val (.long ylaw_3), .second, .val (.int xlaw_4), .val (.int v2), .val (.ref b28), .val (.ref b29), .val (.int v21), .val (.ref o30), .val (.int ms49_0)] [(.int (f_isr v2))]))
  generalize hv53 : (f_isr v2) = v53
  show Wq _ _ _ _ _ (T33.setTop (mkF m 56 #[.val (.int xlaw_1), .val (.int xlaw_2), .val (.long ylaw_3), .second, .val (.int xlaw_4), .val (.int v2), .val (.ref b28), .val (.ref b29), .val (.int v21), .val (.ref o30), .val (.int ms49_0)] [(.int v53)]))
  refine Ow.iload X33 hx (pc' := 58) (hb hby at_56) rfl ?_
  refine Ow.icmpYes X33 hx (pc' := 63) (hb hby at_58) (teq (by subst_vars; exact own_m58 _ : v53 = ms49_0)).1 (by decide) (by decide) ?_
  refine Ow.lloadN X33 hx (pc' := 64) (hb hby at_63) rfl ?_
  refine Ow.iload X33 hx (pc' := 66) (hb hby at_64) rfl ?_
  refine Ow.aload X33 hx (pc' := 68) (hb hby at_66) rfl rfl ?_
  obtain ⟨_, _, ⟨T34, L34, k34, n34⟩, -, Xr34, hSr34, hgr34, ⟨Lc34, hQ34, l34, y34, z34⟩, st34⟩ := callSS X33 hx (y := mt7) hown31 (mvT hZ31 (kw39 hw)) (mvT hZ31 (kw40 hw)) (mvT hZ31 (kw3 hw)) (mvT hZ31 (kw41 hw)) (by decide) (backOfS (W := 0) (rm_rq l Z a0 hw [] ylaw_3 v21 b29 T31.heap n0 Z31 (by subst hv21; exact own_sid _)) hZ31 (kw41 hw) (kw3 hw) (by decide) (by decide)) (g := (mkF m 68 #[.val (.int xlaw_1), .val (.int xlaw_2), .val (.long ylaw_3), .second, .val (.int xlaw_4), .val (.int v2), .val (.ref b28), .val (.ref b29), .val (.int v21), .val (.ref o30), .val (.int ms49_0)] [(.ref b29), (.int v21), (.long ylaw_3)])) rfl (by rw [hml]; rfl) (argsL := [(.long ylaw_3), (.int v21), (.ref b29)]) (rest := []) (lenOf pd7 rfl) rfl (by show 2 * 0 + _ ≤ _; exact Nat.le_of_eq rfl) (hb hby at_68) (fun _ _ => ⟨rfl, e33, (by decide : 5 + 3 ≤ _), (by decide : 27 + 24 ≤ _)⟩)
  dsimp only [Pt.U, Pt.locs, Pt.cells, Pt.slots] at Xr34 hSr34 hgr34 l34 y34 z34 st34 hQ34
  subst l34 y34 z34
  obtain ⟨X34, hS34, hZ34, hown34⟩ := rebS hS31 (by rw [e33]; exact hk31) Xr34 hSr34 hgr34 hZ31 hown31
  have hk34 := Nat.le_refl T34.heap.size
  obtain ⟨o11_c34, rfl, Nq34, Kq34, szq_o11_c34, P34_0, P34_1, P34_2, P34_3, P34_4⟩ := hQ34
  have g_o11_c34 : n0 ≤ o11_c34 := Nat.le_trans Z31 szq_o11_c34
  have sz_o11_c34 : h0.size ≤ o11_c34 := Nat.le_trans K31.1 szq_o11_c34
  have ne_uSERVER_ERROR_o11_c34 : uSERVER_ERROR ≠ o11_c34 := Nat.ne_of_lt (Nat.lt_of_lt_of_le E_uSERVER_ERROR_t31.lt szq_o11_c34)
  have ne_uOK_o11_c34 : uOK ≠ o11_c34 := Nat.ne_of_lt (Nat.lt_of_lt_of_le E_uOK_t31.lt szq_o11_c34)
  have ne_b28_o11_c34 : b28 ≠ o11_c34 := Nat.ne_of_lt (Nat.lt_of_lt_of_le V_b28_t31.lt szq_o11_c34)
  have ne_b29_o11_c34 : b29 ≠ o11_c34 := Nat.ne_of_lt (Nat.lt_of_lt_of_le V_b29_t31.lt szq_o11_c34)
  have ne_o30_o11_c34 : o30 ≠ o11_c34 := Nat.ne_of_lt (Nat.lt_of_lt_of_le A30_t31.lt szq_o11_c34)
  have N34 := Fr.app N33 Nq34
  have K34 : Keep h0 T34.heap [] := K31.trans Kq34 all0
  have Z34 : n0 ≤ T34.heap.size := Nat.le_trans Z31 Kq34.1
  have S_SERVER_ERROR_t34 := Jvm.OwnW.Sta.keepN S_SERVER_ERROR_t31 Kq34 all0
  have E_uSERVER_ERROR_t34 := E_uSERVER_ERROR_t31.keep Kq34
  have F_uSERVER_ERROR_code_t34 := F_uSERVER_ERROR_code_t31.keep Kq34 nin0
  have S_NO_BODY_t34 := Jvm.OwnW.Sta.keepN S_NO_BODY_t31 Kq34 all0
  have S_OK_t34 := Jvm.OwnW.Sta.keepN S_OK_t31 Kq34 all0
  have E_uOK_t34 := E_uOK_t31.keep Kq34
  have F_uOK_code_t34 := F_uOK_code_t31.keep Kq34 nin0
  have V_b28_t34 := V_b28_t31.keep Kq34 nin0
  have V_b29_t34 := V_b29_t31.keep Kq34 nin0
  have A30_t34 := A30_t31.keep Kq34
  have P31_1_t34 := P31_1.keep Kq34 nin0
  have P31_2_t34 := P31_2.keep Kq34 nin0
  have P31_3_t34 := P31_3.keep Kq34 nin0
  have P31_4_t34 := P31_4.keep Kq34 nin0
  have e34 : T34.heap = T34.heap := rfl
  obtain ⟨q35, hq35⟩ : ∃ z : Int32, z = (((192 : Int32) ||| v21).toInt8.toInt32) := ⟨_, rfl⟩
  rw [← hq35] at P34_1
  refine Wq.steps st34 ?_
  show Wq _ _ _ _ _ (T34.setTop (mkF m 71 #[.val (.int xlaw_1), .val (.int xlaw_2), .val (.long ylaw_3), .second, .val (.int xlaw_4), .val (.int v2), .val (.ref b28), .val (.ref b29), .val (.int v21), .val (.ref o30), .val (.int ms49_0)] [(.ref o11_c34)]))
  obtain ⟨cq36, kq36, q36a, q36b, q36c⟩ := isOf hZ34 e34 P34_0
  obtain ⟨_, _, ⟨T36, L36, k36, n36⟩, -, X36, ⟨Lc36, hQ36, l36, y36, z36⟩, st36⟩ := X34.virtualBack hx (y := mt4) (z := mt4) hown34 (mvT hZ34 (kw34 hw)) (mvT hZ34 (kw35 hw)) (notFace_of_selects (args := #[]) (mvT hZ34 (kw37 hw))) (mvT hZ34 (kw37 hw)) (mvT hZ34 (kw36 hw)) (by decide) (backOf (W := 0) (rm_isr l Z a0 hw [] o11_c34 q35 T34.heap n0 Z34 P34_1) hZ34 (kw38 hw) (kw3 hw) (by decide) (by decide)) q36a q36c (g := (mkF m 71 #[.val (.int xlaw_1), .val (.int xlaw_2), .val (.long ylaw_3), .second, .val (.int xlaw_4), .val (.int v2), .val (.ref b28), .val (.ref b29), .val (.int v21), .val (.ref o30), .val (.int ms49_0)] [(.ref o11_c34)])) rfl (by rw [hml]; rfl) (Steps.refl _) (argsL := []) (rest := []) (lenOf pd6 rfl) rfl (by show 2 * 0 + _ ≤ _; exact Nat.le_of_eq rfl) (hb hby at_71) (fun _ _ => ⟨rfl, e34, (by decide : 8 + 0 ≤ _), (by decide : 51 + 0 ≤ _)⟩)
  dsimp only [Pt.U, Pt.locs, Pt.cells, Pt.slots] at X36 l36 y36 z36 st36 hQ36
  subst l36 y36 z36
  obtain ⟨rfl, Nq36, e36⟩ := hQ36
  have N36 := Fr.app N34 Nq36
  refine Wq.steps st36 ?_
  show Wq _ _ _ _ _ (T36.setTop (mkF m 74 #[.val (.int xlaw_1), .val (.int xlaw_2), .val (.long ylaw_3), .second, .val (.int xlaw_4), .val (.int v2), .val (.ref b28), .val (.ref b29), .val (.int v21), .val (.ref o30), .val (.int ms49_0)] [(.int (f_isr q35))]))
  generalize hv71 : (f_isr q35) = v71
  show Wq _ _ _ _ _ (T36.setTop (mkF m 74 #[.val (.int xlaw_1), .val (.int xlaw_2), .val (.long ylaw_3), .second, .val (.int xlaw_4), .val (.int v2), .val (.ref b28), .val (.ref b29), .val (.int v21), .val (.ref o30), .val (.int ms49_0)] [(.int v71)]))
  refine Ow.ifYes X36 hx (pc' := 79) (hb hby at_74) ((if0 _ _).trans (feq (by subst_vars; exact own_m74 _ : ¬ (v71 = (0 : Int32)))).2) (by decide) (by decide) ?_
  refine Ow.lloadN X36 hx (pc' := 80) (hb hby at_79) rfl ?_
  refine Ow.iload X36 hx (pc' := 82) (hb hby at_80) rfl ?_
  obtain ⟨T37, X37, e37, st37⟩ := getS2 X36 hx hZ34 hown34 (host := "") (Or.inl (kw47 hw)) Via.refl e36 S_SERVER_ERROR_t34 (g := (mkF m 82 #[.val (.int xlaw_1), .val (.int xlaw_2), .val (.long ylaw_3), .second, .val (.int xlaw_4), .val (.int v2), .val (.ref b28), .val (.ref b29), .val (.int v21), .val (.ref o30), .val (.int ms49_0)] [(.int v21), (.long ylaw_3)])) rfl (hb hby at_82)
  refine Wq.step st37 ?_
  show Wq _ _ _ _ _ (T37.setTop (mkF m 85 #[.val (.int xlaw_1), .val (.int xlaw_2), .val (.long ylaw_3), .second, .val (.int xlaw_4), .val (.int v2), .val (.ref b28), .val (.ref b29), .val (.int v21), .val (.ref o30), .val (.int ms49_0)] [(.ref uSERVER_ERROR), (.int v21), (.long ylaw_3)]))
  refine Ow.aload X37 hx (pc' := 87) (hb hby at_85) rfl rfl ?_
  obtain ⟨_, _, ⟨T38, L38, k38, n38⟩, -, Xr38, hSr38, hgr38, ⟨Lc38, hQ38, l38, y38, z38⟩, st38⟩ := callSS X37 hx (y := mt8) hown34 (mvT hZ34 (kw50 hw)) (mvT hZ34 (kw51 hw)) (mvT hZ34 (kw3 hw)) (mvT hZ34 (kw52 hw)) (by decide) (backOfS (W := 0) (rm_rs l Z a0 hw [] ylaw_3 v21 uSERVER_ERROR b29 (6 : Int32) T34.heap n0 Z34 (by subst hv21; exact own_sid _) E_uSERVER_ERROR_t34 F_uSERVER_ERROR_code_t34) hZ34 (kw52 hw) (kw3 hw) (by decide) (by decide)) (g := (mkF m 87 #[.val (.int xlaw_1), .val (.int xlaw_2), .val (.long ylaw_3), .second, .val (.int xlaw_4), .val (.int v2), .val (.ref b28), .val (.ref b29), .val (.int v21), .val (.ref o30), .val (.int ms49_0)] [(.ref b29), (.ref uSERVER_ERROR), (.int v21), (.long ylaw_3)])) rfl (by rw [hml]; rfl) (argsL := [(.long ylaw_3), (.int v21), (.ref uSERVER_ERROR), (.ref b29)]) (rest := []) (lenOf pd8 rfl) rfl (by show 2 * 0 + _ ≤ _; exact Nat.le_of_eq rfl) (hb hby at_87) (fun _ _ => ⟨rfl, e37, (by decide : 8 + 3 ≤ _), (by decide : 51 + 24 ≤ _)⟩)
  dsimp only [Pt.U, Pt.locs, Pt.cells, Pt.slots] at Xr38 hSr38 hgr38 l38 y38 z38 st38 hQ38
  subst l38 y38 z38
  obtain ⟨X38, hS38, hZ38, hown38⟩ := rebS hS34 (by rw [e37]; exact hk34) Xr38 hSr38 hgr38 hZ34 hown34
  have hk38 := Nat.le_refl T38.heap.size
  obtain ⟨o14_c38, rfl, Nq38, Kq38, szq_o14_c38, P38_0, P38_1, P38_2, P38_3, P38_4⟩ := hQ38
  have g_o14_c38 : n0 ≤ o14_c38 := Nat.le_trans Z34 szq_o14_c38
  have sz_o14_c38 : h0.size ≤ o14_c38 := Nat.le_trans K34.1 szq_o14_c38
  have ne_uSERVER_ERROR_o14_c38 : uSERVER_ERROR ≠ o14_c38 := Nat.ne_of_lt (Nat.lt_of_lt_of_le E_uSERVER_ERROR_t34.lt szq_o14_c38)
  have ne_uOK_o14_c38 : uOK ≠ o14_c38 := Nat.ne_of_lt (Nat.lt_of_lt_of_le E_uOK_t34.lt szq_o14_c38)
  have ne_b28_o14_c38 : b28 ≠ o14_c38 := Nat.ne_of_lt (Nat.lt_of_lt_of_le V_b28_t34.lt szq_o14_c38)
  have ne_b29_o14_c38 : b29 ≠ o14_c38 := Nat.ne_of_lt (Nat.lt_of_lt_of_le V_b29_t34.lt szq_o14_c38)
  have ne_o30_o14_c38 : o30 ≠ o14_c38 := Nat.ne_of_lt (Nat.lt_of_lt_of_le A30_t34.lt szq_o14_c38)
  have ne_o11_c34_o14_c38 : o11_c34 ≠ o14_c38 := Nat.ne_of_lt (Nat.lt_of_lt_of_le P34_0.lt szq_o14_c38)
  have N38 := Fr.app N36 Nq38
  have K38 : Keep h0 T38.heap [] := K34.trans Kq38 all0
  have Z38 : n0 ≤ T38.heap.size := Nat.le_trans Z34 Kq38.1
  have S_SERVER_ERROR_t38 := Jvm.OwnW.Sta.keepN S_SERVER_ERROR_t34 Kq38 all0
  have E_uSERVER_ERROR_t38 := E_uSERVER_ERROR_t34.keep Kq38
  have F_uSERVER_ERROR_code_t38 := F_uSERVER_ERROR_code_t34.keep Kq38 nin0
  have S_NO_BODY_t38 := Jvm.OwnW.Sta.keepN S_NO_BODY_t34 Kq38 all0
  have S_OK_t38 := Jvm.OwnW.Sta.keepN S_OK_t34 Kq38 all0
  have E_uOK_t38 := E_uOK_t34.keep Kq38
  have F_uOK_code_t38 := F_uOK_code_t34.keep Kq38 nin0
  have V_b28_t38 := V_b28_t34.keep Kq38 nin0
  have V_b29_t38 := V_b29_t34.keep Kq38 nin0
  have A30_t38 := A30_t34.keep Kq38
  have P31_1_t38 := P31_1_t34.keep Kq38 nin0
  have P31_2_t38 := P31_2_t34.keep Kq38 nin0
  have P31_3_t38 := P31_3_t34.keep Kq38 nin0
  have P31_4_t38 := P31_4_t34.keep Kq38 nin0
  have P34_0_t38 := P34_0.keep Kq38
  have P34_1_t38 := P34_1.keep Kq38 nin0
  have P34_2_t38 := P34_2.keep Kq38 nin0
  have P34_3_t38 := P34_3.keep Kq38 nin0
  have P34_4_t38 := P34_4.keep Kq38 nin0
  have e38 : T38.heap = T38.heap := rfl
  obtain ⟨q39, hq39⟩ : ∃ z : Int32, z = (v21.toInt8.toInt32) := ⟨_, rfl⟩
  rw [← hq39] at P38_1
  obtain ⟨q40, hq40⟩ : ∃ z : Int32, z = (f_code (6 : Int32)) := ⟨_, rfl⟩
  rw [← hq40] at P38_2
  refine Wq.steps st38 ?_
  show Wq _ _ _ _ _ (T38.setTop (mkF m 90 #[.val (.int xlaw_1), .val (.int xlaw_2), .val (.long ylaw_3), .second, .val (.int xlaw_4), .val (.int v2), .val (.ref b28), .val (.ref b29), .val (.int v21), .val (.ref o30), .val (.int ms49_0)] [(.ref o14_c38)]))
  obtain ⟨cq41, kq41, q41a, q41b, q41c⟩ := isOf hZ38 e38 P38_0
  obtain ⟨_, _, ⟨T41, L41, k41, n41⟩, -, X41, ⟨Lc41, hQ41, l41, y41, z41⟩, st41⟩ := X38.virtualBack hx (y := mt4) (z := mt4) hown38 (mvT hZ38 (kw34 hw)) (mvT hZ38 (kw35 hw)) (notFace_of_selects (args := #[]) (mvT hZ38 (kw37 hw))) (mvT hZ38 (kw37 hw)) (mvT hZ38 (kw36 hw)) (by decide) (backOf (W := 0) (rm_isr l Z a0 hw [] o14_c38 q39 T38.heap n0 Z38 P38_1) hZ38 (kw38 hw) (kw3 hw) (by decide) (by decide)) q41a q41c (g := (mkF m 90 #[.val (.int xlaw_1), .val (.int xlaw_2), .val (.long ylaw_3), .second, .val (.int xlaw_4), .val (.int v2), .val (.ref b28), .val (.ref b29), .val (.int v21), .val (.ref o30), .val (.int ms49_0)] [(.ref o14_c38)])) rfl (by rw [hml]; rfl) (Steps.refl _) (argsL := []) (rest := []) (lenOf pd6 rfl) rfl (by show 2 * 0 + _ ≤ _; exact Nat.le_of_eq rfl) (hb hby at_90) (fun _ _ => ⟨rfl, e38, (by decide : 11 + 0 ≤ _), (by decide : 75 + 0 ≤ _)⟩)
  dsimp only [Pt.U, Pt.locs, Pt.cells, Pt.slots] at X41 l41 y41 z41 st41 hQ41
  subst l41 y41 z41
  obtain ⟨rfl, Nq41, e41⟩ := hQ41
  have N41 := Fr.app N38 Nq41
  refine Wq.steps st41 ?_
  show Wq _ _ _ _ _ (T41.setTop (mkF m 93 #[.val (.int xlaw_1), .val (.int xlaw_2), .val (.long ylaw_3), .second, .val (.int xlaw_4), .val (.int v2), .val (.ref b28), .val (.ref b29), .val (.int v21), .val (.ref o30), .val (.int ms49_0)] [(.int (f_isr q39))]))
  generalize hv90 : (f_isr q39) = v90
  show Wq _ _ _ _ _ (T41.setTop (mkF m 93 #[.val (.int xlaw_1), .val (.int xlaw_2), .val (.long ylaw_3), .second, .val (.int xlaw_4), .val (.int v2), .val (.ref b28), .val (.ref b29), .val (.int v21), .val (.ref o30), .val (.int ms49_0)] [(.int v90)]))
  refine Ow.ifYes X41 hx (pc' := 98) (hb hby at_93) ((if0 _ _).trans (teq (by subst_vars; exact own_m93 _ : v90 = (0 : Int32))).1) (by decide) (by decide) ?_
  refine Ow.lloadN X41 hx (pc' := 99) (hb hby at_98) rfl ?_
  refine Ow.iload X41 hx (pc' := 101) (hb hby at_99) rfl ?_
  obtain ⟨_, _, ⟨T42, L42, k42, n42⟩, -, Xr42, hSr42, hgr42, ⟨Lc42, hQ42, l42, y42, z42⟩, st42⟩ := callSS X41 hx (y := mt9) hown38 (mvT hZ38 (kw60 hw)) (mvT hZ38 (kw61 hw)) (mvT hZ38 (kw3 hw)) (mvT hZ38 (kw62 hw)) (by decide) (backOfS (W := 0) (rm_hb l Z a0 hw [] ylaw_3 v21 uNO_BODY T38.heap n0 Z38 (by subst hv21; exact own_sid _) S_NO_BODY_t38) hZ38 (kw62 hw) (kw3 hw) (by decide) (by decide)) (g := (mkF m 101 #[.val (.int xlaw_1), .val (.int xlaw_2), .val (.long ylaw_3), .second, .val (.int xlaw_4), .val (.int v2), .val (.ref b28), .val (.ref b29), .val (.int v21), .val (.ref o30), .val (.int ms49_0)] [(.int v21), (.long ylaw_3)])) rfl (by rw [hml]; rfl) (argsL := [(.long ylaw_3), (.int v21)]) (rest := []) (lenOf pd9 rfl) rfl (by show 2 * 0 + _ ≤ _; exact Nat.le_of_eq rfl) (hb hby at_101) (fun _ _ => ⟨rfl, e41, (by decide : 11 + 3 ≤ _), (by decide : 75 + 24 ≤ _)⟩)
  dsimp only [Pt.U, Pt.locs, Pt.cells, Pt.slots] at Xr42 hSr42 hgr42 l42 y42 z42 st42 hQ42
  subst l42 y42 z42
  obtain ⟨X42, hS42, hZ42, hown42⟩ := rebS hS38 (by rw [e41]; exact hk38) Xr42 hSr42 hgr42 hZ38 hown38
  have hk42 := Nat.le_refl T42.heap.size
  obtain ⟨o18_c42, rfl, Nq42, Kq42, szq_o18_c42, P42_0, P42_1, P42_2, P42_3, P42_4⟩ := hQ42
  have g_o18_c42 : n0 ≤ o18_c42 := Nat.le_trans Z38 szq_o18_c42
  have sz_o18_c42 : h0.size ≤ o18_c42 := Nat.le_trans K38.1 szq_o18_c42
  have ne_uSERVER_ERROR_o18_c42 : uSERVER_ERROR ≠ o18_c42 := Nat.ne_of_lt (Nat.lt_of_lt_of_le E_uSERVER_ERROR_t38.lt szq_o18_c42)
  have ne_uOK_o18_c42 : uOK ≠ o18_c42 := Nat.ne_of_lt (Nat.lt_of_lt_of_le E_uOK_t38.lt szq_o18_c42)
  have ne_b28_o18_c42 : b28 ≠ o18_c42 := Nat.ne_of_lt (Nat.lt_of_lt_of_le V_b28_t38.lt szq_o18_c42)
  have ne_b29_o18_c42 : b29 ≠ o18_c42 := Nat.ne_of_lt (Nat.lt_of_lt_of_le V_b29_t38.lt szq_o18_c42)
  have ne_o30_o18_c42 : o30 ≠ o18_c42 := Nat.ne_of_lt (Nat.lt_of_lt_of_le A30_t38.lt szq_o18_c42)
  have ne_o11_c34_o18_c42 : o11_c34 ≠ o18_c42 := Nat.ne_of_lt (Nat.lt_of_lt_of_le P34_0_t38.lt szq_o18_c42)
  have ne_o14_c38_o18_c42 : o14_c38 ≠ o18_c42 := Nat.ne_of_lt (Nat.lt_of_lt_of_le P38_0.lt szq_o18_c42)
  have N42 := Fr.app N41 Nq42
  have K42 : Keep h0 T42.heap [] := K38.trans Kq42 all0
  have Z42 : n0 ≤ T42.heap.size := Nat.le_trans Z38 Kq42.1
  have S_SERVER_ERROR_t42 := Jvm.OwnW.Sta.keepN S_SERVER_ERROR_t38 Kq42 all0
  have E_uSERVER_ERROR_t42 := E_uSERVER_ERROR_t38.keep Kq42
  have F_uSERVER_ERROR_code_t42 := F_uSERVER_ERROR_code_t38.keep Kq42 nin0
  have S_NO_BODY_t42 := Jvm.OwnW.Sta.keepN S_NO_BODY_t38 Kq42 all0
  have S_OK_t42 := Jvm.OwnW.Sta.keepN S_OK_t38 Kq42 all0
  have E_uOK_t42 := E_uOK_t38.keep Kq42
  have F_uOK_code_t42 := F_uOK_code_t38.keep Kq42 nin0
  have V_b28_t42 := V_b28_t38.keep Kq42 nin0
  have V_b29_t42 := V_b29_t38.keep Kq42 nin0
  have A30_t42 := A30_t38.keep Kq42
  have P31_1_t42 := P31_1_t38.keep Kq42 nin0
  have P31_2_t42 := P31_2_t38.keep Kq42 nin0
  have P31_3_t42 := P31_3_t38.keep Kq42 nin0
  have P31_4_t42 := P31_4_t38.keep Kq42 nin0
  have P34_0_t42 := P34_0_t38.keep Kq42
  have P34_1_t42 := P34_1_t38.keep Kq42 nin0
  have P34_2_t42 := P34_2_t38.keep Kq42 nin0
  have P34_3_t42 := P34_3_t38.keep Kq42 nin0
  have P34_4_t42 := P34_4_t38.keep Kq42 nin0
  have P38_0_t42 := P38_0.keep Kq42
  have P38_1_t42 := P38_1.keep Kq42 nin0
  have P38_2_t42 := P38_2.keep Kq42 nin0
  have P38_3_t42 := P38_3.keep Kq42 nin0
  have P38_4_t42 := P38_4.keep Kq42 nin0
  have e42 : T42.heap = T42.heap := rfl
  obtain ⟨q43, hq43⟩ : ∃ z : Int32, z = (((224 : Int32) ||| v21).toInt8.toInt32) := ⟨_, rfl⟩
  rw [← hq43] at P42_1
  refine Wq.steps st42 ?_
  show Wq _ _ _ _ _ (T42.setTop (mkF m 104 #[.val (.int xlaw_1), .val (.int xlaw_2), .val (.long ylaw_3), .second, .val (.int xlaw_4), .val (.int v2), .val (.ref b28), .val (.ref b29), .val (.int v21), .val (.ref o30), .val (.int ms49_0)] [(.ref o18_c42)]))
  obtain ⟨cq44, kq44, q44a, q44b, q44c⟩ := isOf hZ42 e42 P42_0
  obtain ⟨_, _, ⟨T44, L44, k44, n44⟩, -, X44, ⟨Lc44, hQ44, l44, y44, z44⟩, st44⟩ := X42.virtualBack hx (y := mt4) (z := mt4) hown42 (mvT hZ42 (kw34 hw)) (mvT hZ42 (kw35 hw)) (notFace_of_selects (args := #[]) (mvT hZ42 (kw37 hw))) (mvT hZ42 (kw37 hw)) (mvT hZ42 (kw36 hw)) (by decide) (backOf (W := 0) (rm_isr l Z a0 hw [] o18_c42 q43 T42.heap n0 Z42 P42_1) hZ42 (kw38 hw) (kw3 hw) (by decide) (by decide)) q44a q44c (g := (mkF m 104 #[.val (.int xlaw_1), .val (.int xlaw_2), .val (.long ylaw_3), .second, .val (.int xlaw_4), .val (.int v2), .val (.ref b28), .val (.ref b29), .val (.int v21), .val (.ref o30), .val (.int ms49_0)] [(.ref o18_c42)])) rfl (by rw [hml]; rfl) (Steps.refl _) (argsL := []) (rest := []) (lenOf pd6 rfl) rfl (by show 2 * 0 + _ ≤ _; exact Nat.le_of_eq rfl) (hb hby at_104) (fun _ _ => ⟨rfl, e42, (by decide : 14 + 0 ≤ _), (by decide : 99 + 0 ≤ _)⟩)
  dsimp only [Pt.U, Pt.locs, Pt.cells, Pt.slots] at X44 l44 y44 z44 st44 hQ44
  subst l44 y44 z44
  obtain ⟨rfl, Nq44, e44⟩ := hQ44
  have N44 := Fr.app N42 Nq44
  refine Wq.steps st44 ?_
  show Wq _ _ _ _ _ (T44.setTop (mkF m 107 #[.val (.int xlaw_1), .val (.int xlaw_2), .val (.long ylaw_3), .second, .val (.int xlaw_4), .val (.int v2), .val (.ref b28), .val (.ref b29), .val (.int v21), .val (.ref o30), .val (.int ms49_0)] [(.int (f_isr q43))]))
  generalize hv104 : (f_isr q43) = v104
  show Wq _ _ _ _ _ (T44.setTop (mkF m 107 #[.val (.int xlaw_1), .val (.int xlaw_2), .val (.long ylaw_3), .second, .val (.int xlaw_4), .val (.int v2), .val (.ref b28), .val (.ref b29), .val (.int v21), .val (.ref o30), .val (.int ms49_0)] [(.int v104)]))
  refine Ow.ifYes X44 hx (pc' := 112) (hb hby at_107) ((if0 _ _).trans (feq (by subst_vars; exact own_m107 _ : ¬ (v104 = (0 : Int32)))).2) (by decide) (by decide) ?_
  refine Ow.lloadN X44 hx (pc' := 113) (hb hby at_112) rfl ?_
  refine Ow.iload X44 hx (pc' := 115) (hb hby at_113) rfl ?_
  obtain ⟨_, _, ⟨T45, L45, k45, n45⟩, -, Xr45, hSr45, hgr45, ⟨Lc45, hQ45, l45, y45, z45⟩, st45⟩ := callSS X44 hx (y := mt10) hown42 (mvT hZ42 (kw65 hw)) (mvT hZ42 (kw66 hw)) (mvT hZ42 (kw3 hw)) (mvT hZ42 (kw67 hw)) (by decide) (backOfS (W := 0) (rm_hr l Z a0 hw [] ylaw_3 v21 uNO_BODY uOK (0 : Int32) T42.heap n0 Z42 (by subst hv21; exact own_sid _) S_NO_BODY_t42 S_OK_t42 E_uOK_t42 F_uOK_code_t42) hZ42 (kw67 hw) (kw3 hw) (by decide) (by decide)) (g := (mkF m 115 #[.val (.int xlaw_1), .val (.int xlaw_2), .val (.long ylaw_3), .second, .val (.int xlaw_4), .val (.int v2), .val (.ref b28), .val (.ref b29), .val (.int v21), .val (.ref o30), .val (.int ms49_0)] [(.int v21), (.long ylaw_3)])) rfl (by rw [hml]; rfl) (argsL := [(.long ylaw_3), (.int v21)]) (rest := []) (lenOf pd9 rfl) rfl (by show 2 * 0 + _ ≤ _; exact Nat.le_of_eq rfl) (hb hby at_115) (fun _ _ => ⟨rfl, e44, (by decide : 14 + 3 ≤ _), (by decide : 99 + 24 ≤ _)⟩)
  dsimp only [Pt.U, Pt.locs, Pt.cells, Pt.slots] at Xr45 hSr45 hgr45 l45 y45 z45 st45 hQ45
  subst l45 y45 z45
  obtain ⟨X45, hS45, hZ45, hown45⟩ := rebS hS42 (by rw [e44]; exact hk42) Xr45 hSr45 hgr45 hZ42 hown42
  have hk45 := Nat.le_refl T45.heap.size
  obtain ⟨o22_c45, rfl, Nq45, Kq45, szq_o22_c45, P45_0, P45_1, P45_2, P45_3, P45_4⟩ := hQ45
  have g_o22_c45 : n0 ≤ o22_c45 := Nat.le_trans Z42 szq_o22_c45
  have sz_o22_c45 : h0.size ≤ o22_c45 := Nat.le_trans K42.1 szq_o22_c45
  have ne_uSERVER_ERROR_o22_c45 : uSERVER_ERROR ≠ o22_c45 := Nat.ne_of_lt (Nat.lt_of_lt_of_le E_uSERVER_ERROR_t42.lt szq_o22_c45)
  have ne_uOK_o22_c45 : uOK ≠ o22_c45 := Nat.ne_of_lt (Nat.lt_of_lt_of_le E_uOK_t42.lt szq_o22_c45)
  have ne_b28_o22_c45 : b28 ≠ o22_c45 := Nat.ne_of_lt (Nat.lt_of_lt_of_le V_b28_t42.lt szq_o22_c45)
  have ne_b29_o22_c45 : b29 ≠ o22_c45 := Nat.ne_of_lt (Nat.lt_of_lt_of_le V_b29_t42.lt szq_o22_c45)
  have ne_o30_o22_c45 : o30 ≠ o22_c45 := Nat.ne_of_lt (Nat.lt_of_lt_of_le A30_t42.lt szq_o22_c45)
  have ne_o11_c34_o22_c45 : o11_c34 ≠ o22_c45 := Nat.ne_of_lt (Nat.lt_of_lt_of_le P34_0_t42.lt szq_o22_c45)
  have ne_o14_c38_o22_c45 : o14_c38 ≠ o22_c45 := Nat.ne_of_lt (Nat.lt_of_lt_of_le P38_0_t42.lt szq_o22_c45)
  have ne_o18_c42_o22_c45 : o18_c42 ≠ o22_c45 := Nat.ne_of_lt (Nat.lt_of_lt_of_le P42_0.lt szq_o22_c45)
  have N45 := Fr.app N44 Nq45
  have K45 : Keep h0 T45.heap [] := K42.trans Kq45 all0
  have Z45 : n0 ≤ T45.heap.size := Nat.le_trans Z42 Kq45.1
  have S_SERVER_ERROR_t45 := Jvm.OwnW.Sta.keepN S_SERVER_ERROR_t42 Kq45 all0
  have E_uSERVER_ERROR_t45 := E_uSERVER_ERROR_t42.keep Kq45
  have F_uSERVER_ERROR_code_t45 := F_uSERVER_ERROR_code_t42.keep Kq45 nin0
  have S_NO_BODY_t45 := Jvm.OwnW.Sta.keepN S_NO_BODY_t42 Kq45 all0
  have S_OK_t45 := Jvm.OwnW.Sta.keepN S_OK_t42 Kq45 all0
  have E_uOK_t45 := E_uOK_t42.keep Kq45
  have F_uOK_code_t45 := F_uOK_code_t42.keep Kq45 nin0
  have V_b28_t45 := V_b28_t42.keep Kq45 nin0
  have V_b29_t45 := V_b29_t42.keep Kq45 nin0
  have A30_t45 := A30_t42.keep Kq45
  have P31_1_t45 := P31_1_t42.keep Kq45 nin0
  have P31_2_t45 := P31_2_t42.keep Kq45 nin0
  have P31_3_t45 := P31_3_t42.keep Kq45 nin0
  have P31_4_t45 := P31_4_t42.keep Kq45 nin0
  have P34_0_t45 := P34_0_t42.keep Kq45
  have P34_1_t45 := P34_1_t42.keep Kq45 nin0
  have P34_2_t45 := P34_2_t42.keep Kq45 nin0
  have P34_3_t45 := P34_3_t42.keep Kq45 nin0
  have P34_4_t45 := P34_4_t42.keep Kq45 nin0
  have P38_0_t45 := P38_0_t42.keep Kq45
  have P38_1_t45 := P38_1_t42.keep Kq45 nin0
  have P38_2_t45 := P38_2_t42.keep Kq45 nin0
  have P38_3_t45 := P38_3_t42.keep Kq45 nin0
  have P38_4_t45 := P38_4_t42.keep Kq45 nin0
  have P42_0_t45 := P42_0.keep Kq45
  have P42_1_t45 := P42_1.keep Kq45 nin0
  have P42_2_t45 := P42_2.keep Kq45 nin0
  have P42_3_t45 := P42_3.keep Kq45 nin0
  have P42_4_t45 := P42_4.keep Kq45 nin0
  have e45 : T45.heap = T45.heap := rfl
  obtain ⟨q46, hq46⟩ : ∃ z : Int32, z = (((32 : Int32) ||| v21).toInt8.toInt32) := ⟨_, rfl⟩
  rw [← hq46] at P45_1
  obtain ⟨q47, hq47⟩ : ∃ z : Int32, z = (f_code (0 : Int32)) := ⟨_, rfl⟩
  rw [← hq47] at P45_2
  refine Wq.steps st45 ?_
  show Wq _ _ _ _ _ (T45.setTop (mkF m 118 #[.val (.int xlaw_1), .val (.int xlaw_2), .val (.long ylaw_3), .second, .val (.int xlaw_4), .val (.int v2), .val (.ref b28), .val (.ref b29), .val (.int v21), .val (.ref o30), .val (.int ms49_0)] [(.ref o22_c45)]))
  obtain ⟨cq48, kq48, q48a, q48b, q48c⟩ := isOf hZ45 e45 P45_0
  obtain ⟨_, _, ⟨T48, L48, k48, n48⟩, -, X48, ⟨Lc48, hQ48, l48, y48, z48⟩, st48⟩ := X45.virtualBack hx (y := mt4) (z := mt4) hown45 (mvT hZ45 (kw34 hw)) (mvT hZ45 (kw35 hw)) (notFace_of_selects (args := #[]) (mvT hZ45 (kw37 hw))) (mvT hZ45 (kw37 hw)) (mvT hZ45 (kw36 hw)) (by decide) (backOf (W := 0) (rm_isr l Z a0 hw [] o22_c45 q46 T45.heap n0 Z45 P45_1) hZ45 (kw38 hw) (kw3 hw) (by decide) (by decide)) q48a q48c (g := (mkF m 118 #[.val (.int xlaw_1), .val (.int xlaw_2), .val (.long ylaw_3), .second, .val (.int xlaw_4), .val (.int v2), .val (.ref b28), .val (.ref b29), .val (.int v21), .val (.ref o30), .val (.int ms49_0)] [(.ref o22_c45)])) rfl (by rw [hml]; rfl) (Steps.refl _) (argsL := []) (rest := []) (lenOf pd6 rfl) rfl (by show 2 * 0 + _ ≤ _; exact Nat.le_of_eq rfl) (hb hby at_118) (fun _ _ => ⟨rfl, e45, (by decide : 17 + 0 ≤ _), (by decide : 123 + 0 ≤ _)⟩)
  dsimp only [Pt.U, Pt.locs, Pt.cells, Pt.slots] at X48 l48 y48 z48 st48 hQ48
  subst l48 y48 z48
  obtain ⟨rfl, Nq48, e48⟩ := hQ48
  have N48 := Fr.app N45 Nq48
  refine Wq.steps st48 ?_
  show Wq _ _ _ _ _ (T48.setTop (mkF m 121 #[.val (.int xlaw_1), .val (.int xlaw_2), .val (.long ylaw_3), .second, .val (.int xlaw_4), .val (.int v2), .val (.ref b28), .val (.ref b29), .val (.int v21), .val (.ref o30), .val (.int ms49_0)] [(.int (f_isr q46))]))
  generalize hv118 : (f_isr q46) = v118
  show Wq _ _ _ _ _ (T48.setTop (mkF m 121 #[.val (.int xlaw_1), .val (.int xlaw_2), .val (.long ylaw_3), .second, .val (.int xlaw_4), .val (.int v2), .val (.ref b28), .val (.ref b29), .val (.int v21), .val (.ref o30), .val (.int ms49_0)] [(.int v118)]))
  refine Ow.ifYes X48 hx (pc' := 126) (hb hby at_121) ((if0 _ _).trans (teq (by subst_vars; exact own_m121 _ : v118 = (0 : Int32))).1) (by decide) (by decide) ?_
  refine Ow.iconst X48 hx (pc' := 127) (hb hby at_126) (z := (1 : Int32)) rfl ?_
  exact Wq.retW X48 hS45 (by rw [e48]; exact hk45) (BodyLoose.notSynchronized Bd) (rv := some (.int (1 : Int32))) (fun h => by rw [Bd.returns] at h; cases h) (fun _ hr => retN X48 hx (t := .boolean) Bd.returns (by simp) (hb hby at_127) hr) (by decide) (by decide) ⟨rfl, N48⟩
set_option maxRecDepth 65536 in
set_option maxHeartbeats 40000000 in
theorem comes_1 {Post : Tables → Env → Array Value → State → Outcome → State → Prop} (hpost : ∀ tb e args s v u, (limb_1_1.after args s (.returned v) u = true ∧ limb_1_2.after args s (.returned v) u = true ∧ True) → ReturnedEndW s (.returned v) u (Jvm.fieldLocs frame_1_writes args s ++ Jvm.arrayLocs frame_1_arrays args s ++ Jvm.staticLocs frame_1_statics s) 24 1152 → Post tb e args s (.returned v) u) :
    ArmFor flags0 classFile x code maxLocals ret World_1 tables_1 room_1 Calls_1 rest_1 Pre_1 Post := by
  intro l hfl _ _ p e ha hc hk s m args below hf hA hF happ hP
  obtain ⟨hcalls, hrest, hpre⟩ := hP
  obtain ⟨-, -, -, hnamed, -, -, -, hat⟩ := (Spec.applies_iff hf).mp happ
  obtain ⟨hg, hn⟩ := and_e (Cond.before_iff.mp (show (Jvm.Cond.and given_1 narrow_1).before args s = true from hpre))
  obtain ⟨hg1, hg2⟩ := and_e hg
  obtain ⟨ha0, hb0⟩ := and_e hg2
  obtain ⟨ha1, hb1⟩ := and_e hb0
  obtain ⟨ha2, hb2⟩ := and_e hb1
  obtain ⟨w0, w1, w2, w3, rfl⟩ : ∃ w0 w1 w2 w3 : Value, args = #[w0, w1, w2, w3] := by
    have hs : args.size = 4 := by simpa [Cond.value, given_1] using hg1
    obtain ⟨L⟩ := args
    match L, hs with
    | [w0, w1, w2, w3], _ => exact ⟨w0, w1, w2, w3, rfl⟩
  have hw := fun d (hd : d ∈ tables_1) => atoms_spec (ws := Jvm.Cond.code x code maxLocals ret :: tables_1) hat d (List.mem_cons_of_mem _ hd)
  have hfit : Fit s := fun {y c} hc i hi => by
    obtain ⟨ha, rfl⟩ := Array.getElem?_eq_some_iff.mp hc
    have q := List.all_eq_true.mp ((Array.all_eq_true_iff_forall_mem.mp hF) _ (Array.getElem_mem ha)) i (List.mem_range.mpr hi)
    simpa [Array.getElem?_eq_getElem hi] using q
  obtain ⟨i0, ei0⟩ := is_v ha0
  obtain rfl : w0 = (.int i0) := Option.some.inj ei0
  obtain ⟨i1, ei1⟩ := is_v ha1
  obtain rfl : w1 = (.int i1) := Option.some.inj ei1
  obtain ⟨i2, ei2⟩ := isL_v ha2
  obtain rfl : w2 = (.long i2) := Option.some.inj ei2
  obtain ⟨i3, ei3⟩ := is_v hb2
  obtain rfl : w3 = (.int i3) := Option.some.inj ei3
  obtain ⟨hn0, hnr0⟩ := and_e hn
  obtain ⟨hn1, hnr1⟩ := and_e hnr0
  obtain ⟨hn2, hnr2⟩ := and_e hnr1
  obtain ⟨hn3, hnr3⟩ := and_e hnr2
  obtain ⟨hn4, hnr4⟩ := and_e hnr3
  obtain ⟨uSERVER_ERROR, evuSERVER_ERROR⟩ := exa_v hn0
  have SuSERVER_ERROR : Sta s s.heap "com/example/meridian/meridian/wire/Status" "SERVER_ERROR" "Lcom/example/meridian/meridian/wire/Status;" (.ref uSERVER_ERROR) := Sta.start evuSERVER_ERROR (Or.inr ⟨(kw48 hw), (kw49 hw)⟩)
  have EuSERVER_ERROR : Exa s s.heap uSERVER_ERROR "com/example/meridian/meridian/wire/Status" := Exa.start evuSERVER_ERROR hn0
  have FuSERVER_ERROR_code : Fld s s.heap uSERVER_ERROR "com/example/meridian/meridian/wire/Status" "code" "B" (.int (6 : Int32)) := Jvm.OwnW.fldI hn1 evuSERVER_ERROR
  obtain ⟨uNO_BODY, evuNO_BODY⟩ := arr_v hn2
  have SuNO_BODY : Sta s s.heap "com/example/meridian/meridian/wire/Frame" "NO_BODY" "[B" (.ref uNO_BODY) := Sta.start evuNO_BODY (Or.inr ⟨(kw3 hw), (kw64 hw)⟩)
  obtain ⟨uOK, evuOK⟩ := exa_v hn4
  have SuOK : Sta s s.heap "com/example/meridian/meridian/wire/Status" "OK" "Lcom/example/meridian/meridian/wire/Status;" (.ref uOK) := Sta.start evuOK (Or.inr ⟨(kw48 hw), (kw69 hw)⟩)
  have EuOK : Exa s s.heap uOK "com/example/meridian/meridian/wire/Status" := Exa.start evuOK hn4
  have FuOK_code : Fld s s.heap uOK "com/example/meridian/meridian/wire/Status" "code" "B" (.int (0 : Int32)) := Jvm.OwnW.fldI hnr4 evuOK
  obtain ⟨n, o, h1, h2, h3, _, L, rfl, ⟨rfl, N⟩, hq⟩ := rm_law l s _ hw tables_1 i0 i1 i2 i3 uSERVER_ERROR uNO_BODY uOK s.heap s.heap.size (Nat.le_refl _) SuSERVER_ERROR EuSERVER_ERROR FuSERVER_ERROR_code SuNO_BODY SuOK EuOK FuOK_code p e ha hc hk s m _ below hf ((Spec.applies_iff_loose hf).mp happ).1 ⟨rfl, State.Warmed39.refl s, rfl⟩ trivial
  refine ⟨n, _, h1, h2, h3, hpost _ _ _ _ _ _ ⟨Cond.after_iff.mpr rfl, Cond.after_iff.mpr (eq_i res_at (Term.int_eval (1)) rfl), trivial⟩ ⟨hq.1, hq.2.1, hq.2.2.1, (hq.2.2.2.sift fun y hy => Or.inr (N y hy)).mono (by decide) (by decide)⟩⟩
theorem main_1_1 : Claimed_1_1 := comes_1 fun _ _ _ _ _ _ h hF => ⟨h.1, hF⟩
theorem main_1_2 : Claimed_1_2 := comes_1 fun _ _ _ _ _ _ h hF => ⟨h.2.1, hF⟩
end Jvm.Pilot.@@N@@
namespace Jvm.Pilot.@@N@@
open Jvm Jvm.ClassFile Sem Op Lib Jvm.Free Jvm.Stand Jvm.Pilot.@@N@@.Jvm.D
/-! MADE BY PROGRAM (witnessworld.py) out of the Statement's table words and the real class files: 18 classes; the members and pool entries that the words name. The judged class is class 1, her method 1. -/
namespace start1
open Jvm.ClassFile
def u (s : String) : CpInfo := .utf8 (stringToUtf16 s)
/-- a pool by its gaps: so many unusable entries, then the entry; so many at the end -/
def gap : Nat → List CpInfo → List CpInfo
  | 0, r => r
  | n + 1, r => .unusable :: gap n r
def poolList (es : List (Nat × CpInfo)) (last : Nat) : List CpInfo := es.foldr (fun e r => gap e.1 (e.2 :: r)) (gap last [])
def pool (es : List (Nat × CpInfo)) (last : Nat) : Array CpInfo := ⟨poolList es last⟩
def fileOf (pool : Array CpInfo) (this : Nat) (attrs : Array Attribute := #[]) (ms : Array MethodInfo := #[]) (fl : Nat := 33) (sup : Nat := 0) (ifs : Array Nat := #[]) (fds : Array FieldInfo := #[]) : ClassFile where
  minorVersion := 0
  majorVersion := 65
  constantPool := pool
  accessFlags := fl
  thisClass := this
  superClass := sup
  interfaces := ifs
  fields := fds
  methods := ms
  attributes := attrs
def plain (name : String) (sup : Option ClassId) : Class where
  name := name
  kind := .ordinary
  loader := none
  accessFlags := 33
  super := sup
  interfaces := #[]
  cf := none
  fields := #[]
  methods := #[]
  instanceTypes := #[]
  staticTypes := #[]
  resolved := #[]
  callSites := []
  init := .initialized
  statics := none
  mirror := none

def pool0 : Array CpInfo := pool [(5, u "<init>"), (0, u "()V"), (1, .class_ 10), (1, u "java/lang/Object")] 113

def k0c0 : Code := { maxStack := 0, maxLocals := 1, code := object_method_1_code, exceptionTable := #[], attributes := #[] }
def k0m0 : Method := { name := "<init>", desc := "()V", sig := { parameters := [], returnType := none }, accessFlags := 1, code := some k0c0 }
/-- java/lang/Object -/
def k0 : Class := { plain "java/lang/Object" none with
  accessFlags := 33
  interfaces := #[]
  cf := some (fileOf pool0 8 #[] #[{ accessFlags := 1, nameIndex := 5, descriptorIndex := 6, attributes := #[] }] 33 0 #[] #[])
  fields := #[]
  methods := #[k0m0]
  instanceTypes := #[]
  staticTypes := #[]
  resolved := Array.replicate 124 none
  statics := none }

def pool1 : Array CpInfo := pool [(2, .class_ 4), (1, u "java/lang/Object"), (0, u "<init>"), (0, u "()V"), (0, .class_ 8), (0, u "com/example/meridian/meridian/wire/Frame"), (0, .methodref 7 10), (0, .nameAndType 5 11), (0, u "(BBJ[B)V"), (0, .methodref 7 13), (0, .nameAndType 14 15), (0, u "isRequest"), (0, u "()Z"), (0, .methodref 7 17), (0, .nameAndType 18 19), (0, u "request"), (0, u "(JI[B)Lcom/example/meridian/meridian/wire/Frame;"), (0, .fieldref 21 22), (0, .class_ 23), (0, .nameAndType 24 25), (0, u "com/example/meridian/meridian/wire/Status"), (0, u "SERVER_ERROR"), (0, u "Lcom/example/meridian/meridian/wire/Status;"), (0, .methodref 7 27), (0, .nameAndType 28 29), (0, u "response"), (0, u "(JILcom/example/meridian/meridian/wire/Status;[B)Lcom/example/meridian/meridian/wire/Frame;"), (0, .methodref 7 31), (0, .nameAndType 32 33), (0, u "heartbeat"), (0, u "(JI)Lcom/example/meridian/meridian/wire/Frame;"), (0, .methodref 7 35), (0, .nameAndType 36 33), (0, u "heartbeatResponse"), (0, .class_ 38), (0, u "com/example/meridian/meridian/wire/FrameIsRequestPinLaw"), (2, u "law"), (0, u "(IIJI)Z")] 5

def k1m0 : Method := { name := "<init>", desc := "()V", sig := { parameters := [], returnType := none }, accessFlags := 1, code := none }
def k1c1 : Code := { maxStack := 7, maxLocals := 11, code := code, exceptionTable := #[], attributes := #[] }
def k1m1 : Method := { name := "law", desc := "(IIJI)Z", sig := { parameters := [.int, .int, .long, .int], returnType := some .boolean }, accessFlags := 9, code := some k1c1 }
/-- com/example/meridian/meridian/wire/FrameIsRequestPinLaw -/
def k1 : Class := { plain "com/example/meridian/meridian/wire/FrameIsRequestPinLaw" (some 0) with
  accessFlags := 49
  interfaces := #[]
  cf := some (fileOf pool1 37 #[] #[{ accessFlags := 1, nameIndex := 5, descriptorIndex := 6, attributes := #[] }, { accessFlags := 9, nameIndex := 41, descriptorIndex := 42, attributes := #[] }] 49 2 #[] #[])
  fields := #[]
  methods := #[k1m0, k1m1]
  instanceTypes := #[]
  staticTypes := #[]
  resolved := Array.replicate 48 none
  statics := none }

def pool2 : Array CpInfo := pool [(1, .methodref 2 3), (0, .class_ 4), (0, .nameAndType 5 6), (0, u "java/lang/Object"), (0, u "<init>"), (0, u "()V"), (0, .class_ 8), (0, u "java/lang/Record")] 13

def k2c0 : Code := { maxStack := 1, maxLocals := 1, code := jdk_30_method_1_code, exceptionTable := #[], attributes := #[] }
def k2m0 : Method := { name := "<init>", desc := "()V", sig := { parameters := [], returnType := none }, accessFlags := 4, code := some k2c0 }
/-- java/lang/Record -/
def k2 : Class := { plain "java/lang/Record" (some 0) with
  accessFlags := 1057
  interfaces := #[]
  cf := some (fileOf pool2 7 #[] #[{ accessFlags := 4, nameIndex := 5, descriptorIndex := 6, attributes := #[] }] 1057 2 #[] #[])
  fields := #[]
  methods := #[k2m0]
  instanceTypes := #[]
  staticTypes := #[]
  resolved := Array.replicate 22 none
  statics := none }

def pool3 : Array CpInfo := pool [(1, .methodref 2 3), (0, .class_ 4), (0, .nameAndType 5 6), (0, u "java/lang/Record"), (0, u "<init>"), (0, u "()V"), (0, .string 8), (0, u "body"), (0, .methodref 10 11), (0, .class_ 12), (0, .nameAndType 13 14), (0, u "java/util/Objects"), (0, u "requireNonNull"), (0, u "(Ljava/lang/Object;Ljava/lang/String;)Ljava/lang/Object;"), (0, .fieldref 16 17), (0, .class_ 18), (0, .nameAndType 19 20), (0, u "com/example/meridian/meridian/wire/Frame"), (0, u "flags"), (0, u "B"), (0, .fieldref 16 22), (0, .nameAndType 23 20), (0, u "status"), (0, .fieldref 16 25), (0, .nameAndType 26 27), (0, u "id"), (0, u "J"), (0, .fieldref 16 29), (0, .nameAndType 8 30), (0, u "[B"), (0, .methodref 16 32), (0, .nameAndType 33 34), (0, u "checked"), (0, u "(I)I"), (0, .methodref 16 36), (0, .nameAndType 5 37), (0, u "(BBJ[B)V"), (0, .methodref 39 40), (0, .class_ 41), (0, .nameAndType 42 43), (0, u "com/example/meridian/meridian/wire/Status"), (0, u "code"), (0, u "()B"), (0, .fieldref 16 45), (0, .nameAndType 46 30), (0, u "NO_BODY"), (0, .fieldref 39 48), (0, .nameAndType 49 50), (0, u "OK"), (0, u "Lcom/example/meridian/meridian/wire/Status;"), (21, u "MAGIC"), (0, u "S"), (2, u "HEADER_LENGTH"), (0, u "I"), (1, u "REQUEST"), (1, u "TWO_WAY"), (1, u "EVENT"), (1, u "SERIALIZER_MASK"), (4, u "request"), (0, u "(JI[B)Lcom/example/meridian/meridian/wire/Frame;"), (0, u "response"), (0, u "(JILcom/example/meridian/meridian/wire/Status;[B)Lcom/example/meridian/meridian/wire/Frame;"), (0, u "heartbeat"), (0, u "(JI)Lcom/example/meridian/meridian/wire/Frame;"), (0, u "heartbeatResponse"), (0, u "isRequest"), (0, u "()Z")] 41

def k3c0 : Code := { maxStack := 3, maxLocals := 6, code := prog_39_method_1_code, exceptionTable := #[], attributes := #[] }
def k3m0 : Method := { name := "<init>", desc := "(BBJ[B)V", sig := { parameters := [.byte, .byte, .long, (.array .byte)], returnType := none }, accessFlags := 1, code := some k3c0 }
def k3c1 : Code := { maxStack := 7, maxLocals := 4, code := prog_39_method_2_code, exceptionTable := #[], attributes := #[] }
def k3m1 : Method := { name := "request", desc := "(JI[B)Lcom/example/meridian/meridian/wire/Frame;", sig := { parameters := [.long, .int, (.array .byte)], returnType := some (.object "com/example/meridian/meridian/wire/Frame") }, accessFlags := 9, code := some k3c1 }
def k3c2 : Code := { maxStack := 7, maxLocals := 5, code := prog_39_method_3_code, exceptionTable := #[], attributes := #[] }
def k3m2 : Method := { name := "response", desc := "(JILcom/example/meridian/meridian/wire/Status;[B)Lcom/example/meridian/meridian/wire/Frame;", sig := { parameters := [.long, .int, (.object "com/example/meridian/meridian/wire/Status"), (.array .byte)], returnType := some (.object "com/example/meridian/meridian/wire/Frame") }, accessFlags := 9, code := some k3c2 }
def k3c3 : Code := { maxStack := 7, maxLocals := 3, code := prog_39_method_4_code, exceptionTable := #[], attributes := #[] }
def k3m3 : Method := { name := "heartbeat", desc := "(JI)Lcom/example/meridian/meridian/wire/Frame;", sig := { parameters := [.long, .int], returnType := some (.object "com/example/meridian/meridian/wire/Frame") }, accessFlags := 9, code := some k3c3 }
def k3c4 : Code := { maxStack := 7, maxLocals := 3, code := prog_39_method_5_code, exceptionTable := #[], attributes := #[] }
def k3m4 : Method := { name := "heartbeatResponse", desc := "(JI)Lcom/example/meridian/meridian/wire/Frame;", sig := { parameters := [.long, .int], returnType := some (.object "com/example/meridian/meridian/wire/Frame") }, accessFlags := 9, code := some k3c4 }
def k3c5 : Code := { maxStack := 2, maxLocals := 1, code := prog_39_method_6_code, exceptionTable := #[], attributes := #[] }
def k3m5 : Method := { name := "isRequest", desc := "()Z", sig := { parameters := [], returnType := some .boolean }, accessFlags := 1, code := some k3c5 }
def k3c6 : Code := { maxStack := 3, maxLocals := 1, code := prog_39_method_10_code, exceptionTable := #[], attributes := #[] }
def k3m6 : Method := { name := "checked", desc := "(I)I", sig := { parameters := [.int], returnType := some .int }, accessFlags := 10, code := some k3c6 }
/-- com/example/meridian/meridian/wire/Frame -/
def k3 : Class := { plain "com/example/meridian/meridian/wire/Frame" (some 2) with
  accessFlags := 49
  interfaces := #[]
  cf := some (fileOf pool3 16 #[] #[{ accessFlags := 1, nameIndex := 5, descriptorIndex := 37, attributes := #[] }, { accessFlags := 9, nameIndex := 90, descriptorIndex := 91, attributes := #[] }, { accessFlags := 9, nameIndex := 92, descriptorIndex := 93, attributes := #[] }, { accessFlags := 9, nameIndex := 94, descriptorIndex := 95, attributes := #[] }, { accessFlags := 9, nameIndex := 96, descriptorIndex := 95, attributes := #[] }, { accessFlags := 1, nameIndex := 97, descriptorIndex := 98, attributes := #[] }, { accessFlags := 10, nameIndex := 33, descriptorIndex := 34, attributes := #[] }] 49 2 #[] #[{ accessFlags := 18, nameIndex := 19, descriptorIndex := 20, attributes := #[] }, { accessFlags := 18, nameIndex := 23, descriptorIndex := 20, attributes := #[] }, { accessFlags := 18, nameIndex := 26, descriptorIndex := 27, attributes := #[] }, { accessFlags := 18, nameIndex := 8, descriptorIndex := 30, attributes := #[] }, { accessFlags := 25, nameIndex := 72, descriptorIndex := 73, attributes := #[] }, { accessFlags := 25, nameIndex := 76, descriptorIndex := 77, attributes := #[] }, { accessFlags := 25, nameIndex := 79, descriptorIndex := 77, attributes := #[] }, { accessFlags := 25, nameIndex := 81, descriptorIndex := 77, attributes := #[] }, { accessFlags := 25, nameIndex := 83, descriptorIndex := 77, attributes := #[] }, { accessFlags := 25, nameIndex := 85, descriptorIndex := 77, attributes := #[] }, { accessFlags := 26, nameIndex := 46, descriptorIndex := 30, attributes := #[] }])
  fields := #[{ name := "flags", type := .byte, accessFlags := 18, slot := 0, constantValue := 0 }, { name := "status", type := .byte, accessFlags := 18, slot := 1, constantValue := 0 }, { name := "id", type := .long, accessFlags := 18, slot := 2, constantValue := 0 }, { name := "body", type := (.array .byte), accessFlags := 18, slot := 3, constantValue := 0 }, { name := "MAGIC", type := .short, accessFlags := 25, slot := 0, constantValue := 0 }, { name := "HEADER_LENGTH", type := .int, accessFlags := 25, slot := 1, constantValue := 0 }, { name := "REQUEST", type := .int, accessFlags := 25, slot := 2, constantValue := 0 }, { name := "TWO_WAY", type := .int, accessFlags := 25, slot := 3, constantValue := 0 }, { name := "EVENT", type := .int, accessFlags := 25, slot := 4, constantValue := 0 }, { name := "SERIALIZER_MASK", type := .int, accessFlags := 25, slot := 5, constantValue := 0 }, { name := "NO_BODY", type := (.array .byte), accessFlags := 26, slot := 6, constantValue := 0 }]
  methods := #[k3m0, k3m1, k3m2, k3m3, k3m4, k3m5, k3m6]
  instanceTypes := #[.byte, .byte, .long, (.array .byte)]
  staticTypes := #[.short, .int, .int, .int, .int, .int, (.array .byte)]
  resolved := Array.replicate 140 none
  statics := some 0 }

def pool4 : Array CpInfo := pool [(1, .class_ 2), (0, u "java/io/Serializable"), (0, .class_ 4), (0, u "java/lang/Object")] 2

/-- java/io/Serializable -/
def k4 : Class := { plain "java/io/Serializable" (some 0) with
  accessFlags := 1537
  interfaces := #[]
  cf := some (fileOf pool4 1 #[] #[] 1537 3 #[] #[])
  fields := #[]
  methods := #[]
  instanceTypes := #[]
  staticTypes := #[]
  resolved := Array.replicate 7 none
  statics := none }

def pool5 : Array CpInfo := pool [(1, .class_ 2), (0, u "java/lang/Comparable"), (0, .class_ 4), (0, u "java/lang/Object")] 7

/-- java/lang/Comparable -/
def k5 : Class := { plain "java/lang/Comparable" (some 0) with
  accessFlags := 1537
  interfaces := #[]
  cf := some (fileOf pool5 1 #[] #[] 1537 3 #[] #[])
  fields := #[]
  methods := #[]
  instanceTypes := #[]
  staticTypes := #[]
  resolved := Array.replicate 12 none
  statics := none }

def pool6 : Array CpInfo := pool [(2, .class_ 4), (1, u "java/lang/CharSequence"), (42, .class_ 48), (0, u "java/lang/CharSequence$1CodePointIterator"), (10, .class_ 60), (0, u "java/lang/CharSequence$1CharIterator"), (5, .class_ 67), (0, u "java/lang/Object")] 63

/-- java/lang/CharSequence -/
def k6 : Class := { plain "java/lang/CharSequence" (some 0) with
  accessFlags := 1537
  interfaces := #[]
  cf := some (fileOf pool6 2 #[.nestMembers #[47, 59]] #[] 1537 66 #[] #[])
  fields := #[]
  methods := #[]
  instanceTypes := #[]
  staticTypes := #[]
  resolved := Array.replicate 131 none
  statics := none }

def pool7 : Array CpInfo := pool [(1, .class_ 2), (0, u "java/lang/constant/Constable"), (0, .class_ 4), (0, u "java/lang/Object")] 6

/-- java/lang/constant/Constable -/
def k7 : Class := { plain "java/lang/constant/Constable" (some 0) with
  accessFlags := 1537
  interfaces := #[]
  cf := some (fileOf pool7 1 #[] #[] 1537 3 #[] #[])
  fields := #[]
  methods := #[]
  instanceTypes := #[]
  staticTypes := #[]
  resolved := Array.replicate 11 none
  statics := none }

def pool8 : Array CpInfo := pool [(1, .class_ 2), (0, u "java/lang/constant/ConstantDesc"), (0, .class_ 4), (0, u "java/lang/Object")] 32

/-- java/lang/constant/ConstantDesc -/
def k8 : Class := { plain "java/lang/constant/ConstantDesc" (some 0) with
  accessFlags := 1537
  interfaces := #[]
  cf := some (fileOf pool8 1 #[] #[] 1537 3 #[] #[])
  fields := #[]
  methods := #[]
  instanceTypes := #[]
  staticTypes := #[]
  resolved := Array.replicate 37 none
  statics := none }

def pool9 : Array CpInfo := pool [(2, .class_ 4), (1, u "java/lang/Object"), (0, u "<init>"), (0, u "()V"), (3, .class_ 12), (1, u "java/lang/String"), (0, u "value"), (0, u "[B"), (2, u "coder"), (0, u "B"), (2, u "hash"), (0, u "I"), (2, u "hashIsZero"), (0, u "Z"), (13, u "COMPACT_STRINGS"), (534, .class_ 576), (0, u "java/lang/CharSequence"), (22, u "CASE_INSENSITIVE_ORDER"), (0, u "Ljava/util/Comparator;"), (500, u "serialPersistentFields"), (0, u "[Ljava/io/ObjectStreamField;"), (0, .class_ 1104), (0, u "java/lang/String$CaseInsensitiveComparator"), (1, .class_ 1107), (0, u "java/io/Serializable"), (0, .class_ 1109), (0, u "java/lang/Comparable"), (0, .class_ 1111), (0, u "java/lang/constant/Constable"), (0, .class_ 1113), (0, u "java/lang/constant/ConstantDesc"), (2, u "serialVersionUID"), (0, u "J"), (3, u "REPL"), (0, u "C"), (2, u "LATIN1"), (1, u "UTF16")] 323

def k9m0 : Method := { name := "<init>", desc := "()V", sig := { parameters := [], returnType := none }, accessFlags := 1, code := none }
/-- java/lang/String -/
def k9 : Class := { plain "java/lang/String" (some 0) with
  accessFlags := 49
  interfaces := #[4, 5, 6, 7, 8]
  cf := some (fileOf pool9 10 #[.nestMembers #[1103]] #[{ accessFlags := 1, nameIndex := 5, descriptorIndex := 6, attributes := #[] }] 49 2 #[1106, 1108, 575, 1110, 1112] #[{ accessFlags := 18, nameIndex := 13, descriptorIndex := 14, attributes := #[] }, { accessFlags := 18, nameIndex := 17, descriptorIndex := 18, attributes := #[] }, { accessFlags := 2, nameIndex := 21, descriptorIndex := 22, attributes := #[] }, { accessFlags := 2, nameIndex := 25, descriptorIndex := 26, attributes := #[] }, { accessFlags := 26, nameIndex := 1116, descriptorIndex := 1117, attributes := #[] }, { accessFlags := 24, nameIndex := 40, descriptorIndex := 26, attributes := #[] }, { accessFlags := 26, nameIndex := 1101, descriptorIndex := 1102, attributes := #[] }, { accessFlags := 26, nameIndex := 1121, descriptorIndex := 1122, attributes := #[] }, { accessFlags := 25, nameIndex := 599, descriptorIndex := 600, attributes := #[] }, { accessFlags := 24, nameIndex := 1125, descriptorIndex := 18, attributes := #[] }, { accessFlags := 24, nameIndex := 1127, descriptorIndex := 18, attributes := #[] }])
  fields := #[{ name := "value", type := (.array .byte), accessFlags := 18, slot := 0, constantValue := 0 }, { name := "coder", type := .byte, accessFlags := 18, slot := 1, constantValue := 0 }, { name := "hash", type := .int, accessFlags := 2, slot := 2, constantValue := 0 }, { name := "hashIsZero", type := .boolean, accessFlags := 2, slot := 3, constantValue := 0 }, { name := "serialVersionUID", type := .long, accessFlags := 26, slot := 0, constantValue := 0 }, { name := "COMPACT_STRINGS", type := .boolean, accessFlags := 24, slot := 1, constantValue := 0 }, { name := "serialPersistentFields", type := (.array (.object "java/io/ObjectStreamField")), accessFlags := 26, slot := 2, constantValue := 0 }, { name := "REPL", type := .char, accessFlags := 26, slot := 3, constantValue := 0 }, { name := "CASE_INSENSITIVE_ORDER", type := (.object "java/util/Comparator"), accessFlags := 25, slot := 4, constantValue := 0 }, { name := "LATIN1", type := .byte, accessFlags := 24, slot := 5, constantValue := 0 }, { name := "UTF16", type := .byte, accessFlags := 24, slot := 6, constantValue := 0 }]
  methods := #[k9m0]
  instanceTypes := #[(.array .byte), .byte, .int, .boolean]
  staticTypes := #[.long, .boolean, (.array (.object "java/io/ObjectStreamField")), .char, (.object "java/util/Comparator"), .byte, .byte]
  resolved := Array.replicate 1451 none
  statics := none }

def pool10 : Array CpInfo := pool [(2, .class_ 4), (1, u "java/lang/Object"), (0, u "<init>"), (0, u "()V"), (35, .class_ 44), (1, u "java/util/Objects"), (0, u "requireNonNull"), (48, u "(Ljava/lang/Object;Ljava/lang/String;)Ljava/lang/Object;")] 89

def k10m0 : Method := { name := "<init>", desc := "()V", sig := { parameters := [], returnType := none }, accessFlags := 2, code := none }
def k10c1 : Code := { maxStack := 3, maxLocals := 2, code := jdk_31_method_11_code, exceptionTable := #[], attributes := #[] }
def k10m1 : Method := { name := "requireNonNull", desc := "(Ljava/lang/Object;Ljava/lang/String;)Ljava/lang/Object;", sig := { parameters := [(.object "java/lang/Object"), (.object "java/lang/String")], returnType := some (.object "java/lang/Object") }, accessFlags := 9, code := some k10c1 }
/-- java/util/Objects -/
def k10 : Class := { plain "java/util/Objects" (some 0) with
  accessFlags := 49
  interfaces := #[]
  cf := some (fileOf pool10 42 #[] #[{ accessFlags := 2, nameIndex := 5, descriptorIndex := 6, attributes := #[] }, { accessFlags := 9, nameIndex := 45, descriptorIndex := 94, attributes := #[] }] 49 2 #[] #[])
  fields := #[]
  methods := #[k10m0, k10m1]
  instanceTypes := #[]
  staticTypes := #[]
  resolved := Array.replicate 184 none
  statics := none }

def pool11 : Array CpInfo := pool [(2, .class_ 4), (1, u "java/lang/Enum"), (0, u "name"), (0, u "Ljava/lang/String;"), (2, u "ordinal"), (0, u "I"), (1, .class_ 14), (1, u "java/lang/Object"), (4, u "hash"), (86, .class_ 108), (1, u "java/lang/Enum$EnumDesc"), (2, .class_ 112), (0, u "java/lang/constant/Constable"), (0, .class_ 114), (0, u "java/lang/Comparable"), (0, .class_ 116), (0, u "java/io/Serializable")] 87

/-- java/lang/Enum -/
def k11 : Class := { plain "java/lang/Enum" (some 0) with
  accessFlags := 1057
  interfaces := #[7, 5, 4]
  cf := some (fileOf pool11 2 #[.nestMembers #[106]] #[] 1057 12 #[111, 113, 115] #[{ accessFlags := 18, nameIndex := 5, descriptorIndex := 6, attributes := #[] }, { accessFlags := 18, nameIndex := 9, descriptorIndex := 10, attributes := #[] }, { accessFlags := 2, nameIndex := 19, descriptorIndex := 10, attributes := #[] }])
  fields := #[{ name := "name", type := (.object "java/lang/String"), accessFlags := 18, slot := 0, constantValue := 0 }, { name := "ordinal", type := .int, accessFlags := 18, slot := 1, constantValue := 0 }, { name := "hash", type := .int, accessFlags := 2, slot := 2, constantValue := 0 }]
  methods := #[]
  instanceTypes := #[(.object "java/lang/String"), .int, .int]
  staticTypes := #[]
  resolved := Array.replicate 204 none
  statics := none }

def pool12 : Array CpInfo := pool [(1, .class_ 2), (0, u "com/example/meridian/meridian/wire/Status"), (2, u "OK"), (0, u "Lcom/example/meridian/meridian/wire/Status;"), (2, u "METHOD_THREW"), (2, u "NO_SUCH_SERVICE"), (2, u "NO_SUCH_METHOD"), (2, u "BAD_REQUEST"), (2, u "SERVER_BUSY"), (2, u "SERVER_ERROR"), (2, u "$VALUES"), (0, u "[Lcom/example/meridian/meridian/wire/Status;"), (6, .class_ 37), (1, u "java/lang/Enum"), (6, .fieldref 1 45), (0, .nameAndType 46 47), (0, u "code"), (0, u "B"), (32, u "()B")] 23

def k12c0 : Code := { maxStack := 1, maxLocals := 1, code := prog_41_method_4_code, exceptionTable := #[], attributes := #[] }
def k12m0 : Method := { name := "code", desc := "()B", sig := { parameters := [], returnType := some .byte }, accessFlags := 1, code := some k12c0 }
/-- com/example/meridian/meridian/wire/Status -/
def k12 : Class := { plain "com/example/meridian/meridian/wire/Status" (some 11) with
  accessFlags := 16433
  interfaces := #[]
  cf := some (fileOf pool12 1 #[] #[{ accessFlags := 1, nameIndex := 46, descriptorIndex := 80, attributes := #[] }] 16433 35 #[] #[{ accessFlags := 16409, nameIndex := 5, descriptorIndex := 6, attributes := #[] }, { accessFlags := 16409, nameIndex := 9, descriptorIndex := 6, attributes := #[] }, { accessFlags := 16409, nameIndex := 12, descriptorIndex := 6, attributes := #[] }, { accessFlags := 16409, nameIndex := 15, descriptorIndex := 6, attributes := #[] }, { accessFlags := 16409, nameIndex := 18, descriptorIndex := 6, attributes := #[] }, { accessFlags := 16409, nameIndex := 21, descriptorIndex := 6, attributes := #[] }, { accessFlags := 16409, nameIndex := 24, descriptorIndex := 6, attributes := #[] }, { accessFlags := 18, nameIndex := 46, descriptorIndex := 47, attributes := #[] }, { accessFlags := 4122, nameIndex := 27, descriptorIndex := 28, attributes := #[] }])
  fields := #[{ name := "OK", type := (.object "com/example/meridian/meridian/wire/Status"), accessFlags := 16409, slot := 0, constantValue := 0 }, { name := "METHOD_THREW", type := (.object "com/example/meridian/meridian/wire/Status"), accessFlags := 16409, slot := 1, constantValue := 0 }, { name := "NO_SUCH_SERVICE", type := (.object "com/example/meridian/meridian/wire/Status"), accessFlags := 16409, slot := 2, constantValue := 0 }, { name := "NO_SUCH_METHOD", type := (.object "com/example/meridian/meridian/wire/Status"), accessFlags := 16409, slot := 3, constantValue := 0 }, { name := "BAD_REQUEST", type := (.object "com/example/meridian/meridian/wire/Status"), accessFlags := 16409, slot := 4, constantValue := 0 }, { name := "SERVER_BUSY", type := (.object "com/example/meridian/meridian/wire/Status"), accessFlags := 16409, slot := 5, constantValue := 0 }, { name := "SERVER_ERROR", type := (.object "com/example/meridian/meridian/wire/Status"), accessFlags := 16409, slot := 6, constantValue := 0 }, { name := "code", type := .byte, accessFlags := 18, slot := 3, constantValue := 0 }, { name := "$VALUES", type := (.array (.object "com/example/meridian/meridian/wire/Status")), accessFlags := 4122, slot := 7, constantValue := 0 }]
  methods := #[k12m0]
  instanceTypes := #[(.object "java/lang/String"), .int, .int, .byte]
  staticTypes := #[(.object "com/example/meridian/meridian/wire/Status"), (.object "com/example/meridian/meridian/wire/Status"), (.object "com/example/meridian/meridian/wire/Status"), (.object "com/example/meridian/meridian/wire/Status"), (.object "com/example/meridian/meridian/wire/Status"), (.object "com/example/meridian/meridian/wire/Status"), (.object "com/example/meridian/meridian/wire/Status"), (.array (.object "com/example/meridian/meridian/wire/Status"))]
  resolved := Array.replicate 104 none
  statics := some 1 }

def pool13 : Array CpInfo := pool [(1, u "java/lang/Cloneable"), (0, .class_ 1), (0, u "java/lang/Object"), (0, .class_ 3)] 3

/-- java/lang/Cloneable -/
def k13 : Class := { plain "java/lang/Cloneable" (some 0) with
  accessFlags := 1537
  interfaces := #[]
  cf := some (fileOf pool13 2 #[] #[] 1537 4 #[] #[])
  fields := #[]
  methods := #[]
  instanceTypes := #[]
  staticTypes := #[]
  resolved := Array.replicate 8 none
  statics := none }

/-- the primitive byte -/
def k14 : Class := { plain "byte" none with kind := .primitive 'B', accessFlags := 0x411 }
/-- [B -/
def k15 : Class := { plain "[B" (some 0) with kind := .array 14 .byte, interfaces := #[13, 4], accessFlags := 1041 }

/-- the primitive int -/
def k16 : Class := { plain "int" none with kind := .primitive 'I', accessFlags := 0x411 }
/-- [I -/
def k17 : Class := { plain "[I" (some 0) with kind := .array 16 .int, interfaces := #[13, 4], accessFlags := 1041 }

def heap : Heap := #[{ cls := 3, slots := #[.int 0, .int 0, .int 0, .int 0, .int 0, .int 0, .ref 4], vm := .statics 3 },
  { cls := 12, slots := #[.ref 3, .null, .null, .null, .null, .null, .ref 2, .null], vm := .statics 12 },
  { cls := 12, slots := #[.null, .int 6, .int 0, .int 6], vm := .none },
  { cls := 12, slots := #[.null, .int 0, .int 0, .int 0], vm := .none },
  { cls := 15, slots := #[], vm := .none }]
def classes : Array Class := #[k0, k1, k2, k3, k4, k5, k6, k7, k8, k9, k10, k11, k12, k13, k14, k15, k16, k17]
def interned : List (Array UInt16 × Addr) := []
def slotsUsed : Nat := 23
def theMethod : MethodId := ⟨1, 1⟩
def args0 : Array Value := #[.int 5, .int 7, .long 9, .int 2]
def aboutOver (below : List Frame) : State where
  vm := { classes := classes, interned := interned.toArray }
  heap := heap
  slotsUsed := slotsUsed
  threads := #[{ frames := .invoking theMethod args0 :: below }]
def below0 : List Frame := [.native { method := ⟨0, 0⟩, args := #[] }]
def about1 : State := aboutOver below0
def p0 : Program := .bare "" "" ""
def e0 : Env := launch0.env 0 0 0
theorem w_frames : about1.frames = Frame.invoking theMethod args0 :: below0 := rfl
set_option maxRecDepth 65536 in
theorem w_args : argsFit about1.vm theMethod args0 = true := by decide +kernel
set_option maxRecDepth 65536 in
theorem w_heap : heapFits about1 = true := by decide +kernel
set_option maxRecDepth 65536 in
theorem w_runnable : about1.curStatus? = some .runnable := by decide +kernel
set_option maxRecDepth 65536 in
theorem w_alone : about1.alone = true := by decide +kernel
set_option maxRecDepth 65536 in
theorem w_named : about1.methodNamed? x = some theMethod := by decide +kernel
set_option maxRecDepth 65536 in
theorem w_hears : about1.hears theMethod below0 = true := by decide +kernel
set_option maxRecDepth 65536 in
theorem w_ripe : about1.ripe theMethod args0 below0 = true := by decide +kernel
theorem w_running : about1.status = .running := rfl
set_option maxRecDepth 65536 in
theorem w_room : about1.hasRoom e0.platform room_1 = true :=
  launch0.hasRoom_least _ room_1 (by decide +kernel) (by decide +kernel) (by decide +kernel) (by decide +kernel) (by decide +kernel) (by decide +kernel)
theorem allAtoms_all (ts : List Jvm.Cond) (a : Array Jvm.Value) (st : Jvm.State) : (allAtoms ts).before a st = ts.all (fun c => c.before a st) := by
  induction ts with
  | nil => rfl
  | cons c t ih =>
    show (Jvm.Cond.and c (allAtoms t)).before a st = _
    rw [Jvm.Cond.before_and, ih, List.all_cons]
def words1 : List Jvm.Cond := Jvm.Cond.code x code maxLocals ret :: tables_1
/-- a 'code' word, met by the world's own term for the bytes: nothing is compared byte by byte -/
theorem code_word {y : MethodName} {bytes : ByteArray} {mx : Nat} {rt : Option FieldType} {a : Array Value} {s : State} {m : MethodId} {meth : Method} {c : Code} (h1 : s.methodNamed? y = some m) (h2 : s.vm.method? m = some meth) (h3 : meth.code = some c) (h4 : c.code = bytes)
    (h5 : (c.maxLocals == mx && c.exceptionTable.isEmpty && decide (c.maxStack ≤ mostOperands) && decide (meth.sig.returnType = rt) && !meth.locks && decide (parseMethodDescriptor y.desc = some meth.sig)) = true) : (Jvm.Cond.code y bytes mx rt).before a s = true := by
  simp only [Bool.and_eq_true, beq_iff_eq, Bool.not_eq_true', decide_eq_true_eq] at h5
  obtain ⟨⟨⟨⟨⟨g1, g2⟩, g3⟩, g4⟩, g5⟩, g6⟩ := h5
  simp [Cond.before, Cond.holds, Cond.value, h1, h2, h3, h4, g1, g2, g3, g4, g5, g6]
def isCode : Jvm.Cond → Bool
  | .code _ _ _ _ => true
  | _ => false
theorem all_split {L : List Jvm.Cond} {P : Jvm.Cond → Bool} (h1 : L.all (fun c => isCode c || P c) = true) (h2 : ∀ c ∈ L.filter isCode, P c = true) : L.all P = true := by
  refine List.all_eq_true.mpr fun c hc => ?_
  have h := List.all_eq_true.mp h1 c hc
  rcases Bool.eq_false_or_eq_true (isCode c) with hi | hi
  · exact h2 c (List.mem_filter.mpr ⟨hc, hi⟩)
  · simpa [hi] using h
set_option maxRecDepth 65536 in
theorem w_c0 : (Jvm.Cond.code x code maxLocals ret).before args0 about1 = true := code_word (m := ⟨1, 1⟩) (meth := k1m1) (c := k1c1) (by decide +kernel) rfl rfl rfl (by decide +kernel)
set_option maxRecDepth 65536 in
theorem w_c1 : (Jvm.Cond.code ({ cls := "com/example/meridian/meridian/wire/Frame", name := "<init>", desc := "(BBJ[B)V" } : Jvm.MethodName) prog_39_method_1_code (6 : Nat) (Option.none : Option Jvm.ClassFile.FieldType)).before args0 about1 = true := code_word (m := ⟨3, 0⟩) (meth := k3m0) (c := k3c0) (by decide +kernel) rfl rfl rfl (by decide +kernel)
set_option maxRecDepth 65536 in
theorem w_c2 : (Jvm.Cond.code ({ cls := "java/lang/Record", name := "<init>", desc := "()V" } : Jvm.MethodName) jdk_30_method_1_code (1 : Nat) (Option.none : Option Jvm.ClassFile.FieldType)).before args0 about1 = true := code_word (m := ⟨2, 0⟩) (meth := k2m0) (c := k2c0) (by decide +kernel) rfl rfl rfl (by decide +kernel)
set_option maxRecDepth 65536 in
theorem w_c3 : (Jvm.Cond.code ({ cls := "java/lang/Object", name := "<init>", desc := "()V" } : Jvm.MethodName) object_method_1_code (1 : Nat) (Option.none : Option Jvm.ClassFile.FieldType)).before args0 about1 = true := code_word (m := ⟨0, 0⟩) (meth := k0m0) (c := k0c0) (by decide +kernel) rfl rfl rfl (by decide +kernel)
set_option maxRecDepth 65536 in
theorem w_c4 : (Jvm.Cond.code ({ cls := "java/util/Objects", name := "requireNonNull", desc := "(Ljava/lang/Object;Ljava/lang/String;)Ljava/lang/Object;" } : Jvm.MethodName) jdk_31_method_11_code (2 : Nat) (Option.some (Jvm.ClassFile.FieldType.object "java/lang/Object"))).before args0 about1 = true := code_word (m := ⟨10, 1⟩) (meth := k10m1) (c := k10c1) (by decide +kernel) rfl rfl rfl (by decide +kernel)
set_option maxRecDepth 65536 in
theorem w_c5 : (Jvm.Cond.code ({ cls := "com/example/meridian/meridian/wire/Frame", name := "isRequest", desc := "()Z" } : Jvm.MethodName) prog_39_method_6_code (1 : Nat) (Option.some Jvm.ClassFile.FieldType.boolean)).before args0 about1 = true := code_word (m := ⟨3, 5⟩) (meth := k3m5) (c := k3c5) (by decide +kernel) rfl rfl rfl (by decide +kernel)
set_option maxRecDepth 65536 in
theorem w_c6 : (Jvm.Cond.code ({ cls := "com/example/meridian/meridian/wire/Frame", name := "request", desc := "(JI[B)Lcom/example/meridian/meridian/wire/Frame;" } : Jvm.MethodName) prog_39_method_2_code (4 : Nat) (Option.some (Jvm.ClassFile.FieldType.object "com/example/meridian/meridian/wire/Frame"))).before args0 about1 = true := code_word (m := ⟨3, 1⟩) (meth := k3m1) (c := k3c1) (by decide +kernel) rfl rfl rfl (by decide +kernel)
set_option maxRecDepth 65536 in
theorem w_c7 : (Jvm.Cond.code ({ cls := "com/example/meridian/meridian/wire/Frame", name := "checked", desc := "(I)I" } : Jvm.MethodName) prog_39_method_10_code (1 : Nat) (Option.some Jvm.ClassFile.FieldType.int)).before args0 about1 = true := code_word (m := ⟨3, 6⟩) (meth := k3m6) (c := k3c6) (by decide +kernel) rfl rfl rfl (by decide +kernel)
set_option maxRecDepth 65536 in
theorem w_c8 : (Jvm.Cond.code ({ cls := "com/example/meridian/meridian/wire/Frame", name := "response", desc := "(JILcom/example/meridian/meridian/wire/Status;[B)Lcom/example/meridian/meridian/wire/Frame;" } : Jvm.MethodName) prog_39_method_3_code (5 : Nat) (Option.some (Jvm.ClassFile.FieldType.object "com/example/meridian/meridian/wire/Frame"))).before args0 about1 = true := code_word (m := ⟨3, 2⟩) (meth := k3m2) (c := k3c2) (by decide +kernel) rfl rfl rfl (by decide +kernel)
set_option maxRecDepth 65536 in
theorem w_c9 : (Jvm.Cond.code ({ cls := "com/example/meridian/meridian/wire/Status", name := "code", desc := "()B" } : Jvm.MethodName) prog_41_method_4_code (1 : Nat) (Option.some Jvm.ClassFile.FieldType.byte)).before args0 about1 = true := code_word (m := ⟨12, 0⟩) (meth := k12m0) (c := k12c0) (by decide +kernel) rfl rfl rfl (by decide +kernel)
set_option maxRecDepth 65536 in
theorem w_c10 : (Jvm.Cond.code ({ cls := "com/example/meridian/meridian/wire/Frame", name := "heartbeat", desc := "(JI)Lcom/example/meridian/meridian/wire/Frame;" } : Jvm.MethodName) prog_39_method_4_code (3 : Nat) (Option.some (Jvm.ClassFile.FieldType.object "com/example/meridian/meridian/wire/Frame"))).before args0 about1 = true := code_word (m := ⟨3, 3⟩) (meth := k3m3) (c := k3c3) (by decide +kernel) rfl rfl rfl (by decide +kernel)
set_option maxRecDepth 65536 in
theorem w_c11 : (Jvm.Cond.code ({ cls := "com/example/meridian/meridian/wire/Frame", name := "heartbeatResponse", desc := "(JI)Lcom/example/meridian/meridian/wire/Frame;" } : Jvm.MethodName) prog_39_method_5_code (3 : Nat) (Option.some (Jvm.ClassFile.FieldType.object "com/example/meridian/meridian/wire/Frame"))).before args0 about1 = true := code_word (m := ⟨3, 4⟩) (meth := k3m4) (c := k3c4) (by decide +kernel) rfl rfl rfl (by decide +kernel)
def codes1 : List Jvm.Cond := [Jvm.Cond.code x code maxLocals ret, Jvm.Cond.code ({ cls := "com/example/meridian/meridian/wire/Frame", name := "<init>", desc := "(BBJ[B)V" } : Jvm.MethodName) prog_39_method_1_code (6 : Nat) (Option.none : Option Jvm.ClassFile.FieldType), Jvm.Cond.code ({ cls := "java/lang/Record", name := "<init>", desc := "()V" } : Jvm.MethodName) jdk_30_method_1_code (1 : Nat) (Option.none : Option Jvm.ClassFile.FieldType), Jvm.Cond.code ({ cls := "java/lang/Object", name := "<init>", desc := "()V" } : Jvm.MethodName) object_method_1_code (1 : Nat) (Option.none : Option Jvm.ClassFile.FieldType), Jvm.Cond.code ({ cls := "java/util/Objects", name := "requireNonNull", desc := "(Ljava/lang/Object;Ljava/lang/String;)Ljava/lang/Object;" } : Jvm.MethodName) jdk_31_method_11_code (2 : Nat) (Option.some (Jvm.ClassFile.FieldType.object "java/lang/Object")), Jvm.Cond.code ({ cls := "com/example/meridian/meridian/wire/Frame", name := "isRequest", desc := "()Z" } : Jvm.MethodName) prog_39_method_6_code (1 : Nat) (Option.some Jvm.ClassFile.FieldType.boolean), Jvm.Cond.code ({ cls := "com/example/meridian/meridian/wire/Frame", name := "request", desc := "(JI[B)Lcom/example/meridian/meridian/wire/Frame;" } : Jvm.MethodName) prog_39_method_2_code (4 : Nat) (Option.some (Jvm.ClassFile.FieldType.object "com/example/meridian/meridian/wire/Frame")), Jvm.Cond.code ({ cls := "com/example/meridian/meridian/wire/Frame", name := "checked", desc := "(I)I" } : Jvm.MethodName) prog_39_method_10_code (1 : Nat) (Option.some Jvm.ClassFile.FieldType.int), Jvm.Cond.code ({ cls := "com/example/meridian/meridian/wire/Frame", name := "response", desc := "(JILcom/example/meridian/meridian/wire/Status;[B)Lcom/example/meridian/meridian/wire/Frame;" } : Jvm.MethodName) prog_39_method_3_code (5 : Nat) (Option.some (Jvm.ClassFile.FieldType.object "com/example/meridian/meridian/wire/Frame")), Jvm.Cond.code ({ cls := "com/example/meridian/meridian/wire/Status", name := "code", desc := "()B" } : Jvm.MethodName) prog_41_method_4_code (1 : Nat) (Option.some Jvm.ClassFile.FieldType.byte), Jvm.Cond.code ({ cls := "com/example/meridian/meridian/wire/Frame", name := "heartbeat", desc := "(JI)Lcom/example/meridian/meridian/wire/Frame;" } : Jvm.MethodName) prog_39_method_4_code (3 : Nat) (Option.some (Jvm.ClassFile.FieldType.object "com/example/meridian/meridian/wire/Frame")), Jvm.Cond.code ({ cls := "com/example/meridian/meridian/wire/Frame", name := "heartbeatResponse", desc := "(JI)Lcom/example/meridian/meridian/wire/Frame;" } : Jvm.MethodName) prog_39_method_5_code (3 : Nat) (Option.some (Jvm.ClassFile.FieldType.object "com/example/meridian/meridian/wire/Frame"))]
set_option maxRecDepth 65536 in
theorem codes_eq : words1.filter isCode = codes1 := rfl
theorem w_codes : ∀ c ∈ words1.filter isCode, c.before args0 about1 = true := by
  rw [codes_eq]
  intro c hc
  simp only [codes1, List.mem_cons, List.not_mem_nil, or_false] at hc
  rcases hc with rfl | rfl | rfl | rfl | rfl | rfl | rfl | rfl | rfl | rfl | rfl | rfl
  · exact w_c0
  · exact w_c1
  · exact w_c2
  · exact w_c3
  · exact w_c4
  · exact w_c5
  · exact w_c6
  · exact w_c7
  · exact w_c8
  · exact w_c9
  · exact w_c10
  · exact w_c11
set_option maxRecDepth 65536 in
theorem w_t1 : (words1.take 24).all (fun c => isCode c || c.before args0 about1) = true := by decide +kernel
set_option maxRecDepth 65536 in
theorem w_t2 : ((words1.drop 24).take 24).all (fun c => isCode c || c.before args0 about1) = true := by decide +kernel
set_option maxRecDepth 65536 in
theorem w_t3 : ((words1.drop 24).drop 24).all (fun c => isCode c || c.before args0 about1) = true := by decide +kernel
theorem w_tables : (allAtoms (Jvm.Cond.code x code maxLocals ret :: tables_1)).before args0 about1 = true := by
  rw [allAtoms_all]
  show words1.all (fun c => c.before args0 about1) = true
  refine all_split ?_ w_codes
  rw [← List.take_append_drop 24 words1, List.all_append, w_t1, ← List.take_append_drop 24 (words1.drop 24), List.all_append, w_t2, w_t3]
  rfl
set_option maxRecDepth 65536 in
theorem w_case : (Jvm.Cond.and given_1 narrow_1).before args0 about1 = true := by decide +kernel
theorem w_applies : (headSpec (Jvm.Cond.code x code maxLocals ret :: tables_1) room_1).applies x e0.platform about1 = true :=
  (Spec.applies_iff w_frames).mpr ⟨w_running, w_runnable, w_alone, w_named, w_hears, w_ripe, w_room, w_tables⟩
theorem atStart : AtStart classFile x code maxLocals ret World_1 tables_1 room_1 Calls_1 rest_1 Pre_1 launch0 p0 e0 about1 theMethod args0 below0 :=
  ⟨lists_1, trivial, launch0.admits_env _ _ _, launch0.least_env, fairChoices_fair.cas, fairChoices_fair.clock, w_frames, w_args, w_heap, w_applies, trivial, trivial, w_case⟩
end start1
theorem witness_1 : WitnessClaimed_1 := ⟨start1.p0, start1.e0, start1.about1, start1.theMethod, start1.args0, start1.below0, start1.atStart⟩
end Jvm.Pilot.@@N@@
