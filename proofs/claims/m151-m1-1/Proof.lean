import JvmDerived
import JvmDerived.Pilot.@@N@@Statement
import JvmDerived.Pilot.@@N@@Code
set_option linter.unusedVariables false
set_option linter.unusedSimpArgs false
namespace Jvm.OwnW
open Sem ClassFile Op Lib Jvm.Stand Jvm.Free Jvm.LawKit Jvm.RoadKit
section Base
variable {p : Program} {l : Launch} {e : Env} {R : Room} {s : State} {m : MethodId} {args : Array Value} {below : List Frame} {meth : Method} {c : Code} {T : State} {locs : List Loc} {cells slots : Nat} {Z : State} {h h' : Heap} {a b : Addr} {ty : FieldType} {vs : List Value} {v : Value} {sl : Nat} {ws : List Addr}
variable {Q : Option Value → Heap → List Loc → Prop} {En : Outcome → State → List Loc → Prop} {kc ks : Nat} {U U' : State}
/-- from U the body comes to its end; what it leaves is Q, its frame En -/
def Wq (p : Program) (e : Env) (below : List Frame) (En : Outcome → State → List Loc → Prop) (Q : Option Value → Heap → List Loc → Prop) (U : State) : Prop :=
  ∃ s₂ o, Steps p.tables e below U s₂ ∧ s₂.status = .running ∧ Ended s₂ below o ∧ ∃ v L, o = .returned v ∧ Q v s₂.heap L ∧ En o s₂ L
theorem Wq.step (h1 : ∀ t, Steps p.tables e below U' t → Steps p.tables e below U t) (k : Wq p e below En Q U') : Wq p e below En Q U := by
  obtain ⟨s₂, o, q, r⟩ := k; exact ⟨s₂, o, h1 _ q, r⟩
theorem Wq.steps (h1 : Steps p.tables e below U U') (k : Wq p e below En Q U') : Wq p e below En Q U := by
  obtain ⟨s₂, o, q, r⟩ := k; exact ⟨s₂, o, h1.trans q, r⟩
theorem Wq.by (k1 : Wq p e below En Q U' → Wq p e below En Q U) (k : Wq p e below En Q U') : Wq p e below En Q U := k1 k
theorem Wq.ret {rv : Option Value} {g : JFrame} (X : Stand p l e R s m args below meth c T locs cells slots) (hlk : meth.locks = false) (hv : meth.sig.returnType = none → rv = none)
    (st : ∀ fs, (∀ (f : JFrame) (acts : List Action), f.method = m → f.locked = none → f.entered = [] → (doReturn e (T.setTop f) acts rv).1 = T.setFrames fs) → Steps p.tables e below (T.setTop g) (T.setFrames fs))
    (hc : cells ≤ kc) (hs : slots ≤ ks) (hQ : Q rv T.heap locs) : Wq p e below (fun o t L => FrameEnd s o t L kc ks) Q (T.setTop g) := by
  obtain ⟨fs, hr, hrun, hended, hW, hsame⟩ := X.leave (v := rv) hv hlk
  exact ⟨_, _, st fs hr, hrun, hended, rv, locs, rfl, hQ, ⟨rv, rfl⟩, hW, hsame.mono hc hs⟩
/-- the same for a body that may load a String constant for the first time -/
theorem Wq.retW {rv : Option Value} {g : JFrame} {vm₁ : Vm} {n : Nat} (X : Stand p l e R (s.setVm vm₁) m args below meth c T locs cells slots) (hS : s.Since vm₁ n) (hn : n ≤ T.heap.size) (hlk : meth.locks = false) (hv : meth.sig.returnType = none → rv = none)
    (st : ∀ fs, (∀ (f : JFrame) (acts : List Action), f.method = m → f.locked = none → f.entered = [] → (doReturn e (T.setTop f) acts rv).1 = T.setFrames fs) → Steps p.tables e below (T.setTop g) (T.setFrames fs))
    (hc : cells ≤ kc) (hs : slots ≤ ks) (hQ : Q rv T.heap locs) : Wq p e below (fun o t L => ReturnedEndW s o t L kc ks) Q (T.setTop g) := by
  obtain ⟨fs, hr, hrun, hended, w1, w2, w3, w4⟩ := X.leaveW hS hn (v := rv) hv hlk
  exact ⟨_, _, st fs hr, hrun, hended, rv, locs, rfl, hQ, ⟨rv, rfl⟩, w2, w3, w4.mono hc hs⟩
/-- an array and the whole list of what it holds -/
def Al (Z : State) (h : Heap) (a : Addr) (ty : FieldType) (vs : List Value) : Prop := ∃ cl : Cell, Arr Z h a cl ty ∧ cl.slots.toList = vs
theorem Al.lt (V : Al Z h a ty vs) : a < h.size := by obtain ⟨cl, A, -⟩ := V; exact A.lt
theorem Al.ext (V : Al Z h a ty vs) (E : Ext h h') : Al Z h' a ty vs := by obtain ⟨cl, A, r⟩ := V; exact ⟨cl, A.ext E, r⟩
theorem Al.other (V : Al Z h b ty vs) (W : Wr h h' a sl v) (q : b ≠ a) : Al Z h' b ty vs := by obtain ⟨cl, A, r⟩ := V; exact ⟨cl, A.other W q, r⟩
theorem Al.keep (V : Al Z h a ty vs) (K : Keep h h' ws) (q : a ∉ ws) : Al Z h' a ty vs := by obtain ⟨cl, A, r⟩ := V; exact ⟨cl, ⟨K.2.1 a cl A.1 q, A.2⟩, r⟩
theorem Al.new {cA : ClassId} {n : Int32} {k : Nat} {dv : Value} (A : Arr Z h a (newA cA ty n) ty) (hk : n.toNatClampNeg = k) (hd : defaultValue ty = dv) : Al Z h a ty (List.replicate k dv) := ⟨_, A, by subst hk hd; simp [newA]⟩
theorem Al.set (V : Al Z h a ty vs) (W : Wr h h' a sl v) : Al Z h' a ty (vs.set sl v) := by
  obtain ⟨cl, A, rfl⟩ := V
  exact ⟨_, A.same W, by simp [Cell.setSlot]⟩
theorem Sta.keepN {C n d : String} {v : Value} (F : Sta Z h C n d v) (K : Keep h h' ws) (q : ∀ w ∈ ws, ∀ cell : Cell, h[w]? = some cell → cell.vm.isStatics = false) : Sta Z h' C n d v := by
  obtain ⟨cf, i, k, f, st, cell, h1, h2, h3, h4, h5, h6, h7⟩ := F
  exact ⟨cf, i, k, f, st, cell, h1, h2, h3, h4, K.2.1 _ _ h5 (fun hm => by rw [q st hm cell h5] at h6; cases h6), h6, h7⟩
theorem fldI {t : Term} {C n d : String} {k : Int32} (hx : (Cond.eq (.field t C n d) (.int k)).value args s none s [] = some true) (ev : t.eval args s none [] s = some (.ref a)) : Fld s s.heap a C n d (.int k) := by
  refine Fld.start ?_
  have e1 := fld_at (C := C) (n := n) (dd := d) ev
  obtain ⟨x, y, h1, h2, k1, k2⟩ := cmp_v (Or.inl hx)
  rw [Term.int_eval] at h2
  cases h2
  rw [e1] at h1
  cases x <;> simp only [Kin] at k2 <;> first | (obtain ⟨z, hz⟩ := k2; cases hz) | skip
  have q := gotT (Cond.eq_ints (e1.trans h1) (Term.int_eval k)) hx
  rw [h1, q]
theorem fldJ {t : Term} {C n d : String} {k : Int64} (hx : (Cond.eq (.field t C n d) (.long k)).value args s none s [] = some true) (ev : t.eval args s none [] s = some (.ref a)) : Fld s s.heap a C n d (.long k) := by
  refine Fld.start ?_
  have e1 := fld_at (C := C) (n := n) (dd := d) ev
  obtain ⟨x, y, h1, h2, k1, k2⟩ := cmp_v (Or.inl hx)
  rw [long_at] at h2
  cases h2
  rw [e1] at h1
  cases x <;> simp only [Kin] at k2 <;> first | (obtain ⟨z, hz⟩ := k2; cases hz) | skip
  have q := gotT (eq_L (e1.trans h1) (long_at k)) hx
  rw [h1, q]
theorem Exa.ns {C : String} (F : Exa Z h a C) : ∀ cell : Cell, h[a]? = some cell → cell.vm.isStatics = false := by
  obtain ⟨c1, k, h1, h2, h3, h4, h5⟩ := F
  intro cell hc; cases h1.symm.trans hc; exact h4
theorem Al.ns (V : Al Z h a ty vs) : ∀ cell : Cell, h[a]? = some cell → cell.vm.isStatics = false := by
  obtain ⟨cl, A, -⟩ := V
  intro cell hc; cases A.1.symm.trans hc; exact A.plain
theorem clA (X : Stand p l e R s m args below meth c T locs cells slots) (hx : p.tables.exec = Jvm.exec) (hZ : Z.Warmed39 s.vm) {a0 : Array Value} {own ad : String} {index : Nat} (hown : s.vm.findClass own = some m.cls)
    (w1 : (Cond.methodLink own index ⟨ad, "clone", "()Ljava/lang/Object;"⟩).before a0 Z = true) (w2 : (Cond.sameMethod ad "java/lang/Object" "clone" "()Ljava/lang/Object;").before a0 Z = true) (w3 : (Cond.native ⟨"java/lang/Object", "clone", "()Ljava/lang/Object;"⟩).before a0 Z = true)
    (w4 : (Cond.instanceMethod ⟨"java/lang/Object", "clone", "()Ljava/lang/Object;"⟩).before a0 Z = true) (w5 : (Cond.selects ad ⟨ad, "clone", "()Ljava/lang/Object;"⟩ ⟨"java/lang/Object", "clone", "()Ljava/lang/Object;"⟩).before a0 Z = true) (w6 : (Cond.castable ad "java/lang/Cloneable").before a0 Z = true)
    (eT : T.heap = h) (V : Al Z h a ty vs) (E : Exa Z h a ad) (F : ∀ v ∈ vs, fits ty v = true) {g : JFrame} (hg : g.method = m) (hsize : g.locals.size = c.maxLocals) {rest : List Value} (hst : g.stack = .ref a :: rest) (hd : decode c.code g.pc = .ok (.invokevirtual index, 3))
    (hf : 1 ≤ R.frames) {W cap : Nat} (hW : 2 * g.monitorRoom + (rest.map fun v => v.category).sum ≤ W) (hl : W + 14 ≤ R.locals) (hcap : vs.length ≤ cap) (hc : cells + 1 ≤ R.cells) (hsl : slots + cap ≤ R.slots) :
    ∃ T' h', Stand p l e R s m args below meth c T' locs (cells + 1) (slots + cap) ∧ T'.heap = h' ∧ Ext h h' ∧ Al Z h' h.size ty vs ∧ Exa Z h' h.size ad ∧
      ∀ target, Steps p.tables e below (T'.setTop { g with pc := g.pc + 3, stack := .ref h.size :: rest }) target → Steps p.tables e below (T.setTop g) target := by
  obtain ⟨cl, A, r⟩ := V
  have FC : FitC Z cl := fitC_of A fun i hi v hv => F v (by rw [← r]; exact Array.mem_toList_iff.mpr (Array.mem_of_getElem? hv))
  obtain ⟨T', h', X', e', ex, A', E', st⟩ := cloneA X hx hZ hown w1 w2 w3 w4 w5 w6 eT A E FC hg hsize hst hd hf hW hl (by rw [← Array.length_toList, r]; exact hcap) hc hsl
  exact ⟨T', h', X', e', ex, ⟨_, A', r⟩, E', st⟩
theorem selPriv {a0 : Array Value} {y : MethodName} {k : Nat} (hZ : Z.Warmed39 s.vm) (wi : (Cond.instantiable y.cls k).before a0 Z = true) (wp : (Cond.privateMethod y).before a0 Z = true) (wm : (Cond.instanceMethod y).before a0 Z = true) (hy : y.cls ≠ "java/lang/invoke/MethodHandle" ∧ y.cls ≠ "java/lang/invoke/VarHandle") : (Cond.selects y.cls y y).before args s = true := by
  obtain ⟨c, k, h1, h2, -, h4, -⟩ := Cond.instantiable_spec (mv (args := args) hZ wi)
  simp only [Bool.or_eq_false_iff] at h4
  exact Jvm.Stand.selects_self_of_private h1 h2 h4.1 (Cond.privateMethod_at (mvP hZ wp (args := args))) (mv hZ wm) hy
theorem al_in {cl : Cell} {j : Int32} {i : Nat} (hvs : cl.slots.toList = vs) (hj : ¬ j < 0) (hi : j.toNatClampNeg = i) (hl : i < vs.length) : ¬ (j < 0 ∨ cl.slots.size ≤ j.toNatClampNeg) := by
  subst hvs hi
  rintro (q | q)
  · exact hj q
  · simp only [Array.length_toList] at hl; omega
theorem al_at {cl : Cell} {j : Int32} {i : Nat} (hvs : cl.slots.toList = vs) (hi : j.toNatClampNeg = i) (hv : vs[i]? = some v) : cl.slots[j.toNatClampNeg]? = some v := by
  subst hvs hi; simpa using hv
theorem al_lt {i : Nat} (hv : vs[i]? = some v) : i < vs.length := (List.getElem?_eq_some_iff.mp hv).1
theorem ldI (X : Stand p l e R s m args below meth c T locs cells slots) (hx : p.tables.exec = Jvm.exec) (hZ : Z.Warmed39 s.vm) (eT : T.heap = h) (V : Al Z h a .int vs) {j : Int32} {i : Nat} (hj : ¬ j < 0) (hi : j.toNatClampNeg = i) (hv : vs[i]? = some v) {g : JFrame} (hg : g.method = m) {rest : List Value} (hs : g.stack = .int j :: .ref a :: rest) (hd : decode c.code g.pc = .ok (.iaload, 1)) {target : State}
    (k : Steps p.tables e below (T.setTop { g with pc := g.pc + 1, stack := v :: rest }) target) : Steps p.tables e below (T.setTop g) target := by
  obtain ⟨cl, A, r⟩ := V
  exact X.iaload hx (by rw [eT]; exact A.1) (State.isArrayOf_alike hZ.alike A.2.1) A.2.2 (al_in r hj hi (al_lt hv)) (al_at r hi hv) hg hs hd _ k
theorem ldJ (X : Stand p l e R s m args below meth c T locs cells slots) (hx : p.tables.exec = Jvm.exec) (hZ : Z.Warmed39 s.vm) (eT : T.heap = h) (V : Al Z h a .long vs) {j : Int32} {i : Nat} (hj : ¬ j < 0) (hi : j.toNatClampNeg = i) (hv : vs[i]? = some v) {g : JFrame} (hg : g.method = m) {rest : List Value} (hs : g.stack = .int j :: .ref a :: rest) (hd : decode c.code g.pc = .ok (.laload, 1)) {target : State}
    (k : Steps p.tables e below (T.setTop { g with pc := g.pc + 1, stack := v :: rest }) target) : Steps p.tables e below (T.setTop g) target := by
  obtain ⟨cl, A, r⟩ := V
  exact X.laload hx (by rw [eT]; exact A.1) (State.isArrayOf_alike hZ.alike A.2.1) A.2.2 (al_in r hj hi (al_lt hv)) (al_at r hi hv) hg hs hd _ k
theorem ldC (X : Stand p l e R s m args below meth c T locs cells slots) (hx : p.tables.exec = Jvm.exec) (hZ : Z.Warmed39 s.vm) (eT : T.heap = h) (V : Al Z h a .char vs) {j : Int32} {i : Nat} (hj : ¬ j < 0) (hi : j.toNatClampNeg = i) (hv : vs[i]? = some v) {g : JFrame} (hg : g.method = m) {rest : List Value} (hs : g.stack = .int j :: .ref a :: rest) (hd : decode c.code g.pc = .ok (.caload, 1)) {target : State}
    (k : Steps p.tables e below (T.setTop { g with pc := g.pc + 1, stack := v :: rest }) target) : Steps p.tables e below (T.setTop g) target := by
  obtain ⟨cl, A, r⟩ := V
  exact X.caload hx (by rw [eT]; exact A.1) (State.isArrayOf_alike hZ.alike A.2.1) A.2.2 (al_in r hj hi (al_lt hv)) (al_at r hi hv) hg hs hd _ k
theorem ldB (X : Stand p l e R s m args below meth c T locs cells slots) (hx : p.tables.exec = Jvm.exec) (hZ : Z.Warmed39 s.vm) (eT : T.heap = h) (V : Al Z h a .byte vs) {j : Int32} {i : Nat} (hj : ¬ j < 0) (hi : j.toNatClampNeg = i) (hv : vs[i]? = some v) {g : JFrame} (hg : g.method = m) {rest : List Value} (hs : g.stack = .int j :: .ref a :: rest) (hd : decode c.code g.pc = .ok (.baload, 1)) {target : State}
    (k : Steps p.tables e below (T.setTop { g with pc := g.pc + 1, stack := v :: rest }) target) : Steps p.tables e below (T.setTop g) target := by
  obtain ⟨cl, A, r⟩ := V
  exact X.baloadBytes hx (by rw [eT]; exact A.1) (State.isArrayOf_alike hZ.alike A.2.1) A.2.2 (al_in r hj hi (al_lt hv)) (al_at r hi hv) hg hs hd _ k
theorem ldZ (X : Stand p l e R s m args below meth c T locs cells slots) (hx : p.tables.exec = Jvm.exec) (hZ : Z.Warmed39 s.vm) (eT : T.heap = h) (V : Al Z h a .boolean vs) {j : Int32} {i : Nat} (hj : ¬ j < 0) (hi : j.toNatClampNeg = i) (hv : vs[i]? = some v) {g : JFrame} (hg : g.method = m) {rest : List Value} (hs : g.stack = .int j :: .ref a :: rest) (hd : decode c.code g.pc = .ok (.baload, 1)) {target : State}
    (k : Steps p.tables e below (T.setTop { g with pc := g.pc + 1, stack := v :: rest }) target) : Steps p.tables e below (T.setTop g) target := by
  obtain ⟨cl, A, r⟩ := V
  exact X.baloadBooleans hx (by rw [eT]; exact A.1) (State.isArrayOf_alike hZ.alike A.2.1) A.2.2 (al_in r hj hi (al_lt hv)) (al_at r hi hv) hg hs hd _ k
theorem lenA (X : Stand p l e R s m args below meth c T locs cells slots) (hx : p.tables.exec = Jvm.exec) (hZ : Z.Warmed39 s.vm) (eT : T.heap = h) (V : Al Z h a ty vs) {n : Int32} (hn : vs.length.toInt32 = n) {g : JFrame} (hg : g.method = m) {rest : List Value} (hs : g.stack = .ref a :: rest) (hd : decode c.code g.pc = .ok (.arraylength, 1)) {target : State}
    (k : Steps p.tables e below (T.setTop { g with pc := g.pc + 1, stack := .int n :: rest }) target) : Steps p.tables e below (T.setTop g) target := by
  obtain ⟨cl, A, r⟩ := V
  refine X.arraylength hx (by rw [eT]; exact A.1) (State.isArrayOf_alike hZ.alike A.2.1) hg hs hd _ ?_
  rw [show cl.slots.size.toInt32 = n from by rw [← hn, ← r, Array.length_toList]]
  exact k
theorem asI (X : Stand p l e R s m args below meth c T locs cells slots) (hx : p.tables.exec = Jvm.exec) (hZ : Z.Warmed39 s.vm) (eT : T.heap = h) (V : Al Z h a .int vs) {j : Int32} {i : Nat} {x : Int32} (hj : ¬ j < 0) (hi : j.toNatClampNeg = i) (hl : i < vs.length) {g : JFrame} (hg : g.method = m) {rest : List Value} (hs : g.stack = .int x :: .int j :: .ref a :: rest) (hd : decode c.code g.pc = .ok (.iastore, 1)) :
    ∃ T' h', Stand p l e R s m args below meth c T' (locs ++ [⟨a, i⟩]) cells slots ∧ T'.heap = h' ∧ Wr h h' a i (.int x) ∧ Al Z h' a .int (vs.set i (.int x)) ∧ ∀ target, Steps p.tables e below (T'.setTop { g with pc := g.pc + 1, stack := rest }) target → Steps p.tables e below (T.setTop g) target := by
  have V0 := V
  obtain ⟨cl, A, r⟩ := V
  obtain ⟨T', h', X', e', W, st⟩ := stI X hx hZ eT A (al_in r hj hi hl) hg hs hd
  subst hi
  exact ⟨T', h', X', e', W, V0.set W, st⟩
theorem asJ (X : Stand p l e R s m args below meth c T locs cells slots) (hx : p.tables.exec = Jvm.exec) (hZ : Z.Warmed39 s.vm) (eT : T.heap = h) (V : Al Z h a .long vs) {j : Int32} {i : Nat} {x : Int64} (hj : ¬ j < 0) (hi : j.toNatClampNeg = i) (hl : i < vs.length) {g : JFrame} (hg : g.method = m) {rest : List Value} (hs : g.stack = .long x :: .int j :: .ref a :: rest) (hd : decode c.code g.pc = .ok (.lastore, 1)) :
    ∃ T' h', Stand p l e R s m args below meth c T' (locs ++ [⟨a, i⟩]) cells slots ∧ T'.heap = h' ∧ Wr h h' a i (.long x) ∧ Al Z h' a .long (vs.set i (.long x)) ∧ ∀ target, Steps p.tables e below (T'.setTop { g with pc := g.pc + 1, stack := rest }) target → Steps p.tables e below (T.setTop g) target := by
  have V0 := V
  obtain ⟨cl, A, r⟩ := V
  obtain ⟨T', h', X', e', W, st⟩ := stJ X hx hZ eT A (al_in r hj hi hl) hg hs hd
  subst hi
  exact ⟨T', h', X', e', W, V0.set W, st⟩
theorem asC (X : Stand p l e R s m args below meth c T locs cells slots) (hx : p.tables.exec = Jvm.exec) (hZ : Z.Warmed39 s.vm) (eT : T.heap = h) (V : Al Z h a .char vs) {j : Int32} {i : Nat} {x y : Int32} (hj : ¬ j < 0) (hi : j.toNatClampNeg = i) (hl : i < vs.length) (hy : nar .char x = y) {g : JFrame} (hg : g.method = m) {rest : List Value} (hs : g.stack = .int x :: .int j :: .ref a :: rest) (hd : decode c.code g.pc = .ok (.castore, 1)) :
    ∃ T' h', Stand p l e R s m args below meth c T' (locs ++ [⟨a, i⟩]) cells slots ∧ T'.heap = h' ∧ Wr h h' a i (.int y) ∧ Al Z h' a .char (vs.set i (.int y)) ∧ ∀ target, Steps p.tables e below (T'.setTop { g with pc := g.pc + 1, stack := rest }) target → Steps p.tables e below (T.setTop g) target := by
  have V0 := V
  obtain ⟨cl, A, r⟩ := V
  obtain ⟨T', h', X', e', W, st⟩ := stC X hx hZ eT A (al_in r hj hi hl) hg hs hd
  subst hi hy
  exact ⟨T', h', X', e', W, V0.set W, st⟩
theorem asB (X : Stand p l e R s m args below meth c T locs cells slots) (hx : p.tables.exec = Jvm.exec) (hZ : Z.Warmed39 s.vm) (eT : T.heap = h) (V : Al Z h a .byte vs) {j : Int32} {i : Nat} {x y : Int32} (hj : ¬ j < 0) (hi : j.toNatClampNeg = i) (hl : i < vs.length) (hy : nar .byte x = y) {g : JFrame} (hg : g.method = m) {rest : List Value} (hs : g.stack = .int x :: .int j :: .ref a :: rest) (hd : decode c.code g.pc = .ok (.bastore, 1)) :
    ∃ T' h', Stand p l e R s m args below meth c T' (locs ++ [⟨a, i⟩]) cells slots ∧ T'.heap = h' ∧ Wr h h' a i (.int y) ∧ Al Z h' a .byte (vs.set i (.int y)) ∧ ∀ target, Steps p.tables e below (T'.setTop { g with pc := g.pc + 1, stack := rest }) target → Steps p.tables e below (T.setTop g) target := by
  have V0 := V
  obtain ⟨cl, A, r⟩ := V
  obtain ⟨T', h', X', e', W, st⟩ := stB X hx hZ eT A (al_in r hj hi hl) hg hs hd
  subst hi hy
  exact ⟨T', h', X', e', W, V0.set W, st⟩
theorem asZ (X : Stand p l e R s m args below meth c T locs cells slots) (hx : p.tables.exec = Jvm.exec) (hZ : Z.Warmed39 s.vm) (eT : T.heap = h) (V : Al Z h a .boolean vs) {j : Int32} {i : Nat} {x y : Int32} (hj : ¬ j < 0) (hi : j.toNatClampNeg = i) (hl : i < vs.length) (hy : nar .boolean x = y) {g : JFrame} (hg : g.method = m) {rest : List Value} (hs : g.stack = .int x :: .int j :: .ref a :: rest) (hd : decode c.code g.pc = .ok (.bastore, 1)) :
    ∃ T' h', Stand p l e R s m args below meth c T' (locs ++ [⟨a, i⟩]) cells slots ∧ T'.heap = h' ∧ Wr h h' a i (.int y) ∧ Al Z h' a .boolean (vs.set i (.int y)) ∧ ∀ target, Steps p.tables e below (T'.setTop { g with pc := g.pc + 1, stack := rest }) target → Steps p.tables e below (T.setTop g) target := by
  have V0 := V
  obtain ⟨cl, A, r⟩ := V
  obtain ⟨T', h', X', e', W, st⟩ := stZ X hx hZ eT A (al_in r hj hi hl) hg hs hd
  subst hi hy
  exact ⟨T', h', X', e', W, V0.set W, st⟩
theorem Ow.iloadN (X : Stand p l e R s m args below meth c T locs cells slots) (hx : p.tables.exec = Jvm.exec) {pc : Nat} {ls : Array Slot} {st : List Value} {pc' : Nat} {k : Fin 4} {v : Int32} (hd : decode c.code pc = .ok (.iload_n k, 1)) (hl : ls[k.val]? = some (.val (.int v))) (k : Wq p e below En Q (T.setTop (mkF m pc' ls (.int v :: st)))) (hpc : pc + 1 = pc' := by rfl) : Wq p e below En Q (T.setTop (mkF m pc ls st)) := by subst hpc; exact Wq.step (fun _ q => XS.iloadN X.here hx rfl hd hl q) k
theorem Ow.istoreN (X : Stand p l e R s m args below meth c T locs cells slots) (hx : p.tables.exec = Jvm.exec) {pc : Nat} {ls : Array Slot} {st : List Value} {pc' : Nat} {k : Fin 4} {x : Int32} {l' : Array Slot} (hd : decode c.code pc = .ok (.istore_n k, 1)) (hl : storeLocals ls k.val (.int x) = some l') (k : Wq p e below En Q (T.setTop (mkF m pc' l' st))) (hpc : pc + 1 = pc' := by rfl) : Wq p e below En Q (T.setTop (mkF m pc ls (.int x :: st))) := by subst hpc; exact Wq.step (fun _ q => XS.istoreN X.here hx rfl hd rfl hl q) k
theorem Ow.lloadN (X : Stand p l e R s m args below meth c T locs cells slots) (hx : p.tables.exec = Jvm.exec) {pc : Nat} {ls : Array Slot} {st : List Value} {pc' : Nat} {k : Fin 4} {v : Int64} (hd : decode c.code pc = .ok (.lload_n k, 1)) (hl : ls[k.val]? = some (.val (.long v))) (k : Wq p e below En Q (T.setTop (mkF m pc' ls (.long v :: st)))) (hpc : pc + 1 = pc' := by rfl) : Wq p e below En Q (T.setTop (mkF m pc ls st)) := by subst hpc; exact Wq.step (fun _ q => XS.lloadN X.here hx rfl hd hl q) k
theorem Ow.lstoreN (X : Stand p l e R s m args below meth c T locs cells slots) (hx : p.tables.exec = Jvm.exec) {pc : Nat} {ls : Array Slot} {st : List Value} {pc' : Nat} {k : Fin 4} {x : Int64} {l' : Array Slot} (hd : decode c.code pc = .ok (.lstore_n k, 1)) (hl : storeLocals ls k.val (.long x) = some l') (k : Wq p e below En Q (T.setTop (mkF m pc' l' st))) (hpc : pc + 1 = pc' := by rfl) : Wq p e below En Q (T.setTop (mkF m pc ls (.long x :: st))) := by subst hpc; exact Wq.step (fun _ q => XS.lstoreN X.here hx rfl hd rfl hl q) k
theorem Ow.aloadN (X : Stand p l e R s m args below meth c T locs cells slots) (hx : p.tables.exec = Jvm.exec) {pc : Nat} {ls : Array Slot} {st : List Value} {pc' : Nat} {k : Fin 4} {v : Value} (hd : decode c.code pc = .ok (.aload_n k, 1)) (hl : ls[k.val]? = some (.val v)) (hv : v.isRef = true) (k : Wq p e below En Q (T.setTop (mkF m pc' ls (v :: st)))) (hpc : pc + 1 = pc' := by rfl) : Wq p e below En Q (T.setTop (mkF m pc ls st)) := by subst hpc; exact Wq.step (fun _ q => XS.aloadN X.here hx rfl hd hl hv q) k
theorem Ow.astoreN (X : Stand p l e R s m args below meth c T locs cells slots) (hx : p.tables.exec = Jvm.exec) {pc : Nat} {ls : Array Slot} {st : List Value} {pc' : Nat} {k : Fin 4} {x : Value} {l' : Array Slot} (hd : decode c.code pc = .ok (.astore_n k, 1)) (hv : x.isRef = true) (hl : storeLocals ls k.val x = some l') (k : Wq p e below En Q (T.setTop (mkF m pc' l' st))) (hpc : pc + 1 = pc' := by rfl) : Wq p e below En Q (T.setTop (mkF m pc ls (x :: st))) := by subst hpc; exact Wq.step (fun _ q => XS.astoreN X.here hx rfl hd rfl hv hl q) k
theorem Ow.iload (X : Stand p l e R s m args below meth c T locs cells slots) (hx : p.tables.exec = Jvm.exec) {pc : Nat} {ls : Array Slot} {st : List Value} {pc' : Nat} {k : Nat} {v : Int32} (hd : decode c.code pc = .ok (.iload k, 2)) (hl : ls[k]? = some (.val (.int v))) (k : Wq p e below En Q (T.setTop (mkF m pc' ls (.int v :: st)))) (hpc : pc + 2 = pc' := by rfl) : Wq p e below En Q (T.setTop (mkF m pc ls st)) := by subst hpc; exact Wq.step (fun _ q => XS.iload X.here hx rfl hd hl q) k
theorem Ow.istore (X : Stand p l e R s m args below meth c T locs cells slots) (hx : p.tables.exec = Jvm.exec) {pc : Nat} {ls : Array Slot} {st : List Value} {pc' : Nat} {k : Nat} {x : Int32} {l' : Array Slot} (hd : decode c.code pc = .ok (.istore k, 2)) (hl : storeLocals ls k (.int x) = some l') (k : Wq p e below En Q (T.setTop (mkF m pc' l' st))) (hpc : pc + 2 = pc' := by rfl) : Wq p e below En Q (T.setTop (mkF m pc ls (.int x :: st))) := by subst hpc; exact Wq.step (fun _ q => XS.istore X.here hx rfl hd rfl hl q) k
theorem Ow.lload (X : Stand p l e R s m args below meth c T locs cells slots) (hx : p.tables.exec = Jvm.exec) {pc : Nat} {ls : Array Slot} {st : List Value} {pc' : Nat} {k : Nat} {v : Int64} (hd : decode c.code pc = .ok (.lload k, 2)) (hl : ls[k]? = some (.val (.long v))) (k : Wq p e below En Q (T.setTop (mkF m pc' ls (.long v :: st)))) (hpc : pc + 2 = pc' := by rfl) : Wq p e below En Q (T.setTop (mkF m pc ls st)) := by subst hpc; exact Wq.step (fun _ q => XS.lload X.here hx rfl hd hl q) k
theorem Ow.lstore (X : Stand p l e R s m args below meth c T locs cells slots) (hx : p.tables.exec = Jvm.exec) {pc : Nat} {ls : Array Slot} {st : List Value} {pc' : Nat} {k : Nat} {x : Int64} {l' : Array Slot} (hd : decode c.code pc = .ok (.lstore k, 2)) (hl : storeLocals ls k (.long x) = some l') (k : Wq p e below En Q (T.setTop (mkF m pc' l' st))) (hpc : pc + 2 = pc' := by rfl) : Wq p e below En Q (T.setTop (mkF m pc ls (.long x :: st))) := by subst hpc; exact Wq.step (fun _ q => XS.lstore X.here hx rfl hd rfl hl q) k
theorem Ow.aload (X : Stand p l e R s m args below meth c T locs cells slots) (hx : p.tables.exec = Jvm.exec) {pc : Nat} {ls : Array Slot} {st : List Value} {pc' : Nat} {k : Nat} {v : Value} (hd : decode c.code pc = .ok (.aload k, 2)) (hl : ls[k]? = some (.val v)) (hv : v.isRef = true) (k : Wq p e below En Q (T.setTop (mkF m pc' ls (v :: st)))) (hpc : pc + 2 = pc' := by rfl) : Wq p e below En Q (T.setTop (mkF m pc ls st)) := by subst hpc; exact Wq.step (fun _ q => XS.aload X.here hx rfl hd hl hv q) k
theorem Ow.astore (X : Stand p l e R s m args below meth c T locs cells slots) (hx : p.tables.exec = Jvm.exec) {pc : Nat} {ls : Array Slot} {st : List Value} {pc' : Nat} {k : Nat} {x : Value} {l' : Array Slot} (hd : decode c.code pc = .ok (.astore k, 2)) (hv : x.isRef = true) (hl : storeLocals ls k x = some l') (k : Wq p e below En Q (T.setTop (mkF m pc' l' st))) (hpc : pc + 2 = pc' := by rfl) : Wq p e below En Q (T.setTop (mkF m pc ls (x :: st))) := by subst hpc; exact Wq.step (fun _ q => XS.astore X.here hx rfl hd rfl hv hl q) k
theorem Ow.istoreNS (X : Stand p l e R s m args below meth c T locs cells slots) (hx : p.tables.exec = Jvm.exec) {pc pc' : Nat} {ls : Array Slot} {st : List Value} {k : Fin 4} {x : Int32} {o : Slot} {l' : Array Slot} (hd : decode c.code pc = .ok (.istore_n k, 1)) (hold : ls[k.val]? = some o) (ho : o = .unset ∨ ∃ w, o = .val w ∧ w.category = 1) (hl : ls.setIfInBounds k.val (.val (.int x)) = l') (q : Wq p e below En Q (T.setTop (mkF m pc' l' st))) (hpc : pc + 1 = pc' := by rfl) : Wq p e below En Q (T.setTop (mkF m pc ls (.int x :: st))) := by
  subst hpc hl
  exact Wq.step (fun _ z => XS.istoreN X.here hx rfl hd rfl (XS.store1 hold ho rfl) z) q
theorem Ow.istoreS (X : Stand p l e R s m args below meth c T locs cells slots) (hx : p.tables.exec = Jvm.exec) {pc pc' : Nat} {ls : Array Slot} {st : List Value} {k : Nat} {x : Int32} {o : Slot} {l' : Array Slot} (hd : decode c.code pc = .ok (.istore k, 2)) (hold : ls[k]? = some o) (ho : o = .unset ∨ ∃ w, o = .val w ∧ w.category = 1) (hl : ls.setIfInBounds k (.val (.int x)) = l') (q : Wq p e below En Q (T.setTop (mkF m pc' l' st))) (hpc : pc + 2 = pc' := by rfl) : Wq p e below En Q (T.setTop (mkF m pc ls (.int x :: st))) := by
  subst hpc hl
  exact Wq.step (fun _ z => XS.istore X.here hx rfl hd rfl (XS.store1 hold ho rfl) z) q
theorem Ow.iconst (X : Stand p l e R s m args below meth c T locs cells slots) (hx : p.tables.exec = Jvm.exec) {pc : Nat} {ls : Array Slot} {st : List Value} {pc' : Nat} {i : Int} {z : Int32} (hd : decode c.code pc = .ok (.iconst i, 1)) (hz : Int32.ofInt i = z) (k : Wq p e below En Q (T.setTop (mkF m pc' ls (.int z :: st)))) (hpc : pc + 1 = pc' := by rfl) : Wq p e below En Q (T.setTop (mkF m pc ls st)) := by subst hz hpc; exact Wq.step (fun _ q => XS.iconst X.here hx rfl hd  q) k
theorem Ow.bipush (X : Stand p l e R s m args below meth c T locs cells slots) (hx : p.tables.exec = Jvm.exec) {pc : Nat} {ls : Array Slot} {st : List Value} {pc' : Nat} {i : Int} {z : Int32} (hd : decode c.code pc = .ok (.bipush i, 2)) (hz : (Int8.ofInt i).toInt32 = z) (k : Wq p e below En Q (T.setTop (mkF m pc' ls (.int z :: st)))) (hpc : pc + 2 = pc' := by rfl) : Wq p e below En Q (T.setTop (mkF m pc ls st)) := by subst hz hpc; exact Wq.step (fun _ q => XS.bipush X.here hx rfl hd  q) k
theorem Ow.sipush (X : Stand p l e R s m args below meth c T locs cells slots) (hx : p.tables.exec = Jvm.exec) {pc : Nat} {ls : Array Slot} {st : List Value} {pc' : Nat} {i : Int} {z : Int32} (hd : decode c.code pc = .ok (.sipush i, 3)) (hz : (Int16.ofInt i).toInt32 = z) (k : Wq p e below En Q (T.setTop (mkF m pc' ls (.int z :: st)))) (hpc : pc + 3 = pc' := by rfl) : Wq p e below En Q (T.setTop (mkF m pc ls st)) := by subst hz hpc; exact Wq.step (fun _ q => XS.sipush X.here hx rfl hd  q) k
theorem Ow.lconst (X : Stand p l e R s m args below meth c T locs cells slots) (hx : p.tables.exec = Jvm.exec) {pc : Nat} {ls : Array Slot} {st : List Value} {pc' : Nat} {i : Fin 2} {z : Int64} (hd : decode c.code pc = .ok (.lconst i, 1)) (hz : Int64.ofNat i = z) (k : Wq p e below En Q (T.setTop (mkF m pc' ls (.long z :: st)))) (hpc : pc + 1 = pc' := by rfl) : Wq p e below En Q (T.setTop (mkF m pc ls st)) := by subst hz hpc; exact Wq.step (fun _ q => XS.lconst X.here hx rfl hd  q) k
theorem Ow.aconstNull (X : Stand p l e R s m args below meth c T locs cells slots) (hx : p.tables.exec = Jvm.exec) {pc : Nat} {ls : Array Slot} {st : List Value} {pc' : Nat}  (hd : decode c.code pc = .ok (.aconst_null, 1))  (k : Wq p e below En Q (T.setTop (mkF m pc' ls (.null :: st)))) (hpc : pc + 1 = pc' := by rfl) : Wq p e below En Q (T.setTop (mkF m pc ls st)) := by subst hpc; exact Wq.step (fun _ q => XS.aconstNull X.here hx rfl hd  q) k
theorem Ow.iadd (X : Stand p l e R s m args below meth c T locs cells slots) (hx : p.tables.exec = Jvm.exec) {pc : Nat} {ls : Array Slot} {st : List Value} {pc' : Nat} {x y z : Int32} (hd : decode c.code pc = .ok (.iadd, 1)) (hz : x + y = z) (k : Wq p e below En Q (T.setTop (mkF m pc' ls (.int z :: st)))) (hpc : pc + 1 = pc' := by rfl) : Wq p e below En Q (T.setTop (mkF m pc ls (.int y :: .int x :: st))) := by subst hz hpc; exact Wq.step (fun _ q => XS.iadd X.here hx rfl hd rfl q) k
theorem Ow.ladd (X : Stand p l e R s m args below meth c T locs cells slots) (hx : p.tables.exec = Jvm.exec) {pc : Nat} {ls : Array Slot} {st : List Value} {pc' : Nat} {x y z : Int64} (hd : decode c.code pc = .ok (.ladd, 1)) (hz : x + y = z) (k : Wq p e below En Q (T.setTop (mkF m pc' ls (.long z :: st)))) (hpc : pc + 1 = pc' := by rfl) : Wq p e below En Q (T.setTop (mkF m pc ls (.long y :: .long x :: st))) := by subst hz hpc; exact Wq.step (fun _ q => XS.ladd X.here hx rfl hd rfl q) k
theorem Ow.isub (X : Stand p l e R s m args below meth c T locs cells slots) (hx : p.tables.exec = Jvm.exec) {pc : Nat} {ls : Array Slot} {st : List Value} {pc' : Nat} {x y z : Int32} (hd : decode c.code pc = .ok (.isub, 1)) (hz : x - y = z) (k : Wq p e below En Q (T.setTop (mkF m pc' ls (.int z :: st)))) (hpc : pc + 1 = pc' := by rfl) : Wq p e below En Q (T.setTop (mkF m pc ls (.int y :: .int x :: st))) := by subst hz hpc; exact Wq.step (fun _ q => XS.isub X.here hx rfl hd rfl q) k
theorem Ow.lsub (X : Stand p l e R s m args below meth c T locs cells slots) (hx : p.tables.exec = Jvm.exec) {pc : Nat} {ls : Array Slot} {st : List Value} {pc' : Nat} {x y z : Int64} (hd : decode c.code pc = .ok (.lsub, 1)) (hz : x - y = z) (k : Wq p e below En Q (T.setTop (mkF m pc' ls (.long z :: st)))) (hpc : pc + 1 = pc' := by rfl) : Wq p e below En Q (T.setTop (mkF m pc ls (.long y :: .long x :: st))) := by subst hz hpc; exact Wq.step (fun _ q => XS.lsub X.here hx rfl hd rfl q) k
theorem Ow.imul (X : Stand p l e R s m args below meth c T locs cells slots) (hx : p.tables.exec = Jvm.exec) {pc : Nat} {ls : Array Slot} {st : List Value} {pc' : Nat} {x y z : Int32} (hd : decode c.code pc = .ok (.imul, 1)) (hz : x * y = z) (k : Wq p e below En Q (T.setTop (mkF m pc' ls (.int z :: st)))) (hpc : pc + 1 = pc' := by rfl) : Wq p e below En Q (T.setTop (mkF m pc ls (.int y :: .int x :: st))) := by subst hz hpc; exact Wq.step (fun _ q => XS.imul X.here hx rfl hd rfl q) k
theorem Ow.lmul (X : Stand p l e R s m args below meth c T locs cells slots) (hx : p.tables.exec = Jvm.exec) {pc : Nat} {ls : Array Slot} {st : List Value} {pc' : Nat} {x y z : Int64} (hd : decode c.code pc = .ok (.lmul, 1)) (hz : x * y = z) (k : Wq p e below En Q (T.setTop (mkF m pc' ls (.long z :: st)))) (hpc : pc + 1 = pc' := by rfl) : Wq p e below En Q (T.setTop (mkF m pc ls (.long y :: .long x :: st))) := by subst hz hpc; exact Wq.step (fun _ q => XS.lmul X.here hx rfl hd rfl q) k
theorem Ow.iand (X : Stand p l e R s m args below meth c T locs cells slots) (hx : p.tables.exec = Jvm.exec) {pc : Nat} {ls : Array Slot} {st : List Value} {pc' : Nat} {x y z : Int32} (hd : decode c.code pc = .ok (.iand, 1)) (hz : x &&& y = z) (k : Wq p e below En Q (T.setTop (mkF m pc' ls (.int z :: st)))) (hpc : pc + 1 = pc' := by rfl) : Wq p e below En Q (T.setTop (mkF m pc ls (.int y :: .int x :: st))) := by subst hz hpc; exact Wq.step (fun _ q => XS.iand X.here hx rfl hd rfl q) k
theorem Ow.land (X : Stand p l e R s m args below meth c T locs cells slots) (hx : p.tables.exec = Jvm.exec) {pc : Nat} {ls : Array Slot} {st : List Value} {pc' : Nat} {x y z : Int64} (hd : decode c.code pc = .ok (.land, 1)) (hz : x &&& y = z) (k : Wq p e below En Q (T.setTop (mkF m pc' ls (.long z :: st)))) (hpc : pc + 1 = pc' := by rfl) : Wq p e below En Q (T.setTop (mkF m pc ls (.long y :: .long x :: st))) := by subst hz hpc; exact Wq.step (fun _ q => XS.land X.here hx rfl hd rfl q) k
theorem Ow.ior (X : Stand p l e R s m args below meth c T locs cells slots) (hx : p.tables.exec = Jvm.exec) {pc : Nat} {ls : Array Slot} {st : List Value} {pc' : Nat} {x y z : Int32} (hd : decode c.code pc = .ok (.ior, 1)) (hz : x ||| y = z) (k : Wq p e below En Q (T.setTop (mkF m pc' ls (.int z :: st)))) (hpc : pc + 1 = pc' := by rfl) : Wq p e below En Q (T.setTop (mkF m pc ls (.int y :: .int x :: st))) := by subst hz hpc; exact Wq.step (fun _ q => XS.ior X.here hx rfl hd rfl q) k
theorem Ow.lor (X : Stand p l e R s m args below meth c T locs cells slots) (hx : p.tables.exec = Jvm.exec) {pc : Nat} {ls : Array Slot} {st : List Value} {pc' : Nat} {x y z : Int64} (hd : decode c.code pc = .ok (.lor, 1)) (hz : x ||| y = z) (k : Wq p e below En Q (T.setTop (mkF m pc' ls (.long z :: st)))) (hpc : pc + 1 = pc' := by rfl) : Wq p e below En Q (T.setTop (mkF m pc ls (.long y :: .long x :: st))) := by subst hz hpc; exact Wq.step (fun _ q => XS.lor X.here hx rfl hd rfl q) k
theorem Ow.ixor (X : Stand p l e R s m args below meth c T locs cells slots) (hx : p.tables.exec = Jvm.exec) {pc : Nat} {ls : Array Slot} {st : List Value} {pc' : Nat} {x y z : Int32} (hd : decode c.code pc = .ok (.ixor, 1)) (hz : x ^^^ y = z) (k : Wq p e below En Q (T.setTop (mkF m pc' ls (.int z :: st)))) (hpc : pc + 1 = pc' := by rfl) : Wq p e below En Q (T.setTop (mkF m pc ls (.int y :: .int x :: st))) := by subst hz hpc; exact Wq.step (fun _ q => XS.ixor X.here hx rfl hd rfl q) k
theorem Ow.lxor (X : Stand p l e R s m args below meth c T locs cells slots) (hx : p.tables.exec = Jvm.exec) {pc : Nat} {ls : Array Slot} {st : List Value} {pc' : Nat} {x y z : Int64} (hd : decode c.code pc = .ok (.lxor, 1)) (hz : x ^^^ y = z) (k : Wq p e below En Q (T.setTop (mkF m pc' ls (.long z :: st)))) (hpc : pc + 1 = pc' := by rfl) : Wq p e below En Q (T.setTop (mkF m pc ls (.long y :: .long x :: st))) := by subst hz hpc; exact Wq.step (fun _ q => XS.lxor X.here hx rfl hd rfl q) k
theorem Ow.ineg (X : Stand p l e R s m args below meth c T locs cells slots) (hx : p.tables.exec = Jvm.exec) {pc : Nat} {ls : Array Slot} {st : List Value} {pc' : Nat} {x : Int32} {z : Int32} (hd : decode c.code pc = .ok (.ineg, 1)) (hz : -x = z) (k : Wq p e below En Q (T.setTop (mkF m pc' ls (.int z :: st)))) (hpc : pc + 1 = pc' := by rfl) : Wq p e below En Q (T.setTop (mkF m pc ls (.int x :: st))) := by subst hz hpc; exact Wq.step (fun _ q => XS.ineg X.here hx rfl hd rfl q) k
theorem Ow.lneg (X : Stand p l e R s m args below meth c T locs cells slots) (hx : p.tables.exec = Jvm.exec) {pc : Nat} {ls : Array Slot} {st : List Value} {pc' : Nat} {x : Int64} {z : Int64} (hd : decode c.code pc = .ok (.lneg, 1)) (hz : -x = z) (k : Wq p e below En Q (T.setTop (mkF m pc' ls (.long z :: st)))) (hpc : pc + 1 = pc' := by rfl) : Wq p e below En Q (T.setTop (mkF m pc ls (.long x :: st))) := by subst hz hpc; exact Wq.step (fun _ q => XS.lneg X.here hx rfl hd rfl q) k
theorem Ow.i2l (X : Stand p l e R s m args below meth c T locs cells slots) (hx : p.tables.exec = Jvm.exec) {pc : Nat} {ls : Array Slot} {st : List Value} {pc' : Nat} {x : Int32} {z : Int64} (hd : decode c.code pc = .ok (.i2l, 1)) (hz : x.toInt64 = z) (k : Wq p e below En Q (T.setTop (mkF m pc' ls (.long z :: st)))) (hpc : pc + 1 = pc' := by rfl) : Wq p e below En Q (T.setTop (mkF m pc ls (.int x :: st))) := by subst hz hpc; exact Wq.step (fun _ q => XS.i2l X.here hx rfl hd rfl q) k
theorem Ow.l2i (X : Stand p l e R s m args below meth c T locs cells slots) (hx : p.tables.exec = Jvm.exec) {pc : Nat} {ls : Array Slot} {st : List Value} {pc' : Nat} {x : Int64} {z : Int32} (hd : decode c.code pc = .ok (.l2i, 1)) (hz : x.toInt32 = z) (k : Wq p e below En Q (T.setTop (mkF m pc' ls (.int z :: st)))) (hpc : pc + 1 = pc' := by rfl) : Wq p e below En Q (T.setTop (mkF m pc ls (.long x :: st))) := by subst hz hpc; exact Wq.step (fun _ q => XS.l2i X.here hx rfl hd rfl q) k
theorem Ow.i2b (X : Stand p l e R s m args below meth c T locs cells slots) (hx : p.tables.exec = Jvm.exec) {pc : Nat} {ls : Array Slot} {st : List Value} {pc' : Nat} {x : Int32} {z : Int32} (hd : decode c.code pc = .ok (.i2b, 1)) (hz : x.toInt8.toInt32 = z) (k : Wq p e below En Q (T.setTop (mkF m pc' ls (.int z :: st)))) (hpc : pc + 1 = pc' := by rfl) : Wq p e below En Q (T.setTop (mkF m pc ls (.int x :: st))) := by subst hz hpc; exact Wq.step (fun _ q => XS.i2b X.here hx rfl hd rfl q) k
theorem Ow.i2s (X : Stand p l e R s m args below meth c T locs cells slots) (hx : p.tables.exec = Jvm.exec) {pc : Nat} {ls : Array Slot} {st : List Value} {pc' : Nat} {x : Int32} {z : Int32} (hd : decode c.code pc = .ok (.i2s, 1)) (hz : x.toInt16.toInt32 = z) (k : Wq p e below En Q (T.setTop (mkF m pc' ls (.int z :: st)))) (hpc : pc + 1 = pc' := by rfl) : Wq p e below En Q (T.setTop (mkF m pc ls (.int x :: st))) := by subst hz hpc; exact Wq.step (fun _ q => XS.i2s X.here hx rfl hd rfl q) k
theorem Ow.i2c (X : Stand p l e R s m args below meth c T locs cells slots) (hx : p.tables.exec = Jvm.exec) {pc : Nat} {ls : Array Slot} {st : List Value} {pc' : Nat} {x : Int32} {z : Int32} (hd : decode c.code pc = .ok (.i2c, 1)) (hz : x.toUInt32.toUInt16.toUInt32.toInt32 = z) (k : Wq p e below En Q (T.setTop (mkF m pc' ls (.int z :: st)))) (hpc : pc + 1 = pc' := by rfl) : Wq p e below En Q (T.setTop (mkF m pc ls (.int x :: st))) := by subst hz hpc; exact Wq.step (fun _ q => XS.i2c X.here hx rfl hd rfl q) k
theorem Ow.ishl (X : Stand p l e R s m args below meth c T locs cells slots) (hx : p.tables.exec = Jvm.exec) {pc : Nat} {ls : Array Slot} {st : List Value} {pc' : Nat} {x : Int32} {y : Int32} {z : Int32} (hd : decode c.code pc = .ok (.ishl, 1)) (hz : x <<< (y &&& 31) = z) (k : Wq p e below En Q (T.setTop (mkF m pc' ls (.int z :: st)))) (hpc : pc + 1 = pc' := by rfl) : Wq p e below En Q (T.setTop (mkF m pc ls (.int y :: .int x :: st))) := by subst hz hpc; exact Wq.step (fun _ q => XS.ishl X.here hx rfl hd rfl q) k
theorem Ow.ishr (X : Stand p l e R s m args below meth c T locs cells slots) (hx : p.tables.exec = Jvm.exec) {pc : Nat} {ls : Array Slot} {st : List Value} {pc' : Nat} {x : Int32} {y : Int32} {z : Int32} (hd : decode c.code pc = .ok (.ishr, 1)) (hz : x >>> (y &&& 31) = z) (k : Wq p e below En Q (T.setTop (mkF m pc' ls (.int z :: st)))) (hpc : pc + 1 = pc' := by rfl) : Wq p e below En Q (T.setTop (mkF m pc ls (.int y :: .int x :: st))) := by subst hz hpc; exact Wq.step (fun _ q => XS.ishr X.here hx rfl hd rfl q) k
theorem Ow.iushr (X : Stand p l e R s m args below meth c T locs cells slots) (hx : p.tables.exec = Jvm.exec) {pc : Nat} {ls : Array Slot} {st : List Value} {pc' : Nat} {x : Int32} {y : Int32} {z : Int32} (hd : decode c.code pc = .ok (.iushr, 1)) (hz : (x.toUInt32 >>> (y &&& 31).toUInt32).toInt32 = z) (k : Wq p e below En Q (T.setTop (mkF m pc' ls (.int z :: st)))) (hpc : pc + 1 = pc' := by rfl) : Wq p e below En Q (T.setTop (mkF m pc ls (.int y :: .int x :: st))) := by subst hz hpc; exact Wq.step (fun _ q => XS.iushr X.here hx rfl hd rfl q) k
theorem Ow.lshl (X : Stand p l e R s m args below meth c T locs cells slots) (hx : p.tables.exec = Jvm.exec) {pc : Nat} {ls : Array Slot} {st : List Value} {pc' : Nat} {x : Int64} {y : Int32} {z : Int64} (hd : decode c.code pc = .ok (.lshl, 1)) (hz : x <<< (y &&& 0x3f).toInt64 = z) (k : Wq p e below En Q (T.setTop (mkF m pc' ls (.long z :: st)))) (hpc : pc + 1 = pc' := by rfl) : Wq p e below En Q (T.setTop (mkF m pc ls (.int y :: .long x :: st))) := by subst hz hpc; exact Wq.step (fun _ q => XS.lshl X.here hx rfl hd rfl q) k
theorem Ow.lshr (X : Stand p l e R s m args below meth c T locs cells slots) (hx : p.tables.exec = Jvm.exec) {pc : Nat} {ls : Array Slot} {st : List Value} {pc' : Nat} {x : Int64} {y : Int32} {z : Int64} (hd : decode c.code pc = .ok (.lshr, 1)) (hz : x >>> (y &&& 0x3f).toInt64 = z) (k : Wq p e below En Q (T.setTop (mkF m pc' ls (.long z :: st)))) (hpc : pc + 1 = pc' := by rfl) : Wq p e below En Q (T.setTop (mkF m pc ls (.int y :: .long x :: st))) := by subst hz hpc; exact Wq.step (fun _ q => XS.lshr X.here hx rfl hd rfl q) k
theorem Ow.lushr (X : Stand p l e R s m args below meth c T locs cells slots) (hx : p.tables.exec = Jvm.exec) {pc : Nat} {ls : Array Slot} {st : List Value} {pc' : Nat} {x : Int64} {y : Int32} {z : Int64} (hd : decode c.code pc = .ok (.lushr, 1)) (hz : (x.toUInt64 >>> (y &&& 0x3f).toInt64.toUInt64).toInt64 = z) (k : Wq p e below En Q (T.setTop (mkF m pc' ls (.long z :: st)))) (hpc : pc + 1 = pc' := by rfl) : Wq p e below En Q (T.setTop (mkF m pc ls (.int y :: .long x :: st))) := by subst hz hpc; exact Wq.step (fun _ q => XS.lushr X.here hx rfl hd rfl q) k
theorem Ow.lcmp (X : Stand p l e R s m args below meth c T locs cells slots) (hx : p.tables.exec = Jvm.exec) {pc : Nat} {ls : Array Slot} {st : List Value} {pc' : Nat} {x y : Int64} (hd : decode c.code pc = .ok (.lcmp, 1))  (k : Wq p e below En Q (T.setTop (mkF m pc' ls (.int (lcmpW x y) :: st)))) (hpc : pc + 1 = pc' := by rfl) : Wq p e below En Q (T.setTop (mkF m pc ls (.long y :: .long x :: st))) := by subst hpc; exact Wq.step (fun _ q => XS.lcmp X.here hx rfl hd rfl q) k
theorem Ow.idiv (X : Stand p l e R s m args below meth c T locs cells slots) (hx : p.tables.exec = Jvm.exec) {pc : Nat} {ls : Array Slot} {st : List Value} {pc' : Nat} {x y z : Int32} (hd : decode c.code pc = .ok (.idiv, 1)) (hy : y ≠ 0) (hz : x / y = z) (k : Wq p e below En Q (T.setTop (mkF m pc' ls (.int z :: st)))) (hpc : pc + 1 = pc' := by rfl) : Wq p e below En Q (T.setTop (mkF m pc ls (.int y :: .int x :: st))) := by subst hz hpc; exact Wq.step (fun _ q => XS.idiv X.here hx rfl hd rfl hy q) k
theorem Ow.ldiv (X : Stand p l e R s m args below meth c T locs cells slots) (hx : p.tables.exec = Jvm.exec) {pc : Nat} {ls : Array Slot} {st : List Value} {pc' : Nat} {x y z : Int64} (hd : decode c.code pc = .ok (.ldiv, 1)) (hy : y ≠ 0) (hz : x / y = z) (k : Wq p e below En Q (T.setTop (mkF m pc' ls (.long z :: st)))) (hpc : pc + 1 = pc' := by rfl) : Wq p e below En Q (T.setTop (mkF m pc ls (.long y :: .long x :: st))) := by subst hz hpc; exact Wq.step (fun _ q => XS.ldiv X.here hx rfl hd rfl hy q) k
theorem Ow.irem (X : Stand p l e R s m args below meth c T locs cells slots) (hx : p.tables.exec = Jvm.exec) {pc : Nat} {ls : Array Slot} {st : List Value} {pc' : Nat} {x y z : Int32} (hd : decode c.code pc = .ok (.irem, 1)) (hy : y ≠ 0) (hz : x % y = z) (k : Wq p e below En Q (T.setTop (mkF m pc' ls (.int z :: st)))) (hpc : pc + 1 = pc' := by rfl) : Wq p e below En Q (T.setTop (mkF m pc ls (.int y :: .int x :: st))) := by subst hz hpc; exact Wq.step (fun _ q => iremM X hx rfl hd rfl hy q) k
theorem Ow.lrem (X : Stand p l e R s m args below meth c T locs cells slots) (hx : p.tables.exec = Jvm.exec) {pc : Nat} {ls : Array Slot} {st : List Value} {pc' : Nat} {x y z : Int64} (hd : decode c.code pc = .ok (.lrem, 1)) (hy : y ≠ 0) (hz : x % y = z) (k : Wq p e below En Q (T.setTop (mkF m pc' ls (.long z :: st)))) (hpc : pc + 1 = pc' := by rfl) : Wq p e below En Q (T.setTop (mkF m pc ls (.long y :: .long x :: st))) := by
  rw [← lrem_mod] at hz
  subst hz hpc
  exact Wq.step (fun _ q => XS.lrem X.here hx rfl hd rfl hy q) k
theorem Ow.iinc (X : Stand p l e R s m args below meth c T locs cells slots) (hx : p.tables.exec = Jvm.exec) {pc : Nat} {ls : Array Slot} {st : List Value} {pc' : Nat} {i : Nat} {cst : Int} {x : Int32} {l' : Array Slot} (hd : decode c.code pc = .ok (.iinc i cst, 3)) (hl : ls[i]? = some (.val (.int x))) (hl' : storeLocals ls i (.int (x + Int32.ofInt cst)) = some l') (k : Wq p e below En Q (T.setTop (mkF m pc' l' st))) (hpc : pc + 3 = pc' := by rfl) : Wq p e below En Q (T.setTop (mkF m pc ls st)) := by subst hpc; exact Wq.step (fun _ q => XS.iinc X.here hx rfl hd hl hl' q) k
theorem Ow.dup (X : Stand p l e R s m args below meth c T locs cells slots) (hx : p.tables.exec = Jvm.exec) {pc : Nat} {ls : Array Slot} {st : List Value} {pc' : Nat} {x : Value} (hd : decode c.code pc = .ok (.dup, 1)) (hc : x.category = 1) (k : Wq p e below En Q (T.setTop (mkF m pc' ls (x :: x :: st)))) (hpc : pc + 1 = pc' := by rfl) : Wq p e below En Q (T.setTop (mkF m pc ls (x :: st))) := by subst hpc; exact Wq.step (fun _ q => XS.dup X.here hx rfl hd rfl hc q) k
theorem Ow.pop (X : Stand p l e R s m args below meth c T locs cells slots) (hx : p.tables.exec = Jvm.exec) {pc : Nat} {ls : Array Slot} {st : List Value} {pc' : Nat} {x : Value} (hd : decode c.code pc = .ok (.pop, 1)) (hc : x.category = 1) (k : Wq p e below En Q (T.setTop (mkF m pc' ls st))) (hpc : pc + 1 = pc' := by rfl) : Wq p e below En Q (T.setTop (mkF m pc ls (x :: st))) := by subst hpc; exact Wq.step (fun _ q => XS.pop X.here hx rfl hd rfl hc q) k
theorem Ow.dupX1 (X : Stand p l e R s m args below meth c T locs cells slots) (hx : p.tables.exec = Jvm.exec) {pc : Nat} {ls : Array Slot} {st : List Value} {pc' : Nat} {x y : Value} (hd : decode c.code pc = .ok (.dup_x1, 1)) (hc : x.category = 1) (hc' : y.category = 1) (k : Wq p e below En Q (T.setTop (mkF m pc' ls (x :: y :: x :: st)))) (hpc : pc + 1 = pc' := by rfl) : Wq p e below En Q (T.setTop (mkF m pc ls (x :: y :: st))) := by subst hpc; exact Wq.step (fun _ q => XS.dupX1 X.here hx rfl hd rfl hc hc' q) k
theorem Ow.swap (X : Stand p l e R s m args below meth c T locs cells slots) (hx : p.tables.exec = Jvm.exec) {pc : Nat} {ls : Array Slot} {st : List Value} {pc' : Nat} {x y : Value} (hd : decode c.code pc = .ok (.swap, 1)) (hc : x.category = 1) (hc' : y.category = 1) (k : Wq p e below En Q (T.setTop (mkF m pc' ls (y :: x :: st)))) (hpc : pc + 1 = pc' := by rfl) : Wq p e below En Q (T.setTop (mkF m pc ls (x :: y :: st))) := by subst hpc; exact Wq.step (fun _ q => XS.swap X.here hx rfl hd rfl hc hc' q) k
theorem Ow.dup2 (X : Stand p l e R s m args below meth c T locs cells slots) (hx : p.tables.exec = Jvm.exec) {pc : Nat} {ls : Array Slot} {st : List Value} {pc' : Nat} {x y : Value} (hd : decode c.code pc = .ok (.dup2, 1)) (hc : x.category = 1) (hc' : y.category = 1) (k : Wq p e below En Q (T.setTop (mkF m pc' ls (x :: y :: x :: y :: st)))) (hpc : pc + 1 = pc' := by rfl) : Wq p e below En Q (T.setTop (mkF m pc ls (x :: y :: st))) := by subst hpc; exact Wq.step (fun _ q => Jvm.Free.XT.dup2 X.here hx rfl hd rfl hc hc' q) k
theorem Ow.dup2L (X : Stand p l e R s m args below meth c T locs cells slots) (hx : p.tables.exec = Jvm.exec) {pc : Nat} {ls : Array Slot} {st : List Value} {pc' : Nat} {x : Int64} (hd : decode c.code pc = .ok (.dup2, 1))  (k : Wq p e below En Q (T.setTop (mkF m pc' ls (.long x :: .long x :: st)))) (hpc : pc + 1 = pc' := by rfl) : Wq p e below En Q (T.setTop (mkF m pc ls (.long x :: st))) := by subst hpc; exact Wq.step (fun _ q => Jvm.Free.XT.dup2L X.here hx rfl hd rfl q) k
theorem Ow.goto (X : Stand p l e R s m args below meth c T locs cells slots) (hx : p.tables.exec = Jvm.exec) {pc : Nat} {ls : Array Slot} {st : List Value} {o : Int} {pc' : Nat} (hd : decode c.code pc = .ok (.goto o, 3)) (ho : 0 ≤ (pc : Int) + o) (hp : ((pc : Int) + o).toNat = pc') (k : Wq p e below En Q (T.setTop (mkF m pc' ls st))) : Wq p e below En Q (T.setTop (mkF m pc ls st)) := Wq.step (fun _ q => XS.goto X.here hx rfl rfl hd ho hp q) k
theorem Ow.ifYes (X : Stand p l e R s m args below meth c T locs cells slots) (hx : p.tables.exec = Jvm.exec) {pc : Nat} {ls : Array Slot} {st : List Value} {cd : ClassFile.Cond} {x : Int32} {o : Int} {pc' : Nat} (hd : decode c.code pc = .ok (.ifCond cd o, 3)) (hc : ifCond.holds cd x = true) (ho : 0 ≤ (pc : Int) + o) (hp : ((pc : Int) + o).toNat = pc') (k : Wq p e below En Q (T.setTop (mkF m pc' ls st))) : Wq p e below En Q (T.setTop (mkF m pc ls (.int x :: st))) := Wq.step (fun _ q => XS.ifYes X.here hx rfl rfl hd rfl hc ho hp q) k
theorem Ow.ifNo (X : Stand p l e R s m args below meth c T locs cells slots) (hx : p.tables.exec = Jvm.exec) {pc : Nat} {ls : Array Slot} {st : List Value} {pc' : Nat} {cd : ClassFile.Cond} {x : Int32} {o : Int} (hd : decode c.code pc = .ok (.ifCond cd o, 3)) (hc : ifCond.holds cd x = false) (k : Wq p e below En Q (T.setTop (mkF m pc' ls st))) (hpc : pc + 3 = pc' := by rfl) : Wq p e below En Q (T.setTop (mkF m pc ls (.int x :: st))) := by subst hpc; exact Wq.step (fun _ q => XS.ifNo X.here hx rfl hd rfl hc q) k
theorem Ow.icmpYes (X : Stand p l e R s m args below meth c T locs cells slots) (hx : p.tables.exec = Jvm.exec) {pc : Nat} {ls : Array Slot} {st : List Value} {cd : ClassFile.Cond} {x y : Int32} {o : Int} {pc' : Nat} (hd : decode c.code pc = .ok (.if_icmp cd o, 3)) (hc : if_icmp.holds cd x y = true) (ho : 0 ≤ (pc : Int) + o) (hp : ((pc : Int) + o).toNat = pc') (k : Wq p e below En Q (T.setTop (mkF m pc' ls st))) : Wq p e below En Q (T.setTop (mkF m pc ls (.int y :: .int x :: st))) := Wq.step (fun _ q => XS.icmpYes X.here hx rfl rfl hd rfl hc ho hp q) k
theorem Ow.icmpNo (X : Stand p l e R s m args below meth c T locs cells slots) (hx : p.tables.exec = Jvm.exec) {pc : Nat} {ls : Array Slot} {st : List Value} {pc' : Nat} {cd : ClassFile.Cond} {x y : Int32} {o : Int} (hd : decode c.code pc = .ok (.if_icmp cd o, 3)) (hc : if_icmp.holds cd x y = false) (k : Wq p e below En Q (T.setTop (mkF m pc' ls st))) (hpc : pc + 3 = pc' := by rfl) : Wq p e below En Q (T.setTop (mkF m pc ls (.int y :: .int x :: st))) := by subst hpc; exact Wq.step (fun _ q => XS.icmpNo X.here hx rfl hd rfl hc q) k
theorem Ow.ifnullYes (X : Stand p l e R s m args below meth c T locs cells slots) (hx : p.tables.exec = Jvm.exec) {pc : Nat} {ls : Array Slot} {st : List Value} {o : Int} {pc' : Nat} (hd : decode c.code pc = .ok (.ifnull o, 3)) (ho : 0 ≤ (pc : Int) + o) (hp : ((pc : Int) + o).toNat = pc') (k : Wq p e below En Q (T.setTop (mkF m pc' ls st))) : Wq p e below En Q (T.setTop (mkF m pc ls (.null :: st))) := Wq.step (fun _ q => XS.ifnullYes X.here hx rfl rfl hd rfl ho hp q) k
theorem Ow.ifnullNo (X : Stand p l e R s m args below meth c T locs cells slots) (hx : p.tables.exec = Jvm.exec) {pc : Nat} {ls : Array Slot} {st : List Value} {pc' : Nat} {o : Int} {b : Addr} (hd : decode c.code pc = .ok (.ifnull o, 3))  (k : Wq p e below En Q (T.setTop (mkF m pc' ls st))) (hpc : pc + 3 = pc' := by rfl) : Wq p e below En Q (T.setTop (mkF m pc ls (.ref b :: st))) := by subst hpc; exact Wq.step (fun _ q => XS.ifnullNo X.here hx rfl hd rfl q) k
theorem Ow.ifnonnullYes (X : Stand p l e R s m args below meth c T locs cells slots) (hx : p.tables.exec = Jvm.exec) {pc : Nat} {ls : Array Slot} {st : List Value} {o : Int} {b : Addr} {pc' : Nat} (hd : decode c.code pc = .ok (.ifnonnull o, 3)) (ho : 0 ≤ (pc : Int) + o) (hp : ((pc : Int) + o).toNat = pc') (k : Wq p e below En Q (T.setTop (mkF m pc' ls st))) : Wq p e below En Q (T.setTop (mkF m pc ls (.ref b :: st))) := Wq.step (fun _ q => XS.ifnonnullYes X.here hx rfl rfl hd rfl ho hp q) k
theorem Ow.ifnonnullNo (X : Stand p l e R s m args below meth c T locs cells slots) (hx : p.tables.exec = Jvm.exec) {pc : Nat} {ls : Array Slot} {st : List Value} {pc' : Nat} {o : Int} (hd : decode c.code pc = .ok (.ifnonnull o, 3))  (k : Wq p e below En Q (T.setTop (mkF m pc' ls st))) (hpc : pc + 3 = pc' := by rfl) : Wq p e below En Q (T.setTop (mkF m pc ls (.null :: st))) := by subst hpc; exact Wq.step (fun _ q => XS.ifnonnullNo X.here hx rfl hd rfl q) k
theorem Ow.acmp (X : Stand p l e R s m args below meth c T locs cells slots) (hx : p.tables.exec = Jvm.exec) {pc : Nat} {ls : Array Slot} {st : List Value} {cd : ACond} {x y : Value} {o : Int} {pc' : Nat} {same : Bool} (hd : decode c.code pc = .ok (.if_acmp cd o, 3)) (h1 : x.isRef = true) (h2 : y.isRef = true) (hq : decide (x = y) = same) (ho : 0 ≤ (pc : Int) + o) (hp : pc' = if acV cd same = true then ((pc : Int) + o).toNat else pc + 3) (k : Wq p e below En Q (T.setTop (mkF m pc' ls st))) : Wq p e below En Q (T.setTop (mkF m pc ls (y :: x :: st))) := Wq.step (fun _ q => Jvm.RoadKit.acmp (g := mkF m pc ls (y :: x :: st)) X hx rfl h1 h2 rfl hd rfl hq ho hp q) k
theorem Ow.ldcInt (X : Stand p l e R s m args below meth c T locs cells slots) (hx : p.tables.exec = Jvm.exec) (hZ : Z.Warmed39 s.vm) {a0 : Array Value} {own : String} {index : Nat} {v : Int32} {pc pc' : Nat} {ls : Array Slot} {st : List Value} (hown : s.vm.findClass own = some m.cls) (w : (Cond.constant own index v).before a0 Z = true) (hd : decode c.code pc = .ok (.ldc index, 2)) (k : Wq p e below En Q (T.setTop (mkF m pc' ls (.int v :: st)))) (hpc : pc + 2 = pc' := by rfl) : Wq p e below En Q (T.setTop (mkF m pc ls st)) := by subst hpc; exact Wq.step (fun _ q => X.ldcInt hx hown (mvT hZ w) (g := mkF m pc ls st) rfl hd _ q) k
theorem Ow.ldcwInt (X : Stand p l e R s m args below meth c T locs cells slots) (hx : p.tables.exec = Jvm.exec) (hZ : Z.Warmed39 s.vm) {a0 : Array Value} {own : String} {index : Nat} {v : Int32} {pc pc' : Nat} {ls : Array Slot} {st : List Value} (hown : s.vm.findClass own = some m.cls) (w : (Cond.constant own index v).before a0 Z = true) (hd : decode c.code pc = .ok (.ldc_w index, 3)) (k : Wq p e below En Q (T.setTop (mkF m pc' ls (.int v :: st)))) (hpc : pc + 3 = pc' := by rfl) : Wq p e below En Q (T.setTop (mkF m pc ls st)) := by subst hpc; exact Wq.step (fun _ q => X.ldcwInt hx hown (mvT hZ w) (g := mkF m pc ls st) rfl hd _ q) k
theorem Ow.ldc2Long (X : Stand p l e R s m args below meth c T locs cells slots) (hx : p.tables.exec = Jvm.exec) (hZ : Z.Warmed39 s.vm) {a0 : Array Value} {own : String} {index : Nat} {v : Int64} {pc pc' : Nat} {ls : Array Slot} {st : List Value} (hown : s.vm.findClass own = some m.cls) (w : (Cond.constantLong own index v).before a0 Z = true) (hd : decode c.code pc = .ok (.ldc2_w index, 3)) (k : Wq p e below En Q (T.setTop (mkF m pc' ls (.long v :: st)))) (hpc : pc + 3 = pc' := by rfl) : Wq p e below En Q (T.setTop (mkF m pc ls st)) := by subst hpc; exact Wq.step (fun _ q => X.ldc2Long hx hown (mvT hZ w) (g := mkF m pc ls st) rfl hd _ q) k
theorem Ow.ldI (X : Stand p l e R s m args below meth c T locs cells slots) (hx : p.tables.exec = Jvm.exec) (hZ : Z.Warmed39 s.vm) (eT : T.heap = h) (V : Al Z h a .int vs) {pc pc' : Nat} {ls : Array Slot} {st : List Value} {j : Int32} {i : Nat} (hd : decode c.code pc = .ok (.iaload, 1)) (hj : ¬ j < 0) (hi : j.toNatClampNeg = i) (hv : vs[i]? = some v) (k : Wq p e below En Q (T.setTop (mkF m pc' ls (v :: st)))) (hpc : pc + 1 = pc' := by rfl) : Wq p e below En Q (T.setTop (mkF m pc ls (.int j :: .ref a :: st))) := by subst hpc; exact Wq.step (fun _ q => Jvm.OwnW.ldI X hx hZ eT V hj hi hv (g := mkF m pc ls (.int j :: .ref a :: st)) rfl rfl hd q) k
theorem Ow.ldJ (X : Stand p l e R s m args below meth c T locs cells slots) (hx : p.tables.exec = Jvm.exec) (hZ : Z.Warmed39 s.vm) (eT : T.heap = h) (V : Al Z h a .long vs) {pc pc' : Nat} {ls : Array Slot} {st : List Value} {j : Int32} {i : Nat} (hd : decode c.code pc = .ok (.laload, 1)) (hj : ¬ j < 0) (hi : j.toNatClampNeg = i) (hv : vs[i]? = some v) (k : Wq p e below En Q (T.setTop (mkF m pc' ls (v :: st)))) (hpc : pc + 1 = pc' := by rfl) : Wq p e below En Q (T.setTop (mkF m pc ls (.int j :: .ref a :: st))) := by subst hpc; exact Wq.step (fun _ q => Jvm.OwnW.ldJ X hx hZ eT V hj hi hv (g := mkF m pc ls (.int j :: .ref a :: st)) rfl rfl hd q) k
theorem Ow.ldC (X : Stand p l e R s m args below meth c T locs cells slots) (hx : p.tables.exec = Jvm.exec) (hZ : Z.Warmed39 s.vm) (eT : T.heap = h) (V : Al Z h a .char vs) {pc pc' : Nat} {ls : Array Slot} {st : List Value} {j : Int32} {i : Nat} (hd : decode c.code pc = .ok (.caload, 1)) (hj : ¬ j < 0) (hi : j.toNatClampNeg = i) (hv : vs[i]? = some v) (k : Wq p e below En Q (T.setTop (mkF m pc' ls (v :: st)))) (hpc : pc + 1 = pc' := by rfl) : Wq p e below En Q (T.setTop (mkF m pc ls (.int j :: .ref a :: st))) := by subst hpc; exact Wq.step (fun _ q => Jvm.OwnW.ldC X hx hZ eT V hj hi hv (g := mkF m pc ls (.int j :: .ref a :: st)) rfl rfl hd q) k
theorem Ow.ldB (X : Stand p l e R s m args below meth c T locs cells slots) (hx : p.tables.exec = Jvm.exec) (hZ : Z.Warmed39 s.vm) (eT : T.heap = h) (V : Al Z h a .byte vs) {pc pc' : Nat} {ls : Array Slot} {st : List Value} {j : Int32} {i : Nat} (hd : decode c.code pc = .ok (.baload, 1)) (hj : ¬ j < 0) (hi : j.toNatClampNeg = i) (hv : vs[i]? = some v) (k : Wq p e below En Q (T.setTop (mkF m pc' ls (v :: st)))) (hpc : pc + 1 = pc' := by rfl) : Wq p e below En Q (T.setTop (mkF m pc ls (.int j :: .ref a :: st))) := by subst hpc; exact Wq.step (fun _ q => Jvm.OwnW.ldB X hx hZ eT V hj hi hv (g := mkF m pc ls (.int j :: .ref a :: st)) rfl rfl hd q) k
theorem Ow.ldZ (X : Stand p l e R s m args below meth c T locs cells slots) (hx : p.tables.exec = Jvm.exec) (hZ : Z.Warmed39 s.vm) (eT : T.heap = h) (V : Al Z h a .boolean vs) {pc pc' : Nat} {ls : Array Slot} {st : List Value} {j : Int32} {i : Nat} (hd : decode c.code pc = .ok (.baload, 1)) (hj : ¬ j < 0) (hi : j.toNatClampNeg = i) (hv : vs[i]? = some v) (k : Wq p e below En Q (T.setTop (mkF m pc' ls (v :: st)))) (hpc : pc + 1 = pc' := by rfl) : Wq p e below En Q (T.setTop (mkF m pc ls (.int j :: .ref a :: st))) := by subst hpc; exact Wq.step (fun _ q => Jvm.OwnW.ldZ X hx hZ eT V hj hi hv (g := mkF m pc ls (.int j :: .ref a :: st)) rfl rfl hd q) k
theorem Ow.ldR (X : Stand p l e R s m args below meth c T locs cells slots) (hx : p.tables.exec = Jvm.exec) (hZ : Z.Warmed39 s.vm) (eT : T.heap = h) (V : Al Z h a ty vs) (hty : ty.isReference = true) {pc pc' : Nat} {ls : Array Slot} {st : List Value} {j : Int32} {i : Nat} (hd : decode c.code pc = .ok (.aaload, 1)) (hj : ¬ j < 0) (hi : j.toNatClampNeg = i) (hv : vs[i]? = some v) (k : Wq p e below En Q (T.setTop (mkF m pc' ls (v :: st)))) (hpc : pc + 1 = pc' := by rfl) : Wq p e below En Q (T.setTop (mkF m pc ls (.int j :: .ref a :: st))) := by
  subst hpc
  obtain ⟨cl, A, r⟩ := V
  exact Wq.step (fun _ q => X.aaload hx (by rw [eT]; exact A.1) (State.isArrayOf_alike hZ.alike A.2.1) hty A.2.2 (al_in r hj hi (al_lt hv)) (al_at r hi hv) (g := mkF m pc ls (.int j :: .ref a :: st)) rfl rfl hd _ q) k
theorem Ow.lenA (X : Stand p l e R s m args below meth c T locs cells slots) (hx : p.tables.exec = Jvm.exec) (hZ : Z.Warmed39 s.vm) (eT : T.heap = h) (V : Al Z h a ty vs) {pc pc' : Nat} {ls : Array Slot} {st : List Value} {n : Int32} (hd : decode c.code pc = .ok (.arraylength, 1)) (hn : vs.length.toInt32 = n) (k : Wq p e below En Q (T.setTop (mkF m pc' ls (.int n :: st)))) (hpc : pc + 1 = pc' := by rfl) : Wq p e below En Q (T.setTop (mkF m pc ls (.ref a :: st))) := by subst hpc; exact Wq.step (fun _ q => Jvm.OwnW.lenA X hx hZ eT V hn (g := mkF m pc ls (.ref a :: st)) rfl rfl hd q) k
end Base
end Jvm.OwnW
/- laws to paste: Road.backV (cut by pick.py; bodies as the Statement names them) -/
namespace Jvm.Pilot.@@N@@
namespace StrChars
open Jvm Sem ClassFile Op Lib Jvm.Stand Jvm.Free.XT Jvm.Free.ALB Jvm.Free.JM Jvm.Free
open Jvm.Lib.Cold (StaticIs)
/-- a char array whose places are chars -/
def Ch (a : Addr) (A : Cell) (U : State) : Prop := Arr .char a A U ∧ Typed .char A
theorem Ch.mv {a : Addr} {A : Cell} {U U' : State} (h : Ch a A U) (hal : U.vm.Alike U'.vm) (hh : U'.heap = U.heap) : Ch a A U' := ⟨h.1.mv hal hh, h.2⟩
theorem Ch.keep {a : Addr} {A : Cell} {U U' : State} (h : Ch a A U) (hal : U.vm.Alike U'.vm) (hk : U'.heap[a]? = some A) : Ch a A U' := ⟨h.1.keep hal hk, h.2⟩
/-- what place i of a char[]'s cell holds -/
def cv (A : Cell) (i : Nat) : Int32 := match A.slots[i]? with | some (.int x) => x | _ => 0
theorem Ch.get {a : Addr} {A : Cell} {U : State} (h : Ch a A U) {i : Nat} (hi : i < A.slots.size) : A.slots[i]? = some (.int (cv A i)) := by
  have e := Array.getElem?_eq_getElem hi
  have f := h.2 i _ e
  unfold cv; rw [e]
  generalize A.slots[i] = v at f
  cases v <;> simp [fits] at f ⊢
/-- the byte that i2b leaves of a char -/
def lo8 (x : Int32) : Int32 := x.toInt8.toInt32
theorem fits_lo8 (y : Int32) : fits .byte (.int (lo8 y)) = true := by
  have h1 := y.toInt8.le_toInt
  have h2 := y.toInt8.toInt_lt
  simp only [lo8, fits, Bool.and_eq_true, decide_eq_true_eq, Int32.le_iff_toInt_le, Int8.toInt_toInt32, show (-128 : Int32).toInt = -128 from by decide, show (127 : Int32).toInt = 127 from by decide]
  omega
/-- A' is A but that each place j of lo .. hi - 1 holds f j -/
def Laid (A A' : Cell) (lo hi : Nat) (f : Nat → Value) : Prop := A'.cls = A.cls ∧ A'.vm = A.vm ∧ A'.slots.size = A.slots.size ∧ ∀ i, A'.slots[i]? = if lo ≤ i ∧ i < hi then some (f i) else A.slots[i]?
theorem Laid.zero (A : Cell) (lo : Nat) (f : Nat → Value) : Laid A A lo (lo + 0) f := ⟨rfl, rfl, rfl, fun i => by rw [if_neg (by omega)]⟩
theorem Laid.step {A Ak : Cell} {lo k : Nat} {f : Nat → Value} {v : Value} (h : Laid A Ak lo k f) (hlo : lo ≤ k) (hk : k < Ak.slots.size) (hv : v = f k) : Laid A (Ak.setSlot k v) lo (k + 1) f := by
  refine ⟨h.1, h.2.1, by simpa [Cell.setSlot] using h.2.2.1, fun i => ?_⟩
  by_cases e : k = i
  · subst e; rw [Cell.slots_setSlot_self v hk, if_pos (by omega), hv]
  · rw [Cell.slots_setSlot_ne v e, h.2.2.2 i]
    by_cases q : lo ≤ i ∧ i < k
    · rw [if_pos q, if_pos (by omega)]
    · rw [if_neg q, if_neg (by omega)]
def U16 : String := "java/lang/StringUTF16"
namespace Cmp5
def yN : MethodName := ⟨"java/lang/StringUTF16", "compress", "([CI[BII)I"⟩
abbrev yB : ByteArray := jdk_52_method_21_code
theorem d0 : decode yB 0 = .ok (.iconst 0, 1) := by decide +kernel
theorem d1 : decode yB 1 = .ok (.istore 5, 2) := by decide +kernel
theorem d3 : decode yB 3 = .ok (.iload 5, 2) := by decide +kernel
theorem d5 : decode yB 5 = .ok (.iload 4, 2) := by decide +kernel
theorem d7 : decode yB 7 = .ok (.if_icmp (.ge) 37, 3) := by decide +kernel
theorem d10 : decode yB 10 = .ok (.aload_n 0, 1) := by decide +kernel
theorem d11 : decode yB 11 = .ok (.iload_n 1, 1) := by decide +kernel
theorem d12 : decode yB 12 = .ok (.caload, 1) := by decide +kernel
theorem d13 : decode yB 13 = .ok (.istore 6, 2) := by decide +kernel
theorem d15 : decode yB 15 = .ok (.iload 6, 2) := by decide +kernel
theorem d17 : decode yB 17 = .ok (.sipush 255, 3) := by decide +kernel
theorem d20 : decode yB 20 = .ok (.if_icmp (.le) 6, 3) := by decide +kernel
theorem d26 : decode yB 26 = .ok (.aload_n 2, 1) := by decide +kernel
theorem d27 : decode yB 27 = .ok (.iload_n 3, 1) := by decide +kernel
theorem d28 : decode yB 28 = .ok (.iload 6, 2) := by decide +kernel
theorem d30 : decode yB 30 = .ok (.i2b, 1) := by decide +kernel
theorem d31 : decode yB 31 = .ok (.bastore, 1) := by decide +kernel
theorem d32 : decode yB 32 = .ok (.iinc 1 1, 3) := by decide +kernel
theorem d35 : decode yB 35 = .ok (.iinc 3 1, 3) := by decide +kernel
theorem d38 : decode yB 38 = .ok (.iinc 5 1, 3) := by decide +kernel
theorem d41 : decode yB 41 = .ok (.goto (-38), 3) := by decide +kernel
theorem d44 : decode yB 44 = .ok (.iload 4, 2) := by decide +kernel
theorem d46 : decode yB 46 = .ok (.ireturn, 1) := by decide +kernel
def site : List Cond := []
def tab : Cond := tabOf yN yB 7 (some .int) site
def P (b : Addr) (A : Cell) (d : Addr) (B : Cell) (o q len : Nat) (args : Array Value) (s : State) : Prop := args = #[.ref b, .int (Int32.ofNat o), .ref d, .int (Int32.ofNat q), .int (Int32.ofNat len)] ∧ Ch b A s ∧ Arr .byte d B s ∧ b ≠ d ∧ o + len ≤ A.slots.size ∧ q + len ≤ B.slots.size ∧ ∀ i, i < len → ¬ 255 < cv A (o + i)
def E (b : Addr) (A : Cell) (d : Addr) (B : Cell) (o q len : Nat) (r : Option Value) (s u : State) : Prop := r = some (.int (Int32.ofNat len)) ∧ ∃ B', Put d B' s u ∧ Laid B B' q (q + len) (fun j => Value.int (lo8 (cv A (o + (j - q)))))
/-- no char of the range above 255: len; the places written hold each char's low byte -/
theorem law (l : Launch) (b : Addr) (A : Cell) (d : Addr) (B : Cell) (o q len : Nat) : Law l yN 5 5 0 0 yB 7 (some .int) site (P b A d B o q len) (E b A d B o q len) (copyLocs d q len) 0 0 := by
  refine Law.of_walk (plainFor_of_name (by decide +kernel)) (by decide +kernel) (by decide +kernel) (by decide) (fun _ _ h => by rw [h.1]; rfl) (fun _ U U' hal hh h => ⟨h.1, h.2.1.mv hal hh, h.2.2.1.mv hal hh, h.2.2.2⟩) (fun r U U' V V' h1 hal h2 h => ⟨h.1, h.2.elim fun B' q => ⟨B', q.1.mv h1 h2, q.2⟩⟩) ?_
  intro p e s m args below meth c s₁ X0 hexec hbytes hml hret hlk hnm hown hh0 W hP
  obtain ⟨rfl, hA, hB, hne, l1, l2, hp⟩ := hP
  have c1 : Steps p.tables e below (s₁.setTop (entryFrame m #[.ref b, .int (Int32.ofNat o), .ref d, .int (Int32.ofNat q), .int (Int32.ofNat len)] 7)) (s₁.setTop (mkF m 0 #[.val (.ref b), .val (.int (Int32.ofNat o)), .val (.ref d), .val (.int (Int32.ofNat q)), .val (.int (Int32.ofNat len)), .unset, .unset] [])) := entry rfl
  have hA0 := hA.1.mv X0.warmed.alike hh0
  have hB0 := hB.mv X0.warmed.alike hh0
  have a31 := hA.1.2.2.2
  have c2 : Steps p.tables e below (s₁.setTop (entryFrame m #[.ref b, .int (Int32.ofNat o), .ref d, .int (Int32.ofNat q), .int (Int32.ofNat len)] 7)) (s₁.setTop (mkF m 3 #[.val (.ref b), .val (.int (Int32.ofNat o)), .val (.ref d), .val (.int (Int32.ofNat q)), .val (.int (Int32.ofNat len)), .val (.int 0), .unset] [])) := c1.trans (by
    refine iconstV X0.here hexec rfl 0 (hb hbytes d0) (by decide) ?_
    refine XS.istore X0.here hexec rfl (hb hbytes d1) rfl rfl ?_
    exact Steps.refl _)
  have loop : ∀ (r i : Nat), i + r = len → ∀ (z : Slot), (z = .unset ∨ ∃ w, z = .val w ∧ w.category = 1) → ∀ (Tl : State) (Bk : Cell), Stand p l e { frames := 0, locals := 0, cells := 0, slots := 0 } s m #[.ref b, .int (Int32.ofNat o), .ref d, .int (Int32.ofNat q), .int (Int32.ofNat len)] below meth c Tl ([] ++ copyLocs d q i) 0 0 → Put d Bk s₁ Tl → Laid B Bk q (q + i) (fun j => Value.int (lo8 (cv A (o + (j - q))))) →
      Steps p.tables e below (s₁.setTop (entryFrame m #[.ref b, .int (Int32.ofNat o), .ref d, .int (Int32.ofNat q), .int (Int32.ofNat len)] 7)) (Tl.setTop (mkF m 3 #[.val (.ref b), .val (.int (Int32.ofNat (o + i))), .val (.ref d), .val (.int (Int32.ofNat (q + i))), .val (.int (Int32.ofNat len)), .val (.int (Int32.ofNat i)), z] [])) → ∃ (T' : State) (B' : Cell) (z' : Slot), Stand p l e { frames := 0, locals := 0, cells := 0, slots := 0 } s m #[.ref b, .int (Int32.ofNat o), .ref d, .int (Int32.ofNat q), .int (Int32.ofNat len)] below meth c T' ([] ++ copyLocs d q len) 0 0 ∧ Put d B' s₁ T' ∧ Laid B B' q (q + len) (fun j => Value.int (lo8 (cv A (o + (j - q))))) ∧
      Steps p.tables e below (s₁.setTop (entryFrame m #[.ref b, .int (Int32.ofNat o), .ref d, .int (Int32.ofNat q), .int (Int32.ofNat len)] 7)) (T'.setTop (mkF m 3 #[.val (.ref b), .val (.int (Int32.ofNat (o + len))), .val (.ref d), .val (.int (Int32.ofNat (q + len))), .val (.int (Int32.ofNat len)), .val (.int (Int32.ofNat len)), z'] [])) := by
    intro r
    induction r with
    | zero =>
      intro i hi z hz Tl Bk Xl pl fl cl
      have hil : i = len := by omega
      rw [hil] at Xl fl cl
      exact ⟨Tl, Bk, z, Xl, pl, fl, cl⟩
    | succ r ih =>
      intro i hi z hz Tl Bk Xl pl fl cl
      have all := X0.warmed.alike.symm.trans Xl.warmed.alike
      have hAl := hA0.keep all (pl.other hne hA0.1)
      have hBk := hB0.like all pl.1 fl.1 fl.2.1 fl.2.2.1
      have hlt : q + i < Bk.slots.size := by rw [fl.2.2.1]; omega
      have c3 : Steps p.tables e below (s₁.setTop (entryFrame m #[.ref b, .int (Int32.ofNat o), .ref d, .int (Int32.ofNat q), .int (Int32.ofNat len)] 7)) (Tl.setTop (mkF m 12 #[.val (.ref b), .val (.int (Int32.ofNat (o + i))), .val (.ref d), .val (.int (Int32.ofNat (q + i))), .val (.int (Int32.ofNat len)), .val (.int (Int32.ofNat i)), z] [.int (Int32.ofNat (o + i)), .ref b])) := cl.trans (by
        refine XS.iload Xl.here hexec rfl (hb hbytes d3) rfl ?_
        refine XS.iload Xl.here hexec rfl (hb hbytes d5) rfl ?_
        refine XS.icmpNo Xl.here hexec rfl (hb hbytes d7) rfl (ii_ge_f (lt32 (by omega) (by omega))) ?_
        refine XS.aloadN Xl.here hexec rfl (hb hbytes d10) rfl rfl ?_
        refine XS.iloadN Xl.here hexec rfl (hb hbytes d11) rfl ?_
        exact Steps.refl _)
      have c4 : Steps p.tables e below (s₁.setTop (entryFrame m #[.ref b, .int (Int32.ofNat o), .ref d, .int (Int32.ofNat q), .int (Int32.ofNat len)] 7)) (Tl.setTop (mkF m 13 #[.val (.ref b), .val (.int (Int32.ofNat (o + i))), .val (.ref d), .val (.int (Int32.ofNat (q + i))), .val (.int (Int32.ofNat len)), .val (.int (Int32.ofNat i)), z] [.int (cv A (o + i))])) := c3.trans (by
        refine Xl.aget hexec hAl rfl (hA.get (i := o + i) (by omega)) rfl rfl (hb hbytes d12) ?_
        exact Steps.refl _)
      have c5 : Steps p.tables e below (s₁.setTop (entryFrame m #[.ref b, .int (Int32.ofNat o), .ref d, .int (Int32.ofNat q), .int (Int32.ofNat len)] 7)) (Tl.setTop (mkF m 15 #[.val (.ref b), .val (.int (Int32.ofNat (o + i))), .val (.ref d), .val (.int (Int32.ofNat (q + i))), .val (.int (Int32.ofNat len)), .val (.int (Int32.ofNat i)), .val (.int (cv A (o + i)))] [])) := c4.trans (by
        refine XS.istoreS Xl.here hexec rfl (hb hbytes d13) rfl rfl hz ?_
        exact Steps.refl _)
      have c6 : Steps p.tables e below (s₁.setTop (entryFrame m #[.ref b, .int (Int32.ofNat o), .ref d, .int (Int32.ofNat q), .int (Int32.ofNat len)] 7)) (Tl.setTop (mkF m 31 #[.val (.ref b), .val (.int (Int32.ofNat (o + i))), .val (.ref d), .val (.int (Int32.ofNat (q + i))), .val (.int (Int32.ofNat len)), .val (.int (Int32.ofNat i)), .val (.int (cv A (o + i)))] [.int (lo8 (cv A (o + i))), .int (Int32.ofNat (q + i)), .ref d])) := c5.trans (by
        refine XS.iload Xl.here hexec rfl (hb hbytes d15) rfl ?_
        refine sipushV Xl.here hexec rfl 255 (hb hbytes d17) (by decide) ?_
        refine XS.icmpYes Xl.here hexec rfl (pc0 := 20) rfl (hb hbytes d20) rfl (ii_le_t (hp i (by omega))) (by decide) rfl ?_
        refine XS.aloadN Xl.here hexec rfl (hb hbytes d26) rfl rfl ?_
        refine XS.iloadN Xl.here hexec rfl (hb hbytes d27) rfl ?_
        refine XS.iload Xl.here hexec rfl (hb hbytes d28) rfl ?_
        refine i2b Xl.here hexec rfl (hb hbytes d30) rfl ?_
        exact Steps.refl _)
      obtain ⟨T7, X7, p7, st7⟩ := Xl.aput hexec hBk rfl hlt rfl (fits_lo8 (cv A (o + i))) (g := (mkF m 31 #[.val (.ref b), .val (.int (Int32.ofNat (o + i))), .val (.ref d), .val (.int (Int32.ofNat (q + i))), .val (.int (Int32.ofNat len)), .val (.int (Int32.ofNat i)), .val (.int (cv A (o + i)))] [.int (lo8 (cv A (o + i))), .int (Int32.ofNat (q + i)), .ref d])) rfl (rest := []) rfl (hb hbytes d31)
      have c8 : Steps p.tables e below (s₁.setTop (entryFrame m #[.ref b, .int (Int32.ofNat o), .ref d, .int (Int32.ofNat q), .int (Int32.ofNat len)] 7)) (T7.setTop (mkF m 32 #[.val (.ref b), .val (.int (Int32.ofNat (o + i))), .val (.ref d), .val (.int (Int32.ofNat (q + i))), .val (.int (Int32.ofNat len)), .val (.int (Int32.ofNat i)), .val (.int (cv A (o + i)))] [])) := c6.trans (st7 _ (Steps.refl _))
      have c9 : Steps p.tables e below (s₁.setTop (entryFrame m #[.ref b, .int (Int32.ofNat o), .ref d, .int (Int32.ofNat q), .int (Int32.ofNat len)] 7)) (T7.setTop (mkF m 3 #[.val (.ref b), .val (.int (Int32.ofNat (o + i) + 1)), .val (.ref d), .val (.int (Int32.ofNat (q + i) + 1)), .val (.int (Int32.ofNat len)), .val (.int (Int32.ofNat i + 1)), .val (.int (cv A (o + i)))] [])) := c8.trans (by
        refine iincV X7.here hexec rfl 1 (hb hbytes d32) (by decide) rfl rfl ?_
        refine iincV X7.here hexec rfl 1 (hb hbytes d35) (by decide) rfl rfl ?_
        refine iincV X7.here hexec rfl 1 (hb hbytes d38) (by decide) rfl rfl ?_
        refine XS.goto X7.here hexec rfl (pc0 := 41) rfl (hb hbytes d41) (by decide) rfl ?_
        exact Steps.refl _)
      have c10 : Steps p.tables e below (s₁.setTop (entryFrame m #[.ref b, .int (Int32.ofNat o), .ref d, .int (Int32.ofNat q), .int (Int32.ofNat len)] 7)) (T7.setTop (mkF m 3 #[.val (.ref b), .val (.int (Int32.ofNat (o + (i + 1)))), .val (.ref d), .val (.int (Int32.ofNat (q + (i + 1)))), .val (.int (Int32.ofNat len)), .val (.int (Int32.ofNat (i + 1))), .val (.int (cv A (o + i)))] [])) := by
        have := c9
        rw [succ32, succ32, succ32] at this
        exact this
      exact ih (i + 1) (by omega) _ (Or.inr ⟨_, rfl, rfl⟩) T7 _ (by rw [copyLocs_step, ← List.append_assoc]; exact X7) (pl.trans p7) (fl.step (by omega) hlt (by simp)) c10
  obtain ⟨T9, B9, z9, X9, p9, f9, g9⟩ := loop len 0 (by omega) .unset (Or.inl rfl) s₁ B (by simpa [copyLocs] using X0) ⟨hB0.1, fun _ _ => rfl, rfl⟩ (Laid.zero _ _ _) c2
  have c11 : Steps p.tables e below (s₁.setTop (entryFrame m #[.ref b, .int (Int32.ofNat o), .ref d, .int (Int32.ofNat q), .int (Int32.ofNat len)] 7)) (T9.setTop (mkF m 46 #[.val (.ref b), .val (.int (Int32.ofNat (o + len))), .val (.ref d), .val (.int (Int32.ofNat (q + len))), .val (.int (Int32.ofNat len)), .val (.int (Int32.ofNat len)), z9] [.int (Int32.ofNat len)])) := g9.trans (by
    refine XS.iload X9.here hexec rfl (hb hbytes d3) rfl ?_
    refine XS.iload X9.here hexec rfl (hb hbytes d5) rfl ?_
    refine XS.icmpYes X9.here hexec rfl (pc0 := 7) rfl (hb hbytes d7) rfl (ii_ge_t (nlt32 (by omega) (Nat.le_refl _))) (by decide) rfl ?_
    refine XS.iload X9.here hexec rfl (hb hbytes d44) rfl ?_
    exact Steps.refl _)
  exact ⟨T9, some (.int (Int32.ofNat len)), _, _, _, X9, by simp, rfl, rfl, (fun h => by cases h), ⟨rfl, B9, p9.from hh0, f9⟩, fun fs hl => c11.trans (X9.ireturnOut hexec hret rfl (Or.inl rfl) (hb hbytes d46) hl)⟩
end Cmp5
namespace Cmp3
def yN : MethodName := ⟨"java/lang/StringUTF16", "compress", "([CII)[B"⟩
abbrev yB : ByteArray := jdk_52_method_16_code
theorem d0 : decode yB 0 = .ok (.iload_n 2, 1) := by decide +kernel
theorem d1 : decode yB 1 = .ok (.newarray .byte, 2) := by decide +kernel
theorem d3 : decode yB 3 = .ok (.astore_n 3, 1) := by decide +kernel
theorem d4 : decode yB 4 = .ok (.aload_n 0, 1) := by decide +kernel
theorem d5 : decode yB 5 = .ok (.iload_n 1, 1) := by decide +kernel
theorem d6 : decode yB 6 = .ok (.aload_n 3, 1) := by decide +kernel
theorem d7 : decode yB 7 = .ok (.iconst 0, 1) := by decide +kernel
theorem d8 : decode yB 8 = .ok (.iload_n 2, 1) := by decide +kernel
theorem d9 : decode yB 9 = .ok (.invokestatic 115, 3) := by decide +kernel
theorem d12 : decode yB 12 = .ok (.istore 4, 2) := by decide +kernel
theorem d14 : decode yB 14 = .ok (.iload 4, 2) := by decide +kernel
theorem d16 : decode yB 16 = .ok (.iload_n 2, 1) := by decide +kernel
theorem d17 : decode yB 17 = .ok (.if_icmp (.eq) 40, 3) := by decide +kernel
theorem d57 : decode yB 57 = .ok (.aload_n 3, 1) := by decide +kernel
theorem d58 : decode yB 58 = .ok (.areturn, 1) := by decide +kernel
def site : List Cond := [.arrayClass .byte, Cmp5.tab] ++ staticW U16 115 Cmp5.yN
def tab : Cond := tabOf yN yB 6 (some (.array .byte)) site
def P (b : Addr) (A : Cell) (o len : Nat) (args : Array Value) (s : State) : Prop := args = #[.ref b, .int (Int32.ofNat o), .int (Int32.ofNat len)] ∧ Ch b A s ∧ o + len ≤ A.slots.size ∧ len ≤ 536870912 ∧ ∀ i, i < len → ¬ 255 < cv A (o + i)
def E (b : Addr) (A : Cell) (o len : Nat) (r : Option Value) (s u : State) : Prop := NewArr .byte "[B" len (fun j => .int (lo8 (cv A (o + j)))) r s u ∧ u.heap.size = s.heap.size + 1
/-- no char of the range above 255: a new byte[] of their low bytes -/
theorem law (l : Launch) (b : Addr) (A : Cell) (o len : Nat) : Law l yN 3 3 1 18 yB 6 (some (.array .byte)) site (P b A o len) (E b A o len) [] 1 len := by
  refine Law.of_walk (plainFor_of_name (by decide +kernel)) (by decide +kernel) (by decide +kernel) (by decide) (fun _ _ h => by rw [h.1]; rfl) (fun _ U U' hal hh h => ⟨h.1, h.2.1.mv hal hh, h.2.2⟩) (fun r U U' V V' h1 hal h2 h => ⟨NewArr.mv r U U' V V' h1 hal h2 h.1, by rw [h1, h2]; exact h.2⟩) ?_
  intro p e s m args below meth c s₁ X0 hexec hbytes hml hret hlk hnm hown hh0 W hP
  obtain ⟨rfl, hA, l1, l2, hp⟩ := hP
  have a31 := hA.1.2.2.2
  have c1 : Steps p.tables e below (s₁.setTop (entryFrame m #[.ref b, .int (Int32.ofNat o), .int (Int32.ofNat len)] 6)) (s₁.setTop (mkF m 0 #[.val (.ref b), .val (.int (Int32.ofNat o)), .val (.int (Int32.ofNat len)), .unset, .unset, .unset] [])) := entry rfl
  have c2 : Steps p.tables e below (s₁.setTop (entryFrame m #[.ref b, .int (Int32.ofNat o), .int (Int32.ofNat len)] 6)) (s₁.setTop (mkF m 1 #[.val (.ref b), .val (.int (Int32.ofNat o)), .val (.int (Int32.ofNat len)), .unset, .unset, .unset] [.int (Int32.ofNat len)])) := c1.trans (by
    refine XS.iloadN X0.here hexec rfl (hb hbytes d0) rfl ?_
    exact Steps.refl _)
  obtain ⟨T3, B3, X3, ba3, bs3, bv3, bh3, bf3, st3⟩ := X0.anew hexec (atype := .byte) (wk W (.arrayClass .byte)) rfl (by show len * 1 ≤ _; omega) (by omega) (g := (mkF m 1 #[.val (.ref b), .val (.int (Int32.ofNat o)), .val (.int (Int32.ofNat len)), .unset, .unset, .unset] [.int (Int32.ofNat len)])) rfl (hb hbytes d1) (rest := []) rfl (Nat.le_refl _) (by show 0 + len ≤ len; omega)
  rw [hh0] at ba3 st3
  have kp3 : XT.Kept s T3 := (XT.Kept.of_eq hh0).push bh3
  have hA3 := hA.keep X3.warmed.alike (kp3 _ _ hA.1.1)
  have hne : b ≠ s.heap.size := hA.1.ne
  have c4 : Steps p.tables e below (s₁.setTop (entryFrame m #[.ref b, .int (Int32.ofNat o), .int (Int32.ofNat len)] 6)) (T3.setTop (mkF m 3 #[.val (.ref b), .val (.int (Int32.ofNat o)), .val (.int (Int32.ofNat len)), .unset, .unset, .unset] [.ref s.heap.size])) := c2.trans (st3 _ (Steps.refl _))
  have c5 : Steps p.tables e below (s₁.setTop (entryFrame m #[.ref b, .int (Int32.ofNat o), .int (Int32.ofNat len)] 6)) (T3.setTop (mkF m 9 #[.val (.ref b), .val (.int (Int32.ofNat o)), .val (.int (Int32.ofNat len)), .val (.ref s.heap.size), .unset, .unset] [.int (Int32.ofNat len), .int 0, .ref s.heap.size, .int (Int32.ofNat o), .ref b])) := c4.trans (by
    refine XS.astoreN X3.here hexec rfl (hb hbytes d3) rfl rfl rfl ?_
    refine XS.aloadN X3.here hexec rfl (hb hbytes d4) rfl rfl ?_
    refine XS.iloadN X3.here hexec rfl (hb hbytes d5) rfl ?_
    refine XS.aloadN X3.here hexec rfl (hb hbytes d6) rfl rfl ?_
    refine iconstV X3.here hexec rfl 0 (hb hbytes d7) (by decide) ?_
    refine XS.iloadN X3.here hexec rfl (hb hbytes d8) rfl ?_
    exact Steps.refl _)
  obtain ⟨v6, T6, X6, E6, g6⟩ := X3.callS hexec (Cmp5.law l b A s.heap.size B3 o 0 len) hown (wks W (staticW U16 115 Cmp5.yN)) (wk W Cmp5.tab) (W := 0) (Nat.le_of_ble_eq_true rfl) (Nat.le_of_ble_eq_true rfl) (Nat.le_refl _) (by show 0 + len + 0 ≤ len; omega) (g := (mkF m 9 #[.val (.ref b), .val (.int (Int32.ofNat o)), .val (.int (Int32.ofNat len)), .val (.ref s.heap.size), .unset, .unset] [.int (Int32.ofNat len), .int (Int32.ofNat 0), .ref s.heap.size, .int (Int32.ofNat o), .ref b])) rfl (by rw [hml]; rfl) c5 (argsL := [.ref b, .int (Int32.ofNat o), .ref s.heap.size, .int (Int32.ofNat 0), .int (Int32.ofNat len)]) (rest := []) rfl rfl (by show 2 * 0 + 0 ≤ _; decide) (hb hbytes d9) (⟨rfl, hA3, ba3, hne, l1, by rw [bs3]; simp, hp⟩)
  obtain ⟨rfl, B6, p6, f6⟩ := E6
  have c7 : Steps p.tables e below (s₁.setTop (entryFrame m #[.ref b, .int (Int32.ofNat o), .int (Int32.ofNat len)] 6)) (T6.setTop (mkF m 12 #[.val (.ref b), .val (.int (Int32.ofNat o)), .val (.int (Int32.ofNat len)), .val (.ref s.heap.size), .unset, .unset] [.int (Int32.ofNat len)])) := g6
  have c8 : Steps p.tables e below (s₁.setTop (entryFrame m #[.ref b, .int (Int32.ofNat o), .int (Int32.ofNat len)] 6)) (T6.setTop (mkF m 58 #[.val (.ref b), .val (.int (Int32.ofNat o)), .val (.int (Int32.ofNat len)), .val (.ref s.heap.size), .val (.int (Int32.ofNat len)), .unset] [.ref s.heap.size])) := c7.trans (by
    refine XS.istore X6.here hexec rfl (hb hbytes d12) rfl rfl ?_
    refine XS.iload X6.here hexec rfl (hb hbytes d14) rfl ?_
    refine XS.iloadN X6.here hexec rfl (hb hbytes d16) rfl ?_
    refine XS.icmpYes X6.here hexec rfl (pc0 := 17) rfl (hb hbytes d17) rfl (ii_eq_t rfl) (by decide) rfl ?_
    refine XS.aloadN X6.here hexec rfl (hb hbytes d57) rfl rfl ?_
    exact Steps.refl _)
  have X8 := X6.wide (L' := []) (cells' := 1) (slots' := len) (fun x hx hlt => by
    simp only [List.nil_append, copyLocs, List.mem_map, List.mem_range] at hx
    obtain ⟨i, -, rfl⟩ := hx
    exact absurd hlt (Nat.lt_irrefl _)) (Nat.le_refl _) (by omega)
  exact ⟨T6, some (.ref s.heap.size), _, _, _, X8, rfl, rfl, rfl, (fun h => by cases h), ⟨⟨rfl, B6, ba3.like (X3.warmed.alike.symm.trans X6.warmed.alike) p6.1 f6.1 f6.2.1 f6.2.2.1, f6.2.1.trans bv3, by rw [X6.warmed.alike.findClass, f6.1]; exact bf3, by rw [f6.2.2.1, bs3]; simp, fun j hj => by rw [f6.2.2.2 j, if_pos (by omega)]; rfl, kp3.put p6 (Nat.le_refl _)⟩, by rw [p6.2.2, bh3, hh0]; simp⟩, fun fs hl => c8.trans (X8.areturnOut hexec rfl hret rfl (hb hbytes d58) hl)⟩
end Cmp3
namespace CodL
def yN : MethodName := ⟨"java/lang/StringUTF16", "coderFromArrayLen", "([BI)B"⟩
abbrev yB : ByteArray := jdk_52_method_15_code
theorem d0 : decode yB 0 = .ok (.iload_n 1, 1) := by decide +kernel
theorem d1 : decode yB 1 = .ok (.aload_n 0, 1) := by decide +kernel
theorem d2 : decode yB 2 = .ok (.arraylength, 1) := by decide +kernel
theorem d3 : decode yB 3 = .ok (.isub, 1) := by decide +kernel
theorem d4 : decode yB 4 = .ok (.bipush 31, 2) := by decide +kernel
theorem d6 : decode yB 6 = .ok (.iushr, 1) := by decide +kernel
theorem d7 : decode yB 7 = .ok (.i2b, 1) := by decide +kernel
theorem d8 : decode yB 8 = .ok (.ireturn, 1) := by decide +kernel
def site : List Cond := []
def tab : Cond := tabOf yN yB 2 (some .byte) site
def P (d : Addr) (B : Cell) (args : Array Value) (s : State) : Prop := args = #[.ref d, .int (Int32.ofNat B.slots.size)] ∧ Arr .byte d B s
def E (r : Option Value) (s u : State) : Prop := XT.PureE (some (.int 0)) r s u
/-- an array as long as the number of chars: LATIN1 -/
theorem law (l : Launch) (d : Addr) (B : Cell) : Law l yN 2 2 0 0 yB 2 (some .byte) site (P d B) E [] 0 0 := by
  refine Law.of_walk (plainFor_of_name (by decide +kernel)) (by decide +kernel) (by decide +kernel) (by decide) (fun _ _ h => by rw [h.1]; rfl) (fun _ U U' hal hh h => ⟨h.1, h.2.mv hal hh⟩) (fun r U U' V V' h1 hal h2 h => XT.PureE.mv r U U' V V' h1 hal h2 h) ?_
  intro p e s m args below meth c s₁ X0 hexec hbytes hml hret hlk hnm hown hh0 W hP
  obtain ⟨rfl, hB⟩ := hP
  have hB0 := hB.mv X0.warmed.alike hh0
  have c1 : Steps p.tables e below (s₁.setTop (entryFrame m #[.ref d, .int (Int32.ofNat B.slots.size)] 2)) (s₁.setTop (mkF m 0 #[.val (.ref d), .val (.int (Int32.ofNat B.slots.size))] [])) := entry rfl
  have c2 : Steps p.tables e below (s₁.setTop (entryFrame m #[.ref d, .int (Int32.ofNat B.slots.size)] 2)) (s₁.setTop (mkF m 2 #[.val (.ref d), .val (.int (Int32.ofNat B.slots.size))] [.ref d, .int (Int32.ofNat B.slots.size)])) := c1.trans (by
    refine XS.iloadN X0.here hexec rfl (hb hbytes d0) rfl ?_
    refine XS.aloadN X0.here hexec rfl (hb hbytes d1) rfl rfl ?_
    exact Steps.refl _)
  have c3 : Steps p.tables e below (s₁.setTop (entryFrame m #[.ref d, .int (Int32.ofNat B.slots.size)] 2)) (s₁.setTop (mkF m 8 #[.val (.ref d), .val (.int (Int32.ofNat B.slots.size))] [.int (lo8 (ushr (Int32.ofNat B.slots.size - Int32.ofNat B.slots.size) 31))])) := c2.trans (by
    refine X0.alen hexec hB0 rfl rfl (hb hbytes d2) ?_
    refine XS.isub X0.here hexec rfl (hb hbytes d3) rfl ?_
    refine bipushV X0.here hexec rfl 31 (hb hbytes d4) (by decide) ?_
    refine iushr X0.here hexec rfl (hb hbytes d6) rfl ?_
    refine i2b X0.here hexec rfl (hb hbytes d7) rfl ?_
    exact Steps.refl _)
  have e0 : lo8 (ushr (Int32.ofNat B.slots.size - Int32.ofNat B.slots.size) 31) = 0 := by rw [Int32.sub_self]; decide
  rw [e0] at c3
  exact ⟨s₁, some (.int 0), _, _, _, X0, rfl, rfl, rfl, (fun h => by cases h), ⟨rfl, hh0⟩, fun fs hl => c3.trans (X0.ireturnOut hexec hret rfl (Or.inr (Or.inr (Or.inl rfl))) (hb hbytes d8) hl)⟩
end CodL
/-- the String at a is Latin-1 over a new byte[] (the heap's one new cell): the low bytes of the len chars of A from o on; every cell but a is kept -/
def Got (a : Addr) (D : Cell) (fV fC : Field) (A : Cell) (o len : Nat) (r : Option Value) (s u : State) : Prop := r = none ∧ ∃ D' V : Cell, Blank "java/lang/String" a D' u ∧ Same D D' [fV.slot, fC.slot] ∧ D'.slots[fV.slot]? = some (.ref s.heap.size) ∧ D'.slots[fC.slot]? = some (.int 0) ∧ Arr .byte s.heap.size V u ∧ V.vm = .none ∧ u.vm.findClass "[B" = some V.cls ∧ V.slots.size = len ∧ (∀ j, j < len → V.slots[j]? = some (.int (lo8 (cv A (o + j))))) ∧ (∀ (y : Addr) (c : Cell), y ≠ a → s.heap[y]? = some c → u.heap[y]? = some c) ∧ u.heap.size = s.heap.size + 1
theorem Got.mv {a : Addr} {D A : Cell} {fV fC : Field} {o len : Nat} : ∀ r (U U' V V' : State), U'.heap = U.heap → V.vm.Alike V'.vm → V'.heap = V.heap → Got a D fV fC A o len r U V → Got a D fV fC A o len r U' V' :=
  fun r U U' V V' h1 hal h2 ⟨e0, D', X, a1, a2, a3, a4, a5, a6, a7, a8, a9, a10, a11⟩ => ⟨e0, D', X, a1.mv hal h2, a2, by rw [h1]; exact a3, a4, by rw [h1]; exact a5.mv hal h2, a6, by rw [hal.findClass]; exact a7, a8, a9, by rw [h1, h2]; exact a10, by rw [h1, h2]; exact a11⟩
namespace New4
def yN : MethodName := ⟨"java/lang/String", "<init>", "([CIILjava/lang/Void;)V"⟩
abbrev yB : ByteArray := jdk_42_method_149_code
theorem d0 : decode yB 0 = .ok (.aload_n 0, 1) := by decide +kernel
theorem d1 : decode yB 1 = .ok (.invokespecial 1, 3) := by decide +kernel
theorem d4 : decode yB 4 = .ok (.iload_n 3, 1) := by decide +kernel
theorem d5 : decode yB 5 = .ok (.ifCond (.ne) 22, 3) := by decide +kernel
theorem d27 : decode yB 27 = .ok (.getstatic 38, 3) := by decide +kernel
theorem d30 : decode yB 30 = .ok (.ifCond (.eq) 28, 3) := by decide +kernel
theorem d33 : decode yB 33 = .ok (.aload_n 1, 1) := by decide +kernel
theorem d34 : decode yB 34 = .ok (.iload_n 2, 1) := by decide +kernel
theorem d35 : decode yB 35 = .ok (.iload_n 3, 1) := by decide +kernel
theorem d36 : decode yB 36 = .ok (.invokestatic 177, 3) := by decide +kernel
theorem d39 : decode yB 39 = .ok (.astore 5, 2) := by decide +kernel
theorem d41 : decode yB 41 = .ok (.aload_n 0, 1) := by decide +kernel
theorem d42 : decode yB 42 = .ok (.aload 5, 2) := by decide +kernel
theorem d44 : decode yB 44 = .ok (.iload_n 3, 1) := by decide +kernel
theorem d45 : decode yB 45 = .ok (.invokestatic 47, 3) := by decide +kernel
theorem d48 : decode yB 48 = .ok (.putfield 15, 3) := by decide +kernel
theorem d51 : decode yB 51 = .ok (.aload_n 0, 1) := by decide +kernel
theorem d52 : decode yB 52 = .ok (.aload 5, 2) := by decide +kernel
theorem d54 : decode yB 54 = .ok (.putfield 9, 3) := by decide +kernel
theorem d57 : decode yB 57 = .ok (.return_, 1) := by decide +kernel
def site : List Cond := [.fieldLink "java/lang/String" 38 "java/lang/String" "COMPACT_STRINGS" "Z", Cmp3.tab, CodL.tab, .laysFinal "java/lang/String" "java/lang/String" "value" "[B", .fieldLink "java/lang/String" 9 "java/lang/String" "value" "[B", .laysFinal "java/lang/String" "java/lang/String" "coder" "B", .fieldLink "java/lang/String" 15 "java/lang/String" "coder" "B"] ++ objW "java/lang/String" 1 ++ staticW "java/lang/String" 177 Cmp3.yN ++ staticW "java/lang/String" 47 CodL.yN
def tab : Cond := tabOf yN yB 6 none site
def P (a : Addr) (D : Cell) (fV fC : Field) (b : Addr) (A : Cell) (z : Int32) (o len : Nat) (args : Array Value) (s : State) : Prop := args = #[.ref a, .ref b, .int (Int32.ofNat o), .int (Int32.ofNat len), .null] ∧ Blank "java/lang/String" a D s ∧ Found "java/lang/String" "value" "[B" fV s ∧ Found "java/lang/String" "coder" "B" fC s ∧ Ch b A s ∧ StaticIs s "java/lang/String" "COMPACT_STRINGS" "Z" (.int z) ∧ ¬ z = 0 ∧ 0 < len ∧ o + len ≤ A.slots.size ∧ len ≤ 536870912 ∧ ∀ i, i < len → ¬ 255 < cv A (o + i)
def E (a : Addr) (D : Cell) (fV fC : Field) (A : Cell) (o len : Nat) (r : Option Value) (s u : State) : Prop := Got a D fV fC A o len r s u
/-- len > 0, no char of the range above 255: a Latin-1 String of their low bytes -/
theorem law (l : Launch) (a : Addr) (D : Cell) (fV fC : Field) (b : Addr) (A : Cell) (z : Int32) (o len : Nat) : Law l yN 5 4 2 35 yB 6 none site (P a D fV fC b A z o len) (E a D fV fC A o len) [⟨a, fC.slot⟩, ⟨a, fV.slot⟩] 1 len := by
  refine Law.of_walk (plainFor_of_name (by decide +kernel)) (by decide +kernel) (by decide +kernel) (by decide) (fun _ _ h => by rw [h.1]; rfl) (fun _ U U' hal hh h => ⟨h.1, h.2.1.mv hal hh, h.2.2.1.al hal, h.2.2.2.1.al hal, h.2.2.2.2.1.mv hal hh, h.2.2.2.2.2.1.there hal hh, h.2.2.2.2.2.2⟩) (fun r U U' V V' h1 hal h2 h => Got.mv r U U' V V' h1 hal h2 h) ?_
  intro p e s m args below meth c s₁ X0 hexec hbytes hml hret hlk hnm hown hh0 W hP
  obtain ⟨rfl, hB, f1, f2, hA, s1, hz, l0, l1, l2, hp⟩ := hP
  have a31 := hA.1.2.2.2
  have c1 : Steps p.tables e below (s₁.setTop (entryFrame m #[.ref a, .ref b, .int (Int32.ofNat o), .int (Int32.ofNat len), .null] 6)) (s₁.setTop (mkF m 0 #[.val (.ref a), .val (.ref b), .val (.int (Int32.ofNat o)), .val (.int (Int32.ofNat len)), .val .null, .unset] [])) := entry rfl
  have c2 : Steps p.tables e below (s₁.setTop (entryFrame m #[.ref a, .ref b, .int (Int32.ofNat o), .int (Int32.ofNat len), .null] 6)) (s₁.setTop (mkF m 1 #[.val (.ref a), .val (.ref b), .val (.int (Int32.ofNat o)), .val (.int (Int32.ofNat len)), .val .null, .unset] [.ref a])) := c1.trans (by
    refine XS.aloadN X0.here hexec rfl (hb hbytes d0) rfl rfl ?_
    exact Steps.refl _)
  obtain ⟨T3, X3, q3, st3⟩ := X0.oinit hexec hown (wks W (objW "java/lang/String" 1)) (g := (mkF m 1 #[.val (.ref a), .val (.ref b), .val (.int (Int32.ofNat o)), .val (.int (Int32.ofNat len)), .val .null, .unset] [.ref a])) rfl (by rw [hml]; rfl) (rest := []) rfl (hb hbytes d1) (W := 0) (by show 2 * 0 + 0 ≤ _; decide) (Nat.le_of_ble_eq_true rfl) (Nat.le_of_ble_eq_true rfl)
  have hh3 := q3.trans hh0
  have c4 : Steps p.tables e below (s₁.setTop (entryFrame m #[.ref a, .ref b, .int (Int32.ofNat o), .int (Int32.ofNat len), .null] 6)) (T3.setTop (mkF m 27 #[.val (.ref a), .val (.ref b), .val (.int (Int32.ofNat o)), .val (.int (Int32.ofNat len)), .val .null, .unset] [])) := (c2.trans (st3 _ (Steps.refl _))).trans (by
    refine XS.iloadN X3.here hexec rfl (hb hbytes d4) rfl ?_
    refine XS.ifYes X3.here hexec rfl (pc0 := 5) rfl (hb hbytes d5) rfl (i0_ne_t (nz32 (by omega) l0)) (by decide) rfl ?_
    exact Steps.refl _)
  obtain ⟨T5, X5, q5, st5⟩ := X3.sget hexec hown (wk W (.fieldLink "java/lang/String" 38 "java/lang/String" "COMPACT_STRINGS" "Z")) s1 (fun _ _ h => by rw [hh3]; exact h) (g := (mkF m 27 #[.val (.ref a), .val (.ref b), .val (.int (Int32.ofNat o)), .val (.int (Int32.ofNat len)), .val .null, .unset] [])) rfl (hb hbytes d27)
  have hh5 := q5.trans hh3
  have c6 : Steps p.tables e below (s₁.setTop (entryFrame m #[.ref a, .ref b, .int (Int32.ofNat o), .int (Int32.ofNat len), .null] 6)) (T5.setTop (mkF m 30 #[.val (.ref a), .val (.ref b), .val (.int (Int32.ofNat o)), .val (.int (Int32.ofNat len)), .val .null, .unset] [.int z])) := c4.trans (st5 _ (Steps.refl _))
  have c7 : Steps p.tables e below (s₁.setTop (entryFrame m #[.ref a, .ref b, .int (Int32.ofNat o), .int (Int32.ofNat len), .null] 6)) (T5.setTop (mkF m 36 #[.val (.ref a), .val (.ref b), .val (.int (Int32.ofNat o)), .val (.int (Int32.ofNat len)), .val .null, .unset] [.int (Int32.ofNat len), .int (Int32.ofNat o), .ref b])) := c6.trans (by
    refine XS.ifNo X5.here hexec rfl (hb hbytes d30) rfl (i0_eq_f hz) ?_
    refine XS.aloadN X5.here hexec rfl (hb hbytes d33) rfl rfl ?_
    refine XS.iloadN X5.here hexec rfl (hb hbytes d34) rfl ?_
    refine XS.iloadN X5.here hexec rfl (hb hbytes d35) rfl ?_
    exact Steps.refl _)
  obtain ⟨v8, T8, X8, E8, g8⟩ := X5.callS hexec (Cmp3.law l b A o len) hown (wks W (staticW "java/lang/String" 177 Cmp3.yN)) (wk W Cmp3.tab) (W := 0) (Nat.le_of_ble_eq_true rfl) (Nat.le_of_ble_eq_true rfl) (Nat.le_refl _) (by show 0 + len ≤ len; omega) (g := (mkF m 36 #[.val (.ref a), .val (.ref b), .val (.int (Int32.ofNat o)), .val (.int (Int32.ofNat len)), .val .null, .unset] [.int (Int32.ofNat len), .int (Int32.ofNat o), .ref b])) rfl (by rw [hml]; rfl) c7 (argsL := [.ref b, .int (Int32.ofNat o), .int (Int32.ofNat len)]) (rest := []) rfl rfl (by show 2 * 0 + 0 ≤ _; decide) (hb hbytes d36) (⟨rfl, hA.mv X5.warmed.alike hh5, l1, l2, hp⟩)
  obtain ⟨e8, z8⟩ := E8
  obtain ⟨rfl, N, n1, n2, n3, n4, n5, n6⟩ := NewArr.mv _ T5 s _ _ hh5.symm (Vm.Alike.refl _) rfl e8
  rw [hh5] at z8
  have hB1 := hB.keep X8.warmed.alike (n6 _ _ hB.1)
  have hne : s.heap.size ≠ a := (Nat.ne_of_lt (Array.getElem?_eq_some_iff.mp hB.1).1).symm
  have c9 : Steps p.tables e below (s₁.setTop (entryFrame m #[.ref a, .ref b, .int (Int32.ofNat o), .int (Int32.ofNat len), .null] 6)) (T8.setTop (mkF m 39 #[.val (.ref a), .val (.ref b), .val (.int (Int32.ofNat o)), .val (.int (Int32.ofNat len)), .val .null, .unset] [.ref s.heap.size])) := g8
  have c10 : Steps p.tables e below (s₁.setTop (entryFrame m #[.ref a, .ref b, .int (Int32.ofNat o), .int (Int32.ofNat len), .null] 6)) (T8.setTop (mkF m 45 #[.val (.ref a), .val (.ref b), .val (.int (Int32.ofNat o)), .val (.int (Int32.ofNat len)), .val .null, .val (.ref s.heap.size)] [.int (Int32.ofNat N.slots.size), .ref s.heap.size, .ref a])) := by
    have hc : Steps p.tables e below (s₁.setTop (entryFrame m #[.ref a, .ref b, .int (Int32.ofNat o), .int (Int32.ofNat len), .null] 6)) (T8.setTop (mkF m 45 #[.val (.ref a), .val (.ref b), .val (.int (Int32.ofNat o)), .val (.int (Int32.ofNat len)), .val .null, .val (.ref s.heap.size)] [.int (Int32.ofNat len), .ref s.heap.size, .ref a])) := c9.trans (by
      refine XS.astore X8.here hexec rfl (hb hbytes d39) rfl rfl rfl ?_
      refine XS.aloadN X8.here hexec rfl (hb hbytes d41) rfl rfl ?_
      refine XS.aload X8.here hexec rfl (hb hbytes d42) rfl rfl ?_
      refine XS.iloadN X8.here hexec rfl (hb hbytes d44) rfl ?_
      exact Steps.refl _)
    rw [n4]; exact hc
  obtain ⟨v11, T11, X11, E11, g11⟩ := X8.callS hexec (CodL.law l s.heap.size N) hown (wks W (staticW "java/lang/String" 47 CodL.yN)) (wk W CodL.tab) (W := 1) (Nat.le_of_ble_eq_true rfl) (Nat.le_of_ble_eq_true rfl) (Nat.le_refl _) (by show 0 + len + 0 ≤ len; omega) (g := (mkF m 45 #[.val (.ref a), .val (.ref b), .val (.int (Int32.ofNat o)), .val (.int (Int32.ofNat len)), .val .null, .val (.ref s.heap.size)] [.int (Int32.ofNat N.slots.size), .ref s.heap.size, .ref a])) rfl (by rw [hml]; rfl) c10 (argsL := [.ref s.heap.size, .int (Int32.ofNat N.slots.size)]) (rest := [.ref a]) rfl rfl (by show 2 * 0 + (1 + 0) ≤ _; decide) (hb hbytes d45) (⟨rfl, n1⟩)
  obtain ⟨rfl, q11⟩ := E11
  have hB11 := hB1.mv (X8.warmed.alike.symm.trans X11.warmed.alike) q11
  have c12 : Steps p.tables e below (s₁.setTop (entryFrame m #[.ref a, .ref b, .int (Int32.ofNat o), .int (Int32.ofNat len), .null] 6)) (T11.setTop (mkF m 48 #[.val (.ref a), .val (.ref b), .val (.int (Int32.ofNat o)), .val (.int (Int32.ofNat len)), .val .null, .val (.ref s.heap.size)] [.int 0, .ref a])) := g11
  obtain ⟨T13, X13, p13, bl13, sl13, st13⟩ := X11.finit hexec hown (wk W (.fieldLink "java/lang/String" 15 "java/lang/String" "coder" "B")) (Or.inr ⟨_, (wk W (.laysFinal "java/lang/String" "java/lang/String" "coder" "B"))⟩) (Or.inl ⟨rfl, hnm⟩) f2 (Or.inl rfl) hB11 (t := .byte) (by decide +kernel) rfl (g := (mkF m 48 #[.val (.ref a), .val (.ref b), .val (.int (Int32.ofNat o)), .val (.int (Int32.ofNat len)), .val .null, .val (.ref s.heap.size)] [.int 0, .ref a])) rfl (rest := []) rfl (hb hbytes d48)
  have c14 : Steps p.tables e below (s₁.setTop (entryFrame m #[.ref a, .ref b, .int (Int32.ofNat o), .int (Int32.ofNat len), .null] 6)) (T13.setTop (mkF m 54 #[.val (.ref a), .val (.ref b), .val (.int (Int32.ofNat o)), .val (.int (Int32.ofNat len)), .val .null, .val (.ref s.heap.size)] [.ref s.heap.size, .ref a])) := (c12.trans (st13 _ (Steps.refl _))).trans (by
    refine XS.aloadN X13.here hexec rfl (hb hbytes d51) rfl rfl ?_
    refine XS.aload X13.here hexec rfl (hb hbytes d52) rfl rfl ?_
    exact Steps.refl _)
  obtain ⟨T15, X15, p15, bl15, sl15, st15⟩ := X13.finit hexec hown (wk W (.fieldLink "java/lang/String" 9 "java/lang/String" "value" "[B")) (Or.inr ⟨_, (wk W (.laysFinal "java/lang/String" "java/lang/String" "value" "[B"))⟩) (Or.inl ⟨rfl, hnm⟩) f1 (Or.inl rfl) bl13 (t := (.array .byte)) (by decide +kernel) rfl (g := (mkF m 54 #[.val (.ref a), .val (.ref b), .val (.int (Int32.ofNat o)), .val (.int (Int32.ofNat len)), .val .null, .val (.ref s.heap.size)] [.ref s.heap.size, .ref a])) rfl (rest := []) rfl (hb hbytes d54)
  have c16 : Steps p.tables e below (s₁.setTop (entryFrame m #[.ref a, .ref b, .int (Int32.ofNat o), .int (Int32.ofNat len), .null] 6)) (T15.setTop (mkF m 57 #[.val (.ref a), .val (.ref b), .val (.int (Int32.ofNat o)), .val (.int (Int32.ofNat len)), .val .null, .val (.ref s.heap.size)] [])) := c14.trans (st15 _ (Steps.refl _))
  have ap := apart (Or.inr ⟨_, (wk W (.laysFinal "java/lang/String" "java/lang/String" "value" "[B"))⟩) (Or.inr ⟨_, (wk W (.laysFinal "java/lang/String" "java/lang/String" "coder" "B"))⟩) f1 f2 (t₁ := .array .byte) (t₂ := .byte) (by decide +kernel) (by decide +kernel) (by decide)
  have al := X8.warmed.alike.symm.trans X15.warmed.alike
  have n7 : T11.heap[s.heap.size]? = some N := by rw [q11]; exact n1.1
  exact ⟨T15, none, _, _, _, X15, by simp, rfl, by omega, (fun _ => rfl), ⟨rfl, _, N, bl15, ((Same.refl D _).set _ (by simp)).set _ (by simp), sl15, (Cell.slots_setSlot_ne _ ap).trans sl13, n1.keep al (p15.other hne (p13.other hne n7)), n2, by rw [al.findClass]; exact n3, n4, n5, fun y c h1 h2 => p15.other h1 (p13.other h1 (by rw [q11]; exact n6 y c h2)), by rw [p15.2.2, p13.2.2, q11]; exact z8⟩, fun fs hl => c16.trans (X15.returnOut hexec hret (hb hbytes d57) hl)⟩
end New4
namespace New1
def yN : MethodName := ⟨"java/lang/String", "<init>", "([C)V"⟩
abbrev yB : ByteArray := jdk_42_method_3_code
theorem d0 : decode yB 0 = .ok (.aload_n 0, 1) := by decide +kernel
theorem d1 : decode yB 1 = .ok (.aload_n 1, 1) := by decide +kernel
theorem d2 : decode yB 2 = .ok (.iconst 0, 1) := by decide +kernel
theorem d3 : decode yB 3 = .ok (.aload_n 1, 1) := by decide +kernel
theorem d4 : decode yB 4 = .ok (.arraylength, 1) := by decide +kernel
theorem d5 : decode yB 5 = .ok (.aconst_null, 1) := by decide +kernel
theorem d6 : decode yB 6 = .ok (.invokespecial 27, 3) := by decide +kernel
theorem d9 : decode yB 9 = .ok (.return_, 1) := by decide +kernel
def site : List Cond := [New4.tab] ++ initW "java/lang/String" 27 New4.yN
def tab : Cond := tabOf yN yB 2 none site
def P (a : Addr) (D : Cell) (fV fC : Field) (b : Addr) (A : Cell) (z : Int32) (args : Array Value) (s : State) : Prop := args = #[.ref a, .ref b] ∧ Blank "java/lang/String" a D s ∧ Found "java/lang/String" "value" "[B" fV s ∧ Found "java/lang/String" "coder" "B" fC s ∧ Ch b A s ∧ StaticIs s "java/lang/String" "COMPACT_STRINGS" "Z" (.int z) ∧ ¬ z = 0 ∧ 0 < A.slots.size ∧ A.slots.size ≤ 536870912 ∧ ∀ i, i < A.slots.size → ¬ 255 < cv A i
def E (a : Addr) (D : Cell) (fV fC : Field) (A : Cell) (r : Option Value) (s u : State) : Prop := Got a D fV fC A 0 A.slots.size r s u
/-- new String(chars), not empty, no char above 255: a Latin-1 String of their low bytes -/
theorem law (l : Launch) (a : Addr) (D : Cell) (fV fC : Field) (b : Addr) (A : Cell) (z : Int32) : Law l yN 2 1 3 52 yB 2 none site (P a D fV fC b A z) (E a D fV fC A) [⟨a, fC.slot⟩, ⟨a, fV.slot⟩] 1 A.slots.size := by
  refine Law.of_walk (plainFor_of_name (by decide +kernel)) (by decide +kernel) (by decide +kernel) (by decide) (fun _ _ h => by rw [h.1]; rfl) (fun _ U U' hal hh h => ⟨h.1, h.2.1.mv hal hh, h.2.2.1.al hal, h.2.2.2.1.al hal, h.2.2.2.2.1.mv hal hh, h.2.2.2.2.2.1.there hal hh, h.2.2.2.2.2.2⟩) (fun r U U' V V' h1 hal h2 h => Got.mv r U U' V V' h1 hal h2 h) ?_
  intro p e s m args below meth c s₁ X0 hexec hbytes hml hret hlk hnm hown hh0 W hP
  obtain ⟨rfl, hB, f1, f2, hA, s1, hz, l0, l2, hp⟩ := hP
  have c1 : Steps p.tables e below (s₁.setTop (entryFrame m #[.ref a, .ref b] 2)) (s₁.setTop (mkF m 0 #[.val (.ref a), .val (.ref b)] [])) := entry rfl
  have c2 : Steps p.tables e below (s₁.setTop (entryFrame m #[.ref a, .ref b] 2)) (s₁.setTop (mkF m 6 #[.val (.ref a), .val (.ref b)] [.null, .int (Int32.ofNat A.slots.size), .int 0, .ref b, .ref a])) := c1.trans (by
    refine XS.aloadN X0.here hexec rfl (hb hbytes d0) rfl rfl ?_
    refine XS.aloadN X0.here hexec rfl (hb hbytes d1) rfl rfl ?_
    refine iconstV X0.here hexec rfl 0 (hb hbytes d2) (by decide) ?_
    refine XS.aloadN X0.here hexec rfl (hb hbytes d3) rfl rfl ?_
    refine X0.alen hexec (hA.1.mv X0.warmed.alike hh0) rfl rfl (hb hbytes d4) ?_
    refine XS.aconstNull X0.here hexec rfl (hb hbytes d5) ?_
    exact Steps.refl _)
  obtain ⟨v3, T3, X3, E3, g3⟩ := X0.callN hexec (New4.law l a D fV fC b A z 0 A.slots.size) rfl hown (wks W (initW "java/lang/String" 27 New4.yN)) (W New4.tab (by simp only [site, List.mem_cons, List.mem_append, true_or, or_true])) (W := 0) (Nat.le_of_ble_eq_true rfl) (Nat.le_of_ble_eq_true rfl) (Nat.le_refl _) (by show 0 + A.slots.size ≤ A.slots.size; omega) (g := (mkF m 6 #[.val (.ref a), .val (.ref b)] [.null, .int (Int32.ofNat A.slots.size), .int (Int32.ofNat 0), .ref b, .ref a])) rfl (by rw [hml]; rfl) c2 (argsL := [.ref b, .int (Int32.ofNat 0), .int (Int32.ofNat A.slots.size), .null]) (rest := []) rfl rfl (by show 2 * 0 + 0 ≤ _; decide) (hb hbytes d6) (⟨rfl, hB.mv X0.warmed.alike hh0, f1.al X0.warmed.alike, f2.al X0.warmed.alike, hA.mv X0.warmed.alike hh0, s1.there X0.warmed.alike hh0, hz, l0, by omega, l2, fun i hi => by rw [Nat.zero_add]; exact hp i hi⟩)
  have e0 := Got.mv _ s₁ s _ _ hh0.symm (Vm.Alike.refl _) rfl E3
  obtain rfl := e0.1
  have c4 : Steps p.tables e below (s₁.setTop (entryFrame m #[.ref a, .ref b] 2)) (T3.setTop (mkF m 9 #[.val (.ref a), .val (.ref b)] [])) := g3
  exact ⟨T3, none, _, _, _, X3, by simp, rfl, by omega, (fun _ => rfl), e0, fun fs hl => c4.trans (X3.returnOut hexec hret (hb hbytes d9) hl)⟩
theorem pays {l : Launch} {R : Room} {p : Program} {e : Env} {below : List Frame} {s : State} {sargs : Array Value} {len W : Nat} (a : Addr) (D : Cell) (fV fC : Field) (b : Addr) (A : Cell) (z : Int32) (htab : tab.before sargs s = true) (hfr : 4 ≤ R.frames) (hlo : W + 65 ≤ R.locals) :
    Back l R p e below s sargs yN len W (fun A₁ a₁ => A₁.cells + 1 ≤ R.cells ∧ A₁.slots + A.slots.size ≤ R.slots ∧ P a D fV fC b A z a₁ A₁.U) (fun A₁ _ v₁ B₁ => E a D fV fC A v₁ A₁.U B₁.U ∧ B₁.locs = A₁.locs ++ [⟨a, fC.slot⟩, ⟨a, fV.slot⟩] ∧ B₁.cells = A₁.cells + 1 ∧ B₁.slots = A₁.slots + A.slots.size) :=
  (law l a D fV fC b A z).pays htab hfr (by omega)
end New1
end StrChars
namespace StrChars.Road
open Jvm Sem ClassFile Op Lib Jvm.Stand Jvm.Free Jvm.Free.XT
open Jvm.Lib.Cold (StaticIs)
abbrev ST : String := "java/lang/String"
/-- every table word that New1's law asks, flat -/
abbrev words : List Jvm.Cond := [.code New1.yN New1.yB 2 none, .initialized ST, .methodLink ST 27 New4.yN, .instanceMethod New4.yN,
  .code New4.yN New4.yB 6 none, .fieldLink ST 38 ST "COMPACT_STRINGS" "Z", .laysFinal ST ST "value" "[B", .fieldLink ST 9 ST "value" "[B", .laysFinal ST ST "coder" "B", .fieldLink ST 15 ST "coder" "B",
  .methodLink ST 1 Lib.objectInit, .instanceMethod Lib.objectInit, .code Lib.objectInit ⟨#[0xb1]⟩ 1 none, .methodLink ST 177 Cmp3.yN, .static Cmp3.yN, .methodLink ST 47 CodL.yN, .static CodL.yN,
  .code Cmp3.yN Cmp3.yB 6 (some (.array .byte)), .initialized U16, .arrayClass .byte, .methodLink U16 115 Cmp5.yN, .static Cmp5.yN, .code Cmp5.yN Cmp5.yB 7 (some .int), .code CodL.yN CodL.yB 2 (some .byte)]
theorem tab_of {a : Array Value} {s : State} (h : ∀ w ∈ words, w.before a s = true) : New1.tab.before a s = true := by
  have h5 : Cmp5.tab.before a s = true := unparts (wk h (.code Cmp5.yN Cmp5.yB 7 (some .int))) (wks h (.initialized Cmp5.yN.cls :: Cmp5.site))
  have hc : CodL.tab.before a s = true := unparts (wk h (.code CodL.yN CodL.yB 2 (some .byte))) (wks h (.initialized CodL.yN.cls :: CodL.site))
  have q5 : ∀ w ∈ Cmp5.tab :: words, w.before a s = true := fun w hw => (List.mem_cons.mp hw).elim (fun e => e ▸ h5) (h w)
  have h3 : Cmp3.tab.before a s = true := unparts (wk q5 (.code Cmp3.yN Cmp3.yB 6 (some (.array .byte)))) (wks q5 (.initialized Cmp3.yN.cls :: Cmp3.site))
  have q3 : ∀ w ∈ Cmp3.tab :: CodL.tab :: words, w.before a s = true := fun w hw => (List.mem_cons.mp hw).elim (fun e => e ▸ h3) fun hw => (List.mem_cons.mp hw).elim (fun e => e ▸ hc) (h w)
  have h4 : New4.tab.before a s = true := unparts (wk q3 (.code New4.yN New4.yB 6 none)) (wks q3 (.initialized New4.yN.cls :: New4.site))
  have q4 : ∀ w ∈ New4.tab :: words, w.before a s = true := fun w hw => (List.mem_cons.mp hw).elim (fun e => e ▸ h4) (h w)
  exact unparts (wk q4 (.code New1.yN New1.yB 2 none)) (wks q4 (.initialized New1.yN.cls :: New1.site))
/-- the words ride from the start Z to the walk's own state -/
theorem moved {Z s : State} {a0 args : Array Value} (hZ : Z.Warmed39 s.vm) (hw : ∀ d ∈ words, d.before a0 Z = true) : ∀ d ∈ words, d.before args s = true := fun d hd => by
  have q := hw d hd
  have t : ∀ d ∈ words, d = .arrayClass .byte ∨ (d.onTables && d.keepsFace) = true := by decide +kernel
  rcases t d hd with rfl | t
  · exact RoadKit.mvA hZ q
  · exact RoadKit.mv hZ q t
/-- WHAT COMES BACK, over the tables of the start Z: h the heap at the call, h' behind it -/
def Q (Z : State) (x : Addr) (A : Cell) (h : Heap) (v : Option Value) (h' : Heap) (L : List Loc) : Prop := v = none ∧ (∀ y ∈ L, y.base = x) ∧ RoadKit.Keep h h' [x] ∧ h'.size = h.size + 1 ∧ RoadKit.Exa Z h' x ST ∧ RoadKit.Fld Z h' x ST "value" "[B" (.ref h.size) ∧ RoadKit.Fld Z h' x ST "coder" "B" (.int 0) ∧
  (∃ V : Cell, RoadKit.Arr Z h' h.size V .byte ∧ V.vm = .none ∧ Z.vm.findClass "[B" = some V.cls ∧ V.slots.size = A.slots.size ∧ ∀ j, j < A.slots.size → V.slots[j]? = some (.int (lo8 (cv A j)))) ∧
  ∀ (O n d : String) (w : Value), RoadKit.Fld Z h x O n d w → RoadKit.slotOf Z O n d ≠ RoadKit.slotOf Z ST "value" "[B" → RoadKit.slotOf Z O n d ≠ RoadKit.slotOf Z ST "coder" "B" → RoadKit.Fld Z h' x O n d w
/-- **new String(chars) AT A CALL, IN THE ROAD'S FORM**: for specialBack behind newO: x the fresh String, b the char[] with the cell A -/
theorem back {p : Program} {l : Launch} {e : Env} {R : Room} {s : State} {args : Array Value} {below : List Frame} {len W : Nat} {Z : State} {a0 : Array Value} {h : Heap} (hZ : Z.Warmed39 s.vm) (hw : ∀ d ∈ words, d.before a0 Z = true) {kI : Nat} (wi : (Jvm.Cond.instantiable ST kI).before a0 Z = true)
    {x b : Addr} {A : Cell} {z : Int32} {v0 c0 : Value} (E : RoadKit.Exa Z h x ST) (V : RoadKit.Fld Z h x ST "value" "[B" v0) (C : RoadKit.Fld Z h x ST "coder" "B" c0) (K : RoadKit.Arr Z h b A .char) (hty : Typed .char A) (S : RoadKit.Sta Z h ST "COMPACT_STRINGS" "Z" (.int z)) (hz : ¬ z = 0)
    (l0 : 0 < A.slots.size) (l2 : A.slots.size ≤ 536870912) (hp : ∀ i, i < A.slots.size → ¬ 255 < cv A i) (hfr : 4 ≤ R.frames) (hlo : W + 65 ≤ R.locals) :
    Back l R p e below s args New1.yN len W (fun P a => a = #[.ref x, .ref b] ∧ P.U.heap = h ∧ P.cells + 1 ≤ R.cells ∧ P.slots + A.slots.size ≤ R.slots)
      (fun P _ v B => ∃ L, Q Z x A h v B.U.heap L ∧ B.locs = P.locs ++ L ∧ B.cells = P.cells + 1 ∧ B.slots = P.slots + A.slots.size) := by
  intro m meth c P g ig mk a X hg hsize hdg hW hn hp'
  obtain ⟨rfl, rfl, r1, r2⟩ := hp'
  have al : Z.vm.Alike P.U.vm := hZ.alike.trans X.warmed.alike
  obtain ⟨D, cfV, kV, iV, fV, hD, gV, stV, knV, obV, asV, slV⟩ := id V
  obtain ⟨D', cfC, kC, iC, fC, hD', gC, stC, -, -, asC, slC⟩ := id C
  cases hD.symm.trans hD'
  obtain ⟨D2, kD, e1, e2, e3, e4, e5⟩ := id E
  cases hD.symm.trans e1
  obtain ⟨c2, k2, i1, i2, i3, -⟩ := Cond.instantiable_spec wi
  cases e2.symm.trans i1
  cases e3.symm.trans i2
  obtain ⟨kU, u1, u2⟩ := al.2.2 _ _ e3
  have hB : Blank ST x D P.U := ⟨hD, ⟨knV, fun q hq => by rw [hq] at obV; cases obV⟩, by rw [al.findClass]; exact e2, kU, u1, by rw [u2]; exact i3, by rw [u2]; exact e5 i3⟩
  have F1 : Found ST "value" "[B" fV P.U := ⟨SBG.found_only al ⟨cfV, kV, iV, gV⟩, stV⟩
  have F2 : Found ST "coder" "B" fC P.U := ⟨SBG.found_only al ⟨cfC, kC, iC, gC⟩, stC⟩
  have hA : Ch b A P.U := ⟨⟨K.1, State.isArrayOf_alike al K.2.1, K.2.2, by omega⟩, hty⟩
  have hS : StaticIs P.U ST "COMPACT_STRINGS" "Z" (.int z) := by
    obtain ⟨cfS, iS, kS, fS, st, cS, t1, t2, t3, t4, t5, t6, t7⟩ := S
    exact StaticIs.there (s := { Z with heap := P.U.heap }) ⟨cfS, iS, kS, fS, st, cS, t1, t2, t3, t4, t5, (fun q => by rw [q] at t6; cases t6), t7⟩ al rfl
  obtain ⟨v, B, X', ⟨⟨hv, E', V', q1, q2, q3, q4, q5, q6, q7, q8, q9, q10, q11⟩, hl, hc, hs⟩, st⟩ := New1.pays x D fV fC b A z (tab_of (moved hZ hw)) hfr hlo m meth c P g ig mk _ X hg hsize hdg hW hn ⟨r1, r2, rfl, hB, F1, F2, hA, hS, hz, l0, l2, hp⟩
  have al' : Z.vm.Alike B.U.vm := hZ.alike.trans X'.warmed.alike
  have hsz : E'.slots.size = D.slots.size := by
    obtain ⟨-, -, -, kB, w1, w2, w3⟩ := q1
    obtain ⟨kB', y1, y2⟩ := al'.2.2 _ _ e3
    rw [q2.2.1] at w1
    cases w1.symm.trans y1
    rw [w3, e5 i3, y2]
  refine ⟨v, B, X', ⟨_, ⟨hv, ?_, ⟨by omega, fun y cy hy hn' => q10 y cy (by simpa using hn') hy, fun y cy hy => ?_⟩, q11, ⟨E', _, q1.1, by rw [q2.2.1]; exact e2, by rw [q2.2.1]; exact e3, by rw [q2.1]; exact obV, fun _ => by rw [hsz]; exact e5 i3⟩,
    ⟨E', cfV, kV, iV, fV, q1.1, gV, stV, by rw [q2.1]; exact knV, by rw [q2.1]; exact obV, by rw [q2.2.1]; exact asV, q3⟩, ⟨E', cfC, kC, iC, fC, q1.1, gC, stC, by rw [q2.1]; exact knV, by rw [q2.1]; exact obV, by rw [q2.2.1]; exact asC, q4⟩,
    ⟨V', ⟨q5.1, State.isArrayOf_alike al'.symm q5.2.1, q5.2.2.1⟩, q6, by rw [← al'.findClass]; exact q7, q8, fun j hj => by have := q9 j hj; rwa [Nat.zero_add] at this⟩, fun O n d w F n1 n2 => ?_⟩, hl, hc, hs⟩, st⟩
  · intro y hy
    simp only [List.mem_cons, List.not_mem_nil, or_false] at hy
    rcases hy with rfl | rfl <;> rfl
  · by_cases q : y = x
    · subst q
      cases hD.symm.trans hy
      exact ⟨E', q1.1, q2.2.1, q2.1, hsz⟩
    · exact ⟨cy, q10 y cy q hy, rfl, rfl, rfl⟩
  · obtain ⟨D3, cf, k, i, f, g1, g2, g3, g4, g5, g6, g7⟩ := F
    cases hD.symm.trans g1
    simp only [RoadKit.slotOf, g2, gV, gC, Option.map_some, Option.getD_some] at n1 n2
    exact ⟨E', cf, k, i, f, q1.1, g2, g3, by rw [q2.1]; exact g4, by rw [q2.1]; exact g5, by rw [q2.2.1]; exact g6, by rw [q2.2.2 f.slot (by simp [n1, n2])]; exact g7⟩
end StrChars.Road
namespace StrChars.Road
open Jvm Sem ClassFile Op Lib Jvm.Stand Jvm.Free Jvm.Free.XT
/-- WHAT COMES BACK, the byte[] as a list of values -/
def QA (Z : State) (x : Addr) (zn : Int32) (cs : List Int32) (h : Heap) (v : Option Value) (h' : Heap) (L : List Loc) : Prop := v = none ∧ (∀ y ∈ L, y.base = x) ∧ RoadKit.Keep h h' [x] ∧ h'.size = h.size + 1 ∧ RoadKit.Exa Z h' x ST ∧ RoadKit.Fld Z h' x ST "value" "[B" (.ref h.size) ∧ RoadKit.Fld Z h' x ST "coder" "B" (.int 0) ∧
  (∃ kb, Z.vm.findClass "[B" = some kb ∧ RoadKit.Arv Z h' h.size kb .byte zn (cs.map fun c => .int (lo8 c)) (.int 0)) ∧
  ∀ (O n d : String) (w : Value), RoadKit.Fld Z h x O n d w → RoadKit.slotOf Z O n d ≠ RoadKit.slotOf Z ST "value" "[B" → RoadKit.slotOf Z O n d ≠ RoadKit.slotOf Z ST "coder" "B" → RoadKit.Fld Z h' x O n d w
/-- **new String(chars) AT A CALL, THE ARRAYS AS LISTS**: the char[] at b holds cs, not empty, no char above 255 -/
theorem backArv {p : Program} {l : Launch} {e : Env} {R : Room} {s : State} {args : Array Value} {below : List Frame} {len W : Nat} {Z : State} {a0 : Array Value} {h : Heap} (hZ : Z.Warmed39 s.vm) (hw : ∀ d ∈ words, d.before a0 Z = true) {kI : Nat} (wi : (Jvm.Cond.instantiable ST kI).before a0 Z = true)
    {x b : Addr} {k : ClassId} {zn z : Int32} {cs : List Int32} {dv v0 c0 : Value} (E : RoadKit.Exa Z h x ST) (V : RoadKit.Fld Z h x ST "value" "[B" v0) (C : RoadKit.Fld Z h x ST "coder" "B" c0) (K : RoadKit.Arv Z h b k .char zn (cs.map Value.int) dv) (S : RoadKit.Sta Z h ST "COMPACT_STRINGS" "Z" (.int z)) (hz : ¬ z = 0)
    (hlen : zn.toNatClampNeg = cs.length) (h0 : 0 < cs.length) (hbig : cs.length ≤ 536870912) (hall : ∀ c ∈ cs, ¬ 255 < c) (hfr : 4 ≤ R.frames) (hlo : W + 65 ≤ R.locals) :
    Back l R p e below s args New1.yN len W (fun P a => a = #[.ref x, .ref b] ∧ P.U.heap = h ∧ P.cells + 1 ≤ R.cells ∧ P.slots + cs.length ≤ R.slots)
      (fun P _ v B => ∃ L, QA Z x zn cs h v B.U.heap L ∧ B.locs = P.locs ++ L ∧ B.cells = P.cells + 1 ∧ B.slots = P.slots + cs.length) := by
  obtain ⟨A, K1, K2, K3, K4, K5, K6⟩ := K
  have e : A.slots.size = cs.length := K3.trans hlen
  have hat : ∀ (i : Nat) (hi : i < cs.length), A.slots[i]? = some (.int cs[i]) := fun i hi => by rw [K5 i (by omega)]; simp [List.getD_eq_getElem?_getD, hi]
  have hcv : ∀ (i : Nat) (hi : i < cs.length), cv A i = cs[i] := fun i hi => by unfold cv; rw [hat i hi]
  have hty : Typed .char A := fun i v hv => by
    have hi : i < A.slots.size := (Array.getElem?_eq_some_iff.mp hv).1
    have q := K5 i hi
    rw [hv] at q
    rw [Option.some.inj q]
    exact K6 i hi
  refine Back.mono (back hZ hw wi E V C K1 hty S hz (by omega) (by omega) (fun i hi => by rw [hcv i (by omega)]; exact hall _ (List.getElem_mem _)) hfr hlo) (fun P a hp => ⟨hp.1, hp.2.1, hp.2.2.1, by rw [e]; exact hp.2.2.2⟩) (fun P a v B hp hq => ?_)
  obtain ⟨L, ⟨q1, q2, q3, q4, q5, q6, q7, ⟨V', v1, v2, v3, v4, v5⟩, q9⟩, hl, hc, hs⟩ := hq
  refine ⟨L, ⟨q1, q2, q3, q4, q5, q6, q7, ⟨V'.cls, v3, V', v1, rfl, by rw [v4, e, hlen], K4, fun i hi => ?_, fun i hi => ?_⟩, q9⟩, hl, hc, by rw [hs, e]⟩
  · have hi' : i < cs.length := by omega
    rw [v5 i (by omega), hcv i hi']; simp [List.getD_eq_getElem?_getD, hi']
  · have hi' : i < cs.length := by omega
    simp only [List.getD_eq_getElem?_getD, List.getElem?_map, List.getElem?_eq_getElem hi', Option.map_some, Option.getD_some]
    exact fits_lo8 _
end StrChars.Road
namespace StrChars.Road
open Jvm Sem ClassFile Op Lib Jvm.Stand Jvm.Free Jvm.Free.XT
/-- WHAT COMES BACK, in the writer's own shape -/
def QV (Z : State) (x : Addr) (N : Int32) (bs : List Int32) (h : Heap) (n0 : Nat) (v : Option Value) (h' : Heap) (L : List Loc) : Prop := v = none ∧ RoadKit.Fr n0 L ∧ RoadKit.Keep h h' [x] ∧ RoadKit.Exa Z h' x ST ∧ RoadKit.Fld Z h' x ST "coder" "B" (.int 0) ∧
  ∃ (t : Addr) (kb : ClassId), n0 ≤ t ∧ h.size ≤ t ∧ ¬ t = x ∧ RoadKit.Fld Z h' x ST "value" "[B" (.ref t) ∧ RoadKit.Arv Z h' t kb .byte N (bs.map Value.int) (.int 0)
/-- **new String(chars) AT A CALL, FOR THE WRITER**: a char[] of n known ints, each 0 to 255 -/
theorem backV {p : Program} {l : Launch} {e : Env} {R : Room} {s : State} {args : Array Value} {below : List Frame} {len W : Nat} {Z : State} {a0 : Array Value} {h : Heap} (hZ : Z.Warmed39 s.vm) (hw : ∀ d ∈ words, d.before a0 Z = true) {kI : Nat} (wi : (Jvm.Cond.instantiable ST kI).before a0 Z = true)
    {x b : Addr} {kC : ClassId} {cs bs : List Int32} {d v0 c0 : Value} {z N : Int32} {n n0 : Nat} (hx0 : n0 ≤ x) (hh0 : n0 ≤ h.size) (E : RoadKit.Exa Z h x ST) (V : RoadKit.Fld Z h x ST "value" "[B" v0) (C : RoadKit.Fld Z h x ST "coder" "B" c0) (K : RoadKit.Arv Z h b kC .char N (cs.map Value.int) d) (S : RoadKit.Sta Z h ST "COMPACT_STRINGS" "Z" (.int z)) (hz : ¬ z = 0)
    (hn : cs.length = n) (hN : N = Int32.ofNat n) (l0 : 0 < n) (l2 : n ≤ 4000) (hp : ∀ c ∈ cs, ¬ c < 0 ∧ ¬ (255 : Int32) < c) (hb : bs = cs.map (fun c => c.toInt8.toInt32)) (hfr : 4 ≤ R.frames) (hlo : W + 65 ≤ R.locals) :
    Back l R p e below s args (⟨"java/lang/String", "<init>", "([C)V"⟩ : MethodName) len W (fun P a => a = #[.ref x, .ref b] ∧ P.U.heap = h ∧ P.cells + 1 ≤ R.cells ∧ P.slots + n ≤ R.slots)
      (fun P _ v B => ∃ L, QV Z x N bs h n0 v B.U.heap L ∧ B.locs = P.locs ++ L ∧ B.cells = P.cells + 1 ∧ B.slots = P.slots + n) := by
  subst hn hN hb
  refine Back.mono (backArv hZ hw wi E V C K S hz (n32 (by omega)) l0 (by omega) (fun c hc => (hp c hc).2) hfr hlo) (fun P a hp => hp) (fun P a v B hp hq => ?_)
  obtain ⟨L, ⟨q1, q2, q3, q4, q5, q6, q7, ⟨kb, v1, v2⟩, q9⟩, hl, hc, hs⟩ := hq
  exact ⟨L, ⟨q1, fun y hy => by rw [q2 y hy]; exact hx0, q3, q5, q7, h.size, kb, hh0, Nat.le_refl _, Nat.ne_of_gt E.lt, q6, by rw [List.map_map]; exact v2⟩, hl, hc, hs⟩
end StrChars.Road
end Jvm.Pilot.@@N@@

namespace Jvm.Pilot.@@N@@
open Jvm Jvm.ClassFile Sem Op Lib Jvm.Free Jvm.Stand Jvm.LawKit Jvm.RoadKit Jvm.OwnW Bundle Jvm.Pilot.@@N@@.Jvm.D
theorem kw41 {Z : State} {a0 : Array Value} (hw : ∀ d ∈ tables_1, d.before a0 Z = true) : (Jvm.Cond.methodLink "java/lang/Record" (1 : Nat) ({ cls := "java/lang/Object", name := "<init>", desc := "()V" } : Jvm.MethodName)).before a0 Z = true := hw _ (List.mem_of_getElem? (i := 41) rfl)
theorem kw12 {Z : State} {a0 : Array Value} (hw : ∀ d ∈ tables_1, d.before a0 Z = true) : (Jvm.Cond.instanceMethod ({ cls := "java/lang/Object", name := "<init>", desc := "()V" } : Jvm.MethodName)).before a0 Z = true := hw _ (List.mem_of_getElem? (i := 12) rfl)
theorem kw13 {Z : State} {a0 : Array Value} (hw : ∀ d ∈ tables_1, d.before a0 Z = true) : (Jvm.Cond.code ({ cls := "java/lang/Object", name := "<init>", desc := "()V" } : Jvm.MethodName) object_method_1_code (1 : Nat) (Option.none : Option Jvm.ClassFile.FieldType)).before a0 Z = true := hw _ (List.mem_of_getElem? (i := 13) rfl)
theorem d_jdk_30_method_1_0 : decode jdk_30_method_1_code 0 = .ok (.aload_n 0, 1) := by decide +kernel
theorem d_jdk_30_method_1_1 : decode jdk_30_method_1_code 1 = .ok (.invokespecial 1, 3) := by decide +kernel
theorem pn1 : plainName "java/lang/Record" = true := by first | (simp [plainName, overriddenIn]; done) | decide +kernel
theorem ef_rec (m : MethodId) (thisrec : Addr) : entryFrame m #[(.ref thisrec)] 1 = mkF m 0 #[.val (.ref thisrec)] [] := by first | (simp [entryFrame, mkF, argsToLocals, Value.category]; done) | rfl
def Q_rec (Z : State) (thisrec : Addr) (h0 : Heap) (n0 : Nat) (v : Option Value) (h : Heap) (L : List Loc) : Prop := v = none ∧ Fr n0 L ∧ h = h0
theorem d_jdk_30_method_1_4 : decode jdk_30_method_1_code 4 = .ok (.return_, 1) := by decide +kernel
abbrev mt1 : MethodName := ⟨"java/lang/Record", "<init>", "()V"⟩
set_option maxRecDepth 65536 in
set_option maxHeartbeats 40000000 in
theorem rm_rec (l : Launch) (Z : State) (a0 : Array Value) (hw : ∀ d ∈ tables_1, d.before a0 Z = true) (ws : List Jvm.Cond) (thisrec : Addr) (h0 : Heap) (n0 : Nat) (Z0 : n0 ≤ h0.size)  :
    MetFree l mt1 (head1 (Jvm.Cond.code mt1 jdk_30_method_1_code 1 none :: ws) ({ frames := 1, cells := 0, slots := 0, locals := 12 } : Room)) (fun a U => a = #[(.ref thisrec)] ∧ Z.Warmed39 U.vm ∧ U.heap = h0) (fun _ _ _ _ _ => True) (fun _ U o U' => ∃ v L, o = .returned v ∧ (Q_rec Z thisrec h0 n0) v U'.heap L ∧ FrameEnd U o U' L ({ frames := 1, cells := 0, slots := 0, locals := 12 } : Room).cells ({ frames := 1, cells := 0, slots := 0, locals := 12 } : Room).slots) := by
  refine MetFree.of_bodySF (plainFor_of_name pn1) hisR ?_
  intro p e s m args below meth c s₁ Bd hml0 hP hK
  obtain ⟨rfl, hZ, hh⟩ := hP
  have hx := Bd.exec
  have hby := Bd.bytes
  have hml : c.maxLocals = 1 := hml0
  have hown : s.vm.findClass "java/lang/Record" = some m.cls := findClass_of_methodNamed Bd.named
  have hnm := (name_of_methodNamed Bd.named Bd.method).1
  have X0 : Stand p l e ({ frames := 1, cells := 0, slots := 0, locals := 12 } : Room) s m #[(.ref thisrec)] below meth c s₁ [] 0 0 := Stand.of_body Bd
  have e0 : s₁.heap = h0 := by rw [← hh, Bd.state]; rfl
  have N0 := Fr.nil n0
  refine Wq.step (p := p) (e := e) (below := below) (En := (fun o t L => FrameEnd s o t L ({ frames := 1, cells := 0, slots := 0, locals := 12 } : Room).cells ({ frames := 1, cells := 0, slots := 0, locals := 12 } : Room).slots)) (Q := (Q_rec Z thisrec h0 n0)) (fun t k => castTop (ef_rec m thisrec) k) ?_
  show Wq _ _ _ _ _ (s₁.setTop (mkF m 0 #[.val (.ref thisrec)] []))
  refine Ow.aloadN X0 hx (pc' := 1) (hb hby d_jdk_30_method_1_0) rfl rfl ?_
  obtain ⟨T1, X1, e1, st1⟩ := initO X0 hx hZ hown (kw41 hw) (kw12 hw) (kw13 hw) e0 (g := (mkF m 1 #[.val (.ref thisrec)] [(.ref thisrec)])) rfl (by rw [hml]; rfl) rfl (hb hby d_jdk_30_method_1_1) (by decide) (W := 0) (by show 2 * 0 + _ ≤ _; exact Nat.le_of_eq rfl) (by decide)
  refine Wq.step st1 ?_
  show Wq _ _ _ _ _ (T1.setTop (mkF m 4 #[.val (.ref thisrec)] []))
  exact Wq.ret X1 (BodyLoose.notSynchronized Bd) (rv := none) (fun _ => rfl) (fun _ hr => X1.returnOut hx Bd.returns (hb hby d_jdk_30_method_1_4) hr) (by decide) (by decide) ⟨rfl, N0, e1⟩
theorem kw40 {Z : State} {a0 : Array Value} (hw : ∀ d ∈ tables_1, d.before a0 Z = true) : (Jvm.Cond.code ({ cls := "java/lang/Record", name := "<init>", desc := "()V" } : Jvm.MethodName) jdk_30_method_1_code (1 : Nat) (Option.none : Option Jvm.ClassFile.FieldType)).before a0 Z = true := hw _ (List.mem_of_getElem? (i := 40) rfl)
theorem kw39 {Z : State} {a0 : Array Value} (hw : ∀ d ∈ tables_1, d.before a0 Z = true) : (Jvm.Cond.initialized "java/lang/Record").before a0 Z = true := hw _ (List.mem_of_getElem? (i := 39) rfl)
theorem pd1 : parseMethodDescriptor "()V" = some ⟨[], none⟩ := by decide +kernel
theorem kw36 {Z : State} {a0 : Array Value} (hw : ∀ d ∈ tables_1, d.before a0 Z = true) : (Jvm.Cond.methodLink "com/example/strata/strata/store/AnswerReader$Head" (3 : Nat) ({ cls := "java/lang/Record", name := "<init>", desc := "()V" } : Jvm.MethodName)).before a0 Z = true := hw _ (List.mem_of_getElem? (i := 36) rfl)
theorem kw37 {Z : State} {a0 : Array Value} (hw : ∀ d ∈ tables_1, d.before a0 Z = true) : (Jvm.Cond.instanceMethod ({ cls := "java/lang/Record", name := "<init>", desc := "()V" } : Jvm.MethodName)).before a0 Z = true := hw _ (List.mem_of_getElem? (i := 37) rfl)
theorem kw43 {Z : State} {a0 : Array Value} (hw : ∀ d ∈ tables_1, d.before a0 Z = true) : (Jvm.Cond.laysFinal "com/example/strata/strata/store/AnswerReader$Head" "com/example/strata/strata/store/AnswerReader$Head" "ofVersion11" "Z").before a0 Z = true := hw _ (List.mem_of_getElem? (i := 43) rfl)
theorem kw42 {Z : State} {a0 : Array Value} (hw : ∀ d ∈ tables_1, d.before a0 Z = true) : (Jvm.Cond.fieldLink "com/example/strata/strata/store/AnswerReader$Head" (9 : Nat) "com/example/strata/strata/store/AnswerReader$Head" "ofVersion11" "Z").before a0 Z = true := hw _ (List.mem_of_getElem? (i := 42) rfl)
theorem kw31 {Z : State} {a0 : Array Value} (hw : ∀ d ∈ tables_1, d.before a0 Z = true) : (Jvm.Cond.instantiable "com/example/strata/strata/store/AnswerReader$Head" (4 : Nat)).before a0 Z = true := hw _ (List.mem_of_getElem? (i := 31) rfl)
theorem kw45 {Z : State} {a0 : Array Value} (hw : ∀ d ∈ tables_1, d.before a0 Z = true) : (Jvm.Cond.laysFinal "com/example/strata/strata/store/AnswerReader$Head" "com/example/strata/strata/store/AnswerReader$Head" "code" "I").before a0 Z = true := hw _ (List.mem_of_getElem? (i := 45) rfl)
theorem kw47 {Z : State} {a0 : Array Value} (hw : ∀ d ∈ tables_1, d.before a0 Z = true) : (Jvm.Cond.laysFinal "com/example/strata/strata/store/AnswerReader$Head" "com/example/strata/strata/store/AnswerReader$Head" "reason" "Ljava/lang/String;").before a0 Z = true := hw _ (List.mem_of_getElem? (i := 47) rfl)
theorem kw49 {Z : State} {a0 : Array Value} (hw : ∀ d ∈ tables_1, d.before a0 Z = true) : (Jvm.Cond.laysFinal "com/example/strata/strata/store/AnswerReader$Head" "com/example/strata/strata/store/AnswerReader$Head" "headers" "Ljava/util/Map;").before a0 Z = true := hw _ (List.mem_of_getElem? (i := 49) rfl)
theorem kw44 {Z : State} {a0 : Array Value} (hw : ∀ d ∈ tables_1, d.before a0 Z = true) : (Jvm.Cond.fieldLink "com/example/strata/strata/store/AnswerReader$Head" (15 : Nat) "com/example/strata/strata/store/AnswerReader$Head" "code" "I").before a0 Z = true := hw _ (List.mem_of_getElem? (i := 44) rfl)
theorem kw46 {Z : State} {a0 : Array Value} (hw : ∀ d ∈ tables_1, d.before a0 Z = true) : (Jvm.Cond.fieldLink "com/example/strata/strata/store/AnswerReader$Head" (19 : Nat) "com/example/strata/strata/store/AnswerReader$Head" "reason" "Ljava/lang/String;").before a0 Z = true := hw _ (List.mem_of_getElem? (i := 46) rfl)
theorem kw48 {Z : State} {a0 : Array Value} (hw : ∀ d ∈ tables_1, d.before a0 Z = true) : (Jvm.Cond.fieldLink "com/example/strata/strata/store/AnswerReader$Head" (23 : Nat) "com/example/strata/strata/store/AnswerReader$Head" "headers" "Ljava/util/Map;").before a0 Z = true := hw _ (List.mem_of_getElem? (i := 48) rfl)
theorem d_prog_40_method_1_0 : decode prog_40_method_1_code 0 = .ok (.aload_n 0, 1) := by decide +kernel
theorem d_prog_40_method_1_1 : decode prog_40_method_1_code 1 = .ok (.invokespecial 3, 3) := by decide +kernel
theorem d_prog_40_method_1_4 : decode prog_40_method_1_code 4 = .ok (.aload_n 0, 1) := by decide +kernel
theorem d_prog_40_method_1_5 : decode prog_40_method_1_code 5 = .ok (.iload_n 1, 1) := by decide +kernel
theorem d_prog_40_method_1_6 : decode prog_40_method_1_code 6 = .ok (.putfield 9, 3) := by decide +kernel
theorem d_prog_40_method_1_9 : decode prog_40_method_1_code 9 = .ok (.aload_n 0, 1) := by decide +kernel
theorem d_prog_40_method_1_10 : decode prog_40_method_1_code 10 = .ok (.iload_n 2, 1) := by decide +kernel
theorem d_prog_40_method_1_11 : decode prog_40_method_1_code 11 = .ok (.putfield 15, 3) := by decide +kernel
theorem d_prog_40_method_1_14 : decode prog_40_method_1_code 14 = .ok (.aload_n 0, 1) := by decide +kernel
theorem d_prog_40_method_1_15 : decode prog_40_method_1_code 15 = .ok (.aload_n 3, 1) := by decide +kernel
theorem d_prog_40_method_1_16 : decode prog_40_method_1_code 16 = .ok (.putfield 19, 3) := by decide +kernel
theorem d_prog_40_method_1_19 : decode prog_40_method_1_code 19 = .ok (.aload_n 0, 1) := by decide +kernel
theorem d_prog_40_method_1_20 : decode prog_40_method_1_code 20 = .ok (.aload 4, 2) := by decide +kernel
theorem d_prog_40_method_1_22 : decode prog_40_method_1_code 22 = .ok (.putfield 23, 3) := by decide +kernel
theorem pn2 : plainName "com/example/strata/strata/store/AnswerReader$Head" = true := by first | (simp [plainName, overriddenIn]; done) | decide +kernel
theorem ef_ctor (m : MethodId) (thisctor : Addr) (xctor_1 : Int32) (xctor_2 : Int32) (actor_3 : Addr) : entryFrame m #[(.ref thisctor), (.int xctor_1), (.int xctor_2), (.ref actor_3), .null] 5 = mkF m 0 #[.val (.ref thisctor), .val (.int xctor_1), .val (.int xctor_2), .val (.ref actor_3), .val .null] [] := by first | (simp [entryFrame, mkF, argsToLocals, Value.category]; done) | rfl
def Q_ctor (Z : State) (thisctor : Addr) (xctor_1 : Int32) (xctor_2 : Int32) (actor_3 : Addr) (h0 : Heap) (n0 : Nat) (v : Option Value) (h : Heap) (L : List Loc) : Prop := v = none ∧ Fr n0 L ∧ Keep h0 h [thisctor] ∧ Exa Z h thisctor "com/example/strata/strata/store/AnswerReader$Head" ∧ Fld Z h thisctor "com/example/strata/strata/store/AnswerReader$Head" "ofVersion11" "Z" (.int xctor_1) ∧ Fld Z h thisctor "com/example/strata/strata/store/AnswerReader$Head" "code" "I" (.int xctor_2) ∧ Fld Z h thisctor "com/example/strata/strata/store/AnswerReader$Head" "reason" "Ljava/lang/String;" (.ref actor_3) ∧ Fld Z h thisctor "com/example/strata/strata/store/AnswerReader$Head" "headers" "Ljava/util/Map;" .null
theorem d_prog_40_method_1_25 : decode prog_40_method_1_code 25 = .ok (.return_, 1) := by decide +kernel
abbrev mt2 : MethodName := ⟨"com/example/strata/strata/store/AnswerReader$Head", "<init>", "(ZILjava/lang/String;Ljava/util/Map;)V"⟩
set_option maxRecDepth 65536 in
set_option maxHeartbeats 40000000 in
theorem rm_ctor (l : Launch) (Z : State) (a0 : Array Value) (hw : ∀ d ∈ tables_1, d.before a0 Z = true) (ws : List Jvm.Cond) (thisctor : Addr) (xctor_1 : Int32) (xctor_2 : Int32) (actor_3 : Addr) (h0 : Heap) (n0 : Nat) (Z0 : n0 ≤ h0.size) (E_thisctor : Exa Z h0 thisctor "com/example/strata/strata/store/AnswerReader$Head") (F_thisctor_ofVersion11 : Fld Z h0 thisctor "com/example/strata/strata/store/AnswerReader$Head" "ofVersion11" "Z" (.int (0 : Int32))) (F_thisctor_code : Fld Z h0 thisctor "com/example/strata/strata/store/AnswerReader$Head" "code" "I" (.int (0 : Int32))) (F_thisctor_reason : Fld Z h0 thisctor "com/example/strata/strata/store/AnswerReader$Head" "reason" "Ljava/lang/String;" .null) (F_thisctor_headers : Fld Z h0 thisctor "com/example/strata/strata/store/AnswerReader$Head" "headers" "Ljava/util/Map;" .null) (g_thisctor : n0 ≤ thisctor) (n1 : narrow .boolean (.int xctor_1) = .int xctor_1) (f1 : fits .boolean (.int xctor_1) = true) :
    MetFree l mt2 (head1 (Jvm.Cond.code mt2 prog_40_method_1_code 5 none :: ws) ({ frames := 2, cells := 0, slots := 0, locals := 24 } : Room)) (fun a U => a = #[(.ref thisctor), (.int xctor_1), (.int xctor_2), (.ref actor_3), .null] ∧ Z.Warmed39 U.vm ∧ U.heap = h0) (fun _ _ _ _ _ => True) (fun _ U o U' => ∃ v L, o = .returned v ∧ (Q_ctor Z thisctor xctor_1 xctor_2 actor_3 h0 n0) v U'.heap L ∧ FrameEnd U o U' L ({ frames := 2, cells := 0, slots := 0, locals := 24 } : Room).cells ({ frames := 2, cells := 0, slots := 0, locals := 24 } : Room).slots) := by
  refine MetFree.of_bodySF (plainFor_of_name pn2) hisR ?_
  intro p e s m args below meth c s₁ Bd hml0 hP hK
  obtain ⟨rfl, hZ, hh⟩ := hP
  have hx := Bd.exec
  have hby := Bd.bytes
  have hml : c.maxLocals = 5 := hml0
  have hown : s.vm.findClass "com/example/strata/strata/store/AnswerReader$Head" = some m.cls := findClass_of_methodNamed Bd.named
  have hnm := (name_of_methodNamed Bd.named Bd.method).1
  have X0 : Stand p l e ({ frames := 2, cells := 0, slots := 0, locals := 24 } : Room) s m #[(.ref thisctor), (.int xctor_1), (.int xctor_2), (.ref actor_3), .null] below meth c s₁ [] 0 0 := Stand.of_body Bd
  have e0 : s₁.heap = h0 := by rw [← hh, Bd.state]; rfl
  have N0 := Fr.nil n0
  refine Wq.step (p := p) (e := e) (below := below) (En := (fun o t L => FrameEnd s o t L ({ frames := 2, cells := 0, slots := 0, locals := 24 } : Room).cells ({ frames := 2, cells := 0, slots := 0, locals := 24 } : Room).slots)) (Q := (Q_ctor Z thisctor xctor_1 xctor_2 actor_3 h0 n0)) (fun t k => castTop (ef_ctor m thisctor xctor_1 xctor_2 actor_3) k) ?_
  show Wq _ _ _ _ _ (s₁.setTop (mkF m 0 #[.val (.ref thisctor), .val (.int xctor_1), .val (.int xctor_2), .val (.ref actor_3), .val .null] []))
  refine Ow.aloadN X0 hx (pc' := 1) (hb hby d_prog_40_method_1_0) rfl rfl ?_
  obtain ⟨_, _, ⟨T2, L2, k2, n2⟩, -, X2, ⟨Lc2, hQ2, l2, y2, z2⟩, st2⟩ := X0.specialBack hx (y := mt1) rfl hown (mvT hZ (kw36 hw)) (mvT hZ (kw37 hw)) (mvT hZ (kw40 hw)) (by decide) (backOf (W := 0) (rm_rec l Z a0 hw [] thisctor h0 n0 Z0 ) hZ (kw40 hw) (kw39 hw) (by decide) (by decide)) (g := (mkF m 1 #[.val (.ref thisctor), .val (.int xctor_1), .val (.int xctor_2), .val (.ref actor_3), .val .null] [(.ref thisctor)])) rfl (by rw [hml]; rfl) (Steps.refl _) (a := thisctor) (argsL := []) (rest := []) (lenOf pd1 rfl) rfl (by show 2 * 0 + _ ≤ _; exact Nat.le_of_eq rfl) (hb hby d_prog_40_method_1_1) (fun _ _ => ⟨rfl, e0, (by decide : 0 + 0 ≤ _), (by decide : 0 + 0 ≤ _)⟩)
  dsimp only [Pt.U, Pt.locs, Pt.cells, Pt.slots] at X2 l2 y2 z2 st2 hQ2
  subst l2 y2 z2
  obtain ⟨rfl, Nq2, e2⟩ := hQ2
  have N2 := Fr.app N0 Nq2
  refine Wq.steps st2 ?_
  show Wq _ _ _ _ _ (T2.setTop (mkF m 4 #[.val (.ref thisctor), .val (.int xctor_1), .val (.int xctor_2), .val (.ref actor_3), .val .null] []))
  refine Ow.aloadN X2 hx (pc' := 5) (hb hby d_prog_40_method_1_4) rfl rfl ?_
  refine Ow.iloadN X2 hx (pc' := 6) (hb hby d_prog_40_method_1_5) rfl ?_
  obtain ⟨T3, h3, X3, e3, W3, st3⟩ := putF X2 hx hZ hown (host := "") (Or.inl (kw42 hw)) Via.refl e2 F_thisctor_ofVersion11 E_thisctor (Or.inr ⟨(kw43 hw), rfl, hnm⟩) (kw31 hw) (ty := .boolean) (by decide) (n1) (f1) (g := (mkF m 6 #[.val (.ref thisctor), .val (.int xctor_1), .val (.int xctor_2), .val (.ref actor_3), .val .null] [(.int xctor_1), (.ref thisctor)])) rfl rfl (hb hby d_prog_40_method_1_6)
  refine Wq.step st3 ?_
  have N3 := Fr.snoc X3 N2 g_thisctor
  have K3 : Keep h0 h3 [thisctor] := (Keep.refl h0 [thisctor]).wr W3 (Or.inl (List.mem_of_getElem? (i := 0) rfl))
  have Z3 : n0 ≤ h3.size := Nat.le_trans Z0 (Keep.of_wr W3).1
  have E_thisctor_t3 := E_thisctor.wr W3
  have F_thisctor_code_t3 := F_thisctor_code.other W3 (Or.inr (slot_ne (Or.inr (kw45 hw)) (Or.inr (kw43 hw)) (by decide) (t := .int) (t' := .boolean) (by decide) (by decide)))
  have F_thisctor_reason_t3 := F_thisctor_reason.other W3 (Or.inr (slot_ne (Or.inr (kw47 hw)) (Or.inr (kw43 hw)) (by decide) (t := (.object "java/lang/String")) (t' := .boolean) (by decide) (by decide)))
  have F_thisctor_headers_t3 := F_thisctor_headers.other W3 (Or.inr (slot_ne (Or.inr (kw49 hw)) (Or.inr (kw43 hw)) (by decide) (t := (.object "java/util/Map")) (t' := .boolean) (by decide) (by decide)))
  have F_thisctor_ofVersion11_t3 : Fld Z h3 thisctor "com/example/strata/strata/store/AnswerReader$Head" "ofVersion11" "Z" (.int xctor_1) := F_thisctor_ofVersion11.same W3
  show Wq _ _ _ _ _ (T3.setTop (mkF m 9 #[.val (.ref thisctor), .val (.int xctor_1), .val (.int xctor_2), .val (.ref actor_3), .val .null] []))
  refine Ow.aloadN X3 hx (pc' := 10) (hb hby d_prog_40_method_1_9) rfl rfl ?_
  refine Ow.iloadN X3 hx (pc' := 11) (hb hby d_prog_40_method_1_10) rfl ?_
  obtain ⟨T4, h4, X4, e4, W4, st4⟩ := putF X3 hx hZ hown (host := "") (Or.inl (kw44 hw)) Via.refl e3 F_thisctor_code_t3 E_thisctor_t3 (Or.inr ⟨(kw45 hw), rfl, hnm⟩) (kw31 hw) (ty := .int) (by decide) (rfl) (rfl) (g := (mkF m 11 #[.val (.ref thisctor), .val (.int xctor_1), .val (.int xctor_2), .val (.ref actor_3), .val .null] [(.int xctor_2), (.ref thisctor)])) rfl rfl (hb hby d_prog_40_method_1_11)
  refine Wq.step st4 ?_
  have N4 := Fr.snoc X4 N3 g_thisctor
  have K4 : Keep h0 h4 [thisctor] := K3.wr W4 (Or.inl (List.mem_of_getElem? (i := 0) rfl))
  have Z4 : n0 ≤ h4.size := Nat.le_trans Z3 (Keep.of_wr W4).1
  have E_thisctor_t4 := E_thisctor_t3.wr W4
  have F_thisctor_reason_t4 := F_thisctor_reason_t3.other W4 (Or.inr (slot_ne (Or.inr (kw47 hw)) (Or.inr (kw45 hw)) (by decide) (t := (.object "java/lang/String")) (t' := .int) (by decide) (by decide)))
  have F_thisctor_headers_t4 := F_thisctor_headers_t3.other W4 (Or.inr (slot_ne (Or.inr (kw49 hw)) (Or.inr (kw45 hw)) (by decide) (t := (.object "java/util/Map")) (t' := .int) (by decide) (by decide)))
  have F_thisctor_ofVersion11_t4 := F_thisctor_ofVersion11_t3.other W4 (Or.inr (slot_ne (Or.inr (kw43 hw)) (Or.inr (kw45 hw)) (by decide) (t := .boolean) (t' := .int) (by decide) (by decide)))
  have F_thisctor_code_t4 : Fld Z h4 thisctor "com/example/strata/strata/store/AnswerReader$Head" "code" "I" (.int xctor_2) := F_thisctor_code_t3.same W4
  show Wq _ _ _ _ _ (T4.setTop (mkF m 14 #[.val (.ref thisctor), .val (.int xctor_1), .val (.int xctor_2), .val (.ref actor_3), .val .null] []))
  refine Ow.aloadN X4 hx (pc' := 15) (hb hby d_prog_40_method_1_14) rfl rfl ?_
  refine Ow.aloadN X4 hx (pc' := 16) (hb hby d_prog_40_method_1_15) rfl rfl ?_
  obtain ⟨T5, h5, X5, e5, W5, st5⟩ := putF X4 hx hZ hown (host := "") (Or.inl (kw46 hw)) Via.refl e4 F_thisctor_reason_t4 E_thisctor_t4 (Or.inr ⟨(kw47 hw), rfl, hnm⟩) (kw31 hw) (ty := (.object "java/lang/String")) (by decide) (rfl) (rfl) (g := (mkF m 16 #[.val (.ref thisctor), .val (.int xctor_1), .val (.int xctor_2), .val (.ref actor_3), .val .null] [(.ref actor_3), (.ref thisctor)])) rfl rfl (hb hby d_prog_40_method_1_16)
  refine Wq.step st5 ?_
  have N5 := Fr.snoc X5 N4 g_thisctor
  have K5 : Keep h0 h5 [thisctor] := K4.wr W5 (Or.inl (List.mem_of_getElem? (i := 0) rfl))
  have Z5 : n0 ≤ h5.size := Nat.le_trans Z4 (Keep.of_wr W5).1
  have E_thisctor_t5 := E_thisctor_t4.wr W5
  have F_thisctor_headers_t5 := F_thisctor_headers_t4.other W5 (Or.inr (slot_ne (Or.inr (kw49 hw)) (Or.inr (kw47 hw)) (by decide) (t := (.object "java/util/Map")) (t' := (.object "java/lang/String")) (by decide) (by decide)))
  have F_thisctor_ofVersion11_t5 := F_thisctor_ofVersion11_t4.other W5 (Or.inr (slot_ne (Or.inr (kw43 hw)) (Or.inr (kw47 hw)) (by decide) (t := .boolean) (t' := (.object "java/lang/String")) (by decide) (by decide)))
  have F_thisctor_code_t5 := F_thisctor_code_t4.other W5 (Or.inr (slot_ne (Or.inr (kw45 hw)) (Or.inr (kw47 hw)) (by decide) (t := .int) (t' := (.object "java/lang/String")) (by decide) (by decide)))
  have F_thisctor_reason_t5 : Fld Z h5 thisctor "com/example/strata/strata/store/AnswerReader$Head" "reason" "Ljava/lang/String;" (.ref actor_3) := F_thisctor_reason_t4.same W5
  show Wq _ _ _ _ _ (T5.setTop (mkF m 19 #[.val (.ref thisctor), .val (.int xctor_1), .val (.int xctor_2), .val (.ref actor_3), .val .null] []))
  refine Ow.aloadN X5 hx (pc' := 20) (hb hby d_prog_40_method_1_19) rfl rfl ?_
  refine Ow.aload X5 hx (pc' := 22) (hb hby d_prog_40_method_1_20) rfl rfl ?_
  obtain ⟨T6, h6, X6, e6, W6, st6⟩ := putF X5 hx hZ hown (host := "") (Or.inl (kw48 hw)) Via.refl e5 F_thisctor_headers_t5 E_thisctor_t5 (Or.inr ⟨(kw49 hw), rfl, hnm⟩) (kw31 hw) (ty := (.object "java/util/Map")) (by decide) (rfl) (rfl) (g := (mkF m 22 #[.val (.ref thisctor), .val (.int xctor_1), .val (.int xctor_2), .val (.ref actor_3), .val .null] [.null, (.ref thisctor)])) rfl rfl (hb hby d_prog_40_method_1_22)
  refine Wq.step st6 ?_
  have N6 := Fr.snoc X6 N5 g_thisctor
  have K6 : Keep h0 h6 [thisctor] := K5.wr W6 (Or.inl (List.mem_of_getElem? (i := 0) rfl))
  have Z6 : n0 ≤ h6.size := Nat.le_trans Z5 (Keep.of_wr W6).1
  have E_thisctor_t6 := E_thisctor_t5.wr W6
  have F_thisctor_ofVersion11_t6 := F_thisctor_ofVersion11_t5.other W6 (Or.inr (slot_ne (Or.inr (kw43 hw)) (Or.inr (kw49 hw)) (by decide) (t := .boolean) (t' := (.object "java/util/Map")) (by decide) (by decide)))
  have F_thisctor_code_t6 := F_thisctor_code_t5.other W6 (Or.inr (slot_ne (Or.inr (kw45 hw)) (Or.inr (kw49 hw)) (by decide) (t := .int) (t' := (.object "java/util/Map")) (by decide) (by decide)))
  have F_thisctor_reason_t6 := F_thisctor_reason_t5.other W6 (Or.inr (slot_ne (Or.inr (kw47 hw)) (Or.inr (kw49 hw)) (by decide) (t := (.object "java/lang/String")) (t' := (.object "java/util/Map")) (by decide) (by decide)))
  have F_thisctor_headers_t6 : Fld Z h6 thisctor "com/example/strata/strata/store/AnswerReader$Head" "headers" "Ljava/util/Map;" .null := F_thisctor_headers_t5.same W6
  show Wq _ _ _ _ _ (T6.setTop (mkF m 25 #[.val (.ref thisctor), .val (.int xctor_1), .val (.int xctor_2), .val (.ref actor_3), .val .null] []))
  exact Wq.ret X6 (BodyLoose.notSynchronized Bd) (rv := none) (fun _ => rfl) (fun _ hr => X6.returnOut hx Bd.returns (hb hby d_prog_40_method_1_25) hr) (by decide) (by decide) (by rw [e6]; exact ⟨rfl, N6, K6, E_thisctor_t6, F_thisctor_ofVersion11_t6, F_thisctor_code_t6, F_thisctor_reason_t6, F_thisctor_headers_t6⟩)
theorem d_prog_40_method_2_0 : decode prog_40_method_2_code 0 = .ok (.aload_n 0, 1) := by decide +kernel
theorem d_prog_40_method_2_1 : decode prog_40_method_2_code 1 = .ok (.getfield 15, 3) := by decide +kernel
theorem d_prog_40_method_2_4 : decode prog_40_method_2_code 4 = .ok (.bipush 100, 2) := by decide +kernel
theorem d_prog_40_method_2_6 : decode prog_40_method_2_code 6 = .ok (.if_icmp .lt 17, 3) := by decide +kernel
theorem d_prog_40_method_2_9 : decode prog_40_method_2_code 9 = .ok (.aload_n 0, 1) := by decide +kernel
theorem d_prog_40_method_2_10 : decode prog_40_method_2_code 10 = .ok (.getfield 15, 3) := by decide +kernel
theorem d_prog_40_method_2_13 : decode prog_40_method_2_code 13 = .ok (.sipush 200, 3) := by decide +kernel
theorem d_prog_40_method_2_16 : decode prog_40_method_2_code 16 = .ok (.if_icmp .ge 7, 3) := by decide +kernel
theorem d_prog_40_method_2_19 : decode prog_40_method_2_code 19 = .ok (.iconst 1, 1) := by decide +kernel
theorem d_prog_40_method_2_20 : decode prog_40_method_2_code 20 = .ok (.goto 4, 3) := by decide +kernel
theorem d_prog_40_method_2_23 : decode prog_40_method_2_code 23 = .ok (.iconst 0, 1) := by decide +kernel
theorem ef_int (m : MethodId) (thisint : Addr) : entryFrame m #[(.ref thisint)] 1 = mkF m 0 #[.val (.ref thisint)] [] := by first | (simp [entryFrame, mkF, argsToLocals, Value.category]; done) | rfl
def f_int (wint_code : Int32) : Int32 := (if wint_code < (100 : Int32) then (0 : Int32) else ((if wint_code < (200 : Int32) then (1 : Int32) else (0 : Int32)) &&& 1))
def Q_int (Z : State) (thisint : Addr) (wint_code : Int32) (h0 : Heap) (n0 : Nat) (v : Option Value) (h : Heap) (L : List Loc) : Prop := v = some (.int (f_int wint_code)) ∧ Fr n0 L ∧ h = h0
theorem d_prog_40_method_2_24 : decode prog_40_method_2_code 24 = .ok (.ireturn, 1) := by decide +kernel
abbrev mt3 : MethodName := ⟨"com/example/strata/strata/store/AnswerReader$Head", "interim", "()Z"⟩
set_option maxRecDepth 65536 in
set_option maxHeartbeats 40000000 in
theorem rm_int (l : Launch) (Z : State) (a0 : Array Value) (hw : ∀ d ∈ tables_1, d.before a0 Z = true) (ws : List Jvm.Cond) (thisint : Addr) (wint_code : Int32) (h0 : Heap) (n0 : Nat) (Z0 : n0 ≤ h0.size) (F_thisint_code : Fld Z h0 thisint "com/example/strata/strata/store/AnswerReader$Head" "code" "I" (.int wint_code)) :
    MetFree l mt3 (head1 (Jvm.Cond.code mt3 prog_40_method_2_code 1 (some .boolean) :: ws) ({ frames := 0, cells := 0, slots := 0, locals := 0 } : Room)) (fun a U => a = #[(.ref thisint)] ∧ Z.Warmed39 U.vm ∧ U.heap = h0) (fun _ _ _ _ _ => True) (fun _ U o U' => ∃ v L, o = .returned v ∧ (Q_int Z thisint wint_code h0 n0) v U'.heap L ∧ FrameEnd U o U' L ({ frames := 0, cells := 0, slots := 0, locals := 0 } : Room).cells ({ frames := 0, cells := 0, slots := 0, locals := 0 } : Room).slots) := by
  refine MetFree.of_bodySF (plainFor_of_name pn2) hisR ?_
  intro p e s m args below meth c s₁ Bd hml0 hP hK
  obtain ⟨rfl, hZ, hh⟩ := hP
  have hx := Bd.exec
  have hby := Bd.bytes
  have hml : c.maxLocals = 1 := hml0
  have hown : s.vm.findClass "com/example/strata/strata/store/AnswerReader$Head" = some m.cls := findClass_of_methodNamed Bd.named
  have hnm := (name_of_methodNamed Bd.named Bd.method).1
  have X0 : Stand p l e ({ frames := 0, cells := 0, slots := 0, locals := 0 } : Room) s m #[(.ref thisint)] below meth c s₁ [] 0 0 := Stand.of_body Bd
  have e0 : s₁.heap = h0 := by rw [← hh, Bd.state]; rfl
  have N0 := Fr.nil n0
  refine Wq.step (p := p) (e := e) (below := below) (En := (fun o t L => FrameEnd s o t L ({ frames := 0, cells := 0, slots := 0, locals := 0 } : Room).cells ({ frames := 0, cells := 0, slots := 0, locals := 0 } : Room).slots)) (Q := (Q_int Z thisint wint_code h0 n0)) (fun t k => castTop (ef_int m thisint) k) ?_
  show Wq _ _ _ _ _ (s₁.setTop (mkF m 0 #[.val (.ref thisint)] []))
  refine Ow.aloadN X0 hx (pc' := 1) (hb hby d_prog_40_method_2_0) rfl rfl ?_
  obtain ⟨T7, X7, e7, st7⟩ := getF X0 hx hZ hown (host := "") (Or.inl (kw44 hw)) Via.refl e0 F_thisint_code (g := (mkF m 1 #[.val (.ref thisint)] [(.ref thisint)])) rfl rfl (hb hby d_prog_40_method_2_1)
  refine Wq.step st7 ?_
  show Wq _ _ _ _ _ (T7.setTop (mkF m 4 #[.val (.ref thisint)] [(.int wint_code)]))
  refine Ow.bipush X7 hx (pc' := 6) (hb hby d_prog_40_method_2_4) (z := (100 : Int32)) rfl ?_
  by_cases hc6 : wint_code < (100 : Int32)
  · skip
    refine Ow.icmpYes X7 hx (pc' := 23) (hb hby d_prog_40_method_2_6) (tlt hc6).1 (by decide) (by decide) ?_
    refine Ow.iconst X7 hx (pc' := 24) (hb hby d_prog_40_method_2_23) (z := (0 : Int32)) rfl ?_
    exact Wq.ret X7 (BodyLoose.notSynchronized Bd) (rv := some (.int (0 : Int32))) (fun h => by rw [Bd.returns] at h; cases h) (fun _ hr => retN X7 hx (t := .boolean) Bd.returns (by simp) (hb hby d_prog_40_method_2_24) hr) (by decide) (by decide) ⟨by simp only [f_int, if_pos hc6], N0, e7⟩
  · skip
    refine Ow.icmpNo X7 hx (pc' := 9) (hb hby d_prog_40_method_2_6) (flt hc6).1 ?_
    refine Ow.aloadN X7 hx (pc' := 10) (hb hby d_prog_40_method_2_9) rfl rfl ?_
    obtain ⟨T8, X8, e8, st8⟩ := getF X7 hx hZ hown (host := "") (Or.inl (kw44 hw)) Via.refl e7 F_thisint_code (g := (mkF m 10 #[.val (.ref thisint)] [(.ref thisint)])) rfl rfl (hb hby d_prog_40_method_2_10)
    refine Wq.step st8 ?_
    show Wq _ _ _ _ _ (T8.setTop (mkF m 13 #[.val (.ref thisint)] [(.int wint_code)]))
    refine Ow.sipush X8 hx (pc' := 16) (hb hby d_prog_40_method_2_13) (z := (200 : Int32)) rfl ?_
    refine Wq.by (U' := T8.setTop (mkF m 24 #[.val (.ref thisint)] [(.int (if wint_code < (200 : Int32) then (1 : Int32) else (0 : Int32)))])) (fun k => ?_) ?_
    · skip
      by_cases hm16 : wint_code < (200 : Int32)
      · skip
        refine Ow.icmpNo X8 hx (pc' := 19) (hb hby d_prog_40_method_2_16) (tlt hm16).2.1 ?_
        refine Ow.iconst X8 hx (pc' := 20) (hb hby d_prog_40_method_2_19) (z := (1 : Int32)) rfl ?_
        refine Ow.goto X8 hx (pc' := 24) (hb hby d_prog_40_method_2_20) (by decide) (by decide) ?_
        simp only [if_pos hm16] at k
        exact k
      · skip
        refine Ow.icmpYes X8 hx (pc' := 23) (hb hby d_prog_40_method_2_16) (flt hm16).2.1 (by decide) (by decide) ?_
        refine Ow.iconst X8 hx (pc' := 24) (hb hby d_prog_40_method_2_23) (z := (0 : Int32)) rfl ?_
        simp only [if_neg hm16] at k
        exact k
    exact Wq.ret X8 (BodyLoose.notSynchronized Bd) (rv := some (.int ((if wint_code < (200 : Int32) then (1 : Int32) else (0 : Int32)) &&& 1))) (fun h => by rw [Bd.returns] at h; cases h) (fun _ hr => retN X8 hx (t := .boolean) Bd.returns (by simp) (hb hby d_prog_40_method_2_24) hr) (by decide) (by decide) ⟨by simp only [f_int, if_neg hc6], N0, e8⟩
theorem own_c255 (r : Int32) : 0 ≤ ((((r &&& (255 : Int32)).toUInt32.toUInt16.toUInt32.toInt32).toUInt32.toUInt16.toUInt32.toInt32)).toInt ∧ ((((r &&& (255 : Int32)).toUInt32.toUInt16.toUInt32.toInt32).toUInt32.toUInt16.toUInt32.toInt32)).toInt ≤ 255 := by
  have m := c_mask r 255 8 (by decide) (by decide)
  have c1 := c_i2c (r &&& (255 : Int32))
  have c2 := c_i2c ((r &&& (255 : Int32)).toUInt32.toUInt16.toUInt32.toInt32)
  omega
theorem own_lat (r : Int32) : ∀ c ∈ [(((r &&& (255 : Int32)).toUInt32.toUInt16.toUInt32.toInt32).toUInt32.toUInt16.toUInt32.toInt32)], ¬ c < 0 ∧ ¬ (255 : Int32) < c := by
  intro c hc
  have h := own_c255 r
  rw [List.mem_singleton.mp hc]
  have e0 : (0 : Int32).toInt = 0 := by decide
  have e1 : (255 : Int32).toInt = 255 := by decide
  constructor <;> rw [Int32.lt_iff_toInt_lt] <;> omega
theorem own_latF (r : Int32) : ∀ v ∈ [Value.int (((r &&& (255 : Int32)).toUInt32.toUInt16.toUInt32.toInt32).toUInt32.toUInt16.toUInt32.toInt32)], fits .char v = true := by
  intro v hv
  rw [List.mem_singleton.mp hv]
  exact fits_nar_char _
theorem own_arv {Z : State} {h : Heap} {a : Addr} {c : Int32} (V : Al Z h a .char [Value.int c]) (hf : ∀ v ∈ [Value.int c], fits .char v = true) : ∃ k, Arv Z h a k .char (1 : Int32) ([c].map Value.int) (.int (0 : Int32)) := by
  obtain ⟨cl, A, r⟩ := V
  have sz : cl.slots.size = 1 := by rw [← Array.length_toList, r]; rfl
  refine ⟨cl.cls, cl, A, rfl, by rw [sz]; rfl, by decide, fun k hk => ?_, fun i hi => ?_⟩
  · obtain rfl : k = 0 := by omega
    rw [← Array.getElem?_toList, r]; rfl
  · obtain rfl : i = 0 := by omega
    exact hf _ (List.mem_singleton.mpr rfl)
theorem own_bool (b : Int32) (m : Int32) (h : (if b = (0 : Int32) then (0 : Int32) else (1 : Int32)) = m) : narrow .boolean (.int m) = .int m ∧ fits .boolean (.int m) = true := by
  subst h
  split <;> exact ⟨rfl, rfl⟩
theorem own_math (c m : Int32) (h : (if (c / (100 : Int32)) = (1 : Int32) then (1 : Int32) else (0 : Int32)) = m) : f_int c = m := by
  subst h
  unfold f_int
  have e1 : (1 : Int32).toInt = 1 := by decide
  have e2 : (100 : Int32).toInt = 100 := by decide
  have e3 : (200 : Int32).toInt = 200 := by decide
  have d := c_idiv c 100 100 (by decide) (by decide)
  simp only [Int32.lt_iff_toInt_lt, ← Int32.toInt_inj, e1, e2, e3]
  by_cases q : 0 ≤ c.toInt
  · have d1 := d.1 q
    repeat' split
    all_goals first | rfl | (exfalso; omega)
  · have d2 := d.2 (by omega)
    repeat' split
    all_goals first | rfl | (exfalso; omega)
theorem kw0 {Z : State} {a0 : Array Value} (hw : ∀ d ∈ tables_1, d.before a0 Z = true) : (Jvm.Cond.arrayClass Jvm.ClassFile.FieldType.char).before a0 Z = true := hw _ (List.mem_of_getElem? (i := 0) rfl)
theorem kw1 {Z : State} {a0 : Array Value} (hw : ∀ d ∈ tables_1, d.before a0 Z = true) : (Jvm.Cond.classLink "com/example/strata/strata/store/HeadInterimPinLaw" (7 : Nat) "java/lang/String").before a0 Z = true := hw _ (List.mem_of_getElem? (i := 1) rfl)
theorem kw2 {Z : State} {a0 : Array Value} (hw : ∀ d ∈ tables_1, d.before a0 Z = true) : (Jvm.Cond.instantiable "java/lang/String" (4 : Nat)).before a0 Z = true := hw _ (List.mem_of_getElem? (i := 2) rfl)
theorem kw3 {Z : State} {a0 : Array Value} (hw : ∀ d ∈ tables_1, d.before a0 Z = true) : (Jvm.Cond.initialized "java/lang/String").before a0 Z = true := hw _ (List.mem_of_getElem? (i := 3) rfl)
theorem kw27 {Z : State} {a0 : Array Value} (hw : ∀ d ∈ tables_1, d.before a0 Z = true) : (Jvm.Cond.laysFinal "java/lang/String" "java/lang/String" "coder" "B").before a0 Z = true := hw _ (List.mem_of_getElem? (i := 27) rfl)
theorem kw29 {Z : State} {a0 : Array Value} (hw : ∀ d ∈ tables_1, d.before a0 Z = true) : (Jvm.Cond.laysFinal "java/lang/String" "java/lang/String" "value" "[B").before a0 Z = true := hw _ (List.mem_of_getElem? (i := 29) rfl)
theorem pd2 : parseMethodDescriptor "([C)V" = some ⟨[(.array .char)], none⟩ := by decide +kernel
abbrev mt4 : MethodName := ⟨"java/lang/String", "<init>", "([C)V"⟩
theorem kw4 {Z : State} {a0 : Array Value} (hw : ∀ d ∈ tables_1, d.before a0 Z = true) : (Jvm.Cond.methodLink "com/example/strata/strata/store/HeadInterimPinLaw" (9 : Nat) ({ cls := "java/lang/String", name := "<init>", desc := "([C)V" } : Jvm.MethodName)).before a0 Z = true := hw _ (List.mem_of_getElem? (i := 4) rfl)
theorem kw5 {Z : State} {a0 : Array Value} (hw : ∀ d ∈ tables_1, d.before a0 Z = true) : (Jvm.Cond.instanceMethod ({ cls := "java/lang/String", name := "<init>", desc := "([C)V" } : Jvm.MethodName)).before a0 Z = true := hw _ (List.mem_of_getElem? (i := 5) rfl)
theorem kw6 {Z : State} {a0 : Array Value} (hw : ∀ d ∈ tables_1, d.before a0 Z = true) : (Jvm.Cond.code ({ cls := "java/lang/String", name := "<init>", desc := "([C)V" } : Jvm.MethodName) jdk_42_method_3_code (2 : Nat) (Option.none : Option Jvm.ClassFile.FieldType)).before a0 Z = true := hw _ (List.mem_of_getElem? (i := 6) rfl)
theorem kw30 {Z : State} {a0 : Array Value} (hw : ∀ d ∈ tables_1, d.before a0 Z = true) : (Jvm.Cond.classLink "com/example/strata/strata/store/HeadInterimPinLaw" (12 : Nat) "com/example/strata/strata/store/AnswerReader$Head").before a0 Z = true := hw _ (List.mem_of_getElem? (i := 30) rfl)
theorem kw32 {Z : State} {a0 : Array Value} (hw : ∀ d ∈ tables_1, d.before a0 Z = true) : (Jvm.Cond.initialized "com/example/strata/strata/store/AnswerReader$Head").before a0 Z = true := hw _ (List.mem_of_getElem? (i := 32) rfl)
theorem kw35 {Z : State} {a0 : Array Value} (hw : ∀ d ∈ tables_1, d.before a0 Z = true) : (Jvm.Cond.code ({ cls := "com/example/strata/strata/store/AnswerReader$Head", name := "<init>", desc := "(ZILjava/lang/String;Ljava/util/Map;)V" } : Jvm.MethodName) prog_40_method_1_code (5 : Nat) (Option.none : Option Jvm.ClassFile.FieldType)).before a0 Z = true := hw _ (List.mem_of_getElem? (i := 35) rfl)
theorem pd3 : parseMethodDescriptor "(ZILjava/lang/String;Ljava/util/Map;)V" = some ⟨[.boolean, .int, (.object "java/lang/String"), (.object "java/util/Map")], none⟩ := by decide +kernel
theorem kw33 {Z : State} {a0 : Array Value} (hw : ∀ d ∈ tables_1, d.before a0 Z = true) : (Jvm.Cond.methodLink "com/example/strata/strata/store/HeadInterimPinLaw" (14 : Nat) ({ cls := "com/example/strata/strata/store/AnswerReader$Head", name := "<init>", desc := "(ZILjava/lang/String;Ljava/util/Map;)V" } : Jvm.MethodName)).before a0 Z = true := hw _ (List.mem_of_getElem? (i := 33) rfl)
theorem kw34 {Z : State} {a0 : Array Value} (hw : ∀ d ∈ tables_1, d.before a0 Z = true) : (Jvm.Cond.instanceMethod ({ cls := "com/example/strata/strata/store/AnswerReader$Head", name := "<init>", desc := "(ZILjava/lang/String;Ljava/util/Map;)V" } : Jvm.MethodName)).before a0 Z = true := hw _ (List.mem_of_getElem? (i := 34) rfl)
theorem kw54 {Z : State} {a0 : Array Value} (hw : ∀ d ∈ tables_1, d.before a0 Z = true) : (Jvm.Cond.code ({ cls := "com/example/strata/strata/store/AnswerReader$Head", name := "interim", desc := "()Z" } : Jvm.MethodName) prog_40_method_2_code (1 : Nat) (Option.some Jvm.ClassFile.FieldType.boolean)).before a0 Z = true := hw _ (List.mem_of_getElem? (i := 54) rfl)
theorem pd4 : parseMethodDescriptor "()Z" = some ⟨[], some .boolean⟩ := by decide +kernel
theorem kw50 {Z : State} {a0 : Array Value} (hw : ∀ d ∈ tables_1, d.before a0 Z = true) : (Jvm.Cond.methodLink "com/example/strata/strata/store/HeadInterimPinLaw" (17 : Nat) ({ cls := "com/example/strata/strata/store/AnswerReader$Head", name := "interim", desc := "()Z" } : Jvm.MethodName)).before a0 Z = true := hw _ (List.mem_of_getElem? (i := 50) rfl)
theorem kw51 {Z : State} {a0 : Array Value} (hw : ∀ d ∈ tables_1, d.before a0 Z = true) : (Jvm.Cond.declares ({ cls := "com/example/strata/strata/store/AnswerReader$Head", name := "interim", desc := "()Z" } : Jvm.MethodName)).before a0 Z = true := hw _ (List.mem_of_getElem? (i := 51) rfl)
theorem kw53 {Z : State} {a0 : Array Value} (hw : ∀ d ∈ tables_1, d.before a0 Z = true) : (Jvm.Cond.selects "com/example/strata/strata/store/AnswerReader$Head" ({ cls := "com/example/strata/strata/store/AnswerReader$Head", name := "interim", desc := "()Z" } : Jvm.MethodName) ({ cls := "com/example/strata/strata/store/AnswerReader$Head", name := "interim", desc := "()Z" } : Jvm.MethodName)).before a0 Z = true := hw _ (List.mem_of_getElem? (i := 53) rfl)
theorem kw52 {Z : State} {a0 : Array Value} (hw : ∀ d ∈ tables_1, d.before a0 Z = true) : (Jvm.Cond.instanceMethod ({ cls := "com/example/strata/strata/store/AnswerReader$Head", name := "interim", desc := "()Z" } : Jvm.MethodName)).before a0 Z = true := hw _ (List.mem_of_getElem? (i := 52) rfl)
theorem pn3 : plainName "com/example/strata/strata/store/HeadInterimPinLaw" = true := by first | (simp [plainName, overriddenIn]; done) | decide +kernel
theorem ef_law (m : MethodId) (xlaw_1 : Int32) (xlaw_2 : Int32) (xlaw_3 : Int32) (xlaw_4 : Int32) : entryFrame m #[(.int xlaw_1), (.int xlaw_2), (.int xlaw_3), (.int xlaw_4)] maxLocals = mkF m 0 #[.val (.int xlaw_1), .val (.int xlaw_2), .val (.int xlaw_3), .val (.int xlaw_4), .unset, .unset, .unset, .unset, .unset, .unset, .unset] [] := by first | (simp [entryFrame, mkF, argsToLocals, Value.category, maxLocals]; done) | rfl
def Q_law (n0 : Nat) (v : Option Value) (h : Heap) (L : List Loc) : Prop := v = some (.int 1) ∧ Fr n0 L
set_option maxRecDepth 65536 in
set_option maxHeartbeats 40000000 in
theorem rm_law (l : Launch) (Z : State) (a0 : Array Value) (hw : ∀ d ∈ tables_1, d.before a0 Z = true) (ws : List Jvm.Cond) (xlaw_1 : Int32) (xlaw_2 : Int32) (xlaw_3 : Int32) (xlaw_4 : Int32) (i11 : Int32) (h0 : Heap) (n0 : Nat) (Z0 : n0 ≤ h0.size) (S_COMPACT_STRINGS : Sta Z h0 "java/lang/String" "COMPACT_STRINGS" "Z" (.int i11)) (P3 : ¬ (i11 = (0 : Int32))) :
    MetFree l x (head1 (Jvm.Cond.code x code maxLocals ret :: ws) room_1) (fun a U => a = #[(.int xlaw_1), (.int xlaw_2), (.int xlaw_3), (.int xlaw_4)] ∧ Z.Warmed39 U.vm ∧ U.heap = h0) (fun _ _ _ _ _ => True) (fun _ U o U' => ∃ v L, o = .returned v ∧ (Q_law n0) v U'.heap L ∧ FrameEnd U o U' L 16 128) := by
  refine MetFree.of_bodySF (plainFor_of_name pn3) hisR ?_
  intro p e s m args below meth c s₁ Bd hml0 hP hK
  obtain ⟨rfl, hZ, hh⟩ := hP
  have hx := Bd.exec
  have hby := Bd.bytes
  have hml : c.maxLocals = 11 := hml0
  have hown : s.vm.findClass "com/example/strata/strata/store/HeadInterimPinLaw" = some m.cls := findClass_of_methodNamed Bd.named
  have hnm := (name_of_methodNamed Bd.named Bd.method).1
  have X0 : Stand p l e room_1 s m #[(.int xlaw_1), (.int xlaw_2), (.int xlaw_3), (.int xlaw_4)] below meth c s₁ [] 0 0 := Stand.of_body Bd
  have e0 : s₁.heap = h0 := by rw [← hh, Bd.state]; rfl
  have N0 := Fr.nil n0
  refine Wq.step (p := p) (e := e) (below := below) (En := (fun o t L => FrameEnd s o t L 16 128)) (Q := (Q_law n0)) (fun t k => castTop (ef_law m xlaw_1 xlaw_2 xlaw_3 xlaw_4) k) ?_
  show Wq _ _ _ _ _ (s₁.setTop (mkF m 0 #[.val (.int xlaw_1), .val (.int xlaw_2), .val (.int xlaw_3), .val (.int xlaw_4), .unset, .unset, .unset, .unset, .unset, .unset, .unset] []))
  refine Ow.iloadN X0 hx (pc' := 1) (hb hby at_0) rfl ?_
  refine Ow.iconst X0 hx (pc' := 2) (hb hby at_1) (z := (3 : Int32)) rfl ?_
  refine Ow.iand X0 hx (pc' := 3) (hb hby at_2) (z := (xlaw_3 &&& (3 : Int32))) rfl ?_
  refine Ow.istore X0 hx (pc' := 5) (hb hby at_3) (l' := #[.val (.int xlaw_1), .val (.int xlaw_2), .val (.int xlaw_3), .val (.int xlaw_4), .val (.int (xlaw_3 &&& (3 : Int32))), .unset, .unset, .unset, .unset, .unset, .unset]) rfl ?_
  generalize hv3 : (xlaw_3 &&& (3 : Int32)) = v3
  refine Ow.iload X0 hx (pc' := 7) (hb hby at_5) rfl ?_
  have J62 : ∀ (cd : Int32), Wq p e below (fun o t L => FrameEnd s o t L 16 128) (Q_law n0) (s₁.setTop (mkF m 62 #[.val (.int xlaw_1), .val (.int xlaw_2), .val (.int xlaw_3), .val (.int xlaw_4), .val (.int v3), .val (.int cd), .unset, .unset, .unset, .unset, .unset] [])) := by
    intro cd
    show Wq _ _ _ _ _ (s₁.setTop (mkF m 62 #[.val (.int xlaw_1), .val (.int xlaw_2), .val (.int xlaw_3), .val (.int xlaw_4), .val (.int v3), .val (.int cd), .unset, .unset, .unset, .unset, .unset] []))
    refine Ow.iloadN X0 hx (pc' := 63) (hb hby at_62) rfl ?_
    refine Ow.iconst X0 hx (pc' := 64) (hb hby at_63) (z := (1 : Int32)) rfl ?_
    refine Ow.iand X0 hx (pc' := 65) (hb hby at_64) (z := (xlaw_1 &&& (1 : Int32))) rfl ?_
    refine Wq.by (U' := s₁.setTop (mkF m 73 #[.val (.int xlaw_1), .val (.int xlaw_2), .val (.int xlaw_3), .val (.int xlaw_4), .val (.int v3), .val (.int cd), .unset, .unset, .unset, .unset, .unset] [(.int (if (xlaw_1 &&& (1 : Int32)) = (0 : Int32) then (0 : Int32) else (1 : Int32)))])) (fun k => ?_) ?_
    · skip
      by_cases hm65 : (xlaw_1 &&& (1 : Int32)) = (0 : Int32)
      · skip
        refine Ow.ifYes X0 hx (pc' := 72) (hb hby at_65) ((if0 _ _).trans (teq hm65).1) (by decide) (by decide) ?_
        refine Ow.iconst X0 hx (pc' := 73) (hb hby at_72) (z := (0 : Int32)) rfl ?_
        simp only [if_pos hm65] at k
        exact k
      · skip
        refine Ow.ifNo X0 hx (pc' := 68) (hb hby at_65) ((if0 _ _).trans (feq hm65).1) ?_
        refine Ow.iconst X0 hx (pc' := 69) (hb hby at_68) (z := (1 : Int32)) rfl ?_
        refine Ow.goto X0 hx (pc' := 73) (hb hby at_69) (by decide) (by decide) ?_
        simp only [if_neg hm65] at k
        exact k
    show Wq _ _ _ _ _ (s₁.setTop (mkF m 73 #[.val (.int xlaw_1), .val (.int xlaw_2), .val (.int xlaw_3), .val (.int xlaw_4), .val (.int v3), .val (.int cd), .unset, .unset, .unset, .unset, .unset] [(.int (if (xlaw_1 &&& (1 : Int32)) = (0 : Int32) then (0 : Int32) else (1 : Int32)))]))
    generalize hms73_0 : (if (xlaw_1 &&& (1 : Int32)) = (0 : Int32) then (0 : Int32) else (1 : Int32)) = ms73_0
    refine Ow.istore X0 hx (pc' := 75) (hb hby at_73) (l' := #[.val (.int xlaw_1), .val (.int xlaw_2), .val (.int xlaw_3), .val (.int xlaw_4), .val (.int v3), .val (.int cd), .val (.int ms73_0), .unset, .unset, .unset, .unset]) rfl ?_
    refine Ow.iconst X0 hx (pc' := 76) (hb hby at_75) (z := (1 : Int32)) rfl ?_
    obtain ⟨T9, h9, k9, X9, e9, E9, A9, st9⟩ := newP X0 hx hZ (aty := .char) (kw0 hw) e0 (g := (mkF m 76 #[.val (.int xlaw_1), .val (.int xlaw_2), .val (.int xlaw_3), .val (.int xlaw_4), .val (.int v3), .val (.int cd), .val (.int ms73_0), .unset, .unset, .unset, .unset] [(.int (1 : Int32))])) rfl (hb hby at_76) rfl (by decide) (cap := 1) (by decide) (by decide) (by decide) (by decide)
    obtain ⟨b9, gz9⟩ : ∃ z, z = h0.size := ⟨_, rfl⟩
    rw [← gz9] at A9 st9
    have g_b9 : n0 ≤ b9 := Nat.le_trans Z0 (Nat.le_of_eq gz9.symm)
    have sz_b9 : h0.size ≤ b9 := Nat.le_of_eq gz9.symm
    have K9 : Keep h0 h9 [] := (Keep.refl h0 []).ext E9
    have Z9 : n0 ≤ h9.size := Nat.le_trans Z0 E9.1
    have S_COMPACT_STRINGS_t9 := S_COMPACT_STRINGS.ext E9
    have V_b9 : Al Z h9 b9 .char [(.int (0 : Int32))] := Al.new A9 (k := 1) (rfl) rfl
    refine Wq.step st9 ?_
    show Wq _ _ _ _ _ (T9.setTop (mkF m 78 #[.val (.int xlaw_1), .val (.int xlaw_2), .val (.int xlaw_3), .val (.int xlaw_4), .val (.int v3), .val (.int cd), .val (.int ms73_0), .unset, .unset, .unset, .unset] [(.ref b9)]))
    refine Ow.dup X9 hx (pc' := 79) (hb hby at_78) rfl ?_
    refine Ow.iconst X9 hx (pc' := 80) (hb hby at_79) (z := (0 : Int32)) rfl ?_
    refine Ow.iloadN X9 hx (pc' := 81) (hb hby at_80) rfl ?_
    refine Ow.sipush X9 hx (pc' := 84) (hb hby at_81) (z := (255 : Int32)) rfl ?_
    refine Ow.iand X9 hx (pc' := 85) (hb hby at_84) (z := (xlaw_4 &&& (255 : Int32))) rfl ?_
    refine Ow.i2c X9 hx (pc' := 86) (hb hby at_85) (z := ((xlaw_4 &&& (255 : Int32)).toUInt32.toUInt16.toUInt32.toInt32)) rfl ?_
    obtain ⟨T10, h10, X10, e10, W10, Vr10, st10⟩ := asC X9 hx hZ e9 V_b9 (j := (0 : Int32)) (i := 0) (by decide) rfl (Nat.le_of_ble_eq_true rfl) (y := (((xlaw_4 &&& (255 : Int32)).toUInt32.toUInt16.toUInt32.toInt32).toUInt32.toUInt16.toUInt32.toInt32)) rfl (g := (mkF m 86 #[.val (.int xlaw_1), .val (.int xlaw_2), .val (.int xlaw_3), .val (.int xlaw_4), .val (.int v3), .val (.int cd), .val (.int ms73_0), .unset, .unset, .unset, .unset] [(.int ((xlaw_4 &&& (255 : Int32)).toUInt32.toUInt16.toUInt32.toInt32)), (.int (0 : Int32)), (.ref b9), (.ref b9)])) rfl rfl (hb hby at_86)
    refine Wq.step st10 ?_
    have N10 := Fr.snoc X10 N0 g_b9
    have K10 : Keep h0 h10 [] := K9.wr W10 (Or.inr sz_b9)
    have Z10 : n0 ≤ h10.size := Nat.le_trans Z9 (Keep.of_wr W10).1
    have S_COMPACT_STRINGS_t10 := S_COMPACT_STRINGS_t9.wr W10
    have V_b9_t10 : Al Z h10 b9 .char [(.int (((xlaw_4 &&& (255 : Int32)).toUInt32.toUInt16.toUInt32.toInt32).toUInt32.toUInt16.toUInt32.toInt32))] := Vr10
    show Wq _ _ _ _ _ (T10.setTop (mkF m 87 #[.val (.int xlaw_1), .val (.int xlaw_2), .val (.int xlaw_3), .val (.int xlaw_4), .val (.int v3), .val (.int cd), .val (.int ms73_0), .unset, .unset, .unset, .unset] [(.ref b9)]))
    refine Ow.astore X10 hx (pc' := 89) (hb hby at_87) rfl (l' := #[.val (.int xlaw_1), .val (.int xlaw_2), .val (.int xlaw_3), .val (.int xlaw_4), .val (.int v3), .val (.int cd), .val (.int ms73_0), .val (.ref b9), .unset, .unset, .unset]) rfl ?_
    obtain ⟨T11, h11, X11, e11, E11, A11, D11, -, st11⟩ := newO X10 hx hZ hown (kw1 hw) (kw2 hw) (kw3 hw) e10 (g := (mkF m 89 #[.val (.int xlaw_1), .val (.int xlaw_2), .val (.int xlaw_3), .val (.int xlaw_4), .val (.int v3), .val (.int cd), .val (.int ms73_0), .val (.ref b9), .unset, .unset, .unset] [])) rfl (hb hby at_89) (by decide) (by decide)
    obtain ⟨o11, gz11⟩ : ∃ z, z = h10.size := ⟨_, rfl⟩
    rw [← gz11] at A11 D11 st11
    have g_o11 : n0 ≤ o11 := Nat.le_trans Z10 (Nat.le_of_eq gz11.symm)
    have sz_o11 : h0.size ≤ o11 := Nat.le_trans K10.1 (Nat.le_of_eq gz11.symm)
    have ne_b9_o11 : b9 ≠ o11 := Nat.ne_of_lt (Nat.lt_of_lt_of_le V_b9_t10.lt (Nat.le_of_eq gz11.symm))
    have K11 : Keep h0 h11 [] := K10.ext E11
    have Z11 : n0 ≤ h11.size := Nat.le_trans Z10 E11.1
    have S_COMPACT_STRINGS_t11 := S_COMPACT_STRINGS_t10.ext E11
    have V_b9_t11 := V_b9_t10.ext E11
    refine Wq.step st11 ?_
    have F_o11_coder : Fld Z h11 o11 "java/lang/String" "coder" "B" (.int (0 : Int32)) := D11 (Or.inr (kw27 hw)) (ty := .byte) (by decide)
    have F_o11_value : Fld Z h11 o11 "java/lang/String" "value" "[B" .null := D11 (Or.inr (kw29 hw)) (ty := (.array .byte)) (by decide)
    show Wq _ _ _ _ _ (T11.setTop (mkF m 92 #[.val (.int xlaw_1), .val (.int xlaw_2), .val (.int xlaw_3), .val (.int xlaw_4), .val (.int v3), .val (.int cd), .val (.int ms73_0), .val (.ref b9), .unset, .unset, .unset] [(.ref o11)]))
    refine Ow.dup X11 hx (pc' := 93) (hb hby at_92) rfl ?_
    refine Ow.aload X11 hx (pc' := 95) (hb hby at_93) rfl rfl ?_
    obtain ⟨kC, AV12⟩ := own_arv V_b9_t11 (own_latF xlaw_4)
    have hws : ∀ d ∈ StrChars.Road.words, d.before a0 Z = true := fun d hd => hw d ((by decide +kernel : ∀ d ∈ StrChars.Road.words, d ∈ tables_1) d hd)
    obtain ⟨_, _, ⟨T12, L12, k12, n12⟩, -, X12, ⟨Lc12, hQ12, l12, y12, z12⟩, st12⟩ := X11.specialBack hx (y := mt4) rfl hown (mvT hZ (kw4 hw)) (mvT hZ (kw5 hw)) (mvT hZ (kw6 hw)) (by decide) (StrChars.Road.backV (W := 1) hZ hws (kI := 4) (kw2 hw) (cs := [(((xlaw_4 &&& (255 : Int32)).toUInt32.toUInt16.toUInt32.toInt32).toUInt32.toUInt16.toUInt32.toInt32)]) (bs := [(((xlaw_4 &&& (255 : Int32)).toUInt32.toUInt16.toUInt32.toInt32).toUInt32.toUInt16.toUInt32.toInt32).toInt8.toInt32]) (n := 1) g_o11 Z11 A11 F_o11_value F_o11_coder AV12 S_COMPACT_STRINGS_t11 P3 rfl rfl (by decide) (by decide) (own_lat xlaw_4) rfl (by decide) (by decide)) (g := (mkF m 95 #[.val (.int xlaw_1), .val (.int xlaw_2), .val (.int xlaw_3), .val (.int xlaw_4), .val (.int v3), .val (.int cd), .val (.int ms73_0), .val (.ref b9), .unset, .unset, .unset] [(.ref b9), (.ref o11), (.ref o11)])) rfl (by rw [hml]; rfl) (Steps.refl _) (a := o11) (argsL := [(.ref b9)]) (rest := [(.ref o11)]) (lenOf pd2 rfl) rfl (by show 2 * 0 + _ ≤ _; exact Nat.le_of_eq rfl) (hb hby at_95) (fun _ _ => ⟨rfl, e11, (by decide : 2 + 1 ≤ _), (by decide : 5 + 1 ≤ _)⟩)
    dsimp only [Pt.U, Pt.locs, Pt.cells, Pt.slots] at X12 l12 y12 z12 st12 hQ12
    subst l12 y12 z12
    obtain ⟨rfl, Nq12, Kq12, -⟩ := hQ12
    have N12 := Fr.app N10 Nq12
    have K12 : Keep h0 T12.heap [] := K11.trans Kq12 (allS (P := fun x => x ∈ [] ∨ h0.size ≤ x) (Or.inr sz_o11) all0)
    have Z12 : n0 ≤ T12.heap.size := Nat.le_trans Z11 Kq12.1
    have S_COMPACT_STRINGS_t12 := Jvm.OwnW.Sta.keepN S_COMPACT_STRINGS_t11 Kq12 (allS (P := fun w => ∀ cell : Cell, h11[w]? = some cell → cell.vm.isStatics = false) (Jvm.OwnW.Exa.ns A11) all0)
    have V_b9_t12 := V_b9_t11.keep Kq12 (ninS ne_b9_o11 nin0)
    have A11_t12 := A11.keep Kq12
    have e12 : T12.heap = T12.heap := rfl
    refine Wq.steps st12 ?_
    show Wq _ _ _ _ _ (T12.setTop (mkF m 98 #[.val (.int xlaw_1), .val (.int xlaw_2), .val (.int xlaw_3), .val (.int xlaw_4), .val (.int v3), .val (.int cd), .val (.int ms73_0), .val (.ref b9), .unset, .unset, .unset] [(.ref o11)]))
    refine Ow.astore X12 hx (pc' := 100) (hb hby at_98) rfl (l' := #[.val (.int xlaw_1), .val (.int xlaw_2), .val (.int xlaw_3), .val (.int xlaw_4), .val (.int v3), .val (.int cd), .val (.int ms73_0), .val (.ref b9), .val (.ref o11), .unset, .unset]) rfl ?_
    obtain ⟨T13, h13, X13, e13, E13, A13, D13, -, st13⟩ := newO X12 hx hZ hown (kw30 hw) (kw31 hw) (kw32 hw) e12 (g := (mkF m 100 #[.val (.int xlaw_1), .val (.int xlaw_2), .val (.int xlaw_3), .val (.int xlaw_4), .val (.int v3), .val (.int cd), .val (.int ms73_0), .val (.ref b9), .val (.ref o11), .unset, .unset] [])) rfl (hb hby at_100) (by decide) (by decide)
    obtain ⟨o13, gz13⟩ : ∃ z, z = T12.heap.size := ⟨_, rfl⟩
    rw [← gz13] at A13 D13 st13
    have g_o13 : n0 ≤ o13 := Nat.le_trans Z12 (Nat.le_of_eq gz13.symm)
    have sz_o13 : h0.size ≤ o13 := Nat.le_trans K12.1 (Nat.le_of_eq gz13.symm)
    have ne_b9_o13 : b9 ≠ o13 := Nat.ne_of_lt (Nat.lt_of_lt_of_le V_b9_t12.lt (Nat.le_of_eq gz13.symm))
    have ne_o11_o13 : o11 ≠ o13 := Nat.ne_of_lt (Nat.lt_of_lt_of_le A11_t12.lt (Nat.le_of_eq gz13.symm))
    have K13 : Keep h0 h13 [] := K12.ext E13
    have Z13 : n0 ≤ h13.size := Nat.le_trans Z12 E13.1
    have S_COMPACT_STRINGS_t13 := S_COMPACT_STRINGS_t12.ext E13
    have V_b9_t13 := V_b9_t12.ext E13
    have A11_t13 := A11_t12.ext E13
    refine Wq.step st13 ?_
    have F_o13_ofVersion11 : Fld Z h13 o13 "com/example/strata/strata/store/AnswerReader$Head" "ofVersion11" "Z" (.int (0 : Int32)) := D13 (Or.inr (kw43 hw)) (ty := .boolean) (by decide)
    have F_o13_code : Fld Z h13 o13 "com/example/strata/strata/store/AnswerReader$Head" "code" "I" (.int (0 : Int32)) := D13 (Or.inr (kw45 hw)) (ty := .int) (by decide)
    have F_o13_reason : Fld Z h13 o13 "com/example/strata/strata/store/AnswerReader$Head" "reason" "Ljava/lang/String;" .null := D13 (Or.inr (kw47 hw)) (ty := (.object "java/lang/String")) (by decide)
    have F_o13_headers : Fld Z h13 o13 "com/example/strata/strata/store/AnswerReader$Head" "headers" "Ljava/util/Map;" .null := D13 (Or.inr (kw49 hw)) (ty := (.object "java/util/Map")) (by decide)
    show Wq _ _ _ _ _ (T13.setTop (mkF m 103 #[.val (.int xlaw_1), .val (.int xlaw_2), .val (.int xlaw_3), .val (.int xlaw_4), .val (.int v3), .val (.int cd), .val (.int ms73_0), .val (.ref b9), .val (.ref o11), .unset, .unset] [(.ref o13)]))
    refine Ow.dup X13 hx (pc' := 104) (hb hby at_103) rfl ?_
    refine Ow.iload X13 hx (pc' := 106) (hb hby at_104) rfl ?_
    refine Ow.iload X13 hx (pc' := 108) (hb hby at_106) rfl ?_
    refine Ow.aload X13 hx (pc' := 110) (hb hby at_108) rfl rfl ?_
    refine Ow.aconstNull X13 hx (pc' := 111) (hb hby at_110)  ?_
    obtain ⟨_, _, ⟨T14, L14, k14, n14⟩, -, X14, ⟨Lc14, hQ14, l14, y14, z14⟩, st14⟩ := X13.specialBack hx (y := mt2) rfl hown (mvT hZ (kw33 hw)) (mvT hZ (kw34 hw)) (mvT hZ (kw35 hw)) (by decide) (backOf (W := 1) (rm_ctor l Z a0 hw [] o13 ms73_0 cd o11 h13 n0 Z13 A13 F_o13_ofVersion11 F_o13_code F_o13_reason F_o13_headers g_o13 ((own_bool _ _ hms73_0).1) ((own_bool _ _ hms73_0).2)) hZ (kw35 hw) (kw32 hw) (by decide) (by decide)) (g := (mkF m 111 #[.val (.int xlaw_1), .val (.int xlaw_2), .val (.int xlaw_3), .val (.int xlaw_4), .val (.int v3), .val (.int cd), .val (.int ms73_0), .val (.ref b9), .val (.ref o11), .unset, .unset] [.null, (.ref o11), (.int cd), (.int ms73_0), (.ref o13), (.ref o13)])) rfl (by rw [hml]; rfl) (Steps.refl _) (a := o13) (argsL := [(.int ms73_0), (.int cd), (.ref o11), .null]) (rest := [(.ref o13)]) (lenOf pd3 rfl) rfl (by show 2 * 0 + _ ≤ _; exact Nat.le_of_eq rfl) (hb hby at_111) (fun _ _ => ⟨rfl, e13, (by decide : 4 + 0 ≤ _), (by decide : 10 + 0 ≤ _)⟩)
    dsimp only [Pt.U, Pt.locs, Pt.cells, Pt.slots] at X14 l14 y14 z14 st14 hQ14
    subst l14 y14 z14
    obtain ⟨rfl, Nq14, Kq14, P14_0, P14_1, P14_2, P14_3, P14_4⟩ := hQ14
    have N14 := Fr.app N12 Nq14
    have K14 : Keep h0 T14.heap [] := K13.trans Kq14 (allS (P := fun x => x ∈ [] ∨ h0.size ≤ x) (Or.inr sz_o13) all0)
    have Z14 : n0 ≤ T14.heap.size := Nat.le_trans Z13 Kq14.1
    have S_COMPACT_STRINGS_t14 := Jvm.OwnW.Sta.keepN S_COMPACT_STRINGS_t13 Kq14 (allS (P := fun w => ∀ cell : Cell, h13[w]? = some cell → cell.vm.isStatics = false) (Jvm.OwnW.Exa.ns A13) all0)
    have V_b9_t14 := V_b9_t13.keep Kq14 (ninS ne_b9_o13 nin0)
    have A11_t14 := A11_t13.keep Kq14
    have A13_t14 := A13.keep Kq14
    have e14 : T14.heap = T14.heap := rfl
    refine Wq.steps st14 ?_
    show Wq _ _ _ _ _ (T14.setTop (mkF m 114 #[.val (.int xlaw_1), .val (.int xlaw_2), .val (.int xlaw_3), .val (.int xlaw_4), .val (.int v3), .val (.int cd), .val (.int ms73_0), .val (.ref b9), .val (.ref o11), .unset, .unset] [(.ref o13)]))
    refine Ow.astore X14 hx (pc' := 116) (hb hby at_114) rfl (l' := #[.val (.int xlaw_1), .val (.int xlaw_2), .val (.int xlaw_3), .val (.int xlaw_4), .val (.int v3), .val (.int cd), .val (.int ms73_0), .val (.ref b9), .val (.ref o11), .val (.ref o13), .unset]) rfl ?_
    refine Ow.iload X14 hx (pc' := 118) (hb hby at_116) rfl ?_
    refine Ow.bipush X14 hx (pc' := 120) (hb hby at_118) (z := (100 : Int32)) rfl ?_
    refine Ow.idiv X14 hx (pc' := 121) (hb hby at_120) (by decide : (100 : Int32) ≠ (0 : Int32)) (z := (cd / (100 : Int32))) rfl ?_
    refine Ow.iconst X14 hx (pc' := 122) (hb hby at_121) (z := (1 : Int32)) rfl ?_
    refine Wq.by (U' := T14.setTop (mkF m 130 #[.val (.int xlaw_1), .val (.int xlaw_2), .val (.int xlaw_3), .val (.int xlaw_4), .val (.int v3), .val (.int cd), .val (.int ms73_0), .val (.ref b9), .val (.ref o11), .val (.ref o13), .unset] [(.int (if (cd / (100 : Int32)) = (1 : Int32) then (1 : Int32) else (0 : Int32)))])) (fun k => ?_) ?_
    · skip
      by_cases hm122 : (cd / (100 : Int32)) = (1 : Int32)
      · skip
        refine Ow.icmpNo X14 hx (pc' := 125) (hb hby at_122) (teq hm122).2 ?_
        refine Ow.iconst X14 hx (pc' := 126) (hb hby at_125) (z := (1 : Int32)) rfl ?_
        refine Ow.goto X14 hx (pc' := 130) (hb hby at_126) (by decide) (by decide) ?_
        simp only [if_pos hm122] at k
        exact k
      · skip
        refine Ow.icmpYes X14 hx (pc' := 129) (hb hby at_122) (feq hm122).2 (by decide) (by decide) ?_
        refine Ow.iconst X14 hx (pc' := 130) (hb hby at_129) (z := (0 : Int32)) rfl ?_
        simp only [if_neg hm122] at k
        exact k
    show Wq _ _ _ _ _ (T14.setTop (mkF m 130 #[.val (.int xlaw_1), .val (.int xlaw_2), .val (.int xlaw_3), .val (.int xlaw_4), .val (.int v3), .val (.int cd), .val (.int ms73_0), .val (.ref b9), .val (.ref o11), .val (.ref o13), .unset] [(.int (if (cd / (100 : Int32)) = (1 : Int32) then (1 : Int32) else (0 : Int32)))]))
    generalize hms130_0 : (if (cd / (100 : Int32)) = (1 : Int32) then (1 : Int32) else (0 : Int32)) = ms130_0
    refine Ow.istore X14 hx (pc' := 132) (hb hby at_130) (l' := #[.val (.int xlaw_1), .val (.int xlaw_2), .val (.int xlaw_3), .val (.int xlaw_4), .val (.int v3), .val (.int cd), .val (.int ms73_0), .val (.ref b9), .val (.ref o11), .val (.ref o13), .val (.int ms130_0)]) rfl ?_
    refine Ow.aload X14 hx (pc' := 134) (hb hby at_132) rfl rfl ?_
    obtain ⟨cq15, kq15, q15a, q15b, q15c⟩ := isOf hZ e14 A13_t14
    obtain ⟨_, _, ⟨T15, L15, k15, n15⟩, -, X15, ⟨Lc15, hQ15, l15, y15, z15⟩, st15⟩ := X14.virtualBack hx (y := mt3) (z := mt3) hown (mvT hZ (kw50 hw)) (mvT hZ (kw51 hw)) (notFace_of_selects (args := #[]) (mvT hZ (kw53 hw))) (mvT hZ (kw53 hw)) (mvT hZ (kw52 hw)) (by decide) (backOf (W := 0) (rm_int l Z a0 hw [] o13 cd T14.heap n0 Z14 P14_2) hZ (kw54 hw) (kw32 hw) (by decide) (by decide)) q15a q15c (g := (mkF m 134 #[.val (.int xlaw_1), .val (.int xlaw_2), .val (.int xlaw_3), .val (.int xlaw_4), .val (.int v3), .val (.int cd), .val (.int ms73_0), .val (.ref b9), .val (.ref o11), .val (.ref o13), .val (.int ms130_0)] [(.ref o13)])) rfl (by rw [hml]; rfl) (Steps.refl _) (argsL := []) (rest := []) (lenOf pd4 rfl) rfl (by show 2 * 0 + _ ≤ _; exact Nat.le_of_eq rfl) (hb hby at_134) (fun _ _ => ⟨rfl, e14, (by decide : 4 + 0 ≤ _), (by decide : 10 + 0 ≤ _)⟩)
    dsimp only [Pt.U, Pt.locs, Pt.cells, Pt.slots] at X15 l15 y15 z15 st15 hQ15
    subst l15 y15 z15
    obtain ⟨rfl, Nq15, e15⟩ := hQ15
    have N15 := Fr.app N14 Nq15
    refine Wq.steps st15 ?_
    show Wq _ _ _ _ _ (T15.setTop (mkF m 137 #[.val (.int xlaw_1), .val (.int xlaw_2), .val (.int xlaw_3), .val (.int xlaw_4), .val (.int v3), .val (.int cd), .val (.int ms73_0), .val (.ref b9), .val (.ref o11), .val (.ref o13), .val (.int ms130_0)] [(.int (f_int cd))]))
    generalize hv134 : (f_int cd) = v134
    show Wq _ _ _ _ _ (T15.setTop (mkF m 137 #[.val (.int xlaw_1), .val (.int xlaw_2), .val (.int xlaw_3), .val (.int xlaw_4), .val (.int v3), .val (.int cd), .val (.int ms73_0), .val (.ref b9), .val (.ref o11), .val (.ref o13), .val (.int ms130_0)] [(.int v134)]))
    refine Ow.iload X15 hx (pc' := 139) (hb hby at_137) rfl ?_
    refine Ow.icmpNo X15 hx (pc' := 142) (hb hby at_139) (teq (by subst hv134; exact own_math _ _ hms130_0 : v134 = ms130_0)).2 ?_
    refine Ow.iconst X15 hx (pc' := 143) (hb hby at_142) (z := (1 : Int32)) rfl ?_
    refine Ow.goto X15 hx (pc' := 147) (hb hby at_143) (by decide) (by decide) ?_
    exact Wq.ret X15 (BodyLoose.notSynchronized Bd) (rv := some (.int (1 : Int32))) (fun h => by rw [Bd.returns] at h; cases h) (fun _ hr => retN X15 hx (t := .boolean) Bd.returns (by simp) (hb hby at_147) hr) (by decide) (by decide) ⟨rfl, N15⟩
  by_cases hc7 : v3 = (0 : Int32)
  · skip
    refine Ow.ifNo X0 hx (pc' := 10) (hb hby at_7) ((if0 _ _).trans (teq hc7).2) ?_
    refine Ow.iloadN X0 hx (pc' := 11) (hb hby at_10) rfl ?_
    refine Ow.istore X0 hx (pc' := 13) (hb hby at_11) (l' := #[.val (.int xlaw_1), .val (.int xlaw_2), .val (.int xlaw_3), .val (.int xlaw_4), .val (.int v3), .val (.int xlaw_2), .unset, .unset, .unset, .unset, .unset]) rfl ?_
    refine Ow.goto X0 hx (pc' := 62) (hb hby at_13) (by decide) (by decide) ?_
    exact J62 xlaw_2
  · skip
    refine Ow.ifYes X0 hx (pc' := 16) (hb hby at_7) ((if0 _ _).trans (feq hc7).2) (by decide) (by decide) ?_
    refine Ow.iload X0 hx (pc' := 18) (hb hby at_16) rfl ?_
    refine Ow.iconst X0 hx (pc' := 19) (hb hby at_18) (z := (1 : Int32)) rfl ?_
    by_cases hc19 : v3 = (1 : Int32)
    · skip
      refine Ow.icmpNo X0 hx (pc' := 22) (hb hby at_19) (teq hc19).2 ?_
      refine Ow.bipush X0 hx (pc' := 24) (hb hby at_22) (z := (98 : Int32)) rfl ?_
      refine Ow.iloadN X0 hx (pc' := 25) (hb hby at_24) rfl ?_
      refine Ow.iconst X0 hx (pc' := 26) (hb hby at_25) (z := (2 : Int32)) rfl ?_
      refine Ow.iushr X0 hx (pc' := 27) (hb hby at_26) (z := ((xlaw_3.toUInt32 >>> ((2 : Int32) &&& 31).toUInt32).toInt32)) rfl ?_
      refine Ow.iconst X0 hx (pc' := 28) (hb hby at_27) (z := (3 : Int32)) rfl ?_
      refine Ow.iand X0 hx (pc' := 29) (hb hby at_28) (z := (((xlaw_3.toUInt32 >>> ((2 : Int32) &&& 31).toUInt32).toInt32) &&& (3 : Int32))) rfl ?_
      refine Ow.iadd X0 hx (pc' := 30) (hb hby at_29) (z := ((98 : Int32) + (((xlaw_3.toUInt32 >>> ((2 : Int32) &&& 31).toUInt32).toInt32) &&& (3 : Int32)))) rfl ?_
      refine Ow.istore X0 hx (pc' := 32) (hb hby at_30) (l' := #[.val (.int xlaw_1), .val (.int xlaw_2), .val (.int xlaw_3), .val (.int xlaw_4), .val (.int v3), .val (.int ((98 : Int32) + (((xlaw_3.toUInt32 >>> ((2 : Int32) &&& 31).toUInt32).toInt32) &&& (3 : Int32)))), .unset, .unset, .unset, .unset, .unset]) rfl ?_
      generalize hv30 : ((98 : Int32) + (((xlaw_3.toUInt32 >>> ((2 : Int32) &&& 31).toUInt32).toInt32) &&& (3 : Int32))) = v30
      refine Ow.goto X0 hx (pc' := 62) (hb hby at_32) (by decide) (by decide) ?_
      exact J62 v30
    · skip
      refine Ow.icmpYes X0 hx (pc' := 35) (hb hby at_19) (feq hc19).2 (by decide) (by decide) ?_
      refine Ow.iload X0 hx (pc' := 37) (hb hby at_35) rfl ?_
      refine Ow.iconst X0 hx (pc' := 38) (hb hby at_37) (z := (2 : Int32)) rfl ?_
      by_cases hc38 : v3 = (2 : Int32)
      · skip
        refine Ow.icmpNo X0 hx (pc' := 41) (hb hby at_38) (teq hc38).2 ?_
        refine Ow.sipush X0 hx (pc' := 44) (hb hby at_41) (z := (198 : Int32)) rfl ?_
        refine Ow.iloadN X0 hx (pc' := 45) (hb hby at_44) rfl ?_
        refine Ow.iconst X0 hx (pc' := 46) (hb hby at_45) (z := (2 : Int32)) rfl ?_
        refine Ow.iushr X0 hx (pc' := 47) (hb hby at_46) (z := ((xlaw_3.toUInt32 >>> ((2 : Int32) &&& 31).toUInt32).toInt32)) rfl ?_
        refine Ow.iconst X0 hx (pc' := 48) (hb hby at_47) (z := (3 : Int32)) rfl ?_
        refine Ow.iand X0 hx (pc' := 49) (hb hby at_48) (z := (((xlaw_3.toUInt32 >>> ((2 : Int32) &&& 31).toUInt32).toInt32) &&& (3 : Int32))) rfl ?_
        refine Ow.iadd X0 hx (pc' := 50) (hb hby at_49) (z := ((198 : Int32) + (((xlaw_3.toUInt32 >>> ((2 : Int32) &&& 31).toUInt32).toInt32) &&& (3 : Int32)))) rfl ?_
        refine Ow.istore X0 hx (pc' := 52) (hb hby at_50) (l' := #[.val (.int xlaw_1), .val (.int xlaw_2), .val (.int xlaw_3), .val (.int xlaw_4), .val (.int v3), .val (.int ((198 : Int32) + (((xlaw_3.toUInt32 >>> ((2 : Int32) &&& 31).toUInt32).toInt32) &&& (3 : Int32)))), .unset, .unset, .unset, .unset, .unset]) rfl ?_
        generalize hv50 : ((198 : Int32) + (((xlaw_3.toUInt32 >>> ((2 : Int32) &&& 31).toUInt32).toInt32) &&& (3 : Int32))) = v50
        refine Ow.goto X0 hx (pc' := 62) (hb hby at_52) (by decide) (by decide) ?_
        exact J62 v50
      · skip
        refine Ow.icmpYes X0 hx (pc' := 55) (hb hby at_38) (feq hc38).2 (by decide) (by decide) ?_
        refine Ow.iloadN X0 hx (pc' := 56) (hb hby at_55) rfl ?_
        refine Ow.sipush X0 hx (pc' := 59) (hb hby at_56) (z := (1000 : Int32)) rfl ?_
        refine Ow.irem X0 hx (pc' := 60) (hb hby at_59) (by decide : (1000 : Int32) ≠ (0 : Int32)) (z := (xlaw_2 % (1000 : Int32))) rfl ?_
        refine Ow.istore X0 hx (pc' := 62) (hb hby at_60) (l' := #[.val (.int xlaw_1), .val (.int xlaw_2), .val (.int xlaw_3), .val (.int xlaw_4), .val (.int v3), .val (.int (xlaw_2 % (1000 : Int32))), .unset, .unset, .unset, .unset, .unset]) rfl ?_
        generalize hv60 : (xlaw_2 % (1000 : Int32)) = v60
        exact J62 v60
set_option maxRecDepth 65536 in
set_option maxHeartbeats 40000000 in
theorem comes_1 {Post : Tables → Env → Array Value → State → Outcome → State → Prop} (hpost : ∀ tb e args s v u, (limb_1_1.after args s (.returned v) u = true ∧ limb_1_2.after args s (.returned v) u = true ∧ True) → FrameEnd s (.returned v) u (Jvm.fieldLocs frame_1_writes args s ++ Jvm.arrayLocs frame_1_arrays args s ++ Jvm.staticLocs frame_1_statics s) 16 128 → Post tb e args s (.returned v) u) :
    ArmFor flags0 classFile x code maxLocals ret World_1 tables_1 room_1 Calls_1 rest_1 Pre_1 Post := by
  intro l hfl _ _ p e ha hc hk s m args below hf hA hF happ hP
  obtain ⟨hcalls, hrest, hpre⟩ := hP
  obtain ⟨-, -, -, hnamed, -, -, -, hat⟩ := (Spec.applies_iff hf).mp happ
  obtain ⟨hg, hn⟩ := and_e (Cond.before_iff.mp (show (Jvm.Cond.and given_1 narrow_1).before args s = true from hpre))
  obtain ⟨hg1, hg2⟩ := and_e hg
  obtain ⟨ha0, hb0⟩ := and_e hg2
  obtain ⟨ha1, hb1⟩ := and_e hb0
  obtain ⟨ha2, hb2⟩ := and_e hb1
  obtain ⟨w0, w1, w2, w3, rfl⟩ : ∃ w0 w1 w2 w3 : Value, args = #[w0, w1, w2, w3] := by
    have hs : args.size = 4 := by simpa [Cond.value, given_1] using hg1
    obtain ⟨L⟩ := args
    match L, hs with
    | [w0, w1, w2, w3], _ => exact ⟨w0, w1, w2, w3, rfl⟩
  have hw := fun d (hd : d ∈ tables_1) => atoms_spec (ws := Jvm.Cond.code x code maxLocals ret :: tables_1) hat d (List.mem_cons_of_mem _ hd)
  have hfit : Fit s := fun {y c} hc i hi => by
    obtain ⟨ha, rfl⟩ := Array.getElem?_eq_some_iff.mp hc
    have q := List.all_eq_true.mp ((Array.all_eq_true_iff_forall_mem.mp hF) _ (Array.getElem_mem ha)) i (List.mem_range.mpr hi)
    simpa [Array.getElem?_eq_getElem hi] using q
  obtain ⟨i0, ei0⟩ := is_v ha0
  obtain rfl : w0 = (.int i0) := Option.some.inj ei0
  obtain ⟨i1, ei1⟩ := is_v ha1
  obtain rfl : w1 = (.int i1) := Option.some.inj ei1
  obtain ⟨i2, ei2⟩ := is_v ha2
  obtain rfl : w2 = (.int i2) := Option.some.inj ei2
  obtain ⟨i3, ei3⟩ := is_v hb2
  obtain rfl : w3 = (.int i3) := Option.some.inj ei3
  obtain ⟨hsets, hown0⟩ := atoms_of _ (rest_1_c_eq ▸ (show rest_1_c.before _ s = true from hrest))
  have n5 := not_v (Cond.before_iff.mp (hsets _ (List.mem_of_getElem? (i := 2) rfl)))
  obtain ⟨i11, e10⟩ := is_v (Cond.before_iff.mp (hsets _ (List.mem_of_getElem? (i := 1) rfl)))
  have S12 : Sta s s.heap "java/lang/String" "COMPACT_STRINGS" "Z" (.int i11) := Sta.start e10 (Or.inl (hsets _ (List.mem_of_getElem? (i := 0) rfl)))
  have c17 : ¬ (i11 = (0 : Int32)) := gotF (Cond.eq_ints e10 (Term.int_eval (0))) n5
  obtain ⟨n, o, h1, h2, h3, _, L, rfl, ⟨rfl, N⟩, hq⟩ := rm_law l s _ hw tables_1 i0 i1 i2 i3 i11 s.heap s.heap.size (Nat.le_refl _) S12 c17 p e ha hc hk s m _ below hf ((Spec.applies_iff_loose hf).mp happ).1 ⟨rfl, State.Warmed39.refl s, rfl⟩ trivial
  refine ⟨n, _, h1, h2, h3, hpost _ _ _ _ _ _ ⟨Cond.after_iff.mpr rfl, Cond.after_iff.mpr (eq_i res_at (Term.int_eval (1)) rfl), trivial⟩ ⟨hq.1, hq.2.1, (hq.2.2.sift fun y hy => Or.inr (N y hy)).mono (by decide) (by decide)⟩⟩
theorem main_1_1 : Claimed_1_1 := comes_1 fun _ _ _ _ _ _ h hF => ⟨h.1, hF⟩
theorem main_1_2 : Claimed_1_2 := comes_1 fun _ _ _ _ _ _ h hF => ⟨h.2.1, hF⟩
end Jvm.Pilot.@@N@@
namespace Jvm.Pilot.@@N@@
open Jvm Jvm.ClassFile Sem Op Lib Jvm.Free Jvm.Stand Jvm.Pilot.@@N@@.Jvm.D
/-! MADE BY PROGRAM (witnessworld.py) out of the Statement's table words and the real class files: 21 classes; the members and pool entries that the words name. The judged class is class 1, her method 1. -/
namespace start1
open Jvm.ClassFile
def u (s : String) : CpInfo := .utf8 (stringToUtf16 s)
/-- a pool by its gaps: so many unusable entries, then the entry; so many at the end -/
def gap : Nat → List CpInfo → List CpInfo
  | 0, r => r
  | n + 1, r => .unusable :: gap n r
def poolList (es : List (Nat × CpInfo)) (last : Nat) : List CpInfo := es.foldr (fun e r => gap e.1 (e.2 :: r)) (gap last [])
def pool (es : List (Nat × CpInfo)) (last : Nat) : Array CpInfo := ⟨poolList es last⟩
def fileOf (pool : Array CpInfo) (this : Nat) (attrs : Array Attribute := #[]) (ms : Array MethodInfo := #[]) (fl : Nat := 33) (sup : Nat := 0) (ifs : Array Nat := #[]) (fds : Array FieldInfo := #[]) : ClassFile where
  minorVersion := 0
  majorVersion := 65
  constantPool := pool
  accessFlags := fl
  thisClass := this
  superClass := sup
  interfaces := ifs
  fields := fds
  methods := ms
  attributes := attrs
def plain (name : String) (sup : Option ClassId) : Class where
  name := name
  kind := .ordinary
  loader := none
  accessFlags := 33
  super := sup
  interfaces := #[]
  cf := none
  fields := #[]
  methods := #[]
  instanceTypes := #[]
  staticTypes := #[]
  resolved := #[]
  callSites := []
  init := .initialized
  statics := none
  mirror := none

def pool0 : Array CpInfo := pool [(5, u "<init>"), (0, u "()V"), (1, .class_ 10), (1, u "java/lang/Object")] 113

def k0c0 : Code := { maxStack := 0, maxLocals := 1, code := object_method_1_code, exceptionTable := #[], attributes := #[] }
def k0m0 : Method := { name := "<init>", desc := "()V", sig := { parameters := [], returnType := none }, accessFlags := 1, code := some k0c0 }
/-- java/lang/Object -/
def k0 : Class := { plain "java/lang/Object" none with
  accessFlags := 33
  interfaces := #[]
  cf := some (fileOf pool0 8 #[] #[{ accessFlags := 1, nameIndex := 5, descriptorIndex := 6, attributes := #[] }] 33 0 #[] #[])
  fields := #[]
  methods := #[k0m0]
  instanceTypes := #[]
  staticTypes := #[]
  resolved := Array.replicate 124 none
  statics := none }

def pool1 : Array CpInfo := pool [(2, .class_ 4), (1, u "java/lang/Object"), (0, u "<init>"), (0, u "()V"), (0, .class_ 8), (0, u "java/lang/String"), (0, .methodref 7 10), (0, .nameAndType 5 11), (0, u "([C)V"), (0, .class_ 13), (0, u "com/example/strata/strata/store/AnswerReader$Head"), (0, .methodref 12 15), (0, .nameAndType 5 16), (0, u "(ZILjava/lang/String;Ljava/util/Map;)V"), (0, .methodref 12 18), (0, .nameAndType 19 20), (0, u "interim"), (0, u "()Z"), (0, .class_ 22), (0, u "com/example/strata/strata/store/HeadInterimPinLaw"), (2, u "law"), (0, u "(IIII)Z")] 9

def k1m0 : Method := { name := "<init>", desc := "()V", sig := { parameters := [], returnType := none }, accessFlags := 1, code := none }
def k1c1 : Code := { maxStack := 6, maxLocals := 11, code := code, exceptionTable := #[], attributes := #[] }
def k1m1 : Method := { name := "law", desc := "(IIII)Z", sig := { parameters := [.int, .int, .int, .int], returnType := some .boolean }, accessFlags := 9, code := some k1c1 }
/-- com/example/strata/strata/store/HeadInterimPinLaw -/
def k1 : Class := { plain "com/example/strata/strata/store/HeadInterimPinLaw" (some 0) with
  accessFlags := 49
  interfaces := #[]
  cf := some (fileOf pool1 21 #[] #[{ accessFlags := 1, nameIndex := 5, descriptorIndex := 6, attributes := #[] }, { accessFlags := 9, nameIndex := 25, descriptorIndex := 26, attributes := #[] }] 49 2 #[] #[])
  fields := #[]
  methods := #[k1m0, k1m1]
  instanceTypes := #[]
  staticTypes := #[]
  resolved := Array.replicate 36 none
  statics := none }

def pool2 : Array CpInfo := pool [(1, .class_ 2), (0, u "java/io/Serializable"), (0, .class_ 4), (0, u "java/lang/Object")] 2

/-- java/io/Serializable -/
def k2 : Class := { plain "java/io/Serializable" (some 0) with
  accessFlags := 1537
  interfaces := #[]
  cf := some (fileOf pool2 1 #[] #[] 1537 3 #[] #[])
  fields := #[]
  methods := #[]
  instanceTypes := #[]
  staticTypes := #[]
  resolved := Array.replicate 7 none
  statics := none }

def pool3 : Array CpInfo := pool [(1, .class_ 2), (0, u "java/lang/Comparable"), (0, .class_ 4), (0, u "java/lang/Object")] 7

/-- java/lang/Comparable -/
def k3 : Class := { plain "java/lang/Comparable" (some 0) with
  accessFlags := 1537
  interfaces := #[]
  cf := some (fileOf pool3 1 #[] #[] 1537 3 #[] #[])
  fields := #[]
  methods := #[]
  instanceTypes := #[]
  staticTypes := #[]
  resolved := Array.replicate 12 none
  statics := none }

def pool4 : Array CpInfo := pool [(2, .class_ 4), (1, u "java/lang/CharSequence"), (42, .class_ 48), (0, u "java/lang/CharSequence$1CodePointIterator"), (10, .class_ 60), (0, u "java/lang/CharSequence$1CharIterator"), (5, .class_ 67), (0, u "java/lang/Object")] 63

/-- java/lang/CharSequence -/
def k4 : Class := { plain "java/lang/CharSequence" (some 0) with
  accessFlags := 1537
  interfaces := #[]
  cf := some (fileOf pool4 2 #[.nestMembers #[47, 59]] #[] 1537 66 #[] #[])
  fields := #[]
  methods := #[]
  instanceTypes := #[]
  staticTypes := #[]
  resolved := Array.replicate 131 none
  statics := none }

def pool5 : Array CpInfo := pool [(1, .class_ 2), (0, u "java/lang/constant/Constable"), (0, .class_ 4), (0, u "java/lang/Object")] 6

/-- java/lang/constant/Constable -/
def k5 : Class := { plain "java/lang/constant/Constable" (some 0) with
  accessFlags := 1537
  interfaces := #[]
  cf := some (fileOf pool5 1 #[] #[] 1537 3 #[] #[])
  fields := #[]
  methods := #[]
  instanceTypes := #[]
  staticTypes := #[]
  resolved := Array.replicate 11 none
  statics := none }

def pool6 : Array CpInfo := pool [(1, .class_ 2), (0, u "java/lang/constant/ConstantDesc"), (0, .class_ 4), (0, u "java/lang/Object")] 32

/-- java/lang/constant/ConstantDesc -/
def k6 : Class := { plain "java/lang/constant/ConstantDesc" (some 0) with
  accessFlags := 1537
  interfaces := #[]
  cf := some (fileOf pool6 1 #[] #[] 1537 3 #[] #[])
  fields := #[]
  methods := #[]
  instanceTypes := #[]
  staticTypes := #[]
  resolved := Array.replicate 37 none
  statics := none }

def pool7 : Array CpInfo := pool [(1, .methodref 2 3), (0, .class_ 4), (0, .nameAndType 5 6), (0, u "java/lang/Object"), (0, u "<init>"), (0, u "()V"), (2, .fieldref 10 11), (0, .class_ 12), (0, .nameAndType 13 14), (0, u "java/lang/String"), (0, u "value"), (0, u "[B"), (0, .fieldref 10 16), (0, .nameAndType 17 18), (0, u "coder"), (0, u "B"), (2, u "hash"), (0, u "I"), (2, u "hashIsZero"), (0, u "Z"), (0, .methodref 10 28), (0, .nameAndType 5 29), (0, u "([CIILjava/lang/Void;)V"), (8, .fieldref 10 39), (0, .nameAndType 40 26), (0, u "COMPACT_STRINGS"), (1, .class_ 44), (1, u "java/lang/StringUTF16"), (0, u "compress"), (1, .methodref 42 48), (0, .nameAndType 49 50), (0, u "coderFromArrayLen"), (0, u "([BI)B"), (126, .methodref 42 178), (0, .nameAndType 45 179), (0, u "([CII)[B"), (395, .class_ 576), (0, u "java/lang/CharSequence"), (22, u "CASE_INSENSITIVE_ORDER"), (0, u "Ljava/util/Comparator;"), (409, u "([C)V"), (90, u "serialPersistentFields"), (0, u "[Ljava/io/ObjectStreamField;"), (0, .class_ 1104), (0, u "java/lang/String$CaseInsensitiveComparator"), (1, .class_ 1107), (0, u "java/io/Serializable"), (0, .class_ 1109), (0, u "java/lang/Comparable"), (0, .class_ 1111), (0, u "java/lang/constant/Constable"), (0, .class_ 1113), (0, u "java/lang/constant/ConstantDesc"), (2, u "serialVersionUID"), (0, u "J"), (3, u "REPL"), (0, u "C"), (2, u "LATIN1"), (1, u "UTF16")] 323

def k7m0 : Method := { name := "<init>", desc := "()V", sig := { parameters := [], returnType := none }, accessFlags := 1, code := none }
def k7c1 : Code := { maxStack := 5, maxLocals := 2, code := jdk_42_method_3_code, exceptionTable := #[], attributes := #[] }
def k7m1 : Method := { name := "<init>", desc := "([C)V", sig := { parameters := [(.array .char)], returnType := none }, accessFlags := 1, code := some k7c1 }
def k7c2 : Code := { maxStack := 4, maxLocals := 6, code := jdk_42_method_149_code, exceptionTable := #[], attributes := #[] }
def k7m2 : Method := { name := "<init>", desc := "([CIILjava/lang/Void;)V", sig := { parameters := [(.array .char), .int, .int, (.object "java/lang/Void")], returnType := none }, accessFlags := 2, code := some k7c2 }
/-- java/lang/String -/
def k7 : Class := { plain "java/lang/String" (some 0) with
  accessFlags := 49
  interfaces := #[2, 3, 4, 5, 6]
  cf := some (fileOf pool7 10 #[.nestMembers #[1103]] #[{ accessFlags := 1, nameIndex := 5, descriptorIndex := 6, attributes := #[] }, { accessFlags := 1, nameIndex := 5, descriptorIndex := 1010, attributes := #[] }, { accessFlags := 2, nameIndex := 5, descriptorIndex := 29, attributes := #[] }] 49 2 #[1106, 1108, 575, 1110, 1112] #[{ accessFlags := 18, nameIndex := 13, descriptorIndex := 14, attributes := #[] }, { accessFlags := 18, nameIndex := 17, descriptorIndex := 18, attributes := #[] }, { accessFlags := 2, nameIndex := 21, descriptorIndex := 22, attributes := #[] }, { accessFlags := 2, nameIndex := 25, descriptorIndex := 26, attributes := #[] }, { accessFlags := 26, nameIndex := 1116, descriptorIndex := 1117, attributes := #[] }, { accessFlags := 24, nameIndex := 40, descriptorIndex := 26, attributes := #[] }, { accessFlags := 26, nameIndex := 1101, descriptorIndex := 1102, attributes := #[] }, { accessFlags := 26, nameIndex := 1121, descriptorIndex := 1122, attributes := #[] }, { accessFlags := 25, nameIndex := 599, descriptorIndex := 600, attributes := #[] }, { accessFlags := 24, nameIndex := 1125, descriptorIndex := 18, attributes := #[] }, { accessFlags := 24, nameIndex := 1127, descriptorIndex := 18, attributes := #[] }])
  fields := #[{ name := "value", type := (.array .byte), accessFlags := 18, slot := 0, constantValue := 0 }, { name := "coder", type := .byte, accessFlags := 18, slot := 1, constantValue := 0 }, { name := "hash", type := .int, accessFlags := 2, slot := 2, constantValue := 0 }, { name := "hashIsZero", type := .boolean, accessFlags := 2, slot := 3, constantValue := 0 }, { name := "serialVersionUID", type := .long, accessFlags := 26, slot := 0, constantValue := 0 }, { name := "COMPACT_STRINGS", type := .boolean, accessFlags := 24, slot := 1, constantValue := 0 }, { name := "serialPersistentFields", type := (.array (.object "java/io/ObjectStreamField")), accessFlags := 26, slot := 2, constantValue := 0 }, { name := "REPL", type := .char, accessFlags := 26, slot := 3, constantValue := 0 }, { name := "CASE_INSENSITIVE_ORDER", type := (.object "java/util/Comparator"), accessFlags := 25, slot := 4, constantValue := 0 }, { name := "LATIN1", type := .byte, accessFlags := 24, slot := 5, constantValue := 0 }, { name := "UTF16", type := .byte, accessFlags := 24, slot := 6, constantValue := 0 }]
  methods := #[k7m0, k7m1, k7m2]
  instanceTypes := #[(.array .byte), .byte, .int, .boolean]
  staticTypes := #[.long, .boolean, (.array (.object "java/io/ObjectStreamField")), .char, (.object "java/util/Comparator"), .byte, .byte]
  resolved := Array.replicate 1451 none
  statics := some 0 }

def pool8 : Array CpInfo := pool [(6, .class_ 8), (1, u "java/lang/Object"), (0, u "<init>"), (0, u "()V"), (1, .class_ 14), (1, u "java/lang/StringUTF16"), (31, u "$assertionsDisabled"), (0, u "Z"), (13, u "HI_BYTE_SHIFT"), (0, u "I"), (2, u "LO_BYTE_SHIFT"), (49, .methodref 12 116), (0, .nameAndType 117 118), (0, u "compress"), (0, u "([CI[BII)I"), (3, u "([CII)[B"), (138, u "coderFromArrayLen"), (0, u "([BI)B"), (106, .class_ 371), (1, u "java/lang/StringUTF16$LinesSpliterator"), (58, u "MAX_LENGTH"), (196, .class_ 628), (0, u "java/lang/StringUTF16$CodePointsSpliterator"), (0, .class_ 630), (0, u "java/lang/StringUTF16$CharsSpliterator")] 4

def k8m0 : Method := { name := "<init>", desc := "()V", sig := { parameters := [], returnType := none }, accessFlags := 0, code := none }
def k8c1 : Code := { maxStack := 2, maxLocals := 2, code := jdk_52_method_15_code, exceptionTable := #[], attributes := #[] }
def k8m1 : Method := { name := "coderFromArrayLen", desc := "([BI)B", sig := { parameters := [(.array .byte), .int], returnType := some .byte }, accessFlags := 8, code := some k8c1 }
def k8c2 : Code := { maxStack := 5, maxLocals := 6, code := jdk_52_method_16_code, exceptionTable := #[], attributes := #[] }
def k8m2 : Method := { name := "compress", desc := "([CII)[B", sig := { parameters := [(.array .char), .int, .int], returnType := some (.array .byte) }, accessFlags := 9, code := some k8c2 }
def k8c3 : Code := { maxStack := 3, maxLocals := 7, code := jdk_52_method_21_code, exceptionTable := #[], attributes := #[] }
def k8m3 : Method := { name := "compress", desc := "([CI[BII)I", sig := { parameters := [(.array .char), .int, (.array .byte), .int, .int], returnType := some .int }, accessFlags := 9, code := some k8c3 }
/-- java/lang/StringUTF16 -/
def k8 : Class := { plain "java/lang/StringUTF16" (some 0) with
  accessFlags := 48
  interfaces := #[]
  cf := some (fileOf pool8 12 #[.nestMembers #[627, 629, 369]] #[{ accessFlags := 0, nameIndex := 9, descriptorIndex := 10, attributes := #[] }, { accessFlags := 8, nameIndex := 261, descriptorIndex := 262, attributes := #[] }, { accessFlags := 9, nameIndex := 117, descriptorIndex := 122, attributes := #[] }, { accessFlags := 9, nameIndex := 117, descriptorIndex := 118, attributes := #[] }] 48 6 #[] #[{ accessFlags := 26, nameIndex := 61, descriptorIndex := 62, attributes := #[] }, { accessFlags := 26, nameIndex := 65, descriptorIndex := 62, attributes := #[] }, { accessFlags := 24, nameIndex := 430, descriptorIndex := 62, attributes := #[] }, { accessFlags := 4120, nameIndex := 46, descriptorIndex := 47, attributes := #[] }])
  fields := #[{ name := "HI_BYTE_SHIFT", type := .int, accessFlags := 26, slot := 0, constantValue := 0 }, { name := "LO_BYTE_SHIFT", type := .int, accessFlags := 26, slot := 1, constantValue := 0 }, { name := "MAX_LENGTH", type := .int, accessFlags := 24, slot := 2, constantValue := 0 }, { name := "$assertionsDisabled", type := .boolean, accessFlags := 4120, slot := 3, constantValue := 0 }]
  methods := #[k8m0, k8m1, k8m2, k8m3]
  instanceTypes := #[]
  staticTypes := #[.int, .int, .int, .boolean]
  resolved := Array.replicate 635 none
  statics := none }

def pool9 : Array CpInfo := pool [(1, .methodref 2 3), (0, .class_ 4), (0, .nameAndType 5 6), (0, u "java/lang/Object"), (0, u "<init>"), (0, u "()V"), (0, .class_ 8), (0, u "java/lang/Record")] 13

def k9c0 : Code := { maxStack := 1, maxLocals := 1, code := jdk_30_method_1_code, exceptionTable := #[], attributes := #[] }
def k9m0 : Method := { name := "<init>", desc := "()V", sig := { parameters := [], returnType := none }, accessFlags := 4, code := some k9c0 }
/-- java/lang/Record -/
def k9 : Class := { plain "java/lang/Record" (some 0) with
  accessFlags := 1057
  interfaces := #[]
  cf := some (fileOf pool9 7 #[] #[{ accessFlags := 4, nameIndex := 5, descriptorIndex := 6, attributes := #[] }] 1057 2 #[] #[])
  fields := #[]
  methods := #[k9m0]
  instanceTypes := #[]
  staticTypes := #[]
  resolved := Array.replicate 22 none
  statics := none }

def pool10 : Array CpInfo := pool [(1, .class_ 2), (0, u "com/example/strata/strata/store/AnswerReader"), (0, .methodref 4 5), (0, .class_ 6), (0, .nameAndType 7 8), (0, u "java/lang/Record"), (0, u "<init>"), (0, u "()V"), (0, .fieldref 10 11), (0, .class_ 12), (0, .nameAndType 13 14), (0, u "com/example/strata/strata/store/AnswerReader$Head"), (0, u "ofVersion11"), (0, u "Z"), (0, .fieldref 10 16), (0, .nameAndType 17 18), (0, u "code"), (0, u "I"), (0, .fieldref 10 20), (0, .nameAndType 21 22), (0, u "reason"), (0, u "Ljava/lang/String;"), (0, .fieldref 10 24), (0, .nameAndType 25 26), (0, u "headers"), (0, u "Ljava/util/Map;"), (23, u "()Z"), (38, u "(ZILjava/lang/String;Ljava/util/Map;)V"), (4, u "interim")] 33

def k10c0 : Code := { maxStack := 2, maxLocals := 5, code := prog_40_method_1_code, exceptionTable := #[], attributes := #[] }
def k10m0 : Method := { name := "<init>", desc := "(ZILjava/lang/String;Ljava/util/Map;)V", sig := { parameters := [.boolean, .int, (.object "java/lang/String"), (.object "java/util/Map")], returnType := none }, accessFlags := 0, code := some k10c0 }
def k10c1 : Code := { maxStack := 2, maxLocals := 1, code := prog_40_method_2_code, exceptionTable := #[], attributes := #[] }
def k10m1 : Method := { name := "interim", desc := "()Z", sig := { parameters := [], returnType := some .boolean }, accessFlags := 0, code := some k10c1 }
/-- com/example/strata/strata/store/AnswerReader$Head -/
def k10 : Class := { plain "com/example/strata/strata/store/AnswerReader$Head" (some 9) with
  accessFlags := 48
  interfaces := #[]
  cf := some (fileOf pool10 10 #[.nestHost 1] #[{ accessFlags := 0, nameIndex := 7, descriptorIndex := 89, attributes := #[] }, { accessFlags := 0, nameIndex := 94, descriptorIndex := 50, attributes := #[] }] 48 4 #[] #[{ accessFlags := 18, nameIndex := 13, descriptorIndex := 14, attributes := #[] }, { accessFlags := 18, nameIndex := 17, descriptorIndex := 18, attributes := #[] }, { accessFlags := 18, nameIndex := 21, descriptorIndex := 22, attributes := #[] }, { accessFlags := 18, nameIndex := 25, descriptorIndex := 26, attributes := #[] }])
  fields := #[{ name := "ofVersion11", type := .boolean, accessFlags := 18, slot := 0, constantValue := 0 }, { name := "code", type := .int, accessFlags := 18, slot := 1, constantValue := 0 }, { name := "reason", type := (.object "java/lang/String"), accessFlags := 18, slot := 2, constantValue := 0 }, { name := "headers", type := (.object "java/util/Map"), accessFlags := 18, slot := 3, constantValue := 0 }]
  methods := #[k10m0, k10m1]
  instanceTypes := #[.boolean, .int, (.object "java/lang/String"), (.object "java/util/Map")]
  staticTypes := #[]
  resolved := Array.replicate 128 none
  statics := none }

def pool11 : Array CpInfo := pool [(4, .class_ 6), (1, u "java/lang/Object"), (0, u "<init>"), (0, u "()V"), (5, .class_ 16), (1, u "java/lang/StringLatin1"), (104, u "$assertionsDisabled"), (0, u "Z"), (98, .class_ 223), (1, u "java/lang/StringLatin1$LinesSpliterator"), (166, .class_ 391), (0, u "java/lang/StringLatin1$CharsSpliterator")] 3

def k11m0 : Method := { name := "<init>", desc := "()V", sig := { parameters := [], returnType := none }, accessFlags := 0, code := none }
/-- java/lang/StringLatin1 -/
def k11 : Class := { plain "java/lang/StringLatin1" (some 0) with
  accessFlags := 48
  interfaces := #[]
  cf := some (fileOf pool11 14 #[.nestMembers #[390, 221]] #[{ accessFlags := 0, nameIndex := 7, descriptorIndex := 8, attributes := #[] }] 48 4 #[] #[{ accessFlags := 4120, nameIndex := 121, descriptorIndex := 122, attributes := #[] }])
  fields := #[{ name := "$assertionsDisabled", type := .boolean, accessFlags := 4120, slot := 0, constantValue := 0 }]
  methods := #[k11m0]
  instanceTypes := #[]
  staticTypes := #[.boolean]
  resolved := Array.replicate 395 none
  statics := none }

def pool12 : Array CpInfo := pool [(2, .class_ 4), (1, u "java/lang/Object"), (0, u "<init>"), (0, u "()V"), (17, .class_ 26), (1, u "jdk/internal/util/Preconditions"), (28, .class_ 56), (0, u "jdk/internal/util/Preconditions$4"), (57, .class_ 115), (0, u "jdk/internal/util/Preconditions$1"), (7, u "SIOOBE_FORMATTER"), (0, u "Ljava/util/function/BiFunction;"), (0, .class_ 126), (0, u "jdk/internal/util/Preconditions$2"), (3, u "AIOOBE_FORMATTER"), (0, .class_ 132), (0, u "jdk/internal/util/Preconditions$3"), (3, u "IOOBE_FORMATTER")] 57

def k12m0 : Method := { name := "<init>", desc := "()V", sig := { parameters := [], returnType := none }, accessFlags := 1, code := none }
/-- jdk/internal/util/Preconditions -/
def k12 : Class := { plain "jdk/internal/util/Preconditions" (some 0) with
  accessFlags := 33
  interfaces := #[]
  cf := some (fileOf pool12 24 #[.nestMembers #[55, 131, 125, 114]] #[{ accessFlags := 1, nameIndex := 5, descriptorIndex := 6, attributes := #[] }] 33 2 #[] #[{ accessFlags := 25, nameIndex := 123, descriptorIndex := 124, attributes := #[] }, { accessFlags := 25, nameIndex := 130, descriptorIndex := 124, attributes := #[] }, { accessFlags := 25, nameIndex := 136, descriptorIndex := 124, attributes := #[] }])
  fields := #[{ name := "SIOOBE_FORMATTER", type := (.object "java/util/function/BiFunction"), accessFlags := 25, slot := 0, constantValue := 0 }, { name := "AIOOBE_FORMATTER", type := (.object "java/util/function/BiFunction"), accessFlags := 25, slot := 1, constantValue := 0 }, { name := "IOOBE_FORMATTER", type := (.object "java/util/function/BiFunction"), accessFlags := 25, slot := 2, constantValue := 0 }]
  methods := #[k12m0]
  instanceTypes := #[]
  staticTypes := #[(.object "java/util/function/BiFunction"), (.object "java/util/function/BiFunction"), (.object "java/util/function/BiFunction")]
  resolved := Array.replicate 194 none
  statics := some 1 }

def pool13 : Array CpInfo := pool [(9, u "<init>"), (6, .class_ 18), (1, u "java/lang/Object"), (0, u "()V"), (1, .class_ 23), (1, u "jdk/internal/util/ArraysSupport"), (0, u "LOG2_ARRAY_LONG_INDEX_SCALE"), (0, u "I"), (2, u "U"), (0, u "Ljdk/internal/misc/Unsafe;"), (8, u "BIG_ENDIAN"), (0, u "Z"), (8, u "LOG2_BYTE_BIT_SIZE"), (4, u "LOG2_ARRAY_INT_INDEX_SCALE"), (54, u "JLA"), (0, u "Ljdk/internal/access/JavaLangAccess;"), (11, u "LOG2_ARRAY_BOOLEAN_INDEX_SCALE"), (9, u "LOG2_ARRAY_BYTE_INDEX_SCALE"), (5, u "LOG2_ARRAY_CHAR_INDEX_SCALE"), (5, u "LOG2_ARRAY_SHORT_INDEX_SCALE"), (18, u "LOG2_ARRAY_FLOAT_INDEX_SCALE"), (24, u "LOG2_ARRAY_DOUBLE_INDEX_SCALE"), (89, u "T_BOOLEAN"), (2, u "T_CHAR"), (1, u "T_FLOAT"), (1, u "T_DOUBLE"), (1, u "T_BYTE"), (1, u "T_SHORT"), (1, u "T_INT"), (1, u "T_LONG"), (1, u "SOFT_MAX_ARRAY_LENGTH")] 83

def k13m0 : Method := { name := "<init>", desc := "()V", sig := { parameters := [], returnType := none }, accessFlags := 2, code := none }
/-- jdk/internal/util/ArraysSupport -/
def k13 : Class := { plain "jdk/internal/util/ArraysSupport" (some 0) with
  accessFlags := 33
  interfaces := #[]
  cf := some (fileOf pool13 21 #[] #[{ accessFlags := 2, nameIndex := 9, descriptorIndex := 19, attributes := #[] }] 33 16 #[] #[{ accessFlags := 24, nameIndex := 28, descriptorIndex := 29, attributes := #[] }, { accessFlags := 26, nameIndex := 38, descriptorIndex := 39, attributes := #[] }, { accessFlags := 25, nameIndex := 121, descriptorIndex := 25, attributes := #[] }, { accessFlags := 25, nameIndex := 131, descriptorIndex := 25, attributes := #[] }, { accessFlags := 25, nameIndex := 137, descriptorIndex := 25, attributes := #[] }, { accessFlags := 25, nameIndex := 143, descriptorIndex := 25, attributes := #[] }, { accessFlags := 25, nameIndex := 53, descriptorIndex := 25, attributes := #[] }, { accessFlags := 25, nameIndex := 24, descriptorIndex := 25, attributes := #[] }, { accessFlags := 25, nameIndex := 162, descriptorIndex := 25, attributes := #[] }, { accessFlags := 25, nameIndex := 187, descriptorIndex := 25, attributes := #[] }, { accessFlags := 26, nameIndex := 48, descriptorIndex := 25, attributes := #[] }, { accessFlags := 25, nameIndex := 277, descriptorIndex := 25, attributes := #[] }, { accessFlags := 25, nameIndex := 280, descriptorIndex := 25, attributes := #[] }, { accessFlags := 25, nameIndex := 282, descriptorIndex := 25, attributes := #[] }, { accessFlags := 25, nameIndex := 284, descriptorIndex := 25, attributes := #[] }, { accessFlags := 25, nameIndex := 286, descriptorIndex := 25, attributes := #[] }, { accessFlags := 25, nameIndex := 288, descriptorIndex := 25, attributes := #[] }, { accessFlags := 25, nameIndex := 290, descriptorIndex := 25, attributes := #[] }, { accessFlags := 25, nameIndex := 292, descriptorIndex := 25, attributes := #[] }, { accessFlags := 26, nameIndex := 108, descriptorIndex := 109, attributes := #[] }, { accessFlags := 25, nameIndex := 294, descriptorIndex := 25, attributes := #[] }])
  fields := #[{ name := "U", type := (.object "jdk/internal/misc/Unsafe"), accessFlags := 24, slot := 0, constantValue := 0 }, { name := "BIG_ENDIAN", type := .boolean, accessFlags := 26, slot := 1, constantValue := 0 }, { name := "LOG2_ARRAY_BOOLEAN_INDEX_SCALE", type := .int, accessFlags := 25, slot := 2, constantValue := 0 }, { name := "LOG2_ARRAY_BYTE_INDEX_SCALE", type := .int, accessFlags := 25, slot := 3, constantValue := 0 }, { name := "LOG2_ARRAY_CHAR_INDEX_SCALE", type := .int, accessFlags := 25, slot := 4, constantValue := 0 }, { name := "LOG2_ARRAY_SHORT_INDEX_SCALE", type := .int, accessFlags := 25, slot := 5, constantValue := 0 }, { name := "LOG2_ARRAY_INT_INDEX_SCALE", type := .int, accessFlags := 25, slot := 6, constantValue := 0 }, { name := "LOG2_ARRAY_LONG_INDEX_SCALE", type := .int, accessFlags := 25, slot := 7, constantValue := 0 }, { name := "LOG2_ARRAY_FLOAT_INDEX_SCALE", type := .int, accessFlags := 25, slot := 8, constantValue := 0 }, { name := "LOG2_ARRAY_DOUBLE_INDEX_SCALE", type := .int, accessFlags := 25, slot := 9, constantValue := 0 }, { name := "LOG2_BYTE_BIT_SIZE", type := .int, accessFlags := 26, slot := 10, constantValue := 0 }, { name := "T_BOOLEAN", type := .int, accessFlags := 25, slot := 11, constantValue := 0 }, { name := "T_CHAR", type := .int, accessFlags := 25, slot := 12, constantValue := 0 }, { name := "T_FLOAT", type := .int, accessFlags := 25, slot := 13, constantValue := 0 }, { name := "T_DOUBLE", type := .int, accessFlags := 25, slot := 14, constantValue := 0 }, { name := "T_BYTE", type := .int, accessFlags := 25, slot := 15, constantValue := 0 }, { name := "T_SHORT", type := .int, accessFlags := 25, slot := 16, constantValue := 0 }, { name := "T_INT", type := .int, accessFlags := 25, slot := 17, constantValue := 0 }, { name := "T_LONG", type := .int, accessFlags := 25, slot := 18, constantValue := 0 }, { name := "JLA", type := (.object "jdk/internal/access/JavaLangAccess"), accessFlags := 26, slot := 19, constantValue := 0 }, { name := "SOFT_MAX_ARRAY_LENGTH", type := .int, accessFlags := 25, slot := 20, constantValue := 0 }]
  methods := #[k13m0]
  instanceTypes := #[]
  staticTypes := #[(.object "jdk/internal/misc/Unsafe"), .boolean, .int, .int, .int, .int, .int, .int, .int, .int, .int, .int, .int, .int, .int, .int, .int, .int, .int, (.object "jdk/internal/access/JavaLangAccess"), .int]
  resolved := Array.replicate 378 none
  statics := none }

def pool14 : Array CpInfo := pool [(1, u "java/lang/Cloneable"), (0, .class_ 1), (0, u "java/lang/Object"), (0, .class_ 3)] 3

/-- java/lang/Cloneable -/
def k14 : Class := { plain "java/lang/Cloneable" (some 0) with
  accessFlags := 1537
  interfaces := #[]
  cf := some (fileOf pool14 2 #[] #[] 1537 4 #[] #[])
  fields := #[]
  methods := #[]
  instanceTypes := #[]
  staticTypes := #[]
  resolved := Array.replicate 8 none
  statics := none }

/-- the primitive byte -/
def k15 : Class := { plain "byte" none with kind := .primitive 'B', accessFlags := 0x411 }
/-- [B -/
def k16 : Class := { plain "[B" (some 0) with kind := .array 15 .byte, interfaces := #[14, 2], accessFlags := 1041 }

/-- the primitive char -/
def k17 : Class := { plain "char" none with kind := .primitive 'C', accessFlags := 0x411 }
/-- [C -/
def k18 : Class := { plain "[C" (some 0) with kind := .array 17 .char, interfaces := #[14, 2], accessFlags := 1041 }

/-- the primitive int -/
def k19 : Class := { plain "int" none with kind := .primitive 'I', accessFlags := 0x411 }
/-- [I -/
def k20 : Class := { plain "[I" (some 0) with kind := .array 19 .int, interfaces := #[14, 2], accessFlags := 1041 }

def heap : Heap := #[{ cls := 7, slots := #[.long 0, .int 1, .null, .int 0, .null, .int 0, .int 0], vm := .statics 7 },
  { cls := 12, slots := #[.null, .null, .null], vm := .statics 12 }]
def classes : Array Class := #[k0, k1, k2, k3, k4, k5, k6, k7, k8, k9, k10, k11, k12, k13, k14, k15, k16, k17, k18, k19, k20]
def interned : List (Array UInt16 × Addr) := []
def slotsUsed : Nat := 10
def theMethod : MethodId := ⟨1, 1⟩
def args0 : Array Value := #[.int 5, .int 7, .int 9, .int 2]
def aboutOver (below : List Frame) : State where
  vm := { classes := classes, interned := interned.toArray }
  heap := heap
  slotsUsed := slotsUsed
  threads := #[{ frames := .invoking theMethod args0 :: below }]
def below0 : List Frame := [.native { method := ⟨0, 0⟩, args := #[] }]
def about1 : State := aboutOver below0
def p0 : Program := .bare "" "" ""
def e0 : Env := launch0.env 0 0 0
theorem w_frames : about1.frames = Frame.invoking theMethod args0 :: below0 := rfl
set_option maxRecDepth 65536 in
theorem w_args : argsFit about1.vm theMethod args0 = true := by decide +kernel
set_option maxRecDepth 65536 in
theorem w_heap : heapFits about1 = true := by decide +kernel
set_option maxRecDepth 65536 in
theorem w_runnable : about1.curStatus? = some .runnable := by decide +kernel
set_option maxRecDepth 65536 in
theorem w_alone : about1.alone = true := by decide +kernel
set_option maxRecDepth 65536 in
theorem w_named : about1.methodNamed? x = some theMethod := by decide +kernel
set_option maxRecDepth 65536 in
theorem w_hears : about1.hears theMethod below0 = true := by decide +kernel
set_option maxRecDepth 65536 in
theorem w_ripe : about1.ripe theMethod args0 below0 = true := by decide +kernel
theorem w_running : about1.status = .running := rfl
set_option maxRecDepth 65536 in
theorem w_room : about1.hasRoom e0.platform room_1 = true :=
  launch0.hasRoom_least _ room_1 (by decide +kernel) (by decide +kernel) (by decide +kernel) (by decide +kernel) (by decide +kernel) (by decide +kernel)
theorem allAtoms_all (ts : List Jvm.Cond) (a : Array Jvm.Value) (st : Jvm.State) : (allAtoms ts).before a st = ts.all (fun c => c.before a st) := by
  induction ts with
  | nil => rfl
  | cons c t ih =>
    show (Jvm.Cond.and c (allAtoms t)).before a st = _
    rw [Jvm.Cond.before_and, ih, List.all_cons]
def words1 : List Jvm.Cond := Jvm.Cond.code x code maxLocals ret :: tables_1
/-- a 'code' word, met by the world's own term for the bytes: nothing is compared byte by byte -/
theorem code_word {y : MethodName} {bytes : ByteArray} {mx : Nat} {rt : Option FieldType} {a : Array Value} {s : State} {m : MethodId} {meth : Method} {c : Code} (h1 : s.methodNamed? y = some m) (h2 : s.vm.method? m = some meth) (h3 : meth.code = some c) (h4 : c.code = bytes)
    (h5 : (c.maxLocals == mx && c.exceptionTable.isEmpty && decide (c.maxStack ≤ mostOperands) && decide (meth.sig.returnType = rt) && !meth.locks && decide (parseMethodDescriptor y.desc = some meth.sig)) = true) : (Jvm.Cond.code y bytes mx rt).before a s = true := by
  simp only [Bool.and_eq_true, beq_iff_eq, Bool.not_eq_true', decide_eq_true_eq] at h5
  obtain ⟨⟨⟨⟨⟨g1, g2⟩, g3⟩, g4⟩, g5⟩, g6⟩ := h5
  simp [Cond.before, Cond.holds, Cond.value, h1, h2, h3, h4, g1, g2, g3, g4, g5, g6]
def isCode : Jvm.Cond → Bool
  | .code _ _ _ _ => true
  | _ => false
theorem all_split {L : List Jvm.Cond} {P : Jvm.Cond → Bool} (h1 : L.all (fun c => isCode c || P c) = true) (h2 : ∀ c ∈ L.filter isCode, P c = true) : L.all P = true := by
  refine List.all_eq_true.mpr fun c hc => ?_
  have h := List.all_eq_true.mp h1 c hc
  rcases Bool.eq_false_or_eq_true (isCode c) with hi | hi
  · exact h2 c (List.mem_filter.mpr ⟨hc, hi⟩)
  · simpa [hi] using h
set_option maxRecDepth 65536 in
theorem w_c0 : (Jvm.Cond.code x code maxLocals ret).before args0 about1 = true := code_word (m := ⟨1, 1⟩) (meth := k1m1) (c := k1c1) (by decide +kernel) rfl rfl rfl (by decide +kernel)
set_option maxRecDepth 65536 in
theorem w_c1 : (Jvm.Cond.code ({ cls := "java/lang/String", name := "<init>", desc := "([C)V" } : Jvm.MethodName) jdk_42_method_3_code (2 : Nat) (Option.none : Option Jvm.ClassFile.FieldType)).before args0 about1 = true := code_word (m := ⟨7, 1⟩) (meth := k7m1) (c := k7c1) (by decide +kernel) rfl rfl rfl (by decide +kernel)
set_option maxRecDepth 65536 in
theorem w_c2 : (Jvm.Cond.code ({ cls := "java/lang/String", name := "<init>", desc := "([CIILjava/lang/Void;)V" } : Jvm.MethodName) jdk_42_method_149_code (6 : Nat) (Option.none : Option Jvm.ClassFile.FieldType)).before args0 about1 = true := code_word (m := ⟨7, 2⟩) (meth := k7m2) (c := k7c2) (by decide +kernel) rfl rfl rfl (by decide +kernel)
set_option maxRecDepth 65536 in
theorem w_c3 : (Jvm.Cond.code ({ cls := "java/lang/Object", name := "<init>", desc := "()V" } : Jvm.MethodName) object_method_1_code (1 : Nat) (Option.none : Option Jvm.ClassFile.FieldType)).before args0 about1 = true := code_word (m := ⟨0, 0⟩) (meth := k0m0) (c := k0c0) (by decide +kernel) rfl rfl rfl (by decide +kernel)
set_option maxRecDepth 65536 in
theorem w_c4 : (Jvm.Cond.code ({ cls := "java/lang/StringUTF16", name := "compress", desc := "([CII)[B" } : Jvm.MethodName) jdk_52_method_16_code (6 : Nat) (Option.some (Jvm.ClassFile.FieldType.array Jvm.ClassFile.FieldType.byte))).before args0 about1 = true := code_word (m := ⟨8, 2⟩) (meth := k8m2) (c := k8c2) (by decide +kernel) rfl rfl rfl (by decide +kernel)
set_option maxRecDepth 65536 in
theorem w_c5 : (Jvm.Cond.code ({ cls := "java/lang/StringUTF16", name := "compress", desc := "([CI[BII)I" } : Jvm.MethodName) jdk_52_method_21_code (7 : Nat) (Option.some Jvm.ClassFile.FieldType.int)).before args0 about1 = true := code_word (m := ⟨8, 3⟩) (meth := k8m3) (c := k8c3) (by decide +kernel) rfl rfl rfl (by decide +kernel)
set_option maxRecDepth 65536 in
theorem w_c6 : (Jvm.Cond.code ({ cls := "java/lang/StringUTF16", name := "coderFromArrayLen", desc := "([BI)B" } : Jvm.MethodName) jdk_52_method_15_code (2 : Nat) (Option.some Jvm.ClassFile.FieldType.byte)).before args0 about1 = true := code_word (m := ⟨8, 1⟩) (meth := k8m1) (c := k8c1) (by decide +kernel) rfl rfl rfl (by decide +kernel)
set_option maxRecDepth 65536 in
theorem w_c7 : (Jvm.Cond.code ({ cls := "com/example/strata/strata/store/AnswerReader$Head", name := "<init>", desc := "(ZILjava/lang/String;Ljava/util/Map;)V" } : Jvm.MethodName) prog_40_method_1_code (5 : Nat) (Option.none : Option Jvm.ClassFile.FieldType)).before args0 about1 = true := code_word (m := ⟨10, 0⟩) (meth := k10m0) (c := k10c0) (by decide +kernel) rfl rfl rfl (by decide +kernel)
set_option maxRecDepth 65536 in
theorem w_c8 : (Jvm.Cond.code ({ cls := "java/lang/Record", name := "<init>", desc := "()V" } : Jvm.MethodName) jdk_30_method_1_code (1 : Nat) (Option.none : Option Jvm.ClassFile.FieldType)).before args0 about1 = true := code_word (m := ⟨9, 0⟩) (meth := k9m0) (c := k9c0) (by decide +kernel) rfl rfl rfl (by decide +kernel)
set_option maxRecDepth 65536 in
theorem w_c9 : (Jvm.Cond.code ({ cls := "com/example/strata/strata/store/AnswerReader$Head", name := "interim", desc := "()Z" } : Jvm.MethodName) prog_40_method_2_code (1 : Nat) (Option.some Jvm.ClassFile.FieldType.boolean)).before args0 about1 = true := code_word (m := ⟨10, 1⟩) (meth := k10m1) (c := k10c1) (by decide +kernel) rfl rfl rfl (by decide +kernel)
def codes1 : List Jvm.Cond := [Jvm.Cond.code x code maxLocals ret, Jvm.Cond.code ({ cls := "java/lang/String", name := "<init>", desc := "([C)V" } : Jvm.MethodName) jdk_42_method_3_code (2 : Nat) (Option.none : Option Jvm.ClassFile.FieldType), Jvm.Cond.code ({ cls := "java/lang/String", name := "<init>", desc := "([CIILjava/lang/Void;)V" } : Jvm.MethodName) jdk_42_method_149_code (6 : Nat) (Option.none : Option Jvm.ClassFile.FieldType), Jvm.Cond.code ({ cls := "java/lang/Object", name := "<init>", desc := "()V" } : Jvm.MethodName) object_method_1_code (1 : Nat) (Option.none : Option Jvm.ClassFile.FieldType), Jvm.Cond.code ({ cls := "java/lang/StringUTF16", name := "compress", desc := "([CII)[B" } : Jvm.MethodName) jdk_52_method_16_code (6 : Nat) (Option.some (Jvm.ClassFile.FieldType.array Jvm.ClassFile.FieldType.byte)), Jvm.Cond.code ({ cls := "java/lang/StringUTF16", name := "compress", desc := "([CI[BII)I" } : Jvm.MethodName) jdk_52_method_21_code (7 : Nat) (Option.some Jvm.ClassFile.FieldType.int), Jvm.Cond.code ({ cls := "java/lang/StringUTF16", name := "coderFromArrayLen", desc := "([BI)B" } : Jvm.MethodName) jdk_52_method_15_code (2 : Nat) (Option.some Jvm.ClassFile.FieldType.byte), Jvm.Cond.code ({ cls := "com/example/strata/strata/store/AnswerReader$Head", name := "<init>", desc := "(ZILjava/lang/String;Ljava/util/Map;)V" } : Jvm.MethodName) prog_40_method_1_code (5 : Nat) (Option.none : Option Jvm.ClassFile.FieldType), Jvm.Cond.code ({ cls := "java/lang/Record", name := "<init>", desc := "()V" } : Jvm.MethodName) jdk_30_method_1_code (1 : Nat) (Option.none : Option Jvm.ClassFile.FieldType), Jvm.Cond.code ({ cls := "com/example/strata/strata/store/AnswerReader$Head", name := "interim", desc := "()Z" } : Jvm.MethodName) prog_40_method_2_code (1 : Nat) (Option.some Jvm.ClassFile.FieldType.boolean)]
set_option maxRecDepth 65536 in
theorem codes_eq : words1.filter isCode = codes1 := rfl
theorem w_codes : ∀ c ∈ words1.filter isCode, c.before args0 about1 = true := by
  rw [codes_eq]
  intro c hc
  simp only [codes1, List.mem_cons, List.not_mem_nil, or_false] at hc
  rcases hc with rfl | rfl | rfl | rfl | rfl | rfl | rfl | rfl | rfl | rfl
  · exact w_c0
  · exact w_c1
  · exact w_c2
  · exact w_c3
  · exact w_c4
  · exact w_c5
  · exact w_c6
  · exact w_c7
  · exact w_c8
  · exact w_c9
set_option maxRecDepth 65536 in
theorem w_t1 : (words1.take 24).all (fun c => isCode c || c.before args0 about1) = true := by decide +kernel
set_option maxRecDepth 65536 in
theorem w_t2 : ((words1.drop 24).take 24).all (fun c => isCode c || c.before args0 about1) = true := by decide +kernel
set_option maxRecDepth 65536 in
theorem w_t3 : ((words1.drop 24).drop 24).all (fun c => isCode c || c.before args0 about1) = true := by decide +kernel
theorem w_tables : (allAtoms (Jvm.Cond.code x code maxLocals ret :: tables_1)).before args0 about1 = true := by
  rw [allAtoms_all]
  show words1.all (fun c => c.before args0 about1) = true
  refine all_split ?_ w_codes
  rw [← List.take_append_drop 24 words1, List.all_append, w_t1, ← List.take_append_drop 24 (words1.drop 24), List.all_append, w_t2, w_t3]
  rfl
set_option maxRecDepth 65536 in
theorem w_rest : rest_1_c.before args0 about1 = true := by decide +kernel
set_option maxRecDepth 65536 in
theorem w_case : (Jvm.Cond.and given_1 narrow_1).before args0 about1 = true := by decide +kernel
theorem w_applies : (headSpec (Jvm.Cond.code x code maxLocals ret :: tables_1) room_1).applies x e0.platform about1 = true :=
  (Spec.applies_iff w_frames).mpr ⟨w_running, w_runnable, w_alone, w_named, w_hears, w_ripe, w_room, w_tables⟩
theorem atStart : AtStart classFile x code maxLocals ret World_1 tables_1 room_1 Calls_1 rest_1 Pre_1 launch0 p0 e0 about1 theMethod args0 below0 :=
  ⟨lists_1, trivial, launch0.admits_env _ _ _, launch0.least_env, fairChoices_fair.cas, fairChoices_fair.clock, w_frames, w_args, w_heap, w_applies, trivial, w_rest, w_case⟩
end start1
theorem witness_1 : WitnessClaimed_1 := ⟨start1.p0, start1.e0, start1.about1, start1.theMethod, start1.args0, start1.below0, start1.atStart⟩
end Jvm.Pilot.@@N@@
