import JvmDerived
import JvmDerived.Pilot.@@N@@Statement
import JvmDerived.Pilot.@@N@@Code
set_option linter.unusedVariables false
set_option linter.unusedSimpArgs false
namespace Jvm.OwnW
open Sem ClassFile Op Lib Jvm.Stand Jvm.Free Jvm.LawKit Jvm.RoadKit
section Base
variable {p : Program} {l : Launch} {e : Env} {R : Room} {s : State} {m : MethodId} {args : Array Value} {below : List Frame} {meth : Method} {c : Code} {T : State} {locs : List Loc} {cells slots : Nat} {Z : State} {h h' : Heap} {a b : Addr} {ty : FieldType} {vs : List Value} {v : Value} {sl : Nat} {ws : List Addr}
variable {Q : Option Value → Heap → List Loc → Prop} {En : Outcome → State → List Loc → Prop} {kc ks : Nat} {U U' : State}
/-- from U the body comes to its end; what it leaves is Q, its frame En -/
def Wq (p : Program) (e : Env) (below : List Frame) (En : Outcome → State → List Loc → Prop) (Q : Option Value → Heap → List Loc → Prop) (U : State) : Prop :=
  ∃ s₂ o, Steps p.tables e below U s₂ ∧ s₂.status = .running ∧ Ended s₂ below o ∧ ∃ v L, o = .returned v ∧ Q v s₂.heap L ∧ En o s₂ L
theorem Wq.step (h1 : ∀ t, Steps p.tables e below U' t → Steps p.tables e below U t) (k : Wq p e below En Q U') : Wq p e below En Q U := by
  obtain ⟨s₂, o, q, r⟩ := k; exact ⟨s₂, o, h1 _ q, r⟩
theorem Wq.steps (h1 : Steps p.tables e below U U') (k : Wq p e below En Q U') : Wq p e below En Q U := by
  obtain ⟨s₂, o, q, r⟩ := k; exact ⟨s₂, o, h1.trans q, r⟩
theorem Wq.by (k1 : Wq p e below En Q U' → Wq p e below En Q U) (k : Wq p e below En Q U') : Wq p e below En Q U := k1 k
theorem Wq.ret {rv : Option Value} {g : JFrame} (X : Stand p l e R s m args below meth c T locs cells slots) (hlk : meth.locks = false) (hv : meth.sig.returnType = none → rv = none)
    (st : ∀ fs, (∀ (f : JFrame) (acts : List Action), f.method = m → f.locked = none → f.entered = [] → (doReturn e (T.setTop f) acts rv).1 = T.setFrames fs) → Steps p.tables e below (T.setTop g) (T.setFrames fs))
    (hc : cells ≤ kc) (hs : slots ≤ ks) (hQ : Q rv T.heap locs) : Wq p e below (fun o t L => FrameEnd s o t L kc ks) Q (T.setTop g) := by
  obtain ⟨fs, hr, hrun, hended, hW, hsame⟩ := X.leave (v := rv) hv hlk
  exact ⟨_, _, st fs hr, hrun, hended, rv, locs, rfl, hQ, ⟨rv, rfl⟩, hW, hsame.mono hc hs⟩
/-- the same for a body that may load a String constant for the first time -/
theorem Wq.retW {rv : Option Value} {g : JFrame} {vm₁ : Vm} {n : Nat} (X : Stand p l e R (s.setVm vm₁) m args below meth c T locs cells slots) (hS : s.Since vm₁ n) (hn : n ≤ T.heap.size) (hlk : meth.locks = false) (hv : meth.sig.returnType = none → rv = none)
    (st : ∀ fs, (∀ (f : JFrame) (acts : List Action), f.method = m → f.locked = none → f.entered = [] → (doReturn e (T.setTop f) acts rv).1 = T.setFrames fs) → Steps p.tables e below (T.setTop g) (T.setFrames fs))
    (hc : cells ≤ kc) (hs : slots ≤ ks) (hQ : Q rv T.heap locs) : Wq p e below (fun o t L => ReturnedEndW s o t L kc ks) Q (T.setTop g) := by
  obtain ⟨fs, hr, hrun, hended, w1, w2, w3, w4⟩ := X.leaveW hS hn (v := rv) hv hlk
  exact ⟨_, _, st fs hr, hrun, hended, rv, locs, rfl, hQ, ⟨rv, rfl⟩, w2, w3, w4.mono hc hs⟩
/-- an array and the whole list of what it holds -/
def Al (Z : State) (h : Heap) (a : Addr) (ty : FieldType) (vs : List Value) : Prop := ∃ cl : Cell, Arr Z h a cl ty ∧ cl.slots.toList = vs
theorem Al.lt (V : Al Z h a ty vs) : a < h.size := by obtain ⟨cl, A, -⟩ := V; exact A.lt
theorem Al.ext (V : Al Z h a ty vs) (E : Ext h h') : Al Z h' a ty vs := by obtain ⟨cl, A, r⟩ := V; exact ⟨cl, A.ext E, r⟩
theorem Al.other (V : Al Z h b ty vs) (W : Wr h h' a sl v) (q : b ≠ a) : Al Z h' b ty vs := by obtain ⟨cl, A, r⟩ := V; exact ⟨cl, A.other W q, r⟩
theorem Al.keep (V : Al Z h a ty vs) (K : Keep h h' ws) (q : a ∉ ws) : Al Z h' a ty vs := by obtain ⟨cl, A, r⟩ := V; exact ⟨cl, ⟨K.2.1 a cl A.1 q, A.2⟩, r⟩
theorem Al.new {cA : ClassId} {n : Int32} {k : Nat} {dv : Value} (A : Arr Z h a (newA cA ty n) ty) (hk : n.toNatClampNeg = k) (hd : defaultValue ty = dv) : Al Z h a ty (List.replicate k dv) := ⟨_, A, by subst hk hd; simp [newA]⟩
theorem Al.set (V : Al Z h a ty vs) (W : Wr h h' a sl v) : Al Z h' a ty (vs.set sl v) := by
  obtain ⟨cl, A, rfl⟩ := V
  exact ⟨_, A.same W, by simp [Cell.setSlot]⟩
theorem Sta.keepN {C n d : String} {v : Value} (F : Sta Z h C n d v) (K : Keep h h' ws) (q : ∀ w ∈ ws, ∀ cell : Cell, h[w]? = some cell → cell.vm.isStatics = false) : Sta Z h' C n d v := by
  obtain ⟨cf, i, k, f, st, cell, h1, h2, h3, h4, h5, h6, h7⟩ := F
  exact ⟨cf, i, k, f, st, cell, h1, h2, h3, h4, K.2.1 _ _ h5 (fun hm => by rw [q st hm cell h5] at h6; cases h6), h6, h7⟩
theorem fldI {t : Term} {C n d : String} {k : Int32} (hx : (Cond.eq (.field t C n d) (.int k)).value args s none s [] = some true) (ev : t.eval args s none [] s = some (.ref a)) : Fld s s.heap a C n d (.int k) := by
  refine Fld.start ?_
  have e1 := fld_at (C := C) (n := n) (dd := d) ev
  obtain ⟨x, y, h1, h2, k1, k2⟩ := cmp_v (Or.inl hx)
  rw [Term.int_eval] at h2
  cases h2
  rw [e1] at h1
  cases x <;> simp only [Kin] at k2 <;> first | (obtain ⟨z, hz⟩ := k2; cases hz) | skip
  have q := gotT (Cond.eq_ints (e1.trans h1) (Term.int_eval k)) hx
  rw [h1, q]
theorem fldJ {t : Term} {C n d : String} {k : Int64} (hx : (Cond.eq (.field t C n d) (.long k)).value args s none s [] = some true) (ev : t.eval args s none [] s = some (.ref a)) : Fld s s.heap a C n d (.long k) := by
  refine Fld.start ?_
  have e1 := fld_at (C := C) (n := n) (dd := d) ev
  obtain ⟨x, y, h1, h2, k1, k2⟩ := cmp_v (Or.inl hx)
  rw [long_at] at h2
  cases h2
  rw [e1] at h1
  cases x <;> simp only [Kin] at k2 <;> first | (obtain ⟨z, hz⟩ := k2; cases hz) | skip
  have q := gotT (eq_L (e1.trans h1) (long_at k)) hx
  rw [h1, q]
theorem Exa.ns {C : String} (F : Exa Z h a C) : ∀ cell : Cell, h[a]? = some cell → cell.vm.isStatics = false := by
  obtain ⟨c1, k, h1, h2, h3, h4, h5⟩ := F
  intro cell hc; cases h1.symm.trans hc; exact h4
theorem Al.ns (V : Al Z h a ty vs) : ∀ cell : Cell, h[a]? = some cell → cell.vm.isStatics = false := by
  obtain ⟨cl, A, -⟩ := V
  intro cell hc; cases A.1.symm.trans hc; exact A.plain
theorem clA (X : Stand p l e R s m args below meth c T locs cells slots) (hx : p.tables.exec = Jvm.exec) (hZ : Z.Warmed39 s.vm) {a0 : Array Value} {own ad : String} {index : Nat} (hown : s.vm.findClass own = some m.cls)
    (w1 : (Cond.methodLink own index ⟨ad, "clone", "()Ljava/lang/Object;"⟩).before a0 Z = true) (w2 : (Cond.sameMethod ad "java/lang/Object" "clone" "()Ljava/lang/Object;").before a0 Z = true) (w3 : (Cond.native ⟨"java/lang/Object", "clone", "()Ljava/lang/Object;"⟩).before a0 Z = true)
    (w4 : (Cond.instanceMethod ⟨"java/lang/Object", "clone", "()Ljava/lang/Object;"⟩).before a0 Z = true) (w5 : (Cond.selects ad ⟨ad, "clone", "()Ljava/lang/Object;"⟩ ⟨"java/lang/Object", "clone", "()Ljava/lang/Object;"⟩).before a0 Z = true) (w6 : (Cond.castable ad "java/lang/Cloneable").before a0 Z = true)
    (eT : T.heap = h) (V : Al Z h a ty vs) (E : Exa Z h a ad) (F : ∀ v ∈ vs, fits ty v = true) {g : JFrame} (hg : g.method = m) (hsize : g.locals.size = c.maxLocals) {rest : List Value} (hst : g.stack = .ref a :: rest) (hd : decode c.code g.pc = .ok (.invokevirtual index, 3))
    (hf : 1 ≤ R.frames) {W cap : Nat} (hW : 2 * g.monitorRoom + (rest.map fun v => v.category).sum ≤ W) (hl : W + 14 ≤ R.locals) (hcap : vs.length ≤ cap) (hc : cells + 1 ≤ R.cells) (hsl : slots + cap ≤ R.slots) :
    ∃ T' h', Stand p l e R s m args below meth c T' locs (cells + 1) (slots + cap) ∧ T'.heap = h' ∧ Ext h h' ∧ Al Z h' h.size ty vs ∧ Exa Z h' h.size ad ∧
      ∀ target, Steps p.tables e below (T'.setTop { g with pc := g.pc + 3, stack := .ref h.size :: rest }) target → Steps p.tables e below (T.setTop g) target := by
  obtain ⟨cl, A, r⟩ := V
  have FC : FitC Z cl := fitC_of A fun i hi v hv => F v (by rw [← r]; exact Array.mem_toList_iff.mpr (Array.mem_of_getElem? hv))
  obtain ⟨T', h', X', e', ex, A', E', st⟩ := cloneA X hx hZ hown w1 w2 w3 w4 w5 w6 eT A E FC hg hsize hst hd hf hW hl (by rw [← Array.length_toList, r]; exact hcap) hc hsl
  exact ⟨T', h', X', e', ex, ⟨_, A', r⟩, E', st⟩
theorem selPriv {a0 : Array Value} {y : MethodName} {k : Nat} (hZ : Z.Warmed39 s.vm) (wi : (Cond.instantiable y.cls k).before a0 Z = true) (wp : (Cond.privateMethod y).before a0 Z = true) (wm : (Cond.instanceMethod y).before a0 Z = true) (hy : y.cls ≠ "java/lang/invoke/MethodHandle" ∧ y.cls ≠ "java/lang/invoke/VarHandle") : (Cond.selects y.cls y y).before args s = true := by
  obtain ⟨c, k, h1, h2, -, h4, -⟩ := Cond.instantiable_spec (mv (args := args) hZ wi)
  simp only [Bool.or_eq_false_iff] at h4
  exact Jvm.Stand.selects_self_of_private h1 h2 h4.1 (Cond.privateMethod_at (mvP hZ wp (args := args))) (mv hZ wm) hy
theorem al_in {cl : Cell} {j : Int32} {i : Nat} (hvs : cl.slots.toList = vs) (hj : ¬ j < 0) (hi : j.toNatClampNeg = i) (hl : i < vs.length) : ¬ (j < 0 ∨ cl.slots.size ≤ j.toNatClampNeg) := by
  subst hvs hi
  rintro (q | q)
  · exact hj q
  · simp only [Array.length_toList] at hl; omega
theorem al_at {cl : Cell} {j : Int32} {i : Nat} (hvs : cl.slots.toList = vs) (hi : j.toNatClampNeg = i) (hv : vs[i]? = some v) : cl.slots[j.toNatClampNeg]? = some v := by
  subst hvs hi; simpa using hv
theorem al_lt {i : Nat} (hv : vs[i]? = some v) : i < vs.length := (List.getElem?_eq_some_iff.mp hv).1
theorem ldI (X : Stand p l e R s m args below meth c T locs cells slots) (hx : p.tables.exec = Jvm.exec) (hZ : Z.Warmed39 s.vm) (eT : T.heap = h) (V : Al Z h a .int vs) {j : Int32} {i : Nat} (hj : ¬ j < 0) (hi : j.toNatClampNeg = i) (hv : vs[i]? = some v) {g : JFrame} (hg : g.method = m) {rest : List Value} (hs : g.stack = .int j :: .ref a :: rest) (hd : decode c.code g.pc = .ok (.iaload, 1)) {target : State}
    (k : Steps p.tables e below (T.setTop { g with pc := g.pc + 1, stack := v :: rest }) target) : Steps p.tables e below (T.setTop g) target := by
  obtain ⟨cl, A, r⟩ := V
  exact X.iaload hx (by rw [eT]; exact A.1) (State.isArrayOf_alike hZ.alike A.2.1) A.2.2 (al_in r hj hi (al_lt hv)) (al_at r hi hv) hg hs hd _ k
theorem ldJ (X : Stand p l e R s m args below meth c T locs cells slots) (hx : p.tables.exec = Jvm.exec) (hZ : Z.Warmed39 s.vm) (eT : T.heap = h) (V : Al Z h a .long vs) {j : Int32} {i : Nat} (hj : ¬ j < 0) (hi : j.toNatClampNeg = i) (hv : vs[i]? = some v) {g : JFrame} (hg : g.method = m) {rest : List Value} (hs : g.stack = .int j :: .ref a :: rest) (hd : decode c.code g.pc = .ok (.laload, 1)) {target : State}
    (k : Steps p.tables e below (T.setTop { g with pc := g.pc + 1, stack := v :: rest }) target) : Steps p.tables e below (T.setTop g) target := by
  obtain ⟨cl, A, r⟩ := V
  exact X.laload hx (by rw [eT]; exact A.1) (State.isArrayOf_alike hZ.alike A.2.1) A.2.2 (al_in r hj hi (al_lt hv)) (al_at r hi hv) hg hs hd _ k
theorem ldC (X : Stand p l e R s m args below meth c T locs cells slots) (hx : p.tables.exec = Jvm.exec) (hZ : Z.Warmed39 s.vm) (eT : T.heap = h) (V : Al Z h a .char vs) {j : Int32} {i : Nat} (hj : ¬ j < 0) (hi : j.toNatClampNeg = i) (hv : vs[i]? = some v) {g : JFrame} (hg : g.method = m) {rest : List Value} (hs : g.stack = .int j :: .ref a :: rest) (hd : decode c.code g.pc = .ok (.caload, 1)) {target : State}
    (k : Steps p.tables e below (T.setTop { g with pc := g.pc + 1, stack := v :: rest }) target) : Steps p.tables e below (T.setTop g) target := by
  obtain ⟨cl, A, r⟩ := V
  exact X.caload hx (by rw [eT]; exact A.1) (State.isArrayOf_alike hZ.alike A.2.1) A.2.2 (al_in r hj hi (al_lt hv)) (al_at r hi hv) hg hs hd _ k
theorem ldB (X : Stand p l e R s m args below meth c T locs cells slots) (hx : p.tables.exec = Jvm.exec) (hZ : Z.Warmed39 s.vm) (eT : T.heap = h) (V : Al Z h a .byte vs) {j : Int32} {i : Nat} (hj : ¬ j < 0) (hi : j.toNatClampNeg = i) (hv : vs[i]? = some v) {g : JFrame} (hg : g.method = m) {rest : List Value} (hs : g.stack = .int j :: .ref a :: rest) (hd : decode c.code g.pc = .ok (.baload, 1)) {target : State}
    (k : Steps p.tables e below (T.setTop { g with pc := g.pc + 1, stack := v :: rest }) target) : Steps p.tables e below (T.setTop g) target := by
  obtain ⟨cl, A, r⟩ := V
  exact X.baloadBytes hx (by rw [eT]; exact A.1) (State.isArrayOf_alike hZ.alike A.2.1) A.2.2 (al_in r hj hi (al_lt hv)) (al_at r hi hv) hg hs hd _ k
theorem ldZ (X : Stand p l e R s m args below meth c T locs cells slots) (hx : p.tables.exec = Jvm.exec) (hZ : Z.Warmed39 s.vm) (eT : T.heap = h) (V : Al Z h a .boolean vs) {j : Int32} {i : Nat} (hj : ¬ j < 0) (hi : j.toNatClampNeg = i) (hv : vs[i]? = some v) {g : JFrame} (hg : g.method = m) {rest : List Value} (hs : g.stack = .int j :: .ref a :: rest) (hd : decode c.code g.pc = .ok (.baload, 1)) {target : State}
    (k : Steps p.tables e below (T.setTop { g with pc := g.pc + 1, stack := v :: rest }) target) : Steps p.tables e below (T.setTop g) target := by
  obtain ⟨cl, A, r⟩ := V
  exact X.baloadBooleans hx (by rw [eT]; exact A.1) (State.isArrayOf_alike hZ.alike A.2.1) A.2.2 (al_in r hj hi (al_lt hv)) (al_at r hi hv) hg hs hd _ k
theorem lenA (X : Stand p l e R s m args below meth c T locs cells slots) (hx : p.tables.exec = Jvm.exec) (hZ : Z.Warmed39 s.vm) (eT : T.heap = h) (V : Al Z h a ty vs) {n : Int32} (hn : vs.length.toInt32 = n) {g : JFrame} (hg : g.method = m) {rest : List Value} (hs : g.stack = .ref a :: rest) (hd : decode c.code g.pc = .ok (.arraylength, 1)) {target : State}
    (k : Steps p.tables e below (T.setTop { g with pc := g.pc + 1, stack := .int n :: rest }) target) : Steps p.tables e below (T.setTop g) target := by
  obtain ⟨cl, A, r⟩ := V
  refine X.arraylength hx (by rw [eT]; exact A.1) (State.isArrayOf_alike hZ.alike A.2.1) hg hs hd _ ?_
  rw [show cl.slots.size.toInt32 = n from by rw [← hn, ← r, Array.length_toList]]
  exact k
theorem asI (X : Stand p l e R s m args below meth c T locs cells slots) (hx : p.tables.exec = Jvm.exec) (hZ : Z.Warmed39 s.vm) (eT : T.heap = h) (V : Al Z h a .int vs) {j : Int32} {i : Nat} {x : Int32} (hj : ¬ j < 0) (hi : j.toNatClampNeg = i) (hl : i < vs.length) {g : JFrame} (hg : g.method = m) {rest : List Value} (hs : g.stack = .int x :: .int j :: .ref a :: rest) (hd : decode c.code g.pc = .ok (.iastore, 1)) :
    ∃ T' h', Stand p l e R s m args below meth c T' (locs ++ [⟨a, i⟩]) cells slots ∧ T'.heap = h' ∧ Wr h h' a i (.int x) ∧ Al Z h' a .int (vs.set i (.int x)) ∧ ∀ target, Steps p.tables e below (T'.setTop { g with pc := g.pc + 1, stack := rest }) target → Steps p.tables e below (T.setTop g) target := by
  have V0 := V
  obtain ⟨cl, A, r⟩ := V
  obtain ⟨T', h', X', e', W, st⟩ := stI X hx hZ eT A (al_in r hj hi hl) hg hs hd
  subst hi
  exact ⟨T', h', X', e', W, V0.set W, st⟩
theorem asJ (X : Stand p l e R s m args below meth c T locs cells slots) (hx : p.tables.exec = Jvm.exec) (hZ : Z.Warmed39 s.vm) (eT : T.heap = h) (V : Al Z h a .long vs) {j : Int32} {i : Nat} {x : Int64} (hj : ¬ j < 0) (hi : j.toNatClampNeg = i) (hl : i < vs.length) {g : JFrame} (hg : g.method = m) {rest : List Value} (hs : g.stack = .long x :: .int j :: .ref a :: rest) (hd : decode c.code g.pc = .ok (.lastore, 1)) :
    ∃ T' h', Stand p l e R s m args below meth c T' (locs ++ [⟨a, i⟩]) cells slots ∧ T'.heap = h' ∧ Wr h h' a i (.long x) ∧ Al Z h' a .long (vs.set i (.long x)) ∧ ∀ target, Steps p.tables e below (T'.setTop { g with pc := g.pc + 1, stack := rest }) target → Steps p.tables e below (T.setTop g) target := by
  have V0 := V
  obtain ⟨cl, A, r⟩ := V
  obtain ⟨T', h', X', e', W, st⟩ := stJ X hx hZ eT A (al_in r hj hi hl) hg hs hd
  subst hi
  exact ⟨T', h', X', e', W, V0.set W, st⟩
theorem asC (X : Stand p l e R s m args below meth c T locs cells slots) (hx : p.tables.exec = Jvm.exec) (hZ : Z.Warmed39 s.vm) (eT : T.heap = h) (V : Al Z h a .char vs) {j : Int32} {i : Nat} {x y : Int32} (hj : ¬ j < 0) (hi : j.toNatClampNeg = i) (hl : i < vs.length) (hy : nar .char x = y) {g : JFrame} (hg : g.method = m) {rest : List Value} (hs : g.stack = .int x :: .int j :: .ref a :: rest) (hd : decode c.code g.pc = .ok (.castore, 1)) :
    ∃ T' h', Stand p l e R s m args below meth c T' (locs ++ [⟨a, i⟩]) cells slots ∧ T'.heap = h' ∧ Wr h h' a i (.int y) ∧ Al Z h' a .char (vs.set i (.int y)) ∧ ∀ target, Steps p.tables e below (T'.setTop { g with pc := g.pc + 1, stack := rest }) target → Steps p.tables e below (T.setTop g) target := by
  have V0 := V
  obtain ⟨cl, A, r⟩ := V
  obtain ⟨T', h', X', e', W, st⟩ := stC X hx hZ eT A (al_in r hj hi hl) hg hs hd
  subst hi hy
  exact ⟨T', h', X', e', W, V0.set W, st⟩
theorem asB (X : Stand p l e R s m args below meth c T locs cells slots) (hx : p.tables.exec = Jvm.exec) (hZ : Z.Warmed39 s.vm) (eT : T.heap = h) (V : Al Z h a .byte vs) {j : Int32} {i : Nat} {x y : Int32} (hj : ¬ j < 0) (hi : j.toNatClampNeg = i) (hl : i < vs.length) (hy : nar .byte x = y) {g : JFrame} (hg : g.method = m) {rest : List Value} (hs : g.stack = .int x :: .int j :: .ref a :: rest) (hd : decode c.code g.pc = .ok (.bastore, 1)) :
    ∃ T' h', Stand p l e R s m args below meth c T' (locs ++ [⟨a, i⟩]) cells slots ∧ T'.heap = h' ∧ Wr h h' a i (.int y) ∧ Al Z h' a .byte (vs.set i (.int y)) ∧ ∀ target, Steps p.tables e below (T'.setTop { g with pc := g.pc + 1, stack := rest }) target → Steps p.tables e below (T.setTop g) target := by
  have V0 := V
  obtain ⟨cl, A, r⟩ := V
  obtain ⟨T', h', X', e', W, st⟩ := stB X hx hZ eT A (al_in r hj hi hl) hg hs hd
  subst hi hy
  exact ⟨T', h', X', e', W, V0.set W, st⟩
theorem asZ (X : Stand p l e R s m args below meth c T locs cells slots) (hx : p.tables.exec = Jvm.exec) (hZ : Z.Warmed39 s.vm) (eT : T.heap = h) (V : Al Z h a .boolean vs) {j : Int32} {i : Nat} {x y : Int32} (hj : ¬ j < 0) (hi : j.toNatClampNeg = i) (hl : i < vs.length) (hy : nar .boolean x = y) {g : JFrame} (hg : g.method = m) {rest : List Value} (hs : g.stack = .int x :: .int j :: .ref a :: rest) (hd : decode c.code g.pc = .ok (.bastore, 1)) :
    ∃ T' h', Stand p l e R s m args below meth c T' (locs ++ [⟨a, i⟩]) cells slots ∧ T'.heap = h' ∧ Wr h h' a i (.int y) ∧ Al Z h' a .boolean (vs.set i (.int y)) ∧ ∀ target, Steps p.tables e below (T'.setTop { g with pc := g.pc + 1, stack := rest }) target → Steps p.tables e below (T.setTop g) target := by
  have V0 := V
  obtain ⟨cl, A, r⟩ := V
  obtain ⟨T', h', X', e', W, st⟩ := stZ X hx hZ eT A (al_in r hj hi hl) hg hs hd
  subst hi hy
  exact ⟨T', h', X', e', W, V0.set W, st⟩
theorem W.iloadN (X : Stand p l e R s m args below meth c T locs cells slots) (hx : p.tables.exec = Jvm.exec) {pc : Nat} {ls : Array Slot} {st : List Value} {pc' : Nat} {k : Fin 4} {v : Int32} (hd : decode c.code pc = .ok (.iload_n k, 1)) (hl : ls[k.val]? = some (.val (.int v))) (k : Wq p e below En Q (T.setTop (mkF m pc' ls (.int v :: st)))) (hpc : pc + 1 = pc' := by rfl) : Wq p e below En Q (T.setTop (mkF m pc ls st)) := by subst hpc; exact Wq.step (fun _ q => XS.iloadN X.here hx rfl hd hl q) k
theorem W.istoreN (X : Stand p l e R s m args below meth c T locs cells slots) (hx : p.tables.exec = Jvm.exec) {pc : Nat} {ls : Array Slot} {st : List Value} {pc' : Nat} {k : Fin 4} {x : Int32} {l' : Array Slot} (hd : decode c.code pc = .ok (.istore_n k, 1)) (hl : storeLocals ls k.val (.int x) = some l') (k : Wq p e below En Q (T.setTop (mkF m pc' l' st))) (hpc : pc + 1 = pc' := by rfl) : Wq p e below En Q (T.setTop (mkF m pc ls (.int x :: st))) := by subst hpc; exact Wq.step (fun _ q => XS.istoreN X.here hx rfl hd rfl hl q) k
theorem W.lloadN (X : Stand p l e R s m args below meth c T locs cells slots) (hx : p.tables.exec = Jvm.exec) {pc : Nat} {ls : Array Slot} {st : List Value} {pc' : Nat} {k : Fin 4} {v : Int64} (hd : decode c.code pc = .ok (.lload_n k, 1)) (hl : ls[k.val]? = some (.val (.long v))) (k : Wq p e below En Q (T.setTop (mkF m pc' ls (.long v :: st)))) (hpc : pc + 1 = pc' := by rfl) : Wq p e below En Q (T.setTop (mkF m pc ls st)) := by subst hpc; exact Wq.step (fun _ q => XS.lloadN X.here hx rfl hd hl q) k
theorem W.lstoreN (X : Stand p l e R s m args below meth c T locs cells slots) (hx : p.tables.exec = Jvm.exec) {pc : Nat} {ls : Array Slot} {st : List Value} {pc' : Nat} {k : Fin 4} {x : Int64} {l' : Array Slot} (hd : decode c.code pc = .ok (.lstore_n k, 1)) (hl : storeLocals ls k.val (.long x) = some l') (k : Wq p e below En Q (T.setTop (mkF m pc' l' st))) (hpc : pc + 1 = pc' := by rfl) : Wq p e below En Q (T.setTop (mkF m pc ls (.long x :: st))) := by subst hpc; exact Wq.step (fun _ q => XS.lstoreN X.here hx rfl hd rfl hl q) k
theorem W.aloadN (X : Stand p l e R s m args below meth c T locs cells slots) (hx : p.tables.exec = Jvm.exec) {pc : Nat} {ls : Array Slot} {st : List Value} {pc' : Nat} {k : Fin 4} {v : Value} (hd : decode c.code pc = .ok (.aload_n k, 1)) (hl : ls[k.val]? = some (.val v)) (hv : v.isRef = true) (k : Wq p e below En Q (T.setTop (mkF m pc' ls (v :: st)))) (hpc : pc + 1 = pc' := by rfl) : Wq p e below En Q (T.setTop (mkF m pc ls st)) := by subst hpc; exact Wq.step (fun _ q => XS.aloadN X.here hx rfl hd hl hv q) k
theorem W.astoreN (X : Stand p l e R s m args below meth c T locs cells slots) (hx : p.tables.exec = Jvm.exec) {pc : Nat} {ls : Array Slot} {st : List Value} {pc' : Nat} {k : Fin 4} {x : Value} {l' : Array Slot} (hd : decode c.code pc = .ok (.astore_n k, 1)) (hv : x.isRef = true) (hl : storeLocals ls k.val x = some l') (k : Wq p e below En Q (T.setTop (mkF m pc' l' st))) (hpc : pc + 1 = pc' := by rfl) : Wq p e below En Q (T.setTop (mkF m pc ls (x :: st))) := by subst hpc; exact Wq.step (fun _ q => XS.astoreN X.here hx rfl hd rfl hv hl q) k
theorem W.iload (X : Stand p l e R s m args below meth c T locs cells slots) (hx : p.tables.exec = Jvm.exec) {pc : Nat} {ls : Array Slot} {st : List Value} {pc' : Nat} {k : Nat} {v : Int32} (hd : decode c.code pc = .ok (.iload k, 2)) (hl : ls[k]? = some (.val (.int v))) (k : Wq p e below En Q (T.setTop (mkF m pc' ls (.int v :: st)))) (hpc : pc + 2 = pc' := by rfl) : Wq p e below En Q (T.setTop (mkF m pc ls st)) := by subst hpc; exact Wq.step (fun _ q => XS.iload X.here hx rfl hd hl q) k
theorem W.istore (X : Stand p l e R s m args below meth c T locs cells slots) (hx : p.tables.exec = Jvm.exec) {pc : Nat} {ls : Array Slot} {st : List Value} {pc' : Nat} {k : Nat} {x : Int32} {l' : Array Slot} (hd : decode c.code pc = .ok (.istore k, 2)) (hl : storeLocals ls k (.int x) = some l') (k : Wq p e below En Q (T.setTop (mkF m pc' l' st))) (hpc : pc + 2 = pc' := by rfl) : Wq p e below En Q (T.setTop (mkF m pc ls (.int x :: st))) := by subst hpc; exact Wq.step (fun _ q => XS.istore X.here hx rfl hd rfl hl q) k
theorem W.lload (X : Stand p l e R s m args below meth c T locs cells slots) (hx : p.tables.exec = Jvm.exec) {pc : Nat} {ls : Array Slot} {st : List Value} {pc' : Nat} {k : Nat} {v : Int64} (hd : decode c.code pc = .ok (.lload k, 2)) (hl : ls[k]? = some (.val (.long v))) (k : Wq p e below En Q (T.setTop (mkF m pc' ls (.long v :: st)))) (hpc : pc + 2 = pc' := by rfl) : Wq p e below En Q (T.setTop (mkF m pc ls st)) := by subst hpc; exact Wq.step (fun _ q => XS.lload X.here hx rfl hd hl q) k
theorem W.lstore (X : Stand p l e R s m args below meth c T locs cells slots) (hx : p.tables.exec = Jvm.exec) {pc : Nat} {ls : Array Slot} {st : List Value} {pc' : Nat} {k : Nat} {x : Int64} {l' : Array Slot} (hd : decode c.code pc = .ok (.lstore k, 2)) (hl : storeLocals ls k (.long x) = some l') (k : Wq p e below En Q (T.setTop (mkF m pc' l' st))) (hpc : pc + 2 = pc' := by rfl) : Wq p e below En Q (T.setTop (mkF m pc ls (.long x :: st))) := by subst hpc; exact Wq.step (fun _ q => XS.lstore X.here hx rfl hd rfl hl q) k
theorem W.aload (X : Stand p l e R s m args below meth c T locs cells slots) (hx : p.tables.exec = Jvm.exec) {pc : Nat} {ls : Array Slot} {st : List Value} {pc' : Nat} {k : Nat} {v : Value} (hd : decode c.code pc = .ok (.aload k, 2)) (hl : ls[k]? = some (.val v)) (hv : v.isRef = true) (k : Wq p e below En Q (T.setTop (mkF m pc' ls (v :: st)))) (hpc : pc + 2 = pc' := by rfl) : Wq p e below En Q (T.setTop (mkF m pc ls st)) := by subst hpc; exact Wq.step (fun _ q => XS.aload X.here hx rfl hd hl hv q) k
theorem W.astore (X : Stand p l e R s m args below meth c T locs cells slots) (hx : p.tables.exec = Jvm.exec) {pc : Nat} {ls : Array Slot} {st : List Value} {pc' : Nat} {k : Nat} {x : Value} {l' : Array Slot} (hd : decode c.code pc = .ok (.astore k, 2)) (hv : x.isRef = true) (hl : storeLocals ls k x = some l') (k : Wq p e below En Q (T.setTop (mkF m pc' l' st))) (hpc : pc + 2 = pc' := by rfl) : Wq p e below En Q (T.setTop (mkF m pc ls (x :: st))) := by subst hpc; exact Wq.step (fun _ q => XS.astore X.here hx rfl hd rfl hv hl q) k
theorem W.istoreNS (X : Stand p l e R s m args below meth c T locs cells slots) (hx : p.tables.exec = Jvm.exec) {pc pc' : Nat} {ls : Array Slot} {st : List Value} {k : Fin 4} {x : Int32} {o : Slot} {l' : Array Slot} (hd : decode c.code pc = .ok (.istore_n k, 1)) (hold : ls[k.val]? = some o) (ho : o = .unset ∨ ∃ w, o = .val w ∧ w.category = 1) (hl : ls.setIfInBounds k.val (.val (.int x)) = l') (q : Wq p e below En Q (T.setTop (mkF m pc' l' st))) (hpc : pc + 1 = pc' := by rfl) : Wq p e below En Q (T.setTop (mkF m pc ls (.int x :: st))) := by
  subst hpc hl
  exact Wq.step (fun _ z => XS.istoreN X.here hx rfl hd rfl (XS.store1 hold ho rfl) z) q
theorem W.istoreS (X : Stand p l e R s m args below meth c T locs cells slots) (hx : p.tables.exec = Jvm.exec) {pc pc' : Nat} {ls : Array Slot} {st : List Value} {k : Nat} {x : Int32} {o : Slot} {l' : Array Slot} (hd : decode c.code pc = .ok (.istore k, 2)) (hold : ls[k]? = some o) (ho : o = .unset ∨ ∃ w, o = .val w ∧ w.category = 1) (hl : ls.setIfInBounds k (.val (.int x)) = l') (q : Wq p e below En Q (T.setTop (mkF m pc' l' st))) (hpc : pc + 2 = pc' := by rfl) : Wq p e below En Q (T.setTop (mkF m pc ls (.int x :: st))) := by
  subst hpc hl
  exact Wq.step (fun _ z => XS.istore X.here hx rfl hd rfl (XS.store1 hold ho rfl) z) q
theorem W.iconst (X : Stand p l e R s m args below meth c T locs cells slots) (hx : p.tables.exec = Jvm.exec) {pc : Nat} {ls : Array Slot} {st : List Value} {pc' : Nat} {i : Int} {z : Int32} (hd : decode c.code pc = .ok (.iconst i, 1)) (hz : Int32.ofInt i = z) (k : Wq p e below En Q (T.setTop (mkF m pc' ls (.int z :: st)))) (hpc : pc + 1 = pc' := by rfl) : Wq p e below En Q (T.setTop (mkF m pc ls st)) := by subst hz hpc; exact Wq.step (fun _ q => XS.iconst X.here hx rfl hd  q) k
theorem W.bipush (X : Stand p l e R s m args below meth c T locs cells slots) (hx : p.tables.exec = Jvm.exec) {pc : Nat} {ls : Array Slot} {st : List Value} {pc' : Nat} {i : Int} {z : Int32} (hd : decode c.code pc = .ok (.bipush i, 2)) (hz : (Int8.ofInt i).toInt32 = z) (k : Wq p e below En Q (T.setTop (mkF m pc' ls (.int z :: st)))) (hpc : pc + 2 = pc' := by rfl) : Wq p e below En Q (T.setTop (mkF m pc ls st)) := by subst hz hpc; exact Wq.step (fun _ q => XS.bipush X.here hx rfl hd  q) k
theorem W.sipush (X : Stand p l e R s m args below meth c T locs cells slots) (hx : p.tables.exec = Jvm.exec) {pc : Nat} {ls : Array Slot} {st : List Value} {pc' : Nat} {i : Int} {z : Int32} (hd : decode c.code pc = .ok (.sipush i, 3)) (hz : (Int16.ofInt i).toInt32 = z) (k : Wq p e below En Q (T.setTop (mkF m pc' ls (.int z :: st)))) (hpc : pc + 3 = pc' := by rfl) : Wq p e below En Q (T.setTop (mkF m pc ls st)) := by subst hz hpc; exact Wq.step (fun _ q => XS.sipush X.here hx rfl hd  q) k
theorem W.lconst (X : Stand p l e R s m args below meth c T locs cells slots) (hx : p.tables.exec = Jvm.exec) {pc : Nat} {ls : Array Slot} {st : List Value} {pc' : Nat} {i : Fin 2} {z : Int64} (hd : decode c.code pc = .ok (.lconst i, 1)) (hz : Int64.ofNat i = z) (k : Wq p e below En Q (T.setTop (mkF m pc' ls (.long z :: st)))) (hpc : pc + 1 = pc' := by rfl) : Wq p e below En Q (T.setTop (mkF m pc ls st)) := by subst hz hpc; exact Wq.step (fun _ q => XS.lconst X.here hx rfl hd  q) k
theorem W.aconstNull (X : Stand p l e R s m args below meth c T locs cells slots) (hx : p.tables.exec = Jvm.exec) {pc : Nat} {ls : Array Slot} {st : List Value} {pc' : Nat}  (hd : decode c.code pc = .ok (.aconst_null, 1))  (k : Wq p e below En Q (T.setTop (mkF m pc' ls (.null :: st)))) (hpc : pc + 1 = pc' := by rfl) : Wq p e below En Q (T.setTop (mkF m pc ls st)) := by subst hpc; exact Wq.step (fun _ q => XS.aconstNull X.here hx rfl hd  q) k
theorem W.iadd (X : Stand p l e R s m args below meth c T locs cells slots) (hx : p.tables.exec = Jvm.exec) {pc : Nat} {ls : Array Slot} {st : List Value} {pc' : Nat} {x y z : Int32} (hd : decode c.code pc = .ok (.iadd, 1)) (hz : x + y = z) (k : Wq p e below En Q (T.setTop (mkF m pc' ls (.int z :: st)))) (hpc : pc + 1 = pc' := by rfl) : Wq p e below En Q (T.setTop (mkF m pc ls (.int y :: .int x :: st))) := by subst hz hpc; exact Wq.step (fun _ q => XS.iadd X.here hx rfl hd rfl q) k
theorem W.ladd (X : Stand p l e R s m args below meth c T locs cells slots) (hx : p.tables.exec = Jvm.exec) {pc : Nat} {ls : Array Slot} {st : List Value} {pc' : Nat} {x y z : Int64} (hd : decode c.code pc = .ok (.ladd, 1)) (hz : x + y = z) (k : Wq p e below En Q (T.setTop (mkF m pc' ls (.long z :: st)))) (hpc : pc + 1 = pc' := by rfl) : Wq p e below En Q (T.setTop (mkF m pc ls (.long y :: .long x :: st))) := by subst hz hpc; exact Wq.step (fun _ q => XS.ladd X.here hx rfl hd rfl q) k
theorem W.isub (X : Stand p l e R s m args below meth c T locs cells slots) (hx : p.tables.exec = Jvm.exec) {pc : Nat} {ls : Array Slot} {st : List Value} {pc' : Nat} {x y z : Int32} (hd : decode c.code pc = .ok (.isub, 1)) (hz : x - y = z) (k : Wq p e below En Q (T.setTop (mkF m pc' ls (.int z :: st)))) (hpc : pc + 1 = pc' := by rfl) : Wq p e below En Q (T.setTop (mkF m pc ls (.int y :: .int x :: st))) := by subst hz hpc; exact Wq.step (fun _ q => XS.isub X.here hx rfl hd rfl q) k
theorem W.lsub (X : Stand p l e R s m args below meth c T locs cells slots) (hx : p.tables.exec = Jvm.exec) {pc : Nat} {ls : Array Slot} {st : List Value} {pc' : Nat} {x y z : Int64} (hd : decode c.code pc = .ok (.lsub, 1)) (hz : x - y = z) (k : Wq p e below En Q (T.setTop (mkF m pc' ls (.long z :: st)))) (hpc : pc + 1 = pc' := by rfl) : Wq p e below En Q (T.setTop (mkF m pc ls (.long y :: .long x :: st))) := by subst hz hpc; exact Wq.step (fun _ q => XS.lsub X.here hx rfl hd rfl q) k
theorem W.imul (X : Stand p l e R s m args below meth c T locs cells slots) (hx : p.tables.exec = Jvm.exec) {pc : Nat} {ls : Array Slot} {st : List Value} {pc' : Nat} {x y z : Int32} (hd : decode c.code pc = .ok (.imul, 1)) (hz : x * y = z) (k : Wq p e below En Q (T.setTop (mkF m pc' ls (.int z :: st)))) (hpc : pc + 1 = pc' := by rfl) : Wq p e below En Q (T.setTop (mkF m pc ls (.int y :: .int x :: st))) := by subst hz hpc; exact Wq.step (fun _ q => XS.imul X.here hx rfl hd rfl q) k
theorem W.lmul (X : Stand p l e R s m args below meth c T locs cells slots) (hx : p.tables.exec = Jvm.exec) {pc : Nat} {ls : Array Slot} {st : List Value} {pc' : Nat} {x y z : Int64} (hd : decode c.code pc = .ok (.lmul, 1)) (hz : x * y = z) (k : Wq p e below En Q (T.setTop (mkF m pc' ls (.long z :: st)))) (hpc : pc + 1 = pc' := by rfl) : Wq p e below En Q (T.setTop (mkF m pc ls (.long y :: .long x :: st))) := by subst hz hpc; exact Wq.step (fun _ q => XS.lmul X.here hx rfl hd rfl q) k
theorem W.iand (X : Stand p l e R s m args below meth c T locs cells slots) (hx : p.tables.exec = Jvm.exec) {pc : Nat} {ls : Array Slot} {st : List Value} {pc' : Nat} {x y z : Int32} (hd : decode c.code pc = .ok (.iand, 1)) (hz : x &&& y = z) (k : Wq p e below En Q (T.setTop (mkF m pc' ls (.int z :: st)))) (hpc : pc + 1 = pc' := by rfl) : Wq p e below En Q (T.setTop (mkF m pc ls (.int y :: .int x :: st))) := by subst hz hpc; exact Wq.step (fun _ q => XS.iand X.here hx rfl hd rfl q) k
theorem W.land (X : Stand p l e R s m args below meth c T locs cells slots) (hx : p.tables.exec = Jvm.exec) {pc : Nat} {ls : Array Slot} {st : List Value} {pc' : Nat} {x y z : Int64} (hd : decode c.code pc = .ok (.land, 1)) (hz : x &&& y = z) (k : Wq p e below En Q (T.setTop (mkF m pc' ls (.long z :: st)))) (hpc : pc + 1 = pc' := by rfl) : Wq p e below En Q (T.setTop (mkF m pc ls (.long y :: .long x :: st))) := by subst hz hpc; exact Wq.step (fun _ q => XS.land X.here hx rfl hd rfl q) k
theorem W.ior (X : Stand p l e R s m args below meth c T locs cells slots) (hx : p.tables.exec = Jvm.exec) {pc : Nat} {ls : Array Slot} {st : List Value} {pc' : Nat} {x y z : Int32} (hd : decode c.code pc = .ok (.ior, 1)) (hz : x ||| y = z) (k : Wq p e below En Q (T.setTop (mkF m pc' ls (.int z :: st)))) (hpc : pc + 1 = pc' := by rfl) : Wq p e below En Q (T.setTop (mkF m pc ls (.int y :: .int x :: st))) := by subst hz hpc; exact Wq.step (fun _ q => XS.ior X.here hx rfl hd rfl q) k
theorem W.lor (X : Stand p l e R s m args below meth c T locs cells slots) (hx : p.tables.exec = Jvm.exec) {pc : Nat} {ls : Array Slot} {st : List Value} {pc' : Nat} {x y z : Int64} (hd : decode c.code pc = .ok (.lor, 1)) (hz : x ||| y = z) (k : Wq p e below En Q (T.setTop (mkF m pc' ls (.long z :: st)))) (hpc : pc + 1 = pc' := by rfl) : Wq p e below En Q (T.setTop (mkF m pc ls (.long y :: .long x :: st))) := by subst hz hpc; exact Wq.step (fun _ q => XS.lor X.here hx rfl hd rfl q) k
theorem W.ixor (X : Stand p l e R s m args below meth c T locs cells slots) (hx : p.tables.exec = Jvm.exec) {pc : Nat} {ls : Array Slot} {st : List Value} {pc' : Nat} {x y z : Int32} (hd : decode c.code pc = .ok (.ixor, 1)) (hz : x ^^^ y = z) (k : Wq p e below En Q (T.setTop (mkF m pc' ls (.int z :: st)))) (hpc : pc + 1 = pc' := by rfl) : Wq p e below En Q (T.setTop (mkF m pc ls (.int y :: .int x :: st))) := by subst hz hpc; exact Wq.step (fun _ q => XS.ixor X.here hx rfl hd rfl q) k
theorem W.lxor (X : Stand p l e R s m args below meth c T locs cells slots) (hx : p.tables.exec = Jvm.exec) {pc : Nat} {ls : Array Slot} {st : List Value} {pc' : Nat} {x y z : Int64} (hd : decode c.code pc = .ok (.lxor, 1)) (hz : x ^^^ y = z) (k : Wq p e below En Q (T.setTop (mkF m pc' ls (.long z :: st)))) (hpc : pc + 1 = pc' := by rfl) : Wq p e below En Q (T.setTop (mkF m pc ls (.long y :: .long x :: st))) := by subst hz hpc; exact Wq.step (fun _ q => XS.lxor X.here hx rfl hd rfl q) k
theorem W.ineg (X : Stand p l e R s m args below meth c T locs cells slots) (hx : p.tables.exec = Jvm.exec) {pc : Nat} {ls : Array Slot} {st : List Value} {pc' : Nat} {x : Int32} {z : Int32} (hd : decode c.code pc = .ok (.ineg, 1)) (hz : -x = z) (k : Wq p e below En Q (T.setTop (mkF m pc' ls (.int z :: st)))) (hpc : pc + 1 = pc' := by rfl) : Wq p e below En Q (T.setTop (mkF m pc ls (.int x :: st))) := by subst hz hpc; exact Wq.step (fun _ q => XS.ineg X.here hx rfl hd rfl q) k
theorem W.lneg (X : Stand p l e R s m args below meth c T locs cells slots) (hx : p.tables.exec = Jvm.exec) {pc : Nat} {ls : Array Slot} {st : List Value} {pc' : Nat} {x : Int64} {z : Int64} (hd : decode c.code pc = .ok (.lneg, 1)) (hz : -x = z) (k : Wq p e below En Q (T.setTop (mkF m pc' ls (.long z :: st)))) (hpc : pc + 1 = pc' := by rfl) : Wq p e below En Q (T.setTop (mkF m pc ls (.long x :: st))) := by subst hz hpc; exact Wq.step (fun _ q => XS.lneg X.here hx rfl hd rfl q) k
theorem W.i2l (X : Stand p l e R s m args below meth c T locs cells slots) (hx : p.tables.exec = Jvm.exec) {pc : Nat} {ls : Array Slot} {st : List Value} {pc' : Nat} {x : Int32} {z : Int64} (hd : decode c.code pc = .ok (.i2l, 1)) (hz : x.toInt64 = z) (k : Wq p e below En Q (T.setTop (mkF m pc' ls (.long z :: st)))) (hpc : pc + 1 = pc' := by rfl) : Wq p e below En Q (T.setTop (mkF m pc ls (.int x :: st))) := by subst hz hpc; exact Wq.step (fun _ q => XS.i2l X.here hx rfl hd rfl q) k
theorem W.l2i (X : Stand p l e R s m args below meth c T locs cells slots) (hx : p.tables.exec = Jvm.exec) {pc : Nat} {ls : Array Slot} {st : List Value} {pc' : Nat} {x : Int64} {z : Int32} (hd : decode c.code pc = .ok (.l2i, 1)) (hz : x.toInt32 = z) (k : Wq p e below En Q (T.setTop (mkF m pc' ls (.int z :: st)))) (hpc : pc + 1 = pc' := by rfl) : Wq p e below En Q (T.setTop (mkF m pc ls (.long x :: st))) := by subst hz hpc; exact Wq.step (fun _ q => XS.l2i X.here hx rfl hd rfl q) k
theorem W.i2b (X : Stand p l e R s m args below meth c T locs cells slots) (hx : p.tables.exec = Jvm.exec) {pc : Nat} {ls : Array Slot} {st : List Value} {pc' : Nat} {x : Int32} {z : Int32} (hd : decode c.code pc = .ok (.i2b, 1)) (hz : x.toInt8.toInt32 = z) (k : Wq p e below En Q (T.setTop (mkF m pc' ls (.int z :: st)))) (hpc : pc + 1 = pc' := by rfl) : Wq p e below En Q (T.setTop (mkF m pc ls (.int x :: st))) := by subst hz hpc; exact Wq.step (fun _ q => XS.i2b X.here hx rfl hd rfl q) k
theorem W.i2s (X : Stand p l e R s m args below meth c T locs cells slots) (hx : p.tables.exec = Jvm.exec) {pc : Nat} {ls : Array Slot} {st : List Value} {pc' : Nat} {x : Int32} {z : Int32} (hd : decode c.code pc = .ok (.i2s, 1)) (hz : x.toInt16.toInt32 = z) (k : Wq p e below En Q (T.setTop (mkF m pc' ls (.int z :: st)))) (hpc : pc + 1 = pc' := by rfl) : Wq p e below En Q (T.setTop (mkF m pc ls (.int x :: st))) := by subst hz hpc; exact Wq.step (fun _ q => XS.i2s X.here hx rfl hd rfl q) k
theorem W.i2c (X : Stand p l e R s m args below meth c T locs cells slots) (hx : p.tables.exec = Jvm.exec) {pc : Nat} {ls : Array Slot} {st : List Value} {pc' : Nat} {x : Int32} {z : Int32} (hd : decode c.code pc = .ok (.i2c, 1)) (hz : x.toUInt32.toUInt16.toUInt32.toInt32 = z) (k : Wq p e below En Q (T.setTop (mkF m pc' ls (.int z :: st)))) (hpc : pc + 1 = pc' := by rfl) : Wq p e below En Q (T.setTop (mkF m pc ls (.int x :: st))) := by subst hz hpc; exact Wq.step (fun _ q => XS.i2c X.here hx rfl hd rfl q) k
theorem W.ishl (X : Stand p l e R s m args below meth c T locs cells slots) (hx : p.tables.exec = Jvm.exec) {pc : Nat} {ls : Array Slot} {st : List Value} {pc' : Nat} {x : Int32} {y : Int32} {z : Int32} (hd : decode c.code pc = .ok (.ishl, 1)) (hz : x <<< (y &&& 31) = z) (k : Wq p e below En Q (T.setTop (mkF m pc' ls (.int z :: st)))) (hpc : pc + 1 = pc' := by rfl) : Wq p e below En Q (T.setTop (mkF m pc ls (.int y :: .int x :: st))) := by subst hz hpc; exact Wq.step (fun _ q => XS.ishl X.here hx rfl hd rfl q) k
theorem W.ishr (X : Stand p l e R s m args below meth c T locs cells slots) (hx : p.tables.exec = Jvm.exec) {pc : Nat} {ls : Array Slot} {st : List Value} {pc' : Nat} {x : Int32} {y : Int32} {z : Int32} (hd : decode c.code pc = .ok (.ishr, 1)) (hz : x >>> (y &&& 31) = z) (k : Wq p e below En Q (T.setTop (mkF m pc' ls (.int z :: st)))) (hpc : pc + 1 = pc' := by rfl) : Wq p e below En Q (T.setTop (mkF m pc ls (.int y :: .int x :: st))) := by subst hz hpc; exact Wq.step (fun _ q => XS.ishr X.here hx rfl hd rfl q) k
theorem W.iushr (X : Stand p l e R s m args below meth c T locs cells slots) (hx : p.tables.exec = Jvm.exec) {pc : Nat} {ls : Array Slot} {st : List Value} {pc' : Nat} {x : Int32} {y : Int32} {z : Int32} (hd : decode c.code pc = .ok (.iushr, 1)) (hz : (x.toUInt32 >>> (y &&& 31).toUInt32).toInt32 = z) (k : Wq p e below En Q (T.setTop (mkF m pc' ls (.int z :: st)))) (hpc : pc + 1 = pc' := by rfl) : Wq p e below En Q (T.setTop (mkF m pc ls (.int y :: .int x :: st))) := by subst hz hpc; exact Wq.step (fun _ q => XS.iushr X.here hx rfl hd rfl q) k
theorem W.lshl (X : Stand p l e R s m args below meth c T locs cells slots) (hx : p.tables.exec = Jvm.exec) {pc : Nat} {ls : Array Slot} {st : List Value} {pc' : Nat} {x : Int64} {y : Int32} {z : Int64} (hd : decode c.code pc = .ok (.lshl, 1)) (hz : x <<< (y &&& 0x3f).toInt64 = z) (k : Wq p e below En Q (T.setTop (mkF m pc' ls (.long z :: st)))) (hpc : pc + 1 = pc' := by rfl) : Wq p e below En Q (T.setTop (mkF m pc ls (.int y :: .long x :: st))) := by subst hz hpc; exact Wq.step (fun _ q => XS.lshl X.here hx rfl hd rfl q) k
theorem W.lshr (X : Stand p l e R s m args below meth c T locs cells slots) (hx : p.tables.exec = Jvm.exec) {pc : Nat} {ls : Array Slot} {st : List Value} {pc' : Nat} {x : Int64} {y : Int32} {z : Int64} (hd : decode c.code pc = .ok (.lshr, 1)) (hz : x >>> (y &&& 0x3f).toInt64 = z) (k : Wq p e below En Q (T.setTop (mkF m pc' ls (.long z :: st)))) (hpc : pc + 1 = pc' := by rfl) : Wq p e below En Q (T.setTop (mkF m pc ls (.int y :: .long x :: st))) := by subst hz hpc; exact Wq.step (fun _ q => XS.lshr X.here hx rfl hd rfl q) k
theorem W.lushr (X : Stand p l e R s m args below meth c T locs cells slots) (hx : p.tables.exec = Jvm.exec) {pc : Nat} {ls : Array Slot} {st : List Value} {pc' : Nat} {x : Int64} {y : Int32} {z : Int64} (hd : decode c.code pc = .ok (.lushr, 1)) (hz : (x.toUInt64 >>> (y &&& 0x3f).toInt64.toUInt64).toInt64 = z) (k : Wq p e below En Q (T.setTop (mkF m pc' ls (.long z :: st)))) (hpc : pc + 1 = pc' := by rfl) : Wq p e below En Q (T.setTop (mkF m pc ls (.int y :: .long x :: st))) := by subst hz hpc; exact Wq.step (fun _ q => XS.lushr X.here hx rfl hd rfl q) k
theorem W.lcmp (X : Stand p l e R s m args below meth c T locs cells slots) (hx : p.tables.exec = Jvm.exec) {pc : Nat} {ls : Array Slot} {st : List Value} {pc' : Nat} {x y : Int64} (hd : decode c.code pc = .ok (.lcmp, 1))  (k : Wq p e below En Q (T.setTop (mkF m pc' ls (.int (lcmpW x y) :: st)))) (hpc : pc + 1 = pc' := by rfl) : Wq p e below En Q (T.setTop (mkF m pc ls (.long y :: .long x :: st))) := by subst hpc; exact Wq.step (fun _ q => XS.lcmp X.here hx rfl hd rfl q) k
theorem W.idiv (X : Stand p l e R s m args below meth c T locs cells slots) (hx : p.tables.exec = Jvm.exec) {pc : Nat} {ls : Array Slot} {st : List Value} {pc' : Nat} {x y z : Int32} (hd : decode c.code pc = .ok (.idiv, 1)) (hy : y ≠ 0) (hz : x / y = z) (k : Wq p e below En Q (T.setTop (mkF m pc' ls (.int z :: st)))) (hpc : pc + 1 = pc' := by rfl) : Wq p e below En Q (T.setTop (mkF m pc ls (.int y :: .int x :: st))) := by subst hz hpc; exact Wq.step (fun _ q => XS.idiv X.here hx rfl hd rfl hy q) k
theorem W.ldiv (X : Stand p l e R s m args below meth c T locs cells slots) (hx : p.tables.exec = Jvm.exec) {pc : Nat} {ls : Array Slot} {st : List Value} {pc' : Nat} {x y z : Int64} (hd : decode c.code pc = .ok (.ldiv, 1)) (hy : y ≠ 0) (hz : x / y = z) (k : Wq p e below En Q (T.setTop (mkF m pc' ls (.long z :: st)))) (hpc : pc + 1 = pc' := by rfl) : Wq p e below En Q (T.setTop (mkF m pc ls (.long y :: .long x :: st))) := by subst hz hpc; exact Wq.step (fun _ q => XS.ldiv X.here hx rfl hd rfl hy q) k
theorem W.irem (X : Stand p l e R s m args below meth c T locs cells slots) (hx : p.tables.exec = Jvm.exec) {pc : Nat} {ls : Array Slot} {st : List Value} {pc' : Nat} {x y z : Int32} (hd : decode c.code pc = .ok (.irem, 1)) (hy : y ≠ 0) (hz : x % y = z) (k : Wq p e below En Q (T.setTop (mkF m pc' ls (.int z :: st)))) (hpc : pc + 1 = pc' := by rfl) : Wq p e below En Q (T.setTop (mkF m pc ls (.int y :: .int x :: st))) := by subst hz hpc; exact Wq.step (fun _ q => iremM X hx rfl hd rfl hy q) k
theorem W.lrem (X : Stand p l e R s m args below meth c T locs cells slots) (hx : p.tables.exec = Jvm.exec) {pc : Nat} {ls : Array Slot} {st : List Value} {pc' : Nat} {x y z : Int64} (hd : decode c.code pc = .ok (.lrem, 1)) (hy : y ≠ 0) (hz : x % y = z) (k : Wq p e below En Q (T.setTop (mkF m pc' ls (.long z :: st)))) (hpc : pc + 1 = pc' := by rfl) : Wq p e below En Q (T.setTop (mkF m pc ls (.long y :: .long x :: st))) := by
  rw [← lrem_mod] at hz
  subst hz hpc
  exact Wq.step (fun _ q => XS.lrem X.here hx rfl hd rfl hy q) k
theorem W.iinc (X : Stand p l e R s m args below meth c T locs cells slots) (hx : p.tables.exec = Jvm.exec) {pc : Nat} {ls : Array Slot} {st : List Value} {pc' : Nat} {i : Nat} {cst : Int} {x z : Int32} {l' : Array Slot} (hd : decode c.code pc = .ok (.iinc i cst, 3)) (hl : ls[i]? = some (.val (.int x))) (hl' : storeLocals ls i (.int (x + Int32.ofInt cst)) = some l') (k : Wq p e below En Q (T.setTop (mkF m pc' l' st))) (hpc : pc + 3 = pc' := by rfl) : Wq p e below En Q (T.setTop (mkF m pc ls st)) := by subst hpc; exact Wq.step (fun _ q => XS.iinc X.here hx rfl hd hl hl' q) k
theorem W.dup (X : Stand p l e R s m args below meth c T locs cells slots) (hx : p.tables.exec = Jvm.exec) {pc : Nat} {ls : Array Slot} {st : List Value} {pc' : Nat} {x : Value} (hd : decode c.code pc = .ok (.dup, 1)) (hc : x.category = 1) (k : Wq p e below En Q (T.setTop (mkF m pc' ls (x :: x :: st)))) (hpc : pc + 1 = pc' := by rfl) : Wq p e below En Q (T.setTop (mkF m pc ls (x :: st))) := by subst hpc; exact Wq.step (fun _ q => XS.dup X.here hx rfl hd rfl hc q) k
theorem W.pop (X : Stand p l e R s m args below meth c T locs cells slots) (hx : p.tables.exec = Jvm.exec) {pc : Nat} {ls : Array Slot} {st : List Value} {pc' : Nat} {x : Value} (hd : decode c.code pc = .ok (.pop, 1)) (hc : x.category = 1) (k : Wq p e below En Q (T.setTop (mkF m pc' ls st))) (hpc : pc + 1 = pc' := by rfl) : Wq p e below En Q (T.setTop (mkF m pc ls (x :: st))) := by subst hpc; exact Wq.step (fun _ q => XS.pop X.here hx rfl hd rfl hc q) k
theorem W.dupX1 (X : Stand p l e R s m args below meth c T locs cells slots) (hx : p.tables.exec = Jvm.exec) {pc : Nat} {ls : Array Slot} {st : List Value} {pc' : Nat} {x y : Value} (hd : decode c.code pc = .ok (.dup_x1, 1)) (hc : x.category = 1) (hc' : y.category = 1) (k : Wq p e below En Q (T.setTop (mkF m pc' ls (x :: y :: x :: st)))) (hpc : pc + 1 = pc' := by rfl) : Wq p e below En Q (T.setTop (mkF m pc ls (x :: y :: st))) := by subst hpc; exact Wq.step (fun _ q => XS.dupX1 X.here hx rfl hd rfl hc hc' q) k
theorem W.swap (X : Stand p l e R s m args below meth c T locs cells slots) (hx : p.tables.exec = Jvm.exec) {pc : Nat} {ls : Array Slot} {st : List Value} {pc' : Nat} {x y : Value} (hd : decode c.code pc = .ok (.swap, 1)) (hc : x.category = 1) (hc' : y.category = 1) (k : Wq p e below En Q (T.setTop (mkF m pc' ls (y :: x :: st)))) (hpc : pc + 1 = pc' := by rfl) : Wq p e below En Q (T.setTop (mkF m pc ls (x :: y :: st))) := by subst hpc; exact Wq.step (fun _ q => XS.swap X.here hx rfl hd rfl hc hc' q) k
theorem W.dup2 (X : Stand p l e R s m args below meth c T locs cells slots) (hx : p.tables.exec = Jvm.exec) {pc : Nat} {ls : Array Slot} {st : List Value} {pc' : Nat} {x y : Value} (hd : decode c.code pc = .ok (.dup2, 1)) (hc : x.category = 1) (hc' : y.category = 1) (k : Wq p e below En Q (T.setTop (mkF m pc' ls (x :: y :: x :: y :: st)))) (hpc : pc + 1 = pc' := by rfl) : Wq p e below En Q (T.setTop (mkF m pc ls (x :: y :: st))) := by subst hpc; exact Wq.step (fun _ q => Jvm.Free.XT.dup2 X.here hx rfl hd rfl hc hc' q) k
theorem W.dup2L (X : Stand p l e R s m args below meth c T locs cells slots) (hx : p.tables.exec = Jvm.exec) {pc : Nat} {ls : Array Slot} {st : List Value} {pc' : Nat} {x : Int64} (hd : decode c.code pc = .ok (.dup2, 1))  (k : Wq p e below En Q (T.setTop (mkF m pc' ls (.long x :: .long x :: st)))) (hpc : pc + 1 = pc' := by rfl) : Wq p e below En Q (T.setTop (mkF m pc ls (.long x :: st))) := by subst hpc; exact Wq.step (fun _ q => Jvm.Free.XT.dup2L X.here hx rfl hd rfl q) k
theorem W.goto (X : Stand p l e R s m args below meth c T locs cells slots) (hx : p.tables.exec = Jvm.exec) {pc : Nat} {ls : Array Slot} {st : List Value} {o : Int} {pc' : Nat} (hd : decode c.code pc = .ok (.goto o, 3)) (ho : 0 ≤ (pc : Int) + o) (hp : ((pc : Int) + o).toNat = pc') (k : Wq p e below En Q (T.setTop (mkF m pc' ls st))) : Wq p e below En Q (T.setTop (mkF m pc ls st)) := Wq.step (fun _ q => XS.goto X.here hx rfl rfl hd ho hp q) k
theorem W.ifYes (X : Stand p l e R s m args below meth c T locs cells slots) (hx : p.tables.exec = Jvm.exec) {pc : Nat} {ls : Array Slot} {st : List Value} {cd : ClassFile.Cond} {x : Int32} {o : Int} {pc' : Nat} (hd : decode c.code pc = .ok (.ifCond cd o, 3)) (hc : ifCond.holds cd x = true) (ho : 0 ≤ (pc : Int) + o) (hp : ((pc : Int) + o).toNat = pc') (k : Wq p e below En Q (T.setTop (mkF m pc' ls st))) : Wq p e below En Q (T.setTop (mkF m pc ls (.int x :: st))) := Wq.step (fun _ q => XS.ifYes X.here hx rfl rfl hd rfl hc ho hp q) k
theorem W.ifNo (X : Stand p l e R s m args below meth c T locs cells slots) (hx : p.tables.exec = Jvm.exec) {pc : Nat} {ls : Array Slot} {st : List Value} {pc' : Nat} {cd : ClassFile.Cond} {x : Int32} {o : Int} (hd : decode c.code pc = .ok (.ifCond cd o, 3)) (hc : ifCond.holds cd x = false) (k : Wq p e below En Q (T.setTop (mkF m pc' ls st))) (hpc : pc + 3 = pc' := by rfl) : Wq p e below En Q (T.setTop (mkF m pc ls (.int x :: st))) := by subst hpc; exact Wq.step (fun _ q => XS.ifNo X.here hx rfl hd rfl hc q) k
theorem W.icmpYes (X : Stand p l e R s m args below meth c T locs cells slots) (hx : p.tables.exec = Jvm.exec) {pc : Nat} {ls : Array Slot} {st : List Value} {cd : ClassFile.Cond} {x y : Int32} {o : Int} {pc' : Nat} (hd : decode c.code pc = .ok (.if_icmp cd o, 3)) (hc : if_icmp.holds cd x y = true) (ho : 0 ≤ (pc : Int) + o) (hp : ((pc : Int) + o).toNat = pc') (k : Wq p e below En Q (T.setTop (mkF m pc' ls st))) : Wq p e below En Q (T.setTop (mkF m pc ls (.int y :: .int x :: st))) := Wq.step (fun _ q => XS.icmpYes X.here hx rfl rfl hd rfl hc ho hp q) k
theorem W.icmpNo (X : Stand p l e R s m args below meth c T locs cells slots) (hx : p.tables.exec = Jvm.exec) {pc : Nat} {ls : Array Slot} {st : List Value} {pc' : Nat} {cd : ClassFile.Cond} {x y : Int32} {o : Int} (hd : decode c.code pc = .ok (.if_icmp cd o, 3)) (hc : if_icmp.holds cd x y = false) (k : Wq p e below En Q (T.setTop (mkF m pc' ls st))) (hpc : pc + 3 = pc' := by rfl) : Wq p e below En Q (T.setTop (mkF m pc ls (.int y :: .int x :: st))) := by subst hpc; exact Wq.step (fun _ q => XS.icmpNo X.here hx rfl hd rfl hc q) k
theorem W.ifnullYes (X : Stand p l e R s m args below meth c T locs cells slots) (hx : p.tables.exec = Jvm.exec) {pc : Nat} {ls : Array Slot} {st : List Value} {o : Int} {pc' : Nat} (hd : decode c.code pc = .ok (.ifnull o, 3)) (ho : 0 ≤ (pc : Int) + o) (hp : ((pc : Int) + o).toNat = pc') (k : Wq p e below En Q (T.setTop (mkF m pc' ls st))) : Wq p e below En Q (T.setTop (mkF m pc ls (.null :: st))) := Wq.step (fun _ q => XS.ifnullYes X.here hx rfl rfl hd rfl ho hp q) k
theorem W.ifnullNo (X : Stand p l e R s m args below meth c T locs cells slots) (hx : p.tables.exec = Jvm.exec) {pc : Nat} {ls : Array Slot} {st : List Value} {pc' : Nat} {o : Int} {b : Addr} (hd : decode c.code pc = .ok (.ifnull o, 3))  (k : Wq p e below En Q (T.setTop (mkF m pc' ls st))) (hpc : pc + 3 = pc' := by rfl) : Wq p e below En Q (T.setTop (mkF m pc ls (.ref b :: st))) := by subst hpc; exact Wq.step (fun _ q => XS.ifnullNo X.here hx rfl hd rfl q) k
theorem W.ifnonnullYes (X : Stand p l e R s m args below meth c T locs cells slots) (hx : p.tables.exec = Jvm.exec) {pc : Nat} {ls : Array Slot} {st : List Value} {o : Int} {b : Addr} {pc' : Nat} (hd : decode c.code pc = .ok (.ifnonnull o, 3)) (ho : 0 ≤ (pc : Int) + o) (hp : ((pc : Int) + o).toNat = pc') (k : Wq p e below En Q (T.setTop (mkF m pc' ls st))) : Wq p e below En Q (T.setTop (mkF m pc ls (.ref b :: st))) := Wq.step (fun _ q => XS.ifnonnullYes X.here hx rfl rfl hd rfl ho hp q) k
theorem W.ifnonnullNo (X : Stand p l e R s m args below meth c T locs cells slots) (hx : p.tables.exec = Jvm.exec) {pc : Nat} {ls : Array Slot} {st : List Value} {pc' : Nat} {o : Int} (hd : decode c.code pc = .ok (.ifnonnull o, 3))  (k : Wq p e below En Q (T.setTop (mkF m pc' ls st))) (hpc : pc + 3 = pc' := by rfl) : Wq p e below En Q (T.setTop (mkF m pc ls (.null :: st))) := by subst hpc; exact Wq.step (fun _ q => XS.ifnonnullNo X.here hx rfl hd rfl q) k
theorem W.acmp (X : Stand p l e R s m args below meth c T locs cells slots) (hx : p.tables.exec = Jvm.exec) {pc : Nat} {ls : Array Slot} {st : List Value} {cd : ACond} {x y : Value} {o : Int} {pc' : Nat} {same : Bool} (hd : decode c.code pc = .ok (.if_acmp cd o, 3)) (h1 : x.isRef = true) (h2 : y.isRef = true) (hq : decide (x = y) = same) (ho : 0 ≤ (pc : Int) + o) (hp : pc' = if acV cd same = true then ((pc : Int) + o).toNat else pc + 3) (k : Wq p e below En Q (T.setTop (mkF m pc' ls st))) : Wq p e below En Q (T.setTop (mkF m pc ls (y :: x :: st))) := Wq.step (fun _ q => Jvm.RoadKit.acmp (g := mkF m pc ls (y :: x :: st)) X hx rfl h1 h2 rfl hd rfl hq ho hp q) k
theorem W.ldcInt (X : Stand p l e R s m args below meth c T locs cells slots) (hx : p.tables.exec = Jvm.exec) (hZ : Z.Warmed39 s.vm) {a0 : Array Value} {own : String} {index : Nat} {v : Int32} {pc pc' : Nat} {ls : Array Slot} {st : List Value} (hown : s.vm.findClass own = some m.cls) (w : (Cond.constant own index v).before a0 Z = true) (hd : decode c.code pc = .ok (.ldc index, 2)) (k : Wq p e below En Q (T.setTop (mkF m pc' ls (.int v :: st)))) (hpc : pc + 2 = pc' := by rfl) : Wq p e below En Q (T.setTop (mkF m pc ls st)) := by subst hpc; exact Wq.step (fun _ q => X.ldcInt hx hown (mvT hZ w) (g := mkF m pc ls st) rfl hd _ q) k
theorem W.ldcwInt (X : Stand p l e R s m args below meth c T locs cells slots) (hx : p.tables.exec = Jvm.exec) (hZ : Z.Warmed39 s.vm) {a0 : Array Value} {own : String} {index : Nat} {v : Int32} {pc pc' : Nat} {ls : Array Slot} {st : List Value} (hown : s.vm.findClass own = some m.cls) (w : (Cond.constant own index v).before a0 Z = true) (hd : decode c.code pc = .ok (.ldc_w index, 3)) (k : Wq p e below En Q (T.setTop (mkF m pc' ls (.int v :: st)))) (hpc : pc + 3 = pc' := by rfl) : Wq p e below En Q (T.setTop (mkF m pc ls st)) := by subst hpc; exact Wq.step (fun _ q => X.ldcwInt hx hown (mvT hZ w) (g := mkF m pc ls st) rfl hd _ q) k
theorem W.ldc2Long (X : Stand p l e R s m args below meth c T locs cells slots) (hx : p.tables.exec = Jvm.exec) (hZ : Z.Warmed39 s.vm) {a0 : Array Value} {own : String} {index : Nat} {v : Int64} {pc pc' : Nat} {ls : Array Slot} {st : List Value} (hown : s.vm.findClass own = some m.cls) (w : (Cond.constantLong own index v).before a0 Z = true) (hd : decode c.code pc = .ok (.ldc2_w index, 3)) (k : Wq p e below En Q (T.setTop (mkF m pc' ls (.long v :: st)))) (hpc : pc + 3 = pc' := by rfl) : Wq p e below En Q (T.setTop (mkF m pc ls st)) := by subst hpc; exact Wq.step (fun _ q => X.ldc2Long hx hown (mvT hZ w) (g := mkF m pc ls st) rfl hd _ q) k
theorem W.ldI (X : Stand p l e R s m args below meth c T locs cells slots) (hx : p.tables.exec = Jvm.exec) (hZ : Z.Warmed39 s.vm) (eT : T.heap = h) (V : Al Z h a .int vs) {pc pc' : Nat} {ls : Array Slot} {st : List Value} {j : Int32} {i : Nat} (hd : decode c.code pc = .ok (.iaload, 1)) (hj : ¬ j < 0) (hi : j.toNatClampNeg = i) (hv : vs[i]? = some v) (k : Wq p e below En Q (T.setTop (mkF m pc' ls (v :: st)))) (hpc : pc + 1 = pc' := by rfl) : Wq p e below En Q (T.setTop (mkF m pc ls (.int j :: .ref a :: st))) := by subst hpc; exact Wq.step (fun _ q => Jvm.OwnW.ldI X hx hZ eT V hj hi hv (g := mkF m pc ls (.int j :: .ref a :: st)) rfl rfl hd q) k
theorem W.ldJ (X : Stand p l e R s m args below meth c T locs cells slots) (hx : p.tables.exec = Jvm.exec) (hZ : Z.Warmed39 s.vm) (eT : T.heap = h) (V : Al Z h a .long vs) {pc pc' : Nat} {ls : Array Slot} {st : List Value} {j : Int32} {i : Nat} (hd : decode c.code pc = .ok (.laload, 1)) (hj : ¬ j < 0) (hi : j.toNatClampNeg = i) (hv : vs[i]? = some v) (k : Wq p e below En Q (T.setTop (mkF m pc' ls (v :: st)))) (hpc : pc + 1 = pc' := by rfl) : Wq p e below En Q (T.setTop (mkF m pc ls (.int j :: .ref a :: st))) := by subst hpc; exact Wq.step (fun _ q => Jvm.OwnW.ldJ X hx hZ eT V hj hi hv (g := mkF m pc ls (.int j :: .ref a :: st)) rfl rfl hd q) k
theorem W.ldC (X : Stand p l e R s m args below meth c T locs cells slots) (hx : p.tables.exec = Jvm.exec) (hZ : Z.Warmed39 s.vm) (eT : T.heap = h) (V : Al Z h a .char vs) {pc pc' : Nat} {ls : Array Slot} {st : List Value} {j : Int32} {i : Nat} (hd : decode c.code pc = .ok (.caload, 1)) (hj : ¬ j < 0) (hi : j.toNatClampNeg = i) (hv : vs[i]? = some v) (k : Wq p e below En Q (T.setTop (mkF m pc' ls (v :: st)))) (hpc : pc + 1 = pc' := by rfl) : Wq p e below En Q (T.setTop (mkF m pc ls (.int j :: .ref a :: st))) := by subst hpc; exact Wq.step (fun _ q => Jvm.OwnW.ldC X hx hZ eT V hj hi hv (g := mkF m pc ls (.int j :: .ref a :: st)) rfl rfl hd q) k
theorem W.ldB (X : Stand p l e R s m args below meth c T locs cells slots) (hx : p.tables.exec = Jvm.exec) (hZ : Z.Warmed39 s.vm) (eT : T.heap = h) (V : Al Z h a .byte vs) {pc pc' : Nat} {ls : Array Slot} {st : List Value} {j : Int32} {i : Nat} (hd : decode c.code pc = .ok (.baload, 1)) (hj : ¬ j < 0) (hi : j.toNatClampNeg = i) (hv : vs[i]? = some v) (k : Wq p e below En Q (T.setTop (mkF m pc' ls (v :: st)))) (hpc : pc + 1 = pc' := by rfl) : Wq p e below En Q (T.setTop (mkF m pc ls (.int j :: .ref a :: st))) := by subst hpc; exact Wq.step (fun _ q => Jvm.OwnW.ldB X hx hZ eT V hj hi hv (g := mkF m pc ls (.int j :: .ref a :: st)) rfl rfl hd q) k
theorem W.ldZ (X : Stand p l e R s m args below meth c T locs cells slots) (hx : p.tables.exec = Jvm.exec) (hZ : Z.Warmed39 s.vm) (eT : T.heap = h) (V : Al Z h a .boolean vs) {pc pc' : Nat} {ls : Array Slot} {st : List Value} {j : Int32} {i : Nat} (hd : decode c.code pc = .ok (.baload, 1)) (hj : ¬ j < 0) (hi : j.toNatClampNeg = i) (hv : vs[i]? = some v) (k : Wq p e below En Q (T.setTop (mkF m pc' ls (v :: st)))) (hpc : pc + 1 = pc' := by rfl) : Wq p e below En Q (T.setTop (mkF m pc ls (.int j :: .ref a :: st))) := by subst hpc; exact Wq.step (fun _ q => Jvm.OwnW.ldZ X hx hZ eT V hj hi hv (g := mkF m pc ls (.int j :: .ref a :: st)) rfl rfl hd q) k
theorem W.ldR (X : Stand p l e R s m args below meth c T locs cells slots) (hx : p.tables.exec = Jvm.exec) (hZ : Z.Warmed39 s.vm) (eT : T.heap = h) (V : Al Z h a ty vs) (hty : ty.isReference = true) {pc pc' : Nat} {ls : Array Slot} {st : List Value} {j : Int32} {i : Nat} (hd : decode c.code pc = .ok (.aaload, 1)) (hj : ¬ j < 0) (hi : j.toNatClampNeg = i) (hv : vs[i]? = some v) (k : Wq p e below En Q (T.setTop (mkF m pc' ls (v :: st)))) (hpc : pc + 1 = pc' := by rfl) : Wq p e below En Q (T.setTop (mkF m pc ls (.int j :: .ref a :: st))) := by
  subst hpc
  obtain ⟨cl, A, r⟩ := V
  exact Wq.step (fun _ q => X.aaload hx (by rw [eT]; exact A.1) (State.isArrayOf_alike hZ.alike A.2.1) hty A.2.2 (al_in r hj hi (al_lt hv)) (al_at r hi hv) (g := mkF m pc ls (.int j :: .ref a :: st)) rfl rfl hd _ q) k
theorem W.lenA (X : Stand p l e R s m args below meth c T locs cells slots) (hx : p.tables.exec = Jvm.exec) (hZ : Z.Warmed39 s.vm) (eT : T.heap = h) (V : Al Z h a ty vs) {pc pc' : Nat} {ls : Array Slot} {st : List Value} {n : Int32} (hd : decode c.code pc = .ok (.arraylength, 1)) (hn : vs.length.toInt32 = n) (k : Wq p e below En Q (T.setTop (mkF m pc' ls (.int n :: st)))) (hpc : pc + 1 = pc' := by rfl) : Wq p e below En Q (T.setTop (mkF m pc ls (.ref a :: st))) := by subst hpc; exact Wq.step (fun _ q => Jvm.OwnW.lenA X hx hZ eT V hn (g := mkF m pc ls (.ref a :: st)) rfl rfl hd q) k
end Base
end Jvm.OwnW
namespace Jvm.Pilot.@@N@@
open Jvm Jvm.ClassFile Sem Op Lib Jvm.Free Jvm.Stand Jvm.LawKit Jvm.RoadKit Jvm.OwnW Bundle Jvm.Pilot.@@N@@.Jvm.D
theorem d_method_2_0 : decode method_2_code 0 = .ok (.iload 6, 2) := by decide +kernel
theorem d_method_2_2 : decode method_2_code 2 = .ok (.bipush 7, 2) := by decide +kernel
theorem d_method_2_4 : decode method_2_code 4 = .ok (.iand, 1) := by decide +kernel
theorem d_method_2_5 : decode method_2_code 5 = .ok (.istore 7, 2) := by decide +kernel
theorem d_method_2_7 : decode method_2_code 7 = .ok (.iload 7, 2) := by decide +kernel
theorem d_method_2_9 : decode method_2_code 9 = .ok (.iconst 1, 1) := by decide +kernel
theorem d_method_2_10 : decode method_2_code 10 = .ok (.if_icmp .ne 7, 3) := by decide +kernel
theorem d_method_2_13 : decode method_2_code 13 = .ok (.lload_n 2, 1) := by decide +kernel
theorem d_method_2_14 : decode method_2_code 14 = .ok (.lconst 1, 1) := by decide +kernel
theorem d_method_2_15 : decode method_2_code 15 = .ok (.lsub, 1) := by decide +kernel
theorem d_method_2_17 : decode method_2_code 17 = .ok (.iload 7, 2) := by decide +kernel
theorem d_method_2_19 : decode method_2_code 19 = .ok (.iconst 2, 1) := by decide +kernel
theorem d_method_2_20 : decode method_2_code 20 = .ok (.if_icmp .ne 5, 3) := by decide +kernel
theorem d_method_2_23 : decode method_2_code 23 = .ok (.lload_n 2, 1) := by decide +kernel
theorem d_method_2_25 : decode method_2_code 25 = .ok (.iload 7, 2) := by decide +kernel
theorem d_method_2_27 : decode method_2_code 27 = .ok (.iconst 3, 1) := by decide +kernel
theorem d_method_2_28 : decode method_2_code 28 = .ok (.if_icmp .ne 8, 3) := by decide +kernel
theorem d_method_2_31 : decode method_2_code 31 = .ok (.lload 4, 2) := by decide +kernel
theorem d_method_2_33 : decode method_2_code 33 = .ok (.lconst 1, 1) := by decide +kernel
theorem d_method_2_34 : decode method_2_code 34 = .ok (.lsub, 1) := by decide +kernel
theorem d_method_2_36 : decode method_2_code 36 = .ok (.iload 7, 2) := by decide +kernel
theorem d_method_2_38 : decode method_2_code 38 = .ok (.iconst 4, 1) := by decide +kernel
theorem d_method_2_39 : decode method_2_code 39 = .ok (.if_icmp .ne 6, 3) := by decide +kernel
theorem d_method_2_42 : decode method_2_code 42 = .ok (.lload 4, 2) := by decide +kernel
theorem d_method_2_45 : decode method_2_code 45 = .ok (.iload 7, 2) := by decide +kernel
theorem d_method_2_47 : decode method_2_code 47 = .ok (.iconst 5, 1) := by decide +kernel
theorem d_method_2_48 : decode method_2_code 48 = .ok (.if_icmp .ne 7, 3) := by decide +kernel
theorem d_method_2_51 : decode method_2_code 51 = .ok (.lload_n 2, 1) := by decide +kernel
theorem d_method_2_52 : decode method_2_code 52 = .ok (.lconst 1, 1) := by decide +kernel
theorem d_method_2_53 : decode method_2_code 53 = .ok (.ladd, 1) := by decide +kernel
theorem d_method_2_55 : decode method_2_code 55 = .ok (.lload_n 0, 1) := by decide +kernel
theorem pn1 : plainName "com/example/strata/strata/model/AbortedTransactionSpansPinLaw" = true := by first | (simp [plainName, overriddenIn]; done) | decide +kernel
theorem ef_pick (m : MethodId) (ypick_1 : Int64) (ypick_2 : Int64) (ypick_3 : Int64) (xpick_4 : Int32) : entryFrame m #[(.long ypick_1), (.long ypick_2), (.long ypick_3), (.int xpick_4)] 8 = mkF m 0 #[.val (.long ypick_1), .second, .val (.long ypick_2), .second, .val (.long ypick_3), .second, .val (.int xpick_4), .unset] [] := by first | (simp [entryFrame, mkF, argsToLocals, Value.category]; done) | rfl
def f_pick (ypick_1 : Int64) (ypick_2 : Int64) (ypick_3 : Int64) (xpick_4 : Int32) : Int64 := (if (xpick_4 &&& (7 : Int32)) = (1 : Int32) then (ypick_2 - (1 : Int64)) else (if (xpick_4 &&& (7 : Int32)) = (2 : Int32) then ypick_2 else (if (xpick_4 &&& (7 : Int32)) = (3 : Int32) then (ypick_3 - (1 : Int64)) else (if (xpick_4 &&& (7 : Int32)) = (4 : Int32) then ypick_3 else (if (xpick_4 &&& (7 : Int32)) = (5 : Int32) then (ypick_2 + (1 : Int64)) else ypick_1)))))
def Q_pick (Z : State) (ypick_1 : Int64) (ypick_2 : Int64) (ypick_3 : Int64) (xpick_4 : Int32) (h0 : Heap) (n0 : Nat) (v : Option Value) (h : Heap) (L : List Loc) : Prop := v = some (.long (f_pick ypick_1 ypick_2 ypick_3 xpick_4)) ∧ Fr n0 L ∧ h = h0
theorem d_method_2_16 : decode method_2_code 16 = .ok (.lreturn, 1) := by decide +kernel
theorem d_method_2_24 : decode method_2_code 24 = .ok (.lreturn, 1) := by decide +kernel
theorem d_method_2_35 : decode method_2_code 35 = .ok (.lreturn, 1) := by decide +kernel
theorem d_method_2_44 : decode method_2_code 44 = .ok (.lreturn, 1) := by decide +kernel
theorem d_method_2_54 : decode method_2_code 54 = .ok (.lreturn, 1) := by decide +kernel
theorem d_method_2_56 : decode method_2_code 56 = .ok (.lreturn, 1) := by decide +kernel
abbrev mt1 : MethodName := ⟨"com/example/strata/strata/model/AbortedTransactionSpansPinLaw", "pickOffset", "(JJJI)J"⟩
set_option maxRecDepth 65536 in
set_option maxHeartbeats 40000000 in
theorem rm_pick (l : Launch) (Z : State) (a0 : Array Value) (hw : ∀ d ∈ tables_1, d.before a0 Z = true) (ws : List Jvm.Cond) (ypick_1 : Int64) (ypick_2 : Int64) (ypick_3 : Int64) (xpick_4 : Int32) (h0 : Heap) (n0 : Nat) (Z0 : n0 ≤ h0.size)  :
    MetFree l mt1 (head1 (Jvm.Cond.code mt1 method_2_code 8 (some .long) :: ws) ({ frames := 0, cells := 0, slots := 0, locals := 0 } : Room)) (fun a U => a = #[(.long ypick_1), (.long ypick_2), (.long ypick_3), (.int xpick_4)] ∧ Z.Warmed39 U.vm ∧ U.heap = h0) (fun _ _ _ _ _ => True) (fun _ U o U' => ∃ v L, o = .returned v ∧ (Q_pick Z ypick_1 ypick_2 ypick_3 xpick_4 h0 n0) v U'.heap L ∧ FrameEnd U o U' L ({ frames := 0, cells := 0, slots := 0, locals := 0 } : Room).cells ({ frames := 0, cells := 0, slots := 0, locals := 0 } : Room).slots) := by
  refine MetFree.of_bodySF (plainFor_of_name pn1) hisR ?_
  intro p e s m args below meth c s₁ Bd hml0 hP hK
  obtain ⟨rfl, hZ, hh⟩ := hP
  have hx := Bd.exec
  have hby := Bd.bytes
  have hml : c.maxLocals = 8 := hml0
  have hown : s.vm.findClass "com/example/strata/strata/model/AbortedTransactionSpansPinLaw" = some m.cls := findClass_of_methodNamed Bd.named
  have hnm := (name_of_methodNamed Bd.named Bd.method).1
  have X0 : Stand p l e ({ frames := 0, cells := 0, slots := 0, locals := 0 } : Room) s m #[(.long ypick_1), (.long ypick_2), (.long ypick_3), (.int xpick_4)] below meth c s₁ [] 0 0 := Stand.of_body Bd
  have e0 : s₁.heap = h0 := by rw [← hh, Bd.state]; rfl
  have N0 := Fr.nil n0
  refine Wq.step (p := p) (e := e) (below := below) (En := (fun o t L => FrameEnd s o t L ({ frames := 0, cells := 0, slots := 0, locals := 0 } : Room).cells ({ frames := 0, cells := 0, slots := 0, locals := 0 } : Room).slots)) (Q := (Q_pick Z ypick_1 ypick_2 ypick_3 xpick_4 h0 n0)) (fun t k => castTop (ef_pick m ypick_1 ypick_2 ypick_3 xpick_4) k) ?_
  show Wq _ _ _ _ _ (s₁.setTop (mkF m 0 #[.val (.long ypick_1), .second, .val (.long ypick_2), .second, .val (.long ypick_3), .second, .val (.int xpick_4), .unset] []))
  refine W.iload X0 hx (pc' := 2) (hb hby d_method_2_0) rfl ?_
  refine W.bipush X0 hx (pc' := 4) (hb hby d_method_2_2) (z := (7 : Int32)) rfl ?_
  refine W.iand X0 hx (pc' := 5) (hb hby d_method_2_4) (z := (xpick_4 &&& (7 : Int32))) rfl ?_
  refine W.istore X0 hx (pc' := 7) (hb hby d_method_2_5) (l' := #[.val (.long ypick_1), .second, .val (.long ypick_2), .second, .val (.long ypick_3), .second, .val (.int xpick_4), .val (.int (xpick_4 &&& (7 : Int32)))]) rfl ?_
  refine W.iload X0 hx (pc' := 9) (hb hby d_method_2_7) rfl ?_
  refine W.iconst X0 hx (pc' := 10) (hb hby d_method_2_9) (z := (1 : Int32)) rfl ?_
  by_cases hc10 : (xpick_4 &&& (7 : Int32)) = (1 : Int32)
  · skip
    refine W.icmpNo X0 hx (pc' := 13) (hb hby d_method_2_10) (teq hc10).2 ?_
    refine W.lloadN X0 hx (pc' := 14) (hb hby d_method_2_13) rfl ?_
    refine W.lconst X0 hx (pc' := 15) (hb hby d_method_2_14) (z := (1 : Int64)) rfl ?_
    refine W.lsub X0 hx (pc' := 16) (hb hby d_method_2_15) (z := (ypick_2 - (1 : Int64))) rfl ?_
    exact Wq.ret X0 (BodyLoose.notSynchronized Bd) (rv := some (.long (ypick_2 - (1 : Int64)))) (fun h => by rw [Bd.returns] at h; cases h) (fun _ hr => retOut X0 hx Bd.returns rfl (Or.inr (Or.inl ⟨rfl, rfl, _, rfl⟩)) (hb hby d_method_2_16) hr) (by decide) (by decide) ⟨by simp only [f_pick, if_pos hc10], N0, e0⟩
  · skip
    refine W.icmpYes X0 hx (pc' := 17) (hb hby d_method_2_10) (feq hc10).2 (by decide) (by decide) ?_
    refine W.iload X0 hx (pc' := 19) (hb hby d_method_2_17) rfl ?_
    refine W.iconst X0 hx (pc' := 20) (hb hby d_method_2_19) (z := (2 : Int32)) rfl ?_
    by_cases hc20 : (xpick_4 &&& (7 : Int32)) = (2 : Int32)
    · skip
      refine W.icmpNo X0 hx (pc' := 23) (hb hby d_method_2_20) (teq hc20).2 ?_
      refine W.lloadN X0 hx (pc' := 24) (hb hby d_method_2_23) rfl ?_
      exact Wq.ret X0 (BodyLoose.notSynchronized Bd) (rv := some (.long ypick_2)) (fun h => by rw [Bd.returns] at h; cases h) (fun _ hr => retOut X0 hx Bd.returns rfl (Or.inr (Or.inl ⟨rfl, rfl, _, rfl⟩)) (hb hby d_method_2_24) hr) (by decide) (by decide) ⟨by simp only [f_pick, if_neg hc10, if_pos hc20], N0, e0⟩
    · skip
      refine W.icmpYes X0 hx (pc' := 25) (hb hby d_method_2_20) (feq hc20).2 (by decide) (by decide) ?_
      refine W.iload X0 hx (pc' := 27) (hb hby d_method_2_25) rfl ?_
      refine W.iconst X0 hx (pc' := 28) (hb hby d_method_2_27) (z := (3 : Int32)) rfl ?_
      by_cases hc28 : (xpick_4 &&& (7 : Int32)) = (3 : Int32)
      · skip
        refine W.icmpNo X0 hx (pc' := 31) (hb hby d_method_2_28) (teq hc28).2 ?_
        refine W.lload X0 hx (pc' := 33) (hb hby d_method_2_31) rfl ?_
        refine W.lconst X0 hx (pc' := 34) (hb hby d_method_2_33) (z := (1 : Int64)) rfl ?_
        refine W.lsub X0 hx (pc' := 35) (hb hby d_method_2_34) (z := (ypick_3 - (1 : Int64))) rfl ?_
        exact Wq.ret X0 (BodyLoose.notSynchronized Bd) (rv := some (.long (ypick_3 - (1 : Int64)))) (fun h => by rw [Bd.returns] at h; cases h) (fun _ hr => retOut X0 hx Bd.returns rfl (Or.inr (Or.inl ⟨rfl, rfl, _, rfl⟩)) (hb hby d_method_2_35) hr) (by decide) (by decide) ⟨by simp only [f_pick, if_neg hc10, if_neg hc20, if_pos hc28], N0, e0⟩
      · skip
        refine W.icmpYes X0 hx (pc' := 36) (hb hby d_method_2_28) (feq hc28).2 (by decide) (by decide) ?_
        refine W.iload X0 hx (pc' := 38) (hb hby d_method_2_36) rfl ?_
        refine W.iconst X0 hx (pc' := 39) (hb hby d_method_2_38) (z := (4 : Int32)) rfl ?_
        by_cases hc39 : (xpick_4 &&& (7 : Int32)) = (4 : Int32)
        · skip
          refine W.icmpNo X0 hx (pc' := 42) (hb hby d_method_2_39) (teq hc39).2 ?_
          refine W.lload X0 hx (pc' := 44) (hb hby d_method_2_42) rfl ?_
          exact Wq.ret X0 (BodyLoose.notSynchronized Bd) (rv := some (.long ypick_3)) (fun h => by rw [Bd.returns] at h; cases h) (fun _ hr => retOut X0 hx Bd.returns rfl (Or.inr (Or.inl ⟨rfl, rfl, _, rfl⟩)) (hb hby d_method_2_44) hr) (by decide) (by decide) ⟨by simp only [f_pick, if_neg hc10, if_neg hc20, if_neg hc28, if_pos hc39], N0, e0⟩
        · skip
          refine W.icmpYes X0 hx (pc' := 45) (hb hby d_method_2_39) (feq hc39).2 (by decide) (by decide) ?_
          refine W.iload X0 hx (pc' := 47) (hb hby d_method_2_45) rfl ?_
          refine W.iconst X0 hx (pc' := 48) (hb hby d_method_2_47) (z := (5 : Int32)) rfl ?_
          by_cases hc48 : (xpick_4 &&& (7 : Int32)) = (5 : Int32)
          · skip
            refine W.icmpNo X0 hx (pc' := 51) (hb hby d_method_2_48) (teq hc48).2 ?_
            refine W.lloadN X0 hx (pc' := 52) (hb hby d_method_2_51) rfl ?_
            refine W.lconst X0 hx (pc' := 53) (hb hby d_method_2_52) (z := (1 : Int64)) rfl ?_
            refine W.ladd X0 hx (pc' := 54) (hb hby d_method_2_53) (z := (ypick_2 + (1 : Int64))) rfl ?_
            exact Wq.ret X0 (BodyLoose.notSynchronized Bd) (rv := some (.long (ypick_2 + (1 : Int64)))) (fun h => by rw [Bd.returns] at h; cases h) (fun _ hr => retOut X0 hx Bd.returns rfl (Or.inr (Or.inl ⟨rfl, rfl, _, rfl⟩)) (hb hby d_method_2_54) hr) (by decide) (by decide) ⟨by simp only [f_pick, if_neg hc10, if_neg hc20, if_neg hc28, if_neg hc39, if_pos hc48], N0, e0⟩
          · skip
            refine W.icmpYes X0 hx (pc' := 55) (hb hby d_method_2_48) (feq hc48).2 (by decide) (by decide) ?_
            refine W.lloadN X0 hx (pc' := 56) (hb hby d_method_2_55) rfl ?_
            exact Wq.ret X0 (BodyLoose.notSynchronized Bd) (rv := some (.long ypick_1)) (fun h => by rw [Bd.returns] at h; cases h) (fun _ hr => retOut X0 hx Bd.returns rfl (Or.inr (Or.inl ⟨rfl, rfl, _, rfl⟩)) (hb hby d_method_2_56) hr) (by decide) (by decide) ⟨by simp only [f_pick, if_neg hc10, if_neg hc20, if_neg hc28, if_neg hc39, if_neg hc48], N0, e0⟩
theorem kw15 {Z : State} {a0 : Array Value} (hw : ∀ d ∈ tables_1, d.before a0 Z = true) : (Jvm.Cond.methodLink "java/lang/Record" (1 : Nat) ({ cls := "java/lang/Object", name := "<init>", desc := "()V" } : Jvm.MethodName)).before a0 Z = true := hw _ (List.mem_of_getElem? (i := 15) rfl)
theorem kw16 {Z : State} {a0 : Array Value} (hw : ∀ d ∈ tables_1, d.before a0 Z = true) : (Jvm.Cond.instanceMethod ({ cls := "java/lang/Object", name := "<init>", desc := "()V" } : Jvm.MethodName)).before a0 Z = true := hw _ (List.mem_of_getElem? (i := 16) rfl)
theorem kw17 {Z : State} {a0 : Array Value} (hw : ∀ d ∈ tables_1, d.before a0 Z = true) : (Jvm.Cond.code ({ cls := "java/lang/Object", name := "<init>", desc := "()V" } : Jvm.MethodName) object_method_1_code (1 : Nat) (Option.none : Option Jvm.ClassFile.FieldType)).before a0 Z = true := hw _ (List.mem_of_getElem? (i := 17) rfl)
theorem d_jdk_30_method_1_0 : decode jdk_30_method_1_code 0 = .ok (.aload_n 0, 1) := by decide +kernel
theorem d_jdk_30_method_1_1 : decode jdk_30_method_1_code 1 = .ok (.invokespecial 1, 3) := by decide +kernel
theorem pn2 : plainName "java/lang/Record" = true := by first | (simp [plainName, overriddenIn]; done) | decide +kernel
theorem ef_rec (m : MethodId) (thisrec : Addr) : entryFrame m #[(.ref thisrec)] 1 = mkF m 0 #[.val (.ref thisrec)] [] := by first | (simp [entryFrame, mkF, argsToLocals, Value.category]; done) | rfl
def Q_rec (Z : State) (thisrec : Addr) (h0 : Heap) (n0 : Nat) (v : Option Value) (h : Heap) (L : List Loc) : Prop := v = none ∧ Fr n0 L ∧ h = h0
theorem d_jdk_30_method_1_4 : decode jdk_30_method_1_code 4 = .ok (.return_, 1) := by decide +kernel
abbrev mt2 : MethodName := ⟨"java/lang/Record", "<init>", "()V"⟩
set_option maxRecDepth 65536 in
set_option maxHeartbeats 40000000 in
theorem rm_rec (l : Launch) (Z : State) (a0 : Array Value) (hw : ∀ d ∈ tables_1, d.before a0 Z = true) (ws : List Jvm.Cond) (thisrec : Addr) (h0 : Heap) (n0 : Nat) (Z0 : n0 ≤ h0.size)  :
    MetFree l mt2 (head1 (Jvm.Cond.code mt2 jdk_30_method_1_code 1 none :: ws) ({ frames := 1, cells := 0, slots := 0, locals := 12 } : Room)) (fun a U => a = #[(.ref thisrec)] ∧ Z.Warmed39 U.vm ∧ U.heap = h0) (fun _ _ _ _ _ => True) (fun _ U o U' => ∃ v L, o = .returned v ∧ (Q_rec Z thisrec h0 n0) v U'.heap L ∧ FrameEnd U o U' L ({ frames := 1, cells := 0, slots := 0, locals := 12 } : Room).cells ({ frames := 1, cells := 0, slots := 0, locals := 12 } : Room).slots) := by
  refine MetFree.of_bodySF (plainFor_of_name pn2) hisR ?_
  intro p e s m args below meth c s₁ Bd hml0 hP hK
  obtain ⟨rfl, hZ, hh⟩ := hP
  have hx := Bd.exec
  have hby := Bd.bytes
  have hml : c.maxLocals = 1 := hml0
  have hown : s.vm.findClass "java/lang/Record" = some m.cls := findClass_of_methodNamed Bd.named
  have hnm := (name_of_methodNamed Bd.named Bd.method).1
  have X0 : Stand p l e ({ frames := 1, cells := 0, slots := 0, locals := 12 } : Room) s m #[(.ref thisrec)] below meth c s₁ [] 0 0 := Stand.of_body Bd
  have e0 : s₁.heap = h0 := by rw [← hh, Bd.state]; rfl
  have N0 := Fr.nil n0
  refine Wq.step (p := p) (e := e) (below := below) (En := (fun o t L => FrameEnd s o t L ({ frames := 1, cells := 0, slots := 0, locals := 12 } : Room).cells ({ frames := 1, cells := 0, slots := 0, locals := 12 } : Room).slots)) (Q := (Q_rec Z thisrec h0 n0)) (fun t k => castTop (ef_rec m thisrec) k) ?_
  show Wq _ _ _ _ _ (s₁.setTop (mkF m 0 #[.val (.ref thisrec)] []))
  refine W.aloadN X0 hx (pc' := 1) (hb hby d_jdk_30_method_1_0) rfl rfl ?_
  obtain ⟨T1, X1, e1, st1⟩ := initO X0 hx hZ hown (kw15 hw) (kw16 hw) (kw17 hw) e0 (g := (mkF m 1 #[.val (.ref thisrec)] [(.ref thisrec)])) rfl (by rw [hml]; rfl) rfl (hb hby d_jdk_30_method_1_1) (by decide) (W := 0) (by show 2 * 0 + _ ≤ _; exact Nat.le_of_eq rfl) (by decide)
  refine Wq.step st1 ?_
  show Wq _ _ _ _ _ (T1.setTop (mkF m 4 #[.val (.ref thisrec)] []))
  exact Wq.ret X1 (BodyLoose.notSynchronized Bd) (rv := none) (fun _ => rfl) (fun _ hr => X1.returnOut hx Bd.returns (hb hby d_jdk_30_method_1_4) hr) (by decide) (by decide) ⟨rfl, N0, e1⟩
theorem kw14 {Z : State} {a0 : Array Value} (hw : ∀ d ∈ tables_1, d.before a0 Z = true) : (Jvm.Cond.code ({ cls := "java/lang/Record", name := "<init>", desc := "()V" } : Jvm.MethodName) jdk_30_method_1_code (1 : Nat) (Option.none : Option Jvm.ClassFile.FieldType)).before a0 Z = true := hw _ (List.mem_of_getElem? (i := 14) rfl)
theorem kw13 {Z : State} {a0 : Array Value} (hw : ∀ d ∈ tables_1, d.before a0 Z = true) : (Jvm.Cond.initialized "java/lang/Record").before a0 Z = true := hw _ (List.mem_of_getElem? (i := 13) rfl)
theorem pd1 : parseMethodDescriptor "()V" = some ⟨[], none⟩ := by decide +kernel
theorem kw10 {Z : State} {a0 : Array Value} (hw : ∀ d ∈ tables_1, d.before a0 Z = true) : (Jvm.Cond.methodLink "com/example/strata/strata/model/AbortedTransaction" (1 : Nat) ({ cls := "java/lang/Record", name := "<init>", desc := "()V" } : Jvm.MethodName)).before a0 Z = true := hw _ (List.mem_of_getElem? (i := 10) rfl)
theorem kw11 {Z : State} {a0 : Array Value} (hw : ∀ d ∈ tables_1, d.before a0 Z = true) : (Jvm.Cond.instanceMethod ({ cls := "java/lang/Record", name := "<init>", desc := "()V" } : Jvm.MethodName)).before a0 Z = true := hw _ (List.mem_of_getElem? (i := 11) rfl)
theorem kw19 {Z : State} {a0 : Array Value} (hw : ∀ d ∈ tables_1, d.before a0 Z = true) : (Jvm.Cond.laysFinal "com/example/strata/strata/model/AbortedTransaction" "com/example/strata/strata/model/AbortedTransaction" "producerId" "J").before a0 Z = true := hw _ (List.mem_of_getElem? (i := 19) rfl)
theorem kw18 {Z : State} {a0 : Array Value} (hw : ∀ d ∈ tables_1, d.before a0 Z = true) : (Jvm.Cond.fieldLink "com/example/strata/strata/model/AbortedTransaction" (7 : Nat) "com/example/strata/strata/model/AbortedTransaction" "producerId" "J").before a0 Z = true := hw _ (List.mem_of_getElem? (i := 18) rfl)
theorem kw5 {Z : State} {a0 : Array Value} (hw : ∀ d ∈ tables_1, d.before a0 Z = true) : (Jvm.Cond.instantiable "com/example/strata/strata/model/AbortedTransaction" (4 : Nat)).before a0 Z = true := hw _ (List.mem_of_getElem? (i := 5) rfl)
theorem kw21 {Z : State} {a0 : Array Value} (hw : ∀ d ∈ tables_1, d.before a0 Z = true) : (Jvm.Cond.laysFinal "com/example/strata/strata/model/AbortedTransaction" "com/example/strata/strata/model/AbortedTransaction" "firstOffset" "J").before a0 Z = true := hw _ (List.mem_of_getElem? (i := 21) rfl)
theorem kw23 {Z : State} {a0 : Array Value} (hw : ∀ d ∈ tables_1, d.before a0 Z = true) : (Jvm.Cond.laysFinal "com/example/strata/strata/model/AbortedTransaction" "com/example/strata/strata/model/AbortedTransaction" "lastOffset" "J").before a0 Z = true := hw _ (List.mem_of_getElem? (i := 23) rfl)
theorem kw25 {Z : State} {a0 : Array Value} (hw : ∀ d ∈ tables_1, d.before a0 Z = true) : (Jvm.Cond.laysFinal "com/example/strata/strata/model/AbortedTransaction" "com/example/strata/strata/model/AbortedTransaction" "lastStableOffset" "J").before a0 Z = true := hw _ (List.mem_of_getElem? (i := 25) rfl)
theorem kw20 {Z : State} {a0 : Array Value} (hw : ∀ d ∈ tables_1, d.before a0 Z = true) : (Jvm.Cond.fieldLink "com/example/strata/strata/model/AbortedTransaction" (13 : Nat) "com/example/strata/strata/model/AbortedTransaction" "firstOffset" "J").before a0 Z = true := hw _ (List.mem_of_getElem? (i := 20) rfl)
theorem kw22 {Z : State} {a0 : Array Value} (hw : ∀ d ∈ tables_1, d.before a0 Z = true) : (Jvm.Cond.fieldLink "com/example/strata/strata/model/AbortedTransaction" (16 : Nat) "com/example/strata/strata/model/AbortedTransaction" "lastOffset" "J").before a0 Z = true := hw _ (List.mem_of_getElem? (i := 22) rfl)
theorem kw24 {Z : State} {a0 : Array Value} (hw : ∀ d ∈ tables_1, d.before a0 Z = true) : (Jvm.Cond.fieldLink "com/example/strata/strata/model/AbortedTransaction" (19 : Nat) "com/example/strata/strata/model/AbortedTransaction" "lastStableOffset" "J").before a0 Z = true := hw _ (List.mem_of_getElem? (i := 24) rfl)
theorem d_prog_26_method_1_0 : decode prog_26_method_1_code 0 = .ok (.aload_n 0, 1) := by decide +kernel
theorem d_prog_26_method_1_1 : decode prog_26_method_1_code 1 = .ok (.invokespecial 1, 3) := by decide +kernel
theorem d_prog_26_method_1_4 : decode prog_26_method_1_code 4 = .ok (.aload_n 0, 1) := by decide +kernel
theorem d_prog_26_method_1_5 : decode prog_26_method_1_code 5 = .ok (.lload_n 1, 1) := by decide +kernel
theorem d_prog_26_method_1_6 : decode prog_26_method_1_code 6 = .ok (.putfield 7, 3) := by decide +kernel
theorem d_prog_26_method_1_9 : decode prog_26_method_1_code 9 = .ok (.aload_n 0, 1) := by decide +kernel
theorem d_prog_26_method_1_10 : decode prog_26_method_1_code 10 = .ok (.lload_n 3, 1) := by decide +kernel
theorem d_prog_26_method_1_11 : decode prog_26_method_1_code 11 = .ok (.putfield 13, 3) := by decide +kernel
theorem d_prog_26_method_1_14 : decode prog_26_method_1_code 14 = .ok (.aload_n 0, 1) := by decide +kernel
theorem d_prog_26_method_1_15 : decode prog_26_method_1_code 15 = .ok (.lload 5, 2) := by decide +kernel
theorem d_prog_26_method_1_17 : decode prog_26_method_1_code 17 = .ok (.putfield 16, 3) := by decide +kernel
theorem d_prog_26_method_1_20 : decode prog_26_method_1_code 20 = .ok (.aload_n 0, 1) := by decide +kernel
theorem d_prog_26_method_1_21 : decode prog_26_method_1_code 21 = .ok (.lload 7, 2) := by decide +kernel
theorem d_prog_26_method_1_23 : decode prog_26_method_1_code 23 = .ok (.putfield 19, 3) := by decide +kernel
theorem pn3 : plainName "com/example/strata/strata/model/AbortedTransaction" = true := by first | (simp [plainName, overriddenIn]; done) | decide +kernel
theorem ef_ctor (m : MethodId) (thisctor : Addr) (yctor_1 : Int64) (yctor_2 : Int64) (yctor_3 : Int64) (yctor_4 : Int64) : entryFrame m #[(.ref thisctor), (.long yctor_1), (.long yctor_2), (.long yctor_3), (.long yctor_4)] 9 = mkF m 0 #[.val (.ref thisctor), .val (.long yctor_1), .second, .val (.long yctor_2), .second, .val (.long yctor_3), .second, .val (.long yctor_4), .second] [] := by first | (simp [entryFrame, mkF, argsToLocals, Value.category]; done) | rfl
def Q_ctor (Z : State) (thisctor : Addr) (yctor_1 : Int64) (yctor_2 : Int64) (yctor_3 : Int64) (yctor_4 : Int64) (h0 : Heap) (n0 : Nat) (v : Option Value) (h : Heap) (L : List Loc) : Prop := v = none ∧ Fr n0 L ∧ Keep h0 h [thisctor] ∧ Exa Z h thisctor "com/example/strata/strata/model/AbortedTransaction" ∧ Fld Z h thisctor "com/example/strata/strata/model/AbortedTransaction" "producerId" "J" (.long yctor_1) ∧ Fld Z h thisctor "com/example/strata/strata/model/AbortedTransaction" "firstOffset" "J" (.long yctor_2) ∧ Fld Z h thisctor "com/example/strata/strata/model/AbortedTransaction" "lastOffset" "J" (.long yctor_3) ∧ Fld Z h thisctor "com/example/strata/strata/model/AbortedTransaction" "lastStableOffset" "J" (.long yctor_4)
theorem d_prog_26_method_1_26 : decode prog_26_method_1_code 26 = .ok (.return_, 1) := by decide +kernel
abbrev mt3 : MethodName := ⟨"com/example/strata/strata/model/AbortedTransaction", "<init>", "(JJJJ)V"⟩
set_option maxRecDepth 65536 in
set_option maxHeartbeats 40000000 in
theorem rm_ctor (l : Launch) (Z : State) (a0 : Array Value) (hw : ∀ d ∈ tables_1, d.before a0 Z = true) (ws : List Jvm.Cond) (thisctor : Addr) (yctor_1 : Int64) (yctor_2 : Int64) (yctor_3 : Int64) (yctor_4 : Int64) (h0 : Heap) (n0 : Nat) (Z0 : n0 ≤ h0.size) (E_thisctor : Exa Z h0 thisctor "com/example/strata/strata/model/AbortedTransaction") (F_thisctor_producerId : Fld Z h0 thisctor "com/example/strata/strata/model/AbortedTransaction" "producerId" "J" (.long (0 : Int64))) (F_thisctor_firstOffset : Fld Z h0 thisctor "com/example/strata/strata/model/AbortedTransaction" "firstOffset" "J" (.long (0 : Int64))) (F_thisctor_lastOffset : Fld Z h0 thisctor "com/example/strata/strata/model/AbortedTransaction" "lastOffset" "J" (.long (0 : Int64))) (F_thisctor_lastStableOffset : Fld Z h0 thisctor "com/example/strata/strata/model/AbortedTransaction" "lastStableOffset" "J" (.long (0 : Int64))) (g_thisctor : n0 ≤ thisctor) :
    MetFree l mt3 (head1 (Jvm.Cond.code mt3 prog_26_method_1_code 9 none :: ws) ({ frames := 2, cells := 0, slots := 0, locals := 24 } : Room)) (fun a U => a = #[(.ref thisctor), (.long yctor_1), (.long yctor_2), (.long yctor_3), (.long yctor_4)] ∧ Z.Warmed39 U.vm ∧ U.heap = h0) (fun _ _ _ _ _ => True) (fun _ U o U' => ∃ v L, o = .returned v ∧ (Q_ctor Z thisctor yctor_1 yctor_2 yctor_3 yctor_4 h0 n0) v U'.heap L ∧ FrameEnd U o U' L ({ frames := 2, cells := 0, slots := 0, locals := 24 } : Room).cells ({ frames := 2, cells := 0, slots := 0, locals := 24 } : Room).slots) := by
  refine MetFree.of_bodySF (plainFor_of_name pn3) hisR ?_
  intro p e s m args below meth c s₁ Bd hml0 hP hK
  obtain ⟨rfl, hZ, hh⟩ := hP
  have hx := Bd.exec
  have hby := Bd.bytes
  have hml : c.maxLocals = 9 := hml0
  have hown : s.vm.findClass "com/example/strata/strata/model/AbortedTransaction" = some m.cls := findClass_of_methodNamed Bd.named
  have hnm := (name_of_methodNamed Bd.named Bd.method).1
  have X0 : Stand p l e ({ frames := 2, cells := 0, slots := 0, locals := 24 } : Room) s m #[(.ref thisctor), (.long yctor_1), (.long yctor_2), (.long yctor_3), (.long yctor_4)] below meth c s₁ [] 0 0 := Stand.of_body Bd
  have e0 : s₁.heap = h0 := by rw [← hh, Bd.state]; rfl
  have N0 := Fr.nil n0
  refine Wq.step (p := p) (e := e) (below := below) (En := (fun o t L => FrameEnd s o t L ({ frames := 2, cells := 0, slots := 0, locals := 24 } : Room).cells ({ frames := 2, cells := 0, slots := 0, locals := 24 } : Room).slots)) (Q := (Q_ctor Z thisctor yctor_1 yctor_2 yctor_3 yctor_4 h0 n0)) (fun t k => castTop (ef_ctor m thisctor yctor_1 yctor_2 yctor_3 yctor_4) k) ?_
  show Wq _ _ _ _ _ (s₁.setTop (mkF m 0 #[.val (.ref thisctor), .val (.long yctor_1), .second, .val (.long yctor_2), .second, .val (.long yctor_3), .second, .val (.long yctor_4), .second] []))
  refine W.aloadN X0 hx (pc' := 1) (hb hby d_prog_26_method_1_0) rfl rfl ?_
  obtain ⟨_, _, ⟨T2, L2, k2, n2⟩, -, X2, ⟨Lc2, hQ2, l2, y2, z2⟩, st2⟩ := X0.specialBack hx (y := mt2) rfl hown (mvT hZ (kw10 hw)) (mvT hZ (kw11 hw)) (mvT hZ (kw14 hw)) (by decide) (backOf (W := 0) (rm_rec l Z a0 hw [] thisctor h0 n0 Z0 ) hZ (kw14 hw) (kw13 hw) (by decide) (by decide)) (g := (mkF m 1 #[.val (.ref thisctor), .val (.long yctor_1), .second, .val (.long yctor_2), .second, .val (.long yctor_3), .second, .val (.long yctor_4), .second] [(.ref thisctor)])) rfl (by rw [hml]; rfl) (Steps.refl _) (a := thisctor) (argsL := []) (rest := []) (lenOf pd1 rfl) rfl (by show 2 * 0 + _ ≤ _; exact Nat.le_of_eq rfl) (hb hby d_prog_26_method_1_1) (fun _ _ => ⟨rfl, e0, (by decide : 0 + 0 ≤ _), (by decide : 0 + 0 ≤ _)⟩)
  dsimp only [Pt.U, Pt.locs, Pt.cells, Pt.slots] at X2 l2 y2 z2 st2 hQ2
  subst l2 y2 z2
  obtain ⟨rfl, Nq2, e2⟩ := hQ2
  have N2 := Fr.app N0 Nq2
  refine Wq.steps st2 ?_
  show Wq _ _ _ _ _ (T2.setTop (mkF m 4 #[.val (.ref thisctor), .val (.long yctor_1), .second, .val (.long yctor_2), .second, .val (.long yctor_3), .second, .val (.long yctor_4), .second] []))
  refine W.aloadN X2 hx (pc' := 5) (hb hby d_prog_26_method_1_4) rfl rfl ?_
  refine W.lloadN X2 hx (pc' := 6) (hb hby d_prog_26_method_1_5) rfl ?_
  obtain ⟨T3, h3, X3, e3, W3, st3⟩ := putF X2 hx hZ hown (host := "") (Or.inl (kw18 hw)) Via.refl e2 F_thisctor_producerId E_thisctor (Or.inr ⟨(kw19 hw), rfl, hnm⟩) (kw5 hw) (ty := .long) (by decide) (rfl) (rfl) (g := (mkF m 6 #[.val (.ref thisctor), .val (.long yctor_1), .second, .val (.long yctor_2), .second, .val (.long yctor_3), .second, .val (.long yctor_4), .second] [(.long yctor_1), (.ref thisctor)])) rfl rfl (hb hby d_prog_26_method_1_6)
  refine Wq.step st3 ?_
  have N3 := Fr.snoc X3 N2 g_thisctor
  have K3 : Keep h0 h3 [thisctor] := (Keep.refl h0 [thisctor]).wr W3 (Or.inl (List.mem_of_getElem? (i := 0) rfl))
  have Z3 : n0 ≤ h3.size := Nat.le_trans Z0 (Keep.of_wr W3).1
  have E_thisctor_t3 := E_thisctor.wr W3
  have F_thisctor_firstOffset_t3 := F_thisctor_firstOffset.other W3 (Or.inr (slot_ne (Or.inr (kw21 hw)) (Or.inr (kw19 hw)) (by decide) (t := .long) (t' := .long) (by decide) (by decide)))
  have F_thisctor_lastOffset_t3 := F_thisctor_lastOffset.other W3 (Or.inr (slot_ne (Or.inr (kw23 hw)) (Or.inr (kw19 hw)) (by decide) (t := .long) (t' := .long) (by decide) (by decide)))
  have F_thisctor_lastStableOffset_t3 := F_thisctor_lastStableOffset.other W3 (Or.inr (slot_ne (Or.inr (kw25 hw)) (Or.inr (kw19 hw)) (by decide) (t := .long) (t' := .long) (by decide) (by decide)))
  have F_thisctor_producerId_t3 : Fld Z h3 thisctor "com/example/strata/strata/model/AbortedTransaction" "producerId" "J" (.long yctor_1) := F_thisctor_producerId.same W3
  show Wq _ _ _ _ _ (T3.setTop (mkF m 9 #[.val (.ref thisctor), .val (.long yctor_1), .second, .val (.long yctor_2), .second, .val (.long yctor_3), .second, .val (.long yctor_4), .second] []))
  refine W.aloadN X3 hx (pc' := 10) (hb hby d_prog_26_method_1_9) rfl rfl ?_
  refine W.lloadN X3 hx (pc' := 11) (hb hby d_prog_26_method_1_10) rfl ?_
  obtain ⟨T4, h4, X4, e4, W4, st4⟩ := putF X3 hx hZ hown (host := "") (Or.inl (kw20 hw)) Via.refl e3 F_thisctor_firstOffset_t3 E_thisctor_t3 (Or.inr ⟨(kw21 hw), rfl, hnm⟩) (kw5 hw) (ty := .long) (by decide) (rfl) (rfl) (g := (mkF m 11 #[.val (.ref thisctor), .val (.long yctor_1), .second, .val (.long yctor_2), .second, .val (.long yctor_3), .second, .val (.long yctor_4), .second] [(.long yctor_2), (.ref thisctor)])) rfl rfl (hb hby d_prog_26_method_1_11)
  refine Wq.step st4 ?_
  have N4 := Fr.snoc X4 N3 g_thisctor
  have K4 : Keep h0 h4 [thisctor] := K3.wr W4 (Or.inl (List.mem_of_getElem? (i := 0) rfl))
  have Z4 : n0 ≤ h4.size := Nat.le_trans Z3 (Keep.of_wr W4).1
  have E_thisctor_t4 := E_thisctor_t3.wr W4
  have F_thisctor_lastOffset_t4 := F_thisctor_lastOffset_t3.other W4 (Or.inr (slot_ne (Or.inr (kw23 hw)) (Or.inr (kw21 hw)) (by decide) (t := .long) (t' := .long) (by decide) (by decide)))
  have F_thisctor_lastStableOffset_t4 := F_thisctor_lastStableOffset_t3.other W4 (Or.inr (slot_ne (Or.inr (kw25 hw)) (Or.inr (kw21 hw)) (by decide) (t := .long) (t' := .long) (by decide) (by decide)))
  have F_thisctor_producerId_t4 := F_thisctor_producerId_t3.other W4 (Or.inr (slot_ne (Or.inr (kw19 hw)) (Or.inr (kw21 hw)) (by decide) (t := .long) (t' := .long) (by decide) (by decide)))
  have F_thisctor_firstOffset_t4 : Fld Z h4 thisctor "com/example/strata/strata/model/AbortedTransaction" "firstOffset" "J" (.long yctor_2) := F_thisctor_firstOffset_t3.same W4
  show Wq _ _ _ _ _ (T4.setTop (mkF m 14 #[.val (.ref thisctor), .val (.long yctor_1), .second, .val (.long yctor_2), .second, .val (.long yctor_3), .second, .val (.long yctor_4), .second] []))
  refine W.aloadN X4 hx (pc' := 15) (hb hby d_prog_26_method_1_14) rfl rfl ?_
  refine W.lload X4 hx (pc' := 17) (hb hby d_prog_26_method_1_15) rfl ?_
  obtain ⟨T5, h5, X5, e5, W5, st5⟩ := putF X4 hx hZ hown (host := "") (Or.inl (kw22 hw)) Via.refl e4 F_thisctor_lastOffset_t4 E_thisctor_t4 (Or.inr ⟨(kw23 hw), rfl, hnm⟩) (kw5 hw) (ty := .long) (by decide) (rfl) (rfl) (g := (mkF m 17 #[.val (.ref thisctor), .val (.long yctor_1), .second, .val (.long yctor_2), .second, .val (.long yctor_3), .second, .val (.long yctor_4), .second] [(.long yctor_3), (.ref thisctor)])) rfl rfl (hb hby d_prog_26_method_1_17)
  refine Wq.step st5 ?_
  have N5 := Fr.snoc X5 N4 g_thisctor
  have K5 : Keep h0 h5 [thisctor] := K4.wr W5 (Or.inl (List.mem_of_getElem? (i := 0) rfl))
  have Z5 : n0 ≤ h5.size := Nat.le_trans Z4 (Keep.of_wr W5).1
  have E_thisctor_t5 := E_thisctor_t4.wr W5
  have F_thisctor_lastStableOffset_t5 := F_thisctor_lastStableOffset_t4.other W5 (Or.inr (slot_ne (Or.inr (kw25 hw)) (Or.inr (kw23 hw)) (by decide) (t := .long) (t' := .long) (by decide) (by decide)))
  have F_thisctor_producerId_t5 := F_thisctor_producerId_t4.other W5 (Or.inr (slot_ne (Or.inr (kw19 hw)) (Or.inr (kw23 hw)) (by decide) (t := .long) (t' := .long) (by decide) (by decide)))
  have F_thisctor_firstOffset_t5 := F_thisctor_firstOffset_t4.other W5 (Or.inr (slot_ne (Or.inr (kw21 hw)) (Or.inr (kw23 hw)) (by decide) (t := .long) (t' := .long) (by decide) (by decide)))
  have F_thisctor_lastOffset_t5 : Fld Z h5 thisctor "com/example/strata/strata/model/AbortedTransaction" "lastOffset" "J" (.long yctor_3) := F_thisctor_lastOffset_t4.same W5
  show Wq _ _ _ _ _ (T5.setTop (mkF m 20 #[.val (.ref thisctor), .val (.long yctor_1), .second, .val (.long yctor_2), .second, .val (.long yctor_3), .second, .val (.long yctor_4), .second] []))
  refine W.aloadN X5 hx (pc' := 21) (hb hby d_prog_26_method_1_20) rfl rfl ?_
  refine W.lload X5 hx (pc' := 23) (hb hby d_prog_26_method_1_21) rfl ?_
  obtain ⟨T6, h6, X6, e6, W6, st6⟩ := putF X5 hx hZ hown (host := "") (Or.inl (kw24 hw)) Via.refl e5 F_thisctor_lastStableOffset_t5 E_thisctor_t5 (Or.inr ⟨(kw25 hw), rfl, hnm⟩) (kw5 hw) (ty := .long) (by decide) (rfl) (rfl) (g := (mkF m 23 #[.val (.ref thisctor), .val (.long yctor_1), .second, .val (.long yctor_2), .second, .val (.long yctor_3), .second, .val (.long yctor_4), .second] [(.long yctor_4), (.ref thisctor)])) rfl rfl (hb hby d_prog_26_method_1_23)
  refine Wq.step st6 ?_
  have N6 := Fr.snoc X6 N5 g_thisctor
  have K6 : Keep h0 h6 [thisctor] := K5.wr W6 (Or.inl (List.mem_of_getElem? (i := 0) rfl))
  have Z6 : n0 ≤ h6.size := Nat.le_trans Z5 (Keep.of_wr W6).1
  have E_thisctor_t6 := E_thisctor_t5.wr W6
  have F_thisctor_producerId_t6 := F_thisctor_producerId_t5.other W6 (Or.inr (slot_ne (Or.inr (kw19 hw)) (Or.inr (kw25 hw)) (by decide) (t := .long) (t' := .long) (by decide) (by decide)))
  have F_thisctor_firstOffset_t6 := F_thisctor_firstOffset_t5.other W6 (Or.inr (slot_ne (Or.inr (kw21 hw)) (Or.inr (kw25 hw)) (by decide) (t := .long) (t' := .long) (by decide) (by decide)))
  have F_thisctor_lastOffset_t6 := F_thisctor_lastOffset_t5.other W6 (Or.inr (slot_ne (Or.inr (kw23 hw)) (Or.inr (kw25 hw)) (by decide) (t := .long) (t' := .long) (by decide) (by decide)))
  have F_thisctor_lastStableOffset_t6 : Fld Z h6 thisctor "com/example/strata/strata/model/AbortedTransaction" "lastStableOffset" "J" (.long yctor_4) := F_thisctor_lastStableOffset_t5.same W6
  show Wq _ _ _ _ _ (T6.setTop (mkF m 26 #[.val (.ref thisctor), .val (.long yctor_1), .second, .val (.long yctor_2), .second, .val (.long yctor_3), .second, .val (.long yctor_4), .second] []))
  exact Wq.ret X6 (BodyLoose.notSynchronized Bd) (rv := none) (fun _ => rfl) (fun _ hr => X6.returnOut hx Bd.returns (hb hby d_prog_26_method_1_26) hr) (by decide) (by decide) (by rw [e6]; exact ⟨rfl, N6, K6, E_thisctor_t6, F_thisctor_producerId_t6, F_thisctor_firstOffset_t6, F_thisctor_lastOffset_t6, F_thisctor_lastStableOffset_t6⟩)
theorem d_prog_26_method_2_0 : decode prog_26_method_2_code 0 = .ok (.aload_n 0, 1) := by decide +kernel
theorem d_prog_26_method_2_1 : decode prog_26_method_2_code 1 = .ok (.getfield 13, 3) := by decide +kernel
theorem d_prog_26_method_2_4 : decode prog_26_method_2_code 4 = .ok (.lload_n 1, 1) := by decide +kernel
theorem d_prog_26_method_2_5 : decode prog_26_method_2_code 5 = .ok (.lcmp, 1) := by decide +kernel
theorem d_prog_26_method_2_6 : decode prog_26_method_2_code 6 = .ok (.ifCond .gt 16, 3) := by decide +kernel
theorem d_prog_26_method_2_9 : decode prog_26_method_2_code 9 = .ok (.lload_n 1, 1) := by decide +kernel
theorem d_prog_26_method_2_10 : decode prog_26_method_2_code 10 = .ok (.aload_n 0, 1) := by decide +kernel
theorem d_prog_26_method_2_11 : decode prog_26_method_2_code 11 = .ok (.getfield 16, 3) := by decide +kernel
theorem d_prog_26_method_2_14 : decode prog_26_method_2_code 14 = .ok (.lcmp, 1) := by decide +kernel
theorem d_prog_26_method_2_15 : decode prog_26_method_2_code 15 = .ok (.ifCond .ge 7, 3) := by decide +kernel
theorem d_prog_26_method_2_18 : decode prog_26_method_2_code 18 = .ok (.iconst 1, 1) := by decide +kernel
theorem d_prog_26_method_2_19 : decode prog_26_method_2_code 19 = .ok (.goto 4, 3) := by decide +kernel
theorem d_prog_26_method_2_22 : decode prog_26_method_2_code 22 = .ok (.iconst 0, 1) := by decide +kernel
theorem ef_spans (m : MethodId) (thisspans : Addr) (yspans_1 : Int64) : entryFrame m #[(.ref thisspans), (.long yspans_1)] 3 = mkF m 0 #[.val (.ref thisspans), .val (.long yspans_1), .second] [] := by first | (simp [entryFrame, mkF, argsToLocals, Value.category]; done) | rfl
def f_spans (yspans_1 : Int64) (wspans_firstOffset : Int64) (wspans_lastOffset : Int64) : Int32 := (if yspans_1 < wspans_firstOffset then (0 : Int32) else ((if yspans_1 < wspans_lastOffset then (1 : Int32) else (0 : Int32)) &&& 1))
def Q_spans (Z : State) (thisspans : Addr) (yspans_1 : Int64) (wspans_firstOffset : Int64) (wspans_lastOffset : Int64) (h0 : Heap) (n0 : Nat) (v : Option Value) (h : Heap) (L : List Loc) : Prop := v = some (.int (f_spans yspans_1 wspans_firstOffset wspans_lastOffset)) ∧ Fr n0 L ∧ h = h0
theorem d_prog_26_method_2_23 : decode prog_26_method_2_code 23 = .ok (.ireturn, 1) := by decide +kernel
abbrev mt4 : MethodName := ⟨"com/example/strata/strata/model/AbortedTransaction", "spans", "(J)Z"⟩
set_option maxRecDepth 65536 in
set_option maxHeartbeats 40000000 in
theorem rm_spans (l : Launch) (Z : State) (a0 : Array Value) (hw : ∀ d ∈ tables_1, d.before a0 Z = true) (ws : List Jvm.Cond) (thisspans : Addr) (yspans_1 : Int64) (wspans_firstOffset : Int64) (wspans_lastOffset : Int64) (h0 : Heap) (n0 : Nat) (Z0 : n0 ≤ h0.size) (F_thisspans_firstOffset : Fld Z h0 thisspans "com/example/strata/strata/model/AbortedTransaction" "firstOffset" "J" (.long wspans_firstOffset)) (F_thisspans_lastOffset : Fld Z h0 thisspans "com/example/strata/strata/model/AbortedTransaction" "lastOffset" "J" (.long wspans_lastOffset)) :
    MetFree l mt4 (head1 (Jvm.Cond.code mt4 prog_26_method_2_code 3 (some .boolean) :: ws) ({ frames := 0, cells := 0, slots := 0, locals := 0 } : Room)) (fun a U => a = #[(.ref thisspans), (.long yspans_1)] ∧ Z.Warmed39 U.vm ∧ U.heap = h0) (fun _ _ _ _ _ => True) (fun _ U o U' => ∃ v L, o = .returned v ∧ (Q_spans Z thisspans yspans_1 wspans_firstOffset wspans_lastOffset h0 n0) v U'.heap L ∧ FrameEnd U o U' L ({ frames := 0, cells := 0, slots := 0, locals := 0 } : Room).cells ({ frames := 0, cells := 0, slots := 0, locals := 0 } : Room).slots) := by
  refine MetFree.of_bodySF (plainFor_of_name pn3) hisR ?_
  intro p e s m args below meth c s₁ Bd hml0 hP hK
  obtain ⟨rfl, hZ, hh⟩ := hP
  have hx := Bd.exec
  have hby := Bd.bytes
  have hml : c.maxLocals = 3 := hml0
  have hown : s.vm.findClass "com/example/strata/strata/model/AbortedTransaction" = some m.cls := findClass_of_methodNamed Bd.named
  have hnm := (name_of_methodNamed Bd.named Bd.method).1
  have X0 : Stand p l e ({ frames := 0, cells := 0, slots := 0, locals := 0 } : Room) s m #[(.ref thisspans), (.long yspans_1)] below meth c s₁ [] 0 0 := Stand.of_body Bd
  have e0 : s₁.heap = h0 := by rw [← hh, Bd.state]; rfl
  have N0 := Fr.nil n0
  refine Wq.step (p := p) (e := e) (below := below) (En := (fun o t L => FrameEnd s o t L ({ frames := 0, cells := 0, slots := 0, locals := 0 } : Room).cells ({ frames := 0, cells := 0, slots := 0, locals := 0 } : Room).slots)) (Q := (Q_spans Z thisspans yspans_1 wspans_firstOffset wspans_lastOffset h0 n0)) (fun t k => castTop (ef_spans m thisspans yspans_1) k) ?_
  show Wq _ _ _ _ _ (s₁.setTop (mkF m 0 #[.val (.ref thisspans), .val (.long yspans_1), .second] []))
  refine W.aloadN X0 hx (pc' := 1) (hb hby d_prog_26_method_2_0) rfl rfl ?_
  obtain ⟨T7, X7, e7, st7⟩ := getF X0 hx hZ hown (host := "") (Or.inl (kw20 hw)) Via.refl e0 F_thisspans_firstOffset (g := (mkF m 1 #[.val (.ref thisspans), .val (.long yspans_1), .second] [(.ref thisspans)])) rfl rfl (hb hby d_prog_26_method_2_1)
  refine Wq.step st7 ?_
  show Wq _ _ _ _ _ (T7.setTop (mkF m 4 #[.val (.ref thisspans), .val (.long yspans_1), .second] [(.long wspans_firstOffset)]))
  refine W.lloadN X7 hx (pc' := 5) (hb hby d_prog_26_method_2_4) rfl ?_
  refine W.lcmp X7 hx (pc' := 6) (hb hby d_prog_26_method_2_5)  ?_
  by_cases hc6 : yspans_1 < wspans_firstOffset
  · skip
    refine W.ifYes X7 hx (pc' := 22) (hb hby d_prog_26_method_2_6) ((if0 _ _).trans (tlt ((lw_gt _ _).mpr hc6)).2.2.1) (by decide) (by decide) ?_
    refine W.iconst X7 hx (pc' := 23) (hb hby d_prog_26_method_2_22) (z := (0 : Int32)) rfl ?_
    exact Wq.ret X7 (BodyLoose.notSynchronized Bd) (rv := some (.int (0 : Int32))) (fun h => by rw [Bd.returns] at h; cases h) (fun _ hr => retN X7 hx (t := .boolean) Bd.returns (by simp) (hb hby d_prog_26_method_2_23) hr) (by decide) (by decide) ⟨by simp only [f_spans, if_pos hc6], N0, e7⟩
  · skip
    refine W.ifNo X7 hx (pc' := 9) (hb hby d_prog_26_method_2_6) ((if0 _ _).trans (flt (mt (lw_gt _ _).mp hc6)).2.2.1) ?_
    refine W.lloadN X7 hx (pc' := 10) (hb hby d_prog_26_method_2_9) rfl ?_
    refine W.aloadN X7 hx (pc' := 11) (hb hby d_prog_26_method_2_10) rfl rfl ?_
    obtain ⟨T8, X8, e8, st8⟩ := getF X7 hx hZ hown (host := "") (Or.inl (kw22 hw)) Via.refl e7 F_thisspans_lastOffset (g := (mkF m 11 #[.val (.ref thisspans), .val (.long yspans_1), .second] [(.ref thisspans), (.long yspans_1)])) rfl rfl (hb hby d_prog_26_method_2_11)
    refine Wq.step st8 ?_
    show Wq _ _ _ _ _ (T8.setTop (mkF m 14 #[.val (.ref thisspans), .val (.long yspans_1), .second] [(.long wspans_lastOffset), (.long yspans_1)]))
    refine W.lcmp X8 hx (pc' := 15) (hb hby d_prog_26_method_2_14)  ?_
    refine Wq.by (U' := T8.setTop (mkF m 23 #[.val (.ref thisspans), .val (.long yspans_1), .second] [(.int (if yspans_1 < wspans_lastOffset then (1 : Int32) else (0 : Int32)))])) (fun k => ?_) ?_
    · skip
      by_cases hm15 : yspans_1 < wspans_lastOffset
      · skip
        refine W.ifNo X8 hx (pc' := 18) (hb hby d_prog_26_method_2_15) ((if0 _ _).trans (tlt ((lw_lt _ _).mpr hm15)).2.1) ?_
        refine W.iconst X8 hx (pc' := 19) (hb hby d_prog_26_method_2_18) (z := (1 : Int32)) rfl ?_
        refine W.goto X8 hx (pc' := 23) (hb hby d_prog_26_method_2_19) (by decide) (by decide) ?_
        simp only [if_pos hm15] at k
        exact k
      · skip
        refine W.ifYes X8 hx (pc' := 22) (hb hby d_prog_26_method_2_15) ((if0 _ _).trans (flt (mt (lw_lt _ _).mp hm15)).2.1) (by decide) (by decide) ?_
        refine W.iconst X8 hx (pc' := 23) (hb hby d_prog_26_method_2_22) (z := (0 : Int32)) rfl ?_
        simp only [if_neg hm15] at k
        exact k
    exact Wq.ret X8 (BodyLoose.notSynchronized Bd) (rv := some (.int ((if yspans_1 < wspans_lastOffset then (1 : Int32) else (0 : Int32)) &&& 1))) (fun h => by rw [Bd.returns] at h; cases h) (fun _ hr => retN X8 hx (t := .boolean) Bd.returns (by simp) (hb hby d_prog_26_method_2_23) hr) (by decide) (by decide) ⟨by simp only [f_spans, if_neg hc6], N0, e8⟩

theorem kw3 {Z : State} {a0 : Array Value} (hw : ∀ d ∈ tables_1, d.before a0 Z = true) : (Jvm.Cond.code ({ cls := "com/example/strata/strata/model/AbortedTransactionSpansPinLaw", name := "pickOffset", desc := "(JJJI)J" } : Jvm.MethodName) method_2_code (8 : Nat) (Option.some Jvm.ClassFile.FieldType.long)).before a0 Z = true := hw _ (List.mem_of_getElem? (i := 3) rfl)
theorem kw2 {Z : State} {a0 : Array Value} (hw : ∀ d ∈ tables_1, d.before a0 Z = true) : (Jvm.Cond.initialized "com/example/strata/strata/model/AbortedTransactionSpansPinLaw").before a0 Z = true := hw _ (List.mem_of_getElem? (i := 2) rfl)
theorem pd2 : parseMethodDescriptor "(JJJI)J" = some ⟨[.long, .long, .long, .int], some .long⟩ := by decide +kernel
theorem kw0 {Z : State} {a0 : Array Value} (hw : ∀ d ∈ tables_1, d.before a0 Z = true) : (Jvm.Cond.methodLink "com/example/strata/strata/model/AbortedTransactionSpansPinLaw" (7 : Nat) ({ cls := "com/example/strata/strata/model/AbortedTransactionSpansPinLaw", name := "pickOffset", desc := "(JJJI)J" } : Jvm.MethodName)).before a0 Z = true := hw _ (List.mem_of_getElem? (i := 0) rfl)
theorem kw1 {Z : State} {a0 : Array Value} (hw : ∀ d ∈ tables_1, d.before a0 Z = true) : (Jvm.Cond.static ({ cls := "com/example/strata/strata/model/AbortedTransactionSpansPinLaw", name := "pickOffset", desc := "(JJJI)J" } : Jvm.MethodName)).before a0 Z = true := hw _ (List.mem_of_getElem? (i := 1) rfl)
theorem kw4 {Z : State} {a0 : Array Value} (hw : ∀ d ∈ tables_1, d.before a0 Z = true) : (Jvm.Cond.classLink "com/example/strata/strata/model/AbortedTransactionSpansPinLaw" (13 : Nat) "com/example/strata/strata/model/AbortedTransaction").before a0 Z = true := hw _ (List.mem_of_getElem? (i := 4) rfl)
theorem kw6 {Z : State} {a0 : Array Value} (hw : ∀ d ∈ tables_1, d.before a0 Z = true) : (Jvm.Cond.initialized "com/example/strata/strata/model/AbortedTransaction").before a0 Z = true := hw _ (List.mem_of_getElem? (i := 6) rfl)
theorem kw9 {Z : State} {a0 : Array Value} (hw : ∀ d ∈ tables_1, d.before a0 Z = true) : (Jvm.Cond.code ({ cls := "com/example/strata/strata/model/AbortedTransaction", name := "<init>", desc := "(JJJJ)V" } : Jvm.MethodName) prog_26_method_1_code (9 : Nat) (Option.none : Option Jvm.ClassFile.FieldType)).before a0 Z = true := hw _ (List.mem_of_getElem? (i := 9) rfl)
theorem pd3 : parseMethodDescriptor "(JJJJ)V" = some ⟨[.long, .long, .long, .long], none⟩ := by decide +kernel
theorem kw7 {Z : State} {a0 : Array Value} (hw : ∀ d ∈ tables_1, d.before a0 Z = true) : (Jvm.Cond.methodLink "com/example/strata/strata/model/AbortedTransactionSpansPinLaw" (15 : Nat) ({ cls := "com/example/strata/strata/model/AbortedTransaction", name := "<init>", desc := "(JJJJ)V" } : Jvm.MethodName)).before a0 Z = true := hw _ (List.mem_of_getElem? (i := 7) rfl)
theorem kw8 {Z : State} {a0 : Array Value} (hw : ∀ d ∈ tables_1, d.before a0 Z = true) : (Jvm.Cond.instanceMethod ({ cls := "com/example/strata/strata/model/AbortedTransaction", name := "<init>", desc := "(JJJJ)V" } : Jvm.MethodName)).before a0 Z = true := hw _ (List.mem_of_getElem? (i := 8) rfl)
theorem kw26 {Z : State} {a0 : Array Value} (hw : ∀ d ∈ tables_1, d.before a0 Z = true) : (Jvm.Cond.constantLong "com/example/strata/strata/model/AbortedTransactionSpansPinLaw" (18 : Nat) (-1 : Int64)).before a0 Z = true := hw _ (List.mem_of_getElem? (i := 26) rfl)
theorem kw31 {Z : State} {a0 : Array Value} (hw : ∀ d ∈ tables_1, d.before a0 Z = true) : (Jvm.Cond.code ({ cls := "com/example/strata/strata/model/AbortedTransaction", name := "spans", desc := "(J)Z" } : Jvm.MethodName) prog_26_method_2_code (3 : Nat) (Option.some Jvm.ClassFile.FieldType.boolean)).before a0 Z = true := hw _ (List.mem_of_getElem? (i := 31) rfl)
theorem pd4 : parseMethodDescriptor "(J)Z" = some ⟨[.long], some .boolean⟩ := by decide +kernel
theorem kw27 {Z : State} {a0 : Array Value} (hw : ∀ d ∈ tables_1, d.before a0 Z = true) : (Jvm.Cond.methodLink "com/example/strata/strata/model/AbortedTransactionSpansPinLaw" (20 : Nat) ({ cls := "com/example/strata/strata/model/AbortedTransaction", name := "spans", desc := "(J)Z" } : Jvm.MethodName)).before a0 Z = true := hw _ (List.mem_of_getElem? (i := 27) rfl)
theorem kw28 {Z : State} {a0 : Array Value} (hw : ∀ d ∈ tables_1, d.before a0 Z = true) : (Jvm.Cond.declares ({ cls := "com/example/strata/strata/model/AbortedTransaction", name := "spans", desc := "(J)Z" } : Jvm.MethodName)).before a0 Z = true := hw _ (List.mem_of_getElem? (i := 28) rfl)
theorem kw30 {Z : State} {a0 : Array Value} (hw : ∀ d ∈ tables_1, d.before a0 Z = true) : (Jvm.Cond.selects "com/example/strata/strata/model/AbortedTransaction" ({ cls := "com/example/strata/strata/model/AbortedTransaction", name := "spans", desc := "(J)Z" } : Jvm.MethodName) ({ cls := "com/example/strata/strata/model/AbortedTransaction", name := "spans", desc := "(J)Z" } : Jvm.MethodName)).before a0 Z = true := hw _ (List.mem_of_getElem? (i := 30) rfl)
theorem kw29 {Z : State} {a0 : Array Value} (hw : ∀ d ∈ tables_1, d.before a0 Z = true) : (Jvm.Cond.instanceMethod ({ cls := "com/example/strata/strata/model/AbortedTransaction", name := "spans", desc := "(J)Z" } : Jvm.MethodName)).before a0 Z = true := hw _ (List.mem_of_getElem? (i := 29) rfl)
theorem own_math (o f l : Int64) : f_spans o f l = (if (if o < f then (0 : Int32) else (1 : Int32)) = (0 : Int32) then (0 : Int32) else (if (if o < l then (1 : Int32) else (0 : Int32)) = (0 : Int32) then (0 : Int32) else (1 : Int32))) := by
  unfold f_spans
  by_cases q1 : o < f <;> by_cases q2 : o < l <;> simp [q1, q2]
theorem ef_law (m : MethodId) (ylaw_1 : Int64) (ylaw_2 : Int64) (ylaw_3 : Int64) (ylaw_4 : Int64) (ylaw_5 : Int64) (xlaw_6 : Int32) : entryFrame m #[(.long ylaw_1), (.long ylaw_2), (.long ylaw_3), (.long ylaw_4), (.long ylaw_5), (.int xlaw_6)] maxLocals = mkF m 0 #[.val (.long ylaw_1), .second, .val (.long ylaw_2), .second, .val (.long ylaw_3), .second, .val (.long ylaw_4), .second, .val (.long ylaw_5), .second, .val (.int xlaw_6), .unset, .unset, .unset, .unset, .unset, .unset, .unset, .unset, .unset] [] := by first | (simp [entryFrame, mkF, argsToLocals, Value.category, maxLocals]; done) | rfl
def Q_law (n0 : Nat) (v : Option Value) (h : Heap) (L : List Loc) : Prop := v = some (.int 1) ∧ Fr n0 L
set_option maxRecDepth 65536 in
set_option maxHeartbeats 40000000 in
theorem rm_law (l : Launch) (Z : State) (a0 : Array Value) (hw : ∀ d ∈ tables_1, d.before a0 Z = true) (ws : List Jvm.Cond) (ylaw_1 : Int64) (ylaw_2 : Int64) (ylaw_3 : Int64) (ylaw_4 : Int64) (ylaw_5 : Int64) (xlaw_6 : Int32) (h0 : Heap) (n0 : Nat) (Z0 : n0 ≤ h0.size)  :
    MetFree l x (head1 (Jvm.Cond.code x code maxLocals ret :: ws) room_1) (fun a U => a = #[(.long ylaw_1), (.long ylaw_2), (.long ylaw_3), (.long ylaw_4), (.long ylaw_5), (.int xlaw_6)] ∧ Z.Warmed39 U.vm ∧ U.heap = h0) (fun _ _ _ _ _ => True) (fun _ U o U' => ∃ v L, o = .returned v ∧ (Q_law n0) v U'.heap L ∧ FrameEnd U o U' L 16 128) := by
  refine MetFree.of_bodySF (plainFor_of_name pn1) hisR ?_
  intro p e s m args below meth c s₁ Bd hml0 hP hK
  obtain ⟨rfl, hZ, hh⟩ := hP
  have hx := Bd.exec
  have hby := Bd.bytes
  have hml : c.maxLocals = 20 := hml0
  have hown : s.vm.findClass "com/example/strata/strata/model/AbortedTransactionSpansPinLaw" = some m.cls := findClass_of_methodNamed Bd.named
  have hnm := (name_of_methodNamed Bd.named Bd.method).1
  have X0 : Stand p l e room_1 s m #[(.long ylaw_1), (.long ylaw_2), (.long ylaw_3), (.long ylaw_4), (.long ylaw_5), (.int xlaw_6)] below meth c s₁ [] 0 0 := Stand.of_body Bd
  have e0 : s₁.heap = h0 := by rw [← hh, Bd.state]; rfl
  have N0 := Fr.nil n0
  refine Wq.step (p := p) (e := e) (below := below) (En := (fun o t L => FrameEnd s o t L 16 128)) (Q := (Q_law n0)) (fun t k => castTop (ef_law m ylaw_1 ylaw_2 ylaw_3 ylaw_4 ylaw_5 xlaw_6) k) ?_
  show Wq _ _ _ _ _ (s₁.setTop (mkF m 0 #[.val (.long ylaw_1), .second, .val (.long ylaw_2), .second, .val (.long ylaw_3), .second, .val (.long ylaw_4), .second, .val (.long ylaw_5), .second, .val (.int xlaw_6), .unset, .unset, .unset, .unset, .unset, .unset, .unset, .unset, .unset] []))
  refine W.lload X0 hx (pc' := 2) (hb hby at_0) rfl ?_
  refine W.lloadN X0 hx (pc' := 3) (hb hby at_2) rfl ?_
  refine W.lload X0 hx (pc' := 5) (hb hby at_3) rfl ?_
  refine W.iload X0 hx (pc' := 7) (hb hby at_5) rfl ?_
  obtain ⟨_, _, ⟨T9, L9, k9, n9⟩, -, X9, ⟨Lc9, hQ9, l9, y9, z9⟩, st9⟩ := Jvm.LawKit.callS X0 hx (y := mt1) hown (mvT hZ (kw0 hw)) (mvT hZ (kw1 hw)) (mvT hZ (kw2 hw)) (mvT hZ (kw3 hw)) (by decide) (backOf (W := 0) (rm_pick l Z a0 hw [] ylaw_5 ylaw_2 ylaw_3 xlaw_6 h0 n0 Z0 ) hZ (kw3 hw) (kw2 hw) (by decide) (by decide)) (g := (mkF m 7 #[.val (.long ylaw_1), .second, .val (.long ylaw_2), .second, .val (.long ylaw_3), .second, .val (.long ylaw_4), .second, .val (.long ylaw_5), .second, .val (.int xlaw_6), .unset, .unset, .unset, .unset, .unset, .unset, .unset, .unset, .unset] [(.int xlaw_6), (.long ylaw_3), (.long ylaw_2), (.long ylaw_5)])) rfl (by rw [hml]; rfl) (argsL := [(.long ylaw_5), (.long ylaw_2), (.long ylaw_3), (.int xlaw_6)]) (rest := []) (lenOf pd2 rfl) rfl (by show 2 * 0 + _ ≤ _; exact Nat.le_of_eq rfl) (hb hby at_7) (fun _ _ => ⟨rfl, e0, (by decide : 0 + 0 ≤ _), (by decide : 0 + 0 ≤ _)⟩)
  dsimp only [Pt.U, Pt.locs, Pt.cells, Pt.slots] at X9 l9 y9 z9 st9 hQ9
  subst l9 y9 z9
  obtain ⟨rfl, Nq9, e9⟩ := hQ9
  have N9 := Fr.app N0 Nq9
  refine Wq.step st9 ?_
  show Wq _ _ _ _ _ (T9.setTop (mkF m 10 #[.val (.long ylaw_1), .second, .val (.long ylaw_2), .second, .val (.long ylaw_3), .second, .val (.long ylaw_4), .second, .val (.long ylaw_5), .second, .val (.int xlaw_6), .unset, .unset, .unset, .unset, .unset, .unset, .unset, .unset, .unset] [(.long (f_pick ylaw_5 ylaw_2 ylaw_3 xlaw_6))]))
  generalize hv7 : (f_pick ylaw_5 ylaw_2 ylaw_3 xlaw_6) = v7
  show Wq _ _ _ _ _ (T9.setTop (mkF m 10 #[.val (.long ylaw_1), .second, .val (.long ylaw_2), .second, .val (.long ylaw_3), .second, .val (.long ylaw_4), .second, .val (.long ylaw_5), .second, .val (.int xlaw_6), .unset, .unset, .unset, .unset, .unset, .unset, .unset, .unset, .unset] [(.long v7)]))
  refine W.lstore X9 hx (pc' := 12) (hb hby at_10) (l' := #[.val (.long ylaw_1), .second, .val (.long ylaw_2), .second, .val (.long ylaw_3), .second, .val (.long ylaw_4), .second, .val (.long ylaw_5), .second, .val (.int xlaw_6), .val (.long v7), .second, .unset, .unset, .unset, .unset, .unset, .unset, .unset]) rfl ?_
  obtain ⟨T10, h10, X10, e10, E10, A10, D10, -, st10⟩ := newO X9 hx hZ hown (kw4 hw) (kw5 hw) (kw6 hw) e9 (g := (mkF m 12 #[.val (.long ylaw_1), .second, .val (.long ylaw_2), .second, .val (.long ylaw_3), .second, .val (.long ylaw_4), .second, .val (.long ylaw_5), .second, .val (.int xlaw_6), .val (.long v7), .second, .unset, .unset, .unset, .unset, .unset, .unset, .unset] [])) rfl (hb hby at_12) (by decide) (by decide)
  obtain ⟨o10, gz10⟩ : ∃ z, z = h0.size := ⟨_, rfl⟩
  rw [← gz10] at A10 D10 st10
  have g_o10 : n0 ≤ o10 := Nat.le_trans Z0 (Nat.le_of_eq gz10.symm)
  have sz_o10 : h0.size ≤ o10 := Nat.le_of_eq gz10.symm
  have K10 : Keep h0 h10 [] := (Keep.refl h0 []).ext E10
  have Z10 : n0 ≤ h10.size := Nat.le_trans Z0 E10.1
  refine Wq.step st10 ?_
  have F_o10_producerId : Fld Z h10 o10 "com/example/strata/strata/model/AbortedTransaction" "producerId" "J" (.long (0 : Int64)) := D10 (Or.inr (kw19 hw)) (ty := .long) (by decide)
  have F_o10_firstOffset : Fld Z h10 o10 "com/example/strata/strata/model/AbortedTransaction" "firstOffset" "J" (.long (0 : Int64)) := D10 (Or.inr (kw21 hw)) (ty := .long) (by decide)
  have F_o10_lastOffset : Fld Z h10 o10 "com/example/strata/strata/model/AbortedTransaction" "lastOffset" "J" (.long (0 : Int64)) := D10 (Or.inr (kw23 hw)) (ty := .long) (by decide)
  have F_o10_lastStableOffset : Fld Z h10 o10 "com/example/strata/strata/model/AbortedTransaction" "lastStableOffset" "J" (.long (0 : Int64)) := D10 (Or.inr (kw25 hw)) (ty := .long) (by decide)
  show Wq _ _ _ _ _ (T10.setTop (mkF m 15 #[.val (.long ylaw_1), .second, .val (.long ylaw_2), .second, .val (.long ylaw_3), .second, .val (.long ylaw_4), .second, .val (.long ylaw_5), .second, .val (.int xlaw_6), .val (.long v7), .second, .unset, .unset, .unset, .unset, .unset, .unset, .unset] [(.ref o10)]))
  refine W.dup X10 hx (pc' := 16) (hb hby at_15) rfl ?_
  refine W.lloadN X10 hx (pc' := 17) (hb hby at_16) rfl ?_
  refine W.lloadN X10 hx (pc' := 18) (hb hby at_17) rfl ?_
  refine W.lload X10 hx (pc' := 20) (hb hby at_18) rfl ?_
  refine W.lload X10 hx (pc' := 22) (hb hby at_20) rfl ?_
  obtain ⟨_, _, ⟨T11, L11, k11, n11⟩, -, X11, ⟨Lc11, hQ11, l11, y11, z11⟩, st11⟩ := X10.specialBack hx (y := mt3) rfl hown (mvT hZ (kw7 hw)) (mvT hZ (kw8 hw)) (mvT hZ (kw9 hw)) (by decide) (backOf (W := 1) (rm_ctor l Z a0 hw [] o10 ylaw_1 ylaw_2 ylaw_3 ylaw_4 h10 n0 Z10 A10 F_o10_producerId F_o10_firstOffset F_o10_lastOffset F_o10_lastStableOffset g_o10) hZ (kw9 hw) (kw6 hw) (by decide) (by decide)) (g := (mkF m 22 #[.val (.long ylaw_1), .second, .val (.long ylaw_2), .second, .val (.long ylaw_3), .second, .val (.long ylaw_4), .second, .val (.long ylaw_5), .second, .val (.int xlaw_6), .val (.long v7), .second, .unset, .unset, .unset, .unset, .unset, .unset, .unset] [(.long ylaw_4), (.long ylaw_3), (.long ylaw_2), (.long ylaw_1), (.ref o10), (.ref o10)])) rfl (by rw [hml]; rfl) (Steps.refl _) (a := o10) (argsL := [(.long ylaw_1), (.long ylaw_2), (.long ylaw_3), (.long ylaw_4)]) (rest := [(.ref o10)]) (lenOf pd3 rfl) rfl (by show 2 * 0 + _ ≤ _; exact Nat.le_of_eq rfl) (hb hby at_22) (fun _ _ => ⟨rfl, e10, (by decide : 1 + 0 ≤ _), (by decide : 4 + 0 ≤ _)⟩)
  dsimp only [Pt.U, Pt.locs, Pt.cells, Pt.slots] at X11 l11 y11 z11 st11 hQ11
  subst l11 y11 z11
  obtain ⟨rfl, Nq11, Kq11, P11_0, P11_1, P11_2, P11_3, P11_4⟩ := hQ11
  have N11 := Fr.app N9 Nq11
  have K11 : Keep h0 T11.heap [] := K10.trans Kq11 (allS (P := fun x => x ∈ [] ∨ h0.size ≤ x) (Or.inr sz_o10) all0)
  have Z11 : n0 ≤ T11.heap.size := Nat.le_trans Z10 Kq11.1
  have A10_t11 := A10.keep Kq11
  have e11 : T11.heap = T11.heap := rfl
  refine Wq.steps st11 ?_
  show Wq _ _ _ _ _ (T11.setTop (mkF m 25 #[.val (.long ylaw_1), .second, .val (.long ylaw_2), .second, .val (.long ylaw_3), .second, .val (.long ylaw_4), .second, .val (.long ylaw_5), .second, .val (.int xlaw_6), .val (.long v7), .second, .unset, .unset, .unset, .unset, .unset, .unset, .unset] [(.ref o10)]))
  refine W.astore X11 hx (pc' := 27) (hb hby at_25) rfl (l' := #[.val (.long ylaw_1), .second, .val (.long ylaw_2), .second, .val (.long ylaw_3), .second, .val (.long ylaw_4), .second, .val (.long ylaw_5), .second, .val (.int xlaw_6), .val (.long v7), .second, .val (.ref o10), .unset, .unset, .unset, .unset, .unset, .unset]) rfl ?_
  obtain ⟨T12, h12, X12, e12, E12, A12, D12, -, st12⟩ := newO X11 hx hZ hown (kw4 hw) (kw5 hw) (kw6 hw) e11 (g := (mkF m 27 #[.val (.long ylaw_1), .second, .val (.long ylaw_2), .second, .val (.long ylaw_3), .second, .val (.long ylaw_4), .second, .val (.long ylaw_5), .second, .val (.int xlaw_6), .val (.long v7), .second, .val (.ref o10), .unset, .unset, .unset, .unset, .unset, .unset] [])) rfl (hb hby at_27) (by decide) (by decide)
  obtain ⟨o12, gz12⟩ : ∃ z, z = T11.heap.size := ⟨_, rfl⟩
  rw [← gz12] at A12 D12 st12
  have g_o12 : n0 ≤ o12 := Nat.le_trans Z11 (Nat.le_of_eq gz12.symm)
  have sz_o12 : h0.size ≤ o12 := Nat.le_trans K11.1 (Nat.le_of_eq gz12.symm)
  have ne_o10_o12 : o10 ≠ o12 := Nat.ne_of_lt (Nat.lt_of_lt_of_le A10_t11.lt (Nat.le_of_eq gz12.symm))
  have K12 : Keep h0 h12 [] := K11.ext E12
  have Z12 : n0 ≤ h12.size := Nat.le_trans Z11 E12.1
  have A10_t12 := A10_t11.ext E12
  have P11_1_t12 := P11_1.ext E12
  have P11_2_t12 := P11_2.ext E12
  have P11_3_t12 := P11_3.ext E12
  have P11_4_t12 := P11_4.ext E12
  refine Wq.step st12 ?_
  have F_o12_producerId : Fld Z h12 o12 "com/example/strata/strata/model/AbortedTransaction" "producerId" "J" (.long (0 : Int64)) := D12 (Or.inr (kw19 hw)) (ty := .long) (by decide)
  have F_o12_firstOffset : Fld Z h12 o12 "com/example/strata/strata/model/AbortedTransaction" "firstOffset" "J" (.long (0 : Int64)) := D12 (Or.inr (kw21 hw)) (ty := .long) (by decide)
  have F_o12_lastOffset : Fld Z h12 o12 "com/example/strata/strata/model/AbortedTransaction" "lastOffset" "J" (.long (0 : Int64)) := D12 (Or.inr (kw23 hw)) (ty := .long) (by decide)
  have F_o12_lastStableOffset : Fld Z h12 o12 "com/example/strata/strata/model/AbortedTransaction" "lastStableOffset" "J" (.long (0 : Int64)) := D12 (Or.inr (kw25 hw)) (ty := .long) (by decide)
  show Wq _ _ _ _ _ (T12.setTop (mkF m 30 #[.val (.long ylaw_1), .second, .val (.long ylaw_2), .second, .val (.long ylaw_3), .second, .val (.long ylaw_4), .second, .val (.long ylaw_5), .second, .val (.int xlaw_6), .val (.long v7), .second, .val (.ref o10), .unset, .unset, .unset, .unset, .unset, .unset] [(.ref o12)]))
  refine W.dup X12 hx (pc' := 31) (hb hby at_30) rfl ?_
  refine W.lloadN X12 hx (pc' := 32) (hb hby at_31) rfl ?_
  refine W.ldc2Long X12 hx hZ (pc' := 35) hown (kw26 hw) (hb hby at_32) ?_
  refine W.lxor X12 hx (pc' := 36) (hb hby at_35) (z := (ylaw_1 ^^^ (-1 : Int64))) rfl ?_
  refine W.lloadN X12 hx (pc' := 37) (hb hby at_36) rfl ?_
  refine W.lload X12 hx (pc' := 39) (hb hby at_37) rfl ?_
  refine W.lload X12 hx (pc' := 41) (hb hby at_39) rfl ?_
  refine W.ldc2Long X12 hx hZ (pc' := 44) hown (kw26 hw) (hb hby at_41) ?_
  refine W.lxor X12 hx (pc' := 45) (hb hby at_44) (z := (ylaw_4 ^^^ (-1 : Int64))) rfl ?_
  obtain ⟨_, _, ⟨T13, L13, k13, n13⟩, -, X13, ⟨Lc13, hQ13, l13, y13, z13⟩, st13⟩ := X12.specialBack hx (y := mt3) rfl hown (mvT hZ (kw7 hw)) (mvT hZ (kw8 hw)) (mvT hZ (kw9 hw)) (by decide) (backOf (W := 1) (rm_ctor l Z a0 hw [] o12 (ylaw_1 ^^^ (-1 : Int64)) ylaw_2 ylaw_3 (ylaw_4 ^^^ (-1 : Int64)) h12 n0 Z12 A12 F_o12_producerId F_o12_firstOffset F_o12_lastOffset F_o12_lastStableOffset g_o12) hZ (kw9 hw) (kw6 hw) (by decide) (by decide)) (g := (mkF m 45 #[.val (.long ylaw_1), .second, .val (.long ylaw_2), .second, .val (.long ylaw_3), .second, .val (.long ylaw_4), .second, .val (.long ylaw_5), .second, .val (.int xlaw_6), .val (.long v7), .second, .val (.ref o10), .unset, .unset, .unset, .unset, .unset, .unset] [(.long (ylaw_4 ^^^ (-1 : Int64))), (.long ylaw_3), (.long ylaw_2), (.long (ylaw_1 ^^^ (-1 : Int64))), (.ref o12), (.ref o12)])) rfl (by rw [hml]; rfl) (Steps.refl _) (a := o12) (argsL := [(.long (ylaw_1 ^^^ (-1 : Int64))), (.long ylaw_2), (.long ylaw_3), (.long (ylaw_4 ^^^ (-1 : Int64)))]) (rest := [(.ref o12)]) (lenOf pd3 rfl) rfl (by show 2 * 0 + _ ≤ _; exact Nat.le_of_eq rfl) (hb hby at_45) (fun _ _ => ⟨rfl, e12, (by decide : 2 + 0 ≤ _), (by decide : 8 + 0 ≤ _)⟩)
  dsimp only [Pt.U, Pt.locs, Pt.cells, Pt.slots] at X13 l13 y13 z13 st13 hQ13
  subst l13 y13 z13
  obtain ⟨rfl, Nq13, Kq13, P13_0, P13_1, P13_2, P13_3, P13_4⟩ := hQ13
  have N13 := Fr.app N11 Nq13
  have K13 : Keep h0 T13.heap [] := K12.trans Kq13 (allS (P := fun x => x ∈ [] ∨ h0.size ≤ x) (Or.inr sz_o12) all0)
  have Z13 : n0 ≤ T13.heap.size := Nat.le_trans Z12 Kq13.1
  have A10_t13 := A10_t12.keep Kq13
  have P11_1_t13 := P11_1_t12.keep Kq13 (ninS ne_o10_o12 nin0)
  have P11_2_t13 := P11_2_t12.keep Kq13 (ninS ne_o10_o12 nin0)
  have P11_3_t13 := P11_3_t12.keep Kq13 (ninS ne_o10_o12 nin0)
  have P11_4_t13 := P11_4_t12.keep Kq13 (ninS ne_o10_o12 nin0)
  have A12_t13 := A12.keep Kq13
  have e13 : T13.heap = T13.heap := rfl
  obtain ⟨q14, hq14⟩ : ∃ z, z = (ylaw_1 ^^^ (-1 : Int64)) := ⟨_, rfl⟩
  rw [← hq14] at P13_1
  obtain ⟨q15, hq15⟩ : ∃ z, z = (ylaw_4 ^^^ (-1 : Int64)) := ⟨_, rfl⟩
  rw [← hq15] at P13_4
  refine Wq.steps st13 ?_
  show Wq _ _ _ _ _ (T13.setTop (mkF m 48 #[.val (.long ylaw_1), .second, .val (.long ylaw_2), .second, .val (.long ylaw_3), .second, .val (.long ylaw_4), .second, .val (.long ylaw_5), .second, .val (.int xlaw_6), .val (.long v7), .second, .val (.ref o10), .unset, .unset, .unset, .unset, .unset, .unset] [(.ref o12)]))
  refine W.astore X13 hx (pc' := 50) (hb hby at_48) rfl (l' := #[.val (.long ylaw_1), .second, .val (.long ylaw_2), .second, .val (.long ylaw_3), .second, .val (.long ylaw_4), .second, .val (.long ylaw_5), .second, .val (.int xlaw_6), .val (.long v7), .second, .val (.ref o10), .val (.ref o12), .unset, .unset, .unset, .unset, .unset]) rfl ?_
  refine W.lload X13 hx (pc' := 52) (hb hby at_50) rfl ?_
  refine W.lloadN X13 hx (pc' := 53) (hb hby at_52) rfl ?_
  refine W.lcmp X13 hx (pc' := 54) (hb hby at_53)  ?_
  refine Wq.by (U' := T13.setTop (mkF m 62 #[.val (.long ylaw_1), .second, .val (.long ylaw_2), .second, .val (.long ylaw_3), .second, .val (.long ylaw_4), .second, .val (.long ylaw_5), .second, .val (.int xlaw_6), .val (.long v7), .second, .val (.ref o10), .val (.ref o12), .unset, .unset, .unset, .unset, .unset] [(.int (if v7 < ylaw_2 then (0 : Int32) else (1 : Int32)))])) (fun k => ?_) ?_
  · skip
    by_cases hm54 : v7 < ylaw_2
    · skip
      refine W.ifYes X13 hx (pc' := 61) (hb hby at_54) ((if0 _ _).trans (tlt ((lw_lt _ _).mpr hm54)).1) (by decide) (by decide) ?_
      refine W.iconst X13 hx (pc' := 62) (hb hby at_61) (z := (0 : Int32)) rfl ?_
      simp only [if_pos hm54] at k
      exact k
    · skip
      refine W.ifNo X13 hx (pc' := 57) (hb hby at_54) ((if0 _ _).trans (flt (mt (lw_lt _ _).mp hm54)).1) ?_
      refine W.iconst X13 hx (pc' := 58) (hb hby at_57) (z := (1 : Int32)) rfl ?_
      refine W.goto X13 hx (pc' := 62) (hb hby at_58) (by decide) (by decide) ?_
      simp only [if_neg hm54] at k
      exact k
  show Wq _ _ _ _ _ (T13.setTop (mkF m 62 #[.val (.long ylaw_1), .second, .val (.long ylaw_2), .second, .val (.long ylaw_3), .second, .val (.long ylaw_4), .second, .val (.long ylaw_5), .second, .val (.int xlaw_6), .val (.long v7), .second, .val (.ref o10), .val (.ref o12), .unset, .unset, .unset, .unset, .unset] [(.int (if v7 < ylaw_2 then (0 : Int32) else (1 : Int32)))]))
  generalize hms62_0 : (if v7 < ylaw_2 then (0 : Int32) else (1 : Int32)) = ms62_0
  refine W.istore X13 hx (pc' := 64) (hb hby at_62) (l' := #[.val (.long ylaw_1), .second, .val (.long ylaw_2), .second, .val (.long ylaw_3), .second, .val (.long ylaw_4), .second, .val (.long ylaw_5), .second, .val (.int xlaw_6), .val (.long v7), .second, .val (.ref o10), .val (.ref o12), .val (.int ms62_0), .unset, .unset, .unset, .unset]) rfl ?_
  refine W.lload X13 hx (pc' := 66) (hb hby at_64) rfl ?_
  refine W.lload X13 hx (pc' := 68) (hb hby at_66) rfl ?_
  refine W.lcmp X13 hx (pc' := 69) (hb hby at_68)  ?_
  refine Wq.by (U' := T13.setTop (mkF m 77 #[.val (.long ylaw_1), .second, .val (.long ylaw_2), .second, .val (.long ylaw_3), .second, .val (.long ylaw_4), .second, .val (.long ylaw_5), .second, .val (.int xlaw_6), .val (.long v7), .second, .val (.ref o10), .val (.ref o12), .val (.int ms62_0), .unset, .unset, .unset, .unset] [(.int (if v7 < ylaw_3 then (1 : Int32) else (0 : Int32)))])) (fun k => ?_) ?_
  · skip
    by_cases hm69 : v7 < ylaw_3
    · skip
      refine W.ifNo X13 hx (pc' := 72) (hb hby at_69) ((if0 _ _).trans (tlt ((lw_gt _ _).mpr hm69)).2.2.2) ?_
      refine W.iconst X13 hx (pc' := 73) (hb hby at_72) (z := (1 : Int32)) rfl ?_
      refine W.goto X13 hx (pc' := 77) (hb hby at_73) (by decide) (by decide) ?_
      simp only [if_pos hm69] at k
      exact k
    · skip
      refine W.ifYes X13 hx (pc' := 76) (hb hby at_69) ((if0 _ _).trans (flt (mt (lw_gt _ _).mp hm69)).2.2.2) (by decide) (by decide) ?_
      refine W.iconst X13 hx (pc' := 77) (hb hby at_76) (z := (0 : Int32)) rfl ?_
      simp only [if_neg hm69] at k
      exact k
  show Wq _ _ _ _ _ (T13.setTop (mkF m 77 #[.val (.long ylaw_1), .second, .val (.long ylaw_2), .second, .val (.long ylaw_3), .second, .val (.long ylaw_4), .second, .val (.long ylaw_5), .second, .val (.int xlaw_6), .val (.long v7), .second, .val (.ref o10), .val (.ref o12), .val (.int ms62_0), .unset, .unset, .unset, .unset] [(.int (if v7 < ylaw_3 then (1 : Int32) else (0 : Int32)))]))
  generalize hms77_0 : (if v7 < ylaw_3 then (1 : Int32) else (0 : Int32)) = ms77_0
  refine W.istore X13 hx (pc' := 79) (hb hby at_77) (l' := #[.val (.long ylaw_1), .second, .val (.long ylaw_2), .second, .val (.long ylaw_3), .second, .val (.long ylaw_4), .second, .val (.long ylaw_5), .second, .val (.int xlaw_6), .val (.long v7), .second, .val (.ref o10), .val (.ref o12), .val (.int ms62_0), .val (.int ms77_0), .unset, .unset, .unset]) rfl ?_
  refine W.iload X13 hx (pc' := 81) (hb hby at_79) rfl ?_
  refine Wq.by (U' := T13.setTop (mkF m 94 #[.val (.long ylaw_1), .second, .val (.long ylaw_2), .second, .val (.long ylaw_3), .second, .val (.long ylaw_4), .second, .val (.long ylaw_5), .second, .val (.int xlaw_6), .val (.long v7), .second, .val (.ref o10), .val (.ref o12), .val (.int ms62_0), .val (.int ms77_0), .unset, .unset, .unset] [(.int (if ms62_0 = (0 : Int32) then (0 : Int32) else (if ms77_0 = (0 : Int32) then (0 : Int32) else (1 : Int32))))])) (fun k => ?_) ?_
  · skip
    by_cases hm81 : ms62_0 = (0 : Int32)
    · skip
      refine W.ifYes X13 hx (pc' := 93) (hb hby at_81) ((if0 _ _).trans (teq hm81).1) (by decide) (by decide) ?_
      refine W.iconst X13 hx (pc' := 94) (hb hby at_93) (z := (0 : Int32)) rfl ?_
      simp only [if_pos hm81] at k
      exact k
    · skip
      refine W.ifNo X13 hx (pc' := 84) (hb hby at_81) ((if0 _ _).trans (feq hm81).1) ?_
      refine W.iload X13 hx (pc' := 86) (hb hby at_84) rfl ?_
      by_cases hm86 : ms77_0 = (0 : Int32)
      · skip
        refine W.ifYes X13 hx (pc' := 93) (hb hby at_86) ((if0 _ _).trans (teq hm86).1) (by decide) (by decide) ?_
        refine W.iconst X13 hx (pc' := 94) (hb hby at_93) (z := (0 : Int32)) rfl ?_
        simp only [if_neg hm81, if_pos hm86] at k
        exact k
      · skip
        refine W.ifNo X13 hx (pc' := 89) (hb hby at_86) ((if0 _ _).trans (feq hm86).1) ?_
        refine W.iconst X13 hx (pc' := 90) (hb hby at_89) (z := (1 : Int32)) rfl ?_
        refine W.goto X13 hx (pc' := 94) (hb hby at_90) (by decide) (by decide) ?_
        simp only [if_neg hm81, if_neg hm86] at k
        exact k
  show Wq _ _ _ _ _ (T13.setTop (mkF m 94 #[.val (.long ylaw_1), .second, .val (.long ylaw_2), .second, .val (.long ylaw_3), .second, .val (.long ylaw_4), .second, .val (.long ylaw_5), .second, .val (.int xlaw_6), .val (.long v7), .second, .val (.ref o10), .val (.ref o12), .val (.int ms62_0), .val (.int ms77_0), .unset, .unset, .unset] [(.int (if ms62_0 = (0 : Int32) then (0 : Int32) else (if ms77_0 = (0 : Int32) then (0 : Int32) else (1 : Int32))))]))
  generalize hms94_0 : (if ms62_0 = (0 : Int32) then (0 : Int32) else (if ms77_0 = (0 : Int32) then (0 : Int32) else (1 : Int32))) = ms94_0
  refine W.istore X13 hx (pc' := 96) (hb hby at_94) (l' := #[.val (.long ylaw_1), .second, .val (.long ylaw_2), .second, .val (.long ylaw_3), .second, .val (.long ylaw_4), .second, .val (.long ylaw_5), .second, .val (.int xlaw_6), .val (.long v7), .second, .val (.ref o10), .val (.ref o12), .val (.int ms62_0), .val (.int ms77_0), .val (.int ms94_0), .unset, .unset]) rfl ?_
  refine W.aload X13 hx (pc' := 98) (hb hby at_96) rfl rfl ?_
  refine W.lload X13 hx (pc' := 100) (hb hby at_98) rfl ?_
  obtain ⟨cq16, kq16, q16a, q16b, q16c⟩ := isOf hZ e13 A10_t13
  obtain ⟨_, _, ⟨T16, L16, k16, n16⟩, -, X16, ⟨Lc16, hQ16, l16, y16, z16⟩, st16⟩ := X13.virtualBack hx (y := mt4) (z := mt4) hown (mvT hZ (kw27 hw)) (mvT hZ (kw28 hw)) (notFace_of_selects (args := #[]) (mvT hZ (kw30 hw))) (mvT hZ (kw30 hw)) (mvT hZ (kw29 hw)) (by decide) (backOf (W := 0) (rm_spans l Z a0 hw [] o10 v7 ylaw_2 ylaw_3 T13.heap n0 Z13 P11_2_t13 P11_3_t13) hZ (kw31 hw) (kw6 hw) (by decide) (by decide)) q16a q16c (g := (mkF m 100 #[.val (.long ylaw_1), .second, .val (.long ylaw_2), .second, .val (.long ylaw_3), .second, .val (.long ylaw_4), .second, .val (.long ylaw_5), .second, .val (.int xlaw_6), .val (.long v7), .second, .val (.ref o10), .val (.ref o12), .val (.int ms62_0), .val (.int ms77_0), .val (.int ms94_0), .unset, .unset] [(.long v7), (.ref o10)])) rfl (by rw [hml]; rfl) (Steps.refl _) (argsL := [(.long v7)]) (rest := []) (lenOf pd4 rfl) rfl (by show 2 * 0 + _ ≤ _; exact Nat.le_of_eq rfl) (hb hby at_100) (fun _ _ => ⟨rfl, e13, (by decide : 2 + 0 ≤ _), (by decide : 8 + 0 ≤ _)⟩)
  dsimp only [Pt.U, Pt.locs, Pt.cells, Pt.slots] at X16 l16 y16 z16 st16 hQ16
  subst l16 y16 z16
  obtain ⟨rfl, Nq16, e16⟩ := hQ16
  have N16 := Fr.app N13 Nq16
  refine Wq.steps st16 ?_
  show Wq _ _ _ _ _ (T16.setTop (mkF m 103 #[.val (.long ylaw_1), .second, .val (.long ylaw_2), .second, .val (.long ylaw_3), .second, .val (.long ylaw_4), .second, .val (.long ylaw_5), .second, .val (.int xlaw_6), .val (.long v7), .second, .val (.ref o10), .val (.ref o12), .val (.int ms62_0), .val (.int ms77_0), .val (.int ms94_0), .unset, .unset] [(.int (f_spans v7 ylaw_2 ylaw_3))]))
  generalize hv100 : (f_spans v7 ylaw_2 ylaw_3) = v100
  show Wq _ _ _ _ _ (T16.setTop (mkF m 103 #[.val (.long ylaw_1), .second, .val (.long ylaw_2), .second, .val (.long ylaw_3), .second, .val (.long ylaw_4), .second, .val (.long ylaw_5), .second, .val (.int xlaw_6), .val (.long v7), .second, .val (.ref o10), .val (.ref o12), .val (.int ms62_0), .val (.int ms77_0), .val (.int ms94_0), .unset, .unset] [(.int v100)]))
  refine W.istore X16 hx (pc' := 105) (hb hby at_103) (l' := #[.val (.long ylaw_1), .second, .val (.long ylaw_2), .second, .val (.long ylaw_3), .second, .val (.long ylaw_4), .second, .val (.long ylaw_5), .second, .val (.int xlaw_6), .val (.long v7), .second, .val (.ref o10), .val (.ref o12), .val (.int ms62_0), .val (.int ms77_0), .val (.int ms94_0), .val (.int v100), .unset]) rfl ?_
  refine W.aload X16 hx (pc' := 107) (hb hby at_105) rfl rfl ?_
  refine W.lload X16 hx (pc' := 109) (hb hby at_107) rfl ?_
  obtain ⟨cq17, kq17, q17a, q17b, q17c⟩ := isOf hZ e16 A12_t13
  obtain ⟨_, _, ⟨T17, L17, k17, n17⟩, -, X17, ⟨Lc17, hQ17, l17, y17, z17⟩, st17⟩ := X16.virtualBack hx (y := mt4) (z := mt4) hown (mvT hZ (kw27 hw)) (mvT hZ (kw28 hw)) (notFace_of_selects (args := #[]) (mvT hZ (kw30 hw))) (mvT hZ (kw30 hw)) (mvT hZ (kw29 hw)) (by decide) (backOf (W := 0) (rm_spans l Z a0 hw [] o12 v7 ylaw_2 ylaw_3 T13.heap n0 Z13 P13_2 P13_3) hZ (kw31 hw) (kw6 hw) (by decide) (by decide)) q17a q17c (g := (mkF m 109 #[.val (.long ylaw_1), .second, .val (.long ylaw_2), .second, .val (.long ylaw_3), .second, .val (.long ylaw_4), .second, .val (.long ylaw_5), .second, .val (.int xlaw_6), .val (.long v7), .second, .val (.ref o10), .val (.ref o12), .val (.int ms62_0), .val (.int ms77_0), .val (.int ms94_0), .val (.int v100), .unset] [(.long v7), (.ref o12)])) rfl (by rw [hml]; rfl) (Steps.refl _) (argsL := [(.long v7)]) (rest := []) (lenOf pd4 rfl) rfl (by show 2 * 0 + _ ≤ _; exact Nat.le_of_eq rfl) (hb hby at_109) (fun _ _ => ⟨rfl, e16, (by decide : 2 + 0 ≤ _), (by decide : 8 + 0 ≤ _)⟩)
  dsimp only [Pt.U, Pt.locs, Pt.cells, Pt.slots] at X17 l17 y17 z17 st17 hQ17
  subst l17 y17 z17
  obtain ⟨rfl, Nq17, e17⟩ := hQ17
  have N17 := Fr.app N16 Nq17
  refine Wq.steps st17 ?_
  show Wq _ _ _ _ _ (T17.setTop (mkF m 112 #[.val (.long ylaw_1), .second, .val (.long ylaw_2), .second, .val (.long ylaw_3), .second, .val (.long ylaw_4), .second, .val (.long ylaw_5), .second, .val (.int xlaw_6), .val (.long v7), .second, .val (.ref o10), .val (.ref o12), .val (.int ms62_0), .val (.int ms77_0), .val (.int ms94_0), .val (.int v100), .unset] [(.int (f_spans v7 ylaw_2 ylaw_3))]))
  generalize hv109 : (f_spans v7 ylaw_2 ylaw_3) = v109
  show Wq _ _ _ _ _ (T17.setTop (mkF m 112 #[.val (.long ylaw_1), .second, .val (.long ylaw_2), .second, .val (.long ylaw_3), .second, .val (.long ylaw_4), .second, .val (.long ylaw_5), .second, .val (.int xlaw_6), .val (.long v7), .second, .val (.ref o10), .val (.ref o12), .val (.int ms62_0), .val (.int ms77_0), .val (.int ms94_0), .val (.int v100), .unset] [(.int v109)]))
  refine W.istore X17 hx (pc' := 114) (hb hby at_112) (l' := #[.val (.long ylaw_1), .second, .val (.long ylaw_2), .second, .val (.long ylaw_3), .second, .val (.long ylaw_4), .second, .val (.long ylaw_5), .second, .val (.int xlaw_6), .val (.long v7), .second, .val (.ref o10), .val (.ref o12), .val (.int ms62_0), .val (.int ms77_0), .val (.int ms94_0), .val (.int v100), .val (.int v109)]) rfl ?_
  refine W.iload X17 hx (pc' := 116) (hb hby at_114) rfl ?_
  refine W.iload X17 hx (pc' := 118) (hb hby at_116) rfl ?_
  refine W.icmpNo X17 hx (pc' := 121) (hb hby at_118) (teq (by subst_vars; exact own_math _ _ _ : v100 = ms94_0)).2 ?_
  refine W.iload X17 hx (pc' := 123) (hb hby at_121) rfl ?_
  refine W.iload X17 hx (pc' := 125) (hb hby at_123) rfl ?_
  refine W.icmpNo X17 hx (pc' := 128) (hb hby at_125) (teq (by subst_vars; exact own_math _ _ _ : v109 = ms94_0)).2 ?_
  refine W.iconst X17 hx (pc' := 129) (hb hby at_128) (z := (1 : Int32)) rfl ?_
  refine W.goto X17 hx (pc' := 133) (hb hby at_129) (by decide) (by decide) ?_
  exact Wq.ret X17 (BodyLoose.notSynchronized Bd) (rv := some (.int (1 : Int32))) (fun h => by rw [Bd.returns] at h; cases h) (fun _ hr => retN X17 hx (t := .boolean) Bd.returns (by simp) (hb hby at_133) hr) (by decide) (by decide) ⟨rfl, N17⟩
set_option maxRecDepth 65536 in
set_option maxHeartbeats 40000000 in
theorem comes_1 {Post : Tables → Env → Array Value → State → Outcome → State → Prop} (hpost : ∀ tb e args s v u, (limb_1_1.after args s (.returned v) u = true ∧ limb_1_2.after args s (.returned v) u = true ∧ True) → FrameEnd s (.returned v) u (Jvm.fieldLocs frame_1_writes args s ++ Jvm.arrayLocs frame_1_arrays args s ++ Jvm.staticLocs frame_1_statics s) 16 128 → Post tb e args s (.returned v) u) :
    ArmFor flags0 classFile x code maxLocals ret World_1 tables_1 room_1 Calls_1 rest_1 Pre_1 Post := by
  intro l hfl _ _ p e ha hc hk s m args below hf hA hF happ hP
  obtain ⟨hcalls, hrest, hpre⟩ := hP
  obtain ⟨-, -, -, hnamed, -, -, -, hat⟩ := (Spec.applies_iff hf).mp happ
  obtain ⟨hg, hn⟩ := and_e (Cond.before_iff.mp (show (Jvm.Cond.and given_1 narrow_1).before args s = true from hpre))
  obtain ⟨hg1, hg2⟩ := and_e hg
  obtain ⟨ha0, hb0⟩ := and_e hg2
  obtain ⟨ha1, hb1⟩ := and_e hb0
  obtain ⟨ha2, hb2⟩ := and_e hb1
  obtain ⟨ha3, hb3⟩ := and_e hb2
  obtain ⟨ha4, hb4⟩ := and_e hb3
  obtain ⟨w0, w1, w2, w3, w4, w5, rfl⟩ : ∃ w0 w1 w2 w3 w4 w5 : Value, args = #[w0, w1, w2, w3, w4, w5] := by
    have hs : args.size = 6 := by simpa [Cond.value, given_1] using hg1
    obtain ⟨L⟩ := args
    match L, hs with
    | [w0, w1, w2, w3, w4, w5], _ => exact ⟨w0, w1, w2, w3, w4, w5, rfl⟩
  have hw := fun d (hd : d ∈ tables_1) => atoms_spec (ws := Jvm.Cond.code x code maxLocals ret :: tables_1) hat d (List.mem_cons_of_mem _ hd)
  have hfit : Fit s := fun {y c} hc i hi => by
    obtain ⟨ha, rfl⟩ := Array.getElem?_eq_some_iff.mp hc
    have q := List.all_eq_true.mp ((Array.all_eq_true_iff_forall_mem.mp hF) _ (Array.getElem_mem ha)) i (List.mem_range.mpr hi)
    simpa [Array.getElem?_eq_getElem hi] using q
  obtain ⟨i0, ei0⟩ := isL_v ha0
  obtain rfl : w0 = (.long i0) := Option.some.inj ei0
  obtain ⟨i1, ei1⟩ := isL_v ha1
  obtain rfl : w1 = (.long i1) := Option.some.inj ei1
  obtain ⟨i2, ei2⟩ := isL_v ha2
  obtain rfl : w2 = (.long i2) := Option.some.inj ei2
  obtain ⟨i3, ei3⟩ := isL_v ha3
  obtain rfl : w3 = (.long i3) := Option.some.inj ei3
  obtain ⟨i4, ei4⟩ := isL_v ha4
  obtain rfl : w4 = (.long i4) := Option.some.inj ei4
  obtain ⟨i5, ei5⟩ := is_v hb4
  obtain rfl : w5 = (.int i5) := Option.some.inj ei5
  obtain ⟨n, o, h1, h2, h3, _, L, rfl, ⟨rfl, N⟩, hq⟩ := rm_law l s _ hw tables_1 i0 i1 i2 i3 i4 i5 s.heap s.heap.size (Nat.le_refl _)  p e ha hc hk s m _ below hf ((Spec.applies_iff_loose hf).mp happ).1 ⟨rfl, State.Warmed39.refl s, rfl⟩ trivial
  refine ⟨n, _, h1, h2, h3, hpost _ _ _ _ _ _ ⟨Cond.after_iff.mpr rfl, Cond.after_iff.mpr (eq_i res_at (Term.int_eval (1)) rfl), trivial⟩ ⟨hq.1, hq.2.1, (hq.2.2.sift fun y hy => Or.inr (N y hy)).mono (by decide) (by decide)⟩⟩
theorem main_1_1 : Claimed_1_1 := comes_1 fun _ _ _ _ _ _ h hF => ⟨h.1, hF⟩
theorem main_1_2 : Claimed_1_2 := comes_1 fun _ _ _ _ _ _ h hF => ⟨h.2.1, hF⟩
end Jvm.Pilot.@@N@@
namespace Jvm.Pilot.@@N@@
open Jvm Jvm.ClassFile Sem Op Lib Jvm.Free Jvm.Stand Jvm.Pilot.@@N@@.Jvm.D
/-! MADE BY PROGRAM (witnessworld.py) out of the Statement's table words and the real class files: 10 classes; the members and pool entries that the words name. The judged class is class 1, her method 2. -/
namespace start1
open Jvm.ClassFile
def u (s : String) : CpInfo := .utf8 (stringToUtf16 s)
/-- a pool by its gaps: so many unusable entries, then the entry; so many at the end -/
def gap : Nat → List CpInfo → List CpInfo
  | 0, r => r
  | n + 1, r => .unusable :: gap n r
def poolList (es : List (Nat × CpInfo)) (last : Nat) : List CpInfo := es.foldr (fun e r => gap e.1 (e.2 :: r)) (gap last [])
def pool (es : List (Nat × CpInfo)) (last : Nat) : Array CpInfo := ⟨poolList es last⟩
def fileOf (pool : Array CpInfo) (this : Nat) (attrs : Array Attribute := #[]) (ms : Array MethodInfo := #[]) (fl : Nat := 33) (sup : Nat := 0) (ifs : Array Nat := #[]) (fds : Array FieldInfo := #[]) : ClassFile where
  minorVersion := 0
  majorVersion := 65
  constantPool := pool
  accessFlags := fl
  thisClass := this
  superClass := sup
  interfaces := ifs
  fields := fds
  methods := ms
  attributes := attrs
def plain (name : String) (sup : Option ClassId) : Class where
  name := name
  kind := .ordinary
  loader := none
  accessFlags := 33
  super := sup
  interfaces := #[]
  cf := none
  fields := #[]
  methods := #[]
  instanceTypes := #[]
  staticTypes := #[]
  resolved := #[]
  callSites := []
  init := .initialized
  statics := none
  mirror := none

def pool0 : Array CpInfo := pool [(5, u "<init>"), (0, u "()V"), (1, .class_ 10), (1, u "java/lang/Object")] 113

def k0c0 : Code := { maxStack := 0, maxLocals := 1, code := object_method_1_code, exceptionTable := #[], attributes := #[] }
def k0m0 : Method := { name := "<init>", desc := "()V", sig := { parameters := [], returnType := none }, accessFlags := 1, code := some k0c0 }
/-- java/lang/Object -/
def k0 : Class := { plain "java/lang/Object" none with
  accessFlags := 33
  interfaces := #[]
  cf := some (fileOf pool0 8 #[] #[{ accessFlags := 1, nameIndex := 5, descriptorIndex := 6, attributes := #[] }] 33 0 #[] #[])
  fields := #[]
  methods := #[k0m0]
  instanceTypes := #[]
  staticTypes := #[]
  resolved := Array.replicate 124 none
  statics := none }

def pool1 : Array CpInfo := pool [(2, .class_ 4), (1, u "java/lang/Object"), (0, u "<init>"), (0, u "()V"), (0, .methodref 8 9), (0, .class_ 10), (0, .nameAndType 11 12), (0, u "com/example/strata/strata/model/AbortedTransactionSpansPinLaw"), (0, u "pickOffset"), (0, u "(JJJI)J"), (0, .class_ 14), (0, u "com/example/strata/strata/model/AbortedTransaction"), (0, .methodref 13 16), (0, .nameAndType 5 17), (0, u "(JJJJ)V"), (0, .long 18446744073709551615), (1, .methodref 13 21), (0, .nameAndType 22 23), (0, u "spans"), (0, u "(J)Z"), (3, u "law"), (0, u "(JJJJJI)Z")] 2

def k1m0 : Method := { name := "<init>", desc := "()V", sig := { parameters := [], returnType := none }, accessFlags := 1, code := none }
def k1c1 : Code := { maxStack := 4, maxLocals := 8, code := method_2_code, exceptionTable := #[], attributes := #[] }
def k1m1 : Method := { name := "pickOffset", desc := "(JJJI)J", sig := { parameters := [.long, .long, .long, .int], returnType := some .long }, accessFlags := 10, code := some k1c1 }
def k1c2 : Code := { maxStack := 12, maxLocals := 20, code := code, exceptionTable := #[], attributes := #[] }
def k1m2 : Method := { name := "law", desc := "(JJJJJI)Z", sig := { parameters := [.long, .long, .long, .long, .long, .int], returnType := some .boolean }, accessFlags := 9, code := some k1c2 }
/-- com/example/strata/strata/model/AbortedTransactionSpansPinLaw -/
def k1 : Class := { plain "com/example/strata/strata/model/AbortedTransactionSpansPinLaw" (some 0) with
  accessFlags := 49
  interfaces := #[]
  cf := some (fileOf pool1 8 #[] #[{ accessFlags := 1, nameIndex := 5, descriptorIndex := 6, attributes := #[] }, { accessFlags := 10, nameIndex := 11, descriptorIndex := 12, attributes := #[] }, { accessFlags := 9, nameIndex := 27, descriptorIndex := 28, attributes := #[] }] 49 2 #[] #[])
  fields := #[]
  methods := #[k1m0, k1m1, k1m2]
  instanceTypes := #[]
  staticTypes := #[]
  resolved := Array.replicate 31 none
  statics := none }

def pool2 : Array CpInfo := pool [(1, .methodref 2 3), (0, .class_ 4), (0, .nameAndType 5 6), (0, u "java/lang/Object"), (0, u "<init>"), (0, u "()V"), (0, .class_ 8), (0, u "java/lang/Record")] 13

def k2c0 : Code := { maxStack := 1, maxLocals := 1, code := jdk_30_method_1_code, exceptionTable := #[], attributes := #[] }
def k2m0 : Method := { name := "<init>", desc := "()V", sig := { parameters := [], returnType := none }, accessFlags := 4, code := some k2c0 }
/-- java/lang/Record -/
def k2 : Class := { plain "java/lang/Record" (some 0) with
  accessFlags := 1057
  interfaces := #[]
  cf := some (fileOf pool2 7 #[] #[{ accessFlags := 4, nameIndex := 5, descriptorIndex := 6, attributes := #[] }] 1057 2 #[] #[])
  fields := #[]
  methods := #[k2m0]
  instanceTypes := #[]
  staticTypes := #[]
  resolved := Array.replicate 22 none
  statics := none }

def pool3 : Array CpInfo := pool [(1, .methodref 2 3), (0, .class_ 4), (0, .nameAndType 5 6), (0, u "java/lang/Record"), (0, u "<init>"), (0, u "()V"), (0, .fieldref 8 9), (0, .class_ 10), (0, .nameAndType 11 12), (0, u "com/example/strata/strata/model/AbortedTransaction"), (0, u "producerId"), (0, u "J"), (0, .fieldref 8 14), (0, .nameAndType 15 12), (0, u "firstOffset"), (0, .fieldref 8 17), (0, .nameAndType 18 12), (0, u "lastOffset"), (0, .fieldref 8 20), (0, .nameAndType 21 12), (0, u "lastStableOffset"), (12, u "(JJJJ)V"), (3, u "spans"), (0, u "(J)Z")] 28

def k3c0 : Code := { maxStack := 3, maxLocals := 9, code := prog_26_method_1_code, exceptionTable := #[], attributes := #[] }
def k3m0 : Method := { name := "<init>", desc := "(JJJJ)V", sig := { parameters := [.long, .long, .long, .long], returnType := none }, accessFlags := 1, code := some k3c0 }
def k3c1 : Code := { maxStack := 4, maxLocals := 3, code := prog_26_method_2_code, exceptionTable := #[], attributes := #[] }
def k3m1 : Method := { name := "spans", desc := "(J)Z", sig := { parameters := [.long], returnType := some .boolean }, accessFlags := 1, code := some k3c1 }
/-- com/example/strata/strata/model/AbortedTransaction -/
def k3 : Class := { plain "com/example/strata/strata/model/AbortedTransaction" (some 2) with
  accessFlags := 49
  interfaces := #[]
  cf := some (fileOf pool3 8 #[] #[{ accessFlags := 1, nameIndex := 5, descriptorIndex := 34, attributes := #[] }, { accessFlags := 1, nameIndex := 38, descriptorIndex := 39, attributes := #[] }] 49 2 #[] #[{ accessFlags := 18, nameIndex := 11, descriptorIndex := 12, attributes := #[] }, { accessFlags := 18, nameIndex := 15, descriptorIndex := 12, attributes := #[] }, { accessFlags := 18, nameIndex := 18, descriptorIndex := 12, attributes := #[] }, { accessFlags := 18, nameIndex := 21, descriptorIndex := 12, attributes := #[] }])
  fields := #[{ name := "producerId", type := .long, accessFlags := 18, slot := 0, constantValue := 0 }, { name := "firstOffset", type := .long, accessFlags := 18, slot := 1, constantValue := 0 }, { name := "lastOffset", type := .long, accessFlags := 18, slot := 2, constantValue := 0 }, { name := "lastStableOffset", type := .long, accessFlags := 18, slot := 3, constantValue := 0 }]
  methods := #[k3m0, k3m1]
  instanceTypes := #[.long, .long, .long, .long]
  staticTypes := #[]
  resolved := Array.replicate 68 none
  statics := none }

def pool4 : Array CpInfo := pool [(1, u "java/lang/Cloneable"), (0, .class_ 1), (0, u "java/lang/Object"), (0, .class_ 3)] 3

/-- java/lang/Cloneable -/
def k4 : Class := { plain "java/lang/Cloneable" (some 0) with
  accessFlags := 1537
  interfaces := #[]
  cf := some (fileOf pool4 2 #[] #[] 1537 4 #[] #[])
  fields := #[]
  methods := #[]
  instanceTypes := #[]
  staticTypes := #[]
  resolved := Array.replicate 8 none
  statics := none }

def pool5 : Array CpInfo := pool [(1, u "java/io/Serializable"), (0, .class_ 1), (0, u "java/lang/Object"), (0, .class_ 3)] 3

/-- java/io/Serializable -/
def k5 : Class := { plain "java/io/Serializable" (some 0) with
  accessFlags := 1537
  interfaces := #[]
  cf := some (fileOf pool5 2 #[] #[] 1537 4 #[] #[])
  fields := #[]
  methods := #[]
  instanceTypes := #[]
  staticTypes := #[]
  resolved := Array.replicate 8 none
  statics := none }

/-- the primitive byte -/
def k6 : Class := { plain "byte" none with kind := .primitive 'B', accessFlags := 0x411 }
/-- [B -/
def k7 : Class := { plain "[B" (some 0) with kind := .array 6 .byte, interfaces := #[4, 5], accessFlags := 1041 }

/-- the primitive int -/
def k8 : Class := { plain "int" none with kind := .primitive 'I', accessFlags := 0x411 }
/-- [I -/
def k9 : Class := { plain "[I" (some 0) with kind := .array 8 .int, interfaces := #[4, 5], accessFlags := 1041 }

def heap : Heap := #[]
def classes : Array Class := #[k0, k1, k2, k3, k4, k5, k6, k7, k8, k9]
def interned : List (Array UInt16 × Addr) := []
def slotsUsed : Nat := 0
def theMethod : MethodId := ⟨1, 2⟩
def args0 : Array Value := #[.long 5, .long 7, .long 9, .long 11, .long 8, .int 0]
def aboutOver (below : List Frame) : State where
  vm := { classes := classes, interned := interned.toArray }
  heap := heap
  slotsUsed := slotsUsed
  threads := #[{ frames := .invoking theMethod args0 :: below }]
def below0 : List Frame := [.native { method := ⟨0, 0⟩, args := #[] }]
def about1 : State := aboutOver below0
def p0 : Program := .bare "" "" ""
def e0 : Env := launch0.env 0 0 0
theorem w_frames : about1.frames = Frame.invoking theMethod args0 :: below0 := rfl
set_option maxRecDepth 65536 in
theorem w_args : argsFit about1.vm theMethod args0 = true := by decide +kernel
set_option maxRecDepth 65536 in
theorem w_heap : heapFits about1 = true := by decide +kernel
set_option maxRecDepth 65536 in
theorem w_runnable : about1.curStatus? = some .runnable := by decide +kernel
set_option maxRecDepth 65536 in
theorem w_alone : about1.alone = true := by decide +kernel
set_option maxRecDepth 65536 in
theorem w_named : about1.methodNamed? x = some theMethod := by decide +kernel
set_option maxRecDepth 65536 in
theorem w_hears : about1.hears theMethod below0 = true := by decide +kernel
set_option maxRecDepth 65536 in
theorem w_ripe : about1.ripe theMethod args0 below0 = true := by decide +kernel
theorem w_running : about1.status = .running := rfl
set_option maxRecDepth 65536 in
theorem w_room : about1.hasRoom e0.platform room_1 = true :=
  launch0.hasRoom_least _ room_1 (by decide +kernel) (by decide +kernel) (by decide +kernel) (by decide +kernel) (by decide +kernel) (by decide +kernel)
theorem allAtoms_all (ts : List Jvm.Cond) (a : Array Jvm.Value) (st : Jvm.State) : (allAtoms ts).before a st = ts.all (fun c => c.before a st) := by
  induction ts with
  | nil => rfl
  | cons c t ih =>
    show (Jvm.Cond.and c (allAtoms t)).before a st = _
    rw [Jvm.Cond.before_and, ih, List.all_cons]
def words1 : List Jvm.Cond := Jvm.Cond.code x code maxLocals ret :: tables_1
/-- a 'code' word, met by the world's own term for the bytes: nothing is compared byte by byte -/
theorem code_word {y : MethodName} {bytes : ByteArray} {mx : Nat} {rt : Option FieldType} {a : Array Value} {s : State} {m : MethodId} {meth : Method} {c : Code} (h1 : s.methodNamed? y = some m) (h2 : s.vm.method? m = some meth) (h3 : meth.code = some c) (h4 : c.code = bytes)
    (h5 : (c.maxLocals == mx && c.exceptionTable.isEmpty && decide (c.maxStack ≤ mostOperands) && decide (meth.sig.returnType = rt) && !meth.locks && decide (parseMethodDescriptor y.desc = some meth.sig)) = true) : (Jvm.Cond.code y bytes mx rt).before a s = true := by
  simp only [Bool.and_eq_true, beq_iff_eq, Bool.not_eq_true', decide_eq_true_eq] at h5
  obtain ⟨⟨⟨⟨⟨g1, g2⟩, g3⟩, g4⟩, g5⟩, g6⟩ := h5
  simp [Cond.before, Cond.holds, Cond.value, h1, h2, h3, h4, g1, g2, g3, g4, g5, g6]
def isCode : Jvm.Cond → Bool
  | .code _ _ _ _ => true
  | _ => false
theorem all_split {L : List Jvm.Cond} {P : Jvm.Cond → Bool} (h1 : L.all (fun c => isCode c || P c) = true) (h2 : ∀ c ∈ L.filter isCode, P c = true) : L.all P = true := by
  refine List.all_eq_true.mpr fun c hc => ?_
  have h := List.all_eq_true.mp h1 c hc
  rcases Bool.eq_false_or_eq_true (isCode c) with hi | hi
  · exact h2 c (List.mem_filter.mpr ⟨hc, hi⟩)
  · simpa [hi] using h
set_option maxRecDepth 65536 in
theorem w_c0 : (Jvm.Cond.code x code maxLocals ret).before args0 about1 = true := code_word (m := ⟨1, 2⟩) (meth := k1m2) (c := k1c2) (by decide +kernel) rfl rfl rfl (by decide +kernel)
set_option maxRecDepth 65536 in
theorem w_c1 : (Jvm.Cond.code ({ cls := "com/example/strata/strata/model/AbortedTransactionSpansPinLaw", name := "pickOffset", desc := "(JJJI)J" } : Jvm.MethodName) method_2_code (8 : Nat) (Option.some Jvm.ClassFile.FieldType.long)).before args0 about1 = true := code_word (m := ⟨1, 1⟩) (meth := k1m1) (c := k1c1) (by decide +kernel) rfl rfl rfl (by decide +kernel)
set_option maxRecDepth 65536 in
theorem w_c2 : (Jvm.Cond.code ({ cls := "com/example/strata/strata/model/AbortedTransaction", name := "<init>", desc := "(JJJJ)V" } : Jvm.MethodName) prog_26_method_1_code (9 : Nat) (Option.none : Option Jvm.ClassFile.FieldType)).before args0 about1 = true := code_word (m := ⟨3, 0⟩) (meth := k3m0) (c := k3c0) (by decide +kernel) rfl rfl rfl (by decide +kernel)
set_option maxRecDepth 65536 in
theorem w_c3 : (Jvm.Cond.code ({ cls := "java/lang/Record", name := "<init>", desc := "()V" } : Jvm.MethodName) jdk_30_method_1_code (1 : Nat) (Option.none : Option Jvm.ClassFile.FieldType)).before args0 about1 = true := code_word (m := ⟨2, 0⟩) (meth := k2m0) (c := k2c0) (by decide +kernel) rfl rfl rfl (by decide +kernel)
set_option maxRecDepth 65536 in
theorem w_c4 : (Jvm.Cond.code ({ cls := "java/lang/Object", name := "<init>", desc := "()V" } : Jvm.MethodName) object_method_1_code (1 : Nat) (Option.none : Option Jvm.ClassFile.FieldType)).before args0 about1 = true := code_word (m := ⟨0, 0⟩) (meth := k0m0) (c := k0c0) (by decide +kernel) rfl rfl rfl (by decide +kernel)
set_option maxRecDepth 65536 in
theorem w_c5 : (Jvm.Cond.code ({ cls := "com/example/strata/strata/model/AbortedTransaction", name := "spans", desc := "(J)Z" } : Jvm.MethodName) prog_26_method_2_code (3 : Nat) (Option.some Jvm.ClassFile.FieldType.boolean)).before args0 about1 = true := code_word (m := ⟨3, 1⟩) (meth := k3m1) (c := k3c1) (by decide +kernel) rfl rfl rfl (by decide +kernel)
def codes1 : List Jvm.Cond := [Jvm.Cond.code x code maxLocals ret, Jvm.Cond.code ({ cls := "com/example/strata/strata/model/AbortedTransactionSpansPinLaw", name := "pickOffset", desc := "(JJJI)J" } : Jvm.MethodName) method_2_code (8 : Nat) (Option.some Jvm.ClassFile.FieldType.long), Jvm.Cond.code ({ cls := "com/example/strata/strata/model/AbortedTransaction", name := "<init>", desc := "(JJJJ)V" } : Jvm.MethodName) prog_26_method_1_code (9 : Nat) (Option.none : Option Jvm.ClassFile.FieldType), Jvm.Cond.code ({ cls := "java/lang/Record", name := "<init>", desc := "()V" } : Jvm.MethodName) jdk_30_method_1_code (1 : Nat) (Option.none : Option Jvm.ClassFile.FieldType), Jvm.Cond.code ({ cls := "java/lang/Object", name := "<init>", desc := "()V" } : Jvm.MethodName) object_method_1_code (1 : Nat) (Option.none : Option Jvm.ClassFile.FieldType), Jvm.Cond.code ({ cls := "com/example/strata/strata/model/AbortedTransaction", name := "spans", desc := "(J)Z" } : Jvm.MethodName) prog_26_method_2_code (3 : Nat) (Option.some Jvm.ClassFile.FieldType.boolean)]
set_option maxRecDepth 65536 in
theorem codes_eq : words1.filter isCode = codes1 := rfl
theorem w_codes : ∀ c ∈ words1.filter isCode, c.before args0 about1 = true := by
  rw [codes_eq]
  intro c hc
  simp only [codes1, List.mem_cons, List.not_mem_nil, or_false] at hc
  rcases hc with rfl | rfl | rfl | rfl | rfl | rfl
  · exact w_c0
  · exact w_c1
  · exact w_c2
  · exact w_c3
  · exact w_c4
  · exact w_c5
set_option maxRecDepth 65536 in
theorem w_t1 : (words1.take 24).all (fun c => isCode c || c.before args0 about1) = true := by decide +kernel
set_option maxRecDepth 65536 in
theorem w_t2 : (words1.drop 24).all (fun c => isCode c || c.before args0 about1) = true := by decide +kernel
theorem w_tables : (allAtoms (Jvm.Cond.code x code maxLocals ret :: tables_1)).before args0 about1 = true := by
  rw [allAtoms_all]
  show words1.all (fun c => c.before args0 about1) = true
  refine all_split ?_ w_codes
  rw [← List.take_append_drop 24 words1, List.all_append, w_t1, w_t2]
  rfl
set_option maxRecDepth 65536 in
theorem w_case : (Jvm.Cond.and given_1 narrow_1).before args0 about1 = true := by decide +kernel
theorem w_applies : (headSpec (Jvm.Cond.code x code maxLocals ret :: tables_1) room_1).applies x e0.platform about1 = true :=
  (Spec.applies_iff w_frames).mpr ⟨w_running, w_runnable, w_alone, w_named, w_hears, w_ripe, w_room, w_tables⟩
theorem atStart : AtStart classFile x code maxLocals ret World_1 tables_1 room_1 Calls_1 rest_1 Pre_1 launch0 p0 e0 about1 theMethod args0 below0 :=
  ⟨lists_1, trivial, launch0.admits_env _ _ _, launch0.least_env, fairChoices_fair.cas, fairChoices_fair.clock, w_frames, w_args, w_heap, w_applies, trivial, trivial, w_case⟩
end start1
theorem witness_1 : WitnessClaimed_1 := ⟨start1.p0, start1.e0, start1.about1, start1.theMethod, start1.args0, start1.below0, start1.atStart⟩
end Jvm.Pilot.@@N@@
