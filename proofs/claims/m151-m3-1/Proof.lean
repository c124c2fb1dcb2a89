import JvmDerived
import JvmDerived.Pilot.@@N@@Statement
import JvmDerived.Pilot.@@N@@Code
set_option linter.unusedVariables false
set_option linter.unusedSimpArgs false
namespace Jvm.OwnW
open Sem ClassFile Op Lib Jvm.Stand Jvm.Free Jvm.LawKit Jvm.RoadKit
section Base
variable {p : Program} {l : Launch} {e : Env} {R : Room} {s : State} {m : MethodId} {args : Array Value} {below : List Frame} {meth : Method} {c : Code} {T : State} {locs : List Loc} {cells slots : Nat} {Z : State} {h h' : Heap} {a b : Addr} {ty : FieldType} {vs : List Value} {v : Value} {sl : Nat} {ws : List Addr}
variable {Q : Option Value → Heap → List Loc → Prop} {En : Outcome → State → List Loc → Prop} {kc ks : Nat} {U U' : State}
/-- from U the body comes to its end; what it leaves is Q, its frame En -/
def Wq (p : Program) (e : Env) (below : List Frame) (En : Outcome → State → List Loc → Prop) (Q : Option Value → Heap → List Loc → Prop) (U : State) : Prop :=
  ∃ s₂ o, Steps p.tables e below U s₂ ∧ s₂.status = .running ∧ Ended s₂ below o ∧ ∃ v L, o = .returned v ∧ Q v s₂.heap L ∧ En o s₂ L
theorem Wq.step (h1 : ∀ t, Steps p.tables e below U' t → Steps p.tables e below U t) (k : Wq p e below En Q U') : Wq p e below En Q U := by
  obtain ⟨s₂, o, q, r⟩ := k; exact ⟨s₂, o, h1 _ q, r⟩
theorem Wq.steps (h1 : Steps p.tables e below U U') (k : Wq p e below En Q U') : Wq p e below En Q U := by
  obtain ⟨s₂, o, q, r⟩ := k; exact ⟨s₂, o, h1.trans q, r⟩
theorem Wq.by (k1 : Wq p e below En Q U' → Wq p e below En Q U) (k : Wq p e below En Q U') : Wq p e below En Q U := k1 k
theorem Wq.ret {rv : Option Value} {g : JFrame} (X : Stand p l e R s m args below meth c T locs cells slots) (hlk : meth.locks = false) (hv : meth.sig.returnType = none → rv = none)
    (st : ∀ fs, (∀ (f : JFrame) (acts : List Action), f.method = m → f.locked = none → f.entered = [] → (doReturn e (T.setTop f) acts rv).1 = T.setFrames fs) → Steps p.tables e below (T.setTop g) (T.setFrames fs))
    (hc : cells ≤ kc) (hs : slots ≤ ks) (hQ : Q rv T.heap locs) : Wq p e below (fun o t L => FrameEnd s o t L kc ks) Q (T.setTop g) := by
  obtain ⟨fs, hr, hrun, hended, hW, hsame⟩ := X.leave (v := rv) hv hlk
  exact ⟨_, _, st fs hr, hrun, hended, rv, locs, rfl, hQ, ⟨rv, rfl⟩, hW, hsame.mono hc hs⟩
/-- the same for a body that may load a String constant for the first time -/
theorem Wq.retW {rv : Option Value} {g : JFrame} {vm₁ : Vm} {n : Nat} (X : Stand p l e R (s.setVm vm₁) m args below meth c T locs cells slots) (hS : s.Since vm₁ n) (hn : n ≤ T.heap.size) (hlk : meth.locks = false) (hv : meth.sig.returnType = none → rv = none)
    (st : ∀ fs, (∀ (f : JFrame) (acts : List Action), f.method = m → f.locked = none → f.entered = [] → (doReturn e (T.setTop f) acts rv).1 = T.setFrames fs) → Steps p.tables e below (T.setTop g) (T.setFrames fs))
    (hc : cells ≤ kc) (hs : slots ≤ ks) (hQ : Q rv T.heap locs) : Wq p e below (fun o t L => ReturnedEndW s o t L kc ks) Q (T.setTop g) := by
  obtain ⟨fs, hr, hrun, hended, w1, w2, w3, w4⟩ := X.leaveW hS hn (v := rv) hv hlk
  exact ⟨_, _, st fs hr, hrun, hended, rv, locs, rfl, hQ, ⟨rv, rfl⟩, w2, w3, w4.mono hc hs⟩
/-- an array and the whole list of what it holds -/
def Al (Z : State) (h : Heap) (a : Addr) (ty : FieldType) (vs : List Value) : Prop := ∃ cl : Cell, Arr Z h a cl ty ∧ cl.slots.toList = vs
theorem Al.lt (V : Al Z h a ty vs) : a < h.size := by obtain ⟨cl, A, -⟩ := V; exact A.lt
theorem Al.ext (V : Al Z h a ty vs) (E : Ext h h') : Al Z h' a ty vs := by obtain ⟨cl, A, r⟩ := V; exact ⟨cl, A.ext E, r⟩
theorem Al.other (V : Al Z h b ty vs) (W : Wr h h' a sl v) (q : b ≠ a) : Al Z h' b ty vs := by obtain ⟨cl, A, r⟩ := V; exact ⟨cl, A.other W q, r⟩
theorem Al.keep (V : Al Z h a ty vs) (K : Keep h h' ws) (q : a ∉ ws) : Al Z h' a ty vs := by obtain ⟨cl, A, r⟩ := V; exact ⟨cl, ⟨K.2.1 a cl A.1 q, A.2⟩, r⟩
theorem Al.new {cA : ClassId} {n : Int32} {k : Nat} {dv : Value} (A : Arr Z h a (newA cA ty n) ty) (hk : n.toNatClampNeg = k) (hd : defaultValue ty = dv) : Al Z h a ty (List.replicate k dv) := ⟨_, A, by subst hk hd; simp [newA]⟩
theorem Al.set (V : Al Z h a ty vs) (W : Wr h h' a sl v) : Al Z h' a ty (vs.set sl v) := by
  obtain ⟨cl, A, rfl⟩ := V
  exact ⟨_, A.same W, by simp [Cell.setSlot]⟩
theorem Sta.keepN {C n d : String} {v : Value} (F : Sta Z h C n d v) (K : Keep h h' ws) (q : ∀ w ∈ ws, ∀ cell : Cell, h[w]? = some cell → cell.vm.isStatics = false) : Sta Z h' C n d v := by
  obtain ⟨cf, i, k, f, st, cell, h1, h2, h3, h4, h5, h6, h7⟩ := F
  exact ⟨cf, i, k, f, st, cell, h1, h2, h3, h4, K.2.1 _ _ h5 (fun hm => by rw [q st hm cell h5] at h6; cases h6), h6, h7⟩
theorem fldI {t : Term} {C n d : String} {k : Int32} (hx : (Cond.eq (.field t C n d) (.int k)).value args s none s [] = some true) (ev : t.eval args s none [] s = some (.ref a)) : Fld s s.heap a C n d (.int k) := by
  refine Fld.start ?_
  have e1 := fld_at (C := C) (n := n) (dd := d) ev
  obtain ⟨x, y, h1, h2, k1, k2⟩ := cmp_v (Or.inl hx)
  rw [Term.int_eval] at h2
  cases h2
  rw [e1] at h1
  cases x <;> simp only [Kin] at k2 <;> first | (obtain ⟨z, hz⟩ := k2; cases hz) | skip
  have q := gotT (Cond.eq_ints (e1.trans h1) (Term.int_eval k)) hx
  rw [h1, q]
theorem fldJ {t : Term} {C n d : String} {k : Int64} (hx : (Cond.eq (.field t C n d) (.long k)).value args s none s [] = some true) (ev : t.eval args s none [] s = some (.ref a)) : Fld s s.heap a C n d (.long k) := by
  refine Fld.start ?_
  have e1 := fld_at (C := C) (n := n) (dd := d) ev
  obtain ⟨x, y, h1, h2, k1, k2⟩ := cmp_v (Or.inl hx)
  rw [long_at] at h2
  cases h2
  rw [e1] at h1
  cases x <;> simp only [Kin] at k2 <;> first | (obtain ⟨z, hz⟩ := k2; cases hz) | skip
  have q := gotT (eq_L (e1.trans h1) (long_at k)) hx
  rw [h1, q]
theorem Exa.ns {C : String} (F : Exa Z h a C) : ∀ cell : Cell, h[a]? = some cell → cell.vm.isStatics = false := by
  obtain ⟨c1, k, h1, h2, h3, h4, h5⟩ := F
  intro cell hc; cases h1.symm.trans hc; exact h4
theorem Al.ns (V : Al Z h a ty vs) : ∀ cell : Cell, h[a]? = some cell → cell.vm.isStatics = false := by
  obtain ⟨cl, A, -⟩ := V
  intro cell hc; cases A.1.symm.trans hc; exact A.plain
theorem clA (X : Stand p l e R s m args below meth c T locs cells slots) (hx : p.tables.exec = Jvm.exec) (hZ : Z.Warmed39 s.vm) {a0 : Array Value} {own ad : String} {index : Nat} (hown : s.vm.findClass own = some m.cls)
    (w1 : (Cond.methodLink own index ⟨ad, "clone", "()Ljava/lang/Object;"⟩).before a0 Z = true) (w2 : (Cond.sameMethod ad "java/lang/Object" "clone" "()Ljava/lang/Object;").before a0 Z = true) (w3 : (Cond.native ⟨"java/lang/Object", "clone", "()Ljava/lang/Object;"⟩).before a0 Z = true)
    (w4 : (Cond.instanceMethod ⟨"java/lang/Object", "clone", "()Ljava/lang/Object;"⟩).before a0 Z = true) (w5 : (Cond.selects ad ⟨ad, "clone", "()Ljava/lang/Object;"⟩ ⟨"java/lang/Object", "clone", "()Ljava/lang/Object;"⟩).before a0 Z = true) (w6 : (Cond.castable ad "java/lang/Cloneable").before a0 Z = true)
    (eT : T.heap = h) (V : Al Z h a ty vs) (E : Exa Z h a ad) (F : ∀ v ∈ vs, fits ty v = true) {g : JFrame} (hg : g.method = m) (hsize : g.locals.size = c.maxLocals) {rest : List Value} (hst : g.stack = .ref a :: rest) (hd : decode c.code g.pc = .ok (.invokevirtual index, 3))
    (hf : 1 ≤ R.frames) {W cap : Nat} (hW : 2 * g.monitorRoom + (rest.map fun v => v.category).sum ≤ W) (hl : W + 14 ≤ R.locals) (hcap : vs.length ≤ cap) (hc : cells + 1 ≤ R.cells) (hsl : slots + cap ≤ R.slots) :
    ∃ T' h', Stand p l e R s m args below meth c T' locs (cells + 1) (slots + cap) ∧ T'.heap = h' ∧ Ext h h' ∧ Al Z h' h.size ty vs ∧ Exa Z h' h.size ad ∧
      ∀ target, Steps p.tables e below (T'.setTop { g with pc := g.pc + 3, stack := .ref h.size :: rest }) target → Steps p.tables e below (T.setTop g) target := by
  obtain ⟨cl, A, r⟩ := V
  have FC : FitC Z cl := fitC_of A fun i hi v hv => F v (by rw [← r]; exact Array.mem_toList_iff.mpr (Array.mem_of_getElem? hv))
  obtain ⟨T', h', X', e', ex, A', E', st⟩ := cloneA X hx hZ hown w1 w2 w3 w4 w5 w6 eT A E FC hg hsize hst hd hf hW hl (by rw [← Array.length_toList, r]; exact hcap) hc hsl
  exact ⟨T', h', X', e', ex, ⟨_, A', r⟩, E', st⟩
theorem selPriv {a0 : Array Value} {y : MethodName} {k : Nat} (hZ : Z.Warmed39 s.vm) (wi : (Cond.instantiable y.cls k).before a0 Z = true) (wp : (Cond.privateMethod y).before a0 Z = true) (wm : (Cond.instanceMethod y).before a0 Z = true) (hy : y.cls ≠ "java/lang/invoke/MethodHandle" ∧ y.cls ≠ "java/lang/invoke/VarHandle") : (Cond.selects y.cls y y).before args s = true := by
  obtain ⟨c, k, h1, h2, -, h4, -⟩ := Cond.instantiable_spec (mv (args := args) hZ wi)
  simp only [Bool.or_eq_false_iff] at h4
  exact Jvm.Stand.selects_self_of_private h1 h2 h4.1 (Cond.privateMethod_at (mvP hZ wp (args := args))) (mv hZ wm) hy
theorem al_in {cl : Cell} {j : Int32} {i : Nat} (hvs : cl.slots.toList = vs) (hj : ¬ j < 0) (hi : j.toNatClampNeg = i) (hl : i < vs.length) : ¬ (j < 0 ∨ cl.slots.size ≤ j.toNatClampNeg) := by
  subst hvs hi
  rintro (q | q)
  · exact hj q
  · simp only [Array.length_toList] at hl; omega
theorem al_at {cl : Cell} {j : Int32} {i : Nat} (hvs : cl.slots.toList = vs) (hi : j.toNatClampNeg = i) (hv : vs[i]? = some v) : cl.slots[j.toNatClampNeg]? = some v := by
  subst hvs hi; simpa using hv
theorem al_lt {i : Nat} (hv : vs[i]? = some v) : i < vs.length := (List.getElem?_eq_some_iff.mp hv).1
theorem ldI (X : Stand p l e R s m args below meth c T locs cells slots) (hx : p.tables.exec = Jvm.exec) (hZ : Z.Warmed39 s.vm) (eT : T.heap = h) (V : Al Z h a .int vs) {j : Int32} {i : Nat} (hj : ¬ j < 0) (hi : j.toNatClampNeg = i) (hv : vs[i]? = some v) {g : JFrame} (hg : g.method = m) {rest : List Value} (hs : g.stack = .int j :: .ref a :: rest) (hd : decode c.code g.pc = .ok (.iaload, 1)) {target : State}
    (k : Steps p.tables e below (T.setTop { g with pc := g.pc + 1, stack := v :: rest }) target) : Steps p.tables e below (T.setTop g) target := by
  obtain ⟨cl, A, r⟩ := V
  exact X.iaload hx (by rw [eT]; exact A.1) (State.isArrayOf_alike hZ.alike A.2.1) A.2.2 (al_in r hj hi (al_lt hv)) (al_at r hi hv) hg hs hd _ k
theorem ldJ (X : Stand p l e R s m args below meth c T locs cells slots) (hx : p.tables.exec = Jvm.exec) (hZ : Z.Warmed39 s.vm) (eT : T.heap = h) (V : Al Z h a .long vs) {j : Int32} {i : Nat} (hj : ¬ j < 0) (hi : j.toNatClampNeg = i) (hv : vs[i]? = some v) {g : JFrame} (hg : g.method = m) {rest : List Value} (hs : g.stack = .int j :: .ref a :: rest) (hd : decode c.code g.pc = .ok (.laload, 1)) {target : State}
    (k : Steps p.tables e below (T.setTop { g with pc := g.pc + 1, stack := v :: rest }) target) : Steps p.tables e below (T.setTop g) target := by
  obtain ⟨cl, A, r⟩ := V
  exact X.laload hx (by rw [eT]; exact A.1) (State.isArrayOf_alike hZ.alike A.2.1) A.2.2 (al_in r hj hi (al_lt hv)) (al_at r hi hv) hg hs hd _ k
theorem ldC (X : Stand p l e R s m args below meth c T locs cells slots) (hx : p.tables.exec = Jvm.exec) (hZ : Z.Warmed39 s.vm) (eT : T.heap = h) (V : Al Z h a .char vs) {j : Int32} {i : Nat} (hj : ¬ j < 0) (hi : j.toNatClampNeg = i) (hv : vs[i]? = some v) {g : JFrame} (hg : g.method = m) {rest : List Value} (hs : g.stack = .int j :: .ref a :: rest) (hd : decode c.code g.pc = .ok (.caload, 1)) {target : State}
    (k : Steps p.tables e below (T.setTop { g with pc := g.pc + 1, stack := v :: rest }) target) : Steps p.tables e below (T.setTop g) target := by
  obtain ⟨cl, A, r⟩ := V
  exact X.caload hx (by rw [eT]; exact A.1) (State.isArrayOf_alike hZ.alike A.2.1) A.2.2 (al_in r hj hi (al_lt hv)) (al_at r hi hv) hg hs hd _ k
theorem ldB (X : Stand p l e R s m args below meth c T locs cells slots) (hx : p.tables.exec = Jvm.exec) (hZ : Z.Warmed39 s.vm) (eT : T.heap = h) (V : Al Z h a .byte vs) {j : Int32} {i : Nat} (hj : ¬ j < 0) (hi : j.toNatClampNeg = i) (hv : vs[i]? = some v) {g : JFrame} (hg : g.method = m) {rest : List Value} (hs : g.stack = .int j :: .ref a :: rest) (hd : decode c.code g.pc = .ok (.baload, 1)) {target : State}
    (k : Steps p.tables e below (T.setTop { g with pc := g.pc + 1, stack := v :: rest }) target) : Steps p.tables e below (T.setTop g) target := by
  obtain ⟨cl, A, r⟩ := V
  exact X.baloadBytes hx (by rw [eT]; exact A.1) (State.isArrayOf_alike hZ.alike A.2.1) A.2.2 (al_in r hj hi (al_lt hv)) (al_at r hi hv) hg hs hd _ k
theorem ldZ (X : Stand p l e R s m args below meth c T locs cells slots) (hx : p.tables.exec = Jvm.exec) (hZ : Z.Warmed39 s.vm) (eT : T.heap = h) (V : Al Z h a .boolean vs) {j : Int32} {i : Nat} (hj : ¬ j < 0) (hi : j.toNatClampNeg = i) (hv : vs[i]? = some v) {g : JFrame} (hg : g.method = m) {rest : List Value} (hs : g.stack = .int j :: .ref a :: rest) (hd : decode c.code g.pc = .ok (.baload, 1)) {target : State}
    (k : Steps p.tables e below (T.setTop { g with pc := g.pc + 1, stack := v :: rest }) target) : Steps p.tables e below (T.setTop g) target := by
  obtain ⟨cl, A, r⟩ := V
  exact X.baloadBooleans hx (by rw [eT]; exact A.1) (State.isArrayOf_alike hZ.alike A.2.1) A.2.2 (al_in r hj hi (al_lt hv)) (al_at r hi hv) hg hs hd _ k
theorem lenA (X : Stand p l e R s m args below meth c T locs cells slots) (hx : p.tables.exec = Jvm.exec) (hZ : Z.Warmed39 s.vm) (eT : T.heap = h) (V : Al Z h a ty vs) {n : Int32} (hn : vs.length.toInt32 = n) {g : JFrame} (hg : g.method = m) {rest : List Value} (hs : g.stack = .ref a :: rest) (hd : decode c.code g.pc = .ok (.arraylength, 1)) {target : State}
    (k : Steps p.tables e below (T.setTop { g with pc := g.pc + 1, stack := .int n :: rest }) target) : Steps p.tables e below (T.setTop g) target := by
  obtain ⟨cl, A, r⟩ := V
  refine X.arraylength hx (by rw [eT]; exact A.1) (State.isArrayOf_alike hZ.alike A.2.1) hg hs hd _ ?_
  rw [show cl.slots.size.toInt32 = n from by rw [← hn, ← r, Array.length_toList]]
  exact k
theorem asI (X : Stand p l e R s m args below meth c T locs cells slots) (hx : p.tables.exec = Jvm.exec) (hZ : Z.Warmed39 s.vm) (eT : T.heap = h) (V : Al Z h a .int vs) {j : Int32} {i : Nat} {x : Int32} (hj : ¬ j < 0) (hi : j.toNatClampNeg = i) (hl : i < vs.length) {g : JFrame} (hg : g.method = m) {rest : List Value} (hs : g.stack = .int x :: .int j :: .ref a :: rest) (hd : decode c.code g.pc = .ok (.iastore, 1)) :
    ∃ T' h', Stand p l e R s m args below meth c T' (locs ++ [⟨a, i⟩]) cells slots ∧ T'.heap = h' ∧ Wr h h' a i (.int x) ∧ Al Z h' a .int (vs.set i (.int x)) ∧ ∀ target, Steps p.tables e below (T'.setTop { g with pc := g.pc + 1, stack := rest }) target → Steps p.tables e below (T.setTop g) target := by
  have V0 := V
  obtain ⟨cl, A, r⟩ := V
  obtain ⟨T', h', X', e', W, st⟩ := stI X hx hZ eT A (al_in r hj hi hl) hg hs hd
  subst hi
  exact ⟨T', h', X', e', W, V0.set W, st⟩
theorem asJ (X : Stand p l e R s m args below meth c T locs cells slots) (hx : p.tables.exec = Jvm.exec) (hZ : Z.Warmed39 s.vm) (eT : T.heap = h) (V : Al Z h a .long vs) {j : Int32} {i : Nat} {x : Int64} (hj : ¬ j < 0) (hi : j.toNatClampNeg = i) (hl : i < vs.length) {g : JFrame} (hg : g.method = m) {rest : List Value} (hs : g.stack = .long x :: .int j :: .ref a :: rest) (hd : decode c.code g.pc = .ok (.lastore, 1)) :
    ∃ T' h', Stand p l e R s m args below meth c T' (locs ++ [⟨a, i⟩]) cells slots ∧ T'.heap = h' ∧ Wr h h' a i (.long x) ∧ Al Z h' a .long (vs.set i (.long x)) ∧ ∀ target, Steps p.tables e below (T'.setTop { g with pc := g.pc + 1, stack := rest }) target → Steps p.tables e below (T.setTop g) target := by
  have V0 := V
  obtain ⟨cl, A, r⟩ := V
  obtain ⟨T', h', X', e', W, st⟩ := stJ X hx hZ eT A (al_in r hj hi hl) hg hs hd
  subst hi
  exact ⟨T', h', X', e', W, V0.set W, st⟩
theorem asC (X : Stand p l e R s m args below meth c T locs cells slots) (hx : p.tables.exec = Jvm.exec) (hZ : Z.Warmed39 s.vm) (eT : T.heap = h) (V : Al Z h a .char vs) {j : Int32} {i : Nat} {x y : Int32} (hj : ¬ j < 0) (hi : j.toNatClampNeg = i) (hl : i < vs.length) (hy : nar .char x = y) {g : JFrame} (hg : g.method = m) {rest : List Value} (hs : g.stack = .int x :: .int j :: .ref a :: rest) (hd : decode c.code g.pc = .ok (.castore, 1)) :
    ∃ T' h', Stand p l e R s m args below meth c T' (locs ++ [⟨a, i⟩]) cells slots ∧ T'.heap = h' ∧ Wr h h' a i (.int y) ∧ Al Z h' a .char (vs.set i (.int y)) ∧ ∀ target, Steps p.tables e below (T'.setTop { g with pc := g.pc + 1, stack := rest }) target → Steps p.tables e below (T.setTop g) target := by
  have V0 := V
  obtain ⟨cl, A, r⟩ := V
  obtain ⟨T', h', X', e', W, st⟩ := stC X hx hZ eT A (al_in r hj hi hl) hg hs hd
  subst hi hy
  exact ⟨T', h', X', e', W, V0.set W, st⟩
theorem asB (X : Stand p l e R s m args below meth c T locs cells slots) (hx : p.tables.exec = Jvm.exec) (hZ : Z.Warmed39 s.vm) (eT : T.heap = h) (V : Al Z h a .byte vs) {j : Int32} {i : Nat} {x y : Int32} (hj : ¬ j < 0) (hi : j.toNatClampNeg = i) (hl : i < vs.length) (hy : nar .byte x = y) {g : JFrame} (hg : g.method = m) {rest : List Value} (hs : g.stack = .int x :: .int j :: .ref a :: rest) (hd : decode c.code g.pc = .ok (.bastore, 1)) :
    ∃ T' h', Stand p l e R s m args below meth c T' (locs ++ [⟨a, i⟩]) cells slots ∧ T'.heap = h' ∧ Wr h h' a i (.int y) ∧ Al Z h' a .byte (vs.set i (.int y)) ∧ ∀ target, Steps p.tables e below (T'.setTop { g with pc := g.pc + 1, stack := rest }) target → Steps p.tables e below (T.setTop g) target := by
  have V0 := V
  obtain ⟨cl, A, r⟩ := V
  obtain ⟨T', h', X', e', W, st⟩ := stB X hx hZ eT A (al_in r hj hi hl) hg hs hd
  subst hi hy
  exact ⟨T', h', X', e', W, V0.set W, st⟩
theorem asZ (X : Stand p l e R s m args below meth c T locs cells slots) (hx : p.tables.exec = Jvm.exec) (hZ : Z.Warmed39 s.vm) (eT : T.heap = h) (V : Al Z h a .boolean vs) {j : Int32} {i : Nat} {x y : Int32} (hj : ¬ j < 0) (hi : j.toNatClampNeg = i) (hl : i < vs.length) (hy : nar .boolean x = y) {g : JFrame} (hg : g.method = m) {rest : List Value} (hs : g.stack = .int x :: .int j :: .ref a :: rest) (hd : decode c.code g.pc = .ok (.bastore, 1)) :
    ∃ T' h', Stand p l e R s m args below meth c T' (locs ++ [⟨a, i⟩]) cells slots ∧ T'.heap = h' ∧ Wr h h' a i (.int y) ∧ Al Z h' a .boolean (vs.set i (.int y)) ∧ ∀ target, Steps p.tables e below (T'.setTop { g with pc := g.pc + 1, stack := rest }) target → Steps p.tables e below (T.setTop g) target := by
  have V0 := V
  obtain ⟨cl, A, r⟩ := V
  obtain ⟨T', h', X', e', W, st⟩ := stZ X hx hZ eT A (al_in r hj hi hl) hg hs hd
  subst hi hy
  exact ⟨T', h', X', e', W, V0.set W, st⟩
theorem Ow.iloadN (X : Stand p l e R s m args below meth c T locs cells slots) (hx : p.tables.exec = Jvm.exec) {pc : Nat} {ls : Array Slot} {st : List Value} {pc' : Nat} {k : Fin 4} {v : Int32} (hd : decode c.code pc = .ok (.iload_n k, 1)) (hl : ls[k.val]? = some (.val (.int v))) (k : Wq p e below En Q (T.setTop (mkF m pc' ls (.int v :: st)))) (hpc : pc + 1 = pc' := by rfl) : Wq p e below En Q (T.setTop (mkF m pc ls st)) := by subst hpc; exact Wq.step (fun _ q => XS.iloadN X.here hx rfl hd hl q) k
theorem Ow.istoreN (X : Stand p l e R s m args below meth c T locs cells slots) (hx : p.tables.exec = Jvm.exec) {pc : Nat} {ls : Array Slot} {st : List Value} {pc' : Nat} {k : Fin 4} {x : Int32} {l' : Array Slot} (hd : decode c.code pc = .ok (.istore_n k, 1)) (hl : storeLocals ls k.val (.int x) = some l') (k : Wq p e below En Q (T.setTop (mkF m pc' l' st))) (hpc : pc + 1 = pc' := by rfl) : Wq p e below En Q (T.setTop (mkF m pc ls (.int x :: st))) := by subst hpc; exact Wq.step (fun _ q => XS.istoreN X.here hx rfl hd rfl hl q) k
theorem Ow.lloadN (X : Stand p l e R s m args below meth c T locs cells slots) (hx : p.tables.exec = Jvm.exec) {pc : Nat} {ls : Array Slot} {st : List Value} {pc' : Nat} {k : Fin 4} {v : Int64} (hd : decode c.code pc = .ok (.lload_n k, 1)) (hl : ls[k.val]? = some (.val (.long v))) (k : Wq p e below En Q (T.setTop (mkF m pc' ls (.long v :: st)))) (hpc : pc + 1 = pc' := by rfl) : Wq p e below En Q (T.setTop (mkF m pc ls st)) := by subst hpc; exact Wq.step (fun _ q => XS.lloadN X.here hx rfl hd hl q) k
theorem Ow.lstoreN (X : Stand p l e R s m args below meth c T locs cells slots) (hx : p.tables.exec = Jvm.exec) {pc : Nat} {ls : Array Slot} {st : List Value} {pc' : Nat} {k : Fin 4} {x : Int64} {l' : Array Slot} (hd : decode c.code pc = .ok (.lstore_n k, 1)) (hl : storeLocals ls k.val (.long x) = some l') (k : Wq p e below En Q (T.setTop (mkF m pc' l' st))) (hpc : pc + 1 = pc' := by rfl) : Wq p e below En Q (T.setTop (mkF m pc ls (.long x :: st))) := by subst hpc; exact Wq.step (fun _ q => XS.lstoreN X.here hx rfl hd rfl hl q) k
theorem Ow.aloadN (X : Stand p l e R s m args below meth c T locs cells slots) (hx : p.tables.exec = Jvm.exec) {pc : Nat} {ls : Array Slot} {st : List Value} {pc' : Nat} {k : Fin 4} {v : Value} (hd : decode c.code pc = .ok (.aload_n k, 1)) (hl : ls[k.val]? = some (.val v)) (hv : v.isRef = true) (k : Wq p e below En Q (T.setTop (mkF m pc' ls (v :: st)))) (hpc : pc + 1 = pc' := by rfl) : Wq p e below En Q (T.setTop (mkF m pc ls st)) := by subst hpc; exact Wq.step (fun _ q => XS.aloadN X.here hx rfl hd hl hv q) k
theorem Ow.astoreN (X : Stand p l e R s m args below meth c T locs cells slots) (hx : p.tables.exec = Jvm.exec) {pc : Nat} {ls : Array Slot} {st : List Value} {pc' : Nat} {k : Fin 4} {x : Value} {l' : Array Slot} (hd : decode c.code pc = .ok (.astore_n k, 1)) (hv : x.isRef = true) (hl : storeLocals ls k.val x = some l') (k : Wq p e below En Q (T.setTop (mkF m pc' l' st))) (hpc : pc + 1 = pc' := by rfl) : Wq p e below En Q (T.setTop (mkF m pc ls (x :: st))) := by subst hpc; exact Wq.step (fun _ q => XS.astoreN X.here hx rfl hd rfl hv hl q) k
theorem Ow.iload (X : Stand p l e R s m args below meth c T locs cells slots) (hx : p.tables.exec = Jvm.exec) {pc : Nat} {ls : Array Slot} {st : List Value} {pc' : Nat} {k : Nat} {v : Int32} (hd : decode c.code pc = .ok (.iload k, 2)) (hl : ls[k]? = some (.val (.int v))) (k : Wq p e below En Q (T.setTop (mkF m pc' ls (.int v :: st)))) (hpc : pc + 2 = pc' := by rfl) : Wq p e below En Q (T.setTop (mkF m pc ls st)) := by subst hpc; exact Wq.step (fun _ q => XS.iload X.here hx rfl hd hl q) k
theorem Ow.istore (X : Stand p l e R s m args below meth c T locs cells slots) (hx : p.tables.exec = Jvm.exec) {pc : Nat} {ls : Array Slot} {st : List Value} {pc' : Nat} {k : Nat} {x : Int32} {l' : Array Slot} (hd : decode c.code pc = .ok (.istore k, 2)) (hl : storeLocals ls k (.int x) = some l') (k : Wq p e below En Q (T.setTop (mkF m pc' l' st))) (hpc : pc + 2 = pc' := by rfl) : Wq p e below En Q (T.setTop (mkF m pc ls (.int x :: st))) := by subst hpc; exact Wq.step (fun _ q => XS.istore X.here hx rfl hd rfl hl q) k
theorem Ow.lload (X : Stand p l e R s m args below meth c T locs cells slots) (hx : p.tables.exec = Jvm.exec) {pc : Nat} {ls : Array Slot} {st : List Value} {pc' : Nat} {k : Nat} {v : Int64} (hd : decode c.code pc = .ok (.lload k, 2)) (hl : ls[k]? = some (.val (.long v))) (k : Wq p e below En Q (T.setTop (mkF m pc' ls (.long v :: st)))) (hpc : pc + 2 = pc' := by rfl) : Wq p e below En Q (T.setTop (mkF m pc ls st)) := by subst hpc; exact Wq.step (fun _ q => XS.lload X.here hx rfl hd hl q) k
theorem Ow.lstore (X : Stand p l e R s m args below meth c T locs cells slots) (hx : p.tables.exec = Jvm.exec) {pc : Nat} {ls : Array Slot} {st : List Value} {pc' : Nat} {k : Nat} {x : Int64} {l' : Array Slot} (hd : decode c.code pc = .ok (.lstore k, 2)) (hl : storeLocals ls k (.long x) = some l') (k : Wq p e below En Q (T.setTop (mkF m pc' l' st))) (hpc : pc + 2 = pc' := by rfl) : Wq p e below En Q (T.setTop (mkF m pc ls (.long x :: st))) := by subst hpc; exact Wq.step (fun _ q => XS.lstore X.here hx rfl hd rfl hl q) k
theorem Ow.aload (X : Stand p l e R s m args below meth c T locs cells slots) (hx : p.tables.exec = Jvm.exec) {pc : Nat} {ls : Array Slot} {st : List Value} {pc' : Nat} {k : Nat} {v : Value} (hd : decode c.code pc = .ok (.aload k, 2)) (hl : ls[k]? = some (.val v)) (hv : v.isRef = true) (k : Wq p e below En Q (T.setTop (mkF m pc' ls (v :: st)))) (hpc : pc + 2 = pc' := by rfl) : Wq p e below En Q (T.setTop (mkF m pc ls st)) := by subst hpc; exact Wq.step (fun _ q => XS.aload X.here hx rfl hd hl hv q) k
theorem Ow.astore (X : Stand p l e R s m args below meth c T locs cells slots) (hx : p.tables.exec = Jvm.exec) {pc : Nat} {ls : Array Slot} {st : List Value} {pc' : Nat} {k : Nat} {x : Value} {l' : Array Slot} (hd : decode c.code pc = .ok (.astore k, 2)) (hv : x.isRef = true) (hl : storeLocals ls k x = some l') (k : Wq p e below En Q (T.setTop (mkF m pc' l' st))) (hpc : pc + 2 = pc' := by rfl) : Wq p e below En Q (T.setTop (mkF m pc ls (x :: st))) := by subst hpc; exact Wq.step (fun _ q => XS.astore X.here hx rfl hd rfl hv hl q) k
theorem Ow.istoreNS (X : Stand p l e R s m args below meth c T locs cells slots) (hx : p.tables.exec = Jvm.exec) {pc pc' : Nat} {ls : Array Slot} {st : List Value} {k : Fin 4} {x : Int32} {o : Slot} {l' : Array Slot} (hd : decode c.code pc = .ok (.istore_n k, 1)) (hold : ls[k.val]? = some o) (ho : o = .unset ∨ ∃ w, o = .val w ∧ w.category = 1) (hl : ls.setIfInBounds k.val (.val (.int x)) = l') (q : Wq p e below En Q (T.setTop (mkF m pc' l' st))) (hpc : pc + 1 = pc' := by rfl) : Wq p e below En Q (T.setTop (mkF m pc ls (.int x :: st))) := by
  subst hpc hl
  exact Wq.step (fun _ z => XS.istoreN X.here hx rfl hd rfl (XS.store1 hold ho rfl) z) q
theorem Ow.istoreS (X : Stand p l e R s m args below meth c T locs cells slots) (hx : p.tables.exec = Jvm.exec) {pc pc' : Nat} {ls : Array Slot} {st : List Value} {k : Nat} {x : Int32} {o : Slot} {l' : Array Slot} (hd : decode c.code pc = .ok (.istore k, 2)) (hold : ls[k]? = some o) (ho : o = .unset ∨ ∃ w, o = .val w ∧ w.category = 1) (hl : ls.setIfInBounds k (.val (.int x)) = l') (q : Wq p e below En Q (T.setTop (mkF m pc' l' st))) (hpc : pc + 2 = pc' := by rfl) : Wq p e below En Q (T.setTop (mkF m pc ls (.int x :: st))) := by
  subst hpc hl
  exact Wq.step (fun _ z => XS.istore X.here hx rfl hd rfl (XS.store1 hold ho rfl) z) q
theorem Ow.iconst (X : Stand p l e R s m args below meth c T locs cells slots) (hx : p.tables.exec = Jvm.exec) {pc : Nat} {ls : Array Slot} {st : List Value} {pc' : Nat} {i : Int} {z : Int32} (hd : decode c.code pc = .ok (.iconst i, 1)) (hz : Int32.ofInt i = z) (k : Wq p e below En Q (T.setTop (mkF m pc' ls (.int z :: st)))) (hpc : pc + 1 = pc' := by rfl) : Wq p e below En Q (T.setTop (mkF m pc ls st)) := by subst hz hpc; exact Wq.step (fun _ q => XS.iconst X.here hx rfl hd  q) k
theorem Ow.bipush (X : Stand p l e R s m args below meth c T locs cells slots) (hx : p.tables.exec = Jvm.exec) {pc : Nat} {ls : Array Slot} {st : List Value} {pc' : Nat} {i : Int} {z : Int32} (hd : decode c.code pc = .ok (.bipush i, 2)) (hz : (Int8.ofInt i).toInt32 = z) (k : Wq p e below En Q (T.setTop (mkF m pc' ls (.int z :: st)))) (hpc : pc + 2 = pc' := by rfl) : Wq p e below En Q (T.setTop (mkF m pc ls st)) := by subst hz hpc; exact Wq.step (fun _ q => XS.bipush X.here hx rfl hd  q) k
theorem Ow.sipush (X : Stand p l e R s m args below meth c T locs cells slots) (hx : p.tables.exec = Jvm.exec) {pc : Nat} {ls : Array Slot} {st : List Value} {pc' : Nat} {i : Int} {z : Int32} (hd : decode c.code pc = .ok (.sipush i, 3)) (hz : (Int16.ofInt i).toInt32 = z) (k : Wq p e below En Q (T.setTop (mkF m pc' ls (.int z :: st)))) (hpc : pc + 3 = pc' := by rfl) : Wq p e below En Q (T.setTop (mkF m pc ls st)) := by subst hz hpc; exact Wq.step (fun _ q => XS.sipush X.here hx rfl hd  q) k
theorem Ow.lconst (X : Stand p l e R s m args below meth c T locs cells slots) (hx : p.tables.exec = Jvm.exec) {pc : Nat} {ls : Array Slot} {st : List Value} {pc' : Nat} {i : Fin 2} {z : Int64} (hd : decode c.code pc = .ok (.lconst i, 1)) (hz : Int64.ofNat i = z) (k : Wq p e below En Q (T.setTop (mkF m pc' ls (.long z :: st)))) (hpc : pc + 1 = pc' := by rfl) : Wq p e below En Q (T.setTop (mkF m pc ls st)) := by subst hz hpc; exact Wq.step (fun _ q => XS.lconst X.here hx rfl hd  q) k
theorem Ow.aconstNull (X : Stand p l e R s m args below meth c T locs cells slots) (hx : p.tables.exec = Jvm.exec) {pc : Nat} {ls : Array Slot} {st : List Value} {pc' : Nat}  (hd : decode c.code pc = .ok (.aconst_null, 1))  (k : Wq p e below En Q (T.setTop (mkF m pc' ls (.null :: st)))) (hpc : pc + 1 = pc' := by rfl) : Wq p e below En Q (T.setTop (mkF m pc ls st)) := by subst hpc; exact Wq.step (fun _ q => XS.aconstNull X.here hx rfl hd  q) k
theorem Ow.iadd (X : Stand p l e R s m args below meth c T locs cells slots) (hx : p.tables.exec = Jvm.exec) {pc : Nat} {ls : Array Slot} {st : List Value} {pc' : Nat} {x y z : Int32} (hd : decode c.code pc = .ok (.iadd, 1)) (hz : x + y = z) (k : Wq p e below En Q (T.setTop (mkF m pc' ls (.int z :: st)))) (hpc : pc + 1 = pc' := by rfl) : Wq p e below En Q (T.setTop (mkF m pc ls (.int y :: .int x :: st))) := by subst hz hpc; exact Wq.step (fun _ q => XS.iadd X.here hx rfl hd rfl q) k
theorem Ow.ladd (X : Stand p l e R s m args below meth c T locs cells slots) (hx : p.tables.exec = Jvm.exec) {pc : Nat} {ls : Array Slot} {st : List Value} {pc' : Nat} {x y z : Int64} (hd : decode c.code pc = .ok (.ladd, 1)) (hz : x + y = z) (k : Wq p e below En Q (T.setTop (mkF m pc' ls (.long z :: st)))) (hpc : pc + 1 = pc' := by rfl) : Wq p e below En Q (T.setTop (mkF m pc ls (.long y :: .long x :: st))) := by subst hz hpc; exact Wq.step (fun _ q => XS.ladd X.here hx rfl hd rfl q) k
theorem Ow.isub (X : Stand p l e R s m args below meth c T locs cells slots) (hx : p.tables.exec = Jvm.exec) {pc : Nat} {ls : Array Slot} {st : List Value} {pc' : Nat} {x y z : Int32} (hd : decode c.code pc = .ok (.isub, 1)) (hz : x - y = z) (k : Wq p e below En Q (T.setTop (mkF m pc' ls (.int z :: st)))) (hpc : pc + 1 = pc' := by rfl) : Wq p e below En Q (T.setTop (mkF m pc ls (.int y :: .int x :: st))) := by subst hz hpc; exact Wq.step (fun _ q => XS.isub X.here hx rfl hd rfl q) k
theorem Ow.lsub (X : Stand p l e R s m args below meth c T locs cells slots) (hx : p.tables.exec = Jvm.exec) {pc : Nat} {ls : Array Slot} {st : List Value} {pc' : Nat} {x y z : Int64} (hd : decode c.code pc = .ok (.lsub, 1)) (hz : x - y = z) (k : Wq p e below En Q (T.setTop (mkF m pc' ls (.long z :: st)))) (hpc : pc + 1 = pc' := by rfl) : Wq p e below En Q (T.setTop (mkF m pc ls (.long y :: .long x :: st))) := by subst hz hpc; exact Wq.step (fun _ q => XS.lsub X.here hx rfl hd rfl q) k
theorem Ow.imul (X : Stand p l e R s m args below meth c T locs cells slots) (hx : p.tables.exec = Jvm.exec) {pc : Nat} {ls : Array Slot} {st : List Value} {pc' : Nat} {x y z : Int32} (hd : decode c.code pc = .ok (.imul, 1)) (hz : x * y = z) (k : Wq p e below En Q (T.setTop (mkF m pc' ls (.int z :: st)))) (hpc : pc + 1 = pc' := by rfl) : Wq p e below En Q (T.setTop (mkF m pc ls (.int y :: .int x :: st))) := by subst hz hpc; exact Wq.step (fun _ q => XS.imul X.here hx rfl hd rfl q) k
theorem Ow.lmul (X : Stand p l e R s m args below meth c T locs cells slots) (hx : p.tables.exec = Jvm.exec) {pc : Nat} {ls : Array Slot} {st : List Value} {pc' : Nat} {x y z : Int64} (hd : decode c.code pc = .ok (.lmul, 1)) (hz : x * y = z) (k : Wq p e below En Q (T.setTop (mkF m pc' ls (.long z :: st)))) (hpc : pc + 1 = pc' := by rfl) : Wq p e below En Q (T.setTop (mkF m pc ls (.long y :: .long x :: st))) := by subst hz hpc; exact Wq.step (fun _ q => XS.lmul X.here hx rfl hd rfl q) k
theorem Ow.iand (X : Stand p l e R s m args below meth c T locs cells slots) (hx : p.tables.exec = Jvm.exec) {pc : Nat} {ls : Array Slot} {st : List Value} {pc' : Nat} {x y z : Int32} (hd : decode c.code pc = .ok (.iand, 1)) (hz : x &&& y = z) (k : Wq p e below En Q (T.setTop (mkF m pc' ls (.int z :: st)))) (hpc : pc + 1 = pc' := by rfl) : Wq p e below En Q (T.setTop (mkF m pc ls (.int y :: .int x :: st))) := by subst hz hpc; exact Wq.step (fun _ q => XS.iand X.here hx rfl hd rfl q) k
theorem Ow.land (X : Stand p l e R s m args below meth c T locs cells slots) (hx : p.tables.exec = Jvm.exec) {pc : Nat} {ls : Array Slot} {st : List Value} {pc' : Nat} {x y z : Int64} (hd : decode c.code pc = .ok (.land, 1)) (hz : x &&& y = z) (k : Wq p e below En Q (T.setTop (mkF m pc' ls (.long z :: st)))) (hpc : pc + 1 = pc' := by rfl) : Wq p e below En Q (T.setTop (mkF m pc ls (.long y :: .long x :: st))) := by subst hz hpc; exact Wq.step (fun _ q => XS.land X.here hx rfl hd rfl q) k
theorem Ow.ior (X : Stand p l e R s m args below meth c T locs cells slots) (hx : p.tables.exec = Jvm.exec) {pc : Nat} {ls : Array Slot} {st : List Value} {pc' : Nat} {x y z : Int32} (hd : decode c.code pc = .ok (.ior, 1)) (hz : x ||| y = z) (k : Wq p e below En Q (T.setTop (mkF m pc' ls (.int z :: st)))) (hpc : pc + 1 = pc' := by rfl) : Wq p e below En Q (T.setTop (mkF m pc ls (.int y :: .int x :: st))) := by subst hz hpc; exact Wq.step (fun _ q => XS.ior X.here hx rfl hd rfl q) k
theorem Ow.lor (X : Stand p l e R s m args below meth c T locs cells slots) (hx : p.tables.exec = Jvm.exec) {pc : Nat} {ls : Array Slot} {st : List Value} {pc' : Nat} {x y z : Int64} (hd : decode c.code pc = .ok (.lor, 1)) (hz : x ||| y = z) (k : Wq p e below En Q (T.setTop (mkF m pc' ls (.long z :: st)))) (hpc : pc + 1 = pc' := by rfl) : Wq p e below En Q (T.setTop (mkF m pc ls (.long y :: .long x :: st))) := by subst hz hpc; exact Wq.step (fun _ q => XS.lor X.here hx rfl hd rfl q) k
theorem Ow.ixor (X : Stand p l e R s m args below meth c T locs cells slots) (hx : p.tables.exec = Jvm.exec) {pc : Nat} {ls : Array Slot} {st : List Value} {pc' : Nat} {x y z : Int32} (hd : decode c.code pc = .ok (.ixor, 1)) (hz : x ^^^ y = z) (k : Wq p e below En Q (T.setTop (mkF m pc' ls (.int z :: st)))) (hpc : pc + 1 = pc' := by rfl) : Wq p e below En Q (T.setTop (mkF m pc ls (.int y :: .int x :: st))) := by subst hz hpc; exact Wq.step (fun _ q => XS.ixor X.here hx rfl hd rfl q) k
theorem Ow.lxor (X : Stand p l e R s m args below meth c T locs cells slots) (hx : p.tables.exec = Jvm.exec) {pc : Nat} {ls : Array Slot} {st : List Value} {pc' : Nat} {x y z : Int64} (hd : decode c.code pc = .ok (.lxor, 1)) (hz : x ^^^ y = z) (k : Wq p e below En Q (T.setTop (mkF m pc' ls (.long z :: st)))) (hpc : pc + 1 = pc' := by rfl) : Wq p e below En Q (T.setTop (mkF m pc ls (.long y :: .long x :: st))) := by subst hz hpc; exact Wq.step (fun _ q => XS.lxor X.here hx rfl hd rfl q) k
theorem Ow.ineg (X : Stand p l e R s m args below meth c T locs cells slots) (hx : p.tables.exec = Jvm.exec) {pc : Nat} {ls : Array Slot} {st : List Value} {pc' : Nat} {x : Int32} {z : Int32} (hd : decode c.code pc = .ok (.ineg, 1)) (hz : -x = z) (k : Wq p e below En Q (T.setTop (mkF m pc' ls (.int z :: st)))) (hpc : pc + 1 = pc' := by rfl) : Wq p e below En Q (T.setTop (mkF m pc ls (.int x :: st))) := by subst hz hpc; exact Wq.step (fun _ q => XS.ineg X.here hx rfl hd rfl q) k
theorem Ow.lneg (X : Stand p l e R s m args below meth c T locs cells slots) (hx : p.tables.exec = Jvm.exec) {pc : Nat} {ls : Array Slot} {st : List Value} {pc' : Nat} {x : Int64} {z : Int64} (hd : decode c.code pc = .ok (.lneg, 1)) (hz : -x = z) (k : Wq p e below En Q (T.setTop (mkF m pc' ls (.long z :: st)))) (hpc : pc + 1 = pc' := by rfl) : Wq p e below En Q (T.setTop (mkF m pc ls (.long x :: st))) := by subst hz hpc; exact Wq.step (fun _ q => XS.lneg X.here hx rfl hd rfl q) k
theorem Ow.i2l (X : Stand p l e R s m args below meth c T locs cells slots) (hx : p.tables.exec = Jvm.exec) {pc : Nat} {ls : Array Slot} {st : List Value} {pc' : Nat} {x : Int32} {z : Int64} (hd : decode c.code pc = .ok (.i2l, 1)) (hz : x.toInt64 = z) (k : Wq p e below En Q (T.setTop (mkF m pc' ls (.long z :: st)))) (hpc : pc + 1 = pc' := by rfl) : Wq p e below En Q (T.setTop (mkF m pc ls (.int x :: st))) := by subst hz hpc; exact Wq.step (fun _ q => XS.i2l X.here hx rfl hd rfl q) k
theorem Ow.l2i (X : Stand p l e R s m args below meth c T locs cells slots) (hx : p.tables.exec = Jvm.exec) {pc : Nat} {ls : Array Slot} {st : List Value} {pc' : Nat} {x : Int64} {z : Int32} (hd : decode c.code pc = .ok (.l2i, 1)) (hz : x.toInt32 = z) (k : Wq p e below En Q (T.setTop (mkF m pc' ls (.int z :: st)))) (hpc : pc + 1 = pc' := by rfl) : Wq p e below En Q (T.setTop (mkF m pc ls (.long x :: st))) := by subst hz hpc; exact Wq.step (fun _ q => XS.l2i X.here hx rfl hd rfl q) k
theorem Ow.i2b (X : Stand p l e R s m args below meth c T locs cells slots) (hx : p.tables.exec = Jvm.exec) {pc : Nat} {ls : Array Slot} {st : List Value} {pc' : Nat} {x : Int32} {z : Int32} (hd : decode c.code pc = .ok (.i2b, 1)) (hz : x.toInt8.toInt32 = z) (k : Wq p e below En Q (T.setTop (mkF m pc' ls (.int z :: st)))) (hpc : pc + 1 = pc' := by rfl) : Wq p e below En Q (T.setTop (mkF m pc ls (.int x :: st))) := by subst hz hpc; exact Wq.step (fun _ q => XS.i2b X.here hx rfl hd rfl q) k
theorem Ow.i2s (X : Stand p l e R s m args below meth c T locs cells slots) (hx : p.tables.exec = Jvm.exec) {pc : Nat} {ls : Array Slot} {st : List Value} {pc' : Nat} {x : Int32} {z : Int32} (hd : decode c.code pc = .ok (.i2s, 1)) (hz : x.toInt16.toInt32 = z) (k : Wq p e below En Q (T.setTop (mkF m pc' ls (.int z :: st)))) (hpc : pc + 1 = pc' := by rfl) : Wq p e below En Q (T.setTop (mkF m pc ls (.int x :: st))) := by subst hz hpc; exact Wq.step (fun _ q => XS.i2s X.here hx rfl hd rfl q) k
theorem Ow.i2c (X : Stand p l e R s m args below meth c T locs cells slots) (hx : p.tables.exec = Jvm.exec) {pc : Nat} {ls : Array Slot} {st : List Value} {pc' : Nat} {x : Int32} {z : Int32} (hd : decode c.code pc = .ok (.i2c, 1)) (hz : x.toUInt32.toUInt16.toUInt32.toInt32 = z) (k : Wq p e below En Q (T.setTop (mkF m pc' ls (.int z :: st)))) (hpc : pc + 1 = pc' := by rfl) : Wq p e below En Q (T.setTop (mkF m pc ls (.int x :: st))) := by subst hz hpc; exact Wq.step (fun _ q => XS.i2c X.here hx rfl hd rfl q) k
theorem Ow.ishl (X : Stand p l e R s m args below meth c T locs cells slots) (hx : p.tables.exec = Jvm.exec) {pc : Nat} {ls : Array Slot} {st : List Value} {pc' : Nat} {x : Int32} {y : Int32} {z : Int32} (hd : decode c.code pc = .ok (.ishl, 1)) (hz : x <<< (y &&& 31) = z) (k : Wq p e below En Q (T.setTop (mkF m pc' ls (.int z :: st)))) (hpc : pc + 1 = pc' := by rfl) : Wq p e below En Q (T.setTop (mkF m pc ls (.int y :: .int x :: st))) := by subst hz hpc; exact Wq.step (fun _ q => XS.ishl X.here hx rfl hd rfl q) k
theorem Ow.ishr (X : Stand p l e R s m args below meth c T locs cells slots) (hx : p.tables.exec = Jvm.exec) {pc : Nat} {ls : Array Slot} {st : List Value} {pc' : Nat} {x : Int32} {y : Int32} {z : Int32} (hd : decode c.code pc = .ok (.ishr, 1)) (hz : x >>> (y &&& 31) = z) (k : Wq p e below En Q (T.setTop (mkF m pc' ls (.int z :: st)))) (hpc : pc + 1 = pc' := by rfl) : Wq p e below En Q (T.setTop (mkF m pc ls (.int y :: .int x :: st))) := by subst hz hpc; exact Wq.step (fun _ q => XS.ishr X.here hx rfl hd rfl q) k
theorem Ow.iushr (X : Stand p l e R s m args below meth c T locs cells slots) (hx : p.tables.exec = Jvm.exec) {pc : Nat} {ls : Array Slot} {st : List Value} {pc' : Nat} {x : Int32} {y : Int32} {z : Int32} (hd : decode c.code pc = .ok (.iushr, 1)) (hz : (x.toUInt32 >>> (y &&& 31).toUInt32).toInt32 = z) (k : Wq p e below En Q (T.setTop (mkF m pc' ls (.int z :: st)))) (hpc : pc + 1 = pc' := by rfl) : Wq p e below En Q (T.setTop (mkF m pc ls (.int y :: .int x :: st))) := by subst hz hpc; exact Wq.step (fun _ q => XS.iushr X.here hx rfl hd rfl q) k
theorem Ow.lshl (X : Stand p l e R s m args below meth c T locs cells slots) (hx : p.tables.exec = Jvm.exec) {pc : Nat} {ls : Array Slot} {st : List Value} {pc' : Nat} {x : Int64} {y : Int32} {z : Int64} (hd : decode c.code pc = .ok (.lshl, 1)) (hz : x <<< (y &&& 0x3f).toInt64 = z) (k : Wq p e below En Q (T.setTop (mkF m pc' ls (.long z :: st)))) (hpc : pc + 1 = pc' := by rfl) : Wq p e below En Q (T.setTop (mkF m pc ls (.int y :: .long x :: st))) := by subst hz hpc; exact Wq.step (fun _ q => XS.lshl X.here hx rfl hd rfl q) k
theorem Ow.lshr (X : Stand p l e R s m args below meth c T locs cells slots) (hx : p.tables.exec = Jvm.exec) {pc : Nat} {ls : Array Slot} {st : List Value} {pc' : Nat} {x : Int64} {y : Int32} {z : Int64} (hd : decode c.code pc = .ok (.lshr, 1)) (hz : x >>> (y &&& 0x3f).toInt64 = z) (k : Wq p e below En Q (T.setTop (mkF m pc' ls (.long z :: st)))) (hpc : pc + 1 = pc' := by rfl) : Wq p e below En Q (T.setTop (mkF m pc ls (.int y :: .long x :: st))) := by subst hz hpc; exact Wq.step (fun _ q => XS.lshr X.here hx rfl hd rfl q) k
theorem Ow.lushr (X : Stand p l e R s m args below meth c T locs cells slots) (hx : p.tables.exec = Jvm.exec) {pc : Nat} {ls : Array Slot} {st : List Value} {pc' : Nat} {x : Int64} {y : Int32} {z : Int64} (hd : decode c.code pc = .ok (.lushr, 1)) (hz : (x.toUInt64 >>> (y &&& 0x3f).toInt64.toUInt64).toInt64 = z) (k : Wq p e below En Q (T.setTop (mkF m pc' ls (.long z :: st)))) (hpc : pc + 1 = pc' := by rfl) : Wq p e below En Q (T.setTop (mkF m pc ls (.int y :: .long x :: st))) := by subst hz hpc; exact Wq.step (fun _ q => XS.lushr X.here hx rfl hd rfl q) k
theorem Ow.lcmp (X : Stand p l e R s m args below meth c T locs cells slots) (hx : p.tables.exec = Jvm.exec) {pc : Nat} {ls : Array Slot} {st : List Value} {pc' : Nat} {x y : Int64} (hd : decode c.code pc = .ok (.lcmp, 1))  (k : Wq p e below En Q (T.setTop (mkF m pc' ls (.int (lcmpW x y) :: st)))) (hpc : pc + 1 = pc' := by rfl) : Wq p e below En Q (T.setTop (mkF m pc ls (.long y :: .long x :: st))) := by subst hpc; exact Wq.step (fun _ q => XS.lcmp X.here hx rfl hd rfl q) k
theorem Ow.idiv (X : Stand p l e R s m args below meth c T locs cells slots) (hx : p.tables.exec = Jvm.exec) {pc : Nat} {ls : Array Slot} {st : List Value} {pc' : Nat} {x y z : Int32} (hd : decode c.code pc = .ok (.idiv, 1)) (hy : y ≠ 0) (hz : x / y = z) (k : Wq p e below En Q (T.setTop (mkF m pc' ls (.int z :: st)))) (hpc : pc + 1 = pc' := by rfl) : Wq p e below En Q (T.setTop (mkF m pc ls (.int y :: .int x :: st))) := by subst hz hpc; exact Wq.step (fun _ q => XS.idiv X.here hx rfl hd rfl hy q) k
theorem Ow.ldiv (X : Stand p l e R s m args below meth c T locs cells slots) (hx : p.tables.exec = Jvm.exec) {pc : Nat} {ls : Array Slot} {st : List Value} {pc' : Nat} {x y z : Int64} (hd : decode c.code pc = .ok (.ldiv, 1)) (hy : y ≠ 0) (hz : x / y = z) (k : Wq p e below En Q (T.setTop (mkF m pc' ls (.long z :: st)))) (hpc : pc + 1 = pc' := by rfl) : Wq p e below En Q (T.setTop (mkF m pc ls (.long y :: .long x :: st))) := by subst hz hpc; exact Wq.step (fun _ q => XS.ldiv X.here hx rfl hd rfl hy q) k
theorem Ow.irem (X : Stand p l e R s m args below meth c T locs cells slots) (hx : p.tables.exec = Jvm.exec) {pc : Nat} {ls : Array Slot} {st : List Value} {pc' : Nat} {x y z : Int32} (hd : decode c.code pc = .ok (.irem, 1)) (hy : y ≠ 0) (hz : x % y = z) (k : Wq p e below En Q (T.setTop (mkF m pc' ls (.int z :: st)))) (hpc : pc + 1 = pc' := by rfl) : Wq p e below En Q (T.setTop (mkF m pc ls (.int y :: .int x :: st))) := by subst hz hpc; exact Wq.step (fun _ q => iremM X hx rfl hd rfl hy q) k
theorem Ow.lrem (X : Stand p l e R s m args below meth c T locs cells slots) (hx : p.tables.exec = Jvm.exec) {pc : Nat} {ls : Array Slot} {st : List Value} {pc' : Nat} {x y z : Int64} (hd : decode c.code pc = .ok (.lrem, 1)) (hy : y ≠ 0) (hz : x % y = z) (k : Wq p e below En Q (T.setTop (mkF m pc' ls (.long z :: st)))) (hpc : pc + 1 = pc' := by rfl) : Wq p e below En Q (T.setTop (mkF m pc ls (.long y :: .long x :: st))) := by
  rw [← lrem_mod] at hz
  subst hz hpc
  exact Wq.step (fun _ q => XS.lrem X.here hx rfl hd rfl hy q) k
theorem Ow.iinc (X : Stand p l e R s m args below meth c T locs cells slots) (hx : p.tables.exec = Jvm.exec) {pc : Nat} {ls : Array Slot} {st : List Value} {pc' : Nat} {i : Nat} {cst : Int} {x : Int32} {l' : Array Slot} (hd : decode c.code pc = .ok (.iinc i cst, 3)) (hl : ls[i]? = some (.val (.int x))) (hl' : storeLocals ls i (.int (x + Int32.ofInt cst)) = some l') (k : Wq p e below En Q (T.setTop (mkF m pc' l' st))) (hpc : pc + 3 = pc' := by rfl) : Wq p e below En Q (T.setTop (mkF m pc ls st)) := by subst hpc; exact Wq.step (fun _ q => XS.iinc X.here hx rfl hd hl hl' q) k
theorem Ow.dup (X : Stand p l e R s m args below meth c T locs cells slots) (hx : p.tables.exec = Jvm.exec) {pc : Nat} {ls : Array Slot} {st : List Value} {pc' : Nat} {x : Value} (hd : decode c.code pc = .ok (.dup, 1)) (hc : x.category = 1) (k : Wq p e below En Q (T.setTop (mkF m pc' ls (x :: x :: st)))) (hpc : pc + 1 = pc' := by rfl) : Wq p e below En Q (T.setTop (mkF m pc ls (x :: st))) := by subst hpc; exact Wq.step (fun _ q => XS.dup X.here hx rfl hd rfl hc q) k
theorem Ow.pop (X : Stand p l e R s m args below meth c T locs cells slots) (hx : p.tables.exec = Jvm.exec) {pc : Nat} {ls : Array Slot} {st : List Value} {pc' : Nat} {x : Value} (hd : decode c.code pc = .ok (.pop, 1)) (hc : x.category = 1) (k : Wq p e below En Q (T.setTop (mkF m pc' ls st))) (hpc : pc + 1 = pc' := by rfl) : Wq p e below En Q (T.setTop (mkF m pc ls (x :: st))) := by subst hpc; exact Wq.step (fun _ q => XS.pop X.here hx rfl hd rfl hc q) k
theorem Ow.dupX1 (X : Stand p l e R s m args below meth c T locs cells slots) (hx : p.tables.exec = Jvm.exec) {pc : Nat} {ls : Array Slot} {st : List Value} {pc' : Nat} {x y : Value} (hd : decode c.code pc = .ok (.dup_x1, 1)) (hc : x.category = 1) (hc' : y.category = 1) (k : Wq p e below En Q (T.setTop (mkF m pc' ls (x :: y :: x :: st)))) (hpc : pc + 1 = pc' := by rfl) : Wq p e below En Q (T.setTop (mkF m pc ls (x :: y :: st))) := by subst hpc; exact Wq.step (fun _ q => XS.dupX1 X.here hx rfl hd rfl hc hc' q) k
theorem Ow.swap (X : Stand p l e R s m args below meth c T locs cells slots) (hx : p.tables.exec = Jvm.exec) {pc : Nat} {ls : Array Slot} {st : List Value} {pc' : Nat} {x y : Value} (hd : decode c.code pc = .ok (.swap, 1)) (hc : x.category = 1) (hc' : y.category = 1) (k : Wq p e below En Q (T.setTop (mkF m pc' ls (y :: x :: st)))) (hpc : pc + 1 = pc' := by rfl) : Wq p e below En Q (T.setTop (mkF m pc ls (x :: y :: st))) := by subst hpc; exact Wq.step (fun _ q => XS.swap X.here hx rfl hd rfl hc hc' q) k
theorem Ow.dup2 (X : Stand p l e R s m args below meth c T locs cells slots) (hx : p.tables.exec = Jvm.exec) {pc : Nat} {ls : Array Slot} {st : List Value} {pc' : Nat} {x y : Value} (hd : decode c.code pc = .ok (.dup2, 1)) (hc : x.category = 1) (hc' : y.category = 1) (k : Wq p e below En Q (T.setTop (mkF m pc' ls (x :: y :: x :: y :: st)))) (hpc : pc + 1 = pc' := by rfl) : Wq p e below En Q (T.setTop (mkF m pc ls (x :: y :: st))) := by subst hpc; exact Wq.step (fun _ q => Jvm.Free.XT.dup2 X.here hx rfl hd rfl hc hc' q) k
theorem Ow.dup2L (X : Stand p l e R s m args below meth c T locs cells slots) (hx : p.tables.exec = Jvm.exec) {pc : Nat} {ls : Array Slot} {st : List Value} {pc' : Nat} {x : Int64} (hd : decode c.code pc = .ok (.dup2, 1))  (k : Wq p e below En Q (T.setTop (mkF m pc' ls (.long x :: .long x :: st)))) (hpc : pc + 1 = pc' := by rfl) : Wq p e below En Q (T.setTop (mkF m pc ls (.long x :: st))) := by subst hpc; exact Wq.step (fun _ q => Jvm.Free.XT.dup2L X.here hx rfl hd rfl q) k
theorem Ow.goto (X : Stand p l e R s m args below meth c T locs cells slots) (hx : p.tables.exec = Jvm.exec) {pc : Nat} {ls : Array Slot} {st : List Value} {o : Int} {pc' : Nat} (hd : decode c.code pc = .ok (.goto o, 3)) (ho : 0 ≤ (pc : Int) + o) (hp : ((pc : Int) + o).toNat = pc') (k : Wq p e below En Q (T.setTop (mkF m pc' ls st))) : Wq p e below En Q (T.setTop (mkF m pc ls st)) := Wq.step (fun _ q => XS.goto X.here hx rfl rfl hd ho hp q) k
theorem Ow.ifYes (X : Stand p l e R s m args below meth c T locs cells slots) (hx : p.tables.exec = Jvm.exec) {pc : Nat} {ls : Array Slot} {st : List Value} {cd : ClassFile.Cond} {x : Int32} {o : Int} {pc' : Nat} (hd : decode c.code pc = .ok (.ifCond cd o, 3)) (hc : ifCond.holds cd x = true) (ho : 0 ≤ (pc : Int) + o) (hp : ((pc : Int) + o).toNat = pc') (k : Wq p e below En Q (T.setTop (mkF m pc' ls st))) : Wq p e below En Q (T.setTop (mkF m pc ls (.int x :: st))) := Wq.step (fun _ q => XS.ifYes X.here hx rfl rfl hd rfl hc ho hp q) k
theorem Ow.ifNo (X : Stand p l e R s m args below meth c T locs cells slots) (hx : p.tables.exec = Jvm.exec) {pc : Nat} {ls : Array Slot} {st : List Value} {pc' : Nat} {cd : ClassFile.Cond} {x : Int32} {o : Int} (hd : decode c.code pc = .ok (.ifCond cd o, 3)) (hc : ifCond.holds cd x = false) (k : Wq p e below En Q (T.setTop (mkF m pc' ls st))) (hpc : pc + 3 = pc' := by rfl) : Wq p e below En Q (T.setTop (mkF m pc ls (.int x :: st))) := by subst hpc; exact Wq.step (fun _ q => XS.ifNo X.here hx rfl hd rfl hc q) k
theorem Ow.icmpYes (X : Stand p l e R s m args below meth c T locs cells slots) (hx : p.tables.exec = Jvm.exec) {pc : Nat} {ls : Array Slot} {st : List Value} {cd : ClassFile.Cond} {x y : Int32} {o : Int} {pc' : Nat} (hd : decode c.code pc = .ok (.if_icmp cd o, 3)) (hc : if_icmp.holds cd x y = true) (ho : 0 ≤ (pc : Int) + o) (hp : ((pc : Int) + o).toNat = pc') (k : Wq p e below En Q (T.setTop (mkF m pc' ls st))) : Wq p e below En Q (T.setTop (mkF m pc ls (.int y :: .int x :: st))) := Wq.step (fun _ q => XS.icmpYes X.here hx rfl rfl hd rfl hc ho hp q) k
theorem Ow.icmpNo (X : Stand p l e R s m args below meth c T locs cells slots) (hx : p.tables.exec = Jvm.exec) {pc : Nat} {ls : Array Slot} {st : List Value} {pc' : Nat} {cd : ClassFile.Cond} {x y : Int32} {o : Int} (hd : decode c.code pc = .ok (.if_icmp cd o, 3)) (hc : if_icmp.holds cd x y = false) (k : Wq p e below En Q (T.setTop (mkF m pc' ls st))) (hpc : pc + 3 = pc' := by rfl) : Wq p e below En Q (T.setTop (mkF m pc ls (.int y :: .int x :: st))) := by subst hpc; exact Wq.step (fun _ q => XS.icmpNo X.here hx rfl hd rfl hc q) k
theorem Ow.ifnullYes (X : Stand p l e R s m args below meth c T locs cells slots) (hx : p.tables.exec = Jvm.exec) {pc : Nat} {ls : Array Slot} {st : List Value} {o : Int} {pc' : Nat} (hd : decode c.code pc = .ok (.ifnull o, 3)) (ho : 0 ≤ (pc : Int) + o) (hp : ((pc : Int) + o).toNat = pc') (k : Wq p e below En Q (T.setTop (mkF m pc' ls st))) : Wq p e below En Q (T.setTop (mkF m pc ls (.null :: st))) := Wq.step (fun _ q => XS.ifnullYes X.here hx rfl rfl hd rfl ho hp q) k
theorem Ow.ifnullNo (X : Stand p l e R s m args below meth c T locs cells slots) (hx : p.tables.exec = Jvm.exec) {pc : Nat} {ls : Array Slot} {st : List Value} {pc' : Nat} {o : Int} {b : Addr} (hd : decode c.code pc = .ok (.ifnull o, 3))  (k : Wq p e below En Q (T.setTop (mkF m pc' ls st))) (hpc : pc + 3 = pc' := by rfl) : Wq p e below En Q (T.setTop (mkF m pc ls (.ref b :: st))) := by subst hpc; exact Wq.step (fun _ q => XS.ifnullNo X.here hx rfl hd rfl q) k
theorem Ow.ifnonnullYes (X : Stand p l e R s m args below meth c T locs cells slots) (hx : p.tables.exec = Jvm.exec) {pc : Nat} {ls : Array Slot} {st : List Value} {o : Int} {b : Addr} {pc' : Nat} (hd : decode c.code pc = .ok (.ifnonnull o, 3)) (ho : 0 ≤ (pc : Int) + o) (hp : ((pc : Int) + o).toNat = pc') (k : Wq p e below En Q (T.setTop (mkF m pc' ls st))) : Wq p e below En Q (T.setTop (mkF m pc ls (.ref b :: st))) := Wq.step (fun _ q => XS.ifnonnullYes X.here hx rfl rfl hd rfl ho hp q) k
theorem Ow.ifnonnullNo (X : Stand p l e R s m args below meth c T locs cells slots) (hx : p.tables.exec = Jvm.exec) {pc : Nat} {ls : Array Slot} {st : List Value} {pc' : Nat} {o : Int} (hd : decode c.code pc = .ok (.ifnonnull o, 3))  (k : Wq p e below En Q (T.setTop (mkF m pc' ls st))) (hpc : pc + 3 = pc' := by rfl) : Wq p e below En Q (T.setTop (mkF m pc ls (.null :: st))) := by subst hpc; exact Wq.step (fun _ q => XS.ifnonnullNo X.here hx rfl hd rfl q) k
theorem Ow.acmp (X : Stand p l e R s m args below meth c T locs cells slots) (hx : p.tables.exec = Jvm.exec) {pc : Nat} {ls : Array Slot} {st : List Value} {cd : ACond} {x y : Value} {o : Int} {pc' : Nat} {same : Bool} (hd : decode c.code pc = .ok (.if_acmp cd o, 3)) (h1 : x.isRef = true) (h2 : y.isRef = true) (hq : decide (x = y) = same) (ho : 0 ≤ (pc : Int) + o) (hp : pc' = if acV cd same = true then ((pc : Int) + o).toNat else pc + 3) (k : Wq p e below En Q (T.setTop (mkF m pc' ls st))) : Wq p e below En Q (T.setTop (mkF m pc ls (y :: x :: st))) := Wq.step (fun _ q => Jvm.RoadKit.acmp (g := mkF m pc ls (y :: x :: st)) X hx rfl h1 h2 rfl hd rfl hq ho hp q) k
theorem Ow.ldcInt (X : Stand p l e R s m args below meth c T locs cells slots) (hx : p.tables.exec = Jvm.exec) (hZ : Z.Warmed39 s.vm) {a0 : Array Value} {own : String} {index : Nat} {v : Int32} {pc pc' : Nat} {ls : Array Slot} {st : List Value} (hown : s.vm.findClass own = some m.cls) (w : (Cond.constant own index v).before a0 Z = true) (hd : decode c.code pc = .ok (.ldc index, 2)) (k : Wq p e below En Q (T.setTop (mkF m pc' ls (.int v :: st)))) (hpc : pc + 2 = pc' := by rfl) : Wq p e below En Q (T.setTop (mkF m pc ls st)) := by subst hpc; exact Wq.step (fun _ q => X.ldcInt hx hown (mvT hZ w) (g := mkF m pc ls st) rfl hd _ q) k
theorem Ow.ldcwInt (X : Stand p l e R s m args below meth c T locs cells slots) (hx : p.tables.exec = Jvm.exec) (hZ : Z.Warmed39 s.vm) {a0 : Array Value} {own : String} {index : Nat} {v : Int32} {pc pc' : Nat} {ls : Array Slot} {st : List Value} (hown : s.vm.findClass own = some m.cls) (w : (Cond.constant own index v).before a0 Z = true) (hd : decode c.code pc = .ok (.ldc_w index, 3)) (k : Wq p e below En Q (T.setTop (mkF m pc' ls (.int v :: st)))) (hpc : pc + 3 = pc' := by rfl) : Wq p e below En Q (T.setTop (mkF m pc ls st)) := by subst hpc; exact Wq.step (fun _ q => X.ldcwInt hx hown (mvT hZ w) (g := mkF m pc ls st) rfl hd _ q) k
theorem Ow.ldc2Long (X : Stand p l e R s m args below meth c T locs cells slots) (hx : p.tables.exec = Jvm.exec) (hZ : Z.Warmed39 s.vm) {a0 : Array Value} {own : String} {index : Nat} {v : Int64} {pc pc' : Nat} {ls : Array Slot} {st : List Value} (hown : s.vm.findClass own = some m.cls) (w : (Cond.constantLong own index v).before a0 Z = true) (hd : decode c.code pc = .ok (.ldc2_w index, 3)) (k : Wq p e below En Q (T.setTop (mkF m pc' ls (.long v :: st)))) (hpc : pc + 3 = pc' := by rfl) : Wq p e below En Q (T.setTop (mkF m pc ls st)) := by subst hpc; exact Wq.step (fun _ q => X.ldc2Long hx hown (mvT hZ w) (g := mkF m pc ls st) rfl hd _ q) k
theorem Ow.ldI (X : Stand p l e R s m args below meth c T locs cells slots) (hx : p.tables.exec = Jvm.exec) (hZ : Z.Warmed39 s.vm) (eT : T.heap = h) (V : Al Z h a .int vs) {pc pc' : Nat} {ls : Array Slot} {st : List Value} {j : Int32} {i : Nat} (hd : decode c.code pc = .ok (.iaload, 1)) (hj : ¬ j < 0) (hi : j.toNatClampNeg = i) (hv : vs[i]? = some v) (k : Wq p e below En Q (T.setTop (mkF m pc' ls (v :: st)))) (hpc : pc + 1 = pc' := by rfl) : Wq p e below En Q (T.setTop (mkF m pc ls (.int j :: .ref a :: st))) := by subst hpc; exact Wq.step (fun _ q => Jvm.OwnW.ldI X hx hZ eT V hj hi hv (g := mkF m pc ls (.int j :: .ref a :: st)) rfl rfl hd q) k
theorem Ow.ldJ (X : Stand p l e R s m args below meth c T locs cells slots) (hx : p.tables.exec = Jvm.exec) (hZ : Z.Warmed39 s.vm) (eT : T.heap = h) (V : Al Z h a .long vs) {pc pc' : Nat} {ls : Array Slot} {st : List Value} {j : Int32} {i : Nat} (hd : decode c.code pc = .ok (.laload, 1)) (hj : ¬ j < 0) (hi : j.toNatClampNeg = i) (hv : vs[i]? = some v) (k : Wq p e below En Q (T.setTop (mkF m pc' ls (v :: st)))) (hpc : pc + 1 = pc' := by rfl) : Wq p e below En Q (T.setTop (mkF m pc ls (.int j :: .ref a :: st))) := by subst hpc; exact Wq.step (fun _ q => Jvm.OwnW.ldJ X hx hZ eT V hj hi hv (g := mkF m pc ls (.int j :: .ref a :: st)) rfl rfl hd q) k
theorem Ow.ldC (X : Stand p l e R s m args below meth c T locs cells slots) (hx : p.tables.exec = Jvm.exec) (hZ : Z.Warmed39 s.vm) (eT : T.heap = h) (V : Al Z h a .char vs) {pc pc' : Nat} {ls : Array Slot} {st : List Value} {j : Int32} {i : Nat} (hd : decode c.code pc = .ok (.caload, 1)) (hj : ¬ j < 0) (hi : j.toNatClampNeg = i) (hv : vs[i]? = some v) (k : Wq p e below En Q (T.setTop (mkF m pc' ls (v :: st)))) (hpc : pc + 1 = pc' := by rfl) : Wq p e below En Q (T.setTop (mkF m pc ls (.int j :: .ref a :: st))) := by subst hpc; exact Wq.step (fun _ q => Jvm.OwnW.ldC X hx hZ eT V hj hi hv (g := mkF m pc ls (.int j :: .ref a :: st)) rfl rfl hd q) k
theorem Ow.ldB (X : Stand p l e R s m args below meth c T locs cells slots) (hx : p.tables.exec = Jvm.exec) (hZ : Z.Warmed39 s.vm) (eT : T.heap = h) (V : Al Z h a .byte vs) {pc pc' : Nat} {ls : Array Slot} {st : List Value} {j : Int32} {i : Nat} (hd : decode c.code pc = .ok (.baload, 1)) (hj : ¬ j < 0) (hi : j.toNatClampNeg = i) (hv : vs[i]? = some v) (k : Wq p e below En Q (T.setTop (mkF m pc' ls (v :: st)))) (hpc : pc + 1 = pc' := by rfl) : Wq p e below En Q (T.setTop (mkF m pc ls (.int j :: .ref a :: st))) := by subst hpc; exact Wq.step (fun _ q => Jvm.OwnW.ldB X hx hZ eT V hj hi hv (g := mkF m pc ls (.int j :: .ref a :: st)) rfl rfl hd q) k
theorem Ow.ldZ (X : Stand p l e R s m args below meth c T locs cells slots) (hx : p.tables.exec = Jvm.exec) (hZ : Z.Warmed39 s.vm) (eT : T.heap = h) (V : Al Z h a .boolean vs) {pc pc' : Nat} {ls : Array Slot} {st : List Value} {j : Int32} {i : Nat} (hd : decode c.code pc = .ok (.baload, 1)) (hj : ¬ j < 0) (hi : j.toNatClampNeg = i) (hv : vs[i]? = some v) (k : Wq p e below En Q (T.setTop (mkF m pc' ls (v :: st)))) (hpc : pc + 1 = pc' := by rfl) : Wq p e below En Q (T.setTop (mkF m pc ls (.int j :: .ref a :: st))) := by subst hpc; exact Wq.step (fun _ q => Jvm.OwnW.ldZ X hx hZ eT V hj hi hv (g := mkF m pc ls (.int j :: .ref a :: st)) rfl rfl hd q) k
theorem Ow.ldR (X : Stand p l e R s m args below meth c T locs cells slots) (hx : p.tables.exec = Jvm.exec) (hZ : Z.Warmed39 s.vm) (eT : T.heap = h) (V : Al Z h a ty vs) (hty : ty.isReference = true) {pc pc' : Nat} {ls : Array Slot} {st : List Value} {j : Int32} {i : Nat} (hd : decode c.code pc = .ok (.aaload, 1)) (hj : ¬ j < 0) (hi : j.toNatClampNeg = i) (hv : vs[i]? = some v) (k : Wq p e below En Q (T.setTop (mkF m pc' ls (v :: st)))) (hpc : pc + 1 = pc' := by rfl) : Wq p e below En Q (T.setTop (mkF m pc ls (.int j :: .ref a :: st))) := by
  subst hpc
  obtain ⟨cl, A, r⟩ := V
  exact Wq.step (fun _ q => X.aaload hx (by rw [eT]; exact A.1) (State.isArrayOf_alike hZ.alike A.2.1) hty A.2.2 (al_in r hj hi (al_lt hv)) (al_at r hi hv) (g := mkF m pc ls (.int j :: .ref a :: st)) rfl rfl hd _ q) k
theorem Ow.lenA (X : Stand p l e R s m args below meth c T locs cells slots) (hx : p.tables.exec = Jvm.exec) (hZ : Z.Warmed39 s.vm) (eT : T.heap = h) (V : Al Z h a ty vs) {pc pc' : Nat} {ls : Array Slot} {st : List Value} {n : Int32} (hd : decode c.code pc = .ok (.arraylength, 1)) (hn : vs.length.toInt32 = n) (k : Wq p e below En Q (T.setTop (mkF m pc' ls (.int n :: st)))) (hpc : pc + 1 = pc' := by rfl) : Wq p e below En Q (T.setTop (mkF m pc ls (.ref a :: st))) := by subst hpc; exact Wq.step (fun _ q => Jvm.OwnW.lenA X hx hZ eT V hn (g := mkF m pc ls (.ref a :: st)) rfl rfl hd q) k
end Base
end Jvm.OwnW
namespace Jvm.Pilot.@@N@@
open Jvm Jvm.ClassFile Sem Op Lib Jvm.Free Jvm.Stand Jvm.LawKit Jvm.RoadKit Jvm.OwnW Bundle Jvm.Pilot.@@N@@.Jvm.D
theorem kw7 {Z : State} {a0 : Array Value} (hw : ∀ d ∈ tables_1, d.before a0 Z = true) : (Jvm.Cond.methodLink "com/example/strata/strata/io/ChunkIndex" (3 : Nat) ({ cls := "java/lang/Object", name := "<init>", desc := "()V" } : Jvm.MethodName)).before a0 Z = true := hw _ (List.mem_of_getElem? (i := 7) rfl)
theorem kw8 {Z : State} {a0 : Array Value} (hw : ∀ d ∈ tables_1, d.before a0 Z = true) : (Jvm.Cond.instanceMethod ({ cls := "java/lang/Object", name := "<init>", desc := "()V" } : Jvm.MethodName)).before a0 Z = true := hw _ (List.mem_of_getElem? (i := 8) rfl)
theorem kw9 {Z : State} {a0 : Array Value} (hw : ∀ d ∈ tables_1, d.before a0 Z = true) : (Jvm.Cond.code ({ cls := "java/lang/Object", name := "<init>", desc := "()V" } : Jvm.MethodName) object_method_1_code (1 : Nat) (Option.none : Option Jvm.ClassFile.FieldType)).before a0 Z = true := hw _ (List.mem_of_getElem? (i := 9) rfl)
theorem kw11 {Z : State} {a0 : Array Value} (hw : ∀ d ∈ tables_1, d.before a0 Z = true) : (Jvm.Cond.laysFinal "com/example/strata/strata/io/ChunkIndex" "com/example/strata/strata/io/ChunkIndex" "chunkSize" "I").before a0 Z = true := hw _ (List.mem_of_getElem? (i := 11) rfl)
theorem kw10 {Z : State} {a0 : Array Value} (hw : ∀ d ∈ tables_1, d.before a0 Z = true) : (Jvm.Cond.fieldLink "com/example/strata/strata/io/ChunkIndex" (9 : Nat) "com/example/strata/strata/io/ChunkIndex" "chunkSize" "I").before a0 Z = true := hw _ (List.mem_of_getElem? (i := 10) rfl)
theorem kw2 {Z : State} {a0 : Array Value} (hw : ∀ d ∈ tables_1, d.before a0 Z = true) : (Jvm.Cond.instantiable "com/example/strata/strata/io/ChunkIndex" (3 : Nat)).before a0 Z = true := hw _ (List.mem_of_getElem? (i := 2) rfl)
theorem kw13 {Z : State} {a0 : Array Value} (hw : ∀ d ∈ tables_1, d.before a0 Z = true) : (Jvm.Cond.laysFinal "com/example/strata/strata/io/ChunkIndex" "com/example/strata/strata/io/ChunkIndex" "logSize" "J").before a0 Z = true := hw _ (List.mem_of_getElem? (i := 13) rfl)
theorem kw15 {Z : State} {a0 : Array Value} (hw : ∀ d ∈ tables_1, d.before a0 Z = true) : (Jvm.Cond.laysFinal "com/example/strata/strata/io/ChunkIndex" "com/example/strata/strata/io/ChunkIndex" "storedStarts" "[J").before a0 Z = true := hw _ (List.mem_of_getElem? (i := 15) rfl)
theorem kw12 {Z : State} {a0 : Array Value} (hw : ∀ d ∈ tables_1, d.before a0 Z = true) : (Jvm.Cond.fieldLink "com/example/strata/strata/io/ChunkIndex" (15 : Nat) "com/example/strata/strata/io/ChunkIndex" "logSize" "J").before a0 Z = true := hw _ (List.mem_of_getElem? (i := 12) rfl)
theorem kw0 {Z : State} {a0 : Array Value} (hw : ∀ d ∈ tables_1, d.before a0 Z = true) : (Jvm.Cond.arrayClass Jvm.ClassFile.FieldType.long).before a0 Z = true := hw _ (List.mem_of_getElem? (i := 0) rfl)
theorem kw14 {Z : State} {a0 : Array Value} (hw : ∀ d ∈ tables_1, d.before a0 Z = true) : (Jvm.Cond.fieldLink "com/example/strata/strata/io/ChunkIndex" (19 : Nat) "com/example/strata/strata/io/ChunkIndex" "storedStarts" "[J").before a0 Z = true := hw _ (List.mem_of_getElem? (i := 14) rfl)
theorem d_prog_14_method_1_0 : decode prog_14_method_1_code 0 = .ok (.aload_n 0, 1) := by decide +kernel
theorem d_prog_14_method_1_1 : decode prog_14_method_1_code 1 = .ok (.invokespecial 3, 3) := by decide +kernel
theorem d_prog_14_method_1_4 : decode prog_14_method_1_code 4 = .ok (.aload_n 0, 1) := by decide +kernel
theorem d_prog_14_method_1_5 : decode prog_14_method_1_code 5 = .ok (.iload_n 1, 1) := by decide +kernel
theorem d_prog_14_method_1_6 : decode prog_14_method_1_code 6 = .ok (.putfield 9, 3) := by decide +kernel
theorem d_prog_14_method_1_9 : decode prog_14_method_1_code 9 = .ok (.aload_n 0, 1) := by decide +kernel
theorem d_prog_14_method_1_10 : decode prog_14_method_1_code 10 = .ok (.lload_n 2, 1) := by decide +kernel
theorem d_prog_14_method_1_11 : decode prog_14_method_1_code 11 = .ok (.putfield 15, 3) := by decide +kernel
theorem d_prog_14_method_1_14 : decode prog_14_method_1_code 14 = .ok (.aload_n 0, 1) := by decide +kernel
theorem d_prog_14_method_1_15 : decode prog_14_method_1_code 15 = .ok (.aload 4, 2) := by decide +kernel
theorem d_prog_14_method_1_17 : decode prog_14_method_1_code 17 = .ok (.arraylength, 1) := by decide +kernel
theorem d_prog_14_method_1_18 : decode prog_14_method_1_code 18 = .ok (.iconst 1, 1) := by decide +kernel
theorem d_prog_14_method_1_19 : decode prog_14_method_1_code 19 = .ok (.iadd, 1) := by decide +kernel
theorem d_prog_14_method_1_20 : decode prog_14_method_1_code 20 = .ok (.newarray .long, 2) := by decide +kernel
theorem d_prog_14_method_1_22 : decode prog_14_method_1_code 22 = .ok (.putfield 19, 3) := by decide +kernel
theorem d_prog_14_method_1_25 : decode prog_14_method_1_code 25 = .ok (.iconst 0, 1) := by decide +kernel
theorem d_prog_14_method_1_26 : decode prog_14_method_1_code 26 = .ok (.istore 5, 2) := by decide +kernel
theorem d_prog_14_method_1_28 : decode prog_14_method_1_code 28 = .ok (.iload 5, 2) := by decide +kernel
theorem d_prog_14_method_1_30 : decode prog_14_method_1_code 30 = .ok (.aload 4, 2) := by decide +kernel
theorem d_prog_14_method_1_32 : decode prog_14_method_1_code 32 = .ok (.arraylength, 1) := by decide +kernel
theorem d_prog_14_method_1_33 : decode prog_14_method_1_code 33 = .ok (.if_icmp .ge 31, 3) := by decide +kernel
theorem d_prog_14_method_1_36 : decode prog_14_method_1_code 36 = .ok (.aload_n 0, 1) := by decide +kernel
theorem d_prog_14_method_1_37 : decode prog_14_method_1_code 37 = .ok (.getfield 19, 3) := by decide +kernel
theorem d_prog_14_method_1_40 : decode prog_14_method_1_code 40 = .ok (.iload 5, 2) := by decide +kernel
theorem d_prog_14_method_1_42 : decode prog_14_method_1_code 42 = .ok (.iconst 1, 1) := by decide +kernel
theorem d_prog_14_method_1_43 : decode prog_14_method_1_code 43 = .ok (.iadd, 1) := by decide +kernel
theorem d_prog_14_method_1_44 : decode prog_14_method_1_code 44 = .ok (.aload_n 0, 1) := by decide +kernel
theorem d_prog_14_method_1_45 : decode prog_14_method_1_code 45 = .ok (.getfield 19, 3) := by decide +kernel
theorem d_prog_14_method_1_48 : decode prog_14_method_1_code 48 = .ok (.iload 5, 2) := by decide +kernel
theorem d_prog_14_method_1_50 : decode prog_14_method_1_code 50 = .ok (.laload, 1) := by decide +kernel
theorem d_prog_14_method_1_51 : decode prog_14_method_1_code 51 = .ok (.aload 4, 2) := by decide +kernel
theorem d_prog_14_method_1_53 : decode prog_14_method_1_code 53 = .ok (.iload 5, 2) := by decide +kernel
theorem d_prog_14_method_1_55 : decode prog_14_method_1_code 55 = .ok (.laload, 1) := by decide +kernel
theorem d_prog_14_method_1_56 : decode prog_14_method_1_code 56 = .ok (.ladd, 1) := by decide +kernel
theorem d_prog_14_method_1_57 : decode prog_14_method_1_code 57 = .ok (.lastore, 1) := by decide +kernel
theorem d_prog_14_method_1_58 : decode prog_14_method_1_code 58 = .ok (.iinc 5 1, 3) := by decide +kernel
theorem d_prog_14_method_1_61 : decode prog_14_method_1_code 61 = .ok (.goto (-33), 3) := by decide +kernel
theorem pn1 : plainName "com/example/strata/strata/io/ChunkIndex" = true := by first | (simp [plainName, overriddenIn]; done) | decide +kernel
theorem ef_ctor (m : MethodId) (thisctor : Addr) (xctor_1 : Int32) (yctor_2 : Int64) (actor_3 : Addr) : entryFrame m #[(.ref thisctor), (.int xctor_1), (.long yctor_2), (.ref actor_3)] 6 = mkF m 0 #[.val (.ref thisctor), .val (.int xctor_1), .val (.long yctor_2), .second, .val (.ref actor_3), .unset] [] := by first | (simp [entryFrame, mkF, argsToLocals, Value.category]; done) | rfl
def Q_ctor (Z : State) (thisctor : Addr) (xctor_1 : Int32) (yctor_2 : Int64) (actor_3 : Addr) (yA : Int64) (yB : Int64) (yC : Int64) (h0 : Heap) (n0 : Nat) (v : Option Value) (h : Heap) (L : List Loc) : Prop := ∃ b4 : Addr, v = none ∧ Fr n0 L ∧ Keep h0 h [thisctor] ∧ h0.size ≤ b4 ∧ Exa Z h thisctor "com/example/strata/strata/io/ChunkIndex" ∧ Fld Z h thisctor "com/example/strata/strata/io/ChunkIndex" "chunkSize" "I" (.int xctor_1) ∧ Fld Z h thisctor "com/example/strata/strata/io/ChunkIndex" "logSize" "J" (.long yctor_2) ∧ Fld Z h thisctor "com/example/strata/strata/io/ChunkIndex" "storedStarts" "[J" (.ref b4) ∧ Al Z h b4 .long [(.long (0 : Int64)), (.long ((0 : Int64) + yA)), (.long (((0 : Int64) + yA) + yB)), (.long ((((0 : Int64) + yA) + yB) + yC))]
theorem d_prog_14_method_1_64 : decode prog_14_method_1_code 64 = .ok (.return_, 1) := by decide +kernel
abbrev mt1 : MethodName := ⟨"com/example/strata/strata/io/ChunkIndex", "<init>", "(IJ[J)V"⟩
set_option maxRecDepth 65536 in
set_option maxHeartbeats 40000000 in
theorem rm_ctor (l : Launch) (Z : State) (a0 : Array Value) (hw : ∀ d ∈ tables_1, d.before a0 Z = true) (ws : List Jvm.Cond) (thisctor : Addr) (xctor_1 : Int32) (yctor_2 : Int64) (actor_3 : Addr) (yA : Int64) (yB : Int64) (yC : Int64) (h0 : Heap) (n0 : Nat) (Z0 : n0 ≤ h0.size) (E_thisctor : Exa Z h0 thisctor "com/example/strata/strata/io/ChunkIndex") (F_thisctor_chunkSize : Fld Z h0 thisctor "com/example/strata/strata/io/ChunkIndex" "chunkSize" "I" (.int (0 : Int32))) (F_thisctor_logSize : Fld Z h0 thisctor "com/example/strata/strata/io/ChunkIndex" "logSize" "J" (.long (0 : Int64))) (F_thisctor_storedStarts : Fld Z h0 thisctor "com/example/strata/strata/io/ChunkIndex" "storedStarts" "[J" .null) (g_thisctor : n0 ≤ thisctor) (V_actor_3 : Al Z h0 actor_3 .long [(.long yA), (.long yB), (.long yC)]) (ne_actor_3_thisctor : actor_3 ≠ thisctor) :
    MetFree l mt1 (head1 (Jvm.Cond.code mt1 prog_14_method_1_code 6 none :: ws) ({ frames := 1, cells := 1, slots := 4, locals := 12 } : Room)) (fun a U => a = #[(.ref thisctor), (.int xctor_1), (.long yctor_2), (.ref actor_3)] ∧ Z.Warmed39 U.vm ∧ U.heap = h0) (fun _ _ _ _ _ => True) (fun _ U o U' => ∃ v L, o = .returned v ∧ (Q_ctor Z thisctor xctor_1 yctor_2 actor_3 yA yB yC h0 n0) v U'.heap L ∧ FrameEnd U o U' L ({ frames := 1, cells := 1, slots := 4, locals := 12 } : Room).cells ({ frames := 1, cells := 1, slots := 4, locals := 12 } : Room).slots) := by
  refine MetFree.of_bodySF (plainFor_of_name pn1) hisR ?_
  intro p e s m args below meth c s₁ Bd hml0 hP hK
  obtain ⟨rfl, hZ, hh⟩ := hP
  have hx := Bd.exec
  have hby := Bd.bytes
  have hml : c.maxLocals = 6 := hml0
  have hown : s.vm.findClass "com/example/strata/strata/io/ChunkIndex" = some m.cls := findClass_of_methodNamed Bd.named
  have hnm := (name_of_methodNamed Bd.named Bd.method).1
  have X0 : Stand p l e ({ frames := 1, cells := 1, slots := 4, locals := 12 } : Room) s m #[(.ref thisctor), (.int xctor_1), (.long yctor_2), (.ref actor_3)] below meth c s₁ [] 0 0 := Stand.of_body Bd
  have e0 : s₁.heap = h0 := by rw [← hh, Bd.state]; rfl
  have N0 := Fr.nil n0
  refine Wq.step (p := p) (e := e) (below := below) (En := (fun o t L => FrameEnd s o t L ({ frames := 1, cells := 1, slots := 4, locals := 12 } : Room).cells ({ frames := 1, cells := 1, slots := 4, locals := 12 } : Room).slots)) (Q := (Q_ctor Z thisctor xctor_1 yctor_2 actor_3 yA yB yC h0 n0)) (fun t k => castTop (ef_ctor m thisctor xctor_1 yctor_2 actor_3) k) ?_
  show Wq _ _ _ _ _ (s₁.setTop (mkF m 0 #[.val (.ref thisctor), .val (.int xctor_1), .val (.long yctor_2), .second, .val (.ref actor_3), .unset] []))
  refine Ow.aloadN X0 hx (pc' := 1) (hb hby d_prog_14_method_1_0) rfl rfl ?_
  obtain ⟨T1, X1, e1, st1⟩ := initO X0 hx hZ hown (kw7 hw) (kw8 hw) (kw9 hw) e0 (g := (mkF m 1 #[.val (.ref thisctor), .val (.int xctor_1), .val (.long yctor_2), .second, .val (.ref actor_3), .unset] [(.ref thisctor)])) rfl (by rw [hml]; rfl) rfl (hb hby d_prog_14_method_1_1) (by decide) (W := 0) (by show 2 * 0 + _ ≤ _; exact Nat.le_of_eq rfl) (by decide)
  refine Wq.step st1 ?_
  show Wq _ _ _ _ _ (T1.setTop (mkF m 4 #[.val (.ref thisctor), .val (.int xctor_1), .val (.long yctor_2), .second, .val (.ref actor_3), .unset] []))
  refine Ow.aloadN X1 hx (pc' := 5) (hb hby d_prog_14_method_1_4) rfl rfl ?_
  refine Ow.iloadN X1 hx (pc' := 6) (hb hby d_prog_14_method_1_5) rfl ?_
  obtain ⟨T2, h2, X2, e2, W2, st2⟩ := putF X1 hx hZ hown (host := "") (Or.inl (kw10 hw)) Via.refl e1 F_thisctor_chunkSize E_thisctor (Or.inr ⟨(kw11 hw), rfl, hnm⟩) (kw2 hw) (ty := .int) (by decide) (rfl) (rfl) (g := (mkF m 6 #[.val (.ref thisctor), .val (.int xctor_1), .val (.long yctor_2), .second, .val (.ref actor_3), .unset] [(.int xctor_1), (.ref thisctor)])) rfl rfl (hb hby d_prog_14_method_1_6)
  refine Wq.step st2 ?_
  have N2 := Fr.snoc X2 N0 g_thisctor
  have K2 : Keep h0 h2 [thisctor] := (Keep.refl h0 [thisctor]).wr W2 (Or.inl (List.mem_of_getElem? (i := 0) rfl))
  have Z2 : n0 ≤ h2.size := Nat.le_trans Z0 (Keep.of_wr W2).1
  have E_thisctor_t2 := E_thisctor.wr W2
  have F_thisctor_logSize_t2 := F_thisctor_logSize.other W2 (Or.inr (slot_ne (Or.inr (kw13 hw)) (Or.inr (kw11 hw)) (by decide) (t := .long) (t' := .int) (by decide) (by decide)))
  have F_thisctor_storedStarts_t2 := F_thisctor_storedStarts.other W2 (Or.inr (slot_ne (Or.inr (kw15 hw)) (Or.inr (kw11 hw)) (by decide) (t := (.array .long)) (t' := .int) (by decide) (by decide)))
  have V_actor_3_t2 := V_actor_3.other W2 ne_actor_3_thisctor
  have F_thisctor_chunkSize_t2 : Fld Z h2 thisctor "com/example/strata/strata/io/ChunkIndex" "chunkSize" "I" (.int xctor_1) := F_thisctor_chunkSize.same W2
  show Wq _ _ _ _ _ (T2.setTop (mkF m 9 #[.val (.ref thisctor), .val (.int xctor_1), .val (.long yctor_2), .second, .val (.ref actor_3), .unset] []))
  refine Ow.aloadN X2 hx (pc' := 10) (hb hby d_prog_14_method_1_9) rfl rfl ?_
  refine Ow.lloadN X2 hx (pc' := 11) (hb hby d_prog_14_method_1_10) rfl ?_
  obtain ⟨T3, h3, X3, e3, W3, st3⟩ := putF X2 hx hZ hown (host := "") (Or.inl (kw12 hw)) Via.refl e2 F_thisctor_logSize_t2 E_thisctor_t2 (Or.inr ⟨(kw13 hw), rfl, hnm⟩) (kw2 hw) (ty := .long) (by decide) (rfl) (rfl) (g := (mkF m 11 #[.val (.ref thisctor), .val (.int xctor_1), .val (.long yctor_2), .second, .val (.ref actor_3), .unset] [(.long yctor_2), (.ref thisctor)])) rfl rfl (hb hby d_prog_14_method_1_11)
  refine Wq.step st3 ?_
  have N3 := Fr.snoc X3 N2 g_thisctor
  have K3 : Keep h0 h3 [thisctor] := K2.wr W3 (Or.inl (List.mem_of_getElem? (i := 0) rfl))
  have Z3 : n0 ≤ h3.size := Nat.le_trans Z2 (Keep.of_wr W3).1
  have E_thisctor_t3 := E_thisctor_t2.wr W3
  have F_thisctor_storedStarts_t3 := F_thisctor_storedStarts_t2.other W3 (Or.inr (slot_ne (Or.inr (kw15 hw)) (Or.inr (kw13 hw)) (by decide) (t := (.array .long)) (t' := .long) (by decide) (by decide)))
  have V_actor_3_t3 := V_actor_3_t2.other W3 ne_actor_3_thisctor
  have F_thisctor_chunkSize_t3 := F_thisctor_chunkSize_t2.other W3 (Or.inr (slot_ne (Or.inr (kw11 hw)) (Or.inr (kw13 hw)) (by decide) (t := .int) (t' := .long) (by decide) (by decide)))
  have F_thisctor_logSize_t3 : Fld Z h3 thisctor "com/example/strata/strata/io/ChunkIndex" "logSize" "J" (.long yctor_2) := F_thisctor_logSize_t2.same W3
  show Wq _ _ _ _ _ (T3.setTop (mkF m 14 #[.val (.ref thisctor), .val (.int xctor_1), .val (.long yctor_2), .second, .val (.ref actor_3), .unset] []))
  refine Ow.aloadN X3 hx (pc' := 15) (hb hby d_prog_14_method_1_14) rfl rfl ?_
  refine Ow.aload X3 hx (pc' := 17) (hb hby d_prog_14_method_1_15) rfl rfl ?_
  refine Ow.lenA X3 hx hZ e3 V_actor_3_t3 (pc' := 18) (hb hby d_prog_14_method_1_17) (n := (3 : Int32)) (rfl) ?_
  refine Ow.iconst X3 hx (pc' := 19) (hb hby d_prog_14_method_1_18) (z := (1 : Int32)) rfl ?_
  refine Ow.iadd X3 hx (pc' := 20) (hb hby d_prog_14_method_1_19) (z := (4 : Int32)) rfl ?_
  obtain ⟨T4, h4, k4, X4, e4, E4, A4, st4⟩ := newP X3 hx hZ (aty := .long) (kw0 hw) e3 (g := (mkF m 20 #[.val (.ref thisctor), .val (.int xctor_1), .val (.long yctor_2), .second, .val (.ref actor_3), .unset] [(.int (4 : Int32)), (.ref thisctor)])) rfl (hb hby d_prog_14_method_1_20) rfl (by decide) (cap := 4) (by decide) (by decide) (by decide) (by decide)
  obtain ⟨b4, gz4⟩ : ∃ z, z = h3.size := ⟨_, rfl⟩
  rw [← gz4] at A4 st4
  have g_b4 : n0 ≤ b4 := Nat.le_trans Z3 (Nat.le_of_eq gz4.symm)
  have sz_b4 : h0.size ≤ b4 := Nat.le_trans K3.1 (Nat.le_of_eq gz4.symm)
  have ne_thisctor_b4 : thisctor ≠ b4 := Nat.ne_of_lt (Nat.lt_of_lt_of_le E_thisctor_t3.lt (Nat.le_of_eq gz4.symm))
  have ne_actor_3_b4 : actor_3 ≠ b4 := Nat.ne_of_lt (Nat.lt_of_lt_of_le V_actor_3_t3.lt (Nat.le_of_eq gz4.symm))
  have K4 : Keep h0 h4 [thisctor] := K3.ext E4
  have Z4 : n0 ≤ h4.size := Nat.le_trans Z3 E4.1
  have E_thisctor_t4 := E_thisctor_t3.ext E4
  have F_thisctor_storedStarts_t4 := F_thisctor_storedStarts_t3.ext E4
  have V_actor_3_t4 := V_actor_3_t3.ext E4
  have F_thisctor_chunkSize_t4 := F_thisctor_chunkSize_t3.ext E4
  have F_thisctor_logSize_t4 := F_thisctor_logSize_t3.ext E4
  have V_b4 : Al Z h4 b4 .long [(.long (0 : Int64)), (.long (0 : Int64)), (.long (0 : Int64)), (.long (0 : Int64))] := Al.new A4 (k := 4) (rfl) rfl
  refine Wq.step st4 ?_
  show Wq _ _ _ _ _ (T4.setTop (mkF m 22 #[.val (.ref thisctor), .val (.int xctor_1), .val (.long yctor_2), .second, .val (.ref actor_3), .unset] [(.ref b4), (.ref thisctor)]))
  obtain ⟨T5, h5, X5, e5, W5, st5⟩ := putF X4 hx hZ hown (host := "") (Or.inl (kw14 hw)) Via.refl e4 F_thisctor_storedStarts_t4 E_thisctor_t4 (Or.inr ⟨(kw15 hw), rfl, hnm⟩) (kw2 hw) (ty := (.array .long)) (by decide) (rfl) (rfl) (g := (mkF m 22 #[.val (.ref thisctor), .val (.int xctor_1), .val (.long yctor_2), .second, .val (.ref actor_3), .unset] [(.ref b4), (.ref thisctor)])) rfl rfl (hb hby d_prog_14_method_1_22)
  refine Wq.step st5 ?_
  have N5 := Fr.snoc X5 N3 g_thisctor
  have K5 : Keep h0 h5 [thisctor] := K4.wr W5 (Or.inl (List.mem_of_getElem? (i := 0) rfl))
  have Z5 : n0 ≤ h5.size := Nat.le_trans Z4 (Keep.of_wr W5).1
  have E_thisctor_t5 := E_thisctor_t4.wr W5
  have V_actor_3_t5 := V_actor_3_t4.other W5 ne_actor_3_thisctor
  have F_thisctor_chunkSize_t5 := F_thisctor_chunkSize_t4.other W5 (Or.inr (slot_ne (Or.inr (kw11 hw)) (Or.inr (kw15 hw)) (by decide) (t := .int) (t' := (.array .long)) (by decide) (by decide)))
  have F_thisctor_logSize_t5 := F_thisctor_logSize_t4.other W5 (Or.inr (slot_ne (Or.inr (kw13 hw)) (Or.inr (kw15 hw)) (by decide) (t := .long) (t' := (.array .long)) (by decide) (by decide)))
  have V_b4_t5 := V_b4.other W5 (Ne.symm ne_thisctor_b4)
  have F_thisctor_storedStarts_t5 : Fld Z h5 thisctor "com/example/strata/strata/io/ChunkIndex" "storedStarts" "[J" (.ref b4) := F_thisctor_storedStarts_t4.same W5
  show Wq _ _ _ _ _ (T5.setTop (mkF m 25 #[.val (.ref thisctor), .val (.int xctor_1), .val (.long yctor_2), .second, .val (.ref actor_3), .unset] []))
  refine Ow.iconst X5 hx (pc' := 26) (hb hby d_prog_14_method_1_25) (z := (0 : Int32)) rfl ?_
  refine Ow.istore X5 hx (pc' := 28) (hb hby d_prog_14_method_1_26) (l' := #[.val (.ref thisctor), .val (.int xctor_1), .val (.long yctor_2), .second, .val (.ref actor_3), .val (.int (0 : Int32))]) rfl ?_
  refine Ow.iload X5 hx (pc' := 30) (hb hby d_prog_14_method_1_28) rfl ?_
  refine Ow.aload X5 hx (pc' := 32) (hb hby d_prog_14_method_1_30) rfl rfl ?_
  refine Ow.lenA X5 hx hZ e5 V_actor_3_t5 (pc' := 33) (hb hby d_prog_14_method_1_32) (n := (3 : Int32)) (rfl) ?_
  refine Ow.icmpNo X5 hx (pc' := 36) (hb hby d_prog_14_method_1_33) (tlt (by decide : (0 : Int32) < (3 : Int32))).2.1 ?_
  refine Ow.aloadN X5 hx (pc' := 37) (hb hby d_prog_14_method_1_36) rfl rfl ?_
  obtain ⟨T6, X6, e6, st6⟩ := getF X5 hx hZ hown (host := "") (Or.inl (kw14 hw)) Via.refl e5 F_thisctor_storedStarts_t5 (g := (mkF m 37 #[.val (.ref thisctor), .val (.int xctor_1), .val (.long yctor_2), .second, .val (.ref actor_3), .val (.int (0 : Int32))] [(.ref thisctor)])) rfl rfl (hb hby d_prog_14_method_1_37)
  refine Wq.step st6 ?_
  show Wq _ _ _ _ _ (T6.setTop (mkF m 40 #[.val (.ref thisctor), .val (.int xctor_1), .val (.long yctor_2), .second, .val (.ref actor_3), .val (.int (0 : Int32))] [(.ref b4)]))
  refine Ow.iload X6 hx (pc' := 42) (hb hby d_prog_14_method_1_40) rfl ?_
  refine Ow.iconst X6 hx (pc' := 43) (hb hby d_prog_14_method_1_42) (z := (1 : Int32)) rfl ?_
  refine Ow.iadd X6 hx (pc' := 44) (hb hby d_prog_14_method_1_43) (z := (1 : Int32)) rfl ?_
  refine Ow.aloadN X6 hx (pc' := 45) (hb hby d_prog_14_method_1_44) rfl rfl ?_
  obtain ⟨T7, X7, e7, st7⟩ := getF X6 hx hZ hown (host := "") (Or.inl (kw14 hw)) Via.refl e6 F_thisctor_storedStarts_t5 (g := (mkF m 45 #[.val (.ref thisctor), .val (.int xctor_1), .val (.long yctor_2), .second, .val (.ref actor_3), .val (.int (0 : Int32))] [(.ref thisctor), (.int (1 : Int32)), (.ref b4)])) rfl rfl (hb hby d_prog_14_method_1_45)
  refine Wq.step st7 ?_
  show Wq _ _ _ _ _ (T7.setTop (mkF m 48 #[.val (.ref thisctor), .val (.int xctor_1), .val (.long yctor_2), .second, .val (.ref actor_3), .val (.int (0 : Int32))] [(.ref b4), (.int (1 : Int32)), (.ref b4)]))
  refine Ow.iload X7 hx (pc' := 50) (hb hby d_prog_14_method_1_48) rfl ?_
  refine Ow.ldJ X7 hx hZ e7 V_b4_t5 (pc' := 51) (hb hby d_prog_14_method_1_50) (j := (0 : Int32)) (i := 0) (v := (.long (0 : Int64))) (by decide) rfl rfl ?_
  refine Ow.aload X7 hx (pc' := 53) (hb hby d_prog_14_method_1_51) rfl rfl ?_
  refine Ow.iload X7 hx (pc' := 55) (hb hby d_prog_14_method_1_53) rfl ?_
  refine Ow.ldJ X7 hx hZ e7 V_actor_3_t5 (pc' := 56) (hb hby d_prog_14_method_1_55) (j := (0 : Int32)) (i := 0) (v := (.long yA)) (by decide) rfl rfl ?_
  refine Ow.ladd X7 hx (pc' := 57) (hb hby d_prog_14_method_1_56) (z := ((0 : Int64) + yA)) rfl ?_
  obtain ⟨T8, h8, X8, e8, W8, Vr8, st8⟩ := asJ X7 hx hZ e7 V_b4_t5 (j := (1 : Int32)) (i := 1) (by decide) rfl (Nat.le_of_ble_eq_true rfl) (g := (mkF m 57 #[.val (.ref thisctor), .val (.int xctor_1), .val (.long yctor_2), .second, .val (.ref actor_3), .val (.int (0 : Int32))] [(.long ((0 : Int64) + yA)), (.int (1 : Int32)), (.ref b4)])) rfl rfl (hb hby d_prog_14_method_1_57)
  refine Wq.step st8 ?_
  have N8 := Fr.snoc X8 N5 g_b4
  have K8 : Keep h0 h8 [thisctor] := K5.wr W8 (Or.inr sz_b4)
  have Z8 : n0 ≤ h8.size := Nat.le_trans Z5 (Keep.of_wr W8).1
  have E_thisctor_t8 := E_thisctor_t5.wr W8
  have V_actor_3_t8 := V_actor_3_t5.other W8 ne_actor_3_b4
  have F_thisctor_chunkSize_t8 := F_thisctor_chunkSize_t5.other W8 (Or.inl ne_thisctor_b4)
  have F_thisctor_logSize_t8 := F_thisctor_logSize_t5.other W8 (Or.inl ne_thisctor_b4)
  have F_thisctor_storedStarts_t8 := F_thisctor_storedStarts_t5.other W8 (Or.inl ne_thisctor_b4)
  have V_b4_t8 : Al Z h8 b4 .long [(.long (0 : Int64)), (.long ((0 : Int64) + yA)), (.long (0 : Int64)), (.long (0 : Int64))] := Vr8
  show Wq _ _ _ _ _ (T8.setTop (mkF m 58 #[.val (.ref thisctor), .val (.int xctor_1), .val (.long yctor_2), .second, .val (.ref actor_3), .val (.int (0 : Int32))] []))
  refine Ow.iinc X8 hx (pc' := 61) (hb hby d_prog_14_method_1_58) rfl (l' := #[.val (.ref thisctor), .val (.int xctor_1), .val (.long yctor_2), .second, .val (.ref actor_3), .val (.int (1 : Int32))]) rfl ?_
  show Wq _ _ _ _ _ (T8.setTop (mkF m 61 #[.val (.ref thisctor), .val (.int xctor_1), .val (.long yctor_2), .second, .val (.ref actor_3), .val (.int (1 : Int32))] []))
  refine Ow.goto X8 hx (pc' := 28) (hb hby d_prog_14_method_1_61) (by decide) (by decide) ?_
  refine Ow.iload X8 hx (pc' := 30) (hb hby d_prog_14_method_1_28) rfl ?_
  refine Ow.aload X8 hx (pc' := 32) (hb hby d_prog_14_method_1_30) rfl rfl ?_
  refine Ow.lenA X8 hx hZ e8 V_actor_3_t8 (pc' := 33) (hb hby d_prog_14_method_1_32) (n := (3 : Int32)) (rfl) ?_
  refine Ow.icmpNo X8 hx (pc' := 36) (hb hby d_prog_14_method_1_33) (tlt (by decide : (1 : Int32) < (3 : Int32))).2.1 ?_
  refine Ow.aloadN X8 hx (pc' := 37) (hb hby d_prog_14_method_1_36) rfl rfl ?_
  obtain ⟨T9, X9, e9, st9⟩ := getF X8 hx hZ hown (host := "") (Or.inl (kw14 hw)) Via.refl e8 F_thisctor_storedStarts_t8 (g := (mkF m 37 #[.val (.ref thisctor), .val (.int xctor_1), .val (.long yctor_2), .second, .val (.ref actor_3), .val (.int (1 : Int32))] [(.ref thisctor)])) rfl rfl (hb hby d_prog_14_method_1_37)
  refine Wq.step st9 ?_
  show Wq _ _ _ _ _ (T9.setTop (mkF m 40 #[.val (.ref thisctor), .val (.int xctor_1), .val (.long yctor_2), .second, .val (.ref actor_3), .val (.int (1 : Int32))] [(.ref b4)]))
  refine Ow.iload X9 hx (pc' := 42) (hb hby d_prog_14_method_1_40) rfl ?_
  refine Ow.iconst X9 hx (pc' := 43) (hb hby d_prog_14_method_1_42) (z := (1 : Int32)) rfl ?_
  refine Ow.iadd X9 hx (pc' := 44) (hb hby d_prog_14_method_1_43) (z := (2 : Int32)) rfl ?_
  refine Ow.aloadN X9 hx (pc' := 45) (hb hby d_prog_14_method_1_44) rfl rfl ?_
  obtain ⟨T10, X10, e10, st10⟩ := getF X9 hx hZ hown (host := "") (Or.inl (kw14 hw)) Via.refl e9 F_thisctor_storedStarts_t8 (g := (mkF m 45 #[.val (.ref thisctor), .val (.int xctor_1), .val (.long yctor_2), .second, .val (.ref actor_3), .val (.int (1 : Int32))] [(.ref thisctor), (.int (2 : Int32)), (.ref b4)])) rfl rfl (hb hby d_prog_14_method_1_45)
  refine Wq.step st10 ?_
  show Wq _ _ _ _ _ (T10.setTop (mkF m 48 #[.val (.ref thisctor), .val (.int xctor_1), .val (.long yctor_2), .second, .val (.ref actor_3), .val (.int (1 : Int32))] [(.ref b4), (.int (2 : Int32)), (.ref b4)]))
  refine Ow.iload X10 hx (pc' := 50) (hb hby d_prog_14_method_1_48) rfl ?_
  refine Ow.ldJ X10 hx hZ e10 V_b4_t8 (pc' := 51) (hb hby d_prog_14_method_1_50) (j := (1 : Int32)) (i := 1) (v := (.long ((0 : Int64) + yA))) (by decide) rfl rfl ?_
  refine Ow.aload X10 hx (pc' := 53) (hb hby d_prog_14_method_1_51) rfl rfl ?_
  refine Ow.iload X10 hx (pc' := 55) (hb hby d_prog_14_method_1_53) rfl ?_
  refine Ow.ldJ X10 hx hZ e10 V_actor_3_t8 (pc' := 56) (hb hby d_prog_14_method_1_55) (j := (1 : Int32)) (i := 1) (v := (.long yB)) (by decide) rfl rfl ?_
  refine Ow.ladd X10 hx (pc' := 57) (hb hby d_prog_14_method_1_56) (z := (((0 : Int64) + yA) + yB)) rfl ?_
  obtain ⟨T11, h11, X11, e11, W11, Vr11, st11⟩ := asJ X10 hx hZ e10 V_b4_t8 (j := (2 : Int32)) (i := 2) (by decide) rfl (Nat.le_of_ble_eq_true rfl) (g := (mkF m 57 #[.val (.ref thisctor), .val (.int xctor_1), .val (.long yctor_2), .second, .val (.ref actor_3), .val (.int (1 : Int32))] [(.long (((0 : Int64) + yA) + yB)), (.int (2 : Int32)), (.ref b4)])) rfl rfl (hb hby d_prog_14_method_1_57)
  refine Wq.step st11 ?_
  have N11 := Fr.snoc X11 N8 g_b4
  have K11 : Keep h0 h11 [thisctor] := K8.wr W11 (Or.inr sz_b4)
  have Z11 : n0 ≤ h11.size := Nat.le_trans Z8 (Keep.of_wr W11).1
  have E_thisctor_t11 := E_thisctor_t8.wr W11
  have V_actor_3_t11 := V_actor_3_t8.other W11 ne_actor_3_b4
  have F_thisctor_chunkSize_t11 := F_thisctor_chunkSize_t8.other W11 (Or.inl ne_thisctor_b4)
  have F_thisctor_logSize_t11 := F_thisctor_logSize_t8.other W11 (Or.inl ne_thisctor_b4)
  have F_thisctor_storedStarts_t11 := F_thisctor_storedStarts_t8.other W11 (Or.inl ne_thisctor_b4)
  have V_b4_t11 : Al Z h11 b4 .long [(.long (0 : Int64)), (.long ((0 : Int64) + yA)), (.long (((0 : Int64) + yA) + yB)), (.long (0 : Int64))] := Vr11
  show Wq _ _ _ _ _ (T11.setTop (mkF m 58 #[.val (.ref thisctor), .val (.int xctor_1), .val (.long yctor_2), .second, .val (.ref actor_3), .val (.int (1 : Int32))] []))
  refine Ow.iinc X11 hx (pc' := 61) (hb hby d_prog_14_method_1_58) rfl (l' := #[.val (.ref thisctor), .val (.int xctor_1), .val (.long yctor_2), .second, .val (.ref actor_3), .val (.int (2 : Int32))]) rfl ?_
  show Wq _ _ _ _ _ (T11.setTop (mkF m 61 #[.val (.ref thisctor), .val (.int xctor_1), .val (.long yctor_2), .second, .val (.ref actor_3), .val (.int (2 : Int32))] []))
  refine Ow.goto X11 hx (pc' := 28) (hb hby d_prog_14_method_1_61) (by decide) (by decide) ?_
  refine Ow.iload X11 hx (pc' := 30) (hb hby d_prog_14_method_1_28) rfl ?_
  refine Ow.aload X11 hx (pc' := 32) (hb hby d_prog_14_method_1_30) rfl rfl ?_
  refine Ow.lenA X11 hx hZ e11 V_actor_3_t11 (pc' := 33) (hb hby d_prog_14_method_1_32) (n := (3 : Int32)) (rfl) ?_
  refine Ow.icmpNo X11 hx (pc' := 36) (hb hby d_prog_14_method_1_33) (tlt (by decide : (2 : Int32) < (3 : Int32))).2.1 ?_
  refine Ow.aloadN X11 hx (pc' := 37) (hb hby d_prog_14_method_1_36) rfl rfl ?_
  obtain ⟨T12, X12, e12, st12⟩ := getF X11 hx hZ hown (host := "") (Or.inl (kw14 hw)) Via.refl e11 F_thisctor_storedStarts_t11 (g := (mkF m 37 #[.val (.ref thisctor), .val (.int xctor_1), .val (.long yctor_2), .second, .val (.ref actor_3), .val (.int (2 : Int32))] [(.ref thisctor)])) rfl rfl (hb hby d_prog_14_method_1_37)
  refine Wq.step st12 ?_
  show Wq _ _ _ _ _ (T12.setTop (mkF m 40 #[.val (.ref thisctor), .val (.int xctor_1), .val (.long yctor_2), .second, .val (.ref actor_3), .val (.int (2 : Int32))] [(.ref b4)]))
  refine Ow.iload X12 hx (pc' := 42) (hb hby d_prog_14_method_1_40) rfl ?_
  refine Ow.iconst X12 hx (pc' := 43) (hb hby d_prog_14_method_1_42) (z := (1 : Int32)) rfl ?_
  refine Ow.iadd X12 hx (pc' := 44) (hb hby d_prog_14_method_1_43) (z := (3 : Int32)) rfl ?_
  refine Ow.aloadN X12 hx (pc' := 45) (hb hby d_prog_14_method_1_44) rfl rfl ?_
  obtain ⟨T13, X13, e13, st13⟩ := getF X12 hx hZ hown (host := "") (Or.inl (kw14 hw)) Via.refl e12 F_thisctor_storedStarts_t11 (g := (mkF m 45 #[.val (.ref thisctor), .val (.int xctor_1), .val (.long yctor_2), .second, .val (.ref actor_3), .val (.int (2 : Int32))] [(.ref thisctor), (.int (3 : Int32)), (.ref b4)])) rfl rfl (hb hby d_prog_14_method_1_45)
  refine Wq.step st13 ?_
  show Wq _ _ _ _ _ (T13.setTop (mkF m 48 #[.val (.ref thisctor), .val (.int xctor_1), .val (.long yctor_2), .second, .val (.ref actor_3), .val (.int (2 : Int32))] [(.ref b4), (.int (3 : Int32)), (.ref b4)]))
  refine Ow.iload X13 hx (pc' := 50) (hb hby d_prog_14_method_1_48) rfl ?_
  refine Ow.ldJ X13 hx hZ e13 V_b4_t11 (pc' := 51) (hb hby d_prog_14_method_1_50) (j := (2 : Int32)) (i := 2) (v := (.long (((0 : Int64) + yA) + yB))) (by decide) rfl rfl ?_
  refine Ow.aload X13 hx (pc' := 53) (hb hby d_prog_14_method_1_51) rfl rfl ?_
  refine Ow.iload X13 hx (pc' := 55) (hb hby d_prog_14_method_1_53) rfl ?_
  refine Ow.ldJ X13 hx hZ e13 V_actor_3_t11 (pc' := 56) (hb hby d_prog_14_method_1_55) (j := (2 : Int32)) (i := 2) (v := (.long yC)) (by decide) rfl rfl ?_
  refine Ow.ladd X13 hx (pc' := 57) (hb hby d_prog_14_method_1_56) (z := ((((0 : Int64) + yA) + yB) + yC)) rfl ?_
  obtain ⟨T14, h14, X14, e14, W14, Vr14, st14⟩ := asJ X13 hx hZ e13 V_b4_t11 (j := (3 : Int32)) (i := 3) (by decide) rfl (Nat.le_of_ble_eq_true rfl) (g := (mkF m 57 #[.val (.ref thisctor), .val (.int xctor_1), .val (.long yctor_2), .second, .val (.ref actor_3), .val (.int (2 : Int32))] [(.long ((((0 : Int64) + yA) + yB) + yC)), (.int (3 : Int32)), (.ref b4)])) rfl rfl (hb hby d_prog_14_method_1_57)
  refine Wq.step st14 ?_
  have N14 := Fr.snoc X14 N11 g_b4
  have K14 : Keep h0 h14 [thisctor] := K11.wr W14 (Or.inr sz_b4)
  have Z14 : n0 ≤ h14.size := Nat.le_trans Z11 (Keep.of_wr W14).1
  have E_thisctor_t14 := E_thisctor_t11.wr W14
  have V_actor_3_t14 := V_actor_3_t11.other W14 ne_actor_3_b4
  have F_thisctor_chunkSize_t14 := F_thisctor_chunkSize_t11.other W14 (Or.inl ne_thisctor_b4)
  have F_thisctor_logSize_t14 := F_thisctor_logSize_t11.other W14 (Or.inl ne_thisctor_b4)
  have F_thisctor_storedStarts_t14 := F_thisctor_storedStarts_t11.other W14 (Or.inl ne_thisctor_b4)
  have V_b4_t14 : Al Z h14 b4 .long [(.long (0 : Int64)), (.long ((0 : Int64) + yA)), (.long (((0 : Int64) + yA) + yB)), (.long ((((0 : Int64) + yA) + yB) + yC))] := Vr14
  show Wq _ _ _ _ _ (T14.setTop (mkF m 58 #[.val (.ref thisctor), .val (.int xctor_1), .val (.long yctor_2), .second, .val (.ref actor_3), .val (.int (2 : Int32))] []))
  refine Ow.iinc X14 hx (pc' := 61) (hb hby d_prog_14_method_1_58) rfl (l' := #[.val (.ref thisctor), .val (.int xctor_1), .val (.long yctor_2), .second, .val (.ref actor_3), .val (.int (3 : Int32))]) rfl ?_
  show Wq _ _ _ _ _ (T14.setTop (mkF m 61 #[.val (.ref thisctor), .val (.int xctor_1), .val (.long yctor_2), .second, .val (.ref actor_3), .val (.int (3 : Int32))] []))
  refine Ow.goto X14 hx (pc' := 28) (hb hby d_prog_14_method_1_61) (by decide) (by decide) ?_
  refine Ow.iload X14 hx (pc' := 30) (hb hby d_prog_14_method_1_28) rfl ?_
  refine Ow.aload X14 hx (pc' := 32) (hb hby d_prog_14_method_1_30) rfl rfl ?_
  refine Ow.lenA X14 hx hZ e14 V_actor_3_t14 (pc' := 33) (hb hby d_prog_14_method_1_32) (n := (3 : Int32)) (rfl) ?_
  refine Ow.icmpYes X14 hx (pc' := 64) (hb hby d_prog_14_method_1_33) (flt (by decide : ¬ ((3 : Int32) < (3 : Int32)))).2.1 (by decide) (by decide) ?_
  exact Wq.ret X14 (BodyLoose.notSynchronized Bd) (rv := none) (fun _ => rfl) (fun _ hr => X14.returnOut hx Bd.returns (hb hby d_prog_14_method_1_64) hr) (by decide) (by decide) (by rw [e14]; exact ⟨b4, rfl, N14, K14, sz_b4, E_thisctor_t14, F_thisctor_chunkSize_t14, F_thisctor_logSize_t14, F_thisctor_storedStarts_t14, V_b4_t14⟩)
theorem d_prog_14_method_13_0 : decode prog_14_method_13_code 0 = .ok (.aload_n 0, 1) := by decide +kernel
theorem d_prog_14_method_13_1 : decode prog_14_method_13_code 1 = .ok (.getfield 19, 3) := by decide +kernel
theorem d_prog_14_method_13_4 : decode prog_14_method_13_code 4 = .ok (.iload_n 1, 1) := by decide +kernel
theorem d_prog_14_method_13_5 : decode prog_14_method_13_code 5 = .ok (.iconst 1, 1) := by decide +kernel
theorem d_prog_14_method_13_6 : decode prog_14_method_13_code 6 = .ok (.iadd, 1) := by decide +kernel
theorem d_prog_14_method_13_7 : decode prog_14_method_13_code 7 = .ok (.laload, 1) := by decide +kernel
theorem d_prog_14_method_13_8 : decode prog_14_method_13_code 8 = .ok (.aload_n 0, 1) := by decide +kernel
theorem d_prog_14_method_13_9 : decode prog_14_method_13_code 9 = .ok (.getfield 19, 3) := by decide +kernel
theorem d_prog_14_method_13_12 : decode prog_14_method_13_code 12 = .ok (.iload_n 1, 1) := by decide +kernel
theorem d_prog_14_method_13_13 : decode prog_14_method_13_code 13 = .ok (.laload, 1) := by decide +kernel
theorem d_prog_14_method_13_14 : decode prog_14_method_13_code 14 = .ok (.lsub, 1) := by decide +kernel
theorem d_prog_14_method_13_15 : decode prog_14_method_13_code 15 = .ok (.l2i, 1) := by decide +kernel
theorem ef_sl0 (m : MethodId) (thissl0 : Addr) : entryFrame m #[(.ref thissl0), (.int (0 : Int32))] 2 = mkF m 0 #[.val (.ref thissl0), .val (.int (0 : Int32))] [] := by first | (simp [entryFrame, mkF, argsToLocals, Value.category]; done) | rfl
def Q_sl0 (Z : State) (thissl0 : Addr) (b_sl0 : Addr) (y0_sl0 : Int64) (y1_sl0 : Int64) (y2_sl0 : Int64) (y3_sl0 : Int64) (h0 : Heap) (n0 : Nat) (v : Option Value) (h : Heap) (L : List Loc) : Prop := v = some (.int ((y1_sl0 - y0_sl0).toInt32)) ∧ Fr n0 L ∧ h = h0
theorem d_prog_14_method_13_16 : decode prog_14_method_13_code 16 = .ok (.ireturn, 1) := by decide +kernel
abbrev mt2 : MethodName := ⟨"com/example/strata/strata/io/ChunkIndex", "storedLength", "(I)I"⟩
set_option maxRecDepth 65536 in
set_option maxHeartbeats 40000000 in
theorem rm_sl0 (l : Launch) (Z : State) (a0 : Array Value) (hw : ∀ d ∈ tables_1, d.before a0 Z = true) (ws : List Jvm.Cond) (thissl0 : Addr) (b_sl0 : Addr) (y0_sl0 : Int64) (y1_sl0 : Int64) (y2_sl0 : Int64) (y3_sl0 : Int64) (h0 : Heap) (n0 : Nat) (Z0 : n0 ≤ h0.size) (F_thissl0_storedStarts : Fld Z h0 thissl0 "com/example/strata/strata/io/ChunkIndex" "storedStarts" "[J" (.ref b_sl0)) (V_b_sl0 : Al Z h0 b_sl0 .long [(.long y0_sl0), (.long y1_sl0), (.long y2_sl0), (.long y3_sl0)]) :
    MetFree l mt2 (head1 (Jvm.Cond.code mt2 prog_14_method_13_code 2 (some .int) :: ws) ({ frames := 0, cells := 0, slots := 0, locals := 0 } : Room)) (fun a U => a = #[(.ref thissl0), (.int (0 : Int32))] ∧ Z.Warmed39 U.vm ∧ U.heap = h0) (fun _ _ _ _ _ => True) (fun _ U o U' => ∃ v L, o = .returned v ∧ (Q_sl0 Z thissl0 b_sl0 y0_sl0 y1_sl0 y2_sl0 y3_sl0 h0 n0) v U'.heap L ∧ FrameEnd U o U' L ({ frames := 0, cells := 0, slots := 0, locals := 0 } : Room).cells ({ frames := 0, cells := 0, slots := 0, locals := 0 } : Room).slots) := by
  refine MetFree.of_bodySF (plainFor_of_name pn1) hisR ?_
  intro p e s m args below meth c s₁ Bd hml0 hP hK
  obtain ⟨rfl, hZ, hh⟩ := hP
  have hx := Bd.exec
  have hby := Bd.bytes
  have hml : c.maxLocals = 2 := hml0
  have hown : s.vm.findClass "com/example/strata/strata/io/ChunkIndex" = some m.cls := findClass_of_methodNamed Bd.named
  have hnm := (name_of_methodNamed Bd.named Bd.method).1
  have X0 : Stand p l e ({ frames := 0, cells := 0, slots := 0, locals := 0 } : Room) s m #[(.ref thissl0), (.int (0 : Int32))] below meth c s₁ [] 0 0 := Stand.of_body Bd
  have e0 : s₁.heap = h0 := by rw [← hh, Bd.state]; rfl
  have N0 := Fr.nil n0
  refine Wq.step (p := p) (e := e) (below := below) (En := (fun o t L => FrameEnd s o t L ({ frames := 0, cells := 0, slots := 0, locals := 0 } : Room).cells ({ frames := 0, cells := 0, slots := 0, locals := 0 } : Room).slots)) (Q := (Q_sl0 Z thissl0 b_sl0 y0_sl0 y1_sl0 y2_sl0 y3_sl0 h0 n0)) (fun t k => castTop (ef_sl0 m thissl0) k) ?_
  show Wq _ _ _ _ _ (s₁.setTop (mkF m 0 #[.val (.ref thissl0), .val (.int (0 : Int32))] []))
  refine Ow.aloadN X0 hx (pc' := 1) (hb hby d_prog_14_method_13_0) rfl rfl ?_
  obtain ⟨T15, X15, e15, st15⟩ := getF X0 hx hZ hown (host := "") (Or.inl (kw14 hw)) Via.refl e0 F_thissl0_storedStarts (g := (mkF m 1 #[.val (.ref thissl0), .val (.int (0 : Int32))] [(.ref thissl0)])) rfl rfl (hb hby d_prog_14_method_13_1)
  refine Wq.step st15 ?_
  show Wq _ _ _ _ _ (T15.setTop (mkF m 4 #[.val (.ref thissl0), .val (.int (0 : Int32))] [(.ref b_sl0)]))
  refine Ow.iloadN X15 hx (pc' := 5) (hb hby d_prog_14_method_13_4) rfl ?_
  refine Ow.iconst X15 hx (pc' := 6) (hb hby d_prog_14_method_13_5) (z := (1 : Int32)) rfl ?_
  refine Ow.iadd X15 hx (pc' := 7) (hb hby d_prog_14_method_13_6) (z := (1 : Int32)) rfl ?_
  refine Ow.ldJ X15 hx hZ e15 V_b_sl0 (pc' := 8) (hb hby d_prog_14_method_13_7) (j := (1 : Int32)) (i := 1) (v := (.long y1_sl0)) (by decide) rfl rfl ?_
  refine Ow.aloadN X15 hx (pc' := 9) (hb hby d_prog_14_method_13_8) rfl rfl ?_
  obtain ⟨T16, X16, e16, st16⟩ := getF X15 hx hZ hown (host := "") (Or.inl (kw14 hw)) Via.refl e15 F_thissl0_storedStarts (g := (mkF m 9 #[.val (.ref thissl0), .val (.int (0 : Int32))] [(.ref thissl0), (.long y1_sl0)])) rfl rfl (hb hby d_prog_14_method_13_9)
  refine Wq.step st16 ?_
  show Wq _ _ _ _ _ (T16.setTop (mkF m 12 #[.val (.ref thissl0), .val (.int (0 : Int32))] [(.ref b_sl0), (.long y1_sl0)]))
  refine Ow.iloadN X16 hx (pc' := 13) (hb hby d_prog_14_method_13_12) rfl ?_
  refine Ow.ldJ X16 hx hZ e16 V_b_sl0 (pc' := 14) (hb hby d_prog_14_method_13_13) (j := (0 : Int32)) (i := 0) (v := (.long y0_sl0)) (by decide) rfl rfl ?_
  refine Ow.lsub X16 hx (pc' := 15) (hb hby d_prog_14_method_13_14) (z := (y1_sl0 - y0_sl0)) rfl ?_
  refine Ow.l2i X16 hx (pc' := 16) (hb hby d_prog_14_method_13_15) (z := ((y1_sl0 - y0_sl0).toInt32)) rfl ?_
  exact Wq.ret X16 (BodyLoose.notSynchronized Bd) (rv := some (.int ((y1_sl0 - y0_sl0).toInt32))) (fun h => by rw [Bd.returns] at h; cases h) (fun _ hr => retOut X16 hx Bd.returns rfl (Or.inl ⟨rfl, Or.inl rfl, _, rfl⟩) (hb hby d_prog_14_method_13_16) hr) (by decide) (by decide) ⟨rfl, N0, e16⟩
theorem ef_sl1 (m : MethodId) (thissl1 : Addr) : entryFrame m #[(.ref thissl1), (.int (1 : Int32))] 2 = mkF m 0 #[.val (.ref thissl1), .val (.int (1 : Int32))] [] := by first | (simp [entryFrame, mkF, argsToLocals, Value.category]; done) | rfl
def Q_sl1 (Z : State) (thissl1 : Addr) (b_sl1 : Addr) (y0_sl1 : Int64) (y1_sl1 : Int64) (y2_sl1 : Int64) (y3_sl1 : Int64) (h0 : Heap) (n0 : Nat) (v : Option Value) (h : Heap) (L : List Loc) : Prop := v = some (.int ((y2_sl1 - y1_sl1).toInt32)) ∧ Fr n0 L ∧ h = h0
set_option maxRecDepth 65536 in
set_option maxHeartbeats 40000000 in
theorem rm_sl1 (l : Launch) (Z : State) (a0 : Array Value) (hw : ∀ d ∈ tables_1, d.before a0 Z = true) (ws : List Jvm.Cond) (thissl1 : Addr) (b_sl1 : Addr) (y0_sl1 : Int64) (y1_sl1 : Int64) (y2_sl1 : Int64) (y3_sl1 : Int64) (h0 : Heap) (n0 : Nat) (Z0 : n0 ≤ h0.size) (F_thissl1_storedStarts : Fld Z h0 thissl1 "com/example/strata/strata/io/ChunkIndex" "storedStarts" "[J" (.ref b_sl1)) (V_b_sl1 : Al Z h0 b_sl1 .long [(.long y0_sl1), (.long y1_sl1), (.long y2_sl1), (.long y3_sl1)]) :
    MetFree l mt2 (head1 (Jvm.Cond.code mt2 prog_14_method_13_code 2 (some .int) :: ws) ({ frames := 0, cells := 0, slots := 0, locals := 0 } : Room)) (fun a U => a = #[(.ref thissl1), (.int (1 : Int32))] ∧ Z.Warmed39 U.vm ∧ U.heap = h0) (fun _ _ _ _ _ => True) (fun _ U o U' => ∃ v L, o = .returned v ∧ (Q_sl1 Z thissl1 b_sl1 y0_sl1 y1_sl1 y2_sl1 y3_sl1 h0 n0) v U'.heap L ∧ FrameEnd U o U' L ({ frames := 0, cells := 0, slots := 0, locals := 0 } : Room).cells ({ frames := 0, cells := 0, slots := 0, locals := 0 } : Room).slots) := by
  refine MetFree.of_bodySF (plainFor_of_name pn1) hisR ?_
  intro p e s m args below meth c s₁ Bd hml0 hP hK
  obtain ⟨rfl, hZ, hh⟩ := hP
  have hx := Bd.exec
  have hby := Bd.bytes
  have hml : c.maxLocals = 2 := hml0
  have hown : s.vm.findClass "com/example/strata/strata/io/ChunkIndex" = some m.cls := findClass_of_methodNamed Bd.named
  have hnm := (name_of_methodNamed Bd.named Bd.method).1
  have X0 : Stand p l e ({ frames := 0, cells := 0, slots := 0, locals := 0 } : Room) s m #[(.ref thissl1), (.int (1 : Int32))] below meth c s₁ [] 0 0 := Stand.of_body Bd
  have e0 : s₁.heap = h0 := by rw [← hh, Bd.state]; rfl
  have N0 := Fr.nil n0
  refine Wq.step (p := p) (e := e) (below := below) (En := (fun o t L => FrameEnd s o t L ({ frames := 0, cells := 0, slots := 0, locals := 0 } : Room).cells ({ frames := 0, cells := 0, slots := 0, locals := 0 } : Room).slots)) (Q := (Q_sl1 Z thissl1 b_sl1 y0_sl1 y1_sl1 y2_sl1 y3_sl1 h0 n0)) (fun t k => castTop (ef_sl1 m thissl1) k) ?_
  show Wq _ _ _ _ _ (s₁.setTop (mkF m 0 #[.val (.ref thissl1), .val (.int (1 : Int32))] []))
  refine Ow.aloadN X0 hx (pc' := 1) (hb hby d_prog_14_method_13_0) rfl rfl ?_
  obtain ⟨T17, X17, e17, st17⟩ := getF X0 hx hZ hown (host := "") (Or.inl (kw14 hw)) Via.refl e0 F_thissl1_storedStarts (g := (mkF m 1 #[.val (.ref thissl1), .val (.int (1 : Int32))] [(.ref thissl1)])) rfl rfl (hb hby d_prog_14_method_13_1)
  refine Wq.step st17 ?_
  show Wq _ _ _ _ _ (T17.setTop (mkF m 4 #[.val (.ref thissl1), .val (.int (1 : Int32))] [(.ref b_sl1)]))
  refine Ow.iloadN X17 hx (pc' := 5) (hb hby d_prog_14_method_13_4) rfl ?_
  refine Ow.iconst X17 hx (pc' := 6) (hb hby d_prog_14_method_13_5) (z := (1 : Int32)) rfl ?_
  refine Ow.iadd X17 hx (pc' := 7) (hb hby d_prog_14_method_13_6) (z := (2 : Int32)) rfl ?_
  refine Ow.ldJ X17 hx hZ e17 V_b_sl1 (pc' := 8) (hb hby d_prog_14_method_13_7) (j := (2 : Int32)) (i := 2) (v := (.long y2_sl1)) (by decide) rfl rfl ?_
  refine Ow.aloadN X17 hx (pc' := 9) (hb hby d_prog_14_method_13_8) rfl rfl ?_
  obtain ⟨T18, X18, e18, st18⟩ := getF X17 hx hZ hown (host := "") (Or.inl (kw14 hw)) Via.refl e17 F_thissl1_storedStarts (g := (mkF m 9 #[.val (.ref thissl1), .val (.int (1 : Int32))] [(.ref thissl1), (.long y2_sl1)])) rfl rfl (hb hby d_prog_14_method_13_9)
  refine Wq.step st18 ?_
  show Wq _ _ _ _ _ (T18.setTop (mkF m 12 #[.val (.ref thissl1), .val (.int (1 : Int32))] [(.ref b_sl1), (.long y2_sl1)]))
  refine Ow.iloadN X18 hx (pc' := 13) (hb hby d_prog_14_method_13_12) rfl ?_
  refine Ow.ldJ X18 hx hZ e18 V_b_sl1 (pc' := 14) (hb hby d_prog_14_method_13_13) (j := (1 : Int32)) (i := 1) (v := (.long y1_sl1)) (by decide) rfl rfl ?_
  refine Ow.lsub X18 hx (pc' := 15) (hb hby d_prog_14_method_13_14) (z := (y2_sl1 - y1_sl1)) rfl ?_
  refine Ow.l2i X18 hx (pc' := 16) (hb hby d_prog_14_method_13_15) (z := ((y2_sl1 - y1_sl1).toInt32)) rfl ?_
  exact Wq.ret X18 (BodyLoose.notSynchronized Bd) (rv := some (.int ((y2_sl1 - y1_sl1).toInt32))) (fun h => by rw [Bd.returns] at h; cases h) (fun _ hr => retOut X18 hx Bd.returns rfl (Or.inl ⟨rfl, Or.inl rfl, _, rfl⟩) (hb hby d_prog_14_method_13_16) hr) (by decide) (by decide) ⟨rfl, N0, e18⟩
theorem ef_sl2 (m : MethodId) (thissl2 : Addr) : entryFrame m #[(.ref thissl2), (.int (2 : Int32))] 2 = mkF m 0 #[.val (.ref thissl2), .val (.int (2 : Int32))] [] := by first | (simp [entryFrame, mkF, argsToLocals, Value.category]; done) | rfl
def Q_sl2 (Z : State) (thissl2 : Addr) (b_sl2 : Addr) (y0_sl2 : Int64) (y1_sl2 : Int64) (y2_sl2 : Int64) (y3_sl2 : Int64) (h0 : Heap) (n0 : Nat) (v : Option Value) (h : Heap) (L : List Loc) : Prop := v = some (.int ((y3_sl2 - y2_sl2).toInt32)) ∧ Fr n0 L ∧ h = h0
set_option maxRecDepth 65536 in
set_option maxHeartbeats 40000000 in
theorem rm_sl2 (l : Launch) (Z : State) (a0 : Array Value) (hw : ∀ d ∈ tables_1, d.before a0 Z = true) (ws : List Jvm.Cond) (thissl2 : Addr) (b_sl2 : Addr) (y0_sl2 : Int64) (y1_sl2 : Int64) (y2_sl2 : Int64) (y3_sl2 : Int64) (h0 : Heap) (n0 : Nat) (Z0 : n0 ≤ h0.size) (F_thissl2_storedStarts : Fld Z h0 thissl2 "com/example/strata/strata/io/ChunkIndex" "storedStarts" "[J" (.ref b_sl2)) (V_b_sl2 : Al Z h0 b_sl2 .long [(.long y0_sl2), (.long y1_sl2), (.long y2_sl2), (.long y3_sl2)]) :
    MetFree l mt2 (head1 (Jvm.Cond.code mt2 prog_14_method_13_code 2 (some .int) :: ws) ({ frames := 0, cells := 0, slots := 0, locals := 0 } : Room)) (fun a U => a = #[(.ref thissl2), (.int (2 : Int32))] ∧ Z.Warmed39 U.vm ∧ U.heap = h0) (fun _ _ _ _ _ => True) (fun _ U o U' => ∃ v L, o = .returned v ∧ (Q_sl2 Z thissl2 b_sl2 y0_sl2 y1_sl2 y2_sl2 y3_sl2 h0 n0) v U'.heap L ∧ FrameEnd U o U' L ({ frames := 0, cells := 0, slots := 0, locals := 0 } : Room).cells ({ frames := 0, cells := 0, slots := 0, locals := 0 } : Room).slots) := by
  refine MetFree.of_bodySF (plainFor_of_name pn1) hisR ?_
  intro p e s m args below meth c s₁ Bd hml0 hP hK
  obtain ⟨rfl, hZ, hh⟩ := hP
  have hx := Bd.exec
  have hby := Bd.bytes
  have hml : c.maxLocals = 2 := hml0
  have hown : s.vm.findClass "com/example/strata/strata/io/ChunkIndex" = some m.cls := findClass_of_methodNamed Bd.named
  have hnm := (name_of_methodNamed Bd.named Bd.method).1
  have X0 : Stand p l e ({ frames := 0, cells := 0, slots := 0, locals := 0 } : Room) s m #[(.ref thissl2), (.int (2 : Int32))] below meth c s₁ [] 0 0 := Stand.of_body Bd
  have e0 : s₁.heap = h0 := by rw [← hh, Bd.state]; rfl
  have N0 := Fr.nil n0
  refine Wq.step (p := p) (e := e) (below := below) (En := (fun o t L => FrameEnd s o t L ({ frames := 0, cells := 0, slots := 0, locals := 0 } : Room).cells ({ frames := 0, cells := 0, slots := 0, locals := 0 } : Room).slots)) (Q := (Q_sl2 Z thissl2 b_sl2 y0_sl2 y1_sl2 y2_sl2 y3_sl2 h0 n0)) (fun t k => castTop (ef_sl2 m thissl2) k) ?_
  show Wq _ _ _ _ _ (s₁.setTop (mkF m 0 #[.val (.ref thissl2), .val (.int (2 : Int32))] []))
  refine Ow.aloadN X0 hx (pc' := 1) (hb hby d_prog_14_method_13_0) rfl rfl ?_
  obtain ⟨T19, X19, e19, st19⟩ := getF X0 hx hZ hown (host := "") (Or.inl (kw14 hw)) Via.refl e0 F_thissl2_storedStarts (g := (mkF m 1 #[.val (.ref thissl2), .val (.int (2 : Int32))] [(.ref thissl2)])) rfl rfl (hb hby d_prog_14_method_13_1)
  refine Wq.step st19 ?_
  show Wq _ _ _ _ _ (T19.setTop (mkF m 4 #[.val (.ref thissl2), .val (.int (2 : Int32))] [(.ref b_sl2)]))
  refine Ow.iloadN X19 hx (pc' := 5) (hb hby d_prog_14_method_13_4) rfl ?_
  refine Ow.iconst X19 hx (pc' := 6) (hb hby d_prog_14_method_13_5) (z := (1 : Int32)) rfl ?_
  refine Ow.iadd X19 hx (pc' := 7) (hb hby d_prog_14_method_13_6) (z := (3 : Int32)) rfl ?_
  refine Ow.ldJ X19 hx hZ e19 V_b_sl2 (pc' := 8) (hb hby d_prog_14_method_13_7) (j := (3 : Int32)) (i := 3) (v := (.long y3_sl2)) (by decide) rfl rfl ?_
  refine Ow.aloadN X19 hx (pc' := 9) (hb hby d_prog_14_method_13_8) rfl rfl ?_
  obtain ⟨T20, X20, e20, st20⟩ := getF X19 hx hZ hown (host := "") (Or.inl (kw14 hw)) Via.refl e19 F_thissl2_storedStarts (g := (mkF m 9 #[.val (.ref thissl2), .val (.int (2 : Int32))] [(.ref thissl2), (.long y3_sl2)])) rfl rfl (hb hby d_prog_14_method_13_9)
  refine Wq.step st20 ?_
  show Wq _ _ _ _ _ (T20.setTop (mkF m 12 #[.val (.ref thissl2), .val (.int (2 : Int32))] [(.ref b_sl2), (.long y3_sl2)]))
  refine Ow.iloadN X20 hx (pc' := 13) (hb hby d_prog_14_method_13_12) rfl ?_
  refine Ow.ldJ X20 hx hZ e20 V_b_sl2 (pc' := 14) (hb hby d_prog_14_method_13_13) (j := (2 : Int32)) (i := 2) (v := (.long y2_sl2)) (by decide) rfl rfl ?_
  refine Ow.lsub X20 hx (pc' := 15) (hb hby d_prog_14_method_13_14) (z := (y3_sl2 - y2_sl2)) rfl ?_
  refine Ow.l2i X20 hx (pc' := 16) (hb hby d_prog_14_method_13_15) (z := ((y3_sl2 - y2_sl2).toInt32)) rfl ?_
  exact Wq.ret X20 (BodyLoose.notSynchronized Bd) (rv := some (.int ((y3_sl2 - y2_sl2).toInt32))) (fun h => by rw [Bd.returns] at h; cases h) (fun _ hr => retOut X20 hx Bd.returns rfl (Or.inl ⟨rfl, Or.inl rfl, _, rfl⟩) (hb hby d_prog_14_method_13_16) hr) (by decide) (by decide) ⟨rfl, N0, e20⟩
theorem own_math (x : Int64) (a : Int32) : ((x + a.toInt64) - x).toInt32 = a := by
  have e : (x + a.toInt64) - x = a.toInt64 := by rw [Int64.add_comm, Int64.add_sub_cancel]
  rw [e]; exact Int32.toInt32_toInt64 a
theorem kw1 {Z : State} {a0 : Array Value} (hw : ∀ d ∈ tables_1, d.before a0 Z = true) : (Jvm.Cond.classLink "com/example/strata/strata/io/ChunkIndexStoredLengthPinLaw" (7 : Nat) "com/example/strata/strata/io/ChunkIndex").before a0 Z = true := hw _ (List.mem_of_getElem? (i := 1) rfl)
theorem kw3 {Z : State} {a0 : Array Value} (hw : ∀ d ∈ tables_1, d.before a0 Z = true) : (Jvm.Cond.initialized "com/example/strata/strata/io/ChunkIndex").before a0 Z = true := hw _ (List.mem_of_getElem? (i := 3) rfl)
theorem kw6 {Z : State} {a0 : Array Value} (hw : ∀ d ∈ tables_1, d.before a0 Z = true) : (Jvm.Cond.code ({ cls := "com/example/strata/strata/io/ChunkIndex", name := "<init>", desc := "(IJ[J)V" } : Jvm.MethodName) prog_14_method_1_code (6 : Nat) (Option.none : Option Jvm.ClassFile.FieldType)).before a0 Z = true := hw _ (List.mem_of_getElem? (i := 6) rfl)
theorem pd1 : parseMethodDescriptor "(IJ[J)V" = some ⟨[.int, .long, (.array .long)], none⟩ := by decide +kernel
theorem kw4 {Z : State} {a0 : Array Value} (hw : ∀ d ∈ tables_1, d.before a0 Z = true) : (Jvm.Cond.methodLink "com/example/strata/strata/io/ChunkIndexStoredLengthPinLaw" (9 : Nat) ({ cls := "com/example/strata/strata/io/ChunkIndex", name := "<init>", desc := "(IJ[J)V" } : Jvm.MethodName)).before a0 Z = true := hw _ (List.mem_of_getElem? (i := 4) rfl)
theorem kw5 {Z : State} {a0 : Array Value} (hw : ∀ d ∈ tables_1, d.before a0 Z = true) : (Jvm.Cond.instanceMethod ({ cls := "com/example/strata/strata/io/ChunkIndex", name := "<init>", desc := "(IJ[J)V" } : Jvm.MethodName)).before a0 Z = true := hw _ (List.mem_of_getElem? (i := 5) rfl)
theorem kw20 {Z : State} {a0 : Array Value} (hw : ∀ d ∈ tables_1, d.before a0 Z = true) : (Jvm.Cond.code ({ cls := "com/example/strata/strata/io/ChunkIndex", name := "storedLength", desc := "(I)I" } : Jvm.MethodName) prog_14_method_13_code (2 : Nat) (Option.some Jvm.ClassFile.FieldType.int)).before a0 Z = true := hw _ (List.mem_of_getElem? (i := 20) rfl)
theorem pd2 : parseMethodDescriptor "(I)I" = some ⟨[.int], some .int⟩ := by decide +kernel
theorem kw16 {Z : State} {a0 : Array Value} (hw : ∀ d ∈ tables_1, d.before a0 Z = true) : (Jvm.Cond.methodLink "com/example/strata/strata/io/ChunkIndexStoredLengthPinLaw" (12 : Nat) ({ cls := "com/example/strata/strata/io/ChunkIndex", name := "storedLength", desc := "(I)I" } : Jvm.MethodName)).before a0 Z = true := hw _ (List.mem_of_getElem? (i := 16) rfl)
theorem kw17 {Z : State} {a0 : Array Value} (hw : ∀ d ∈ tables_1, d.before a0 Z = true) : (Jvm.Cond.declares ({ cls := "com/example/strata/strata/io/ChunkIndex", name := "storedLength", desc := "(I)I" } : Jvm.MethodName)).before a0 Z = true := hw _ (List.mem_of_getElem? (i := 17) rfl)
theorem kw19 {Z : State} {a0 : Array Value} (hw : ∀ d ∈ tables_1, d.before a0 Z = true) : (Jvm.Cond.selects "com/example/strata/strata/io/ChunkIndex" ({ cls := "com/example/strata/strata/io/ChunkIndex", name := "storedLength", desc := "(I)I" } : Jvm.MethodName) ({ cls := "com/example/strata/strata/io/ChunkIndex", name := "storedLength", desc := "(I)I" } : Jvm.MethodName)).before a0 Z = true := hw _ (List.mem_of_getElem? (i := 19) rfl)
theorem kw18 {Z : State} {a0 : Array Value} (hw : ∀ d ∈ tables_1, d.before a0 Z = true) : (Jvm.Cond.instanceMethod ({ cls := "com/example/strata/strata/io/ChunkIndex", name := "storedLength", desc := "(I)I" } : Jvm.MethodName)).before a0 Z = true := hw _ (List.mem_of_getElem? (i := 18) rfl)
theorem pn2 : plainName "com/example/strata/strata/io/ChunkIndexStoredLengthPinLaw" = true := by first | (simp [plainName, overriddenIn]; done) | decide +kernel
theorem ef_law (m : MethodId) (xlaw_1 : Int32) (xlaw_2 : Int32) (xlaw_3 : Int32) (xlaw_4 : Int32) (ylaw_5 : Int64) : entryFrame m #[(.int xlaw_1), (.int xlaw_2), (.int xlaw_3), (.int xlaw_4), (.long ylaw_5)] maxLocals = mkF m 0 #[.val (.int xlaw_1), .val (.int xlaw_2), .val (.int xlaw_3), .val (.int xlaw_4), .val (.long ylaw_5), .second, .unset, .unset] [] := by first | (simp [entryFrame, mkF, argsToLocals, Value.category, maxLocals]; done) | rfl
def Q_law (n0 : Nat) (v : Option Value) (h : Heap) (L : List Loc) : Prop := v = some (.int 1) ∧ Fr n0 L
set_option maxRecDepth 65536 in
set_option maxHeartbeats 40000000 in
theorem rm_law (l : Launch) (Z : State) (a0 : Array Value) (hw : ∀ d ∈ tables_1, d.before a0 Z = true) (ws : List Jvm.Cond) (xlaw_1 : Int32) (xlaw_2 : Int32) (xlaw_3 : Int32) (xlaw_4 : Int32) (ylaw_5 : Int64) (h0 : Heap) (n0 : Nat) (Z0 : n0 ≤ h0.size)  :
    MetFree l x (head1 (Jvm.Cond.code x code maxLocals ret :: ws) room_1) (fun a U => a = #[(.int xlaw_1), (.int xlaw_2), (.int xlaw_3), (.int xlaw_4), (.long ylaw_5)] ∧ Z.Warmed39 U.vm ∧ U.heap = h0) (fun _ _ _ _ _ => True) (fun _ U o U' => ∃ v L, o = .returned v ∧ (Q_law n0) v U'.heap L ∧ FrameEnd U o U' L 16 128) := by
  refine MetFree.of_bodySF (plainFor_of_name pn2) hisR ?_
  intro p e s m args below meth c s₁ Bd hml0 hP hK
  obtain ⟨rfl, hZ, hh⟩ := hP
  have hx := Bd.exec
  have hby := Bd.bytes
  have hml : c.maxLocals = 8 := hml0
  have hown : s.vm.findClass "com/example/strata/strata/io/ChunkIndexStoredLengthPinLaw" = some m.cls := findClass_of_methodNamed Bd.named
  have hnm := (name_of_methodNamed Bd.named Bd.method).1
  have X0 : Stand p l e room_1 s m #[(.int xlaw_1), (.int xlaw_2), (.int xlaw_3), (.int xlaw_4), (.long ylaw_5)] below meth c s₁ [] 0 0 := Stand.of_body Bd
  have e0 : s₁.heap = h0 := by rw [← hh, Bd.state]; rfl
  have N0 := Fr.nil n0
  refine Wq.step (p := p) (e := e) (below := below) (En := (fun o t L => FrameEnd s o t L 16 128)) (Q := (Q_law n0)) (fun t k => castTop (ef_law m xlaw_1 xlaw_2 xlaw_3 xlaw_4 ylaw_5) k) ?_
  show Wq _ _ _ _ _ (s₁.setTop (mkF m 0 #[.val (.int xlaw_1), .val (.int xlaw_2), .val (.int xlaw_3), .val (.int xlaw_4), .val (.long ylaw_5), .second, .unset, .unset] []))
  refine Ow.iconst X0 hx (pc' := 1) (hb hby at_0) (z := (3 : Int32)) rfl ?_
  obtain ⟨T21, h21, k21, X21, e21, E21, A21, st21⟩ := newP X0 hx hZ (aty := .long) (kw0 hw) e0 (g := (mkF m 1 #[.val (.int xlaw_1), .val (.int xlaw_2), .val (.int xlaw_3), .val (.int xlaw_4), .val (.long ylaw_5), .second, .unset, .unset] [(.int (3 : Int32))])) rfl (hb hby at_1) rfl (by decide) (cap := 3) (by decide) (by decide) (by decide) (by decide)
  obtain ⟨b21, gz21⟩ : ∃ z, z = h0.size := ⟨_, rfl⟩
  rw [← gz21] at A21 st21
  have g_b21 : n0 ≤ b21 := Nat.le_trans Z0 (Nat.le_of_eq gz21.symm)
  have sz_b21 : h0.size ≤ b21 := Nat.le_of_eq gz21.symm
  have K21 : Keep h0 h21 [] := (Keep.refl h0 []).ext E21
  have Z21 : n0 ≤ h21.size := Nat.le_trans Z0 E21.1
  have V_b21 : Al Z h21 b21 .long [(.long (0 : Int64)), (.long (0 : Int64)), (.long (0 : Int64))] := Al.new A21 (k := 3) (rfl) rfl
  refine Wq.step st21 ?_
  show Wq _ _ _ _ _ (T21.setTop (mkF m 3 #[.val (.int xlaw_1), .val (.int xlaw_2), .val (.int xlaw_3), .val (.int xlaw_4), .val (.long ylaw_5), .second, .unset, .unset] [(.ref b21)]))
  refine Ow.astore X21 hx (pc' := 5) (hb hby at_3) rfl (l' := #[.val (.int xlaw_1), .val (.int xlaw_2), .val (.int xlaw_3), .val (.int xlaw_4), .val (.long ylaw_5), .second, .val (.ref b21), .unset]) rfl ?_
  refine Ow.aload X21 hx (pc' := 7) (hb hby at_5) rfl rfl ?_
  refine Ow.iconst X21 hx (pc' := 8) (hb hby at_7) (z := (0 : Int32)) rfl ?_
  refine Ow.iloadN X21 hx (pc' := 9) (hb hby at_8) rfl ?_
  refine Ow.i2l X21 hx (pc' := 10) (hb hby at_9) (z := (xlaw_1.toInt64)) rfl ?_
  obtain ⟨T22, h22, X22, e22, W22, Vr22, st22⟩ := asJ X21 hx hZ e21 V_b21 (j := (0 : Int32)) (i := 0) (by decide) rfl (Nat.le_of_ble_eq_true rfl) (g := (mkF m 10 #[.val (.int xlaw_1), .val (.int xlaw_2), .val (.int xlaw_3), .val (.int xlaw_4), .val (.long ylaw_5), .second, .val (.ref b21), .unset] [(.long (xlaw_1.toInt64)), (.int (0 : Int32)), (.ref b21)])) rfl rfl (hb hby at_10)
  refine Wq.step st22 ?_
  have N22 := Fr.snoc X22 N0 g_b21
  have K22 : Keep h0 h22 [] := K21.wr W22 (Or.inr sz_b21)
  have Z22 : n0 ≤ h22.size := Nat.le_trans Z21 (Keep.of_wr W22).1
  have V_b21_t22 : Al Z h22 b21 .long [(.long (xlaw_1.toInt64)), (.long (0 : Int64)), (.long (0 : Int64))] := Vr22
  show Wq _ _ _ _ _ (T22.setTop (mkF m 11 #[.val (.int xlaw_1), .val (.int xlaw_2), .val (.int xlaw_3), .val (.int xlaw_4), .val (.long ylaw_5), .second, .val (.ref b21), .unset] []))
  refine Ow.aload X22 hx (pc' := 13) (hb hby at_11) rfl rfl ?_
  refine Ow.iconst X22 hx (pc' := 14) (hb hby at_13) (z := (1 : Int32)) rfl ?_
  refine Ow.iloadN X22 hx (pc' := 15) (hb hby at_14) rfl ?_
  refine Ow.i2l X22 hx (pc' := 16) (hb hby at_15) (z := (xlaw_2.toInt64)) rfl ?_
  obtain ⟨T23, h23, X23, e23, W23, Vr23, st23⟩ := asJ X22 hx hZ e22 V_b21_t22 (j := (1 : Int32)) (i := 1) (by decide) rfl (Nat.le_of_ble_eq_true rfl) (g := (mkF m 16 #[.val (.int xlaw_1), .val (.int xlaw_2), .val (.int xlaw_3), .val (.int xlaw_4), .val (.long ylaw_5), .second, .val (.ref b21), .unset] [(.long (xlaw_2.toInt64)), (.int (1 : Int32)), (.ref b21)])) rfl rfl (hb hby at_16)
  refine Wq.step st23 ?_
  have N23 := Fr.snoc X23 N22 g_b21
  have K23 : Keep h0 h23 [] := K22.wr W23 (Or.inr sz_b21)
  have Z23 : n0 ≤ h23.size := Nat.le_trans Z22 (Keep.of_wr W23).1
  have V_b21_t23 : Al Z h23 b21 .long [(.long (xlaw_1.toInt64)), (.long (xlaw_2.toInt64)), (.long (0 : Int64))] := Vr23
  show Wq _ _ _ _ _ (T23.setTop (mkF m 17 #[.val (.int xlaw_1), .val (.int xlaw_2), .val (.int xlaw_3), .val (.int xlaw_4), .val (.long ylaw_5), .second, .val (.ref b21), .unset] []))
  refine Ow.aload X23 hx (pc' := 19) (hb hby at_17) rfl rfl ?_
  refine Ow.iconst X23 hx (pc' := 20) (hb hby at_19) (z := (2 : Int32)) rfl ?_
  refine Ow.iloadN X23 hx (pc' := 21) (hb hby at_20) rfl ?_
  refine Ow.i2l X23 hx (pc' := 22) (hb hby at_21) (z := (xlaw_3.toInt64)) rfl ?_
  obtain ⟨T24, h24, X24, e24, W24, Vr24, st24⟩ := asJ X23 hx hZ e23 V_b21_t23 (j := (2 : Int32)) (i := 2) (by decide) rfl (Nat.le_of_ble_eq_true rfl) (g := (mkF m 22 #[.val (.int xlaw_1), .val (.int xlaw_2), .val (.int xlaw_3), .val (.int xlaw_4), .val (.long ylaw_5), .second, .val (.ref b21), .unset] [(.long (xlaw_3.toInt64)), (.int (2 : Int32)), (.ref b21)])) rfl rfl (hb hby at_22)
  refine Wq.step st24 ?_
  have N24 := Fr.snoc X24 N23 g_b21
  have K24 : Keep h0 h24 [] := K23.wr W24 (Or.inr sz_b21)
  have Z24 : n0 ≤ h24.size := Nat.le_trans Z23 (Keep.of_wr W24).1
  have V_b21_t24 : Al Z h24 b21 .long [(.long (xlaw_1.toInt64)), (.long (xlaw_2.toInt64)), (.long (xlaw_3.toInt64))] := Vr24
  show Wq _ _ _ _ _ (T24.setTop (mkF m 23 #[.val (.int xlaw_1), .val (.int xlaw_2), .val (.int xlaw_3), .val (.int xlaw_4), .val (.long ylaw_5), .second, .val (.ref b21), .unset] []))
  obtain ⟨T25, h25, X25, e25, E25, A25, D25, -, st25⟩ := newO X24 hx hZ hown (kw1 hw) (kw2 hw) (kw3 hw) e24 (g := (mkF m 23 #[.val (.int xlaw_1), .val (.int xlaw_2), .val (.int xlaw_3), .val (.int xlaw_4), .val (.long ylaw_5), .second, .val (.ref b21), .unset] [])) rfl (hb hby at_23) (by decide) (by decide)
  obtain ⟨o25, gz25⟩ : ∃ z, z = h24.size := ⟨_, rfl⟩
  rw [← gz25] at A25 D25 st25
  have g_o25 : n0 ≤ o25 := Nat.le_trans Z24 (Nat.le_of_eq gz25.symm)
  have sz_o25 : h0.size ≤ o25 := Nat.le_trans K24.1 (Nat.le_of_eq gz25.symm)
  have ne_b21_o25 : b21 ≠ o25 := Nat.ne_of_lt (Nat.lt_of_lt_of_le V_b21_t24.lt (Nat.le_of_eq gz25.symm))
  have K25 : Keep h0 h25 [] := K24.ext E25
  have Z25 : n0 ≤ h25.size := Nat.le_trans Z24 E25.1
  have V_b21_t25 := V_b21_t24.ext E25
  refine Wq.step st25 ?_
  have F_o25_chunkSize : Fld Z h25 o25 "com/example/strata/strata/io/ChunkIndex" "chunkSize" "I" (.int (0 : Int32)) := D25 (Or.inr (kw11 hw)) (ty := .int) (by decide)
  have F_o25_logSize : Fld Z h25 o25 "com/example/strata/strata/io/ChunkIndex" "logSize" "J" (.long (0 : Int64)) := D25 (Or.inr (kw13 hw)) (ty := .long) (by decide)
  have F_o25_storedStarts : Fld Z h25 o25 "com/example/strata/strata/io/ChunkIndex" "storedStarts" "[J" .null := D25 (Or.inr (kw15 hw)) (ty := (.array .long)) (by decide)
  show Wq _ _ _ _ _ (T25.setTop (mkF m 26 #[.val (.int xlaw_1), .val (.int xlaw_2), .val (.int xlaw_3), .val (.int xlaw_4), .val (.long ylaw_5), .second, .val (.ref b21), .unset] [(.ref o25)]))
  refine Ow.dup X25 hx (pc' := 27) (hb hby at_26) rfl ?_
  refine Ow.iloadN X25 hx (pc' := 28) (hb hby at_27) rfl ?_
  refine Ow.lload X25 hx (pc' := 30) (hb hby at_28) rfl ?_
  refine Ow.aload X25 hx (pc' := 32) (hb hby at_30) rfl rfl ?_
  obtain ⟨_, _, ⟨T26, L26, k26, n26⟩, -, X26, ⟨Lc26, hQ26, l26, y26, z26⟩, st26⟩ := X25.specialBack hx (y := mt1) rfl hown (mvT hZ (kw4 hw)) (mvT hZ (kw5 hw)) (mvT hZ (kw6 hw)) (by decide) (backOf (W := 1) (rm_ctor l Z a0 hw [] o25 xlaw_4 ylaw_5 b21 (xlaw_1.toInt64) (xlaw_2.toInt64) (xlaw_3.toInt64) h25 n0 Z25 A25 F_o25_chunkSize F_o25_logSize F_o25_storedStarts g_o25 V_b21_t25 ne_b21_o25) hZ (kw6 hw) (kw3 hw) (by decide) (by decide)) (g := (mkF m 32 #[.val (.int xlaw_1), .val (.int xlaw_2), .val (.int xlaw_3), .val (.int xlaw_4), .val (.long ylaw_5), .second, .val (.ref b21), .unset] [(.ref b21), (.long ylaw_5), (.int xlaw_4), (.ref o25), (.ref o25)])) rfl (by rw [hml]; rfl) (Steps.refl _) (a := o25) (argsL := [(.int xlaw_4), (.long ylaw_5), (.ref b21)]) (rest := [(.ref o25)]) (lenOf pd1 rfl) rfl (by show 2 * 0 + _ ≤ _; exact Nat.le_of_eq rfl) (hb hby at_32) (fun _ _ => ⟨rfl, e25, (by decide : 2 + 1 ≤ _), (by decide : 6 + 4 ≤ _)⟩)
  dsimp only [Pt.U, Pt.locs, Pt.cells, Pt.slots] at X26 l26 y26 z26 st26 hQ26
  subst l26 y26 z26
  obtain ⟨b4_c26, rfl, Nq26, Kq26, szq_b4_c26, P26_0, P26_1, P26_2, P26_3, P26_4⟩ := hQ26
  have g_b4_c26 : n0 ≤ b4_c26 := Nat.le_trans Z25 szq_b4_c26
  have sz_b4_c26 : h0.size ≤ b4_c26 := Nat.le_trans K25.1 szq_b4_c26
  have ne_b21_b4_c26 : b21 ≠ b4_c26 := Nat.ne_of_lt (Nat.lt_of_lt_of_le V_b21_t25.lt szq_b4_c26)
  have ne_o25_b4_c26 : o25 ≠ b4_c26 := Nat.ne_of_lt (Nat.lt_of_lt_of_le A25.lt szq_b4_c26)
  have N26 := Fr.app N24 Nq26
  have K26 : Keep h0 T26.heap [] := K25.trans Kq26 (allS (P := fun x => x ∈ [] ∨ h0.size ≤ x) (Or.inr sz_o25) all0)
  have Z26 : n0 ≤ T26.heap.size := Nat.le_trans Z25 Kq26.1
  have V_b21_t26 := V_b21_t25.keep Kq26 (ninS ne_b21_o25 nin0)
  have A25_t26 := A25.keep Kq26
  have e26 : T26.heap = T26.heap := rfl
  obtain ⟨q27, hq27⟩ : ∃ z : Int64, z = ((0 : Int64) + (xlaw_1.toInt64)) := ⟨_, rfl⟩
  rw [← hq27] at P26_4
  obtain ⟨q28, hq28⟩ : ∃ z : Int64, z = (q27 + (xlaw_2.toInt64)) := ⟨_, rfl⟩
  rw [← hq28] at P26_4
  obtain ⟨q29, hq29⟩ : ∃ z : Int64, z = (q28 + (xlaw_3.toInt64)) := ⟨_, rfl⟩
  rw [← hq29] at P26_4
  refine Wq.steps st26 ?_
  show Wq _ _ _ _ _ (T26.setTop (mkF m 35 #[.val (.int xlaw_1), .val (.int xlaw_2), .val (.int xlaw_3), .val (.int xlaw_4), .val (.long ylaw_5), .second, .val (.ref b21), .unset] [(.ref o25)]))
  refine Ow.astore X26 hx (pc' := 37) (hb hby at_35) rfl (l' := #[.val (.int xlaw_1), .val (.int xlaw_2), .val (.int xlaw_3), .val (.int xlaw_4), .val (.long ylaw_5), .second, .val (.ref b21), .val (.ref o25)]) rfl ?_
  refine Ow.aload X26 hx (pc' := 39) (hb hby at_37) rfl rfl ?_
  refine Ow.iconst X26 hx (pc' := 40) (hb hby at_39) (z := (0 : Int32)) rfl ?_
  obtain ⟨cq30, kq30, q30a, q30b, q30c⟩ := isOf hZ e26 A25_t26
  obtain ⟨_, _, ⟨T30, L30, k30, n30⟩, -, X30, ⟨Lc30, hQ30, l30, y30, z30⟩, st30⟩ := X26.virtualBack hx (y := mt2) (z := mt2) hown (mvT hZ (kw16 hw)) (mvT hZ (kw17 hw)) (notFace_of_selects (args := #[]) (mvT hZ (kw19 hw))) (mvT hZ (kw19 hw)) (mvT hZ (kw18 hw)) (by decide) (backOf (W := 0) (rm_sl0 l Z a0 hw [] o25 b4_c26 (0 : Int64) q27 q28 q29 T26.heap n0 Z26 P26_3 P26_4) hZ (kw20 hw) (kw3 hw) (by decide) (by decide)) q30a q30c (g := (mkF m 40 #[.val (.int xlaw_1), .val (.int xlaw_2), .val (.int xlaw_3), .val (.int xlaw_4), .val (.long ylaw_5), .second, .val (.ref b21), .val (.ref o25)] [(.int (0 : Int32)), (.ref o25)])) rfl (by rw [hml]; rfl) (Steps.refl _) (argsL := [(.int (0 : Int32))]) (rest := []) (lenOf pd2 rfl) rfl (by show 2 * 0 + _ ≤ _; exact Nat.le_of_eq rfl) (hb hby at_40) (fun _ _ => ⟨rfl, e26, (by decide : 3 + 0 ≤ _), (by decide : 10 + 0 ≤ _)⟩)
  dsimp only [Pt.U, Pt.locs, Pt.cells, Pt.slots] at X30 l30 y30 z30 st30 hQ30
  subst l30 y30 z30
  obtain ⟨rfl, Nq30, e30⟩ := hQ30
  have N30 := Fr.app N26 Nq30
  refine Wq.steps st30 ?_
  show Wq _ _ _ _ _ (T30.setTop (mkF m 43 #[.val (.int xlaw_1), .val (.int xlaw_2), .val (.int xlaw_3), .val (.int xlaw_4), .val (.long ylaw_5), .second, .val (.ref b21), .val (.ref o25)] [(.int ((q27 - (0 : Int64)).toInt32))]))
  generalize hv40 : ((q27 - (0 : Int64)).toInt32) = v40
  show Wq _ _ _ _ _ (T30.setTop (mkF m 43 #[.val (.int xlaw_1), .val (.int xlaw_2), .val (.int xlaw_3), .val (.int xlaw_4), .val (.long ylaw_5), .second, .val (.ref b21), .val (.ref o25)] [(.int v40)]))
  refine Ow.iloadN X30 hx (pc' := 44) (hb hby at_43) rfl ?_
  refine Ow.icmpNo X30 hx (pc' := 47) (hb hby at_44) (teq (by subst_vars; exact own_math _ _ : v40 = xlaw_1)).2 ?_
  refine Ow.aload X30 hx (pc' := 49) (hb hby at_47) rfl rfl ?_
  refine Ow.iconst X30 hx (pc' := 50) (hb hby at_49) (z := (1 : Int32)) rfl ?_
  obtain ⟨cq31, kq31, q31a, q31b, q31c⟩ := isOf hZ e30 A25_t26
  obtain ⟨_, _, ⟨T31, L31, k31, n31⟩, -, X31, ⟨Lc31, hQ31, l31, y31, z31⟩, st31⟩ := X30.virtualBack hx (y := mt2) (z := mt2) hown (mvT hZ (kw16 hw)) (mvT hZ (kw17 hw)) (notFace_of_selects (args := #[]) (mvT hZ (kw19 hw))) (mvT hZ (kw19 hw)) (mvT hZ (kw18 hw)) (by decide) (backOf (W := 0) (rm_sl1 l Z a0 hw [] o25 b4_c26 (0 : Int64) q27 q28 q29 T26.heap n0 Z26 P26_3 P26_4) hZ (kw20 hw) (kw3 hw) (by decide) (by decide)) q31a q31c (g := (mkF m 50 #[.val (.int xlaw_1), .val (.int xlaw_2), .val (.int xlaw_3), .val (.int xlaw_4), .val (.long ylaw_5), .second, .val (.ref b21), .val (.ref o25)] [(.int (1 : Int32)), (.ref o25)])) rfl (by rw [hml]; rfl) (Steps.refl _) (argsL := [(.int (1 : Int32))]) (rest := []) (lenOf pd2 rfl) rfl (by show 2 * 0 + _ ≤ _; exact Nat.le_of_eq rfl) (hb hby at_50) (fun _ _ => ⟨rfl, e30, (by decide : 3 + 0 ≤ _), (by decide : 10 + 0 ≤ _)⟩)
  dsimp only [Pt.U, Pt.locs, Pt.cells, Pt.slots] at X31 l31 y31 z31 st31 hQ31
  subst l31 y31 z31
  obtain ⟨rfl, Nq31, e31⟩ := hQ31
  have N31 := Fr.app N30 Nq31
  refine Wq.steps st31 ?_
  show Wq _ _ _ _ _ (T31.setTop (mkF m 53 #[.val (.int xlaw_1), .val (.int xlaw_2), .val (.int xlaw_3), .val (.int xlaw_4), .val (.long ylaw_5), .second, .val (.ref b21), .val (.ref o25)] [(.int ((q28 - q27).toInt32))]))
  generalize hv50 : ((q28 - q27).toInt32) = v50
  show Wq _ _ _ _ _ (T31.setTop (mkF m 53 #[.val (.int xlaw_1), .val (.int xlaw_2), .val (.int xlaw_3), .val (.int xlaw_4), .val (.long ylaw_5), .second, .val (.ref b21), .val (.ref o25)] [(.int v50)]))
  refine Ow.iloadN X31 hx (pc' := 54) (hb hby at_53) rfl ?_
  refine Ow.icmpNo X31 hx (pc' := 57) (hb hby at_54) (teq (by subst_vars; exact own_math _ _ : v50 = xlaw_2)).2 ?_
  refine Ow.aload X31 hx (pc' := 59) (hb hby at_57) rfl rfl ?_
  refine Ow.iconst X31 hx (pc' := 60) (hb hby at_59) (z := (2 : Int32)) rfl ?_
  obtain ⟨cq32, kq32, q32a, q32b, q32c⟩ := isOf hZ e31 A25_t26
  obtain ⟨_, _, ⟨T32, L32, k32, n32⟩, -, X32, ⟨Lc32, hQ32, l32, y32, z32⟩, st32⟩ := X31.virtualBack hx (y := mt2) (z := mt2) hown (mvT hZ (kw16 hw)) (mvT hZ (kw17 hw)) (notFace_of_selects (args := #[]) (mvT hZ (kw19 hw))) (mvT hZ (kw19 hw)) (mvT hZ (kw18 hw)) (by decide) (backOf (W := 0) (rm_sl2 l Z a0 hw [] o25 b4_c26 (0 : Int64) q27 q28 q29 T26.heap n0 Z26 P26_3 P26_4) hZ (kw20 hw) (kw3 hw) (by decide) (by decide)) q32a q32c (g := (mkF m 60 #[.val (.int xlaw_1), .val (.int xlaw_2), .val (.int xlaw_3), .val (.int xlaw_4), .val (.long ylaw_5), .second, .val (.ref b21), .val (.ref o25)] [(.int (2 : Int32)), (.ref o25)])) rfl (by rw [hml]; rfl) (Steps.refl _) (argsL := [(.int (2 : Int32))]) (rest := []) (lenOf pd2 rfl) rfl (by show 2 * 0 + _ ≤ _; exact Nat.le_of_eq rfl) (hb hby at_60) (fun _ _ => ⟨rfl, e31, (by decide : 3 + 0 ≤ _), (by decide : 10 + 0 ≤ _)⟩)
  dsimp only [Pt.U, Pt.locs, Pt.cells, Pt.slots] at X32 l32 y32 z32 st32 hQ32
  subst l32 y32 z32
  obtain ⟨rfl, Nq32, e32⟩ := hQ32
  have N32 := Fr.app N31 Nq32
  refine Wq.steps st32 ?_
  show Wq _ _ _ _ _ (T32.setTop (mkF m 63 #[.val (.int xlaw_1), .val (.int xlaw_2), .val (.int xlaw_3), .val (.int xlaw_4), .val (.long ylaw_5), .second, .val (.ref b21), .val (.ref o25)] [(.int ((q29 - q28).toInt32))]))
  generalize hv60 : ((q29 - q28).toInt32) = v60
  show Wq _ _ _ _ _ (T32.setTop (mkF m 63 #[.val (.int xlaw_1), .val (.int xlaw_2), .val (.int xlaw_3), .val (.int xlaw_4), .val (.long ylaw_5), .second, .val (.ref b21), .val (.ref o25)] [(.int v60)]))
  refine Ow.iloadN X32 hx (pc' := 64) (hb hby at_63) rfl ?_
  refine Ow.icmpNo X32 hx (pc' := 67) (hb hby at_64) (teq (by subst_vars; exact own_math _ _ : v60 = xlaw_3)).2 ?_
  refine Ow.iconst X32 hx (pc' := 68) (hb hby at_67) (z := (1 : Int32)) rfl ?_
  refine Ow.goto X32 hx (pc' := 72) (hb hby at_68) (by decide) (by decide) ?_
  exact Wq.ret X32 (BodyLoose.notSynchronized Bd) (rv := some (.int (1 : Int32))) (fun h => by rw [Bd.returns] at h; cases h) (fun _ hr => retN X32 hx (t := .boolean) Bd.returns (by simp) (hb hby at_72) hr) (by decide) (by decide) ⟨rfl, N32⟩
set_option maxRecDepth 65536 in
set_option maxHeartbeats 40000000 in
theorem comes_1 {Post : Tables → Env → Array Value → State → Outcome → State → Prop} (hpost : ∀ tb e args s v u, (limb_1_1.after args s (.returned v) u = true ∧ limb_1_2.after args s (.returned v) u = true ∧ True) → FrameEnd s (.returned v) u (Jvm.fieldLocs frame_1_writes args s ++ Jvm.arrayLocs frame_1_arrays args s ++ Jvm.staticLocs frame_1_statics s) 16 128 → Post tb e args s (.returned v) u) :
    ArmFor flags0 classFile x code maxLocals ret World_1 tables_1 room_1 Calls_1 rest_1 Pre_1 Post := by
  intro l hfl _ _ p e ha hc hk s m args below hf hA hF happ hP
  obtain ⟨hcalls, hrest, hpre⟩ := hP
  obtain ⟨-, -, -, hnamed, -, -, -, hat⟩ := (Spec.applies_iff hf).mp happ
  obtain ⟨hg, hn⟩ := and_e (Cond.before_iff.mp (show (Jvm.Cond.and given_1 narrow_1).before args s = true from hpre))
  obtain ⟨hg1, hg2⟩ := and_e hg
  obtain ⟨ha0, hb0⟩ := and_e hg2
  obtain ⟨ha1, hb1⟩ := and_e hb0
  obtain ⟨ha2, hb2⟩ := and_e hb1
  obtain ⟨ha3, hb3⟩ := and_e hb2
  obtain ⟨w0, w1, w2, w3, w4, rfl⟩ : ∃ w0 w1 w2 w3 w4 : Value, args = #[w0, w1, w2, w3, w4] := by
    have hs : args.size = 5 := by simpa [Cond.value, given_1] using hg1
    obtain ⟨L⟩ := args
    match L, hs with
    | [w0, w1, w2, w3, w4], _ => exact ⟨w0, w1, w2, w3, w4, rfl⟩
  have hw := fun d (hd : d ∈ tables_1) => atoms_spec (ws := Jvm.Cond.code x code maxLocals ret :: tables_1) hat d (List.mem_cons_of_mem _ hd)
  have hfit : Fit s := fun {y c} hc i hi => by
    obtain ⟨ha, rfl⟩ := Array.getElem?_eq_some_iff.mp hc
    have q := List.all_eq_true.mp ((Array.all_eq_true_iff_forall_mem.mp hF) _ (Array.getElem_mem ha)) i (List.mem_range.mpr hi)
    simpa [Array.getElem?_eq_getElem hi] using q
  obtain ⟨i0, ei0⟩ := is_v ha0
  obtain rfl : w0 = (.int i0) := Option.some.inj ei0
  obtain ⟨i1, ei1⟩ := is_v ha1
  obtain rfl : w1 = (.int i1) := Option.some.inj ei1
  obtain ⟨i2, ei2⟩ := is_v ha2
  obtain rfl : w2 = (.int i2) := Option.some.inj ei2
  obtain ⟨i3, ei3⟩ := is_v ha3
  obtain rfl : w3 = (.int i3) := Option.some.inj ei3
  obtain ⟨i4, ei4⟩ := isL_v hb3
  obtain rfl : w4 = (.long i4) := Option.some.inj ei4
  obtain ⟨n, o, h1, h2, h3, _, L, rfl, ⟨rfl, N⟩, hq⟩ := rm_law l s _ hw tables_1 i0 i1 i2 i3 i4 s.heap s.heap.size (Nat.le_refl _)  p e ha hc hk s m _ below hf ((Spec.applies_iff_loose hf).mp happ).1 ⟨rfl, State.Warmed39.refl s, rfl⟩ trivial
  refine ⟨n, _, h1, h2, h3, hpost _ _ _ _ _ _ ⟨Cond.after_iff.mpr rfl, Cond.after_iff.mpr (eq_i res_at (Term.int_eval (1)) rfl), trivial⟩ ⟨hq.1, hq.2.1, (hq.2.2.sift fun y hy => Or.inr (N y hy)).mono (by decide) (by decide)⟩⟩
theorem main_1_1 : Claimed_1_1 := comes_1 fun _ _ _ _ _ _ h hF => ⟨h.1, hF⟩
theorem main_1_2 : Claimed_1_2 := comes_1 fun _ _ _ _ _ _ h hF => ⟨h.2.1, hF⟩
end Jvm.Pilot.@@N@@
namespace Jvm.Pilot.@@N@@
open Jvm Jvm.ClassFile Sem Op Lib Jvm.Free Jvm.Stand Jvm.Pilot.@@N@@.Jvm.D
/-! MADE BY PROGRAM (witnessworld.py) out of the Statement's table words and the real class files: 11 classes; the members and pool entries that the words name. The judged class is class 1, her method 1. -/
namespace start1
open Jvm.ClassFile
def u (s : String) : CpInfo := .utf8 (stringToUtf16 s)
/-- a pool by its gaps: so many unusable entries, then the entry; so many at the end -/
def gap : Nat → List CpInfo → List CpInfo
  | 0, r => r
  | n + 1, r => .unusable :: gap n r
def poolList (es : List (Nat × CpInfo)) (last : Nat) : List CpInfo := es.foldr (fun e r => gap e.1 (e.2 :: r)) (gap last [])
def pool (es : List (Nat × CpInfo)) (last : Nat) : Array CpInfo := ⟨poolList es last⟩
def fileOf (pool : Array CpInfo) (this : Nat) (attrs : Array Attribute := #[]) (ms : Array MethodInfo := #[]) (fl : Nat := 33) (sup : Nat := 0) (ifs : Array Nat := #[]) (fds : Array FieldInfo := #[]) : ClassFile where
  minorVersion := 0
  majorVersion := 65
  constantPool := pool
  accessFlags := fl
  thisClass := this
  superClass := sup
  interfaces := ifs
  fields := fds
  methods := ms
  attributes := attrs
def plain (name : String) (sup : Option ClassId) : Class where
  name := name
  kind := .ordinary
  loader := none
  accessFlags := 33
  super := sup
  interfaces := #[]
  cf := none
  fields := #[]
  methods := #[]
  instanceTypes := #[]
  staticTypes := #[]
  resolved := #[]
  callSites := []
  init := .initialized
  statics := none
  mirror := none

def pool0 : Array CpInfo := pool [(5, u "<init>"), (0, u "()V"), (1, .class_ 10), (1, u "java/lang/Object")] 113

def k0c0 : Code := { maxStack := 0, maxLocals := 1, code := object_method_1_code, exceptionTable := #[], attributes := #[] }
def k0m0 : Method := { name := "<init>", desc := "()V", sig := { parameters := [], returnType := none }, accessFlags := 1, code := some k0c0 }
/-- java/lang/Object -/
def k0 : Class := { plain "java/lang/Object" none with
  accessFlags := 33
  interfaces := #[]
  cf := some (fileOf pool0 8 #[] #[{ accessFlags := 1, nameIndex := 5, descriptorIndex := 6, attributes := #[] }] 33 0 #[] #[])
  fields := #[]
  methods := #[k0m0]
  instanceTypes := #[]
  staticTypes := #[]
  resolved := Array.replicate 124 none
  statics := none }

def pool1 : Array CpInfo := pool [(2, .class_ 4), (1, u "java/lang/Object"), (0, u "<init>"), (0, u "()V"), (0, .class_ 8), (0, u "com/example/strata/strata/io/ChunkIndex"), (0, .methodref 7 10), (0, .nameAndType 5 11), (0, u "(IJ[J)V"), (0, .methodref 7 13), (0, .nameAndType 14 15), (0, u "storedLength"), (0, u "(I)I"), (0, .class_ 17), (0, u "com/example/strata/strata/io/ChunkIndexStoredLengthPinLaw"), (2, u "law"), (0, u "(IIIIJ)Z")] 5

def k1m0 : Method := { name := "<init>", desc := "()V", sig := { parameters := [], returnType := none }, accessFlags := 1, code := none }
def k1c1 : Code := { maxStack := 6, maxLocals := 8, code := code, exceptionTable := #[], attributes := #[] }
def k1m1 : Method := { name := "law", desc := "(IIIIJ)Z", sig := { parameters := [.int, .int, .int, .int, .long], returnType := some .boolean }, accessFlags := 9, code := some k1c1 }
/-- com/example/strata/strata/io/ChunkIndexStoredLengthPinLaw -/
def k1 : Class := { plain "com/example/strata/strata/io/ChunkIndexStoredLengthPinLaw" (some 0) with
  accessFlags := 49
  interfaces := #[]
  cf := some (fileOf pool1 16 #[] #[{ accessFlags := 1, nameIndex := 5, descriptorIndex := 6, attributes := #[] }, { accessFlags := 9, nameIndex := 20, descriptorIndex := 21, attributes := #[] }] 49 2 #[] #[])
  fields := #[]
  methods := #[k1m0, k1m1]
  instanceTypes := #[]
  staticTypes := #[]
  resolved := Array.replicate 27 none
  statics := none }

def pool2 : Array CpInfo := pool [(3, .methodref 4 5), (0, .class_ 6), (0, .nameAndType 7 8), (0, u "java/lang/Object"), (0, u "<init>"), (0, u "()V"), (0, .fieldref 10 11), (0, .class_ 12), (0, .nameAndType 13 14), (0, u "com/example/strata/strata/io/ChunkIndex"), (0, u "chunkSize"), (0, u "I"), (0, .fieldref 10 16), (0, .nameAndType 17 18), (0, u "logSize"), (0, u "J"), (0, .fieldref 10 20), (0, .nameAndType 21 22), (0, u "storedStarts"), (0, u "[J"), (2, u "HEAD_SIZE"), (28, u "(I)I"), (4, u "MAGIC"), (0, u "[B"), (12, .class_ 74), (0, u "com/example/strata/strata/io/ChunkIndex$Numbers"), (39, u "(IJ[J)V"), (34, u "storedLength"), (4, .class_ 155), (0, u "com/example/strata/strata/io/ChunkIndex$Codes"), (64, u "CHUNK_SIZE"), (2, u "LARGEST_CHUNK"), (1, u "VERSION"), (0, u "B"), (1, u "ABOVE_LEAST_VERSION"), (1, u "ZSTD"), (0, u "CHECKSUM_SIZE"), (1, u "HIGHEST_ORDER")] 50

def k2c0 : Code := { maxStack := 6, maxLocals := 6, code := prog_14_method_1_code, exceptionTable := #[], attributes := #[] }
def k2m0 : Method := { name := "<init>", desc := "(IJ[J)V", sig := { parameters := [.int, .long, (.array .long)], returnType := none }, accessFlags := 0, code := some k2c0 }
def k2c1 : Code := { maxStack := 4, maxLocals := 2, code := prog_14_method_13_code, exceptionTable := #[], attributes := #[] }
def k2m1 : Method := { name := "storedLength", desc := "(I)I", sig := { parameters := [.int], returnType := some .int }, accessFlags := 1, code := some k2c1 }
/-- com/example/strata/strata/io/ChunkIndex -/
def k2 : Class := { plain "com/example/strata/strata/io/ChunkIndex" (some 0) with
  accessFlags := 49
  interfaces := #[]
  cf := some (fileOf pool2 10 #[.nestMembers #[73, 154]] #[{ accessFlags := 0, nameIndex := 7, descriptorIndex := 114, attributes := #[] }, { accessFlags := 1, nameIndex := 149, descriptorIndex := 54, attributes := #[] }] 49 4 #[] #[{ accessFlags := 25, nameIndex := 220, descriptorIndex := 14, attributes := #[] }, { accessFlags := 26, nameIndex := 223, descriptorIndex := 14, attributes := #[] }, { accessFlags := 26, nameIndex := 59, descriptorIndex := 60, attributes := #[] }, { accessFlags := 26, nameIndex := 225, descriptorIndex := 226, attributes := #[] }, { accessFlags := 26, nameIndex := 228, descriptorIndex := 226, attributes := #[] }, { accessFlags := 26, nameIndex := 230, descriptorIndex := 226, attributes := #[] }, { accessFlags := 26, nameIndex := 25, descriptorIndex := 14, attributes := #[] }, { accessFlags := 26, nameIndex := 231, descriptorIndex := 14, attributes := #[] }, { accessFlags := 26, nameIndex := 233, descriptorIndex := 14, attributes := #[] }, { accessFlags := 18, nameIndex := 13, descriptorIndex := 14, attributes := #[] }, { accessFlags := 18, nameIndex := 17, descriptorIndex := 18, attributes := #[] }, { accessFlags := 18, nameIndex := 21, descriptorIndex := 22, attributes := #[] }])
  fields := #[{ name := "CHUNK_SIZE", type := .int, accessFlags := 25, slot := 0, constantValue := 0 }, { name := "LARGEST_CHUNK", type := .int, accessFlags := 26, slot := 1, constantValue := 0 }, { name := "MAGIC", type := (.array .byte), accessFlags := 26, slot := 2, constantValue := 0 }, { name := "VERSION", type := .byte, accessFlags := 26, slot := 3, constantValue := 0 }, { name := "ABOVE_LEAST_VERSION", type := .byte, accessFlags := 26, slot := 4, constantValue := 0 }, { name := "ZSTD", type := .byte, accessFlags := 26, slot := 5, constantValue := 0 }, { name := "HEAD_SIZE", type := .int, accessFlags := 26, slot := 6, constantValue := 0 }, { name := "CHECKSUM_SIZE", type := .int, accessFlags := 26, slot := 7, constantValue := 0 }, { name := "HIGHEST_ORDER", type := .int, accessFlags := 26, slot := 8, constantValue := 0 }, { name := "chunkSize", type := .int, accessFlags := 18, slot := 0, constantValue := 0 }, { name := "logSize", type := .long, accessFlags := 18, slot := 1, constantValue := 0 }, { name := "storedStarts", type := (.array .long), accessFlags := 18, slot := 2, constantValue := 0 }]
  methods := #[k2m0, k2m1]
  instanceTypes := #[.int, .long, (.array .long)]
  staticTypes := #[.int, .int, (.array .byte), .byte, .byte, .byte, .int, .int, .int]
  resolved := Array.replicate 284 none
  statics := none }

def pool3 : Array CpInfo := pool [(1, u "java/lang/Cloneable"), (0, .class_ 1), (0, u "java/lang/Object"), (0, .class_ 3)] 3

/-- java/lang/Cloneable -/
def k3 : Class := { plain "java/lang/Cloneable" (some 0) with
  accessFlags := 1537
  interfaces := #[]
  cf := some (fileOf pool3 2 #[] #[] 1537 4 #[] #[])
  fields := #[]
  methods := #[]
  instanceTypes := #[]
  staticTypes := #[]
  resolved := Array.replicate 8 none
  statics := none }

def pool4 : Array CpInfo := pool [(1, u "java/io/Serializable"), (0, .class_ 1), (0, u "java/lang/Object"), (0, .class_ 3)] 3

/-- java/io/Serializable -/
def k4 : Class := { plain "java/io/Serializable" (some 0) with
  accessFlags := 1537
  interfaces := #[]
  cf := some (fileOf pool4 2 #[] #[] 1537 4 #[] #[])
  fields := #[]
  methods := #[]
  instanceTypes := #[]
  staticTypes := #[]
  resolved := Array.replicate 8 none
  statics := none }

/-- the primitive byte -/
def k5 : Class := { plain "byte" none with kind := .primitive 'B', accessFlags := 0x411 }
/-- [B -/
def k6 : Class := { plain "[B" (some 0) with kind := .array 5 .byte, interfaces := #[3, 4], accessFlags := 1041 }

/-- the primitive int -/
def k7 : Class := { plain "int" none with kind := .primitive 'I', accessFlags := 0x411 }
/-- [I -/
def k8 : Class := { plain "[I" (some 0) with kind := .array 7 .int, interfaces := #[3, 4], accessFlags := 1041 }

/-- the primitive long -/
def k9 : Class := { plain "long" none with kind := .primitive 'J', accessFlags := 0x411 }
/-- [J -/
def k10 : Class := { plain "[J" (some 0) with kind := .array 9 .long, interfaces := #[3, 4], accessFlags := 1041 }

def heap : Heap := #[]
def classes : Array Class := #[k0, k1, k2, k3, k4, k5, k6, k7, k8, k9, k10]
def interned : List (Array UInt16 × Addr) := []
def slotsUsed : Nat := 0
def theMethod : MethodId := ⟨1, 1⟩
def args0 : Array Value := #[.int 5, .int 7, .int 9, .int 11, .long 8]
def aboutOver (below : List Frame) : State where
  vm := { classes := classes, interned := interned.toArray }
  heap := heap
  slotsUsed := slotsUsed
  threads := #[{ frames := .invoking theMethod args0 :: below }]
def below0 : List Frame := [.native { method := ⟨0, 0⟩, args := #[] }]
def about1 : State := aboutOver below0
def p0 : Program := .bare "" "" ""
def e0 : Env := launch0.env 0 0 0
theorem w_frames : about1.frames = Frame.invoking theMethod args0 :: below0 := rfl
set_option maxRecDepth 65536 in
theorem w_args : argsFit about1.vm theMethod args0 = true := by decide +kernel
set_option maxRecDepth 65536 in
theorem w_heap : heapFits about1 = true := by decide +kernel
set_option maxRecDepth 65536 in
theorem w_runnable : about1.curStatus? = some .runnable := by decide +kernel
set_option maxRecDepth 65536 in
theorem w_alone : about1.alone = true := by decide +kernel
set_option maxRecDepth 65536 in
theorem w_named : about1.methodNamed? x = some theMethod := by decide +kernel
set_option maxRecDepth 65536 in
theorem w_hears : about1.hears theMethod below0 = true := by decide +kernel
set_option maxRecDepth 65536 in
theorem w_ripe : about1.ripe theMethod args0 below0 = true := by decide +kernel
theorem w_running : about1.status = .running := rfl
set_option maxRecDepth 65536 in
theorem w_room : about1.hasRoom e0.platform room_1 = true :=
  launch0.hasRoom_least _ room_1 (by decide +kernel) (by decide +kernel) (by decide +kernel) (by decide +kernel) (by decide +kernel) (by decide +kernel)
theorem allAtoms_all (ts : List Jvm.Cond) (a : Array Jvm.Value) (st : Jvm.State) : (allAtoms ts).before a st = ts.all (fun c => c.before a st) := by
  induction ts with
  | nil => rfl
  | cons c t ih =>
    show (Jvm.Cond.and c (allAtoms t)).before a st = _
    rw [Jvm.Cond.before_and, ih, List.all_cons]
def words1 : List Jvm.Cond := Jvm.Cond.code x code maxLocals ret :: tables_1
/-- a 'code' word, met by the world's own term for the bytes: nothing is compared byte by byte -/
theorem code_word {y : MethodName} {bytes : ByteArray} {mx : Nat} {rt : Option FieldType} {a : Array Value} {s : State} {m : MethodId} {meth : Method} {c : Code} (h1 : s.methodNamed? y = some m) (h2 : s.vm.method? m = some meth) (h3 : meth.code = some c) (h4 : c.code = bytes)
    (h5 : (c.maxLocals == mx && c.exceptionTable.isEmpty && decide (c.maxStack ≤ mostOperands) && decide (meth.sig.returnType = rt) && !meth.locks && decide (parseMethodDescriptor y.desc = some meth.sig)) = true) : (Jvm.Cond.code y bytes mx rt).before a s = true := by
  simp only [Bool.and_eq_true, beq_iff_eq, Bool.not_eq_true', decide_eq_true_eq] at h5
  obtain ⟨⟨⟨⟨⟨g1, g2⟩, g3⟩, g4⟩, g5⟩, g6⟩ := h5
  simp [Cond.before, Cond.holds, Cond.value, h1, h2, h3, h4, g1, g2, g3, g4, g5, g6]
def isCode : Jvm.Cond → Bool
  | .code _ _ _ _ => true
  | _ => false
theorem all_split {L : List Jvm.Cond} {P : Jvm.Cond → Bool} (h1 : L.all (fun c => isCode c || P c) = true) (h2 : ∀ c ∈ L.filter isCode, P c = true) : L.all P = true := by
  refine List.all_eq_true.mpr fun c hc => ?_
  have h := List.all_eq_true.mp h1 c hc
  rcases Bool.eq_false_or_eq_true (isCode c) with hi | hi
  · exact h2 c (List.mem_filter.mpr ⟨hc, hi⟩)
  · simpa [hi] using h
set_option maxRecDepth 65536 in
theorem w_c0 : (Jvm.Cond.code x code maxLocals ret).before args0 about1 = true := code_word (m := ⟨1, 1⟩) (meth := k1m1) (c := k1c1) (by decide +kernel) rfl rfl rfl (by decide +kernel)
set_option maxRecDepth 65536 in
theorem w_c1 : (Jvm.Cond.code ({ cls := "com/example/strata/strata/io/ChunkIndex", name := "<init>", desc := "(IJ[J)V" } : Jvm.MethodName) prog_14_method_1_code (6 : Nat) (Option.none : Option Jvm.ClassFile.FieldType)).before args0 about1 = true := code_word (m := ⟨2, 0⟩) (meth := k2m0) (c := k2c0) (by decide +kernel) rfl rfl rfl (by decide +kernel)
set_option maxRecDepth 65536 in
theorem w_c2 : (Jvm.Cond.code ({ cls := "java/lang/Object", name := "<init>", desc := "()V" } : Jvm.MethodName) object_method_1_code (1 : Nat) (Option.none : Option Jvm.ClassFile.FieldType)).before args0 about1 = true := code_word (m := ⟨0, 0⟩) (meth := k0m0) (c := k0c0) (by decide +kernel) rfl rfl rfl (by decide +kernel)
set_option maxRecDepth 65536 in
theorem w_c3 : (Jvm.Cond.code ({ cls := "com/example/strata/strata/io/ChunkIndex", name := "storedLength", desc := "(I)I" } : Jvm.MethodName) prog_14_method_13_code (2 : Nat) (Option.some Jvm.ClassFile.FieldType.int)).before args0 about1 = true := code_word (m := ⟨2, 1⟩) (meth := k2m1) (c := k2c1) (by decide +kernel) rfl rfl rfl (by decide +kernel)
def codes1 : List Jvm.Cond := [Jvm.Cond.code x code maxLocals ret, Jvm.Cond.code ({ cls := "com/example/strata/strata/io/ChunkIndex", name := "<init>", desc := "(IJ[J)V" } : Jvm.MethodName) prog_14_method_1_code (6 : Nat) (Option.none : Option Jvm.ClassFile.FieldType), Jvm.Cond.code ({ cls := "java/lang/Object", name := "<init>", desc := "()V" } : Jvm.MethodName) object_method_1_code (1 : Nat) (Option.none : Option Jvm.ClassFile.FieldType), Jvm.Cond.code ({ cls := "com/example/strata/strata/io/ChunkIndex", name := "storedLength", desc := "(I)I" } : Jvm.MethodName) prog_14_method_13_code (2 : Nat) (Option.some Jvm.ClassFile.FieldType.int)]
set_option maxRecDepth 65536 in
theorem codes_eq : words1.filter isCode = codes1 := rfl
theorem w_codes : ∀ c ∈ words1.filter isCode, c.before args0 about1 = true := by
  rw [codes_eq]
  intro c hc
  simp only [codes1, List.mem_cons, List.not_mem_nil, or_false] at hc
  rcases hc with rfl | rfl | rfl | rfl
  · exact w_c0
  · exact w_c1
  · exact w_c2
  · exact w_c3
set_option maxRecDepth 65536 in
theorem w_t1 : words1.all (fun c => isCode c || c.before args0 about1) = true := by decide +kernel
theorem w_tables : (allAtoms (Jvm.Cond.code x code maxLocals ret :: tables_1)).before args0 about1 = true := by
  rw [allAtoms_all]
  show words1.all (fun c => c.before args0 about1) = true
  refine all_split ?_ w_codes
  rw [w_t1]
set_option maxRecDepth 65536 in
theorem w_case : (Jvm.Cond.and given_1 narrow_1).before args0 about1 = true := by decide +kernel
theorem w_applies : (headSpec (Jvm.Cond.code x code maxLocals ret :: tables_1) room_1).applies x e0.platform about1 = true :=
  (Spec.applies_iff w_frames).mpr ⟨w_running, w_runnable, w_alone, w_named, w_hears, w_ripe, w_room, w_tables⟩
theorem atStart : AtStart classFile x code maxLocals ret World_1 tables_1 room_1 Calls_1 rest_1 Pre_1 launch0 p0 e0 about1 theMethod args0 below0 :=
  ⟨lists_1, trivial, launch0.admits_env _ _ _, launch0.least_env, fairChoices_fair.cas, fairChoices_fair.clock, w_frames, w_args, w_heap, w_applies, trivial, trivial, w_case⟩
end start1
theorem witness_1 : WitnessClaimed_1 := ⟨start1.p0, start1.e0, start1.about1, start1.theMethod, start1.args0, start1.below0, start1.atStart⟩
end Jvm.Pilot.@@N@@
