import JvmDerived
import JvmDerived.Pilot.@@N@@Statement
import JvmDerived.Pilot.@@N@@Code
set_option linter.unusedVariables false
set_option linter.unusedSimpArgs false
namespace Jvm.OwnW
open Sem ClassFile Op Lib Jvm.Stand Jvm.Free Jvm.LawKit Jvm.RoadKit
section Base
variable {p : Program} {l : Launch} {e : Env} {R : Room} {s : State} {m : MethodId} {args : Array Value} {below : List Frame} {meth : Method} {c : Code} {T : State} {locs : List Loc} {cells slots : Nat} {Z : State} {h h' : Heap} {a b : Addr} {ty : FieldType} {vs : List Value} {v : Value} {sl : Nat} {ws : List Addr}
variable {Q : Option Value → Heap → List Loc → Prop} {En : Outcome → State → List Loc → Prop} {kc ks : Nat} {U U' : State}
/-- from U the body comes to its end; what it leaves is Q, its frame En -/
def Wq (p : Program) (e : Env) (below : List Frame) (En : Outcome → State → List Loc → Prop) (Q : Option Value → Heap → List Loc → Prop) (U : State) : Prop :=
  ∃ s₂ o, Steps p.tables e below U s₂ ∧ s₂.status = .running ∧ Ended s₂ below o ∧ ∃ v L, o = .returned v ∧ Q v s₂.heap L ∧ En o s₂ L
theorem Wq.step (h1 : ∀ t, Steps p.tables e below U' t → Steps p.tables e below U t) (k : Wq p e below En Q U') : Wq p e below En Q U := by
  obtain ⟨s₂, o, q, r⟩ := k; exact ⟨s₂, o, h1 _ q, r⟩
theorem Wq.steps (h1 : Steps p.tables e below U U') (k : Wq p e below En Q U') : Wq p e below En Q U := by
  obtain ⟨s₂, o, q, r⟩ := k; exact ⟨s₂, o, h1.trans q, r⟩
theorem Wq.by (k1 : Wq p e below En Q U' → Wq p e below En Q U) (k : Wq p e below En Q U') : Wq p e below En Q U := k1 k
theorem Wq.ret {rv : Option Value} {g : JFrame} (X : Stand p l e R s m args below meth c T locs cells slots) (hlk : meth.locks = false) (hv : meth.sig.returnType = none → rv = none)
    (st : ∀ fs, (∀ (f : JFrame) (acts : List Action), f.method = m → f.locked = none → f.entered = [] → (doReturn e (T.setTop f) acts rv).1 = T.setFrames fs) → Steps p.tables e below (T.setTop g) (T.setFrames fs))
    (hc : cells ≤ kc) (hs : slots ≤ ks) (hQ : Q rv T.heap locs) : Wq p e below (fun o t L => FrameEnd s o t L kc ks) Q (T.setTop g) := by
  obtain ⟨fs, hr, hrun, hended, hW, hsame⟩ := X.leave (v := rv) hv hlk
  exact ⟨_, _, st fs hr, hrun, hended, rv, locs, rfl, hQ, ⟨rv, rfl⟩, hW, hsame.mono hc hs⟩
/-- the same for a body that may load a String constant for the first time -/
theorem Wq.retW {rv : Option Value} {g : JFrame} {vm₁ : Vm} {n : Nat} (X : Stand p l e R (s.setVm vm₁) m args below meth c T locs cells slots) (hS : s.Since vm₁ n) (hn : n ≤ T.heap.size) (hlk : meth.locks = false) (hv : meth.sig.returnType = none → rv = none)
    (st : ∀ fs, (∀ (f : JFrame) (acts : List Action), f.method = m → f.locked = none → f.entered = [] → (doReturn e (T.setTop f) acts rv).1 = T.setFrames fs) → Steps p.tables e below (T.setTop g) (T.setFrames fs))
    (hc : cells ≤ kc) (hs : slots ≤ ks) (hQ : Q rv T.heap locs) : Wq p e below (fun o t L => ReturnedEndW s o t L kc ks) Q (T.setTop g) := by
  obtain ⟨fs, hr, hrun, hended, w1, w2, w3, w4⟩ := X.leaveW hS hn (v := rv) hv hlk
  exact ⟨_, _, st fs hr, hrun, hended, rv, locs, rfl, hQ, ⟨rv, rfl⟩, w2, w3, w4.mono hc hs⟩
/-- an array and the whole list of what it holds -/
def Al (Z : State) (h : Heap) (a : Addr) (ty : FieldType) (vs : List Value) : Prop := ∃ cl : Cell, Arr Z h a cl ty ∧ cl.slots.toList = vs
theorem Al.lt (V : Al Z h a ty vs) : a < h.size := by obtain ⟨cl, A, -⟩ := V; exact A.lt
theorem Al.ext (V : Al Z h a ty vs) (E : Ext h h') : Al Z h' a ty vs := by obtain ⟨cl, A, r⟩ := V; exact ⟨cl, A.ext E, r⟩
theorem Al.other (V : Al Z h b ty vs) (W : Wr h h' a sl v) (q : b ≠ a) : Al Z h' b ty vs := by obtain ⟨cl, A, r⟩ := V; exact ⟨cl, A.other W q, r⟩
theorem Al.keep (V : Al Z h a ty vs) (K : Keep h h' ws) (q : a ∉ ws) : Al Z h' a ty vs := by obtain ⟨cl, A, r⟩ := V; exact ⟨cl, ⟨K.2.1 a cl A.1 q, A.2⟩, r⟩
theorem Al.new {cA : ClassId} {n : Int32} {k : Nat} {dv : Value} (A : Arr Z h a (newA cA ty n) ty) (hk : n.toNatClampNeg = k) (hd : defaultValue ty = dv) : Al Z h a ty (List.replicate k dv) := ⟨_, A, by subst hk hd; simp [newA]⟩
theorem Al.set (V : Al Z h a ty vs) (W : Wr h h' a sl v) : Al Z h' a ty (vs.set sl v) := by
  obtain ⟨cl, A, rfl⟩ := V
  exact ⟨_, A.same W, by simp [Cell.setSlot]⟩
theorem Sta.keepN {C n d : String} {v : Value} (F : Sta Z h C n d v) (K : Keep h h' ws) (q : ∀ w ∈ ws, ∀ cell : Cell, h[w]? = some cell → cell.vm.isStatics = false) : Sta Z h' C n d v := by
  obtain ⟨cf, i, k, f, st, cell, h1, h2, h3, h4, h5, h6, h7⟩ := F
  exact ⟨cf, i, k, f, st, cell, h1, h2, h3, h4, K.2.1 _ _ h5 (fun hm => by rw [q st hm cell h5] at h6; cases h6), h6, h7⟩
theorem fldI {t : Term} {C n d : String} {k : Int32} (hx : (Cond.eq (.field t C n d) (.int k)).value args s none s [] = some true) (ev : t.eval args s none [] s = some (.ref a)) : Fld s s.heap a C n d (.int k) := by
  refine Fld.start ?_
  have e1 := fld_at (C := C) (n := n) (dd := d) ev
  obtain ⟨x, y, h1, h2, k1, k2⟩ := cmp_v (Or.inl hx)
  rw [Term.int_eval] at h2
  cases h2
  rw [e1] at h1
  cases x <;> simp only [Kin] at k2 <;> first | (obtain ⟨z, hz⟩ := k2; cases hz) | skip
  have q := gotT (Cond.eq_ints (e1.trans h1) (Term.int_eval k)) hx
  rw [h1, q]
theorem fldJ {t : Term} {C n d : String} {k : Int64} (hx : (Cond.eq (.field t C n d) (.long k)).value args s none s [] = some true) (ev : t.eval args s none [] s = some (.ref a)) : Fld s s.heap a C n d (.long k) := by
  refine Fld.start ?_
  have e1 := fld_at (C := C) (n := n) (dd := d) ev
  obtain ⟨x, y, h1, h2, k1, k2⟩ := cmp_v (Or.inl hx)
  rw [long_at] at h2
  cases h2
  rw [e1] at h1
  cases x <;> simp only [Kin] at k2 <;> first | (obtain ⟨z, hz⟩ := k2; cases hz) | skip
  have q := gotT (eq_L (e1.trans h1) (long_at k)) hx
  rw [h1, q]
theorem Exa.ns {C : String} (F : Exa Z h a C) : ∀ cell : Cell, h[a]? = some cell → cell.vm.isStatics = false := by
  obtain ⟨c1, k, h1, h2, h3, h4, h5⟩ := F
  intro cell hc; cases h1.symm.trans hc; exact h4
theorem Al.ns (V : Al Z h a ty vs) : ∀ cell : Cell, h[a]? = some cell → cell.vm.isStatics = false := by
  obtain ⟨cl, A, -⟩ := V
  intro cell hc; cases A.1.symm.trans hc; exact A.plain
theorem clA (X : Stand p l e R s m args below meth c T locs cells slots) (hx : p.tables.exec = Jvm.exec) (hZ : Z.Warmed39 s.vm) {a0 : Array Value} {own ad : String} {index : Nat} (hown : s.vm.findClass own = some m.cls)
    (w1 : (Cond.methodLink own index ⟨ad, "clone", "()Ljava/lang/Object;"⟩).before a0 Z = true) (w2 : (Cond.sameMethod ad "java/lang/Object" "clone" "()Ljava/lang/Object;").before a0 Z = true) (w3 : (Cond.native ⟨"java/lang/Object", "clone", "()Ljava/lang/Object;"⟩).before a0 Z = true)
    (w4 : (Cond.instanceMethod ⟨"java/lang/Object", "clone", "()Ljava/lang/Object;"⟩).before a0 Z = true) (w5 : (Cond.selects ad ⟨ad, "clone", "()Ljava/lang/Object;"⟩ ⟨"java/lang/Object", "clone", "()Ljava/lang/Object;"⟩).before a0 Z = true) (w6 : (Cond.castable ad "java/lang/Cloneable").before a0 Z = true)
    (eT : T.heap = h) (V : Al Z h a ty vs) (E : Exa Z h a ad) (F : ∀ v ∈ vs, fits ty v = true) {g : JFrame} (hg : g.method = m) (hsize : g.locals.size = c.maxLocals) {rest : List Value} (hst : g.stack = .ref a :: rest) (hd : decode c.code g.pc = .ok (.invokevirtual index, 3))
    (hf : 1 ≤ R.frames) {W cap : Nat} (hW : 2 * g.monitorRoom + (rest.map fun v => v.category).sum ≤ W) (hl : W + 14 ≤ R.locals) (hcap : vs.length ≤ cap) (hc : cells + 1 ≤ R.cells) (hsl : slots + cap ≤ R.slots) :
    ∃ T' h', Stand p l e R s m args below meth c T' locs (cells + 1) (slots + cap) ∧ T'.heap = h' ∧ Ext h h' ∧ Al Z h' h.size ty vs ∧ Exa Z h' h.size ad ∧
      ∀ target, Steps p.tables e below (T'.setTop { g with pc := g.pc + 3, stack := .ref h.size :: rest }) target → Steps p.tables e below (T.setTop g) target := by
  obtain ⟨cl, A, r⟩ := V
  have FC : FitC Z cl := fitC_of A fun i hi v hv => F v (by rw [← r]; exact Array.mem_toList_iff.mpr (Array.mem_of_getElem? hv))
  obtain ⟨T', h', X', e', ex, A', E', st⟩ := cloneA X hx hZ hown w1 w2 w3 w4 w5 w6 eT A E FC hg hsize hst hd hf hW hl (by rw [← Array.length_toList, r]; exact hcap) hc hsl
  exact ⟨T', h', X', e', ex, ⟨_, A', r⟩, E', st⟩
theorem selPriv {a0 : Array Value} {y : MethodName} {k : Nat} (hZ : Z.Warmed39 s.vm) (wi : (Cond.instantiable y.cls k).before a0 Z = true) (wp : (Cond.privateMethod y).before a0 Z = true) (wm : (Cond.instanceMethod y).before a0 Z = true) (hy : y.cls ≠ "java/lang/invoke/MethodHandle" ∧ y.cls ≠ "java/lang/invoke/VarHandle") : (Cond.selects y.cls y y).before args s = true := by
  obtain ⟨c, k, h1, h2, -, h4, -⟩ := Cond.instantiable_spec (mv (args := args) hZ wi)
  simp only [Bool.or_eq_false_iff] at h4
  exact Jvm.Stand.selects_self_of_private h1 h2 h4.1 (Cond.privateMethod_at (mvP hZ wp (args := args))) (mv hZ wm) hy
theorem al_in {cl : Cell} {j : Int32} {i : Nat} (hvs : cl.slots.toList = vs) (hj : ¬ j < 0) (hi : j.toNatClampNeg = i) (hl : i < vs.length) : ¬ (j < 0 ∨ cl.slots.size ≤ j.toNatClampNeg) := by
  subst hvs hi
  rintro (q | q)
  · exact hj q
  · simp only [Array.length_toList] at hl; omega
theorem al_at {cl : Cell} {j : Int32} {i : Nat} (hvs : cl.slots.toList = vs) (hi : j.toNatClampNeg = i) (hv : vs[i]? = some v) : cl.slots[j.toNatClampNeg]? = some v := by
  subst hvs hi; simpa using hv
theorem al_lt {i : Nat} (hv : vs[i]? = some v) : i < vs.length := (List.getElem?_eq_some_iff.mp hv).1
theorem ldI (X : Stand p l e R s m args below meth c T locs cells slots) (hx : p.tables.exec = Jvm.exec) (hZ : Z.Warmed39 s.vm) (eT : T.heap = h) (V : Al Z h a .int vs) {j : Int32} {i : Nat} (hj : ¬ j < 0) (hi : j.toNatClampNeg = i) (hv : vs[i]? = some v) {g : JFrame} (hg : g.method = m) {rest : List Value} (hs : g.stack = .int j :: .ref a :: rest) (hd : decode c.code g.pc = .ok (.iaload, 1)) {target : State}
    (k : Steps p.tables e below (T.setTop { g with pc := g.pc + 1, stack := v :: rest }) target) : Steps p.tables e below (T.setTop g) target := by
  obtain ⟨cl, A, r⟩ := V
  exact X.iaload hx (by rw [eT]; exact A.1) (State.isArrayOf_alike hZ.alike A.2.1) A.2.2 (al_in r hj hi (al_lt hv)) (al_at r hi hv) hg hs hd _ k
theorem ldJ (X : Stand p l e R s m args below meth c T locs cells slots) (hx : p.tables.exec = Jvm.exec) (hZ : Z.Warmed39 s.vm) (eT : T.heap = h) (V : Al Z h a .long vs) {j : Int32} {i : Nat} (hj : ¬ j < 0) (hi : j.toNatClampNeg = i) (hv : vs[i]? = some v) {g : JFrame} (hg : g.method = m) {rest : List Value} (hs : g.stack = .int j :: .ref a :: rest) (hd : decode c.code g.pc = .ok (.laload, 1)) {target : State}
    (k : Steps p.tables e below (T.setTop { g with pc := g.pc + 1, stack := v :: rest }) target) : Steps p.tables e below (T.setTop g) target := by
  obtain ⟨cl, A, r⟩ := V
  exact X.laload hx (by rw [eT]; exact A.1) (State.isArrayOf_alike hZ.alike A.2.1) A.2.2 (al_in r hj hi (al_lt hv)) (al_at r hi hv) hg hs hd _ k
theorem ldC (X : Stand p l e R s m args below meth c T locs cells slots) (hx : p.tables.exec = Jvm.exec) (hZ : Z.Warmed39 s.vm) (eT : T.heap = h) (V : Al Z h a .char vs) {j : Int32} {i : Nat} (hj : ¬ j < 0) (hi : j.toNatClampNeg = i) (hv : vs[i]? = some v) {g : JFrame} (hg : g.method = m) {rest : List Value} (hs : g.stack = .int j :: .ref a :: rest) (hd : decode c.code g.pc = .ok (.caload, 1)) {target : State}
    (k : Steps p.tables e below (T.setTop { g with pc := g.pc + 1, stack := v :: rest }) target) : Steps p.tables e below (T.setTop g) target := by
  obtain ⟨cl, A, r⟩ := V
  exact X.caload hx (by rw [eT]; exact A.1) (State.isArrayOf_alike hZ.alike A.2.1) A.2.2 (al_in r hj hi (al_lt hv)) (al_at r hi hv) hg hs hd _ k
theorem ldB (X : Stand p l e R s m args below meth c T locs cells slots) (hx : p.tables.exec = Jvm.exec) (hZ : Z.Warmed39 s.vm) (eT : T.heap = h) (V : Al Z h a .byte vs) {j : Int32} {i : Nat} (hj : ¬ j < 0) (hi : j.toNatClampNeg = i) (hv : vs[i]? = some v) {g : JFrame} (hg : g.method = m) {rest : List Value} (hs : g.stack = .int j :: .ref a :: rest) (hd : decode c.code g.pc = .ok (.baload, 1)) {target : State}
    (k : Steps p.tables e below (T.setTop { g with pc := g.pc + 1, stack := v :: rest }) target) : Steps p.tables e below (T.setTop g) target := by
  obtain ⟨cl, A, r⟩ := V
  exact X.baloadBytes hx (by rw [eT]; exact A.1) (State.isArrayOf_alike hZ.alike A.2.1) A.2.2 (al_in r hj hi (al_lt hv)) (al_at r hi hv) hg hs hd _ k
theorem ldZ (X : Stand p l e R s m args below meth c T locs cells slots) (hx : p.tables.exec = Jvm.exec) (hZ : Z.Warmed39 s.vm) (eT : T.heap = h) (V : Al Z h a .boolean vs) {j : Int32} {i : Nat} (hj : ¬ j < 0) (hi : j.toNatClampNeg = i) (hv : vs[i]? = some v) {g : JFrame} (hg : g.method = m) {rest : List Value} (hs : g.stack = .int j :: .ref a :: rest) (hd : decode c.code g.pc = .ok (.baload, 1)) {target : State}
    (k : Steps p.tables e below (T.setTop { g with pc := g.pc + 1, stack := v :: rest }) target) : Steps p.tables e below (T.setTop g) target := by
  obtain ⟨cl, A, r⟩ := V
  exact X.baloadBooleans hx (by rw [eT]; exact A.1) (State.isArrayOf_alike hZ.alike A.2.1) A.2.2 (al_in r hj hi (al_lt hv)) (al_at r hi hv) hg hs hd _ k
theorem lenA (X : Stand p l e R s m args below meth c T locs cells slots) (hx : p.tables.exec = Jvm.exec) (hZ : Z.Warmed39 s.vm) (eT : T.heap = h) (V : Al Z h a ty vs) {n : Int32} (hn : vs.length.toInt32 = n) {g : JFrame} (hg : g.method = m) {rest : List Value} (hs : g.stack = .ref a :: rest) (hd : decode c.code g.pc = .ok (.arraylength, 1)) {target : State}
    (k : Steps p.tables e below (T.setTop { g with pc := g.pc + 1, stack := .int n :: rest }) target) : Steps p.tables e below (T.setTop g) target := by
  obtain ⟨cl, A, r⟩ := V
  refine X.arraylength hx (by rw [eT]; exact A.1) (State.isArrayOf_alike hZ.alike A.2.1) hg hs hd _ ?_
  rw [show cl.slots.size.toInt32 = n from by rw [← hn, ← r, Array.length_toList]]
  exact k
theorem asI (X : Stand p l e R s m args below meth c T locs cells slots) (hx : p.tables.exec = Jvm.exec) (hZ : Z.Warmed39 s.vm) (eT : T.heap = h) (V : Al Z h a .int vs) {j : Int32} {i : Nat} {x : Int32} (hj : ¬ j < 0) (hi : j.toNatClampNeg = i) (hl : i < vs.length) {g : JFrame} (hg : g.method = m) {rest : List Value} (hs : g.stack = .int x :: .int j :: .ref a :: rest) (hd : decode c.code g.pc = .ok (.iastore, 1)) :
    ∃ T' h', Stand p l e R s m args below meth c T' (locs ++ [⟨a, i⟩]) cells slots ∧ T'.heap = h' ∧ Wr h h' a i (.int x) ∧ Al Z h' a .int (vs.set i (.int x)) ∧ ∀ target, Steps p.tables e below (T'.setTop { g with pc := g.pc + 1, stack := rest }) target → Steps p.tables e below (T.setTop g) target := by
  have V0 := V
  obtain ⟨cl, A, r⟩ := V
  obtain ⟨T', h', X', e', W, st⟩ := stI X hx hZ eT A (al_in r hj hi hl) hg hs hd
  subst hi
  exact ⟨T', h', X', e', W, V0.set W, st⟩
theorem asJ (X : Stand p l e R s m args below meth c T locs cells slots) (hx : p.tables.exec = Jvm.exec) (hZ : Z.Warmed39 s.vm) (eT : T.heap = h) (V : Al Z h a .long vs) {j : Int32} {i : Nat} {x : Int64} (hj : ¬ j < 0) (hi : j.toNatClampNeg = i) (hl : i < vs.length) {g : JFrame} (hg : g.method = m) {rest : List Value} (hs : g.stack = .long x :: .int j :: .ref a :: rest) (hd : decode c.code g.pc = .ok (.lastore, 1)) :
    ∃ T' h', Stand p l e R s m args below meth c T' (locs ++ [⟨a, i⟩]) cells slots ∧ T'.heap = h' ∧ Wr h h' a i (.long x) ∧ Al Z h' a .long (vs.set i (.long x)) ∧ ∀ target, Steps p.tables e below (T'.setTop { g with pc := g.pc + 1, stack := rest }) target → Steps p.tables e below (T.setTop g) target := by
  have V0 := V
  obtain ⟨cl, A, r⟩ := V
  obtain ⟨T', h', X', e', W, st⟩ := stJ X hx hZ eT A (al_in r hj hi hl) hg hs hd
  subst hi
  exact ⟨T', h', X', e', W, V0.set W, st⟩
theorem asC (X : Stand p l e R s m args below meth c T locs cells slots) (hx : p.tables.exec = Jvm.exec) (hZ : Z.Warmed39 s.vm) (eT : T.heap = h) (V : Al Z h a .char vs) {j : Int32} {i : Nat} {x y : Int32} (hj : ¬ j < 0) (hi : j.toNatClampNeg = i) (hl : i < vs.length) (hy : nar .char x = y) {g : JFrame} (hg : g.method = m) {rest : List Value} (hs : g.stack = .int x :: .int j :: .ref a :: rest) (hd : decode c.code g.pc = .ok (.castore, 1)) :
    ∃ T' h', Stand p l e R s m args below meth c T' (locs ++ [⟨a, i⟩]) cells slots ∧ T'.heap = h' ∧ Wr h h' a i (.int y) ∧ Al Z h' a .char (vs.set i (.int y)) ∧ ∀ target, Steps p.tables e below (T'.setTop { g with pc := g.pc + 1, stack := rest }) target → Steps p.tables e below (T.setTop g) target := by
  have V0 := V
  obtain ⟨cl, A, r⟩ := V
  obtain ⟨T', h', X', e', W, st⟩ := stC X hx hZ eT A (al_in r hj hi hl) hg hs hd
  subst hi hy
  exact ⟨T', h', X', e', W, V0.set W, st⟩
theorem asB (X : Stand p l e R s m args below meth c T locs cells slots) (hx : p.tables.exec = Jvm.exec) (hZ : Z.Warmed39 s.vm) (eT : T.heap = h) (V : Al Z h a .byte vs) {j : Int32} {i : Nat} {x y : Int32} (hj : ¬ j < 0) (hi : j.toNatClampNeg = i) (hl : i < vs.length) (hy : nar .byte x = y) {g : JFrame} (hg : g.method = m) {rest : List Value} (hs : g.stack = .int x :: .int j :: .ref a :: rest) (hd : decode c.code g.pc = .ok (.bastore, 1)) :
    ∃ T' h', Stand p l e R s m args below meth c T' (locs ++ [⟨a, i⟩]) cells slots ∧ T'.heap = h' ∧ Wr h h' a i (.int y) ∧ Al Z h' a .byte (vs.set i (.int y)) ∧ ∀ target, Steps p.tables e below (T'.setTop { g with pc := g.pc + 1, stack := rest }) target → Steps p.tables e below (T.setTop g) target := by
  have V0 := V
  obtain ⟨cl, A, r⟩ := V
  obtain ⟨T', h', X', e', W, st⟩ := stB X hx hZ eT A (al_in r hj hi hl) hg hs hd
  subst hi hy
  exact ⟨T', h', X', e', W, V0.set W, st⟩
theorem asZ (X : Stand p l e R s m args below meth c T locs cells slots) (hx : p.tables.exec = Jvm.exec) (hZ : Z.Warmed39 s.vm) (eT : T.heap = h) (V : Al Z h a .boolean vs) {j : Int32} {i : Nat} {x y : Int32} (hj : ¬ j < 0) (hi : j.toNatClampNeg = i) (hl : i < vs.length) (hy : nar .boolean x = y) {g : JFrame} (hg : g.method = m) {rest : List Value} (hs : g.stack = .int x :: .int j :: .ref a :: rest) (hd : decode c.code g.pc = .ok (.bastore, 1)) :
    ∃ T' h', Stand p l e R s m args below meth c T' (locs ++ [⟨a, i⟩]) cells slots ∧ T'.heap = h' ∧ Wr h h' a i (.int y) ∧ Al Z h' a .boolean (vs.set i (.int y)) ∧ ∀ target, Steps p.tables e below (T'.setTop { g with pc := g.pc + 1, stack := rest }) target → Steps p.tables e below (T.setTop g) target := by
  have V0 := V
  obtain ⟨cl, A, r⟩ := V
  obtain ⟨T', h', X', e', W, st⟩ := stZ X hx hZ eT A (al_in r hj hi hl) hg hs hd
  subst hi hy
  exact ⟨T', h', X', e', W, V0.set W, st⟩
theorem Ow.iloadN (X : Stand p l e R s m args below meth c T locs cells slots) (hx : p.tables.exec = Jvm.exec) {pc : Nat} {ls : Array Slot} {st : List Value} {pc' : Nat} {k : Fin 4} {v : Int32} (hd : decode c.code pc = .ok (.iload_n k, 1)) (hl : ls[k.val]? = some (.val (.int v))) (k : Wq p e below En Q (T.setTop (mkF m pc' ls (.int v :: st)))) (hpc : pc + 1 = pc' := by rfl) : Wq p e below En Q (T.setTop (mkF m pc ls st)) := by subst hpc; exact Wq.step (fun _ q => XS.iloadN X.here hx rfl hd hl q) k
theorem Ow.istoreN (X : Stand p l e R s m args below meth c T locs cells slots) (hx : p.tables.exec = Jvm.exec) {pc : Nat} {ls : Array Slot} {st : List Value} {pc' : Nat} {k : Fin 4} {x : Int32} {l' : Array Slot} (hd : decode c.code pc = .ok (.istore_n k, 1)) (hl : storeLocals ls k.val (.int x) = some l') (k : Wq p e below En Q (T.setTop (mkF m pc' l' st))) (hpc : pc + 1 = pc' := by rfl) : Wq p e below En Q (T.setTop (mkF m pc ls (.int x :: st))) := by subst hpc; exact Wq.step (fun _ q => XS.istoreN X.here hx rfl hd rfl hl q) k
theorem Ow.lloadN (X : Stand p l e R s m args below meth c T locs cells slots) (hx : p.tables.exec = Jvm.exec) {pc : Nat} {ls : Array Slot} {st : List Value} {pc' : Nat} {k : Fin 4} {v : Int64} (hd : decode c.code pc = .ok (.lload_n k, 1)) (hl : ls[k.val]? = some (.val (.long v))) (k : Wq p e below En Q (T.setTop (mkF m pc' ls (.long v :: st)))) (hpc : pc + 1 = pc' := by rfl) : Wq p e below En Q (T.setTop (mkF m pc ls st)) := by subst hpc; exact Wq.step (fun _ q => XS.lloadN X.here hx rfl hd hl q) k
theorem Ow.lstoreN (X : Stand p l e R s m args below meth c T locs cells slots) (hx : p.tables.exec = Jvm.exec) {pc : Nat} {ls : Array Slot} {st : List Value} {pc' : Nat} {k : Fin 4} {x : Int64} {l' : Array Slot} (hd : decode c.code pc = .ok (.lstore_n k, 1)) (hl : storeLocals ls k.val (.long x) = some l') (k : Wq p e below En Q (T.setTop (mkF m pc' l' st))) (hpc : pc + 1 = pc' := by rfl) : Wq p e below En Q (T.setTop (mkF m pc ls (.long x :: st))) := by subst hpc; exact Wq.step (fun _ q => XS.lstoreN X.here hx rfl hd rfl hl q) k
theorem Ow.aloadN (X : Stand p l e R s m args below meth c T locs cells slots) (hx : p.tables.exec = Jvm.exec) {pc : Nat} {ls : Array Slot} {st : List Value} {pc' : Nat} {k : Fin 4} {v : Value} (hd : decode c.code pc = .ok (.aload_n k, 1)) (hl : ls[k.val]? = some (.val v)) (hv : v.isRef = true) (k : Wq p e below En Q (T.setTop (mkF m pc' ls (v :: st)))) (hpc : pc + 1 = pc' := by rfl) : Wq p e below En Q (T.setTop (mkF m pc ls st)) := by subst hpc; exact Wq.step (fun _ q => XS.aloadN X.here hx rfl hd hl hv q) k
theorem Ow.astoreN (X : Stand p l e R s m args below meth c T locs cells slots) (hx : p.tables.exec = Jvm.exec) {pc : Nat} {ls : Array Slot} {st : List Value} {pc' : Nat} {k : Fin 4} {x : Value} {l' : Array Slot} (hd : decode c.code pc = .ok (.astore_n k, 1)) (hv : x.isRef = true) (hl : storeLocals ls k.val x = some l') (k : Wq p e below En Q (T.setTop (mkF m pc' l' st))) (hpc : pc + 1 = pc' := by rfl) : Wq p e below En Q (T.setTop (mkF m pc ls (x :: st))) := by subst hpc; exact Wq.step (fun _ q => XS.astoreN X.here hx rfl hd rfl hv hl q) k
theorem Ow.iload (X : Stand p l e R s m args below meth c T locs cells slots) (hx : p.tables.exec = Jvm.exec) {pc : Nat} {ls : Array Slot} {st : List Value} {pc' : Nat} {k : Nat} {v : Int32} (hd : decode c.code pc = .ok (.iload k, 2)) (hl : ls[k]? = some (.val (.int v))) (k : Wq p e below En Q (T.setTop (mkF m pc' ls (.int v :: st)))) (hpc : pc + 2 = pc' := by rfl) : Wq p e below En Q (T.setTop (mkF m pc ls st)) := by subst hpc; exact Wq.step (fun _ q => XS.iload X.here hx rfl hd hl q) k
theorem Ow.istore (X : Stand p l e R s m args below meth c T locs cells slots) (hx : p.tables.exec = Jvm.exec) {pc : Nat} {ls : Array Slot} {st : List Value} {pc' : Nat} {k : Nat} {x : Int32} {l' : Array Slot} (hd : decode c.code pc = .ok (.istore k, 2)) (hl : storeLocals ls k (.int x) = some l') (k : Wq p e below En Q (T.setTop (mkF m pc' l' st))) (hpc : pc + 2 = pc' := by rfl) : Wq p e below En Q (T.setTop (mkF m pc ls (.int x :: st))) := by subst hpc; exact Wq.step (fun _ q => XS.istore X.here hx rfl hd rfl hl q) k
theorem Ow.lload (X : Stand p l e R s m args below meth c T locs cells slots) (hx : p.tables.exec = Jvm.exec) {pc : Nat} {ls : Array Slot} {st : List Value} {pc' : Nat} {k : Nat} {v : Int64} (hd : decode c.code pc = .ok (.lload k, 2)) (hl : ls[k]? = some (.val (.long v))) (k : Wq p e below En Q (T.setTop (mkF m pc' ls (.long v :: st)))) (hpc : pc + 2 = pc' := by rfl) : Wq p e below En Q (T.setTop (mkF m pc ls st)) := by subst hpc; exact Wq.step (fun _ q => XS.lload X.here hx rfl hd hl q) k
theorem Ow.lstore (X : Stand p l e R s m args below meth c T locs cells slots) (hx : p.tables.exec = Jvm.exec) {pc : Nat} {ls : Array Slot} {st : List Value} {pc' : Nat} {k : Nat} {x : Int64} {l' : Array Slot} (hd : decode c.code pc = .ok (.lstore k, 2)) (hl : storeLocals ls k (.long x) = some l') (k : Wq p e below En Q (T.setTop (mkF m pc' l' st))) (hpc : pc + 2 = pc' := by rfl) : Wq p e below En Q (T.setTop (mkF m pc ls (.long x :: st))) := by subst hpc; exact Wq.step (fun _ q => XS.lstore X.here hx rfl hd rfl hl q) k
theorem Ow.aload (X : Stand p l e R s m args below meth c T locs cells slots) (hx : p.tables.exec = Jvm.exec) {pc : Nat} {ls : Array Slot} {st : List Value} {pc' : Nat} {k : Nat} {v : Value} (hd : decode c.code pc = .ok (.aload k, 2)) (hl : ls[k]? = some (.val v)) (hv : v.isRef = true) (k : Wq p e below En Q (T.setTop (mkF m pc' ls (v :: st)))) (hpc : pc + 2 = pc' := by rfl) : Wq p e below En Q (T.setTop (mkF m pc ls st)) := by subst hpc; exact Wq.step (fun _ q => XS.aload X.here hx rfl hd hl hv q) k
theorem Ow.astore (X : Stand p l e R s m args below meth c T locs cells slots) (hx : p.tables.exec = Jvm.exec) {pc : Nat} {ls : Array Slot} {st : List Value} {pc' : Nat} {k : Nat} {x : Value} {l' : Array Slot} (hd : decode c.code pc = .ok (.astore k, 2)) (hv : x.isRef = true) (hl : storeLocals ls k x = some l') (k : Wq p e below En Q (T.setTop (mkF m pc' l' st))) (hpc : pc + 2 = pc' := by rfl) : Wq p e below En Q (T.setTop (mkF m pc ls (x :: st))) := by subst hpc; exact Wq.step (fun _ q => XS.astore X.here hx rfl hd rfl hv hl q) k
theorem Ow.istoreNS (X : Stand p l e R s m args below meth c T locs cells slots) (hx : p.tables.exec = Jvm.exec) {pc pc' : Nat} {ls : Array Slot} {st : List Value} {k : Fin 4} {x : Int32} {o : Slot} {l' : Array Slot} (hd : decode c.code pc = .ok (.istore_n k, 1)) (hold : ls[k.val]? = some o) (ho : o = .unset ∨ ∃ w, o = .val w ∧ w.category = 1) (hl : ls.setIfInBounds k.val (.val (.int x)) = l') (q : Wq p e below En Q (T.setTop (mkF m pc' l' st))) (hpc : pc + 1 = pc' := by rfl) : Wq p e below En Q (T.setTop (mkF m pc ls (.int x :: st))) := by
  subst hpc hl
  exact Wq.step (fun _ z => XS.istoreN X.here hx rfl hd rfl (XS.store1 hold ho rfl) z) q
theorem Ow.istoreS (X : Stand p l e R s m args below meth c T locs cells slots) (hx : p.tables.exec = Jvm.exec) {pc pc' : Nat} {ls : Array Slot} {st : List Value} {k : Nat} {x : Int32} {o : Slot} {l' : Array Slot} (hd : decode c.code pc = .ok (.istore k, 2)) (hold : ls[k]? = some o) (ho : o = .unset ∨ ∃ w, o = .val w ∧ w.category = 1) (hl : ls.setIfInBounds k (.val (.int x)) = l') (q : Wq p e below En Q (T.setTop (mkF m pc' l' st))) (hpc : pc + 2 = pc' := by rfl) : Wq p e below En Q (T.setTop (mkF m pc ls (.int x :: st))) := by
  subst hpc hl
  exact Wq.step (fun _ z => XS.istore X.here hx rfl hd rfl (XS.store1 hold ho rfl) z) q
theorem Ow.iconst (X : Stand p l e R s m args below meth c T locs cells slots) (hx : p.tables.exec = Jvm.exec) {pc : Nat} {ls : Array Slot} {st : List Value} {pc' : Nat} {i : Int} {z : Int32} (hd : decode c.code pc = .ok (.iconst i, 1)) (hz : Int32.ofInt i = z) (k : Wq p e below En Q (T.setTop (mkF m pc' ls (.int z :: st)))) (hpc : pc + 1 = pc' := by rfl) : Wq p e below En Q (T.setTop (mkF m pc ls st)) := by subst hz hpc; exact Wq.step (fun _ q => XS.iconst X.here hx rfl hd  q) k
theorem Ow.bipush (X : Stand p l e R s m args below meth c T locs cells slots) (hx : p.tables.exec = Jvm.exec) {pc : Nat} {ls : Array Slot} {st : List Value} {pc' : Nat} {i : Int} {z : Int32} (hd : decode c.code pc = .ok (.bipush i, 2)) (hz : (Int8.ofInt i).toInt32 = z) (k : Wq p e below En Q (T.setTop (mkF m pc' ls (.int z :: st)))) (hpc : pc + 2 = pc' := by rfl) : Wq p e below En Q (T.setTop (mkF m pc ls st)) := by subst hz hpc; exact Wq.step (fun _ q => XS.bipush X.here hx rfl hd  q) k
theorem Ow.sipush (X : Stand p l e R s m args below meth c T locs cells slots) (hx : p.tables.exec = Jvm.exec) {pc : Nat} {ls : Array Slot} {st : List Value} {pc' : Nat} {i : Int} {z : Int32} (hd : decode c.code pc = .ok (.sipush i, 3)) (hz : (Int16.ofInt i).toInt32 = z) (k : Wq p e below En Q (T.setTop (mkF m pc' ls (.int z :: st)))) (hpc : pc + 3 = pc' := by rfl) : Wq p e below En Q (T.setTop (mkF m pc ls st)) := by subst hz hpc; exact Wq.step (fun _ q => XS.sipush X.here hx rfl hd  q) k
theorem Ow.lconst (X : Stand p l e R s m args below meth c T locs cells slots) (hx : p.tables.exec = Jvm.exec) {pc : Nat} {ls : Array Slot} {st : List Value} {pc' : Nat} {i : Fin 2} {z : Int64} (hd : decode c.code pc = .ok (.lconst i, 1)) (hz : Int64.ofNat i = z) (k : Wq p e below En Q (T.setTop (mkF m pc' ls (.long z :: st)))) (hpc : pc + 1 = pc' := by rfl) : Wq p e below En Q (T.setTop (mkF m pc ls st)) := by subst hz hpc; exact Wq.step (fun _ q => XS.lconst X.here hx rfl hd  q) k
theorem Ow.aconstNull (X : Stand p l e R s m args below meth c T locs cells slots) (hx : p.tables.exec = Jvm.exec) {pc : Nat} {ls : Array Slot} {st : List Value} {pc' : Nat}  (hd : decode c.code pc = .ok (.aconst_null, 1))  (k : Wq p e below En Q (T.setTop (mkF m pc' ls (.null :: st)))) (hpc : pc + 1 = pc' := by rfl) : Wq p e below En Q (T.setTop (mkF m pc ls st)) := by subst hpc; exact Wq.step (fun _ q => XS.aconstNull X.here hx rfl hd  q) k
theorem Ow.iadd (X : Stand p l e R s m args below meth c T locs cells slots) (hx : p.tables.exec = Jvm.exec) {pc : Nat} {ls : Array Slot} {st : List Value} {pc' : Nat} {x y z : Int32} (hd : decode c.code pc = .ok (.iadd, 1)) (hz : x + y = z) (k : Wq p e below En Q (T.setTop (mkF m pc' ls (.int z :: st)))) (hpc : pc + 1 = pc' := by rfl) : Wq p e below En Q (T.setTop (mkF m pc ls (.int y :: .int x :: st))) := by subst hz hpc; exact Wq.step (fun _ q => XS.iadd X.here hx rfl hd rfl q) k
theorem Ow.ladd (X : Stand p l e R s m args below meth c T locs cells slots) (hx : p.tables.exec = Jvm.exec) {pc : Nat} {ls : Array Slot} {st : List Value} {pc' : Nat} {x y z : Int64} (hd : decode c.code pc = .ok (.ladd, 1)) (hz : x + y = z) (k : Wq p e below En Q (T.setTop (mkF m pc' ls (.long z :: st)))) (hpc : pc + 1 = pc' := by rfl) : Wq p e below En Q (T.setTop (mkF m pc ls (.long y :: .long x :: st))) := by subst hz hpc; exact Wq.step (fun _ q => XS.ladd X.here hx rfl hd rfl q) k
theorem Ow.isub (X : Stand p l e R s m args below meth c T locs cells slots) (hx : p.tables.exec = Jvm.exec) {pc : Nat} {ls : Array Slot} {st : List Value} {pc' : Nat} {x y z : Int32} (hd : decode c.code pc = .ok (.isub, 1)) (hz : x - y = z) (k : Wq p e below En Q (T.setTop (mkF m pc' ls (.int z :: st)))) (hpc : pc + 1 = pc' := by rfl) : Wq p e below En Q (T.setTop (mkF m pc ls (.int y :: .int x :: st))) := by subst hz hpc; exact Wq.step (fun _ q => XS.isub X.here hx rfl hd rfl q) k
theorem Ow.lsub (X : Stand p l e R s m args below meth c T locs cells slots) (hx : p.tables.exec = Jvm.exec) {pc : Nat} {ls : Array Slot} {st : List Value} {pc' : Nat} {x y z : Int64} (hd : decode c.code pc = .ok (.lsub, 1)) (hz : x - y = z) (k : Wq p e below En Q (T.setTop (mkF m pc' ls (.long z :: st)))) (hpc : pc + 1 = pc' := by rfl) : Wq p e below En Q (T.setTop (mkF m pc ls (.long y :: .long x :: st))) := by subst hz hpc; exact Wq.step (fun _ q => XS.lsub X.here hx rfl hd rfl q) k
theorem Ow.imul (X : Stand p l e R s m args below meth c T locs cells slots) (hx : p.tables.exec = Jvm.exec) {pc : Nat} {ls : Array Slot} {st : List Value} {pc' : Nat} {x y z : Int32} (hd : decode c.code pc = .ok (.imul, 1)) (hz : x * y = z) (k : Wq p e below En Q (T.setTop (mkF m pc' ls (.int z :: st)))) (hpc : pc + 1 = pc' := by rfl) : Wq p e below En Q (T.setTop (mkF m pc ls (.int y :: .int x :: st))) := by subst hz hpc; exact Wq.step (fun _ q => XS.imul X.here hx rfl hd rfl q) k
theorem Ow.lmul (X : Stand p l e R s m args below meth c T locs cells slots) (hx : p.tables.exec = Jvm.exec) {pc : Nat} {ls : Array Slot} {st : List Value} {pc' : Nat} {x y z : Int64} (hd : decode c.code pc = .ok (.lmul, 1)) (hz : x * y = z) (k : Wq p e below En Q (T.setTop (mkF m pc' ls (.long z :: st)))) (hpc : pc + 1 = pc' := by rfl) : Wq p e below En Q (T.setTop (mkF m pc ls (.long y :: .long x :: st))) := by subst hz hpc; exact Wq.step (fun _ q => XS.lmul X.here hx rfl hd rfl q) k
theorem Ow.iand (X : Stand p l e R s m args below meth c T locs cells slots) (hx : p.tables.exec = Jvm.exec) {pc : Nat} {ls : Array Slot} {st : List Value} {pc' : Nat} {x y z : Int32} (hd : decode c.code pc = .ok (.iand, 1)) (hz : x &&& y = z) (k : Wq p e below En Q (T.setTop (mkF m pc' ls (.int z :: st)))) (hpc : pc + 1 = pc' := by rfl) : Wq p e below En Q (T.setTop (mkF m pc ls (.int y :: .int x :: st))) := by subst hz hpc; exact Wq.step (fun _ q => XS.iand X.here hx rfl hd rfl q) k
theorem Ow.land (X : Stand p l e R s m args below meth c T locs cells slots) (hx : p.tables.exec = Jvm.exec) {pc : Nat} {ls : Array Slot} {st : List Value} {pc' : Nat} {x y z : Int64} (hd : decode c.code pc = .ok (.land, 1)) (hz : x &&& y = z) (k : Wq p e below En Q (T.setTop (mkF m pc' ls (.long z :: st)))) (hpc : pc + 1 = pc' := by rfl) : Wq p e below En Q (T.setTop (mkF m pc ls (.long y :: .long x :: st))) := by subst hz hpc; exact Wq.step (fun _ q => XS.land X.here hx rfl hd rfl q) k
theorem Ow.ior (X : Stand p l e R s m args below meth c T locs cells slots) (hx : p.tables.exec = Jvm.exec) {pc : Nat} {ls : Array Slot} {st : List Value} {pc' : Nat} {x y z : Int32} (hd : decode c.code pc = .ok (.ior, 1)) (hz : x ||| y = z) (k : Wq p e below En Q (T.setTop (mkF m pc' ls (.int z :: st)))) (hpc : pc + 1 = pc' := by rfl) : Wq p e below En Q (T.setTop (mkF m pc ls (.int y :: .int x :: st))) := by subst hz hpc; exact Wq.step (fun _ q => XS.ior X.here hx rfl hd rfl q) k
theorem Ow.lor (X : Stand p l e R s m args below meth c T locs cells slots) (hx : p.tables.exec = Jvm.exec) {pc : Nat} {ls : Array Slot} {st : List Value} {pc' : Nat} {x y z : Int64} (hd : decode c.code pc = .ok (.lor, 1)) (hz : x ||| y = z) (k : Wq p e below En Q (T.setTop (mkF m pc' ls (.long z :: st)))) (hpc : pc + 1 = pc' := by rfl) : Wq p e below En Q (T.setTop (mkF m pc ls (.long y :: .long x :: st))) := by subst hz hpc; exact Wq.step (fun _ q => XS.lor X.here hx rfl hd rfl q) k
theorem Ow.ixor (X : Stand p l e R s m args below meth c T locs cells slots) (hx : p.tables.exec = Jvm.exec) {pc : Nat} {ls : Array Slot} {st : List Value} {pc' : Nat} {x y z : Int32} (hd : decode c.code pc = .ok (.ixor, 1)) (hz : x ^^^ y = z) (k : Wq p e below En Q (T.setTop (mkF m pc' ls (.int z :: st)))) (hpc : pc + 1 = pc' := by rfl) : Wq p e below En Q (T.setTop (mkF m pc ls (.int y :: .int x :: st))) := by subst hz hpc; exact Wq.step (fun _ q => XS.ixor X.here hx rfl hd rfl q) k
theorem Ow.lxor (X : Stand p l e R s m args below meth c T locs cells slots) (hx : p.tables.exec = Jvm.exec) {pc : Nat} {ls : Array Slot} {st : List Value} {pc' : Nat} {x y z : Int64} (hd : decode c.code pc = .ok (.lxor, 1)) (hz : x ^^^ y = z) (k : Wq p e below En Q (T.setTop (mkF m pc' ls (.long z :: st)))) (hpc : pc + 1 = pc' := by rfl) : Wq p e below En Q (T.setTop (mkF m pc ls (.long y :: .long x :: st))) := by subst hz hpc; exact Wq.step (fun _ q => XS.lxor X.here hx rfl hd rfl q) k
theorem Ow.ineg (X : Stand p l e R s m args below meth c T locs cells slots) (hx : p.tables.exec = Jvm.exec) {pc : Nat} {ls : Array Slot} {st : List Value} {pc' : Nat} {x : Int32} {z : Int32} (hd : decode c.code pc = .ok (.ineg, 1)) (hz : -x = z) (k : Wq p e below En Q (T.setTop (mkF m pc' ls (.int z :: st)))) (hpc : pc + 1 = pc' := by rfl) : Wq p e below En Q (T.setTop (mkF m pc ls (.int x :: st))) := by subst hz hpc; exact Wq.step (fun _ q => XS.ineg X.here hx rfl hd rfl q) k
theorem Ow.lneg (X : Stand p l e R s m args below meth c T locs cells slots) (hx : p.tables.exec = Jvm.exec) {pc : Nat} {ls : Array Slot} {st : List Value} {pc' : Nat} {x : Int64} {z : Int64} (hd : decode c.code pc = .ok (.lneg, 1)) (hz : -x = z) (k : Wq p e below En Q (T.setTop (mkF m pc' ls (.long z :: st)))) (hpc : pc + 1 = pc' := by rfl) : Wq p e below En Q (T.setTop (mkF m pc ls (.long x :: st))) := by subst hz hpc; exact Wq.step (fun _ q => XS.lneg X.here hx rfl hd rfl q) k
theorem Ow.i2l (X : Stand p l e R s m args below meth c T locs cells slots) (hx : p.tables.exec = Jvm.exec) {pc : Nat} {ls : Array Slot} {st : List Value} {pc' : Nat} {x : Int32} {z : Int64} (hd : decode c.code pc = .ok (.i2l, 1)) (hz : x.toInt64 = z) (k : Wq p e below En Q (T.setTop (mkF m pc' ls (.long z :: st)))) (hpc : pc + 1 = pc' := by rfl) : Wq p e below En Q (T.setTop (mkF m pc ls (.int x :: st))) := by subst hz hpc; exact Wq.step (fun _ q => XS.i2l X.here hx rfl hd rfl q) k
theorem Ow.l2i (X : Stand p l e R s m args below meth c T locs cells slots) (hx : p.tables.exec = Jvm.exec) {pc : Nat} {ls : Array Slot} {st : List Value} {pc' : Nat} {x : Int64} {z : Int32} (hd : decode c.code pc = .ok (.l2i, 1)) (hz : x.toInt32 = z) (k : Wq p e below En Q (T.setTop (mkF m pc' ls (.int z :: st)))) (hpc : pc + 1 = pc' := by rfl) : Wq p e below En Q (T.setTop (mkF m pc ls (.long x :: st))) := by subst hz hpc; exact Wq.step (fun _ q => XS.l2i X.here hx rfl hd rfl q) k
theorem Ow.i2b (X : Stand p l e R s m args below meth c T locs cells slots) (hx : p.tables.exec = Jvm.exec) {pc : Nat} {ls : Array Slot} {st : List Value} {pc' : Nat} {x : Int32} {z : Int32} (hd : decode c.code pc = .ok (.i2b, 1)) (hz : x.toInt8.toInt32 = z) (k : Wq p e below En Q (T.setTop (mkF m pc' ls (.int z :: st)))) (hpc : pc + 1 = pc' := by rfl) : Wq p e below En Q (T.setTop (mkF m pc ls (.int x :: st))) := by subst hz hpc; exact Wq.step (fun _ q => XS.i2b X.here hx rfl hd rfl q) k
theorem Ow.i2s (X : Stand p l e R s m args below meth c T locs cells slots) (hx : p.tables.exec = Jvm.exec) {pc : Nat} {ls : Array Slot} {st : List Value} {pc' : Nat} {x : Int32} {z : Int32} (hd : decode c.code pc = .ok (.i2s, 1)) (hz : x.toInt16.toInt32 = z) (k : Wq p e below En Q (T.setTop (mkF m pc' ls (.int z :: st)))) (hpc : pc + 1 = pc' := by rfl) : Wq p e below En Q (T.setTop (mkF m pc ls (.int x :: st))) := by subst hz hpc; exact Wq.step (fun _ q => XS.i2s X.here hx rfl hd rfl q) k
theorem Ow.i2c (X : Stand p l e R s m args below meth c T locs cells slots) (hx : p.tables.exec = Jvm.exec) {pc : Nat} {ls : Array Slot} {st : List Value} {pc' : Nat} {x : Int32} {z : Int32} (hd : decode c.code pc = .ok (.i2c, 1)) (hz : x.toUInt32.toUInt16.toUInt32.toInt32 = z) (k : Wq p e below En Q (T.setTop (mkF m pc' ls (.int z :: st)))) (hpc : pc + 1 = pc' := by rfl) : Wq p e below En Q (T.setTop (mkF m pc ls (.int x :: st))) := by subst hz hpc; exact Wq.step (fun _ q => XS.i2c X.here hx rfl hd rfl q) k
theorem Ow.ishl (X : Stand p l e R s m args below meth c T locs cells slots) (hx : p.tables.exec = Jvm.exec) {pc : Nat} {ls : Array Slot} {st : List Value} {pc' : Nat} {x : Int32} {y : Int32} {z : Int32} (hd : decode c.code pc = .ok (.ishl, 1)) (hz : x <<< (y &&& 31) = z) (k : Wq p e below En Q (T.setTop (mkF m pc' ls (.int z :: st)))) (hpc : pc + 1 = pc' := by rfl) : Wq p e below En Q (T.setTop (mkF m pc ls (.int y :: .int x :: st))) := by subst hz hpc; exact Wq.step (fun _ q => XS.ishl X.here hx rfl hd rfl q) k
theorem Ow.ishr (X : Stand p l e R s m args below meth c T locs cells slots) (hx : p.tables.exec = Jvm.exec) {pc : Nat} {ls : Array Slot} {st : List Value} {pc' : Nat} {x : Int32} {y : Int32} {z : Int32} (hd : decode c.code pc = .ok (.ishr, 1)) (hz : x >>> (y &&& 31) = z) (k : Wq p e below En Q (T.setTop (mkF m pc' ls (.int z :: st)))) (hpc : pc + 1 = pc' := by rfl) : Wq p e below En Q (T.setTop (mkF m pc ls (.int y :: .int x :: st))) := by subst hz hpc; exact Wq.step (fun _ q => XS.ishr X.here hx rfl hd rfl q) k
theorem Ow.iushr (X : Stand p l e R s m args below meth c T locs cells slots) (hx : p.tables.exec = Jvm.exec) {pc : Nat} {ls : Array Slot} {st : List Value} {pc' : Nat} {x : Int32} {y : Int32} {z : Int32} (hd : decode c.code pc = .ok (.iushr, 1)) (hz : (x.toUInt32 >>> (y &&& 31).toUInt32).toInt32 = z) (k : Wq p e below En Q (T.setTop (mkF m pc' ls (.int z :: st)))) (hpc : pc + 1 = pc' := by rfl) : Wq p e below En Q (T.setTop (mkF m pc ls (.int y :: .int x :: st))) := by subst hz hpc; exact Wq.step (fun _ q => XS.iushr X.here hx rfl hd rfl q) k
theorem Ow.lshl (X : Stand p l e R s m args below meth c T locs cells slots) (hx : p.tables.exec = Jvm.exec) {pc : Nat} {ls : Array Slot} {st : List Value} {pc' : Nat} {x : Int64} {y : Int32} {z : Int64} (hd : decode c.code pc = .ok (.lshl, 1)) (hz : x <<< (y &&& 0x3f).toInt64 = z) (k : Wq p e below En Q (T.setTop (mkF m pc' ls (.long z :: st)))) (hpc : pc + 1 = pc' := by rfl) : Wq p e below En Q (T.setTop (mkF m pc ls (.int y :: .long x :: st))) := by subst hz hpc; exact Wq.step (fun _ q => XS.lshl X.here hx rfl hd rfl q) k
theorem Ow.lshr (X : Stand p l e R s m args below meth c T locs cells slots) (hx : p.tables.exec = Jvm.exec) {pc : Nat} {ls : Array Slot} {st : List Value} {pc' : Nat} {x : Int64} {y : Int32} {z : Int64} (hd : decode c.code pc = .ok (.lshr, 1)) (hz : x >>> (y &&& 0x3f).toInt64 = z) (k : Wq p e below En Q (T.setTop (mkF m pc' ls (.long z :: st)))) (hpc : pc + 1 = pc' := by rfl) : Wq p e below En Q (T.setTop (mkF m pc ls (.int y :: .long x :: st))) := by subst hz hpc; exact Wq.step (fun _ q => XS.lshr X.here hx rfl hd rfl q) k
theorem Ow.lushr (X : Stand p l e R s m args below meth c T locs cells slots) (hx : p.tables.exec = Jvm.exec) {pc : Nat} {ls : Array Slot} {st : List Value} {pc' : Nat} {x : Int64} {y : Int32} {z : Int64} (hd : decode c.code pc = .ok (.lushr, 1)) (hz : (x.toUInt64 >>> (y &&& 0x3f).toInt64.toUInt64).toInt64 = z) (k : Wq p e below En Q (T.setTop (mkF m pc' ls (.long z :: st)))) (hpc : pc + 1 = pc' := by rfl) : Wq p e below En Q (T.setTop (mkF m pc ls (.int y :: .long x :: st))) := by subst hz hpc; exact Wq.step (fun _ q => XS.lushr X.here hx rfl hd rfl q) k
theorem Ow.lcmp (X : Stand p l e R s m args below meth c T locs cells slots) (hx : p.tables.exec = Jvm.exec) {pc : Nat} {ls : Array Slot} {st : List Value} {pc' : Nat} {x y : Int64} (hd : decode c.code pc = .ok (.lcmp, 1))  (k : Wq p e below En Q (T.setTop (mkF m pc' ls (.int (lcmpW x y) :: st)))) (hpc : pc + 1 = pc' := by rfl) : Wq p e below En Q (T.setTop (mkF m pc ls (.long y :: .long x :: st))) := by subst hpc; exact Wq.step (fun _ q => XS.lcmp X.here hx rfl hd rfl q) k
theorem Ow.idiv (X : Stand p l e R s m args below meth c T locs cells slots) (hx : p.tables.exec = Jvm.exec) {pc : Nat} {ls : Array Slot} {st : List Value} {pc' : Nat} {x y z : Int32} (hd : decode c.code pc = .ok (.idiv, 1)) (hy : y ≠ 0) (hz : x / y = z) (k : Wq p e below En Q (T.setTop (mkF m pc' ls (.int z :: st)))) (hpc : pc + 1 = pc' := by rfl) : Wq p e below En Q (T.setTop (mkF m pc ls (.int y :: .int x :: st))) := by subst hz hpc; exact Wq.step (fun _ q => XS.idiv X.here hx rfl hd rfl hy q) k
theorem Ow.ldiv (X : Stand p l e R s m args below meth c T locs cells slots) (hx : p.tables.exec = Jvm.exec) {pc : Nat} {ls : Array Slot} {st : List Value} {pc' : Nat} {x y z : Int64} (hd : decode c.code pc = .ok (.ldiv, 1)) (hy : y ≠ 0) (hz : x / y = z) (k : Wq p e below En Q (T.setTop (mkF m pc' ls (.long z :: st)))) (hpc : pc + 1 = pc' := by rfl) : Wq p e below En Q (T.setTop (mkF m pc ls (.long y :: .long x :: st))) := by subst hz hpc; exact Wq.step (fun _ q => XS.ldiv X.here hx rfl hd rfl hy q) k
theorem Ow.irem (X : Stand p l e R s m args below meth c T locs cells slots) (hx : p.tables.exec = Jvm.exec) {pc : Nat} {ls : Array Slot} {st : List Value} {pc' : Nat} {x y z : Int32} (hd : decode c.code pc = .ok (.irem, 1)) (hy : y ≠ 0) (hz : x % y = z) (k : Wq p e below En Q (T.setTop (mkF m pc' ls (.int z :: st)))) (hpc : pc + 1 = pc' := by rfl) : Wq p e below En Q (T.setTop (mkF m pc ls (.int y :: .int x :: st))) := by subst hz hpc; exact Wq.step (fun _ q => iremM X hx rfl hd rfl hy q) k
theorem Ow.lrem (X : Stand p l e R s m args below meth c T locs cells slots) (hx : p.tables.exec = Jvm.exec) {pc : Nat} {ls : Array Slot} {st : List Value} {pc' : Nat} {x y z : Int64} (hd : decode c.code pc = .ok (.lrem, 1)) (hy : y ≠ 0) (hz : x % y = z) (k : Wq p e below En Q (T.setTop (mkF m pc' ls (.long z :: st)))) (hpc : pc + 1 = pc' := by rfl) : Wq p e below En Q (T.setTop (mkF m pc ls (.long y :: .long x :: st))) := by
  rw [← lrem_mod] at hz
  subst hz hpc
  exact Wq.step (fun _ q => XS.lrem X.here hx rfl hd rfl hy q) k
theorem Ow.iinc (X : Stand p l e R s m args below meth c T locs cells slots) (hx : p.tables.exec = Jvm.exec) {pc : Nat} {ls : Array Slot} {st : List Value} {pc' : Nat} {i : Nat} {cst : Int} {x : Int32} {l' : Array Slot} (hd : decode c.code pc = .ok (.iinc i cst, 3)) (hl : ls[i]? = some (.val (.int x))) (hl' : storeLocals ls i (.int (x + Int32.ofInt cst)) = some l') (k : Wq p e below En Q (T.setTop (mkF m pc' l' st))) (hpc : pc + 3 = pc' := by rfl) : Wq p e below En Q (T.setTop (mkF m pc ls st)) := by subst hpc; exact Wq.step (fun _ q => XS.iinc X.here hx rfl hd hl hl' q) k
theorem Ow.dup (X : Stand p l e R s m args below meth c T locs cells slots) (hx : p.tables.exec = Jvm.exec) {pc : Nat} {ls : Array Slot} {st : List Value} {pc' : Nat} {x : Value} (hd : decode c.code pc = .ok (.dup, 1)) (hc : x.category = 1) (k : Wq p e below En Q (T.setTop (mkF m pc' ls (x :: x :: st)))) (hpc : pc + 1 = pc' := by rfl) : Wq p e below En Q (T.setTop (mkF m pc ls (x :: st))) := by subst hpc; exact Wq.step (fun _ q => XS.dup X.here hx rfl hd rfl hc q) k
theorem Ow.pop (X : Stand p l e R s m args below meth c T locs cells slots) (hx : p.tables.exec = Jvm.exec) {pc : Nat} {ls : Array Slot} {st : List Value} {pc' : Nat} {x : Value} (hd : decode c.code pc = .ok (.pop, 1)) (hc : x.category = 1) (k : Wq p e below En Q (T.setTop (mkF m pc' ls st))) (hpc : pc + 1 = pc' := by rfl) : Wq p e below En Q (T.setTop (mkF m pc ls (x :: st))) := by subst hpc; exact Wq.step (fun _ q => XS.pop X.here hx rfl hd rfl hc q) k
theorem Ow.dupX1 (X : Stand p l e R s m args below meth c T locs cells slots) (hx : p.tables.exec = Jvm.exec) {pc : Nat} {ls : Array Slot} {st : List Value} {pc' : Nat} {x y : Value} (hd : decode c.code pc = .ok (.dup_x1, 1)) (hc : x.category = 1) (hc' : y.category = 1) (k : Wq p e below En Q (T.setTop (mkF m pc' ls (x :: y :: x :: st)))) (hpc : pc + 1 = pc' := by rfl) : Wq p e below En Q (T.setTop (mkF m pc ls (x :: y :: st))) := by subst hpc; exact Wq.step (fun _ q => XS.dupX1 X.here hx rfl hd rfl hc hc' q) k
theorem Ow.swap (X : Stand p l e R s m args below meth c T locs cells slots) (hx : p.tables.exec = Jvm.exec) {pc : Nat} {ls : Array Slot} {st : List Value} {pc' : Nat} {x y : Value} (hd : decode c.code pc = .ok (.swap, 1)) (hc : x.category = 1) (hc' : y.category = 1) (k : Wq p e below En Q (T.setTop (mkF m pc' ls (y :: x :: st)))) (hpc : pc + 1 = pc' := by rfl) : Wq p e below En Q (T.setTop (mkF m pc ls (x :: y :: st))) := by subst hpc; exact Wq.step (fun _ q => XS.swap X.here hx rfl hd rfl hc hc' q) k
theorem Ow.dup2 (X : Stand p l e R s m args below meth c T locs cells slots) (hx : p.tables.exec = Jvm.exec) {pc : Nat} {ls : Array Slot} {st : List Value} {pc' : Nat} {x y : Value} (hd : decode c.code pc = .ok (.dup2, 1)) (hc : x.category = 1) (hc' : y.category = 1) (k : Wq p e below En Q (T.setTop (mkF m pc' ls (x :: y :: x :: y :: st)))) (hpc : pc + 1 = pc' := by rfl) : Wq p e below En Q (T.setTop (mkF m pc ls (x :: y :: st))) := by subst hpc; exact Wq.step (fun _ q => Jvm.Free.XT.dup2 X.here hx rfl hd rfl hc hc' q) k
theorem Ow.dup2L (X : Stand p l e R s m args below meth c T locs cells slots) (hx : p.tables.exec = Jvm.exec) {pc : Nat} {ls : Array Slot} {st : List Value} {pc' : Nat} {x : Int64} (hd : decode c.code pc = .ok (.dup2, 1))  (k : Wq p e below En Q (T.setTop (mkF m pc' ls (.long x :: .long x :: st)))) (hpc : pc + 1 = pc' := by rfl) : Wq p e below En Q (T.setTop (mkF m pc ls (.long x :: st))) := by subst hpc; exact Wq.step (fun _ q => Jvm.Free.XT.dup2L X.here hx rfl hd rfl q) k
theorem Ow.goto (X : Stand p l e R s m args below meth c T locs cells slots) (hx : p.tables.exec = Jvm.exec) {pc : Nat} {ls : Array Slot} {st : List Value} {o : Int} {pc' : Nat} (hd : decode c.code pc = .ok (.goto o, 3)) (ho : 0 ≤ (pc : Int) + o) (hp : ((pc : Int) + o).toNat = pc') (k : Wq p e below En Q (T.setTop (mkF m pc' ls st))) : Wq p e below En Q (T.setTop (mkF m pc ls st)) := Wq.step (fun _ q => XS.goto X.here hx rfl rfl hd ho hp q) k
theorem Ow.ifYes (X : Stand p l e R s m args below meth c T locs cells slots) (hx : p.tables.exec = Jvm.exec) {pc : Nat} {ls : Array Slot} {st : List Value} {cd : ClassFile.Cond} {x : Int32} {o : Int} {pc' : Nat} (hd : decode c.code pc = .ok (.ifCond cd o, 3)) (hc : ifCond.holds cd x = true) (ho : 0 ≤ (pc : Int) + o) (hp : ((pc : Int) + o).toNat = pc') (k : Wq p e below En Q (T.setTop (mkF m pc' ls st))) : Wq p e below En Q (T.setTop (mkF m pc ls (.int x :: st))) := Wq.step (fun _ q => XS.ifYes X.here hx rfl rfl hd rfl hc ho hp q) k
theorem Ow.ifNo (X : Stand p l e R s m args below meth c T locs cells slots) (hx : p.tables.exec = Jvm.exec) {pc : Nat} {ls : Array Slot} {st : List Value} {pc' : Nat} {cd : ClassFile.Cond} {x : Int32} {o : Int} (hd : decode c.code pc = .ok (.ifCond cd o, 3)) (hc : ifCond.holds cd x = false) (k : Wq p e below En Q (T.setTop (mkF m pc' ls st))) (hpc : pc + 3 = pc' := by rfl) : Wq p e below En Q (T.setTop (mkF m pc ls (.int x :: st))) := by subst hpc; exact Wq.step (fun _ q => XS.ifNo X.here hx rfl hd rfl hc q) k
theorem Ow.icmpYes (X : Stand p l e R s m args below meth c T locs cells slots) (hx : p.tables.exec = Jvm.exec) {pc : Nat} {ls : Array Slot} {st : List Value} {cd : ClassFile.Cond} {x y : Int32} {o : Int} {pc' : Nat} (hd : decode c.code pc = .ok (.if_icmp cd o, 3)) (hc : if_icmp.holds cd x y = true) (ho : 0 ≤ (pc : Int) + o) (hp : ((pc : Int) + o).toNat = pc') (k : Wq p e below En Q (T.setTop (mkF m pc' ls st))) : Wq p e below En Q (T.setTop (mkF m pc ls (.int y :: .int x :: st))) := Wq.step (fun _ q => XS.icmpYes X.here hx rfl rfl hd rfl hc ho hp q) k
theorem Ow.icmpNo (X : Stand p l e R s m args below meth c T locs cells slots) (hx : p.tables.exec = Jvm.exec) {pc : Nat} {ls : Array Slot} {st : List Value} {pc' : Nat} {cd : ClassFile.Cond} {x y : Int32} {o : Int} (hd : decode c.code pc = .ok (.if_icmp cd o, 3)) (hc : if_icmp.holds cd x y = false) (k : Wq p e below En Q (T.setTop (mkF m pc' ls st))) (hpc : pc + 3 = pc' := by rfl) : Wq p e below En Q (T.setTop (mkF m pc ls (.int y :: .int x :: st))) := by subst hpc; exact Wq.step (fun _ q => XS.icmpNo X.here hx rfl hd rfl hc q) k
theorem Ow.ifnullYes (X : Stand p l e R s m args below meth c T locs cells slots) (hx : p.tables.exec = Jvm.exec) {pc : Nat} {ls : Array Slot} {st : List Value} {o : Int} {pc' : Nat} (hd : decode c.code pc = .ok (.ifnull o, 3)) (ho : 0 ≤ (pc : Int) + o) (hp : ((pc : Int) + o).toNat = pc') (k : Wq p e below En Q (T.setTop (mkF m pc' ls st))) : Wq p e below En Q (T.setTop (mkF m pc ls (.null :: st))) := Wq.step (fun _ q => XS.ifnullYes X.here hx rfl rfl hd rfl ho hp q) k
theorem Ow.ifnullNo (X : Stand p l e R s m args below meth c T locs cells slots) (hx : p.tables.exec = Jvm.exec) {pc : Nat} {ls : Array Slot} {st : List Value} {pc' : Nat} {o : Int} {b : Addr} (hd : decode c.code pc = .ok (.ifnull o, 3))  (k : Wq p e below En Q (T.setTop (mkF m pc' ls st))) (hpc : pc + 3 = pc' := by rfl) : Wq p e below En Q (T.setTop (mkF m pc ls (.ref b :: st))) := by subst hpc; exact Wq.step (fun _ q => XS.ifnullNo X.here hx rfl hd rfl q) k
theorem Ow.ifnonnullYes (X : Stand p l e R s m args below meth c T locs cells slots) (hx : p.tables.exec = Jvm.exec) {pc : Nat} {ls : Array Slot} {st : List Value} {o : Int} {b : Addr} {pc' : Nat} (hd : decode c.code pc = .ok (.ifnonnull o, 3)) (ho : 0 ≤ (pc : Int) + o) (hp : ((pc : Int) + o).toNat = pc') (k : Wq p e below En Q (T.setTop (mkF m pc' ls st))) : Wq p e below En Q (T.setTop (mkF m pc ls (.ref b :: st))) := Wq.step (fun _ q => XS.ifnonnullYes X.here hx rfl rfl hd rfl ho hp q) k
theorem Ow.ifnonnullNo (X : Stand p l e R s m args below meth c T locs cells slots) (hx : p.tables.exec = Jvm.exec) {pc : Nat} {ls : Array Slot} {st : List Value} {pc' : Nat} {o : Int} (hd : decode c.code pc = .ok (.ifnonnull o, 3))  (k : Wq p e below En Q (T.setTop (mkF m pc' ls st))) (hpc : pc + 3 = pc' := by rfl) : Wq p e below En Q (T.setTop (mkF m pc ls (.null :: st))) := by subst hpc; exact Wq.step (fun _ q => XS.ifnonnullNo X.here hx rfl hd rfl q) k
theorem Ow.acmp (X : Stand p l e R s m args below meth c T locs cells slots) (hx : p.tables.exec = Jvm.exec) {pc : Nat} {ls : Array Slot} {st : List Value} {cd : ACond} {x y : Value} {o : Int} {pc' : Nat} {same : Bool} (hd : decode c.code pc = .ok (.if_acmp cd o, 3)) (h1 : x.isRef = true) (h2 : y.isRef = true) (hq : decide (x = y) = same) (ho : 0 ≤ (pc : Int) + o) (hp : pc' = if acV cd same = true then ((pc : Int) + o).toNat else pc + 3) (k : Wq p e below En Q (T.setTop (mkF m pc' ls st))) : Wq p e below En Q (T.setTop (mkF m pc ls (y :: x :: st))) := Wq.step (fun _ q => Jvm.RoadKit.acmp (g := mkF m pc ls (y :: x :: st)) X hx rfl h1 h2 rfl hd rfl hq ho hp q) k
theorem Ow.ldcInt (X : Stand p l e R s m args below meth c T locs cells slots) (hx : p.tables.exec = Jvm.exec) (hZ : Z.Warmed39 s.vm) {a0 : Array Value} {own : String} {index : Nat} {v : Int32} {pc pc' : Nat} {ls : Array Slot} {st : List Value} (hown : s.vm.findClass own = some m.cls) (w : (Cond.constant own index v).before a0 Z = true) (hd : decode c.code pc = .ok (.ldc index, 2)) (k : Wq p e below En Q (T.setTop (mkF m pc' ls (.int v :: st)))) (hpc : pc + 2 = pc' := by rfl) : Wq p e below En Q (T.setTop (mkF m pc ls st)) := by subst hpc; exact Wq.step (fun _ q => X.ldcInt hx hown (mvT hZ w) (g := mkF m pc ls st) rfl hd _ q) k
theorem Ow.ldcwInt (X : Stand p l e R s m args below meth c T locs cells slots) (hx : p.tables.exec = Jvm.exec) (hZ : Z.Warmed39 s.vm) {a0 : Array Value} {own : String} {index : Nat} {v : Int32} {pc pc' : Nat} {ls : Array Slot} {st : List Value} (hown : s.vm.findClass own = some m.cls) (w : (Cond.constant own index v).before a0 Z = true) (hd : decode c.code pc = .ok (.ldc_w index, 3)) (k : Wq p e below En Q (T.setTop (mkF m pc' ls (.int v :: st)))) (hpc : pc + 3 = pc' := by rfl) : Wq p e below En Q (T.setTop (mkF m pc ls st)) := by subst hpc; exact Wq.step (fun _ q => X.ldcwInt hx hown (mvT hZ w) (g := mkF m pc ls st) rfl hd _ q) k
theorem Ow.ldc2Long (X : Stand p l e R s m args below meth c T locs cells slots) (hx : p.tables.exec = Jvm.exec) (hZ : Z.Warmed39 s.vm) {a0 : Array Value} {own : String} {index : Nat} {v : Int64} {pc pc' : Nat} {ls : Array Slot} {st : List Value} (hown : s.vm.findClass own = some m.cls) (w : (Cond.constantLong own index v).before a0 Z = true) (hd : decode c.code pc = .ok (.ldc2_w index, 3)) (k : Wq p e below En Q (T.setTop (mkF m pc' ls (.long v :: st)))) (hpc : pc + 3 = pc' := by rfl) : Wq p e below En Q (T.setTop (mkF m pc ls st)) := by subst hpc; exact Wq.step (fun _ q => X.ldc2Long hx hown (mvT hZ w) (g := mkF m pc ls st) rfl hd _ q) k
theorem Ow.ldI (X : Stand p l e R s m args below meth c T locs cells slots) (hx : p.tables.exec = Jvm.exec) (hZ : Z.Warmed39 s.vm) (eT : T.heap = h) (V : Al Z h a .int vs) {pc pc' : Nat} {ls : Array Slot} {st : List Value} {j : Int32} {i : Nat} (hd : decode c.code pc = .ok (.iaload, 1)) (hj : ¬ j < 0) (hi : j.toNatClampNeg = i) (hv : vs[i]? = some v) (k : Wq p e below En Q (T.setTop (mkF m pc' ls (v :: st)))) (hpc : pc + 1 = pc' := by rfl) : Wq p e below En Q (T.setTop (mkF m pc ls (.int j :: .ref a :: st))) := by subst hpc; exact Wq.step (fun _ q => Jvm.OwnW.ldI X hx hZ eT V hj hi hv (g := mkF m pc ls (.int j :: .ref a :: st)) rfl rfl hd q) k
theorem Ow.ldJ (X : Stand p l e R s m args below meth c T locs cells slots) (hx : p.tables.exec = Jvm.exec) (hZ : Z.Warmed39 s.vm) (eT : T.heap = h) (V : Al Z h a .long vs) {pc pc' : Nat} {ls : Array Slot} {st : List Value} {j : Int32} {i : Nat} (hd : decode c.code pc = .ok (.laload, 1)) (hj : ¬ j < 0) (hi : j.toNatClampNeg = i) (hv : vs[i]? = some v) (k : Wq p e below En Q (T.setTop (mkF m pc' ls (v :: st)))) (hpc : pc + 1 = pc' := by rfl) : Wq p e below En Q (T.setTop (mkF m pc ls (.int j :: .ref a :: st))) := by subst hpc; exact Wq.step (fun _ q => Jvm.OwnW.ldJ X hx hZ eT V hj hi hv (g := mkF m pc ls (.int j :: .ref a :: st)) rfl rfl hd q) k
theorem Ow.ldC (X : Stand p l e R s m args below meth c T locs cells slots) (hx : p.tables.exec = Jvm.exec) (hZ : Z.Warmed39 s.vm) (eT : T.heap = h) (V : Al Z h a .char vs) {pc pc' : Nat} {ls : Array Slot} {st : List Value} {j : Int32} {i : Nat} (hd : decode c.code pc = .ok (.caload, 1)) (hj : ¬ j < 0) (hi : j.toNatClampNeg = i) (hv : vs[i]? = some v) (k : Wq p e below En Q (T.setTop (mkF m pc' ls (v :: st)))) (hpc : pc + 1 = pc' := by rfl) : Wq p e below En Q (T.setTop (mkF m pc ls (.int j :: .ref a :: st))) := by subst hpc; exact Wq.step (fun _ q => Jvm.OwnW.ldC X hx hZ eT V hj hi hv (g := mkF m pc ls (.int j :: .ref a :: st)) rfl rfl hd q) k
theorem Ow.ldB (X : Stand p l e R s m args below meth c T locs cells slots) (hx : p.tables.exec = Jvm.exec) (hZ : Z.Warmed39 s.vm) (eT : T.heap = h) (V : Al Z h a .byte vs) {pc pc' : Nat} {ls : Array Slot} {st : List Value} {j : Int32} {i : Nat} (hd : decode c.code pc = .ok (.baload, 1)) (hj : ¬ j < 0) (hi : j.toNatClampNeg = i) (hv : vs[i]? = some v) (k : Wq p e below En Q (T.setTop (mkF m pc' ls (v :: st)))) (hpc : pc + 1 = pc' := by rfl) : Wq p e below En Q (T.setTop (mkF m pc ls (.int j :: .ref a :: st))) := by subst hpc; exact Wq.step (fun _ q => Jvm.OwnW.ldB X hx hZ eT V hj hi hv (g := mkF m pc ls (.int j :: .ref a :: st)) rfl rfl hd q) k
theorem Ow.ldZ (X : Stand p l e R s m args below meth c T locs cells slots) (hx : p.tables.exec = Jvm.exec) (hZ : Z.Warmed39 s.vm) (eT : T.heap = h) (V : Al Z h a .boolean vs) {pc pc' : Nat} {ls : Array Slot} {st : List Value} {j : Int32} {i : Nat} (hd : decode c.code pc = .ok (.baload, 1)) (hj : ¬ j < 0) (hi : j.toNatClampNeg = i) (hv : vs[i]? = some v) (k : Wq p e below En Q (T.setTop (mkF m pc' ls (v :: st)))) (hpc : pc + 1 = pc' := by rfl) : Wq p e below En Q (T.setTop (mkF m pc ls (.int j :: .ref a :: st))) := by subst hpc; exact Wq.step (fun _ q => Jvm.OwnW.ldZ X hx hZ eT V hj hi hv (g := mkF m pc ls (.int j :: .ref a :: st)) rfl rfl hd q) k
theorem Ow.ldR (X : Stand p l e R s m args below meth c T locs cells slots) (hx : p.tables.exec = Jvm.exec) (hZ : Z.Warmed39 s.vm) (eT : T.heap = h) (V : Al Z h a ty vs) (hty : ty.isReference = true) {pc pc' : Nat} {ls : Array Slot} {st : List Value} {j : Int32} {i : Nat} (hd : decode c.code pc = .ok (.aaload, 1)) (hj : ¬ j < 0) (hi : j.toNatClampNeg = i) (hv : vs[i]? = some v) (k : Wq p e below En Q (T.setTop (mkF m pc' ls (v :: st)))) (hpc : pc + 1 = pc' := by rfl) : Wq p e below En Q (T.setTop (mkF m pc ls (.int j :: .ref a :: st))) := by
  subst hpc
  obtain ⟨cl, A, r⟩ := V
  exact Wq.step (fun _ q => X.aaload hx (by rw [eT]; exact A.1) (State.isArrayOf_alike hZ.alike A.2.1) hty A.2.2 (al_in r hj hi (al_lt hv)) (al_at r hi hv) (g := mkF m pc ls (.int j :: .ref a :: st)) rfl rfl hd _ q) k
theorem Ow.lenA (X : Stand p l e R s m args below meth c T locs cells slots) (hx : p.tables.exec = Jvm.exec) (hZ : Z.Warmed39 s.vm) (eT : T.heap = h) (V : Al Z h a ty vs) {pc pc' : Nat} {ls : Array Slot} {st : List Value} {n : Int32} (hd : decode c.code pc = .ok (.arraylength, 1)) (hn : vs.length.toInt32 = n) (k : Wq p e below En Q (T.setTop (mkF m pc' ls (.int n :: st)))) (hpc : pc + 1 = pc' := by rfl) : Wq p e below En Q (T.setTop (mkF m pc ls (.ref a :: st))) := by subst hpc; exact Wq.step (fun _ q => Jvm.OwnW.lenA X hx hZ eT V hn (g := mkF m pc ls (.ref a :: st)) rfl rfl hd q) k
end Base
end Jvm.OwnW
namespace Jvm.Pilot.@@N@@
open Jvm Jvm.ClassFile Sem Op Lib Jvm.Free Jvm.Stand Jvm.LawKit Jvm.RoadKit Jvm.OwnW Bundle Jvm.Pilot.@@N@@.Jvm.D
theorem kw6 {Z : State} {a0 : Array Value} (hw : ∀ d ∈ tables_1, d.before a0 Z = true) : (Jvm.Cond.methodLink "com/example/tauten/tauten/Trail" (1 : Nat) ({ cls := "java/lang/Object", name := "<init>", desc := "()V" } : Jvm.MethodName)).before a0 Z = true := hw _ (List.mem_of_getElem? (i := 6) rfl)
theorem kw7 {Z : State} {a0 : Array Value} (hw : ∀ d ∈ tables_1, d.before a0 Z = true) : (Jvm.Cond.instanceMethod ({ cls := "java/lang/Object", name := "<init>", desc := "()V" } : Jvm.MethodName)).before a0 Z = true := hw _ (List.mem_of_getElem? (i := 7) rfl)
theorem kw8 {Z : State} {a0 : Array Value} (hw : ∀ d ∈ tables_1, d.before a0 Z = true) : (Jvm.Cond.code ({ cls := "java/lang/Object", name := "<init>", desc := "()V" } : Jvm.MethodName) object_method_1_code (1 : Nat) (Option.none : Option Jvm.ClassFile.FieldType)).before a0 Z = true := hw _ (List.mem_of_getElem? (i := 8) rfl)
theorem kw9 {Z : State} {a0 : Array Value} (hw : ∀ d ∈ tables_1, d.before a0 Z = true) : (Jvm.Cond.arrayClass Jvm.ClassFile.FieldType.int).before a0 Z = true := hw _ (List.mem_of_getElem? (i := 9) rfl)
theorem kw11 {Z : State} {a0 : Array Value} (hw : ∀ d ∈ tables_1, d.before a0 Z = true) : (Jvm.Cond.lays "com/example/tauten/tauten/Trail" "com/example/tauten/tauten/Trail" "values" "[I").before a0 Z = true := hw _ (List.mem_of_getElem? (i := 11) rfl)
theorem kw10 {Z : State} {a0 : Array Value} (hw : ∀ d ∈ tables_1, d.before a0 Z = true) : (Jvm.Cond.fieldLink "com/example/tauten/tauten/Trail" (7 : Nat) "com/example/tauten/tauten/Trail" "values" "[I").before a0 Z = true := hw _ (List.mem_of_getElem? (i := 10) rfl)
theorem kw1 {Z : State} {a0 : Array Value} (hw : ∀ d ∈ tables_1, d.before a0 Z = true) : (Jvm.Cond.instantiable "com/example/tauten/tauten/Trail" (10 : Nat)).before a0 Z = true := hw _ (List.mem_of_getElem? (i := 1) rfl)
theorem kw13 {Z : State} {a0 : Array Value} (hw : ∀ d ∈ tables_1, d.before a0 Z = true) : (Jvm.Cond.lays "com/example/tauten/tauten/Trail" "com/example/tauten/tauten/Trail" "savedAt" "[I").before a0 Z = true := hw _ (List.mem_of_getElem? (i := 13) rfl)
theorem kw16 {Z : State} {a0 : Array Value} (hw : ∀ d ∈ tables_1, d.before a0 Z = true) : (Jvm.Cond.lays "com/example/tauten/tauten/Trail" "com/example/tauten/tauten/Trail" "longValues" "[J").before a0 Z = true := hw _ (List.mem_of_getElem? (i := 16) rfl)
theorem kw18 {Z : State} {a0 : Array Value} (hw : ∀ d ∈ tables_1, d.before a0 Z = true) : (Jvm.Cond.lays "com/example/tauten/tauten/Trail" "com/example/tauten/tauten/Trail" "longSavedAt" "[I").before a0 Z = true := hw _ (List.mem_of_getElem? (i := 18) rfl)
theorem kw20 {Z : State} {a0 : Array Value} (hw : ∀ d ∈ tables_1, d.before a0 Z = true) : (Jvm.Cond.lays "com/example/tauten/tauten/Trail" "com/example/tauten/tauten/Trail" "savedCells" "[I").before a0 Z = true := hw _ (List.mem_of_getElem? (i := 20) rfl)
theorem kw22 {Z : State} {a0 : Array Value} (hw : ∀ d ∈ tables_1, d.before a0 Z = true) : (Jvm.Cond.lays "com/example/tauten/tauten/Trail" "com/example/tauten/tauten/Trail" "savedValues" "[J").before a0 Z = true := hw _ (List.mem_of_getElem? (i := 22) rfl)
theorem kw24 {Z : State} {a0 : Array Value} (hw : ∀ d ∈ tables_1, d.before a0 Z = true) : (Jvm.Cond.lays "com/example/tauten/tauten/Trail" "com/example/tauten/tauten/Trail" "epoch" "I").before a0 Z = true := hw _ (List.mem_of_getElem? (i := 24) rfl)
theorem kw31 {Z : State} {a0 : Array Value} (hw : ∀ d ∈ tables_1, d.before a0 Z = true) : (Jvm.Cond.lays "com/example/tauten/tauten/Trail" "com/example/tauten/tauten/Trail" "cellCount" "I").before a0 Z = true := hw _ (List.mem_of_getElem? (i := 31) rfl)
theorem kw38 {Z : State} {a0 : Array Value} (hw : ∀ d ∈ tables_1, d.before a0 Z = true) : (Jvm.Cond.lays "com/example/tauten/tauten/Trail" "com/example/tauten/tauten/Trail" "longCellCount" "I").before a0 Z = true := hw _ (List.mem_of_getElem? (i := 38) rfl)
theorem kw45 {Z : State} {a0 : Array Value} (hw : ∀ d ∈ tables_1, d.before a0 Z = true) : (Jvm.Cond.lays "com/example/tauten/tauten/Trail" "com/example/tauten/tauten/Trail" "savedCount" "I").before a0 Z = true := hw _ (List.mem_of_getElem? (i := 45) rfl)
theorem kw12 {Z : State} {a0 : Array Value} (hw : ∀ d ∈ tables_1, d.before a0 Z = true) : (Jvm.Cond.fieldLink "com/example/tauten/tauten/Trail" (13 : Nat) "com/example/tauten/tauten/Trail" "savedAt" "[I").before a0 Z = true := hw _ (List.mem_of_getElem? (i := 12) rfl)
theorem kw14 {Z : State} {a0 : Array Value} (hw : ∀ d ∈ tables_1, d.before a0 Z = true) : (Jvm.Cond.arrayClass Jvm.ClassFile.FieldType.long).before a0 Z = true := hw _ (List.mem_of_getElem? (i := 14) rfl)
theorem kw15 {Z : State} {a0 : Array Value} (hw : ∀ d ∈ tables_1, d.before a0 Z = true) : (Jvm.Cond.fieldLink "com/example/tauten/tauten/Trail" (16 : Nat) "com/example/tauten/tauten/Trail" "longValues" "[J").before a0 Z = true := hw _ (List.mem_of_getElem? (i := 15) rfl)
theorem kw17 {Z : State} {a0 : Array Value} (hw : ∀ d ∈ tables_1, d.before a0 Z = true) : (Jvm.Cond.fieldLink "com/example/tauten/tauten/Trail" (20 : Nat) "com/example/tauten/tauten/Trail" "longSavedAt" "[I").before a0 Z = true := hw _ (List.mem_of_getElem? (i := 17) rfl)
theorem kw19 {Z : State} {a0 : Array Value} (hw : ∀ d ∈ tables_1, d.before a0 Z = true) : (Jvm.Cond.fieldLink "com/example/tauten/tauten/Trail" (23 : Nat) "com/example/tauten/tauten/Trail" "savedCells" "[I").before a0 Z = true := hw _ (List.mem_of_getElem? (i := 19) rfl)
theorem kw21 {Z : State} {a0 : Array Value} (hw : ∀ d ∈ tables_1, d.before a0 Z = true) : (Jvm.Cond.fieldLink "com/example/tauten/tauten/Trail" (26 : Nat) "com/example/tauten/tauten/Trail" "savedValues" "[J").before a0 Z = true := hw _ (List.mem_of_getElem? (i := 21) rfl)
theorem kw23 {Z : State} {a0 : Array Value} (hw : ∀ d ∈ tables_1, d.before a0 Z = true) : (Jvm.Cond.fieldLink "com/example/tauten/tauten/Trail" (29 : Nat) "com/example/tauten/tauten/Trail" "epoch" "I").before a0 Z = true := hw _ (List.mem_of_getElem? (i := 23) rfl)
theorem d_prog_71_method_1_0 : decode prog_71_method_1_code 0 = .ok (.aload_n 0, 1) := by decide +kernel
theorem d_prog_71_method_1_1 : decode prog_71_method_1_code 1 = .ok (.invokespecial 1, 3) := by decide +kernel
theorem d_prog_71_method_1_4 : decode prog_71_method_1_code 4 = .ok (.aload_n 0, 1) := by decide +kernel
theorem d_prog_71_method_1_5 : decode prog_71_method_1_code 5 = .ok (.bipush 64, 2) := by decide +kernel
theorem d_prog_71_method_1_7 : decode prog_71_method_1_code 7 = .ok (.newarray .int, 2) := by decide +kernel
theorem d_prog_71_method_1_9 : decode prog_71_method_1_code 9 = .ok (.putfield 7, 3) := by decide +kernel
theorem d_prog_71_method_1_12 : decode prog_71_method_1_code 12 = .ok (.aload_n 0, 1) := by decide +kernel
theorem d_prog_71_method_1_13 : decode prog_71_method_1_code 13 = .ok (.bipush 64, 2) := by decide +kernel
theorem d_prog_71_method_1_15 : decode prog_71_method_1_code 15 = .ok (.newarray .int, 2) := by decide +kernel
theorem d_prog_71_method_1_17 : decode prog_71_method_1_code 17 = .ok (.putfield 13, 3) := by decide +kernel
theorem d_prog_71_method_1_20 : decode prog_71_method_1_code 20 = .ok (.aload_n 0, 1) := by decide +kernel
theorem d_prog_71_method_1_21 : decode prog_71_method_1_code 21 = .ok (.bipush 64, 2) := by decide +kernel
theorem d_prog_71_method_1_23 : decode prog_71_method_1_code 23 = .ok (.newarray .long, 2) := by decide +kernel
theorem d_prog_71_method_1_25 : decode prog_71_method_1_code 25 = .ok (.putfield 16, 3) := by decide +kernel
theorem d_prog_71_method_1_28 : decode prog_71_method_1_code 28 = .ok (.aload_n 0, 1) := by decide +kernel
theorem d_prog_71_method_1_29 : decode prog_71_method_1_code 29 = .ok (.bipush 64, 2) := by decide +kernel
theorem d_prog_71_method_1_31 : decode prog_71_method_1_code 31 = .ok (.newarray .int, 2) := by decide +kernel
theorem d_prog_71_method_1_33 : decode prog_71_method_1_code 33 = .ok (.putfield 20, 3) := by decide +kernel
theorem d_prog_71_method_1_36 : decode prog_71_method_1_code 36 = .ok (.aload_n 0, 1) := by decide +kernel
theorem d_prog_71_method_1_37 : decode prog_71_method_1_code 37 = .ok (.sipush 256, 3) := by decide +kernel
theorem d_prog_71_method_1_40 : decode prog_71_method_1_code 40 = .ok (.newarray .int, 2) := by decide +kernel
theorem d_prog_71_method_1_42 : decode prog_71_method_1_code 42 = .ok (.putfield 23, 3) := by decide +kernel
theorem d_prog_71_method_1_45 : decode prog_71_method_1_code 45 = .ok (.aload_n 0, 1) := by decide +kernel
theorem d_prog_71_method_1_46 : decode prog_71_method_1_code 46 = .ok (.sipush 256, 3) := by decide +kernel
theorem d_prog_71_method_1_49 : decode prog_71_method_1_code 49 = .ok (.newarray .long, 2) := by decide +kernel
theorem d_prog_71_method_1_51 : decode prog_71_method_1_code 51 = .ok (.putfield 26, 3) := by decide +kernel
theorem d_prog_71_method_1_54 : decode prog_71_method_1_code 54 = .ok (.aload_n 0, 1) := by decide +kernel
theorem d_prog_71_method_1_55 : decode prog_71_method_1_code 55 = .ok (.iconst 1, 1) := by decide +kernel
theorem d_prog_71_method_1_56 : decode prog_71_method_1_code 56 = .ok (.putfield 29, 3) := by decide +kernel
theorem pn1 : plainName "com/example/tauten/tauten/Trail" = true := by first | (simp [plainName, overriddenIn]; done) | decide +kernel
theorem ef_ctor (m : MethodId) (thisctor : Addr) : entryFrame m #[(.ref thisctor)] 1 = mkF m 0 #[.val (.ref thisctor)] [] := by first | (simp [entryFrame, mkF, argsToLocals, Value.category]; done) | rfl
def Q_ctor (Z : State) (thisctor : Addr) (h0 : Heap) (n0 : Nat) (v : Option Value) (h : Heap) (L : List Loc) : Prop := ∃ b2 b4 b6 b8 b10 b12 : Addr, v = none ∧ Fr n0 L ∧ Keep h0 h [thisctor] ∧ h0.size ≤ b2 ∧ h0.size ≤ b4 ∧ h0.size ≤ b6 ∧ h0.size ≤ b8 ∧ h0.size ≤ b10 ∧ h0.size ≤ b12 ∧ b2 ≠ b4 ∧ b2 ≠ b6 ∧ b2 ≠ b8 ∧ b2 ≠ b10 ∧ b2 ≠ b12 ∧ b4 ≠ b6 ∧ b4 ≠ b8 ∧ b4 ≠ b10 ∧ b4 ≠ b12 ∧ b6 ≠ b8 ∧ b6 ≠ b10 ∧ b6 ≠ b12 ∧ b8 ≠ b10 ∧ b8 ≠ b12 ∧ b10 ≠ b12 ∧ Exa Z h thisctor "com/example/tauten/tauten/Trail" ∧ Fld Z h thisctor "com/example/tauten/tauten/Trail" "cellCount" "I" (.int (0 : Int32)) ∧ Fld Z h thisctor "com/example/tauten/tauten/Trail" "longCellCount" "I" (.int (0 : Int32)) ∧ Fld Z h thisctor "com/example/tauten/tauten/Trail" "savedCount" "I" (.int (0 : Int32)) ∧ Al Z h b2 .int ((.int (0 : Int32)) :: (List.replicate 63 (.int (0 : Int32)))) ∧ Fld Z h thisctor "com/example/tauten/tauten/Trail" "values" "[I" (.ref b2) ∧ Al Z h b4 .int ((.int (0 : Int32)) :: (List.replicate 63 (.int (0 : Int32)))) ∧ Fld Z h thisctor "com/example/tauten/tauten/Trail" "savedAt" "[I" (.ref b4) ∧ Al Z h b6 .long ((.long (0 : Int64)) :: (List.replicate 63 (.long (0 : Int64)))) ∧ Fld Z h thisctor "com/example/tauten/tauten/Trail" "longValues" "[J" (.ref b6) ∧ Al Z h b8 .int ((.int (0 : Int32)) :: (List.replicate 63 (.int (0 : Int32)))) ∧ Fld Z h thisctor "com/example/tauten/tauten/Trail" "longSavedAt" "[I" (.ref b8) ∧ Al Z h b10 .int ((.int (0 : Int32)) :: (.int (0 : Int32)) :: (.int (0 : Int32)) :: (.int (0 : Int32)) :: (List.replicate 252 (.int (0 : Int32)))) ∧ Fld Z h thisctor "com/example/tauten/tauten/Trail" "savedCells" "[I" (.ref b10) ∧ Al Z h b12 .long ((.long (0 : Int64)) :: (.long (0 : Int64)) :: (.long (0 : Int64)) :: (.long (0 : Int64)) :: (List.replicate 252 (.long (0 : Int64)))) ∧ Fld Z h thisctor "com/example/tauten/tauten/Trail" "savedValues" "[J" (.ref b12) ∧ Fld Z h thisctor "com/example/tauten/tauten/Trail" "epoch" "I" (.int (1 : Int32))
theorem d_prog_71_method_1_59 : decode prog_71_method_1_code 59 = .ok (.return_, 1) := by decide +kernel
abbrev mt1 : MethodName := ⟨"com/example/tauten/tauten/Trail", "<init>", "()V"⟩
set_option maxRecDepth 65536 in
set_option maxHeartbeats 40000000 in
theorem rm_ctor (l : Launch) (Z : State) (a0 : Array Value) (hw : ∀ d ∈ tables_1, d.before a0 Z = true) (ws : List Jvm.Cond) (thisctor : Addr) (h0 : Heap) (n0 : Nat) (Z0 : n0 ≤ h0.size) (E_thisctor : Exa Z h0 thisctor "com/example/tauten/tauten/Trail") (F_thisctor_values : Fld Z h0 thisctor "com/example/tauten/tauten/Trail" "values" "[I" .null) (F_thisctor_savedAt : Fld Z h0 thisctor "com/example/tauten/tauten/Trail" "savedAt" "[I" .null) (F_thisctor_longValues : Fld Z h0 thisctor "com/example/tauten/tauten/Trail" "longValues" "[J" .null) (F_thisctor_longSavedAt : Fld Z h0 thisctor "com/example/tauten/tauten/Trail" "longSavedAt" "[I" .null) (F_thisctor_savedCells : Fld Z h0 thisctor "com/example/tauten/tauten/Trail" "savedCells" "[I" .null) (F_thisctor_savedValues : Fld Z h0 thisctor "com/example/tauten/tauten/Trail" "savedValues" "[J" .null) (F_thisctor_epoch : Fld Z h0 thisctor "com/example/tauten/tauten/Trail" "epoch" "I" (.int (0 : Int32))) (F_thisctor_cellCount : Fld Z h0 thisctor "com/example/tauten/tauten/Trail" "cellCount" "I" (.int (0 : Int32))) (F_thisctor_longCellCount : Fld Z h0 thisctor "com/example/tauten/tauten/Trail" "longCellCount" "I" (.int (0 : Int32))) (F_thisctor_savedCount : Fld Z h0 thisctor "com/example/tauten/tauten/Trail" "savedCount" "I" (.int (0 : Int32))) (g_thisctor : n0 ≤ thisctor) :
    MetFree l mt1 (head1 (Jvm.Cond.code mt1 prog_71_method_1_code 1 none :: ws) ({ frames := 1, cells := 6, slots := 768, locals := 12 } : Room)) (fun a U => a = #[(.ref thisctor)] ∧ Z.Warmed39 U.vm ∧ U.heap = h0) (fun _ _ _ _ _ => True) (fun _ U o U' => ∃ v L, o = .returned v ∧ (Q_ctor Z thisctor h0 n0) v U'.heap L ∧ FrameEnd U o U' L ({ frames := 1, cells := 6, slots := 768, locals := 12 } : Room).cells ({ frames := 1, cells := 6, slots := 768, locals := 12 } : Room).slots) := by
  refine MetFree.of_bodySF (plainFor_of_name pn1) hisR ?_
  intro p e s m args below meth c s₁ Bd hml0 hP hK
  obtain ⟨rfl, hZ, hh⟩ := hP
  have hx := Bd.exec
  have hby := Bd.bytes
  have hml : c.maxLocals = 1 := hml0
  have hown : s.vm.findClass "com/example/tauten/tauten/Trail" = some m.cls := findClass_of_methodNamed Bd.named
  have hnm := (name_of_methodNamed Bd.named Bd.method).1
  have X0 : Stand p l e ({ frames := 1, cells := 6, slots := 768, locals := 12 } : Room) s m #[(.ref thisctor)] below meth c s₁ [] 0 0 := Stand.of_body Bd
  have e0 : s₁.heap = h0 := by rw [← hh, Bd.state]; rfl
  have N0 := Fr.nil n0
  refine Wq.step (p := p) (e := e) (below := below) (En := (fun o t L => FrameEnd s o t L ({ frames := 1, cells := 6, slots := 768, locals := 12 } : Room).cells ({ frames := 1, cells := 6, slots := 768, locals := 12 } : Room).slots)) (Q := (Q_ctor Z thisctor h0 n0)) (fun t k => castTop (ef_ctor m thisctor) k) ?_
  show Wq _ _ _ _ _ (s₁.setTop (mkF m 0 #[.val (.ref thisctor)] []))
  refine Ow.aloadN X0 hx (pc' := 1) (hb hby d_prog_71_method_1_0) rfl rfl ?_
  obtain ⟨T1, X1, e1, st1⟩ := initO X0 hx hZ hown (kw6 hw) (kw7 hw) (kw8 hw) e0 (g := (mkF m 1 #[.val (.ref thisctor)] [(.ref thisctor)])) rfl (by rw [hml]; rfl) rfl (hb hby d_prog_71_method_1_1) (by decide) (W := 0) (by show 2 * 0 + _ ≤ _; exact Nat.le_of_eq rfl) (by decide)
  refine Wq.step st1 ?_
  show Wq _ _ _ _ _ (T1.setTop (mkF m 4 #[.val (.ref thisctor)] []))
  refine Ow.aloadN X1 hx (pc' := 5) (hb hby d_prog_71_method_1_4) rfl rfl ?_
  refine Ow.bipush X1 hx (pc' := 7) (hb hby d_prog_71_method_1_5) (z := (64 : Int32)) rfl ?_
  obtain ⟨T2, h2, k2, X2, e2, E2, A2, st2⟩ := newP X1 hx hZ (aty := .int) (kw9 hw) e1 (g := (mkF m 7 #[.val (.ref thisctor)] [(.int (64 : Int32)), (.ref thisctor)])) rfl (hb hby d_prog_71_method_1_7) rfl (by decide) (cap := 64) (by decide) (by decide) (by decide) (by decide)
  obtain ⟨b2, gz2⟩ : ∃ z, z = h0.size := ⟨_, rfl⟩
  rw [← gz2] at A2 st2
  have g_b2 : n0 ≤ b2 := Nat.le_trans Z0 (Nat.le_of_eq gz2.symm)
  have sz_b2 : h0.size ≤ b2 := Nat.le_of_eq gz2.symm
  have ne_thisctor_b2 : thisctor ≠ b2 := Nat.ne_of_lt (Nat.lt_of_lt_of_le E_thisctor.lt (Nat.le_of_eq gz2.symm))
  have K2 : Keep h0 h2 [thisctor] := (Keep.refl h0 [thisctor]).ext E2
  have Z2 : n0 ≤ h2.size := Nat.le_trans Z0 E2.1
  have E_thisctor_t2 := E_thisctor.ext E2
  have F_thisctor_values_t2 := F_thisctor_values.ext E2
  have F_thisctor_savedAt_t2 := F_thisctor_savedAt.ext E2
  have F_thisctor_longValues_t2 := F_thisctor_longValues.ext E2
  have F_thisctor_longSavedAt_t2 := F_thisctor_longSavedAt.ext E2
  have F_thisctor_savedCells_t2 := F_thisctor_savedCells.ext E2
  have F_thisctor_savedValues_t2 := F_thisctor_savedValues.ext E2
  have F_thisctor_epoch_t2 := F_thisctor_epoch.ext E2
  have F_thisctor_cellCount_t2 := F_thisctor_cellCount.ext E2
  have F_thisctor_longCellCount_t2 := F_thisctor_longCellCount.ext E2
  have F_thisctor_savedCount_t2 := F_thisctor_savedCount.ext E2
  have V_b2 : Al Z h2 b2 .int ((.int (0 : Int32)) :: (List.replicate 63 (.int (0 : Int32)))) := Al.new A2 (k := 64) (rfl) rfl
  refine Wq.step st2 ?_
  show Wq _ _ _ _ _ (T2.setTop (mkF m 9 #[.val (.ref thisctor)] [(.ref b2), (.ref thisctor)]))
  obtain ⟨T3, h3, X3, e3, W3, st3⟩ := putF X2 hx hZ hown (host := "") (Or.inl (kw10 hw)) Via.refl e2 F_thisctor_values_t2 E_thisctor_t2 (Or.inl (kw11 hw)) (kw1 hw) (ty := (.array .int)) (by decide) (rfl) (rfl) (g := (mkF m 9 #[.val (.ref thisctor)] [(.ref b2), (.ref thisctor)])) rfl rfl (hb hby d_prog_71_method_1_9)
  refine Wq.step st3 ?_
  have N3 := Fr.snoc X3 N0 g_thisctor
  have K3 : Keep h0 h3 [thisctor] := K2.wr W3 (Or.inl (List.mem_of_getElem? (i := 0) rfl))
  have Z3 : n0 ≤ h3.size := Nat.le_trans Z2 (Keep.of_wr W3).1
  have E_thisctor_t3 := E_thisctor_t2.wr W3
  have F_thisctor_savedAt_t3 := F_thisctor_savedAt_t2.other W3 (Or.inr (slot_ne (Or.inl (kw13 hw)) (Or.inl (kw11 hw)) (by decide) (t := (.array .int)) (t' := (.array .int)) (by decide) (by decide)))
  have F_thisctor_longValues_t3 := F_thisctor_longValues_t2.other W3 (Or.inr (slot_ne (Or.inl (kw16 hw)) (Or.inl (kw11 hw)) (by decide) (t := (.array .long)) (t' := (.array .int)) (by decide) (by decide)))
  have F_thisctor_longSavedAt_t3 := F_thisctor_longSavedAt_t2.other W3 (Or.inr (slot_ne (Or.inl (kw18 hw)) (Or.inl (kw11 hw)) (by decide) (t := (.array .int)) (t' := (.array .int)) (by decide) (by decide)))
  have F_thisctor_savedCells_t3 := F_thisctor_savedCells_t2.other W3 (Or.inr (slot_ne (Or.inl (kw20 hw)) (Or.inl (kw11 hw)) (by decide) (t := (.array .int)) (t' := (.array .int)) (by decide) (by decide)))
  have F_thisctor_savedValues_t3 := F_thisctor_savedValues_t2.other W3 (Or.inr (slot_ne (Or.inl (kw22 hw)) (Or.inl (kw11 hw)) (by decide) (t := (.array .long)) (t' := (.array .int)) (by decide) (by decide)))
  have F_thisctor_epoch_t3 := F_thisctor_epoch_t2.other W3 (Or.inr (slot_ne (Or.inl (kw24 hw)) (Or.inl (kw11 hw)) (by decide) (t := .int) (t' := (.array .int)) (by decide) (by decide)))
  have F_thisctor_cellCount_t3 := F_thisctor_cellCount_t2.other W3 (Or.inr (slot_ne (Or.inl (kw31 hw)) (Or.inl (kw11 hw)) (by decide) (t := .int) (t' := (.array .int)) (by decide) (by decide)))
  have F_thisctor_longCellCount_t3 := F_thisctor_longCellCount_t2.other W3 (Or.inr (slot_ne (Or.inl (kw38 hw)) (Or.inl (kw11 hw)) (by decide) (t := .int) (t' := (.array .int)) (by decide) (by decide)))
  have F_thisctor_savedCount_t3 := F_thisctor_savedCount_t2.other W3 (Or.inr (slot_ne (Or.inl (kw45 hw)) (Or.inl (kw11 hw)) (by decide) (t := .int) (t' := (.array .int)) (by decide) (by decide)))
  have V_b2_t3 := V_b2.other W3 (Ne.symm ne_thisctor_b2)
  have F_thisctor_values_t3 : Fld Z h3 thisctor "com/example/tauten/tauten/Trail" "values" "[I" (.ref b2) := F_thisctor_values_t2.same W3
  show Wq _ _ _ _ _ (T3.setTop (mkF m 12 #[.val (.ref thisctor)] []))
  refine Ow.aloadN X3 hx (pc' := 13) (hb hby d_prog_71_method_1_12) rfl rfl ?_
  refine Ow.bipush X3 hx (pc' := 15) (hb hby d_prog_71_method_1_13) (z := (64 : Int32)) rfl ?_
  obtain ⟨T4, h4, k4, X4, e4, E4, A4, st4⟩ := newP X3 hx hZ (aty := .int) (kw9 hw) e3 (g := (mkF m 15 #[.val (.ref thisctor)] [(.int (64 : Int32)), (.ref thisctor)])) rfl (hb hby d_prog_71_method_1_15) rfl (by decide) (cap := 64) (by decide) (by decide) (by decide) (by decide)
  obtain ⟨b4, gz4⟩ : ∃ z, z = h3.size := ⟨_, rfl⟩
  rw [← gz4] at A4 st4
  have g_b4 : n0 ≤ b4 := Nat.le_trans Z3 (Nat.le_of_eq gz4.symm)
  have sz_b4 : h0.size ≤ b4 := Nat.le_trans K3.1 (Nat.le_of_eq gz4.symm)
  have ne_thisctor_b4 : thisctor ≠ b4 := Nat.ne_of_lt (Nat.lt_of_lt_of_le E_thisctor_t3.lt (Nat.le_of_eq gz4.symm))
  have ne_b2_b4 : b2 ≠ b4 := Nat.ne_of_lt (Nat.lt_of_lt_of_le V_b2_t3.lt (Nat.le_of_eq gz4.symm))
  have K4 : Keep h0 h4 [thisctor] := K3.ext E4
  have Z4 : n0 ≤ h4.size := Nat.le_trans Z3 E4.1
  have E_thisctor_t4 := E_thisctor_t3.ext E4
  have F_thisctor_savedAt_t4 := F_thisctor_savedAt_t3.ext E4
  have F_thisctor_longValues_t4 := F_thisctor_longValues_t3.ext E4
  have F_thisctor_longSavedAt_t4 := F_thisctor_longSavedAt_t3.ext E4
  have F_thisctor_savedCells_t4 := F_thisctor_savedCells_t3.ext E4
  have F_thisctor_savedValues_t4 := F_thisctor_savedValues_t3.ext E4
  have F_thisctor_epoch_t4 := F_thisctor_epoch_t3.ext E4
  have F_thisctor_cellCount_t4 := F_thisctor_cellCount_t3.ext E4
  have F_thisctor_longCellCount_t4 := F_thisctor_longCellCount_t3.ext E4
  have F_thisctor_savedCount_t4 := F_thisctor_savedCount_t3.ext E4
  have V_b2_t4 := V_b2_t3.ext E4
  have F_thisctor_values_t4 := F_thisctor_values_t3.ext E4
  have V_b4 : Al Z h4 b4 .int ((.int (0 : Int32)) :: (List.replicate 63 (.int (0 : Int32)))) := Al.new A4 (k := 64) (rfl) rfl
  refine Wq.step st4 ?_
  show Wq _ _ _ _ _ (T4.setTop (mkF m 17 #[.val (.ref thisctor)] [(.ref b4), (.ref thisctor)]))
  obtain ⟨T5, h5, X5, e5, W5, st5⟩ := putF X4 hx hZ hown (host := "") (Or.inl (kw12 hw)) Via.refl e4 F_thisctor_savedAt_t4 E_thisctor_t4 (Or.inl (kw13 hw)) (kw1 hw) (ty := (.array .int)) (by decide) (rfl) (rfl) (g := (mkF m 17 #[.val (.ref thisctor)] [(.ref b4), (.ref thisctor)])) rfl rfl (hb hby d_prog_71_method_1_17)
  refine Wq.step st5 ?_
  have N5 := Fr.snoc X5 N3 g_thisctor
  have K5 : Keep h0 h5 [thisctor] := K4.wr W5 (Or.inl (List.mem_of_getElem? (i := 0) rfl))
  have Z5 : n0 ≤ h5.size := Nat.le_trans Z4 (Keep.of_wr W5).1
  have E_thisctor_t5 := E_thisctor_t4.wr W5
  have F_thisctor_longValues_t5 := F_thisctor_longValues_t4.other W5 (Or.inr (slot_ne (Or.inl (kw16 hw)) (Or.inl (kw13 hw)) (by decide) (t := (.array .long)) (t' := (.array .int)) (by decide) (by decide)))
  have F_thisctor_longSavedAt_t5 := F_thisctor_longSavedAt_t4.other W5 (Or.inr (slot_ne (Or.inl (kw18 hw)) (Or.inl (kw13 hw)) (by decide) (t := (.array .int)) (t' := (.array .int)) (by decide) (by decide)))
  have F_thisctor_savedCells_t5 := F_thisctor_savedCells_t4.other W5 (Or.inr (slot_ne (Or.inl (kw20 hw)) (Or.inl (kw13 hw)) (by decide) (t := (.array .int)) (t' := (.array .int)) (by decide) (by decide)))
  have F_thisctor_savedValues_t5 := F_thisctor_savedValues_t4.other W5 (Or.inr (slot_ne (Or.inl (kw22 hw)) (Or.inl (kw13 hw)) (by decide) (t := (.array .long)) (t' := (.array .int)) (by decide) (by decide)))
  have F_thisctor_epoch_t5 := F_thisctor_epoch_t4.other W5 (Or.inr (slot_ne (Or.inl (kw24 hw)) (Or.inl (kw13 hw)) (by decide) (t := .int) (t' := (.array .int)) (by decide) (by decide)))
  have F_thisctor_cellCount_t5 := F_thisctor_cellCount_t4.other W5 (Or.inr (slot_ne (Or.inl (kw31 hw)) (Or.inl (kw13 hw)) (by decide) (t := .int) (t' := (.array .int)) (by decide) (by decide)))
  have F_thisctor_longCellCount_t5 := F_thisctor_longCellCount_t4.other W5 (Or.inr (slot_ne (Or.inl (kw38 hw)) (Or.inl (kw13 hw)) (by decide) (t := .int) (t' := (.array .int)) (by decide) (by decide)))
  have F_thisctor_savedCount_t5 := F_thisctor_savedCount_t4.other W5 (Or.inr (slot_ne (Or.inl (kw45 hw)) (Or.inl (kw13 hw)) (by decide) (t := .int) (t' := (.array .int)) (by decide) (by decide)))
  have V_b2_t5 := V_b2_t4.other W5 (Ne.symm ne_thisctor_b2)
  have F_thisctor_values_t5 := F_thisctor_values_t4.other W5 (Or.inr (slot_ne (Or.inl (kw11 hw)) (Or.inl (kw13 hw)) (by decide) (t := (.array .int)) (t' := (.array .int)) (by decide) (by decide)))
  have V_b4_t5 := V_b4.other W5 (Ne.symm ne_thisctor_b4)
  have F_thisctor_savedAt_t5 : Fld Z h5 thisctor "com/example/tauten/tauten/Trail" "savedAt" "[I" (.ref b4) := F_thisctor_savedAt_t4.same W5
  show Wq _ _ _ _ _ (T5.setTop (mkF m 20 #[.val (.ref thisctor)] []))
  refine Ow.aloadN X5 hx (pc' := 21) (hb hby d_prog_71_method_1_20) rfl rfl ?_
  refine Ow.bipush X5 hx (pc' := 23) (hb hby d_prog_71_method_1_21) (z := (64 : Int32)) rfl ?_
  obtain ⟨T6, h6, k6, X6, e6, E6, A6, st6⟩ := newP X5 hx hZ (aty := .long) (kw14 hw) e5 (g := (mkF m 23 #[.val (.ref thisctor)] [(.int (64 : Int32)), (.ref thisctor)])) rfl (hb hby d_prog_71_method_1_23) rfl (by decide) (cap := 64) (by decide) (by decide) (by decide) (by decide)
  obtain ⟨b6, gz6⟩ : ∃ z, z = h5.size := ⟨_, rfl⟩
  rw [← gz6] at A6 st6
  have g_b6 : n0 ≤ b6 := Nat.le_trans Z5 (Nat.le_of_eq gz6.symm)
  have sz_b6 : h0.size ≤ b6 := Nat.le_trans K5.1 (Nat.le_of_eq gz6.symm)
  have ne_thisctor_b6 : thisctor ≠ b6 := Nat.ne_of_lt (Nat.lt_of_lt_of_le E_thisctor_t5.lt (Nat.le_of_eq gz6.symm))
  have ne_b2_b6 : b2 ≠ b6 := Nat.ne_of_lt (Nat.lt_of_lt_of_le V_b2_t5.lt (Nat.le_of_eq gz6.symm))
  have ne_b4_b6 : b4 ≠ b6 := Nat.ne_of_lt (Nat.lt_of_lt_of_le V_b4_t5.lt (Nat.le_of_eq gz6.symm))
  have K6 : Keep h0 h6 [thisctor] := K5.ext E6
  have Z6 : n0 ≤ h6.size := Nat.le_trans Z5 E6.1
  have E_thisctor_t6 := E_thisctor_t5.ext E6
  have F_thisctor_longValues_t6 := F_thisctor_longValues_t5.ext E6
  have F_thisctor_longSavedAt_t6 := F_thisctor_longSavedAt_t5.ext E6
  have F_thisctor_savedCells_t6 := F_thisctor_savedCells_t5.ext E6
  have F_thisctor_savedValues_t6 := F_thisctor_savedValues_t5.ext E6
  have F_thisctor_epoch_t6 := F_thisctor_epoch_t5.ext E6
  have F_thisctor_cellCount_t6 := F_thisctor_cellCount_t5.ext E6
  have F_thisctor_longCellCount_t6 := F_thisctor_longCellCount_t5.ext E6
  have F_thisctor_savedCount_t6 := F_thisctor_savedCount_t5.ext E6
  have V_b2_t6 := V_b2_t5.ext E6
  have F_thisctor_values_t6 := F_thisctor_values_t5.ext E6
  have V_b4_t6 := V_b4_t5.ext E6
  have F_thisctor_savedAt_t6 := F_thisctor_savedAt_t5.ext E6
  have V_b6 : Al Z h6 b6 .long ((.long (0 : Int64)) :: (List.replicate 63 (.long (0 : Int64)))) := Al.new A6 (k := 64) (rfl) rfl
  refine Wq.step st6 ?_
  show Wq _ _ _ _ _ (T6.setTop (mkF m 25 #[.val (.ref thisctor)] [(.ref b6), (.ref thisctor)]))
  obtain ⟨T7, h7, X7, e7, W7, st7⟩ := putF X6 hx hZ hown (host := "") (Or.inl (kw15 hw)) Via.refl e6 F_thisctor_longValues_t6 E_thisctor_t6 (Or.inl (kw16 hw)) (kw1 hw) (ty := (.array .long)) (by decide) (rfl) (rfl) (g := (mkF m 25 #[.val (.ref thisctor)] [(.ref b6), (.ref thisctor)])) rfl rfl (hb hby d_prog_71_method_1_25)
  refine Wq.step st7 ?_
  have N7 := Fr.snoc X7 N5 g_thisctor
  have K7 : Keep h0 h7 [thisctor] := K6.wr W7 (Or.inl (List.mem_of_getElem? (i := 0) rfl))
  have Z7 : n0 ≤ h7.size := Nat.le_trans Z6 (Keep.of_wr W7).1
  have E_thisctor_t7 := E_thisctor_t6.wr W7
  have F_thisctor_longSavedAt_t7 := F_thisctor_longSavedAt_t6.other W7 (Or.inr (slot_ne (Or.inl (kw18 hw)) (Or.inl (kw16 hw)) (by decide) (t := (.array .int)) (t' := (.array .long)) (by decide) (by decide)))
  have F_thisctor_savedCells_t7 := F_thisctor_savedCells_t6.other W7 (Or.inr (slot_ne (Or.inl (kw20 hw)) (Or.inl (kw16 hw)) (by decide) (t := (.array .int)) (t' := (.array .long)) (by decide) (by decide)))
  have F_thisctor_savedValues_t7 := F_thisctor_savedValues_t6.other W7 (Or.inr (slot_ne (Or.inl (kw22 hw)) (Or.inl (kw16 hw)) (by decide) (t := (.array .long)) (t' := (.array .long)) (by decide) (by decide)))
  have F_thisctor_epoch_t7 := F_thisctor_epoch_t6.other W7 (Or.inr (slot_ne (Or.inl (kw24 hw)) (Or.inl (kw16 hw)) (by decide) (t := .int) (t' := (.array .long)) (by decide) (by decide)))
  have F_thisctor_cellCount_t7 := F_thisctor_cellCount_t6.other W7 (Or.inr (slot_ne (Or.inl (kw31 hw)) (Or.inl (kw16 hw)) (by decide) (t := .int) (t' := (.array .long)) (by decide) (by decide)))
  have F_thisctor_longCellCount_t7 := F_thisctor_longCellCount_t6.other W7 (Or.inr (slot_ne (Or.inl (kw38 hw)) (Or.inl (kw16 hw)) (by decide) (t := .int) (t' := (.array .long)) (by decide) (by decide)))
  have F_thisctor_savedCount_t7 := F_thisctor_savedCount_t6.other W7 (Or.inr (slot_ne (Or.inl (kw45 hw)) (Or.inl (kw16 hw)) (by decide) (t := .int) (t' := (.array .long)) (by decide) (by decide)))
  have V_b2_t7 := V_b2_t6.other W7 (Ne.symm ne_thisctor_b2)
  have F_thisctor_values_t7 := F_thisctor_values_t6.other W7 (Or.inr (slot_ne (Or.inl (kw11 hw)) (Or.inl (kw16 hw)) (by decide) (t := (.array .int)) (t' := (.array .long)) (by decide) (by decide)))
  have V_b4_t7 := V_b4_t6.other W7 (Ne.symm ne_thisctor_b4)
  have F_thisctor_savedAt_t7 := F_thisctor_savedAt_t6.other W7 (Or.inr (slot_ne (Or.inl (kw13 hw)) (Or.inl (kw16 hw)) (by decide) (t := (.array .int)) (t' := (.array .long)) (by decide) (by decide)))
  have V_b6_t7 := V_b6.other W7 (Ne.symm ne_thisctor_b6)
  have F_thisctor_longValues_t7 : Fld Z h7 thisctor "com/example/tauten/tauten/Trail" "longValues" "[J" (.ref b6) := F_thisctor_longValues_t6.same W7
  show Wq _ _ _ _ _ (T7.setTop (mkF m 28 #[.val (.ref thisctor)] []))
  refine Ow.aloadN X7 hx (pc' := 29) (hb hby d_prog_71_method_1_28) rfl rfl ?_
  refine Ow.bipush X7 hx (pc' := 31) (hb hby d_prog_71_method_1_29) (z := (64 : Int32)) rfl ?_
  obtain ⟨T8, h8, k8, X8, e8, E8, A8, st8⟩ := newP X7 hx hZ (aty := .int) (kw9 hw) e7 (g := (mkF m 31 #[.val (.ref thisctor)] [(.int (64 : Int32)), (.ref thisctor)])) rfl (hb hby d_prog_71_method_1_31) rfl (by decide) (cap := 64) (by decide) (by decide) (by decide) (by decide)
  obtain ⟨b8, gz8⟩ : ∃ z, z = h7.size := ⟨_, rfl⟩
  rw [← gz8] at A8 st8
  have g_b8 : n0 ≤ b8 := Nat.le_trans Z7 (Nat.le_of_eq gz8.symm)
  have sz_b8 : h0.size ≤ b8 := Nat.le_trans K7.1 (Nat.le_of_eq gz8.symm)
  have ne_thisctor_b8 : thisctor ≠ b8 := Nat.ne_of_lt (Nat.lt_of_lt_of_le E_thisctor_t7.lt (Nat.le_of_eq gz8.symm))
  have ne_b2_b8 : b2 ≠ b8 := Nat.ne_of_lt (Nat.lt_of_lt_of_le V_b2_t7.lt (Nat.le_of_eq gz8.symm))
  have ne_b4_b8 : b4 ≠ b8 := Nat.ne_of_lt (Nat.lt_of_lt_of_le V_b4_t7.lt (Nat.le_of_eq gz8.symm))
  have ne_b6_b8 : b6 ≠ b8 := Nat.ne_of_lt (Nat.lt_of_lt_of_le V_b6_t7.lt (Nat.le_of_eq gz8.symm))
  have K8 : Keep h0 h8 [thisctor] := K7.ext E8
  have Z8 : n0 ≤ h8.size := Nat.le_trans Z7 E8.1
  have E_thisctor_t8 := E_thisctor_t7.ext E8
  have F_thisctor_longSavedAt_t8 := F_thisctor_longSavedAt_t7.ext E8
  have F_thisctor_savedCells_t8 := F_thisctor_savedCells_t7.ext E8
  have F_thisctor_savedValues_t8 := F_thisctor_savedValues_t7.ext E8
  have F_thisctor_epoch_t8 := F_thisctor_epoch_t7.ext E8
  have F_thisctor_cellCount_t8 := F_thisctor_cellCount_t7.ext E8
  have F_thisctor_longCellCount_t8 := F_thisctor_longCellCount_t7.ext E8
  have F_thisctor_savedCount_t8 := F_thisctor_savedCount_t7.ext E8
  have V_b2_t8 := V_b2_t7.ext E8
  have F_thisctor_values_t8 := F_thisctor_values_t7.ext E8
  have V_b4_t8 := V_b4_t7.ext E8
  have F_thisctor_savedAt_t8 := F_thisctor_savedAt_t7.ext E8
  have V_b6_t8 := V_b6_t7.ext E8
  have F_thisctor_longValues_t8 := F_thisctor_longValues_t7.ext E8
  have V_b8 : Al Z h8 b8 .int ((.int (0 : Int32)) :: (List.replicate 63 (.int (0 : Int32)))) := Al.new A8 (k := 64) (rfl) rfl
  refine Wq.step st8 ?_
  show Wq _ _ _ _ _ (T8.setTop (mkF m 33 #[.val (.ref thisctor)] [(.ref b8), (.ref thisctor)]))
  obtain ⟨T9, h9, X9, e9, W9, st9⟩ := putF X8 hx hZ hown (host := "") (Or.inl (kw17 hw)) Via.refl e8 F_thisctor_longSavedAt_t8 E_thisctor_t8 (Or.inl (kw18 hw)) (kw1 hw) (ty := (.array .int)) (by decide) (rfl) (rfl) (g := (mkF m 33 #[.val (.ref thisctor)] [(.ref b8), (.ref thisctor)])) rfl rfl (hb hby d_prog_71_method_1_33)
  refine Wq.step st9 ?_
  have N9 := Fr.snoc X9 N7 g_thisctor
  have K9 : Keep h0 h9 [thisctor] := K8.wr W9 (Or.inl (List.mem_of_getElem? (i := 0) rfl))
  have Z9 : n0 ≤ h9.size := Nat.le_trans Z8 (Keep.of_wr W9).1
  have E_thisctor_t9 := E_thisctor_t8.wr W9
  have F_thisctor_savedCells_t9 := F_thisctor_savedCells_t8.other W9 (Or.inr (slot_ne (Or.inl (kw20 hw)) (Or.inl (kw18 hw)) (by decide) (t := (.array .int)) (t' := (.array .int)) (by decide) (by decide)))
  have F_thisctor_savedValues_t9 := F_thisctor_savedValues_t8.other W9 (Or.inr (slot_ne (Or.inl (kw22 hw)) (Or.inl (kw18 hw)) (by decide) (t := (.array .long)) (t' := (.array .int)) (by decide) (by decide)))
  have F_thisctor_epoch_t9 := F_thisctor_epoch_t8.other W9 (Or.inr (slot_ne (Or.inl (kw24 hw)) (Or.inl (kw18 hw)) (by decide) (t := .int) (t' := (.array .int)) (by decide) (by decide)))
  have F_thisctor_cellCount_t9 := F_thisctor_cellCount_t8.other W9 (Or.inr (slot_ne (Or.inl (kw31 hw)) (Or.inl (kw18 hw)) (by decide) (t := .int) (t' := (.array .int)) (by decide) (by decide)))
  have F_thisctor_longCellCount_t9 := F_thisctor_longCellCount_t8.other W9 (Or.inr (slot_ne (Or.inl (kw38 hw)) (Or.inl (kw18 hw)) (by decide) (t := .int) (t' := (.array .int)) (by decide) (by decide)))
  have F_thisctor_savedCount_t9 := F_thisctor_savedCount_t8.other W9 (Or.inr (slot_ne (Or.inl (kw45 hw)) (Or.inl (kw18 hw)) (by decide) (t := .int) (t' := (.array .int)) (by decide) (by decide)))
  have V_b2_t9 := V_b2_t8.other W9 (Ne.symm ne_thisctor_b2)
  have F_thisctor_values_t9 := F_thisctor_values_t8.other W9 (Or.inr (slot_ne (Or.inl (kw11 hw)) (Or.inl (kw18 hw)) (by decide) (t := (.array .int)) (t' := (.array .int)) (by decide) (by decide)))
  have V_b4_t9 := V_b4_t8.other W9 (Ne.symm ne_thisctor_b4)
  have F_thisctor_savedAt_t9 := F_thisctor_savedAt_t8.other W9 (Or.inr (slot_ne (Or.inl (kw13 hw)) (Or.inl (kw18 hw)) (by decide) (t := (.array .int)) (t' := (.array .int)) (by decide) (by decide)))
  have V_b6_t9 := V_b6_t8.other W9 (Ne.symm ne_thisctor_b6)
  have F_thisctor_longValues_t9 := F_thisctor_longValues_t8.other W9 (Or.inr (slot_ne (Or.inl (kw16 hw)) (Or.inl (kw18 hw)) (by decide) (t := (.array .long)) (t' := (.array .int)) (by decide) (by decide)))
  have V_b8_t9 := V_b8.other W9 (Ne.symm ne_thisctor_b8)
  have F_thisctor_longSavedAt_t9 : Fld Z h9 thisctor "com/example/tauten/tauten/Trail" "longSavedAt" "[I" (.ref b8) := F_thisctor_longSavedAt_t8.same W9
  show Wq _ _ _ _ _ (T9.setTop (mkF m 36 #[.val (.ref thisctor)] []))
  refine Ow.aloadN X9 hx (pc' := 37) (hb hby d_prog_71_method_1_36) rfl rfl ?_
  refine Ow.sipush X9 hx (pc' := 40) (hb hby d_prog_71_method_1_37) (z := (256 : Int32)) rfl ?_
  obtain ⟨T10, h10, k10, X10, e10, E10, A10, st10⟩ := newP X9 hx hZ (aty := .int) (kw9 hw) e9 (g := (mkF m 40 #[.val (.ref thisctor)] [(.int (256 : Int32)), (.ref thisctor)])) rfl (hb hby d_prog_71_method_1_40) rfl (by decide) (cap := 256) (by decide) (by decide) (by decide) (by decide)
  obtain ⟨b10, gz10⟩ : ∃ z, z = h9.size := ⟨_, rfl⟩
  rw [← gz10] at A10 st10
  have g_b10 : n0 ≤ b10 := Nat.le_trans Z9 (Nat.le_of_eq gz10.symm)
  have sz_b10 : h0.size ≤ b10 := Nat.le_trans K9.1 (Nat.le_of_eq gz10.symm)
  have ne_thisctor_b10 : thisctor ≠ b10 := Nat.ne_of_lt (Nat.lt_of_lt_of_le E_thisctor_t9.lt (Nat.le_of_eq gz10.symm))
  have ne_b2_b10 : b2 ≠ b10 := Nat.ne_of_lt (Nat.lt_of_lt_of_le V_b2_t9.lt (Nat.le_of_eq gz10.symm))
  have ne_b4_b10 : b4 ≠ b10 := Nat.ne_of_lt (Nat.lt_of_lt_of_le V_b4_t9.lt (Nat.le_of_eq gz10.symm))
  have ne_b6_b10 : b6 ≠ b10 := Nat.ne_of_lt (Nat.lt_of_lt_of_le V_b6_t9.lt (Nat.le_of_eq gz10.symm))
  have ne_b8_b10 : b8 ≠ b10 := Nat.ne_of_lt (Nat.lt_of_lt_of_le V_b8_t9.lt (Nat.le_of_eq gz10.symm))
  have K10 : Keep h0 h10 [thisctor] := K9.ext E10
  have Z10 : n0 ≤ h10.size := Nat.le_trans Z9 E10.1
  have E_thisctor_t10 := E_thisctor_t9.ext E10
  have F_thisctor_savedCells_t10 := F_thisctor_savedCells_t9.ext E10
  have F_thisctor_savedValues_t10 := F_thisctor_savedValues_t9.ext E10
  have F_thisctor_epoch_t10 := F_thisctor_epoch_t9.ext E10
  have F_thisctor_cellCount_t10 := F_thisctor_cellCount_t9.ext E10
  have F_thisctor_longCellCount_t10 := F_thisctor_longCellCount_t9.ext E10
  have F_thisctor_savedCount_t10 := F_thisctor_savedCount_t9.ext E10
  have V_b2_t10 := V_b2_t9.ext E10
  have F_thisctor_values_t10 := F_thisctor_values_t9.ext E10
  have V_b4_t10 := V_b4_t9.ext E10
  have F_thisctor_savedAt_t10 := F_thisctor_savedAt_t9.ext E10
  have V_b6_t10 := V_b6_t9.ext E10
  have F_thisctor_longValues_t10 := F_thisctor_longValues_t9.ext E10
  have V_b8_t10 := V_b8_t9.ext E10
  have F_thisctor_longSavedAt_t10 := F_thisctor_longSavedAt_t9.ext E10
  have V_b10 : Al Z h10 b10 .int ((.int (0 : Int32)) :: (.int (0 : Int32)) :: (.int (0 : Int32)) :: (.int (0 : Int32)) :: (List.replicate 252 (.int (0 : Int32)))) := Al.new A10 (k := 256) (rfl) rfl
  refine Wq.step st10 ?_
  show Wq _ _ _ _ _ (T10.setTop (mkF m 42 #[.val (.ref thisctor)] [(.ref b10), (.ref thisctor)]))
  obtain ⟨T11, h11, X11, e11, W11, st11⟩ := putF X10 hx hZ hown (host := "") (Or.inl (kw19 hw)) Via.refl e10 F_thisctor_savedCells_t10 E_thisctor_t10 (Or.inl (kw20 hw)) (kw1 hw) (ty := (.array .int)) (by decide) (rfl) (rfl) (g := (mkF m 42 #[.val (.ref thisctor)] [(.ref b10), (.ref thisctor)])) rfl rfl (hb hby d_prog_71_method_1_42)
  refine Wq.step st11 ?_
  have N11 := Fr.snoc X11 N9 g_thisctor
  have K11 : Keep h0 h11 [thisctor] := K10.wr W11 (Or.inl (List.mem_of_getElem? (i := 0) rfl))
  have Z11 : n0 ≤ h11.size := Nat.le_trans Z10 (Keep.of_wr W11).1
  have E_thisctor_t11 := E_thisctor_t10.wr W11
  have F_thisctor_savedValues_t11 := F_thisctor_savedValues_t10.other W11 (Or.inr (slot_ne (Or.inl (kw22 hw)) (Or.inl (kw20 hw)) (by decide) (t := (.array .long)) (t' := (.array .int)) (by decide) (by decide)))
  have F_thisctor_epoch_t11 := F_thisctor_epoch_t10.other W11 (Or.inr (slot_ne (Or.inl (kw24 hw)) (Or.inl (kw20 hw)) (by decide) (t := .int) (t' := (.array .int)) (by decide) (by decide)))
  have F_thisctor_cellCount_t11 := F_thisctor_cellCount_t10.other W11 (Or.inr (slot_ne (Or.inl (kw31 hw)) (Or.inl (kw20 hw)) (by decide) (t := .int) (t' := (.array .int)) (by decide) (by decide)))
  have F_thisctor_longCellCount_t11 := F_thisctor_longCellCount_t10.other W11 (Or.inr (slot_ne (Or.inl (kw38 hw)) (Or.inl (kw20 hw)) (by decide) (t := .int) (t' := (.array .int)) (by decide) (by decide)))
  have F_thisctor_savedCount_t11 := F_thisctor_savedCount_t10.other W11 (Or.inr (slot_ne (Or.inl (kw45 hw)) (Or.inl (kw20 hw)) (by decide) (t := .int) (t' := (.array .int)) (by decide) (by decide)))
  have V_b2_t11 := V_b2_t10.other W11 (Ne.symm ne_thisctor_b2)
  have F_thisctor_values_t11 := F_thisctor_values_t10.other W11 (Or.inr (slot_ne (Or.inl (kw11 hw)) (Or.inl (kw20 hw)) (by decide) (t := (.array .int)) (t' := (.array .int)) (by decide) (by decide)))
  have V_b4_t11 := V_b4_t10.other W11 (Ne.symm ne_thisctor_b4)
  have F_thisctor_savedAt_t11 := F_thisctor_savedAt_t10.other W11 (Or.inr (slot_ne (Or.inl (kw13 hw)) (Or.inl (kw20 hw)) (by decide) (t := (.array .int)) (t' := (.array .int)) (by decide) (by decide)))
  have V_b6_t11 := V_b6_t10.other W11 (Ne.symm ne_thisctor_b6)
  have F_thisctor_longValues_t11 := F_thisctor_longValues_t10.other W11 (Or.inr (slot_ne (Or.inl (kw16 hw)) (Or.inl (kw20 hw)) (by decide) (t := (.array .long)) (t' := (.array .int)) (by decide) (by decide)))
  have V_b8_t11 := V_b8_t10.other W11 (Ne.symm ne_thisctor_b8)
  have F_thisctor_longSavedAt_t11 := F_thisctor_longSavedAt_t10.other W11 (Or.inr (slot_ne (Or.inl (kw18 hw)) (Or.inl (kw20 hw)) (by decide) (t := (.array .int)) (t' := (.array .int)) (by decide) (by decide)))
  have V_b10_t11 := V_b10.other W11 (Ne.symm ne_thisctor_b10)
  have F_thisctor_savedCells_t11 : Fld Z h11 thisctor "com/example/tauten/tauten/Trail" "savedCells" "[I" (.ref b10) := F_thisctor_savedCells_t10.same W11
  show Wq _ _ _ _ _ (T11.setTop (mkF m 45 #[.val (.ref thisctor)] []))
  refine Ow.aloadN X11 hx (pc' := 46) (hb hby d_prog_71_method_1_45) rfl rfl ?_
  refine Ow.sipush X11 hx (pc' := 49) (hb hby d_prog_71_method_1_46) (z := (256 : Int32)) rfl ?_
  obtain ⟨T12, h12, k12, X12, e12, E12, A12, st12⟩ := newP X11 hx hZ (aty := .long) (kw14 hw) e11 (g := (mkF m 49 #[.val (.ref thisctor)] [(.int (256 : Int32)), (.ref thisctor)])) rfl (hb hby d_prog_71_method_1_49) rfl (by decide) (cap := 256) (by decide) (by decide) (by decide) (by decide)
  obtain ⟨b12, gz12⟩ : ∃ z, z = h11.size := ⟨_, rfl⟩
  rw [← gz12] at A12 st12
  have g_b12 : n0 ≤ b12 := Nat.le_trans Z11 (Nat.le_of_eq gz12.symm)
  have sz_b12 : h0.size ≤ b12 := Nat.le_trans K11.1 (Nat.le_of_eq gz12.symm)
  have ne_thisctor_b12 : thisctor ≠ b12 := Nat.ne_of_lt (Nat.lt_of_lt_of_le E_thisctor_t11.lt (Nat.le_of_eq gz12.symm))
  have ne_b2_b12 : b2 ≠ b12 := Nat.ne_of_lt (Nat.lt_of_lt_of_le V_b2_t11.lt (Nat.le_of_eq gz12.symm))
  have ne_b4_b12 : b4 ≠ b12 := Nat.ne_of_lt (Nat.lt_of_lt_of_le V_b4_t11.lt (Nat.le_of_eq gz12.symm))
  have ne_b6_b12 : b6 ≠ b12 := Nat.ne_of_lt (Nat.lt_of_lt_of_le V_b6_t11.lt (Nat.le_of_eq gz12.symm))
  have ne_b8_b12 : b8 ≠ b12 := Nat.ne_of_lt (Nat.lt_of_lt_of_le V_b8_t11.lt (Nat.le_of_eq gz12.symm))
  have ne_b10_b12 : b10 ≠ b12 := Nat.ne_of_lt (Nat.lt_of_lt_of_le V_b10_t11.lt (Nat.le_of_eq gz12.symm))
  have K12 : Keep h0 h12 [thisctor] := K11.ext E12
  have Z12 : n0 ≤ h12.size := Nat.le_trans Z11 E12.1
  have E_thisctor_t12 := E_thisctor_t11.ext E12
  have F_thisctor_savedValues_t12 := F_thisctor_savedValues_t11.ext E12
  have F_thisctor_epoch_t12 := F_thisctor_epoch_t11.ext E12
  have F_thisctor_cellCount_t12 := F_thisctor_cellCount_t11.ext E12
  have F_thisctor_longCellCount_t12 := F_thisctor_longCellCount_t11.ext E12
  have F_thisctor_savedCount_t12 := F_thisctor_savedCount_t11.ext E12
  have V_b2_t12 := V_b2_t11.ext E12
  have F_thisctor_values_t12 := F_thisctor_values_t11.ext E12
  have V_b4_t12 := V_b4_t11.ext E12
  have F_thisctor_savedAt_t12 := F_thisctor_savedAt_t11.ext E12
  have V_b6_t12 := V_b6_t11.ext E12
  have F_thisctor_longValues_t12 := F_thisctor_longValues_t11.ext E12
  have V_b8_t12 := V_b8_t11.ext E12
  have F_thisctor_longSavedAt_t12 := F_thisctor_longSavedAt_t11.ext E12
  have V_b10_t12 := V_b10_t11.ext E12
  have F_thisctor_savedCells_t12 := F_thisctor_savedCells_t11.ext E12
  have V_b12 : Al Z h12 b12 .long ((.long (0 : Int64)) :: (.long (0 : Int64)) :: (.long (0 : Int64)) :: (.long (0 : Int64)) :: (List.replicate 252 (.long (0 : Int64)))) := Al.new A12 (k := 256) (rfl) rfl
  refine Wq.step st12 ?_
  show Wq _ _ _ _ _ (T12.setTop (mkF m 51 #[.val (.ref thisctor)] [(.ref b12), (.ref thisctor)]))
  obtain ⟨T13, h13, X13, e13, W13, st13⟩ := putF X12 hx hZ hown (host := "") (Or.inl (kw21 hw)) Via.refl e12 F_thisctor_savedValues_t12 E_thisctor_t12 (Or.inl (kw22 hw)) (kw1 hw) (ty := (.array .long)) (by decide) (rfl) (rfl) (g := (mkF m 51 #[.val (.ref thisctor)] [(.ref b12), (.ref thisctor)])) rfl rfl (hb hby d_prog_71_method_1_51)
  refine Wq.step st13 ?_
  have N13 := Fr.snoc X13 N11 g_thisctor
  have K13 : Keep h0 h13 [thisctor] := K12.wr W13 (Or.inl (List.mem_of_getElem? (i := 0) rfl))
  have Z13 : n0 ≤ h13.size := Nat.le_trans Z12 (Keep.of_wr W13).1
  have E_thisctor_t13 := E_thisctor_t12.wr W13
  have F_thisctor_epoch_t13 := F_thisctor_epoch_t12.other W13 (Or.inr (slot_ne (Or.inl (kw24 hw)) (Or.inl (kw22 hw)) (by decide) (t := .int) (t' := (.array .long)) (by decide) (by decide)))
  have F_thisctor_cellCount_t13 := F_thisctor_cellCount_t12.other W13 (Or.inr (slot_ne (Or.inl (kw31 hw)) (Or.inl (kw22 hw)) (by decide) (t := .int) (t' := (.array .long)) (by decide) (by decide)))
  have F_thisctor_longCellCount_t13 := F_thisctor_longCellCount_t12.other W13 (Or.inr (slot_ne (Or.inl (kw38 hw)) (Or.inl (kw22 hw)) (by decide) (t := .int) (t' := (.array .long)) (by decide) (by decide)))
  have F_thisctor_savedCount_t13 := F_thisctor_savedCount_t12.other W13 (Or.inr (slot_ne (Or.inl (kw45 hw)) (Or.inl (kw22 hw)) (by decide) (t := .int) (t' := (.array .long)) (by decide) (by decide)))
  have V_b2_t13 := V_b2_t12.other W13 (Ne.symm ne_thisctor_b2)
  have F_thisctor_values_t13 := F_thisctor_values_t12.other W13 (Or.inr (slot_ne (Or.inl (kw11 hw)) (Or.inl (kw22 hw)) (by decide) (t := (.array .int)) (t' := (.array .long)) (by decide) (by decide)))
  have V_b4_t13 := V_b4_t12.other W13 (Ne.symm ne_thisctor_b4)
  have F_thisctor_savedAt_t13 := F_thisctor_savedAt_t12.other W13 (Or.inr (slot_ne (Or.inl (kw13 hw)) (Or.inl (kw22 hw)) (by decide) (t := (.array .int)) (t' := (.array .long)) (by decide) (by decide)))
  have V_b6_t13 := V_b6_t12.other W13 (Ne.symm ne_thisctor_b6)
  have F_thisctor_longValues_t13 := F_thisctor_longValues_t12.other W13 (Or.inr (slot_ne (Or.inl (kw16 hw)) (Or.inl (kw22 hw)) (by decide) (t := (.array .long)) (t' := (.array .long)) (by decide) (by decide)))
  have V_b8_t13 := V_b8_t12.other W13 (Ne.symm ne_thisctor_b8)
  have F_thisctor_longSavedAt_t13 := F_thisctor_longSavedAt_t12.other W13 (Or.inr (slot_ne (Or.inl (kw18 hw)) (Or.inl (kw22 hw)) (by decide) (t := (.array .int)) (t' := (.array .long)) (by decide) (by decide)))
  have V_b10_t13 := V_b10_t12.other W13 (Ne.symm ne_thisctor_b10)
  have F_thisctor_savedCells_t13 := F_thisctor_savedCells_t12.other W13 (Or.inr (slot_ne (Or.inl (kw20 hw)) (Or.inl (kw22 hw)) (by decide) (t := (.array .int)) (t' := (.array .long)) (by decide) (by decide)))
  have V_b12_t13 := V_b12.other W13 (Ne.symm ne_thisctor_b12)
  have F_thisctor_savedValues_t13 : Fld Z h13 thisctor "com/example/tauten/tauten/Trail" "savedValues" "[J" (.ref b12) := F_thisctor_savedValues_t12.same W13
  show Wq _ _ _ _ _ (T13.setTop (mkF m 54 #[.val (.ref thisctor)] []))
  refine Ow.aloadN X13 hx (pc' := 55) (hb hby d_prog_71_method_1_54) rfl rfl ?_
  refine Ow.iconst X13 hx (pc' := 56) (hb hby d_prog_71_method_1_55) (z := (1 : Int32)) rfl ?_
  obtain ⟨T14, h14, X14, e14, W14, st14⟩ := putF X13 hx hZ hown (host := "") (Or.inl (kw23 hw)) Via.refl e13 F_thisctor_epoch_t13 E_thisctor_t13 (Or.inl (kw24 hw)) (kw1 hw) (ty := .int) (by decide) (rfl) (rfl) (g := (mkF m 56 #[.val (.ref thisctor)] [(.int (1 : Int32)), (.ref thisctor)])) rfl rfl (hb hby d_prog_71_method_1_56)
  refine Wq.step st14 ?_
  have N14 := Fr.snoc X14 N13 g_thisctor
  have K14 : Keep h0 h14 [thisctor] := K13.wr W14 (Or.inl (List.mem_of_getElem? (i := 0) rfl))
  have Z14 : n0 ≤ h14.size := Nat.le_trans Z13 (Keep.of_wr W14).1
  have E_thisctor_t14 := E_thisctor_t13.wr W14
  have F_thisctor_cellCount_t14 := F_thisctor_cellCount_t13.other W14 (Or.inr (slot_ne (Or.inl (kw31 hw)) (Or.inl (kw24 hw)) (by decide) (t := .int) (t' := .int) (by decide) (by decide)))
  have F_thisctor_longCellCount_t14 := F_thisctor_longCellCount_t13.other W14 (Or.inr (slot_ne (Or.inl (kw38 hw)) (Or.inl (kw24 hw)) (by decide) (t := .int) (t' := .int) (by decide) (by decide)))
  have F_thisctor_savedCount_t14 := F_thisctor_savedCount_t13.other W14 (Or.inr (slot_ne (Or.inl (kw45 hw)) (Or.inl (kw24 hw)) (by decide) (t := .int) (t' := .int) (by decide) (by decide)))
  have V_b2_t14 := V_b2_t13.other W14 (Ne.symm ne_thisctor_b2)
  have F_thisctor_values_t14 := F_thisctor_values_t13.other W14 (Or.inr (slot_ne (Or.inl (kw11 hw)) (Or.inl (kw24 hw)) (by decide) (t := (.array .int)) (t' := .int) (by decide) (by decide)))
  have V_b4_t14 := V_b4_t13.other W14 (Ne.symm ne_thisctor_b4)
  have F_thisctor_savedAt_t14 := F_thisctor_savedAt_t13.other W14 (Or.inr (slot_ne (Or.inl (kw13 hw)) (Or.inl (kw24 hw)) (by decide) (t := (.array .int)) (t' := .int) (by decide) (by decide)))
  have V_b6_t14 := V_b6_t13.other W14 (Ne.symm ne_thisctor_b6)
  have F_thisctor_longValues_t14 := F_thisctor_longValues_t13.other W14 (Or.inr (slot_ne (Or.inl (kw16 hw)) (Or.inl (kw24 hw)) (by decide) (t := (.array .long)) (t' := .int) (by decide) (by decide)))
  have V_b8_t14 := V_b8_t13.other W14 (Ne.symm ne_thisctor_b8)
  have F_thisctor_longSavedAt_t14 := F_thisctor_longSavedAt_t13.other W14 (Or.inr (slot_ne (Or.inl (kw18 hw)) (Or.inl (kw24 hw)) (by decide) (t := (.array .int)) (t' := .int) (by decide) (by decide)))
  have V_b10_t14 := V_b10_t13.other W14 (Ne.symm ne_thisctor_b10)
  have F_thisctor_savedCells_t14 := F_thisctor_savedCells_t13.other W14 (Or.inr (slot_ne (Or.inl (kw20 hw)) (Or.inl (kw24 hw)) (by decide) (t := (.array .int)) (t' := .int) (by decide) (by decide)))
  have V_b12_t14 := V_b12_t13.other W14 (Ne.symm ne_thisctor_b12)
  have F_thisctor_savedValues_t14 := F_thisctor_savedValues_t13.other W14 (Or.inr (slot_ne (Or.inl (kw22 hw)) (Or.inl (kw24 hw)) (by decide) (t := (.array .long)) (t' := .int) (by decide) (by decide)))
  have F_thisctor_epoch_t14 : Fld Z h14 thisctor "com/example/tauten/tauten/Trail" "epoch" "I" (.int (1 : Int32)) := F_thisctor_epoch_t13.same W14
  show Wq _ _ _ _ _ (T14.setTop (mkF m 59 #[.val (.ref thisctor)] []))
  exact Wq.ret X14 (BodyLoose.notSynchronized Bd) (rv := none) (fun _ => rfl) (fun _ hr => X14.returnOut hx Bd.returns (hb hby d_prog_71_method_1_59) hr) (by decide) (by decide) (by rw [e14]; exact ⟨b2, b4, b6, b8, b10, b12, rfl, N14, K14, sz_b2, sz_b4, sz_b6, sz_b8, sz_b10, sz_b12, ne_b2_b4, ne_b2_b6, ne_b2_b8, ne_b2_b10, ne_b2_b12, ne_b4_b6, ne_b4_b8, ne_b4_b10, ne_b4_b12, ne_b6_b8, ne_b6_b10, ne_b6_b12, ne_b8_b10, ne_b8_b12, ne_b10_b12, E_thisctor_t14, F_thisctor_cellCount_t14, F_thisctor_longCellCount_t14, F_thisctor_savedCount_t14, V_b2_t14, F_thisctor_values_t14, V_b4_t14, F_thisctor_savedAt_t14, V_b6_t14, F_thisctor_longValues_t14, V_b8_t14, F_thisctor_longSavedAt_t14, V_b10_t14, F_thisctor_savedCells_t14, V_b12_t14, F_thisctor_savedValues_t14, F_thisctor_epoch_t14⟩)
theorem kw30 {Z : State} {a0 : Array Value} (hw : ∀ d ∈ tables_1, d.before a0 Z = true) : (Jvm.Cond.fieldLink "com/example/tauten/tauten/Trail" (33 : Nat) "com/example/tauten/tauten/Trail" "cellCount" "I").before a0 Z = true := hw _ (List.mem_of_getElem? (i := 30) rfl)
theorem d_prog_71_method_2_0 : decode prog_71_method_2_code 0 = .ok (.aload_n 0, 1) := by decide +kernel
theorem d_prog_71_method_2_1 : decode prog_71_method_2_code 1 = .ok (.getfield 33, 3) := by decide +kernel
theorem d_prog_71_method_2_4 : decode prog_71_method_2_code 4 = .ok (.aload_n 0, 1) := by decide +kernel
theorem d_prog_71_method_2_5 : decode prog_71_method_2_code 5 = .ok (.getfield 7, 3) := by decide +kernel
theorem d_prog_71_method_2_8 : decode prog_71_method_2_code 8 = .ok (.arraylength, 1) := by decide +kernel
theorem d_prog_71_method_2_9 : decode prog_71_method_2_code 9 = .ok (.if_icmp .ne 37, 3) := by decide +kernel
theorem d_prog_71_method_2_46 : decode prog_71_method_2_code 46 = .ok (.aload_n 0, 1) := by decide +kernel
theorem d_prog_71_method_2_47 : decode prog_71_method_2_code 47 = .ok (.getfield 7, 3) := by decide +kernel
theorem d_prog_71_method_2_50 : decode prog_71_method_2_code 50 = .ok (.aload_n 0, 1) := by decide +kernel
theorem d_prog_71_method_2_51 : decode prog_71_method_2_code 51 = .ok (.getfield 33, 3) := by decide +kernel
theorem d_prog_71_method_2_54 : decode prog_71_method_2_code 54 = .ok (.iload_n 1, 1) := by decide +kernel
theorem d_prog_71_method_2_55 : decode prog_71_method_2_code 55 = .ok (.iastore, 1) := by decide +kernel
theorem d_prog_71_method_2_56 : decode prog_71_method_2_code 56 = .ok (.aload_n 0, 1) := by decide +kernel
theorem d_prog_71_method_2_57 : decode prog_71_method_2_code 57 = .ok (.dup, 1) := by decide +kernel
theorem d_prog_71_method_2_58 : decode prog_71_method_2_code 58 = .ok (.getfield 33, 3) := by decide +kernel
theorem d_prog_71_method_2_61 : decode prog_71_method_2_code 61 = .ok (.dup_x1, 1) := by decide +kernel
theorem d_prog_71_method_2_62 : decode prog_71_method_2_code 62 = .ok (.iconst 1, 1) := by decide +kernel
theorem d_prog_71_method_2_63 : decode prog_71_method_2_code 63 = .ok (.iadd, 1) := by decide +kernel
theorem d_prog_71_method_2_64 : decode prog_71_method_2_code 64 = .ok (.putfield 33, 3) := by decide +kernel
theorem ef_nc (m : MethodId) (thisnc : Addr) (xnc_1 : Int32) : entryFrame m #[(.ref thisnc), (.int xnc_1)] 2 = mkF m 0 #[.val (.ref thisnc), .val (.int xnc_1)] [] := by first | (simp [entryFrame, mkF, argsToLocals, Value.category]; done) | rfl
def Q_nc (Z : State) (thisnc : Addr) (xnc_1 : Int32) (values_nc : Addr) (savedAt_nc : Addr) (longValues_nc : Addr) (longSavedAt_nc : Addr) (savedCells_nc : Addr) (savedValues_nc : Addr) (longCellCount_nc : Int32) (savedCount_nc : Int32) (epoch_nc : Int32) (ve0_nc : Int32) (rvalues_nc : List Value) (h0 : Heap) (n0 : Nat) (v : Option Value) (h : Heap) (L : List Loc) : Prop := v = some (.int (0 : Int32)) ∧ Fr n0 L ∧ Keep h0 h [values_nc, thisnc] ∧ Exa Z h thisnc "com/example/tauten/tauten/Trail" ∧ Fld Z h thisnc "com/example/tauten/tauten/Trail" "values" "[I" (.ref values_nc) ∧ Fld Z h thisnc "com/example/tauten/tauten/Trail" "savedAt" "[I" (.ref savedAt_nc) ∧ Fld Z h thisnc "com/example/tauten/tauten/Trail" "longValues" "[J" (.ref longValues_nc) ∧ Fld Z h thisnc "com/example/tauten/tauten/Trail" "longSavedAt" "[I" (.ref longSavedAt_nc) ∧ Fld Z h thisnc "com/example/tauten/tauten/Trail" "savedCells" "[I" (.ref savedCells_nc) ∧ Fld Z h thisnc "com/example/tauten/tauten/Trail" "savedValues" "[J" (.ref savedValues_nc) ∧ Fld Z h thisnc "com/example/tauten/tauten/Trail" "longCellCount" "I" (.int longCellCount_nc) ∧ Fld Z h thisnc "com/example/tauten/tauten/Trail" "savedCount" "I" (.int savedCount_nc) ∧ Fld Z h thisnc "com/example/tauten/tauten/Trail" "epoch" "I" (.int epoch_nc) ∧ Al Z h values_nc .int ((.int xnc_1) :: rvalues_nc) ∧ Fld Z h thisnc "com/example/tauten/tauten/Trail" "cellCount" "I" (.int (1 : Int32))
theorem d_prog_71_method_2_67 : decode prog_71_method_2_code 67 = .ok (.ireturn, 1) := by decide +kernel
abbrev mt2 : MethodName := ⟨"com/example/tauten/tauten/Trail", "newCell", "(I)I"⟩
set_option maxRecDepth 65536 in
set_option maxHeartbeats 40000000 in
theorem rm_nc (l : Launch) (Z : State) (a0 : Array Value) (hw : ∀ d ∈ tables_1, d.before a0 Z = true) (ws : List Jvm.Cond) (thisnc : Addr) (xnc_1 : Int32) (values_nc : Addr) (savedAt_nc : Addr) (longValues_nc : Addr) (longSavedAt_nc : Addr) (savedCells_nc : Addr) (savedValues_nc : Addr) (longCellCount_nc : Int32) (savedCount_nc : Int32) (epoch_nc : Int32) (ve0_nc : Int32) (rvalues_nc : List Value) (h0 : Heap) (n0 : Nat) (Z0 : n0 ≤ h0.size) (hlen : rvalues_nc.length = 63) (E_thisnc : Exa Z h0 thisnc "com/example/tauten/tauten/Trail") (F_thisnc_values : Fld Z h0 thisnc "com/example/tauten/tauten/Trail" "values" "[I" (.ref values_nc)) (F_thisnc_savedAt : Fld Z h0 thisnc "com/example/tauten/tauten/Trail" "savedAt" "[I" (.ref savedAt_nc)) (F_thisnc_longValues : Fld Z h0 thisnc "com/example/tauten/tauten/Trail" "longValues" "[J" (.ref longValues_nc)) (F_thisnc_longSavedAt : Fld Z h0 thisnc "com/example/tauten/tauten/Trail" "longSavedAt" "[I" (.ref longSavedAt_nc)) (F_thisnc_savedCells : Fld Z h0 thisnc "com/example/tauten/tauten/Trail" "savedCells" "[I" (.ref savedCells_nc)) (F_thisnc_savedValues : Fld Z h0 thisnc "com/example/tauten/tauten/Trail" "savedValues" "[J" (.ref savedValues_nc)) (F_thisnc_cellCount : Fld Z h0 thisnc "com/example/tauten/tauten/Trail" "cellCount" "I" (.int (0 : Int32))) (F_thisnc_longCellCount : Fld Z h0 thisnc "com/example/tauten/tauten/Trail" "longCellCount" "I" (.int longCellCount_nc)) (F_thisnc_savedCount : Fld Z h0 thisnc "com/example/tauten/tauten/Trail" "savedCount" "I" (.int savedCount_nc)) (F_thisnc_epoch : Fld Z h0 thisnc "com/example/tauten/tauten/Trail" "epoch" "I" (.int epoch_nc)) (g_thisnc : n0 ≤ thisnc) (V_values_nc : Al Z h0 values_nc .int ((.int ve0_nc) :: rvalues_nc)) (g_values_nc : n0 ≤ values_nc) (ne_values_nc_thisnc : values_nc ≠ thisnc) :
    MetFree l mt2 (head1 (Jvm.Cond.code mt2 prog_71_method_2_code 2 (some .int) :: ws) ({ frames := 0, cells := 0, slots := 0, locals := 0 } : Room)) (fun a U => a = #[(.ref thisnc), (.int xnc_1)] ∧ Z.Warmed39 U.vm ∧ U.heap = h0) (fun _ _ _ _ _ => True) (fun _ U o U' => ∃ v L, o = .returned v ∧ (Q_nc Z thisnc xnc_1 values_nc savedAt_nc longValues_nc longSavedAt_nc savedCells_nc savedValues_nc longCellCount_nc savedCount_nc epoch_nc ve0_nc rvalues_nc h0 n0) v U'.heap L ∧ FrameEnd U o U' L ({ frames := 0, cells := 0, slots := 0, locals := 0 } : Room).cells ({ frames := 0, cells := 0, slots := 0, locals := 0 } : Room).slots) := by
  refine MetFree.of_bodySF (plainFor_of_name pn1) hisR ?_
  intro p e s m args below meth c s₁ Bd hml0 hP hK
  obtain ⟨rfl, hZ, hh⟩ := hP
  have hx := Bd.exec
  have hby := Bd.bytes
  have hml : c.maxLocals = 2 := hml0
  have hown : s.vm.findClass "com/example/tauten/tauten/Trail" = some m.cls := findClass_of_methodNamed Bd.named
  have hnm := (name_of_methodNamed Bd.named Bd.method).1
  have X0 : Stand p l e ({ frames := 0, cells := 0, slots := 0, locals := 0 } : Room) s m #[(.ref thisnc), (.int xnc_1)] below meth c s₁ [] 0 0 := Stand.of_body Bd
  have e0 : s₁.heap = h0 := by rw [← hh, Bd.state]; rfl
  have N0 := Fr.nil n0
  refine Wq.step (p := p) (e := e) (below := below) (En := (fun o t L => FrameEnd s o t L ({ frames := 0, cells := 0, slots := 0, locals := 0 } : Room).cells ({ frames := 0, cells := 0, slots := 0, locals := 0 } : Room).slots)) (Q := (Q_nc Z thisnc xnc_1 values_nc savedAt_nc longValues_nc longSavedAt_nc savedCells_nc savedValues_nc longCellCount_nc savedCount_nc epoch_nc ve0_nc rvalues_nc h0 n0)) (fun t k => castTop (ef_nc m thisnc xnc_1) k) ?_
  show Wq _ _ _ _ _ (s₁.setTop (mkF m 0 #[.val (.ref thisnc), .val (.int xnc_1)] []))
  refine Ow.aloadN X0 hx (pc' := 1) (hb hby d_prog_71_method_2_0) rfl rfl ?_
  obtain ⟨T15, X15, e15, st15⟩ := getF X0 hx hZ hown (host := "") (Or.inl (kw30 hw)) Via.refl e0 F_thisnc_cellCount (g := (mkF m 1 #[.val (.ref thisnc), .val (.int xnc_1)] [(.ref thisnc)])) rfl rfl (hb hby d_prog_71_method_2_1)
  refine Wq.step st15 ?_
  show Wq _ _ _ _ _ (T15.setTop (mkF m 4 #[.val (.ref thisnc), .val (.int xnc_1)] [(.int (0 : Int32))]))
  refine Ow.aloadN X15 hx (pc' := 5) (hb hby d_prog_71_method_2_4) rfl rfl ?_
  obtain ⟨T16, X16, e16, st16⟩ := getF X15 hx hZ hown (host := "") (Or.inl (kw10 hw)) Via.refl e15 F_thisnc_values (g := (mkF m 5 #[.val (.ref thisnc), .val (.int xnc_1)] [(.ref thisnc), (.int (0 : Int32))])) rfl rfl (hb hby d_prog_71_method_2_5)
  refine Wq.step st16 ?_
  show Wq _ _ _ _ _ (T16.setTop (mkF m 8 #[.val (.ref thisnc), .val (.int xnc_1)] [(.ref values_nc), (.int (0 : Int32))]))
  refine Ow.lenA X16 hx hZ e16 V_values_nc (pc' := 9) (hb hby d_prog_71_method_2_8) (n := (64 : Int32)) (by simp only [List.length_cons, hlen]; rfl) ?_
  refine Ow.icmpYes X16 hx (pc' := 46) (hb hby d_prog_71_method_2_9) (feq (by decide : ¬ ((0 : Int32) = (64 : Int32)))).2 (by decide) (by decide) ?_
  refine Ow.aloadN X16 hx (pc' := 47) (hb hby d_prog_71_method_2_46) rfl rfl ?_
  obtain ⟨T17, X17, e17, st17⟩ := getF X16 hx hZ hown (host := "") (Or.inl (kw10 hw)) Via.refl e16 F_thisnc_values (g := (mkF m 47 #[.val (.ref thisnc), .val (.int xnc_1)] [(.ref thisnc)])) rfl rfl (hb hby d_prog_71_method_2_47)
  refine Wq.step st17 ?_
  show Wq _ _ _ _ _ (T17.setTop (mkF m 50 #[.val (.ref thisnc), .val (.int xnc_1)] [(.ref values_nc)]))
  refine Ow.aloadN X17 hx (pc' := 51) (hb hby d_prog_71_method_2_50) rfl rfl ?_
  obtain ⟨T18, X18, e18, st18⟩ := getF X17 hx hZ hown (host := "") (Or.inl (kw30 hw)) Via.refl e17 F_thisnc_cellCount (g := (mkF m 51 #[.val (.ref thisnc), .val (.int xnc_1)] [(.ref thisnc), (.ref values_nc)])) rfl rfl (hb hby d_prog_71_method_2_51)
  refine Wq.step st18 ?_
  show Wq _ _ _ _ _ (T18.setTop (mkF m 54 #[.val (.ref thisnc), .val (.int xnc_1)] [(.int (0 : Int32)), (.ref values_nc)]))
  refine Ow.iloadN X18 hx (pc' := 55) (hb hby d_prog_71_method_2_54) rfl ?_
  obtain ⟨T19, h19, X19, e19, W19, Vr19, st19⟩ := asI X18 hx hZ e18 V_values_nc (j := (0 : Int32)) (i := 0) (by decide) rfl (by simp only [List.length_cons]; omega) (g := (mkF m 55 #[.val (.ref thisnc), .val (.int xnc_1)] [(.int xnc_1), (.int (0 : Int32)), (.ref values_nc)])) rfl rfl (hb hby d_prog_71_method_2_55)
  refine Wq.step st19 ?_
  have N19 := Fr.snoc X19 N0 g_values_nc
  have K19 : Keep h0 h19 [values_nc, thisnc] := (Keep.refl h0 [values_nc, thisnc]).wr W19 (Or.inl (List.mem_of_getElem? (i := 0) rfl))
  have Z19 : n0 ≤ h19.size := Nat.le_trans Z0 (Keep.of_wr W19).1
  have E_thisnc_t19 := E_thisnc.wr W19
  have F_thisnc_values_t19 := F_thisnc_values.other W19 (Or.inl (Ne.symm ne_values_nc_thisnc))
  have F_thisnc_savedAt_t19 := F_thisnc_savedAt.other W19 (Or.inl (Ne.symm ne_values_nc_thisnc))
  have F_thisnc_longValues_t19 := F_thisnc_longValues.other W19 (Or.inl (Ne.symm ne_values_nc_thisnc))
  have F_thisnc_longSavedAt_t19 := F_thisnc_longSavedAt.other W19 (Or.inl (Ne.symm ne_values_nc_thisnc))
  have F_thisnc_savedCells_t19 := F_thisnc_savedCells.other W19 (Or.inl (Ne.symm ne_values_nc_thisnc))
  have F_thisnc_savedValues_t19 := F_thisnc_savedValues.other W19 (Or.inl (Ne.symm ne_values_nc_thisnc))
  have F_thisnc_cellCount_t19 := F_thisnc_cellCount.other W19 (Or.inl (Ne.symm ne_values_nc_thisnc))
  have F_thisnc_longCellCount_t19 := F_thisnc_longCellCount.other W19 (Or.inl (Ne.symm ne_values_nc_thisnc))
  have F_thisnc_savedCount_t19 := F_thisnc_savedCount.other W19 (Or.inl (Ne.symm ne_values_nc_thisnc))
  have F_thisnc_epoch_t19 := F_thisnc_epoch.other W19 (Or.inl (Ne.symm ne_values_nc_thisnc))
  have V_values_nc_t19 : Al Z h19 values_nc .int ((.int xnc_1) :: rvalues_nc) := Vr19
  show Wq _ _ _ _ _ (T19.setTop (mkF m 56 #[.val (.ref thisnc), .val (.int xnc_1)] []))
  refine Ow.aloadN X19 hx (pc' := 57) (hb hby d_prog_71_method_2_56) rfl rfl ?_
  refine Ow.dup X19 hx (pc' := 58) (hb hby d_prog_71_method_2_57) rfl ?_
  obtain ⟨T20, X20, e20, st20⟩ := getF X19 hx hZ hown (host := "") (Or.inl (kw30 hw)) Via.refl e19 F_thisnc_cellCount_t19 (g := (mkF m 58 #[.val (.ref thisnc), .val (.int xnc_1)] [(.ref thisnc), (.ref thisnc)])) rfl rfl (hb hby d_prog_71_method_2_58)
  refine Wq.step st20 ?_
  show Wq _ _ _ _ _ (T20.setTop (mkF m 61 #[.val (.ref thisnc), .val (.int xnc_1)] [(.int (0 : Int32)), (.ref thisnc)]))
  refine Ow.dupX1 X20 hx (pc' := 62) (hb hby d_prog_71_method_2_61) rfl rfl ?_
  refine Ow.iconst X20 hx (pc' := 63) (hb hby d_prog_71_method_2_62) (z := (1 : Int32)) rfl ?_
  refine Ow.iadd X20 hx (pc' := 64) (hb hby d_prog_71_method_2_63) (z := (1 : Int32)) rfl ?_
  obtain ⟨T21, h21, X21, e21, W21, st21⟩ := putF X20 hx hZ hown (host := "") (Or.inl (kw30 hw)) Via.refl e20 F_thisnc_cellCount_t19 E_thisnc_t19 (Or.inl (kw31 hw)) (kw1 hw) (ty := .int) (by decide) (rfl) (rfl) (g := (mkF m 64 #[.val (.ref thisnc), .val (.int xnc_1)] [(.int (1 : Int32)), (.ref thisnc), (.int (0 : Int32))])) rfl rfl (hb hby d_prog_71_method_2_64)
  refine Wq.step st21 ?_
  have N21 := Fr.snoc X21 N19 g_thisnc
  have K21 : Keep h0 h21 [values_nc, thisnc] := K19.wr W21 (Or.inl (List.mem_of_getElem? (i := 1) rfl))
  have Z21 : n0 ≤ h21.size := Nat.le_trans Z19 (Keep.of_wr W21).1
  have E_thisnc_t21 := E_thisnc_t19.wr W21
  have F_thisnc_values_t21 := F_thisnc_values_t19.other W21 (Or.inr (slot_ne (Or.inl (kw11 hw)) (Or.inl (kw31 hw)) (by decide) (t := (.array .int)) (t' := .int) (by decide) (by decide)))
  have F_thisnc_savedAt_t21 := F_thisnc_savedAt_t19.other W21 (Or.inr (slot_ne (Or.inl (kw13 hw)) (Or.inl (kw31 hw)) (by decide) (t := (.array .int)) (t' := .int) (by decide) (by decide)))
  have F_thisnc_longValues_t21 := F_thisnc_longValues_t19.other W21 (Or.inr (slot_ne (Or.inl (kw16 hw)) (Or.inl (kw31 hw)) (by decide) (t := (.array .long)) (t' := .int) (by decide) (by decide)))
  have F_thisnc_longSavedAt_t21 := F_thisnc_longSavedAt_t19.other W21 (Or.inr (slot_ne (Or.inl (kw18 hw)) (Or.inl (kw31 hw)) (by decide) (t := (.array .int)) (t' := .int) (by decide) (by decide)))
  have F_thisnc_savedCells_t21 := F_thisnc_savedCells_t19.other W21 (Or.inr (slot_ne (Or.inl (kw20 hw)) (Or.inl (kw31 hw)) (by decide) (t := (.array .int)) (t' := .int) (by decide) (by decide)))
  have F_thisnc_savedValues_t21 := F_thisnc_savedValues_t19.other W21 (Or.inr (slot_ne (Or.inl (kw22 hw)) (Or.inl (kw31 hw)) (by decide) (t := (.array .long)) (t' := .int) (by decide) (by decide)))
  have F_thisnc_longCellCount_t21 := F_thisnc_longCellCount_t19.other W21 (Or.inr (slot_ne (Or.inl (kw38 hw)) (Or.inl (kw31 hw)) (by decide) (t := .int) (t' := .int) (by decide) (by decide)))
  have F_thisnc_savedCount_t21 := F_thisnc_savedCount_t19.other W21 (Or.inr (slot_ne (Or.inl (kw45 hw)) (Or.inl (kw31 hw)) (by decide) (t := .int) (t' := .int) (by decide) (by decide)))
  have F_thisnc_epoch_t21 := F_thisnc_epoch_t19.other W21 (Or.inr (slot_ne (Or.inl (kw24 hw)) (Or.inl (kw31 hw)) (by decide) (t := .int) (t' := .int) (by decide) (by decide)))
  have V_values_nc_t21 := V_values_nc_t19.other W21 ne_values_nc_thisnc
  have F_thisnc_cellCount_t21 : Fld Z h21 thisnc "com/example/tauten/tauten/Trail" "cellCount" "I" (.int (1 : Int32)) := F_thisnc_cellCount_t19.same W21
  show Wq _ _ _ _ _ (T21.setTop (mkF m 67 #[.val (.ref thisnc), .val (.int xnc_1)] [(.int (0 : Int32))]))
  exact Wq.ret X21 (BodyLoose.notSynchronized Bd) (rv := some (.int (0 : Int32))) (fun h => by rw [Bd.returns] at h; cases h) (fun _ hr => retOut X21 hx Bd.returns rfl (Or.inl ⟨rfl, Or.inl rfl, _, rfl⟩) (hb hby d_prog_71_method_2_67) hr) (by decide) (by decide) (by rw [e21]; exact ⟨rfl, N21, K21, E_thisnc_t21, F_thisnc_values_t21, F_thisnc_savedAt_t21, F_thisnc_longValues_t21, F_thisnc_longSavedAt_t21, F_thisnc_savedCells_t21, F_thisnc_savedValues_t21, F_thisnc_longCellCount_t21, F_thisnc_savedCount_t21, F_thisnc_epoch_t21, V_values_nc_t21, F_thisnc_cellCount_t21⟩)
theorem kw37 {Z : State} {a0 : Array Value} (hw : ∀ d ∈ tables_1, d.before a0 Z = true) : (Jvm.Cond.fieldLink "com/example/tauten/tauten/Trail" (46 : Nat) "com/example/tauten/tauten/Trail" "longCellCount" "I").before a0 Z = true := hw _ (List.mem_of_getElem? (i := 37) rfl)
theorem d_prog_71_method_5_0 : decode prog_71_method_5_code 0 = .ok (.aload_n 0, 1) := by decide +kernel
theorem d_prog_71_method_5_1 : decode prog_71_method_5_code 1 = .ok (.getfield 46, 3) := by decide +kernel
theorem d_prog_71_method_5_4 : decode prog_71_method_5_code 4 = .ok (.aload_n 0, 1) := by decide +kernel
theorem d_prog_71_method_5_5 : decode prog_71_method_5_code 5 = .ok (.getfield 16, 3) := by decide +kernel
theorem d_prog_71_method_5_8 : decode prog_71_method_5_code 8 = .ok (.arraylength, 1) := by decide +kernel
theorem d_prog_71_method_5_9 : decode prog_71_method_5_code 9 = .ok (.if_icmp .ne 37, 3) := by decide +kernel
theorem d_prog_71_method_5_46 : decode prog_71_method_5_code 46 = .ok (.aload_n 0, 1) := by decide +kernel
theorem d_prog_71_method_5_47 : decode prog_71_method_5_code 47 = .ok (.getfield 16, 3) := by decide +kernel
theorem d_prog_71_method_5_50 : decode prog_71_method_5_code 50 = .ok (.aload_n 0, 1) := by decide +kernel
theorem d_prog_71_method_5_51 : decode prog_71_method_5_code 51 = .ok (.getfield 46, 3) := by decide +kernel
theorem d_prog_71_method_5_54 : decode prog_71_method_5_code 54 = .ok (.lload_n 1, 1) := by decide +kernel
theorem d_prog_71_method_5_55 : decode prog_71_method_5_code 55 = .ok (.lastore, 1) := by decide +kernel
theorem d_prog_71_method_5_56 : decode prog_71_method_5_code 56 = .ok (.aload_n 0, 1) := by decide +kernel
theorem d_prog_71_method_5_57 : decode prog_71_method_5_code 57 = .ok (.dup, 1) := by decide +kernel
theorem d_prog_71_method_5_58 : decode prog_71_method_5_code 58 = .ok (.getfield 46, 3) := by decide +kernel
theorem d_prog_71_method_5_61 : decode prog_71_method_5_code 61 = .ok (.dup_x1, 1) := by decide +kernel
theorem d_prog_71_method_5_62 : decode prog_71_method_5_code 62 = .ok (.iconst 1, 1) := by decide +kernel
theorem d_prog_71_method_5_63 : decode prog_71_method_5_code 63 = .ok (.iadd, 1) := by decide +kernel
theorem d_prog_71_method_5_64 : decode prog_71_method_5_code 64 = .ok (.putfield 46, 3) := by decide +kernel
theorem ef_nl (m : MethodId) (thisnl : Addr) (ynl_1 : Int64) : entryFrame m #[(.ref thisnl), (.long ynl_1)] 3 = mkF m 0 #[.val (.ref thisnl), .val (.long ynl_1), .second] [] := by first | (simp [entryFrame, mkF, argsToLocals, Value.category]; done) | rfl
def Q_nl (Z : State) (thisnl : Addr) (ynl_1 : Int64) (values_nl : Addr) (savedAt_nl : Addr) (longValues_nl : Addr) (longSavedAt_nl : Addr) (savedCells_nl : Addr) (savedValues_nl : Addr) (cellCount_nl : Int32) (savedCount_nl : Int32) (epoch_nl : Int32) (le0_nl : Int64) (rlongValues_nl : List Value) (h0 : Heap) (n0 : Nat) (v : Option Value) (h : Heap) (L : List Loc) : Prop := v = some (.int (0 : Int32)) ∧ Fr n0 L ∧ Keep h0 h [longValues_nl, thisnl] ∧ Exa Z h thisnl "com/example/tauten/tauten/Trail" ∧ Fld Z h thisnl "com/example/tauten/tauten/Trail" "values" "[I" (.ref values_nl) ∧ Fld Z h thisnl "com/example/tauten/tauten/Trail" "savedAt" "[I" (.ref savedAt_nl) ∧ Fld Z h thisnl "com/example/tauten/tauten/Trail" "longValues" "[J" (.ref longValues_nl) ∧ Fld Z h thisnl "com/example/tauten/tauten/Trail" "longSavedAt" "[I" (.ref longSavedAt_nl) ∧ Fld Z h thisnl "com/example/tauten/tauten/Trail" "savedCells" "[I" (.ref savedCells_nl) ∧ Fld Z h thisnl "com/example/tauten/tauten/Trail" "savedValues" "[J" (.ref savedValues_nl) ∧ Fld Z h thisnl "com/example/tauten/tauten/Trail" "cellCount" "I" (.int cellCount_nl) ∧ Fld Z h thisnl "com/example/tauten/tauten/Trail" "savedCount" "I" (.int savedCount_nl) ∧ Fld Z h thisnl "com/example/tauten/tauten/Trail" "epoch" "I" (.int epoch_nl) ∧ Al Z h longValues_nl .long ((.long ynl_1) :: rlongValues_nl) ∧ Fld Z h thisnl "com/example/tauten/tauten/Trail" "longCellCount" "I" (.int (1 : Int32))
theorem d_prog_71_method_5_67 : decode prog_71_method_5_code 67 = .ok (.ireturn, 1) := by decide +kernel
abbrev mt3 : MethodName := ⟨"com/example/tauten/tauten/Trail", "newLongCell", "(J)I"⟩
set_option maxRecDepth 65536 in
set_option maxHeartbeats 40000000 in
theorem rm_nl (l : Launch) (Z : State) (a0 : Array Value) (hw : ∀ d ∈ tables_1, d.before a0 Z = true) (ws : List Jvm.Cond) (thisnl : Addr) (ynl_1 : Int64) (values_nl : Addr) (savedAt_nl : Addr) (longValues_nl : Addr) (longSavedAt_nl : Addr) (savedCells_nl : Addr) (savedValues_nl : Addr) (cellCount_nl : Int32) (savedCount_nl : Int32) (epoch_nl : Int32) (le0_nl : Int64) (rlongValues_nl : List Value) (h0 : Heap) (n0 : Nat) (Z0 : n0 ≤ h0.size) (hlen : rlongValues_nl.length = 63) (E_thisnl : Exa Z h0 thisnl "com/example/tauten/tauten/Trail") (F_thisnl_values : Fld Z h0 thisnl "com/example/tauten/tauten/Trail" "values" "[I" (.ref values_nl)) (F_thisnl_savedAt : Fld Z h0 thisnl "com/example/tauten/tauten/Trail" "savedAt" "[I" (.ref savedAt_nl)) (F_thisnl_longValues : Fld Z h0 thisnl "com/example/tauten/tauten/Trail" "longValues" "[J" (.ref longValues_nl)) (F_thisnl_longSavedAt : Fld Z h0 thisnl "com/example/tauten/tauten/Trail" "longSavedAt" "[I" (.ref longSavedAt_nl)) (F_thisnl_savedCells : Fld Z h0 thisnl "com/example/tauten/tauten/Trail" "savedCells" "[I" (.ref savedCells_nl)) (F_thisnl_savedValues : Fld Z h0 thisnl "com/example/tauten/tauten/Trail" "savedValues" "[J" (.ref savedValues_nl)) (F_thisnl_cellCount : Fld Z h0 thisnl "com/example/tauten/tauten/Trail" "cellCount" "I" (.int cellCount_nl)) (F_thisnl_longCellCount : Fld Z h0 thisnl "com/example/tauten/tauten/Trail" "longCellCount" "I" (.int (0 : Int32))) (F_thisnl_savedCount : Fld Z h0 thisnl "com/example/tauten/tauten/Trail" "savedCount" "I" (.int savedCount_nl)) (F_thisnl_epoch : Fld Z h0 thisnl "com/example/tauten/tauten/Trail" "epoch" "I" (.int epoch_nl)) (g_thisnl : n0 ≤ thisnl) (V_longValues_nl : Al Z h0 longValues_nl .long ((.long le0_nl) :: rlongValues_nl)) (g_longValues_nl : n0 ≤ longValues_nl) (ne_longValues_nl_thisnl : longValues_nl ≠ thisnl) :
    MetFree l mt3 (head1 (Jvm.Cond.code mt3 prog_71_method_5_code 3 (some .int) :: ws) ({ frames := 0, cells := 0, slots := 0, locals := 0 } : Room)) (fun a U => a = #[(.ref thisnl), (.long ynl_1)] ∧ Z.Warmed39 U.vm ∧ U.heap = h0) (fun _ _ _ _ _ => True) (fun _ U o U' => ∃ v L, o = .returned v ∧ (Q_nl Z thisnl ynl_1 values_nl savedAt_nl longValues_nl longSavedAt_nl savedCells_nl savedValues_nl cellCount_nl savedCount_nl epoch_nl le0_nl rlongValues_nl h0 n0) v U'.heap L ∧ FrameEnd U o U' L ({ frames := 0, cells := 0, slots := 0, locals := 0 } : Room).cells ({ frames := 0, cells := 0, slots := 0, locals := 0 } : Room).slots) := by
  refine MetFree.of_bodySF (plainFor_of_name pn1) hisR ?_
  intro p e s m args below meth c s₁ Bd hml0 hP hK
  obtain ⟨rfl, hZ, hh⟩ := hP
  have hx := Bd.exec
  have hby := Bd.bytes
  have hml : c.maxLocals = 3 := hml0
  have hown : s.vm.findClass "com/example/tauten/tauten/Trail" = some m.cls := findClass_of_methodNamed Bd.named
  have hnm := (name_of_methodNamed Bd.named Bd.method).1
  have X0 : Stand p l e ({ frames := 0, cells := 0, slots := 0, locals := 0 } : Room) s m #[(.ref thisnl), (.long ynl_1)] below meth c s₁ [] 0 0 := Stand.of_body Bd
  have e0 : s₁.heap = h0 := by rw [← hh, Bd.state]; rfl
  have N0 := Fr.nil n0
  refine Wq.step (p := p) (e := e) (below := below) (En := (fun o t L => FrameEnd s o t L ({ frames := 0, cells := 0, slots := 0, locals := 0 } : Room).cells ({ frames := 0, cells := 0, slots := 0, locals := 0 } : Room).slots)) (Q := (Q_nl Z thisnl ynl_1 values_nl savedAt_nl longValues_nl longSavedAt_nl savedCells_nl savedValues_nl cellCount_nl savedCount_nl epoch_nl le0_nl rlongValues_nl h0 n0)) (fun t k => castTop (ef_nl m thisnl ynl_1) k) ?_
  show Wq _ _ _ _ _ (s₁.setTop (mkF m 0 #[.val (.ref thisnl), .val (.long ynl_1), .second] []))
  refine Ow.aloadN X0 hx (pc' := 1) (hb hby d_prog_71_method_5_0) rfl rfl ?_
  obtain ⟨T22, X22, e22, st22⟩ := getF X0 hx hZ hown (host := "") (Or.inl (kw37 hw)) Via.refl e0 F_thisnl_longCellCount (g := (mkF m 1 #[.val (.ref thisnl), .val (.long ynl_1), .second] [(.ref thisnl)])) rfl rfl (hb hby d_prog_71_method_5_1)
  refine Wq.step st22 ?_
  show Wq _ _ _ _ _ (T22.setTop (mkF m 4 #[.val (.ref thisnl), .val (.long ynl_1), .second] [(.int (0 : Int32))]))
  refine Ow.aloadN X22 hx (pc' := 5) (hb hby d_prog_71_method_5_4) rfl rfl ?_
  obtain ⟨T23, X23, e23, st23⟩ := getF X22 hx hZ hown (host := "") (Or.inl (kw15 hw)) Via.refl e22 F_thisnl_longValues (g := (mkF m 5 #[.val (.ref thisnl), .val (.long ynl_1), .second] [(.ref thisnl), (.int (0 : Int32))])) rfl rfl (hb hby d_prog_71_method_5_5)
  refine Wq.step st23 ?_
  show Wq _ _ _ _ _ (T23.setTop (mkF m 8 #[.val (.ref thisnl), .val (.long ynl_1), .second] [(.ref longValues_nl), (.int (0 : Int32))]))
  refine Ow.lenA X23 hx hZ e23 V_longValues_nl (pc' := 9) (hb hby d_prog_71_method_5_8) (n := (64 : Int32)) (by simp only [List.length_cons, hlen]; rfl) ?_
  refine Ow.icmpYes X23 hx (pc' := 46) (hb hby d_prog_71_method_5_9) (feq (by decide : ¬ ((0 : Int32) = (64 : Int32)))).2 (by decide) (by decide) ?_
  refine Ow.aloadN X23 hx (pc' := 47) (hb hby d_prog_71_method_5_46) rfl rfl ?_
  obtain ⟨T24, X24, e24, st24⟩ := getF X23 hx hZ hown (host := "") (Or.inl (kw15 hw)) Via.refl e23 F_thisnl_longValues (g := (mkF m 47 #[.val (.ref thisnl), .val (.long ynl_1), .second] [(.ref thisnl)])) rfl rfl (hb hby d_prog_71_method_5_47)
  refine Wq.step st24 ?_
  show Wq _ _ _ _ _ (T24.setTop (mkF m 50 #[.val (.ref thisnl), .val (.long ynl_1), .second] [(.ref longValues_nl)]))
  refine Ow.aloadN X24 hx (pc' := 51) (hb hby d_prog_71_method_5_50) rfl rfl ?_
  obtain ⟨T25, X25, e25, st25⟩ := getF X24 hx hZ hown (host := "") (Or.inl (kw37 hw)) Via.refl e24 F_thisnl_longCellCount (g := (mkF m 51 #[.val (.ref thisnl), .val (.long ynl_1), .second] [(.ref thisnl), (.ref longValues_nl)])) rfl rfl (hb hby d_prog_71_method_5_51)
  refine Wq.step st25 ?_
  show Wq _ _ _ _ _ (T25.setTop (mkF m 54 #[.val (.ref thisnl), .val (.long ynl_1), .second] [(.int (0 : Int32)), (.ref longValues_nl)]))
  refine Ow.lloadN X25 hx (pc' := 55) (hb hby d_prog_71_method_5_54) rfl ?_
  obtain ⟨T26, h26, X26, e26, W26, Vr26, st26⟩ := asJ X25 hx hZ e25 V_longValues_nl (j := (0 : Int32)) (i := 0) (by decide) rfl (by simp only [List.length_cons]; omega) (g := (mkF m 55 #[.val (.ref thisnl), .val (.long ynl_1), .second] [(.long ynl_1), (.int (0 : Int32)), (.ref longValues_nl)])) rfl rfl (hb hby d_prog_71_method_5_55)
  refine Wq.step st26 ?_
  have N26 := Fr.snoc X26 N0 g_longValues_nl
  have K26 : Keep h0 h26 [longValues_nl, thisnl] := (Keep.refl h0 [longValues_nl, thisnl]).wr W26 (Or.inl (List.mem_of_getElem? (i := 0) rfl))
  have Z26 : n0 ≤ h26.size := Nat.le_trans Z0 (Keep.of_wr W26).1
  have E_thisnl_t26 := E_thisnl.wr W26
  have F_thisnl_values_t26 := F_thisnl_values.other W26 (Or.inl (Ne.symm ne_longValues_nl_thisnl))
  have F_thisnl_savedAt_t26 := F_thisnl_savedAt.other W26 (Or.inl (Ne.symm ne_longValues_nl_thisnl))
  have F_thisnl_longValues_t26 := F_thisnl_longValues.other W26 (Or.inl (Ne.symm ne_longValues_nl_thisnl))
  have F_thisnl_longSavedAt_t26 := F_thisnl_longSavedAt.other W26 (Or.inl (Ne.symm ne_longValues_nl_thisnl))
  have F_thisnl_savedCells_t26 := F_thisnl_savedCells.other W26 (Or.inl (Ne.symm ne_longValues_nl_thisnl))
  have F_thisnl_savedValues_t26 := F_thisnl_savedValues.other W26 (Or.inl (Ne.symm ne_longValues_nl_thisnl))
  have F_thisnl_cellCount_t26 := F_thisnl_cellCount.other W26 (Or.inl (Ne.symm ne_longValues_nl_thisnl))
  have F_thisnl_longCellCount_t26 := F_thisnl_longCellCount.other W26 (Or.inl (Ne.symm ne_longValues_nl_thisnl))
  have F_thisnl_savedCount_t26 := F_thisnl_savedCount.other W26 (Or.inl (Ne.symm ne_longValues_nl_thisnl))
  have F_thisnl_epoch_t26 := F_thisnl_epoch.other W26 (Or.inl (Ne.symm ne_longValues_nl_thisnl))
  have V_longValues_nl_t26 : Al Z h26 longValues_nl .long ((.long ynl_1) :: rlongValues_nl) := Vr26
  show Wq _ _ _ _ _ (T26.setTop (mkF m 56 #[.val (.ref thisnl), .val (.long ynl_1), .second] []))
  refine Ow.aloadN X26 hx (pc' := 57) (hb hby d_prog_71_method_5_56) rfl rfl ?_
  refine Ow.dup X26 hx (pc' := 58) (hb hby d_prog_71_method_5_57) rfl ?_
  obtain ⟨T27, X27, e27, st27⟩ := getF X26 hx hZ hown (host := "") (Or.inl (kw37 hw)) Via.refl e26 F_thisnl_longCellCount_t26 (g := (mkF m 58 #[.val (.ref thisnl), .val (.long ynl_1), .second] [(.ref thisnl), (.ref thisnl)])) rfl rfl (hb hby d_prog_71_method_5_58)
  refine Wq.step st27 ?_
  show Wq _ _ _ _ _ (T27.setTop (mkF m 61 #[.val (.ref thisnl), .val (.long ynl_1), .second] [(.int (0 : Int32)), (.ref thisnl)]))
  refine Ow.dupX1 X27 hx (pc' := 62) (hb hby d_prog_71_method_5_61) rfl rfl ?_
  refine Ow.iconst X27 hx (pc' := 63) (hb hby d_prog_71_method_5_62) (z := (1 : Int32)) rfl ?_
  refine Ow.iadd X27 hx (pc' := 64) (hb hby d_prog_71_method_5_63) (z := (1 : Int32)) rfl ?_
  obtain ⟨T28, h28, X28, e28, W28, st28⟩ := putF X27 hx hZ hown (host := "") (Or.inl (kw37 hw)) Via.refl e27 F_thisnl_longCellCount_t26 E_thisnl_t26 (Or.inl (kw38 hw)) (kw1 hw) (ty := .int) (by decide) (rfl) (rfl) (g := (mkF m 64 #[.val (.ref thisnl), .val (.long ynl_1), .second] [(.int (1 : Int32)), (.ref thisnl), (.int (0 : Int32))])) rfl rfl (hb hby d_prog_71_method_5_64)
  refine Wq.step st28 ?_
  have N28 := Fr.snoc X28 N26 g_thisnl
  have K28 : Keep h0 h28 [longValues_nl, thisnl] := K26.wr W28 (Or.inl (List.mem_of_getElem? (i := 1) rfl))
  have Z28 : n0 ≤ h28.size := Nat.le_trans Z26 (Keep.of_wr W28).1
  have E_thisnl_t28 := E_thisnl_t26.wr W28
  have F_thisnl_values_t28 := F_thisnl_values_t26.other W28 (Or.inr (slot_ne (Or.inl (kw11 hw)) (Or.inl (kw38 hw)) (by decide) (t := (.array .int)) (t' := .int) (by decide) (by decide)))
  have F_thisnl_savedAt_t28 := F_thisnl_savedAt_t26.other W28 (Or.inr (slot_ne (Or.inl (kw13 hw)) (Or.inl (kw38 hw)) (by decide) (t := (.array .int)) (t' := .int) (by decide) (by decide)))
  have F_thisnl_longValues_t28 := F_thisnl_longValues_t26.other W28 (Or.inr (slot_ne (Or.inl (kw16 hw)) (Or.inl (kw38 hw)) (by decide) (t := (.array .long)) (t' := .int) (by decide) (by decide)))
  have F_thisnl_longSavedAt_t28 := F_thisnl_longSavedAt_t26.other W28 (Or.inr (slot_ne (Or.inl (kw18 hw)) (Or.inl (kw38 hw)) (by decide) (t := (.array .int)) (t' := .int) (by decide) (by decide)))
  have F_thisnl_savedCells_t28 := F_thisnl_savedCells_t26.other W28 (Or.inr (slot_ne (Or.inl (kw20 hw)) (Or.inl (kw38 hw)) (by decide) (t := (.array .int)) (t' := .int) (by decide) (by decide)))
  have F_thisnl_savedValues_t28 := F_thisnl_savedValues_t26.other W28 (Or.inr (slot_ne (Or.inl (kw22 hw)) (Or.inl (kw38 hw)) (by decide) (t := (.array .long)) (t' := .int) (by decide) (by decide)))
  have F_thisnl_cellCount_t28 := F_thisnl_cellCount_t26.other W28 (Or.inr (slot_ne (Or.inl (kw31 hw)) (Or.inl (kw38 hw)) (by decide) (t := .int) (t' := .int) (by decide) (by decide)))
  have F_thisnl_savedCount_t28 := F_thisnl_savedCount_t26.other W28 (Or.inr (slot_ne (Or.inl (kw45 hw)) (Or.inl (kw38 hw)) (by decide) (t := .int) (t' := .int) (by decide) (by decide)))
  have F_thisnl_epoch_t28 := F_thisnl_epoch_t26.other W28 (Or.inr (slot_ne (Or.inl (kw24 hw)) (Or.inl (kw38 hw)) (by decide) (t := .int) (t' := .int) (by decide) (by decide)))
  have V_longValues_nl_t28 := V_longValues_nl_t26.other W28 ne_longValues_nl_thisnl
  have F_thisnl_longCellCount_t28 : Fld Z h28 thisnl "com/example/tauten/tauten/Trail" "longCellCount" "I" (.int (1 : Int32)) := F_thisnl_longCellCount_t26.same W28
  show Wq _ _ _ _ _ (T28.setTop (mkF m 67 #[.val (.ref thisnl), .val (.long ynl_1), .second] [(.int (0 : Int32))]))
  exact Wq.ret X28 (BodyLoose.notSynchronized Bd) (rv := some (.int (0 : Int32))) (fun h => by rw [Bd.returns] at h; cases h) (fun _ hr => retOut X28 hx Bd.returns rfl (Or.inl ⟨rfl, Or.inl rfl, _, rfl⟩) (hb hby d_prog_71_method_5_67) hr) (by decide) (by decide) (by rw [e28]; exact ⟨rfl, N28, K28, E_thisnl_t28, F_thisnl_values_t28, F_thisnl_savedAt_t28, F_thisnl_longValues_t28, F_thisnl_longSavedAt_t28, F_thisnl_savedCells_t28, F_thisnl_savedValues_t28, F_thisnl_cellCount_t28, F_thisnl_savedCount_t28, F_thisnl_epoch_t28, V_longValues_nl_t28, F_thisnl_longCellCount_t28⟩)
theorem kw44 {Z : State} {a0 : Array Value} (hw : ∀ d ∈ tables_1, d.before a0 Z = true) : (Jvm.Cond.fieldLink "com/example/tauten/tauten/Trail" (52 : Nat) "com/example/tauten/tauten/Trail" "savedCount" "I").before a0 Z = true := hw _ (List.mem_of_getElem? (i := 44) rfl)
theorem d_prog_71_method_8_0 : decode prog_71_method_8_code 0 = .ok (.aload_n 0, 1) := by decide +kernel
theorem d_prog_71_method_8_1 : decode prog_71_method_8_code 1 = .ok (.dup, 1) := by decide +kernel
theorem d_prog_71_method_8_2 : decode prog_71_method_8_code 2 = .ok (.getfield 29, 3) := by decide +kernel
theorem d_prog_71_method_8_5 : decode prog_71_method_8_code 5 = .ok (.iconst 1, 1) := by decide +kernel
theorem d_prog_71_method_8_6 : decode prog_71_method_8_code 6 = .ok (.iadd, 1) := by decide +kernel
theorem d_prog_71_method_8_7 : decode prog_71_method_8_code 7 = .ok (.putfield 29, 3) := by decide +kernel
theorem d_prog_71_method_8_10 : decode prog_71_method_8_code 10 = .ok (.aload_n 0, 1) := by decide +kernel
theorem d_prog_71_method_8_11 : decode prog_71_method_8_code 11 = .ok (.getfield 52, 3) := by decide +kernel
theorem ef_cp (m : MethodId) (thiscp : Addr) : entryFrame m #[(.ref thiscp)] 1 = mkF m 0 #[.val (.ref thiscp)] [] := by first | (simp [entryFrame, mkF, argsToLocals, Value.category]; done) | rfl
def Q_cp (Z : State) (thiscp : Addr) (values_cp : Addr) (savedAt_cp : Addr) (longValues_cp : Addr) (longSavedAt_cp : Addr) (savedCells_cp : Addr) (savedValues_cp : Addr) (cellCount_cp : Int32) (longCellCount_cp : Int32) (savedCount_cp : Int32) (epoch_cp : Int32) (h0 : Heap) (n0 : Nat) (v : Option Value) (h : Heap) (L : List Loc) : Prop := v = some (.int savedCount_cp) ∧ Fr n0 L ∧ Keep h0 h [thiscp] ∧ Exa Z h thiscp "com/example/tauten/tauten/Trail" ∧ Fld Z h thiscp "com/example/tauten/tauten/Trail" "values" "[I" (.ref values_cp) ∧ Fld Z h thiscp "com/example/tauten/tauten/Trail" "savedAt" "[I" (.ref savedAt_cp) ∧ Fld Z h thiscp "com/example/tauten/tauten/Trail" "longValues" "[J" (.ref longValues_cp) ∧ Fld Z h thiscp "com/example/tauten/tauten/Trail" "longSavedAt" "[I" (.ref longSavedAt_cp) ∧ Fld Z h thiscp "com/example/tauten/tauten/Trail" "savedCells" "[I" (.ref savedCells_cp) ∧ Fld Z h thiscp "com/example/tauten/tauten/Trail" "savedValues" "[J" (.ref savedValues_cp) ∧ Fld Z h thiscp "com/example/tauten/tauten/Trail" "cellCount" "I" (.int cellCount_cp) ∧ Fld Z h thiscp "com/example/tauten/tauten/Trail" "longCellCount" "I" (.int longCellCount_cp) ∧ Fld Z h thiscp "com/example/tauten/tauten/Trail" "savedCount" "I" (.int savedCount_cp) ∧ Fld Z h thiscp "com/example/tauten/tauten/Trail" "epoch" "I" (.int (epoch_cp + (1 : Int32)))
theorem d_prog_71_method_8_14 : decode prog_71_method_8_code 14 = .ok (.ireturn, 1) := by decide +kernel
abbrev mt4 : MethodName := ⟨"com/example/tauten/tauten/Trail", "checkpoint", "()I"⟩
set_option maxRecDepth 65536 in
set_option maxHeartbeats 40000000 in
theorem rm_cp (l : Launch) (Z : State) (a0 : Array Value) (hw : ∀ d ∈ tables_1, d.before a0 Z = true) (ws : List Jvm.Cond) (thiscp : Addr) (values_cp : Addr) (savedAt_cp : Addr) (longValues_cp : Addr) (longSavedAt_cp : Addr) (savedCells_cp : Addr) (savedValues_cp : Addr) (cellCount_cp : Int32) (longCellCount_cp : Int32) (savedCount_cp : Int32) (epoch_cp : Int32) (h0 : Heap) (n0 : Nat) (Z0 : n0 ≤ h0.size) (E_thiscp : Exa Z h0 thiscp "com/example/tauten/tauten/Trail") (F_thiscp_values : Fld Z h0 thiscp "com/example/tauten/tauten/Trail" "values" "[I" (.ref values_cp)) (F_thiscp_savedAt : Fld Z h0 thiscp "com/example/tauten/tauten/Trail" "savedAt" "[I" (.ref savedAt_cp)) (F_thiscp_longValues : Fld Z h0 thiscp "com/example/tauten/tauten/Trail" "longValues" "[J" (.ref longValues_cp)) (F_thiscp_longSavedAt : Fld Z h0 thiscp "com/example/tauten/tauten/Trail" "longSavedAt" "[I" (.ref longSavedAt_cp)) (F_thiscp_savedCells : Fld Z h0 thiscp "com/example/tauten/tauten/Trail" "savedCells" "[I" (.ref savedCells_cp)) (F_thiscp_savedValues : Fld Z h0 thiscp "com/example/tauten/tauten/Trail" "savedValues" "[J" (.ref savedValues_cp)) (F_thiscp_cellCount : Fld Z h0 thiscp "com/example/tauten/tauten/Trail" "cellCount" "I" (.int cellCount_cp)) (F_thiscp_longCellCount : Fld Z h0 thiscp "com/example/tauten/tauten/Trail" "longCellCount" "I" (.int longCellCount_cp)) (F_thiscp_savedCount : Fld Z h0 thiscp "com/example/tauten/tauten/Trail" "savedCount" "I" (.int savedCount_cp)) (F_thiscp_epoch : Fld Z h0 thiscp "com/example/tauten/tauten/Trail" "epoch" "I" (.int epoch_cp)) (g_thiscp : n0 ≤ thiscp) :
    MetFree l mt4 (head1 (Jvm.Cond.code mt4 prog_71_method_8_code 1 (some .int) :: ws) ({ frames := 0, cells := 0, slots := 0, locals := 0 } : Room)) (fun a U => a = #[(.ref thiscp)] ∧ Z.Warmed39 U.vm ∧ U.heap = h0) (fun _ _ _ _ _ => True) (fun _ U o U' => ∃ v L, o = .returned v ∧ (Q_cp Z thiscp values_cp savedAt_cp longValues_cp longSavedAt_cp savedCells_cp savedValues_cp cellCount_cp longCellCount_cp savedCount_cp epoch_cp h0 n0) v U'.heap L ∧ FrameEnd U o U' L ({ frames := 0, cells := 0, slots := 0, locals := 0 } : Room).cells ({ frames := 0, cells := 0, slots := 0, locals := 0 } : Room).slots) := by
  refine MetFree.of_bodySF (plainFor_of_name pn1) hisR ?_
  intro p e s m args below meth c s₁ Bd hml0 hP hK
  obtain ⟨rfl, hZ, hh⟩ := hP
  have hx := Bd.exec
  have hby := Bd.bytes
  have hml : c.maxLocals = 1 := hml0
  have hown : s.vm.findClass "com/example/tauten/tauten/Trail" = some m.cls := findClass_of_methodNamed Bd.named
  have hnm := (name_of_methodNamed Bd.named Bd.method).1
  have X0 : Stand p l e ({ frames := 0, cells := 0, slots := 0, locals := 0 } : Room) s m #[(.ref thiscp)] below meth c s₁ [] 0 0 := Stand.of_body Bd
  have e0 : s₁.heap = h0 := by rw [← hh, Bd.state]; rfl
  have N0 := Fr.nil n0
  refine Wq.step (p := p) (e := e) (below := below) (En := (fun o t L => FrameEnd s o t L ({ frames := 0, cells := 0, slots := 0, locals := 0 } : Room).cells ({ frames := 0, cells := 0, slots := 0, locals := 0 } : Room).slots)) (Q := (Q_cp Z thiscp values_cp savedAt_cp longValues_cp longSavedAt_cp savedCells_cp savedValues_cp cellCount_cp longCellCount_cp savedCount_cp epoch_cp h0 n0)) (fun t k => castTop (ef_cp m thiscp) k) ?_
  show Wq _ _ _ _ _ (s₁.setTop (mkF m 0 #[.val (.ref thiscp)] []))
  refine Ow.aloadN X0 hx (pc' := 1) (hb hby d_prog_71_method_8_0) rfl rfl ?_
  refine Ow.dup X0 hx (pc' := 2) (hb hby d_prog_71_method_8_1) rfl ?_
  obtain ⟨T29, X29, e29, st29⟩ := getF X0 hx hZ hown (host := "") (Or.inl (kw23 hw)) Via.refl e0 F_thiscp_epoch (g := (mkF m 2 #[.val (.ref thiscp)] [(.ref thiscp), (.ref thiscp)])) rfl rfl (hb hby d_prog_71_method_8_2)
  refine Wq.step st29 ?_
  show Wq _ _ _ _ _ (T29.setTop (mkF m 5 #[.val (.ref thiscp)] [(.int epoch_cp), (.ref thiscp)]))
  refine Ow.iconst X29 hx (pc' := 6) (hb hby d_prog_71_method_8_5) (z := (1 : Int32)) rfl ?_
  refine Ow.iadd X29 hx (pc' := 7) (hb hby d_prog_71_method_8_6) (z := (epoch_cp + (1 : Int32))) rfl ?_
  obtain ⟨T30, h30, X30, e30, W30, st30⟩ := putF X29 hx hZ hown (host := "") (Or.inl (kw23 hw)) Via.refl e29 F_thiscp_epoch E_thiscp (Or.inl (kw24 hw)) (kw1 hw) (ty := .int) (by decide) (rfl) (rfl) (g := (mkF m 7 #[.val (.ref thiscp)] [(.int (epoch_cp + (1 : Int32))), (.ref thiscp)])) rfl rfl (hb hby d_prog_71_method_8_7)
  refine Wq.step st30 ?_
  have N30 := Fr.snoc X30 N0 g_thiscp
  have K30 : Keep h0 h30 [thiscp] := (Keep.refl h0 [thiscp]).wr W30 (Or.inl (List.mem_of_getElem? (i := 0) rfl))
  have Z30 : n0 ≤ h30.size := Nat.le_trans Z0 (Keep.of_wr W30).1
  have E_thiscp_t30 := E_thiscp.wr W30
  have F_thiscp_values_t30 := F_thiscp_values.other W30 (Or.inr (slot_ne (Or.inl (kw11 hw)) (Or.inl (kw24 hw)) (by decide) (t := (.array .int)) (t' := .int) (by decide) (by decide)))
  have F_thiscp_savedAt_t30 := F_thiscp_savedAt.other W30 (Or.inr (slot_ne (Or.inl (kw13 hw)) (Or.inl (kw24 hw)) (by decide) (t := (.array .int)) (t' := .int) (by decide) (by decide)))
  have F_thiscp_longValues_t30 := F_thiscp_longValues.other W30 (Or.inr (slot_ne (Or.inl (kw16 hw)) (Or.inl (kw24 hw)) (by decide) (t := (.array .long)) (t' := .int) (by decide) (by decide)))
  have F_thiscp_longSavedAt_t30 := F_thiscp_longSavedAt.other W30 (Or.inr (slot_ne (Or.inl (kw18 hw)) (Or.inl (kw24 hw)) (by decide) (t := (.array .int)) (t' := .int) (by decide) (by decide)))
  have F_thiscp_savedCells_t30 := F_thiscp_savedCells.other W30 (Or.inr (slot_ne (Or.inl (kw20 hw)) (Or.inl (kw24 hw)) (by decide) (t := (.array .int)) (t' := .int) (by decide) (by decide)))
  have F_thiscp_savedValues_t30 := F_thiscp_savedValues.other W30 (Or.inr (slot_ne (Or.inl (kw22 hw)) (Or.inl (kw24 hw)) (by decide) (t := (.array .long)) (t' := .int) (by decide) (by decide)))
  have F_thiscp_cellCount_t30 := F_thiscp_cellCount.other W30 (Or.inr (slot_ne (Or.inl (kw31 hw)) (Or.inl (kw24 hw)) (by decide) (t := .int) (t' := .int) (by decide) (by decide)))
  have F_thiscp_longCellCount_t30 := F_thiscp_longCellCount.other W30 (Or.inr (slot_ne (Or.inl (kw38 hw)) (Or.inl (kw24 hw)) (by decide) (t := .int) (t' := .int) (by decide) (by decide)))
  have F_thiscp_savedCount_t30 := F_thiscp_savedCount.other W30 (Or.inr (slot_ne (Or.inl (kw45 hw)) (Or.inl (kw24 hw)) (by decide) (t := .int) (t' := .int) (by decide) (by decide)))
  have F_thiscp_epoch_t30 : Fld Z h30 thiscp "com/example/tauten/tauten/Trail" "epoch" "I" (.int (epoch_cp + (1 : Int32))) := F_thiscp_epoch.same W30
  show Wq _ _ _ _ _ (T30.setTop (mkF m 10 #[.val (.ref thiscp)] []))
  refine Ow.aloadN X30 hx (pc' := 11) (hb hby d_prog_71_method_8_10) rfl rfl ?_
  obtain ⟨T31, X31, e31, st31⟩ := getF X30 hx hZ hown (host := "") (Or.inl (kw44 hw)) Via.refl e30 F_thiscp_savedCount_t30 (g := (mkF m 11 #[.val (.ref thiscp)] [(.ref thiscp)])) rfl rfl (hb hby d_prog_71_method_8_11)
  refine Wq.step st31 ?_
  show Wq _ _ _ _ _ (T31.setTop (mkF m 14 #[.val (.ref thiscp)] [(.int savedCount_cp)]))
  exact Wq.ret X31 (BodyLoose.notSynchronized Bd) (rv := some (.int savedCount_cp)) (fun h => by rw [Bd.returns] at h; cases h) (fun _ hr => retOut X31 hx Bd.returns rfl (Or.inl ⟨rfl, Or.inl rfl, _, rfl⟩) (hb hby d_prog_71_method_8_14) hr) (by decide) (by decide) (by rw [e31]; exact ⟨rfl, N30, K30, E_thiscp_t30, F_thiscp_values_t30, F_thiscp_savedAt_t30, F_thiscp_longValues_t30, F_thiscp_longSavedAt_t30, F_thiscp_savedCells_t30, F_thiscp_savedValues_t30, F_thiscp_cellCount_t30, F_thiscp_longCellCount_t30, F_thiscp_savedCount_t30, F_thiscp_epoch_t30⟩)
theorem d_prog_71_method_3_0 : decode prog_71_method_3_code 0 = .ok (.aload_n 0, 1) := by decide +kernel
theorem d_prog_71_method_3_1 : decode prog_71_method_3_code 1 = .ok (.getfield 7, 3) := by decide +kernel
theorem d_prog_71_method_3_4 : decode prog_71_method_3_code 4 = .ok (.iload_n 1, 1) := by decide +kernel
theorem d_prog_71_method_3_5 : decode prog_71_method_3_code 5 = .ok (.iaload, 1) := by decide +kernel
theorem ef_gt (m : MethodId) (thisgt : Addr) : entryFrame m #[(.ref thisgt), (.int (0 : Int32))] 2 = mkF m 0 #[.val (.ref thisgt), .val (.int (0 : Int32))] [] := by first | (simp [entryFrame, mkF, argsToLocals, Value.category]; done) | rfl
def Q_gt (Z : State) (thisgt : Addr) (values_gt : Addr) (v0_gt : Int32) (r_gt : List Value) (h0 : Heap) (n0 : Nat) (v : Option Value) (h : Heap) (L : List Loc) : Prop := v = some (.int v0_gt) ∧ Fr n0 L ∧ h = h0
theorem d_prog_71_method_3_6 : decode prog_71_method_3_code 6 = .ok (.ireturn, 1) := by decide +kernel
abbrev mt5 : MethodName := ⟨"com/example/tauten/tauten/Trail", "get", "(I)I"⟩
set_option maxRecDepth 65536 in
set_option maxHeartbeats 40000000 in
theorem rm_gt (l : Launch) (Z : State) (a0 : Array Value) (hw : ∀ d ∈ tables_1, d.before a0 Z = true) (ws : List Jvm.Cond) (thisgt : Addr) (values_gt : Addr) (v0_gt : Int32) (r_gt : List Value) (h0 : Heap) (n0 : Nat) (Z0 : n0 ≤ h0.size) (F_thisgt_values : Fld Z h0 thisgt "com/example/tauten/tauten/Trail" "values" "[I" (.ref values_gt)) (V_values_gt : Al Z h0 values_gt .int ((.int v0_gt) :: r_gt)) :
    MetFree l mt5 (head1 (Jvm.Cond.code mt5 prog_71_method_3_code 2 (some .int) :: ws) ({ frames := 0, cells := 0, slots := 0, locals := 0 } : Room)) (fun a U => a = #[(.ref thisgt), (.int (0 : Int32))] ∧ Z.Warmed39 U.vm ∧ U.heap = h0) (fun _ _ _ _ _ => True) (fun _ U o U' => ∃ v L, o = .returned v ∧ (Q_gt Z thisgt values_gt v0_gt r_gt h0 n0) v U'.heap L ∧ FrameEnd U o U' L ({ frames := 0, cells := 0, slots := 0, locals := 0 } : Room).cells ({ frames := 0, cells := 0, slots := 0, locals := 0 } : Room).slots) := by
  refine MetFree.of_bodySF (plainFor_of_name pn1) hisR ?_
  intro p e s m args below meth c s₁ Bd hml0 hP hK
  obtain ⟨rfl, hZ, hh⟩ := hP
  have hx := Bd.exec
  have hby := Bd.bytes
  have hml : c.maxLocals = 2 := hml0
  have hown : s.vm.findClass "com/example/tauten/tauten/Trail" = some m.cls := findClass_of_methodNamed Bd.named
  have hnm := (name_of_methodNamed Bd.named Bd.method).1
  have X0 : Stand p l e ({ frames := 0, cells := 0, slots := 0, locals := 0 } : Room) s m #[(.ref thisgt), (.int (0 : Int32))] below meth c s₁ [] 0 0 := Stand.of_body Bd
  have e0 : s₁.heap = h0 := by rw [← hh, Bd.state]; rfl
  have N0 := Fr.nil n0
  refine Wq.step (p := p) (e := e) (below := below) (En := (fun o t L => FrameEnd s o t L ({ frames := 0, cells := 0, slots := 0, locals := 0 } : Room).cells ({ frames := 0, cells := 0, slots := 0, locals := 0 } : Room).slots)) (Q := (Q_gt Z thisgt values_gt v0_gt r_gt h0 n0)) (fun t k => castTop (ef_gt m thisgt) k) ?_
  show Wq _ _ _ _ _ (s₁.setTop (mkF m 0 #[.val (.ref thisgt), .val (.int (0 : Int32))] []))
  refine Ow.aloadN X0 hx (pc' := 1) (hb hby d_prog_71_method_3_0) rfl rfl ?_
  obtain ⟨T32, X32, e32, st32⟩ := getF X0 hx hZ hown (host := "") (Or.inl (kw10 hw)) Via.refl e0 F_thisgt_values (g := (mkF m 1 #[.val (.ref thisgt), .val (.int (0 : Int32))] [(.ref thisgt)])) rfl rfl (hb hby d_prog_71_method_3_1)
  refine Wq.step st32 ?_
  show Wq _ _ _ _ _ (T32.setTop (mkF m 4 #[.val (.ref thisgt), .val (.int (0 : Int32))] [(.ref values_gt)]))
  refine Ow.iloadN X32 hx (pc' := 5) (hb hby d_prog_71_method_3_4) rfl ?_
  refine Ow.ldI X32 hx hZ e32 V_values_gt (pc' := 6) (hb hby d_prog_71_method_3_5) (j := (0 : Int32)) (i := 0) (v := (.int v0_gt)) (by decide) rfl rfl ?_
  exact Wq.ret X32 (BodyLoose.notSynchronized Bd) (rv := some (.int v0_gt)) (fun h => by rw [Bd.returns] at h; cases h) (fun _ hr => retOut X32 hx Bd.returns rfl (Or.inl ⟨rfl, Or.inl rfl, _, rfl⟩) (hb hby d_prog_71_method_3_6) hr) (by decide) (by decide) ⟨rfl, N0, e32⟩
theorem d_prog_71_method_6_0 : decode prog_71_method_6_code 0 = .ok (.aload_n 0, 1) := by decide +kernel
theorem d_prog_71_method_6_1 : decode prog_71_method_6_code 1 = .ok (.getfield 16, 3) := by decide +kernel
theorem d_prog_71_method_6_4 : decode prog_71_method_6_code 4 = .ok (.iload_n 1, 1) := by decide +kernel
theorem d_prog_71_method_6_5 : decode prog_71_method_6_code 5 = .ok (.laload, 1) := by decide +kernel
theorem ef_gl (m : MethodId) (thisgl : Addr) : entryFrame m #[(.ref thisgl), (.int (0 : Int32))] 2 = mkF m 0 #[.val (.ref thisgl), .val (.int (0 : Int32))] [] := by first | (simp [entryFrame, mkF, argsToLocals, Value.category]; done) | rfl
def Q_gl (Z : State) (thisgl : Addr) (values_gl : Addr) (v0_gl : Int64) (r_gl : List Value) (h0 : Heap) (n0 : Nat) (v : Option Value) (h : Heap) (L : List Loc) : Prop := v = some (.long v0_gl) ∧ Fr n0 L ∧ h = h0
theorem d_prog_71_method_6_6 : decode prog_71_method_6_code 6 = .ok (.lreturn, 1) := by decide +kernel
abbrev mt6 : MethodName := ⟨"com/example/tauten/tauten/Trail", "getLong", "(I)J"⟩
set_option maxRecDepth 65536 in
set_option maxHeartbeats 40000000 in
theorem rm_gl (l : Launch) (Z : State) (a0 : Array Value) (hw : ∀ d ∈ tables_1, d.before a0 Z = true) (ws : List Jvm.Cond) (thisgl : Addr) (values_gl : Addr) (v0_gl : Int64) (r_gl : List Value) (h0 : Heap) (n0 : Nat) (Z0 : n0 ≤ h0.size) (F_thisgl_longValues : Fld Z h0 thisgl "com/example/tauten/tauten/Trail" "longValues" "[J" (.ref values_gl)) (V_values_gl : Al Z h0 values_gl .long ((.long v0_gl) :: r_gl)) :
    MetFree l mt6 (head1 (Jvm.Cond.code mt6 prog_71_method_6_code 2 (some .long) :: ws) ({ frames := 0, cells := 0, slots := 0, locals := 0 } : Room)) (fun a U => a = #[(.ref thisgl), (.int (0 : Int32))] ∧ Z.Warmed39 U.vm ∧ U.heap = h0) (fun _ _ _ _ _ => True) (fun _ U o U' => ∃ v L, o = .returned v ∧ (Q_gl Z thisgl values_gl v0_gl r_gl h0 n0) v U'.heap L ∧ FrameEnd U o U' L ({ frames := 0, cells := 0, slots := 0, locals := 0 } : Room).cells ({ frames := 0, cells := 0, slots := 0, locals := 0 } : Room).slots) := by
  refine MetFree.of_bodySF (plainFor_of_name pn1) hisR ?_
  intro p e s m args below meth c s₁ Bd hml0 hP hK
  obtain ⟨rfl, hZ, hh⟩ := hP
  have hx := Bd.exec
  have hby := Bd.bytes
  have hml : c.maxLocals = 2 := hml0
  have hown : s.vm.findClass "com/example/tauten/tauten/Trail" = some m.cls := findClass_of_methodNamed Bd.named
  have hnm := (name_of_methodNamed Bd.named Bd.method).1
  have X0 : Stand p l e ({ frames := 0, cells := 0, slots := 0, locals := 0 } : Room) s m #[(.ref thisgl), (.int (0 : Int32))] below meth c s₁ [] 0 0 := Stand.of_body Bd
  have e0 : s₁.heap = h0 := by rw [← hh, Bd.state]; rfl
  have N0 := Fr.nil n0
  refine Wq.step (p := p) (e := e) (below := below) (En := (fun o t L => FrameEnd s o t L ({ frames := 0, cells := 0, slots := 0, locals := 0 } : Room).cells ({ frames := 0, cells := 0, slots := 0, locals := 0 } : Room).slots)) (Q := (Q_gl Z thisgl values_gl v0_gl r_gl h0 n0)) (fun t k => castTop (ef_gl m thisgl) k) ?_
  show Wq _ _ _ _ _ (s₁.setTop (mkF m 0 #[.val (.ref thisgl), .val (.int (0 : Int32))] []))
  refine Ow.aloadN X0 hx (pc' := 1) (hb hby d_prog_71_method_6_0) rfl rfl ?_
  obtain ⟨T33, X33, e33, st33⟩ := getF X0 hx hZ hown (host := "") (Or.inl (kw15 hw)) Via.refl e0 F_thisgl_longValues (g := (mkF m 1 #[.val (.ref thisgl), .val (.int (0 : Int32))] [(.ref thisgl)])) rfl rfl (hb hby d_prog_71_method_6_1)
  refine Wq.step st33 ?_
  show Wq _ _ _ _ _ (T33.setTop (mkF m 4 #[.val (.ref thisgl), .val (.int (0 : Int32))] [(.ref values_gl)]))
  refine Ow.iloadN X33 hx (pc' := 5) (hb hby d_prog_71_method_6_4) rfl ?_
  refine Ow.ldJ X33 hx hZ e33 V_values_gl (pc' := 6) (hb hby d_prog_71_method_6_5) (j := (0 : Int32)) (i := 0) (v := (.long v0_gl)) (by decide) rfl rfl ?_
  exact Wq.ret X33 (BodyLoose.notSynchronized Bd) (rv := some (.long v0_gl)) (fun h => by rw [Bd.returns] at h; cases h) (fun _ hr => retOut X33 hx Bd.returns rfl (Or.inr (Or.inl ⟨rfl, rfl, _, rfl⟩)) (hb hby d_prog_71_method_6_6) hr) (by decide) (by decide) ⟨rfl, N0, e33⟩
theorem kw0 {Z : State} {a0 : Array Value} (hw : ∀ d ∈ tables_1, d.before a0 Z = true) : (Jvm.Cond.classLink "com/example/tauten/tauten/TrailUndoPinLaw" (7 : Nat) "com/example/tauten/tauten/Trail").before a0 Z = true := hw _ (List.mem_of_getElem? (i := 0) rfl)
theorem kw2 {Z : State} {a0 : Array Value} (hw : ∀ d ∈ tables_1, d.before a0 Z = true) : (Jvm.Cond.initialized "com/example/tauten/tauten/Trail").before a0 Z = true := hw _ (List.mem_of_getElem? (i := 2) rfl)
theorem kw5 {Z : State} {a0 : Array Value} (hw : ∀ d ∈ tables_1, d.before a0 Z = true) : (Jvm.Cond.code ({ cls := "com/example/tauten/tauten/Trail", name := "<init>", desc := "()V" } : Jvm.MethodName) prog_71_method_1_code (1 : Nat) (Option.none : Option Jvm.ClassFile.FieldType)).before a0 Z = true := hw _ (List.mem_of_getElem? (i := 5) rfl)
theorem pd1 : parseMethodDescriptor "()V" = some ⟨[], none⟩ := by decide +kernel
theorem kw3 {Z : State} {a0 : Array Value} (hw : ∀ d ∈ tables_1, d.before a0 Z = true) : (Jvm.Cond.methodLink "com/example/tauten/tauten/TrailUndoPinLaw" (9 : Nat) ({ cls := "com/example/tauten/tauten/Trail", name := "<init>", desc := "()V" } : Jvm.MethodName)).before a0 Z = true := hw _ (List.mem_of_getElem? (i := 3) rfl)
theorem kw4 {Z : State} {a0 : Array Value} (hw : ∀ d ∈ tables_1, d.before a0 Z = true) : (Jvm.Cond.instanceMethod ({ cls := "com/example/tauten/tauten/Trail", name := "<init>", desc := "()V" } : Jvm.MethodName)).before a0 Z = true := hw _ (List.mem_of_getElem? (i := 4) rfl)
theorem kw29 {Z : State} {a0 : Array Value} (hw : ∀ d ∈ tables_1, d.before a0 Z = true) : (Jvm.Cond.code ({ cls := "com/example/tauten/tauten/Trail", name := "newCell", desc := "(I)I" } : Jvm.MethodName) prog_71_method_2_code (2 : Nat) (Option.some Jvm.ClassFile.FieldType.int)).before a0 Z = true := hw _ (List.mem_of_getElem? (i := 29) rfl)
theorem pd2 : parseMethodDescriptor "(I)I" = some ⟨[.int], some .int⟩ := by decide +kernel
theorem kw25 {Z : State} {a0 : Array Value} (hw : ∀ d ∈ tables_1, d.before a0 Z = true) : (Jvm.Cond.methodLink "com/example/tauten/tauten/TrailUndoPinLaw" (10 : Nat) ({ cls := "com/example/tauten/tauten/Trail", name := "newCell", desc := "(I)I" } : Jvm.MethodName)).before a0 Z = true := hw _ (List.mem_of_getElem? (i := 25) rfl)
theorem kw26 {Z : State} {a0 : Array Value} (hw : ∀ d ∈ tables_1, d.before a0 Z = true) : (Jvm.Cond.declares ({ cls := "com/example/tauten/tauten/Trail", name := "newCell", desc := "(I)I" } : Jvm.MethodName)).before a0 Z = true := hw _ (List.mem_of_getElem? (i := 26) rfl)
theorem kw28 {Z : State} {a0 : Array Value} (hw : ∀ d ∈ tables_1, d.before a0 Z = true) : (Jvm.Cond.selects "com/example/tauten/tauten/Trail" ({ cls := "com/example/tauten/tauten/Trail", name := "newCell", desc := "(I)I" } : Jvm.MethodName) ({ cls := "com/example/tauten/tauten/Trail", name := "newCell", desc := "(I)I" } : Jvm.MethodName)).before a0 Z = true := hw _ (List.mem_of_getElem? (i := 28) rfl)
theorem kw27 {Z : State} {a0 : Array Value} (hw : ∀ d ∈ tables_1, d.before a0 Z = true) : (Jvm.Cond.instanceMethod ({ cls := "com/example/tauten/tauten/Trail", name := "newCell", desc := "(I)I" } : Jvm.MethodName)).before a0 Z = true := hw _ (List.mem_of_getElem? (i := 27) rfl)
theorem kw36 {Z : State} {a0 : Array Value} (hw : ∀ d ∈ tables_1, d.before a0 Z = true) : (Jvm.Cond.code ({ cls := "com/example/tauten/tauten/Trail", name := "newLongCell", desc := "(J)I" } : Jvm.MethodName) prog_71_method_5_code (3 : Nat) (Option.some Jvm.ClassFile.FieldType.int)).before a0 Z = true := hw _ (List.mem_of_getElem? (i := 36) rfl)
theorem pd3 : parseMethodDescriptor "(J)I" = some ⟨[.long], some .int⟩ := by decide +kernel
theorem kw32 {Z : State} {a0 : Array Value} (hw : ∀ d ∈ tables_1, d.before a0 Z = true) : (Jvm.Cond.methodLink "com/example/tauten/tauten/TrailUndoPinLaw" (14 : Nat) ({ cls := "com/example/tauten/tauten/Trail", name := "newLongCell", desc := "(J)I" } : Jvm.MethodName)).before a0 Z = true := hw _ (List.mem_of_getElem? (i := 32) rfl)
theorem kw33 {Z : State} {a0 : Array Value} (hw : ∀ d ∈ tables_1, d.before a0 Z = true) : (Jvm.Cond.declares ({ cls := "com/example/tauten/tauten/Trail", name := "newLongCell", desc := "(J)I" } : Jvm.MethodName)).before a0 Z = true := hw _ (List.mem_of_getElem? (i := 33) rfl)
theorem kw35 {Z : State} {a0 : Array Value} (hw : ∀ d ∈ tables_1, d.before a0 Z = true) : (Jvm.Cond.selects "com/example/tauten/tauten/Trail" ({ cls := "com/example/tauten/tauten/Trail", name := "newLongCell", desc := "(J)I" } : Jvm.MethodName) ({ cls := "com/example/tauten/tauten/Trail", name := "newLongCell", desc := "(J)I" } : Jvm.MethodName)).before a0 Z = true := hw _ (List.mem_of_getElem? (i := 35) rfl)
theorem kw34 {Z : State} {a0 : Array Value} (hw : ∀ d ∈ tables_1, d.before a0 Z = true) : (Jvm.Cond.instanceMethod ({ cls := "com/example/tauten/tauten/Trail", name := "newLongCell", desc := "(J)I" } : Jvm.MethodName)).before a0 Z = true := hw _ (List.mem_of_getElem? (i := 34) rfl)
theorem kw43 {Z : State} {a0 : Array Value} (hw : ∀ d ∈ tables_1, d.before a0 Z = true) : (Jvm.Cond.code ({ cls := "com/example/tauten/tauten/Trail", name := "checkpoint", desc := "()I" } : Jvm.MethodName) prog_71_method_8_code (1 : Nat) (Option.some Jvm.ClassFile.FieldType.int)).before a0 Z = true := hw _ (List.mem_of_getElem? (i := 43) rfl)
theorem pd4 : parseMethodDescriptor "()I" = some ⟨[], some .int⟩ := by decide +kernel
theorem kw39 {Z : State} {a0 : Array Value} (hw : ∀ d ∈ tables_1, d.before a0 Z = true) : (Jvm.Cond.methodLink "com/example/tauten/tauten/TrailUndoPinLaw" (18 : Nat) ({ cls := "com/example/tauten/tauten/Trail", name := "checkpoint", desc := "()I" } : Jvm.MethodName)).before a0 Z = true := hw _ (List.mem_of_getElem? (i := 39) rfl)
theorem kw40 {Z : State} {a0 : Array Value} (hw : ∀ d ∈ tables_1, d.before a0 Z = true) : (Jvm.Cond.declares ({ cls := "com/example/tauten/tauten/Trail", name := "checkpoint", desc := "()I" } : Jvm.MethodName)).before a0 Z = true := hw _ (List.mem_of_getElem? (i := 40) rfl)
theorem kw42 {Z : State} {a0 : Array Value} (hw : ∀ d ∈ tables_1, d.before a0 Z = true) : (Jvm.Cond.selects "com/example/tauten/tauten/Trail" ({ cls := "com/example/tauten/tauten/Trail", name := "checkpoint", desc := "()I" } : Jvm.MethodName) ({ cls := "com/example/tauten/tauten/Trail", name := "checkpoint", desc := "()I" } : Jvm.MethodName)).before a0 Z = true := hw _ (List.mem_of_getElem? (i := 42) rfl)
theorem kw41 {Z : State} {a0 : Array Value} (hw : ∀ d ∈ tables_1, d.before a0 Z = true) : (Jvm.Cond.instanceMethod ({ cls := "com/example/tauten/tauten/Trail", name := "checkpoint", desc := "()I" } : Jvm.MethodName)).before a0 Z = true := hw _ (List.mem_of_getElem? (i := 41) rfl)
theorem d_prog_71_method_10_0 : decode prog_71_method_10_code 0 = .ok (.aload_n 0, 1) := by decide +kernel
theorem d_prog_71_method_10_1 : decode prog_71_method_10_code 1 = .ok (.getfield 52, 3) := by decide +kernel
theorem d_prog_71_method_10_4 : decode prog_71_method_10_code 4 = .ok (.aload_n 0, 1) := by decide +kernel
theorem d_prog_71_method_10_5 : decode prog_71_method_10_code 5 = .ok (.getfield 23, 3) := by decide +kernel
theorem d_prog_71_method_10_8 : decode prog_71_method_10_code 8 = .ok (.arraylength, 1) := by decide +kernel
theorem d_prog_71_method_10_9 : decode prog_71_method_10_code 9 = .ok (.if_icmp .ne 37, 3) := by decide +kernel
theorem d_prog_71_method_10_46 : decode prog_71_method_10_code 46 = .ok (.aload_n 0, 1) := by decide +kernel
theorem d_prog_71_method_10_47 : decode prog_71_method_10_code 47 = .ok (.getfield 23, 3) := by decide +kernel
theorem d_prog_71_method_10_50 : decode prog_71_method_10_code 50 = .ok (.aload_n 0, 1) := by decide +kernel
theorem d_prog_71_method_10_51 : decode prog_71_method_10_code 51 = .ok (.getfield 52, 3) := by decide +kernel
theorem d_prog_71_method_10_54 : decode prog_71_method_10_code 54 = .ok (.iload_n 1, 1) := by decide +kernel
theorem d_prog_71_method_10_55 : decode prog_71_method_10_code 55 = .ok (.iastore, 1) := by decide +kernel
theorem d_prog_71_method_10_56 : decode prog_71_method_10_code 56 = .ok (.aload_n 0, 1) := by decide +kernel
theorem d_prog_71_method_10_57 : decode prog_71_method_10_code 57 = .ok (.getfield 26, 3) := by decide +kernel
theorem d_prog_71_method_10_60 : decode prog_71_method_10_code 60 = .ok (.aload_n 0, 1) := by decide +kernel
theorem d_prog_71_method_10_61 : decode prog_71_method_10_code 61 = .ok (.getfield 52, 3) := by decide +kernel
theorem d_prog_71_method_10_64 : decode prog_71_method_10_code 64 = .ok (.lload_n 2, 1) := by decide +kernel
theorem d_prog_71_method_10_65 : decode prog_71_method_10_code 65 = .ok (.lastore, 1) := by decide +kernel
theorem d_prog_71_method_10_66 : decode prog_71_method_10_code 66 = .ok (.aload_n 0, 1) := by decide +kernel
theorem d_prog_71_method_10_67 : decode prog_71_method_10_code 67 = .ok (.dup, 1) := by decide +kernel
theorem d_prog_71_method_10_68 : decode prog_71_method_10_code 68 = .ok (.getfield 52, 3) := by decide +kernel
theorem d_prog_71_method_10_71 : decode prog_71_method_10_code 71 = .ok (.iconst 1, 1) := by decide +kernel
theorem d_prog_71_method_10_72 : decode prog_71_method_10_code 72 = .ok (.iadd, 1) := by decide +kernel
theorem d_prog_71_method_10_73 : decode prog_71_method_10_code 73 = .ok (.putfield 52, 3) := by decide +kernel
theorem ef_sv0 (m : MethodId) (thissv0 : Addr) (xsv0_1 : Int32) (ysv0_2 : Int64) : entryFrame m #[(.ref thissv0), (.int xsv0_1), (.long ysv0_2)] 4 = mkF m 0 #[.val (.ref thissv0), .val (.int xsv0_1), .val (.long ysv0_2), .second] [] := by first | (simp [entryFrame, mkF, argsToLocals, Value.category]; done) | rfl
def Q_sv0 (Z : State) (thissv0 : Addr) (xsv0_1 : Int32) (ysv0_2 : Int64) (values_sv0 : Addr) (savedAt_sv0 : Addr) (longValues_sv0 : Addr) (longSavedAt_sv0 : Addr) (savedCells_sv0 : Addr) (savedValues_sv0 : Addr) (cellCount_sv0 : Int32) (longCellCount_sv0 : Int32) (epoch_sv0 : Int32) (sl0_sv0 : Int32) (sl1_sv0 : Int32) (sl2_sv0 : Int32) (sl3_sv0 : Int32) (rsavedCells_sv0 : List Value) (se0_sv0 : Int64) (se1_sv0 : Int64) (se2_sv0 : Int64) (se3_sv0 : Int64) (rsavedValues_sv0 : List Value) (h0 : Heap) (n0 : Nat) (v : Option Value) (h : Heap) (L : List Loc) : Prop := v = none ∧ Fr n0 L ∧ Keep h0 h [savedCells_sv0, savedValues_sv0, thissv0] ∧ Exa Z h thissv0 "com/example/tauten/tauten/Trail" ∧ Fld Z h thissv0 "com/example/tauten/tauten/Trail" "values" "[I" (.ref values_sv0) ∧ Fld Z h thissv0 "com/example/tauten/tauten/Trail" "savedAt" "[I" (.ref savedAt_sv0) ∧ Fld Z h thissv0 "com/example/tauten/tauten/Trail" "longValues" "[J" (.ref longValues_sv0) ∧ Fld Z h thissv0 "com/example/tauten/tauten/Trail" "longSavedAt" "[I" (.ref longSavedAt_sv0) ∧ Fld Z h thissv0 "com/example/tauten/tauten/Trail" "savedCells" "[I" (.ref savedCells_sv0) ∧ Fld Z h thissv0 "com/example/tauten/tauten/Trail" "savedValues" "[J" (.ref savedValues_sv0) ∧ Fld Z h thissv0 "com/example/tauten/tauten/Trail" "cellCount" "I" (.int cellCount_sv0) ∧ Fld Z h thissv0 "com/example/tauten/tauten/Trail" "longCellCount" "I" (.int longCellCount_sv0) ∧ Fld Z h thissv0 "com/example/tauten/tauten/Trail" "epoch" "I" (.int epoch_sv0) ∧ Al Z h savedCells_sv0 .int ((.int xsv0_1) :: (.int sl1_sv0) :: (.int sl2_sv0) :: (.int sl3_sv0) :: rsavedCells_sv0) ∧ Al Z h savedValues_sv0 .long ((.long ysv0_2) :: (.long se1_sv0) :: (.long se2_sv0) :: (.long se3_sv0) :: rsavedValues_sv0) ∧ Fld Z h thissv0 "com/example/tauten/tauten/Trail" "savedCount" "I" (.int (1 : Int32))
theorem d_prog_71_method_10_76 : decode prog_71_method_10_code 76 = .ok (.return_, 1) := by decide +kernel
abbrev mt7 : MethodName := ⟨"com/example/tauten/tauten/Trail", "save", "(IJ)V"⟩
set_option maxRecDepth 65536 in
set_option maxHeartbeats 40000000 in
theorem rm_sv0 (l : Launch) (Z : State) (a0 : Array Value) (hw : ∀ d ∈ tables_1, d.before a0 Z = true) (ws : List Jvm.Cond) (thissv0 : Addr) (xsv0_1 : Int32) (ysv0_2 : Int64) (values_sv0 : Addr) (savedAt_sv0 : Addr) (longValues_sv0 : Addr) (longSavedAt_sv0 : Addr) (savedCells_sv0 : Addr) (savedValues_sv0 : Addr) (cellCount_sv0 : Int32) (longCellCount_sv0 : Int32) (epoch_sv0 : Int32) (sl0_sv0 : Int32) (sl1_sv0 : Int32) (sl2_sv0 : Int32) (sl3_sv0 : Int32) (rsavedCells_sv0 : List Value) (se0_sv0 : Int64) (se1_sv0 : Int64) (se2_sv0 : Int64) (se3_sv0 : Int64) (rsavedValues_sv0 : List Value) (h0 : Heap) (n0 : Nat) (Z0 : n0 ≤ h0.size) (hlen : rsavedCells_sv0.length = 252) (E_thissv0 : Exa Z h0 thissv0 "com/example/tauten/tauten/Trail") (F_thissv0_values : Fld Z h0 thissv0 "com/example/tauten/tauten/Trail" "values" "[I" (.ref values_sv0)) (F_thissv0_savedAt : Fld Z h0 thissv0 "com/example/tauten/tauten/Trail" "savedAt" "[I" (.ref savedAt_sv0)) (F_thissv0_longValues : Fld Z h0 thissv0 "com/example/tauten/tauten/Trail" "longValues" "[J" (.ref longValues_sv0)) (F_thissv0_longSavedAt : Fld Z h0 thissv0 "com/example/tauten/tauten/Trail" "longSavedAt" "[I" (.ref longSavedAt_sv0)) (F_thissv0_savedCells : Fld Z h0 thissv0 "com/example/tauten/tauten/Trail" "savedCells" "[I" (.ref savedCells_sv0)) (F_thissv0_savedValues : Fld Z h0 thissv0 "com/example/tauten/tauten/Trail" "savedValues" "[J" (.ref savedValues_sv0)) (F_thissv0_cellCount : Fld Z h0 thissv0 "com/example/tauten/tauten/Trail" "cellCount" "I" (.int cellCount_sv0)) (F_thissv0_longCellCount : Fld Z h0 thissv0 "com/example/tauten/tauten/Trail" "longCellCount" "I" (.int longCellCount_sv0)) (F_thissv0_savedCount : Fld Z h0 thissv0 "com/example/tauten/tauten/Trail" "savedCount" "I" (.int (0 : Int32))) (F_thissv0_epoch : Fld Z h0 thissv0 "com/example/tauten/tauten/Trail" "epoch" "I" (.int epoch_sv0)) (g_thissv0 : n0 ≤ thissv0) (V_savedCells_sv0 : Al Z h0 savedCells_sv0 .int ((.int sl0_sv0) :: (.int sl1_sv0) :: (.int sl2_sv0) :: (.int sl3_sv0) :: rsavedCells_sv0)) (g_savedCells_sv0 : n0 ≤ savedCells_sv0) (ne_savedCells_sv0_thissv0 : savedCells_sv0 ≠ thissv0) (V_savedValues_sv0 : Al Z h0 savedValues_sv0 .long ((.long se0_sv0) :: (.long se1_sv0) :: (.long se2_sv0) :: (.long se3_sv0) :: rsavedValues_sv0)) (g_savedValues_sv0 : n0 ≤ savedValues_sv0) (ne_savedValues_sv0_thissv0 : savedValues_sv0 ≠ thissv0) (ne_savedCells_sv0_savedValues_sv0 : savedCells_sv0 ≠ savedValues_sv0) :
    MetFree l mt7 (head1 (Jvm.Cond.code mt7 prog_71_method_10_code 4 none :: ws) ({ frames := 0, cells := 0, slots := 0, locals := 0 } : Room)) (fun a U => a = #[(.ref thissv0), (.int xsv0_1), (.long ysv0_2)] ∧ Z.Warmed39 U.vm ∧ U.heap = h0) (fun _ _ _ _ _ => True) (fun _ U o U' => ∃ v L, o = .returned v ∧ (Q_sv0 Z thissv0 xsv0_1 ysv0_2 values_sv0 savedAt_sv0 longValues_sv0 longSavedAt_sv0 savedCells_sv0 savedValues_sv0 cellCount_sv0 longCellCount_sv0 epoch_sv0 sl0_sv0 sl1_sv0 sl2_sv0 sl3_sv0 rsavedCells_sv0 se0_sv0 se1_sv0 se2_sv0 se3_sv0 rsavedValues_sv0 h0 n0) v U'.heap L ∧ FrameEnd U o U' L ({ frames := 0, cells := 0, slots := 0, locals := 0 } : Room).cells ({ frames := 0, cells := 0, slots := 0, locals := 0 } : Room).slots) := by
  refine MetFree.of_bodySF (plainFor_of_name pn1) hisR ?_
  intro p e s m args below meth c s₁ Bd hml0 hP hK
  obtain ⟨rfl, hZ, hh⟩ := hP
  have hx := Bd.exec
  have hby := Bd.bytes
  have hml : c.maxLocals = 4 := hml0
  have hown : s.vm.findClass "com/example/tauten/tauten/Trail" = some m.cls := findClass_of_methodNamed Bd.named
  have hnm := (name_of_methodNamed Bd.named Bd.method).1
  have X0 : Stand p l e ({ frames := 0, cells := 0, slots := 0, locals := 0 } : Room) s m #[(.ref thissv0), (.int xsv0_1), (.long ysv0_2)] below meth c s₁ [] 0 0 := Stand.of_body Bd
  have e0 : s₁.heap = h0 := by rw [← hh, Bd.state]; rfl
  have N0 := Fr.nil n0
  refine Wq.step (p := p) (e := e) (below := below) (En := (fun o t L => FrameEnd s o t L ({ frames := 0, cells := 0, slots := 0, locals := 0 } : Room).cells ({ frames := 0, cells := 0, slots := 0, locals := 0 } : Room).slots)) (Q := (Q_sv0 Z thissv0 xsv0_1 ysv0_2 values_sv0 savedAt_sv0 longValues_sv0 longSavedAt_sv0 savedCells_sv0 savedValues_sv0 cellCount_sv0 longCellCount_sv0 epoch_sv0 sl0_sv0 sl1_sv0 sl2_sv0 sl3_sv0 rsavedCells_sv0 se0_sv0 se1_sv0 se2_sv0 se3_sv0 rsavedValues_sv0 h0 n0)) (fun t k => castTop (ef_sv0 m thissv0 xsv0_1 ysv0_2) k) ?_
  show Wq _ _ _ _ _ (s₁.setTop (mkF m 0 #[.val (.ref thissv0), .val (.int xsv0_1), .val (.long ysv0_2), .second] []))
  refine Ow.aloadN X0 hx (pc' := 1) (hb hby d_prog_71_method_10_0) rfl rfl ?_
  obtain ⟨T40, X40, e40, st40⟩ := getF X0 hx hZ hown (host := "") (Or.inl (kw44 hw)) Via.refl e0 F_thissv0_savedCount (g := (mkF m 1 #[.val (.ref thissv0), .val (.int xsv0_1), .val (.long ysv0_2), .second] [(.ref thissv0)])) rfl rfl (hb hby d_prog_71_method_10_1)
  refine Wq.step st40 ?_
  show Wq _ _ _ _ _ (T40.setTop (mkF m 4 #[.val (.ref thissv0), .val (.int xsv0_1), .val (.long ysv0_2), .second] [(.int (0 : Int32))]))
  refine Ow.aloadN X40 hx (pc' := 5) (hb hby d_prog_71_method_10_4) rfl rfl ?_
  obtain ⟨T41, X41, e41, st41⟩ := getF X40 hx hZ hown (host := "") (Or.inl (kw19 hw)) Via.refl e40 F_thissv0_savedCells (g := (mkF m 5 #[.val (.ref thissv0), .val (.int xsv0_1), .val (.long ysv0_2), .second] [(.ref thissv0), (.int (0 : Int32))])) rfl rfl (hb hby d_prog_71_method_10_5)
  refine Wq.step st41 ?_
  show Wq _ _ _ _ _ (T41.setTop (mkF m 8 #[.val (.ref thissv0), .val (.int xsv0_1), .val (.long ysv0_2), .second] [(.ref savedCells_sv0), (.int (0 : Int32))]))
  refine Ow.lenA X41 hx hZ e41 V_savedCells_sv0 (pc' := 9) (hb hby d_prog_71_method_10_8) (n := (256 : Int32)) (by simp only [List.length_cons, hlen]; rfl) ?_
  refine Ow.icmpYes X41 hx (pc' := 46) (hb hby d_prog_71_method_10_9) (feq (by decide : ¬ ((0 : Int32) = (256 : Int32)))).2 (by decide) (by decide) ?_
  refine Ow.aloadN X41 hx (pc' := 47) (hb hby d_prog_71_method_10_46) rfl rfl ?_
  obtain ⟨T42, X42, e42, st42⟩ := getF X41 hx hZ hown (host := "") (Or.inl (kw19 hw)) Via.refl e41 F_thissv0_savedCells (g := (mkF m 47 #[.val (.ref thissv0), .val (.int xsv0_1), .val (.long ysv0_2), .second] [(.ref thissv0)])) rfl rfl (hb hby d_prog_71_method_10_47)
  refine Wq.step st42 ?_
  show Wq _ _ _ _ _ (T42.setTop (mkF m 50 #[.val (.ref thissv0), .val (.int xsv0_1), .val (.long ysv0_2), .second] [(.ref savedCells_sv0)]))
  refine Ow.aloadN X42 hx (pc' := 51) (hb hby d_prog_71_method_10_50) rfl rfl ?_
  obtain ⟨T43, X43, e43, st43⟩ := getF X42 hx hZ hown (host := "") (Or.inl (kw44 hw)) Via.refl e42 F_thissv0_savedCount (g := (mkF m 51 #[.val (.ref thissv0), .val (.int xsv0_1), .val (.long ysv0_2), .second] [(.ref thissv0), (.ref savedCells_sv0)])) rfl rfl (hb hby d_prog_71_method_10_51)
  refine Wq.step st43 ?_
  show Wq _ _ _ _ _ (T43.setTop (mkF m 54 #[.val (.ref thissv0), .val (.int xsv0_1), .val (.long ysv0_2), .second] [(.int (0 : Int32)), (.ref savedCells_sv0)]))
  refine Ow.iloadN X43 hx (pc' := 55) (hb hby d_prog_71_method_10_54) rfl ?_
  obtain ⟨T44, h44, X44, e44, W44, Vr44, st44⟩ := asI X43 hx hZ e43 V_savedCells_sv0 (j := (0 : Int32)) (i := 0) (by decide) rfl (by simp only [List.length_cons]; omega) (g := (mkF m 55 #[.val (.ref thissv0), .val (.int xsv0_1), .val (.long ysv0_2), .second] [(.int xsv0_1), (.int (0 : Int32)), (.ref savedCells_sv0)])) rfl rfl (hb hby d_prog_71_method_10_55)
  refine Wq.step st44 ?_
  have N44 := Fr.snoc X44 N0 g_savedCells_sv0
  have K44 : Keep h0 h44 [savedCells_sv0, savedValues_sv0, thissv0] := (Keep.refl h0 [savedCells_sv0, savedValues_sv0, thissv0]).wr W44 (Or.inl (List.mem_of_getElem? (i := 0) rfl))
  have Z44 : n0 ≤ h44.size := Nat.le_trans Z0 (Keep.of_wr W44).1
  have E_thissv0_t44 := E_thissv0.wr W44
  have F_thissv0_values_t44 := F_thissv0_values.other W44 (Or.inl (Ne.symm ne_savedCells_sv0_thissv0))
  have F_thissv0_savedAt_t44 := F_thissv0_savedAt.other W44 (Or.inl (Ne.symm ne_savedCells_sv0_thissv0))
  have F_thissv0_longValues_t44 := F_thissv0_longValues.other W44 (Or.inl (Ne.symm ne_savedCells_sv0_thissv0))
  have F_thissv0_longSavedAt_t44 := F_thissv0_longSavedAt.other W44 (Or.inl (Ne.symm ne_savedCells_sv0_thissv0))
  have F_thissv0_savedCells_t44 := F_thissv0_savedCells.other W44 (Or.inl (Ne.symm ne_savedCells_sv0_thissv0))
  have F_thissv0_savedValues_t44 := F_thissv0_savedValues.other W44 (Or.inl (Ne.symm ne_savedCells_sv0_thissv0))
  have F_thissv0_cellCount_t44 := F_thissv0_cellCount.other W44 (Or.inl (Ne.symm ne_savedCells_sv0_thissv0))
  have F_thissv0_longCellCount_t44 := F_thissv0_longCellCount.other W44 (Or.inl (Ne.symm ne_savedCells_sv0_thissv0))
  have F_thissv0_savedCount_t44 := F_thissv0_savedCount.other W44 (Or.inl (Ne.symm ne_savedCells_sv0_thissv0))
  have F_thissv0_epoch_t44 := F_thissv0_epoch.other W44 (Or.inl (Ne.symm ne_savedCells_sv0_thissv0))
  have V_savedValues_sv0_t44 := V_savedValues_sv0.other W44 (Ne.symm ne_savedCells_sv0_savedValues_sv0)
  have V_savedCells_sv0_t44 : Al Z h44 savedCells_sv0 .int ((.int xsv0_1) :: (.int sl1_sv0) :: (.int sl2_sv0) :: (.int sl3_sv0) :: rsavedCells_sv0) := Vr44
  show Wq _ _ _ _ _ (T44.setTop (mkF m 56 #[.val (.ref thissv0), .val (.int xsv0_1), .val (.long ysv0_2), .second] []))
  refine Ow.aloadN X44 hx (pc' := 57) (hb hby d_prog_71_method_10_56) rfl rfl ?_
  obtain ⟨T45, X45, e45, st45⟩ := getF X44 hx hZ hown (host := "") (Or.inl (kw21 hw)) Via.refl e44 F_thissv0_savedValues_t44 (g := (mkF m 57 #[.val (.ref thissv0), .val (.int xsv0_1), .val (.long ysv0_2), .second] [(.ref thissv0)])) rfl rfl (hb hby d_prog_71_method_10_57)
  refine Wq.step st45 ?_
  show Wq _ _ _ _ _ (T45.setTop (mkF m 60 #[.val (.ref thissv0), .val (.int xsv0_1), .val (.long ysv0_2), .second] [(.ref savedValues_sv0)]))
  refine Ow.aloadN X45 hx (pc' := 61) (hb hby d_prog_71_method_10_60) rfl rfl ?_
  obtain ⟨T46, X46, e46, st46⟩ := getF X45 hx hZ hown (host := "") (Or.inl (kw44 hw)) Via.refl e45 F_thissv0_savedCount_t44 (g := (mkF m 61 #[.val (.ref thissv0), .val (.int xsv0_1), .val (.long ysv0_2), .second] [(.ref thissv0), (.ref savedValues_sv0)])) rfl rfl (hb hby d_prog_71_method_10_61)
  refine Wq.step st46 ?_
  show Wq _ _ _ _ _ (T46.setTop (mkF m 64 #[.val (.ref thissv0), .val (.int xsv0_1), .val (.long ysv0_2), .second] [(.int (0 : Int32)), (.ref savedValues_sv0)]))
  refine Ow.lloadN X46 hx (pc' := 65) (hb hby d_prog_71_method_10_64) rfl ?_
  obtain ⟨T47, h47, X47, e47, W47, Vr47, st47⟩ := asJ X46 hx hZ e46 V_savedValues_sv0_t44 (j := (0 : Int32)) (i := 0) (by decide) rfl (by simp only [List.length_cons]; omega) (g := (mkF m 65 #[.val (.ref thissv0), .val (.int xsv0_1), .val (.long ysv0_2), .second] [(.long ysv0_2), (.int (0 : Int32)), (.ref savedValues_sv0)])) rfl rfl (hb hby d_prog_71_method_10_65)
  refine Wq.step st47 ?_
  have N47 := Fr.snoc X47 N44 g_savedValues_sv0
  have K47 : Keep h0 h47 [savedCells_sv0, savedValues_sv0, thissv0] := K44.wr W47 (Or.inl (List.mem_of_getElem? (i := 1) rfl))
  have Z47 : n0 ≤ h47.size := Nat.le_trans Z44 (Keep.of_wr W47).1
  have E_thissv0_t47 := E_thissv0_t44.wr W47
  have F_thissv0_values_t47 := F_thissv0_values_t44.other W47 (Or.inl (Ne.symm ne_savedValues_sv0_thissv0))
  have F_thissv0_savedAt_t47 := F_thissv0_savedAt_t44.other W47 (Or.inl (Ne.symm ne_savedValues_sv0_thissv0))
  have F_thissv0_longValues_t47 := F_thissv0_longValues_t44.other W47 (Or.inl (Ne.symm ne_savedValues_sv0_thissv0))
  have F_thissv0_longSavedAt_t47 := F_thissv0_longSavedAt_t44.other W47 (Or.inl (Ne.symm ne_savedValues_sv0_thissv0))
  have F_thissv0_savedCells_t47 := F_thissv0_savedCells_t44.other W47 (Or.inl (Ne.symm ne_savedValues_sv0_thissv0))
  have F_thissv0_savedValues_t47 := F_thissv0_savedValues_t44.other W47 (Or.inl (Ne.symm ne_savedValues_sv0_thissv0))
  have F_thissv0_cellCount_t47 := F_thissv0_cellCount_t44.other W47 (Or.inl (Ne.symm ne_savedValues_sv0_thissv0))
  have F_thissv0_longCellCount_t47 := F_thissv0_longCellCount_t44.other W47 (Or.inl (Ne.symm ne_savedValues_sv0_thissv0))
  have F_thissv0_savedCount_t47 := F_thissv0_savedCount_t44.other W47 (Or.inl (Ne.symm ne_savedValues_sv0_thissv0))
  have F_thissv0_epoch_t47 := F_thissv0_epoch_t44.other W47 (Or.inl (Ne.symm ne_savedValues_sv0_thissv0))
  have V_savedCells_sv0_t47 := V_savedCells_sv0_t44.other W47 ne_savedCells_sv0_savedValues_sv0
  have V_savedValues_sv0_t47 : Al Z h47 savedValues_sv0 .long ((.long ysv0_2) :: (.long se1_sv0) :: (.long se2_sv0) :: (.long se3_sv0) :: rsavedValues_sv0) := Vr47
  show Wq _ _ _ _ _ (T47.setTop (mkF m 66 #[.val (.ref thissv0), .val (.int xsv0_1), .val (.long ysv0_2), .second] []))
  refine Ow.aloadN X47 hx (pc' := 67) (hb hby d_prog_71_method_10_66) rfl rfl ?_
  refine Ow.dup X47 hx (pc' := 68) (hb hby d_prog_71_method_10_67) rfl ?_
  obtain ⟨T48, X48, e48, st48⟩ := getF X47 hx hZ hown (host := "") (Or.inl (kw44 hw)) Via.refl e47 F_thissv0_savedCount_t47 (g := (mkF m 68 #[.val (.ref thissv0), .val (.int xsv0_1), .val (.long ysv0_2), .second] [(.ref thissv0), (.ref thissv0)])) rfl rfl (hb hby d_prog_71_method_10_68)
  refine Wq.step st48 ?_
  show Wq _ _ _ _ _ (T48.setTop (mkF m 71 #[.val (.ref thissv0), .val (.int xsv0_1), .val (.long ysv0_2), .second] [(.int (0 : Int32)), (.ref thissv0)]))
  refine Ow.iconst X48 hx (pc' := 72) (hb hby d_prog_71_method_10_71) (z := (1 : Int32)) rfl ?_
  refine Ow.iadd X48 hx (pc' := 73) (hb hby d_prog_71_method_10_72) (z := (1 : Int32)) rfl ?_
  obtain ⟨T49, h49, X49, e49, W49, st49⟩ := putF X48 hx hZ hown (host := "") (Or.inl (kw44 hw)) Via.refl e48 F_thissv0_savedCount_t47 E_thissv0_t47 (Or.inl (kw45 hw)) (kw1 hw) (ty := .int) (by decide) (rfl) (rfl) (g := (mkF m 73 #[.val (.ref thissv0), .val (.int xsv0_1), .val (.long ysv0_2), .second] [(.int (1 : Int32)), (.ref thissv0)])) rfl rfl (hb hby d_prog_71_method_10_73)
  refine Wq.step st49 ?_
  have N49 := Fr.snoc X49 N47 g_thissv0
  have K49 : Keep h0 h49 [savedCells_sv0, savedValues_sv0, thissv0] := K47.wr W49 (Or.inl (List.mem_of_getElem? (i := 2) rfl))
  have Z49 : n0 ≤ h49.size := Nat.le_trans Z47 (Keep.of_wr W49).1
  have E_thissv0_t49 := E_thissv0_t47.wr W49
  have F_thissv0_values_t49 := F_thissv0_values_t47.other W49 (Or.inr (slot_ne (Or.inl (kw11 hw)) (Or.inl (kw45 hw)) (by decide) (t := (.array .int)) (t' := .int) (by decide) (by decide)))
  have F_thissv0_savedAt_t49 := F_thissv0_savedAt_t47.other W49 (Or.inr (slot_ne (Or.inl (kw13 hw)) (Or.inl (kw45 hw)) (by decide) (t := (.array .int)) (t' := .int) (by decide) (by decide)))
  have F_thissv0_longValues_t49 := F_thissv0_longValues_t47.other W49 (Or.inr (slot_ne (Or.inl (kw16 hw)) (Or.inl (kw45 hw)) (by decide) (t := (.array .long)) (t' := .int) (by decide) (by decide)))
  have F_thissv0_longSavedAt_t49 := F_thissv0_longSavedAt_t47.other W49 (Or.inr (slot_ne (Or.inl (kw18 hw)) (Or.inl (kw45 hw)) (by decide) (t := (.array .int)) (t' := .int) (by decide) (by decide)))
  have F_thissv0_savedCells_t49 := F_thissv0_savedCells_t47.other W49 (Or.inr (slot_ne (Or.inl (kw20 hw)) (Or.inl (kw45 hw)) (by decide) (t := (.array .int)) (t' := .int) (by decide) (by decide)))
  have F_thissv0_savedValues_t49 := F_thissv0_savedValues_t47.other W49 (Or.inr (slot_ne (Or.inl (kw22 hw)) (Or.inl (kw45 hw)) (by decide) (t := (.array .long)) (t' := .int) (by decide) (by decide)))
  have F_thissv0_cellCount_t49 := F_thissv0_cellCount_t47.other W49 (Or.inr (slot_ne (Or.inl (kw31 hw)) (Or.inl (kw45 hw)) (by decide) (t := .int) (t' := .int) (by decide) (by decide)))
  have F_thissv0_longCellCount_t49 := F_thissv0_longCellCount_t47.other W49 (Or.inr (slot_ne (Or.inl (kw38 hw)) (Or.inl (kw45 hw)) (by decide) (t := .int) (t' := .int) (by decide) (by decide)))
  have F_thissv0_epoch_t49 := F_thissv0_epoch_t47.other W49 (Or.inr (slot_ne (Or.inl (kw24 hw)) (Or.inl (kw45 hw)) (by decide) (t := .int) (t' := .int) (by decide) (by decide)))
  have V_savedCells_sv0_t49 := V_savedCells_sv0_t47.other W49 ne_savedCells_sv0_thissv0
  have V_savedValues_sv0_t49 := V_savedValues_sv0_t47.other W49 ne_savedValues_sv0_thissv0
  have F_thissv0_savedCount_t49 : Fld Z h49 thissv0 "com/example/tauten/tauten/Trail" "savedCount" "I" (.int (1 : Int32)) := F_thissv0_savedCount_t47.same W49
  show Wq _ _ _ _ _ (T49.setTop (mkF m 76 #[.val (.ref thissv0), .val (.int xsv0_1), .val (.long ysv0_2), .second] []))
  exact Wq.ret X49 (BodyLoose.notSynchronized Bd) (rv := none) (fun _ => rfl) (fun _ hr => X49.returnOut hx Bd.returns (hb hby d_prog_71_method_10_76) hr) (by decide) (by decide) (by rw [e49]; exact ⟨rfl, N49, K49, E_thissv0_t49, F_thissv0_values_t49, F_thissv0_savedAt_t49, F_thissv0_longValues_t49, F_thissv0_longSavedAt_t49, F_thissv0_savedCells_t49, F_thissv0_savedValues_t49, F_thissv0_cellCount_t49, F_thissv0_longCellCount_t49, F_thissv0_epoch_t49, V_savedCells_sv0_t49, V_savedValues_sv0_t49, F_thissv0_savedCount_t49⟩)
theorem kw54 {Z : State} {a0 : Array Value} (hw : ∀ d ∈ tables_1, d.before a0 Z = true) : (Jvm.Cond.code ({ cls := "com/example/tauten/tauten/Trail", name := "save", desc := "(IJ)V" } : Jvm.MethodName) prog_71_method_10_code (4 : Nat) (Option.none : Option Jvm.ClassFile.FieldType)).before a0 Z = true := hw _ (List.mem_of_getElem? (i := 54) rfl)
theorem pd5 : parseMethodDescriptor "(IJ)V" = some ⟨[.int, .long], none⟩ := by decide +kernel
theorem kw53 {Z : State} {a0 : Array Value} (hw : ∀ d ∈ tables_1, d.before a0 Z = true) : (Jvm.Cond.privateMethod ({ cls := "com/example/tauten/tauten/Trail", name := "save", desc := "(IJ)V" } : Jvm.MethodName)).before a0 Z = true := hw _ (List.mem_of_getElem? (i := 53) rfl)
theorem kw52 {Z : State} {a0 : Array Value} (hw : ∀ d ∈ tables_1, d.before a0 Z = true) : (Jvm.Cond.instanceMethod ({ cls := "com/example/tauten/tauten/Trail", name := "save", desc := "(IJ)V" } : Jvm.MethodName)).before a0 Z = true := hw _ (List.mem_of_getElem? (i := 52) rfl)
theorem kw51 {Z : State} {a0 : Array Value} (hw : ∀ d ∈ tables_1, d.before a0 Z = true) : (Jvm.Cond.methodLink "com/example/tauten/tauten/Trail" (42 : Nat) ({ cls := "com/example/tauten/tauten/Trail", name := "save", desc := "(IJ)V" } : Jvm.MethodName)).before a0 Z = true := hw _ (List.mem_of_getElem? (i := 51) rfl)
theorem d_prog_71_method_4_0 : decode prog_71_method_4_code 0 = .ok (.aload_n 0, 1) := by decide +kernel
theorem d_prog_71_method_4_1 : decode prog_71_method_4_code 1 = .ok (.getfield 13, 3) := by decide +kernel
theorem d_prog_71_method_4_4 : decode prog_71_method_4_code 4 = .ok (.iload_n 1, 1) := by decide +kernel
theorem d_prog_71_method_4_5 : decode prog_71_method_4_code 5 = .ok (.iaload, 1) := by decide +kernel
theorem d_prog_71_method_4_6 : decode prog_71_method_4_code 6 = .ok (.aload_n 0, 1) := by decide +kernel
theorem d_prog_71_method_4_7 : decode prog_71_method_4_code 7 = .ok (.getfield 29, 3) := by decide +kernel
theorem d_prog_71_method_4_10 : decode prog_71_method_4_code 10 = .ok (.if_icmp .eq 25, 3) := by decide +kernel
theorem d_prog_71_method_4_13 : decode prog_71_method_4_code 13 = .ok (.aload_n 0, 1) := by decide +kernel
theorem d_prog_71_method_4_14 : decode prog_71_method_4_code 14 = .ok (.iload_n 1, 1) := by decide +kernel
theorem d_prog_71_method_4_15 : decode prog_71_method_4_code 15 = .ok (.aload_n 0, 1) := by decide +kernel
theorem d_prog_71_method_4_16 : decode prog_71_method_4_code 16 = .ok (.getfield 7, 3) := by decide +kernel
theorem d_prog_71_method_4_19 : decode prog_71_method_4_code 19 = .ok (.iload_n 1, 1) := by decide +kernel
theorem d_prog_71_method_4_20 : decode prog_71_method_4_code 20 = .ok (.iaload, 1) := by decide +kernel
theorem d_prog_71_method_4_21 : decode prog_71_method_4_code 21 = .ok (.i2l, 1) := by decide +kernel
theorem d_prog_71_method_4_22 : decode prog_71_method_4_code 22 = .ok (.invokevirtual 42, 3) := by decide +kernel
theorem d_prog_71_method_4_25 : decode prog_71_method_4_code 25 = .ok (.aload_n 0, 1) := by decide +kernel
theorem d_prog_71_method_4_26 : decode prog_71_method_4_code 26 = .ok (.getfield 13, 3) := by decide +kernel
theorem d_prog_71_method_4_29 : decode prog_71_method_4_code 29 = .ok (.iload_n 1, 1) := by decide +kernel
theorem d_prog_71_method_4_30 : decode prog_71_method_4_code 30 = .ok (.aload_n 0, 1) := by decide +kernel
theorem d_prog_71_method_4_31 : decode prog_71_method_4_code 31 = .ok (.getfield 29, 3) := by decide +kernel
theorem d_prog_71_method_4_34 : decode prog_71_method_4_code 34 = .ok (.iastore, 1) := by decide +kernel
theorem d_prog_71_method_4_35 : decode prog_71_method_4_code 35 = .ok (.aload_n 0, 1) := by decide +kernel
theorem d_prog_71_method_4_36 : decode prog_71_method_4_code 36 = .ok (.getfield 7, 3) := by decide +kernel
theorem d_prog_71_method_4_39 : decode prog_71_method_4_code 39 = .ok (.iload_n 1, 1) := by decide +kernel
theorem d_prog_71_method_4_40 : decode prog_71_method_4_code 40 = .ok (.iload_n 2, 1) := by decide +kernel
theorem d_prog_71_method_4_41 : decode prog_71_method_4_code 41 = .ok (.iastore, 1) := by decide +kernel
theorem ef_st0 (m : MethodId) (thisst0 : Addr) (xst0_2 : Int32) : entryFrame m #[(.ref thisst0), (.int (0 : Int32)), (.int xst0_2)] 3 = mkF m 0 #[.val (.ref thisst0), .val (.int (0 : Int32)), .val (.int xst0_2)] [] := by first | (simp [entryFrame, mkF, argsToLocals, Value.category]; done) | rfl
def Q_st0 (Z : State) (thisst0 : Addr) (xst0_2 : Int32) (values_st0 : Addr) (savedAt_st0 : Addr) (longValues_st0 : Addr) (longSavedAt_st0 : Addr) (savedCells_st0 : Addr) (savedValues_st0 : Addr) (cellCount_st0 : Int32) (longCellCount_st0 : Int32) (epoch_st0 : Int32) (ve0_st0 : Int32) (rvalues_st0 : List Value) (sA0_st0 : Int32) (rsavedAt_st0 : List Value) (sl0_st0 : Int32) (sl1_st0 : Int32) (sl2_st0 : Int32) (sl3_st0 : Int32) (rsavedCells_st0 : List Value) (se0_st0 : Int64) (se1_st0 : Int64) (se2_st0 : Int64) (se3_st0 : Int64) (rsavedValues_st0 : List Value) (h0 : Heap) (n0 : Nat) (v : Option Value) (h : Heap) (L : List Loc) : Prop := v = none ∧ Fr n0 L ∧ Keep h0 h [thisst0, savedValues_st0, savedCells_st0, savedAt_st0, values_st0] ∧ Exa Z h thisst0 "com/example/tauten/tauten/Trail" ∧ Fld Z h thisst0 "com/example/tauten/tauten/Trail" "values" "[I" (.ref values_st0) ∧ Fld Z h thisst0 "com/example/tauten/tauten/Trail" "savedAt" "[I" (.ref savedAt_st0) ∧ Fld Z h thisst0 "com/example/tauten/tauten/Trail" "longValues" "[J" (.ref longValues_st0) ∧ Fld Z h thisst0 "com/example/tauten/tauten/Trail" "longSavedAt" "[I" (.ref longSavedAt_st0) ∧ Fld Z h thisst0 "com/example/tauten/tauten/Trail" "savedCells" "[I" (.ref savedCells_st0) ∧ Fld Z h thisst0 "com/example/tauten/tauten/Trail" "savedValues" "[J" (.ref savedValues_st0) ∧ Fld Z h thisst0 "com/example/tauten/tauten/Trail" "cellCount" "I" (.int cellCount_st0) ∧ Fld Z h thisst0 "com/example/tauten/tauten/Trail" "longCellCount" "I" (.int longCellCount_st0) ∧ Fld Z h thisst0 "com/example/tauten/tauten/Trail" "epoch" "I" (.int epoch_st0) ∧ Al Z h savedCells_st0 .int ((.int (0 : Int32)) :: (.int sl1_st0) :: (.int sl2_st0) :: (.int sl3_st0) :: rsavedCells_st0) ∧ Al Z h savedValues_st0 .long ((.long (ve0_st0.toInt64)) :: (.long se1_st0) :: (.long se2_st0) :: (.long se3_st0) :: rsavedValues_st0) ∧ Fld Z h thisst0 "com/example/tauten/tauten/Trail" "savedCount" "I" (.int (1 : Int32)) ∧ Al Z h savedAt_st0 .int ((.int epoch_st0) :: rsavedAt_st0) ∧ Al Z h values_st0 .int ((.int xst0_2) :: rvalues_st0)
theorem d_prog_71_method_4_42 : decode prog_71_method_4_code 42 = .ok (.return_, 1) := by decide +kernel
abbrev mt8 : MethodName := ⟨"com/example/tauten/tauten/Trail", "set", "(II)V"⟩
set_option maxRecDepth 65536 in
set_option maxHeartbeats 40000000 in
theorem rm_st0 (l : Launch) (Z : State) (a0 : Array Value) (hw : ∀ d ∈ tables_1, d.before a0 Z = true) (ws : List Jvm.Cond) (thisst0 : Addr) (xst0_2 : Int32) (values_st0 : Addr) (savedAt_st0 : Addr) (longValues_st0 : Addr) (longSavedAt_st0 : Addr) (savedCells_st0 : Addr) (savedValues_st0 : Addr) (cellCount_st0 : Int32) (longCellCount_st0 : Int32) (epoch_st0 : Int32) (ve0_st0 : Int32) (rvalues_st0 : List Value) (sA0_st0 : Int32) (rsavedAt_st0 : List Value) (sl0_st0 : Int32) (sl1_st0 : Int32) (sl2_st0 : Int32) (sl3_st0 : Int32) (rsavedCells_st0 : List Value) (se0_st0 : Int64) (se1_st0 : Int64) (se2_st0 : Int64) (se3_st0 : Int64) (rsavedValues_st0 : List Value) (h0 : Heap) (n0 : Nat) (Z0 : n0 ≤ h0.size) (hlen : rsavedCells_st0.length = 252) (E_thisst0 : Exa Z h0 thisst0 "com/example/tauten/tauten/Trail") (F_thisst0_values : Fld Z h0 thisst0 "com/example/tauten/tauten/Trail" "values" "[I" (.ref values_st0)) (F_thisst0_savedAt : Fld Z h0 thisst0 "com/example/tauten/tauten/Trail" "savedAt" "[I" (.ref savedAt_st0)) (F_thisst0_longValues : Fld Z h0 thisst0 "com/example/tauten/tauten/Trail" "longValues" "[J" (.ref longValues_st0)) (F_thisst0_longSavedAt : Fld Z h0 thisst0 "com/example/tauten/tauten/Trail" "longSavedAt" "[I" (.ref longSavedAt_st0)) (F_thisst0_savedCells : Fld Z h0 thisst0 "com/example/tauten/tauten/Trail" "savedCells" "[I" (.ref savedCells_st0)) (F_thisst0_savedValues : Fld Z h0 thisst0 "com/example/tauten/tauten/Trail" "savedValues" "[J" (.ref savedValues_st0)) (F_thisst0_cellCount : Fld Z h0 thisst0 "com/example/tauten/tauten/Trail" "cellCount" "I" (.int cellCount_st0)) (F_thisst0_longCellCount : Fld Z h0 thisst0 "com/example/tauten/tauten/Trail" "longCellCount" "I" (.int longCellCount_st0)) (F_thisst0_savedCount : Fld Z h0 thisst0 "com/example/tauten/tauten/Trail" "savedCount" "I" (.int (0 : Int32))) (F_thisst0_epoch : Fld Z h0 thisst0 "com/example/tauten/tauten/Trail" "epoch" "I" (.int epoch_st0)) (g_thisst0 : n0 ≤ thisst0) (V_values_st0 : Al Z h0 values_st0 .int ((.int ve0_st0) :: rvalues_st0)) (g_values_st0 : n0 ≤ values_st0) (ne_values_st0_thisst0 : values_st0 ≠ thisst0) (V_savedAt_st0 : Al Z h0 savedAt_st0 .int ((.int sA0_st0) :: rsavedAt_st0)) (g_savedAt_st0 : n0 ≤ savedAt_st0) (ne_savedAt_st0_thisst0 : savedAt_st0 ≠ thisst0) (V_savedCells_st0 : Al Z h0 savedCells_st0 .int ((.int sl0_st0) :: (.int sl1_st0) :: (.int sl2_st0) :: (.int sl3_st0) :: rsavedCells_st0)) (g_savedCells_st0 : n0 ≤ savedCells_st0) (ne_savedCells_st0_thisst0 : savedCells_st0 ≠ thisst0) (V_savedValues_st0 : Al Z h0 savedValues_st0 .long ((.long se0_st0) :: (.long se1_st0) :: (.long se2_st0) :: (.long se3_st0) :: rsavedValues_st0)) (g_savedValues_st0 : n0 ≤ savedValues_st0) (ne_savedValues_st0_thisst0 : savedValues_st0 ≠ thisst0) (ne_values_st0_savedAt_st0 : values_st0 ≠ savedAt_st0) (ne_values_st0_savedCells_st0 : values_st0 ≠ savedCells_st0) (ne_values_st0_savedValues_st0 : values_st0 ≠ savedValues_st0) (ne_savedAt_st0_savedCells_st0 : savedAt_st0 ≠ savedCells_st0) (ne_savedAt_st0_savedValues_st0 : savedAt_st0 ≠ savedValues_st0) (ne_savedCells_st0_savedValues_st0 : savedCells_st0 ≠ savedValues_st0) (hc10 : ¬ (sA0_st0 = epoch_st0)) :
    MetFree l mt8 (head1 (Jvm.Cond.code mt8 prog_71_method_4_code 3 none :: ws) ({ frames := 1, cells := 0, slots := 0, locals := 15 } : Room)) (fun a U => a = #[(.ref thisst0), (.int (0 : Int32)), (.int xst0_2)] ∧ Z.Warmed39 U.vm ∧ U.heap = h0) (fun _ _ _ _ _ => True) (fun _ U o U' => ∃ v L, o = .returned v ∧ (Q_st0 Z thisst0 xst0_2 values_st0 savedAt_st0 longValues_st0 longSavedAt_st0 savedCells_st0 savedValues_st0 cellCount_st0 longCellCount_st0 epoch_st0 ve0_st0 rvalues_st0 sA0_st0 rsavedAt_st0 sl0_st0 sl1_st0 sl2_st0 sl3_st0 rsavedCells_st0 se0_st0 se1_st0 se2_st0 se3_st0 rsavedValues_st0 h0 n0) v U'.heap L ∧ FrameEnd U o U' L ({ frames := 1, cells := 0, slots := 0, locals := 15 } : Room).cells ({ frames := 1, cells := 0, slots := 0, locals := 15 } : Room).slots) := by
  refine MetFree.of_bodySF (plainFor_of_name pn1) hisR ?_
  intro p e s m args below meth c s₁ Bd hml0 hP hK
  obtain ⟨rfl, hZ, hh⟩ := hP
  have hx := Bd.exec
  have hby := Bd.bytes
  have hml : c.maxLocals = 3 := hml0
  have hown : s.vm.findClass "com/example/tauten/tauten/Trail" = some m.cls := findClass_of_methodNamed Bd.named
  have hnm := (name_of_methodNamed Bd.named Bd.method).1
  have X0 : Stand p l e ({ frames := 1, cells := 0, slots := 0, locals := 15 } : Room) s m #[(.ref thisst0), (.int (0 : Int32)), (.int xst0_2)] below meth c s₁ [] 0 0 := Stand.of_body Bd
  have e0 : s₁.heap = h0 := by rw [← hh, Bd.state]; rfl
  have N0 := Fr.nil n0
  refine Wq.step (p := p) (e := e) (below := below) (En := (fun o t L => FrameEnd s o t L ({ frames := 1, cells := 0, slots := 0, locals := 15 } : Room).cells ({ frames := 1, cells := 0, slots := 0, locals := 15 } : Room).slots)) (Q := (Q_st0 Z thisst0 xst0_2 values_st0 savedAt_st0 longValues_st0 longSavedAt_st0 savedCells_st0 savedValues_st0 cellCount_st0 longCellCount_st0 epoch_st0 ve0_st0 rvalues_st0 sA0_st0 rsavedAt_st0 sl0_st0 sl1_st0 sl2_st0 sl3_st0 rsavedCells_st0 se0_st0 se1_st0 se2_st0 se3_st0 rsavedValues_st0 h0 n0)) (fun t k => castTop (ef_st0 m thisst0 xst0_2) k) ?_
  show Wq _ _ _ _ _ (s₁.setTop (mkF m 0 #[.val (.ref thisst0), .val (.int (0 : Int32)), .val (.int xst0_2)] []))
  refine Ow.aloadN X0 hx (pc' := 1) (hb hby d_prog_71_method_4_0) rfl rfl ?_
  obtain ⟨T50, X50, e50, st50⟩ := getF X0 hx hZ hown (host := "") (Or.inl (kw12 hw)) Via.refl e0 F_thisst0_savedAt (g := (mkF m 1 #[.val (.ref thisst0), .val (.int (0 : Int32)), .val (.int xst0_2)] [(.ref thisst0)])) rfl rfl (hb hby d_prog_71_method_4_1)
  refine Wq.step st50 ?_
  show Wq _ _ _ _ _ (T50.setTop (mkF m 4 #[.val (.ref thisst0), .val (.int (0 : Int32)), .val (.int xst0_2)] [(.ref savedAt_st0)]))
  refine Ow.iloadN X50 hx (pc' := 5) (hb hby d_prog_71_method_4_4) rfl ?_
  refine Ow.ldI X50 hx hZ e50 V_savedAt_st0 (pc' := 6) (hb hby d_prog_71_method_4_5) (j := (0 : Int32)) (i := 0) (v := (.int sA0_st0)) (by decide) rfl rfl ?_
  refine Ow.aloadN X50 hx (pc' := 7) (hb hby d_prog_71_method_4_6) rfl rfl ?_
  obtain ⟨T51, X51, e51, st51⟩ := getF X50 hx hZ hown (host := "") (Or.inl (kw23 hw)) Via.refl e50 F_thisst0_epoch (g := (mkF m 7 #[.val (.ref thisst0), .val (.int (0 : Int32)), .val (.int xst0_2)] [(.ref thisst0), (.int sA0_st0)])) rfl rfl (hb hby d_prog_71_method_4_7)
  refine Wq.step st51 ?_
  show Wq _ _ _ _ _ (T51.setTop (mkF m 10 #[.val (.ref thisst0), .val (.int (0 : Int32)), .val (.int xst0_2)] [(.int epoch_st0), (.int sA0_st0)]))
  refine Ow.icmpNo X51 hx (pc' := 13) (hb hby d_prog_71_method_4_10) (feq hc10).1 ?_
  refine Ow.aloadN X51 hx (pc' := 14) (hb hby d_prog_71_method_4_13) rfl rfl ?_
  refine Ow.iloadN X51 hx (pc' := 15) (hb hby d_prog_71_method_4_14) rfl ?_
  refine Ow.aloadN X51 hx (pc' := 16) (hb hby d_prog_71_method_4_15) rfl rfl ?_
  obtain ⟨T52, X52, e52, st52⟩ := getF X51 hx hZ hown (host := "") (Or.inl (kw10 hw)) Via.refl e51 F_thisst0_values (g := (mkF m 16 #[.val (.ref thisst0), .val (.int (0 : Int32)), .val (.int xst0_2)] [(.ref thisst0), (.int (0 : Int32)), (.ref thisst0)])) rfl rfl (hb hby d_prog_71_method_4_16)
  refine Wq.step st52 ?_
  show Wq _ _ _ _ _ (T52.setTop (mkF m 19 #[.val (.ref thisst0), .val (.int (0 : Int32)), .val (.int xst0_2)] [(.ref values_st0), (.int (0 : Int32)), (.ref thisst0)]))
  refine Ow.iloadN X52 hx (pc' := 20) (hb hby d_prog_71_method_4_19) rfl ?_
  refine Ow.ldI X52 hx hZ e52 V_values_st0 (pc' := 21) (hb hby d_prog_71_method_4_20) (j := (0 : Int32)) (i := 0) (v := (.int ve0_st0)) (by decide) rfl rfl ?_
  refine Ow.i2l X52 hx (pc' := 22) (hb hby d_prog_71_method_4_21) (z := (ve0_st0.toInt64)) rfl ?_
  obtain ⟨cq53, q53a, q53b⟩ := Exa.cell E_thisst0
  obtain ⟨_, _, ⟨T53, L53, k53, n53⟩, -, X53, ⟨Lc53, hQ53, l53, y53, z53⟩, st53⟩ := X52.privateBack hx (y := mt7) hown (mvT hZ (kw51 hw)) (mvT hZ (kw52 hw)) (Jvm.OwnW.selPriv (y := mt7) hZ (kw1 hw) (kw53 hw) (kw52 hw) (by decide)) (Cond.privateMethod_at (mvP hZ (kw53 hw) (args := #[]))) (mvT hZ (kw54 hw)) (by decide) (backOf (W := 0) (rm_sv0 l Z a0 hw [] thisst0 (0 : Int32) (ve0_st0.toInt64) values_st0 savedAt_st0 longValues_st0 longSavedAt_st0 savedCells_st0 savedValues_st0 cellCount_st0 longCellCount_st0 epoch_st0 sl0_st0 sl1_st0 sl2_st0 sl3_st0 rsavedCells_st0 se0_st0 se1_st0 se2_st0 se3_st0 rsavedValues_st0 h0 n0 Z0 (hlen) E_thisst0 F_thisst0_values F_thisst0_savedAt F_thisst0_longValues F_thisst0_longSavedAt F_thisst0_savedCells F_thisst0_savedValues F_thisst0_cellCount F_thisst0_longCellCount F_thisst0_savedCount F_thisst0_epoch g_thisst0 V_savedCells_st0 g_savedCells_st0 ne_savedCells_st0_thisst0 V_savedValues_st0 g_savedValues_st0 ne_savedValues_st0_thisst0 ne_savedCells_st0_savedValues_st0) hZ (kw54 hw) (kw2 hw) (by decide) (by decide)) (g := (mkF m 22 #[.val (.ref thisst0), .val (.int (0 : Int32)), .val (.int xst0_2)] [(.long (ve0_st0.toInt64)), (.int (0 : Int32)), (.ref thisst0)])) rfl (by rw [hml]; rfl) (Steps.refl _) (a := thisst0) (by rw [e52]; exact q53a) q53b (argsL := [(.int (0 : Int32)), (.long (ve0_st0.toInt64))]) (rest := []) (lenOf pd5 rfl) rfl (by show 2 * 0 + _ ≤ _; exact Nat.le_of_eq rfl) (hb hby d_prog_71_method_4_22) (fun _ _ => ⟨rfl, e52, (by decide : 0 + 0 ≤ _), (by decide : 0 + 0 ≤ _)⟩)
  dsimp only [Pt.U, Pt.locs, Pt.cells, Pt.slots] at X53 l53 y53 z53 st53 hQ53
  subst l53 y53 z53
  obtain ⟨rfl, Nq53, Kq53, P53_0, P53_1, P53_2, P53_3, P53_4, P53_5, P53_6, P53_7, P53_8, P53_9, P53_10, P53_11, P53_12⟩ := hQ53
  have N53 := Fr.app N0 Nq53
  have K53 : Keep h0 T53.heap [thisst0, savedValues_st0, savedCells_st0, savedAt_st0, values_st0] := (Keep.refl h0 [thisst0, savedValues_st0, savedCells_st0, savedAt_st0, values_st0]).trans Kq53 (allS (P := fun x => x ∈ [thisst0, savedValues_st0, savedCells_st0, savedAt_st0, values_st0] ∨ h0.size ≤ x) (Or.inl (List.mem_of_getElem? (i := 2) rfl)) (allS (P := fun x => x ∈ [thisst0, savedValues_st0, savedCells_st0, savedAt_st0, values_st0] ∨ h0.size ≤ x) (Or.inl (List.mem_of_getElem? (i := 1) rfl)) (allS (P := fun x => x ∈ [thisst0, savedValues_st0, savedCells_st0, savedAt_st0, values_st0] ∨ h0.size ≤ x) (Or.inl (List.mem_of_getElem? (i := 0) rfl)) all0)))
  have Z53 : n0 ≤ T53.heap.size := Nat.le_trans Z0 Kq53.1
  have E_thisst0_t53 := E_thisst0.keep Kq53
  have V_values_st0_t53 := V_values_st0.keep Kq53 (ninS ne_values_st0_savedCells_st0 (ninS ne_values_st0_savedValues_st0 (ninS ne_values_st0_thisst0 nin0)))
  have V_savedAt_st0_t53 := V_savedAt_st0.keep Kq53 (ninS ne_savedAt_st0_savedCells_st0 (ninS ne_savedAt_st0_savedValues_st0 (ninS ne_savedAt_st0_thisst0 nin0)))
  have e53 : T53.heap = T53.heap := rfl
  refine Wq.steps st53 ?_
  show Wq _ _ _ _ _ (T53.setTop (mkF m 25 #[.val (.ref thisst0), .val (.int (0 : Int32)), .val (.int xst0_2)] []))
  refine Ow.aloadN X53 hx (pc' := 26) (hb hby d_prog_71_method_4_25) rfl rfl ?_
  obtain ⟨T54, X54, e54, st54⟩ := getF X53 hx hZ hown (host := "") (Or.inl (kw12 hw)) Via.refl e53 P53_2 (g := (mkF m 26 #[.val (.ref thisst0), .val (.int (0 : Int32)), .val (.int xst0_2)] [(.ref thisst0)])) rfl rfl (hb hby d_prog_71_method_4_26)
  refine Wq.step st54 ?_
  show Wq _ _ _ _ _ (T54.setTop (mkF m 29 #[.val (.ref thisst0), .val (.int (0 : Int32)), .val (.int xst0_2)] [(.ref savedAt_st0)]))
  refine Ow.iloadN X54 hx (pc' := 30) (hb hby d_prog_71_method_4_29) rfl ?_
  refine Ow.aloadN X54 hx (pc' := 31) (hb hby d_prog_71_method_4_30) rfl rfl ?_
  obtain ⟨T55, X55, e55, st55⟩ := getF X54 hx hZ hown (host := "") (Or.inl (kw23 hw)) Via.refl e54 P53_9 (g := (mkF m 31 #[.val (.ref thisst0), .val (.int (0 : Int32)), .val (.int xst0_2)] [(.ref thisst0), (.int (0 : Int32)), (.ref savedAt_st0)])) rfl rfl (hb hby d_prog_71_method_4_31)
  refine Wq.step st55 ?_
  show Wq _ _ _ _ _ (T55.setTop (mkF m 34 #[.val (.ref thisst0), .val (.int (0 : Int32)), .val (.int xst0_2)] [(.int epoch_st0), (.int (0 : Int32)), (.ref savedAt_st0)]))
  obtain ⟨T56, h56, X56, e56, W56, Vr56, st56⟩ := asI X55 hx hZ e55 V_savedAt_st0_t53 (j := (0 : Int32)) (i := 0) (by decide) rfl (by simp only [List.length_cons]; omega) (g := (mkF m 34 #[.val (.ref thisst0), .val (.int (0 : Int32)), .val (.int xst0_2)] [(.int epoch_st0), (.int (0 : Int32)), (.ref savedAt_st0)])) rfl rfl (hb hby d_prog_71_method_4_34)
  refine Wq.step st56 ?_
  have N56 := Fr.snoc X56 N53 g_savedAt_st0
  have K56 : Keep h0 h56 [thisst0, savedValues_st0, savedCells_st0, savedAt_st0, values_st0] := K53.wr W56 (Or.inl (List.mem_of_getElem? (i := 3) rfl))
  have Z56 : n0 ≤ h56.size := Nat.le_trans Z53 (Keep.of_wr W56).1
  have E_thisst0_t56 := E_thisst0_t53.wr W56
  have V_values_st0_t56 := V_values_st0_t53.other W56 ne_values_st0_savedAt_st0
  have P53_1_t56 := P53_1.other W56 (Or.inl (Ne.symm ne_savedAt_st0_thisst0))
  have P53_2_t56 := P53_2.other W56 (Or.inl (Ne.symm ne_savedAt_st0_thisst0))
  have P53_3_t56 := P53_3.other W56 (Or.inl (Ne.symm ne_savedAt_st0_thisst0))
  have P53_4_t56 := P53_4.other W56 (Or.inl (Ne.symm ne_savedAt_st0_thisst0))
  have P53_5_t56 := P53_5.other W56 (Or.inl (Ne.symm ne_savedAt_st0_thisst0))
  have P53_6_t56 := P53_6.other W56 (Or.inl (Ne.symm ne_savedAt_st0_thisst0))
  have P53_7_t56 := P53_7.other W56 (Or.inl (Ne.symm ne_savedAt_st0_thisst0))
  have P53_8_t56 := P53_8.other W56 (Or.inl (Ne.symm ne_savedAt_st0_thisst0))
  have P53_9_t56 := P53_9.other W56 (Or.inl (Ne.symm ne_savedAt_st0_thisst0))
  have P53_10_t56 := P53_10.other W56 (Ne.symm ne_savedAt_st0_savedCells_st0)
  have P53_11_t56 := P53_11.other W56 (Ne.symm ne_savedAt_st0_savedValues_st0)
  have P53_12_t56 := P53_12.other W56 (Or.inl (Ne.symm ne_savedAt_st0_thisst0))
  have V_savedAt_st0_t56 : Al Z h56 savedAt_st0 .int ((.int epoch_st0) :: rsavedAt_st0) := Vr56
  show Wq _ _ _ _ _ (T56.setTop (mkF m 35 #[.val (.ref thisst0), .val (.int (0 : Int32)), .val (.int xst0_2)] []))
  refine Ow.aloadN X56 hx (pc' := 36) (hb hby d_prog_71_method_4_35) rfl rfl ?_
  obtain ⟨T57, X57, e57, st57⟩ := getF X56 hx hZ hown (host := "") (Or.inl (kw10 hw)) Via.refl e56 P53_1_t56 (g := (mkF m 36 #[.val (.ref thisst0), .val (.int (0 : Int32)), .val (.int xst0_2)] [(.ref thisst0)])) rfl rfl (hb hby d_prog_71_method_4_36)
  refine Wq.step st57 ?_
  show Wq _ _ _ _ _ (T57.setTop (mkF m 39 #[.val (.ref thisst0), .val (.int (0 : Int32)), .val (.int xst0_2)] [(.ref values_st0)]))
  refine Ow.iloadN X57 hx (pc' := 40) (hb hby d_prog_71_method_4_39) rfl ?_
  refine Ow.iloadN X57 hx (pc' := 41) (hb hby d_prog_71_method_4_40) rfl ?_
  obtain ⟨T58, h58, X58, e58, W58, Vr58, st58⟩ := asI X57 hx hZ e57 V_values_st0_t56 (j := (0 : Int32)) (i := 0) (by decide) rfl (by simp only [List.length_cons]; omega) (g := (mkF m 41 #[.val (.ref thisst0), .val (.int (0 : Int32)), .val (.int xst0_2)] [(.int xst0_2), (.int (0 : Int32)), (.ref values_st0)])) rfl rfl (hb hby d_prog_71_method_4_41)
  refine Wq.step st58 ?_
  have N58 := Fr.snoc X58 N56 g_values_st0
  have K58 : Keep h0 h58 [thisst0, savedValues_st0, savedCells_st0, savedAt_st0, values_st0] := K56.wr W58 (Or.inl (List.mem_of_getElem? (i := 4) rfl))
  have Z58 : n0 ≤ h58.size := Nat.le_trans Z56 (Keep.of_wr W58).1
  have E_thisst0_t58 := E_thisst0_t56.wr W58
  have P53_1_t58 := P53_1_t56.other W58 (Or.inl (Ne.symm ne_values_st0_thisst0))
  have P53_2_t58 := P53_2_t56.other W58 (Or.inl (Ne.symm ne_values_st0_thisst0))
  have P53_3_t58 := P53_3_t56.other W58 (Or.inl (Ne.symm ne_values_st0_thisst0))
  have P53_4_t58 := P53_4_t56.other W58 (Or.inl (Ne.symm ne_values_st0_thisst0))
  have P53_5_t58 := P53_5_t56.other W58 (Or.inl (Ne.symm ne_values_st0_thisst0))
  have P53_6_t58 := P53_6_t56.other W58 (Or.inl (Ne.symm ne_values_st0_thisst0))
  have P53_7_t58 := P53_7_t56.other W58 (Or.inl (Ne.symm ne_values_st0_thisst0))
  have P53_8_t58 := P53_8_t56.other W58 (Or.inl (Ne.symm ne_values_st0_thisst0))
  have P53_9_t58 := P53_9_t56.other W58 (Or.inl (Ne.symm ne_values_st0_thisst0))
  have P53_10_t58 := P53_10_t56.other W58 (Ne.symm ne_values_st0_savedCells_st0)
  have P53_11_t58 := P53_11_t56.other W58 (Ne.symm ne_values_st0_savedValues_st0)
  have P53_12_t58 := P53_12_t56.other W58 (Or.inl (Ne.symm ne_values_st0_thisst0))
  have V_savedAt_st0_t58 := V_savedAt_st0_t56.other W58 (Ne.symm ne_values_st0_savedAt_st0)
  have V_values_st0_t58 : Al Z h58 values_st0 .int ((.int xst0_2) :: rvalues_st0) := Vr58
  show Wq _ _ _ _ _ (T58.setTop (mkF m 42 #[.val (.ref thisst0), .val (.int (0 : Int32)), .val (.int xst0_2)] []))
  exact Wq.ret X58 (BodyLoose.notSynchronized Bd) (rv := none) (fun _ => rfl) (fun _ hr => X58.returnOut hx Bd.returns (hb hby d_prog_71_method_4_42) hr) (by decide) (by decide) (by rw [e58]; exact ⟨rfl, N58, K58, E_thisst0_t58, P53_1_t58, P53_2_t58, P53_3_t58, P53_4_t58, P53_5_t58, P53_6_t58, P53_7_t58, P53_8_t58, P53_9_t58, P53_10_t58, P53_11_t58, P53_12_t58, V_savedAt_st0_t58, V_values_st0_t58⟩)
theorem kw50 {Z : State} {a0 : Array Value} (hw : ∀ d ∈ tables_1, d.before a0 Z = true) : (Jvm.Cond.code ({ cls := "com/example/tauten/tauten/Trail", name := "set", desc := "(II)V" } : Jvm.MethodName) prog_71_method_4_code (3 : Nat) (Option.none : Option Jvm.ClassFile.FieldType)).before a0 Z = true := hw _ (List.mem_of_getElem? (i := 50) rfl)
theorem pd6 : parseMethodDescriptor "(II)V" = some ⟨[.int, .int], none⟩ := by decide +kernel
theorem kw46 {Z : State} {a0 : Array Value} (hw : ∀ d ∈ tables_1, d.before a0 Z = true) : (Jvm.Cond.methodLink "com/example/tauten/tauten/TrailUndoPinLaw" (22 : Nat) ({ cls := "com/example/tauten/tauten/Trail", name := "set", desc := "(II)V" } : Jvm.MethodName)).before a0 Z = true := hw _ (List.mem_of_getElem? (i := 46) rfl)
theorem kw47 {Z : State} {a0 : Array Value} (hw : ∀ d ∈ tables_1, d.before a0 Z = true) : (Jvm.Cond.declares ({ cls := "com/example/tauten/tauten/Trail", name := "set", desc := "(II)V" } : Jvm.MethodName)).before a0 Z = true := hw _ (List.mem_of_getElem? (i := 47) rfl)
theorem kw49 {Z : State} {a0 : Array Value} (hw : ∀ d ∈ tables_1, d.before a0 Z = true) : (Jvm.Cond.selects "com/example/tauten/tauten/Trail" ({ cls := "com/example/tauten/tauten/Trail", name := "set", desc := "(II)V" } : Jvm.MethodName) ({ cls := "com/example/tauten/tauten/Trail", name := "set", desc := "(II)V" } : Jvm.MethodName)).before a0 Z = true := hw _ (List.mem_of_getElem? (i := 49) rfl)
theorem kw48 {Z : State} {a0 : Array Value} (hw : ∀ d ∈ tables_1, d.before a0 Z = true) : (Jvm.Cond.instanceMethod ({ cls := "com/example/tauten/tauten/Trail", name := "set", desc := "(II)V" } : Jvm.MethodName)).before a0 Z = true := hw _ (List.mem_of_getElem? (i := 48) rfl)
theorem d_prog_71_method_9_0 : decode prog_71_method_9_code 0 = .ok (.aload_n 0, 1) := by decide +kernel
theorem d_prog_71_method_9_1 : decode prog_71_method_9_code 1 = .ok (.getfield 52, 3) := by decide +kernel
theorem d_prog_71_method_9_4 : decode prog_71_method_9_code 4 = .ok (.iload_n 1, 1) := by decide +kernel
theorem d_prog_71_method_9_5 : decode prog_71_method_9_code 5 = .ok (.if_icmp .le 66, 3) := by decide +kernel
theorem d_prog_71_method_9_8 : decode prog_71_method_9_code 8 = .ok (.aload_n 0, 1) := by decide +kernel
theorem d_prog_71_method_9_9 : decode prog_71_method_9_code 9 = .ok (.dup, 1) := by decide +kernel
theorem d_prog_71_method_9_10 : decode prog_71_method_9_code 10 = .ok (.getfield 52, 3) := by decide +kernel
theorem d_prog_71_method_9_13 : decode prog_71_method_9_code 13 = .ok (.iconst 1, 1) := by decide +kernel
theorem d_prog_71_method_9_14 : decode prog_71_method_9_code 14 = .ok (.isub, 1) := by decide +kernel
theorem d_prog_71_method_9_15 : decode prog_71_method_9_code 15 = .ok (.putfield 52, 3) := by decide +kernel
theorem d_prog_71_method_9_18 : decode prog_71_method_9_code 18 = .ok (.aload_n 0, 1) := by decide +kernel
theorem d_prog_71_method_9_19 : decode prog_71_method_9_code 19 = .ok (.getfield 23, 3) := by decide +kernel
theorem d_prog_71_method_9_22 : decode prog_71_method_9_code 22 = .ok (.aload_n 0, 1) := by decide +kernel
theorem d_prog_71_method_9_23 : decode prog_71_method_9_code 23 = .ok (.getfield 52, 3) := by decide +kernel
theorem d_prog_71_method_9_26 : decode prog_71_method_9_code 26 = .ok (.iaload, 1) := by decide +kernel
theorem d_prog_71_method_9_27 : decode prog_71_method_9_code 27 = .ok (.istore_n 2, 1) := by decide +kernel
theorem d_prog_71_method_9_28 : decode prog_71_method_9_code 28 = .ok (.iload_n 2, 1) := by decide +kernel
theorem d_prog_71_method_9_29 : decode prog_71_method_9_code 29 = .ok (.ifCond .lt 22, 3) := by decide +kernel
theorem d_prog_71_method_9_32 : decode prog_71_method_9_code 32 = .ok (.aload_n 0, 1) := by decide +kernel
theorem d_prog_71_method_9_33 : decode prog_71_method_9_code 33 = .ok (.getfield 7, 3) := by decide +kernel
theorem d_prog_71_method_9_36 : decode prog_71_method_9_code 36 = .ok (.iload_n 2, 1) := by decide +kernel
theorem d_prog_71_method_9_37 : decode prog_71_method_9_code 37 = .ok (.aload_n 0, 1) := by decide +kernel
theorem d_prog_71_method_9_38 : decode prog_71_method_9_code 38 = .ok (.getfield 26, 3) := by decide +kernel
theorem d_prog_71_method_9_41 : decode prog_71_method_9_code 41 = .ok (.aload_n 0, 1) := by decide +kernel
theorem d_prog_71_method_9_42 : decode prog_71_method_9_code 42 = .ok (.getfield 52, 3) := by decide +kernel
theorem d_prog_71_method_9_45 : decode prog_71_method_9_code 45 = .ok (.laload, 1) := by decide +kernel
theorem d_prog_71_method_9_46 : decode prog_71_method_9_code 46 = .ok (.l2i, 1) := by decide +kernel
theorem d_prog_71_method_9_47 : decode prog_71_method_9_code 47 = .ok (.iastore, 1) := by decide +kernel
theorem d_prog_71_method_9_48 : decode prog_71_method_9_code 48 = .ok (.goto 20, 3) := by decide +kernel
theorem d_prog_71_method_9_68 : decode prog_71_method_9_code 68 = .ok (.goto (-68), 3) := by decide +kernel
theorem d_prog_71_method_9_71 : decode prog_71_method_9_code 71 = .ok (.aload_n 0, 1) := by decide +kernel
theorem d_prog_71_method_9_72 : decode prog_71_method_9_code 72 = .ok (.dup, 1) := by decide +kernel
theorem d_prog_71_method_9_73 : decode prog_71_method_9_code 73 = .ok (.getfield 29, 3) := by decide +kernel
theorem d_prog_71_method_9_76 : decode prog_71_method_9_code 76 = .ok (.iconst 1, 1) := by decide +kernel
theorem d_prog_71_method_9_77 : decode prog_71_method_9_code 77 = .ok (.iadd, 1) := by decide +kernel
theorem d_prog_71_method_9_78 : decode prog_71_method_9_code 78 = .ok (.putfield 29, 3) := by decide +kernel
theorem ef_un10i (m : MethodId) (thisun10i : Addr) : entryFrame m #[(.ref thisun10i), (.int (0 : Int32))] 3 = mkF m 0 #[.val (.ref thisun10i), .val (.int (0 : Int32)), .unset] [] := by first | (simp [entryFrame, mkF, argsToLocals, Value.category]; done) | rfl
def Q_un10i (Z : State) (thisun10i : Addr) (values_un10i : Addr) (savedAt_un10i : Addr) (longValues_un10i : Addr) (longSavedAt_un10i : Addr) (savedCells_un10i : Addr) (savedValues_un10i : Addr) (cellCount_un10i : Int32) (longCellCount_un10i : Int32) (epoch_un10i : Int32) (ve0_un10i : Int32) (rvalues_un10i : List Value) (le0_un10i : Int64) (rlongValues_un10i : List Value) (sl1_un10i : Int32) (sl2_un10i : Int32) (sl3_un10i : Int32) (rsavedCells_un10i : List Value) (se0_un10i : Int64) (se1_un10i : Int64) (se2_un10i : Int64) (se3_un10i : Int64) (rsavedValues_un10i : List Value) (h0 : Heap) (n0 : Nat) (v : Option Value) (h : Heap) (L : List Loc) : Prop := v = none ∧ Fr n0 L ∧ Keep h0 h [thisun10i, values_un10i] ∧ Exa Z h thisun10i "com/example/tauten/tauten/Trail" ∧ Fld Z h thisun10i "com/example/tauten/tauten/Trail" "values" "[I" (.ref values_un10i) ∧ Fld Z h thisun10i "com/example/tauten/tauten/Trail" "savedAt" "[I" (.ref savedAt_un10i) ∧ Fld Z h thisun10i "com/example/tauten/tauten/Trail" "longValues" "[J" (.ref longValues_un10i) ∧ Fld Z h thisun10i "com/example/tauten/tauten/Trail" "longSavedAt" "[I" (.ref longSavedAt_un10i) ∧ Fld Z h thisun10i "com/example/tauten/tauten/Trail" "savedCells" "[I" (.ref savedCells_un10i) ∧ Fld Z h thisun10i "com/example/tauten/tauten/Trail" "savedValues" "[J" (.ref savedValues_un10i) ∧ Fld Z h thisun10i "com/example/tauten/tauten/Trail" "cellCount" "I" (.int cellCount_un10i) ∧ Fld Z h thisun10i "com/example/tauten/tauten/Trail" "longCellCount" "I" (.int longCellCount_un10i) ∧ Fld Z h thisun10i "com/example/tauten/tauten/Trail" "savedCount" "I" (.int (0 : Int32)) ∧ Al Z h values_un10i .int ((.int (se0_un10i.toInt32)) :: rvalues_un10i) ∧ Fld Z h thisun10i "com/example/tauten/tauten/Trail" "epoch" "I" (.int (epoch_un10i + (1 : Int32)))
theorem d_prog_71_method_9_81 : decode prog_71_method_9_code 81 = .ok (.return_, 1) := by decide +kernel
abbrev mt9 : MethodName := ⟨"com/example/tauten/tauten/Trail", "undo", "(I)V"⟩
set_option maxRecDepth 65536 in
set_option maxHeartbeats 40000000 in
theorem rm_un10i (l : Launch) (Z : State) (a0 : Array Value) (hw : ∀ d ∈ tables_1, d.before a0 Z = true) (ws : List Jvm.Cond) (thisun10i : Addr) (values_un10i : Addr) (savedAt_un10i : Addr) (longValues_un10i : Addr) (longSavedAt_un10i : Addr) (savedCells_un10i : Addr) (savedValues_un10i : Addr) (cellCount_un10i : Int32) (longCellCount_un10i : Int32) (epoch_un10i : Int32) (ve0_un10i : Int32) (rvalues_un10i : List Value) (le0_un10i : Int64) (rlongValues_un10i : List Value) (sl1_un10i : Int32) (sl2_un10i : Int32) (sl3_un10i : Int32) (rsavedCells_un10i : List Value) (se0_un10i : Int64) (se1_un10i : Int64) (se2_un10i : Int64) (se3_un10i : Int64) (rsavedValues_un10i : List Value) (h0 : Heap) (n0 : Nat) (Z0 : n0 ≤ h0.size) (E_thisun10i : Exa Z h0 thisun10i "com/example/tauten/tauten/Trail") (F_thisun10i_values : Fld Z h0 thisun10i "com/example/tauten/tauten/Trail" "values" "[I" (.ref values_un10i)) (F_thisun10i_savedAt : Fld Z h0 thisun10i "com/example/tauten/tauten/Trail" "savedAt" "[I" (.ref savedAt_un10i)) (F_thisun10i_longValues : Fld Z h0 thisun10i "com/example/tauten/tauten/Trail" "longValues" "[J" (.ref longValues_un10i)) (F_thisun10i_longSavedAt : Fld Z h0 thisun10i "com/example/tauten/tauten/Trail" "longSavedAt" "[I" (.ref longSavedAt_un10i)) (F_thisun10i_savedCells : Fld Z h0 thisun10i "com/example/tauten/tauten/Trail" "savedCells" "[I" (.ref savedCells_un10i)) (F_thisun10i_savedValues : Fld Z h0 thisun10i "com/example/tauten/tauten/Trail" "savedValues" "[J" (.ref savedValues_un10i)) (F_thisun10i_cellCount : Fld Z h0 thisun10i "com/example/tauten/tauten/Trail" "cellCount" "I" (.int cellCount_un10i)) (F_thisun10i_longCellCount : Fld Z h0 thisun10i "com/example/tauten/tauten/Trail" "longCellCount" "I" (.int longCellCount_un10i)) (F_thisun10i_savedCount : Fld Z h0 thisun10i "com/example/tauten/tauten/Trail" "savedCount" "I" (.int (1 : Int32))) (F_thisun10i_epoch : Fld Z h0 thisun10i "com/example/tauten/tauten/Trail" "epoch" "I" (.int epoch_un10i)) (g_thisun10i : n0 ≤ thisun10i) (V_values_un10i : Al Z h0 values_un10i .int ((.int ve0_un10i) :: rvalues_un10i)) (g_values_un10i : n0 ≤ values_un10i) (ne_values_un10i_thisun10i : values_un10i ≠ thisun10i) (V_longValues_un10i : Al Z h0 longValues_un10i .long ((.long le0_un10i) :: rlongValues_un10i)) (g_longValues_un10i : n0 ≤ longValues_un10i) (ne_longValues_un10i_thisun10i : longValues_un10i ≠ thisun10i) (V_savedCells_un10i : Al Z h0 savedCells_un10i .int ((.int (0 : Int32)) :: (.int sl1_un10i) :: (.int sl2_un10i) :: (.int sl3_un10i) :: rsavedCells_un10i)) (g_savedCells_un10i : n0 ≤ savedCells_un10i) (ne_savedCells_un10i_thisun10i : savedCells_un10i ≠ thisun10i) (V_savedValues_un10i : Al Z h0 savedValues_un10i .long ((.long se0_un10i) :: (.long se1_un10i) :: (.long se2_un10i) :: (.long se3_un10i) :: rsavedValues_un10i)) (g_savedValues_un10i : n0 ≤ savedValues_un10i) (ne_savedValues_un10i_thisun10i : savedValues_un10i ≠ thisun10i) (ne_values_un10i_longValues_un10i : values_un10i ≠ longValues_un10i) (ne_values_un10i_savedCells_un10i : values_un10i ≠ savedCells_un10i) (ne_values_un10i_savedValues_un10i : values_un10i ≠ savedValues_un10i) (ne_longValues_un10i_savedCells_un10i : longValues_un10i ≠ savedCells_un10i) (ne_longValues_un10i_savedValues_un10i : longValues_un10i ≠ savedValues_un10i) (ne_savedCells_un10i_savedValues_un10i : savedCells_un10i ≠ savedValues_un10i) :
    MetFree l mt9 (head1 (Jvm.Cond.code mt9 prog_71_method_9_code 3 none :: ws) ({ frames := 0, cells := 0, slots := 0, locals := 0 } : Room)) (fun a U => a = #[(.ref thisun10i), (.int (0 : Int32))] ∧ Z.Warmed39 U.vm ∧ U.heap = h0) (fun _ _ _ _ _ => True) (fun _ U o U' => ∃ v L, o = .returned v ∧ (Q_un10i Z thisun10i values_un10i savedAt_un10i longValues_un10i longSavedAt_un10i savedCells_un10i savedValues_un10i cellCount_un10i longCellCount_un10i epoch_un10i ve0_un10i rvalues_un10i le0_un10i rlongValues_un10i sl1_un10i sl2_un10i sl3_un10i rsavedCells_un10i se0_un10i se1_un10i se2_un10i se3_un10i rsavedValues_un10i h0 n0) v U'.heap L ∧ FrameEnd U o U' L ({ frames := 0, cells := 0, slots := 0, locals := 0 } : Room).cells ({ frames := 0, cells := 0, slots := 0, locals := 0 } : Room).slots) := by
  refine MetFree.of_bodySF (plainFor_of_name pn1) hisR ?_
  intro p e s m args below meth c s₁ Bd hml0 hP hK
  obtain ⟨rfl, hZ, hh⟩ := hP
  have hx := Bd.exec
  have hby := Bd.bytes
  have hml : c.maxLocals = 3 := hml0
  have hown : s.vm.findClass "com/example/tauten/tauten/Trail" = some m.cls := findClass_of_methodNamed Bd.named
  have hnm := (name_of_methodNamed Bd.named Bd.method).1
  have X0 : Stand p l e ({ frames := 0, cells := 0, slots := 0, locals := 0 } : Room) s m #[(.ref thisun10i), (.int (0 : Int32))] below meth c s₁ [] 0 0 := Stand.of_body Bd
  have e0 : s₁.heap = h0 := by rw [← hh, Bd.state]; rfl
  have N0 := Fr.nil n0
  refine Wq.step (p := p) (e := e) (below := below) (En := (fun o t L => FrameEnd s o t L ({ frames := 0, cells := 0, slots := 0, locals := 0 } : Room).cells ({ frames := 0, cells := 0, slots := 0, locals := 0 } : Room).slots)) (Q := (Q_un10i Z thisun10i values_un10i savedAt_un10i longValues_un10i longSavedAt_un10i savedCells_un10i savedValues_un10i cellCount_un10i longCellCount_un10i epoch_un10i ve0_un10i rvalues_un10i le0_un10i rlongValues_un10i sl1_un10i sl2_un10i sl3_un10i rsavedCells_un10i se0_un10i se1_un10i se2_un10i se3_un10i rsavedValues_un10i h0 n0)) (fun t k => castTop (ef_un10i m thisun10i) k) ?_
  show Wq _ _ _ _ _ (s₁.setTop (mkF m 0 #[.val (.ref thisun10i), .val (.int (0 : Int32)), .unset] []))
  refine Ow.aloadN X0 hx (pc' := 1) (hb hby d_prog_71_method_9_0) rfl rfl ?_
  obtain ⟨T60, X60, e60, st60⟩ := getF X0 hx hZ hown (host := "") (Or.inl (kw44 hw)) Via.refl e0 F_thisun10i_savedCount (g := (mkF m 1 #[.val (.ref thisun10i), .val (.int (0 : Int32)), .unset] [(.ref thisun10i)])) rfl rfl (hb hby d_prog_71_method_9_1)
  refine Wq.step st60 ?_
  show Wq _ _ _ _ _ (T60.setTop (mkF m 4 #[.val (.ref thisun10i), .val (.int (0 : Int32)), .unset] [(.int (1 : Int32))]))
  refine Ow.iloadN X60 hx (pc' := 5) (hb hby d_prog_71_method_9_4) rfl ?_
  refine Ow.icmpNo X60 hx (pc' := 8) (hb hby d_prog_71_method_9_5) (tlt (by decide : (0 : Int32) < (1 : Int32))).2.2.2 ?_
  refine Ow.aloadN X60 hx (pc' := 9) (hb hby d_prog_71_method_9_8) rfl rfl ?_
  refine Ow.dup X60 hx (pc' := 10) (hb hby d_prog_71_method_9_9) rfl ?_
  obtain ⟨T61, X61, e61, st61⟩ := getF X60 hx hZ hown (host := "") (Or.inl (kw44 hw)) Via.refl e60 F_thisun10i_savedCount (g := (mkF m 10 #[.val (.ref thisun10i), .val (.int (0 : Int32)), .unset] [(.ref thisun10i), (.ref thisun10i)])) rfl rfl (hb hby d_prog_71_method_9_10)
  refine Wq.step st61 ?_
  show Wq _ _ _ _ _ (T61.setTop (mkF m 13 #[.val (.ref thisun10i), .val (.int (0 : Int32)), .unset] [(.int (1 : Int32)), (.ref thisun10i)]))
  refine Ow.iconst X61 hx (pc' := 14) (hb hby d_prog_71_method_9_13) (z := (1 : Int32)) rfl ?_
  refine Ow.isub X61 hx (pc' := 15) (hb hby d_prog_71_method_9_14) (z := (0 : Int32)) rfl ?_
  obtain ⟨T62, h62, X62, e62, W62, st62⟩ := putF X61 hx hZ hown (host := "") (Or.inl (kw44 hw)) Via.refl e61 F_thisun10i_savedCount E_thisun10i (Or.inl (kw45 hw)) (kw1 hw) (ty := .int) (by decide) (rfl) (rfl) (g := (mkF m 15 #[.val (.ref thisun10i), .val (.int (0 : Int32)), .unset] [(.int (0 : Int32)), (.ref thisun10i)])) rfl rfl (hb hby d_prog_71_method_9_15)
  refine Wq.step st62 ?_
  have N62 := Fr.snoc X62 N0 g_thisun10i
  have K62 : Keep h0 h62 [thisun10i, values_un10i] := (Keep.refl h0 [thisun10i, values_un10i]).wr W62 (Or.inl (List.mem_of_getElem? (i := 0) rfl))
  have Z62 : n0 ≤ h62.size := Nat.le_trans Z0 (Keep.of_wr W62).1
  have E_thisun10i_t62 := E_thisun10i.wr W62
  have F_thisun10i_values_t62 := F_thisun10i_values.other W62 (Or.inr (slot_ne (Or.inl (kw11 hw)) (Or.inl (kw45 hw)) (by decide) (t := (.array .int)) (t' := .int) (by decide) (by decide)))
  have F_thisun10i_savedAt_t62 := F_thisun10i_savedAt.other W62 (Or.inr (slot_ne (Or.inl (kw13 hw)) (Or.inl (kw45 hw)) (by decide) (t := (.array .int)) (t' := .int) (by decide) (by decide)))
  have F_thisun10i_longValues_t62 := F_thisun10i_longValues.other W62 (Or.inr (slot_ne (Or.inl (kw16 hw)) (Or.inl (kw45 hw)) (by decide) (t := (.array .long)) (t' := .int) (by decide) (by decide)))
  have F_thisun10i_longSavedAt_t62 := F_thisun10i_longSavedAt.other W62 (Or.inr (slot_ne (Or.inl (kw18 hw)) (Or.inl (kw45 hw)) (by decide) (t := (.array .int)) (t' := .int) (by decide) (by decide)))
  have F_thisun10i_savedCells_t62 := F_thisun10i_savedCells.other W62 (Or.inr (slot_ne (Or.inl (kw20 hw)) (Or.inl (kw45 hw)) (by decide) (t := (.array .int)) (t' := .int) (by decide) (by decide)))
  have F_thisun10i_savedValues_t62 := F_thisun10i_savedValues.other W62 (Or.inr (slot_ne (Or.inl (kw22 hw)) (Or.inl (kw45 hw)) (by decide) (t := (.array .long)) (t' := .int) (by decide) (by decide)))
  have F_thisun10i_cellCount_t62 := F_thisun10i_cellCount.other W62 (Or.inr (slot_ne (Or.inl (kw31 hw)) (Or.inl (kw45 hw)) (by decide) (t := .int) (t' := .int) (by decide) (by decide)))
  have F_thisun10i_longCellCount_t62 := F_thisun10i_longCellCount.other W62 (Or.inr (slot_ne (Or.inl (kw38 hw)) (Or.inl (kw45 hw)) (by decide) (t := .int) (t' := .int) (by decide) (by decide)))
  have F_thisun10i_epoch_t62 := F_thisun10i_epoch.other W62 (Or.inr (slot_ne (Or.inl (kw24 hw)) (Or.inl (kw45 hw)) (by decide) (t := .int) (t' := .int) (by decide) (by decide)))
  have V_values_un10i_t62 := V_values_un10i.other W62 ne_values_un10i_thisun10i
  have V_longValues_un10i_t62 := V_longValues_un10i.other W62 ne_longValues_un10i_thisun10i
  have V_savedCells_un10i_t62 := V_savedCells_un10i.other W62 ne_savedCells_un10i_thisun10i
  have V_savedValues_un10i_t62 := V_savedValues_un10i.other W62 ne_savedValues_un10i_thisun10i
  have F_thisun10i_savedCount_t62 : Fld Z h62 thisun10i "com/example/tauten/tauten/Trail" "savedCount" "I" (.int (0 : Int32)) := F_thisun10i_savedCount.same W62
  show Wq _ _ _ _ _ (T62.setTop (mkF m 18 #[.val (.ref thisun10i), .val (.int (0 : Int32)), .unset] []))
  refine Ow.aloadN X62 hx (pc' := 19) (hb hby d_prog_71_method_9_18) rfl rfl ?_
  obtain ⟨T63, X63, e63, st63⟩ := getF X62 hx hZ hown (host := "") (Or.inl (kw19 hw)) Via.refl e62 F_thisun10i_savedCells_t62 (g := (mkF m 19 #[.val (.ref thisun10i), .val (.int (0 : Int32)), .unset] [(.ref thisun10i)])) rfl rfl (hb hby d_prog_71_method_9_19)
  refine Wq.step st63 ?_
  show Wq _ _ _ _ _ (T63.setTop (mkF m 22 #[.val (.ref thisun10i), .val (.int (0 : Int32)), .unset] [(.ref savedCells_un10i)]))
  refine Ow.aloadN X63 hx (pc' := 23) (hb hby d_prog_71_method_9_22) rfl rfl ?_
  obtain ⟨T64, X64, e64, st64⟩ := getF X63 hx hZ hown (host := "") (Or.inl (kw44 hw)) Via.refl e63 F_thisun10i_savedCount_t62 (g := (mkF m 23 #[.val (.ref thisun10i), .val (.int (0 : Int32)), .unset] [(.ref thisun10i), (.ref savedCells_un10i)])) rfl rfl (hb hby d_prog_71_method_9_23)
  refine Wq.step st64 ?_
  show Wq _ _ _ _ _ (T64.setTop (mkF m 26 #[.val (.ref thisun10i), .val (.int (0 : Int32)), .unset] [(.int (0 : Int32)), (.ref savedCells_un10i)]))
  refine Ow.ldI X64 hx hZ e64 V_savedCells_un10i_t62 (pc' := 27) (hb hby d_prog_71_method_9_26) (j := (0 : Int32)) (i := 0) (v := (.int (0 : Int32))) (by decide) rfl rfl ?_
  refine Ow.istoreN X64 hx (pc' := 28) (hb hby d_prog_71_method_9_27) (l' := #[.val (.ref thisun10i), .val (.int (0 : Int32)), .val (.int (0 : Int32))]) rfl ?_
  refine Ow.iloadN X64 hx (pc' := 29) (hb hby d_prog_71_method_9_28) rfl ?_
  refine Ow.ifNo X64 hx (pc' := 32) (hb hby d_prog_71_method_9_29) ((if0 _ _).trans (flt (by decide : ¬ ((0 : Int32) < (0 : Int32)))).1) ?_
  refine Ow.aloadN X64 hx (pc' := 33) (hb hby d_prog_71_method_9_32) rfl rfl ?_
  obtain ⟨T65, X65, e65, st65⟩ := getF X64 hx hZ hown (host := "") (Or.inl (kw10 hw)) Via.refl e64 F_thisun10i_values_t62 (g := (mkF m 33 #[.val (.ref thisun10i), .val (.int (0 : Int32)), .val (.int (0 : Int32))] [(.ref thisun10i)])) rfl rfl (hb hby d_prog_71_method_9_33)
  refine Wq.step st65 ?_
  show Wq _ _ _ _ _ (T65.setTop (mkF m 36 #[.val (.ref thisun10i), .val (.int (0 : Int32)), .val (.int (0 : Int32))] [(.ref values_un10i)]))
  refine Ow.iloadN X65 hx (pc' := 37) (hb hby d_prog_71_method_9_36) rfl ?_
  refine Ow.aloadN X65 hx (pc' := 38) (hb hby d_prog_71_method_9_37) rfl rfl ?_
  obtain ⟨T66, X66, e66, st66⟩ := getF X65 hx hZ hown (host := "") (Or.inl (kw21 hw)) Via.refl e65 F_thisun10i_savedValues_t62 (g := (mkF m 38 #[.val (.ref thisun10i), .val (.int (0 : Int32)), .val (.int (0 : Int32))] [(.ref thisun10i), (.int (0 : Int32)), (.ref values_un10i)])) rfl rfl (hb hby d_prog_71_method_9_38)
  refine Wq.step st66 ?_
  show Wq _ _ _ _ _ (T66.setTop (mkF m 41 #[.val (.ref thisun10i), .val (.int (0 : Int32)), .val (.int (0 : Int32))] [(.ref savedValues_un10i), (.int (0 : Int32)), (.ref values_un10i)]))
  refine Ow.aloadN X66 hx (pc' := 42) (hb hby d_prog_71_method_9_41) rfl rfl ?_
  obtain ⟨T67, X67, e67, st67⟩ := getF X66 hx hZ hown (host := "") (Or.inl (kw44 hw)) Via.refl e66 F_thisun10i_savedCount_t62 (g := (mkF m 42 #[.val (.ref thisun10i), .val (.int (0 : Int32)), .val (.int (0 : Int32))] [(.ref thisun10i), (.ref savedValues_un10i), (.int (0 : Int32)), (.ref values_un10i)])) rfl rfl (hb hby d_prog_71_method_9_42)
  refine Wq.step st67 ?_
  show Wq _ _ _ _ _ (T67.setTop (mkF m 45 #[.val (.ref thisun10i), .val (.int (0 : Int32)), .val (.int (0 : Int32))] [(.int (0 : Int32)), (.ref savedValues_un10i), (.int (0 : Int32)), (.ref values_un10i)]))
  refine Ow.ldJ X67 hx hZ e67 V_savedValues_un10i_t62 (pc' := 46) (hb hby d_prog_71_method_9_45) (j := (0 : Int32)) (i := 0) (v := (.long se0_un10i)) (by decide) rfl rfl ?_
  refine Ow.l2i X67 hx (pc' := 47) (hb hby d_prog_71_method_9_46) (z := (se0_un10i.toInt32)) rfl ?_
  obtain ⟨T68, h68, X68, e68, W68, Vr68, st68⟩ := asI X67 hx hZ e67 V_values_un10i_t62 (j := (0 : Int32)) (i := 0) (by decide) rfl (by simp only [List.length_cons]; omega) (g := (mkF m 47 #[.val (.ref thisun10i), .val (.int (0 : Int32)), .val (.int (0 : Int32))] [(.int (se0_un10i.toInt32)), (.int (0 : Int32)), (.ref values_un10i)])) rfl rfl (hb hby d_prog_71_method_9_47)
  refine Wq.step st68 ?_
  have N68 := Fr.snoc X68 N62 g_values_un10i
  have K68 : Keep h0 h68 [thisun10i, values_un10i] := K62.wr W68 (Or.inl (List.mem_of_getElem? (i := 1) rfl))
  have Z68 : n0 ≤ h68.size := Nat.le_trans Z62 (Keep.of_wr W68).1
  have E_thisun10i_t68 := E_thisun10i_t62.wr W68
  have F_thisun10i_values_t68 := F_thisun10i_values_t62.other W68 (Or.inl (Ne.symm ne_values_un10i_thisun10i))
  have F_thisun10i_savedAt_t68 := F_thisun10i_savedAt_t62.other W68 (Or.inl (Ne.symm ne_values_un10i_thisun10i))
  have F_thisun10i_longValues_t68 := F_thisun10i_longValues_t62.other W68 (Or.inl (Ne.symm ne_values_un10i_thisun10i))
  have F_thisun10i_longSavedAt_t68 := F_thisun10i_longSavedAt_t62.other W68 (Or.inl (Ne.symm ne_values_un10i_thisun10i))
  have F_thisun10i_savedCells_t68 := F_thisun10i_savedCells_t62.other W68 (Or.inl (Ne.symm ne_values_un10i_thisun10i))
  have F_thisun10i_savedValues_t68 := F_thisun10i_savedValues_t62.other W68 (Or.inl (Ne.symm ne_values_un10i_thisun10i))
  have F_thisun10i_cellCount_t68 := F_thisun10i_cellCount_t62.other W68 (Or.inl (Ne.symm ne_values_un10i_thisun10i))
  have F_thisun10i_longCellCount_t68 := F_thisun10i_longCellCount_t62.other W68 (Or.inl (Ne.symm ne_values_un10i_thisun10i))
  have F_thisun10i_epoch_t68 := F_thisun10i_epoch_t62.other W68 (Or.inl (Ne.symm ne_values_un10i_thisun10i))
  have V_longValues_un10i_t68 := V_longValues_un10i_t62.other W68 (Ne.symm ne_values_un10i_longValues_un10i)
  have V_savedCells_un10i_t68 := V_savedCells_un10i_t62.other W68 (Ne.symm ne_values_un10i_savedCells_un10i)
  have V_savedValues_un10i_t68 := V_savedValues_un10i_t62.other W68 (Ne.symm ne_values_un10i_savedValues_un10i)
  have F_thisun10i_savedCount_t68 := F_thisun10i_savedCount_t62.other W68 (Or.inl (Ne.symm ne_values_un10i_thisun10i))
  have V_values_un10i_t68 : Al Z h68 values_un10i .int ((.int (se0_un10i.toInt32)) :: rvalues_un10i) := Vr68
  show Wq _ _ _ _ _ (T68.setTop (mkF m 48 #[.val (.ref thisun10i), .val (.int (0 : Int32)), .val (.int (0 : Int32))] []))
  refine Ow.goto X68 hx (pc' := 68) (hb hby d_prog_71_method_9_48) (by decide) (by decide) ?_
  refine Ow.goto X68 hx (pc' := 0) (hb hby d_prog_71_method_9_68) (by decide) (by decide) ?_
  refine Ow.aloadN X68 hx (pc' := 1) (hb hby d_prog_71_method_9_0) rfl rfl ?_
  obtain ⟨T69, X69, e69, st69⟩ := getF X68 hx hZ hown (host := "") (Or.inl (kw44 hw)) Via.refl e68 F_thisun10i_savedCount_t68 (g := (mkF m 1 #[.val (.ref thisun10i), .val (.int (0 : Int32)), .val (.int (0 : Int32))] [(.ref thisun10i)])) rfl rfl (hb hby d_prog_71_method_9_1)
  refine Wq.step st69 ?_
  show Wq _ _ _ _ _ (T69.setTop (mkF m 4 #[.val (.ref thisun10i), .val (.int (0 : Int32)), .val (.int (0 : Int32))] [(.int (0 : Int32))]))
  refine Ow.iloadN X69 hx (pc' := 5) (hb hby d_prog_71_method_9_4) rfl ?_
  refine Ow.icmpYes X69 hx (pc' := 71) (hb hby d_prog_71_method_9_5) (flt (by decide : ¬ ((0 : Int32) < (0 : Int32)))).2.2.2 (by decide) (by decide) ?_
  refine Ow.aloadN X69 hx (pc' := 72) (hb hby d_prog_71_method_9_71) rfl rfl ?_
  refine Ow.dup X69 hx (pc' := 73) (hb hby d_prog_71_method_9_72) rfl ?_
  obtain ⟨T70, X70, e70, st70⟩ := getF X69 hx hZ hown (host := "") (Or.inl (kw23 hw)) Via.refl e69 F_thisun10i_epoch_t68 (g := (mkF m 73 #[.val (.ref thisun10i), .val (.int (0 : Int32)), .val (.int (0 : Int32))] [(.ref thisun10i), (.ref thisun10i)])) rfl rfl (hb hby d_prog_71_method_9_73)
  refine Wq.step st70 ?_
  show Wq _ _ _ _ _ (T70.setTop (mkF m 76 #[.val (.ref thisun10i), .val (.int (0 : Int32)), .val (.int (0 : Int32))] [(.int epoch_un10i), (.ref thisun10i)]))
  refine Ow.iconst X70 hx (pc' := 77) (hb hby d_prog_71_method_9_76) (z := (1 : Int32)) rfl ?_
  refine Ow.iadd X70 hx (pc' := 78) (hb hby d_prog_71_method_9_77) (z := (epoch_un10i + (1 : Int32))) rfl ?_
  obtain ⟨T71, h71, X71, e71, W71, st71⟩ := putF X70 hx hZ hown (host := "") (Or.inl (kw23 hw)) Via.refl e70 F_thisun10i_epoch_t68 E_thisun10i_t68 (Or.inl (kw24 hw)) (kw1 hw) (ty := .int) (by decide) (rfl) (rfl) (g := (mkF m 78 #[.val (.ref thisun10i), .val (.int (0 : Int32)), .val (.int (0 : Int32))] [(.int (epoch_un10i + (1 : Int32))), (.ref thisun10i)])) rfl rfl (hb hby d_prog_71_method_9_78)
  refine Wq.step st71 ?_
  have N71 := Fr.snoc X71 N68 g_thisun10i
  have K71 : Keep h0 h71 [thisun10i, values_un10i] := K68.wr W71 (Or.inl (List.mem_of_getElem? (i := 0) rfl))
  have Z71 : n0 ≤ h71.size := Nat.le_trans Z68 (Keep.of_wr W71).1
  have E_thisun10i_t71 := E_thisun10i_t68.wr W71
  have F_thisun10i_values_t71 := F_thisun10i_values_t68.other W71 (Or.inr (slot_ne (Or.inl (kw11 hw)) (Or.inl (kw24 hw)) (by decide) (t := (.array .int)) (t' := .int) (by decide) (by decide)))
  have F_thisun10i_savedAt_t71 := F_thisun10i_savedAt_t68.other W71 (Or.inr (slot_ne (Or.inl (kw13 hw)) (Or.inl (kw24 hw)) (by decide) (t := (.array .int)) (t' := .int) (by decide) (by decide)))
  have F_thisun10i_longValues_t71 := F_thisun10i_longValues_t68.other W71 (Or.inr (slot_ne (Or.inl (kw16 hw)) (Or.inl (kw24 hw)) (by decide) (t := (.array .long)) (t' := .int) (by decide) (by decide)))
  have F_thisun10i_longSavedAt_t71 := F_thisun10i_longSavedAt_t68.other W71 (Or.inr (slot_ne (Or.inl (kw18 hw)) (Or.inl (kw24 hw)) (by decide) (t := (.array .int)) (t' := .int) (by decide) (by decide)))
  have F_thisun10i_savedCells_t71 := F_thisun10i_savedCells_t68.other W71 (Or.inr (slot_ne (Or.inl (kw20 hw)) (Or.inl (kw24 hw)) (by decide) (t := (.array .int)) (t' := .int) (by decide) (by decide)))
  have F_thisun10i_savedValues_t71 := F_thisun10i_savedValues_t68.other W71 (Or.inr (slot_ne (Or.inl (kw22 hw)) (Or.inl (kw24 hw)) (by decide) (t := (.array .long)) (t' := .int) (by decide) (by decide)))
  have F_thisun10i_cellCount_t71 := F_thisun10i_cellCount_t68.other W71 (Or.inr (slot_ne (Or.inl (kw31 hw)) (Or.inl (kw24 hw)) (by decide) (t := .int) (t' := .int) (by decide) (by decide)))
  have F_thisun10i_longCellCount_t71 := F_thisun10i_longCellCount_t68.other W71 (Or.inr (slot_ne (Or.inl (kw38 hw)) (Or.inl (kw24 hw)) (by decide) (t := .int) (t' := .int) (by decide) (by decide)))
  have V_longValues_un10i_t71 := V_longValues_un10i_t68.other W71 ne_longValues_un10i_thisun10i
  have V_savedCells_un10i_t71 := V_savedCells_un10i_t68.other W71 ne_savedCells_un10i_thisun10i
  have V_savedValues_un10i_t71 := V_savedValues_un10i_t68.other W71 ne_savedValues_un10i_thisun10i
  have F_thisun10i_savedCount_t71 := F_thisun10i_savedCount_t68.other W71 (Or.inr (slot_ne (Or.inl (kw45 hw)) (Or.inl (kw24 hw)) (by decide) (t := .int) (t' := .int) (by decide) (by decide)))
  have V_values_un10i_t71 := V_values_un10i_t68.other W71 ne_values_un10i_thisun10i
  have F_thisun10i_epoch_t71 : Fld Z h71 thisun10i "com/example/tauten/tauten/Trail" "epoch" "I" (.int (epoch_un10i + (1 : Int32))) := F_thisun10i_epoch_t68.same W71
  show Wq _ _ _ _ _ (T71.setTop (mkF m 81 #[.val (.ref thisun10i), .val (.int (0 : Int32)), .val (.int (0 : Int32))] []))
  exact Wq.ret X71 (BodyLoose.notSynchronized Bd) (rv := none) (fun _ => rfl) (fun _ hr => X71.returnOut hx Bd.returns (hb hby d_prog_71_method_9_81) hr) (by decide) (by decide) (by rw [e71]; exact ⟨rfl, N71, K71, E_thisun10i_t71, F_thisun10i_values_t71, F_thisun10i_savedAt_t71, F_thisun10i_longValues_t71, F_thisun10i_longSavedAt_t71, F_thisun10i_savedCells_t71, F_thisun10i_savedValues_t71, F_thisun10i_cellCount_t71, F_thisun10i_longCellCount_t71, F_thisun10i_savedCount_t71, V_values_un10i_t71, F_thisun10i_epoch_t71⟩)
theorem kw64 {Z : State} {a0 : Array Value} (hw : ∀ d ∈ tables_1, d.before a0 Z = true) : (Jvm.Cond.code ({ cls := "com/example/tauten/tauten/Trail", name := "undo", desc := "(I)V" } : Jvm.MethodName) prog_71_method_9_code (3 : Nat) (Option.none : Option Jvm.ClassFile.FieldType)).before a0 Z = true := hw _ (List.mem_of_getElem? (i := 64) rfl)
theorem pd7 : parseMethodDescriptor "(I)V" = some ⟨[.int], none⟩ := by decide +kernel
theorem kw60 {Z : State} {a0 : Array Value} (hw : ∀ d ∈ tables_1, d.before a0 Z = true) : (Jvm.Cond.methodLink "com/example/tauten/tauten/TrailUndoPinLaw" (32 : Nat) ({ cls := "com/example/tauten/tauten/Trail", name := "undo", desc := "(I)V" } : Jvm.MethodName)).before a0 Z = true := hw _ (List.mem_of_getElem? (i := 60) rfl)
theorem kw61 {Z : State} {a0 : Array Value} (hw : ∀ d ∈ tables_1, d.before a0 Z = true) : (Jvm.Cond.declares ({ cls := "com/example/tauten/tauten/Trail", name := "undo", desc := "(I)V" } : Jvm.MethodName)).before a0 Z = true := hw _ (List.mem_of_getElem? (i := 61) rfl)
theorem kw63 {Z : State} {a0 : Array Value} (hw : ∀ d ∈ tables_1, d.before a0 Z = true) : (Jvm.Cond.selects "com/example/tauten/tauten/Trail" ({ cls := "com/example/tauten/tauten/Trail", name := "undo", desc := "(I)V" } : Jvm.MethodName) ({ cls := "com/example/tauten/tauten/Trail", name := "undo", desc := "(I)V" } : Jvm.MethodName)).before a0 Z = true := hw _ (List.mem_of_getElem? (i := 63) rfl)
theorem kw62 {Z : State} {a0 : Array Value} (hw : ∀ d ∈ tables_1, d.before a0 Z = true) : (Jvm.Cond.instanceMethod ({ cls := "com/example/tauten/tauten/Trail", name := "undo", desc := "(I)V" } : Jvm.MethodName)).before a0 Z = true := hw _ (List.mem_of_getElem? (i := 62) rfl)
theorem kw69 {Z : State} {a0 : Array Value} (hw : ∀ d ∈ tables_1, d.before a0 Z = true) : (Jvm.Cond.code ({ cls := "com/example/tauten/tauten/Trail", name := "get", desc := "(I)I" } : Jvm.MethodName) prog_71_method_3_code (2 : Nat) (Option.some Jvm.ClassFile.FieldType.int)).before a0 Z = true := hw _ (List.mem_of_getElem? (i := 69) rfl)
theorem kw65 {Z : State} {a0 : Array Value} (hw : ∀ d ∈ tables_1, d.before a0 Z = true) : (Jvm.Cond.methodLink "com/example/tauten/tauten/TrailUndoPinLaw" (36 : Nat) ({ cls := "com/example/tauten/tauten/Trail", name := "get", desc := "(I)I" } : Jvm.MethodName)).before a0 Z = true := hw _ (List.mem_of_getElem? (i := 65) rfl)
theorem kw66 {Z : State} {a0 : Array Value} (hw : ∀ d ∈ tables_1, d.before a0 Z = true) : (Jvm.Cond.declares ({ cls := "com/example/tauten/tauten/Trail", name := "get", desc := "(I)I" } : Jvm.MethodName)).before a0 Z = true := hw _ (List.mem_of_getElem? (i := 66) rfl)
theorem kw68 {Z : State} {a0 : Array Value} (hw : ∀ d ∈ tables_1, d.before a0 Z = true) : (Jvm.Cond.selects "com/example/tauten/tauten/Trail" ({ cls := "com/example/tauten/tauten/Trail", name := "get", desc := "(I)I" } : Jvm.MethodName) ({ cls := "com/example/tauten/tauten/Trail", name := "get", desc := "(I)I" } : Jvm.MethodName)).before a0 Z = true := hw _ (List.mem_of_getElem? (i := 68) rfl)
theorem kw67 {Z : State} {a0 : Array Value} (hw : ∀ d ∈ tables_1, d.before a0 Z = true) : (Jvm.Cond.instanceMethod ({ cls := "com/example/tauten/tauten/Trail", name := "get", desc := "(I)I" } : Jvm.MethodName)).before a0 Z = true := hw _ (List.mem_of_getElem? (i := 67) rfl)
theorem kw74 {Z : State} {a0 : Array Value} (hw : ∀ d ∈ tables_1, d.before a0 Z = true) : (Jvm.Cond.code ({ cls := "com/example/tauten/tauten/Trail", name := "getLong", desc := "(I)J" } : Jvm.MethodName) prog_71_method_6_code (2 : Nat) (Option.some Jvm.ClassFile.FieldType.long)).before a0 Z = true := hw _ (List.mem_of_getElem? (i := 74) rfl)
theorem pd8 : parseMethodDescriptor "(I)J" = some ⟨[.int], some .long⟩ := by decide +kernel
theorem kw70 {Z : State} {a0 : Array Value} (hw : ∀ d ∈ tables_1, d.before a0 Z = true) : (Jvm.Cond.methodLink "com/example/tauten/tauten/TrailUndoPinLaw" (39 : Nat) ({ cls := "com/example/tauten/tauten/Trail", name := "getLong", desc := "(I)J" } : Jvm.MethodName)).before a0 Z = true := hw _ (List.mem_of_getElem? (i := 70) rfl)
theorem kw71 {Z : State} {a0 : Array Value} (hw : ∀ d ∈ tables_1, d.before a0 Z = true) : (Jvm.Cond.declares ({ cls := "com/example/tauten/tauten/Trail", name := "getLong", desc := "(I)J" } : Jvm.MethodName)).before a0 Z = true := hw _ (List.mem_of_getElem? (i := 71) rfl)
theorem kw73 {Z : State} {a0 : Array Value} (hw : ∀ d ∈ tables_1, d.before a0 Z = true) : (Jvm.Cond.selects "com/example/tauten/tauten/Trail" ({ cls := "com/example/tauten/tauten/Trail", name := "getLong", desc := "(I)J" } : Jvm.MethodName) ({ cls := "com/example/tauten/tauten/Trail", name := "getLong", desc := "(I)J" } : Jvm.MethodName)).before a0 Z = true := hw _ (List.mem_of_getElem? (i := 73) rfl)
theorem kw72 {Z : State} {a0 : Array Value} (hw : ∀ d ∈ tables_1, d.before a0 Z = true) : (Jvm.Cond.instanceMethod ({ cls := "com/example/tauten/tauten/Trail", name := "getLong", desc := "(I)J" } : Jvm.MethodName)).before a0 Z = true := hw _ (List.mem_of_getElem? (i := 72) rfl)
theorem ef_un00 (m : MethodId) (thisun00 : Addr) : entryFrame m #[(.ref thisun00), (.int (0 : Int32))] 3 = mkF m 0 #[.val (.ref thisun00), .val (.int (0 : Int32)), .unset] [] := by first | (simp [entryFrame, mkF, argsToLocals, Value.category]; done) | rfl
def Q_un00 (Z : State) (thisun00 : Addr) (values_un00 : Addr) (savedAt_un00 : Addr) (longValues_un00 : Addr) (longSavedAt_un00 : Addr) (savedCells_un00 : Addr) (savedValues_un00 : Addr) (cellCount_un00 : Int32) (longCellCount_un00 : Int32) (epoch_un00 : Int32) (ve0_un00 : Int32) (rvalues_un00 : List Value) (le0_un00 : Int64) (rlongValues_un00 : List Value) (sl0_un00 : Int32) (sl1_un00 : Int32) (sl2_un00 : Int32) (sl3_un00 : Int32) (rsavedCells_un00 : List Value) (se0_un00 : Int64) (se1_un00 : Int64) (se2_un00 : Int64) (se3_un00 : Int64) (rsavedValues_un00 : List Value) (h0 : Heap) (n0 : Nat) (v : Option Value) (h : Heap) (L : List Loc) : Prop := v = none ∧ Fr n0 L ∧ Keep h0 h [thisun00] ∧ Exa Z h thisun00 "com/example/tauten/tauten/Trail" ∧ Fld Z h thisun00 "com/example/tauten/tauten/Trail" "values" "[I" (.ref values_un00) ∧ Fld Z h thisun00 "com/example/tauten/tauten/Trail" "savedAt" "[I" (.ref savedAt_un00) ∧ Fld Z h thisun00 "com/example/tauten/tauten/Trail" "longValues" "[J" (.ref longValues_un00) ∧ Fld Z h thisun00 "com/example/tauten/tauten/Trail" "longSavedAt" "[I" (.ref longSavedAt_un00) ∧ Fld Z h thisun00 "com/example/tauten/tauten/Trail" "savedCells" "[I" (.ref savedCells_un00) ∧ Fld Z h thisun00 "com/example/tauten/tauten/Trail" "savedValues" "[J" (.ref savedValues_un00) ∧ Fld Z h thisun00 "com/example/tauten/tauten/Trail" "cellCount" "I" (.int cellCount_un00) ∧ Fld Z h thisun00 "com/example/tauten/tauten/Trail" "longCellCount" "I" (.int longCellCount_un00) ∧ Fld Z h thisun00 "com/example/tauten/tauten/Trail" "savedCount" "I" (.int (0 : Int32)) ∧ Fld Z h thisun00 "com/example/tauten/tauten/Trail" "epoch" "I" (.int (epoch_un00 + (1 : Int32)))
set_option maxRecDepth 65536 in
set_option maxHeartbeats 40000000 in
theorem rm_un00 (l : Launch) (Z : State) (a0 : Array Value) (hw : ∀ d ∈ tables_1, d.before a0 Z = true) (ws : List Jvm.Cond) (thisun00 : Addr) (values_un00 : Addr) (savedAt_un00 : Addr) (longValues_un00 : Addr) (longSavedAt_un00 : Addr) (savedCells_un00 : Addr) (savedValues_un00 : Addr) (cellCount_un00 : Int32) (longCellCount_un00 : Int32) (epoch_un00 : Int32) (ve0_un00 : Int32) (rvalues_un00 : List Value) (le0_un00 : Int64) (rlongValues_un00 : List Value) (sl0_un00 : Int32) (sl1_un00 : Int32) (sl2_un00 : Int32) (sl3_un00 : Int32) (rsavedCells_un00 : List Value) (se0_un00 : Int64) (se1_un00 : Int64) (se2_un00 : Int64) (se3_un00 : Int64) (rsavedValues_un00 : List Value) (h0 : Heap) (n0 : Nat) (Z0 : n0 ≤ h0.size) (E_thisun00 : Exa Z h0 thisun00 "com/example/tauten/tauten/Trail") (F_thisun00_values : Fld Z h0 thisun00 "com/example/tauten/tauten/Trail" "values" "[I" (.ref values_un00)) (F_thisun00_savedAt : Fld Z h0 thisun00 "com/example/tauten/tauten/Trail" "savedAt" "[I" (.ref savedAt_un00)) (F_thisun00_longValues : Fld Z h0 thisun00 "com/example/tauten/tauten/Trail" "longValues" "[J" (.ref longValues_un00)) (F_thisun00_longSavedAt : Fld Z h0 thisun00 "com/example/tauten/tauten/Trail" "longSavedAt" "[I" (.ref longSavedAt_un00)) (F_thisun00_savedCells : Fld Z h0 thisun00 "com/example/tauten/tauten/Trail" "savedCells" "[I" (.ref savedCells_un00)) (F_thisun00_savedValues : Fld Z h0 thisun00 "com/example/tauten/tauten/Trail" "savedValues" "[J" (.ref savedValues_un00)) (F_thisun00_cellCount : Fld Z h0 thisun00 "com/example/tauten/tauten/Trail" "cellCount" "I" (.int cellCount_un00)) (F_thisun00_longCellCount : Fld Z h0 thisun00 "com/example/tauten/tauten/Trail" "longCellCount" "I" (.int longCellCount_un00)) (F_thisun00_savedCount : Fld Z h0 thisun00 "com/example/tauten/tauten/Trail" "savedCount" "I" (.int (0 : Int32))) (F_thisun00_epoch : Fld Z h0 thisun00 "com/example/tauten/tauten/Trail" "epoch" "I" (.int epoch_un00)) (g_thisun00 : n0 ≤ thisun00) (V_values_un00 : Al Z h0 values_un00 .int ((.int ve0_un00) :: rvalues_un00)) (g_values_un00 : n0 ≤ values_un00) (ne_values_un00_thisun00 : values_un00 ≠ thisun00) (V_longValues_un00 : Al Z h0 longValues_un00 .long ((.long le0_un00) :: rlongValues_un00)) (g_longValues_un00 : n0 ≤ longValues_un00) (ne_longValues_un00_thisun00 : longValues_un00 ≠ thisun00) (V_savedCells_un00 : Al Z h0 savedCells_un00 .int ((.int sl0_un00) :: (.int sl1_un00) :: (.int sl2_un00) :: (.int sl3_un00) :: rsavedCells_un00)) (g_savedCells_un00 : n0 ≤ savedCells_un00) (ne_savedCells_un00_thisun00 : savedCells_un00 ≠ thisun00) (V_savedValues_un00 : Al Z h0 savedValues_un00 .long ((.long se0_un00) :: (.long se1_un00) :: (.long se2_un00) :: (.long se3_un00) :: rsavedValues_un00)) (g_savedValues_un00 : n0 ≤ savedValues_un00) (ne_savedValues_un00_thisun00 : savedValues_un00 ≠ thisun00) (ne_values_un00_longValues_un00 : values_un00 ≠ longValues_un00) (ne_values_un00_savedCells_un00 : values_un00 ≠ savedCells_un00) (ne_values_un00_savedValues_un00 : values_un00 ≠ savedValues_un00) (ne_longValues_un00_savedCells_un00 : longValues_un00 ≠ savedCells_un00) (ne_longValues_un00_savedValues_un00 : longValues_un00 ≠ savedValues_un00) (ne_savedCells_un00_savedValues_un00 : savedCells_un00 ≠ savedValues_un00) :
    MetFree l mt9 (head1 (Jvm.Cond.code mt9 prog_71_method_9_code 3 none :: ws) ({ frames := 0, cells := 0, slots := 0, locals := 0 } : Room)) (fun a U => a = #[(.ref thisun00), (.int (0 : Int32))] ∧ Z.Warmed39 U.vm ∧ U.heap = h0) (fun _ _ _ _ _ => True) (fun _ U o U' => ∃ v L, o = .returned v ∧ (Q_un00 Z thisun00 values_un00 savedAt_un00 longValues_un00 longSavedAt_un00 savedCells_un00 savedValues_un00 cellCount_un00 longCellCount_un00 epoch_un00 ve0_un00 rvalues_un00 le0_un00 rlongValues_un00 sl0_un00 sl1_un00 sl2_un00 sl3_un00 rsavedCells_un00 se0_un00 se1_un00 se2_un00 se3_un00 rsavedValues_un00 h0 n0) v U'.heap L ∧ FrameEnd U o U' L ({ frames := 0, cells := 0, slots := 0, locals := 0 } : Room).cells ({ frames := 0, cells := 0, slots := 0, locals := 0 } : Room).slots) := by
  refine MetFree.of_bodySF (plainFor_of_name pn1) hisR ?_
  intro p e s m args below meth c s₁ Bd hml0 hP hK
  obtain ⟨rfl, hZ, hh⟩ := hP
  have hx := Bd.exec
  have hby := Bd.bytes
  have hml : c.maxLocals = 3 := hml0
  have hown : s.vm.findClass "com/example/tauten/tauten/Trail" = some m.cls := findClass_of_methodNamed Bd.named
  have hnm := (name_of_methodNamed Bd.named Bd.method).1
  have X0 : Stand p l e ({ frames := 0, cells := 0, slots := 0, locals := 0 } : Room) s m #[(.ref thisun00), (.int (0 : Int32))] below meth c s₁ [] 0 0 := Stand.of_body Bd
  have e0 : s₁.heap = h0 := by rw [← hh, Bd.state]; rfl
  have N0 := Fr.nil n0
  refine Wq.step (p := p) (e := e) (below := below) (En := (fun o t L => FrameEnd s o t L ({ frames := 0, cells := 0, slots := 0, locals := 0 } : Room).cells ({ frames := 0, cells := 0, slots := 0, locals := 0 } : Room).slots)) (Q := (Q_un00 Z thisun00 values_un00 savedAt_un00 longValues_un00 longSavedAt_un00 savedCells_un00 savedValues_un00 cellCount_un00 longCellCount_un00 epoch_un00 ve0_un00 rvalues_un00 le0_un00 rlongValues_un00 sl0_un00 sl1_un00 sl2_un00 sl3_un00 rsavedCells_un00 se0_un00 se1_un00 se2_un00 se3_un00 rsavedValues_un00 h0 n0)) (fun t k => castTop (ef_un00 m thisun00) k) ?_
  show Wq _ _ _ _ _ (s₁.setTop (mkF m 0 #[.val (.ref thisun00), .val (.int (0 : Int32)), .unset] []))
  refine Ow.aloadN X0 hx (pc' := 1) (hb hby d_prog_71_method_9_0) rfl rfl ?_
  obtain ⟨T78, X78, e78, st78⟩ := getF X0 hx hZ hown (host := "") (Or.inl (kw44 hw)) Via.refl e0 F_thisun00_savedCount (g := (mkF m 1 #[.val (.ref thisun00), .val (.int (0 : Int32)), .unset] [(.ref thisun00)])) rfl rfl (hb hby d_prog_71_method_9_1)
  refine Wq.step st78 ?_
  show Wq _ _ _ _ _ (T78.setTop (mkF m 4 #[.val (.ref thisun00), .val (.int (0 : Int32)), .unset] [(.int (0 : Int32))]))
  refine Ow.iloadN X78 hx (pc' := 5) (hb hby d_prog_71_method_9_4) rfl ?_
  refine Ow.icmpYes X78 hx (pc' := 71) (hb hby d_prog_71_method_9_5) (flt (by decide : ¬ ((0 : Int32) < (0 : Int32)))).2.2.2 (by decide) (by decide) ?_
  refine Ow.aloadN X78 hx (pc' := 72) (hb hby d_prog_71_method_9_71) rfl rfl ?_
  refine Ow.dup X78 hx (pc' := 73) (hb hby d_prog_71_method_9_72) rfl ?_
  obtain ⟨T79, X79, e79, st79⟩ := getF X78 hx hZ hown (host := "") (Or.inl (kw23 hw)) Via.refl e78 F_thisun00_epoch (g := (mkF m 73 #[.val (.ref thisun00), .val (.int (0 : Int32)), .unset] [(.ref thisun00), (.ref thisun00)])) rfl rfl (hb hby d_prog_71_method_9_73)
  refine Wq.step st79 ?_
  show Wq _ _ _ _ _ (T79.setTop (mkF m 76 #[.val (.ref thisun00), .val (.int (0 : Int32)), .unset] [(.int epoch_un00), (.ref thisun00)]))
  refine Ow.iconst X79 hx (pc' := 77) (hb hby d_prog_71_method_9_76) (z := (1 : Int32)) rfl ?_
  refine Ow.iadd X79 hx (pc' := 78) (hb hby d_prog_71_method_9_77) (z := (epoch_un00 + (1 : Int32))) rfl ?_
  obtain ⟨T80, h80, X80, e80, W80, st80⟩ := putF X79 hx hZ hown (host := "") (Or.inl (kw23 hw)) Via.refl e79 F_thisun00_epoch E_thisun00 (Or.inl (kw24 hw)) (kw1 hw) (ty := .int) (by decide) (rfl) (rfl) (g := (mkF m 78 #[.val (.ref thisun00), .val (.int (0 : Int32)), .unset] [(.int (epoch_un00 + (1 : Int32))), (.ref thisun00)])) rfl rfl (hb hby d_prog_71_method_9_78)
  refine Wq.step st80 ?_
  have N80 := Fr.snoc X80 N0 g_thisun00
  have K80 : Keep h0 h80 [thisun00] := (Keep.refl h0 [thisun00]).wr W80 (Or.inl (List.mem_of_getElem? (i := 0) rfl))
  have Z80 : n0 ≤ h80.size := Nat.le_trans Z0 (Keep.of_wr W80).1
  have E_thisun00_t80 := E_thisun00.wr W80
  have F_thisun00_values_t80 := F_thisun00_values.other W80 (Or.inr (slot_ne (Or.inl (kw11 hw)) (Or.inl (kw24 hw)) (by decide) (t := (.array .int)) (t' := .int) (by decide) (by decide)))
  have F_thisun00_savedAt_t80 := F_thisun00_savedAt.other W80 (Or.inr (slot_ne (Or.inl (kw13 hw)) (Or.inl (kw24 hw)) (by decide) (t := (.array .int)) (t' := .int) (by decide) (by decide)))
  have F_thisun00_longValues_t80 := F_thisun00_longValues.other W80 (Or.inr (slot_ne (Or.inl (kw16 hw)) (Or.inl (kw24 hw)) (by decide) (t := (.array .long)) (t' := .int) (by decide) (by decide)))
  have F_thisun00_longSavedAt_t80 := F_thisun00_longSavedAt.other W80 (Or.inr (slot_ne (Or.inl (kw18 hw)) (Or.inl (kw24 hw)) (by decide) (t := (.array .int)) (t' := .int) (by decide) (by decide)))
  have F_thisun00_savedCells_t80 := F_thisun00_savedCells.other W80 (Or.inr (slot_ne (Or.inl (kw20 hw)) (Or.inl (kw24 hw)) (by decide) (t := (.array .int)) (t' := .int) (by decide) (by decide)))
  have F_thisun00_savedValues_t80 := F_thisun00_savedValues.other W80 (Or.inr (slot_ne (Or.inl (kw22 hw)) (Or.inl (kw24 hw)) (by decide) (t := (.array .long)) (t' := .int) (by decide) (by decide)))
  have F_thisun00_cellCount_t80 := F_thisun00_cellCount.other W80 (Or.inr (slot_ne (Or.inl (kw31 hw)) (Or.inl (kw24 hw)) (by decide) (t := .int) (t' := .int) (by decide) (by decide)))
  have F_thisun00_longCellCount_t80 := F_thisun00_longCellCount.other W80 (Or.inr (slot_ne (Or.inl (kw38 hw)) (Or.inl (kw24 hw)) (by decide) (t := .int) (t' := .int) (by decide) (by decide)))
  have F_thisun00_savedCount_t80 := F_thisun00_savedCount.other W80 (Or.inr (slot_ne (Or.inl (kw45 hw)) (Or.inl (kw24 hw)) (by decide) (t := .int) (t' := .int) (by decide) (by decide)))
  have V_values_un00_t80 := V_values_un00.other W80 ne_values_un00_thisun00
  have V_longValues_un00_t80 := V_longValues_un00.other W80 ne_longValues_un00_thisun00
  have V_savedCells_un00_t80 := V_savedCells_un00.other W80 ne_savedCells_un00_thisun00
  have V_savedValues_un00_t80 := V_savedValues_un00.other W80 ne_savedValues_un00_thisun00
  have F_thisun00_epoch_t80 : Fld Z h80 thisun00 "com/example/tauten/tauten/Trail" "epoch" "I" (.int (epoch_un00 + (1 : Int32))) := F_thisun00_epoch.same W80
  show Wq _ _ _ _ _ (T80.setTop (mkF m 81 #[.val (.ref thisun00), .val (.int (0 : Int32)), .unset] []))
  exact Wq.ret X80 (BodyLoose.notSynchronized Bd) (rv := none) (fun _ => rfl) (fun _ hr => X80.returnOut hx Bd.returns (hb hby d_prog_71_method_9_81) hr) (by decide) (by decide) (by rw [e80]; exact ⟨rfl, N80, K80, E_thisun00_t80, F_thisun00_values_t80, F_thisun00_savedAt_t80, F_thisun00_longValues_t80, F_thisun00_longSavedAt_t80, F_thisun00_savedCells_t80, F_thisun00_savedValues_t80, F_thisun00_cellCount_t80, F_thisun00_longCellCount_t80, F_thisun00_savedCount_t80, F_thisun00_epoch_t80⟩)
theorem kw75 {Z : State} {a0 : Array Value} (hw : ∀ d ∈ tables_1, d.before a0 Z = true) : (Jvm.Cond.constantLong "com/example/tauten/tauten/TrailUndoPinLaw" (30 : Nat) (-1 : Int64)).before a0 Z = true := hw _ (List.mem_of_getElem? (i := 75) rfl)
theorem ef_sv1 (m : MethodId) (thissv1 : Addr) (xsv1_1 : Int32) (ysv1_2 : Int64) : entryFrame m #[(.ref thissv1), (.int xsv1_1), (.long ysv1_2)] 4 = mkF m 0 #[.val (.ref thissv1), .val (.int xsv1_1), .val (.long ysv1_2), .second] [] := by first | (simp [entryFrame, mkF, argsToLocals, Value.category]; done) | rfl
def Q_sv1 (Z : State) (thissv1 : Addr) (xsv1_1 : Int32) (ysv1_2 : Int64) (values_sv1 : Addr) (savedAt_sv1 : Addr) (longValues_sv1 : Addr) (longSavedAt_sv1 : Addr) (savedCells_sv1 : Addr) (savedValues_sv1 : Addr) (cellCount_sv1 : Int32) (longCellCount_sv1 : Int32) (epoch_sv1 : Int32) (sl0_sv1 : Int32) (sl1_sv1 : Int32) (sl2_sv1 : Int32) (sl3_sv1 : Int32) (rsavedCells_sv1 : List Value) (se0_sv1 : Int64) (se1_sv1 : Int64) (se2_sv1 : Int64) (se3_sv1 : Int64) (rsavedValues_sv1 : List Value) (h0 : Heap) (n0 : Nat) (v : Option Value) (h : Heap) (L : List Loc) : Prop := v = none ∧ Fr n0 L ∧ Keep h0 h [savedCells_sv1, savedValues_sv1, thissv1] ∧ Exa Z h thissv1 "com/example/tauten/tauten/Trail" ∧ Fld Z h thissv1 "com/example/tauten/tauten/Trail" "values" "[I" (.ref values_sv1) ∧ Fld Z h thissv1 "com/example/tauten/tauten/Trail" "savedAt" "[I" (.ref savedAt_sv1) ∧ Fld Z h thissv1 "com/example/tauten/tauten/Trail" "longValues" "[J" (.ref longValues_sv1) ∧ Fld Z h thissv1 "com/example/tauten/tauten/Trail" "longSavedAt" "[I" (.ref longSavedAt_sv1) ∧ Fld Z h thissv1 "com/example/tauten/tauten/Trail" "savedCells" "[I" (.ref savedCells_sv1) ∧ Fld Z h thissv1 "com/example/tauten/tauten/Trail" "savedValues" "[J" (.ref savedValues_sv1) ∧ Fld Z h thissv1 "com/example/tauten/tauten/Trail" "cellCount" "I" (.int cellCount_sv1) ∧ Fld Z h thissv1 "com/example/tauten/tauten/Trail" "longCellCount" "I" (.int longCellCount_sv1) ∧ Fld Z h thissv1 "com/example/tauten/tauten/Trail" "epoch" "I" (.int epoch_sv1) ∧ Al Z h savedCells_sv1 .int ((.int sl0_sv1) :: (.int xsv1_1) :: (.int sl2_sv1) :: (.int sl3_sv1) :: rsavedCells_sv1) ∧ Al Z h savedValues_sv1 .long ((.long se0_sv1) :: (.long ysv1_2) :: (.long se2_sv1) :: (.long se3_sv1) :: rsavedValues_sv1) ∧ Fld Z h thissv1 "com/example/tauten/tauten/Trail" "savedCount" "I" (.int (2 : Int32))
set_option maxRecDepth 65536 in
set_option maxHeartbeats 40000000 in
theorem rm_sv1 (l : Launch) (Z : State) (a0 : Array Value) (hw : ∀ d ∈ tables_1, d.before a0 Z = true) (ws : List Jvm.Cond) (thissv1 : Addr) (xsv1_1 : Int32) (ysv1_2 : Int64) (values_sv1 : Addr) (savedAt_sv1 : Addr) (longValues_sv1 : Addr) (longSavedAt_sv1 : Addr) (savedCells_sv1 : Addr) (savedValues_sv1 : Addr) (cellCount_sv1 : Int32) (longCellCount_sv1 : Int32) (epoch_sv1 : Int32) (sl0_sv1 : Int32) (sl1_sv1 : Int32) (sl2_sv1 : Int32) (sl3_sv1 : Int32) (rsavedCells_sv1 : List Value) (se0_sv1 : Int64) (se1_sv1 : Int64) (se2_sv1 : Int64) (se3_sv1 : Int64) (rsavedValues_sv1 : List Value) (h0 : Heap) (n0 : Nat) (Z0 : n0 ≤ h0.size) (hlen : rsavedCells_sv1.length = 252) (E_thissv1 : Exa Z h0 thissv1 "com/example/tauten/tauten/Trail") (F_thissv1_values : Fld Z h0 thissv1 "com/example/tauten/tauten/Trail" "values" "[I" (.ref values_sv1)) (F_thissv1_savedAt : Fld Z h0 thissv1 "com/example/tauten/tauten/Trail" "savedAt" "[I" (.ref savedAt_sv1)) (F_thissv1_longValues : Fld Z h0 thissv1 "com/example/tauten/tauten/Trail" "longValues" "[J" (.ref longValues_sv1)) (F_thissv1_longSavedAt : Fld Z h0 thissv1 "com/example/tauten/tauten/Trail" "longSavedAt" "[I" (.ref longSavedAt_sv1)) (F_thissv1_savedCells : Fld Z h0 thissv1 "com/example/tauten/tauten/Trail" "savedCells" "[I" (.ref savedCells_sv1)) (F_thissv1_savedValues : Fld Z h0 thissv1 "com/example/tauten/tauten/Trail" "savedValues" "[J" (.ref savedValues_sv1)) (F_thissv1_cellCount : Fld Z h0 thissv1 "com/example/tauten/tauten/Trail" "cellCount" "I" (.int cellCount_sv1)) (F_thissv1_longCellCount : Fld Z h0 thissv1 "com/example/tauten/tauten/Trail" "longCellCount" "I" (.int longCellCount_sv1)) (F_thissv1_savedCount : Fld Z h0 thissv1 "com/example/tauten/tauten/Trail" "savedCount" "I" (.int (1 : Int32))) (F_thissv1_epoch : Fld Z h0 thissv1 "com/example/tauten/tauten/Trail" "epoch" "I" (.int epoch_sv1)) (g_thissv1 : n0 ≤ thissv1) (V_savedCells_sv1 : Al Z h0 savedCells_sv1 .int ((.int sl0_sv1) :: (.int sl1_sv1) :: (.int sl2_sv1) :: (.int sl3_sv1) :: rsavedCells_sv1)) (g_savedCells_sv1 : n0 ≤ savedCells_sv1) (ne_savedCells_sv1_thissv1 : savedCells_sv1 ≠ thissv1) (V_savedValues_sv1 : Al Z h0 savedValues_sv1 .long ((.long se0_sv1) :: (.long se1_sv1) :: (.long se2_sv1) :: (.long se3_sv1) :: rsavedValues_sv1)) (g_savedValues_sv1 : n0 ≤ savedValues_sv1) (ne_savedValues_sv1_thissv1 : savedValues_sv1 ≠ thissv1) (ne_savedCells_sv1_savedValues_sv1 : savedCells_sv1 ≠ savedValues_sv1) :
    MetFree l mt7 (head1 (Jvm.Cond.code mt7 prog_71_method_10_code 4 none :: ws) ({ frames := 0, cells := 0, slots := 0, locals := 0 } : Room)) (fun a U => a = #[(.ref thissv1), (.int xsv1_1), (.long ysv1_2)] ∧ Z.Warmed39 U.vm ∧ U.heap = h0) (fun _ _ _ _ _ => True) (fun _ U o U' => ∃ v L, o = .returned v ∧ (Q_sv1 Z thissv1 xsv1_1 ysv1_2 values_sv1 savedAt_sv1 longValues_sv1 longSavedAt_sv1 savedCells_sv1 savedValues_sv1 cellCount_sv1 longCellCount_sv1 epoch_sv1 sl0_sv1 sl1_sv1 sl2_sv1 sl3_sv1 rsavedCells_sv1 se0_sv1 se1_sv1 se2_sv1 se3_sv1 rsavedValues_sv1 h0 n0) v U'.heap L ∧ FrameEnd U o U' L ({ frames := 0, cells := 0, slots := 0, locals := 0 } : Room).cells ({ frames := 0, cells := 0, slots := 0, locals := 0 } : Room).slots) := by
  refine MetFree.of_bodySF (plainFor_of_name pn1) hisR ?_
  intro p e s m args below meth c s₁ Bd hml0 hP hK
  obtain ⟨rfl, hZ, hh⟩ := hP
  have hx := Bd.exec
  have hby := Bd.bytes
  have hml : c.maxLocals = 4 := hml0
  have hown : s.vm.findClass "com/example/tauten/tauten/Trail" = some m.cls := findClass_of_methodNamed Bd.named
  have hnm := (name_of_methodNamed Bd.named Bd.method).1
  have X0 : Stand p l e ({ frames := 0, cells := 0, slots := 0, locals := 0 } : Room) s m #[(.ref thissv1), (.int xsv1_1), (.long ysv1_2)] below meth c s₁ [] 0 0 := Stand.of_body Bd
  have e0 : s₁.heap = h0 := by rw [← hh, Bd.state]; rfl
  have N0 := Fr.nil n0
  refine Wq.step (p := p) (e := e) (below := below) (En := (fun o t L => FrameEnd s o t L ({ frames := 0, cells := 0, slots := 0, locals := 0 } : Room).cells ({ frames := 0, cells := 0, slots := 0, locals := 0 } : Room).slots)) (Q := (Q_sv1 Z thissv1 xsv1_1 ysv1_2 values_sv1 savedAt_sv1 longValues_sv1 longSavedAt_sv1 savedCells_sv1 savedValues_sv1 cellCount_sv1 longCellCount_sv1 epoch_sv1 sl0_sv1 sl1_sv1 sl2_sv1 sl3_sv1 rsavedCells_sv1 se0_sv1 se1_sv1 se2_sv1 se3_sv1 rsavedValues_sv1 h0 n0)) (fun t k => castTop (ef_sv1 m thissv1 xsv1_1 ysv1_2) k) ?_
  show Wq _ _ _ _ _ (s₁.setTop (mkF m 0 #[.val (.ref thissv1), .val (.int xsv1_1), .val (.long ysv1_2), .second] []))
  refine Ow.aloadN X0 hx (pc' := 1) (hb hby d_prog_71_method_10_0) rfl rfl ?_
  obtain ⟨T84, X84, e84, st84⟩ := getF X0 hx hZ hown (host := "") (Or.inl (kw44 hw)) Via.refl e0 F_thissv1_savedCount (g := (mkF m 1 #[.val (.ref thissv1), .val (.int xsv1_1), .val (.long ysv1_2), .second] [(.ref thissv1)])) rfl rfl (hb hby d_prog_71_method_10_1)
  refine Wq.step st84 ?_
  show Wq _ _ _ _ _ (T84.setTop (mkF m 4 #[.val (.ref thissv1), .val (.int xsv1_1), .val (.long ysv1_2), .second] [(.int (1 : Int32))]))
  refine Ow.aloadN X84 hx (pc' := 5) (hb hby d_prog_71_method_10_4) rfl rfl ?_
  obtain ⟨T85, X85, e85, st85⟩ := getF X84 hx hZ hown (host := "") (Or.inl (kw19 hw)) Via.refl e84 F_thissv1_savedCells (g := (mkF m 5 #[.val (.ref thissv1), .val (.int xsv1_1), .val (.long ysv1_2), .second] [(.ref thissv1), (.int (1 : Int32))])) rfl rfl (hb hby d_prog_71_method_10_5)
  refine Wq.step st85 ?_
  show Wq _ _ _ _ _ (T85.setTop (mkF m 8 #[.val (.ref thissv1), .val (.int xsv1_1), .val (.long ysv1_2), .second] [(.ref savedCells_sv1), (.int (1 : Int32))]))
  refine Ow.lenA X85 hx hZ e85 V_savedCells_sv1 (pc' := 9) (hb hby d_prog_71_method_10_8) (n := (256 : Int32)) (by simp only [List.length_cons, hlen]; rfl) ?_
  refine Ow.icmpYes X85 hx (pc' := 46) (hb hby d_prog_71_method_10_9) (feq (by decide : ¬ ((1 : Int32) = (256 : Int32)))).2 (by decide) (by decide) ?_
  refine Ow.aloadN X85 hx (pc' := 47) (hb hby d_prog_71_method_10_46) rfl rfl ?_
  obtain ⟨T86, X86, e86, st86⟩ := getF X85 hx hZ hown (host := "") (Or.inl (kw19 hw)) Via.refl e85 F_thissv1_savedCells (g := (mkF m 47 #[.val (.ref thissv1), .val (.int xsv1_1), .val (.long ysv1_2), .second] [(.ref thissv1)])) rfl rfl (hb hby d_prog_71_method_10_47)
  refine Wq.step st86 ?_
  show Wq _ _ _ _ _ (T86.setTop (mkF m 50 #[.val (.ref thissv1), .val (.int xsv1_1), .val (.long ysv1_2), .second] [(.ref savedCells_sv1)]))
  refine Ow.aloadN X86 hx (pc' := 51) (hb hby d_prog_71_method_10_50) rfl rfl ?_
  obtain ⟨T87, X87, e87, st87⟩ := getF X86 hx hZ hown (host := "") (Or.inl (kw44 hw)) Via.refl e86 F_thissv1_savedCount (g := (mkF m 51 #[.val (.ref thissv1), .val (.int xsv1_1), .val (.long ysv1_2), .second] [(.ref thissv1), (.ref savedCells_sv1)])) rfl rfl (hb hby d_prog_71_method_10_51)
  refine Wq.step st87 ?_
  show Wq _ _ _ _ _ (T87.setTop (mkF m 54 #[.val (.ref thissv1), .val (.int xsv1_1), .val (.long ysv1_2), .second] [(.int (1 : Int32)), (.ref savedCells_sv1)]))
  refine Ow.iloadN X87 hx (pc' := 55) (hb hby d_prog_71_method_10_54) rfl ?_
  obtain ⟨T88, h88, X88, e88, W88, Vr88, st88⟩ := asI X87 hx hZ e87 V_savedCells_sv1 (j := (1 : Int32)) (i := 1) (by decide) rfl (by simp only [List.length_cons]; omega) (g := (mkF m 55 #[.val (.ref thissv1), .val (.int xsv1_1), .val (.long ysv1_2), .second] [(.int xsv1_1), (.int (1 : Int32)), (.ref savedCells_sv1)])) rfl rfl (hb hby d_prog_71_method_10_55)
  refine Wq.step st88 ?_
  have N88 := Fr.snoc X88 N0 g_savedCells_sv1
  have K88 : Keep h0 h88 [savedCells_sv1, savedValues_sv1, thissv1] := (Keep.refl h0 [savedCells_sv1, savedValues_sv1, thissv1]).wr W88 (Or.inl (List.mem_of_getElem? (i := 0) rfl))
  have Z88 : n0 ≤ h88.size := Nat.le_trans Z0 (Keep.of_wr W88).1
  have E_thissv1_t88 := E_thissv1.wr W88
  have F_thissv1_values_t88 := F_thissv1_values.other W88 (Or.inl (Ne.symm ne_savedCells_sv1_thissv1))
  have F_thissv1_savedAt_t88 := F_thissv1_savedAt.other W88 (Or.inl (Ne.symm ne_savedCells_sv1_thissv1))
  have F_thissv1_longValues_t88 := F_thissv1_longValues.other W88 (Or.inl (Ne.symm ne_savedCells_sv1_thissv1))
  have F_thissv1_longSavedAt_t88 := F_thissv1_longSavedAt.other W88 (Or.inl (Ne.symm ne_savedCells_sv1_thissv1))
  have F_thissv1_savedCells_t88 := F_thissv1_savedCells.other W88 (Or.inl (Ne.symm ne_savedCells_sv1_thissv1))
  have F_thissv1_savedValues_t88 := F_thissv1_savedValues.other W88 (Or.inl (Ne.symm ne_savedCells_sv1_thissv1))
  have F_thissv1_cellCount_t88 := F_thissv1_cellCount.other W88 (Or.inl (Ne.symm ne_savedCells_sv1_thissv1))
  have F_thissv1_longCellCount_t88 := F_thissv1_longCellCount.other W88 (Or.inl (Ne.symm ne_savedCells_sv1_thissv1))
  have F_thissv1_savedCount_t88 := F_thissv1_savedCount.other W88 (Or.inl (Ne.symm ne_savedCells_sv1_thissv1))
  have F_thissv1_epoch_t88 := F_thissv1_epoch.other W88 (Or.inl (Ne.symm ne_savedCells_sv1_thissv1))
  have V_savedValues_sv1_t88 := V_savedValues_sv1.other W88 (Ne.symm ne_savedCells_sv1_savedValues_sv1)
  have V_savedCells_sv1_t88 : Al Z h88 savedCells_sv1 .int ((.int sl0_sv1) :: (.int xsv1_1) :: (.int sl2_sv1) :: (.int sl3_sv1) :: rsavedCells_sv1) := Vr88
  show Wq _ _ _ _ _ (T88.setTop (mkF m 56 #[.val (.ref thissv1), .val (.int xsv1_1), .val (.long ysv1_2), .second] []))
  refine Ow.aloadN X88 hx (pc' := 57) (hb hby d_prog_71_method_10_56) rfl rfl ?_
  obtain ⟨T89, X89, e89, st89⟩ := getF X88 hx hZ hown (host := "") (Or.inl (kw21 hw)) Via.refl e88 F_thissv1_savedValues_t88 (g := (mkF m 57 #[.val (.ref thissv1), .val (.int xsv1_1), .val (.long ysv1_2), .second] [(.ref thissv1)])) rfl rfl (hb hby d_prog_71_method_10_57)
  refine Wq.step st89 ?_
  show Wq _ _ _ _ _ (T89.setTop (mkF m 60 #[.val (.ref thissv1), .val (.int xsv1_1), .val (.long ysv1_2), .second] [(.ref savedValues_sv1)]))
  refine Ow.aloadN X89 hx (pc' := 61) (hb hby d_prog_71_method_10_60) rfl rfl ?_
  obtain ⟨T90, X90, e90, st90⟩ := getF X89 hx hZ hown (host := "") (Or.inl (kw44 hw)) Via.refl e89 F_thissv1_savedCount_t88 (g := (mkF m 61 #[.val (.ref thissv1), .val (.int xsv1_1), .val (.long ysv1_2), .second] [(.ref thissv1), (.ref savedValues_sv1)])) rfl rfl (hb hby d_prog_71_method_10_61)
  refine Wq.step st90 ?_
  show Wq _ _ _ _ _ (T90.setTop (mkF m 64 #[.val (.ref thissv1), .val (.int xsv1_1), .val (.long ysv1_2), .second] [(.int (1 : Int32)), (.ref savedValues_sv1)]))
  refine Ow.lloadN X90 hx (pc' := 65) (hb hby d_prog_71_method_10_64) rfl ?_
  obtain ⟨T91, h91, X91, e91, W91, Vr91, st91⟩ := asJ X90 hx hZ e90 V_savedValues_sv1_t88 (j := (1 : Int32)) (i := 1) (by decide) rfl (by simp only [List.length_cons]; omega) (g := (mkF m 65 #[.val (.ref thissv1), .val (.int xsv1_1), .val (.long ysv1_2), .second] [(.long ysv1_2), (.int (1 : Int32)), (.ref savedValues_sv1)])) rfl rfl (hb hby d_prog_71_method_10_65)
  refine Wq.step st91 ?_
  have N91 := Fr.snoc X91 N88 g_savedValues_sv1
  have K91 : Keep h0 h91 [savedCells_sv1, savedValues_sv1, thissv1] := K88.wr W91 (Or.inl (List.mem_of_getElem? (i := 1) rfl))
  have Z91 : n0 ≤ h91.size := Nat.le_trans Z88 (Keep.of_wr W91).1
  have E_thissv1_t91 := E_thissv1_t88.wr W91
  have F_thissv1_values_t91 := F_thissv1_values_t88.other W91 (Or.inl (Ne.symm ne_savedValues_sv1_thissv1))
  have F_thissv1_savedAt_t91 := F_thissv1_savedAt_t88.other W91 (Or.inl (Ne.symm ne_savedValues_sv1_thissv1))
  have F_thissv1_longValues_t91 := F_thissv1_longValues_t88.other W91 (Or.inl (Ne.symm ne_savedValues_sv1_thissv1))
  have F_thissv1_longSavedAt_t91 := F_thissv1_longSavedAt_t88.other W91 (Or.inl (Ne.symm ne_savedValues_sv1_thissv1))
  have F_thissv1_savedCells_t91 := F_thissv1_savedCells_t88.other W91 (Or.inl (Ne.symm ne_savedValues_sv1_thissv1))
  have F_thissv1_savedValues_t91 := F_thissv1_savedValues_t88.other W91 (Or.inl (Ne.symm ne_savedValues_sv1_thissv1))
  have F_thissv1_cellCount_t91 := F_thissv1_cellCount_t88.other W91 (Or.inl (Ne.symm ne_savedValues_sv1_thissv1))
  have F_thissv1_longCellCount_t91 := F_thissv1_longCellCount_t88.other W91 (Or.inl (Ne.symm ne_savedValues_sv1_thissv1))
  have F_thissv1_savedCount_t91 := F_thissv1_savedCount_t88.other W91 (Or.inl (Ne.symm ne_savedValues_sv1_thissv1))
  have F_thissv1_epoch_t91 := F_thissv1_epoch_t88.other W91 (Or.inl (Ne.symm ne_savedValues_sv1_thissv1))
  have V_savedCells_sv1_t91 := V_savedCells_sv1_t88.other W91 ne_savedCells_sv1_savedValues_sv1
  have V_savedValues_sv1_t91 : Al Z h91 savedValues_sv1 .long ((.long se0_sv1) :: (.long ysv1_2) :: (.long se2_sv1) :: (.long se3_sv1) :: rsavedValues_sv1) := Vr91
  show Wq _ _ _ _ _ (T91.setTop (mkF m 66 #[.val (.ref thissv1), .val (.int xsv1_1), .val (.long ysv1_2), .second] []))
  refine Ow.aloadN X91 hx (pc' := 67) (hb hby d_prog_71_method_10_66) rfl rfl ?_
  refine Ow.dup X91 hx (pc' := 68) (hb hby d_prog_71_method_10_67) rfl ?_
  obtain ⟨T92, X92, e92, st92⟩ := getF X91 hx hZ hown (host := "") (Or.inl (kw44 hw)) Via.refl e91 F_thissv1_savedCount_t91 (g := (mkF m 68 #[.val (.ref thissv1), .val (.int xsv1_1), .val (.long ysv1_2), .second] [(.ref thissv1), (.ref thissv1)])) rfl rfl (hb hby d_prog_71_method_10_68)
  refine Wq.step st92 ?_
  show Wq _ _ _ _ _ (T92.setTop (mkF m 71 #[.val (.ref thissv1), .val (.int xsv1_1), .val (.long ysv1_2), .second] [(.int (1 : Int32)), (.ref thissv1)]))
  refine Ow.iconst X92 hx (pc' := 72) (hb hby d_prog_71_method_10_71) (z := (1 : Int32)) rfl ?_
  refine Ow.iadd X92 hx (pc' := 73) (hb hby d_prog_71_method_10_72) (z := (2 : Int32)) rfl ?_
  obtain ⟨T93, h93, X93, e93, W93, st93⟩ := putF X92 hx hZ hown (host := "") (Or.inl (kw44 hw)) Via.refl e92 F_thissv1_savedCount_t91 E_thissv1_t91 (Or.inl (kw45 hw)) (kw1 hw) (ty := .int) (by decide) (rfl) (rfl) (g := (mkF m 73 #[.val (.ref thissv1), .val (.int xsv1_1), .val (.long ysv1_2), .second] [(.int (2 : Int32)), (.ref thissv1)])) rfl rfl (hb hby d_prog_71_method_10_73)
  refine Wq.step st93 ?_
  have N93 := Fr.snoc X93 N91 g_thissv1
  have K93 : Keep h0 h93 [savedCells_sv1, savedValues_sv1, thissv1] := K91.wr W93 (Or.inl (List.mem_of_getElem? (i := 2) rfl))
  have Z93 : n0 ≤ h93.size := Nat.le_trans Z91 (Keep.of_wr W93).1
  have E_thissv1_t93 := E_thissv1_t91.wr W93
  have F_thissv1_values_t93 := F_thissv1_values_t91.other W93 (Or.inr (slot_ne (Or.inl (kw11 hw)) (Or.inl (kw45 hw)) (by decide) (t := (.array .int)) (t' := .int) (by decide) (by decide)))
  have F_thissv1_savedAt_t93 := F_thissv1_savedAt_t91.other W93 (Or.inr (slot_ne (Or.inl (kw13 hw)) (Or.inl (kw45 hw)) (by decide) (t := (.array .int)) (t' := .int) (by decide) (by decide)))
  have F_thissv1_longValues_t93 := F_thissv1_longValues_t91.other W93 (Or.inr (slot_ne (Or.inl (kw16 hw)) (Or.inl (kw45 hw)) (by decide) (t := (.array .long)) (t' := .int) (by decide) (by decide)))
  have F_thissv1_longSavedAt_t93 := F_thissv1_longSavedAt_t91.other W93 (Or.inr (slot_ne (Or.inl (kw18 hw)) (Or.inl (kw45 hw)) (by decide) (t := (.array .int)) (t' := .int) (by decide) (by decide)))
  have F_thissv1_savedCells_t93 := F_thissv1_savedCells_t91.other W93 (Or.inr (slot_ne (Or.inl (kw20 hw)) (Or.inl (kw45 hw)) (by decide) (t := (.array .int)) (t' := .int) (by decide) (by decide)))
  have F_thissv1_savedValues_t93 := F_thissv1_savedValues_t91.other W93 (Or.inr (slot_ne (Or.inl (kw22 hw)) (Or.inl (kw45 hw)) (by decide) (t := (.array .long)) (t' := .int) (by decide) (by decide)))
  have F_thissv1_cellCount_t93 := F_thissv1_cellCount_t91.other W93 (Or.inr (slot_ne (Or.inl (kw31 hw)) (Or.inl (kw45 hw)) (by decide) (t := .int) (t' := .int) (by decide) (by decide)))
  have F_thissv1_longCellCount_t93 := F_thissv1_longCellCount_t91.other W93 (Or.inr (slot_ne (Or.inl (kw38 hw)) (Or.inl (kw45 hw)) (by decide) (t := .int) (t' := .int) (by decide) (by decide)))
  have F_thissv1_epoch_t93 := F_thissv1_epoch_t91.other W93 (Or.inr (slot_ne (Or.inl (kw24 hw)) (Or.inl (kw45 hw)) (by decide) (t := .int) (t' := .int) (by decide) (by decide)))
  have V_savedCells_sv1_t93 := V_savedCells_sv1_t91.other W93 ne_savedCells_sv1_thissv1
  have V_savedValues_sv1_t93 := V_savedValues_sv1_t91.other W93 ne_savedValues_sv1_thissv1
  have F_thissv1_savedCount_t93 : Fld Z h93 thissv1 "com/example/tauten/tauten/Trail" "savedCount" "I" (.int (2 : Int32)) := F_thissv1_savedCount_t91.same W93
  show Wq _ _ _ _ _ (T93.setTop (mkF m 76 #[.val (.ref thissv1), .val (.int xsv1_1), .val (.long ysv1_2), .second] []))
  exact Wq.ret X93 (BodyLoose.notSynchronized Bd) (rv := none) (fun _ => rfl) (fun _ hr => X93.returnOut hx Bd.returns (hb hby d_prog_71_method_10_76) hr) (by decide) (by decide) (by rw [e93]; exact ⟨rfl, N93, K93, E_thissv1_t93, F_thissv1_values_t93, F_thissv1_savedAt_t93, F_thissv1_longValues_t93, F_thissv1_longSavedAt_t93, F_thissv1_savedCells_t93, F_thissv1_savedValues_t93, F_thissv1_cellCount_t93, F_thissv1_longCellCount_t93, F_thissv1_epoch_t93, V_savedCells_sv1_t93, V_savedValues_sv1_t93, F_thissv1_savedCount_t93⟩)
theorem d_prog_71_method_7_0 : decode prog_71_method_7_code 0 = .ok (.aload_n 0, 1) := by decide +kernel
theorem d_prog_71_method_7_1 : decode prog_71_method_7_code 1 = .ok (.getfield 20, 3) := by decide +kernel
theorem d_prog_71_method_7_4 : decode prog_71_method_7_code 4 = .ok (.iload_n 1, 1) := by decide +kernel
theorem d_prog_71_method_7_5 : decode prog_71_method_7_code 5 = .ok (.iaload, 1) := by decide +kernel
theorem d_prog_71_method_7_6 : decode prog_71_method_7_code 6 = .ok (.aload_n 0, 1) := by decide +kernel
theorem d_prog_71_method_7_7 : decode prog_71_method_7_code 7 = .ok (.getfield 29, 3) := by decide +kernel
theorem d_prog_71_method_7_10 : decode prog_71_method_7_code 10 = .ok (.if_icmp .eq 26, 3) := by decide +kernel
theorem d_prog_71_method_7_13 : decode prog_71_method_7_code 13 = .ok (.aload_n 0, 1) := by decide +kernel
theorem d_prog_71_method_7_14 : decode prog_71_method_7_code 14 = .ok (.iload_n 1, 1) := by decide +kernel
theorem d_prog_71_method_7_15 : decode prog_71_method_7_code 15 = .ok (.iconst (-1), 1) := by decide +kernel
theorem d_prog_71_method_7_16 : decode prog_71_method_7_code 16 = .ok (.ixor, 1) := by decide +kernel
theorem d_prog_71_method_7_17 : decode prog_71_method_7_code 17 = .ok (.aload_n 0, 1) := by decide +kernel
theorem d_prog_71_method_7_18 : decode prog_71_method_7_code 18 = .ok (.getfield 16, 3) := by decide +kernel
theorem d_prog_71_method_7_21 : decode prog_71_method_7_code 21 = .ok (.iload_n 1, 1) := by decide +kernel
theorem d_prog_71_method_7_22 : decode prog_71_method_7_code 22 = .ok (.laload, 1) := by decide +kernel
theorem d_prog_71_method_7_23 : decode prog_71_method_7_code 23 = .ok (.invokevirtual 42, 3) := by decide +kernel
theorem d_prog_71_method_7_26 : decode prog_71_method_7_code 26 = .ok (.aload_n 0, 1) := by decide +kernel
theorem d_prog_71_method_7_27 : decode prog_71_method_7_code 27 = .ok (.getfield 20, 3) := by decide +kernel
theorem d_prog_71_method_7_30 : decode prog_71_method_7_code 30 = .ok (.iload_n 1, 1) := by decide +kernel
theorem d_prog_71_method_7_31 : decode prog_71_method_7_code 31 = .ok (.aload_n 0, 1) := by decide +kernel
theorem d_prog_71_method_7_32 : decode prog_71_method_7_code 32 = .ok (.getfield 29, 3) := by decide +kernel
theorem d_prog_71_method_7_35 : decode prog_71_method_7_code 35 = .ok (.iastore, 1) := by decide +kernel
theorem d_prog_71_method_7_36 : decode prog_71_method_7_code 36 = .ok (.aload_n 0, 1) := by decide +kernel
theorem d_prog_71_method_7_37 : decode prog_71_method_7_code 37 = .ok (.getfield 16, 3) := by decide +kernel
theorem d_prog_71_method_7_40 : decode prog_71_method_7_code 40 = .ok (.iload_n 1, 1) := by decide +kernel
theorem d_prog_71_method_7_41 : decode prog_71_method_7_code 41 = .ok (.lload_n 2, 1) := by decide +kernel
theorem d_prog_71_method_7_42 : decode prog_71_method_7_code 42 = .ok (.lastore, 1) := by decide +kernel
theorem ef_sl1 (m : MethodId) (thissl1 : Addr) (ysl1_2 : Int64) : entryFrame m #[(.ref thissl1), (.int (0 : Int32)), (.long ysl1_2)] 4 = mkF m 0 #[.val (.ref thissl1), .val (.int (0 : Int32)), .val (.long ysl1_2), .second] [] := by first | (simp [entryFrame, mkF, argsToLocals, Value.category]; done) | rfl
def Q_sl1 (Z : State) (thissl1 : Addr) (ysl1_2 : Int64) (values_sl1 : Addr) (savedAt_sl1 : Addr) (longValues_sl1 : Addr) (longSavedAt_sl1 : Addr) (savedCells_sl1 : Addr) (savedValues_sl1 : Addr) (cellCount_sl1 : Int32) (longCellCount_sl1 : Int32) (epoch_sl1 : Int32) (le0_sl1 : Int64) (rlongValues_sl1 : List Value) (lA0_sl1 : Int32) (rlongSavedAt_sl1 : List Value) (sl0_sl1 : Int32) (sl1_sl1 : Int32) (sl2_sl1 : Int32) (sl3_sl1 : Int32) (rsavedCells_sl1 : List Value) (se0_sl1 : Int64) (se1_sl1 : Int64) (se2_sl1 : Int64) (se3_sl1 : Int64) (rsavedValues_sl1 : List Value) (h0 : Heap) (n0 : Nat) (v : Option Value) (h : Heap) (L : List Loc) : Prop := v = none ∧ Fr n0 L ∧ Keep h0 h [thissl1, savedValues_sl1, savedCells_sl1, longSavedAt_sl1, longValues_sl1] ∧ Exa Z h thissl1 "com/example/tauten/tauten/Trail" ∧ Fld Z h thissl1 "com/example/tauten/tauten/Trail" "values" "[I" (.ref values_sl1) ∧ Fld Z h thissl1 "com/example/tauten/tauten/Trail" "savedAt" "[I" (.ref savedAt_sl1) ∧ Fld Z h thissl1 "com/example/tauten/tauten/Trail" "longValues" "[J" (.ref longValues_sl1) ∧ Fld Z h thissl1 "com/example/tauten/tauten/Trail" "longSavedAt" "[I" (.ref longSavedAt_sl1) ∧ Fld Z h thissl1 "com/example/tauten/tauten/Trail" "savedCells" "[I" (.ref savedCells_sl1) ∧ Fld Z h thissl1 "com/example/tauten/tauten/Trail" "savedValues" "[J" (.ref savedValues_sl1) ∧ Fld Z h thissl1 "com/example/tauten/tauten/Trail" "cellCount" "I" (.int cellCount_sl1) ∧ Fld Z h thissl1 "com/example/tauten/tauten/Trail" "longCellCount" "I" (.int longCellCount_sl1) ∧ Fld Z h thissl1 "com/example/tauten/tauten/Trail" "epoch" "I" (.int epoch_sl1) ∧ Al Z h savedCells_sl1 .int ((.int sl0_sl1) :: (.int (-1 : Int32)) :: (.int sl2_sl1) :: (.int sl3_sl1) :: rsavedCells_sl1) ∧ Al Z h savedValues_sl1 .long ((.long se0_sl1) :: (.long le0_sl1) :: (.long se2_sl1) :: (.long se3_sl1) :: rsavedValues_sl1) ∧ Fld Z h thissl1 "com/example/tauten/tauten/Trail" "savedCount" "I" (.int (2 : Int32)) ∧ Al Z h longSavedAt_sl1 .int ((.int epoch_sl1) :: rlongSavedAt_sl1) ∧ Al Z h longValues_sl1 .long ((.long ysl1_2) :: rlongValues_sl1)
theorem d_prog_71_method_7_43 : decode prog_71_method_7_code 43 = .ok (.return_, 1) := by decide +kernel
abbrev mt10 : MethodName := ⟨"com/example/tauten/tauten/Trail", "setLong", "(IJ)V"⟩
set_option maxRecDepth 65536 in
set_option maxHeartbeats 40000000 in
theorem rm_sl1 (l : Launch) (Z : State) (a0 : Array Value) (hw : ∀ d ∈ tables_1, d.before a0 Z = true) (ws : List Jvm.Cond) (thissl1 : Addr) (ysl1_2 : Int64) (values_sl1 : Addr) (savedAt_sl1 : Addr) (longValues_sl1 : Addr) (longSavedAt_sl1 : Addr) (savedCells_sl1 : Addr) (savedValues_sl1 : Addr) (cellCount_sl1 : Int32) (longCellCount_sl1 : Int32) (epoch_sl1 : Int32) (le0_sl1 : Int64) (rlongValues_sl1 : List Value) (lA0_sl1 : Int32) (rlongSavedAt_sl1 : List Value) (sl0_sl1 : Int32) (sl1_sl1 : Int32) (sl2_sl1 : Int32) (sl3_sl1 : Int32) (rsavedCells_sl1 : List Value) (se0_sl1 : Int64) (se1_sl1 : Int64) (se2_sl1 : Int64) (se3_sl1 : Int64) (rsavedValues_sl1 : List Value) (h0 : Heap) (n0 : Nat) (Z0 : n0 ≤ h0.size) (hlen : rsavedCells_sl1.length = 252) (E_thissl1 : Exa Z h0 thissl1 "com/example/tauten/tauten/Trail") (F_thissl1_values : Fld Z h0 thissl1 "com/example/tauten/tauten/Trail" "values" "[I" (.ref values_sl1)) (F_thissl1_savedAt : Fld Z h0 thissl1 "com/example/tauten/tauten/Trail" "savedAt" "[I" (.ref savedAt_sl1)) (F_thissl1_longValues : Fld Z h0 thissl1 "com/example/tauten/tauten/Trail" "longValues" "[J" (.ref longValues_sl1)) (F_thissl1_longSavedAt : Fld Z h0 thissl1 "com/example/tauten/tauten/Trail" "longSavedAt" "[I" (.ref longSavedAt_sl1)) (F_thissl1_savedCells : Fld Z h0 thissl1 "com/example/tauten/tauten/Trail" "savedCells" "[I" (.ref savedCells_sl1)) (F_thissl1_savedValues : Fld Z h0 thissl1 "com/example/tauten/tauten/Trail" "savedValues" "[J" (.ref savedValues_sl1)) (F_thissl1_cellCount : Fld Z h0 thissl1 "com/example/tauten/tauten/Trail" "cellCount" "I" (.int cellCount_sl1)) (F_thissl1_longCellCount : Fld Z h0 thissl1 "com/example/tauten/tauten/Trail" "longCellCount" "I" (.int longCellCount_sl1)) (F_thissl1_savedCount : Fld Z h0 thissl1 "com/example/tauten/tauten/Trail" "savedCount" "I" (.int (1 : Int32))) (F_thissl1_epoch : Fld Z h0 thissl1 "com/example/tauten/tauten/Trail" "epoch" "I" (.int epoch_sl1)) (g_thissl1 : n0 ≤ thissl1) (V_longValues_sl1 : Al Z h0 longValues_sl1 .long ((.long le0_sl1) :: rlongValues_sl1)) (g_longValues_sl1 : n0 ≤ longValues_sl1) (ne_longValues_sl1_thissl1 : longValues_sl1 ≠ thissl1) (V_longSavedAt_sl1 : Al Z h0 longSavedAt_sl1 .int ((.int lA0_sl1) :: rlongSavedAt_sl1)) (g_longSavedAt_sl1 : n0 ≤ longSavedAt_sl1) (ne_longSavedAt_sl1_thissl1 : longSavedAt_sl1 ≠ thissl1) (V_savedCells_sl1 : Al Z h0 savedCells_sl1 .int ((.int sl0_sl1) :: (.int sl1_sl1) :: (.int sl2_sl1) :: (.int sl3_sl1) :: rsavedCells_sl1)) (g_savedCells_sl1 : n0 ≤ savedCells_sl1) (ne_savedCells_sl1_thissl1 : savedCells_sl1 ≠ thissl1) (V_savedValues_sl1 : Al Z h0 savedValues_sl1 .long ((.long se0_sl1) :: (.long se1_sl1) :: (.long se2_sl1) :: (.long se3_sl1) :: rsavedValues_sl1)) (g_savedValues_sl1 : n0 ≤ savedValues_sl1) (ne_savedValues_sl1_thissl1 : savedValues_sl1 ≠ thissl1) (ne_longValues_sl1_longSavedAt_sl1 : longValues_sl1 ≠ longSavedAt_sl1) (ne_longValues_sl1_savedCells_sl1 : longValues_sl1 ≠ savedCells_sl1) (ne_longValues_sl1_savedValues_sl1 : longValues_sl1 ≠ savedValues_sl1) (ne_longSavedAt_sl1_savedCells_sl1 : longSavedAt_sl1 ≠ savedCells_sl1) (ne_longSavedAt_sl1_savedValues_sl1 : longSavedAt_sl1 ≠ savedValues_sl1) (ne_savedCells_sl1_savedValues_sl1 : savedCells_sl1 ≠ savedValues_sl1) (hc10 : ¬ (lA0_sl1 = epoch_sl1)) :
    MetFree l mt10 (head1 (Jvm.Cond.code mt10 prog_71_method_7_code 4 none :: ws) ({ frames := 1, cells := 0, slots := 0, locals := 15 } : Room)) (fun a U => a = #[(.ref thissl1), (.int (0 : Int32)), (.long ysl1_2)] ∧ Z.Warmed39 U.vm ∧ U.heap = h0) (fun _ _ _ _ _ => True) (fun _ U o U' => ∃ v L, o = .returned v ∧ (Q_sl1 Z thissl1 ysl1_2 values_sl1 savedAt_sl1 longValues_sl1 longSavedAt_sl1 savedCells_sl1 savedValues_sl1 cellCount_sl1 longCellCount_sl1 epoch_sl1 le0_sl1 rlongValues_sl1 lA0_sl1 rlongSavedAt_sl1 sl0_sl1 sl1_sl1 sl2_sl1 sl3_sl1 rsavedCells_sl1 se0_sl1 se1_sl1 se2_sl1 se3_sl1 rsavedValues_sl1 h0 n0) v U'.heap L ∧ FrameEnd U o U' L ({ frames := 1, cells := 0, slots := 0, locals := 15 } : Room).cells ({ frames := 1, cells := 0, slots := 0, locals := 15 } : Room).slots) := by
  refine MetFree.of_bodySF (plainFor_of_name pn1) hisR ?_
  intro p e s m args below meth c s₁ Bd hml0 hP hK
  obtain ⟨rfl, hZ, hh⟩ := hP
  have hx := Bd.exec
  have hby := Bd.bytes
  have hml : c.maxLocals = 4 := hml0
  have hown : s.vm.findClass "com/example/tauten/tauten/Trail" = some m.cls := findClass_of_methodNamed Bd.named
  have hnm := (name_of_methodNamed Bd.named Bd.method).1
  have X0 : Stand p l e ({ frames := 1, cells := 0, slots := 0, locals := 15 } : Room) s m #[(.ref thissl1), (.int (0 : Int32)), (.long ysl1_2)] below meth c s₁ [] 0 0 := Stand.of_body Bd
  have e0 : s₁.heap = h0 := by rw [← hh, Bd.state]; rfl
  have N0 := Fr.nil n0
  refine Wq.step (p := p) (e := e) (below := below) (En := (fun o t L => FrameEnd s o t L ({ frames := 1, cells := 0, slots := 0, locals := 15 } : Room).cells ({ frames := 1, cells := 0, slots := 0, locals := 15 } : Room).slots)) (Q := (Q_sl1 Z thissl1 ysl1_2 values_sl1 savedAt_sl1 longValues_sl1 longSavedAt_sl1 savedCells_sl1 savedValues_sl1 cellCount_sl1 longCellCount_sl1 epoch_sl1 le0_sl1 rlongValues_sl1 lA0_sl1 rlongSavedAt_sl1 sl0_sl1 sl1_sl1 sl2_sl1 sl3_sl1 rsavedCells_sl1 se0_sl1 se1_sl1 se2_sl1 se3_sl1 rsavedValues_sl1 h0 n0)) (fun t k => castTop (ef_sl1 m thissl1 ysl1_2) k) ?_
  show Wq _ _ _ _ _ (s₁.setTop (mkF m 0 #[.val (.ref thissl1), .val (.int (0 : Int32)), .val (.long ysl1_2), .second] []))
  refine Ow.aloadN X0 hx (pc' := 1) (hb hby d_prog_71_method_7_0) rfl rfl ?_
  obtain ⟨T94, X94, e94, st94⟩ := getF X0 hx hZ hown (host := "") (Or.inl (kw17 hw)) Via.refl e0 F_thissl1_longSavedAt (g := (mkF m 1 #[.val (.ref thissl1), .val (.int (0 : Int32)), .val (.long ysl1_2), .second] [(.ref thissl1)])) rfl rfl (hb hby d_prog_71_method_7_1)
  refine Wq.step st94 ?_
  show Wq _ _ _ _ _ (T94.setTop (mkF m 4 #[.val (.ref thissl1), .val (.int (0 : Int32)), .val (.long ysl1_2), .second] [(.ref longSavedAt_sl1)]))
  refine Ow.iloadN X94 hx (pc' := 5) (hb hby d_prog_71_method_7_4) rfl ?_
  refine Ow.ldI X94 hx hZ e94 V_longSavedAt_sl1 (pc' := 6) (hb hby d_prog_71_method_7_5) (j := (0 : Int32)) (i := 0) (v := (.int lA0_sl1)) (by decide) rfl rfl ?_
  refine Ow.aloadN X94 hx (pc' := 7) (hb hby d_prog_71_method_7_6) rfl rfl ?_
  obtain ⟨T95, X95, e95, st95⟩ := getF X94 hx hZ hown (host := "") (Or.inl (kw23 hw)) Via.refl e94 F_thissl1_epoch (g := (mkF m 7 #[.val (.ref thissl1), .val (.int (0 : Int32)), .val (.long ysl1_2), .second] [(.ref thissl1), (.int lA0_sl1)])) rfl rfl (hb hby d_prog_71_method_7_7)
  refine Wq.step st95 ?_
  show Wq _ _ _ _ _ (T95.setTop (mkF m 10 #[.val (.ref thissl1), .val (.int (0 : Int32)), .val (.long ysl1_2), .second] [(.int epoch_sl1), (.int lA0_sl1)]))
  refine Ow.icmpNo X95 hx (pc' := 13) (hb hby d_prog_71_method_7_10) (feq hc10).1 ?_
  refine Ow.aloadN X95 hx (pc' := 14) (hb hby d_prog_71_method_7_13) rfl rfl ?_
  refine Ow.iloadN X95 hx (pc' := 15) (hb hby d_prog_71_method_7_14) rfl ?_
  refine Ow.iconst X95 hx (pc' := 16) (hb hby d_prog_71_method_7_15) (z := (-1 : Int32)) rfl ?_
  refine Ow.ixor X95 hx (pc' := 17) (hb hby d_prog_71_method_7_16) (z := (-1 : Int32)) rfl ?_
  refine Ow.aloadN X95 hx (pc' := 18) (hb hby d_prog_71_method_7_17) rfl rfl ?_
  obtain ⟨T96, X96, e96, st96⟩ := getF X95 hx hZ hown (host := "") (Or.inl (kw15 hw)) Via.refl e95 F_thissl1_longValues (g := (mkF m 18 #[.val (.ref thissl1), .val (.int (0 : Int32)), .val (.long ysl1_2), .second] [(.ref thissl1), (.int (-1 : Int32)), (.ref thissl1)])) rfl rfl (hb hby d_prog_71_method_7_18)
  refine Wq.step st96 ?_
  show Wq _ _ _ _ _ (T96.setTop (mkF m 21 #[.val (.ref thissl1), .val (.int (0 : Int32)), .val (.long ysl1_2), .second] [(.ref longValues_sl1), (.int (-1 : Int32)), (.ref thissl1)]))
  refine Ow.iloadN X96 hx (pc' := 22) (hb hby d_prog_71_method_7_21) rfl ?_
  refine Ow.ldJ X96 hx hZ e96 V_longValues_sl1 (pc' := 23) (hb hby d_prog_71_method_7_22) (j := (0 : Int32)) (i := 0) (v := (.long le0_sl1)) (by decide) rfl rfl ?_
  obtain ⟨cq97, q97a, q97b⟩ := Exa.cell E_thissl1
  obtain ⟨_, _, ⟨T97, L97, k97, n97⟩, -, X97, ⟨Lc97, hQ97, l97, y97, z97⟩, st97⟩ := X96.privateBack hx (y := mt7) hown (mvT hZ (kw51 hw)) (mvT hZ (kw52 hw)) (Jvm.OwnW.selPriv (y := mt7) hZ (kw1 hw) (kw53 hw) (kw52 hw) (by decide)) (Cond.privateMethod_at (mvP hZ (kw53 hw) (args := #[]))) (mvT hZ (kw54 hw)) (by decide) (backOf (W := 0) (rm_sv1 l Z a0 hw [] thissl1 (-1 : Int32) le0_sl1 values_sl1 savedAt_sl1 longValues_sl1 longSavedAt_sl1 savedCells_sl1 savedValues_sl1 cellCount_sl1 longCellCount_sl1 epoch_sl1 sl0_sl1 sl1_sl1 sl2_sl1 sl3_sl1 rsavedCells_sl1 se0_sl1 se1_sl1 se2_sl1 se3_sl1 rsavedValues_sl1 h0 n0 Z0 (hlen) E_thissl1 F_thissl1_values F_thissl1_savedAt F_thissl1_longValues F_thissl1_longSavedAt F_thissl1_savedCells F_thissl1_savedValues F_thissl1_cellCount F_thissl1_longCellCount F_thissl1_savedCount F_thissl1_epoch g_thissl1 V_savedCells_sl1 g_savedCells_sl1 ne_savedCells_sl1_thissl1 V_savedValues_sl1 g_savedValues_sl1 ne_savedValues_sl1_thissl1 ne_savedCells_sl1_savedValues_sl1) hZ (kw54 hw) (kw2 hw) (by decide) (by decide)) (g := (mkF m 23 #[.val (.ref thissl1), .val (.int (0 : Int32)), .val (.long ysl1_2), .second] [(.long le0_sl1), (.int (-1 : Int32)), (.ref thissl1)])) rfl (by rw [hml]; rfl) (Steps.refl _) (a := thissl1) (by rw [e96]; exact q97a) q97b (argsL := [(.int (-1 : Int32)), (.long le0_sl1)]) (rest := []) (lenOf pd5 rfl) rfl (by show 2 * 0 + _ ≤ _; exact Nat.le_of_eq rfl) (hb hby d_prog_71_method_7_23) (fun _ _ => ⟨rfl, e96, (by decide : 0 + 0 ≤ _), (by decide : 0 + 0 ≤ _)⟩)
  dsimp only [Pt.U, Pt.locs, Pt.cells, Pt.slots] at X97 l97 y97 z97 st97 hQ97
  subst l97 y97 z97
  obtain ⟨rfl, Nq97, Kq97, P97_0, P97_1, P97_2, P97_3, P97_4, P97_5, P97_6, P97_7, P97_8, P97_9, P97_10, P97_11, P97_12⟩ := hQ97
  have N97 := Fr.app N0 Nq97
  have K97 : Keep h0 T97.heap [thissl1, savedValues_sl1, savedCells_sl1, longSavedAt_sl1, longValues_sl1] := (Keep.refl h0 [thissl1, savedValues_sl1, savedCells_sl1, longSavedAt_sl1, longValues_sl1]).trans Kq97 (allS (P := fun x => x ∈ [thissl1, savedValues_sl1, savedCells_sl1, longSavedAt_sl1, longValues_sl1] ∨ h0.size ≤ x) (Or.inl (List.mem_of_getElem? (i := 2) rfl)) (allS (P := fun x => x ∈ [thissl1, savedValues_sl1, savedCells_sl1, longSavedAt_sl1, longValues_sl1] ∨ h0.size ≤ x) (Or.inl (List.mem_of_getElem? (i := 1) rfl)) (allS (P := fun x => x ∈ [thissl1, savedValues_sl1, savedCells_sl1, longSavedAt_sl1, longValues_sl1] ∨ h0.size ≤ x) (Or.inl (List.mem_of_getElem? (i := 0) rfl)) all0)))
  have Z97 : n0 ≤ T97.heap.size := Nat.le_trans Z0 Kq97.1
  have E_thissl1_t97 := E_thissl1.keep Kq97
  have V_longValues_sl1_t97 := V_longValues_sl1.keep Kq97 (ninS ne_longValues_sl1_savedCells_sl1 (ninS ne_longValues_sl1_savedValues_sl1 (ninS ne_longValues_sl1_thissl1 nin0)))
  have V_longSavedAt_sl1_t97 := V_longSavedAt_sl1.keep Kq97 (ninS ne_longSavedAt_sl1_savedCells_sl1 (ninS ne_longSavedAt_sl1_savedValues_sl1 (ninS ne_longSavedAt_sl1_thissl1 nin0)))
  have e97 : T97.heap = T97.heap := rfl
  refine Wq.steps st97 ?_
  show Wq _ _ _ _ _ (T97.setTop (mkF m 26 #[.val (.ref thissl1), .val (.int (0 : Int32)), .val (.long ysl1_2), .second] []))
  refine Ow.aloadN X97 hx (pc' := 27) (hb hby d_prog_71_method_7_26) rfl rfl ?_
  obtain ⟨T98, X98, e98, st98⟩ := getF X97 hx hZ hown (host := "") (Or.inl (kw17 hw)) Via.refl e97 P97_4 (g := (mkF m 27 #[.val (.ref thissl1), .val (.int (0 : Int32)), .val (.long ysl1_2), .second] [(.ref thissl1)])) rfl rfl (hb hby d_prog_71_method_7_27)
  refine Wq.step st98 ?_
  show Wq _ _ _ _ _ (T98.setTop (mkF m 30 #[.val (.ref thissl1), .val (.int (0 : Int32)), .val (.long ysl1_2), .second] [(.ref longSavedAt_sl1)]))
  refine Ow.iloadN X98 hx (pc' := 31) (hb hby d_prog_71_method_7_30) rfl ?_
  refine Ow.aloadN X98 hx (pc' := 32) (hb hby d_prog_71_method_7_31) rfl rfl ?_
  obtain ⟨T99, X99, e99, st99⟩ := getF X98 hx hZ hown (host := "") (Or.inl (kw23 hw)) Via.refl e98 P97_9 (g := (mkF m 32 #[.val (.ref thissl1), .val (.int (0 : Int32)), .val (.long ysl1_2), .second] [(.ref thissl1), (.int (0 : Int32)), (.ref longSavedAt_sl1)])) rfl rfl (hb hby d_prog_71_method_7_32)
  refine Wq.step st99 ?_
  show Wq _ _ _ _ _ (T99.setTop (mkF m 35 #[.val (.ref thissl1), .val (.int (0 : Int32)), .val (.long ysl1_2), .second] [(.int epoch_sl1), (.int (0 : Int32)), (.ref longSavedAt_sl1)]))
  obtain ⟨T100, h100, X100, e100, W100, Vr100, st100⟩ := asI X99 hx hZ e99 V_longSavedAt_sl1_t97 (j := (0 : Int32)) (i := 0) (by decide) rfl (by simp only [List.length_cons]; omega) (g := (mkF m 35 #[.val (.ref thissl1), .val (.int (0 : Int32)), .val (.long ysl1_2), .second] [(.int epoch_sl1), (.int (0 : Int32)), (.ref longSavedAt_sl1)])) rfl rfl (hb hby d_prog_71_method_7_35)
  refine Wq.step st100 ?_
  have N100 := Fr.snoc X100 N97 g_longSavedAt_sl1
  have K100 : Keep h0 h100 [thissl1, savedValues_sl1, savedCells_sl1, longSavedAt_sl1, longValues_sl1] := K97.wr W100 (Or.inl (List.mem_of_getElem? (i := 3) rfl))
  have Z100 : n0 ≤ h100.size := Nat.le_trans Z97 (Keep.of_wr W100).1
  have E_thissl1_t100 := E_thissl1_t97.wr W100
  have V_longValues_sl1_t100 := V_longValues_sl1_t97.other W100 ne_longValues_sl1_longSavedAt_sl1
  have P97_1_t100 := P97_1.other W100 (Or.inl (Ne.symm ne_longSavedAt_sl1_thissl1))
  have P97_2_t100 := P97_2.other W100 (Or.inl (Ne.symm ne_longSavedAt_sl1_thissl1))
  have P97_3_t100 := P97_3.other W100 (Or.inl (Ne.symm ne_longSavedAt_sl1_thissl1))
  have P97_4_t100 := P97_4.other W100 (Or.inl (Ne.symm ne_longSavedAt_sl1_thissl1))
  have P97_5_t100 := P97_5.other W100 (Or.inl (Ne.symm ne_longSavedAt_sl1_thissl1))
  have P97_6_t100 := P97_6.other W100 (Or.inl (Ne.symm ne_longSavedAt_sl1_thissl1))
  have P97_7_t100 := P97_7.other W100 (Or.inl (Ne.symm ne_longSavedAt_sl1_thissl1))
  have P97_8_t100 := P97_8.other W100 (Or.inl (Ne.symm ne_longSavedAt_sl1_thissl1))
  have P97_9_t100 := P97_9.other W100 (Or.inl (Ne.symm ne_longSavedAt_sl1_thissl1))
  have P97_10_t100 := P97_10.other W100 (Ne.symm ne_longSavedAt_sl1_savedCells_sl1)
  have P97_11_t100 := P97_11.other W100 (Ne.symm ne_longSavedAt_sl1_savedValues_sl1)
  have P97_12_t100 := P97_12.other W100 (Or.inl (Ne.symm ne_longSavedAt_sl1_thissl1))
  have V_longSavedAt_sl1_t100 : Al Z h100 longSavedAt_sl1 .int ((.int epoch_sl1) :: rlongSavedAt_sl1) := Vr100
  show Wq _ _ _ _ _ (T100.setTop (mkF m 36 #[.val (.ref thissl1), .val (.int (0 : Int32)), .val (.long ysl1_2), .second] []))
  refine Ow.aloadN X100 hx (pc' := 37) (hb hby d_prog_71_method_7_36) rfl rfl ?_
  obtain ⟨T101, X101, e101, st101⟩ := getF X100 hx hZ hown (host := "") (Or.inl (kw15 hw)) Via.refl e100 P97_3_t100 (g := (mkF m 37 #[.val (.ref thissl1), .val (.int (0 : Int32)), .val (.long ysl1_2), .second] [(.ref thissl1)])) rfl rfl (hb hby d_prog_71_method_7_37)
  refine Wq.step st101 ?_
  show Wq _ _ _ _ _ (T101.setTop (mkF m 40 #[.val (.ref thissl1), .val (.int (0 : Int32)), .val (.long ysl1_2), .second] [(.ref longValues_sl1)]))
  refine Ow.iloadN X101 hx (pc' := 41) (hb hby d_prog_71_method_7_40) rfl ?_
  refine Ow.lloadN X101 hx (pc' := 42) (hb hby d_prog_71_method_7_41) rfl ?_
  obtain ⟨T102, h102, X102, e102, W102, Vr102, st102⟩ := asJ X101 hx hZ e101 V_longValues_sl1_t100 (j := (0 : Int32)) (i := 0) (by decide) rfl (by simp only [List.length_cons]; omega) (g := (mkF m 42 #[.val (.ref thissl1), .val (.int (0 : Int32)), .val (.long ysl1_2), .second] [(.long ysl1_2), (.int (0 : Int32)), (.ref longValues_sl1)])) rfl rfl (hb hby d_prog_71_method_7_42)
  refine Wq.step st102 ?_
  have N102 := Fr.snoc X102 N100 g_longValues_sl1
  have K102 : Keep h0 h102 [thissl1, savedValues_sl1, savedCells_sl1, longSavedAt_sl1, longValues_sl1] := K100.wr W102 (Or.inl (List.mem_of_getElem? (i := 4) rfl))
  have Z102 : n0 ≤ h102.size := Nat.le_trans Z100 (Keep.of_wr W102).1
  have E_thissl1_t102 := E_thissl1_t100.wr W102
  have P97_1_t102 := P97_1_t100.other W102 (Or.inl (Ne.symm ne_longValues_sl1_thissl1))
  have P97_2_t102 := P97_2_t100.other W102 (Or.inl (Ne.symm ne_longValues_sl1_thissl1))
  have P97_3_t102 := P97_3_t100.other W102 (Or.inl (Ne.symm ne_longValues_sl1_thissl1))
  have P97_4_t102 := P97_4_t100.other W102 (Or.inl (Ne.symm ne_longValues_sl1_thissl1))
  have P97_5_t102 := P97_5_t100.other W102 (Or.inl (Ne.symm ne_longValues_sl1_thissl1))
  have P97_6_t102 := P97_6_t100.other W102 (Or.inl (Ne.symm ne_longValues_sl1_thissl1))
  have P97_7_t102 := P97_7_t100.other W102 (Or.inl (Ne.symm ne_longValues_sl1_thissl1))
  have P97_8_t102 := P97_8_t100.other W102 (Or.inl (Ne.symm ne_longValues_sl1_thissl1))
  have P97_9_t102 := P97_9_t100.other W102 (Or.inl (Ne.symm ne_longValues_sl1_thissl1))
  have P97_10_t102 := P97_10_t100.other W102 (Ne.symm ne_longValues_sl1_savedCells_sl1)
  have P97_11_t102 := P97_11_t100.other W102 (Ne.symm ne_longValues_sl1_savedValues_sl1)
  have P97_12_t102 := P97_12_t100.other W102 (Or.inl (Ne.symm ne_longValues_sl1_thissl1))
  have V_longSavedAt_sl1_t102 := V_longSavedAt_sl1_t100.other W102 (Ne.symm ne_longValues_sl1_longSavedAt_sl1)
  have V_longValues_sl1_t102 : Al Z h102 longValues_sl1 .long ((.long ysl1_2) :: rlongValues_sl1) := Vr102
  show Wq _ _ _ _ _ (T102.setTop (mkF m 43 #[.val (.ref thissl1), .val (.int (0 : Int32)), .val (.long ysl1_2), .second] []))
  exact Wq.ret X102 (BodyLoose.notSynchronized Bd) (rv := none) (fun _ => rfl) (fun _ hr => X102.returnOut hx Bd.returns (hb hby d_prog_71_method_7_43) hr) (by decide) (by decide) (by rw [e102]; exact ⟨rfl, N102, K102, E_thissl1_t102, P97_1_t102, P97_2_t102, P97_3_t102, P97_4_t102, P97_5_t102, P97_6_t102, P97_7_t102, P97_8_t102, P97_9_t102, P97_10_t102, P97_11_t102, P97_12_t102, V_longSavedAt_sl1_t102, V_longValues_sl1_t102⟩)
theorem kw59 {Z : State} {a0 : Array Value} (hw : ∀ d ∈ tables_1, d.before a0 Z = true) : (Jvm.Cond.code ({ cls := "com/example/tauten/tauten/Trail", name := "setLong", desc := "(IJ)V" } : Jvm.MethodName) prog_71_method_7_code (4 : Nat) (Option.none : Option Jvm.ClassFile.FieldType)).before a0 Z = true := hw _ (List.mem_of_getElem? (i := 59) rfl)
theorem kw55 {Z : State} {a0 : Array Value} (hw : ∀ d ∈ tables_1, d.before a0 Z = true) : (Jvm.Cond.methodLink "com/example/tauten/tauten/TrailUndoPinLaw" (26 : Nat) ({ cls := "com/example/tauten/tauten/Trail", name := "setLong", desc := "(IJ)V" } : Jvm.MethodName)).before a0 Z = true := hw _ (List.mem_of_getElem? (i := 55) rfl)
theorem kw56 {Z : State} {a0 : Array Value} (hw : ∀ d ∈ tables_1, d.before a0 Z = true) : (Jvm.Cond.declares ({ cls := "com/example/tauten/tauten/Trail", name := "setLong", desc := "(IJ)V" } : Jvm.MethodName)).before a0 Z = true := hw _ (List.mem_of_getElem? (i := 56) rfl)
theorem kw58 {Z : State} {a0 : Array Value} (hw : ∀ d ∈ tables_1, d.before a0 Z = true) : (Jvm.Cond.selects "com/example/tauten/tauten/Trail" ({ cls := "com/example/tauten/tauten/Trail", name := "setLong", desc := "(IJ)V" } : Jvm.MethodName) ({ cls := "com/example/tauten/tauten/Trail", name := "setLong", desc := "(IJ)V" } : Jvm.MethodName)).before a0 Z = true := hw _ (List.mem_of_getElem? (i := 58) rfl)
theorem kw57 {Z : State} {a0 : Array Value} (hw : ∀ d ∈ tables_1, d.before a0 Z = true) : (Jvm.Cond.instanceMethod ({ cls := "com/example/tauten/tauten/Trail", name := "setLong", desc := "(IJ)V" } : Jvm.MethodName)).before a0 Z = true := hw _ (List.mem_of_getElem? (i := 57) rfl)
theorem d_prog_71_method_9_51 : decode prog_71_method_9_code 51 = .ok (.aload_n 0, 1) := by decide +kernel
theorem d_prog_71_method_9_52 : decode prog_71_method_9_code 52 = .ok (.getfield 16, 3) := by decide +kernel
theorem d_prog_71_method_9_55 : decode prog_71_method_9_code 55 = .ok (.iload_n 2, 1) := by decide +kernel
theorem d_prog_71_method_9_56 : decode prog_71_method_9_code 56 = .ok (.iconst (-1), 1) := by decide +kernel
theorem d_prog_71_method_9_57 : decode prog_71_method_9_code 57 = .ok (.ixor, 1) := by decide +kernel
theorem d_prog_71_method_9_58 : decode prog_71_method_9_code 58 = .ok (.aload_n 0, 1) := by decide +kernel
theorem d_prog_71_method_9_59 : decode prog_71_method_9_code 59 = .ok (.getfield 26, 3) := by decide +kernel
theorem d_prog_71_method_9_62 : decode prog_71_method_9_code 62 = .ok (.aload_n 0, 1) := by decide +kernel
theorem d_prog_71_method_9_63 : decode prog_71_method_9_code 63 = .ok (.getfield 52, 3) := by decide +kernel
theorem d_prog_71_method_9_66 : decode prog_71_method_9_code 66 = .ok (.laload, 1) := by decide +kernel
theorem d_prog_71_method_9_67 : decode prog_71_method_9_code 67 = .ok (.lastore, 1) := by decide +kernel
theorem ef_un20il (m : MethodId) (thisun20il : Addr) : entryFrame m #[(.ref thisun20il), (.int (0 : Int32))] 3 = mkF m 0 #[.val (.ref thisun20il), .val (.int (0 : Int32)), .unset] [] := by first | (simp [entryFrame, mkF, argsToLocals, Value.category]; done) | rfl
def Q_un20il (Z : State) (thisun20il : Addr) (values_un20il : Addr) (savedAt_un20il : Addr) (longValues_un20il : Addr) (longSavedAt_un20il : Addr) (savedCells_un20il : Addr) (savedValues_un20il : Addr) (cellCount_un20il : Int32) (longCellCount_un20il : Int32) (epoch_un20il : Int32) (ve0_un20il : Int32) (rvalues_un20il : List Value) (le0_un20il : Int64) (rlongValues_un20il : List Value) (sl2_un20il : Int32) (sl3_un20il : Int32) (rsavedCells_un20il : List Value) (se0_un20il : Int64) (se1_un20il : Int64) (se2_un20il : Int64) (se3_un20il : Int64) (rsavedValues_un20il : List Value) (h0 : Heap) (n0 : Nat) (v : Option Value) (h : Heap) (L : List Loc) : Prop := v = none ∧ Fr n0 L ∧ Keep h0 h [thisun20il, longValues_un20il, values_un20il] ∧ Exa Z h thisun20il "com/example/tauten/tauten/Trail" ∧ Fld Z h thisun20il "com/example/tauten/tauten/Trail" "values" "[I" (.ref values_un20il) ∧ Fld Z h thisun20il "com/example/tauten/tauten/Trail" "savedAt" "[I" (.ref savedAt_un20il) ∧ Fld Z h thisun20il "com/example/tauten/tauten/Trail" "longValues" "[J" (.ref longValues_un20il) ∧ Fld Z h thisun20il "com/example/tauten/tauten/Trail" "longSavedAt" "[I" (.ref longSavedAt_un20il) ∧ Fld Z h thisun20il "com/example/tauten/tauten/Trail" "savedCells" "[I" (.ref savedCells_un20il) ∧ Fld Z h thisun20il "com/example/tauten/tauten/Trail" "savedValues" "[J" (.ref savedValues_un20il) ∧ Fld Z h thisun20il "com/example/tauten/tauten/Trail" "cellCount" "I" (.int cellCount_un20il) ∧ Fld Z h thisun20il "com/example/tauten/tauten/Trail" "longCellCount" "I" (.int longCellCount_un20il) ∧ Al Z h longValues_un20il .long ((.long se1_un20il) :: rlongValues_un20il) ∧ Fld Z h thisun20il "com/example/tauten/tauten/Trail" "savedCount" "I" (.int (0 : Int32)) ∧ Al Z h values_un20il .int ((.int (se0_un20il.toInt32)) :: rvalues_un20il) ∧ Fld Z h thisun20il "com/example/tauten/tauten/Trail" "epoch" "I" (.int (epoch_un20il + (1 : Int32)))
set_option maxRecDepth 65536 in
set_option maxHeartbeats 40000000 in
theorem rm_un20il (l : Launch) (Z : State) (a0 : Array Value) (hw : ∀ d ∈ tables_1, d.before a0 Z = true) (ws : List Jvm.Cond) (thisun20il : Addr) (values_un20il : Addr) (savedAt_un20il : Addr) (longValues_un20il : Addr) (longSavedAt_un20il : Addr) (savedCells_un20il : Addr) (savedValues_un20il : Addr) (cellCount_un20il : Int32) (longCellCount_un20il : Int32) (epoch_un20il : Int32) (ve0_un20il : Int32) (rvalues_un20il : List Value) (le0_un20il : Int64) (rlongValues_un20il : List Value) (sl2_un20il : Int32) (sl3_un20il : Int32) (rsavedCells_un20il : List Value) (se0_un20il : Int64) (se1_un20il : Int64) (se2_un20il : Int64) (se3_un20il : Int64) (rsavedValues_un20il : List Value) (h0 : Heap) (n0 : Nat) (Z0 : n0 ≤ h0.size) (E_thisun20il : Exa Z h0 thisun20il "com/example/tauten/tauten/Trail") (F_thisun20il_values : Fld Z h0 thisun20il "com/example/tauten/tauten/Trail" "values" "[I" (.ref values_un20il)) (F_thisun20il_savedAt : Fld Z h0 thisun20il "com/example/tauten/tauten/Trail" "savedAt" "[I" (.ref savedAt_un20il)) (F_thisun20il_longValues : Fld Z h0 thisun20il "com/example/tauten/tauten/Trail" "longValues" "[J" (.ref longValues_un20il)) (F_thisun20il_longSavedAt : Fld Z h0 thisun20il "com/example/tauten/tauten/Trail" "longSavedAt" "[I" (.ref longSavedAt_un20il)) (F_thisun20il_savedCells : Fld Z h0 thisun20il "com/example/tauten/tauten/Trail" "savedCells" "[I" (.ref savedCells_un20il)) (F_thisun20il_savedValues : Fld Z h0 thisun20il "com/example/tauten/tauten/Trail" "savedValues" "[J" (.ref savedValues_un20il)) (F_thisun20il_cellCount : Fld Z h0 thisun20il "com/example/tauten/tauten/Trail" "cellCount" "I" (.int cellCount_un20il)) (F_thisun20il_longCellCount : Fld Z h0 thisun20il "com/example/tauten/tauten/Trail" "longCellCount" "I" (.int longCellCount_un20il)) (F_thisun20il_savedCount : Fld Z h0 thisun20il "com/example/tauten/tauten/Trail" "savedCount" "I" (.int (2 : Int32))) (F_thisun20il_epoch : Fld Z h0 thisun20il "com/example/tauten/tauten/Trail" "epoch" "I" (.int epoch_un20il)) (g_thisun20il : n0 ≤ thisun20il) (V_values_un20il : Al Z h0 values_un20il .int ((.int ve0_un20il) :: rvalues_un20il)) (g_values_un20il : n0 ≤ values_un20il) (ne_values_un20il_thisun20il : values_un20il ≠ thisun20il) (V_longValues_un20il : Al Z h0 longValues_un20il .long ((.long le0_un20il) :: rlongValues_un20il)) (g_longValues_un20il : n0 ≤ longValues_un20il) (ne_longValues_un20il_thisun20il : longValues_un20il ≠ thisun20il) (V_savedCells_un20il : Al Z h0 savedCells_un20il .int ((.int (0 : Int32)) :: (.int (-1 : Int32)) :: (.int sl2_un20il) :: (.int sl3_un20il) :: rsavedCells_un20il)) (g_savedCells_un20il : n0 ≤ savedCells_un20il) (ne_savedCells_un20il_thisun20il : savedCells_un20il ≠ thisun20il) (V_savedValues_un20il : Al Z h0 savedValues_un20il .long ((.long se0_un20il) :: (.long se1_un20il) :: (.long se2_un20il) :: (.long se3_un20il) :: rsavedValues_un20il)) (g_savedValues_un20il : n0 ≤ savedValues_un20il) (ne_savedValues_un20il_thisun20il : savedValues_un20il ≠ thisun20il) (ne_values_un20il_longValues_un20il : values_un20il ≠ longValues_un20il) (ne_values_un20il_savedCells_un20il : values_un20il ≠ savedCells_un20il) (ne_values_un20il_savedValues_un20il : values_un20il ≠ savedValues_un20il) (ne_longValues_un20il_savedCells_un20il : longValues_un20il ≠ savedCells_un20il) (ne_longValues_un20il_savedValues_un20il : longValues_un20il ≠ savedValues_un20il) (ne_savedCells_un20il_savedValues_un20il : savedCells_un20il ≠ savedValues_un20il) :
    MetFree l mt9 (head1 (Jvm.Cond.code mt9 prog_71_method_9_code 3 none :: ws) ({ frames := 0, cells := 0, slots := 0, locals := 0 } : Room)) (fun a U => a = #[(.ref thisun20il), (.int (0 : Int32))] ∧ Z.Warmed39 U.vm ∧ U.heap = h0) (fun _ _ _ _ _ => True) (fun _ U o U' => ∃ v L, o = .returned v ∧ (Q_un20il Z thisun20il values_un20il savedAt_un20il longValues_un20il longSavedAt_un20il savedCells_un20il savedValues_un20il cellCount_un20il longCellCount_un20il epoch_un20il ve0_un20il rvalues_un20il le0_un20il rlongValues_un20il sl2_un20il sl3_un20il rsavedCells_un20il se0_un20il se1_un20il se2_un20il se3_un20il rsavedValues_un20il h0 n0) v U'.heap L ∧ FrameEnd U o U' L ({ frames := 0, cells := 0, slots := 0, locals := 0 } : Room).cells ({ frames := 0, cells := 0, slots := 0, locals := 0 } : Room).slots) := by
  refine MetFree.of_bodySF (plainFor_of_name pn1) hisR ?_
  intro p e s m args below meth c s₁ Bd hml0 hP hK
  obtain ⟨rfl, hZ, hh⟩ := hP
  have hx := Bd.exec
  have hby := Bd.bytes
  have hml : c.maxLocals = 3 := hml0
  have hown : s.vm.findClass "com/example/tauten/tauten/Trail" = some m.cls := findClass_of_methodNamed Bd.named
  have hnm := (name_of_methodNamed Bd.named Bd.method).1
  have X0 : Stand p l e ({ frames := 0, cells := 0, slots := 0, locals := 0 } : Room) s m #[(.ref thisun20il), (.int (0 : Int32))] below meth c s₁ [] 0 0 := Stand.of_body Bd
  have e0 : s₁.heap = h0 := by rw [← hh, Bd.state]; rfl
  have N0 := Fr.nil n0
  refine Wq.step (p := p) (e := e) (below := below) (En := (fun o t L => FrameEnd s o t L ({ frames := 0, cells := 0, slots := 0, locals := 0 } : Room).cells ({ frames := 0, cells := 0, slots := 0, locals := 0 } : Room).slots)) (Q := (Q_un20il Z thisun20il values_un20il savedAt_un20il longValues_un20il longSavedAt_un20il savedCells_un20il savedValues_un20il cellCount_un20il longCellCount_un20il epoch_un20il ve0_un20il rvalues_un20il le0_un20il rlongValues_un20il sl2_un20il sl3_un20il rsavedCells_un20il se0_un20il se1_un20il se2_un20il se3_un20il rsavedValues_un20il h0 n0)) (fun t k => castTop (ef_un20il m thisun20il) k) ?_
  show Wq _ _ _ _ _ (s₁.setTop (mkF m 0 #[.val (.ref thisun20il), .val (.int (0 : Int32)), .unset] []))
  refine Ow.aloadN X0 hx (pc' := 1) (hb hby d_prog_71_method_9_0) rfl rfl ?_
  obtain ⟨T104, X104, e104, st104⟩ := getF X0 hx hZ hown (host := "") (Or.inl (kw44 hw)) Via.refl e0 F_thisun20il_savedCount (g := (mkF m 1 #[.val (.ref thisun20il), .val (.int (0 : Int32)), .unset] [(.ref thisun20il)])) rfl rfl (hb hby d_prog_71_method_9_1)
  refine Wq.step st104 ?_
  show Wq _ _ _ _ _ (T104.setTop (mkF m 4 #[.val (.ref thisun20il), .val (.int (0 : Int32)), .unset] [(.int (2 : Int32))]))
  refine Ow.iloadN X104 hx (pc' := 5) (hb hby d_prog_71_method_9_4) rfl ?_
  refine Ow.icmpNo X104 hx (pc' := 8) (hb hby d_prog_71_method_9_5) (tlt (by decide : (0 : Int32) < (2 : Int32))).2.2.2 ?_
  refine Ow.aloadN X104 hx (pc' := 9) (hb hby d_prog_71_method_9_8) rfl rfl ?_
  refine Ow.dup X104 hx (pc' := 10) (hb hby d_prog_71_method_9_9) rfl ?_
  obtain ⟨T105, X105, e105, st105⟩ := getF X104 hx hZ hown (host := "") (Or.inl (kw44 hw)) Via.refl e104 F_thisun20il_savedCount (g := (mkF m 10 #[.val (.ref thisun20il), .val (.int (0 : Int32)), .unset] [(.ref thisun20il), (.ref thisun20il)])) rfl rfl (hb hby d_prog_71_method_9_10)
  refine Wq.step st105 ?_
  show Wq _ _ _ _ _ (T105.setTop (mkF m 13 #[.val (.ref thisun20il), .val (.int (0 : Int32)), .unset] [(.int (2 : Int32)), (.ref thisun20il)]))
  refine Ow.iconst X105 hx (pc' := 14) (hb hby d_prog_71_method_9_13) (z := (1 : Int32)) rfl ?_
  refine Ow.isub X105 hx (pc' := 15) (hb hby d_prog_71_method_9_14) (z := (1 : Int32)) rfl ?_
  obtain ⟨T106, h106, X106, e106, W106, st106⟩ := putF X105 hx hZ hown (host := "") (Or.inl (kw44 hw)) Via.refl e105 F_thisun20il_savedCount E_thisun20il (Or.inl (kw45 hw)) (kw1 hw) (ty := .int) (by decide) (rfl) (rfl) (g := (mkF m 15 #[.val (.ref thisun20il), .val (.int (0 : Int32)), .unset] [(.int (1 : Int32)), (.ref thisun20il)])) rfl rfl (hb hby d_prog_71_method_9_15)
  refine Wq.step st106 ?_
  have N106 := Fr.snoc X106 N0 g_thisun20il
  have K106 : Keep h0 h106 [thisun20il, longValues_un20il, values_un20il] := (Keep.refl h0 [thisun20il, longValues_un20il, values_un20il]).wr W106 (Or.inl (List.mem_of_getElem? (i := 0) rfl))
  have Z106 : n0 ≤ h106.size := Nat.le_trans Z0 (Keep.of_wr W106).1
  have E_thisun20il_t106 := E_thisun20il.wr W106
  have F_thisun20il_values_t106 := F_thisun20il_values.other W106 (Or.inr (slot_ne (Or.inl (kw11 hw)) (Or.inl (kw45 hw)) (by decide) (t := (.array .int)) (t' := .int) (by decide) (by decide)))
  have F_thisun20il_savedAt_t106 := F_thisun20il_savedAt.other W106 (Or.inr (slot_ne (Or.inl (kw13 hw)) (Or.inl (kw45 hw)) (by decide) (t := (.array .int)) (t' := .int) (by decide) (by decide)))
  have F_thisun20il_longValues_t106 := F_thisun20il_longValues.other W106 (Or.inr (slot_ne (Or.inl (kw16 hw)) (Or.inl (kw45 hw)) (by decide) (t := (.array .long)) (t' := .int) (by decide) (by decide)))
  have F_thisun20il_longSavedAt_t106 := F_thisun20il_longSavedAt.other W106 (Or.inr (slot_ne (Or.inl (kw18 hw)) (Or.inl (kw45 hw)) (by decide) (t := (.array .int)) (t' := .int) (by decide) (by decide)))
  have F_thisun20il_savedCells_t106 := F_thisun20il_savedCells.other W106 (Or.inr (slot_ne (Or.inl (kw20 hw)) (Or.inl (kw45 hw)) (by decide) (t := (.array .int)) (t' := .int) (by decide) (by decide)))
  have F_thisun20il_savedValues_t106 := F_thisun20il_savedValues.other W106 (Or.inr (slot_ne (Or.inl (kw22 hw)) (Or.inl (kw45 hw)) (by decide) (t := (.array .long)) (t' := .int) (by decide) (by decide)))
  have F_thisun20il_cellCount_t106 := F_thisun20il_cellCount.other W106 (Or.inr (slot_ne (Or.inl (kw31 hw)) (Or.inl (kw45 hw)) (by decide) (t := .int) (t' := .int) (by decide) (by decide)))
  have F_thisun20il_longCellCount_t106 := F_thisun20il_longCellCount.other W106 (Or.inr (slot_ne (Or.inl (kw38 hw)) (Or.inl (kw45 hw)) (by decide) (t := .int) (t' := .int) (by decide) (by decide)))
  have F_thisun20il_epoch_t106 := F_thisun20il_epoch.other W106 (Or.inr (slot_ne (Or.inl (kw24 hw)) (Or.inl (kw45 hw)) (by decide) (t := .int) (t' := .int) (by decide) (by decide)))
  have V_values_un20il_t106 := V_values_un20il.other W106 ne_values_un20il_thisun20il
  have V_longValues_un20il_t106 := V_longValues_un20il.other W106 ne_longValues_un20il_thisun20il
  have V_savedCells_un20il_t106 := V_savedCells_un20il.other W106 ne_savedCells_un20il_thisun20il
  have V_savedValues_un20il_t106 := V_savedValues_un20il.other W106 ne_savedValues_un20il_thisun20il
  have F_thisun20il_savedCount_t106 : Fld Z h106 thisun20il "com/example/tauten/tauten/Trail" "savedCount" "I" (.int (1 : Int32)) := F_thisun20il_savedCount.same W106
  show Wq _ _ _ _ _ (T106.setTop (mkF m 18 #[.val (.ref thisun20il), .val (.int (0 : Int32)), .unset] []))
  refine Ow.aloadN X106 hx (pc' := 19) (hb hby d_prog_71_method_9_18) rfl rfl ?_
  obtain ⟨T107, X107, e107, st107⟩ := getF X106 hx hZ hown (host := "") (Or.inl (kw19 hw)) Via.refl e106 F_thisun20il_savedCells_t106 (g := (mkF m 19 #[.val (.ref thisun20il), .val (.int (0 : Int32)), .unset] [(.ref thisun20il)])) rfl rfl (hb hby d_prog_71_method_9_19)
  refine Wq.step st107 ?_
  show Wq _ _ _ _ _ (T107.setTop (mkF m 22 #[.val (.ref thisun20il), .val (.int (0 : Int32)), .unset] [(.ref savedCells_un20il)]))
  refine Ow.aloadN X107 hx (pc' := 23) (hb hby d_prog_71_method_9_22) rfl rfl ?_
  obtain ⟨T108, X108, e108, st108⟩ := getF X107 hx hZ hown (host := "") (Or.inl (kw44 hw)) Via.refl e107 F_thisun20il_savedCount_t106 (g := (mkF m 23 #[.val (.ref thisun20il), .val (.int (0 : Int32)), .unset] [(.ref thisun20il), (.ref savedCells_un20il)])) rfl rfl (hb hby d_prog_71_method_9_23)
  refine Wq.step st108 ?_
  show Wq _ _ _ _ _ (T108.setTop (mkF m 26 #[.val (.ref thisun20il), .val (.int (0 : Int32)), .unset] [(.int (1 : Int32)), (.ref savedCells_un20il)]))
  refine Ow.ldI X108 hx hZ e108 V_savedCells_un20il_t106 (pc' := 27) (hb hby d_prog_71_method_9_26) (j := (1 : Int32)) (i := 1) (v := (.int (-1 : Int32))) (by decide) rfl rfl ?_
  refine Ow.istoreN X108 hx (pc' := 28) (hb hby d_prog_71_method_9_27) (l' := #[.val (.ref thisun20il), .val (.int (0 : Int32)), .val (.int (-1 : Int32))]) rfl ?_
  refine Ow.iloadN X108 hx (pc' := 29) (hb hby d_prog_71_method_9_28) rfl ?_
  refine Ow.ifYes X108 hx (pc' := 51) (hb hby d_prog_71_method_9_29) ((if0 _ _).trans (tlt (by decide : (-1 : Int32) < (0 : Int32))).1) (by decide) (by decide) ?_
  refine Ow.aloadN X108 hx (pc' := 52) (hb hby d_prog_71_method_9_51) rfl rfl ?_
  obtain ⟨T109, X109, e109, st109⟩ := getF X108 hx hZ hown (host := "") (Or.inl (kw15 hw)) Via.refl e108 F_thisun20il_longValues_t106 (g := (mkF m 52 #[.val (.ref thisun20il), .val (.int (0 : Int32)), .val (.int (-1 : Int32))] [(.ref thisun20il)])) rfl rfl (hb hby d_prog_71_method_9_52)
  refine Wq.step st109 ?_
  show Wq _ _ _ _ _ (T109.setTop (mkF m 55 #[.val (.ref thisun20il), .val (.int (0 : Int32)), .val (.int (-1 : Int32))] [(.ref longValues_un20il)]))
  refine Ow.iloadN X109 hx (pc' := 56) (hb hby d_prog_71_method_9_55) rfl ?_
  refine Ow.iconst X109 hx (pc' := 57) (hb hby d_prog_71_method_9_56) (z := (-1 : Int32)) rfl ?_
  refine Ow.ixor X109 hx (pc' := 58) (hb hby d_prog_71_method_9_57) (z := (0 : Int32)) rfl ?_
  refine Ow.aloadN X109 hx (pc' := 59) (hb hby d_prog_71_method_9_58) rfl rfl ?_
  obtain ⟨T110, X110, e110, st110⟩ := getF X109 hx hZ hown (host := "") (Or.inl (kw21 hw)) Via.refl e109 F_thisun20il_savedValues_t106 (g := (mkF m 59 #[.val (.ref thisun20il), .val (.int (0 : Int32)), .val (.int (-1 : Int32))] [(.ref thisun20il), (.int (0 : Int32)), (.ref longValues_un20il)])) rfl rfl (hb hby d_prog_71_method_9_59)
  refine Wq.step st110 ?_
  show Wq _ _ _ _ _ (T110.setTop (mkF m 62 #[.val (.ref thisun20il), .val (.int (0 : Int32)), .val (.int (-1 : Int32))] [(.ref savedValues_un20il), (.int (0 : Int32)), (.ref longValues_un20il)]))
  refine Ow.aloadN X110 hx (pc' := 63) (hb hby d_prog_71_method_9_62) rfl rfl ?_
  obtain ⟨T111, X111, e111, st111⟩ := getF X110 hx hZ hown (host := "") (Or.inl (kw44 hw)) Via.refl e110 F_thisun20il_savedCount_t106 (g := (mkF m 63 #[.val (.ref thisun20il), .val (.int (0 : Int32)), .val (.int (-1 : Int32))] [(.ref thisun20il), (.ref savedValues_un20il), (.int (0 : Int32)), (.ref longValues_un20il)])) rfl rfl (hb hby d_prog_71_method_9_63)
  refine Wq.step st111 ?_
  show Wq _ _ _ _ _ (T111.setTop (mkF m 66 #[.val (.ref thisun20il), .val (.int (0 : Int32)), .val (.int (-1 : Int32))] [(.int (1 : Int32)), (.ref savedValues_un20il), (.int (0 : Int32)), (.ref longValues_un20il)]))
  refine Ow.ldJ X111 hx hZ e111 V_savedValues_un20il_t106 (pc' := 67) (hb hby d_prog_71_method_9_66) (j := (1 : Int32)) (i := 1) (v := (.long se1_un20il)) (by decide) rfl rfl ?_
  obtain ⟨T112, h112, X112, e112, W112, Vr112, st112⟩ := asJ X111 hx hZ e111 V_longValues_un20il_t106 (j := (0 : Int32)) (i := 0) (by decide) rfl (by simp only [List.length_cons]; omega) (g := (mkF m 67 #[.val (.ref thisun20il), .val (.int (0 : Int32)), .val (.int (-1 : Int32))] [(.long se1_un20il), (.int (0 : Int32)), (.ref longValues_un20il)])) rfl rfl (hb hby d_prog_71_method_9_67)
  refine Wq.step st112 ?_
  have N112 := Fr.snoc X112 N106 g_longValues_un20il
  have K112 : Keep h0 h112 [thisun20il, longValues_un20il, values_un20il] := K106.wr W112 (Or.inl (List.mem_of_getElem? (i := 1) rfl))
  have Z112 : n0 ≤ h112.size := Nat.le_trans Z106 (Keep.of_wr W112).1
  have E_thisun20il_t112 := E_thisun20il_t106.wr W112
  have F_thisun20il_values_t112 := F_thisun20il_values_t106.other W112 (Or.inl (Ne.symm ne_longValues_un20il_thisun20il))
  have F_thisun20il_savedAt_t112 := F_thisun20il_savedAt_t106.other W112 (Or.inl (Ne.symm ne_longValues_un20il_thisun20il))
  have F_thisun20il_longValues_t112 := F_thisun20il_longValues_t106.other W112 (Or.inl (Ne.symm ne_longValues_un20il_thisun20il))
  have F_thisun20il_longSavedAt_t112 := F_thisun20il_longSavedAt_t106.other W112 (Or.inl (Ne.symm ne_longValues_un20il_thisun20il))
  have F_thisun20il_savedCells_t112 := F_thisun20il_savedCells_t106.other W112 (Or.inl (Ne.symm ne_longValues_un20il_thisun20il))
  have F_thisun20il_savedValues_t112 := F_thisun20il_savedValues_t106.other W112 (Or.inl (Ne.symm ne_longValues_un20il_thisun20il))
  have F_thisun20il_cellCount_t112 := F_thisun20il_cellCount_t106.other W112 (Or.inl (Ne.symm ne_longValues_un20il_thisun20il))
  have F_thisun20il_longCellCount_t112 := F_thisun20il_longCellCount_t106.other W112 (Or.inl (Ne.symm ne_longValues_un20il_thisun20il))
  have F_thisun20il_epoch_t112 := F_thisun20il_epoch_t106.other W112 (Or.inl (Ne.symm ne_longValues_un20il_thisun20il))
  have V_values_un20il_t112 := V_values_un20il_t106.other W112 ne_values_un20il_longValues_un20il
  have V_savedCells_un20il_t112 := V_savedCells_un20il_t106.other W112 (Ne.symm ne_longValues_un20il_savedCells_un20il)
  have V_savedValues_un20il_t112 := V_savedValues_un20il_t106.other W112 (Ne.symm ne_longValues_un20il_savedValues_un20il)
  have F_thisun20il_savedCount_t112 := F_thisun20il_savedCount_t106.other W112 (Or.inl (Ne.symm ne_longValues_un20il_thisun20il))
  have V_longValues_un20il_t112 : Al Z h112 longValues_un20il .long ((.long se1_un20il) :: rlongValues_un20il) := Vr112
  show Wq _ _ _ _ _ (T112.setTop (mkF m 68 #[.val (.ref thisun20il), .val (.int (0 : Int32)), .val (.int (-1 : Int32))] []))
  refine Ow.goto X112 hx (pc' := 0) (hb hby d_prog_71_method_9_68) (by decide) (by decide) ?_
  refine Ow.aloadN X112 hx (pc' := 1) (hb hby d_prog_71_method_9_0) rfl rfl ?_
  obtain ⟨T113, X113, e113, st113⟩ := getF X112 hx hZ hown (host := "") (Or.inl (kw44 hw)) Via.refl e112 F_thisun20il_savedCount_t112 (g := (mkF m 1 #[.val (.ref thisun20il), .val (.int (0 : Int32)), .val (.int (-1 : Int32))] [(.ref thisun20il)])) rfl rfl (hb hby d_prog_71_method_9_1)
  refine Wq.step st113 ?_
  show Wq _ _ _ _ _ (T113.setTop (mkF m 4 #[.val (.ref thisun20il), .val (.int (0 : Int32)), .val (.int (-1 : Int32))] [(.int (1 : Int32))]))
  refine Ow.iloadN X113 hx (pc' := 5) (hb hby d_prog_71_method_9_4) rfl ?_
  refine Ow.icmpNo X113 hx (pc' := 8) (hb hby d_prog_71_method_9_5) (tlt (by decide : (0 : Int32) < (1 : Int32))).2.2.2 ?_
  refine Ow.aloadN X113 hx (pc' := 9) (hb hby d_prog_71_method_9_8) rfl rfl ?_
  refine Ow.dup X113 hx (pc' := 10) (hb hby d_prog_71_method_9_9) rfl ?_
  obtain ⟨T114, X114, e114, st114⟩ := getF X113 hx hZ hown (host := "") (Or.inl (kw44 hw)) Via.refl e113 F_thisun20il_savedCount_t112 (g := (mkF m 10 #[.val (.ref thisun20il), .val (.int (0 : Int32)), .val (.int (-1 : Int32))] [(.ref thisun20il), (.ref thisun20il)])) rfl rfl (hb hby d_prog_71_method_9_10)
  refine Wq.step st114 ?_
  show Wq _ _ _ _ _ (T114.setTop (mkF m 13 #[.val (.ref thisun20il), .val (.int (0 : Int32)), .val (.int (-1 : Int32))] [(.int (1 : Int32)), (.ref thisun20il)]))
  refine Ow.iconst X114 hx (pc' := 14) (hb hby d_prog_71_method_9_13) (z := (1 : Int32)) rfl ?_
  refine Ow.isub X114 hx (pc' := 15) (hb hby d_prog_71_method_9_14) (z := (0 : Int32)) rfl ?_
  obtain ⟨T115, h115, X115, e115, W115, st115⟩ := putF X114 hx hZ hown (host := "") (Or.inl (kw44 hw)) Via.refl e114 F_thisun20il_savedCount_t112 E_thisun20il_t112 (Or.inl (kw45 hw)) (kw1 hw) (ty := .int) (by decide) (rfl) (rfl) (g := (mkF m 15 #[.val (.ref thisun20il), .val (.int (0 : Int32)), .val (.int (-1 : Int32))] [(.int (0 : Int32)), (.ref thisun20il)])) rfl rfl (hb hby d_prog_71_method_9_15)
  refine Wq.step st115 ?_
  have N115 := Fr.snoc X115 N112 g_thisun20il
  have K115 : Keep h0 h115 [thisun20il, longValues_un20il, values_un20il] := K112.wr W115 (Or.inl (List.mem_of_getElem? (i := 0) rfl))
  have Z115 : n0 ≤ h115.size := Nat.le_trans Z112 (Keep.of_wr W115).1
  have E_thisun20il_t115 := E_thisun20il_t112.wr W115
  have F_thisun20il_values_t115 := F_thisun20il_values_t112.other W115 (Or.inr (slot_ne (Or.inl (kw11 hw)) (Or.inl (kw45 hw)) (by decide) (t := (.array .int)) (t' := .int) (by decide) (by decide)))
  have F_thisun20il_savedAt_t115 := F_thisun20il_savedAt_t112.other W115 (Or.inr (slot_ne (Or.inl (kw13 hw)) (Or.inl (kw45 hw)) (by decide) (t := (.array .int)) (t' := .int) (by decide) (by decide)))
  have F_thisun20il_longValues_t115 := F_thisun20il_longValues_t112.other W115 (Or.inr (slot_ne (Or.inl (kw16 hw)) (Or.inl (kw45 hw)) (by decide) (t := (.array .long)) (t' := .int) (by decide) (by decide)))
  have F_thisun20il_longSavedAt_t115 := F_thisun20il_longSavedAt_t112.other W115 (Or.inr (slot_ne (Or.inl (kw18 hw)) (Or.inl (kw45 hw)) (by decide) (t := (.array .int)) (t' := .int) (by decide) (by decide)))
  have F_thisun20il_savedCells_t115 := F_thisun20il_savedCells_t112.other W115 (Or.inr (slot_ne (Or.inl (kw20 hw)) (Or.inl (kw45 hw)) (by decide) (t := (.array .int)) (t' := .int) (by decide) (by decide)))
  have F_thisun20il_savedValues_t115 := F_thisun20il_savedValues_t112.other W115 (Or.inr (slot_ne (Or.inl (kw22 hw)) (Or.inl (kw45 hw)) (by decide) (t := (.array .long)) (t' := .int) (by decide) (by decide)))
  have F_thisun20il_cellCount_t115 := F_thisun20il_cellCount_t112.other W115 (Or.inr (slot_ne (Or.inl (kw31 hw)) (Or.inl (kw45 hw)) (by decide) (t := .int) (t' := .int) (by decide) (by decide)))
  have F_thisun20il_longCellCount_t115 := F_thisun20il_longCellCount_t112.other W115 (Or.inr (slot_ne (Or.inl (kw38 hw)) (Or.inl (kw45 hw)) (by decide) (t := .int) (t' := .int) (by decide) (by decide)))
  have F_thisun20il_epoch_t115 := F_thisun20il_epoch_t112.other W115 (Or.inr (slot_ne (Or.inl (kw24 hw)) (Or.inl (kw45 hw)) (by decide) (t := .int) (t' := .int) (by decide) (by decide)))
  have V_values_un20il_t115 := V_values_un20il_t112.other W115 ne_values_un20il_thisun20il
  have V_savedCells_un20il_t115 := V_savedCells_un20il_t112.other W115 ne_savedCells_un20il_thisun20il
  have V_savedValues_un20il_t115 := V_savedValues_un20il_t112.other W115 ne_savedValues_un20il_thisun20il
  have V_longValues_un20il_t115 := V_longValues_un20il_t112.other W115 ne_longValues_un20il_thisun20il
  have F_thisun20il_savedCount_t115 : Fld Z h115 thisun20il "com/example/tauten/tauten/Trail" "savedCount" "I" (.int (0 : Int32)) := F_thisun20il_savedCount_t112.same W115
  show Wq _ _ _ _ _ (T115.setTop (mkF m 18 #[.val (.ref thisun20il), .val (.int (0 : Int32)), .val (.int (-1 : Int32))] []))
  refine Ow.aloadN X115 hx (pc' := 19) (hb hby d_prog_71_method_9_18) rfl rfl ?_
  obtain ⟨T116, X116, e116, st116⟩ := getF X115 hx hZ hown (host := "") (Or.inl (kw19 hw)) Via.refl e115 F_thisun20il_savedCells_t115 (g := (mkF m 19 #[.val (.ref thisun20il), .val (.int (0 : Int32)), .val (.int (-1 : Int32))] [(.ref thisun20il)])) rfl rfl (hb hby d_prog_71_method_9_19)
  refine Wq.step st116 ?_
  show Wq _ _ _ _ _ (T116.setTop (mkF m 22 #[.val (.ref thisun20il), .val (.int (0 : Int32)), .val (.int (-1 : Int32))] [(.ref savedCells_un20il)]))
  refine Ow.aloadN X116 hx (pc' := 23) (hb hby d_prog_71_method_9_22) rfl rfl ?_
  obtain ⟨T117, X117, e117, st117⟩ := getF X116 hx hZ hown (host := "") (Or.inl (kw44 hw)) Via.refl e116 F_thisun20il_savedCount_t115 (g := (mkF m 23 #[.val (.ref thisun20il), .val (.int (0 : Int32)), .val (.int (-1 : Int32))] [(.ref thisun20il), (.ref savedCells_un20il)])) rfl rfl (hb hby d_prog_71_method_9_23)
  refine Wq.step st117 ?_
  show Wq _ _ _ _ _ (T117.setTop (mkF m 26 #[.val (.ref thisun20il), .val (.int (0 : Int32)), .val (.int (-1 : Int32))] [(.int (0 : Int32)), (.ref savedCells_un20il)]))
  refine Ow.ldI X117 hx hZ e117 V_savedCells_un20il_t115 (pc' := 27) (hb hby d_prog_71_method_9_26) (j := (0 : Int32)) (i := 0) (v := (.int (0 : Int32))) (by decide) rfl rfl ?_
  refine Ow.istoreN X117 hx (pc' := 28) (hb hby d_prog_71_method_9_27) (l' := #[.val (.ref thisun20il), .val (.int (0 : Int32)), .val (.int (0 : Int32))]) rfl ?_
  refine Ow.iloadN X117 hx (pc' := 29) (hb hby d_prog_71_method_9_28) rfl ?_
  refine Ow.ifNo X117 hx (pc' := 32) (hb hby d_prog_71_method_9_29) ((if0 _ _).trans (flt (by decide : ¬ ((0 : Int32) < (0 : Int32)))).1) ?_
  refine Ow.aloadN X117 hx (pc' := 33) (hb hby d_prog_71_method_9_32) rfl rfl ?_
  obtain ⟨T118, X118, e118, st118⟩ := getF X117 hx hZ hown (host := "") (Or.inl (kw10 hw)) Via.refl e117 F_thisun20il_values_t115 (g := (mkF m 33 #[.val (.ref thisun20il), .val (.int (0 : Int32)), .val (.int (0 : Int32))] [(.ref thisun20il)])) rfl rfl (hb hby d_prog_71_method_9_33)
  refine Wq.step st118 ?_
  show Wq _ _ _ _ _ (T118.setTop (mkF m 36 #[.val (.ref thisun20il), .val (.int (0 : Int32)), .val (.int (0 : Int32))] [(.ref values_un20il)]))
  refine Ow.iloadN X118 hx (pc' := 37) (hb hby d_prog_71_method_9_36) rfl ?_
  refine Ow.aloadN X118 hx (pc' := 38) (hb hby d_prog_71_method_9_37) rfl rfl ?_
  obtain ⟨T119, X119, e119, st119⟩ := getF X118 hx hZ hown (host := "") (Or.inl (kw21 hw)) Via.refl e118 F_thisun20il_savedValues_t115 (g := (mkF m 38 #[.val (.ref thisun20il), .val (.int (0 : Int32)), .val (.int (0 : Int32))] [(.ref thisun20il), (.int (0 : Int32)), (.ref values_un20il)])) rfl rfl (hb hby d_prog_71_method_9_38)
  refine Wq.step st119 ?_
  show Wq _ _ _ _ _ (T119.setTop (mkF m 41 #[.val (.ref thisun20il), .val (.int (0 : Int32)), .val (.int (0 : Int32))] [(.ref savedValues_un20il), (.int (0 : Int32)), (.ref values_un20il)]))
  refine Ow.aloadN X119 hx (pc' := 42) (hb hby d_prog_71_method_9_41) rfl rfl ?_
  obtain ⟨T120, X120, e120, st120⟩ := getF X119 hx hZ hown (host := "") (Or.inl (kw44 hw)) Via.refl e119 F_thisun20il_savedCount_t115 (g := (mkF m 42 #[.val (.ref thisun20il), .val (.int (0 : Int32)), .val (.int (0 : Int32))] [(.ref thisun20il), (.ref savedValues_un20il), (.int (0 : Int32)), (.ref values_un20il)])) rfl rfl (hb hby d_prog_71_method_9_42)
  refine Wq.step st120 ?_
  show Wq _ _ _ _ _ (T120.setTop (mkF m 45 #[.val (.ref thisun20il), .val (.int (0 : Int32)), .val (.int (0 : Int32))] [(.int (0 : Int32)), (.ref savedValues_un20il), (.int (0 : Int32)), (.ref values_un20il)]))
  refine Ow.ldJ X120 hx hZ e120 V_savedValues_un20il_t115 (pc' := 46) (hb hby d_prog_71_method_9_45) (j := (0 : Int32)) (i := 0) (v := (.long se0_un20il)) (by decide) rfl rfl ?_
  refine Ow.l2i X120 hx (pc' := 47) (hb hby d_prog_71_method_9_46) (z := (se0_un20il.toInt32)) rfl ?_
  obtain ⟨T121, h121, X121, e121, W121, Vr121, st121⟩ := asI X120 hx hZ e120 V_values_un20il_t115 (j := (0 : Int32)) (i := 0) (by decide) rfl (by simp only [List.length_cons]; omega) (g := (mkF m 47 #[.val (.ref thisun20il), .val (.int (0 : Int32)), .val (.int (0 : Int32))] [(.int (se0_un20il.toInt32)), (.int (0 : Int32)), (.ref values_un20il)])) rfl rfl (hb hby d_prog_71_method_9_47)
  refine Wq.step st121 ?_
  have N121 := Fr.snoc X121 N115 g_values_un20il
  have K121 : Keep h0 h121 [thisun20il, longValues_un20il, values_un20il] := K115.wr W121 (Or.inl (List.mem_of_getElem? (i := 2) rfl))
  have Z121 : n0 ≤ h121.size := Nat.le_trans Z115 (Keep.of_wr W121).1
  have E_thisun20il_t121 := E_thisun20il_t115.wr W121
  have F_thisun20il_values_t121 := F_thisun20il_values_t115.other W121 (Or.inl (Ne.symm ne_values_un20il_thisun20il))
  have F_thisun20il_savedAt_t121 := F_thisun20il_savedAt_t115.other W121 (Or.inl (Ne.symm ne_values_un20il_thisun20il))
  have F_thisun20il_longValues_t121 := F_thisun20il_longValues_t115.other W121 (Or.inl (Ne.symm ne_values_un20il_thisun20il))
  have F_thisun20il_longSavedAt_t121 := F_thisun20il_longSavedAt_t115.other W121 (Or.inl (Ne.symm ne_values_un20il_thisun20il))
  have F_thisun20il_savedCells_t121 := F_thisun20il_savedCells_t115.other W121 (Or.inl (Ne.symm ne_values_un20il_thisun20il))
  have F_thisun20il_savedValues_t121 := F_thisun20il_savedValues_t115.other W121 (Or.inl (Ne.symm ne_values_un20il_thisun20il))
  have F_thisun20il_cellCount_t121 := F_thisun20il_cellCount_t115.other W121 (Or.inl (Ne.symm ne_values_un20il_thisun20il))
  have F_thisun20il_longCellCount_t121 := F_thisun20il_longCellCount_t115.other W121 (Or.inl (Ne.symm ne_values_un20il_thisun20il))
  have F_thisun20il_epoch_t121 := F_thisun20il_epoch_t115.other W121 (Or.inl (Ne.symm ne_values_un20il_thisun20il))
  have V_savedCells_un20il_t121 := V_savedCells_un20il_t115.other W121 (Ne.symm ne_values_un20il_savedCells_un20il)
  have V_savedValues_un20il_t121 := V_savedValues_un20il_t115.other W121 (Ne.symm ne_values_un20il_savedValues_un20il)
  have V_longValues_un20il_t121 := V_longValues_un20il_t115.other W121 (Ne.symm ne_values_un20il_longValues_un20il)
  have F_thisun20il_savedCount_t121 := F_thisun20il_savedCount_t115.other W121 (Or.inl (Ne.symm ne_values_un20il_thisun20il))
  have V_values_un20il_t121 : Al Z h121 values_un20il .int ((.int (se0_un20il.toInt32)) :: rvalues_un20il) := Vr121
  show Wq _ _ _ _ _ (T121.setTop (mkF m 48 #[.val (.ref thisun20il), .val (.int (0 : Int32)), .val (.int (0 : Int32))] []))
  refine Ow.goto X121 hx (pc' := 68) (hb hby d_prog_71_method_9_48) (by decide) (by decide) ?_
  refine Ow.goto X121 hx (pc' := 0) (hb hby d_prog_71_method_9_68) (by decide) (by decide) ?_
  refine Ow.aloadN X121 hx (pc' := 1) (hb hby d_prog_71_method_9_0) rfl rfl ?_
  obtain ⟨T122, X122, e122, st122⟩ := getF X121 hx hZ hown (host := "") (Or.inl (kw44 hw)) Via.refl e121 F_thisun20il_savedCount_t121 (g := (mkF m 1 #[.val (.ref thisun20il), .val (.int (0 : Int32)), .val (.int (0 : Int32))] [(.ref thisun20il)])) rfl rfl (hb hby d_prog_71_method_9_1)
  refine Wq.step st122 ?_
  show Wq _ _ _ _ _ (T122.setTop (mkF m 4 #[.val (.ref thisun20il), .val (.int (0 : Int32)), .val (.int (0 : Int32))] [(.int (0 : Int32))]))
  refine Ow.iloadN X122 hx (pc' := 5) (hb hby d_prog_71_method_9_4) rfl ?_
  refine Ow.icmpYes X122 hx (pc' := 71) (hb hby d_prog_71_method_9_5) (flt (by decide : ¬ ((0 : Int32) < (0 : Int32)))).2.2.2 (by decide) (by decide) ?_
  refine Ow.aloadN X122 hx (pc' := 72) (hb hby d_prog_71_method_9_71) rfl rfl ?_
  refine Ow.dup X122 hx (pc' := 73) (hb hby d_prog_71_method_9_72) rfl ?_
  obtain ⟨T123, X123, e123, st123⟩ := getF X122 hx hZ hown (host := "") (Or.inl (kw23 hw)) Via.refl e122 F_thisun20il_epoch_t121 (g := (mkF m 73 #[.val (.ref thisun20il), .val (.int (0 : Int32)), .val (.int (0 : Int32))] [(.ref thisun20il), (.ref thisun20il)])) rfl rfl (hb hby d_prog_71_method_9_73)
  refine Wq.step st123 ?_
  show Wq _ _ _ _ _ (T123.setTop (mkF m 76 #[.val (.ref thisun20il), .val (.int (0 : Int32)), .val (.int (0 : Int32))] [(.int epoch_un20il), (.ref thisun20il)]))
  refine Ow.iconst X123 hx (pc' := 77) (hb hby d_prog_71_method_9_76) (z := (1 : Int32)) rfl ?_
  refine Ow.iadd X123 hx (pc' := 78) (hb hby d_prog_71_method_9_77) (z := (epoch_un20il + (1 : Int32))) rfl ?_
  obtain ⟨T124, h124, X124, e124, W124, st124⟩ := putF X123 hx hZ hown (host := "") (Or.inl (kw23 hw)) Via.refl e123 F_thisun20il_epoch_t121 E_thisun20il_t121 (Or.inl (kw24 hw)) (kw1 hw) (ty := .int) (by decide) (rfl) (rfl) (g := (mkF m 78 #[.val (.ref thisun20il), .val (.int (0 : Int32)), .val (.int (0 : Int32))] [(.int (epoch_un20il + (1 : Int32))), (.ref thisun20il)])) rfl rfl (hb hby d_prog_71_method_9_78)
  refine Wq.step st124 ?_
  have N124 := Fr.snoc X124 N121 g_thisun20il
  have K124 : Keep h0 h124 [thisun20il, longValues_un20il, values_un20il] := K121.wr W124 (Or.inl (List.mem_of_getElem? (i := 0) rfl))
  have Z124 : n0 ≤ h124.size := Nat.le_trans Z121 (Keep.of_wr W124).1
  have E_thisun20il_t124 := E_thisun20il_t121.wr W124
  have F_thisun20il_values_t124 := F_thisun20il_values_t121.other W124 (Or.inr (slot_ne (Or.inl (kw11 hw)) (Or.inl (kw24 hw)) (by decide) (t := (.array .int)) (t' := .int) (by decide) (by decide)))
  have F_thisun20il_savedAt_t124 := F_thisun20il_savedAt_t121.other W124 (Or.inr (slot_ne (Or.inl (kw13 hw)) (Or.inl (kw24 hw)) (by decide) (t := (.array .int)) (t' := .int) (by decide) (by decide)))
  have F_thisun20il_longValues_t124 := F_thisun20il_longValues_t121.other W124 (Or.inr (slot_ne (Or.inl (kw16 hw)) (Or.inl (kw24 hw)) (by decide) (t := (.array .long)) (t' := .int) (by decide) (by decide)))
  have F_thisun20il_longSavedAt_t124 := F_thisun20il_longSavedAt_t121.other W124 (Or.inr (slot_ne (Or.inl (kw18 hw)) (Or.inl (kw24 hw)) (by decide) (t := (.array .int)) (t' := .int) (by decide) (by decide)))
  have F_thisun20il_savedCells_t124 := F_thisun20il_savedCells_t121.other W124 (Or.inr (slot_ne (Or.inl (kw20 hw)) (Or.inl (kw24 hw)) (by decide) (t := (.array .int)) (t' := .int) (by decide) (by decide)))
  have F_thisun20il_savedValues_t124 := F_thisun20il_savedValues_t121.other W124 (Or.inr (slot_ne (Or.inl (kw22 hw)) (Or.inl (kw24 hw)) (by decide) (t := (.array .long)) (t' := .int) (by decide) (by decide)))
  have F_thisun20il_cellCount_t124 := F_thisun20il_cellCount_t121.other W124 (Or.inr (slot_ne (Or.inl (kw31 hw)) (Or.inl (kw24 hw)) (by decide) (t := .int) (t' := .int) (by decide) (by decide)))
  have F_thisun20il_longCellCount_t124 := F_thisun20il_longCellCount_t121.other W124 (Or.inr (slot_ne (Or.inl (kw38 hw)) (Or.inl (kw24 hw)) (by decide) (t := .int) (t' := .int) (by decide) (by decide)))
  have V_savedCells_un20il_t124 := V_savedCells_un20il_t121.other W124 ne_savedCells_un20il_thisun20il
  have V_savedValues_un20il_t124 := V_savedValues_un20il_t121.other W124 ne_savedValues_un20il_thisun20il
  have V_longValues_un20il_t124 := V_longValues_un20il_t121.other W124 ne_longValues_un20il_thisun20il
  have F_thisun20il_savedCount_t124 := F_thisun20il_savedCount_t121.other W124 (Or.inr (slot_ne (Or.inl (kw45 hw)) (Or.inl (kw24 hw)) (by decide) (t := .int) (t' := .int) (by decide) (by decide)))
  have V_values_un20il_t124 := V_values_un20il_t121.other W124 ne_values_un20il_thisun20il
  have F_thisun20il_epoch_t124 : Fld Z h124 thisun20il "com/example/tauten/tauten/Trail" "epoch" "I" (.int (epoch_un20il + (1 : Int32))) := F_thisun20il_epoch_t121.same W124
  show Wq _ _ _ _ _ (T124.setTop (mkF m 81 #[.val (.ref thisun20il), .val (.int (0 : Int32)), .val (.int (0 : Int32))] []))
  exact Wq.ret X124 (BodyLoose.notSynchronized Bd) (rv := none) (fun _ => rfl) (fun _ hr => X124.returnOut hx Bd.returns (hb hby d_prog_71_method_9_81) hr) (by decide) (by decide) (by rw [e124]; exact ⟨rfl, N124, K124, E_thisun20il_t124, F_thisun20il_values_t124, F_thisun20il_savedAt_t124, F_thisun20il_longValues_t124, F_thisun20il_longSavedAt_t124, F_thisun20il_savedCells_t124, F_thisun20il_savedValues_t124, F_thisun20il_cellCount_t124, F_thisun20il_longCellCount_t124, V_longValues_un20il_t124, F_thisun20il_savedCount_t124, V_values_un20il_t124, F_thisun20il_epoch_t124⟩)
theorem ef_sl0 (m : MethodId) (thissl0 : Addr) (ysl0_2 : Int64) : entryFrame m #[(.ref thissl0), (.int (0 : Int32)), (.long ysl0_2)] 4 = mkF m 0 #[.val (.ref thissl0), .val (.int (0 : Int32)), .val (.long ysl0_2), .second] [] := by first | (simp [entryFrame, mkF, argsToLocals, Value.category]; done) | rfl
def Q_sl0 (Z : State) (thissl0 : Addr) (ysl0_2 : Int64) (values_sl0 : Addr) (savedAt_sl0 : Addr) (longValues_sl0 : Addr) (longSavedAt_sl0 : Addr) (savedCells_sl0 : Addr) (savedValues_sl0 : Addr) (cellCount_sl0 : Int32) (longCellCount_sl0 : Int32) (epoch_sl0 : Int32) (le0_sl0 : Int64) (rlongValues_sl0 : List Value) (lA0_sl0 : Int32) (rlongSavedAt_sl0 : List Value) (sl0_sl0 : Int32) (sl1_sl0 : Int32) (sl2_sl0 : Int32) (sl3_sl0 : Int32) (rsavedCells_sl0 : List Value) (se0_sl0 : Int64) (se1_sl0 : Int64) (se2_sl0 : Int64) (se3_sl0 : Int64) (rsavedValues_sl0 : List Value) (h0 : Heap) (n0 : Nat) (v : Option Value) (h : Heap) (L : List Loc) : Prop := v = none ∧ Fr n0 L ∧ Keep h0 h [thissl0, savedValues_sl0, savedCells_sl0, longSavedAt_sl0, longValues_sl0] ∧ Exa Z h thissl0 "com/example/tauten/tauten/Trail" ∧ Fld Z h thissl0 "com/example/tauten/tauten/Trail" "values" "[I" (.ref values_sl0) ∧ Fld Z h thissl0 "com/example/tauten/tauten/Trail" "savedAt" "[I" (.ref savedAt_sl0) ∧ Fld Z h thissl0 "com/example/tauten/tauten/Trail" "longValues" "[J" (.ref longValues_sl0) ∧ Fld Z h thissl0 "com/example/tauten/tauten/Trail" "longSavedAt" "[I" (.ref longSavedAt_sl0) ∧ Fld Z h thissl0 "com/example/tauten/tauten/Trail" "savedCells" "[I" (.ref savedCells_sl0) ∧ Fld Z h thissl0 "com/example/tauten/tauten/Trail" "savedValues" "[J" (.ref savedValues_sl0) ∧ Fld Z h thissl0 "com/example/tauten/tauten/Trail" "cellCount" "I" (.int cellCount_sl0) ∧ Fld Z h thissl0 "com/example/tauten/tauten/Trail" "longCellCount" "I" (.int longCellCount_sl0) ∧ Fld Z h thissl0 "com/example/tauten/tauten/Trail" "epoch" "I" (.int epoch_sl0) ∧ Al Z h savedCells_sl0 .int ((.int (-1 : Int32)) :: (.int sl1_sl0) :: (.int sl2_sl0) :: (.int sl3_sl0) :: rsavedCells_sl0) ∧ Al Z h savedValues_sl0 .long ((.long le0_sl0) :: (.long se1_sl0) :: (.long se2_sl0) :: (.long se3_sl0) :: rsavedValues_sl0) ∧ Fld Z h thissl0 "com/example/tauten/tauten/Trail" "savedCount" "I" (.int (1 : Int32)) ∧ Al Z h longSavedAt_sl0 .int ((.int epoch_sl0) :: rlongSavedAt_sl0) ∧ Al Z h longValues_sl0 .long ((.long ysl0_2) :: rlongValues_sl0)
set_option maxRecDepth 65536 in
set_option maxHeartbeats 40000000 in
theorem rm_sl0 (l : Launch) (Z : State) (a0 : Array Value) (hw : ∀ d ∈ tables_1, d.before a0 Z = true) (ws : List Jvm.Cond) (thissl0 : Addr) (ysl0_2 : Int64) (values_sl0 : Addr) (savedAt_sl0 : Addr) (longValues_sl0 : Addr) (longSavedAt_sl0 : Addr) (savedCells_sl0 : Addr) (savedValues_sl0 : Addr) (cellCount_sl0 : Int32) (longCellCount_sl0 : Int32) (epoch_sl0 : Int32) (le0_sl0 : Int64) (rlongValues_sl0 : List Value) (lA0_sl0 : Int32) (rlongSavedAt_sl0 : List Value) (sl0_sl0 : Int32) (sl1_sl0 : Int32) (sl2_sl0 : Int32) (sl3_sl0 : Int32) (rsavedCells_sl0 : List Value) (se0_sl0 : Int64) (se1_sl0 : Int64) (se2_sl0 : Int64) (se3_sl0 : Int64) (rsavedValues_sl0 : List Value) (h0 : Heap) (n0 : Nat) (Z0 : n0 ≤ h0.size) (hlen : rsavedCells_sl0.length = 252) (E_thissl0 : Exa Z h0 thissl0 "com/example/tauten/tauten/Trail") (F_thissl0_values : Fld Z h0 thissl0 "com/example/tauten/tauten/Trail" "values" "[I" (.ref values_sl0)) (F_thissl0_savedAt : Fld Z h0 thissl0 "com/example/tauten/tauten/Trail" "savedAt" "[I" (.ref savedAt_sl0)) (F_thissl0_longValues : Fld Z h0 thissl0 "com/example/tauten/tauten/Trail" "longValues" "[J" (.ref longValues_sl0)) (F_thissl0_longSavedAt : Fld Z h0 thissl0 "com/example/tauten/tauten/Trail" "longSavedAt" "[I" (.ref longSavedAt_sl0)) (F_thissl0_savedCells : Fld Z h0 thissl0 "com/example/tauten/tauten/Trail" "savedCells" "[I" (.ref savedCells_sl0)) (F_thissl0_savedValues : Fld Z h0 thissl0 "com/example/tauten/tauten/Trail" "savedValues" "[J" (.ref savedValues_sl0)) (F_thissl0_cellCount : Fld Z h0 thissl0 "com/example/tauten/tauten/Trail" "cellCount" "I" (.int cellCount_sl0)) (F_thissl0_longCellCount : Fld Z h0 thissl0 "com/example/tauten/tauten/Trail" "longCellCount" "I" (.int longCellCount_sl0)) (F_thissl0_savedCount : Fld Z h0 thissl0 "com/example/tauten/tauten/Trail" "savedCount" "I" (.int (0 : Int32))) (F_thissl0_epoch : Fld Z h0 thissl0 "com/example/tauten/tauten/Trail" "epoch" "I" (.int epoch_sl0)) (g_thissl0 : n0 ≤ thissl0) (V_longValues_sl0 : Al Z h0 longValues_sl0 .long ((.long le0_sl0) :: rlongValues_sl0)) (g_longValues_sl0 : n0 ≤ longValues_sl0) (ne_longValues_sl0_thissl0 : longValues_sl0 ≠ thissl0) (V_longSavedAt_sl0 : Al Z h0 longSavedAt_sl0 .int ((.int lA0_sl0) :: rlongSavedAt_sl0)) (g_longSavedAt_sl0 : n0 ≤ longSavedAt_sl0) (ne_longSavedAt_sl0_thissl0 : longSavedAt_sl0 ≠ thissl0) (V_savedCells_sl0 : Al Z h0 savedCells_sl0 .int ((.int sl0_sl0) :: (.int sl1_sl0) :: (.int sl2_sl0) :: (.int sl3_sl0) :: rsavedCells_sl0)) (g_savedCells_sl0 : n0 ≤ savedCells_sl0) (ne_savedCells_sl0_thissl0 : savedCells_sl0 ≠ thissl0) (V_savedValues_sl0 : Al Z h0 savedValues_sl0 .long ((.long se0_sl0) :: (.long se1_sl0) :: (.long se2_sl0) :: (.long se3_sl0) :: rsavedValues_sl0)) (g_savedValues_sl0 : n0 ≤ savedValues_sl0) (ne_savedValues_sl0_thissl0 : savedValues_sl0 ≠ thissl0) (ne_longValues_sl0_longSavedAt_sl0 : longValues_sl0 ≠ longSavedAt_sl0) (ne_longValues_sl0_savedCells_sl0 : longValues_sl0 ≠ savedCells_sl0) (ne_longValues_sl0_savedValues_sl0 : longValues_sl0 ≠ savedValues_sl0) (ne_longSavedAt_sl0_savedCells_sl0 : longSavedAt_sl0 ≠ savedCells_sl0) (ne_longSavedAt_sl0_savedValues_sl0 : longSavedAt_sl0 ≠ savedValues_sl0) (ne_savedCells_sl0_savedValues_sl0 : savedCells_sl0 ≠ savedValues_sl0) (hc10 : ¬ (lA0_sl0 = epoch_sl0)) :
    MetFree l mt10 (head1 (Jvm.Cond.code mt10 prog_71_method_7_code 4 none :: ws) ({ frames := 1, cells := 0, slots := 0, locals := 15 } : Room)) (fun a U => a = #[(.ref thissl0), (.int (0 : Int32)), (.long ysl0_2)] ∧ Z.Warmed39 U.vm ∧ U.heap = h0) (fun _ _ _ _ _ => True) (fun _ U o U' => ∃ v L, o = .returned v ∧ (Q_sl0 Z thissl0 ysl0_2 values_sl0 savedAt_sl0 longValues_sl0 longSavedAt_sl0 savedCells_sl0 savedValues_sl0 cellCount_sl0 longCellCount_sl0 epoch_sl0 le0_sl0 rlongValues_sl0 lA0_sl0 rlongSavedAt_sl0 sl0_sl0 sl1_sl0 sl2_sl0 sl3_sl0 rsavedCells_sl0 se0_sl0 se1_sl0 se2_sl0 se3_sl0 rsavedValues_sl0 h0 n0) v U'.heap L ∧ FrameEnd U o U' L ({ frames := 1, cells := 0, slots := 0, locals := 15 } : Room).cells ({ frames := 1, cells := 0, slots := 0, locals := 15 } : Room).slots) := by
  refine MetFree.of_bodySF (plainFor_of_name pn1) hisR ?_
  intro p e s m args below meth c s₁ Bd hml0 hP hK
  obtain ⟨rfl, hZ, hh⟩ := hP
  have hx := Bd.exec
  have hby := Bd.bytes
  have hml : c.maxLocals = 4 := hml0
  have hown : s.vm.findClass "com/example/tauten/tauten/Trail" = some m.cls := findClass_of_methodNamed Bd.named
  have hnm := (name_of_methodNamed Bd.named Bd.method).1
  have X0 : Stand p l e ({ frames := 1, cells := 0, slots := 0, locals := 15 } : Room) s m #[(.ref thissl0), (.int (0 : Int32)), (.long ysl0_2)] below meth c s₁ [] 0 0 := Stand.of_body Bd
  have e0 : s₁.heap = h0 := by rw [← hh, Bd.state]; rfl
  have N0 := Fr.nil n0
  refine Wq.step (p := p) (e := e) (below := below) (En := (fun o t L => FrameEnd s o t L ({ frames := 1, cells := 0, slots := 0, locals := 15 } : Room).cells ({ frames := 1, cells := 0, slots := 0, locals := 15 } : Room).slots)) (Q := (Q_sl0 Z thissl0 ysl0_2 values_sl0 savedAt_sl0 longValues_sl0 longSavedAt_sl0 savedCells_sl0 savedValues_sl0 cellCount_sl0 longCellCount_sl0 epoch_sl0 le0_sl0 rlongValues_sl0 lA0_sl0 rlongSavedAt_sl0 sl0_sl0 sl1_sl0 sl2_sl0 sl3_sl0 rsavedCells_sl0 se0_sl0 se1_sl0 se2_sl0 se3_sl0 rsavedValues_sl0 h0 n0)) (fun t k => castTop (ef_sl0 m thissl0 ysl0_2) k) ?_
  show Wq _ _ _ _ _ (s₁.setTop (mkF m 0 #[.val (.ref thissl0), .val (.int (0 : Int32)), .val (.long ysl0_2), .second] []))
  refine Ow.aloadN X0 hx (pc' := 1) (hb hby d_prog_71_method_7_0) rfl rfl ?_
  obtain ⟨T134, X134, e134, st134⟩ := getF X0 hx hZ hown (host := "") (Or.inl (kw17 hw)) Via.refl e0 F_thissl0_longSavedAt (g := (mkF m 1 #[.val (.ref thissl0), .val (.int (0 : Int32)), .val (.long ysl0_2), .second] [(.ref thissl0)])) rfl rfl (hb hby d_prog_71_method_7_1)
  refine Wq.step st134 ?_
  show Wq _ _ _ _ _ (T134.setTop (mkF m 4 #[.val (.ref thissl0), .val (.int (0 : Int32)), .val (.long ysl0_2), .second] [(.ref longSavedAt_sl0)]))
  refine Ow.iloadN X134 hx (pc' := 5) (hb hby d_prog_71_method_7_4) rfl ?_
  refine Ow.ldI X134 hx hZ e134 V_longSavedAt_sl0 (pc' := 6) (hb hby d_prog_71_method_7_5) (j := (0 : Int32)) (i := 0) (v := (.int lA0_sl0)) (by decide) rfl rfl ?_
  refine Ow.aloadN X134 hx (pc' := 7) (hb hby d_prog_71_method_7_6) rfl rfl ?_
  obtain ⟨T135, X135, e135, st135⟩ := getF X134 hx hZ hown (host := "") (Or.inl (kw23 hw)) Via.refl e134 F_thissl0_epoch (g := (mkF m 7 #[.val (.ref thissl0), .val (.int (0 : Int32)), .val (.long ysl0_2), .second] [(.ref thissl0), (.int lA0_sl0)])) rfl rfl (hb hby d_prog_71_method_7_7)
  refine Wq.step st135 ?_
  show Wq _ _ _ _ _ (T135.setTop (mkF m 10 #[.val (.ref thissl0), .val (.int (0 : Int32)), .val (.long ysl0_2), .second] [(.int epoch_sl0), (.int lA0_sl0)]))
  refine Ow.icmpNo X135 hx (pc' := 13) (hb hby d_prog_71_method_7_10) (feq hc10).1 ?_
  refine Ow.aloadN X135 hx (pc' := 14) (hb hby d_prog_71_method_7_13) rfl rfl ?_
  refine Ow.iloadN X135 hx (pc' := 15) (hb hby d_prog_71_method_7_14) rfl ?_
  refine Ow.iconst X135 hx (pc' := 16) (hb hby d_prog_71_method_7_15) (z := (-1 : Int32)) rfl ?_
  refine Ow.ixor X135 hx (pc' := 17) (hb hby d_prog_71_method_7_16) (z := (-1 : Int32)) rfl ?_
  refine Ow.aloadN X135 hx (pc' := 18) (hb hby d_prog_71_method_7_17) rfl rfl ?_
  obtain ⟨T136, X136, e136, st136⟩ := getF X135 hx hZ hown (host := "") (Or.inl (kw15 hw)) Via.refl e135 F_thissl0_longValues (g := (mkF m 18 #[.val (.ref thissl0), .val (.int (0 : Int32)), .val (.long ysl0_2), .second] [(.ref thissl0), (.int (-1 : Int32)), (.ref thissl0)])) rfl rfl (hb hby d_prog_71_method_7_18)
  refine Wq.step st136 ?_
  show Wq _ _ _ _ _ (T136.setTop (mkF m 21 #[.val (.ref thissl0), .val (.int (0 : Int32)), .val (.long ysl0_2), .second] [(.ref longValues_sl0), (.int (-1 : Int32)), (.ref thissl0)]))
  refine Ow.iloadN X136 hx (pc' := 22) (hb hby d_prog_71_method_7_21) rfl ?_
  refine Ow.ldJ X136 hx hZ e136 V_longValues_sl0 (pc' := 23) (hb hby d_prog_71_method_7_22) (j := (0 : Int32)) (i := 0) (v := (.long le0_sl0)) (by decide) rfl rfl ?_
  obtain ⟨cq137, q137a, q137b⟩ := Exa.cell E_thissl0
  obtain ⟨_, _, ⟨T137, L137, k137, n137⟩, -, X137, ⟨Lc137, hQ137, l137, y137, z137⟩, st137⟩ := X136.privateBack hx (y := mt7) hown (mvT hZ (kw51 hw)) (mvT hZ (kw52 hw)) (Jvm.OwnW.selPriv (y := mt7) hZ (kw1 hw) (kw53 hw) (kw52 hw) (by decide)) (Cond.privateMethod_at (mvP hZ (kw53 hw) (args := #[]))) (mvT hZ (kw54 hw)) (by decide) (backOf (W := 0) (rm_sv0 l Z a0 hw [] thissl0 (-1 : Int32) le0_sl0 values_sl0 savedAt_sl0 longValues_sl0 longSavedAt_sl0 savedCells_sl0 savedValues_sl0 cellCount_sl0 longCellCount_sl0 epoch_sl0 sl0_sl0 sl1_sl0 sl2_sl0 sl3_sl0 rsavedCells_sl0 se0_sl0 se1_sl0 se2_sl0 se3_sl0 rsavedValues_sl0 h0 n0 Z0 (hlen) E_thissl0 F_thissl0_values F_thissl0_savedAt F_thissl0_longValues F_thissl0_longSavedAt F_thissl0_savedCells F_thissl0_savedValues F_thissl0_cellCount F_thissl0_longCellCount F_thissl0_savedCount F_thissl0_epoch g_thissl0 V_savedCells_sl0 g_savedCells_sl0 ne_savedCells_sl0_thissl0 V_savedValues_sl0 g_savedValues_sl0 ne_savedValues_sl0_thissl0 ne_savedCells_sl0_savedValues_sl0) hZ (kw54 hw) (kw2 hw) (by decide) (by decide)) (g := (mkF m 23 #[.val (.ref thissl0), .val (.int (0 : Int32)), .val (.long ysl0_2), .second] [(.long le0_sl0), (.int (-1 : Int32)), (.ref thissl0)])) rfl (by rw [hml]; rfl) (Steps.refl _) (a := thissl0) (by rw [e136]; exact q137a) q137b (argsL := [(.int (-1 : Int32)), (.long le0_sl0)]) (rest := []) (lenOf pd5 rfl) rfl (by show 2 * 0 + _ ≤ _; exact Nat.le_of_eq rfl) (hb hby d_prog_71_method_7_23) (fun _ _ => ⟨rfl, e136, (by decide : 0 + 0 ≤ _), (by decide : 0 + 0 ≤ _)⟩)
  dsimp only [Pt.U, Pt.locs, Pt.cells, Pt.slots] at X137 l137 y137 z137 st137 hQ137
  subst l137 y137 z137
  obtain ⟨rfl, Nq137, Kq137, P137_0, P137_1, P137_2, P137_3, P137_4, P137_5, P137_6, P137_7, P137_8, P137_9, P137_10, P137_11, P137_12⟩ := hQ137
  have N137 := Fr.app N0 Nq137
  have K137 : Keep h0 T137.heap [thissl0, savedValues_sl0, savedCells_sl0, longSavedAt_sl0, longValues_sl0] := (Keep.refl h0 [thissl0, savedValues_sl0, savedCells_sl0, longSavedAt_sl0, longValues_sl0]).trans Kq137 (allS (P := fun x => x ∈ [thissl0, savedValues_sl0, savedCells_sl0, longSavedAt_sl0, longValues_sl0] ∨ h0.size ≤ x) (Or.inl (List.mem_of_getElem? (i := 2) rfl)) (allS (P := fun x => x ∈ [thissl0, savedValues_sl0, savedCells_sl0, longSavedAt_sl0, longValues_sl0] ∨ h0.size ≤ x) (Or.inl (List.mem_of_getElem? (i := 1) rfl)) (allS (P := fun x => x ∈ [thissl0, savedValues_sl0, savedCells_sl0, longSavedAt_sl0, longValues_sl0] ∨ h0.size ≤ x) (Or.inl (List.mem_of_getElem? (i := 0) rfl)) all0)))
  have Z137 : n0 ≤ T137.heap.size := Nat.le_trans Z0 Kq137.1
  have E_thissl0_t137 := E_thissl0.keep Kq137
  have V_longValues_sl0_t137 := V_longValues_sl0.keep Kq137 (ninS ne_longValues_sl0_savedCells_sl0 (ninS ne_longValues_sl0_savedValues_sl0 (ninS ne_longValues_sl0_thissl0 nin0)))
  have V_longSavedAt_sl0_t137 := V_longSavedAt_sl0.keep Kq137 (ninS ne_longSavedAt_sl0_savedCells_sl0 (ninS ne_longSavedAt_sl0_savedValues_sl0 (ninS ne_longSavedAt_sl0_thissl0 nin0)))
  have e137 : T137.heap = T137.heap := rfl
  refine Wq.steps st137 ?_
  show Wq _ _ _ _ _ (T137.setTop (mkF m 26 #[.val (.ref thissl0), .val (.int (0 : Int32)), .val (.long ysl0_2), .second] []))
  refine Ow.aloadN X137 hx (pc' := 27) (hb hby d_prog_71_method_7_26) rfl rfl ?_
  obtain ⟨T138, X138, e138, st138⟩ := getF X137 hx hZ hown (host := "") (Or.inl (kw17 hw)) Via.refl e137 P137_4 (g := (mkF m 27 #[.val (.ref thissl0), .val (.int (0 : Int32)), .val (.long ysl0_2), .second] [(.ref thissl0)])) rfl rfl (hb hby d_prog_71_method_7_27)
  refine Wq.step st138 ?_
  show Wq _ _ _ _ _ (T138.setTop (mkF m 30 #[.val (.ref thissl0), .val (.int (0 : Int32)), .val (.long ysl0_2), .second] [(.ref longSavedAt_sl0)]))
  refine Ow.iloadN X138 hx (pc' := 31) (hb hby d_prog_71_method_7_30) rfl ?_
  refine Ow.aloadN X138 hx (pc' := 32) (hb hby d_prog_71_method_7_31) rfl rfl ?_
  obtain ⟨T139, X139, e139, st139⟩ := getF X138 hx hZ hown (host := "") (Or.inl (kw23 hw)) Via.refl e138 P137_9 (g := (mkF m 32 #[.val (.ref thissl0), .val (.int (0 : Int32)), .val (.long ysl0_2), .second] [(.ref thissl0), (.int (0 : Int32)), (.ref longSavedAt_sl0)])) rfl rfl (hb hby d_prog_71_method_7_32)
  refine Wq.step st139 ?_
  show Wq _ _ _ _ _ (T139.setTop (mkF m 35 #[.val (.ref thissl0), .val (.int (0 : Int32)), .val (.long ysl0_2), .second] [(.int epoch_sl0), (.int (0 : Int32)), (.ref longSavedAt_sl0)]))
  obtain ⟨T140, h140, X140, e140, W140, Vr140, st140⟩ := asI X139 hx hZ e139 V_longSavedAt_sl0_t137 (j := (0 : Int32)) (i := 0) (by decide) rfl (by simp only [List.length_cons]; omega) (g := (mkF m 35 #[.val (.ref thissl0), .val (.int (0 : Int32)), .val (.long ysl0_2), .second] [(.int epoch_sl0), (.int (0 : Int32)), (.ref longSavedAt_sl0)])) rfl rfl (hb hby d_prog_71_method_7_35)
  refine Wq.step st140 ?_
  have N140 := Fr.snoc X140 N137 g_longSavedAt_sl0
  have K140 : Keep h0 h140 [thissl0, savedValues_sl0, savedCells_sl0, longSavedAt_sl0, longValues_sl0] := K137.wr W140 (Or.inl (List.mem_of_getElem? (i := 3) rfl))
  have Z140 : n0 ≤ h140.size := Nat.le_trans Z137 (Keep.of_wr W140).1
  have E_thissl0_t140 := E_thissl0_t137.wr W140
  have V_longValues_sl0_t140 := V_longValues_sl0_t137.other W140 ne_longValues_sl0_longSavedAt_sl0
  have P137_1_t140 := P137_1.other W140 (Or.inl (Ne.symm ne_longSavedAt_sl0_thissl0))
  have P137_2_t140 := P137_2.other W140 (Or.inl (Ne.symm ne_longSavedAt_sl0_thissl0))
  have P137_3_t140 := P137_3.other W140 (Or.inl (Ne.symm ne_longSavedAt_sl0_thissl0))
  have P137_4_t140 := P137_4.other W140 (Or.inl (Ne.symm ne_longSavedAt_sl0_thissl0))
  have P137_5_t140 := P137_5.other W140 (Or.inl (Ne.symm ne_longSavedAt_sl0_thissl0))
  have P137_6_t140 := P137_6.other W140 (Or.inl (Ne.symm ne_longSavedAt_sl0_thissl0))
  have P137_7_t140 := P137_7.other W140 (Or.inl (Ne.symm ne_longSavedAt_sl0_thissl0))
  have P137_8_t140 := P137_8.other W140 (Or.inl (Ne.symm ne_longSavedAt_sl0_thissl0))
  have P137_9_t140 := P137_9.other W140 (Or.inl (Ne.symm ne_longSavedAt_sl0_thissl0))
  have P137_10_t140 := P137_10.other W140 (Ne.symm ne_longSavedAt_sl0_savedCells_sl0)
  have P137_11_t140 := P137_11.other W140 (Ne.symm ne_longSavedAt_sl0_savedValues_sl0)
  have P137_12_t140 := P137_12.other W140 (Or.inl (Ne.symm ne_longSavedAt_sl0_thissl0))
  have V_longSavedAt_sl0_t140 : Al Z h140 longSavedAt_sl0 .int ((.int epoch_sl0) :: rlongSavedAt_sl0) := Vr140
  show Wq _ _ _ _ _ (T140.setTop (mkF m 36 #[.val (.ref thissl0), .val (.int (0 : Int32)), .val (.long ysl0_2), .second] []))
  refine Ow.aloadN X140 hx (pc' := 37) (hb hby d_prog_71_method_7_36) rfl rfl ?_
  obtain ⟨T141, X141, e141, st141⟩ := getF X140 hx hZ hown (host := "") (Or.inl (kw15 hw)) Via.refl e140 P137_3_t140 (g := (mkF m 37 #[.val (.ref thissl0), .val (.int (0 : Int32)), .val (.long ysl0_2), .second] [(.ref thissl0)])) rfl rfl (hb hby d_prog_71_method_7_37)
  refine Wq.step st141 ?_
  show Wq _ _ _ _ _ (T141.setTop (mkF m 40 #[.val (.ref thissl0), .val (.int (0 : Int32)), .val (.long ysl0_2), .second] [(.ref longValues_sl0)]))
  refine Ow.iloadN X141 hx (pc' := 41) (hb hby d_prog_71_method_7_40) rfl ?_
  refine Ow.lloadN X141 hx (pc' := 42) (hb hby d_prog_71_method_7_41) rfl ?_
  obtain ⟨T142, h142, X142, e142, W142, Vr142, st142⟩ := asJ X141 hx hZ e141 V_longValues_sl0_t140 (j := (0 : Int32)) (i := 0) (by decide) rfl (by simp only [List.length_cons]; omega) (g := (mkF m 42 #[.val (.ref thissl0), .val (.int (0 : Int32)), .val (.long ysl0_2), .second] [(.long ysl0_2), (.int (0 : Int32)), (.ref longValues_sl0)])) rfl rfl (hb hby d_prog_71_method_7_42)
  refine Wq.step st142 ?_
  have N142 := Fr.snoc X142 N140 g_longValues_sl0
  have K142 : Keep h0 h142 [thissl0, savedValues_sl0, savedCells_sl0, longSavedAt_sl0, longValues_sl0] := K140.wr W142 (Or.inl (List.mem_of_getElem? (i := 4) rfl))
  have Z142 : n0 ≤ h142.size := Nat.le_trans Z140 (Keep.of_wr W142).1
  have E_thissl0_t142 := E_thissl0_t140.wr W142
  have P137_1_t142 := P137_1_t140.other W142 (Or.inl (Ne.symm ne_longValues_sl0_thissl0))
  have P137_2_t142 := P137_2_t140.other W142 (Or.inl (Ne.symm ne_longValues_sl0_thissl0))
  have P137_3_t142 := P137_3_t140.other W142 (Or.inl (Ne.symm ne_longValues_sl0_thissl0))
  have P137_4_t142 := P137_4_t140.other W142 (Or.inl (Ne.symm ne_longValues_sl0_thissl0))
  have P137_5_t142 := P137_5_t140.other W142 (Or.inl (Ne.symm ne_longValues_sl0_thissl0))
  have P137_6_t142 := P137_6_t140.other W142 (Or.inl (Ne.symm ne_longValues_sl0_thissl0))
  have P137_7_t142 := P137_7_t140.other W142 (Or.inl (Ne.symm ne_longValues_sl0_thissl0))
  have P137_8_t142 := P137_8_t140.other W142 (Or.inl (Ne.symm ne_longValues_sl0_thissl0))
  have P137_9_t142 := P137_9_t140.other W142 (Or.inl (Ne.symm ne_longValues_sl0_thissl0))
  have P137_10_t142 := P137_10_t140.other W142 (Ne.symm ne_longValues_sl0_savedCells_sl0)
  have P137_11_t142 := P137_11_t140.other W142 (Ne.symm ne_longValues_sl0_savedValues_sl0)
  have P137_12_t142 := P137_12_t140.other W142 (Or.inl (Ne.symm ne_longValues_sl0_thissl0))
  have V_longSavedAt_sl0_t142 := V_longSavedAt_sl0_t140.other W142 (Ne.symm ne_longValues_sl0_longSavedAt_sl0)
  have V_longValues_sl0_t142 : Al Z h142 longValues_sl0 .long ((.long ysl0_2) :: rlongValues_sl0) := Vr142
  show Wq _ _ _ _ _ (T142.setTop (mkF m 43 #[.val (.ref thissl0), .val (.int (0 : Int32)), .val (.long ysl0_2), .second] []))
  exact Wq.ret X142 (BodyLoose.notSynchronized Bd) (rv := none) (fun _ => rfl) (fun _ hr => X142.returnOut hx Bd.returns (hb hby d_prog_71_method_7_43) hr) (by decide) (by decide) (by rw [e142]; exact ⟨rfl, N142, K142, E_thissl0_t142, P137_1_t142, P137_2_t142, P137_3_t142, P137_4_t142, P137_5_t142, P137_6_t142, P137_7_t142, P137_8_t142, P137_9_t142, P137_10_t142, P137_11_t142, P137_12_t142, V_longSavedAt_sl0_t142, V_longValues_sl0_t142⟩)
theorem ef_st1 (m : MethodId) (thisst1 : Addr) (xst1_2 : Int32) : entryFrame m #[(.ref thisst1), (.int (0 : Int32)), (.int xst1_2)] 3 = mkF m 0 #[.val (.ref thisst1), .val (.int (0 : Int32)), .val (.int xst1_2)] [] := by first | (simp [entryFrame, mkF, argsToLocals, Value.category]; done) | rfl
def Q_st1 (Z : State) (thisst1 : Addr) (xst1_2 : Int32) (values_st1 : Addr) (savedAt_st1 : Addr) (longValues_st1 : Addr) (longSavedAt_st1 : Addr) (savedCells_st1 : Addr) (savedValues_st1 : Addr) (cellCount_st1 : Int32) (longCellCount_st1 : Int32) (epoch_st1 : Int32) (ve0_st1 : Int32) (rvalues_st1 : List Value) (sA0_st1 : Int32) (rsavedAt_st1 : List Value) (sl0_st1 : Int32) (sl1_st1 : Int32) (sl2_st1 : Int32) (sl3_st1 : Int32) (rsavedCells_st1 : List Value) (se0_st1 : Int64) (se1_st1 : Int64) (se2_st1 : Int64) (se3_st1 : Int64) (rsavedValues_st1 : List Value) (h0 : Heap) (n0 : Nat) (v : Option Value) (h : Heap) (L : List Loc) : Prop := v = none ∧ Fr n0 L ∧ Keep h0 h [thisst1, savedValues_st1, savedCells_st1, savedAt_st1, values_st1] ∧ Exa Z h thisst1 "com/example/tauten/tauten/Trail" ∧ Fld Z h thisst1 "com/example/tauten/tauten/Trail" "values" "[I" (.ref values_st1) ∧ Fld Z h thisst1 "com/example/tauten/tauten/Trail" "savedAt" "[I" (.ref savedAt_st1) ∧ Fld Z h thisst1 "com/example/tauten/tauten/Trail" "longValues" "[J" (.ref longValues_st1) ∧ Fld Z h thisst1 "com/example/tauten/tauten/Trail" "longSavedAt" "[I" (.ref longSavedAt_st1) ∧ Fld Z h thisst1 "com/example/tauten/tauten/Trail" "savedCells" "[I" (.ref savedCells_st1) ∧ Fld Z h thisst1 "com/example/tauten/tauten/Trail" "savedValues" "[J" (.ref savedValues_st1) ∧ Fld Z h thisst1 "com/example/tauten/tauten/Trail" "cellCount" "I" (.int cellCount_st1) ∧ Fld Z h thisst1 "com/example/tauten/tauten/Trail" "longCellCount" "I" (.int longCellCount_st1) ∧ Fld Z h thisst1 "com/example/tauten/tauten/Trail" "epoch" "I" (.int epoch_st1) ∧ Al Z h savedCells_st1 .int ((.int sl0_st1) :: (.int (0 : Int32)) :: (.int sl2_st1) :: (.int sl3_st1) :: rsavedCells_st1) ∧ Al Z h savedValues_st1 .long ((.long se0_st1) :: (.long (ve0_st1.toInt64)) :: (.long se2_st1) :: (.long se3_st1) :: rsavedValues_st1) ∧ Fld Z h thisst1 "com/example/tauten/tauten/Trail" "savedCount" "I" (.int (2 : Int32)) ∧ Al Z h savedAt_st1 .int ((.int epoch_st1) :: rsavedAt_st1) ∧ Al Z h values_st1 .int ((.int xst1_2) :: rvalues_st1)
set_option maxRecDepth 65536 in
set_option maxHeartbeats 40000000 in
theorem rm_st1 (l : Launch) (Z : State) (a0 : Array Value) (hw : ∀ d ∈ tables_1, d.before a0 Z = true) (ws : List Jvm.Cond) (thisst1 : Addr) (xst1_2 : Int32) (values_st1 : Addr) (savedAt_st1 : Addr) (longValues_st1 : Addr) (longSavedAt_st1 : Addr) (savedCells_st1 : Addr) (savedValues_st1 : Addr) (cellCount_st1 : Int32) (longCellCount_st1 : Int32) (epoch_st1 : Int32) (ve0_st1 : Int32) (rvalues_st1 : List Value) (sA0_st1 : Int32) (rsavedAt_st1 : List Value) (sl0_st1 : Int32) (sl1_st1 : Int32) (sl2_st1 : Int32) (sl3_st1 : Int32) (rsavedCells_st1 : List Value) (se0_st1 : Int64) (se1_st1 : Int64) (se2_st1 : Int64) (se3_st1 : Int64) (rsavedValues_st1 : List Value) (h0 : Heap) (n0 : Nat) (Z0 : n0 ≤ h0.size) (hlen : rsavedCells_st1.length = 252) (E_thisst1 : Exa Z h0 thisst1 "com/example/tauten/tauten/Trail") (F_thisst1_values : Fld Z h0 thisst1 "com/example/tauten/tauten/Trail" "values" "[I" (.ref values_st1)) (F_thisst1_savedAt : Fld Z h0 thisst1 "com/example/tauten/tauten/Trail" "savedAt" "[I" (.ref savedAt_st1)) (F_thisst1_longValues : Fld Z h0 thisst1 "com/example/tauten/tauten/Trail" "longValues" "[J" (.ref longValues_st1)) (F_thisst1_longSavedAt : Fld Z h0 thisst1 "com/example/tauten/tauten/Trail" "longSavedAt" "[I" (.ref longSavedAt_st1)) (F_thisst1_savedCells : Fld Z h0 thisst1 "com/example/tauten/tauten/Trail" "savedCells" "[I" (.ref savedCells_st1)) (F_thisst1_savedValues : Fld Z h0 thisst1 "com/example/tauten/tauten/Trail" "savedValues" "[J" (.ref savedValues_st1)) (F_thisst1_cellCount : Fld Z h0 thisst1 "com/example/tauten/tauten/Trail" "cellCount" "I" (.int cellCount_st1)) (F_thisst1_longCellCount : Fld Z h0 thisst1 "com/example/tauten/tauten/Trail" "longCellCount" "I" (.int longCellCount_st1)) (F_thisst1_savedCount : Fld Z h0 thisst1 "com/example/tauten/tauten/Trail" "savedCount" "I" (.int (1 : Int32))) (F_thisst1_epoch : Fld Z h0 thisst1 "com/example/tauten/tauten/Trail" "epoch" "I" (.int epoch_st1)) (g_thisst1 : n0 ≤ thisst1) (V_values_st1 : Al Z h0 values_st1 .int ((.int ve0_st1) :: rvalues_st1)) (g_values_st1 : n0 ≤ values_st1) (ne_values_st1_thisst1 : values_st1 ≠ thisst1) (V_savedAt_st1 : Al Z h0 savedAt_st1 .int ((.int sA0_st1) :: rsavedAt_st1)) (g_savedAt_st1 : n0 ≤ savedAt_st1) (ne_savedAt_st1_thisst1 : savedAt_st1 ≠ thisst1) (V_savedCells_st1 : Al Z h0 savedCells_st1 .int ((.int sl0_st1) :: (.int sl1_st1) :: (.int sl2_st1) :: (.int sl3_st1) :: rsavedCells_st1)) (g_savedCells_st1 : n0 ≤ savedCells_st1) (ne_savedCells_st1_thisst1 : savedCells_st1 ≠ thisst1) (V_savedValues_st1 : Al Z h0 savedValues_st1 .long ((.long se0_st1) :: (.long se1_st1) :: (.long se2_st1) :: (.long se3_st1) :: rsavedValues_st1)) (g_savedValues_st1 : n0 ≤ savedValues_st1) (ne_savedValues_st1_thisst1 : savedValues_st1 ≠ thisst1) (ne_values_st1_savedAt_st1 : values_st1 ≠ savedAt_st1) (ne_values_st1_savedCells_st1 : values_st1 ≠ savedCells_st1) (ne_values_st1_savedValues_st1 : values_st1 ≠ savedValues_st1) (ne_savedAt_st1_savedCells_st1 : savedAt_st1 ≠ savedCells_st1) (ne_savedAt_st1_savedValues_st1 : savedAt_st1 ≠ savedValues_st1) (ne_savedCells_st1_savedValues_st1 : savedCells_st1 ≠ savedValues_st1) (hc10 : ¬ (sA0_st1 = epoch_st1)) :
    MetFree l mt8 (head1 (Jvm.Cond.code mt8 prog_71_method_4_code 3 none :: ws) ({ frames := 1, cells := 0, slots := 0, locals := 15 } : Room)) (fun a U => a = #[(.ref thisst1), (.int (0 : Int32)), (.int xst1_2)] ∧ Z.Warmed39 U.vm ∧ U.heap = h0) (fun _ _ _ _ _ => True) (fun _ U o U' => ∃ v L, o = .returned v ∧ (Q_st1 Z thisst1 xst1_2 values_st1 savedAt_st1 longValues_st1 longSavedAt_st1 savedCells_st1 savedValues_st1 cellCount_st1 longCellCount_st1 epoch_st1 ve0_st1 rvalues_st1 sA0_st1 rsavedAt_st1 sl0_st1 sl1_st1 sl2_st1 sl3_st1 rsavedCells_st1 se0_st1 se1_st1 se2_st1 se3_st1 rsavedValues_st1 h0 n0) v U'.heap L ∧ FrameEnd U o U' L ({ frames := 1, cells := 0, slots := 0, locals := 15 } : Room).cells ({ frames := 1, cells := 0, slots := 0, locals := 15 } : Room).slots) := by
  refine MetFree.of_bodySF (plainFor_of_name pn1) hisR ?_
  intro p e s m args below meth c s₁ Bd hml0 hP hK
  obtain ⟨rfl, hZ, hh⟩ := hP
  have hx := Bd.exec
  have hby := Bd.bytes
  have hml : c.maxLocals = 3 := hml0
  have hown : s.vm.findClass "com/example/tauten/tauten/Trail" = some m.cls := findClass_of_methodNamed Bd.named
  have hnm := (name_of_methodNamed Bd.named Bd.method).1
  have X0 : Stand p l e ({ frames := 1, cells := 0, slots := 0, locals := 15 } : Room) s m #[(.ref thisst1), (.int (0 : Int32)), (.int xst1_2)] below meth c s₁ [] 0 0 := Stand.of_body Bd
  have e0 : s₁.heap = h0 := by rw [← hh, Bd.state]; rfl
  have N0 := Fr.nil n0
  refine Wq.step (p := p) (e := e) (below := below) (En := (fun o t L => FrameEnd s o t L ({ frames := 1, cells := 0, slots := 0, locals := 15 } : Room).cells ({ frames := 1, cells := 0, slots := 0, locals := 15 } : Room).slots)) (Q := (Q_st1 Z thisst1 xst1_2 values_st1 savedAt_st1 longValues_st1 longSavedAt_st1 savedCells_st1 savedValues_st1 cellCount_st1 longCellCount_st1 epoch_st1 ve0_st1 rvalues_st1 sA0_st1 rsavedAt_st1 sl0_st1 sl1_st1 sl2_st1 sl3_st1 rsavedCells_st1 se0_st1 se1_st1 se2_st1 se3_st1 rsavedValues_st1 h0 n0)) (fun t k => castTop (ef_st1 m thisst1 xst1_2) k) ?_
  show Wq _ _ _ _ _ (s₁.setTop (mkF m 0 #[.val (.ref thisst1), .val (.int (0 : Int32)), .val (.int xst1_2)] []))
  refine Ow.aloadN X0 hx (pc' := 1) (hb hby d_prog_71_method_4_0) rfl rfl ?_
  obtain ⟨T145, X145, e145, st145⟩ := getF X0 hx hZ hown (host := "") (Or.inl (kw12 hw)) Via.refl e0 F_thisst1_savedAt (g := (mkF m 1 #[.val (.ref thisst1), .val (.int (0 : Int32)), .val (.int xst1_2)] [(.ref thisst1)])) rfl rfl (hb hby d_prog_71_method_4_1)
  refine Wq.step st145 ?_
  show Wq _ _ _ _ _ (T145.setTop (mkF m 4 #[.val (.ref thisst1), .val (.int (0 : Int32)), .val (.int xst1_2)] [(.ref savedAt_st1)]))
  refine Ow.iloadN X145 hx (pc' := 5) (hb hby d_prog_71_method_4_4) rfl ?_
  refine Ow.ldI X145 hx hZ e145 V_savedAt_st1 (pc' := 6) (hb hby d_prog_71_method_4_5) (j := (0 : Int32)) (i := 0) (v := (.int sA0_st1)) (by decide) rfl rfl ?_
  refine Ow.aloadN X145 hx (pc' := 7) (hb hby d_prog_71_method_4_6) rfl rfl ?_
  obtain ⟨T146, X146, e146, st146⟩ := getF X145 hx hZ hown (host := "") (Or.inl (kw23 hw)) Via.refl e145 F_thisst1_epoch (g := (mkF m 7 #[.val (.ref thisst1), .val (.int (0 : Int32)), .val (.int xst1_2)] [(.ref thisst1), (.int sA0_st1)])) rfl rfl (hb hby d_prog_71_method_4_7)
  refine Wq.step st146 ?_
  show Wq _ _ _ _ _ (T146.setTop (mkF m 10 #[.val (.ref thisst1), .val (.int (0 : Int32)), .val (.int xst1_2)] [(.int epoch_st1), (.int sA0_st1)]))
  refine Ow.icmpNo X146 hx (pc' := 13) (hb hby d_prog_71_method_4_10) (feq hc10).1 ?_
  refine Ow.aloadN X146 hx (pc' := 14) (hb hby d_prog_71_method_4_13) rfl rfl ?_
  refine Ow.iloadN X146 hx (pc' := 15) (hb hby d_prog_71_method_4_14) rfl ?_
  refine Ow.aloadN X146 hx (pc' := 16) (hb hby d_prog_71_method_4_15) rfl rfl ?_
  obtain ⟨T147, X147, e147, st147⟩ := getF X146 hx hZ hown (host := "") (Or.inl (kw10 hw)) Via.refl e146 F_thisst1_values (g := (mkF m 16 #[.val (.ref thisst1), .val (.int (0 : Int32)), .val (.int xst1_2)] [(.ref thisst1), (.int (0 : Int32)), (.ref thisst1)])) rfl rfl (hb hby d_prog_71_method_4_16)
  refine Wq.step st147 ?_
  show Wq _ _ _ _ _ (T147.setTop (mkF m 19 #[.val (.ref thisst1), .val (.int (0 : Int32)), .val (.int xst1_2)] [(.ref values_st1), (.int (0 : Int32)), (.ref thisst1)]))
  refine Ow.iloadN X147 hx (pc' := 20) (hb hby d_prog_71_method_4_19) rfl ?_
  refine Ow.ldI X147 hx hZ e147 V_values_st1 (pc' := 21) (hb hby d_prog_71_method_4_20) (j := (0 : Int32)) (i := 0) (v := (.int ve0_st1)) (by decide) rfl rfl ?_
  refine Ow.i2l X147 hx (pc' := 22) (hb hby d_prog_71_method_4_21) (z := (ve0_st1.toInt64)) rfl ?_
  obtain ⟨cq148, q148a, q148b⟩ := Exa.cell E_thisst1
  obtain ⟨_, _, ⟨T148, L148, k148, n148⟩, -, X148, ⟨Lc148, hQ148, l148, y148, z148⟩, st148⟩ := X147.privateBack hx (y := mt7) hown (mvT hZ (kw51 hw)) (mvT hZ (kw52 hw)) (Jvm.OwnW.selPriv (y := mt7) hZ (kw1 hw) (kw53 hw) (kw52 hw) (by decide)) (Cond.privateMethod_at (mvP hZ (kw53 hw) (args := #[]))) (mvT hZ (kw54 hw)) (by decide) (backOf (W := 0) (rm_sv1 l Z a0 hw [] thisst1 (0 : Int32) (ve0_st1.toInt64) values_st1 savedAt_st1 longValues_st1 longSavedAt_st1 savedCells_st1 savedValues_st1 cellCount_st1 longCellCount_st1 epoch_st1 sl0_st1 sl1_st1 sl2_st1 sl3_st1 rsavedCells_st1 se0_st1 se1_st1 se2_st1 se3_st1 rsavedValues_st1 h0 n0 Z0 (hlen) E_thisst1 F_thisst1_values F_thisst1_savedAt F_thisst1_longValues F_thisst1_longSavedAt F_thisst1_savedCells F_thisst1_savedValues F_thisst1_cellCount F_thisst1_longCellCount F_thisst1_savedCount F_thisst1_epoch g_thisst1 V_savedCells_st1 g_savedCells_st1 ne_savedCells_st1_thisst1 V_savedValues_st1 g_savedValues_st1 ne_savedValues_st1_thisst1 ne_savedCells_st1_savedValues_st1) hZ (kw54 hw) (kw2 hw) (by decide) (by decide)) (g := (mkF m 22 #[.val (.ref thisst1), .val (.int (0 : Int32)), .val (.int xst1_2)] [(.long (ve0_st1.toInt64)), (.int (0 : Int32)), (.ref thisst1)])) rfl (by rw [hml]; rfl) (Steps.refl _) (a := thisst1) (by rw [e147]; exact q148a) q148b (argsL := [(.int (0 : Int32)), (.long (ve0_st1.toInt64))]) (rest := []) (lenOf pd5 rfl) rfl (by show 2 * 0 + _ ≤ _; exact Nat.le_of_eq rfl) (hb hby d_prog_71_method_4_22) (fun _ _ => ⟨rfl, e147, (by decide : 0 + 0 ≤ _), (by decide : 0 + 0 ≤ _)⟩)
  dsimp only [Pt.U, Pt.locs, Pt.cells, Pt.slots] at X148 l148 y148 z148 st148 hQ148
  subst l148 y148 z148
  obtain ⟨rfl, Nq148, Kq148, P148_0, P148_1, P148_2, P148_3, P148_4, P148_5, P148_6, P148_7, P148_8, P148_9, P148_10, P148_11, P148_12⟩ := hQ148
  have N148 := Fr.app N0 Nq148
  have K148 : Keep h0 T148.heap [thisst1, savedValues_st1, savedCells_st1, savedAt_st1, values_st1] := (Keep.refl h0 [thisst1, savedValues_st1, savedCells_st1, savedAt_st1, values_st1]).trans Kq148 (allS (P := fun x => x ∈ [thisst1, savedValues_st1, savedCells_st1, savedAt_st1, values_st1] ∨ h0.size ≤ x) (Or.inl (List.mem_of_getElem? (i := 2) rfl)) (allS (P := fun x => x ∈ [thisst1, savedValues_st1, savedCells_st1, savedAt_st1, values_st1] ∨ h0.size ≤ x) (Or.inl (List.mem_of_getElem? (i := 1) rfl)) (allS (P := fun x => x ∈ [thisst1, savedValues_st1, savedCells_st1, savedAt_st1, values_st1] ∨ h0.size ≤ x) (Or.inl (List.mem_of_getElem? (i := 0) rfl)) all0)))
  have Z148 : n0 ≤ T148.heap.size := Nat.le_trans Z0 Kq148.1
  have E_thisst1_t148 := E_thisst1.keep Kq148
  have V_values_st1_t148 := V_values_st1.keep Kq148 (ninS ne_values_st1_savedCells_st1 (ninS ne_values_st1_savedValues_st1 (ninS ne_values_st1_thisst1 nin0)))
  have V_savedAt_st1_t148 := V_savedAt_st1.keep Kq148 (ninS ne_savedAt_st1_savedCells_st1 (ninS ne_savedAt_st1_savedValues_st1 (ninS ne_savedAt_st1_thisst1 nin0)))
  have e148 : T148.heap = T148.heap := rfl
  refine Wq.steps st148 ?_
  show Wq _ _ _ _ _ (T148.setTop (mkF m 25 #[.val (.ref thisst1), .val (.int (0 : Int32)), .val (.int xst1_2)] []))
  refine Ow.aloadN X148 hx (pc' := 26) (hb hby d_prog_71_method_4_25) rfl rfl ?_
  obtain ⟨T149, X149, e149, st149⟩ := getF X148 hx hZ hown (host := "") (Or.inl (kw12 hw)) Via.refl e148 P148_2 (g := (mkF m 26 #[.val (.ref thisst1), .val (.int (0 : Int32)), .val (.int xst1_2)] [(.ref thisst1)])) rfl rfl (hb hby d_prog_71_method_4_26)
  refine Wq.step st149 ?_
  show Wq _ _ _ _ _ (T149.setTop (mkF m 29 #[.val (.ref thisst1), .val (.int (0 : Int32)), .val (.int xst1_2)] [(.ref savedAt_st1)]))
  refine Ow.iloadN X149 hx (pc' := 30) (hb hby d_prog_71_method_4_29) rfl ?_
  refine Ow.aloadN X149 hx (pc' := 31) (hb hby d_prog_71_method_4_30) rfl rfl ?_
  obtain ⟨T150, X150, e150, st150⟩ := getF X149 hx hZ hown (host := "") (Or.inl (kw23 hw)) Via.refl e149 P148_9 (g := (mkF m 31 #[.val (.ref thisst1), .val (.int (0 : Int32)), .val (.int xst1_2)] [(.ref thisst1), (.int (0 : Int32)), (.ref savedAt_st1)])) rfl rfl (hb hby d_prog_71_method_4_31)
  refine Wq.step st150 ?_
  show Wq _ _ _ _ _ (T150.setTop (mkF m 34 #[.val (.ref thisst1), .val (.int (0 : Int32)), .val (.int xst1_2)] [(.int epoch_st1), (.int (0 : Int32)), (.ref savedAt_st1)]))
  obtain ⟨T151, h151, X151, e151, W151, Vr151, st151⟩ := asI X150 hx hZ e150 V_savedAt_st1_t148 (j := (0 : Int32)) (i := 0) (by decide) rfl (by simp only [List.length_cons]; omega) (g := (mkF m 34 #[.val (.ref thisst1), .val (.int (0 : Int32)), .val (.int xst1_2)] [(.int epoch_st1), (.int (0 : Int32)), (.ref savedAt_st1)])) rfl rfl (hb hby d_prog_71_method_4_34)
  refine Wq.step st151 ?_
  have N151 := Fr.snoc X151 N148 g_savedAt_st1
  have K151 : Keep h0 h151 [thisst1, savedValues_st1, savedCells_st1, savedAt_st1, values_st1] := K148.wr W151 (Or.inl (List.mem_of_getElem? (i := 3) rfl))
  have Z151 : n0 ≤ h151.size := Nat.le_trans Z148 (Keep.of_wr W151).1
  have E_thisst1_t151 := E_thisst1_t148.wr W151
  have V_values_st1_t151 := V_values_st1_t148.other W151 ne_values_st1_savedAt_st1
  have P148_1_t151 := P148_1.other W151 (Or.inl (Ne.symm ne_savedAt_st1_thisst1))
  have P148_2_t151 := P148_2.other W151 (Or.inl (Ne.symm ne_savedAt_st1_thisst1))
  have P148_3_t151 := P148_3.other W151 (Or.inl (Ne.symm ne_savedAt_st1_thisst1))
  have P148_4_t151 := P148_4.other W151 (Or.inl (Ne.symm ne_savedAt_st1_thisst1))
  have P148_5_t151 := P148_5.other W151 (Or.inl (Ne.symm ne_savedAt_st1_thisst1))
  have P148_6_t151 := P148_6.other W151 (Or.inl (Ne.symm ne_savedAt_st1_thisst1))
  have P148_7_t151 := P148_7.other W151 (Or.inl (Ne.symm ne_savedAt_st1_thisst1))
  have P148_8_t151 := P148_8.other W151 (Or.inl (Ne.symm ne_savedAt_st1_thisst1))
  have P148_9_t151 := P148_9.other W151 (Or.inl (Ne.symm ne_savedAt_st1_thisst1))
  have P148_10_t151 := P148_10.other W151 (Ne.symm ne_savedAt_st1_savedCells_st1)
  have P148_11_t151 := P148_11.other W151 (Ne.symm ne_savedAt_st1_savedValues_st1)
  have P148_12_t151 := P148_12.other W151 (Or.inl (Ne.symm ne_savedAt_st1_thisst1))
  have V_savedAt_st1_t151 : Al Z h151 savedAt_st1 .int ((.int epoch_st1) :: rsavedAt_st1) := Vr151
  show Wq _ _ _ _ _ (T151.setTop (mkF m 35 #[.val (.ref thisst1), .val (.int (0 : Int32)), .val (.int xst1_2)] []))
  refine Ow.aloadN X151 hx (pc' := 36) (hb hby d_prog_71_method_4_35) rfl rfl ?_
  obtain ⟨T152, X152, e152, st152⟩ := getF X151 hx hZ hown (host := "") (Or.inl (kw10 hw)) Via.refl e151 P148_1_t151 (g := (mkF m 36 #[.val (.ref thisst1), .val (.int (0 : Int32)), .val (.int xst1_2)] [(.ref thisst1)])) rfl rfl (hb hby d_prog_71_method_4_36)
  refine Wq.step st152 ?_
  show Wq _ _ _ _ _ (T152.setTop (mkF m 39 #[.val (.ref thisst1), .val (.int (0 : Int32)), .val (.int xst1_2)] [(.ref values_st1)]))
  refine Ow.iloadN X152 hx (pc' := 40) (hb hby d_prog_71_method_4_39) rfl ?_
  refine Ow.iloadN X152 hx (pc' := 41) (hb hby d_prog_71_method_4_40) rfl ?_
  obtain ⟨T153, h153, X153, e153, W153, Vr153, st153⟩ := asI X152 hx hZ e152 V_values_st1_t151 (j := (0 : Int32)) (i := 0) (by decide) rfl (by simp only [List.length_cons]; omega) (g := (mkF m 41 #[.val (.ref thisst1), .val (.int (0 : Int32)), .val (.int xst1_2)] [(.int xst1_2), (.int (0 : Int32)), (.ref values_st1)])) rfl rfl (hb hby d_prog_71_method_4_41)
  refine Wq.step st153 ?_
  have N153 := Fr.snoc X153 N151 g_values_st1
  have K153 : Keep h0 h153 [thisst1, savedValues_st1, savedCells_st1, savedAt_st1, values_st1] := K151.wr W153 (Or.inl (List.mem_of_getElem? (i := 4) rfl))
  have Z153 : n0 ≤ h153.size := Nat.le_trans Z151 (Keep.of_wr W153).1
  have E_thisst1_t153 := E_thisst1_t151.wr W153
  have P148_1_t153 := P148_1_t151.other W153 (Or.inl (Ne.symm ne_values_st1_thisst1))
  have P148_2_t153 := P148_2_t151.other W153 (Or.inl (Ne.symm ne_values_st1_thisst1))
  have P148_3_t153 := P148_3_t151.other W153 (Or.inl (Ne.symm ne_values_st1_thisst1))
  have P148_4_t153 := P148_4_t151.other W153 (Or.inl (Ne.symm ne_values_st1_thisst1))
  have P148_5_t153 := P148_5_t151.other W153 (Or.inl (Ne.symm ne_values_st1_thisst1))
  have P148_6_t153 := P148_6_t151.other W153 (Or.inl (Ne.symm ne_values_st1_thisst1))
  have P148_7_t153 := P148_7_t151.other W153 (Or.inl (Ne.symm ne_values_st1_thisst1))
  have P148_8_t153 := P148_8_t151.other W153 (Or.inl (Ne.symm ne_values_st1_thisst1))
  have P148_9_t153 := P148_9_t151.other W153 (Or.inl (Ne.symm ne_values_st1_thisst1))
  have P148_10_t153 := P148_10_t151.other W153 (Ne.symm ne_values_st1_savedCells_st1)
  have P148_11_t153 := P148_11_t151.other W153 (Ne.symm ne_values_st1_savedValues_st1)
  have P148_12_t153 := P148_12_t151.other W153 (Or.inl (Ne.symm ne_values_st1_thisst1))
  have V_savedAt_st1_t153 := V_savedAt_st1_t151.other W153 (Ne.symm ne_values_st1_savedAt_st1)
  have V_values_st1_t153 : Al Z h153 values_st1 .int ((.int xst1_2) :: rvalues_st1) := Vr153
  show Wq _ _ _ _ _ (T153.setTop (mkF m 42 #[.val (.ref thisst1), .val (.int (0 : Int32)), .val (.int xst1_2)] []))
  exact Wq.ret X153 (BodyLoose.notSynchronized Bd) (rv := none) (fun _ => rfl) (fun _ hr => X153.returnOut hx Bd.returns (hb hby d_prog_71_method_4_42) hr) (by decide) (by decide) (by rw [e153]; exact ⟨rfl, N153, K153, E_thisst1_t153, P148_1_t153, P148_2_t153, P148_3_t153, P148_4_t153, P148_5_t153, P148_6_t153, P148_7_t153, P148_8_t153, P148_9_t153, P148_10_t153, P148_11_t153, P148_12_t153, V_savedAt_st1_t153, V_values_st1_t153⟩)
theorem ef_un21i (m : MethodId) (thisun21i : Addr) : entryFrame m #[(.ref thisun21i), (.int (1 : Int32))] 3 = mkF m 0 #[.val (.ref thisun21i), .val (.int (1 : Int32)), .unset] [] := by first | (simp [entryFrame, mkF, argsToLocals, Value.category]; done) | rfl
def Q_un21i (Z : State) (thisun21i : Addr) (values_un21i : Addr) (savedAt_un21i : Addr) (longValues_un21i : Addr) (longSavedAt_un21i : Addr) (savedCells_un21i : Addr) (savedValues_un21i : Addr) (cellCount_un21i : Int32) (longCellCount_un21i : Int32) (epoch_un21i : Int32) (ve0_un21i : Int32) (rvalues_un21i : List Value) (le0_un21i : Int64) (rlongValues_un21i : List Value) (sl0_un21i : Int32) (sl2_un21i : Int32) (sl3_un21i : Int32) (rsavedCells_un21i : List Value) (se0_un21i : Int64) (se1_un21i : Int64) (se2_un21i : Int64) (se3_un21i : Int64) (rsavedValues_un21i : List Value) (h0 : Heap) (n0 : Nat) (v : Option Value) (h : Heap) (L : List Loc) : Prop := v = none ∧ Fr n0 L ∧ Keep h0 h [thisun21i, values_un21i] ∧ Exa Z h thisun21i "com/example/tauten/tauten/Trail" ∧ Fld Z h thisun21i "com/example/tauten/tauten/Trail" "values" "[I" (.ref values_un21i) ∧ Fld Z h thisun21i "com/example/tauten/tauten/Trail" "savedAt" "[I" (.ref savedAt_un21i) ∧ Fld Z h thisun21i "com/example/tauten/tauten/Trail" "longValues" "[J" (.ref longValues_un21i) ∧ Fld Z h thisun21i "com/example/tauten/tauten/Trail" "longSavedAt" "[I" (.ref longSavedAt_un21i) ∧ Fld Z h thisun21i "com/example/tauten/tauten/Trail" "savedCells" "[I" (.ref savedCells_un21i) ∧ Fld Z h thisun21i "com/example/tauten/tauten/Trail" "savedValues" "[J" (.ref savedValues_un21i) ∧ Fld Z h thisun21i "com/example/tauten/tauten/Trail" "cellCount" "I" (.int cellCount_un21i) ∧ Fld Z h thisun21i "com/example/tauten/tauten/Trail" "longCellCount" "I" (.int longCellCount_un21i) ∧ Fld Z h thisun21i "com/example/tauten/tauten/Trail" "savedCount" "I" (.int (1 : Int32)) ∧ Al Z h values_un21i .int ((.int (se1_un21i.toInt32)) :: rvalues_un21i) ∧ Fld Z h thisun21i "com/example/tauten/tauten/Trail" "epoch" "I" (.int (epoch_un21i + (1 : Int32)))
set_option maxRecDepth 65536 in
set_option maxHeartbeats 40000000 in
theorem rm_un21i (l : Launch) (Z : State) (a0 : Array Value) (hw : ∀ d ∈ tables_1, d.before a0 Z = true) (ws : List Jvm.Cond) (thisun21i : Addr) (values_un21i : Addr) (savedAt_un21i : Addr) (longValues_un21i : Addr) (longSavedAt_un21i : Addr) (savedCells_un21i : Addr) (savedValues_un21i : Addr) (cellCount_un21i : Int32) (longCellCount_un21i : Int32) (epoch_un21i : Int32) (ve0_un21i : Int32) (rvalues_un21i : List Value) (le0_un21i : Int64) (rlongValues_un21i : List Value) (sl0_un21i : Int32) (sl2_un21i : Int32) (sl3_un21i : Int32) (rsavedCells_un21i : List Value) (se0_un21i : Int64) (se1_un21i : Int64) (se2_un21i : Int64) (se3_un21i : Int64) (rsavedValues_un21i : List Value) (h0 : Heap) (n0 : Nat) (Z0 : n0 ≤ h0.size) (E_thisun21i : Exa Z h0 thisun21i "com/example/tauten/tauten/Trail") (F_thisun21i_values : Fld Z h0 thisun21i "com/example/tauten/tauten/Trail" "values" "[I" (.ref values_un21i)) (F_thisun21i_savedAt : Fld Z h0 thisun21i "com/example/tauten/tauten/Trail" "savedAt" "[I" (.ref savedAt_un21i)) (F_thisun21i_longValues : Fld Z h0 thisun21i "com/example/tauten/tauten/Trail" "longValues" "[J" (.ref longValues_un21i)) (F_thisun21i_longSavedAt : Fld Z h0 thisun21i "com/example/tauten/tauten/Trail" "longSavedAt" "[I" (.ref longSavedAt_un21i)) (F_thisun21i_savedCells : Fld Z h0 thisun21i "com/example/tauten/tauten/Trail" "savedCells" "[I" (.ref savedCells_un21i)) (F_thisun21i_savedValues : Fld Z h0 thisun21i "com/example/tauten/tauten/Trail" "savedValues" "[J" (.ref savedValues_un21i)) (F_thisun21i_cellCount : Fld Z h0 thisun21i "com/example/tauten/tauten/Trail" "cellCount" "I" (.int cellCount_un21i)) (F_thisun21i_longCellCount : Fld Z h0 thisun21i "com/example/tauten/tauten/Trail" "longCellCount" "I" (.int longCellCount_un21i)) (F_thisun21i_savedCount : Fld Z h0 thisun21i "com/example/tauten/tauten/Trail" "savedCount" "I" (.int (2 : Int32))) (F_thisun21i_epoch : Fld Z h0 thisun21i "com/example/tauten/tauten/Trail" "epoch" "I" (.int epoch_un21i)) (g_thisun21i : n0 ≤ thisun21i) (V_values_un21i : Al Z h0 values_un21i .int ((.int ve0_un21i) :: rvalues_un21i)) (g_values_un21i : n0 ≤ values_un21i) (ne_values_un21i_thisun21i : values_un21i ≠ thisun21i) (V_longValues_un21i : Al Z h0 longValues_un21i .long ((.long le0_un21i) :: rlongValues_un21i)) (g_longValues_un21i : n0 ≤ longValues_un21i) (ne_longValues_un21i_thisun21i : longValues_un21i ≠ thisun21i) (V_savedCells_un21i : Al Z h0 savedCells_un21i .int ((.int sl0_un21i) :: (.int (0 : Int32)) :: (.int sl2_un21i) :: (.int sl3_un21i) :: rsavedCells_un21i)) (g_savedCells_un21i : n0 ≤ savedCells_un21i) (ne_savedCells_un21i_thisun21i : savedCells_un21i ≠ thisun21i) (V_savedValues_un21i : Al Z h0 savedValues_un21i .long ((.long se0_un21i) :: (.long se1_un21i) :: (.long se2_un21i) :: (.long se3_un21i) :: rsavedValues_un21i)) (g_savedValues_un21i : n0 ≤ savedValues_un21i) (ne_savedValues_un21i_thisun21i : savedValues_un21i ≠ thisun21i) (ne_values_un21i_longValues_un21i : values_un21i ≠ longValues_un21i) (ne_values_un21i_savedCells_un21i : values_un21i ≠ savedCells_un21i) (ne_values_un21i_savedValues_un21i : values_un21i ≠ savedValues_un21i) (ne_longValues_un21i_savedCells_un21i : longValues_un21i ≠ savedCells_un21i) (ne_longValues_un21i_savedValues_un21i : longValues_un21i ≠ savedValues_un21i) (ne_savedCells_un21i_savedValues_un21i : savedCells_un21i ≠ savedValues_un21i) :
    MetFree l mt9 (head1 (Jvm.Cond.code mt9 prog_71_method_9_code 3 none :: ws) ({ frames := 0, cells := 0, slots := 0, locals := 0 } : Room)) (fun a U => a = #[(.ref thisun21i), (.int (1 : Int32))] ∧ Z.Warmed39 U.vm ∧ U.heap = h0) (fun _ _ _ _ _ => True) (fun _ U o U' => ∃ v L, o = .returned v ∧ (Q_un21i Z thisun21i values_un21i savedAt_un21i longValues_un21i longSavedAt_un21i savedCells_un21i savedValues_un21i cellCount_un21i longCellCount_un21i epoch_un21i ve0_un21i rvalues_un21i le0_un21i rlongValues_un21i sl0_un21i sl2_un21i sl3_un21i rsavedCells_un21i se0_un21i se1_un21i se2_un21i se3_un21i rsavedValues_un21i h0 n0) v U'.heap L ∧ FrameEnd U o U' L ({ frames := 0, cells := 0, slots := 0, locals := 0 } : Room).cells ({ frames := 0, cells := 0, slots := 0, locals := 0 } : Room).slots) := by
  refine MetFree.of_bodySF (plainFor_of_name pn1) hisR ?_
  intro p e s m args below meth c s₁ Bd hml0 hP hK
  obtain ⟨rfl, hZ, hh⟩ := hP
  have hx := Bd.exec
  have hby := Bd.bytes
  have hml : c.maxLocals = 3 := hml0
  have hown : s.vm.findClass "com/example/tauten/tauten/Trail" = some m.cls := findClass_of_methodNamed Bd.named
  have hnm := (name_of_methodNamed Bd.named Bd.method).1
  have X0 : Stand p l e ({ frames := 0, cells := 0, slots := 0, locals := 0 } : Room) s m #[(.ref thisun21i), (.int (1 : Int32))] below meth c s₁ [] 0 0 := Stand.of_body Bd
  have e0 : s₁.heap = h0 := by rw [← hh, Bd.state]; rfl
  have N0 := Fr.nil n0
  refine Wq.step (p := p) (e := e) (below := below) (En := (fun o t L => FrameEnd s o t L ({ frames := 0, cells := 0, slots := 0, locals := 0 } : Room).cells ({ frames := 0, cells := 0, slots := 0, locals := 0 } : Room).slots)) (Q := (Q_un21i Z thisun21i values_un21i savedAt_un21i longValues_un21i longSavedAt_un21i savedCells_un21i savedValues_un21i cellCount_un21i longCellCount_un21i epoch_un21i ve0_un21i rvalues_un21i le0_un21i rlongValues_un21i sl0_un21i sl2_un21i sl3_un21i rsavedCells_un21i se0_un21i se1_un21i se2_un21i se3_un21i rsavedValues_un21i h0 n0)) (fun t k => castTop (ef_un21i m thisun21i) k) ?_
  show Wq _ _ _ _ _ (s₁.setTop (mkF m 0 #[.val (.ref thisun21i), .val (.int (1 : Int32)), .unset] []))
  refine Ow.aloadN X0 hx (pc' := 1) (hb hby d_prog_71_method_9_0) rfl rfl ?_
  obtain ⟨T155, X155, e155, st155⟩ := getF X0 hx hZ hown (host := "") (Or.inl (kw44 hw)) Via.refl e0 F_thisun21i_savedCount (g := (mkF m 1 #[.val (.ref thisun21i), .val (.int (1 : Int32)), .unset] [(.ref thisun21i)])) rfl rfl (hb hby d_prog_71_method_9_1)
  refine Wq.step st155 ?_
  show Wq _ _ _ _ _ (T155.setTop (mkF m 4 #[.val (.ref thisun21i), .val (.int (1 : Int32)), .unset] [(.int (2 : Int32))]))
  refine Ow.iloadN X155 hx (pc' := 5) (hb hby d_prog_71_method_9_4) rfl ?_
  refine Ow.icmpNo X155 hx (pc' := 8) (hb hby d_prog_71_method_9_5) (tlt (by decide : (1 : Int32) < (2 : Int32))).2.2.2 ?_
  refine Ow.aloadN X155 hx (pc' := 9) (hb hby d_prog_71_method_9_8) rfl rfl ?_
  refine Ow.dup X155 hx (pc' := 10) (hb hby d_prog_71_method_9_9) rfl ?_
  obtain ⟨T156, X156, e156, st156⟩ := getF X155 hx hZ hown (host := "") (Or.inl (kw44 hw)) Via.refl e155 F_thisun21i_savedCount (g := (mkF m 10 #[.val (.ref thisun21i), .val (.int (1 : Int32)), .unset] [(.ref thisun21i), (.ref thisun21i)])) rfl rfl (hb hby d_prog_71_method_9_10)
  refine Wq.step st156 ?_
  show Wq _ _ _ _ _ (T156.setTop (mkF m 13 #[.val (.ref thisun21i), .val (.int (1 : Int32)), .unset] [(.int (2 : Int32)), (.ref thisun21i)]))
  refine Ow.iconst X156 hx (pc' := 14) (hb hby d_prog_71_method_9_13) (z := (1 : Int32)) rfl ?_
  refine Ow.isub X156 hx (pc' := 15) (hb hby d_prog_71_method_9_14) (z := (1 : Int32)) rfl ?_
  obtain ⟨T157, h157, X157, e157, W157, st157⟩ := putF X156 hx hZ hown (host := "") (Or.inl (kw44 hw)) Via.refl e156 F_thisun21i_savedCount E_thisun21i (Or.inl (kw45 hw)) (kw1 hw) (ty := .int) (by decide) (rfl) (rfl) (g := (mkF m 15 #[.val (.ref thisun21i), .val (.int (1 : Int32)), .unset] [(.int (1 : Int32)), (.ref thisun21i)])) rfl rfl (hb hby d_prog_71_method_9_15)
  refine Wq.step st157 ?_
  have N157 := Fr.snoc X157 N0 g_thisun21i
  have K157 : Keep h0 h157 [thisun21i, values_un21i] := (Keep.refl h0 [thisun21i, values_un21i]).wr W157 (Or.inl (List.mem_of_getElem? (i := 0) rfl))
  have Z157 : n0 ≤ h157.size := Nat.le_trans Z0 (Keep.of_wr W157).1
  have E_thisun21i_t157 := E_thisun21i.wr W157
  have F_thisun21i_values_t157 := F_thisun21i_values.other W157 (Or.inr (slot_ne (Or.inl (kw11 hw)) (Or.inl (kw45 hw)) (by decide) (t := (.array .int)) (t' := .int) (by decide) (by decide)))
  have F_thisun21i_savedAt_t157 := F_thisun21i_savedAt.other W157 (Or.inr (slot_ne (Or.inl (kw13 hw)) (Or.inl (kw45 hw)) (by decide) (t := (.array .int)) (t' := .int) (by decide) (by decide)))
  have F_thisun21i_longValues_t157 := F_thisun21i_longValues.other W157 (Or.inr (slot_ne (Or.inl (kw16 hw)) (Or.inl (kw45 hw)) (by decide) (t := (.array .long)) (t' := .int) (by decide) (by decide)))
  have F_thisun21i_longSavedAt_t157 := F_thisun21i_longSavedAt.other W157 (Or.inr (slot_ne (Or.inl (kw18 hw)) (Or.inl (kw45 hw)) (by decide) (t := (.array .int)) (t' := .int) (by decide) (by decide)))
  have F_thisun21i_savedCells_t157 := F_thisun21i_savedCells.other W157 (Or.inr (slot_ne (Or.inl (kw20 hw)) (Or.inl (kw45 hw)) (by decide) (t := (.array .int)) (t' := .int) (by decide) (by decide)))
  have F_thisun21i_savedValues_t157 := F_thisun21i_savedValues.other W157 (Or.inr (slot_ne (Or.inl (kw22 hw)) (Or.inl (kw45 hw)) (by decide) (t := (.array .long)) (t' := .int) (by decide) (by decide)))
  have F_thisun21i_cellCount_t157 := F_thisun21i_cellCount.other W157 (Or.inr (slot_ne (Or.inl (kw31 hw)) (Or.inl (kw45 hw)) (by decide) (t := .int) (t' := .int) (by decide) (by decide)))
  have F_thisun21i_longCellCount_t157 := F_thisun21i_longCellCount.other W157 (Or.inr (slot_ne (Or.inl (kw38 hw)) (Or.inl (kw45 hw)) (by decide) (t := .int) (t' := .int) (by decide) (by decide)))
  have F_thisun21i_epoch_t157 := F_thisun21i_epoch.other W157 (Or.inr (slot_ne (Or.inl (kw24 hw)) (Or.inl (kw45 hw)) (by decide) (t := .int) (t' := .int) (by decide) (by decide)))
  have V_values_un21i_t157 := V_values_un21i.other W157 ne_values_un21i_thisun21i
  have V_longValues_un21i_t157 := V_longValues_un21i.other W157 ne_longValues_un21i_thisun21i
  have V_savedCells_un21i_t157 := V_savedCells_un21i.other W157 ne_savedCells_un21i_thisun21i
  have V_savedValues_un21i_t157 := V_savedValues_un21i.other W157 ne_savedValues_un21i_thisun21i
  have F_thisun21i_savedCount_t157 : Fld Z h157 thisun21i "com/example/tauten/tauten/Trail" "savedCount" "I" (.int (1 : Int32)) := F_thisun21i_savedCount.same W157
  show Wq _ _ _ _ _ (T157.setTop (mkF m 18 #[.val (.ref thisun21i), .val (.int (1 : Int32)), .unset] []))
  refine Ow.aloadN X157 hx (pc' := 19) (hb hby d_prog_71_method_9_18) rfl rfl ?_
  obtain ⟨T158, X158, e158, st158⟩ := getF X157 hx hZ hown (host := "") (Or.inl (kw19 hw)) Via.refl e157 F_thisun21i_savedCells_t157 (g := (mkF m 19 #[.val (.ref thisun21i), .val (.int (1 : Int32)), .unset] [(.ref thisun21i)])) rfl rfl (hb hby d_prog_71_method_9_19)
  refine Wq.step st158 ?_
  show Wq _ _ _ _ _ (T158.setTop (mkF m 22 #[.val (.ref thisun21i), .val (.int (1 : Int32)), .unset] [(.ref savedCells_un21i)]))
  refine Ow.aloadN X158 hx (pc' := 23) (hb hby d_prog_71_method_9_22) rfl rfl ?_
  obtain ⟨T159, X159, e159, st159⟩ := getF X158 hx hZ hown (host := "") (Or.inl (kw44 hw)) Via.refl e158 F_thisun21i_savedCount_t157 (g := (mkF m 23 #[.val (.ref thisun21i), .val (.int (1 : Int32)), .unset] [(.ref thisun21i), (.ref savedCells_un21i)])) rfl rfl (hb hby d_prog_71_method_9_23)
  refine Wq.step st159 ?_
  show Wq _ _ _ _ _ (T159.setTop (mkF m 26 #[.val (.ref thisun21i), .val (.int (1 : Int32)), .unset] [(.int (1 : Int32)), (.ref savedCells_un21i)]))
  refine Ow.ldI X159 hx hZ e159 V_savedCells_un21i_t157 (pc' := 27) (hb hby d_prog_71_method_9_26) (j := (1 : Int32)) (i := 1) (v := (.int (0 : Int32))) (by decide) rfl rfl ?_
  refine Ow.istoreN X159 hx (pc' := 28) (hb hby d_prog_71_method_9_27) (l' := #[.val (.ref thisun21i), .val (.int (1 : Int32)), .val (.int (0 : Int32))]) rfl ?_
  refine Ow.iloadN X159 hx (pc' := 29) (hb hby d_prog_71_method_9_28) rfl ?_
  refine Ow.ifNo X159 hx (pc' := 32) (hb hby d_prog_71_method_9_29) ((if0 _ _).trans (flt (by decide : ¬ ((0 : Int32) < (0 : Int32)))).1) ?_
  refine Ow.aloadN X159 hx (pc' := 33) (hb hby d_prog_71_method_9_32) rfl rfl ?_
  obtain ⟨T160, X160, e160, st160⟩ := getF X159 hx hZ hown (host := "") (Or.inl (kw10 hw)) Via.refl e159 F_thisun21i_values_t157 (g := (mkF m 33 #[.val (.ref thisun21i), .val (.int (1 : Int32)), .val (.int (0 : Int32))] [(.ref thisun21i)])) rfl rfl (hb hby d_prog_71_method_9_33)
  refine Wq.step st160 ?_
  show Wq _ _ _ _ _ (T160.setTop (mkF m 36 #[.val (.ref thisun21i), .val (.int (1 : Int32)), .val (.int (0 : Int32))] [(.ref values_un21i)]))
  refine Ow.iloadN X160 hx (pc' := 37) (hb hby d_prog_71_method_9_36) rfl ?_
  refine Ow.aloadN X160 hx (pc' := 38) (hb hby d_prog_71_method_9_37) rfl rfl ?_
  obtain ⟨T161, X161, e161, st161⟩ := getF X160 hx hZ hown (host := "") (Or.inl (kw21 hw)) Via.refl e160 F_thisun21i_savedValues_t157 (g := (mkF m 38 #[.val (.ref thisun21i), .val (.int (1 : Int32)), .val (.int (0 : Int32))] [(.ref thisun21i), (.int (0 : Int32)), (.ref values_un21i)])) rfl rfl (hb hby d_prog_71_method_9_38)
  refine Wq.step st161 ?_
  show Wq _ _ _ _ _ (T161.setTop (mkF m 41 #[.val (.ref thisun21i), .val (.int (1 : Int32)), .val (.int (0 : Int32))] [(.ref savedValues_un21i), (.int (0 : Int32)), (.ref values_un21i)]))
  refine Ow.aloadN X161 hx (pc' := 42) (hb hby d_prog_71_method_9_41) rfl rfl ?_
  obtain ⟨T162, X162, e162, st162⟩ := getF X161 hx hZ hown (host := "") (Or.inl (kw44 hw)) Via.refl e161 F_thisun21i_savedCount_t157 (g := (mkF m 42 #[.val (.ref thisun21i), .val (.int (1 : Int32)), .val (.int (0 : Int32))] [(.ref thisun21i), (.ref savedValues_un21i), (.int (0 : Int32)), (.ref values_un21i)])) rfl rfl (hb hby d_prog_71_method_9_42)
  refine Wq.step st162 ?_
  show Wq _ _ _ _ _ (T162.setTop (mkF m 45 #[.val (.ref thisun21i), .val (.int (1 : Int32)), .val (.int (0 : Int32))] [(.int (1 : Int32)), (.ref savedValues_un21i), (.int (0 : Int32)), (.ref values_un21i)]))
  refine Ow.ldJ X162 hx hZ e162 V_savedValues_un21i_t157 (pc' := 46) (hb hby d_prog_71_method_9_45) (j := (1 : Int32)) (i := 1) (v := (.long se1_un21i)) (by decide) rfl rfl ?_
  refine Ow.l2i X162 hx (pc' := 47) (hb hby d_prog_71_method_9_46) (z := (se1_un21i.toInt32)) rfl ?_
  obtain ⟨T163, h163, X163, e163, W163, Vr163, st163⟩ := asI X162 hx hZ e162 V_values_un21i_t157 (j := (0 : Int32)) (i := 0) (by decide) rfl (by simp only [List.length_cons]; omega) (g := (mkF m 47 #[.val (.ref thisun21i), .val (.int (1 : Int32)), .val (.int (0 : Int32))] [(.int (se1_un21i.toInt32)), (.int (0 : Int32)), (.ref values_un21i)])) rfl rfl (hb hby d_prog_71_method_9_47)
  refine Wq.step st163 ?_
  have N163 := Fr.snoc X163 N157 g_values_un21i
  have K163 : Keep h0 h163 [thisun21i, values_un21i] := K157.wr W163 (Or.inl (List.mem_of_getElem? (i := 1) rfl))
  have Z163 : n0 ≤ h163.size := Nat.le_trans Z157 (Keep.of_wr W163).1
  have E_thisun21i_t163 := E_thisun21i_t157.wr W163
  have F_thisun21i_values_t163 := F_thisun21i_values_t157.other W163 (Or.inl (Ne.symm ne_values_un21i_thisun21i))
  have F_thisun21i_savedAt_t163 := F_thisun21i_savedAt_t157.other W163 (Or.inl (Ne.symm ne_values_un21i_thisun21i))
  have F_thisun21i_longValues_t163 := F_thisun21i_longValues_t157.other W163 (Or.inl (Ne.symm ne_values_un21i_thisun21i))
  have F_thisun21i_longSavedAt_t163 := F_thisun21i_longSavedAt_t157.other W163 (Or.inl (Ne.symm ne_values_un21i_thisun21i))
  have F_thisun21i_savedCells_t163 := F_thisun21i_savedCells_t157.other W163 (Or.inl (Ne.symm ne_values_un21i_thisun21i))
  have F_thisun21i_savedValues_t163 := F_thisun21i_savedValues_t157.other W163 (Or.inl (Ne.symm ne_values_un21i_thisun21i))
  have F_thisun21i_cellCount_t163 := F_thisun21i_cellCount_t157.other W163 (Or.inl (Ne.symm ne_values_un21i_thisun21i))
  have F_thisun21i_longCellCount_t163 := F_thisun21i_longCellCount_t157.other W163 (Or.inl (Ne.symm ne_values_un21i_thisun21i))
  have F_thisun21i_epoch_t163 := F_thisun21i_epoch_t157.other W163 (Or.inl (Ne.symm ne_values_un21i_thisun21i))
  have V_longValues_un21i_t163 := V_longValues_un21i_t157.other W163 (Ne.symm ne_values_un21i_longValues_un21i)
  have V_savedCells_un21i_t163 := V_savedCells_un21i_t157.other W163 (Ne.symm ne_values_un21i_savedCells_un21i)
  have V_savedValues_un21i_t163 := V_savedValues_un21i_t157.other W163 (Ne.symm ne_values_un21i_savedValues_un21i)
  have F_thisun21i_savedCount_t163 := F_thisun21i_savedCount_t157.other W163 (Or.inl (Ne.symm ne_values_un21i_thisun21i))
  have V_values_un21i_t163 : Al Z h163 values_un21i .int ((.int (se1_un21i.toInt32)) :: rvalues_un21i) := Vr163
  show Wq _ _ _ _ _ (T163.setTop (mkF m 48 #[.val (.ref thisun21i), .val (.int (1 : Int32)), .val (.int (0 : Int32))] []))
  refine Ow.goto X163 hx (pc' := 68) (hb hby d_prog_71_method_9_48) (by decide) (by decide) ?_
  refine Ow.goto X163 hx (pc' := 0) (hb hby d_prog_71_method_9_68) (by decide) (by decide) ?_
  refine Ow.aloadN X163 hx (pc' := 1) (hb hby d_prog_71_method_9_0) rfl rfl ?_
  obtain ⟨T164, X164, e164, st164⟩ := getF X163 hx hZ hown (host := "") (Or.inl (kw44 hw)) Via.refl e163 F_thisun21i_savedCount_t163 (g := (mkF m 1 #[.val (.ref thisun21i), .val (.int (1 : Int32)), .val (.int (0 : Int32))] [(.ref thisun21i)])) rfl rfl (hb hby d_prog_71_method_9_1)
  refine Wq.step st164 ?_
  show Wq _ _ _ _ _ (T164.setTop (mkF m 4 #[.val (.ref thisun21i), .val (.int (1 : Int32)), .val (.int (0 : Int32))] [(.int (1 : Int32))]))
  refine Ow.iloadN X164 hx (pc' := 5) (hb hby d_prog_71_method_9_4) rfl ?_
  refine Ow.icmpYes X164 hx (pc' := 71) (hb hby d_prog_71_method_9_5) (flt (by decide : ¬ ((1 : Int32) < (1 : Int32)))).2.2.2 (by decide) (by decide) ?_
  refine Ow.aloadN X164 hx (pc' := 72) (hb hby d_prog_71_method_9_71) rfl rfl ?_
  refine Ow.dup X164 hx (pc' := 73) (hb hby d_prog_71_method_9_72) rfl ?_
  obtain ⟨T165, X165, e165, st165⟩ := getF X164 hx hZ hown (host := "") (Or.inl (kw23 hw)) Via.refl e164 F_thisun21i_epoch_t163 (g := (mkF m 73 #[.val (.ref thisun21i), .val (.int (1 : Int32)), .val (.int (0 : Int32))] [(.ref thisun21i), (.ref thisun21i)])) rfl rfl (hb hby d_prog_71_method_9_73)
  refine Wq.step st165 ?_
  show Wq _ _ _ _ _ (T165.setTop (mkF m 76 #[.val (.ref thisun21i), .val (.int (1 : Int32)), .val (.int (0 : Int32))] [(.int epoch_un21i), (.ref thisun21i)]))
  refine Ow.iconst X165 hx (pc' := 77) (hb hby d_prog_71_method_9_76) (z := (1 : Int32)) rfl ?_
  refine Ow.iadd X165 hx (pc' := 78) (hb hby d_prog_71_method_9_77) (z := (epoch_un21i + (1 : Int32))) rfl ?_
  obtain ⟨T166, h166, X166, e166, W166, st166⟩ := putF X165 hx hZ hown (host := "") (Or.inl (kw23 hw)) Via.refl e165 F_thisun21i_epoch_t163 E_thisun21i_t163 (Or.inl (kw24 hw)) (kw1 hw) (ty := .int) (by decide) (rfl) (rfl) (g := (mkF m 78 #[.val (.ref thisun21i), .val (.int (1 : Int32)), .val (.int (0 : Int32))] [(.int (epoch_un21i + (1 : Int32))), (.ref thisun21i)])) rfl rfl (hb hby d_prog_71_method_9_78)
  refine Wq.step st166 ?_
  have N166 := Fr.snoc X166 N163 g_thisun21i
  have K166 : Keep h0 h166 [thisun21i, values_un21i] := K163.wr W166 (Or.inl (List.mem_of_getElem? (i := 0) rfl))
  have Z166 : n0 ≤ h166.size := Nat.le_trans Z163 (Keep.of_wr W166).1
  have E_thisun21i_t166 := E_thisun21i_t163.wr W166
  have F_thisun21i_values_t166 := F_thisun21i_values_t163.other W166 (Or.inr (slot_ne (Or.inl (kw11 hw)) (Or.inl (kw24 hw)) (by decide) (t := (.array .int)) (t' := .int) (by decide) (by decide)))
  have F_thisun21i_savedAt_t166 := F_thisun21i_savedAt_t163.other W166 (Or.inr (slot_ne (Or.inl (kw13 hw)) (Or.inl (kw24 hw)) (by decide) (t := (.array .int)) (t' := .int) (by decide) (by decide)))
  have F_thisun21i_longValues_t166 := F_thisun21i_longValues_t163.other W166 (Or.inr (slot_ne (Or.inl (kw16 hw)) (Or.inl (kw24 hw)) (by decide) (t := (.array .long)) (t' := .int) (by decide) (by decide)))
  have F_thisun21i_longSavedAt_t166 := F_thisun21i_longSavedAt_t163.other W166 (Or.inr (slot_ne (Or.inl (kw18 hw)) (Or.inl (kw24 hw)) (by decide) (t := (.array .int)) (t' := .int) (by decide) (by decide)))
  have F_thisun21i_savedCells_t166 := F_thisun21i_savedCells_t163.other W166 (Or.inr (slot_ne (Or.inl (kw20 hw)) (Or.inl (kw24 hw)) (by decide) (t := (.array .int)) (t' := .int) (by decide) (by decide)))
  have F_thisun21i_savedValues_t166 := F_thisun21i_savedValues_t163.other W166 (Or.inr (slot_ne (Or.inl (kw22 hw)) (Or.inl (kw24 hw)) (by decide) (t := (.array .long)) (t' := .int) (by decide) (by decide)))
  have F_thisun21i_cellCount_t166 := F_thisun21i_cellCount_t163.other W166 (Or.inr (slot_ne (Or.inl (kw31 hw)) (Or.inl (kw24 hw)) (by decide) (t := .int) (t' := .int) (by decide) (by decide)))
  have F_thisun21i_longCellCount_t166 := F_thisun21i_longCellCount_t163.other W166 (Or.inr (slot_ne (Or.inl (kw38 hw)) (Or.inl (kw24 hw)) (by decide) (t := .int) (t' := .int) (by decide) (by decide)))
  have V_longValues_un21i_t166 := V_longValues_un21i_t163.other W166 ne_longValues_un21i_thisun21i
  have V_savedCells_un21i_t166 := V_savedCells_un21i_t163.other W166 ne_savedCells_un21i_thisun21i
  have V_savedValues_un21i_t166 := V_savedValues_un21i_t163.other W166 ne_savedValues_un21i_thisun21i
  have F_thisun21i_savedCount_t166 := F_thisun21i_savedCount_t163.other W166 (Or.inr (slot_ne (Or.inl (kw45 hw)) (Or.inl (kw24 hw)) (by decide) (t := .int) (t' := .int) (by decide) (by decide)))
  have V_values_un21i_t166 := V_values_un21i_t163.other W166 ne_values_un21i_thisun21i
  have F_thisun21i_epoch_t166 : Fld Z h166 thisun21i "com/example/tauten/tauten/Trail" "epoch" "I" (.int (epoch_un21i + (1 : Int32))) := F_thisun21i_epoch_t163.same W166
  show Wq _ _ _ _ _ (T166.setTop (mkF m 81 #[.val (.ref thisun21i), .val (.int (1 : Int32)), .val (.int (0 : Int32))] []))
  exact Wq.ret X166 (BodyLoose.notSynchronized Bd) (rv := none) (fun _ => rfl) (fun _ hr => X166.returnOut hx Bd.returns (hb hby d_prog_71_method_9_81) hr) (by decide) (by decide) (by rw [e166]; exact ⟨rfl, N166, K166, E_thisun21i_t166, F_thisun21i_values_t166, F_thisun21i_savedAt_t166, F_thisun21i_longValues_t166, F_thisun21i_longSavedAt_t166, F_thisun21i_savedCells_t166, F_thisun21i_savedValues_t166, F_thisun21i_cellCount_t166, F_thisun21i_longCellCount_t166, F_thisun21i_savedCount_t166, V_values_un21i_t166, F_thisun21i_epoch_t166⟩)
theorem ef_un10l (m : MethodId) (thisun10l : Addr) : entryFrame m #[(.ref thisun10l), (.int (0 : Int32))] 3 = mkF m 0 #[.val (.ref thisun10l), .val (.int (0 : Int32)), .unset] [] := by first | (simp [entryFrame, mkF, argsToLocals, Value.category]; done) | rfl
def Q_un10l (Z : State) (thisun10l : Addr) (values_un10l : Addr) (savedAt_un10l : Addr) (longValues_un10l : Addr) (longSavedAt_un10l : Addr) (savedCells_un10l : Addr) (savedValues_un10l : Addr) (cellCount_un10l : Int32) (longCellCount_un10l : Int32) (epoch_un10l : Int32) (ve0_un10l : Int32) (rvalues_un10l : List Value) (le0_un10l : Int64) (rlongValues_un10l : List Value) (sl1_un10l : Int32) (sl2_un10l : Int32) (sl3_un10l : Int32) (rsavedCells_un10l : List Value) (se0_un10l : Int64) (se1_un10l : Int64) (se2_un10l : Int64) (se3_un10l : Int64) (rsavedValues_un10l : List Value) (h0 : Heap) (n0 : Nat) (v : Option Value) (h : Heap) (L : List Loc) : Prop := v = none ∧ Fr n0 L ∧ Keep h0 h [thisun10l, longValues_un10l] ∧ Exa Z h thisun10l "com/example/tauten/tauten/Trail" ∧ Fld Z h thisun10l "com/example/tauten/tauten/Trail" "values" "[I" (.ref values_un10l) ∧ Fld Z h thisun10l "com/example/tauten/tauten/Trail" "savedAt" "[I" (.ref savedAt_un10l) ∧ Fld Z h thisun10l "com/example/tauten/tauten/Trail" "longValues" "[J" (.ref longValues_un10l) ∧ Fld Z h thisun10l "com/example/tauten/tauten/Trail" "longSavedAt" "[I" (.ref longSavedAt_un10l) ∧ Fld Z h thisun10l "com/example/tauten/tauten/Trail" "savedCells" "[I" (.ref savedCells_un10l) ∧ Fld Z h thisun10l "com/example/tauten/tauten/Trail" "savedValues" "[J" (.ref savedValues_un10l) ∧ Fld Z h thisun10l "com/example/tauten/tauten/Trail" "cellCount" "I" (.int cellCount_un10l) ∧ Fld Z h thisun10l "com/example/tauten/tauten/Trail" "longCellCount" "I" (.int longCellCount_un10l) ∧ Fld Z h thisun10l "com/example/tauten/tauten/Trail" "savedCount" "I" (.int (0 : Int32)) ∧ Al Z h longValues_un10l .long ((.long se0_un10l) :: rlongValues_un10l) ∧ Fld Z h thisun10l "com/example/tauten/tauten/Trail" "epoch" "I" (.int (epoch_un10l + (1 : Int32)))
set_option maxRecDepth 65536 in
set_option maxHeartbeats 40000000 in
theorem rm_un10l (l : Launch) (Z : State) (a0 : Array Value) (hw : ∀ d ∈ tables_1, d.before a0 Z = true) (ws : List Jvm.Cond) (thisun10l : Addr) (values_un10l : Addr) (savedAt_un10l : Addr) (longValues_un10l : Addr) (longSavedAt_un10l : Addr) (savedCells_un10l : Addr) (savedValues_un10l : Addr) (cellCount_un10l : Int32) (longCellCount_un10l : Int32) (epoch_un10l : Int32) (ve0_un10l : Int32) (rvalues_un10l : List Value) (le0_un10l : Int64) (rlongValues_un10l : List Value) (sl1_un10l : Int32) (sl2_un10l : Int32) (sl3_un10l : Int32) (rsavedCells_un10l : List Value) (se0_un10l : Int64) (se1_un10l : Int64) (se2_un10l : Int64) (se3_un10l : Int64) (rsavedValues_un10l : List Value) (h0 : Heap) (n0 : Nat) (Z0 : n0 ≤ h0.size) (E_thisun10l : Exa Z h0 thisun10l "com/example/tauten/tauten/Trail") (F_thisun10l_values : Fld Z h0 thisun10l "com/example/tauten/tauten/Trail" "values" "[I" (.ref values_un10l)) (F_thisun10l_savedAt : Fld Z h0 thisun10l "com/example/tauten/tauten/Trail" "savedAt" "[I" (.ref savedAt_un10l)) (F_thisun10l_longValues : Fld Z h0 thisun10l "com/example/tauten/tauten/Trail" "longValues" "[J" (.ref longValues_un10l)) (F_thisun10l_longSavedAt : Fld Z h0 thisun10l "com/example/tauten/tauten/Trail" "longSavedAt" "[I" (.ref longSavedAt_un10l)) (F_thisun10l_savedCells : Fld Z h0 thisun10l "com/example/tauten/tauten/Trail" "savedCells" "[I" (.ref savedCells_un10l)) (F_thisun10l_savedValues : Fld Z h0 thisun10l "com/example/tauten/tauten/Trail" "savedValues" "[J" (.ref savedValues_un10l)) (F_thisun10l_cellCount : Fld Z h0 thisun10l "com/example/tauten/tauten/Trail" "cellCount" "I" (.int cellCount_un10l)) (F_thisun10l_longCellCount : Fld Z h0 thisun10l "com/example/tauten/tauten/Trail" "longCellCount" "I" (.int longCellCount_un10l)) (F_thisun10l_savedCount : Fld Z h0 thisun10l "com/example/tauten/tauten/Trail" "savedCount" "I" (.int (1 : Int32))) (F_thisun10l_epoch : Fld Z h0 thisun10l "com/example/tauten/tauten/Trail" "epoch" "I" (.int epoch_un10l)) (g_thisun10l : n0 ≤ thisun10l) (V_values_un10l : Al Z h0 values_un10l .int ((.int ve0_un10l) :: rvalues_un10l)) (g_values_un10l : n0 ≤ values_un10l) (ne_values_un10l_thisun10l : values_un10l ≠ thisun10l) (V_longValues_un10l : Al Z h0 longValues_un10l .long ((.long le0_un10l) :: rlongValues_un10l)) (g_longValues_un10l : n0 ≤ longValues_un10l) (ne_longValues_un10l_thisun10l : longValues_un10l ≠ thisun10l) (V_savedCells_un10l : Al Z h0 savedCells_un10l .int ((.int (-1 : Int32)) :: (.int sl1_un10l) :: (.int sl2_un10l) :: (.int sl3_un10l) :: rsavedCells_un10l)) (g_savedCells_un10l : n0 ≤ savedCells_un10l) (ne_savedCells_un10l_thisun10l : savedCells_un10l ≠ thisun10l) (V_savedValues_un10l : Al Z h0 savedValues_un10l .long ((.long se0_un10l) :: (.long se1_un10l) :: (.long se2_un10l) :: (.long se3_un10l) :: rsavedValues_un10l)) (g_savedValues_un10l : n0 ≤ savedValues_un10l) (ne_savedValues_un10l_thisun10l : savedValues_un10l ≠ thisun10l) (ne_values_un10l_longValues_un10l : values_un10l ≠ longValues_un10l) (ne_values_un10l_savedCells_un10l : values_un10l ≠ savedCells_un10l) (ne_values_un10l_savedValues_un10l : values_un10l ≠ savedValues_un10l) (ne_longValues_un10l_savedCells_un10l : longValues_un10l ≠ savedCells_un10l) (ne_longValues_un10l_savedValues_un10l : longValues_un10l ≠ savedValues_un10l) (ne_savedCells_un10l_savedValues_un10l : savedCells_un10l ≠ savedValues_un10l) :
    MetFree l mt9 (head1 (Jvm.Cond.code mt9 prog_71_method_9_code 3 none :: ws) ({ frames := 0, cells := 0, slots := 0, locals := 0 } : Room)) (fun a U => a = #[(.ref thisun10l), (.int (0 : Int32))] ∧ Z.Warmed39 U.vm ∧ U.heap = h0) (fun _ _ _ _ _ => True) (fun _ U o U' => ∃ v L, o = .returned v ∧ (Q_un10l Z thisun10l values_un10l savedAt_un10l longValues_un10l longSavedAt_un10l savedCells_un10l savedValues_un10l cellCount_un10l longCellCount_un10l epoch_un10l ve0_un10l rvalues_un10l le0_un10l rlongValues_un10l sl1_un10l sl2_un10l sl3_un10l rsavedCells_un10l se0_un10l se1_un10l se2_un10l se3_un10l rsavedValues_un10l h0 n0) v U'.heap L ∧ FrameEnd U o U' L ({ frames := 0, cells := 0, slots := 0, locals := 0 } : Room).cells ({ frames := 0, cells := 0, slots := 0, locals := 0 } : Room).slots) := by
  refine MetFree.of_bodySF (plainFor_of_name pn1) hisR ?_
  intro p e s m args below meth c s₁ Bd hml0 hP hK
  obtain ⟨rfl, hZ, hh⟩ := hP
  have hx := Bd.exec
  have hby := Bd.bytes
  have hml : c.maxLocals = 3 := hml0
  have hown : s.vm.findClass "com/example/tauten/tauten/Trail" = some m.cls := findClass_of_methodNamed Bd.named
  have hnm := (name_of_methodNamed Bd.named Bd.method).1
  have X0 : Stand p l e ({ frames := 0, cells := 0, slots := 0, locals := 0 } : Room) s m #[(.ref thisun10l), (.int (0 : Int32))] below meth c s₁ [] 0 0 := Stand.of_body Bd
  have e0 : s₁.heap = h0 := by rw [← hh, Bd.state]; rfl
  have N0 := Fr.nil n0
  refine Wq.step (p := p) (e := e) (below := below) (En := (fun o t L => FrameEnd s o t L ({ frames := 0, cells := 0, slots := 0, locals := 0 } : Room).cells ({ frames := 0, cells := 0, slots := 0, locals := 0 } : Room).slots)) (Q := (Q_un10l Z thisun10l values_un10l savedAt_un10l longValues_un10l longSavedAt_un10l savedCells_un10l savedValues_un10l cellCount_un10l longCellCount_un10l epoch_un10l ve0_un10l rvalues_un10l le0_un10l rlongValues_un10l sl1_un10l sl2_un10l sl3_un10l rsavedCells_un10l se0_un10l se1_un10l se2_un10l se3_un10l rsavedValues_un10l h0 n0)) (fun t k => castTop (ef_un10l m thisun10l) k) ?_
  show Wq _ _ _ _ _ (s₁.setTop (mkF m 0 #[.val (.ref thisun10l), .val (.int (0 : Int32)), .unset] []))
  refine Ow.aloadN X0 hx (pc' := 1) (hb hby d_prog_71_method_9_0) rfl rfl ?_
  obtain ⟨T173, X173, e173, st173⟩ := getF X0 hx hZ hown (host := "") (Or.inl (kw44 hw)) Via.refl e0 F_thisun10l_savedCount (g := (mkF m 1 #[.val (.ref thisun10l), .val (.int (0 : Int32)), .unset] [(.ref thisun10l)])) rfl rfl (hb hby d_prog_71_method_9_1)
  refine Wq.step st173 ?_
  show Wq _ _ _ _ _ (T173.setTop (mkF m 4 #[.val (.ref thisun10l), .val (.int (0 : Int32)), .unset] [(.int (1 : Int32))]))
  refine Ow.iloadN X173 hx (pc' := 5) (hb hby d_prog_71_method_9_4) rfl ?_
  refine Ow.icmpNo X173 hx (pc' := 8) (hb hby d_prog_71_method_9_5) (tlt (by decide : (0 : Int32) < (1 : Int32))).2.2.2 ?_
  refine Ow.aloadN X173 hx (pc' := 9) (hb hby d_prog_71_method_9_8) rfl rfl ?_
  refine Ow.dup X173 hx (pc' := 10) (hb hby d_prog_71_method_9_9) rfl ?_
  obtain ⟨T174, X174, e174, st174⟩ := getF X173 hx hZ hown (host := "") (Or.inl (kw44 hw)) Via.refl e173 F_thisun10l_savedCount (g := (mkF m 10 #[.val (.ref thisun10l), .val (.int (0 : Int32)), .unset] [(.ref thisun10l), (.ref thisun10l)])) rfl rfl (hb hby d_prog_71_method_9_10)
  refine Wq.step st174 ?_
  show Wq _ _ _ _ _ (T174.setTop (mkF m 13 #[.val (.ref thisun10l), .val (.int (0 : Int32)), .unset] [(.int (1 : Int32)), (.ref thisun10l)]))
  refine Ow.iconst X174 hx (pc' := 14) (hb hby d_prog_71_method_9_13) (z := (1 : Int32)) rfl ?_
  refine Ow.isub X174 hx (pc' := 15) (hb hby d_prog_71_method_9_14) (z := (0 : Int32)) rfl ?_
  obtain ⟨T175, h175, X175, e175, W175, st175⟩ := putF X174 hx hZ hown (host := "") (Or.inl (kw44 hw)) Via.refl e174 F_thisun10l_savedCount E_thisun10l (Or.inl (kw45 hw)) (kw1 hw) (ty := .int) (by decide) (rfl) (rfl) (g := (mkF m 15 #[.val (.ref thisun10l), .val (.int (0 : Int32)), .unset] [(.int (0 : Int32)), (.ref thisun10l)])) rfl rfl (hb hby d_prog_71_method_9_15)
  refine Wq.step st175 ?_
  have N175 := Fr.snoc X175 N0 g_thisun10l
  have K175 : Keep h0 h175 [thisun10l, longValues_un10l] := (Keep.refl h0 [thisun10l, longValues_un10l]).wr W175 (Or.inl (List.mem_of_getElem? (i := 0) rfl))
  have Z175 : n0 ≤ h175.size := Nat.le_trans Z0 (Keep.of_wr W175).1
  have E_thisun10l_t175 := E_thisun10l.wr W175
  have F_thisun10l_values_t175 := F_thisun10l_values.other W175 (Or.inr (slot_ne (Or.inl (kw11 hw)) (Or.inl (kw45 hw)) (by decide) (t := (.array .int)) (t' := .int) (by decide) (by decide)))
  have F_thisun10l_savedAt_t175 := F_thisun10l_savedAt.other W175 (Or.inr (slot_ne (Or.inl (kw13 hw)) (Or.inl (kw45 hw)) (by decide) (t := (.array .int)) (t' := .int) (by decide) (by decide)))
  have F_thisun10l_longValues_t175 := F_thisun10l_longValues.other W175 (Or.inr (slot_ne (Or.inl (kw16 hw)) (Or.inl (kw45 hw)) (by decide) (t := (.array .long)) (t' := .int) (by decide) (by decide)))
  have F_thisun10l_longSavedAt_t175 := F_thisun10l_longSavedAt.other W175 (Or.inr (slot_ne (Or.inl (kw18 hw)) (Or.inl (kw45 hw)) (by decide) (t := (.array .int)) (t' := .int) (by decide) (by decide)))
  have F_thisun10l_savedCells_t175 := F_thisun10l_savedCells.other W175 (Or.inr (slot_ne (Or.inl (kw20 hw)) (Or.inl (kw45 hw)) (by decide) (t := (.array .int)) (t' := .int) (by decide) (by decide)))
  have F_thisun10l_savedValues_t175 := F_thisun10l_savedValues.other W175 (Or.inr (slot_ne (Or.inl (kw22 hw)) (Or.inl (kw45 hw)) (by decide) (t := (.array .long)) (t' := .int) (by decide) (by decide)))
  have F_thisun10l_cellCount_t175 := F_thisun10l_cellCount.other W175 (Or.inr (slot_ne (Or.inl (kw31 hw)) (Or.inl (kw45 hw)) (by decide) (t := .int) (t' := .int) (by decide) (by decide)))
  have F_thisun10l_longCellCount_t175 := F_thisun10l_longCellCount.other W175 (Or.inr (slot_ne (Or.inl (kw38 hw)) (Or.inl (kw45 hw)) (by decide) (t := .int) (t' := .int) (by decide) (by decide)))
  have F_thisun10l_epoch_t175 := F_thisun10l_epoch.other W175 (Or.inr (slot_ne (Or.inl (kw24 hw)) (Or.inl (kw45 hw)) (by decide) (t := .int) (t' := .int) (by decide) (by decide)))
  have V_values_un10l_t175 := V_values_un10l.other W175 ne_values_un10l_thisun10l
  have V_longValues_un10l_t175 := V_longValues_un10l.other W175 ne_longValues_un10l_thisun10l
  have V_savedCells_un10l_t175 := V_savedCells_un10l.other W175 ne_savedCells_un10l_thisun10l
  have V_savedValues_un10l_t175 := V_savedValues_un10l.other W175 ne_savedValues_un10l_thisun10l
  have F_thisun10l_savedCount_t175 : Fld Z h175 thisun10l "com/example/tauten/tauten/Trail" "savedCount" "I" (.int (0 : Int32)) := F_thisun10l_savedCount.same W175
  show Wq _ _ _ _ _ (T175.setTop (mkF m 18 #[.val (.ref thisun10l), .val (.int (0 : Int32)), .unset] []))
  refine Ow.aloadN X175 hx (pc' := 19) (hb hby d_prog_71_method_9_18) rfl rfl ?_
  obtain ⟨T176, X176, e176, st176⟩ := getF X175 hx hZ hown (host := "") (Or.inl (kw19 hw)) Via.refl e175 F_thisun10l_savedCells_t175 (g := (mkF m 19 #[.val (.ref thisun10l), .val (.int (0 : Int32)), .unset] [(.ref thisun10l)])) rfl rfl (hb hby d_prog_71_method_9_19)
  refine Wq.step st176 ?_
  show Wq _ _ _ _ _ (T176.setTop (mkF m 22 #[.val (.ref thisun10l), .val (.int (0 : Int32)), .unset] [(.ref savedCells_un10l)]))
  refine Ow.aloadN X176 hx (pc' := 23) (hb hby d_prog_71_method_9_22) rfl rfl ?_
  obtain ⟨T177, X177, e177, st177⟩ := getF X176 hx hZ hown (host := "") (Or.inl (kw44 hw)) Via.refl e176 F_thisun10l_savedCount_t175 (g := (mkF m 23 #[.val (.ref thisun10l), .val (.int (0 : Int32)), .unset] [(.ref thisun10l), (.ref savedCells_un10l)])) rfl rfl (hb hby d_prog_71_method_9_23)
  refine Wq.step st177 ?_
  show Wq _ _ _ _ _ (T177.setTop (mkF m 26 #[.val (.ref thisun10l), .val (.int (0 : Int32)), .unset] [(.int (0 : Int32)), (.ref savedCells_un10l)]))
  refine Ow.ldI X177 hx hZ e177 V_savedCells_un10l_t175 (pc' := 27) (hb hby d_prog_71_method_9_26) (j := (0 : Int32)) (i := 0) (v := (.int (-1 : Int32))) (by decide) rfl rfl ?_
  refine Ow.istoreN X177 hx (pc' := 28) (hb hby d_prog_71_method_9_27) (l' := #[.val (.ref thisun10l), .val (.int (0 : Int32)), .val (.int (-1 : Int32))]) rfl ?_
  refine Ow.iloadN X177 hx (pc' := 29) (hb hby d_prog_71_method_9_28) rfl ?_
  refine Ow.ifYes X177 hx (pc' := 51) (hb hby d_prog_71_method_9_29) ((if0 _ _).trans (tlt (by decide : (-1 : Int32) < (0 : Int32))).1) (by decide) (by decide) ?_
  refine Ow.aloadN X177 hx (pc' := 52) (hb hby d_prog_71_method_9_51) rfl rfl ?_
  obtain ⟨T178, X178, e178, st178⟩ := getF X177 hx hZ hown (host := "") (Or.inl (kw15 hw)) Via.refl e177 F_thisun10l_longValues_t175 (g := (mkF m 52 #[.val (.ref thisun10l), .val (.int (0 : Int32)), .val (.int (-1 : Int32))] [(.ref thisun10l)])) rfl rfl (hb hby d_prog_71_method_9_52)
  refine Wq.step st178 ?_
  show Wq _ _ _ _ _ (T178.setTop (mkF m 55 #[.val (.ref thisun10l), .val (.int (0 : Int32)), .val (.int (-1 : Int32))] [(.ref longValues_un10l)]))
  refine Ow.iloadN X178 hx (pc' := 56) (hb hby d_prog_71_method_9_55) rfl ?_
  refine Ow.iconst X178 hx (pc' := 57) (hb hby d_prog_71_method_9_56) (z := (-1 : Int32)) rfl ?_
  refine Ow.ixor X178 hx (pc' := 58) (hb hby d_prog_71_method_9_57) (z := (0 : Int32)) rfl ?_
  refine Ow.aloadN X178 hx (pc' := 59) (hb hby d_prog_71_method_9_58) rfl rfl ?_
  obtain ⟨T179, X179, e179, st179⟩ := getF X178 hx hZ hown (host := "") (Or.inl (kw21 hw)) Via.refl e178 F_thisun10l_savedValues_t175 (g := (mkF m 59 #[.val (.ref thisun10l), .val (.int (0 : Int32)), .val (.int (-1 : Int32))] [(.ref thisun10l), (.int (0 : Int32)), (.ref longValues_un10l)])) rfl rfl (hb hby d_prog_71_method_9_59)
  refine Wq.step st179 ?_
  show Wq _ _ _ _ _ (T179.setTop (mkF m 62 #[.val (.ref thisun10l), .val (.int (0 : Int32)), .val (.int (-1 : Int32))] [(.ref savedValues_un10l), (.int (0 : Int32)), (.ref longValues_un10l)]))
  refine Ow.aloadN X179 hx (pc' := 63) (hb hby d_prog_71_method_9_62) rfl rfl ?_
  obtain ⟨T180, X180, e180, st180⟩ := getF X179 hx hZ hown (host := "") (Or.inl (kw44 hw)) Via.refl e179 F_thisun10l_savedCount_t175 (g := (mkF m 63 #[.val (.ref thisun10l), .val (.int (0 : Int32)), .val (.int (-1 : Int32))] [(.ref thisun10l), (.ref savedValues_un10l), (.int (0 : Int32)), (.ref longValues_un10l)])) rfl rfl (hb hby d_prog_71_method_9_63)
  refine Wq.step st180 ?_
  show Wq _ _ _ _ _ (T180.setTop (mkF m 66 #[.val (.ref thisun10l), .val (.int (0 : Int32)), .val (.int (-1 : Int32))] [(.int (0 : Int32)), (.ref savedValues_un10l), (.int (0 : Int32)), (.ref longValues_un10l)]))
  refine Ow.ldJ X180 hx hZ e180 V_savedValues_un10l_t175 (pc' := 67) (hb hby d_prog_71_method_9_66) (j := (0 : Int32)) (i := 0) (v := (.long se0_un10l)) (by decide) rfl rfl ?_
  obtain ⟨T181, h181, X181, e181, W181, Vr181, st181⟩ := asJ X180 hx hZ e180 V_longValues_un10l_t175 (j := (0 : Int32)) (i := 0) (by decide) rfl (by simp only [List.length_cons]; omega) (g := (mkF m 67 #[.val (.ref thisun10l), .val (.int (0 : Int32)), .val (.int (-1 : Int32))] [(.long se0_un10l), (.int (0 : Int32)), (.ref longValues_un10l)])) rfl rfl (hb hby d_prog_71_method_9_67)
  refine Wq.step st181 ?_
  have N181 := Fr.snoc X181 N175 g_longValues_un10l
  have K181 : Keep h0 h181 [thisun10l, longValues_un10l] := K175.wr W181 (Or.inl (List.mem_of_getElem? (i := 1) rfl))
  have Z181 : n0 ≤ h181.size := Nat.le_trans Z175 (Keep.of_wr W181).1
  have E_thisun10l_t181 := E_thisun10l_t175.wr W181
  have F_thisun10l_values_t181 := F_thisun10l_values_t175.other W181 (Or.inl (Ne.symm ne_longValues_un10l_thisun10l))
  have F_thisun10l_savedAt_t181 := F_thisun10l_savedAt_t175.other W181 (Or.inl (Ne.symm ne_longValues_un10l_thisun10l))
  have F_thisun10l_longValues_t181 := F_thisun10l_longValues_t175.other W181 (Or.inl (Ne.symm ne_longValues_un10l_thisun10l))
  have F_thisun10l_longSavedAt_t181 := F_thisun10l_longSavedAt_t175.other W181 (Or.inl (Ne.symm ne_longValues_un10l_thisun10l))
  have F_thisun10l_savedCells_t181 := F_thisun10l_savedCells_t175.other W181 (Or.inl (Ne.symm ne_longValues_un10l_thisun10l))
  have F_thisun10l_savedValues_t181 := F_thisun10l_savedValues_t175.other W181 (Or.inl (Ne.symm ne_longValues_un10l_thisun10l))
  have F_thisun10l_cellCount_t181 := F_thisun10l_cellCount_t175.other W181 (Or.inl (Ne.symm ne_longValues_un10l_thisun10l))
  have F_thisun10l_longCellCount_t181 := F_thisun10l_longCellCount_t175.other W181 (Or.inl (Ne.symm ne_longValues_un10l_thisun10l))
  have F_thisun10l_epoch_t181 := F_thisun10l_epoch_t175.other W181 (Or.inl (Ne.symm ne_longValues_un10l_thisun10l))
  have V_values_un10l_t181 := V_values_un10l_t175.other W181 ne_values_un10l_longValues_un10l
  have V_savedCells_un10l_t181 := V_savedCells_un10l_t175.other W181 (Ne.symm ne_longValues_un10l_savedCells_un10l)
  have V_savedValues_un10l_t181 := V_savedValues_un10l_t175.other W181 (Ne.symm ne_longValues_un10l_savedValues_un10l)
  have F_thisun10l_savedCount_t181 := F_thisun10l_savedCount_t175.other W181 (Or.inl (Ne.symm ne_longValues_un10l_thisun10l))
  have V_longValues_un10l_t181 : Al Z h181 longValues_un10l .long ((.long se0_un10l) :: rlongValues_un10l) := Vr181
  show Wq _ _ _ _ _ (T181.setTop (mkF m 68 #[.val (.ref thisun10l), .val (.int (0 : Int32)), .val (.int (-1 : Int32))] []))
  refine Ow.goto X181 hx (pc' := 0) (hb hby d_prog_71_method_9_68) (by decide) (by decide) ?_
  refine Ow.aloadN X181 hx (pc' := 1) (hb hby d_prog_71_method_9_0) rfl rfl ?_
  obtain ⟨T182, X182, e182, st182⟩ := getF X181 hx hZ hown (host := "") (Or.inl (kw44 hw)) Via.refl e181 F_thisun10l_savedCount_t181 (g := (mkF m 1 #[.val (.ref thisun10l), .val (.int (0 : Int32)), .val (.int (-1 : Int32))] [(.ref thisun10l)])) rfl rfl (hb hby d_prog_71_method_9_1)
  refine Wq.step st182 ?_
  show Wq _ _ _ _ _ (T182.setTop (mkF m 4 #[.val (.ref thisun10l), .val (.int (0 : Int32)), .val (.int (-1 : Int32))] [(.int (0 : Int32))]))
  refine Ow.iloadN X182 hx (pc' := 5) (hb hby d_prog_71_method_9_4) rfl ?_
  refine Ow.icmpYes X182 hx (pc' := 71) (hb hby d_prog_71_method_9_5) (flt (by decide : ¬ ((0 : Int32) < (0 : Int32)))).2.2.2 (by decide) (by decide) ?_
  refine Ow.aloadN X182 hx (pc' := 72) (hb hby d_prog_71_method_9_71) rfl rfl ?_
  refine Ow.dup X182 hx (pc' := 73) (hb hby d_prog_71_method_9_72) rfl ?_
  obtain ⟨T183, X183, e183, st183⟩ := getF X182 hx hZ hown (host := "") (Or.inl (kw23 hw)) Via.refl e182 F_thisun10l_epoch_t181 (g := (mkF m 73 #[.val (.ref thisun10l), .val (.int (0 : Int32)), .val (.int (-1 : Int32))] [(.ref thisun10l), (.ref thisun10l)])) rfl rfl (hb hby d_prog_71_method_9_73)
  refine Wq.step st183 ?_
  show Wq _ _ _ _ _ (T183.setTop (mkF m 76 #[.val (.ref thisun10l), .val (.int (0 : Int32)), .val (.int (-1 : Int32))] [(.int epoch_un10l), (.ref thisun10l)]))
  refine Ow.iconst X183 hx (pc' := 77) (hb hby d_prog_71_method_9_76) (z := (1 : Int32)) rfl ?_
  refine Ow.iadd X183 hx (pc' := 78) (hb hby d_prog_71_method_9_77) (z := (epoch_un10l + (1 : Int32))) rfl ?_
  obtain ⟨T184, h184, X184, e184, W184, st184⟩ := putF X183 hx hZ hown (host := "") (Or.inl (kw23 hw)) Via.refl e183 F_thisun10l_epoch_t181 E_thisun10l_t181 (Or.inl (kw24 hw)) (kw1 hw) (ty := .int) (by decide) (rfl) (rfl) (g := (mkF m 78 #[.val (.ref thisun10l), .val (.int (0 : Int32)), .val (.int (-1 : Int32))] [(.int (epoch_un10l + (1 : Int32))), (.ref thisun10l)])) rfl rfl (hb hby d_prog_71_method_9_78)
  refine Wq.step st184 ?_
  have N184 := Fr.snoc X184 N181 g_thisun10l
  have K184 : Keep h0 h184 [thisun10l, longValues_un10l] := K181.wr W184 (Or.inl (List.mem_of_getElem? (i := 0) rfl))
  have Z184 : n0 ≤ h184.size := Nat.le_trans Z181 (Keep.of_wr W184).1
  have E_thisun10l_t184 := E_thisun10l_t181.wr W184
  have F_thisun10l_values_t184 := F_thisun10l_values_t181.other W184 (Or.inr (slot_ne (Or.inl (kw11 hw)) (Or.inl (kw24 hw)) (by decide) (t := (.array .int)) (t' := .int) (by decide) (by decide)))
  have F_thisun10l_savedAt_t184 := F_thisun10l_savedAt_t181.other W184 (Or.inr (slot_ne (Or.inl (kw13 hw)) (Or.inl (kw24 hw)) (by decide) (t := (.array .int)) (t' := .int) (by decide) (by decide)))
  have F_thisun10l_longValues_t184 := F_thisun10l_longValues_t181.other W184 (Or.inr (slot_ne (Or.inl (kw16 hw)) (Or.inl (kw24 hw)) (by decide) (t := (.array .long)) (t' := .int) (by decide) (by decide)))
  have F_thisun10l_longSavedAt_t184 := F_thisun10l_longSavedAt_t181.other W184 (Or.inr (slot_ne (Or.inl (kw18 hw)) (Or.inl (kw24 hw)) (by decide) (t := (.array .int)) (t' := .int) (by decide) (by decide)))
  have F_thisun10l_savedCells_t184 := F_thisun10l_savedCells_t181.other W184 (Or.inr (slot_ne (Or.inl (kw20 hw)) (Or.inl (kw24 hw)) (by decide) (t := (.array .int)) (t' := .int) (by decide) (by decide)))
  have F_thisun10l_savedValues_t184 := F_thisun10l_savedValues_t181.other W184 (Or.inr (slot_ne (Or.inl (kw22 hw)) (Or.inl (kw24 hw)) (by decide) (t := (.array .long)) (t' := .int) (by decide) (by decide)))
  have F_thisun10l_cellCount_t184 := F_thisun10l_cellCount_t181.other W184 (Or.inr (slot_ne (Or.inl (kw31 hw)) (Or.inl (kw24 hw)) (by decide) (t := .int) (t' := .int) (by decide) (by decide)))
  have F_thisun10l_longCellCount_t184 := F_thisun10l_longCellCount_t181.other W184 (Or.inr (slot_ne (Or.inl (kw38 hw)) (Or.inl (kw24 hw)) (by decide) (t := .int) (t' := .int) (by decide) (by decide)))
  have V_values_un10l_t184 := V_values_un10l_t181.other W184 ne_values_un10l_thisun10l
  have V_savedCells_un10l_t184 := V_savedCells_un10l_t181.other W184 ne_savedCells_un10l_thisun10l
  have V_savedValues_un10l_t184 := V_savedValues_un10l_t181.other W184 ne_savedValues_un10l_thisun10l
  have F_thisun10l_savedCount_t184 := F_thisun10l_savedCount_t181.other W184 (Or.inr (slot_ne (Or.inl (kw45 hw)) (Or.inl (kw24 hw)) (by decide) (t := .int) (t' := .int) (by decide) (by decide)))
  have V_longValues_un10l_t184 := V_longValues_un10l_t181.other W184 ne_longValues_un10l_thisun10l
  have F_thisun10l_epoch_t184 : Fld Z h184 thisun10l "com/example/tauten/tauten/Trail" "epoch" "I" (.int (epoch_un10l + (1 : Int32))) := F_thisun10l_epoch_t181.same W184
  show Wq _ _ _ _ _ (T184.setTop (mkF m 81 #[.val (.ref thisun10l), .val (.int (0 : Int32)), .val (.int (-1 : Int32))] []))
  exact Wq.ret X184 (BodyLoose.notSynchronized Bd) (rv := none) (fun _ => rfl) (fun _ hr => X184.returnOut hx Bd.returns (hb hby d_prog_71_method_9_81) hr) (by decide) (by decide) (by rw [e184]; exact ⟨rfl, N184, K184, E_thisun10l_t184, F_thisun10l_values_t184, F_thisun10l_savedAt_t184, F_thisun10l_longValues_t184, F_thisun10l_longSavedAt_t184, F_thisun10l_savedCells_t184, F_thisun10l_savedValues_t184, F_thisun10l_cellCount_t184, F_thisun10l_longCellCount_t184, F_thisun10l_savedCount_t184, V_longValues_un10l_t184, F_thisun10l_epoch_t184⟩)
theorem ef_sv2 (m : MethodId) (thissv2 : Addr) (xsv2_1 : Int32) (ysv2_2 : Int64) : entryFrame m #[(.ref thissv2), (.int xsv2_1), (.long ysv2_2)] 4 = mkF m 0 #[.val (.ref thissv2), .val (.int xsv2_1), .val (.long ysv2_2), .second] [] := by first | (simp [entryFrame, mkF, argsToLocals, Value.category]; done) | rfl
def Q_sv2 (Z : State) (thissv2 : Addr) (xsv2_1 : Int32) (ysv2_2 : Int64) (values_sv2 : Addr) (savedAt_sv2 : Addr) (longValues_sv2 : Addr) (longSavedAt_sv2 : Addr) (savedCells_sv2 : Addr) (savedValues_sv2 : Addr) (cellCount_sv2 : Int32) (longCellCount_sv2 : Int32) (epoch_sv2 : Int32) (sl0_sv2 : Int32) (sl1_sv2 : Int32) (sl2_sv2 : Int32) (sl3_sv2 : Int32) (rsavedCells_sv2 : List Value) (se0_sv2 : Int64) (se1_sv2 : Int64) (se2_sv2 : Int64) (se3_sv2 : Int64) (rsavedValues_sv2 : List Value) (h0 : Heap) (n0 : Nat) (v : Option Value) (h : Heap) (L : List Loc) : Prop := v = none ∧ Fr n0 L ∧ Keep h0 h [savedCells_sv2, savedValues_sv2, thissv2] ∧ Exa Z h thissv2 "com/example/tauten/tauten/Trail" ∧ Fld Z h thissv2 "com/example/tauten/tauten/Trail" "values" "[I" (.ref values_sv2) ∧ Fld Z h thissv2 "com/example/tauten/tauten/Trail" "savedAt" "[I" (.ref savedAt_sv2) ∧ Fld Z h thissv2 "com/example/tauten/tauten/Trail" "longValues" "[J" (.ref longValues_sv2) ∧ Fld Z h thissv2 "com/example/tauten/tauten/Trail" "longSavedAt" "[I" (.ref longSavedAt_sv2) ∧ Fld Z h thissv2 "com/example/tauten/tauten/Trail" "savedCells" "[I" (.ref savedCells_sv2) ∧ Fld Z h thissv2 "com/example/tauten/tauten/Trail" "savedValues" "[J" (.ref savedValues_sv2) ∧ Fld Z h thissv2 "com/example/tauten/tauten/Trail" "cellCount" "I" (.int cellCount_sv2) ∧ Fld Z h thissv2 "com/example/tauten/tauten/Trail" "longCellCount" "I" (.int longCellCount_sv2) ∧ Fld Z h thissv2 "com/example/tauten/tauten/Trail" "epoch" "I" (.int epoch_sv2) ∧ Al Z h savedCells_sv2 .int ((.int sl0_sv2) :: (.int sl1_sv2) :: (.int xsv2_1) :: (.int sl3_sv2) :: rsavedCells_sv2) ∧ Al Z h savedValues_sv2 .long ((.long se0_sv2) :: (.long se1_sv2) :: (.long ysv2_2) :: (.long se3_sv2) :: rsavedValues_sv2) ∧ Fld Z h thissv2 "com/example/tauten/tauten/Trail" "savedCount" "I" (.int (3 : Int32))
set_option maxRecDepth 65536 in
set_option maxHeartbeats 40000000 in
theorem rm_sv2 (l : Launch) (Z : State) (a0 : Array Value) (hw : ∀ d ∈ tables_1, d.before a0 Z = true) (ws : List Jvm.Cond) (thissv2 : Addr) (xsv2_1 : Int32) (ysv2_2 : Int64) (values_sv2 : Addr) (savedAt_sv2 : Addr) (longValues_sv2 : Addr) (longSavedAt_sv2 : Addr) (savedCells_sv2 : Addr) (savedValues_sv2 : Addr) (cellCount_sv2 : Int32) (longCellCount_sv2 : Int32) (epoch_sv2 : Int32) (sl0_sv2 : Int32) (sl1_sv2 : Int32) (sl2_sv2 : Int32) (sl3_sv2 : Int32) (rsavedCells_sv2 : List Value) (se0_sv2 : Int64) (se1_sv2 : Int64) (se2_sv2 : Int64) (se3_sv2 : Int64) (rsavedValues_sv2 : List Value) (h0 : Heap) (n0 : Nat) (Z0 : n0 ≤ h0.size) (hlen : rsavedCells_sv2.length = 252) (E_thissv2 : Exa Z h0 thissv2 "com/example/tauten/tauten/Trail") (F_thissv2_values : Fld Z h0 thissv2 "com/example/tauten/tauten/Trail" "values" "[I" (.ref values_sv2)) (F_thissv2_savedAt : Fld Z h0 thissv2 "com/example/tauten/tauten/Trail" "savedAt" "[I" (.ref savedAt_sv2)) (F_thissv2_longValues : Fld Z h0 thissv2 "com/example/tauten/tauten/Trail" "longValues" "[J" (.ref longValues_sv2)) (F_thissv2_longSavedAt : Fld Z h0 thissv2 "com/example/tauten/tauten/Trail" "longSavedAt" "[I" (.ref longSavedAt_sv2)) (F_thissv2_savedCells : Fld Z h0 thissv2 "com/example/tauten/tauten/Trail" "savedCells" "[I" (.ref savedCells_sv2)) (F_thissv2_savedValues : Fld Z h0 thissv2 "com/example/tauten/tauten/Trail" "savedValues" "[J" (.ref savedValues_sv2)) (F_thissv2_cellCount : Fld Z h0 thissv2 "com/example/tauten/tauten/Trail" "cellCount" "I" (.int cellCount_sv2)) (F_thissv2_longCellCount : Fld Z h0 thissv2 "com/example/tauten/tauten/Trail" "longCellCount" "I" (.int longCellCount_sv2)) (F_thissv2_savedCount : Fld Z h0 thissv2 "com/example/tauten/tauten/Trail" "savedCount" "I" (.int (2 : Int32))) (F_thissv2_epoch : Fld Z h0 thissv2 "com/example/tauten/tauten/Trail" "epoch" "I" (.int epoch_sv2)) (g_thissv2 : n0 ≤ thissv2) (V_savedCells_sv2 : Al Z h0 savedCells_sv2 .int ((.int sl0_sv2) :: (.int sl1_sv2) :: (.int sl2_sv2) :: (.int sl3_sv2) :: rsavedCells_sv2)) (g_savedCells_sv2 : n0 ≤ savedCells_sv2) (ne_savedCells_sv2_thissv2 : savedCells_sv2 ≠ thissv2) (V_savedValues_sv2 : Al Z h0 savedValues_sv2 .long ((.long se0_sv2) :: (.long se1_sv2) :: (.long se2_sv2) :: (.long se3_sv2) :: rsavedValues_sv2)) (g_savedValues_sv2 : n0 ≤ savedValues_sv2) (ne_savedValues_sv2_thissv2 : savedValues_sv2 ≠ thissv2) (ne_savedCells_sv2_savedValues_sv2 : savedCells_sv2 ≠ savedValues_sv2) :
    MetFree l mt7 (head1 (Jvm.Cond.code mt7 prog_71_method_10_code 4 none :: ws) ({ frames := 0, cells := 0, slots := 0, locals := 0 } : Room)) (fun a U => a = #[(.ref thissv2), (.int xsv2_1), (.long ysv2_2)] ∧ Z.Warmed39 U.vm ∧ U.heap = h0) (fun _ _ _ _ _ => True) (fun _ U o U' => ∃ v L, o = .returned v ∧ (Q_sv2 Z thissv2 xsv2_1 ysv2_2 values_sv2 savedAt_sv2 longValues_sv2 longSavedAt_sv2 savedCells_sv2 savedValues_sv2 cellCount_sv2 longCellCount_sv2 epoch_sv2 sl0_sv2 sl1_sv2 sl2_sv2 sl3_sv2 rsavedCells_sv2 se0_sv2 se1_sv2 se2_sv2 se3_sv2 rsavedValues_sv2 h0 n0) v U'.heap L ∧ FrameEnd U o U' L ({ frames := 0, cells := 0, slots := 0, locals := 0 } : Room).cells ({ frames := 0, cells := 0, slots := 0, locals := 0 } : Room).slots) := by
  refine MetFree.of_bodySF (plainFor_of_name pn1) hisR ?_
  intro p e s m args below meth c s₁ Bd hml0 hP hK
  obtain ⟨rfl, hZ, hh⟩ := hP
  have hx := Bd.exec
  have hby := Bd.bytes
  have hml : c.maxLocals = 4 := hml0
  have hown : s.vm.findClass "com/example/tauten/tauten/Trail" = some m.cls := findClass_of_methodNamed Bd.named
  have hnm := (name_of_methodNamed Bd.named Bd.method).1
  have X0 : Stand p l e ({ frames := 0, cells := 0, slots := 0, locals := 0 } : Room) s m #[(.ref thissv2), (.int xsv2_1), (.long ysv2_2)] below meth c s₁ [] 0 0 := Stand.of_body Bd
  have e0 : s₁.heap = h0 := by rw [← hh, Bd.state]; rfl
  have N0 := Fr.nil n0
  refine Wq.step (p := p) (e := e) (below := below) (En := (fun o t L => FrameEnd s o t L ({ frames := 0, cells := 0, slots := 0, locals := 0 } : Room).cells ({ frames := 0, cells := 0, slots := 0, locals := 0 } : Room).slots)) (Q := (Q_sv2 Z thissv2 xsv2_1 ysv2_2 values_sv2 savedAt_sv2 longValues_sv2 longSavedAt_sv2 savedCells_sv2 savedValues_sv2 cellCount_sv2 longCellCount_sv2 epoch_sv2 sl0_sv2 sl1_sv2 sl2_sv2 sl3_sv2 rsavedCells_sv2 se0_sv2 se1_sv2 se2_sv2 se3_sv2 rsavedValues_sv2 h0 n0)) (fun t k => castTop (ef_sv2 m thissv2 xsv2_1 ysv2_2) k) ?_
  show Wq _ _ _ _ _ (s₁.setTop (mkF m 0 #[.val (.ref thissv2), .val (.int xsv2_1), .val (.long ysv2_2), .second] []))
  refine Ow.aloadN X0 hx (pc' := 1) (hb hby d_prog_71_method_10_0) rfl rfl ?_
  obtain ⟨T188, X188, e188, st188⟩ := getF X0 hx hZ hown (host := "") (Or.inl (kw44 hw)) Via.refl e0 F_thissv2_savedCount (g := (mkF m 1 #[.val (.ref thissv2), .val (.int xsv2_1), .val (.long ysv2_2), .second] [(.ref thissv2)])) rfl rfl (hb hby d_prog_71_method_10_1)
  refine Wq.step st188 ?_
  show Wq _ _ _ _ _ (T188.setTop (mkF m 4 #[.val (.ref thissv2), .val (.int xsv2_1), .val (.long ysv2_2), .second] [(.int (2 : Int32))]))
  refine Ow.aloadN X188 hx (pc' := 5) (hb hby d_prog_71_method_10_4) rfl rfl ?_
  obtain ⟨T189, X189, e189, st189⟩ := getF X188 hx hZ hown (host := "") (Or.inl (kw19 hw)) Via.refl e188 F_thissv2_savedCells (g := (mkF m 5 #[.val (.ref thissv2), .val (.int xsv2_1), .val (.long ysv2_2), .second] [(.ref thissv2), (.int (2 : Int32))])) rfl rfl (hb hby d_prog_71_method_10_5)
  refine Wq.step st189 ?_
  show Wq _ _ _ _ _ (T189.setTop (mkF m 8 #[.val (.ref thissv2), .val (.int xsv2_1), .val (.long ysv2_2), .second] [(.ref savedCells_sv2), (.int (2 : Int32))]))
  refine Ow.lenA X189 hx hZ e189 V_savedCells_sv2 (pc' := 9) (hb hby d_prog_71_method_10_8) (n := (256 : Int32)) (by simp only [List.length_cons, hlen]; rfl) ?_
  refine Ow.icmpYes X189 hx (pc' := 46) (hb hby d_prog_71_method_10_9) (feq (by decide : ¬ ((2 : Int32) = (256 : Int32)))).2 (by decide) (by decide) ?_
  refine Ow.aloadN X189 hx (pc' := 47) (hb hby d_prog_71_method_10_46) rfl rfl ?_
  obtain ⟨T190, X190, e190, st190⟩ := getF X189 hx hZ hown (host := "") (Or.inl (kw19 hw)) Via.refl e189 F_thissv2_savedCells (g := (mkF m 47 #[.val (.ref thissv2), .val (.int xsv2_1), .val (.long ysv2_2), .second] [(.ref thissv2)])) rfl rfl (hb hby d_prog_71_method_10_47)
  refine Wq.step st190 ?_
  show Wq _ _ _ _ _ (T190.setTop (mkF m 50 #[.val (.ref thissv2), .val (.int xsv2_1), .val (.long ysv2_2), .second] [(.ref savedCells_sv2)]))
  refine Ow.aloadN X190 hx (pc' := 51) (hb hby d_prog_71_method_10_50) rfl rfl ?_
  obtain ⟨T191, X191, e191, st191⟩ := getF X190 hx hZ hown (host := "") (Or.inl (kw44 hw)) Via.refl e190 F_thissv2_savedCount (g := (mkF m 51 #[.val (.ref thissv2), .val (.int xsv2_1), .val (.long ysv2_2), .second] [(.ref thissv2), (.ref savedCells_sv2)])) rfl rfl (hb hby d_prog_71_method_10_51)
  refine Wq.step st191 ?_
  show Wq _ _ _ _ _ (T191.setTop (mkF m 54 #[.val (.ref thissv2), .val (.int xsv2_1), .val (.long ysv2_2), .second] [(.int (2 : Int32)), (.ref savedCells_sv2)]))
  refine Ow.iloadN X191 hx (pc' := 55) (hb hby d_prog_71_method_10_54) rfl ?_
  obtain ⟨T192, h192, X192, e192, W192, Vr192, st192⟩ := asI X191 hx hZ e191 V_savedCells_sv2 (j := (2 : Int32)) (i := 2) (by decide) rfl (by simp only [List.length_cons]; omega) (g := (mkF m 55 #[.val (.ref thissv2), .val (.int xsv2_1), .val (.long ysv2_2), .second] [(.int xsv2_1), (.int (2 : Int32)), (.ref savedCells_sv2)])) rfl rfl (hb hby d_prog_71_method_10_55)
  refine Wq.step st192 ?_
  have N192 := Fr.snoc X192 N0 g_savedCells_sv2
  have K192 : Keep h0 h192 [savedCells_sv2, savedValues_sv2, thissv2] := (Keep.refl h0 [savedCells_sv2, savedValues_sv2, thissv2]).wr W192 (Or.inl (List.mem_of_getElem? (i := 0) rfl))
  have Z192 : n0 ≤ h192.size := Nat.le_trans Z0 (Keep.of_wr W192).1
  have E_thissv2_t192 := E_thissv2.wr W192
  have F_thissv2_values_t192 := F_thissv2_values.other W192 (Or.inl (Ne.symm ne_savedCells_sv2_thissv2))
  have F_thissv2_savedAt_t192 := F_thissv2_savedAt.other W192 (Or.inl (Ne.symm ne_savedCells_sv2_thissv2))
  have F_thissv2_longValues_t192 := F_thissv2_longValues.other W192 (Or.inl (Ne.symm ne_savedCells_sv2_thissv2))
  have F_thissv2_longSavedAt_t192 := F_thissv2_longSavedAt.other W192 (Or.inl (Ne.symm ne_savedCells_sv2_thissv2))
  have F_thissv2_savedCells_t192 := F_thissv2_savedCells.other W192 (Or.inl (Ne.symm ne_savedCells_sv2_thissv2))
  have F_thissv2_savedValues_t192 := F_thissv2_savedValues.other W192 (Or.inl (Ne.symm ne_savedCells_sv2_thissv2))
  have F_thissv2_cellCount_t192 := F_thissv2_cellCount.other W192 (Or.inl (Ne.symm ne_savedCells_sv2_thissv2))
  have F_thissv2_longCellCount_t192 := F_thissv2_longCellCount.other W192 (Or.inl (Ne.symm ne_savedCells_sv2_thissv2))
  have F_thissv2_savedCount_t192 := F_thissv2_savedCount.other W192 (Or.inl (Ne.symm ne_savedCells_sv2_thissv2))
  have F_thissv2_epoch_t192 := F_thissv2_epoch.other W192 (Or.inl (Ne.symm ne_savedCells_sv2_thissv2))
  have V_savedValues_sv2_t192 := V_savedValues_sv2.other W192 (Ne.symm ne_savedCells_sv2_savedValues_sv2)
  have V_savedCells_sv2_t192 : Al Z h192 savedCells_sv2 .int ((.int sl0_sv2) :: (.int sl1_sv2) :: (.int xsv2_1) :: (.int sl3_sv2) :: rsavedCells_sv2) := Vr192
  show Wq _ _ _ _ _ (T192.setTop (mkF m 56 #[.val (.ref thissv2), .val (.int xsv2_1), .val (.long ysv2_2), .second] []))
  refine Ow.aloadN X192 hx (pc' := 57) (hb hby d_prog_71_method_10_56) rfl rfl ?_
  obtain ⟨T193, X193, e193, st193⟩ := getF X192 hx hZ hown (host := "") (Or.inl (kw21 hw)) Via.refl e192 F_thissv2_savedValues_t192 (g := (mkF m 57 #[.val (.ref thissv2), .val (.int xsv2_1), .val (.long ysv2_2), .second] [(.ref thissv2)])) rfl rfl (hb hby d_prog_71_method_10_57)
  refine Wq.step st193 ?_
  show Wq _ _ _ _ _ (T193.setTop (mkF m 60 #[.val (.ref thissv2), .val (.int xsv2_1), .val (.long ysv2_2), .second] [(.ref savedValues_sv2)]))
  refine Ow.aloadN X193 hx (pc' := 61) (hb hby d_prog_71_method_10_60) rfl rfl ?_
  obtain ⟨T194, X194, e194, st194⟩ := getF X193 hx hZ hown (host := "") (Or.inl (kw44 hw)) Via.refl e193 F_thissv2_savedCount_t192 (g := (mkF m 61 #[.val (.ref thissv2), .val (.int xsv2_1), .val (.long ysv2_2), .second] [(.ref thissv2), (.ref savedValues_sv2)])) rfl rfl (hb hby d_prog_71_method_10_61)
  refine Wq.step st194 ?_
  show Wq _ _ _ _ _ (T194.setTop (mkF m 64 #[.val (.ref thissv2), .val (.int xsv2_1), .val (.long ysv2_2), .second] [(.int (2 : Int32)), (.ref savedValues_sv2)]))
  refine Ow.lloadN X194 hx (pc' := 65) (hb hby d_prog_71_method_10_64) rfl ?_
  obtain ⟨T195, h195, X195, e195, W195, Vr195, st195⟩ := asJ X194 hx hZ e194 V_savedValues_sv2_t192 (j := (2 : Int32)) (i := 2) (by decide) rfl (by simp only [List.length_cons]; omega) (g := (mkF m 65 #[.val (.ref thissv2), .val (.int xsv2_1), .val (.long ysv2_2), .second] [(.long ysv2_2), (.int (2 : Int32)), (.ref savedValues_sv2)])) rfl rfl (hb hby d_prog_71_method_10_65)
  refine Wq.step st195 ?_
  have N195 := Fr.snoc X195 N192 g_savedValues_sv2
  have K195 : Keep h0 h195 [savedCells_sv2, savedValues_sv2, thissv2] := K192.wr W195 (Or.inl (List.mem_of_getElem? (i := 1) rfl))
  have Z195 : n0 ≤ h195.size := Nat.le_trans Z192 (Keep.of_wr W195).1
  have E_thissv2_t195 := E_thissv2_t192.wr W195
  have F_thissv2_values_t195 := F_thissv2_values_t192.other W195 (Or.inl (Ne.symm ne_savedValues_sv2_thissv2))
  have F_thissv2_savedAt_t195 := F_thissv2_savedAt_t192.other W195 (Or.inl (Ne.symm ne_savedValues_sv2_thissv2))
  have F_thissv2_longValues_t195 := F_thissv2_longValues_t192.other W195 (Or.inl (Ne.symm ne_savedValues_sv2_thissv2))
  have F_thissv2_longSavedAt_t195 := F_thissv2_longSavedAt_t192.other W195 (Or.inl (Ne.symm ne_savedValues_sv2_thissv2))
  have F_thissv2_savedCells_t195 := F_thissv2_savedCells_t192.other W195 (Or.inl (Ne.symm ne_savedValues_sv2_thissv2))
  have F_thissv2_savedValues_t195 := F_thissv2_savedValues_t192.other W195 (Or.inl (Ne.symm ne_savedValues_sv2_thissv2))
  have F_thissv2_cellCount_t195 := F_thissv2_cellCount_t192.other W195 (Or.inl (Ne.symm ne_savedValues_sv2_thissv2))
  have F_thissv2_longCellCount_t195 := F_thissv2_longCellCount_t192.other W195 (Or.inl (Ne.symm ne_savedValues_sv2_thissv2))
  have F_thissv2_savedCount_t195 := F_thissv2_savedCount_t192.other W195 (Or.inl (Ne.symm ne_savedValues_sv2_thissv2))
  have F_thissv2_epoch_t195 := F_thissv2_epoch_t192.other W195 (Or.inl (Ne.symm ne_savedValues_sv2_thissv2))
  have V_savedCells_sv2_t195 := V_savedCells_sv2_t192.other W195 ne_savedCells_sv2_savedValues_sv2
  have V_savedValues_sv2_t195 : Al Z h195 savedValues_sv2 .long ((.long se0_sv2) :: (.long se1_sv2) :: (.long ysv2_2) :: (.long se3_sv2) :: rsavedValues_sv2) := Vr195
  show Wq _ _ _ _ _ (T195.setTop (mkF m 66 #[.val (.ref thissv2), .val (.int xsv2_1), .val (.long ysv2_2), .second] []))
  refine Ow.aloadN X195 hx (pc' := 67) (hb hby d_prog_71_method_10_66) rfl rfl ?_
  refine Ow.dup X195 hx (pc' := 68) (hb hby d_prog_71_method_10_67) rfl ?_
  obtain ⟨T196, X196, e196, st196⟩ := getF X195 hx hZ hown (host := "") (Or.inl (kw44 hw)) Via.refl e195 F_thissv2_savedCount_t195 (g := (mkF m 68 #[.val (.ref thissv2), .val (.int xsv2_1), .val (.long ysv2_2), .second] [(.ref thissv2), (.ref thissv2)])) rfl rfl (hb hby d_prog_71_method_10_68)
  refine Wq.step st196 ?_
  show Wq _ _ _ _ _ (T196.setTop (mkF m 71 #[.val (.ref thissv2), .val (.int xsv2_1), .val (.long ysv2_2), .second] [(.int (2 : Int32)), (.ref thissv2)]))
  refine Ow.iconst X196 hx (pc' := 72) (hb hby d_prog_71_method_10_71) (z := (1 : Int32)) rfl ?_
  refine Ow.iadd X196 hx (pc' := 73) (hb hby d_prog_71_method_10_72) (z := (3 : Int32)) rfl ?_
  obtain ⟨T197, h197, X197, e197, W197, st197⟩ := putF X196 hx hZ hown (host := "") (Or.inl (kw44 hw)) Via.refl e196 F_thissv2_savedCount_t195 E_thissv2_t195 (Or.inl (kw45 hw)) (kw1 hw) (ty := .int) (by decide) (rfl) (rfl) (g := (mkF m 73 #[.val (.ref thissv2), .val (.int xsv2_1), .val (.long ysv2_2), .second] [(.int (3 : Int32)), (.ref thissv2)])) rfl rfl (hb hby d_prog_71_method_10_73)
  refine Wq.step st197 ?_
  have N197 := Fr.snoc X197 N195 g_thissv2
  have K197 : Keep h0 h197 [savedCells_sv2, savedValues_sv2, thissv2] := K195.wr W197 (Or.inl (List.mem_of_getElem? (i := 2) rfl))
  have Z197 : n0 ≤ h197.size := Nat.le_trans Z195 (Keep.of_wr W197).1
  have E_thissv2_t197 := E_thissv2_t195.wr W197
  have F_thissv2_values_t197 := F_thissv2_values_t195.other W197 (Or.inr (slot_ne (Or.inl (kw11 hw)) (Or.inl (kw45 hw)) (by decide) (t := (.array .int)) (t' := .int) (by decide) (by decide)))
  have F_thissv2_savedAt_t197 := F_thissv2_savedAt_t195.other W197 (Or.inr (slot_ne (Or.inl (kw13 hw)) (Or.inl (kw45 hw)) (by decide) (t := (.array .int)) (t' := .int) (by decide) (by decide)))
  have F_thissv2_longValues_t197 := F_thissv2_longValues_t195.other W197 (Or.inr (slot_ne (Or.inl (kw16 hw)) (Or.inl (kw45 hw)) (by decide) (t := (.array .long)) (t' := .int) (by decide) (by decide)))
  have F_thissv2_longSavedAt_t197 := F_thissv2_longSavedAt_t195.other W197 (Or.inr (slot_ne (Or.inl (kw18 hw)) (Or.inl (kw45 hw)) (by decide) (t := (.array .int)) (t' := .int) (by decide) (by decide)))
  have F_thissv2_savedCells_t197 := F_thissv2_savedCells_t195.other W197 (Or.inr (slot_ne (Or.inl (kw20 hw)) (Or.inl (kw45 hw)) (by decide) (t := (.array .int)) (t' := .int) (by decide) (by decide)))
  have F_thissv2_savedValues_t197 := F_thissv2_savedValues_t195.other W197 (Or.inr (slot_ne (Or.inl (kw22 hw)) (Or.inl (kw45 hw)) (by decide) (t := (.array .long)) (t' := .int) (by decide) (by decide)))
  have F_thissv2_cellCount_t197 := F_thissv2_cellCount_t195.other W197 (Or.inr (slot_ne (Or.inl (kw31 hw)) (Or.inl (kw45 hw)) (by decide) (t := .int) (t' := .int) (by decide) (by decide)))
  have F_thissv2_longCellCount_t197 := F_thissv2_longCellCount_t195.other W197 (Or.inr (slot_ne (Or.inl (kw38 hw)) (Or.inl (kw45 hw)) (by decide) (t := .int) (t' := .int) (by decide) (by decide)))
  have F_thissv2_epoch_t197 := F_thissv2_epoch_t195.other W197 (Or.inr (slot_ne (Or.inl (kw24 hw)) (Or.inl (kw45 hw)) (by decide) (t := .int) (t' := .int) (by decide) (by decide)))
  have V_savedCells_sv2_t197 := V_savedCells_sv2_t195.other W197 ne_savedCells_sv2_thissv2
  have V_savedValues_sv2_t197 := V_savedValues_sv2_t195.other W197 ne_savedValues_sv2_thissv2
  have F_thissv2_savedCount_t197 : Fld Z h197 thissv2 "com/example/tauten/tauten/Trail" "savedCount" "I" (.int (3 : Int32)) := F_thissv2_savedCount_t195.same W197
  show Wq _ _ _ _ _ (T197.setTop (mkF m 76 #[.val (.ref thissv2), .val (.int xsv2_1), .val (.long ysv2_2), .second] []))
  exact Wq.ret X197 (BodyLoose.notSynchronized Bd) (rv := none) (fun _ => rfl) (fun _ hr => X197.returnOut hx Bd.returns (hb hby d_prog_71_method_10_76) hr) (by decide) (by decide) (by rw [e197]; exact ⟨rfl, N197, K197, E_thissv2_t197, F_thissv2_values_t197, F_thissv2_savedAt_t197, F_thissv2_longValues_t197, F_thissv2_longSavedAt_t197, F_thissv2_savedCells_t197, F_thissv2_savedValues_t197, F_thissv2_cellCount_t197, F_thissv2_longCellCount_t197, F_thissv2_epoch_t197, V_savedCells_sv2_t197, V_savedValues_sv2_t197, F_thissv2_savedCount_t197⟩)
theorem ef_sl2 (m : MethodId) (thissl2 : Addr) (ysl2_2 : Int64) : entryFrame m #[(.ref thissl2), (.int (0 : Int32)), (.long ysl2_2)] 4 = mkF m 0 #[.val (.ref thissl2), .val (.int (0 : Int32)), .val (.long ysl2_2), .second] [] := by first | (simp [entryFrame, mkF, argsToLocals, Value.category]; done) | rfl
def Q_sl2 (Z : State) (thissl2 : Addr) (ysl2_2 : Int64) (values_sl2 : Addr) (savedAt_sl2 : Addr) (longValues_sl2 : Addr) (longSavedAt_sl2 : Addr) (savedCells_sl2 : Addr) (savedValues_sl2 : Addr) (cellCount_sl2 : Int32) (longCellCount_sl2 : Int32) (epoch_sl2 : Int32) (le0_sl2 : Int64) (rlongValues_sl2 : List Value) (lA0_sl2 : Int32) (rlongSavedAt_sl2 : List Value) (sl0_sl2 : Int32) (sl1_sl2 : Int32) (sl2_sl2 : Int32) (sl3_sl2 : Int32) (rsavedCells_sl2 : List Value) (se0_sl2 : Int64) (se1_sl2 : Int64) (se2_sl2 : Int64) (se3_sl2 : Int64) (rsavedValues_sl2 : List Value) (h0 : Heap) (n0 : Nat) (v : Option Value) (h : Heap) (L : List Loc) : Prop := v = none ∧ Fr n0 L ∧ Keep h0 h [thissl2, savedValues_sl2, savedCells_sl2, longSavedAt_sl2, longValues_sl2] ∧ Exa Z h thissl2 "com/example/tauten/tauten/Trail" ∧ Fld Z h thissl2 "com/example/tauten/tauten/Trail" "values" "[I" (.ref values_sl2) ∧ Fld Z h thissl2 "com/example/tauten/tauten/Trail" "savedAt" "[I" (.ref savedAt_sl2) ∧ Fld Z h thissl2 "com/example/tauten/tauten/Trail" "longValues" "[J" (.ref longValues_sl2) ∧ Fld Z h thissl2 "com/example/tauten/tauten/Trail" "longSavedAt" "[I" (.ref longSavedAt_sl2) ∧ Fld Z h thissl2 "com/example/tauten/tauten/Trail" "savedCells" "[I" (.ref savedCells_sl2) ∧ Fld Z h thissl2 "com/example/tauten/tauten/Trail" "savedValues" "[J" (.ref savedValues_sl2) ∧ Fld Z h thissl2 "com/example/tauten/tauten/Trail" "cellCount" "I" (.int cellCount_sl2) ∧ Fld Z h thissl2 "com/example/tauten/tauten/Trail" "longCellCount" "I" (.int longCellCount_sl2) ∧ Fld Z h thissl2 "com/example/tauten/tauten/Trail" "epoch" "I" (.int epoch_sl2) ∧ Al Z h savedCells_sl2 .int ((.int sl0_sl2) :: (.int sl1_sl2) :: (.int (-1 : Int32)) :: (.int sl3_sl2) :: rsavedCells_sl2) ∧ Al Z h savedValues_sl2 .long ((.long se0_sl2) :: (.long se1_sl2) :: (.long le0_sl2) :: (.long se3_sl2) :: rsavedValues_sl2) ∧ Fld Z h thissl2 "com/example/tauten/tauten/Trail" "savedCount" "I" (.int (3 : Int32)) ∧ Al Z h longSavedAt_sl2 .int ((.int epoch_sl2) :: rlongSavedAt_sl2) ∧ Al Z h longValues_sl2 .long ((.long ysl2_2) :: rlongValues_sl2)
set_option maxRecDepth 65536 in
set_option maxHeartbeats 40000000 in
theorem rm_sl2 (l : Launch) (Z : State) (a0 : Array Value) (hw : ∀ d ∈ tables_1, d.before a0 Z = true) (ws : List Jvm.Cond) (thissl2 : Addr) (ysl2_2 : Int64) (values_sl2 : Addr) (savedAt_sl2 : Addr) (longValues_sl2 : Addr) (longSavedAt_sl2 : Addr) (savedCells_sl2 : Addr) (savedValues_sl2 : Addr) (cellCount_sl2 : Int32) (longCellCount_sl2 : Int32) (epoch_sl2 : Int32) (le0_sl2 : Int64) (rlongValues_sl2 : List Value) (lA0_sl2 : Int32) (rlongSavedAt_sl2 : List Value) (sl0_sl2 : Int32) (sl1_sl2 : Int32) (sl2_sl2 : Int32) (sl3_sl2 : Int32) (rsavedCells_sl2 : List Value) (se0_sl2 : Int64) (se1_sl2 : Int64) (se2_sl2 : Int64) (se3_sl2 : Int64) (rsavedValues_sl2 : List Value) (h0 : Heap) (n0 : Nat) (Z0 : n0 ≤ h0.size) (hlen : rsavedCells_sl2.length = 252) (E_thissl2 : Exa Z h0 thissl2 "com/example/tauten/tauten/Trail") (F_thissl2_values : Fld Z h0 thissl2 "com/example/tauten/tauten/Trail" "values" "[I" (.ref values_sl2)) (F_thissl2_savedAt : Fld Z h0 thissl2 "com/example/tauten/tauten/Trail" "savedAt" "[I" (.ref savedAt_sl2)) (F_thissl2_longValues : Fld Z h0 thissl2 "com/example/tauten/tauten/Trail" "longValues" "[J" (.ref longValues_sl2)) (F_thissl2_longSavedAt : Fld Z h0 thissl2 "com/example/tauten/tauten/Trail" "longSavedAt" "[I" (.ref longSavedAt_sl2)) (F_thissl2_savedCells : Fld Z h0 thissl2 "com/example/tauten/tauten/Trail" "savedCells" "[I" (.ref savedCells_sl2)) (F_thissl2_savedValues : Fld Z h0 thissl2 "com/example/tauten/tauten/Trail" "savedValues" "[J" (.ref savedValues_sl2)) (F_thissl2_cellCount : Fld Z h0 thissl2 "com/example/tauten/tauten/Trail" "cellCount" "I" (.int cellCount_sl2)) (F_thissl2_longCellCount : Fld Z h0 thissl2 "com/example/tauten/tauten/Trail" "longCellCount" "I" (.int longCellCount_sl2)) (F_thissl2_savedCount : Fld Z h0 thissl2 "com/example/tauten/tauten/Trail" "savedCount" "I" (.int (2 : Int32))) (F_thissl2_epoch : Fld Z h0 thissl2 "com/example/tauten/tauten/Trail" "epoch" "I" (.int epoch_sl2)) (g_thissl2 : n0 ≤ thissl2) (V_longValues_sl2 : Al Z h0 longValues_sl2 .long ((.long le0_sl2) :: rlongValues_sl2)) (g_longValues_sl2 : n0 ≤ longValues_sl2) (ne_longValues_sl2_thissl2 : longValues_sl2 ≠ thissl2) (V_longSavedAt_sl2 : Al Z h0 longSavedAt_sl2 .int ((.int lA0_sl2) :: rlongSavedAt_sl2)) (g_longSavedAt_sl2 : n0 ≤ longSavedAt_sl2) (ne_longSavedAt_sl2_thissl2 : longSavedAt_sl2 ≠ thissl2) (V_savedCells_sl2 : Al Z h0 savedCells_sl2 .int ((.int sl0_sl2) :: (.int sl1_sl2) :: (.int sl2_sl2) :: (.int sl3_sl2) :: rsavedCells_sl2)) (g_savedCells_sl2 : n0 ≤ savedCells_sl2) (ne_savedCells_sl2_thissl2 : savedCells_sl2 ≠ thissl2) (V_savedValues_sl2 : Al Z h0 savedValues_sl2 .long ((.long se0_sl2) :: (.long se1_sl2) :: (.long se2_sl2) :: (.long se3_sl2) :: rsavedValues_sl2)) (g_savedValues_sl2 : n0 ≤ savedValues_sl2) (ne_savedValues_sl2_thissl2 : savedValues_sl2 ≠ thissl2) (ne_longValues_sl2_longSavedAt_sl2 : longValues_sl2 ≠ longSavedAt_sl2) (ne_longValues_sl2_savedCells_sl2 : longValues_sl2 ≠ savedCells_sl2) (ne_longValues_sl2_savedValues_sl2 : longValues_sl2 ≠ savedValues_sl2) (ne_longSavedAt_sl2_savedCells_sl2 : longSavedAt_sl2 ≠ savedCells_sl2) (ne_longSavedAt_sl2_savedValues_sl2 : longSavedAt_sl2 ≠ savedValues_sl2) (ne_savedCells_sl2_savedValues_sl2 : savedCells_sl2 ≠ savedValues_sl2) (hc10 : ¬ (lA0_sl2 = epoch_sl2)) :
    MetFree l mt10 (head1 (Jvm.Cond.code mt10 prog_71_method_7_code 4 none :: ws) ({ frames := 1, cells := 0, slots := 0, locals := 15 } : Room)) (fun a U => a = #[(.ref thissl2), (.int (0 : Int32)), (.long ysl2_2)] ∧ Z.Warmed39 U.vm ∧ U.heap = h0) (fun _ _ _ _ _ => True) (fun _ U o U' => ∃ v L, o = .returned v ∧ (Q_sl2 Z thissl2 ysl2_2 values_sl2 savedAt_sl2 longValues_sl2 longSavedAt_sl2 savedCells_sl2 savedValues_sl2 cellCount_sl2 longCellCount_sl2 epoch_sl2 le0_sl2 rlongValues_sl2 lA0_sl2 rlongSavedAt_sl2 sl0_sl2 sl1_sl2 sl2_sl2 sl3_sl2 rsavedCells_sl2 se0_sl2 se1_sl2 se2_sl2 se3_sl2 rsavedValues_sl2 h0 n0) v U'.heap L ∧ FrameEnd U o U' L ({ frames := 1, cells := 0, slots := 0, locals := 15 } : Room).cells ({ frames := 1, cells := 0, slots := 0, locals := 15 } : Room).slots) := by
  refine MetFree.of_bodySF (plainFor_of_name pn1) hisR ?_
  intro p e s m args below meth c s₁ Bd hml0 hP hK
  obtain ⟨rfl, hZ, hh⟩ := hP
  have hx := Bd.exec
  have hby := Bd.bytes
  have hml : c.maxLocals = 4 := hml0
  have hown : s.vm.findClass "com/example/tauten/tauten/Trail" = some m.cls := findClass_of_methodNamed Bd.named
  have hnm := (name_of_methodNamed Bd.named Bd.method).1
  have X0 : Stand p l e ({ frames := 1, cells := 0, slots := 0, locals := 15 } : Room) s m #[(.ref thissl2), (.int (0 : Int32)), (.long ysl2_2)] below meth c s₁ [] 0 0 := Stand.of_body Bd
  have e0 : s₁.heap = h0 := by rw [← hh, Bd.state]; rfl
  have N0 := Fr.nil n0
  refine Wq.step (p := p) (e := e) (below := below) (En := (fun o t L => FrameEnd s o t L ({ frames := 1, cells := 0, slots := 0, locals := 15 } : Room).cells ({ frames := 1, cells := 0, slots := 0, locals := 15 } : Room).slots)) (Q := (Q_sl2 Z thissl2 ysl2_2 values_sl2 savedAt_sl2 longValues_sl2 longSavedAt_sl2 savedCells_sl2 savedValues_sl2 cellCount_sl2 longCellCount_sl2 epoch_sl2 le0_sl2 rlongValues_sl2 lA0_sl2 rlongSavedAt_sl2 sl0_sl2 sl1_sl2 sl2_sl2 sl3_sl2 rsavedCells_sl2 se0_sl2 se1_sl2 se2_sl2 se3_sl2 rsavedValues_sl2 h0 n0)) (fun t k => castTop (ef_sl2 m thissl2 ysl2_2) k) ?_
  show Wq _ _ _ _ _ (s₁.setTop (mkF m 0 #[.val (.ref thissl2), .val (.int (0 : Int32)), .val (.long ysl2_2), .second] []))
  refine Ow.aloadN X0 hx (pc' := 1) (hb hby d_prog_71_method_7_0) rfl rfl ?_
  obtain ⟨T198, X198, e198, st198⟩ := getF X0 hx hZ hown (host := "") (Or.inl (kw17 hw)) Via.refl e0 F_thissl2_longSavedAt (g := (mkF m 1 #[.val (.ref thissl2), .val (.int (0 : Int32)), .val (.long ysl2_2), .second] [(.ref thissl2)])) rfl rfl (hb hby d_prog_71_method_7_1)
  refine Wq.step st198 ?_
  show Wq _ _ _ _ _ (T198.setTop (mkF m 4 #[.val (.ref thissl2), .val (.int (0 : Int32)), .val (.long ysl2_2), .second] [(.ref longSavedAt_sl2)]))
  refine Ow.iloadN X198 hx (pc' := 5) (hb hby d_prog_71_method_7_4) rfl ?_
  refine Ow.ldI X198 hx hZ e198 V_longSavedAt_sl2 (pc' := 6) (hb hby d_prog_71_method_7_5) (j := (0 : Int32)) (i := 0) (v := (.int lA0_sl2)) (by decide) rfl rfl ?_
  refine Ow.aloadN X198 hx (pc' := 7) (hb hby d_prog_71_method_7_6) rfl rfl ?_
  obtain ⟨T199, X199, e199, st199⟩ := getF X198 hx hZ hown (host := "") (Or.inl (kw23 hw)) Via.refl e198 F_thissl2_epoch (g := (mkF m 7 #[.val (.ref thissl2), .val (.int (0 : Int32)), .val (.long ysl2_2), .second] [(.ref thissl2), (.int lA0_sl2)])) rfl rfl (hb hby d_prog_71_method_7_7)
  refine Wq.step st199 ?_
  show Wq _ _ _ _ _ (T199.setTop (mkF m 10 #[.val (.ref thissl2), .val (.int (0 : Int32)), .val (.long ysl2_2), .second] [(.int epoch_sl2), (.int lA0_sl2)]))
  refine Ow.icmpNo X199 hx (pc' := 13) (hb hby d_prog_71_method_7_10) (feq hc10).1 ?_
  refine Ow.aloadN X199 hx (pc' := 14) (hb hby d_prog_71_method_7_13) rfl rfl ?_
  refine Ow.iloadN X199 hx (pc' := 15) (hb hby d_prog_71_method_7_14) rfl ?_
  refine Ow.iconst X199 hx (pc' := 16) (hb hby d_prog_71_method_7_15) (z := (-1 : Int32)) rfl ?_
  refine Ow.ixor X199 hx (pc' := 17) (hb hby d_prog_71_method_7_16) (z := (-1 : Int32)) rfl ?_
  refine Ow.aloadN X199 hx (pc' := 18) (hb hby d_prog_71_method_7_17) rfl rfl ?_
  obtain ⟨T200, X200, e200, st200⟩ := getF X199 hx hZ hown (host := "") (Or.inl (kw15 hw)) Via.refl e199 F_thissl2_longValues (g := (mkF m 18 #[.val (.ref thissl2), .val (.int (0 : Int32)), .val (.long ysl2_2), .second] [(.ref thissl2), (.int (-1 : Int32)), (.ref thissl2)])) rfl rfl (hb hby d_prog_71_method_7_18)
  refine Wq.step st200 ?_
  show Wq _ _ _ _ _ (T200.setTop (mkF m 21 #[.val (.ref thissl2), .val (.int (0 : Int32)), .val (.long ysl2_2), .second] [(.ref longValues_sl2), (.int (-1 : Int32)), (.ref thissl2)]))
  refine Ow.iloadN X200 hx (pc' := 22) (hb hby d_prog_71_method_7_21) rfl ?_
  refine Ow.ldJ X200 hx hZ e200 V_longValues_sl2 (pc' := 23) (hb hby d_prog_71_method_7_22) (j := (0 : Int32)) (i := 0) (v := (.long le0_sl2)) (by decide) rfl rfl ?_
  obtain ⟨cq201, q201a, q201b⟩ := Exa.cell E_thissl2
  obtain ⟨_, _, ⟨T201, L201, k201, n201⟩, -, X201, ⟨Lc201, hQ201, l201, y201, z201⟩, st201⟩ := X200.privateBack hx (y := mt7) hown (mvT hZ (kw51 hw)) (mvT hZ (kw52 hw)) (Jvm.OwnW.selPriv (y := mt7) hZ (kw1 hw) (kw53 hw) (kw52 hw) (by decide)) (Cond.privateMethod_at (mvP hZ (kw53 hw) (args := #[]))) (mvT hZ (kw54 hw)) (by decide) (backOf (W := 0) (rm_sv2 l Z a0 hw [] thissl2 (-1 : Int32) le0_sl2 values_sl2 savedAt_sl2 longValues_sl2 longSavedAt_sl2 savedCells_sl2 savedValues_sl2 cellCount_sl2 longCellCount_sl2 epoch_sl2 sl0_sl2 sl1_sl2 sl2_sl2 sl3_sl2 rsavedCells_sl2 se0_sl2 se1_sl2 se2_sl2 se3_sl2 rsavedValues_sl2 h0 n0 Z0 (hlen) E_thissl2 F_thissl2_values F_thissl2_savedAt F_thissl2_longValues F_thissl2_longSavedAt F_thissl2_savedCells F_thissl2_savedValues F_thissl2_cellCount F_thissl2_longCellCount F_thissl2_savedCount F_thissl2_epoch g_thissl2 V_savedCells_sl2 g_savedCells_sl2 ne_savedCells_sl2_thissl2 V_savedValues_sl2 g_savedValues_sl2 ne_savedValues_sl2_thissl2 ne_savedCells_sl2_savedValues_sl2) hZ (kw54 hw) (kw2 hw) (by decide) (by decide)) (g := (mkF m 23 #[.val (.ref thissl2), .val (.int (0 : Int32)), .val (.long ysl2_2), .second] [(.long le0_sl2), (.int (-1 : Int32)), (.ref thissl2)])) rfl (by rw [hml]; rfl) (Steps.refl _) (a := thissl2) (by rw [e200]; exact q201a) q201b (argsL := [(.int (-1 : Int32)), (.long le0_sl2)]) (rest := []) (lenOf pd5 rfl) rfl (by show 2 * 0 + _ ≤ _; exact Nat.le_of_eq rfl) (hb hby d_prog_71_method_7_23) (fun _ _ => ⟨rfl, e200, (by decide : 0 + 0 ≤ _), (by decide : 0 + 0 ≤ _)⟩)
  dsimp only [Pt.U, Pt.locs, Pt.cells, Pt.slots] at X201 l201 y201 z201 st201 hQ201
  subst l201 y201 z201
  obtain ⟨rfl, Nq201, Kq201, P201_0, P201_1, P201_2, P201_3, P201_4, P201_5, P201_6, P201_7, P201_8, P201_9, P201_10, P201_11, P201_12⟩ := hQ201
  have N201 := Fr.app N0 Nq201
  have K201 : Keep h0 T201.heap [thissl2, savedValues_sl2, savedCells_sl2, longSavedAt_sl2, longValues_sl2] := (Keep.refl h0 [thissl2, savedValues_sl2, savedCells_sl2, longSavedAt_sl2, longValues_sl2]).trans Kq201 (allS (P := fun x => x ∈ [thissl2, savedValues_sl2, savedCells_sl2, longSavedAt_sl2, longValues_sl2] ∨ h0.size ≤ x) (Or.inl (List.mem_of_getElem? (i := 2) rfl)) (allS (P := fun x => x ∈ [thissl2, savedValues_sl2, savedCells_sl2, longSavedAt_sl2, longValues_sl2] ∨ h0.size ≤ x) (Or.inl (List.mem_of_getElem? (i := 1) rfl)) (allS (P := fun x => x ∈ [thissl2, savedValues_sl2, savedCells_sl2, longSavedAt_sl2, longValues_sl2] ∨ h0.size ≤ x) (Or.inl (List.mem_of_getElem? (i := 0) rfl)) all0)))
  have Z201 : n0 ≤ T201.heap.size := Nat.le_trans Z0 Kq201.1
  have E_thissl2_t201 := E_thissl2.keep Kq201
  have V_longValues_sl2_t201 := V_longValues_sl2.keep Kq201 (ninS ne_longValues_sl2_savedCells_sl2 (ninS ne_longValues_sl2_savedValues_sl2 (ninS ne_longValues_sl2_thissl2 nin0)))
  have V_longSavedAt_sl2_t201 := V_longSavedAt_sl2.keep Kq201 (ninS ne_longSavedAt_sl2_savedCells_sl2 (ninS ne_longSavedAt_sl2_savedValues_sl2 (ninS ne_longSavedAt_sl2_thissl2 nin0)))
  have e201 : T201.heap = T201.heap := rfl
  refine Wq.steps st201 ?_
  show Wq _ _ _ _ _ (T201.setTop (mkF m 26 #[.val (.ref thissl2), .val (.int (0 : Int32)), .val (.long ysl2_2), .second] []))
  refine Ow.aloadN X201 hx (pc' := 27) (hb hby d_prog_71_method_7_26) rfl rfl ?_
  obtain ⟨T202, X202, e202, st202⟩ := getF X201 hx hZ hown (host := "") (Or.inl (kw17 hw)) Via.refl e201 P201_4 (g := (mkF m 27 #[.val (.ref thissl2), .val (.int (0 : Int32)), .val (.long ysl2_2), .second] [(.ref thissl2)])) rfl rfl (hb hby d_prog_71_method_7_27)
  refine Wq.step st202 ?_
  show Wq _ _ _ _ _ (T202.setTop (mkF m 30 #[.val (.ref thissl2), .val (.int (0 : Int32)), .val (.long ysl2_2), .second] [(.ref longSavedAt_sl2)]))
  refine Ow.iloadN X202 hx (pc' := 31) (hb hby d_prog_71_method_7_30) rfl ?_
  refine Ow.aloadN X202 hx (pc' := 32) (hb hby d_prog_71_method_7_31) rfl rfl ?_
  obtain ⟨T203, X203, e203, st203⟩ := getF X202 hx hZ hown (host := "") (Or.inl (kw23 hw)) Via.refl e202 P201_9 (g := (mkF m 32 #[.val (.ref thissl2), .val (.int (0 : Int32)), .val (.long ysl2_2), .second] [(.ref thissl2), (.int (0 : Int32)), (.ref longSavedAt_sl2)])) rfl rfl (hb hby d_prog_71_method_7_32)
  refine Wq.step st203 ?_
  show Wq _ _ _ _ _ (T203.setTop (mkF m 35 #[.val (.ref thissl2), .val (.int (0 : Int32)), .val (.long ysl2_2), .second] [(.int epoch_sl2), (.int (0 : Int32)), (.ref longSavedAt_sl2)]))
  obtain ⟨T204, h204, X204, e204, W204, Vr204, st204⟩ := asI X203 hx hZ e203 V_longSavedAt_sl2_t201 (j := (0 : Int32)) (i := 0) (by decide) rfl (by simp only [List.length_cons]; omega) (g := (mkF m 35 #[.val (.ref thissl2), .val (.int (0 : Int32)), .val (.long ysl2_2), .second] [(.int epoch_sl2), (.int (0 : Int32)), (.ref longSavedAt_sl2)])) rfl rfl (hb hby d_prog_71_method_7_35)
  refine Wq.step st204 ?_
  have N204 := Fr.snoc X204 N201 g_longSavedAt_sl2
  have K204 : Keep h0 h204 [thissl2, savedValues_sl2, savedCells_sl2, longSavedAt_sl2, longValues_sl2] := K201.wr W204 (Or.inl (List.mem_of_getElem? (i := 3) rfl))
  have Z204 : n0 ≤ h204.size := Nat.le_trans Z201 (Keep.of_wr W204).1
  have E_thissl2_t204 := E_thissl2_t201.wr W204
  have V_longValues_sl2_t204 := V_longValues_sl2_t201.other W204 ne_longValues_sl2_longSavedAt_sl2
  have P201_1_t204 := P201_1.other W204 (Or.inl (Ne.symm ne_longSavedAt_sl2_thissl2))
  have P201_2_t204 := P201_2.other W204 (Or.inl (Ne.symm ne_longSavedAt_sl2_thissl2))
  have P201_3_t204 := P201_3.other W204 (Or.inl (Ne.symm ne_longSavedAt_sl2_thissl2))
  have P201_4_t204 := P201_4.other W204 (Or.inl (Ne.symm ne_longSavedAt_sl2_thissl2))
  have P201_5_t204 := P201_5.other W204 (Or.inl (Ne.symm ne_longSavedAt_sl2_thissl2))
  have P201_6_t204 := P201_6.other W204 (Or.inl (Ne.symm ne_longSavedAt_sl2_thissl2))
  have P201_7_t204 := P201_7.other W204 (Or.inl (Ne.symm ne_longSavedAt_sl2_thissl2))
  have P201_8_t204 := P201_8.other W204 (Or.inl (Ne.symm ne_longSavedAt_sl2_thissl2))
  have P201_9_t204 := P201_9.other W204 (Or.inl (Ne.symm ne_longSavedAt_sl2_thissl2))
  have P201_10_t204 := P201_10.other W204 (Ne.symm ne_longSavedAt_sl2_savedCells_sl2)
  have P201_11_t204 := P201_11.other W204 (Ne.symm ne_longSavedAt_sl2_savedValues_sl2)
  have P201_12_t204 := P201_12.other W204 (Or.inl (Ne.symm ne_longSavedAt_sl2_thissl2))
  have V_longSavedAt_sl2_t204 : Al Z h204 longSavedAt_sl2 .int ((.int epoch_sl2) :: rlongSavedAt_sl2) := Vr204
  show Wq _ _ _ _ _ (T204.setTop (mkF m 36 #[.val (.ref thissl2), .val (.int (0 : Int32)), .val (.long ysl2_2), .second] []))
  refine Ow.aloadN X204 hx (pc' := 37) (hb hby d_prog_71_method_7_36) rfl rfl ?_
  obtain ⟨T205, X205, e205, st205⟩ := getF X204 hx hZ hown (host := "") (Or.inl (kw15 hw)) Via.refl e204 P201_3_t204 (g := (mkF m 37 #[.val (.ref thissl2), .val (.int (0 : Int32)), .val (.long ysl2_2), .second] [(.ref thissl2)])) rfl rfl (hb hby d_prog_71_method_7_37)
  refine Wq.step st205 ?_
  show Wq _ _ _ _ _ (T205.setTop (mkF m 40 #[.val (.ref thissl2), .val (.int (0 : Int32)), .val (.long ysl2_2), .second] [(.ref longValues_sl2)]))
  refine Ow.iloadN X205 hx (pc' := 41) (hb hby d_prog_71_method_7_40) rfl ?_
  refine Ow.lloadN X205 hx (pc' := 42) (hb hby d_prog_71_method_7_41) rfl ?_
  obtain ⟨T206, h206, X206, e206, W206, Vr206, st206⟩ := asJ X205 hx hZ e205 V_longValues_sl2_t204 (j := (0 : Int32)) (i := 0) (by decide) rfl (by simp only [List.length_cons]; omega) (g := (mkF m 42 #[.val (.ref thissl2), .val (.int (0 : Int32)), .val (.long ysl2_2), .second] [(.long ysl2_2), (.int (0 : Int32)), (.ref longValues_sl2)])) rfl rfl (hb hby d_prog_71_method_7_42)
  refine Wq.step st206 ?_
  have N206 := Fr.snoc X206 N204 g_longValues_sl2
  have K206 : Keep h0 h206 [thissl2, savedValues_sl2, savedCells_sl2, longSavedAt_sl2, longValues_sl2] := K204.wr W206 (Or.inl (List.mem_of_getElem? (i := 4) rfl))
  have Z206 : n0 ≤ h206.size := Nat.le_trans Z204 (Keep.of_wr W206).1
  have E_thissl2_t206 := E_thissl2_t204.wr W206
  have P201_1_t206 := P201_1_t204.other W206 (Or.inl (Ne.symm ne_longValues_sl2_thissl2))
  have P201_2_t206 := P201_2_t204.other W206 (Or.inl (Ne.symm ne_longValues_sl2_thissl2))
  have P201_3_t206 := P201_3_t204.other W206 (Or.inl (Ne.symm ne_longValues_sl2_thissl2))
  have P201_4_t206 := P201_4_t204.other W206 (Or.inl (Ne.symm ne_longValues_sl2_thissl2))
  have P201_5_t206 := P201_5_t204.other W206 (Or.inl (Ne.symm ne_longValues_sl2_thissl2))
  have P201_6_t206 := P201_6_t204.other W206 (Or.inl (Ne.symm ne_longValues_sl2_thissl2))
  have P201_7_t206 := P201_7_t204.other W206 (Or.inl (Ne.symm ne_longValues_sl2_thissl2))
  have P201_8_t206 := P201_8_t204.other W206 (Or.inl (Ne.symm ne_longValues_sl2_thissl2))
  have P201_9_t206 := P201_9_t204.other W206 (Or.inl (Ne.symm ne_longValues_sl2_thissl2))
  have P201_10_t206 := P201_10_t204.other W206 (Ne.symm ne_longValues_sl2_savedCells_sl2)
  have P201_11_t206 := P201_11_t204.other W206 (Ne.symm ne_longValues_sl2_savedValues_sl2)
  have P201_12_t206 := P201_12_t204.other W206 (Or.inl (Ne.symm ne_longValues_sl2_thissl2))
  have V_longSavedAt_sl2_t206 := V_longSavedAt_sl2_t204.other W206 (Ne.symm ne_longValues_sl2_longSavedAt_sl2)
  have V_longValues_sl2_t206 : Al Z h206 longValues_sl2 .long ((.long ysl2_2) :: rlongValues_sl2) := Vr206
  show Wq _ _ _ _ _ (T206.setTop (mkF m 43 #[.val (.ref thissl2), .val (.int (0 : Int32)), .val (.long ysl2_2), .second] []))
  exact Wq.ret X206 (BodyLoose.notSynchronized Bd) (rv := none) (fun _ => rfl) (fun _ hr => X206.returnOut hx Bd.returns (hb hby d_prog_71_method_7_43) hr) (by decide) (by decide) (by rw [e206]; exact ⟨rfl, N206, K206, E_thissl2_t206, P201_1_t206, P201_2_t206, P201_3_t206, P201_4_t206, P201_5_t206, P201_6_t206, P201_7_t206, P201_8_t206, P201_9_t206, P201_10_t206, P201_11_t206, P201_12_t206, V_longSavedAt_sl2_t206, V_longValues_sl2_t206⟩)
theorem ef_un31il (m : MethodId) (thisun31il : Addr) : entryFrame m #[(.ref thisun31il), (.int (1 : Int32))] 3 = mkF m 0 #[.val (.ref thisun31il), .val (.int (1 : Int32)), .unset] [] := by first | (simp [entryFrame, mkF, argsToLocals, Value.category]; done) | rfl
def Q_un31il (Z : State) (thisun31il : Addr) (values_un31il : Addr) (savedAt_un31il : Addr) (longValues_un31il : Addr) (longSavedAt_un31il : Addr) (savedCells_un31il : Addr) (savedValues_un31il : Addr) (cellCount_un31il : Int32) (longCellCount_un31il : Int32) (epoch_un31il : Int32) (ve0_un31il : Int32) (rvalues_un31il : List Value) (le0_un31il : Int64) (rlongValues_un31il : List Value) (sl0_un31il : Int32) (sl3_un31il : Int32) (rsavedCells_un31il : List Value) (se0_un31il : Int64) (se1_un31il : Int64) (se2_un31il : Int64) (se3_un31il : Int64) (rsavedValues_un31il : List Value) (h0 : Heap) (n0 : Nat) (v : Option Value) (h : Heap) (L : List Loc) : Prop := v = none ∧ Fr n0 L ∧ Keep h0 h [thisun31il, longValues_un31il, values_un31il] ∧ Exa Z h thisun31il "com/example/tauten/tauten/Trail" ∧ Fld Z h thisun31il "com/example/tauten/tauten/Trail" "values" "[I" (.ref values_un31il) ∧ Fld Z h thisun31il "com/example/tauten/tauten/Trail" "savedAt" "[I" (.ref savedAt_un31il) ∧ Fld Z h thisun31il "com/example/tauten/tauten/Trail" "longValues" "[J" (.ref longValues_un31il) ∧ Fld Z h thisun31il "com/example/tauten/tauten/Trail" "longSavedAt" "[I" (.ref longSavedAt_un31il) ∧ Fld Z h thisun31il "com/example/tauten/tauten/Trail" "savedCells" "[I" (.ref savedCells_un31il) ∧ Fld Z h thisun31il "com/example/tauten/tauten/Trail" "savedValues" "[J" (.ref savedValues_un31il) ∧ Fld Z h thisun31il "com/example/tauten/tauten/Trail" "cellCount" "I" (.int cellCount_un31il) ∧ Fld Z h thisun31il "com/example/tauten/tauten/Trail" "longCellCount" "I" (.int longCellCount_un31il) ∧ Al Z h longValues_un31il .long ((.long se2_un31il) :: rlongValues_un31il) ∧ Fld Z h thisun31il "com/example/tauten/tauten/Trail" "savedCount" "I" (.int (1 : Int32)) ∧ Al Z h values_un31il .int ((.int (se1_un31il.toInt32)) :: rvalues_un31il) ∧ Fld Z h thisun31il "com/example/tauten/tauten/Trail" "epoch" "I" (.int (epoch_un31il + (1 : Int32)))
set_option maxRecDepth 65536 in
set_option maxHeartbeats 40000000 in
theorem rm_un31il (l : Launch) (Z : State) (a0 : Array Value) (hw : ∀ d ∈ tables_1, d.before a0 Z = true) (ws : List Jvm.Cond) (thisun31il : Addr) (values_un31il : Addr) (savedAt_un31il : Addr) (longValues_un31il : Addr) (longSavedAt_un31il : Addr) (savedCells_un31il : Addr) (savedValues_un31il : Addr) (cellCount_un31il : Int32) (longCellCount_un31il : Int32) (epoch_un31il : Int32) (ve0_un31il : Int32) (rvalues_un31il : List Value) (le0_un31il : Int64) (rlongValues_un31il : List Value) (sl0_un31il : Int32) (sl3_un31il : Int32) (rsavedCells_un31il : List Value) (se0_un31il : Int64) (se1_un31il : Int64) (se2_un31il : Int64) (se3_un31il : Int64) (rsavedValues_un31il : List Value) (h0 : Heap) (n0 : Nat) (Z0 : n0 ≤ h0.size) (E_thisun31il : Exa Z h0 thisun31il "com/example/tauten/tauten/Trail") (F_thisun31il_values : Fld Z h0 thisun31il "com/example/tauten/tauten/Trail" "values" "[I" (.ref values_un31il)) (F_thisun31il_savedAt : Fld Z h0 thisun31il "com/example/tauten/tauten/Trail" "savedAt" "[I" (.ref savedAt_un31il)) (F_thisun31il_longValues : Fld Z h0 thisun31il "com/example/tauten/tauten/Trail" "longValues" "[J" (.ref longValues_un31il)) (F_thisun31il_longSavedAt : Fld Z h0 thisun31il "com/example/tauten/tauten/Trail" "longSavedAt" "[I" (.ref longSavedAt_un31il)) (F_thisun31il_savedCells : Fld Z h0 thisun31il "com/example/tauten/tauten/Trail" "savedCells" "[I" (.ref savedCells_un31il)) (F_thisun31il_savedValues : Fld Z h0 thisun31il "com/example/tauten/tauten/Trail" "savedValues" "[J" (.ref savedValues_un31il)) (F_thisun31il_cellCount : Fld Z h0 thisun31il "com/example/tauten/tauten/Trail" "cellCount" "I" (.int cellCount_un31il)) (F_thisun31il_longCellCount : Fld Z h0 thisun31il "com/example/tauten/tauten/Trail" "longCellCount" "I" (.int longCellCount_un31il)) (F_thisun31il_savedCount : Fld Z h0 thisun31il "com/example/tauten/tauten/Trail" "savedCount" "I" (.int (3 : Int32))) (F_thisun31il_epoch : Fld Z h0 thisun31il "com/example/tauten/tauten/Trail" "epoch" "I" (.int epoch_un31il)) (g_thisun31il : n0 ≤ thisun31il) (V_values_un31il : Al Z h0 values_un31il .int ((.int ve0_un31il) :: rvalues_un31il)) (g_values_un31il : n0 ≤ values_un31il) (ne_values_un31il_thisun31il : values_un31il ≠ thisun31il) (V_longValues_un31il : Al Z h0 longValues_un31il .long ((.long le0_un31il) :: rlongValues_un31il)) (g_longValues_un31il : n0 ≤ longValues_un31il) (ne_longValues_un31il_thisun31il : longValues_un31il ≠ thisun31il) (V_savedCells_un31il : Al Z h0 savedCells_un31il .int ((.int sl0_un31il) :: (.int (0 : Int32)) :: (.int (-1 : Int32)) :: (.int sl3_un31il) :: rsavedCells_un31il)) (g_savedCells_un31il : n0 ≤ savedCells_un31il) (ne_savedCells_un31il_thisun31il : savedCells_un31il ≠ thisun31il) (V_savedValues_un31il : Al Z h0 savedValues_un31il .long ((.long se0_un31il) :: (.long se1_un31il) :: (.long se2_un31il) :: (.long se3_un31il) :: rsavedValues_un31il)) (g_savedValues_un31il : n0 ≤ savedValues_un31il) (ne_savedValues_un31il_thisun31il : savedValues_un31il ≠ thisun31il) (ne_values_un31il_longValues_un31il : values_un31il ≠ longValues_un31il) (ne_values_un31il_savedCells_un31il : values_un31il ≠ savedCells_un31il) (ne_values_un31il_savedValues_un31il : values_un31il ≠ savedValues_un31il) (ne_longValues_un31il_savedCells_un31il : longValues_un31il ≠ savedCells_un31il) (ne_longValues_un31il_savedValues_un31il : longValues_un31il ≠ savedValues_un31il) (ne_savedCells_un31il_savedValues_un31il : savedCells_un31il ≠ savedValues_un31il) :
    MetFree l mt9 (head1 (Jvm.Cond.code mt9 prog_71_method_9_code 3 none :: ws) ({ frames := 0, cells := 0, slots := 0, locals := 0 } : Room)) (fun a U => a = #[(.ref thisun31il), (.int (1 : Int32))] ∧ Z.Warmed39 U.vm ∧ U.heap = h0) (fun _ _ _ _ _ => True) (fun _ U o U' => ∃ v L, o = .returned v ∧ (Q_un31il Z thisun31il values_un31il savedAt_un31il longValues_un31il longSavedAt_un31il savedCells_un31il savedValues_un31il cellCount_un31il longCellCount_un31il epoch_un31il ve0_un31il rvalues_un31il le0_un31il rlongValues_un31il sl0_un31il sl3_un31il rsavedCells_un31il se0_un31il se1_un31il se2_un31il se3_un31il rsavedValues_un31il h0 n0) v U'.heap L ∧ FrameEnd U o U' L ({ frames := 0, cells := 0, slots := 0, locals := 0 } : Room).cells ({ frames := 0, cells := 0, slots := 0, locals := 0 } : Room).slots) := by
  refine MetFree.of_bodySF (plainFor_of_name pn1) hisR ?_
  intro p e s m args below meth c s₁ Bd hml0 hP hK
  obtain ⟨rfl, hZ, hh⟩ := hP
  have hx := Bd.exec
  have hby := Bd.bytes
  have hml : c.maxLocals = 3 := hml0
  have hown : s.vm.findClass "com/example/tauten/tauten/Trail" = some m.cls := findClass_of_methodNamed Bd.named
  have hnm := (name_of_methodNamed Bd.named Bd.method).1
  have X0 : Stand p l e ({ frames := 0, cells := 0, slots := 0, locals := 0 } : Room) s m #[(.ref thisun31il), (.int (1 : Int32))] below meth c s₁ [] 0 0 := Stand.of_body Bd
  have e0 : s₁.heap = h0 := by rw [← hh, Bd.state]; rfl
  have N0 := Fr.nil n0
  refine Wq.step (p := p) (e := e) (below := below) (En := (fun o t L => FrameEnd s o t L ({ frames := 0, cells := 0, slots := 0, locals := 0 } : Room).cells ({ frames := 0, cells := 0, slots := 0, locals := 0 } : Room).slots)) (Q := (Q_un31il Z thisun31il values_un31il savedAt_un31il longValues_un31il longSavedAt_un31il savedCells_un31il savedValues_un31il cellCount_un31il longCellCount_un31il epoch_un31il ve0_un31il rvalues_un31il le0_un31il rlongValues_un31il sl0_un31il sl3_un31il rsavedCells_un31il se0_un31il se1_un31il se2_un31il se3_un31il rsavedValues_un31il h0 n0)) (fun t k => castTop (ef_un31il m thisun31il) k) ?_
  show Wq _ _ _ _ _ (s₁.setTop (mkF m 0 #[.val (.ref thisun31il), .val (.int (1 : Int32)), .unset] []))
  refine Ow.aloadN X0 hx (pc' := 1) (hb hby d_prog_71_method_9_0) rfl rfl ?_
  obtain ⟨T208, X208, e208, st208⟩ := getF X0 hx hZ hown (host := "") (Or.inl (kw44 hw)) Via.refl e0 F_thisun31il_savedCount (g := (mkF m 1 #[.val (.ref thisun31il), .val (.int (1 : Int32)), .unset] [(.ref thisun31il)])) rfl rfl (hb hby d_prog_71_method_9_1)
  refine Wq.step st208 ?_
  show Wq _ _ _ _ _ (T208.setTop (mkF m 4 #[.val (.ref thisun31il), .val (.int (1 : Int32)), .unset] [(.int (3 : Int32))]))
  refine Ow.iloadN X208 hx (pc' := 5) (hb hby d_prog_71_method_9_4) rfl ?_
  refine Ow.icmpNo X208 hx (pc' := 8) (hb hby d_prog_71_method_9_5) (tlt (by decide : (1 : Int32) < (3 : Int32))).2.2.2 ?_
  refine Ow.aloadN X208 hx (pc' := 9) (hb hby d_prog_71_method_9_8) rfl rfl ?_
  refine Ow.dup X208 hx (pc' := 10) (hb hby d_prog_71_method_9_9) rfl ?_
  obtain ⟨T209, X209, e209, st209⟩ := getF X208 hx hZ hown (host := "") (Or.inl (kw44 hw)) Via.refl e208 F_thisun31il_savedCount (g := (mkF m 10 #[.val (.ref thisun31il), .val (.int (1 : Int32)), .unset] [(.ref thisun31il), (.ref thisun31il)])) rfl rfl (hb hby d_prog_71_method_9_10)
  refine Wq.step st209 ?_
  show Wq _ _ _ _ _ (T209.setTop (mkF m 13 #[.val (.ref thisun31il), .val (.int (1 : Int32)), .unset] [(.int (3 : Int32)), (.ref thisun31il)]))
  refine Ow.iconst X209 hx (pc' := 14) (hb hby d_prog_71_method_9_13) (z := (1 : Int32)) rfl ?_
  refine Ow.isub X209 hx (pc' := 15) (hb hby d_prog_71_method_9_14) (z := (2 : Int32)) rfl ?_
  obtain ⟨T210, h210, X210, e210, W210, st210⟩ := putF X209 hx hZ hown (host := "") (Or.inl (kw44 hw)) Via.refl e209 F_thisun31il_savedCount E_thisun31il (Or.inl (kw45 hw)) (kw1 hw) (ty := .int) (by decide) (rfl) (rfl) (g := (mkF m 15 #[.val (.ref thisun31il), .val (.int (1 : Int32)), .unset] [(.int (2 : Int32)), (.ref thisun31il)])) rfl rfl (hb hby d_prog_71_method_9_15)
  refine Wq.step st210 ?_
  have N210 := Fr.snoc X210 N0 g_thisun31il
  have K210 : Keep h0 h210 [thisun31il, longValues_un31il, values_un31il] := (Keep.refl h0 [thisun31il, longValues_un31il, values_un31il]).wr W210 (Or.inl (List.mem_of_getElem? (i := 0) rfl))
  have Z210 : n0 ≤ h210.size := Nat.le_trans Z0 (Keep.of_wr W210).1
  have E_thisun31il_t210 := E_thisun31il.wr W210
  have F_thisun31il_values_t210 := F_thisun31il_values.other W210 (Or.inr (slot_ne (Or.inl (kw11 hw)) (Or.inl (kw45 hw)) (by decide) (t := (.array .int)) (t' := .int) (by decide) (by decide)))
  have F_thisun31il_savedAt_t210 := F_thisun31il_savedAt.other W210 (Or.inr (slot_ne (Or.inl (kw13 hw)) (Or.inl (kw45 hw)) (by decide) (t := (.array .int)) (t' := .int) (by decide) (by decide)))
  have F_thisun31il_longValues_t210 := F_thisun31il_longValues.other W210 (Or.inr (slot_ne (Or.inl (kw16 hw)) (Or.inl (kw45 hw)) (by decide) (t := (.array .long)) (t' := .int) (by decide) (by decide)))
  have F_thisun31il_longSavedAt_t210 := F_thisun31il_longSavedAt.other W210 (Or.inr (slot_ne (Or.inl (kw18 hw)) (Or.inl (kw45 hw)) (by decide) (t := (.array .int)) (t' := .int) (by decide) (by decide)))
  have F_thisun31il_savedCells_t210 := F_thisun31il_savedCells.other W210 (Or.inr (slot_ne (Or.inl (kw20 hw)) (Or.inl (kw45 hw)) (by decide) (t := (.array .int)) (t' := .int) (by decide) (by decide)))
  have F_thisun31il_savedValues_t210 := F_thisun31il_savedValues.other W210 (Or.inr (slot_ne (Or.inl (kw22 hw)) (Or.inl (kw45 hw)) (by decide) (t := (.array .long)) (t' := .int) (by decide) (by decide)))
  have F_thisun31il_cellCount_t210 := F_thisun31il_cellCount.other W210 (Or.inr (slot_ne (Or.inl (kw31 hw)) (Or.inl (kw45 hw)) (by decide) (t := .int) (t' := .int) (by decide) (by decide)))
  have F_thisun31il_longCellCount_t210 := F_thisun31il_longCellCount.other W210 (Or.inr (slot_ne (Or.inl (kw38 hw)) (Or.inl (kw45 hw)) (by decide) (t := .int) (t' := .int) (by decide) (by decide)))
  have F_thisun31il_epoch_t210 := F_thisun31il_epoch.other W210 (Or.inr (slot_ne (Or.inl (kw24 hw)) (Or.inl (kw45 hw)) (by decide) (t := .int) (t' := .int) (by decide) (by decide)))
  have V_values_un31il_t210 := V_values_un31il.other W210 ne_values_un31il_thisun31il
  have V_longValues_un31il_t210 := V_longValues_un31il.other W210 ne_longValues_un31il_thisun31il
  have V_savedCells_un31il_t210 := V_savedCells_un31il.other W210 ne_savedCells_un31il_thisun31il
  have V_savedValues_un31il_t210 := V_savedValues_un31il.other W210 ne_savedValues_un31il_thisun31il
  have F_thisun31il_savedCount_t210 : Fld Z h210 thisun31il "com/example/tauten/tauten/Trail" "savedCount" "I" (.int (2 : Int32)) := F_thisun31il_savedCount.same W210
  show Wq _ _ _ _ _ (T210.setTop (mkF m 18 #[.val (.ref thisun31il), .val (.int (1 : Int32)), .unset] []))
  refine Ow.aloadN X210 hx (pc' := 19) (hb hby d_prog_71_method_9_18) rfl rfl ?_
  obtain ⟨T211, X211, e211, st211⟩ := getF X210 hx hZ hown (host := "") (Or.inl (kw19 hw)) Via.refl e210 F_thisun31il_savedCells_t210 (g := (mkF m 19 #[.val (.ref thisun31il), .val (.int (1 : Int32)), .unset] [(.ref thisun31il)])) rfl rfl (hb hby d_prog_71_method_9_19)
  refine Wq.step st211 ?_
  show Wq _ _ _ _ _ (T211.setTop (mkF m 22 #[.val (.ref thisun31il), .val (.int (1 : Int32)), .unset] [(.ref savedCells_un31il)]))
  refine Ow.aloadN X211 hx (pc' := 23) (hb hby d_prog_71_method_9_22) rfl rfl ?_
  obtain ⟨T212, X212, e212, st212⟩ := getF X211 hx hZ hown (host := "") (Or.inl (kw44 hw)) Via.refl e211 F_thisun31il_savedCount_t210 (g := (mkF m 23 #[.val (.ref thisun31il), .val (.int (1 : Int32)), .unset] [(.ref thisun31il), (.ref savedCells_un31il)])) rfl rfl (hb hby d_prog_71_method_9_23)
  refine Wq.step st212 ?_
  show Wq _ _ _ _ _ (T212.setTop (mkF m 26 #[.val (.ref thisun31il), .val (.int (1 : Int32)), .unset] [(.int (2 : Int32)), (.ref savedCells_un31il)]))
  refine Ow.ldI X212 hx hZ e212 V_savedCells_un31il_t210 (pc' := 27) (hb hby d_prog_71_method_9_26) (j := (2 : Int32)) (i := 2) (v := (.int (-1 : Int32))) (by decide) rfl rfl ?_
  refine Ow.istoreN X212 hx (pc' := 28) (hb hby d_prog_71_method_9_27) (l' := #[.val (.ref thisun31il), .val (.int (1 : Int32)), .val (.int (-1 : Int32))]) rfl ?_
  refine Ow.iloadN X212 hx (pc' := 29) (hb hby d_prog_71_method_9_28) rfl ?_
  refine Ow.ifYes X212 hx (pc' := 51) (hb hby d_prog_71_method_9_29) ((if0 _ _).trans (tlt (by decide : (-1 : Int32) < (0 : Int32))).1) (by decide) (by decide) ?_
  refine Ow.aloadN X212 hx (pc' := 52) (hb hby d_prog_71_method_9_51) rfl rfl ?_
  obtain ⟨T213, X213, e213, st213⟩ := getF X212 hx hZ hown (host := "") (Or.inl (kw15 hw)) Via.refl e212 F_thisun31il_longValues_t210 (g := (mkF m 52 #[.val (.ref thisun31il), .val (.int (1 : Int32)), .val (.int (-1 : Int32))] [(.ref thisun31il)])) rfl rfl (hb hby d_prog_71_method_9_52)
  refine Wq.step st213 ?_
  show Wq _ _ _ _ _ (T213.setTop (mkF m 55 #[.val (.ref thisun31il), .val (.int (1 : Int32)), .val (.int (-1 : Int32))] [(.ref longValues_un31il)]))
  refine Ow.iloadN X213 hx (pc' := 56) (hb hby d_prog_71_method_9_55) rfl ?_
  refine Ow.iconst X213 hx (pc' := 57) (hb hby d_prog_71_method_9_56) (z := (-1 : Int32)) rfl ?_
  refine Ow.ixor X213 hx (pc' := 58) (hb hby d_prog_71_method_9_57) (z := (0 : Int32)) rfl ?_
  refine Ow.aloadN X213 hx (pc' := 59) (hb hby d_prog_71_method_9_58) rfl rfl ?_
  obtain ⟨T214, X214, e214, st214⟩ := getF X213 hx hZ hown (host := "") (Or.inl (kw21 hw)) Via.refl e213 F_thisun31il_savedValues_t210 (g := (mkF m 59 #[.val (.ref thisun31il), .val (.int (1 : Int32)), .val (.int (-1 : Int32))] [(.ref thisun31il), (.int (0 : Int32)), (.ref longValues_un31il)])) rfl rfl (hb hby d_prog_71_method_9_59)
  refine Wq.step st214 ?_
  show Wq _ _ _ _ _ (T214.setTop (mkF m 62 #[.val (.ref thisun31il), .val (.int (1 : Int32)), .val (.int (-1 : Int32))] [(.ref savedValues_un31il), (.int (0 : Int32)), (.ref longValues_un31il)]))
  refine Ow.aloadN X214 hx (pc' := 63) (hb hby d_prog_71_method_9_62) rfl rfl ?_
  obtain ⟨T215, X215, e215, st215⟩ := getF X214 hx hZ hown (host := "") (Or.inl (kw44 hw)) Via.refl e214 F_thisun31il_savedCount_t210 (g := (mkF m 63 #[.val (.ref thisun31il), .val (.int (1 : Int32)), .val (.int (-1 : Int32))] [(.ref thisun31il), (.ref savedValues_un31il), (.int (0 : Int32)), (.ref longValues_un31il)])) rfl rfl (hb hby d_prog_71_method_9_63)
  refine Wq.step st215 ?_
  show Wq _ _ _ _ _ (T215.setTop (mkF m 66 #[.val (.ref thisun31il), .val (.int (1 : Int32)), .val (.int (-1 : Int32))] [(.int (2 : Int32)), (.ref savedValues_un31il), (.int (0 : Int32)), (.ref longValues_un31il)]))
  refine Ow.ldJ X215 hx hZ e215 V_savedValues_un31il_t210 (pc' := 67) (hb hby d_prog_71_method_9_66) (j := (2 : Int32)) (i := 2) (v := (.long se2_un31il)) (by decide) rfl rfl ?_
  obtain ⟨T216, h216, X216, e216, W216, Vr216, st216⟩ := asJ X215 hx hZ e215 V_longValues_un31il_t210 (j := (0 : Int32)) (i := 0) (by decide) rfl (by simp only [List.length_cons]; omega) (g := (mkF m 67 #[.val (.ref thisun31il), .val (.int (1 : Int32)), .val (.int (-1 : Int32))] [(.long se2_un31il), (.int (0 : Int32)), (.ref longValues_un31il)])) rfl rfl (hb hby d_prog_71_method_9_67)
  refine Wq.step st216 ?_
  have N216 := Fr.snoc X216 N210 g_longValues_un31il
  have K216 : Keep h0 h216 [thisun31il, longValues_un31il, values_un31il] := K210.wr W216 (Or.inl (List.mem_of_getElem? (i := 1) rfl))
  have Z216 : n0 ≤ h216.size := Nat.le_trans Z210 (Keep.of_wr W216).1
  have E_thisun31il_t216 := E_thisun31il_t210.wr W216
  have F_thisun31il_values_t216 := F_thisun31il_values_t210.other W216 (Or.inl (Ne.symm ne_longValues_un31il_thisun31il))
  have F_thisun31il_savedAt_t216 := F_thisun31il_savedAt_t210.other W216 (Or.inl (Ne.symm ne_longValues_un31il_thisun31il))
  have F_thisun31il_longValues_t216 := F_thisun31il_longValues_t210.other W216 (Or.inl (Ne.symm ne_longValues_un31il_thisun31il))
  have F_thisun31il_longSavedAt_t216 := F_thisun31il_longSavedAt_t210.other W216 (Or.inl (Ne.symm ne_longValues_un31il_thisun31il))
  have F_thisun31il_savedCells_t216 := F_thisun31il_savedCells_t210.other W216 (Or.inl (Ne.symm ne_longValues_un31il_thisun31il))
  have F_thisun31il_savedValues_t216 := F_thisun31il_savedValues_t210.other W216 (Or.inl (Ne.symm ne_longValues_un31il_thisun31il))
  have F_thisun31il_cellCount_t216 := F_thisun31il_cellCount_t210.other W216 (Or.inl (Ne.symm ne_longValues_un31il_thisun31il))
  have F_thisun31il_longCellCount_t216 := F_thisun31il_longCellCount_t210.other W216 (Or.inl (Ne.symm ne_longValues_un31il_thisun31il))
  have F_thisun31il_epoch_t216 := F_thisun31il_epoch_t210.other W216 (Or.inl (Ne.symm ne_longValues_un31il_thisun31il))
  have V_values_un31il_t216 := V_values_un31il_t210.other W216 ne_values_un31il_longValues_un31il
  have V_savedCells_un31il_t216 := V_savedCells_un31il_t210.other W216 (Ne.symm ne_longValues_un31il_savedCells_un31il)
  have V_savedValues_un31il_t216 := V_savedValues_un31il_t210.other W216 (Ne.symm ne_longValues_un31il_savedValues_un31il)
  have F_thisun31il_savedCount_t216 := F_thisun31il_savedCount_t210.other W216 (Or.inl (Ne.symm ne_longValues_un31il_thisun31il))
  have V_longValues_un31il_t216 : Al Z h216 longValues_un31il .long ((.long se2_un31il) :: rlongValues_un31il) := Vr216
  show Wq _ _ _ _ _ (T216.setTop (mkF m 68 #[.val (.ref thisun31il), .val (.int (1 : Int32)), .val (.int (-1 : Int32))] []))
  refine Ow.goto X216 hx (pc' := 0) (hb hby d_prog_71_method_9_68) (by decide) (by decide) ?_
  refine Ow.aloadN X216 hx (pc' := 1) (hb hby d_prog_71_method_9_0) rfl rfl ?_
  obtain ⟨T217, X217, e217, st217⟩ := getF X216 hx hZ hown (host := "") (Or.inl (kw44 hw)) Via.refl e216 F_thisun31il_savedCount_t216 (g := (mkF m 1 #[.val (.ref thisun31il), .val (.int (1 : Int32)), .val (.int (-1 : Int32))] [(.ref thisun31il)])) rfl rfl (hb hby d_prog_71_method_9_1)
  refine Wq.step st217 ?_
  show Wq _ _ _ _ _ (T217.setTop (mkF m 4 #[.val (.ref thisun31il), .val (.int (1 : Int32)), .val (.int (-1 : Int32))] [(.int (2 : Int32))]))
  refine Ow.iloadN X217 hx (pc' := 5) (hb hby d_prog_71_method_9_4) rfl ?_
  refine Ow.icmpNo X217 hx (pc' := 8) (hb hby d_prog_71_method_9_5) (tlt (by decide : (1 : Int32) < (2 : Int32))).2.2.2 ?_
  refine Ow.aloadN X217 hx (pc' := 9) (hb hby d_prog_71_method_9_8) rfl rfl ?_
  refine Ow.dup X217 hx (pc' := 10) (hb hby d_prog_71_method_9_9) rfl ?_
  obtain ⟨T218, X218, e218, st218⟩ := getF X217 hx hZ hown (host := "") (Or.inl (kw44 hw)) Via.refl e217 F_thisun31il_savedCount_t216 (g := (mkF m 10 #[.val (.ref thisun31il), .val (.int (1 : Int32)), .val (.int (-1 : Int32))] [(.ref thisun31il), (.ref thisun31il)])) rfl rfl (hb hby d_prog_71_method_9_10)
  refine Wq.step st218 ?_
  show Wq _ _ _ _ _ (T218.setTop (mkF m 13 #[.val (.ref thisun31il), .val (.int (1 : Int32)), .val (.int (-1 : Int32))] [(.int (2 : Int32)), (.ref thisun31il)]))
  refine Ow.iconst X218 hx (pc' := 14) (hb hby d_prog_71_method_9_13) (z := (1 : Int32)) rfl ?_
  refine Ow.isub X218 hx (pc' := 15) (hb hby d_prog_71_method_9_14) (z := (1 : Int32)) rfl ?_
  obtain ⟨T219, h219, X219, e219, W219, st219⟩ := putF X218 hx hZ hown (host := "") (Or.inl (kw44 hw)) Via.refl e218 F_thisun31il_savedCount_t216 E_thisun31il_t216 (Or.inl (kw45 hw)) (kw1 hw) (ty := .int) (by decide) (rfl) (rfl) (g := (mkF m 15 #[.val (.ref thisun31il), .val (.int (1 : Int32)), .val (.int (-1 : Int32))] [(.int (1 : Int32)), (.ref thisun31il)])) rfl rfl (hb hby d_prog_71_method_9_15)
  refine Wq.step st219 ?_
  have N219 := Fr.snoc X219 N216 g_thisun31il
  have K219 : Keep h0 h219 [thisun31il, longValues_un31il, values_un31il] := K216.wr W219 (Or.inl (List.mem_of_getElem? (i := 0) rfl))
  have Z219 : n0 ≤ h219.size := Nat.le_trans Z216 (Keep.of_wr W219).1
  have E_thisun31il_t219 := E_thisun31il_t216.wr W219
  have F_thisun31il_values_t219 := F_thisun31il_values_t216.other W219 (Or.inr (slot_ne (Or.inl (kw11 hw)) (Or.inl (kw45 hw)) (by decide) (t := (.array .int)) (t' := .int) (by decide) (by decide)))
  have F_thisun31il_savedAt_t219 := F_thisun31il_savedAt_t216.other W219 (Or.inr (slot_ne (Or.inl (kw13 hw)) (Or.inl (kw45 hw)) (by decide) (t := (.array .int)) (t' := .int) (by decide) (by decide)))
  have F_thisun31il_longValues_t219 := F_thisun31il_longValues_t216.other W219 (Or.inr (slot_ne (Or.inl (kw16 hw)) (Or.inl (kw45 hw)) (by decide) (t := (.array .long)) (t' := .int) (by decide) (by decide)))
  have F_thisun31il_longSavedAt_t219 := F_thisun31il_longSavedAt_t216.other W219 (Or.inr (slot_ne (Or.inl (kw18 hw)) (Or.inl (kw45 hw)) (by decide) (t := (.array .int)) (t' := .int) (by decide) (by decide)))
  have F_thisun31il_savedCells_t219 := F_thisun31il_savedCells_t216.other W219 (Or.inr (slot_ne (Or.inl (kw20 hw)) (Or.inl (kw45 hw)) (by decide) (t := (.array .int)) (t' := .int) (by decide) (by decide)))
  have F_thisun31il_savedValues_t219 := F_thisun31il_savedValues_t216.other W219 (Or.inr (slot_ne (Or.inl (kw22 hw)) (Or.inl (kw45 hw)) (by decide) (t := (.array .long)) (t' := .int) (by decide) (by decide)))
  have F_thisun31il_cellCount_t219 := F_thisun31il_cellCount_t216.other W219 (Or.inr (slot_ne (Or.inl (kw31 hw)) (Or.inl (kw45 hw)) (by decide) (t := .int) (t' := .int) (by decide) (by decide)))
  have F_thisun31il_longCellCount_t219 := F_thisun31il_longCellCount_t216.other W219 (Or.inr (slot_ne (Or.inl (kw38 hw)) (Or.inl (kw45 hw)) (by decide) (t := .int) (t' := .int) (by decide) (by decide)))
  have F_thisun31il_epoch_t219 := F_thisun31il_epoch_t216.other W219 (Or.inr (slot_ne (Or.inl (kw24 hw)) (Or.inl (kw45 hw)) (by decide) (t := .int) (t' := .int) (by decide) (by decide)))
  have V_values_un31il_t219 := V_values_un31il_t216.other W219 ne_values_un31il_thisun31il
  have V_savedCells_un31il_t219 := V_savedCells_un31il_t216.other W219 ne_savedCells_un31il_thisun31il
  have V_savedValues_un31il_t219 := V_savedValues_un31il_t216.other W219 ne_savedValues_un31il_thisun31il
  have V_longValues_un31il_t219 := V_longValues_un31il_t216.other W219 ne_longValues_un31il_thisun31il
  have F_thisun31il_savedCount_t219 : Fld Z h219 thisun31il "com/example/tauten/tauten/Trail" "savedCount" "I" (.int (1 : Int32)) := F_thisun31il_savedCount_t216.same W219
  show Wq _ _ _ _ _ (T219.setTop (mkF m 18 #[.val (.ref thisun31il), .val (.int (1 : Int32)), .val (.int (-1 : Int32))] []))
  refine Ow.aloadN X219 hx (pc' := 19) (hb hby d_prog_71_method_9_18) rfl rfl ?_
  obtain ⟨T220, X220, e220, st220⟩ := getF X219 hx hZ hown (host := "") (Or.inl (kw19 hw)) Via.refl e219 F_thisun31il_savedCells_t219 (g := (mkF m 19 #[.val (.ref thisun31il), .val (.int (1 : Int32)), .val (.int (-1 : Int32))] [(.ref thisun31il)])) rfl rfl (hb hby d_prog_71_method_9_19)
  refine Wq.step st220 ?_
  show Wq _ _ _ _ _ (T220.setTop (mkF m 22 #[.val (.ref thisun31il), .val (.int (1 : Int32)), .val (.int (-1 : Int32))] [(.ref savedCells_un31il)]))
  refine Ow.aloadN X220 hx (pc' := 23) (hb hby d_prog_71_method_9_22) rfl rfl ?_
  obtain ⟨T221, X221, e221, st221⟩ := getF X220 hx hZ hown (host := "") (Or.inl (kw44 hw)) Via.refl e220 F_thisun31il_savedCount_t219 (g := (mkF m 23 #[.val (.ref thisun31il), .val (.int (1 : Int32)), .val (.int (-1 : Int32))] [(.ref thisun31il), (.ref savedCells_un31il)])) rfl rfl (hb hby d_prog_71_method_9_23)
  refine Wq.step st221 ?_
  show Wq _ _ _ _ _ (T221.setTop (mkF m 26 #[.val (.ref thisun31il), .val (.int (1 : Int32)), .val (.int (-1 : Int32))] [(.int (1 : Int32)), (.ref savedCells_un31il)]))
  refine Ow.ldI X221 hx hZ e221 V_savedCells_un31il_t219 (pc' := 27) (hb hby d_prog_71_method_9_26) (j := (1 : Int32)) (i := 1) (v := (.int (0 : Int32))) (by decide) rfl rfl ?_
  refine Ow.istoreN X221 hx (pc' := 28) (hb hby d_prog_71_method_9_27) (l' := #[.val (.ref thisun31il), .val (.int (1 : Int32)), .val (.int (0 : Int32))]) rfl ?_
  refine Ow.iloadN X221 hx (pc' := 29) (hb hby d_prog_71_method_9_28) rfl ?_
  refine Ow.ifNo X221 hx (pc' := 32) (hb hby d_prog_71_method_9_29) ((if0 _ _).trans (flt (by decide : ¬ ((0 : Int32) < (0 : Int32)))).1) ?_
  refine Ow.aloadN X221 hx (pc' := 33) (hb hby d_prog_71_method_9_32) rfl rfl ?_
  obtain ⟨T222, X222, e222, st222⟩ := getF X221 hx hZ hown (host := "") (Or.inl (kw10 hw)) Via.refl e221 F_thisun31il_values_t219 (g := (mkF m 33 #[.val (.ref thisun31il), .val (.int (1 : Int32)), .val (.int (0 : Int32))] [(.ref thisun31il)])) rfl rfl (hb hby d_prog_71_method_9_33)
  refine Wq.step st222 ?_
  show Wq _ _ _ _ _ (T222.setTop (mkF m 36 #[.val (.ref thisun31il), .val (.int (1 : Int32)), .val (.int (0 : Int32))] [(.ref values_un31il)]))
  refine Ow.iloadN X222 hx (pc' := 37) (hb hby d_prog_71_method_9_36) rfl ?_
  refine Ow.aloadN X222 hx (pc' := 38) (hb hby d_prog_71_method_9_37) rfl rfl ?_
  obtain ⟨T223, X223, e223, st223⟩ := getF X222 hx hZ hown (host := "") (Or.inl (kw21 hw)) Via.refl e222 F_thisun31il_savedValues_t219 (g := (mkF m 38 #[.val (.ref thisun31il), .val (.int (1 : Int32)), .val (.int (0 : Int32))] [(.ref thisun31il), (.int (0 : Int32)), (.ref values_un31il)])) rfl rfl (hb hby d_prog_71_method_9_38)
  refine Wq.step st223 ?_
  show Wq _ _ _ _ _ (T223.setTop (mkF m 41 #[.val (.ref thisun31il), .val (.int (1 : Int32)), .val (.int (0 : Int32))] [(.ref savedValues_un31il), (.int (0 : Int32)), (.ref values_un31il)]))
  refine Ow.aloadN X223 hx (pc' := 42) (hb hby d_prog_71_method_9_41) rfl rfl ?_
  obtain ⟨T224, X224, e224, st224⟩ := getF X223 hx hZ hown (host := "") (Or.inl (kw44 hw)) Via.refl e223 F_thisun31il_savedCount_t219 (g := (mkF m 42 #[.val (.ref thisun31il), .val (.int (1 : Int32)), .val (.int (0 : Int32))] [(.ref thisun31il), (.ref savedValues_un31il), (.int (0 : Int32)), (.ref values_un31il)])) rfl rfl (hb hby d_prog_71_method_9_42)
  refine Wq.step st224 ?_
  show Wq _ _ _ _ _ (T224.setTop (mkF m 45 #[.val (.ref thisun31il), .val (.int (1 : Int32)), .val (.int (0 : Int32))] [(.int (1 : Int32)), (.ref savedValues_un31il), (.int (0 : Int32)), (.ref values_un31il)]))
  refine Ow.ldJ X224 hx hZ e224 V_savedValues_un31il_t219 (pc' := 46) (hb hby d_prog_71_method_9_45) (j := (1 : Int32)) (i := 1) (v := (.long se1_un31il)) (by decide) rfl rfl ?_
  refine Ow.l2i X224 hx (pc' := 47) (hb hby d_prog_71_method_9_46) (z := (se1_un31il.toInt32)) rfl ?_
  obtain ⟨T225, h225, X225, e225, W225, Vr225, st225⟩ := asI X224 hx hZ e224 V_values_un31il_t219 (j := (0 : Int32)) (i := 0) (by decide) rfl (by simp only [List.length_cons]; omega) (g := (mkF m 47 #[.val (.ref thisun31il), .val (.int (1 : Int32)), .val (.int (0 : Int32))] [(.int (se1_un31il.toInt32)), (.int (0 : Int32)), (.ref values_un31il)])) rfl rfl (hb hby d_prog_71_method_9_47)
  refine Wq.step st225 ?_
  have N225 := Fr.snoc X225 N219 g_values_un31il
  have K225 : Keep h0 h225 [thisun31il, longValues_un31il, values_un31il] := K219.wr W225 (Or.inl (List.mem_of_getElem? (i := 2) rfl))
  have Z225 : n0 ≤ h225.size := Nat.le_trans Z219 (Keep.of_wr W225).1
  have E_thisun31il_t225 := E_thisun31il_t219.wr W225
  have F_thisun31il_values_t225 := F_thisun31il_values_t219.other W225 (Or.inl (Ne.symm ne_values_un31il_thisun31il))
  have F_thisun31il_savedAt_t225 := F_thisun31il_savedAt_t219.other W225 (Or.inl (Ne.symm ne_values_un31il_thisun31il))
  have F_thisun31il_longValues_t225 := F_thisun31il_longValues_t219.other W225 (Or.inl (Ne.symm ne_values_un31il_thisun31il))
  have F_thisun31il_longSavedAt_t225 := F_thisun31il_longSavedAt_t219.other W225 (Or.inl (Ne.symm ne_values_un31il_thisun31il))
  have F_thisun31il_savedCells_t225 := F_thisun31il_savedCells_t219.other W225 (Or.inl (Ne.symm ne_values_un31il_thisun31il))
  have F_thisun31il_savedValues_t225 := F_thisun31il_savedValues_t219.other W225 (Or.inl (Ne.symm ne_values_un31il_thisun31il))
  have F_thisun31il_cellCount_t225 := F_thisun31il_cellCount_t219.other W225 (Or.inl (Ne.symm ne_values_un31il_thisun31il))
  have F_thisun31il_longCellCount_t225 := F_thisun31il_longCellCount_t219.other W225 (Or.inl (Ne.symm ne_values_un31il_thisun31il))
  have F_thisun31il_epoch_t225 := F_thisun31il_epoch_t219.other W225 (Or.inl (Ne.symm ne_values_un31il_thisun31il))
  have V_savedCells_un31il_t225 := V_savedCells_un31il_t219.other W225 (Ne.symm ne_values_un31il_savedCells_un31il)
  have V_savedValues_un31il_t225 := V_savedValues_un31il_t219.other W225 (Ne.symm ne_values_un31il_savedValues_un31il)
  have V_longValues_un31il_t225 := V_longValues_un31il_t219.other W225 (Ne.symm ne_values_un31il_longValues_un31il)
  have F_thisun31il_savedCount_t225 := F_thisun31il_savedCount_t219.other W225 (Or.inl (Ne.symm ne_values_un31il_thisun31il))
  have V_values_un31il_t225 : Al Z h225 values_un31il .int ((.int (se1_un31il.toInt32)) :: rvalues_un31il) := Vr225
  show Wq _ _ _ _ _ (T225.setTop (mkF m 48 #[.val (.ref thisun31il), .val (.int (1 : Int32)), .val (.int (0 : Int32))] []))
  refine Ow.goto X225 hx (pc' := 68) (hb hby d_prog_71_method_9_48) (by decide) (by decide) ?_
  refine Ow.goto X225 hx (pc' := 0) (hb hby d_prog_71_method_9_68) (by decide) (by decide) ?_
  refine Ow.aloadN X225 hx (pc' := 1) (hb hby d_prog_71_method_9_0) rfl rfl ?_
  obtain ⟨T226, X226, e226, st226⟩ := getF X225 hx hZ hown (host := "") (Or.inl (kw44 hw)) Via.refl e225 F_thisun31il_savedCount_t225 (g := (mkF m 1 #[.val (.ref thisun31il), .val (.int (1 : Int32)), .val (.int (0 : Int32))] [(.ref thisun31il)])) rfl rfl (hb hby d_prog_71_method_9_1)
  refine Wq.step st226 ?_
  show Wq _ _ _ _ _ (T226.setTop (mkF m 4 #[.val (.ref thisun31il), .val (.int (1 : Int32)), .val (.int (0 : Int32))] [(.int (1 : Int32))]))
  refine Ow.iloadN X226 hx (pc' := 5) (hb hby d_prog_71_method_9_4) rfl ?_
  refine Ow.icmpYes X226 hx (pc' := 71) (hb hby d_prog_71_method_9_5) (flt (by decide : ¬ ((1 : Int32) < (1 : Int32)))).2.2.2 (by decide) (by decide) ?_
  refine Ow.aloadN X226 hx (pc' := 72) (hb hby d_prog_71_method_9_71) rfl rfl ?_
  refine Ow.dup X226 hx (pc' := 73) (hb hby d_prog_71_method_9_72) rfl ?_
  obtain ⟨T227, X227, e227, st227⟩ := getF X226 hx hZ hown (host := "") (Or.inl (kw23 hw)) Via.refl e226 F_thisun31il_epoch_t225 (g := (mkF m 73 #[.val (.ref thisun31il), .val (.int (1 : Int32)), .val (.int (0 : Int32))] [(.ref thisun31il), (.ref thisun31il)])) rfl rfl (hb hby d_prog_71_method_9_73)
  refine Wq.step st227 ?_
  show Wq _ _ _ _ _ (T227.setTop (mkF m 76 #[.val (.ref thisun31il), .val (.int (1 : Int32)), .val (.int (0 : Int32))] [(.int epoch_un31il), (.ref thisun31il)]))
  refine Ow.iconst X227 hx (pc' := 77) (hb hby d_prog_71_method_9_76) (z := (1 : Int32)) rfl ?_
  refine Ow.iadd X227 hx (pc' := 78) (hb hby d_prog_71_method_9_77) (z := (epoch_un31il + (1 : Int32))) rfl ?_
  obtain ⟨T228, h228, X228, e228, W228, st228⟩ := putF X227 hx hZ hown (host := "") (Or.inl (kw23 hw)) Via.refl e227 F_thisun31il_epoch_t225 E_thisun31il_t225 (Or.inl (kw24 hw)) (kw1 hw) (ty := .int) (by decide) (rfl) (rfl) (g := (mkF m 78 #[.val (.ref thisun31il), .val (.int (1 : Int32)), .val (.int (0 : Int32))] [(.int (epoch_un31il + (1 : Int32))), (.ref thisun31il)])) rfl rfl (hb hby d_prog_71_method_9_78)
  refine Wq.step st228 ?_
  have N228 := Fr.snoc X228 N225 g_thisun31il
  have K228 : Keep h0 h228 [thisun31il, longValues_un31il, values_un31il] := K225.wr W228 (Or.inl (List.mem_of_getElem? (i := 0) rfl))
  have Z228 : n0 ≤ h228.size := Nat.le_trans Z225 (Keep.of_wr W228).1
  have E_thisun31il_t228 := E_thisun31il_t225.wr W228
  have F_thisun31il_values_t228 := F_thisun31il_values_t225.other W228 (Or.inr (slot_ne (Or.inl (kw11 hw)) (Or.inl (kw24 hw)) (by decide) (t := (.array .int)) (t' := .int) (by decide) (by decide)))
  have F_thisun31il_savedAt_t228 := F_thisun31il_savedAt_t225.other W228 (Or.inr (slot_ne (Or.inl (kw13 hw)) (Or.inl (kw24 hw)) (by decide) (t := (.array .int)) (t' := .int) (by decide) (by decide)))
  have F_thisun31il_longValues_t228 := F_thisun31il_longValues_t225.other W228 (Or.inr (slot_ne (Or.inl (kw16 hw)) (Or.inl (kw24 hw)) (by decide) (t := (.array .long)) (t' := .int) (by decide) (by decide)))
  have F_thisun31il_longSavedAt_t228 := F_thisun31il_longSavedAt_t225.other W228 (Or.inr (slot_ne (Or.inl (kw18 hw)) (Or.inl (kw24 hw)) (by decide) (t := (.array .int)) (t' := .int) (by decide) (by decide)))
  have F_thisun31il_savedCells_t228 := F_thisun31il_savedCells_t225.other W228 (Or.inr (slot_ne (Or.inl (kw20 hw)) (Or.inl (kw24 hw)) (by decide) (t := (.array .int)) (t' := .int) (by decide) (by decide)))
  have F_thisun31il_savedValues_t228 := F_thisun31il_savedValues_t225.other W228 (Or.inr (slot_ne (Or.inl (kw22 hw)) (Or.inl (kw24 hw)) (by decide) (t := (.array .long)) (t' := .int) (by decide) (by decide)))
  have F_thisun31il_cellCount_t228 := F_thisun31il_cellCount_t225.other W228 (Or.inr (slot_ne (Or.inl (kw31 hw)) (Or.inl (kw24 hw)) (by decide) (t := .int) (t' := .int) (by decide) (by decide)))
  have F_thisun31il_longCellCount_t228 := F_thisun31il_longCellCount_t225.other W228 (Or.inr (slot_ne (Or.inl (kw38 hw)) (Or.inl (kw24 hw)) (by decide) (t := .int) (t' := .int) (by decide) (by decide)))
  have V_savedCells_un31il_t228 := V_savedCells_un31il_t225.other W228 ne_savedCells_un31il_thisun31il
  have V_savedValues_un31il_t228 := V_savedValues_un31il_t225.other W228 ne_savedValues_un31il_thisun31il
  have V_longValues_un31il_t228 := V_longValues_un31il_t225.other W228 ne_longValues_un31il_thisun31il
  have F_thisun31il_savedCount_t228 := F_thisun31il_savedCount_t225.other W228 (Or.inr (slot_ne (Or.inl (kw45 hw)) (Or.inl (kw24 hw)) (by decide) (t := .int) (t' := .int) (by decide) (by decide)))
  have V_values_un31il_t228 := V_values_un31il_t225.other W228 ne_values_un31il_thisun31il
  have F_thisun31il_epoch_t228 : Fld Z h228 thisun31il "com/example/tauten/tauten/Trail" "epoch" "I" (.int (epoch_un31il + (1 : Int32))) := F_thisun31il_epoch_t225.same W228
  show Wq _ _ _ _ _ (T228.setTop (mkF m 81 #[.val (.ref thisun31il), .val (.int (1 : Int32)), .val (.int (0 : Int32))] []))
  exact Wq.ret X228 (BodyLoose.notSynchronized Bd) (rv := none) (fun _ => rfl) (fun _ hr => X228.returnOut hx Bd.returns (hb hby d_prog_71_method_9_81) hr) (by decide) (by decide) (by rw [e228]; exact ⟨rfl, N228, K228, E_thisun31il_t228, F_thisun31il_values_t228, F_thisun31il_savedAt_t228, F_thisun31il_longValues_t228, F_thisun31il_longSavedAt_t228, F_thisun31il_savedCells_t228, F_thisun31il_savedValues_t228, F_thisun31il_cellCount_t228, F_thisun31il_longCellCount_t228, V_longValues_un31il_t228, F_thisun31il_savedCount_t228, V_values_un31il_t228, F_thisun31il_epoch_t228⟩)
theorem ef_st2 (m : MethodId) (thisst2 : Addr) (xst2_2 : Int32) : entryFrame m #[(.ref thisst2), (.int (0 : Int32)), (.int xst2_2)] 3 = mkF m 0 #[.val (.ref thisst2), .val (.int (0 : Int32)), .val (.int xst2_2)] [] := by first | (simp [entryFrame, mkF, argsToLocals, Value.category]; done) | rfl
def Q_st2 (Z : State) (thisst2 : Addr) (xst2_2 : Int32) (values_st2 : Addr) (savedAt_st2 : Addr) (longValues_st2 : Addr) (longSavedAt_st2 : Addr) (savedCells_st2 : Addr) (savedValues_st2 : Addr) (cellCount_st2 : Int32) (longCellCount_st2 : Int32) (epoch_st2 : Int32) (ve0_st2 : Int32) (rvalues_st2 : List Value) (sA0_st2 : Int32) (rsavedAt_st2 : List Value) (sl0_st2 : Int32) (sl1_st2 : Int32) (sl2_st2 : Int32) (sl3_st2 : Int32) (rsavedCells_st2 : List Value) (se0_st2 : Int64) (se1_st2 : Int64) (se2_st2 : Int64) (se3_st2 : Int64) (rsavedValues_st2 : List Value) (h0 : Heap) (n0 : Nat) (v : Option Value) (h : Heap) (L : List Loc) : Prop := v = none ∧ Fr n0 L ∧ Keep h0 h [thisst2, savedValues_st2, savedCells_st2, savedAt_st2, values_st2] ∧ Exa Z h thisst2 "com/example/tauten/tauten/Trail" ∧ Fld Z h thisst2 "com/example/tauten/tauten/Trail" "values" "[I" (.ref values_st2) ∧ Fld Z h thisst2 "com/example/tauten/tauten/Trail" "savedAt" "[I" (.ref savedAt_st2) ∧ Fld Z h thisst2 "com/example/tauten/tauten/Trail" "longValues" "[J" (.ref longValues_st2) ∧ Fld Z h thisst2 "com/example/tauten/tauten/Trail" "longSavedAt" "[I" (.ref longSavedAt_st2) ∧ Fld Z h thisst2 "com/example/tauten/tauten/Trail" "savedCells" "[I" (.ref savedCells_st2) ∧ Fld Z h thisst2 "com/example/tauten/tauten/Trail" "savedValues" "[J" (.ref savedValues_st2) ∧ Fld Z h thisst2 "com/example/tauten/tauten/Trail" "cellCount" "I" (.int cellCount_st2) ∧ Fld Z h thisst2 "com/example/tauten/tauten/Trail" "longCellCount" "I" (.int longCellCount_st2) ∧ Fld Z h thisst2 "com/example/tauten/tauten/Trail" "epoch" "I" (.int epoch_st2) ∧ Al Z h savedCells_st2 .int ((.int sl0_st2) :: (.int sl1_st2) :: (.int (0 : Int32)) :: (.int sl3_st2) :: rsavedCells_st2) ∧ Al Z h savedValues_st2 .long ((.long se0_st2) :: (.long se1_st2) :: (.long (ve0_st2.toInt64)) :: (.long se3_st2) :: rsavedValues_st2) ∧ Fld Z h thisst2 "com/example/tauten/tauten/Trail" "savedCount" "I" (.int (3 : Int32)) ∧ Al Z h savedAt_st2 .int ((.int epoch_st2) :: rsavedAt_st2) ∧ Al Z h values_st2 .int ((.int xst2_2) :: rvalues_st2)
set_option maxRecDepth 65536 in
set_option maxHeartbeats 40000000 in
theorem rm_st2 (l : Launch) (Z : State) (a0 : Array Value) (hw : ∀ d ∈ tables_1, d.before a0 Z = true) (ws : List Jvm.Cond) (thisst2 : Addr) (xst2_2 : Int32) (values_st2 : Addr) (savedAt_st2 : Addr) (longValues_st2 : Addr) (longSavedAt_st2 : Addr) (savedCells_st2 : Addr) (savedValues_st2 : Addr) (cellCount_st2 : Int32) (longCellCount_st2 : Int32) (epoch_st2 : Int32) (ve0_st2 : Int32) (rvalues_st2 : List Value) (sA0_st2 : Int32) (rsavedAt_st2 : List Value) (sl0_st2 : Int32) (sl1_st2 : Int32) (sl2_st2 : Int32) (sl3_st2 : Int32) (rsavedCells_st2 : List Value) (se0_st2 : Int64) (se1_st2 : Int64) (se2_st2 : Int64) (se3_st2 : Int64) (rsavedValues_st2 : List Value) (h0 : Heap) (n0 : Nat) (Z0 : n0 ≤ h0.size) (hlen : rsavedCells_st2.length = 252) (E_thisst2 : Exa Z h0 thisst2 "com/example/tauten/tauten/Trail") (F_thisst2_values : Fld Z h0 thisst2 "com/example/tauten/tauten/Trail" "values" "[I" (.ref values_st2)) (F_thisst2_savedAt : Fld Z h0 thisst2 "com/example/tauten/tauten/Trail" "savedAt" "[I" (.ref savedAt_st2)) (F_thisst2_longValues : Fld Z h0 thisst2 "com/example/tauten/tauten/Trail" "longValues" "[J" (.ref longValues_st2)) (F_thisst2_longSavedAt : Fld Z h0 thisst2 "com/example/tauten/tauten/Trail" "longSavedAt" "[I" (.ref longSavedAt_st2)) (F_thisst2_savedCells : Fld Z h0 thisst2 "com/example/tauten/tauten/Trail" "savedCells" "[I" (.ref savedCells_st2)) (F_thisst2_savedValues : Fld Z h0 thisst2 "com/example/tauten/tauten/Trail" "savedValues" "[J" (.ref savedValues_st2)) (F_thisst2_cellCount : Fld Z h0 thisst2 "com/example/tauten/tauten/Trail" "cellCount" "I" (.int cellCount_st2)) (F_thisst2_longCellCount : Fld Z h0 thisst2 "com/example/tauten/tauten/Trail" "longCellCount" "I" (.int longCellCount_st2)) (F_thisst2_savedCount : Fld Z h0 thisst2 "com/example/tauten/tauten/Trail" "savedCount" "I" (.int (2 : Int32))) (F_thisst2_epoch : Fld Z h0 thisst2 "com/example/tauten/tauten/Trail" "epoch" "I" (.int epoch_st2)) (g_thisst2 : n0 ≤ thisst2) (V_values_st2 : Al Z h0 values_st2 .int ((.int ve0_st2) :: rvalues_st2)) (g_values_st2 : n0 ≤ values_st2) (ne_values_st2_thisst2 : values_st2 ≠ thisst2) (V_savedAt_st2 : Al Z h0 savedAt_st2 .int ((.int sA0_st2) :: rsavedAt_st2)) (g_savedAt_st2 : n0 ≤ savedAt_st2) (ne_savedAt_st2_thisst2 : savedAt_st2 ≠ thisst2) (V_savedCells_st2 : Al Z h0 savedCells_st2 .int ((.int sl0_st2) :: (.int sl1_st2) :: (.int sl2_st2) :: (.int sl3_st2) :: rsavedCells_st2)) (g_savedCells_st2 : n0 ≤ savedCells_st2) (ne_savedCells_st2_thisst2 : savedCells_st2 ≠ thisst2) (V_savedValues_st2 : Al Z h0 savedValues_st2 .long ((.long se0_st2) :: (.long se1_st2) :: (.long se2_st2) :: (.long se3_st2) :: rsavedValues_st2)) (g_savedValues_st2 : n0 ≤ savedValues_st2) (ne_savedValues_st2_thisst2 : savedValues_st2 ≠ thisst2) (ne_values_st2_savedAt_st2 : values_st2 ≠ savedAt_st2) (ne_values_st2_savedCells_st2 : values_st2 ≠ savedCells_st2) (ne_values_st2_savedValues_st2 : values_st2 ≠ savedValues_st2) (ne_savedAt_st2_savedCells_st2 : savedAt_st2 ≠ savedCells_st2) (ne_savedAt_st2_savedValues_st2 : savedAt_st2 ≠ savedValues_st2) (ne_savedCells_st2_savedValues_st2 : savedCells_st2 ≠ savedValues_st2) (hc10 : ¬ (sA0_st2 = epoch_st2)) :
    MetFree l mt8 (head1 (Jvm.Cond.code mt8 prog_71_method_4_code 3 none :: ws) ({ frames := 1, cells := 0, slots := 0, locals := 15 } : Room)) (fun a U => a = #[(.ref thisst2), (.int (0 : Int32)), (.int xst2_2)] ∧ Z.Warmed39 U.vm ∧ U.heap = h0) (fun _ _ _ _ _ => True) (fun _ U o U' => ∃ v L, o = .returned v ∧ (Q_st2 Z thisst2 xst2_2 values_st2 savedAt_st2 longValues_st2 longSavedAt_st2 savedCells_st2 savedValues_st2 cellCount_st2 longCellCount_st2 epoch_st2 ve0_st2 rvalues_st2 sA0_st2 rsavedAt_st2 sl0_st2 sl1_st2 sl2_st2 sl3_st2 rsavedCells_st2 se0_st2 se1_st2 se2_st2 se3_st2 rsavedValues_st2 h0 n0) v U'.heap L ∧ FrameEnd U o U' L ({ frames := 1, cells := 0, slots := 0, locals := 15 } : Room).cells ({ frames := 1, cells := 0, slots := 0, locals := 15 } : Room).slots) := by
  refine MetFree.of_bodySF (plainFor_of_name pn1) hisR ?_
  intro p e s m args below meth c s₁ Bd hml0 hP hK
  obtain ⟨rfl, hZ, hh⟩ := hP
  have hx := Bd.exec
  have hby := Bd.bytes
  have hml : c.maxLocals = 3 := hml0
  have hown : s.vm.findClass "com/example/tauten/tauten/Trail" = some m.cls := findClass_of_methodNamed Bd.named
  have hnm := (name_of_methodNamed Bd.named Bd.method).1
  have X0 : Stand p l e ({ frames := 1, cells := 0, slots := 0, locals := 15 } : Room) s m #[(.ref thisst2), (.int (0 : Int32)), (.int xst2_2)] below meth c s₁ [] 0 0 := Stand.of_body Bd
  have e0 : s₁.heap = h0 := by rw [← hh, Bd.state]; rfl
  have N0 := Fr.nil n0
  refine Wq.step (p := p) (e := e) (below := below) (En := (fun o t L => FrameEnd s o t L ({ frames := 1, cells := 0, slots := 0, locals := 15 } : Room).cells ({ frames := 1, cells := 0, slots := 0, locals := 15 } : Room).slots)) (Q := (Q_st2 Z thisst2 xst2_2 values_st2 savedAt_st2 longValues_st2 longSavedAt_st2 savedCells_st2 savedValues_st2 cellCount_st2 longCellCount_st2 epoch_st2 ve0_st2 rvalues_st2 sA0_st2 rsavedAt_st2 sl0_st2 sl1_st2 sl2_st2 sl3_st2 rsavedCells_st2 se0_st2 se1_st2 se2_st2 se3_st2 rsavedValues_st2 h0 n0)) (fun t k => castTop (ef_st2 m thisst2 xst2_2) k) ?_
  show Wq _ _ _ _ _ (s₁.setTop (mkF m 0 #[.val (.ref thisst2), .val (.int (0 : Int32)), .val (.int xst2_2)] []))
  refine Ow.aloadN X0 hx (pc' := 1) (hb hby d_prog_71_method_4_0) rfl rfl ?_
  obtain ⟨T262, X262, e262, st262⟩ := getF X0 hx hZ hown (host := "") (Or.inl (kw12 hw)) Via.refl e0 F_thisst2_savedAt (g := (mkF m 1 #[.val (.ref thisst2), .val (.int (0 : Int32)), .val (.int xst2_2)] [(.ref thisst2)])) rfl rfl (hb hby d_prog_71_method_4_1)
  refine Wq.step st262 ?_
  show Wq _ _ _ _ _ (T262.setTop (mkF m 4 #[.val (.ref thisst2), .val (.int (0 : Int32)), .val (.int xst2_2)] [(.ref savedAt_st2)]))
  refine Ow.iloadN X262 hx (pc' := 5) (hb hby d_prog_71_method_4_4) rfl ?_
  refine Ow.ldI X262 hx hZ e262 V_savedAt_st2 (pc' := 6) (hb hby d_prog_71_method_4_5) (j := (0 : Int32)) (i := 0) (v := (.int sA0_st2)) (by decide) rfl rfl ?_
  refine Ow.aloadN X262 hx (pc' := 7) (hb hby d_prog_71_method_4_6) rfl rfl ?_
  obtain ⟨T263, X263, e263, st263⟩ := getF X262 hx hZ hown (host := "") (Or.inl (kw23 hw)) Via.refl e262 F_thisst2_epoch (g := (mkF m 7 #[.val (.ref thisst2), .val (.int (0 : Int32)), .val (.int xst2_2)] [(.ref thisst2), (.int sA0_st2)])) rfl rfl (hb hby d_prog_71_method_4_7)
  refine Wq.step st263 ?_
  show Wq _ _ _ _ _ (T263.setTop (mkF m 10 #[.val (.ref thisst2), .val (.int (0 : Int32)), .val (.int xst2_2)] [(.int epoch_st2), (.int sA0_st2)]))
  refine Ow.icmpNo X263 hx (pc' := 13) (hb hby d_prog_71_method_4_10) (feq hc10).1 ?_
  refine Ow.aloadN X263 hx (pc' := 14) (hb hby d_prog_71_method_4_13) rfl rfl ?_
  refine Ow.iloadN X263 hx (pc' := 15) (hb hby d_prog_71_method_4_14) rfl ?_
  refine Ow.aloadN X263 hx (pc' := 16) (hb hby d_prog_71_method_4_15) rfl rfl ?_
  obtain ⟨T264, X264, e264, st264⟩ := getF X263 hx hZ hown (host := "") (Or.inl (kw10 hw)) Via.refl e263 F_thisst2_values (g := (mkF m 16 #[.val (.ref thisst2), .val (.int (0 : Int32)), .val (.int xst2_2)] [(.ref thisst2), (.int (0 : Int32)), (.ref thisst2)])) rfl rfl (hb hby d_prog_71_method_4_16)
  refine Wq.step st264 ?_
  show Wq _ _ _ _ _ (T264.setTop (mkF m 19 #[.val (.ref thisst2), .val (.int (0 : Int32)), .val (.int xst2_2)] [(.ref values_st2), (.int (0 : Int32)), (.ref thisst2)]))
  refine Ow.iloadN X264 hx (pc' := 20) (hb hby d_prog_71_method_4_19) rfl ?_
  refine Ow.ldI X264 hx hZ e264 V_values_st2 (pc' := 21) (hb hby d_prog_71_method_4_20) (j := (0 : Int32)) (i := 0) (v := (.int ve0_st2)) (by decide) rfl rfl ?_
  refine Ow.i2l X264 hx (pc' := 22) (hb hby d_prog_71_method_4_21) (z := (ve0_st2.toInt64)) rfl ?_
  obtain ⟨cq265, q265a, q265b⟩ := Exa.cell E_thisst2
  obtain ⟨_, _, ⟨T265, L265, k265, n265⟩, -, X265, ⟨Lc265, hQ265, l265, y265, z265⟩, st265⟩ := X264.privateBack hx (y := mt7) hown (mvT hZ (kw51 hw)) (mvT hZ (kw52 hw)) (Jvm.OwnW.selPriv (y := mt7) hZ (kw1 hw) (kw53 hw) (kw52 hw) (by decide)) (Cond.privateMethod_at (mvP hZ (kw53 hw) (args := #[]))) (mvT hZ (kw54 hw)) (by decide) (backOf (W := 0) (rm_sv2 l Z a0 hw [] thisst2 (0 : Int32) (ve0_st2.toInt64) values_st2 savedAt_st2 longValues_st2 longSavedAt_st2 savedCells_st2 savedValues_st2 cellCount_st2 longCellCount_st2 epoch_st2 sl0_st2 sl1_st2 sl2_st2 sl3_st2 rsavedCells_st2 se0_st2 se1_st2 se2_st2 se3_st2 rsavedValues_st2 h0 n0 Z0 (hlen) E_thisst2 F_thisst2_values F_thisst2_savedAt F_thisst2_longValues F_thisst2_longSavedAt F_thisst2_savedCells F_thisst2_savedValues F_thisst2_cellCount F_thisst2_longCellCount F_thisst2_savedCount F_thisst2_epoch g_thisst2 V_savedCells_st2 g_savedCells_st2 ne_savedCells_st2_thisst2 V_savedValues_st2 g_savedValues_st2 ne_savedValues_st2_thisst2 ne_savedCells_st2_savedValues_st2) hZ (kw54 hw) (kw2 hw) (by decide) (by decide)) (g := (mkF m 22 #[.val (.ref thisst2), .val (.int (0 : Int32)), .val (.int xst2_2)] [(.long (ve0_st2.toInt64)), (.int (0 : Int32)), (.ref thisst2)])) rfl (by rw [hml]; rfl) (Steps.refl _) (a := thisst2) (by rw [e264]; exact q265a) q265b (argsL := [(.int (0 : Int32)), (.long (ve0_st2.toInt64))]) (rest := []) (lenOf pd5 rfl) rfl (by show 2 * 0 + _ ≤ _; exact Nat.le_of_eq rfl) (hb hby d_prog_71_method_4_22) (fun _ _ => ⟨rfl, e264, (by decide : 0 + 0 ≤ _), (by decide : 0 + 0 ≤ _)⟩)
  dsimp only [Pt.U, Pt.locs, Pt.cells, Pt.slots] at X265 l265 y265 z265 st265 hQ265
  subst l265 y265 z265
  obtain ⟨rfl, Nq265, Kq265, P265_0, P265_1, P265_2, P265_3, P265_4, P265_5, P265_6, P265_7, P265_8, P265_9, P265_10, P265_11, P265_12⟩ := hQ265
  have N265 := Fr.app N0 Nq265
  have K265 : Keep h0 T265.heap [thisst2, savedValues_st2, savedCells_st2, savedAt_st2, values_st2] := (Keep.refl h0 [thisst2, savedValues_st2, savedCells_st2, savedAt_st2, values_st2]).trans Kq265 (allS (P := fun x => x ∈ [thisst2, savedValues_st2, savedCells_st2, savedAt_st2, values_st2] ∨ h0.size ≤ x) (Or.inl (List.mem_of_getElem? (i := 2) rfl)) (allS (P := fun x => x ∈ [thisst2, savedValues_st2, savedCells_st2, savedAt_st2, values_st2] ∨ h0.size ≤ x) (Or.inl (List.mem_of_getElem? (i := 1) rfl)) (allS (P := fun x => x ∈ [thisst2, savedValues_st2, savedCells_st2, savedAt_st2, values_st2] ∨ h0.size ≤ x) (Or.inl (List.mem_of_getElem? (i := 0) rfl)) all0)))
  have Z265 : n0 ≤ T265.heap.size := Nat.le_trans Z0 Kq265.1
  have E_thisst2_t265 := E_thisst2.keep Kq265
  have V_values_st2_t265 := V_values_st2.keep Kq265 (ninS ne_values_st2_savedCells_st2 (ninS ne_values_st2_savedValues_st2 (ninS ne_values_st2_thisst2 nin0)))
  have V_savedAt_st2_t265 := V_savedAt_st2.keep Kq265 (ninS ne_savedAt_st2_savedCells_st2 (ninS ne_savedAt_st2_savedValues_st2 (ninS ne_savedAt_st2_thisst2 nin0)))
  have e265 : T265.heap = T265.heap := rfl
  refine Wq.steps st265 ?_
  show Wq _ _ _ _ _ (T265.setTop (mkF m 25 #[.val (.ref thisst2), .val (.int (0 : Int32)), .val (.int xst2_2)] []))
  refine Ow.aloadN X265 hx (pc' := 26) (hb hby d_prog_71_method_4_25) rfl rfl ?_
  obtain ⟨T266, X266, e266, st266⟩ := getF X265 hx hZ hown (host := "") (Or.inl (kw12 hw)) Via.refl e265 P265_2 (g := (mkF m 26 #[.val (.ref thisst2), .val (.int (0 : Int32)), .val (.int xst2_2)] [(.ref thisst2)])) rfl rfl (hb hby d_prog_71_method_4_26)
  refine Wq.step st266 ?_
  show Wq _ _ _ _ _ (T266.setTop (mkF m 29 #[.val (.ref thisst2), .val (.int (0 : Int32)), .val (.int xst2_2)] [(.ref savedAt_st2)]))
  refine Ow.iloadN X266 hx (pc' := 30) (hb hby d_prog_71_method_4_29) rfl ?_
  refine Ow.aloadN X266 hx (pc' := 31) (hb hby d_prog_71_method_4_30) rfl rfl ?_
  obtain ⟨T267, X267, e267, st267⟩ := getF X266 hx hZ hown (host := "") (Or.inl (kw23 hw)) Via.refl e266 P265_9 (g := (mkF m 31 #[.val (.ref thisst2), .val (.int (0 : Int32)), .val (.int xst2_2)] [(.ref thisst2), (.int (0 : Int32)), (.ref savedAt_st2)])) rfl rfl (hb hby d_prog_71_method_4_31)
  refine Wq.step st267 ?_
  show Wq _ _ _ _ _ (T267.setTop (mkF m 34 #[.val (.ref thisst2), .val (.int (0 : Int32)), .val (.int xst2_2)] [(.int epoch_st2), (.int (0 : Int32)), (.ref savedAt_st2)]))
  obtain ⟨T268, h268, X268, e268, W268, Vr268, st268⟩ := asI X267 hx hZ e267 V_savedAt_st2_t265 (j := (0 : Int32)) (i := 0) (by decide) rfl (by simp only [List.length_cons]; omega) (g := (mkF m 34 #[.val (.ref thisst2), .val (.int (0 : Int32)), .val (.int xst2_2)] [(.int epoch_st2), (.int (0 : Int32)), (.ref savedAt_st2)])) rfl rfl (hb hby d_prog_71_method_4_34)
  refine Wq.step st268 ?_
  have N268 := Fr.snoc X268 N265 g_savedAt_st2
  have K268 : Keep h0 h268 [thisst2, savedValues_st2, savedCells_st2, savedAt_st2, values_st2] := K265.wr W268 (Or.inl (List.mem_of_getElem? (i := 3) rfl))
  have Z268 : n0 ≤ h268.size := Nat.le_trans Z265 (Keep.of_wr W268).1
  have E_thisst2_t268 := E_thisst2_t265.wr W268
  have V_values_st2_t268 := V_values_st2_t265.other W268 ne_values_st2_savedAt_st2
  have P265_1_t268 := P265_1.other W268 (Or.inl (Ne.symm ne_savedAt_st2_thisst2))
  have P265_2_t268 := P265_2.other W268 (Or.inl (Ne.symm ne_savedAt_st2_thisst2))
  have P265_3_t268 := P265_3.other W268 (Or.inl (Ne.symm ne_savedAt_st2_thisst2))
  have P265_4_t268 := P265_4.other W268 (Or.inl (Ne.symm ne_savedAt_st2_thisst2))
  have P265_5_t268 := P265_5.other W268 (Or.inl (Ne.symm ne_savedAt_st2_thisst2))
  have P265_6_t268 := P265_6.other W268 (Or.inl (Ne.symm ne_savedAt_st2_thisst2))
  have P265_7_t268 := P265_7.other W268 (Or.inl (Ne.symm ne_savedAt_st2_thisst2))
  have P265_8_t268 := P265_8.other W268 (Or.inl (Ne.symm ne_savedAt_st2_thisst2))
  have P265_9_t268 := P265_9.other W268 (Or.inl (Ne.symm ne_savedAt_st2_thisst2))
  have P265_10_t268 := P265_10.other W268 (Ne.symm ne_savedAt_st2_savedCells_st2)
  have P265_11_t268 := P265_11.other W268 (Ne.symm ne_savedAt_st2_savedValues_st2)
  have P265_12_t268 := P265_12.other W268 (Or.inl (Ne.symm ne_savedAt_st2_thisst2))
  have V_savedAt_st2_t268 : Al Z h268 savedAt_st2 .int ((.int epoch_st2) :: rsavedAt_st2) := Vr268
  show Wq _ _ _ _ _ (T268.setTop (mkF m 35 #[.val (.ref thisst2), .val (.int (0 : Int32)), .val (.int xst2_2)] []))
  refine Ow.aloadN X268 hx (pc' := 36) (hb hby d_prog_71_method_4_35) rfl rfl ?_
  obtain ⟨T269, X269, e269, st269⟩ := getF X268 hx hZ hown (host := "") (Or.inl (kw10 hw)) Via.refl e268 P265_1_t268 (g := (mkF m 36 #[.val (.ref thisst2), .val (.int (0 : Int32)), .val (.int xst2_2)] [(.ref thisst2)])) rfl rfl (hb hby d_prog_71_method_4_36)
  refine Wq.step st269 ?_
  show Wq _ _ _ _ _ (T269.setTop (mkF m 39 #[.val (.ref thisst2), .val (.int (0 : Int32)), .val (.int xst2_2)] [(.ref values_st2)]))
  refine Ow.iloadN X269 hx (pc' := 40) (hb hby d_prog_71_method_4_39) rfl ?_
  refine Ow.iloadN X269 hx (pc' := 41) (hb hby d_prog_71_method_4_40) rfl ?_
  obtain ⟨T270, h270, X270, e270, W270, Vr270, st270⟩ := asI X269 hx hZ e269 V_values_st2_t268 (j := (0 : Int32)) (i := 0) (by decide) rfl (by simp only [List.length_cons]; omega) (g := (mkF m 41 #[.val (.ref thisst2), .val (.int (0 : Int32)), .val (.int xst2_2)] [(.int xst2_2), (.int (0 : Int32)), (.ref values_st2)])) rfl rfl (hb hby d_prog_71_method_4_41)
  refine Wq.step st270 ?_
  have N270 := Fr.snoc X270 N268 g_values_st2
  have K270 : Keep h0 h270 [thisst2, savedValues_st2, savedCells_st2, savedAt_st2, values_st2] := K268.wr W270 (Or.inl (List.mem_of_getElem? (i := 4) rfl))
  have Z270 : n0 ≤ h270.size := Nat.le_trans Z268 (Keep.of_wr W270).1
  have E_thisst2_t270 := E_thisst2_t268.wr W270
  have P265_1_t270 := P265_1_t268.other W270 (Or.inl (Ne.symm ne_values_st2_thisst2))
  have P265_2_t270 := P265_2_t268.other W270 (Or.inl (Ne.symm ne_values_st2_thisst2))
  have P265_3_t270 := P265_3_t268.other W270 (Or.inl (Ne.symm ne_values_st2_thisst2))
  have P265_4_t270 := P265_4_t268.other W270 (Or.inl (Ne.symm ne_values_st2_thisst2))
  have P265_5_t270 := P265_5_t268.other W270 (Or.inl (Ne.symm ne_values_st2_thisst2))
  have P265_6_t270 := P265_6_t268.other W270 (Or.inl (Ne.symm ne_values_st2_thisst2))
  have P265_7_t270 := P265_7_t268.other W270 (Or.inl (Ne.symm ne_values_st2_thisst2))
  have P265_8_t270 := P265_8_t268.other W270 (Or.inl (Ne.symm ne_values_st2_thisst2))
  have P265_9_t270 := P265_9_t268.other W270 (Or.inl (Ne.symm ne_values_st2_thisst2))
  have P265_10_t270 := P265_10_t268.other W270 (Ne.symm ne_values_st2_savedCells_st2)
  have P265_11_t270 := P265_11_t268.other W270 (Ne.symm ne_values_st2_savedValues_st2)
  have P265_12_t270 := P265_12_t268.other W270 (Or.inl (Ne.symm ne_values_st2_thisst2))
  have V_savedAt_st2_t270 := V_savedAt_st2_t268.other W270 (Ne.symm ne_values_st2_savedAt_st2)
  have V_values_st2_t270 : Al Z h270 values_st2 .int ((.int xst2_2) :: rvalues_st2) := Vr270
  show Wq _ _ _ _ _ (T270.setTop (mkF m 42 #[.val (.ref thisst2), .val (.int (0 : Int32)), .val (.int xst2_2)] []))
  exact Wq.ret X270 (BodyLoose.notSynchronized Bd) (rv := none) (fun _ => rfl) (fun _ hr => X270.returnOut hx Bd.returns (hb hby d_prog_71_method_4_42) hr) (by decide) (by decide) (by rw [e270]; exact ⟨rfl, N270, K270, E_thisst2_t270, P265_1_t270, P265_2_t270, P265_3_t270, P265_4_t270, P265_5_t270, P265_6_t270, P265_7_t270, P265_8_t270, P265_9_t270, P265_10_t270, P265_11_t270, P265_12_t270, V_savedAt_st2_t270, V_values_st2_t270⟩)
theorem ef_un32i (m : MethodId) (thisun32i : Addr) : entryFrame m #[(.ref thisun32i), (.int (2 : Int32))] 3 = mkF m 0 #[.val (.ref thisun32i), .val (.int (2 : Int32)), .unset] [] := by first | (simp [entryFrame, mkF, argsToLocals, Value.category]; done) | rfl
def Q_un32i (Z : State) (thisun32i : Addr) (values_un32i : Addr) (savedAt_un32i : Addr) (longValues_un32i : Addr) (longSavedAt_un32i : Addr) (savedCells_un32i : Addr) (savedValues_un32i : Addr) (cellCount_un32i : Int32) (longCellCount_un32i : Int32) (epoch_un32i : Int32) (ve0_un32i : Int32) (rvalues_un32i : List Value) (le0_un32i : Int64) (rlongValues_un32i : List Value) (sl0_un32i : Int32) (sl1_un32i : Int32) (sl3_un32i : Int32) (rsavedCells_un32i : List Value) (se0_un32i : Int64) (se1_un32i : Int64) (se2_un32i : Int64) (se3_un32i : Int64) (rsavedValues_un32i : List Value) (h0 : Heap) (n0 : Nat) (v : Option Value) (h : Heap) (L : List Loc) : Prop := v = none ∧ Fr n0 L ∧ Keep h0 h [thisun32i, values_un32i] ∧ Exa Z h thisun32i "com/example/tauten/tauten/Trail" ∧ Fld Z h thisun32i "com/example/tauten/tauten/Trail" "values" "[I" (.ref values_un32i) ∧ Fld Z h thisun32i "com/example/tauten/tauten/Trail" "savedAt" "[I" (.ref savedAt_un32i) ∧ Fld Z h thisun32i "com/example/tauten/tauten/Trail" "longValues" "[J" (.ref longValues_un32i) ∧ Fld Z h thisun32i "com/example/tauten/tauten/Trail" "longSavedAt" "[I" (.ref longSavedAt_un32i) ∧ Fld Z h thisun32i "com/example/tauten/tauten/Trail" "savedCells" "[I" (.ref savedCells_un32i) ∧ Fld Z h thisun32i "com/example/tauten/tauten/Trail" "savedValues" "[J" (.ref savedValues_un32i) ∧ Fld Z h thisun32i "com/example/tauten/tauten/Trail" "cellCount" "I" (.int cellCount_un32i) ∧ Fld Z h thisun32i "com/example/tauten/tauten/Trail" "longCellCount" "I" (.int longCellCount_un32i) ∧ Fld Z h thisun32i "com/example/tauten/tauten/Trail" "savedCount" "I" (.int (2 : Int32)) ∧ Al Z h values_un32i .int ((.int (se2_un32i.toInt32)) :: rvalues_un32i) ∧ Fld Z h thisun32i "com/example/tauten/tauten/Trail" "epoch" "I" (.int (epoch_un32i + (1 : Int32)))
set_option maxRecDepth 65536 in
set_option maxHeartbeats 40000000 in
theorem rm_un32i (l : Launch) (Z : State) (a0 : Array Value) (hw : ∀ d ∈ tables_1, d.before a0 Z = true) (ws : List Jvm.Cond) (thisun32i : Addr) (values_un32i : Addr) (savedAt_un32i : Addr) (longValues_un32i : Addr) (longSavedAt_un32i : Addr) (savedCells_un32i : Addr) (savedValues_un32i : Addr) (cellCount_un32i : Int32) (longCellCount_un32i : Int32) (epoch_un32i : Int32) (ve0_un32i : Int32) (rvalues_un32i : List Value) (le0_un32i : Int64) (rlongValues_un32i : List Value) (sl0_un32i : Int32) (sl1_un32i : Int32) (sl3_un32i : Int32) (rsavedCells_un32i : List Value) (se0_un32i : Int64) (se1_un32i : Int64) (se2_un32i : Int64) (se3_un32i : Int64) (rsavedValues_un32i : List Value) (h0 : Heap) (n0 : Nat) (Z0 : n0 ≤ h0.size) (E_thisun32i : Exa Z h0 thisun32i "com/example/tauten/tauten/Trail") (F_thisun32i_values : Fld Z h0 thisun32i "com/example/tauten/tauten/Trail" "values" "[I" (.ref values_un32i)) (F_thisun32i_savedAt : Fld Z h0 thisun32i "com/example/tauten/tauten/Trail" "savedAt" "[I" (.ref savedAt_un32i)) (F_thisun32i_longValues : Fld Z h0 thisun32i "com/example/tauten/tauten/Trail" "longValues" "[J" (.ref longValues_un32i)) (F_thisun32i_longSavedAt : Fld Z h0 thisun32i "com/example/tauten/tauten/Trail" "longSavedAt" "[I" (.ref longSavedAt_un32i)) (F_thisun32i_savedCells : Fld Z h0 thisun32i "com/example/tauten/tauten/Trail" "savedCells" "[I" (.ref savedCells_un32i)) (F_thisun32i_savedValues : Fld Z h0 thisun32i "com/example/tauten/tauten/Trail" "savedValues" "[J" (.ref savedValues_un32i)) (F_thisun32i_cellCount : Fld Z h0 thisun32i "com/example/tauten/tauten/Trail" "cellCount" "I" (.int cellCount_un32i)) (F_thisun32i_longCellCount : Fld Z h0 thisun32i "com/example/tauten/tauten/Trail" "longCellCount" "I" (.int longCellCount_un32i)) (F_thisun32i_savedCount : Fld Z h0 thisun32i "com/example/tauten/tauten/Trail" "savedCount" "I" (.int (3 : Int32))) (F_thisun32i_epoch : Fld Z h0 thisun32i "com/example/tauten/tauten/Trail" "epoch" "I" (.int epoch_un32i)) (g_thisun32i : n0 ≤ thisun32i) (V_values_un32i : Al Z h0 values_un32i .int ((.int ve0_un32i) :: rvalues_un32i)) (g_values_un32i : n0 ≤ values_un32i) (ne_values_un32i_thisun32i : values_un32i ≠ thisun32i) (V_longValues_un32i : Al Z h0 longValues_un32i .long ((.long le0_un32i) :: rlongValues_un32i)) (g_longValues_un32i : n0 ≤ longValues_un32i) (ne_longValues_un32i_thisun32i : longValues_un32i ≠ thisun32i) (V_savedCells_un32i : Al Z h0 savedCells_un32i .int ((.int sl0_un32i) :: (.int sl1_un32i) :: (.int (0 : Int32)) :: (.int sl3_un32i) :: rsavedCells_un32i)) (g_savedCells_un32i : n0 ≤ savedCells_un32i) (ne_savedCells_un32i_thisun32i : savedCells_un32i ≠ thisun32i) (V_savedValues_un32i : Al Z h0 savedValues_un32i .long ((.long se0_un32i) :: (.long se1_un32i) :: (.long se2_un32i) :: (.long se3_un32i) :: rsavedValues_un32i)) (g_savedValues_un32i : n0 ≤ savedValues_un32i) (ne_savedValues_un32i_thisun32i : savedValues_un32i ≠ thisun32i) (ne_values_un32i_longValues_un32i : values_un32i ≠ longValues_un32i) (ne_values_un32i_savedCells_un32i : values_un32i ≠ savedCells_un32i) (ne_values_un32i_savedValues_un32i : values_un32i ≠ savedValues_un32i) (ne_longValues_un32i_savedCells_un32i : longValues_un32i ≠ savedCells_un32i) (ne_longValues_un32i_savedValues_un32i : longValues_un32i ≠ savedValues_un32i) (ne_savedCells_un32i_savedValues_un32i : savedCells_un32i ≠ savedValues_un32i) :
    MetFree l mt9 (head1 (Jvm.Cond.code mt9 prog_71_method_9_code 3 none :: ws) ({ frames := 0, cells := 0, slots := 0, locals := 0 } : Room)) (fun a U => a = #[(.ref thisun32i), (.int (2 : Int32))] ∧ Z.Warmed39 U.vm ∧ U.heap = h0) (fun _ _ _ _ _ => True) (fun _ U o U' => ∃ v L, o = .returned v ∧ (Q_un32i Z thisun32i values_un32i savedAt_un32i longValues_un32i longSavedAt_un32i savedCells_un32i savedValues_un32i cellCount_un32i longCellCount_un32i epoch_un32i ve0_un32i rvalues_un32i le0_un32i rlongValues_un32i sl0_un32i sl1_un32i sl3_un32i rsavedCells_un32i se0_un32i se1_un32i se2_un32i se3_un32i rsavedValues_un32i h0 n0) v U'.heap L ∧ FrameEnd U o U' L ({ frames := 0, cells := 0, slots := 0, locals := 0 } : Room).cells ({ frames := 0, cells := 0, slots := 0, locals := 0 } : Room).slots) := by
  refine MetFree.of_bodySF (plainFor_of_name pn1) hisR ?_
  intro p e s m args below meth c s₁ Bd hml0 hP hK
  obtain ⟨rfl, hZ, hh⟩ := hP
  have hx := Bd.exec
  have hby := Bd.bytes
  have hml : c.maxLocals = 3 := hml0
  have hown : s.vm.findClass "com/example/tauten/tauten/Trail" = some m.cls := findClass_of_methodNamed Bd.named
  have hnm := (name_of_methodNamed Bd.named Bd.method).1
  have X0 : Stand p l e ({ frames := 0, cells := 0, slots := 0, locals := 0 } : Room) s m #[(.ref thisun32i), (.int (2 : Int32))] below meth c s₁ [] 0 0 := Stand.of_body Bd
  have e0 : s₁.heap = h0 := by rw [← hh, Bd.state]; rfl
  have N0 := Fr.nil n0
  refine Wq.step (p := p) (e := e) (below := below) (En := (fun o t L => FrameEnd s o t L ({ frames := 0, cells := 0, slots := 0, locals := 0 } : Room).cells ({ frames := 0, cells := 0, slots := 0, locals := 0 } : Room).slots)) (Q := (Q_un32i Z thisun32i values_un32i savedAt_un32i longValues_un32i longSavedAt_un32i savedCells_un32i savedValues_un32i cellCount_un32i longCellCount_un32i epoch_un32i ve0_un32i rvalues_un32i le0_un32i rlongValues_un32i sl0_un32i sl1_un32i sl3_un32i rsavedCells_un32i se0_un32i se1_un32i se2_un32i se3_un32i rsavedValues_un32i h0 n0)) (fun t k => castTop (ef_un32i m thisun32i) k) ?_
  show Wq _ _ _ _ _ (s₁.setTop (mkF m 0 #[.val (.ref thisun32i), .val (.int (2 : Int32)), .unset] []))
  refine Ow.aloadN X0 hx (pc' := 1) (hb hby d_prog_71_method_9_0) rfl rfl ?_
  obtain ⟨T272, X272, e272, st272⟩ := getF X0 hx hZ hown (host := "") (Or.inl (kw44 hw)) Via.refl e0 F_thisun32i_savedCount (g := (mkF m 1 #[.val (.ref thisun32i), .val (.int (2 : Int32)), .unset] [(.ref thisun32i)])) rfl rfl (hb hby d_prog_71_method_9_1)
  refine Wq.step st272 ?_
  show Wq _ _ _ _ _ (T272.setTop (mkF m 4 #[.val (.ref thisun32i), .val (.int (2 : Int32)), .unset] [(.int (3 : Int32))]))
  refine Ow.iloadN X272 hx (pc' := 5) (hb hby d_prog_71_method_9_4) rfl ?_
  refine Ow.icmpNo X272 hx (pc' := 8) (hb hby d_prog_71_method_9_5) (tlt (by decide : (2 : Int32) < (3 : Int32))).2.2.2 ?_
  refine Ow.aloadN X272 hx (pc' := 9) (hb hby d_prog_71_method_9_8) rfl rfl ?_
  refine Ow.dup X272 hx (pc' := 10) (hb hby d_prog_71_method_9_9) rfl ?_
  obtain ⟨T273, X273, e273, st273⟩ := getF X272 hx hZ hown (host := "") (Or.inl (kw44 hw)) Via.refl e272 F_thisun32i_savedCount (g := (mkF m 10 #[.val (.ref thisun32i), .val (.int (2 : Int32)), .unset] [(.ref thisun32i), (.ref thisun32i)])) rfl rfl (hb hby d_prog_71_method_9_10)
  refine Wq.step st273 ?_
  show Wq _ _ _ _ _ (T273.setTop (mkF m 13 #[.val (.ref thisun32i), .val (.int (2 : Int32)), .unset] [(.int (3 : Int32)), (.ref thisun32i)]))
  refine Ow.iconst X273 hx (pc' := 14) (hb hby d_prog_71_method_9_13) (z := (1 : Int32)) rfl ?_
  refine Ow.isub X273 hx (pc' := 15) (hb hby d_prog_71_method_9_14) (z := (2 : Int32)) rfl ?_
  obtain ⟨T274, h274, X274, e274, W274, st274⟩ := putF X273 hx hZ hown (host := "") (Or.inl (kw44 hw)) Via.refl e273 F_thisun32i_savedCount E_thisun32i (Or.inl (kw45 hw)) (kw1 hw) (ty := .int) (by decide) (rfl) (rfl) (g := (mkF m 15 #[.val (.ref thisun32i), .val (.int (2 : Int32)), .unset] [(.int (2 : Int32)), (.ref thisun32i)])) rfl rfl (hb hby d_prog_71_method_9_15)
  refine Wq.step st274 ?_
  have N274 := Fr.snoc X274 N0 g_thisun32i
  have K274 : Keep h0 h274 [thisun32i, values_un32i] := (Keep.refl h0 [thisun32i, values_un32i]).wr W274 (Or.inl (List.mem_of_getElem? (i := 0) rfl))
  have Z274 : n0 ≤ h274.size := Nat.le_trans Z0 (Keep.of_wr W274).1
  have E_thisun32i_t274 := E_thisun32i.wr W274
  have F_thisun32i_values_t274 := F_thisun32i_values.other W274 (Or.inr (slot_ne (Or.inl (kw11 hw)) (Or.inl (kw45 hw)) (by decide) (t := (.array .int)) (t' := .int) (by decide) (by decide)))
  have F_thisun32i_savedAt_t274 := F_thisun32i_savedAt.other W274 (Or.inr (slot_ne (Or.inl (kw13 hw)) (Or.inl (kw45 hw)) (by decide) (t := (.array .int)) (t' := .int) (by decide) (by decide)))
  have F_thisun32i_longValues_t274 := F_thisun32i_longValues.other W274 (Or.inr (slot_ne (Or.inl (kw16 hw)) (Or.inl (kw45 hw)) (by decide) (t := (.array .long)) (t' := .int) (by decide) (by decide)))
  have F_thisun32i_longSavedAt_t274 := F_thisun32i_longSavedAt.other W274 (Or.inr (slot_ne (Or.inl (kw18 hw)) (Or.inl (kw45 hw)) (by decide) (t := (.array .int)) (t' := .int) (by decide) (by decide)))
  have F_thisun32i_savedCells_t274 := F_thisun32i_savedCells.other W274 (Or.inr (slot_ne (Or.inl (kw20 hw)) (Or.inl (kw45 hw)) (by decide) (t := (.array .int)) (t' := .int) (by decide) (by decide)))
  have F_thisun32i_savedValues_t274 := F_thisun32i_savedValues.other W274 (Or.inr (slot_ne (Or.inl (kw22 hw)) (Or.inl (kw45 hw)) (by decide) (t := (.array .long)) (t' := .int) (by decide) (by decide)))
  have F_thisun32i_cellCount_t274 := F_thisun32i_cellCount.other W274 (Or.inr (slot_ne (Or.inl (kw31 hw)) (Or.inl (kw45 hw)) (by decide) (t := .int) (t' := .int) (by decide) (by decide)))
  have F_thisun32i_longCellCount_t274 := F_thisun32i_longCellCount.other W274 (Or.inr (slot_ne (Or.inl (kw38 hw)) (Or.inl (kw45 hw)) (by decide) (t := .int) (t' := .int) (by decide) (by decide)))
  have F_thisun32i_epoch_t274 := F_thisun32i_epoch.other W274 (Or.inr (slot_ne (Or.inl (kw24 hw)) (Or.inl (kw45 hw)) (by decide) (t := .int) (t' := .int) (by decide) (by decide)))
  have V_values_un32i_t274 := V_values_un32i.other W274 ne_values_un32i_thisun32i
  have V_longValues_un32i_t274 := V_longValues_un32i.other W274 ne_longValues_un32i_thisun32i
  have V_savedCells_un32i_t274 := V_savedCells_un32i.other W274 ne_savedCells_un32i_thisun32i
  have V_savedValues_un32i_t274 := V_savedValues_un32i.other W274 ne_savedValues_un32i_thisun32i
  have F_thisun32i_savedCount_t274 : Fld Z h274 thisun32i "com/example/tauten/tauten/Trail" "savedCount" "I" (.int (2 : Int32)) := F_thisun32i_savedCount.same W274
  show Wq _ _ _ _ _ (T274.setTop (mkF m 18 #[.val (.ref thisun32i), .val (.int (2 : Int32)), .unset] []))
  refine Ow.aloadN X274 hx (pc' := 19) (hb hby d_prog_71_method_9_18) rfl rfl ?_
  obtain ⟨T275, X275, e275, st275⟩ := getF X274 hx hZ hown (host := "") (Or.inl (kw19 hw)) Via.refl e274 F_thisun32i_savedCells_t274 (g := (mkF m 19 #[.val (.ref thisun32i), .val (.int (2 : Int32)), .unset] [(.ref thisun32i)])) rfl rfl (hb hby d_prog_71_method_9_19)
  refine Wq.step st275 ?_
  show Wq _ _ _ _ _ (T275.setTop (mkF m 22 #[.val (.ref thisun32i), .val (.int (2 : Int32)), .unset] [(.ref savedCells_un32i)]))
  refine Ow.aloadN X275 hx (pc' := 23) (hb hby d_prog_71_method_9_22) rfl rfl ?_
  obtain ⟨T276, X276, e276, st276⟩ := getF X275 hx hZ hown (host := "") (Or.inl (kw44 hw)) Via.refl e275 F_thisun32i_savedCount_t274 (g := (mkF m 23 #[.val (.ref thisun32i), .val (.int (2 : Int32)), .unset] [(.ref thisun32i), (.ref savedCells_un32i)])) rfl rfl (hb hby d_prog_71_method_9_23)
  refine Wq.step st276 ?_
  show Wq _ _ _ _ _ (T276.setTop (mkF m 26 #[.val (.ref thisun32i), .val (.int (2 : Int32)), .unset] [(.int (2 : Int32)), (.ref savedCells_un32i)]))
  refine Ow.ldI X276 hx hZ e276 V_savedCells_un32i_t274 (pc' := 27) (hb hby d_prog_71_method_9_26) (j := (2 : Int32)) (i := 2) (v := (.int (0 : Int32))) (by decide) rfl rfl ?_
  refine Ow.istoreN X276 hx (pc' := 28) (hb hby d_prog_71_method_9_27) (l' := #[.val (.ref thisun32i), .val (.int (2 : Int32)), .val (.int (0 : Int32))]) rfl ?_
  refine Ow.iloadN X276 hx (pc' := 29) (hb hby d_prog_71_method_9_28) rfl ?_
  refine Ow.ifNo X276 hx (pc' := 32) (hb hby d_prog_71_method_9_29) ((if0 _ _).trans (flt (by decide : ¬ ((0 : Int32) < (0 : Int32)))).1) ?_
  refine Ow.aloadN X276 hx (pc' := 33) (hb hby d_prog_71_method_9_32) rfl rfl ?_
  obtain ⟨T277, X277, e277, st277⟩ := getF X276 hx hZ hown (host := "") (Or.inl (kw10 hw)) Via.refl e276 F_thisun32i_values_t274 (g := (mkF m 33 #[.val (.ref thisun32i), .val (.int (2 : Int32)), .val (.int (0 : Int32))] [(.ref thisun32i)])) rfl rfl (hb hby d_prog_71_method_9_33)
  refine Wq.step st277 ?_
  show Wq _ _ _ _ _ (T277.setTop (mkF m 36 #[.val (.ref thisun32i), .val (.int (2 : Int32)), .val (.int (0 : Int32))] [(.ref values_un32i)]))
  refine Ow.iloadN X277 hx (pc' := 37) (hb hby d_prog_71_method_9_36) rfl ?_
  refine Ow.aloadN X277 hx (pc' := 38) (hb hby d_prog_71_method_9_37) rfl rfl ?_
  obtain ⟨T278, X278, e278, st278⟩ := getF X277 hx hZ hown (host := "") (Or.inl (kw21 hw)) Via.refl e277 F_thisun32i_savedValues_t274 (g := (mkF m 38 #[.val (.ref thisun32i), .val (.int (2 : Int32)), .val (.int (0 : Int32))] [(.ref thisun32i), (.int (0 : Int32)), (.ref values_un32i)])) rfl rfl (hb hby d_prog_71_method_9_38)
  refine Wq.step st278 ?_
  show Wq _ _ _ _ _ (T278.setTop (mkF m 41 #[.val (.ref thisun32i), .val (.int (2 : Int32)), .val (.int (0 : Int32))] [(.ref savedValues_un32i), (.int (0 : Int32)), (.ref values_un32i)]))
  refine Ow.aloadN X278 hx (pc' := 42) (hb hby d_prog_71_method_9_41) rfl rfl ?_
  obtain ⟨T279, X279, e279, st279⟩ := getF X278 hx hZ hown (host := "") (Or.inl (kw44 hw)) Via.refl e278 F_thisun32i_savedCount_t274 (g := (mkF m 42 #[.val (.ref thisun32i), .val (.int (2 : Int32)), .val (.int (0 : Int32))] [(.ref thisun32i), (.ref savedValues_un32i), (.int (0 : Int32)), (.ref values_un32i)])) rfl rfl (hb hby d_prog_71_method_9_42)
  refine Wq.step st279 ?_
  show Wq _ _ _ _ _ (T279.setTop (mkF m 45 #[.val (.ref thisun32i), .val (.int (2 : Int32)), .val (.int (0 : Int32))] [(.int (2 : Int32)), (.ref savedValues_un32i), (.int (0 : Int32)), (.ref values_un32i)]))
  refine Ow.ldJ X279 hx hZ e279 V_savedValues_un32i_t274 (pc' := 46) (hb hby d_prog_71_method_9_45) (j := (2 : Int32)) (i := 2) (v := (.long se2_un32i)) (by decide) rfl rfl ?_
  refine Ow.l2i X279 hx (pc' := 47) (hb hby d_prog_71_method_9_46) (z := (se2_un32i.toInt32)) rfl ?_
  obtain ⟨T280, h280, X280, e280, W280, Vr280, st280⟩ := asI X279 hx hZ e279 V_values_un32i_t274 (j := (0 : Int32)) (i := 0) (by decide) rfl (by simp only [List.length_cons]; omega) (g := (mkF m 47 #[.val (.ref thisun32i), .val (.int (2 : Int32)), .val (.int (0 : Int32))] [(.int (se2_un32i.toInt32)), (.int (0 : Int32)), (.ref values_un32i)])) rfl rfl (hb hby d_prog_71_method_9_47)
  refine Wq.step st280 ?_
  have N280 := Fr.snoc X280 N274 g_values_un32i
  have K280 : Keep h0 h280 [thisun32i, values_un32i] := K274.wr W280 (Or.inl (List.mem_of_getElem? (i := 1) rfl))
  have Z280 : n0 ≤ h280.size := Nat.le_trans Z274 (Keep.of_wr W280).1
  have E_thisun32i_t280 := E_thisun32i_t274.wr W280
  have F_thisun32i_values_t280 := F_thisun32i_values_t274.other W280 (Or.inl (Ne.symm ne_values_un32i_thisun32i))
  have F_thisun32i_savedAt_t280 := F_thisun32i_savedAt_t274.other W280 (Or.inl (Ne.symm ne_values_un32i_thisun32i))
  have F_thisun32i_longValues_t280 := F_thisun32i_longValues_t274.other W280 (Or.inl (Ne.symm ne_values_un32i_thisun32i))
  have F_thisun32i_longSavedAt_t280 := F_thisun32i_longSavedAt_t274.other W280 (Or.inl (Ne.symm ne_values_un32i_thisun32i))
  have F_thisun32i_savedCells_t280 := F_thisun32i_savedCells_t274.other W280 (Or.inl (Ne.symm ne_values_un32i_thisun32i))
  have F_thisun32i_savedValues_t280 := F_thisun32i_savedValues_t274.other W280 (Or.inl (Ne.symm ne_values_un32i_thisun32i))
  have F_thisun32i_cellCount_t280 := F_thisun32i_cellCount_t274.other W280 (Or.inl (Ne.symm ne_values_un32i_thisun32i))
  have F_thisun32i_longCellCount_t280 := F_thisun32i_longCellCount_t274.other W280 (Or.inl (Ne.symm ne_values_un32i_thisun32i))
  have F_thisun32i_epoch_t280 := F_thisun32i_epoch_t274.other W280 (Or.inl (Ne.symm ne_values_un32i_thisun32i))
  have V_longValues_un32i_t280 := V_longValues_un32i_t274.other W280 (Ne.symm ne_values_un32i_longValues_un32i)
  have V_savedCells_un32i_t280 := V_savedCells_un32i_t274.other W280 (Ne.symm ne_values_un32i_savedCells_un32i)
  have V_savedValues_un32i_t280 := V_savedValues_un32i_t274.other W280 (Ne.symm ne_values_un32i_savedValues_un32i)
  have F_thisun32i_savedCount_t280 := F_thisun32i_savedCount_t274.other W280 (Or.inl (Ne.symm ne_values_un32i_thisun32i))
  have V_values_un32i_t280 : Al Z h280 values_un32i .int ((.int (se2_un32i.toInt32)) :: rvalues_un32i) := Vr280
  show Wq _ _ _ _ _ (T280.setTop (mkF m 48 #[.val (.ref thisun32i), .val (.int (2 : Int32)), .val (.int (0 : Int32))] []))
  refine Ow.goto X280 hx (pc' := 68) (hb hby d_prog_71_method_9_48) (by decide) (by decide) ?_
  refine Ow.goto X280 hx (pc' := 0) (hb hby d_prog_71_method_9_68) (by decide) (by decide) ?_
  refine Ow.aloadN X280 hx (pc' := 1) (hb hby d_prog_71_method_9_0) rfl rfl ?_
  obtain ⟨T281, X281, e281, st281⟩ := getF X280 hx hZ hown (host := "") (Or.inl (kw44 hw)) Via.refl e280 F_thisun32i_savedCount_t280 (g := (mkF m 1 #[.val (.ref thisun32i), .val (.int (2 : Int32)), .val (.int (0 : Int32))] [(.ref thisun32i)])) rfl rfl (hb hby d_prog_71_method_9_1)
  refine Wq.step st281 ?_
  show Wq _ _ _ _ _ (T281.setTop (mkF m 4 #[.val (.ref thisun32i), .val (.int (2 : Int32)), .val (.int (0 : Int32))] [(.int (2 : Int32))]))
  refine Ow.iloadN X281 hx (pc' := 5) (hb hby d_prog_71_method_9_4) rfl ?_
  refine Ow.icmpYes X281 hx (pc' := 71) (hb hby d_prog_71_method_9_5) (flt (by decide : ¬ ((2 : Int32) < (2 : Int32)))).2.2.2 (by decide) (by decide) ?_
  refine Ow.aloadN X281 hx (pc' := 72) (hb hby d_prog_71_method_9_71) rfl rfl ?_
  refine Ow.dup X281 hx (pc' := 73) (hb hby d_prog_71_method_9_72) rfl ?_
  obtain ⟨T282, X282, e282, st282⟩ := getF X281 hx hZ hown (host := "") (Or.inl (kw23 hw)) Via.refl e281 F_thisun32i_epoch_t280 (g := (mkF m 73 #[.val (.ref thisun32i), .val (.int (2 : Int32)), .val (.int (0 : Int32))] [(.ref thisun32i), (.ref thisun32i)])) rfl rfl (hb hby d_prog_71_method_9_73)
  refine Wq.step st282 ?_
  show Wq _ _ _ _ _ (T282.setTop (mkF m 76 #[.val (.ref thisun32i), .val (.int (2 : Int32)), .val (.int (0 : Int32))] [(.int epoch_un32i), (.ref thisun32i)]))
  refine Ow.iconst X282 hx (pc' := 77) (hb hby d_prog_71_method_9_76) (z := (1 : Int32)) rfl ?_
  refine Ow.iadd X282 hx (pc' := 78) (hb hby d_prog_71_method_9_77) (z := (epoch_un32i + (1 : Int32))) rfl ?_
  obtain ⟨T283, h283, X283, e283, W283, st283⟩ := putF X282 hx hZ hown (host := "") (Or.inl (kw23 hw)) Via.refl e282 F_thisun32i_epoch_t280 E_thisun32i_t280 (Or.inl (kw24 hw)) (kw1 hw) (ty := .int) (by decide) (rfl) (rfl) (g := (mkF m 78 #[.val (.ref thisun32i), .val (.int (2 : Int32)), .val (.int (0 : Int32))] [(.int (epoch_un32i + (1 : Int32))), (.ref thisun32i)])) rfl rfl (hb hby d_prog_71_method_9_78)
  refine Wq.step st283 ?_
  have N283 := Fr.snoc X283 N280 g_thisun32i
  have K283 : Keep h0 h283 [thisun32i, values_un32i] := K280.wr W283 (Or.inl (List.mem_of_getElem? (i := 0) rfl))
  have Z283 : n0 ≤ h283.size := Nat.le_trans Z280 (Keep.of_wr W283).1
  have E_thisun32i_t283 := E_thisun32i_t280.wr W283
  have F_thisun32i_values_t283 := F_thisun32i_values_t280.other W283 (Or.inr (slot_ne (Or.inl (kw11 hw)) (Or.inl (kw24 hw)) (by decide) (t := (.array .int)) (t' := .int) (by decide) (by decide)))
  have F_thisun32i_savedAt_t283 := F_thisun32i_savedAt_t280.other W283 (Or.inr (slot_ne (Or.inl (kw13 hw)) (Or.inl (kw24 hw)) (by decide) (t := (.array .int)) (t' := .int) (by decide) (by decide)))
  have F_thisun32i_longValues_t283 := F_thisun32i_longValues_t280.other W283 (Or.inr (slot_ne (Or.inl (kw16 hw)) (Or.inl (kw24 hw)) (by decide) (t := (.array .long)) (t' := .int) (by decide) (by decide)))
  have F_thisun32i_longSavedAt_t283 := F_thisun32i_longSavedAt_t280.other W283 (Or.inr (slot_ne (Or.inl (kw18 hw)) (Or.inl (kw24 hw)) (by decide) (t := (.array .int)) (t' := .int) (by decide) (by decide)))
  have F_thisun32i_savedCells_t283 := F_thisun32i_savedCells_t280.other W283 (Or.inr (slot_ne (Or.inl (kw20 hw)) (Or.inl (kw24 hw)) (by decide) (t := (.array .int)) (t' := .int) (by decide) (by decide)))
  have F_thisun32i_savedValues_t283 := F_thisun32i_savedValues_t280.other W283 (Or.inr (slot_ne (Or.inl (kw22 hw)) (Or.inl (kw24 hw)) (by decide) (t := (.array .long)) (t' := .int) (by decide) (by decide)))
  have F_thisun32i_cellCount_t283 := F_thisun32i_cellCount_t280.other W283 (Or.inr (slot_ne (Or.inl (kw31 hw)) (Or.inl (kw24 hw)) (by decide) (t := .int) (t' := .int) (by decide) (by decide)))
  have F_thisun32i_longCellCount_t283 := F_thisun32i_longCellCount_t280.other W283 (Or.inr (slot_ne (Or.inl (kw38 hw)) (Or.inl (kw24 hw)) (by decide) (t := .int) (t' := .int) (by decide) (by decide)))
  have V_longValues_un32i_t283 := V_longValues_un32i_t280.other W283 ne_longValues_un32i_thisun32i
  have V_savedCells_un32i_t283 := V_savedCells_un32i_t280.other W283 ne_savedCells_un32i_thisun32i
  have V_savedValues_un32i_t283 := V_savedValues_un32i_t280.other W283 ne_savedValues_un32i_thisun32i
  have F_thisun32i_savedCount_t283 := F_thisun32i_savedCount_t280.other W283 (Or.inr (slot_ne (Or.inl (kw45 hw)) (Or.inl (kw24 hw)) (by decide) (t := .int) (t' := .int) (by decide) (by decide)))
  have V_values_un32i_t283 := V_values_un32i_t280.other W283 ne_values_un32i_thisun32i
  have F_thisun32i_epoch_t283 : Fld Z h283 thisun32i "com/example/tauten/tauten/Trail" "epoch" "I" (.int (epoch_un32i + (1 : Int32))) := F_thisun32i_epoch_t280.same W283
  show Wq _ _ _ _ _ (T283.setTop (mkF m 81 #[.val (.ref thisun32i), .val (.int (2 : Int32)), .val (.int (0 : Int32))] []))
  exact Wq.ret X283 (BodyLoose.notSynchronized Bd) (rv := none) (fun _ => rfl) (fun _ hr => X283.returnOut hx Bd.returns (hb hby d_prog_71_method_9_81) hr) (by decide) (by decide) (by rw [e283]; exact ⟨rfl, N283, K283, E_thisun32i_t283, F_thisun32i_values_t283, F_thisun32i_savedAt_t283, F_thisun32i_longValues_t283, F_thisun32i_longSavedAt_t283, F_thisun32i_savedCells_t283, F_thisun32i_savedValues_t283, F_thisun32i_cellCount_t283, F_thisun32i_longCellCount_t283, F_thisun32i_savedCount_t283, V_values_un32i_t283, F_thisun32i_epoch_t283⟩)
theorem ef_sv3 (m : MethodId) (thissv3 : Addr) (xsv3_1 : Int32) (ysv3_2 : Int64) : entryFrame m #[(.ref thissv3), (.int xsv3_1), (.long ysv3_2)] 4 = mkF m 0 #[.val (.ref thissv3), .val (.int xsv3_1), .val (.long ysv3_2), .second] [] := by first | (simp [entryFrame, mkF, argsToLocals, Value.category]; done) | rfl
def Q_sv3 (Z : State) (thissv3 : Addr) (xsv3_1 : Int32) (ysv3_2 : Int64) (values_sv3 : Addr) (savedAt_sv3 : Addr) (longValues_sv3 : Addr) (longSavedAt_sv3 : Addr) (savedCells_sv3 : Addr) (savedValues_sv3 : Addr) (cellCount_sv3 : Int32) (longCellCount_sv3 : Int32) (epoch_sv3 : Int32) (sl0_sv3 : Int32) (sl1_sv3 : Int32) (sl2_sv3 : Int32) (sl3_sv3 : Int32) (rsavedCells_sv3 : List Value) (se0_sv3 : Int64) (se1_sv3 : Int64) (se2_sv3 : Int64) (se3_sv3 : Int64) (rsavedValues_sv3 : List Value) (h0 : Heap) (n0 : Nat) (v : Option Value) (h : Heap) (L : List Loc) : Prop := v = none ∧ Fr n0 L ∧ Keep h0 h [savedCells_sv3, savedValues_sv3, thissv3] ∧ Exa Z h thissv3 "com/example/tauten/tauten/Trail" ∧ Fld Z h thissv3 "com/example/tauten/tauten/Trail" "values" "[I" (.ref values_sv3) ∧ Fld Z h thissv3 "com/example/tauten/tauten/Trail" "savedAt" "[I" (.ref savedAt_sv3) ∧ Fld Z h thissv3 "com/example/tauten/tauten/Trail" "longValues" "[J" (.ref longValues_sv3) ∧ Fld Z h thissv3 "com/example/tauten/tauten/Trail" "longSavedAt" "[I" (.ref longSavedAt_sv3) ∧ Fld Z h thissv3 "com/example/tauten/tauten/Trail" "savedCells" "[I" (.ref savedCells_sv3) ∧ Fld Z h thissv3 "com/example/tauten/tauten/Trail" "savedValues" "[J" (.ref savedValues_sv3) ∧ Fld Z h thissv3 "com/example/tauten/tauten/Trail" "cellCount" "I" (.int cellCount_sv3) ∧ Fld Z h thissv3 "com/example/tauten/tauten/Trail" "longCellCount" "I" (.int longCellCount_sv3) ∧ Fld Z h thissv3 "com/example/tauten/tauten/Trail" "epoch" "I" (.int epoch_sv3) ∧ Al Z h savedCells_sv3 .int ((.int sl0_sv3) :: (.int sl1_sv3) :: (.int sl2_sv3) :: (.int xsv3_1) :: rsavedCells_sv3) ∧ Al Z h savedValues_sv3 .long ((.long se0_sv3) :: (.long se1_sv3) :: (.long se2_sv3) :: (.long ysv3_2) :: rsavedValues_sv3) ∧ Fld Z h thissv3 "com/example/tauten/tauten/Trail" "savedCount" "I" (.int (4 : Int32))
set_option maxRecDepth 65536 in
set_option maxHeartbeats 40000000 in
theorem rm_sv3 (l : Launch) (Z : State) (a0 : Array Value) (hw : ∀ d ∈ tables_1, d.before a0 Z = true) (ws : List Jvm.Cond) (thissv3 : Addr) (xsv3_1 : Int32) (ysv3_2 : Int64) (values_sv3 : Addr) (savedAt_sv3 : Addr) (longValues_sv3 : Addr) (longSavedAt_sv3 : Addr) (savedCells_sv3 : Addr) (savedValues_sv3 : Addr) (cellCount_sv3 : Int32) (longCellCount_sv3 : Int32) (epoch_sv3 : Int32) (sl0_sv3 : Int32) (sl1_sv3 : Int32) (sl2_sv3 : Int32) (sl3_sv3 : Int32) (rsavedCells_sv3 : List Value) (se0_sv3 : Int64) (se1_sv3 : Int64) (se2_sv3 : Int64) (se3_sv3 : Int64) (rsavedValues_sv3 : List Value) (h0 : Heap) (n0 : Nat) (Z0 : n0 ≤ h0.size) (hlen : rsavedCells_sv3.length = 252) (E_thissv3 : Exa Z h0 thissv3 "com/example/tauten/tauten/Trail") (F_thissv3_values : Fld Z h0 thissv3 "com/example/tauten/tauten/Trail" "values" "[I" (.ref values_sv3)) (F_thissv3_savedAt : Fld Z h0 thissv3 "com/example/tauten/tauten/Trail" "savedAt" "[I" (.ref savedAt_sv3)) (F_thissv3_longValues : Fld Z h0 thissv3 "com/example/tauten/tauten/Trail" "longValues" "[J" (.ref longValues_sv3)) (F_thissv3_longSavedAt : Fld Z h0 thissv3 "com/example/tauten/tauten/Trail" "longSavedAt" "[I" (.ref longSavedAt_sv3)) (F_thissv3_savedCells : Fld Z h0 thissv3 "com/example/tauten/tauten/Trail" "savedCells" "[I" (.ref savedCells_sv3)) (F_thissv3_savedValues : Fld Z h0 thissv3 "com/example/tauten/tauten/Trail" "savedValues" "[J" (.ref savedValues_sv3)) (F_thissv3_cellCount : Fld Z h0 thissv3 "com/example/tauten/tauten/Trail" "cellCount" "I" (.int cellCount_sv3)) (F_thissv3_longCellCount : Fld Z h0 thissv3 "com/example/tauten/tauten/Trail" "longCellCount" "I" (.int longCellCount_sv3)) (F_thissv3_savedCount : Fld Z h0 thissv3 "com/example/tauten/tauten/Trail" "savedCount" "I" (.int (3 : Int32))) (F_thissv3_epoch : Fld Z h0 thissv3 "com/example/tauten/tauten/Trail" "epoch" "I" (.int epoch_sv3)) (g_thissv3 : n0 ≤ thissv3) (V_savedCells_sv3 : Al Z h0 savedCells_sv3 .int ((.int sl0_sv3) :: (.int sl1_sv3) :: (.int sl2_sv3) :: (.int sl3_sv3) :: rsavedCells_sv3)) (g_savedCells_sv3 : n0 ≤ savedCells_sv3) (ne_savedCells_sv3_thissv3 : savedCells_sv3 ≠ thissv3) (V_savedValues_sv3 : Al Z h0 savedValues_sv3 .long ((.long se0_sv3) :: (.long se1_sv3) :: (.long se2_sv3) :: (.long se3_sv3) :: rsavedValues_sv3)) (g_savedValues_sv3 : n0 ≤ savedValues_sv3) (ne_savedValues_sv3_thissv3 : savedValues_sv3 ≠ thissv3) (ne_savedCells_sv3_savedValues_sv3 : savedCells_sv3 ≠ savedValues_sv3) :
    MetFree l mt7 (head1 (Jvm.Cond.code mt7 prog_71_method_10_code 4 none :: ws) ({ frames := 0, cells := 0, slots := 0, locals := 0 } : Room)) (fun a U => a = #[(.ref thissv3), (.int xsv3_1), (.long ysv3_2)] ∧ Z.Warmed39 U.vm ∧ U.heap = h0) (fun _ _ _ _ _ => True) (fun _ U o U' => ∃ v L, o = .returned v ∧ (Q_sv3 Z thissv3 xsv3_1 ysv3_2 values_sv3 savedAt_sv3 longValues_sv3 longSavedAt_sv3 savedCells_sv3 savedValues_sv3 cellCount_sv3 longCellCount_sv3 epoch_sv3 sl0_sv3 sl1_sv3 sl2_sv3 sl3_sv3 rsavedCells_sv3 se0_sv3 se1_sv3 se2_sv3 se3_sv3 rsavedValues_sv3 h0 n0) v U'.heap L ∧ FrameEnd U o U' L ({ frames := 0, cells := 0, slots := 0, locals := 0 } : Room).cells ({ frames := 0, cells := 0, slots := 0, locals := 0 } : Room).slots) := by
  refine MetFree.of_bodySF (plainFor_of_name pn1) hisR ?_
  intro p e s m args below meth c s₁ Bd hml0 hP hK
  obtain ⟨rfl, hZ, hh⟩ := hP
  have hx := Bd.exec
  have hby := Bd.bytes
  have hml : c.maxLocals = 4 := hml0
  have hown : s.vm.findClass "com/example/tauten/tauten/Trail" = some m.cls := findClass_of_methodNamed Bd.named
  have hnm := (name_of_methodNamed Bd.named Bd.method).1
  have X0 : Stand p l e ({ frames := 0, cells := 0, slots := 0, locals := 0 } : Room) s m #[(.ref thissv3), (.int xsv3_1), (.long ysv3_2)] below meth c s₁ [] 0 0 := Stand.of_body Bd
  have e0 : s₁.heap = h0 := by rw [← hh, Bd.state]; rfl
  have N0 := Fr.nil n0
  refine Wq.step (p := p) (e := e) (below := below) (En := (fun o t L => FrameEnd s o t L ({ frames := 0, cells := 0, slots := 0, locals := 0 } : Room).cells ({ frames := 0, cells := 0, slots := 0, locals := 0 } : Room).slots)) (Q := (Q_sv3 Z thissv3 xsv3_1 ysv3_2 values_sv3 savedAt_sv3 longValues_sv3 longSavedAt_sv3 savedCells_sv3 savedValues_sv3 cellCount_sv3 longCellCount_sv3 epoch_sv3 sl0_sv3 sl1_sv3 sl2_sv3 sl3_sv3 rsavedCells_sv3 se0_sv3 se1_sv3 se2_sv3 se3_sv3 rsavedValues_sv3 h0 n0)) (fun t k => castTop (ef_sv3 m thissv3 xsv3_1 ysv3_2) k) ?_
  show Wq _ _ _ _ _ (s₁.setTop (mkF m 0 #[.val (.ref thissv3), .val (.int xsv3_1), .val (.long ysv3_2), .second] []))
  refine Ow.aloadN X0 hx (pc' := 1) (hb hby d_prog_71_method_10_0) rfl rfl ?_
  obtain ⟨T293, X293, e293, st293⟩ := getF X0 hx hZ hown (host := "") (Or.inl (kw44 hw)) Via.refl e0 F_thissv3_savedCount (g := (mkF m 1 #[.val (.ref thissv3), .val (.int xsv3_1), .val (.long ysv3_2), .second] [(.ref thissv3)])) rfl rfl (hb hby d_prog_71_method_10_1)
  refine Wq.step st293 ?_
  show Wq _ _ _ _ _ (T293.setTop (mkF m 4 #[.val (.ref thissv3), .val (.int xsv3_1), .val (.long ysv3_2), .second] [(.int (3 : Int32))]))
  refine Ow.aloadN X293 hx (pc' := 5) (hb hby d_prog_71_method_10_4) rfl rfl ?_
  obtain ⟨T294, X294, e294, st294⟩ := getF X293 hx hZ hown (host := "") (Or.inl (kw19 hw)) Via.refl e293 F_thissv3_savedCells (g := (mkF m 5 #[.val (.ref thissv3), .val (.int xsv3_1), .val (.long ysv3_2), .second] [(.ref thissv3), (.int (3 : Int32))])) rfl rfl (hb hby d_prog_71_method_10_5)
  refine Wq.step st294 ?_
  show Wq _ _ _ _ _ (T294.setTop (mkF m 8 #[.val (.ref thissv3), .val (.int xsv3_1), .val (.long ysv3_2), .second] [(.ref savedCells_sv3), (.int (3 : Int32))]))
  refine Ow.lenA X294 hx hZ e294 V_savedCells_sv3 (pc' := 9) (hb hby d_prog_71_method_10_8) (n := (256 : Int32)) (by simp only [List.length_cons, hlen]; rfl) ?_
  refine Ow.icmpYes X294 hx (pc' := 46) (hb hby d_prog_71_method_10_9) (feq (by decide : ¬ ((3 : Int32) = (256 : Int32)))).2 (by decide) (by decide) ?_
  refine Ow.aloadN X294 hx (pc' := 47) (hb hby d_prog_71_method_10_46) rfl rfl ?_
  obtain ⟨T295, X295, e295, st295⟩ := getF X294 hx hZ hown (host := "") (Or.inl (kw19 hw)) Via.refl e294 F_thissv3_savedCells (g := (mkF m 47 #[.val (.ref thissv3), .val (.int xsv3_1), .val (.long ysv3_2), .second] [(.ref thissv3)])) rfl rfl (hb hby d_prog_71_method_10_47)
  refine Wq.step st295 ?_
  show Wq _ _ _ _ _ (T295.setTop (mkF m 50 #[.val (.ref thissv3), .val (.int xsv3_1), .val (.long ysv3_2), .second] [(.ref savedCells_sv3)]))
  refine Ow.aloadN X295 hx (pc' := 51) (hb hby d_prog_71_method_10_50) rfl rfl ?_
  obtain ⟨T296, X296, e296, st296⟩ := getF X295 hx hZ hown (host := "") (Or.inl (kw44 hw)) Via.refl e295 F_thissv3_savedCount (g := (mkF m 51 #[.val (.ref thissv3), .val (.int xsv3_1), .val (.long ysv3_2), .second] [(.ref thissv3), (.ref savedCells_sv3)])) rfl rfl (hb hby d_prog_71_method_10_51)
  refine Wq.step st296 ?_
  show Wq _ _ _ _ _ (T296.setTop (mkF m 54 #[.val (.ref thissv3), .val (.int xsv3_1), .val (.long ysv3_2), .second] [(.int (3 : Int32)), (.ref savedCells_sv3)]))
  refine Ow.iloadN X296 hx (pc' := 55) (hb hby d_prog_71_method_10_54) rfl ?_
  obtain ⟨T297, h297, X297, e297, W297, Vr297, st297⟩ := asI X296 hx hZ e296 V_savedCells_sv3 (j := (3 : Int32)) (i := 3) (by decide) rfl (by simp only [List.length_cons]; omega) (g := (mkF m 55 #[.val (.ref thissv3), .val (.int xsv3_1), .val (.long ysv3_2), .second] [(.int xsv3_1), (.int (3 : Int32)), (.ref savedCells_sv3)])) rfl rfl (hb hby d_prog_71_method_10_55)
  refine Wq.step st297 ?_
  have N297 := Fr.snoc X297 N0 g_savedCells_sv3
  have K297 : Keep h0 h297 [savedCells_sv3, savedValues_sv3, thissv3] := (Keep.refl h0 [savedCells_sv3, savedValues_sv3, thissv3]).wr W297 (Or.inl (List.mem_of_getElem? (i := 0) rfl))
  have Z297 : n0 ≤ h297.size := Nat.le_trans Z0 (Keep.of_wr W297).1
  have E_thissv3_t297 := E_thissv3.wr W297
  have F_thissv3_values_t297 := F_thissv3_values.other W297 (Or.inl (Ne.symm ne_savedCells_sv3_thissv3))
  have F_thissv3_savedAt_t297 := F_thissv3_savedAt.other W297 (Or.inl (Ne.symm ne_savedCells_sv3_thissv3))
  have F_thissv3_longValues_t297 := F_thissv3_longValues.other W297 (Or.inl (Ne.symm ne_savedCells_sv3_thissv3))
  have F_thissv3_longSavedAt_t297 := F_thissv3_longSavedAt.other W297 (Or.inl (Ne.symm ne_savedCells_sv3_thissv3))
  have F_thissv3_savedCells_t297 := F_thissv3_savedCells.other W297 (Or.inl (Ne.symm ne_savedCells_sv3_thissv3))
  have F_thissv3_savedValues_t297 := F_thissv3_savedValues.other W297 (Or.inl (Ne.symm ne_savedCells_sv3_thissv3))
  have F_thissv3_cellCount_t297 := F_thissv3_cellCount.other W297 (Or.inl (Ne.symm ne_savedCells_sv3_thissv3))
  have F_thissv3_longCellCount_t297 := F_thissv3_longCellCount.other W297 (Or.inl (Ne.symm ne_savedCells_sv3_thissv3))
  have F_thissv3_savedCount_t297 := F_thissv3_savedCount.other W297 (Or.inl (Ne.symm ne_savedCells_sv3_thissv3))
  have F_thissv3_epoch_t297 := F_thissv3_epoch.other W297 (Or.inl (Ne.symm ne_savedCells_sv3_thissv3))
  have V_savedValues_sv3_t297 := V_savedValues_sv3.other W297 (Ne.symm ne_savedCells_sv3_savedValues_sv3)
  have V_savedCells_sv3_t297 : Al Z h297 savedCells_sv3 .int ((.int sl0_sv3) :: (.int sl1_sv3) :: (.int sl2_sv3) :: (.int xsv3_1) :: rsavedCells_sv3) := Vr297
  show Wq _ _ _ _ _ (T297.setTop (mkF m 56 #[.val (.ref thissv3), .val (.int xsv3_1), .val (.long ysv3_2), .second] []))
  refine Ow.aloadN X297 hx (pc' := 57) (hb hby d_prog_71_method_10_56) rfl rfl ?_
  obtain ⟨T298, X298, e298, st298⟩ := getF X297 hx hZ hown (host := "") (Or.inl (kw21 hw)) Via.refl e297 F_thissv3_savedValues_t297 (g := (mkF m 57 #[.val (.ref thissv3), .val (.int xsv3_1), .val (.long ysv3_2), .second] [(.ref thissv3)])) rfl rfl (hb hby d_prog_71_method_10_57)
  refine Wq.step st298 ?_
  show Wq _ _ _ _ _ (T298.setTop (mkF m 60 #[.val (.ref thissv3), .val (.int xsv3_1), .val (.long ysv3_2), .second] [(.ref savedValues_sv3)]))
  refine Ow.aloadN X298 hx (pc' := 61) (hb hby d_prog_71_method_10_60) rfl rfl ?_
  obtain ⟨T299, X299, e299, st299⟩ := getF X298 hx hZ hown (host := "") (Or.inl (kw44 hw)) Via.refl e298 F_thissv3_savedCount_t297 (g := (mkF m 61 #[.val (.ref thissv3), .val (.int xsv3_1), .val (.long ysv3_2), .second] [(.ref thissv3), (.ref savedValues_sv3)])) rfl rfl (hb hby d_prog_71_method_10_61)
  refine Wq.step st299 ?_
  show Wq _ _ _ _ _ (T299.setTop (mkF m 64 #[.val (.ref thissv3), .val (.int xsv3_1), .val (.long ysv3_2), .second] [(.int (3 : Int32)), (.ref savedValues_sv3)]))
  refine Ow.lloadN X299 hx (pc' := 65) (hb hby d_prog_71_method_10_64) rfl ?_
  obtain ⟨T300, h300, X300, e300, W300, Vr300, st300⟩ := asJ X299 hx hZ e299 V_savedValues_sv3_t297 (j := (3 : Int32)) (i := 3) (by decide) rfl (by simp only [List.length_cons]; omega) (g := (mkF m 65 #[.val (.ref thissv3), .val (.int xsv3_1), .val (.long ysv3_2), .second] [(.long ysv3_2), (.int (3 : Int32)), (.ref savedValues_sv3)])) rfl rfl (hb hby d_prog_71_method_10_65)
  refine Wq.step st300 ?_
  have N300 := Fr.snoc X300 N297 g_savedValues_sv3
  have K300 : Keep h0 h300 [savedCells_sv3, savedValues_sv3, thissv3] := K297.wr W300 (Or.inl (List.mem_of_getElem? (i := 1) rfl))
  have Z300 : n0 ≤ h300.size := Nat.le_trans Z297 (Keep.of_wr W300).1
  have E_thissv3_t300 := E_thissv3_t297.wr W300
  have F_thissv3_values_t300 := F_thissv3_values_t297.other W300 (Or.inl (Ne.symm ne_savedValues_sv3_thissv3))
  have F_thissv3_savedAt_t300 := F_thissv3_savedAt_t297.other W300 (Or.inl (Ne.symm ne_savedValues_sv3_thissv3))
  have F_thissv3_longValues_t300 := F_thissv3_longValues_t297.other W300 (Or.inl (Ne.symm ne_savedValues_sv3_thissv3))
  have F_thissv3_longSavedAt_t300 := F_thissv3_longSavedAt_t297.other W300 (Or.inl (Ne.symm ne_savedValues_sv3_thissv3))
  have F_thissv3_savedCells_t300 := F_thissv3_savedCells_t297.other W300 (Or.inl (Ne.symm ne_savedValues_sv3_thissv3))
  have F_thissv3_savedValues_t300 := F_thissv3_savedValues_t297.other W300 (Or.inl (Ne.symm ne_savedValues_sv3_thissv3))
  have F_thissv3_cellCount_t300 := F_thissv3_cellCount_t297.other W300 (Or.inl (Ne.symm ne_savedValues_sv3_thissv3))
  have F_thissv3_longCellCount_t300 := F_thissv3_longCellCount_t297.other W300 (Or.inl (Ne.symm ne_savedValues_sv3_thissv3))
  have F_thissv3_savedCount_t300 := F_thissv3_savedCount_t297.other W300 (Or.inl (Ne.symm ne_savedValues_sv3_thissv3))
  have F_thissv3_epoch_t300 := F_thissv3_epoch_t297.other W300 (Or.inl (Ne.symm ne_savedValues_sv3_thissv3))
  have V_savedCells_sv3_t300 := V_savedCells_sv3_t297.other W300 ne_savedCells_sv3_savedValues_sv3
  have V_savedValues_sv3_t300 : Al Z h300 savedValues_sv3 .long ((.long se0_sv3) :: (.long se1_sv3) :: (.long se2_sv3) :: (.long ysv3_2) :: rsavedValues_sv3) := Vr300
  show Wq _ _ _ _ _ (T300.setTop (mkF m 66 #[.val (.ref thissv3), .val (.int xsv3_1), .val (.long ysv3_2), .second] []))
  refine Ow.aloadN X300 hx (pc' := 67) (hb hby d_prog_71_method_10_66) rfl rfl ?_
  refine Ow.dup X300 hx (pc' := 68) (hb hby d_prog_71_method_10_67) rfl ?_
  obtain ⟨T301, X301, e301, st301⟩ := getF X300 hx hZ hown (host := "") (Or.inl (kw44 hw)) Via.refl e300 F_thissv3_savedCount_t300 (g := (mkF m 68 #[.val (.ref thissv3), .val (.int xsv3_1), .val (.long ysv3_2), .second] [(.ref thissv3), (.ref thissv3)])) rfl rfl (hb hby d_prog_71_method_10_68)
  refine Wq.step st301 ?_
  show Wq _ _ _ _ _ (T301.setTop (mkF m 71 #[.val (.ref thissv3), .val (.int xsv3_1), .val (.long ysv3_2), .second] [(.int (3 : Int32)), (.ref thissv3)]))
  refine Ow.iconst X301 hx (pc' := 72) (hb hby d_prog_71_method_10_71) (z := (1 : Int32)) rfl ?_
  refine Ow.iadd X301 hx (pc' := 73) (hb hby d_prog_71_method_10_72) (z := (4 : Int32)) rfl ?_
  obtain ⟨T302, h302, X302, e302, W302, st302⟩ := putF X301 hx hZ hown (host := "") (Or.inl (kw44 hw)) Via.refl e301 F_thissv3_savedCount_t300 E_thissv3_t300 (Or.inl (kw45 hw)) (kw1 hw) (ty := .int) (by decide) (rfl) (rfl) (g := (mkF m 73 #[.val (.ref thissv3), .val (.int xsv3_1), .val (.long ysv3_2), .second] [(.int (4 : Int32)), (.ref thissv3)])) rfl rfl (hb hby d_prog_71_method_10_73)
  refine Wq.step st302 ?_
  have N302 := Fr.snoc X302 N300 g_thissv3
  have K302 : Keep h0 h302 [savedCells_sv3, savedValues_sv3, thissv3] := K300.wr W302 (Or.inl (List.mem_of_getElem? (i := 2) rfl))
  have Z302 : n0 ≤ h302.size := Nat.le_trans Z300 (Keep.of_wr W302).1
  have E_thissv3_t302 := E_thissv3_t300.wr W302
  have F_thissv3_values_t302 := F_thissv3_values_t300.other W302 (Or.inr (slot_ne (Or.inl (kw11 hw)) (Or.inl (kw45 hw)) (by decide) (t := (.array .int)) (t' := .int) (by decide) (by decide)))
  have F_thissv3_savedAt_t302 := F_thissv3_savedAt_t300.other W302 (Or.inr (slot_ne (Or.inl (kw13 hw)) (Or.inl (kw45 hw)) (by decide) (t := (.array .int)) (t' := .int) (by decide) (by decide)))
  have F_thissv3_longValues_t302 := F_thissv3_longValues_t300.other W302 (Or.inr (slot_ne (Or.inl (kw16 hw)) (Or.inl (kw45 hw)) (by decide) (t := (.array .long)) (t' := .int) (by decide) (by decide)))
  have F_thissv3_longSavedAt_t302 := F_thissv3_longSavedAt_t300.other W302 (Or.inr (slot_ne (Or.inl (kw18 hw)) (Or.inl (kw45 hw)) (by decide) (t := (.array .int)) (t' := .int) (by decide) (by decide)))
  have F_thissv3_savedCells_t302 := F_thissv3_savedCells_t300.other W302 (Or.inr (slot_ne (Or.inl (kw20 hw)) (Or.inl (kw45 hw)) (by decide) (t := (.array .int)) (t' := .int) (by decide) (by decide)))
  have F_thissv3_savedValues_t302 := F_thissv3_savedValues_t300.other W302 (Or.inr (slot_ne (Or.inl (kw22 hw)) (Or.inl (kw45 hw)) (by decide) (t := (.array .long)) (t' := .int) (by decide) (by decide)))
  have F_thissv3_cellCount_t302 := F_thissv3_cellCount_t300.other W302 (Or.inr (slot_ne (Or.inl (kw31 hw)) (Or.inl (kw45 hw)) (by decide) (t := .int) (t' := .int) (by decide) (by decide)))
  have F_thissv3_longCellCount_t302 := F_thissv3_longCellCount_t300.other W302 (Or.inr (slot_ne (Or.inl (kw38 hw)) (Or.inl (kw45 hw)) (by decide) (t := .int) (t' := .int) (by decide) (by decide)))
  have F_thissv3_epoch_t302 := F_thissv3_epoch_t300.other W302 (Or.inr (slot_ne (Or.inl (kw24 hw)) (Or.inl (kw45 hw)) (by decide) (t := .int) (t' := .int) (by decide) (by decide)))
  have V_savedCells_sv3_t302 := V_savedCells_sv3_t300.other W302 ne_savedCells_sv3_thissv3
  have V_savedValues_sv3_t302 := V_savedValues_sv3_t300.other W302 ne_savedValues_sv3_thissv3
  have F_thissv3_savedCount_t302 : Fld Z h302 thissv3 "com/example/tauten/tauten/Trail" "savedCount" "I" (.int (4 : Int32)) := F_thissv3_savedCount_t300.same W302
  show Wq _ _ _ _ _ (T302.setTop (mkF m 76 #[.val (.ref thissv3), .val (.int xsv3_1), .val (.long ysv3_2), .second] []))
  exact Wq.ret X302 (BodyLoose.notSynchronized Bd) (rv := none) (fun _ => rfl) (fun _ hr => X302.returnOut hx Bd.returns (hb hby d_prog_71_method_10_76) hr) (by decide) (by decide) (by rw [e302]; exact ⟨rfl, N302, K302, E_thissv3_t302, F_thissv3_values_t302, F_thissv3_savedAt_t302, F_thissv3_longValues_t302, F_thissv3_longSavedAt_t302, F_thissv3_savedCells_t302, F_thissv3_savedValues_t302, F_thissv3_cellCount_t302, F_thissv3_longCellCount_t302, F_thissv3_epoch_t302, V_savedCells_sv3_t302, V_savedValues_sv3_t302, F_thissv3_savedCount_t302⟩)
theorem ef_sl3 (m : MethodId) (thissl3 : Addr) (ysl3_2 : Int64) : entryFrame m #[(.ref thissl3), (.int (0 : Int32)), (.long ysl3_2)] 4 = mkF m 0 #[.val (.ref thissl3), .val (.int (0 : Int32)), .val (.long ysl3_2), .second] [] := by first | (simp [entryFrame, mkF, argsToLocals, Value.category]; done) | rfl
def Q_sl3 (Z : State) (thissl3 : Addr) (ysl3_2 : Int64) (values_sl3 : Addr) (savedAt_sl3 : Addr) (longValues_sl3 : Addr) (longSavedAt_sl3 : Addr) (savedCells_sl3 : Addr) (savedValues_sl3 : Addr) (cellCount_sl3 : Int32) (longCellCount_sl3 : Int32) (epoch_sl3 : Int32) (le0_sl3 : Int64) (rlongValues_sl3 : List Value) (lA0_sl3 : Int32) (rlongSavedAt_sl3 : List Value) (sl0_sl3 : Int32) (sl1_sl3 : Int32) (sl2_sl3 : Int32) (sl3_sl3 : Int32) (rsavedCells_sl3 : List Value) (se0_sl3 : Int64) (se1_sl3 : Int64) (se2_sl3 : Int64) (se3_sl3 : Int64) (rsavedValues_sl3 : List Value) (h0 : Heap) (n0 : Nat) (v : Option Value) (h : Heap) (L : List Loc) : Prop := v = none ∧ Fr n0 L ∧ Keep h0 h [thissl3, savedValues_sl3, savedCells_sl3, longSavedAt_sl3, longValues_sl3] ∧ Exa Z h thissl3 "com/example/tauten/tauten/Trail" ∧ Fld Z h thissl3 "com/example/tauten/tauten/Trail" "values" "[I" (.ref values_sl3) ∧ Fld Z h thissl3 "com/example/tauten/tauten/Trail" "savedAt" "[I" (.ref savedAt_sl3) ∧ Fld Z h thissl3 "com/example/tauten/tauten/Trail" "longValues" "[J" (.ref longValues_sl3) ∧ Fld Z h thissl3 "com/example/tauten/tauten/Trail" "longSavedAt" "[I" (.ref longSavedAt_sl3) ∧ Fld Z h thissl3 "com/example/tauten/tauten/Trail" "savedCells" "[I" (.ref savedCells_sl3) ∧ Fld Z h thissl3 "com/example/tauten/tauten/Trail" "savedValues" "[J" (.ref savedValues_sl3) ∧ Fld Z h thissl3 "com/example/tauten/tauten/Trail" "cellCount" "I" (.int cellCount_sl3) ∧ Fld Z h thissl3 "com/example/tauten/tauten/Trail" "longCellCount" "I" (.int longCellCount_sl3) ∧ Fld Z h thissl3 "com/example/tauten/tauten/Trail" "epoch" "I" (.int epoch_sl3) ∧ Al Z h savedCells_sl3 .int ((.int sl0_sl3) :: (.int sl1_sl3) :: (.int sl2_sl3) :: (.int (-1 : Int32)) :: rsavedCells_sl3) ∧ Al Z h savedValues_sl3 .long ((.long se0_sl3) :: (.long se1_sl3) :: (.long se2_sl3) :: (.long le0_sl3) :: rsavedValues_sl3) ∧ Fld Z h thissl3 "com/example/tauten/tauten/Trail" "savedCount" "I" (.int (4 : Int32)) ∧ Al Z h longSavedAt_sl3 .int ((.int epoch_sl3) :: rlongSavedAt_sl3) ∧ Al Z h longValues_sl3 .long ((.long ysl3_2) :: rlongValues_sl3)
set_option maxRecDepth 65536 in
set_option maxHeartbeats 40000000 in
theorem rm_sl3 (l : Launch) (Z : State) (a0 : Array Value) (hw : ∀ d ∈ tables_1, d.before a0 Z = true) (ws : List Jvm.Cond) (thissl3 : Addr) (ysl3_2 : Int64) (values_sl3 : Addr) (savedAt_sl3 : Addr) (longValues_sl3 : Addr) (longSavedAt_sl3 : Addr) (savedCells_sl3 : Addr) (savedValues_sl3 : Addr) (cellCount_sl3 : Int32) (longCellCount_sl3 : Int32) (epoch_sl3 : Int32) (le0_sl3 : Int64) (rlongValues_sl3 : List Value) (lA0_sl3 : Int32) (rlongSavedAt_sl3 : List Value) (sl0_sl3 : Int32) (sl1_sl3 : Int32) (sl2_sl3 : Int32) (sl3_sl3 : Int32) (rsavedCells_sl3 : List Value) (se0_sl3 : Int64) (se1_sl3 : Int64) (se2_sl3 : Int64) (se3_sl3 : Int64) (rsavedValues_sl3 : List Value) (h0 : Heap) (n0 : Nat) (Z0 : n0 ≤ h0.size) (hlen : rsavedCells_sl3.length = 252) (E_thissl3 : Exa Z h0 thissl3 "com/example/tauten/tauten/Trail") (F_thissl3_values : Fld Z h0 thissl3 "com/example/tauten/tauten/Trail" "values" "[I" (.ref values_sl3)) (F_thissl3_savedAt : Fld Z h0 thissl3 "com/example/tauten/tauten/Trail" "savedAt" "[I" (.ref savedAt_sl3)) (F_thissl3_longValues : Fld Z h0 thissl3 "com/example/tauten/tauten/Trail" "longValues" "[J" (.ref longValues_sl3)) (F_thissl3_longSavedAt : Fld Z h0 thissl3 "com/example/tauten/tauten/Trail" "longSavedAt" "[I" (.ref longSavedAt_sl3)) (F_thissl3_savedCells : Fld Z h0 thissl3 "com/example/tauten/tauten/Trail" "savedCells" "[I" (.ref savedCells_sl3)) (F_thissl3_savedValues : Fld Z h0 thissl3 "com/example/tauten/tauten/Trail" "savedValues" "[J" (.ref savedValues_sl3)) (F_thissl3_cellCount : Fld Z h0 thissl3 "com/example/tauten/tauten/Trail" "cellCount" "I" (.int cellCount_sl3)) (F_thissl3_longCellCount : Fld Z h0 thissl3 "com/example/tauten/tauten/Trail" "longCellCount" "I" (.int longCellCount_sl3)) (F_thissl3_savedCount : Fld Z h0 thissl3 "com/example/tauten/tauten/Trail" "savedCount" "I" (.int (3 : Int32))) (F_thissl3_epoch : Fld Z h0 thissl3 "com/example/tauten/tauten/Trail" "epoch" "I" (.int epoch_sl3)) (g_thissl3 : n0 ≤ thissl3) (V_longValues_sl3 : Al Z h0 longValues_sl3 .long ((.long le0_sl3) :: rlongValues_sl3)) (g_longValues_sl3 : n0 ≤ longValues_sl3) (ne_longValues_sl3_thissl3 : longValues_sl3 ≠ thissl3) (V_longSavedAt_sl3 : Al Z h0 longSavedAt_sl3 .int ((.int lA0_sl3) :: rlongSavedAt_sl3)) (g_longSavedAt_sl3 : n0 ≤ longSavedAt_sl3) (ne_longSavedAt_sl3_thissl3 : longSavedAt_sl3 ≠ thissl3) (V_savedCells_sl3 : Al Z h0 savedCells_sl3 .int ((.int sl0_sl3) :: (.int sl1_sl3) :: (.int sl2_sl3) :: (.int sl3_sl3) :: rsavedCells_sl3)) (g_savedCells_sl3 : n0 ≤ savedCells_sl3) (ne_savedCells_sl3_thissl3 : savedCells_sl3 ≠ thissl3) (V_savedValues_sl3 : Al Z h0 savedValues_sl3 .long ((.long se0_sl3) :: (.long se1_sl3) :: (.long se2_sl3) :: (.long se3_sl3) :: rsavedValues_sl3)) (g_savedValues_sl3 : n0 ≤ savedValues_sl3) (ne_savedValues_sl3_thissl3 : savedValues_sl3 ≠ thissl3) (ne_longValues_sl3_longSavedAt_sl3 : longValues_sl3 ≠ longSavedAt_sl3) (ne_longValues_sl3_savedCells_sl3 : longValues_sl3 ≠ savedCells_sl3) (ne_longValues_sl3_savedValues_sl3 : longValues_sl3 ≠ savedValues_sl3) (ne_longSavedAt_sl3_savedCells_sl3 : longSavedAt_sl3 ≠ savedCells_sl3) (ne_longSavedAt_sl3_savedValues_sl3 : longSavedAt_sl3 ≠ savedValues_sl3) (ne_savedCells_sl3_savedValues_sl3 : savedCells_sl3 ≠ savedValues_sl3) (hc10 : ¬ (lA0_sl3 = epoch_sl3)) :
    MetFree l mt10 (head1 (Jvm.Cond.code mt10 prog_71_method_7_code 4 none :: ws) ({ frames := 1, cells := 0, slots := 0, locals := 15 } : Room)) (fun a U => a = #[(.ref thissl3), (.int (0 : Int32)), (.long ysl3_2)] ∧ Z.Warmed39 U.vm ∧ U.heap = h0) (fun _ _ _ _ _ => True) (fun _ U o U' => ∃ v L, o = .returned v ∧ (Q_sl3 Z thissl3 ysl3_2 values_sl3 savedAt_sl3 longValues_sl3 longSavedAt_sl3 savedCells_sl3 savedValues_sl3 cellCount_sl3 longCellCount_sl3 epoch_sl3 le0_sl3 rlongValues_sl3 lA0_sl3 rlongSavedAt_sl3 sl0_sl3 sl1_sl3 sl2_sl3 sl3_sl3 rsavedCells_sl3 se0_sl3 se1_sl3 se2_sl3 se3_sl3 rsavedValues_sl3 h0 n0) v U'.heap L ∧ FrameEnd U o U' L ({ frames := 1, cells := 0, slots := 0, locals := 15 } : Room).cells ({ frames := 1, cells := 0, slots := 0, locals := 15 } : Room).slots) := by
  refine MetFree.of_bodySF (plainFor_of_name pn1) hisR ?_
  intro p e s m args below meth c s₁ Bd hml0 hP hK
  obtain ⟨rfl, hZ, hh⟩ := hP
  have hx := Bd.exec
  have hby := Bd.bytes
  have hml : c.maxLocals = 4 := hml0
  have hown : s.vm.findClass "com/example/tauten/tauten/Trail" = some m.cls := findClass_of_methodNamed Bd.named
  have hnm := (name_of_methodNamed Bd.named Bd.method).1
  have X0 : Stand p l e ({ frames := 1, cells := 0, slots := 0, locals := 15 } : Room) s m #[(.ref thissl3), (.int (0 : Int32)), (.long ysl3_2)] below meth c s₁ [] 0 0 := Stand.of_body Bd
  have e0 : s₁.heap = h0 := by rw [← hh, Bd.state]; rfl
  have N0 := Fr.nil n0
  refine Wq.step (p := p) (e := e) (below := below) (En := (fun o t L => FrameEnd s o t L ({ frames := 1, cells := 0, slots := 0, locals := 15 } : Room).cells ({ frames := 1, cells := 0, slots := 0, locals := 15 } : Room).slots)) (Q := (Q_sl3 Z thissl3 ysl3_2 values_sl3 savedAt_sl3 longValues_sl3 longSavedAt_sl3 savedCells_sl3 savedValues_sl3 cellCount_sl3 longCellCount_sl3 epoch_sl3 le0_sl3 rlongValues_sl3 lA0_sl3 rlongSavedAt_sl3 sl0_sl3 sl1_sl3 sl2_sl3 sl3_sl3 rsavedCells_sl3 se0_sl3 se1_sl3 se2_sl3 se3_sl3 rsavedValues_sl3 h0 n0)) (fun t k => castTop (ef_sl3 m thissl3 ysl3_2) k) ?_
  show Wq _ _ _ _ _ (s₁.setTop (mkF m 0 #[.val (.ref thissl3), .val (.int (0 : Int32)), .val (.long ysl3_2), .second] []))
  refine Ow.aloadN X0 hx (pc' := 1) (hb hby d_prog_71_method_7_0) rfl rfl ?_
  obtain ⟨T303, X303, e303, st303⟩ := getF X0 hx hZ hown (host := "") (Or.inl (kw17 hw)) Via.refl e0 F_thissl3_longSavedAt (g := (mkF m 1 #[.val (.ref thissl3), .val (.int (0 : Int32)), .val (.long ysl3_2), .second] [(.ref thissl3)])) rfl rfl (hb hby d_prog_71_method_7_1)
  refine Wq.step st303 ?_
  show Wq _ _ _ _ _ (T303.setTop (mkF m 4 #[.val (.ref thissl3), .val (.int (0 : Int32)), .val (.long ysl3_2), .second] [(.ref longSavedAt_sl3)]))
  refine Ow.iloadN X303 hx (pc' := 5) (hb hby d_prog_71_method_7_4) rfl ?_
  refine Ow.ldI X303 hx hZ e303 V_longSavedAt_sl3 (pc' := 6) (hb hby d_prog_71_method_7_5) (j := (0 : Int32)) (i := 0) (v := (.int lA0_sl3)) (by decide) rfl rfl ?_
  refine Ow.aloadN X303 hx (pc' := 7) (hb hby d_prog_71_method_7_6) rfl rfl ?_
  obtain ⟨T304, X304, e304, st304⟩ := getF X303 hx hZ hown (host := "") (Or.inl (kw23 hw)) Via.refl e303 F_thissl3_epoch (g := (mkF m 7 #[.val (.ref thissl3), .val (.int (0 : Int32)), .val (.long ysl3_2), .second] [(.ref thissl3), (.int lA0_sl3)])) rfl rfl (hb hby d_prog_71_method_7_7)
  refine Wq.step st304 ?_
  show Wq _ _ _ _ _ (T304.setTop (mkF m 10 #[.val (.ref thissl3), .val (.int (0 : Int32)), .val (.long ysl3_2), .second] [(.int epoch_sl3), (.int lA0_sl3)]))
  refine Ow.icmpNo X304 hx (pc' := 13) (hb hby d_prog_71_method_7_10) (feq hc10).1 ?_
  refine Ow.aloadN X304 hx (pc' := 14) (hb hby d_prog_71_method_7_13) rfl rfl ?_
  refine Ow.iloadN X304 hx (pc' := 15) (hb hby d_prog_71_method_7_14) rfl ?_
  refine Ow.iconst X304 hx (pc' := 16) (hb hby d_prog_71_method_7_15) (z := (-1 : Int32)) rfl ?_
  refine Ow.ixor X304 hx (pc' := 17) (hb hby d_prog_71_method_7_16) (z := (-1 : Int32)) rfl ?_
  refine Ow.aloadN X304 hx (pc' := 18) (hb hby d_prog_71_method_7_17) rfl rfl ?_
  obtain ⟨T305, X305, e305, st305⟩ := getF X304 hx hZ hown (host := "") (Or.inl (kw15 hw)) Via.refl e304 F_thissl3_longValues (g := (mkF m 18 #[.val (.ref thissl3), .val (.int (0 : Int32)), .val (.long ysl3_2), .second] [(.ref thissl3), (.int (-1 : Int32)), (.ref thissl3)])) rfl rfl (hb hby d_prog_71_method_7_18)
  refine Wq.step st305 ?_
  show Wq _ _ _ _ _ (T305.setTop (mkF m 21 #[.val (.ref thissl3), .val (.int (0 : Int32)), .val (.long ysl3_2), .second] [(.ref longValues_sl3), (.int (-1 : Int32)), (.ref thissl3)]))
  refine Ow.iloadN X305 hx (pc' := 22) (hb hby d_prog_71_method_7_21) rfl ?_
  refine Ow.ldJ X305 hx hZ e305 V_longValues_sl3 (pc' := 23) (hb hby d_prog_71_method_7_22) (j := (0 : Int32)) (i := 0) (v := (.long le0_sl3)) (by decide) rfl rfl ?_
  obtain ⟨cq306, q306a, q306b⟩ := Exa.cell E_thissl3
  obtain ⟨_, _, ⟨T306, L306, k306, n306⟩, -, X306, ⟨Lc306, hQ306, l306, y306, z306⟩, st306⟩ := X305.privateBack hx (y := mt7) hown (mvT hZ (kw51 hw)) (mvT hZ (kw52 hw)) (Jvm.OwnW.selPriv (y := mt7) hZ (kw1 hw) (kw53 hw) (kw52 hw) (by decide)) (Cond.privateMethod_at (mvP hZ (kw53 hw) (args := #[]))) (mvT hZ (kw54 hw)) (by decide) (backOf (W := 0) (rm_sv3 l Z a0 hw [] thissl3 (-1 : Int32) le0_sl3 values_sl3 savedAt_sl3 longValues_sl3 longSavedAt_sl3 savedCells_sl3 savedValues_sl3 cellCount_sl3 longCellCount_sl3 epoch_sl3 sl0_sl3 sl1_sl3 sl2_sl3 sl3_sl3 rsavedCells_sl3 se0_sl3 se1_sl3 se2_sl3 se3_sl3 rsavedValues_sl3 h0 n0 Z0 (hlen) E_thissl3 F_thissl3_values F_thissl3_savedAt F_thissl3_longValues F_thissl3_longSavedAt F_thissl3_savedCells F_thissl3_savedValues F_thissl3_cellCount F_thissl3_longCellCount F_thissl3_savedCount F_thissl3_epoch g_thissl3 V_savedCells_sl3 g_savedCells_sl3 ne_savedCells_sl3_thissl3 V_savedValues_sl3 g_savedValues_sl3 ne_savedValues_sl3_thissl3 ne_savedCells_sl3_savedValues_sl3) hZ (kw54 hw) (kw2 hw) (by decide) (by decide)) (g := (mkF m 23 #[.val (.ref thissl3), .val (.int (0 : Int32)), .val (.long ysl3_2), .second] [(.long le0_sl3), (.int (-1 : Int32)), (.ref thissl3)])) rfl (by rw [hml]; rfl) (Steps.refl _) (a := thissl3) (by rw [e305]; exact q306a) q306b (argsL := [(.int (-1 : Int32)), (.long le0_sl3)]) (rest := []) (lenOf pd5 rfl) rfl (by show 2 * 0 + _ ≤ _; exact Nat.le_of_eq rfl) (hb hby d_prog_71_method_7_23) (fun _ _ => ⟨rfl, e305, (by decide : 0 + 0 ≤ _), (by decide : 0 + 0 ≤ _)⟩)
  dsimp only [Pt.U, Pt.locs, Pt.cells, Pt.slots] at X306 l306 y306 z306 st306 hQ306
  subst l306 y306 z306
  obtain ⟨rfl, Nq306, Kq306, P306_0, P306_1, P306_2, P306_3, P306_4, P306_5, P306_6, P306_7, P306_8, P306_9, P306_10, P306_11, P306_12⟩ := hQ306
  have N306 := Fr.app N0 Nq306
  have K306 : Keep h0 T306.heap [thissl3, savedValues_sl3, savedCells_sl3, longSavedAt_sl3, longValues_sl3] := (Keep.refl h0 [thissl3, savedValues_sl3, savedCells_sl3, longSavedAt_sl3, longValues_sl3]).trans Kq306 (allS (P := fun x => x ∈ [thissl3, savedValues_sl3, savedCells_sl3, longSavedAt_sl3, longValues_sl3] ∨ h0.size ≤ x) (Or.inl (List.mem_of_getElem? (i := 2) rfl)) (allS (P := fun x => x ∈ [thissl3, savedValues_sl3, savedCells_sl3, longSavedAt_sl3, longValues_sl3] ∨ h0.size ≤ x) (Or.inl (List.mem_of_getElem? (i := 1) rfl)) (allS (P := fun x => x ∈ [thissl3, savedValues_sl3, savedCells_sl3, longSavedAt_sl3, longValues_sl3] ∨ h0.size ≤ x) (Or.inl (List.mem_of_getElem? (i := 0) rfl)) all0)))
  have Z306 : n0 ≤ T306.heap.size := Nat.le_trans Z0 Kq306.1
  have E_thissl3_t306 := E_thissl3.keep Kq306
  have V_longValues_sl3_t306 := V_longValues_sl3.keep Kq306 (ninS ne_longValues_sl3_savedCells_sl3 (ninS ne_longValues_sl3_savedValues_sl3 (ninS ne_longValues_sl3_thissl3 nin0)))
  have V_longSavedAt_sl3_t306 := V_longSavedAt_sl3.keep Kq306 (ninS ne_longSavedAt_sl3_savedCells_sl3 (ninS ne_longSavedAt_sl3_savedValues_sl3 (ninS ne_longSavedAt_sl3_thissl3 nin0)))
  have e306 : T306.heap = T306.heap := rfl
  refine Wq.steps st306 ?_
  show Wq _ _ _ _ _ (T306.setTop (mkF m 26 #[.val (.ref thissl3), .val (.int (0 : Int32)), .val (.long ysl3_2), .second] []))
  refine Ow.aloadN X306 hx (pc' := 27) (hb hby d_prog_71_method_7_26) rfl rfl ?_
  obtain ⟨T307, X307, e307, st307⟩ := getF X306 hx hZ hown (host := "") (Or.inl (kw17 hw)) Via.refl e306 P306_4 (g := (mkF m 27 #[.val (.ref thissl3), .val (.int (0 : Int32)), .val (.long ysl3_2), .second] [(.ref thissl3)])) rfl rfl (hb hby d_prog_71_method_7_27)
  refine Wq.step st307 ?_
  show Wq _ _ _ _ _ (T307.setTop (mkF m 30 #[.val (.ref thissl3), .val (.int (0 : Int32)), .val (.long ysl3_2), .second] [(.ref longSavedAt_sl3)]))
  refine Ow.iloadN X307 hx (pc' := 31) (hb hby d_prog_71_method_7_30) rfl ?_
  refine Ow.aloadN X307 hx (pc' := 32) (hb hby d_prog_71_method_7_31) rfl rfl ?_
  obtain ⟨T308, X308, e308, st308⟩ := getF X307 hx hZ hown (host := "") (Or.inl (kw23 hw)) Via.refl e307 P306_9 (g := (mkF m 32 #[.val (.ref thissl3), .val (.int (0 : Int32)), .val (.long ysl3_2), .second] [(.ref thissl3), (.int (0 : Int32)), (.ref longSavedAt_sl3)])) rfl rfl (hb hby d_prog_71_method_7_32)
  refine Wq.step st308 ?_
  show Wq _ _ _ _ _ (T308.setTop (mkF m 35 #[.val (.ref thissl3), .val (.int (0 : Int32)), .val (.long ysl3_2), .second] [(.int epoch_sl3), (.int (0 : Int32)), (.ref longSavedAt_sl3)]))
  obtain ⟨T309, h309, X309, e309, W309, Vr309, st309⟩ := asI X308 hx hZ e308 V_longSavedAt_sl3_t306 (j := (0 : Int32)) (i := 0) (by decide) rfl (by simp only [List.length_cons]; omega) (g := (mkF m 35 #[.val (.ref thissl3), .val (.int (0 : Int32)), .val (.long ysl3_2), .second] [(.int epoch_sl3), (.int (0 : Int32)), (.ref longSavedAt_sl3)])) rfl rfl (hb hby d_prog_71_method_7_35)
  refine Wq.step st309 ?_
  have N309 := Fr.snoc X309 N306 g_longSavedAt_sl3
  have K309 : Keep h0 h309 [thissl3, savedValues_sl3, savedCells_sl3, longSavedAt_sl3, longValues_sl3] := K306.wr W309 (Or.inl (List.mem_of_getElem? (i := 3) rfl))
  have Z309 : n0 ≤ h309.size := Nat.le_trans Z306 (Keep.of_wr W309).1
  have E_thissl3_t309 := E_thissl3_t306.wr W309
  have V_longValues_sl3_t309 := V_longValues_sl3_t306.other W309 ne_longValues_sl3_longSavedAt_sl3
  have P306_1_t309 := P306_1.other W309 (Or.inl (Ne.symm ne_longSavedAt_sl3_thissl3))
  have P306_2_t309 := P306_2.other W309 (Or.inl (Ne.symm ne_longSavedAt_sl3_thissl3))
  have P306_3_t309 := P306_3.other W309 (Or.inl (Ne.symm ne_longSavedAt_sl3_thissl3))
  have P306_4_t309 := P306_4.other W309 (Or.inl (Ne.symm ne_longSavedAt_sl3_thissl3))
  have P306_5_t309 := P306_5.other W309 (Or.inl (Ne.symm ne_longSavedAt_sl3_thissl3))
  have P306_6_t309 := P306_6.other W309 (Or.inl (Ne.symm ne_longSavedAt_sl3_thissl3))
  have P306_7_t309 := P306_7.other W309 (Or.inl (Ne.symm ne_longSavedAt_sl3_thissl3))
  have P306_8_t309 := P306_8.other W309 (Or.inl (Ne.symm ne_longSavedAt_sl3_thissl3))
  have P306_9_t309 := P306_9.other W309 (Or.inl (Ne.symm ne_longSavedAt_sl3_thissl3))
  have P306_10_t309 := P306_10.other W309 (Ne.symm ne_longSavedAt_sl3_savedCells_sl3)
  have P306_11_t309 := P306_11.other W309 (Ne.symm ne_longSavedAt_sl3_savedValues_sl3)
  have P306_12_t309 := P306_12.other W309 (Or.inl (Ne.symm ne_longSavedAt_sl3_thissl3))
  have V_longSavedAt_sl3_t309 : Al Z h309 longSavedAt_sl3 .int ((.int epoch_sl3) :: rlongSavedAt_sl3) := Vr309
  show Wq _ _ _ _ _ (T309.setTop (mkF m 36 #[.val (.ref thissl3), .val (.int (0 : Int32)), .val (.long ysl3_2), .second] []))
  refine Ow.aloadN X309 hx (pc' := 37) (hb hby d_prog_71_method_7_36) rfl rfl ?_
  obtain ⟨T310, X310, e310, st310⟩ := getF X309 hx hZ hown (host := "") (Or.inl (kw15 hw)) Via.refl e309 P306_3_t309 (g := (mkF m 37 #[.val (.ref thissl3), .val (.int (0 : Int32)), .val (.long ysl3_2), .second] [(.ref thissl3)])) rfl rfl (hb hby d_prog_71_method_7_37)
  refine Wq.step st310 ?_
  show Wq _ _ _ _ _ (T310.setTop (mkF m 40 #[.val (.ref thissl3), .val (.int (0 : Int32)), .val (.long ysl3_2), .second] [(.ref longValues_sl3)]))
  refine Ow.iloadN X310 hx (pc' := 41) (hb hby d_prog_71_method_7_40) rfl ?_
  refine Ow.lloadN X310 hx (pc' := 42) (hb hby d_prog_71_method_7_41) rfl ?_
  obtain ⟨T311, h311, X311, e311, W311, Vr311, st311⟩ := asJ X310 hx hZ e310 V_longValues_sl3_t309 (j := (0 : Int32)) (i := 0) (by decide) rfl (by simp only [List.length_cons]; omega) (g := (mkF m 42 #[.val (.ref thissl3), .val (.int (0 : Int32)), .val (.long ysl3_2), .second] [(.long ysl3_2), (.int (0 : Int32)), (.ref longValues_sl3)])) rfl rfl (hb hby d_prog_71_method_7_42)
  refine Wq.step st311 ?_
  have N311 := Fr.snoc X311 N309 g_longValues_sl3
  have K311 : Keep h0 h311 [thissl3, savedValues_sl3, savedCells_sl3, longSavedAt_sl3, longValues_sl3] := K309.wr W311 (Or.inl (List.mem_of_getElem? (i := 4) rfl))
  have Z311 : n0 ≤ h311.size := Nat.le_trans Z309 (Keep.of_wr W311).1
  have E_thissl3_t311 := E_thissl3_t309.wr W311
  have P306_1_t311 := P306_1_t309.other W311 (Or.inl (Ne.symm ne_longValues_sl3_thissl3))
  have P306_2_t311 := P306_2_t309.other W311 (Or.inl (Ne.symm ne_longValues_sl3_thissl3))
  have P306_3_t311 := P306_3_t309.other W311 (Or.inl (Ne.symm ne_longValues_sl3_thissl3))
  have P306_4_t311 := P306_4_t309.other W311 (Or.inl (Ne.symm ne_longValues_sl3_thissl3))
  have P306_5_t311 := P306_5_t309.other W311 (Or.inl (Ne.symm ne_longValues_sl3_thissl3))
  have P306_6_t311 := P306_6_t309.other W311 (Or.inl (Ne.symm ne_longValues_sl3_thissl3))
  have P306_7_t311 := P306_7_t309.other W311 (Or.inl (Ne.symm ne_longValues_sl3_thissl3))
  have P306_8_t311 := P306_8_t309.other W311 (Or.inl (Ne.symm ne_longValues_sl3_thissl3))
  have P306_9_t311 := P306_9_t309.other W311 (Or.inl (Ne.symm ne_longValues_sl3_thissl3))
  have P306_10_t311 := P306_10_t309.other W311 (Ne.symm ne_longValues_sl3_savedCells_sl3)
  have P306_11_t311 := P306_11_t309.other W311 (Ne.symm ne_longValues_sl3_savedValues_sl3)
  have P306_12_t311 := P306_12_t309.other W311 (Or.inl (Ne.symm ne_longValues_sl3_thissl3))
  have V_longSavedAt_sl3_t311 := V_longSavedAt_sl3_t309.other W311 (Ne.symm ne_longValues_sl3_longSavedAt_sl3)
  have V_longValues_sl3_t311 : Al Z h311 longValues_sl3 .long ((.long ysl3_2) :: rlongValues_sl3) := Vr311
  show Wq _ _ _ _ _ (T311.setTop (mkF m 43 #[.val (.ref thissl3), .val (.int (0 : Int32)), .val (.long ysl3_2), .second] []))
  exact Wq.ret X311 (BodyLoose.notSynchronized Bd) (rv := none) (fun _ => rfl) (fun _ hr => X311.returnOut hx Bd.returns (hb hby d_prog_71_method_7_43) hr) (by decide) (by decide) (by rw [e311]; exact ⟨rfl, N311, K311, E_thissl3_t311, P306_1_t311, P306_2_t311, P306_3_t311, P306_4_t311, P306_5_t311, P306_6_t311, P306_7_t311, P306_8_t311, P306_9_t311, P306_10_t311, P306_11_t311, P306_12_t311, V_longSavedAt_sl3_t311, V_longValues_sl3_t311⟩)
theorem ef_un42il (m : MethodId) (thisun42il : Addr) : entryFrame m #[(.ref thisun42il), (.int (2 : Int32))] 3 = mkF m 0 #[.val (.ref thisun42il), .val (.int (2 : Int32)), .unset] [] := by first | (simp [entryFrame, mkF, argsToLocals, Value.category]; done) | rfl
def Q_un42il (Z : State) (thisun42il : Addr) (values_un42il : Addr) (savedAt_un42il : Addr) (longValues_un42il : Addr) (longSavedAt_un42il : Addr) (savedCells_un42il : Addr) (savedValues_un42il : Addr) (cellCount_un42il : Int32) (longCellCount_un42il : Int32) (epoch_un42il : Int32) (ve0_un42il : Int32) (rvalues_un42il : List Value) (le0_un42il : Int64) (rlongValues_un42il : List Value) (sl0_un42il : Int32) (sl1_un42il : Int32) (rsavedCells_un42il : List Value) (se0_un42il : Int64) (se1_un42il : Int64) (se2_un42il : Int64) (se3_un42il : Int64) (rsavedValues_un42il : List Value) (h0 : Heap) (n0 : Nat) (v : Option Value) (h : Heap) (L : List Loc) : Prop := v = none ∧ Fr n0 L ∧ Keep h0 h [thisun42il, longValues_un42il, values_un42il] ∧ Exa Z h thisun42il "com/example/tauten/tauten/Trail" ∧ Fld Z h thisun42il "com/example/tauten/tauten/Trail" "values" "[I" (.ref values_un42il) ∧ Fld Z h thisun42il "com/example/tauten/tauten/Trail" "savedAt" "[I" (.ref savedAt_un42il) ∧ Fld Z h thisun42il "com/example/tauten/tauten/Trail" "longValues" "[J" (.ref longValues_un42il) ∧ Fld Z h thisun42il "com/example/tauten/tauten/Trail" "longSavedAt" "[I" (.ref longSavedAt_un42il) ∧ Fld Z h thisun42il "com/example/tauten/tauten/Trail" "savedCells" "[I" (.ref savedCells_un42il) ∧ Fld Z h thisun42il "com/example/tauten/tauten/Trail" "savedValues" "[J" (.ref savedValues_un42il) ∧ Fld Z h thisun42il "com/example/tauten/tauten/Trail" "cellCount" "I" (.int cellCount_un42il) ∧ Fld Z h thisun42il "com/example/tauten/tauten/Trail" "longCellCount" "I" (.int longCellCount_un42il) ∧ Al Z h longValues_un42il .long ((.long se3_un42il) :: rlongValues_un42il) ∧ Fld Z h thisun42il "com/example/tauten/tauten/Trail" "savedCount" "I" (.int (2 : Int32)) ∧ Al Z h values_un42il .int ((.int (se2_un42il.toInt32)) :: rvalues_un42il) ∧ Fld Z h thisun42il "com/example/tauten/tauten/Trail" "epoch" "I" (.int (epoch_un42il + (1 : Int32)))
set_option maxRecDepth 65536 in
set_option maxHeartbeats 40000000 in
theorem rm_un42il (l : Launch) (Z : State) (a0 : Array Value) (hw : ∀ d ∈ tables_1, d.before a0 Z = true) (ws : List Jvm.Cond) (thisun42il : Addr) (values_un42il : Addr) (savedAt_un42il : Addr) (longValues_un42il : Addr) (longSavedAt_un42il : Addr) (savedCells_un42il : Addr) (savedValues_un42il : Addr) (cellCount_un42il : Int32) (longCellCount_un42il : Int32) (epoch_un42il : Int32) (ve0_un42il : Int32) (rvalues_un42il : List Value) (le0_un42il : Int64) (rlongValues_un42il : List Value) (sl0_un42il : Int32) (sl1_un42il : Int32) (rsavedCells_un42il : List Value) (se0_un42il : Int64) (se1_un42il : Int64) (se2_un42il : Int64) (se3_un42il : Int64) (rsavedValues_un42il : List Value) (h0 : Heap) (n0 : Nat) (Z0 : n0 ≤ h0.size) (E_thisun42il : Exa Z h0 thisun42il "com/example/tauten/tauten/Trail") (F_thisun42il_values : Fld Z h0 thisun42il "com/example/tauten/tauten/Trail" "values" "[I" (.ref values_un42il)) (F_thisun42il_savedAt : Fld Z h0 thisun42il "com/example/tauten/tauten/Trail" "savedAt" "[I" (.ref savedAt_un42il)) (F_thisun42il_longValues : Fld Z h0 thisun42il "com/example/tauten/tauten/Trail" "longValues" "[J" (.ref longValues_un42il)) (F_thisun42il_longSavedAt : Fld Z h0 thisun42il "com/example/tauten/tauten/Trail" "longSavedAt" "[I" (.ref longSavedAt_un42il)) (F_thisun42il_savedCells : Fld Z h0 thisun42il "com/example/tauten/tauten/Trail" "savedCells" "[I" (.ref savedCells_un42il)) (F_thisun42il_savedValues : Fld Z h0 thisun42il "com/example/tauten/tauten/Trail" "savedValues" "[J" (.ref savedValues_un42il)) (F_thisun42il_cellCount : Fld Z h0 thisun42il "com/example/tauten/tauten/Trail" "cellCount" "I" (.int cellCount_un42il)) (F_thisun42il_longCellCount : Fld Z h0 thisun42il "com/example/tauten/tauten/Trail" "longCellCount" "I" (.int longCellCount_un42il)) (F_thisun42il_savedCount : Fld Z h0 thisun42il "com/example/tauten/tauten/Trail" "savedCount" "I" (.int (4 : Int32))) (F_thisun42il_epoch : Fld Z h0 thisun42il "com/example/tauten/tauten/Trail" "epoch" "I" (.int epoch_un42il)) (g_thisun42il : n0 ≤ thisun42il) (V_values_un42il : Al Z h0 values_un42il .int ((.int ve0_un42il) :: rvalues_un42il)) (g_values_un42il : n0 ≤ values_un42il) (ne_values_un42il_thisun42il : values_un42il ≠ thisun42il) (V_longValues_un42il : Al Z h0 longValues_un42il .long ((.long le0_un42il) :: rlongValues_un42il)) (g_longValues_un42il : n0 ≤ longValues_un42il) (ne_longValues_un42il_thisun42il : longValues_un42il ≠ thisun42il) (V_savedCells_un42il : Al Z h0 savedCells_un42il .int ((.int sl0_un42il) :: (.int sl1_un42il) :: (.int (0 : Int32)) :: (.int (-1 : Int32)) :: rsavedCells_un42il)) (g_savedCells_un42il : n0 ≤ savedCells_un42il) (ne_savedCells_un42il_thisun42il : savedCells_un42il ≠ thisun42il) (V_savedValues_un42il : Al Z h0 savedValues_un42il .long ((.long se0_un42il) :: (.long se1_un42il) :: (.long se2_un42il) :: (.long se3_un42il) :: rsavedValues_un42il)) (g_savedValues_un42il : n0 ≤ savedValues_un42il) (ne_savedValues_un42il_thisun42il : savedValues_un42il ≠ thisun42il) (ne_values_un42il_longValues_un42il : values_un42il ≠ longValues_un42il) (ne_values_un42il_savedCells_un42il : values_un42il ≠ savedCells_un42il) (ne_values_un42il_savedValues_un42il : values_un42il ≠ savedValues_un42il) (ne_longValues_un42il_savedCells_un42il : longValues_un42il ≠ savedCells_un42il) (ne_longValues_un42il_savedValues_un42il : longValues_un42il ≠ savedValues_un42il) (ne_savedCells_un42il_savedValues_un42il : savedCells_un42il ≠ savedValues_un42il) :
    MetFree l mt9 (head1 (Jvm.Cond.code mt9 prog_71_method_9_code 3 none :: ws) ({ frames := 0, cells := 0, slots := 0, locals := 0 } : Room)) (fun a U => a = #[(.ref thisun42il), (.int (2 : Int32))] ∧ Z.Warmed39 U.vm ∧ U.heap = h0) (fun _ _ _ _ _ => True) (fun _ U o U' => ∃ v L, o = .returned v ∧ (Q_un42il Z thisun42il values_un42il savedAt_un42il longValues_un42il longSavedAt_un42il savedCells_un42il savedValues_un42il cellCount_un42il longCellCount_un42il epoch_un42il ve0_un42il rvalues_un42il le0_un42il rlongValues_un42il sl0_un42il sl1_un42il rsavedCells_un42il se0_un42il se1_un42il se2_un42il se3_un42il rsavedValues_un42il h0 n0) v U'.heap L ∧ FrameEnd U o U' L ({ frames := 0, cells := 0, slots := 0, locals := 0 } : Room).cells ({ frames := 0, cells := 0, slots := 0, locals := 0 } : Room).slots) := by
  refine MetFree.of_bodySF (plainFor_of_name pn1) hisR ?_
  intro p e s m args below meth c s₁ Bd hml0 hP hK
  obtain ⟨rfl, hZ, hh⟩ := hP
  have hx := Bd.exec
  have hby := Bd.bytes
  have hml : c.maxLocals = 3 := hml0
  have hown : s.vm.findClass "com/example/tauten/tauten/Trail" = some m.cls := findClass_of_methodNamed Bd.named
  have hnm := (name_of_methodNamed Bd.named Bd.method).1
  have X0 : Stand p l e ({ frames := 0, cells := 0, slots := 0, locals := 0 } : Room) s m #[(.ref thisun42il), (.int (2 : Int32))] below meth c s₁ [] 0 0 := Stand.of_body Bd
  have e0 : s₁.heap = h0 := by rw [← hh, Bd.state]; rfl
  have N0 := Fr.nil n0
  refine Wq.step (p := p) (e := e) (below := below) (En := (fun o t L => FrameEnd s o t L ({ frames := 0, cells := 0, slots := 0, locals := 0 } : Room).cells ({ frames := 0, cells := 0, slots := 0, locals := 0 } : Room).slots)) (Q := (Q_un42il Z thisun42il values_un42il savedAt_un42il longValues_un42il longSavedAt_un42il savedCells_un42il savedValues_un42il cellCount_un42il longCellCount_un42il epoch_un42il ve0_un42il rvalues_un42il le0_un42il rlongValues_un42il sl0_un42il sl1_un42il rsavedCells_un42il se0_un42il se1_un42il se2_un42il se3_un42il rsavedValues_un42il h0 n0)) (fun t k => castTop (ef_un42il m thisun42il) k) ?_
  show Wq _ _ _ _ _ (s₁.setTop (mkF m 0 #[.val (.ref thisun42il), .val (.int (2 : Int32)), .unset] []))
  refine Ow.aloadN X0 hx (pc' := 1) (hb hby d_prog_71_method_9_0) rfl rfl ?_
  obtain ⟨T313, X313, e313, st313⟩ := getF X0 hx hZ hown (host := "") (Or.inl (kw44 hw)) Via.refl e0 F_thisun42il_savedCount (g := (mkF m 1 #[.val (.ref thisun42il), .val (.int (2 : Int32)), .unset] [(.ref thisun42il)])) rfl rfl (hb hby d_prog_71_method_9_1)
  refine Wq.step st313 ?_
  show Wq _ _ _ _ _ (T313.setTop (mkF m 4 #[.val (.ref thisun42il), .val (.int (2 : Int32)), .unset] [(.int (4 : Int32))]))
  refine Ow.iloadN X313 hx (pc' := 5) (hb hby d_prog_71_method_9_4) rfl ?_
  refine Ow.icmpNo X313 hx (pc' := 8) (hb hby d_prog_71_method_9_5) (tlt (by decide : (2 : Int32) < (4 : Int32))).2.2.2 ?_
  refine Ow.aloadN X313 hx (pc' := 9) (hb hby d_prog_71_method_9_8) rfl rfl ?_
  refine Ow.dup X313 hx (pc' := 10) (hb hby d_prog_71_method_9_9) rfl ?_
  obtain ⟨T314, X314, e314, st314⟩ := getF X313 hx hZ hown (host := "") (Or.inl (kw44 hw)) Via.refl e313 F_thisun42il_savedCount (g := (mkF m 10 #[.val (.ref thisun42il), .val (.int (2 : Int32)), .unset] [(.ref thisun42il), (.ref thisun42il)])) rfl rfl (hb hby d_prog_71_method_9_10)
  refine Wq.step st314 ?_
  show Wq _ _ _ _ _ (T314.setTop (mkF m 13 #[.val (.ref thisun42il), .val (.int (2 : Int32)), .unset] [(.int (4 : Int32)), (.ref thisun42il)]))
  refine Ow.iconst X314 hx (pc' := 14) (hb hby d_prog_71_method_9_13) (z := (1 : Int32)) rfl ?_
  refine Ow.isub X314 hx (pc' := 15) (hb hby d_prog_71_method_9_14) (z := (3 : Int32)) rfl ?_
  obtain ⟨T315, h315, X315, e315, W315, st315⟩ := putF X314 hx hZ hown (host := "") (Or.inl (kw44 hw)) Via.refl e314 F_thisun42il_savedCount E_thisun42il (Or.inl (kw45 hw)) (kw1 hw) (ty := .int) (by decide) (rfl) (rfl) (g := (mkF m 15 #[.val (.ref thisun42il), .val (.int (2 : Int32)), .unset] [(.int (3 : Int32)), (.ref thisun42il)])) rfl rfl (hb hby d_prog_71_method_9_15)
  refine Wq.step st315 ?_
  have N315 := Fr.snoc X315 N0 g_thisun42il
  have K315 : Keep h0 h315 [thisun42il, longValues_un42il, values_un42il] := (Keep.refl h0 [thisun42il, longValues_un42il, values_un42il]).wr W315 (Or.inl (List.mem_of_getElem? (i := 0) rfl))
  have Z315 : n0 ≤ h315.size := Nat.le_trans Z0 (Keep.of_wr W315).1
  have E_thisun42il_t315 := E_thisun42il.wr W315
  have F_thisun42il_values_t315 := F_thisun42il_values.other W315 (Or.inr (slot_ne (Or.inl (kw11 hw)) (Or.inl (kw45 hw)) (by decide) (t := (.array .int)) (t' := .int) (by decide) (by decide)))
  have F_thisun42il_savedAt_t315 := F_thisun42il_savedAt.other W315 (Or.inr (slot_ne (Or.inl (kw13 hw)) (Or.inl (kw45 hw)) (by decide) (t := (.array .int)) (t' := .int) (by decide) (by decide)))
  have F_thisun42il_longValues_t315 := F_thisun42il_longValues.other W315 (Or.inr (slot_ne (Or.inl (kw16 hw)) (Or.inl (kw45 hw)) (by decide) (t := (.array .long)) (t' := .int) (by decide) (by decide)))
  have F_thisun42il_longSavedAt_t315 := F_thisun42il_longSavedAt.other W315 (Or.inr (slot_ne (Or.inl (kw18 hw)) (Or.inl (kw45 hw)) (by decide) (t := (.array .int)) (t' := .int) (by decide) (by decide)))
  have F_thisun42il_savedCells_t315 := F_thisun42il_savedCells.other W315 (Or.inr (slot_ne (Or.inl (kw20 hw)) (Or.inl (kw45 hw)) (by decide) (t := (.array .int)) (t' := .int) (by decide) (by decide)))
  have F_thisun42il_savedValues_t315 := F_thisun42il_savedValues.other W315 (Or.inr (slot_ne (Or.inl (kw22 hw)) (Or.inl (kw45 hw)) (by decide) (t := (.array .long)) (t' := .int) (by decide) (by decide)))
  have F_thisun42il_cellCount_t315 := F_thisun42il_cellCount.other W315 (Or.inr (slot_ne (Or.inl (kw31 hw)) (Or.inl (kw45 hw)) (by decide) (t := .int) (t' := .int) (by decide) (by decide)))
  have F_thisun42il_longCellCount_t315 := F_thisun42il_longCellCount.other W315 (Or.inr (slot_ne (Or.inl (kw38 hw)) (Or.inl (kw45 hw)) (by decide) (t := .int) (t' := .int) (by decide) (by decide)))
  have F_thisun42il_epoch_t315 := F_thisun42il_epoch.other W315 (Or.inr (slot_ne (Or.inl (kw24 hw)) (Or.inl (kw45 hw)) (by decide) (t := .int) (t' := .int) (by decide) (by decide)))
  have V_values_un42il_t315 := V_values_un42il.other W315 ne_values_un42il_thisun42il
  have V_longValues_un42il_t315 := V_longValues_un42il.other W315 ne_longValues_un42il_thisun42il
  have V_savedCells_un42il_t315 := V_savedCells_un42il.other W315 ne_savedCells_un42il_thisun42il
  have V_savedValues_un42il_t315 := V_savedValues_un42il.other W315 ne_savedValues_un42il_thisun42il
  have F_thisun42il_savedCount_t315 : Fld Z h315 thisun42il "com/example/tauten/tauten/Trail" "savedCount" "I" (.int (3 : Int32)) := F_thisun42il_savedCount.same W315
  show Wq _ _ _ _ _ (T315.setTop (mkF m 18 #[.val (.ref thisun42il), .val (.int (2 : Int32)), .unset] []))
  refine Ow.aloadN X315 hx (pc' := 19) (hb hby d_prog_71_method_9_18) rfl rfl ?_
  obtain ⟨T316, X316, e316, st316⟩ := getF X315 hx hZ hown (host := "") (Or.inl (kw19 hw)) Via.refl e315 F_thisun42il_savedCells_t315 (g := (mkF m 19 #[.val (.ref thisun42il), .val (.int (2 : Int32)), .unset] [(.ref thisun42il)])) rfl rfl (hb hby d_prog_71_method_9_19)
  refine Wq.step st316 ?_
  show Wq _ _ _ _ _ (T316.setTop (mkF m 22 #[.val (.ref thisun42il), .val (.int (2 : Int32)), .unset] [(.ref savedCells_un42il)]))
  refine Ow.aloadN X316 hx (pc' := 23) (hb hby d_prog_71_method_9_22) rfl rfl ?_
  obtain ⟨T317, X317, e317, st317⟩ := getF X316 hx hZ hown (host := "") (Or.inl (kw44 hw)) Via.refl e316 F_thisun42il_savedCount_t315 (g := (mkF m 23 #[.val (.ref thisun42il), .val (.int (2 : Int32)), .unset] [(.ref thisun42il), (.ref savedCells_un42il)])) rfl rfl (hb hby d_prog_71_method_9_23)
  refine Wq.step st317 ?_
  show Wq _ _ _ _ _ (T317.setTop (mkF m 26 #[.val (.ref thisun42il), .val (.int (2 : Int32)), .unset] [(.int (3 : Int32)), (.ref savedCells_un42il)]))
  refine Ow.ldI X317 hx hZ e317 V_savedCells_un42il_t315 (pc' := 27) (hb hby d_prog_71_method_9_26) (j := (3 : Int32)) (i := 3) (v := (.int (-1 : Int32))) (by decide) rfl rfl ?_
  refine Ow.istoreN X317 hx (pc' := 28) (hb hby d_prog_71_method_9_27) (l' := #[.val (.ref thisun42il), .val (.int (2 : Int32)), .val (.int (-1 : Int32))]) rfl ?_
  refine Ow.iloadN X317 hx (pc' := 29) (hb hby d_prog_71_method_9_28) rfl ?_
  refine Ow.ifYes X317 hx (pc' := 51) (hb hby d_prog_71_method_9_29) ((if0 _ _).trans (tlt (by decide : (-1 : Int32) < (0 : Int32))).1) (by decide) (by decide) ?_
  refine Ow.aloadN X317 hx (pc' := 52) (hb hby d_prog_71_method_9_51) rfl rfl ?_
  obtain ⟨T318, X318, e318, st318⟩ := getF X317 hx hZ hown (host := "") (Or.inl (kw15 hw)) Via.refl e317 F_thisun42il_longValues_t315 (g := (mkF m 52 #[.val (.ref thisun42il), .val (.int (2 : Int32)), .val (.int (-1 : Int32))] [(.ref thisun42il)])) rfl rfl (hb hby d_prog_71_method_9_52)
  refine Wq.step st318 ?_
  show Wq _ _ _ _ _ (T318.setTop (mkF m 55 #[.val (.ref thisun42il), .val (.int (2 : Int32)), .val (.int (-1 : Int32))] [(.ref longValues_un42il)]))
  refine Ow.iloadN X318 hx (pc' := 56) (hb hby d_prog_71_method_9_55) rfl ?_
  refine Ow.iconst X318 hx (pc' := 57) (hb hby d_prog_71_method_9_56) (z := (-1 : Int32)) rfl ?_
  refine Ow.ixor X318 hx (pc' := 58) (hb hby d_prog_71_method_9_57) (z := (0 : Int32)) rfl ?_
  refine Ow.aloadN X318 hx (pc' := 59) (hb hby d_prog_71_method_9_58) rfl rfl ?_
  obtain ⟨T319, X319, e319, st319⟩ := getF X318 hx hZ hown (host := "") (Or.inl (kw21 hw)) Via.refl e318 F_thisun42il_savedValues_t315 (g := (mkF m 59 #[.val (.ref thisun42il), .val (.int (2 : Int32)), .val (.int (-1 : Int32))] [(.ref thisun42il), (.int (0 : Int32)), (.ref longValues_un42il)])) rfl rfl (hb hby d_prog_71_method_9_59)
  refine Wq.step st319 ?_
  show Wq _ _ _ _ _ (T319.setTop (mkF m 62 #[.val (.ref thisun42il), .val (.int (2 : Int32)), .val (.int (-1 : Int32))] [(.ref savedValues_un42il), (.int (0 : Int32)), (.ref longValues_un42il)]))
  refine Ow.aloadN X319 hx (pc' := 63) (hb hby d_prog_71_method_9_62) rfl rfl ?_
  obtain ⟨T320, X320, e320, st320⟩ := getF X319 hx hZ hown (host := "") (Or.inl (kw44 hw)) Via.refl e319 F_thisun42il_savedCount_t315 (g := (mkF m 63 #[.val (.ref thisun42il), .val (.int (2 : Int32)), .val (.int (-1 : Int32))] [(.ref thisun42il), (.ref savedValues_un42il), (.int (0 : Int32)), (.ref longValues_un42il)])) rfl rfl (hb hby d_prog_71_method_9_63)
  refine Wq.step st320 ?_
  show Wq _ _ _ _ _ (T320.setTop (mkF m 66 #[.val (.ref thisun42il), .val (.int (2 : Int32)), .val (.int (-1 : Int32))] [(.int (3 : Int32)), (.ref savedValues_un42il), (.int (0 : Int32)), (.ref longValues_un42il)]))
  refine Ow.ldJ X320 hx hZ e320 V_savedValues_un42il_t315 (pc' := 67) (hb hby d_prog_71_method_9_66) (j := (3 : Int32)) (i := 3) (v := (.long se3_un42il)) (by decide) rfl rfl ?_
  obtain ⟨T321, h321, X321, e321, W321, Vr321, st321⟩ := asJ X320 hx hZ e320 V_longValues_un42il_t315 (j := (0 : Int32)) (i := 0) (by decide) rfl (by simp only [List.length_cons]; omega) (g := (mkF m 67 #[.val (.ref thisun42il), .val (.int (2 : Int32)), .val (.int (-1 : Int32))] [(.long se3_un42il), (.int (0 : Int32)), (.ref longValues_un42il)])) rfl rfl (hb hby d_prog_71_method_9_67)
  refine Wq.step st321 ?_
  have N321 := Fr.snoc X321 N315 g_longValues_un42il
  have K321 : Keep h0 h321 [thisun42il, longValues_un42il, values_un42il] := K315.wr W321 (Or.inl (List.mem_of_getElem? (i := 1) rfl))
  have Z321 : n0 ≤ h321.size := Nat.le_trans Z315 (Keep.of_wr W321).1
  have E_thisun42il_t321 := E_thisun42il_t315.wr W321
  have F_thisun42il_values_t321 := F_thisun42il_values_t315.other W321 (Or.inl (Ne.symm ne_longValues_un42il_thisun42il))
  have F_thisun42il_savedAt_t321 := F_thisun42il_savedAt_t315.other W321 (Or.inl (Ne.symm ne_longValues_un42il_thisun42il))
  have F_thisun42il_longValues_t321 := F_thisun42il_longValues_t315.other W321 (Or.inl (Ne.symm ne_longValues_un42il_thisun42il))
  have F_thisun42il_longSavedAt_t321 := F_thisun42il_longSavedAt_t315.other W321 (Or.inl (Ne.symm ne_longValues_un42il_thisun42il))
  have F_thisun42il_savedCells_t321 := F_thisun42il_savedCells_t315.other W321 (Or.inl (Ne.symm ne_longValues_un42il_thisun42il))
  have F_thisun42il_savedValues_t321 := F_thisun42il_savedValues_t315.other W321 (Or.inl (Ne.symm ne_longValues_un42il_thisun42il))
  have F_thisun42il_cellCount_t321 := F_thisun42il_cellCount_t315.other W321 (Or.inl (Ne.symm ne_longValues_un42il_thisun42il))
  have F_thisun42il_longCellCount_t321 := F_thisun42il_longCellCount_t315.other W321 (Or.inl (Ne.symm ne_longValues_un42il_thisun42il))
  have F_thisun42il_epoch_t321 := F_thisun42il_epoch_t315.other W321 (Or.inl (Ne.symm ne_longValues_un42il_thisun42il))
  have V_values_un42il_t321 := V_values_un42il_t315.other W321 ne_values_un42il_longValues_un42il
  have V_savedCells_un42il_t321 := V_savedCells_un42il_t315.other W321 (Ne.symm ne_longValues_un42il_savedCells_un42il)
  have V_savedValues_un42il_t321 := V_savedValues_un42il_t315.other W321 (Ne.symm ne_longValues_un42il_savedValues_un42il)
  have F_thisun42il_savedCount_t321 := F_thisun42il_savedCount_t315.other W321 (Or.inl (Ne.symm ne_longValues_un42il_thisun42il))
  have V_longValues_un42il_t321 : Al Z h321 longValues_un42il .long ((.long se3_un42il) :: rlongValues_un42il) := Vr321
  show Wq _ _ _ _ _ (T321.setTop (mkF m 68 #[.val (.ref thisun42il), .val (.int (2 : Int32)), .val (.int (-1 : Int32))] []))
  refine Ow.goto X321 hx (pc' := 0) (hb hby d_prog_71_method_9_68) (by decide) (by decide) ?_
  refine Ow.aloadN X321 hx (pc' := 1) (hb hby d_prog_71_method_9_0) rfl rfl ?_
  obtain ⟨T322, X322, e322, st322⟩ := getF X321 hx hZ hown (host := "") (Or.inl (kw44 hw)) Via.refl e321 F_thisun42il_savedCount_t321 (g := (mkF m 1 #[.val (.ref thisun42il), .val (.int (2 : Int32)), .val (.int (-1 : Int32))] [(.ref thisun42il)])) rfl rfl (hb hby d_prog_71_method_9_1)
  refine Wq.step st322 ?_
  show Wq _ _ _ _ _ (T322.setTop (mkF m 4 #[.val (.ref thisun42il), .val (.int (2 : Int32)), .val (.int (-1 : Int32))] [(.int (3 : Int32))]))
  refine Ow.iloadN X322 hx (pc' := 5) (hb hby d_prog_71_method_9_4) rfl ?_
  refine Ow.icmpNo X322 hx (pc' := 8) (hb hby d_prog_71_method_9_5) (tlt (by decide : (2 : Int32) < (3 : Int32))).2.2.2 ?_
  refine Ow.aloadN X322 hx (pc' := 9) (hb hby d_prog_71_method_9_8) rfl rfl ?_
  refine Ow.dup X322 hx (pc' := 10) (hb hby d_prog_71_method_9_9) rfl ?_
  obtain ⟨T323, X323, e323, st323⟩ := getF X322 hx hZ hown (host := "") (Or.inl (kw44 hw)) Via.refl e322 F_thisun42il_savedCount_t321 (g := (mkF m 10 #[.val (.ref thisun42il), .val (.int (2 : Int32)), .val (.int (-1 : Int32))] [(.ref thisun42il), (.ref thisun42il)])) rfl rfl (hb hby d_prog_71_method_9_10)
  refine Wq.step st323 ?_
  show Wq _ _ _ _ _ (T323.setTop (mkF m 13 #[.val (.ref thisun42il), .val (.int (2 : Int32)), .val (.int (-1 : Int32))] [(.int (3 : Int32)), (.ref thisun42il)]))
  refine Ow.iconst X323 hx (pc' := 14) (hb hby d_prog_71_method_9_13) (z := (1 : Int32)) rfl ?_
  refine Ow.isub X323 hx (pc' := 15) (hb hby d_prog_71_method_9_14) (z := (2 : Int32)) rfl ?_
  obtain ⟨T324, h324, X324, e324, W324, st324⟩ := putF X323 hx hZ hown (host := "") (Or.inl (kw44 hw)) Via.refl e323 F_thisun42il_savedCount_t321 E_thisun42il_t321 (Or.inl (kw45 hw)) (kw1 hw) (ty := .int) (by decide) (rfl) (rfl) (g := (mkF m 15 #[.val (.ref thisun42il), .val (.int (2 : Int32)), .val (.int (-1 : Int32))] [(.int (2 : Int32)), (.ref thisun42il)])) rfl rfl (hb hby d_prog_71_method_9_15)
  refine Wq.step st324 ?_
  have N324 := Fr.snoc X324 N321 g_thisun42il
  have K324 : Keep h0 h324 [thisun42il, longValues_un42il, values_un42il] := K321.wr W324 (Or.inl (List.mem_of_getElem? (i := 0) rfl))
  have Z324 : n0 ≤ h324.size := Nat.le_trans Z321 (Keep.of_wr W324).1
  have E_thisun42il_t324 := E_thisun42il_t321.wr W324
  have F_thisun42il_values_t324 := F_thisun42il_values_t321.other W324 (Or.inr (slot_ne (Or.inl (kw11 hw)) (Or.inl (kw45 hw)) (by decide) (t := (.array .int)) (t' := .int) (by decide) (by decide)))
  have F_thisun42il_savedAt_t324 := F_thisun42il_savedAt_t321.other W324 (Or.inr (slot_ne (Or.inl (kw13 hw)) (Or.inl (kw45 hw)) (by decide) (t := (.array .int)) (t' := .int) (by decide) (by decide)))
  have F_thisun42il_longValues_t324 := F_thisun42il_longValues_t321.other W324 (Or.inr (slot_ne (Or.inl (kw16 hw)) (Or.inl (kw45 hw)) (by decide) (t := (.array .long)) (t' := .int) (by decide) (by decide)))
  have F_thisun42il_longSavedAt_t324 := F_thisun42il_longSavedAt_t321.other W324 (Or.inr (slot_ne (Or.inl (kw18 hw)) (Or.inl (kw45 hw)) (by decide) (t := (.array .int)) (t' := .int) (by decide) (by decide)))
  have F_thisun42il_savedCells_t324 := F_thisun42il_savedCells_t321.other W324 (Or.inr (slot_ne (Or.inl (kw20 hw)) (Or.inl (kw45 hw)) (by decide) (t := (.array .int)) (t' := .int) (by decide) (by decide)))
  have F_thisun42il_savedValues_t324 := F_thisun42il_savedValues_t321.other W324 (Or.inr (slot_ne (Or.inl (kw22 hw)) (Or.inl (kw45 hw)) (by decide) (t := (.array .long)) (t' := .int) (by decide) (by decide)))
  have F_thisun42il_cellCount_t324 := F_thisun42il_cellCount_t321.other W324 (Or.inr (slot_ne (Or.inl (kw31 hw)) (Or.inl (kw45 hw)) (by decide) (t := .int) (t' := .int) (by decide) (by decide)))
  have F_thisun42il_longCellCount_t324 := F_thisun42il_longCellCount_t321.other W324 (Or.inr (slot_ne (Or.inl (kw38 hw)) (Or.inl (kw45 hw)) (by decide) (t := .int) (t' := .int) (by decide) (by decide)))
  have F_thisun42il_epoch_t324 := F_thisun42il_epoch_t321.other W324 (Or.inr (slot_ne (Or.inl (kw24 hw)) (Or.inl (kw45 hw)) (by decide) (t := .int) (t' := .int) (by decide) (by decide)))
  have V_values_un42il_t324 := V_values_un42il_t321.other W324 ne_values_un42il_thisun42il
  have V_savedCells_un42il_t324 := V_savedCells_un42il_t321.other W324 ne_savedCells_un42il_thisun42il
  have V_savedValues_un42il_t324 := V_savedValues_un42il_t321.other W324 ne_savedValues_un42il_thisun42il
  have V_longValues_un42il_t324 := V_longValues_un42il_t321.other W324 ne_longValues_un42il_thisun42il
  have F_thisun42il_savedCount_t324 : Fld Z h324 thisun42il "com/example/tauten/tauten/Trail" "savedCount" "I" (.int (2 : Int32)) := F_thisun42il_savedCount_t321.same W324
  show Wq _ _ _ _ _ (T324.setTop (mkF m 18 #[.val (.ref thisun42il), .val (.int (2 : Int32)), .val (.int (-1 : Int32))] []))
  refine Ow.aloadN X324 hx (pc' := 19) (hb hby d_prog_71_method_9_18) rfl rfl ?_
  obtain ⟨T325, X325, e325, st325⟩ := getF X324 hx hZ hown (host := "") (Or.inl (kw19 hw)) Via.refl e324 F_thisun42il_savedCells_t324 (g := (mkF m 19 #[.val (.ref thisun42il), .val (.int (2 : Int32)), .val (.int (-1 : Int32))] [(.ref thisun42il)])) rfl rfl (hb hby d_prog_71_method_9_19)
  refine Wq.step st325 ?_
  show Wq _ _ _ _ _ (T325.setTop (mkF m 22 #[.val (.ref thisun42il), .val (.int (2 : Int32)), .val (.int (-1 : Int32))] [(.ref savedCells_un42il)]))
  refine Ow.aloadN X325 hx (pc' := 23) (hb hby d_prog_71_method_9_22) rfl rfl ?_
  obtain ⟨T326, X326, e326, st326⟩ := getF X325 hx hZ hown (host := "") (Or.inl (kw44 hw)) Via.refl e325 F_thisun42il_savedCount_t324 (g := (mkF m 23 #[.val (.ref thisun42il), .val (.int (2 : Int32)), .val (.int (-1 : Int32))] [(.ref thisun42il), (.ref savedCells_un42il)])) rfl rfl (hb hby d_prog_71_method_9_23)
  refine Wq.step st326 ?_
  show Wq _ _ _ _ _ (T326.setTop (mkF m 26 #[.val (.ref thisun42il), .val (.int (2 : Int32)), .val (.int (-1 : Int32))] [(.int (2 : Int32)), (.ref savedCells_un42il)]))
  refine Ow.ldI X326 hx hZ e326 V_savedCells_un42il_t324 (pc' := 27) (hb hby d_prog_71_method_9_26) (j := (2 : Int32)) (i := 2) (v := (.int (0 : Int32))) (by decide) rfl rfl ?_
  refine Ow.istoreN X326 hx (pc' := 28) (hb hby d_prog_71_method_9_27) (l' := #[.val (.ref thisun42il), .val (.int (2 : Int32)), .val (.int (0 : Int32))]) rfl ?_
  refine Ow.iloadN X326 hx (pc' := 29) (hb hby d_prog_71_method_9_28) rfl ?_
  refine Ow.ifNo X326 hx (pc' := 32) (hb hby d_prog_71_method_9_29) ((if0 _ _).trans (flt (by decide : ¬ ((0 : Int32) < (0 : Int32)))).1) ?_
  refine Ow.aloadN X326 hx (pc' := 33) (hb hby d_prog_71_method_9_32) rfl rfl ?_
  obtain ⟨T327, X327, e327, st327⟩ := getF X326 hx hZ hown (host := "") (Or.inl (kw10 hw)) Via.refl e326 F_thisun42il_values_t324 (g := (mkF m 33 #[.val (.ref thisun42il), .val (.int (2 : Int32)), .val (.int (0 : Int32))] [(.ref thisun42il)])) rfl rfl (hb hby d_prog_71_method_9_33)
  refine Wq.step st327 ?_
  show Wq _ _ _ _ _ (T327.setTop (mkF m 36 #[.val (.ref thisun42il), .val (.int (2 : Int32)), .val (.int (0 : Int32))] [(.ref values_un42il)]))
  refine Ow.iloadN X327 hx (pc' := 37) (hb hby d_prog_71_method_9_36) rfl ?_
  refine Ow.aloadN X327 hx (pc' := 38) (hb hby d_prog_71_method_9_37) rfl rfl ?_
  obtain ⟨T328, X328, e328, st328⟩ := getF X327 hx hZ hown (host := "") (Or.inl (kw21 hw)) Via.refl e327 F_thisun42il_savedValues_t324 (g := (mkF m 38 #[.val (.ref thisun42il), .val (.int (2 : Int32)), .val (.int (0 : Int32))] [(.ref thisun42il), (.int (0 : Int32)), (.ref values_un42il)])) rfl rfl (hb hby d_prog_71_method_9_38)
  refine Wq.step st328 ?_
  show Wq _ _ _ _ _ (T328.setTop (mkF m 41 #[.val (.ref thisun42il), .val (.int (2 : Int32)), .val (.int (0 : Int32))] [(.ref savedValues_un42il), (.int (0 : Int32)), (.ref values_un42il)]))
  refine Ow.aloadN X328 hx (pc' := 42) (hb hby d_prog_71_method_9_41) rfl rfl ?_
  obtain ⟨T329, X329, e329, st329⟩ := getF X328 hx hZ hown (host := "") (Or.inl (kw44 hw)) Via.refl e328 F_thisun42il_savedCount_t324 (g := (mkF m 42 #[.val (.ref thisun42il), .val (.int (2 : Int32)), .val (.int (0 : Int32))] [(.ref thisun42il), (.ref savedValues_un42il), (.int (0 : Int32)), (.ref values_un42il)])) rfl rfl (hb hby d_prog_71_method_9_42)
  refine Wq.step st329 ?_
  show Wq _ _ _ _ _ (T329.setTop (mkF m 45 #[.val (.ref thisun42il), .val (.int (2 : Int32)), .val (.int (0 : Int32))] [(.int (2 : Int32)), (.ref savedValues_un42il), (.int (0 : Int32)), (.ref values_un42il)]))
  refine Ow.ldJ X329 hx hZ e329 V_savedValues_un42il_t324 (pc' := 46) (hb hby d_prog_71_method_9_45) (j := (2 : Int32)) (i := 2) (v := (.long se2_un42il)) (by decide) rfl rfl ?_
  refine Ow.l2i X329 hx (pc' := 47) (hb hby d_prog_71_method_9_46) (z := (se2_un42il.toInt32)) rfl ?_
  obtain ⟨T330, h330, X330, e330, W330, Vr330, st330⟩ := asI X329 hx hZ e329 V_values_un42il_t324 (j := (0 : Int32)) (i := 0) (by decide) rfl (by simp only [List.length_cons]; omega) (g := (mkF m 47 #[.val (.ref thisun42il), .val (.int (2 : Int32)), .val (.int (0 : Int32))] [(.int (se2_un42il.toInt32)), (.int (0 : Int32)), (.ref values_un42il)])) rfl rfl (hb hby d_prog_71_method_9_47)
  refine Wq.step st330 ?_
  have N330 := Fr.snoc X330 N324 g_values_un42il
  have K330 : Keep h0 h330 [thisun42il, longValues_un42il, values_un42il] := K324.wr W330 (Or.inl (List.mem_of_getElem? (i := 2) rfl))
  have Z330 : n0 ≤ h330.size := Nat.le_trans Z324 (Keep.of_wr W330).1
  have E_thisun42il_t330 := E_thisun42il_t324.wr W330
  have F_thisun42il_values_t330 := F_thisun42il_values_t324.other W330 (Or.inl (Ne.symm ne_values_un42il_thisun42il))
  have F_thisun42il_savedAt_t330 := F_thisun42il_savedAt_t324.other W330 (Or.inl (Ne.symm ne_values_un42il_thisun42il))
  have F_thisun42il_longValues_t330 := F_thisun42il_longValues_t324.other W330 (Or.inl (Ne.symm ne_values_un42il_thisun42il))
  have F_thisun42il_longSavedAt_t330 := F_thisun42il_longSavedAt_t324.other W330 (Or.inl (Ne.symm ne_values_un42il_thisun42il))
  have F_thisun42il_savedCells_t330 := F_thisun42il_savedCells_t324.other W330 (Or.inl (Ne.symm ne_values_un42il_thisun42il))
  have F_thisun42il_savedValues_t330 := F_thisun42il_savedValues_t324.other W330 (Or.inl (Ne.symm ne_values_un42il_thisun42il))
  have F_thisun42il_cellCount_t330 := F_thisun42il_cellCount_t324.other W330 (Or.inl (Ne.symm ne_values_un42il_thisun42il))
  have F_thisun42il_longCellCount_t330 := F_thisun42il_longCellCount_t324.other W330 (Or.inl (Ne.symm ne_values_un42il_thisun42il))
  have F_thisun42il_epoch_t330 := F_thisun42il_epoch_t324.other W330 (Or.inl (Ne.symm ne_values_un42il_thisun42il))
  have V_savedCells_un42il_t330 := V_savedCells_un42il_t324.other W330 (Ne.symm ne_values_un42il_savedCells_un42il)
  have V_savedValues_un42il_t330 := V_savedValues_un42il_t324.other W330 (Ne.symm ne_values_un42il_savedValues_un42il)
  have V_longValues_un42il_t330 := V_longValues_un42il_t324.other W330 (Ne.symm ne_values_un42il_longValues_un42il)
  have F_thisun42il_savedCount_t330 := F_thisun42il_savedCount_t324.other W330 (Or.inl (Ne.symm ne_values_un42il_thisun42il))
  have V_values_un42il_t330 : Al Z h330 values_un42il .int ((.int (se2_un42il.toInt32)) :: rvalues_un42il) := Vr330
  show Wq _ _ _ _ _ (T330.setTop (mkF m 48 #[.val (.ref thisun42il), .val (.int (2 : Int32)), .val (.int (0 : Int32))] []))
  refine Ow.goto X330 hx (pc' := 68) (hb hby d_prog_71_method_9_48) (by decide) (by decide) ?_
  refine Ow.goto X330 hx (pc' := 0) (hb hby d_prog_71_method_9_68) (by decide) (by decide) ?_
  refine Ow.aloadN X330 hx (pc' := 1) (hb hby d_prog_71_method_9_0) rfl rfl ?_
  obtain ⟨T331, X331, e331, st331⟩ := getF X330 hx hZ hown (host := "") (Or.inl (kw44 hw)) Via.refl e330 F_thisun42il_savedCount_t330 (g := (mkF m 1 #[.val (.ref thisun42il), .val (.int (2 : Int32)), .val (.int (0 : Int32))] [(.ref thisun42il)])) rfl rfl (hb hby d_prog_71_method_9_1)
  refine Wq.step st331 ?_
  show Wq _ _ _ _ _ (T331.setTop (mkF m 4 #[.val (.ref thisun42il), .val (.int (2 : Int32)), .val (.int (0 : Int32))] [(.int (2 : Int32))]))
  refine Ow.iloadN X331 hx (pc' := 5) (hb hby d_prog_71_method_9_4) rfl ?_
  refine Ow.icmpYes X331 hx (pc' := 71) (hb hby d_prog_71_method_9_5) (flt (by decide : ¬ ((2 : Int32) < (2 : Int32)))).2.2.2 (by decide) (by decide) ?_
  refine Ow.aloadN X331 hx (pc' := 72) (hb hby d_prog_71_method_9_71) rfl rfl ?_
  refine Ow.dup X331 hx (pc' := 73) (hb hby d_prog_71_method_9_72) rfl ?_
  obtain ⟨T332, X332, e332, st332⟩ := getF X331 hx hZ hown (host := "") (Or.inl (kw23 hw)) Via.refl e331 F_thisun42il_epoch_t330 (g := (mkF m 73 #[.val (.ref thisun42il), .val (.int (2 : Int32)), .val (.int (0 : Int32))] [(.ref thisun42il), (.ref thisun42il)])) rfl rfl (hb hby d_prog_71_method_9_73)
  refine Wq.step st332 ?_
  show Wq _ _ _ _ _ (T332.setTop (mkF m 76 #[.val (.ref thisun42il), .val (.int (2 : Int32)), .val (.int (0 : Int32))] [(.int epoch_un42il), (.ref thisun42il)]))
  refine Ow.iconst X332 hx (pc' := 77) (hb hby d_prog_71_method_9_76) (z := (1 : Int32)) rfl ?_
  refine Ow.iadd X332 hx (pc' := 78) (hb hby d_prog_71_method_9_77) (z := (epoch_un42il + (1 : Int32))) rfl ?_
  obtain ⟨T333, h333, X333, e333, W333, st333⟩ := putF X332 hx hZ hown (host := "") (Or.inl (kw23 hw)) Via.refl e332 F_thisun42il_epoch_t330 E_thisun42il_t330 (Or.inl (kw24 hw)) (kw1 hw) (ty := .int) (by decide) (rfl) (rfl) (g := (mkF m 78 #[.val (.ref thisun42il), .val (.int (2 : Int32)), .val (.int (0 : Int32))] [(.int (epoch_un42il + (1 : Int32))), (.ref thisun42il)])) rfl rfl (hb hby d_prog_71_method_9_78)
  refine Wq.step st333 ?_
  have N333 := Fr.snoc X333 N330 g_thisun42il
  have K333 : Keep h0 h333 [thisun42il, longValues_un42il, values_un42il] := K330.wr W333 (Or.inl (List.mem_of_getElem? (i := 0) rfl))
  have Z333 : n0 ≤ h333.size := Nat.le_trans Z330 (Keep.of_wr W333).1
  have E_thisun42il_t333 := E_thisun42il_t330.wr W333
  have F_thisun42il_values_t333 := F_thisun42il_values_t330.other W333 (Or.inr (slot_ne (Or.inl (kw11 hw)) (Or.inl (kw24 hw)) (by decide) (t := (.array .int)) (t' := .int) (by decide) (by decide)))
  have F_thisun42il_savedAt_t333 := F_thisun42il_savedAt_t330.other W333 (Or.inr (slot_ne (Or.inl (kw13 hw)) (Or.inl (kw24 hw)) (by decide) (t := (.array .int)) (t' := .int) (by decide) (by decide)))
  have F_thisun42il_longValues_t333 := F_thisun42il_longValues_t330.other W333 (Or.inr (slot_ne (Or.inl (kw16 hw)) (Or.inl (kw24 hw)) (by decide) (t := (.array .long)) (t' := .int) (by decide) (by decide)))
  have F_thisun42il_longSavedAt_t333 := F_thisun42il_longSavedAt_t330.other W333 (Or.inr (slot_ne (Or.inl (kw18 hw)) (Or.inl (kw24 hw)) (by decide) (t := (.array .int)) (t' := .int) (by decide) (by decide)))
  have F_thisun42il_savedCells_t333 := F_thisun42il_savedCells_t330.other W333 (Or.inr (slot_ne (Or.inl (kw20 hw)) (Or.inl (kw24 hw)) (by decide) (t := (.array .int)) (t' := .int) (by decide) (by decide)))
  have F_thisun42il_savedValues_t333 := F_thisun42il_savedValues_t330.other W333 (Or.inr (slot_ne (Or.inl (kw22 hw)) (Or.inl (kw24 hw)) (by decide) (t := (.array .long)) (t' := .int) (by decide) (by decide)))
  have F_thisun42il_cellCount_t333 := F_thisun42il_cellCount_t330.other W333 (Or.inr (slot_ne (Or.inl (kw31 hw)) (Or.inl (kw24 hw)) (by decide) (t := .int) (t' := .int) (by decide) (by decide)))
  have F_thisun42il_longCellCount_t333 := F_thisun42il_longCellCount_t330.other W333 (Or.inr (slot_ne (Or.inl (kw38 hw)) (Or.inl (kw24 hw)) (by decide) (t := .int) (t' := .int) (by decide) (by decide)))
  have V_savedCells_un42il_t333 := V_savedCells_un42il_t330.other W333 ne_savedCells_un42il_thisun42il
  have V_savedValues_un42il_t333 := V_savedValues_un42il_t330.other W333 ne_savedValues_un42il_thisun42il
  have V_longValues_un42il_t333 := V_longValues_un42il_t330.other W333 ne_longValues_un42il_thisun42il
  have F_thisun42il_savedCount_t333 := F_thisun42il_savedCount_t330.other W333 (Or.inr (slot_ne (Or.inl (kw45 hw)) (Or.inl (kw24 hw)) (by decide) (t := .int) (t' := .int) (by decide) (by decide)))
  have V_values_un42il_t333 := V_values_un42il_t330.other W333 ne_values_un42il_thisun42il
  have F_thisun42il_epoch_t333 : Fld Z h333 thisun42il "com/example/tauten/tauten/Trail" "epoch" "I" (.int (epoch_un42il + (1 : Int32))) := F_thisun42il_epoch_t330.same W333
  show Wq _ _ _ _ _ (T333.setTop (mkF m 81 #[.val (.ref thisun42il), .val (.int (2 : Int32)), .val (.int (0 : Int32))] []))
  exact Wq.ret X333 (BodyLoose.notSynchronized Bd) (rv := none) (fun _ => rfl) (fun _ hr => X333.returnOut hx Bd.returns (hb hby d_prog_71_method_9_81) hr) (by decide) (by decide) (by rw [e333]; exact ⟨rfl, N333, K333, E_thisun42il_t333, F_thisun42il_values_t333, F_thisun42il_savedAt_t333, F_thisun42il_longValues_t333, F_thisun42il_longSavedAt_t333, F_thisun42il_savedCells_t333, F_thisun42il_savedValues_t333, F_thisun42il_cellCount_t333, F_thisun42il_longCellCount_t333, V_longValues_un42il_t333, F_thisun42il_savedCount_t333, V_values_un42il_t333, F_thisun42il_epoch_t333⟩)
theorem pn2 : plainName "com/example/tauten/tauten/TrailUndoPinLaw" = true := by first | (simp [plainName, overriddenIn]; done) | decide +kernel
theorem ef_law (m : MethodId) (xlaw_1 : Int32) (xlaw_2 : Int32) (xlaw_3 : Int32) (ylaw_4 : Int64) (ylaw_5 : Int64) (xlaw_6 : Int32) : entryFrame m #[(.int xlaw_1), (.int xlaw_2), (.int xlaw_3), (.long ylaw_4), (.long ylaw_5), (.int xlaw_6)] maxLocals = mkF m 0 #[.val (.int xlaw_1), .val (.int xlaw_2), .val (.int xlaw_3), .val (.long ylaw_4), .second, .val (.long ylaw_5), .second, .val (.int xlaw_6), .unset, .unset, .unset, .unset, .unset, .unset, .unset, .unset, .unset, .unset, .unset, .unset] [] := by first | (simp [entryFrame, mkF, argsToLocals, Value.category, maxLocals]; done) | rfl
def Q_law (n0 : Nat) (v : Option Value) (h : Heap) (L : List Loc) : Prop := v = some (.int 1) ∧ Fr n0 L
set_option maxRecDepth 65536 in
set_option maxHeartbeats 40000000 in
theorem rm_law (l : Launch) (Z : State) (a0 : Array Value) (hw : ∀ d ∈ tables_1, d.before a0 Z = true) (ws : List Jvm.Cond) (xlaw_1 : Int32) (xlaw_2 : Int32) (xlaw_3 : Int32) (ylaw_4 : Int64) (ylaw_5 : Int64) (xlaw_6 : Int32) (h0 : Heap) (n0 : Nat) (Z0 : n0 ≤ h0.size)  :
    MetFree l x (head1 (Jvm.Cond.code x code maxLocals ret :: ws) room_1) (fun a U => a = #[(.int xlaw_1), (.int xlaw_2), (.int xlaw_3), (.long ylaw_4), (.long ylaw_5), (.int xlaw_6)] ∧ Z.Warmed39 U.vm ∧ U.heap = h0) (fun _ _ _ _ _ => True) (fun _ U o U' => ∃ v L, o = .returned v ∧ (Q_law n0) v U'.heap L ∧ FrameEnd U o U' L 24 1664) := by
  refine MetFree.of_bodySF (plainFor_of_name pn2) hisR ?_
  intro p e s m args below meth c s₁ Bd hml0 hP hK
  obtain ⟨rfl, hZ, hh⟩ := hP
  have hx := Bd.exec
  have hby := Bd.bytes
  have hml : c.maxLocals = 20 := hml0
  have hown : s.vm.findClass "com/example/tauten/tauten/TrailUndoPinLaw" = some m.cls := findClass_of_methodNamed Bd.named
  have hnm := (name_of_methodNamed Bd.named Bd.method).1
  have X0 : Stand p l e room_1 s m #[(.int xlaw_1), (.int xlaw_2), (.int xlaw_3), (.long ylaw_4), (.long ylaw_5), (.int xlaw_6)] below meth c s₁ [] 0 0 := Stand.of_body Bd
  have e0 : s₁.heap = h0 := by rw [← hh, Bd.state]; rfl
  have N0 := Fr.nil n0
  refine Wq.step (p := p) (e := e) (below := below) (En := (fun o t L => FrameEnd s o t L 24 1664)) (Q := (Q_law n0)) (fun t k => castTop (ef_law m xlaw_1 xlaw_2 xlaw_3 ylaw_4 ylaw_5 xlaw_6) k) ?_
  show Wq _ _ _ _ _ (s₁.setTop (mkF m 0 #[.val (.int xlaw_1), .val (.int xlaw_2), .val (.int xlaw_3), .val (.long ylaw_4), .second, .val (.long ylaw_5), .second, .val (.int xlaw_6), .unset, .unset, .unset, .unset, .unset, .unset, .unset, .unset, .unset, .unset, .unset, .unset] []))
  refine Ow.iload X0 hx (pc' := 2) (hb hby at_0) rfl ?_
  refine Ow.iconst X0 hx (pc' := 3) (hb hby at_2) (z := (1 : Int32)) rfl ?_
  refine Ow.iand X0 hx (pc' := 4) (hb hby at_3) (z := (xlaw_6 &&& (1 : Int32))) rfl ?_
  refine Wq.by (U' := s₁.setTop (mkF m 12 #[.val (.int xlaw_1), .val (.int xlaw_2), .val (.int xlaw_3), .val (.long ylaw_4), .second, .val (.long ylaw_5), .second, .val (.int xlaw_6), .unset, .unset, .unset, .unset, .unset, .unset, .unset, .unset, .unset, .unset, .unset, .unset] [(.int (if (xlaw_6 &&& (1 : Int32)) = (0 : Int32) then (0 : Int32) else (1 : Int32)))])) (fun k => ?_) ?_
  · skip
    by_cases hm4 : (xlaw_6 &&& (1 : Int32)) = (0 : Int32)
    · skip
      refine Ow.ifYes X0 hx (pc' := 11) (hb hby at_4) ((if0 _ _).trans (teq hm4).1) (by decide) (by decide) ?_
      refine Ow.iconst X0 hx (pc' := 12) (hb hby at_11) (z := (0 : Int32)) rfl ?_
      simp only [if_pos hm4] at k
      exact k
    · skip
      refine Ow.ifNo X0 hx (pc' := 7) (hb hby at_4) ((if0 _ _).trans (feq hm4).1) ?_
      refine Ow.iconst X0 hx (pc' := 8) (hb hby at_7) (z := (1 : Int32)) rfl ?_
      refine Ow.goto X0 hx (pc' := 12) (hb hby at_8) (by decide) (by decide) ?_
      simp only [if_neg hm4] at k
      exact k
  show Wq _ _ _ _ _ (s₁.setTop (mkF m 12 #[.val (.int xlaw_1), .val (.int xlaw_2), .val (.int xlaw_3), .val (.long ylaw_4), .second, .val (.long ylaw_5), .second, .val (.int xlaw_6), .unset, .unset, .unset, .unset, .unset, .unset, .unset, .unset, .unset, .unset, .unset, .unset] [(.int (if (xlaw_6 &&& (1 : Int32)) = (0 : Int32) then (0 : Int32) else (1 : Int32)))]))
  generalize hms12_0 : (if (xlaw_6 &&& (1 : Int32)) = (0 : Int32) then (0 : Int32) else (1 : Int32)) = ms12_0
  refine Ow.istore X0 hx (pc' := 14) (hb hby at_12) (l' := #[.val (.int xlaw_1), .val (.int xlaw_2), .val (.int xlaw_3), .val (.long ylaw_4), .second, .val (.long ylaw_5), .second, .val (.int xlaw_6), .val (.int ms12_0), .unset, .unset, .unset, .unset, .unset, .unset, .unset, .unset, .unset, .unset, .unset]) rfl ?_
  refine Ow.iload X0 hx (pc' := 16) (hb hby at_14) rfl ?_
  refine Ow.iconst X0 hx (pc' := 17) (hb hby at_16) (z := (2 : Int32)) rfl ?_
  refine Ow.iand X0 hx (pc' := 18) (hb hby at_17) (z := (xlaw_6 &&& (2 : Int32))) rfl ?_
  refine Wq.by (U' := s₁.setTop (mkF m 26 #[.val (.int xlaw_1), .val (.int xlaw_2), .val (.int xlaw_3), .val (.long ylaw_4), .second, .val (.long ylaw_5), .second, .val (.int xlaw_6), .val (.int ms12_0), .unset, .unset, .unset, .unset, .unset, .unset, .unset, .unset, .unset, .unset, .unset] [(.int (if (xlaw_6 &&& (2 : Int32)) = (0 : Int32) then (0 : Int32) else (1 : Int32)))])) (fun k => ?_) ?_
  · skip
    by_cases hm18 : (xlaw_6 &&& (2 : Int32)) = (0 : Int32)
    · skip
      refine Ow.ifYes X0 hx (pc' := 25) (hb hby at_18) ((if0 _ _).trans (teq hm18).1) (by decide) (by decide) ?_
      refine Ow.iconst X0 hx (pc' := 26) (hb hby at_25) (z := (0 : Int32)) rfl ?_
      simp only [if_pos hm18] at k
      exact k
    · skip
      refine Ow.ifNo X0 hx (pc' := 21) (hb hby at_18) ((if0 _ _).trans (feq hm18).1) ?_
      refine Ow.iconst X0 hx (pc' := 22) (hb hby at_21) (z := (1 : Int32)) rfl ?_
      refine Ow.goto X0 hx (pc' := 26) (hb hby at_22) (by decide) (by decide) ?_
      simp only [if_neg hm18] at k
      exact k
  show Wq _ _ _ _ _ (s₁.setTop (mkF m 26 #[.val (.int xlaw_1), .val (.int xlaw_2), .val (.int xlaw_3), .val (.long ylaw_4), .second, .val (.long ylaw_5), .second, .val (.int xlaw_6), .val (.int ms12_0), .unset, .unset, .unset, .unset, .unset, .unset, .unset, .unset, .unset, .unset, .unset] [(.int (if (xlaw_6 &&& (2 : Int32)) = (0 : Int32) then (0 : Int32) else (1 : Int32)))]))
  generalize hms26_0 : (if (xlaw_6 &&& (2 : Int32)) = (0 : Int32) then (0 : Int32) else (1 : Int32)) = ms26_0
  refine Ow.istore X0 hx (pc' := 28) (hb hby at_26) (l' := #[.val (.int xlaw_1), .val (.int xlaw_2), .val (.int xlaw_3), .val (.long ylaw_4), .second, .val (.long ylaw_5), .second, .val (.int xlaw_6), .val (.int ms12_0), .val (.int ms26_0), .unset, .unset, .unset, .unset, .unset, .unset, .unset, .unset, .unset, .unset]) rfl ?_
  refine Ow.iload X0 hx (pc' := 30) (hb hby at_28) rfl ?_
  refine Ow.iconst X0 hx (pc' := 31) (hb hby at_30) (z := (4 : Int32)) rfl ?_
  refine Ow.iand X0 hx (pc' := 32) (hb hby at_31) (z := (xlaw_6 &&& (4 : Int32))) rfl ?_
  refine Wq.by (U' := s₁.setTop (mkF m 40 #[.val (.int xlaw_1), .val (.int xlaw_2), .val (.int xlaw_3), .val (.long ylaw_4), .second, .val (.long ylaw_5), .second, .val (.int xlaw_6), .val (.int ms12_0), .val (.int ms26_0), .unset, .unset, .unset, .unset, .unset, .unset, .unset, .unset, .unset, .unset] [(.int (if (xlaw_6 &&& (4 : Int32)) = (0 : Int32) then (0 : Int32) else (1 : Int32)))])) (fun k => ?_) ?_
  · skip
    by_cases hm32 : (xlaw_6 &&& (4 : Int32)) = (0 : Int32)
    · skip
      refine Ow.ifYes X0 hx (pc' := 39) (hb hby at_32) ((if0 _ _).trans (teq hm32).1) (by decide) (by decide) ?_
      refine Ow.iconst X0 hx (pc' := 40) (hb hby at_39) (z := (0 : Int32)) rfl ?_
      simp only [if_pos hm32] at k
      exact k
    · skip
      refine Ow.ifNo X0 hx (pc' := 35) (hb hby at_32) ((if0 _ _).trans (feq hm32).1) ?_
      refine Ow.iconst X0 hx (pc' := 36) (hb hby at_35) (z := (1 : Int32)) rfl ?_
      refine Ow.goto X0 hx (pc' := 40) (hb hby at_36) (by decide) (by decide) ?_
      simp only [if_neg hm32] at k
      exact k
  show Wq _ _ _ _ _ (s₁.setTop (mkF m 40 #[.val (.int xlaw_1), .val (.int xlaw_2), .val (.int xlaw_3), .val (.long ylaw_4), .second, .val (.long ylaw_5), .second, .val (.int xlaw_6), .val (.int ms12_0), .val (.int ms26_0), .unset, .unset, .unset, .unset, .unset, .unset, .unset, .unset, .unset, .unset] [(.int (if (xlaw_6 &&& (4 : Int32)) = (0 : Int32) then (0 : Int32) else (1 : Int32)))]))
  generalize hms40_0 : (if (xlaw_6 &&& (4 : Int32)) = (0 : Int32) then (0 : Int32) else (1 : Int32)) = ms40_0
  refine Ow.istore X0 hx (pc' := 42) (hb hby at_40) (l' := #[.val (.int xlaw_1), .val (.int xlaw_2), .val (.int xlaw_3), .val (.long ylaw_4), .second, .val (.long ylaw_5), .second, .val (.int xlaw_6), .val (.int ms12_0), .val (.int ms26_0), .val (.int ms40_0), .unset, .unset, .unset, .unset, .unset, .unset, .unset, .unset, .unset]) rfl ?_
  obtain ⟨T34, h34, X34, e34, E34, A34, D34, -, st34⟩ := newO X0 hx hZ hown (kw0 hw) (kw1 hw) (kw2 hw) e0 (g := (mkF m 42 #[.val (.int xlaw_1), .val (.int xlaw_2), .val (.int xlaw_3), .val (.long ylaw_4), .second, .val (.long ylaw_5), .second, .val (.int xlaw_6), .val (.int ms12_0), .val (.int ms26_0), .val (.int ms40_0), .unset, .unset, .unset, .unset, .unset, .unset, .unset, .unset, .unset] [])) rfl (hb hby at_42) (by decide) (by decide)
  obtain ⟨o34, gz34⟩ : ∃ z, z = h0.size := ⟨_, rfl⟩
  rw [← gz34] at A34 D34 st34
  have g_o34 : n0 ≤ o34 := Nat.le_trans Z0 (Nat.le_of_eq gz34.symm)
  have sz_o34 : h0.size ≤ o34 := Nat.le_of_eq gz34.symm
  have K34 : Keep h0 h34 [] := (Keep.refl h0 []).ext E34
  have Z34 : n0 ≤ h34.size := Nat.le_trans Z0 E34.1
  refine Wq.step st34 ?_
  have F_o34_values : Fld Z h34 o34 "com/example/tauten/tauten/Trail" "values" "[I" .null := D34 (Or.inl (kw11 hw)) (ty := (.array .int)) (by decide)
  have F_o34_savedAt : Fld Z h34 o34 "com/example/tauten/tauten/Trail" "savedAt" "[I" .null := D34 (Or.inl (kw13 hw)) (ty := (.array .int)) (by decide)
  have F_o34_longValues : Fld Z h34 o34 "com/example/tauten/tauten/Trail" "longValues" "[J" .null := D34 (Or.inl (kw16 hw)) (ty := (.array .long)) (by decide)
  have F_o34_longSavedAt : Fld Z h34 o34 "com/example/tauten/tauten/Trail" "longSavedAt" "[I" .null := D34 (Or.inl (kw18 hw)) (ty := (.array .int)) (by decide)
  have F_o34_savedCells : Fld Z h34 o34 "com/example/tauten/tauten/Trail" "savedCells" "[I" .null := D34 (Or.inl (kw20 hw)) (ty := (.array .int)) (by decide)
  have F_o34_savedValues : Fld Z h34 o34 "com/example/tauten/tauten/Trail" "savedValues" "[J" .null := D34 (Or.inl (kw22 hw)) (ty := (.array .long)) (by decide)
  have F_o34_epoch : Fld Z h34 o34 "com/example/tauten/tauten/Trail" "epoch" "I" (.int (0 : Int32)) := D34 (Or.inl (kw24 hw)) (ty := .int) (by decide)
  have F_o34_cellCount : Fld Z h34 o34 "com/example/tauten/tauten/Trail" "cellCount" "I" (.int (0 : Int32)) := D34 (Or.inl (kw31 hw)) (ty := .int) (by decide)
  have F_o34_longCellCount : Fld Z h34 o34 "com/example/tauten/tauten/Trail" "longCellCount" "I" (.int (0 : Int32)) := D34 (Or.inl (kw38 hw)) (ty := .int) (by decide)
  have F_o34_savedCount : Fld Z h34 o34 "com/example/tauten/tauten/Trail" "savedCount" "I" (.int (0 : Int32)) := D34 (Or.inl (kw45 hw)) (ty := .int) (by decide)
  show Wq _ _ _ _ _ (T34.setTop (mkF m 45 #[.val (.int xlaw_1), .val (.int xlaw_2), .val (.int xlaw_3), .val (.long ylaw_4), .second, .val (.long ylaw_5), .second, .val (.int xlaw_6), .val (.int ms12_0), .val (.int ms26_0), .val (.int ms40_0), .unset, .unset, .unset, .unset, .unset, .unset, .unset, .unset, .unset] [(.ref o34)]))
  refine Ow.dup X34 hx (pc' := 46) (hb hby at_45) rfl ?_
  obtain ⟨_, _, ⟨T35, L35, k35, n35⟩, -, X35, ⟨Lc35, hQ35, l35, y35, z35⟩, st35⟩ := X34.specialBack hx (y := mt1) rfl hown (mvT hZ (kw3 hw)) (mvT hZ (kw4 hw)) (mvT hZ (kw5 hw)) (by decide) (backOf (W := 1) (rm_ctor l Z a0 hw [] o34 h34 n0 Z34 A34 F_o34_values F_o34_savedAt F_o34_longValues F_o34_longSavedAt F_o34_savedCells F_o34_savedValues F_o34_epoch F_o34_cellCount F_o34_longCellCount F_o34_savedCount g_o34) hZ (kw5 hw) (kw2 hw) (by decide) (by decide)) (g := (mkF m 46 #[.val (.int xlaw_1), .val (.int xlaw_2), .val (.int xlaw_3), .val (.long ylaw_4), .second, .val (.long ylaw_5), .second, .val (.int xlaw_6), .val (.int ms12_0), .val (.int ms26_0), .val (.int ms40_0), .unset, .unset, .unset, .unset, .unset, .unset, .unset, .unset, .unset] [(.ref o34), (.ref o34)])) rfl (by rw [hml]; rfl) (Steps.refl _) (a := o34) (argsL := []) (rest := [(.ref o34)]) (lenOf pd1 rfl) rfl (by show 2 * 0 + _ ≤ _; exact Nat.le_of_eq rfl) (hb hby at_46) (fun _ _ => ⟨rfl, e34, (by decide : 1 + 6 ≤ _), (by decide : 10 + 768 ≤ _)⟩)
  dsimp only [Pt.U, Pt.locs, Pt.cells, Pt.slots] at X35 l35 y35 z35 st35 hQ35
  subst l35 y35 z35
  obtain ⟨b2_c35, b4_c35, b6_c35, b8_c35, b10_c35, b12_c35, rfl, Nq35, Kq35, szq_b2_c35, szq_b4_c35, szq_b6_c35, szq_b8_c35, szq_b10_c35, szq_b12_c35, ne_b2_c35_b4_c35, ne_b2_c35_b6_c35, ne_b2_c35_b8_c35, ne_b2_c35_b10_c35, ne_b2_c35_b12_c35, ne_b4_c35_b6_c35, ne_b4_c35_b8_c35, ne_b4_c35_b10_c35, ne_b4_c35_b12_c35, ne_b6_c35_b8_c35, ne_b6_c35_b10_c35, ne_b6_c35_b12_c35, ne_b8_c35_b10_c35, ne_b8_c35_b12_c35, ne_b10_c35_b12_c35, P35_0, P35_1, P35_2, P35_3, P35_4, P35_5, P35_6, P35_7, P35_8, P35_9, P35_10, P35_11, P35_12, P35_13, P35_14, P35_15, P35_16⟩ := hQ35
  have g_b2_c35 : n0 ≤ b2_c35 := Nat.le_trans Z34 szq_b2_c35
  have sz_b2_c35 : h0.size ≤ b2_c35 := Nat.le_trans K34.1 szq_b2_c35
  have ne_o34_b2_c35 : o34 ≠ b2_c35 := Nat.ne_of_lt (Nat.lt_of_lt_of_le A34.lt szq_b2_c35)
  have g_b4_c35 : n0 ≤ b4_c35 := Nat.le_trans Z34 szq_b4_c35
  have sz_b4_c35 : h0.size ≤ b4_c35 := Nat.le_trans K34.1 szq_b4_c35
  have ne_o34_b4_c35 : o34 ≠ b4_c35 := Nat.ne_of_lt (Nat.lt_of_lt_of_le A34.lt szq_b4_c35)
  have g_b6_c35 : n0 ≤ b6_c35 := Nat.le_trans Z34 szq_b6_c35
  have sz_b6_c35 : h0.size ≤ b6_c35 := Nat.le_trans K34.1 szq_b6_c35
  have ne_o34_b6_c35 : o34 ≠ b6_c35 := Nat.ne_of_lt (Nat.lt_of_lt_of_le A34.lt szq_b6_c35)
  have g_b8_c35 : n0 ≤ b8_c35 := Nat.le_trans Z34 szq_b8_c35
  have sz_b8_c35 : h0.size ≤ b8_c35 := Nat.le_trans K34.1 szq_b8_c35
  have ne_o34_b8_c35 : o34 ≠ b8_c35 := Nat.ne_of_lt (Nat.lt_of_lt_of_le A34.lt szq_b8_c35)
  have g_b10_c35 : n0 ≤ b10_c35 := Nat.le_trans Z34 szq_b10_c35
  have sz_b10_c35 : h0.size ≤ b10_c35 := Nat.le_trans K34.1 szq_b10_c35
  have ne_o34_b10_c35 : o34 ≠ b10_c35 := Nat.ne_of_lt (Nat.lt_of_lt_of_le A34.lt szq_b10_c35)
  have g_b12_c35 : n0 ≤ b12_c35 := Nat.le_trans Z34 szq_b12_c35
  have sz_b12_c35 : h0.size ≤ b12_c35 := Nat.le_trans K34.1 szq_b12_c35
  have ne_o34_b12_c35 : o34 ≠ b12_c35 := Nat.ne_of_lt (Nat.lt_of_lt_of_le A34.lt szq_b12_c35)
  have N35 := Fr.app N0 Nq35
  have K35 : Keep h0 T35.heap [] := K34.trans Kq35 (allS (P := fun x => x ∈ [] ∨ h0.size ≤ x) (Or.inr sz_o34) all0)
  have Z35 : n0 ≤ T35.heap.size := Nat.le_trans Z34 Kq35.1
  have A34_t35 := A34.keep Kq35
  have e35 : T35.heap = T35.heap := rfl
  refine Wq.steps st35 ?_
  show Wq _ _ _ _ _ (T35.setTop (mkF m 49 #[.val (.int xlaw_1), .val (.int xlaw_2), .val (.int xlaw_3), .val (.long ylaw_4), .second, .val (.long ylaw_5), .second, .val (.int xlaw_6), .val (.int ms12_0), .val (.int ms26_0), .val (.int ms40_0), .unset, .unset, .unset, .unset, .unset, .unset, .unset, .unset, .unset] [(.ref o34)]))
  refine Ow.astore X35 hx (pc' := 51) (hb hby at_49) rfl (l' := #[.val (.int xlaw_1), .val (.int xlaw_2), .val (.int xlaw_3), .val (.long ylaw_4), .second, .val (.long ylaw_5), .second, .val (.int xlaw_6), .val (.int ms12_0), .val (.int ms26_0), .val (.int ms40_0), .val (.ref o34), .unset, .unset, .unset, .unset, .unset, .unset, .unset, .unset]) rfl ?_
  refine Ow.aload X35 hx (pc' := 53) (hb hby at_51) rfl rfl ?_
  refine Ow.iloadN X35 hx (pc' := 54) (hb hby at_53) rfl ?_
  obtain ⟨cq36, kq36, q36a, q36b, q36c⟩ := isOf hZ e35 A34_t35
  obtain ⟨_, _, ⟨T36, L36, k36, n36⟩, -, X36, ⟨Lc36, hQ36, l36, y36, z36⟩, st36⟩ := X35.virtualBack hx (y := mt2) (z := mt2) hown (mvT hZ (kw25 hw)) (mvT hZ (kw26 hw)) (notFace_of_selects (args := #[]) (mvT hZ (kw28 hw))) (mvT hZ (kw28 hw)) (mvT hZ (kw27 hw)) (by decide) (backOf (W := 0) (rm_nc l Z a0 hw [] o34 xlaw_1 b2_c35 b4_c35 b6_c35 b8_c35 b10_c35 b12_c35 (0 : Int32) (0 : Int32) (1 : Int32) (0 : Int32) (List.replicate 63 (.int (0 : Int32))) T35.heap n0 Z35 (by decide) A34_t35 P35_5 P35_7 P35_9 P35_11 P35_13 P35_15 P35_1 P35_2 P35_3 P35_16 g_o34 P35_4 g_b2_c35 (Ne.symm ne_o34_b2_c35)) hZ (kw29 hw) (kw2 hw) (by decide) (by decide)) q36a q36c (g := (mkF m 54 #[.val (.int xlaw_1), .val (.int xlaw_2), .val (.int xlaw_3), .val (.long ylaw_4), .second, .val (.long ylaw_5), .second, .val (.int xlaw_6), .val (.int ms12_0), .val (.int ms26_0), .val (.int ms40_0), .val (.ref o34), .unset, .unset, .unset, .unset, .unset, .unset, .unset, .unset] [(.int xlaw_1), (.ref o34)])) rfl (by rw [hml]; rfl) (Steps.refl _) (argsL := [(.int xlaw_1)]) (rest := []) (lenOf pd2 rfl) rfl (by show 2 * 0 + _ ≤ _; exact Nat.le_of_eq rfl) (hb hby at_54) (fun _ _ => ⟨rfl, e35, (by decide : 7 + 0 ≤ _), (by decide : 778 + 0 ≤ _)⟩)
  dsimp only [Pt.U, Pt.locs, Pt.cells, Pt.slots] at X36 l36 y36 z36 st36 hQ36
  subst l36 y36 z36
  obtain ⟨rfl, Nq36, Kq36, P36_0, P36_1, P36_2, P36_3, P36_4, P36_5, P36_6, P36_7, P36_8, P36_9, P36_10, P36_11⟩ := hQ36
  have N36 := Fr.app N35 Nq36
  have K36 : Keep h0 T36.heap [] := K35.trans Kq36 (allS (P := fun x => x ∈ [] ∨ h0.size ≤ x) (Or.inr sz_b2_c35) (allS (P := fun x => x ∈ [] ∨ h0.size ≤ x) (Or.inr sz_o34) all0))
  have Z36 : n0 ≤ T36.heap.size := Nat.le_trans Z35 Kq36.1
  have A34_t36 := A34_t35.keep Kq36
  have P35_6_t36 := P35_6.keep Kq36 (ninS (Ne.symm ne_b2_c35_b4_c35) (ninS (Ne.symm ne_o34_b4_c35) nin0))
  have P35_8_t36 := P35_8.keep Kq36 (ninS (Ne.symm ne_b2_c35_b6_c35) (ninS (Ne.symm ne_o34_b6_c35) nin0))
  have P35_10_t36 := P35_10.keep Kq36 (ninS (Ne.symm ne_b2_c35_b8_c35) (ninS (Ne.symm ne_o34_b8_c35) nin0))
  have P35_12_t36 := P35_12.keep Kq36 (ninS (Ne.symm ne_b2_c35_b10_c35) (ninS (Ne.symm ne_o34_b10_c35) nin0))
  have P35_14_t36 := P35_14.keep Kq36 (ninS (Ne.symm ne_b2_c35_b12_c35) (ninS (Ne.symm ne_o34_b12_c35) nin0))
  have e36 : T36.heap = T36.heap := rfl
  refine Wq.steps st36 ?_
  show Wq _ _ _ _ _ (T36.setTop (mkF m 57 #[.val (.int xlaw_1), .val (.int xlaw_2), .val (.int xlaw_3), .val (.long ylaw_4), .second, .val (.long ylaw_5), .second, .val (.int xlaw_6), .val (.int ms12_0), .val (.int ms26_0), .val (.int ms40_0), .val (.ref o34), .unset, .unset, .unset, .unset, .unset, .unset, .unset, .unset] [(.int (0 : Int32))]))
  refine Ow.istore X36 hx (pc' := 59) (hb hby at_57) (l' := #[.val (.int xlaw_1), .val (.int xlaw_2), .val (.int xlaw_3), .val (.long ylaw_4), .second, .val (.long ylaw_5), .second, .val (.int xlaw_6), .val (.int ms12_0), .val (.int ms26_0), .val (.int ms40_0), .val (.ref o34), .val (.int (0 : Int32)), .unset, .unset, .unset, .unset, .unset, .unset, .unset]) rfl ?_
  refine Ow.aload X36 hx (pc' := 61) (hb hby at_59) rfl rfl ?_
  refine Ow.lloadN X36 hx (pc' := 62) (hb hby at_61) rfl ?_
  obtain ⟨cq37, kq37, q37a, q37b, q37c⟩ := isOf hZ e36 A34_t36
  obtain ⟨_, _, ⟨T37, L37, k37, n37⟩, -, X37, ⟨Lc37, hQ37, l37, y37, z37⟩, st37⟩ := X36.virtualBack hx (y := mt3) (z := mt3) hown (mvT hZ (kw32 hw)) (mvT hZ (kw33 hw)) (notFace_of_selects (args := #[]) (mvT hZ (kw35 hw))) (mvT hZ (kw35 hw)) (mvT hZ (kw34 hw)) (by decide) (backOf (W := 0) (rm_nl l Z a0 hw [] o34 ylaw_4 b2_c35 b4_c35 b6_c35 b8_c35 b10_c35 b12_c35 (1 : Int32) (0 : Int32) (1 : Int32) (0 : Int64) (List.replicate 63 (.long (0 : Int64))) T36.heap n0 Z36 (by decide) A34_t36 P36_1 P36_2 P36_3 P36_4 P36_5 P36_6 P36_11 P36_7 P36_8 P36_9 g_o34 P35_8_t36 g_b6_c35 (Ne.symm ne_o34_b6_c35)) hZ (kw36 hw) (kw2 hw) (by decide) (by decide)) q37a q37c (g := (mkF m 62 #[.val (.int xlaw_1), .val (.int xlaw_2), .val (.int xlaw_3), .val (.long ylaw_4), .second, .val (.long ylaw_5), .second, .val (.int xlaw_6), .val (.int ms12_0), .val (.int ms26_0), .val (.int ms40_0), .val (.ref o34), .val (.int (0 : Int32)), .unset, .unset, .unset, .unset, .unset, .unset, .unset] [(.long ylaw_4), (.ref o34)])) rfl (by rw [hml]; rfl) (Steps.refl _) (argsL := [(.long ylaw_4)]) (rest := []) (lenOf pd3 rfl) rfl (by show 2 * 0 + _ ≤ _; exact Nat.le_of_eq rfl) (hb hby at_62) (fun _ _ => ⟨rfl, e36, (by decide : 7 + 0 ≤ _), (by decide : 778 + 0 ≤ _)⟩)
  dsimp only [Pt.U, Pt.locs, Pt.cells, Pt.slots] at X37 l37 y37 z37 st37 hQ37
  subst l37 y37 z37
  obtain ⟨rfl, Nq37, Kq37, P37_0, P37_1, P37_2, P37_3, P37_4, P37_5, P37_6, P37_7, P37_8, P37_9, P37_10, P37_11⟩ := hQ37
  have N37 := Fr.app N36 Nq37
  have K37 : Keep h0 T37.heap [] := K36.trans Kq37 (allS (P := fun x => x ∈ [] ∨ h0.size ≤ x) (Or.inr sz_b6_c35) (allS (P := fun x => x ∈ [] ∨ h0.size ≤ x) (Or.inr sz_o34) all0))
  have Z37 : n0 ≤ T37.heap.size := Nat.le_trans Z36 Kq37.1
  have A34_t37 := A34_t36.keep Kq37
  have P35_6_t37 := P35_6_t36.keep Kq37 (ninS ne_b4_c35_b6_c35 (ninS (Ne.symm ne_o34_b4_c35) nin0))
  have P35_10_t37 := P35_10_t36.keep Kq37 (ninS (Ne.symm ne_b6_c35_b8_c35) (ninS (Ne.symm ne_o34_b8_c35) nin0))
  have P35_12_t37 := P35_12_t36.keep Kq37 (ninS (Ne.symm ne_b6_c35_b10_c35) (ninS (Ne.symm ne_o34_b10_c35) nin0))
  have P35_14_t37 := P35_14_t36.keep Kq37 (ninS (Ne.symm ne_b6_c35_b12_c35) (ninS (Ne.symm ne_o34_b12_c35) nin0))
  have P36_10_t37 := P36_10.keep Kq37 (ninS ne_b2_c35_b6_c35 (ninS (Ne.symm ne_o34_b2_c35) nin0))
  have e37 : T37.heap = T37.heap := rfl
  refine Wq.steps st37 ?_
  show Wq _ _ _ _ _ (T37.setTop (mkF m 65 #[.val (.int xlaw_1), .val (.int xlaw_2), .val (.int xlaw_3), .val (.long ylaw_4), .second, .val (.long ylaw_5), .second, .val (.int xlaw_6), .val (.int ms12_0), .val (.int ms26_0), .val (.int ms40_0), .val (.ref o34), .val (.int (0 : Int32)), .unset, .unset, .unset, .unset, .unset, .unset, .unset] [(.int (0 : Int32))]))
  refine Ow.istore X37 hx (pc' := 67) (hb hby at_65) (l' := #[.val (.int xlaw_1), .val (.int xlaw_2), .val (.int xlaw_3), .val (.long ylaw_4), .second, .val (.long ylaw_5), .second, .val (.int xlaw_6), .val (.int ms12_0), .val (.int ms26_0), .val (.int ms40_0), .val (.ref o34), .val (.int (0 : Int32)), .val (.int (0 : Int32)), .unset, .unset, .unset, .unset, .unset, .unset]) rfl ?_
  refine Ow.aload X37 hx (pc' := 69) (hb hby at_67) rfl rfl ?_
  obtain ⟨cq38, kq38, q38a, q38b, q38c⟩ := isOf hZ e37 A34_t37
  obtain ⟨_, _, ⟨T38, L38, k38, n38⟩, -, X38, ⟨Lc38, hQ38, l38, y38, z38⟩, st38⟩ := X37.virtualBack hx (y := mt4) (z := mt4) hown (mvT hZ (kw39 hw)) (mvT hZ (kw40 hw)) (notFace_of_selects (args := #[]) (mvT hZ (kw42 hw))) (mvT hZ (kw42 hw)) (mvT hZ (kw41 hw)) (by decide) (backOf (W := 0) (rm_cp l Z a0 hw [] o34 b2_c35 b4_c35 b6_c35 b8_c35 b10_c35 b12_c35 (1 : Int32) (1 : Int32) (0 : Int32) (1 : Int32) T37.heap n0 Z37 A34_t37 P37_1 P37_2 P37_3 P37_4 P37_5 P37_6 P37_7 P37_11 P37_8 P37_9 g_o34) hZ (kw43 hw) (kw2 hw) (by decide) (by decide)) q38a q38c (g := (mkF m 69 #[.val (.int xlaw_1), .val (.int xlaw_2), .val (.int xlaw_3), .val (.long ylaw_4), .second, .val (.long ylaw_5), .second, .val (.int xlaw_6), .val (.int ms12_0), .val (.int ms26_0), .val (.int ms40_0), .val (.ref o34), .val (.int (0 : Int32)), .val (.int (0 : Int32)), .unset, .unset, .unset, .unset, .unset, .unset] [(.ref o34)])) rfl (by rw [hml]; rfl) (Steps.refl _) (argsL := []) (rest := []) (lenOf pd4 rfl) rfl (by show 2 * 0 + _ ≤ _; exact Nat.le_of_eq rfl) (hb hby at_69) (fun _ _ => ⟨rfl, e37, (by decide : 7 + 0 ≤ _), (by decide : 778 + 0 ≤ _)⟩)
  dsimp only [Pt.U, Pt.locs, Pt.cells, Pt.slots] at X38 l38 y38 z38 st38 hQ38
  subst l38 y38 z38
  obtain ⟨rfl, Nq38, Kq38, P38_0, P38_1, P38_2, P38_3, P38_4, P38_5, P38_6, P38_7, P38_8, P38_9, P38_10⟩ := hQ38
  have N38 := Fr.app N37 Nq38
  have K38 : Keep h0 T38.heap [] := K37.trans Kq38 (allS (P := fun x => x ∈ [] ∨ h0.size ≤ x) (Or.inr sz_o34) all0)
  have Z38 : n0 ≤ T38.heap.size := Nat.le_trans Z37 Kq38.1
  have A34_t38 := A34_t37.keep Kq38
  have P35_6_t38 := P35_6_t37.keep Kq38 (ninS (Ne.symm ne_o34_b4_c35) nin0)
  have P35_10_t38 := P35_10_t37.keep Kq38 (ninS (Ne.symm ne_o34_b8_c35) nin0)
  have P35_12_t38 := P35_12_t37.keep Kq38 (ninS (Ne.symm ne_o34_b10_c35) nin0)
  have P35_14_t38 := P35_14_t37.keep Kq38 (ninS (Ne.symm ne_o34_b12_c35) nin0)
  have P36_10_t38 := P36_10_t37.keep Kq38 (ninS (Ne.symm ne_o34_b2_c35) nin0)
  have P37_10_t38 := P37_10.keep Kq38 (ninS (Ne.symm ne_o34_b6_c35) nin0)
  have e38 : T38.heap = T38.heap := rfl
  have P38_10f : Fld Z T38.heap o34 "com/example/tauten/tauten/Trail" "epoch" "I" (.int (2 : Int32)) := P38_10
  refine Wq.steps st38 ?_
  show Wq _ _ _ _ _ (T38.setTop (mkF m 72 #[.val (.int xlaw_1), .val (.int xlaw_2), .val (.int xlaw_3), .val (.long ylaw_4), .second, .val (.long ylaw_5), .second, .val (.int xlaw_6), .val (.int ms12_0), .val (.int ms26_0), .val (.int ms40_0), .val (.ref o34), .val (.int (0 : Int32)), .val (.int (0 : Int32)), .unset, .unset, .unset, .unset, .unset, .unset] [(.int (0 : Int32))]))
  refine Ow.istore X38 hx (pc' := 74) (hb hby at_72) (l' := #[.val (.int xlaw_1), .val (.int xlaw_2), .val (.int xlaw_3), .val (.long ylaw_4), .second, .val (.long ylaw_5), .second, .val (.int xlaw_6), .val (.int ms12_0), .val (.int ms26_0), .val (.int ms40_0), .val (.ref o34), .val (.int (0 : Int32)), .val (.int (0 : Int32)), .val (.int (0 : Int32)), .unset, .unset, .unset, .unset, .unset]) rfl ?_
  refine Ow.iload X38 hx (pc' := 76) (hb hby at_74) rfl ?_
  by_cases hc76 : ms12_0 = (0 : Int32)
  · skip
    refine Ow.ifYes X38 hx (pc' := 87) (hb hby at_76) ((if0 _ _).trans (teq hc76).1) (by decide) (by decide) ?_
    refine Ow.iload X38 hx (pc' := 89) (hb hby at_87) rfl ?_
    by_cases hc89 : ms26_0 = (0 : Int32)
    · skip
      refine Ow.ifYes X38 hx (pc' := 101) (hb hby at_89) ((if0 _ _).trans (teq hc89).1) (by decide) (by decide) ?_
      refine Ow.iload X38 hx (pc' := 103) (hb hby at_101) rfl ?_
      refine Ow.ifYes X38 hx (pc' := 110) (hb hby at_103) ((if0 _ _).trans (teq (hc76 : ms12_0 = (0 : Int32))).1) (by decide) (by decide) ?_
      refine Ow.iloadN X38 hx (pc' := 111) (hb hby at_110) rfl ?_
      refine Ow.istore X38 hx (pc' := 113) (hb hby at_111) (l' := #[.val (.int xlaw_1), .val (.int xlaw_2), .val (.int xlaw_3), .val (.long ylaw_4), .second, .val (.long ylaw_5), .second, .val (.int xlaw_6), .val (.int ms12_0), .val (.int ms26_0), .val (.int ms40_0), .val (.ref o34), .val (.int (0 : Int32)), .val (.int (0 : Int32)), .val (.int (0 : Int32)), .val (.int xlaw_1), .unset, .unset, .unset, .unset]) rfl ?_
      refine Ow.iload X38 hx (pc' := 115) (hb hby at_113) rfl ?_
      refine Ow.ifYes X38 hx (pc' := 123) (hb hby at_115) ((if0 _ _).trans (teq (hc89 : ms26_0 = (0 : Int32))).1) (by decide) (by decide) ?_
      refine Ow.lloadN X38 hx (pc' := 124) (hb hby at_123) rfl ?_
      refine Ow.lstore X38 hx (pc' := 126) (hb hby at_124) (l' := #[.val (.int xlaw_1), .val (.int xlaw_2), .val (.int xlaw_3), .val (.long ylaw_4), .second, .val (.long ylaw_5), .second, .val (.int xlaw_6), .val (.int ms12_0), .val (.int ms26_0), .val (.int ms40_0), .val (.ref o34), .val (.int (0 : Int32)), .val (.int (0 : Int32)), .val (.int (0 : Int32)), .val (.int xlaw_1), .val (.long ylaw_4), .second, .unset, .unset]) rfl ?_
      refine Ow.aload X38 hx (pc' := 128) (hb hby at_126) rfl rfl ?_
      obtain ⟨cq39, kq39, q39a, q39b, q39c⟩ := isOf hZ e38 A34_t38
      obtain ⟨_, _, ⟨T39, L39, k39, n39⟩, -, X39, ⟨Lc39, hQ39, l39, y39, z39⟩, st39⟩ := X38.virtualBack hx (y := mt4) (z := mt4) hown (mvT hZ (kw39 hw)) (mvT hZ (kw40 hw)) (notFace_of_selects (args := #[]) (mvT hZ (kw42 hw))) (mvT hZ (kw42 hw)) (mvT hZ (kw41 hw)) (by decide) (backOf (W := 0) (rm_cp l Z a0 hw [] o34 b2_c35 b4_c35 b6_c35 b8_c35 b10_c35 b12_c35 (1 : Int32) (1 : Int32) (0 : Int32) (2 : Int32) T38.heap n0 Z38 A34_t38 P38_1 P38_2 P38_3 P38_4 P38_5 P38_6 P38_7 P38_8 P38_9 P38_10f g_o34) hZ (kw43 hw) (kw2 hw) (by decide) (by decide)) q39a q39c (g := (mkF m 128 #[.val (.int xlaw_1), .val (.int xlaw_2), .val (.int xlaw_3), .val (.long ylaw_4), .second, .val (.long ylaw_5), .second, .val (.int xlaw_6), .val (.int ms12_0), .val (.int ms26_0), .val (.int ms40_0), .val (.ref o34), .val (.int (0 : Int32)), .val (.int (0 : Int32)), .val (.int (0 : Int32)), .val (.int xlaw_1), .val (.long ylaw_4), .second, .unset, .unset] [(.ref o34)])) rfl (by rw [hml]; rfl) (Steps.refl _) (argsL := []) (rest := []) (lenOf pd4 rfl) rfl (by show 2 * 0 + _ ≤ _; exact Nat.le_of_eq rfl) (hb hby at_128) (fun _ _ => ⟨rfl, e38, (by decide : 7 + 0 ≤ _), (by decide : 778 + 0 ≤ _)⟩)
      dsimp only [Pt.U, Pt.locs, Pt.cells, Pt.slots] at X39 l39 y39 z39 st39 hQ39
      subst l39 y39 z39
      obtain ⟨rfl, Nq39, Kq39, P39_0, P39_1, P39_2, P39_3, P39_4, P39_5, P39_6, P39_7, P39_8, P39_9, P39_10⟩ := hQ39
      have N39 := Fr.app N38 Nq39
      have K39 : Keep h0 T39.heap [] := K38.trans Kq39 (allS (P := fun x => x ∈ [] ∨ h0.size ≤ x) (Or.inr sz_o34) all0)
      have Z39 : n0 ≤ T39.heap.size := Nat.le_trans Z38 Kq39.1
      have A34_t39 := A34_t38.keep Kq39
      have P35_6_t39 := P35_6_t38.keep Kq39 (ninS (Ne.symm ne_o34_b4_c35) nin0)
      have P35_10_t39 := P35_10_t38.keep Kq39 (ninS (Ne.symm ne_o34_b8_c35) nin0)
      have P35_12_t39 := P35_12_t38.keep Kq39 (ninS (Ne.symm ne_o34_b10_c35) nin0)
      have P35_14_t39 := P35_14_t38.keep Kq39 (ninS (Ne.symm ne_o34_b12_c35) nin0)
      have P36_10_t39 := P36_10_t38.keep Kq39 (ninS (Ne.symm ne_o34_b2_c35) nin0)
      have P37_10_t39 := P37_10_t38.keep Kq39 (ninS (Ne.symm ne_o34_b6_c35) nin0)
      have e39 : T39.heap = T39.heap := rfl
      have P39_10f : Fld Z T39.heap o34 "com/example/tauten/tauten/Trail" "epoch" "I" (.int (3 : Int32)) := P39_10
      refine Wq.steps st39 ?_
      show Wq _ _ _ _ _ (T39.setTop (mkF m 131 #[.val (.int xlaw_1), .val (.int xlaw_2), .val (.int xlaw_3), .val (.long ylaw_4), .second, .val (.long ylaw_5), .second, .val (.int xlaw_6), .val (.int ms12_0), .val (.int ms26_0), .val (.int ms40_0), .val (.ref o34), .val (.int (0 : Int32)), .val (.int (0 : Int32)), .val (.int (0 : Int32)), .val (.int xlaw_1), .val (.long ylaw_4), .second, .unset, .unset] [(.int (0 : Int32))]))
      refine Ow.istore X39 hx (pc' := 133) (hb hby at_131) (l' := #[.val (.int xlaw_1), .val (.int xlaw_2), .val (.int xlaw_3), .val (.long ylaw_4), .second, .val (.long ylaw_5), .second, .val (.int xlaw_6), .val (.int ms12_0), .val (.int ms26_0), .val (.int ms40_0), .val (.ref o34), .val (.int (0 : Int32)), .val (.int (0 : Int32)), .val (.int (0 : Int32)), .val (.int xlaw_1), .val (.long ylaw_4), .second, .val (.int (0 : Int32)), .unset]) rfl ?_
      refine Ow.aload X39 hx (pc' := 135) (hb hby at_133) rfl rfl ?_
      refine Ow.iload X39 hx (pc' := 137) (hb hby at_135) rfl ?_
      refine Ow.iloadN X39 hx (pc' := 138) (hb hby at_137) rfl ?_
      obtain ⟨cq59, kq59, q59a, q59b, q59c⟩ := isOf hZ e39 A34_t39
      obtain ⟨_, _, ⟨T59, L59, k59, n59⟩, -, X59, ⟨Lc59, hQ59, l59, y59, z59⟩, st59⟩ := X39.virtualBack hx (y := mt8) (z := mt8) hown (mvT hZ (kw46 hw)) (mvT hZ (kw47 hw)) (notFace_of_selects (args := #[]) (mvT hZ (kw49 hw))) (mvT hZ (kw49 hw)) (mvT hZ (kw48 hw)) (by decide) (backOf (W := 0) (rm_st0 l Z a0 hw [] o34 xlaw_3 b2_c35 b4_c35 b6_c35 b8_c35 b10_c35 b12_c35 (1 : Int32) (1 : Int32) (3 : Int32) xlaw_1 (List.replicate 63 (.int (0 : Int32))) (0 : Int32) (List.replicate 63 (.int (0 : Int32))) (0 : Int32) (0 : Int32) (0 : Int32) (0 : Int32) (List.replicate 252 (.int (0 : Int32))) (0 : Int64) (0 : Int64) (0 : Int64) (0 : Int64) (List.replicate 252 (.long (0 : Int64))) T39.heap n0 Z39 (by decide) A34_t39 P39_1 P39_2 P39_3 P39_4 P39_5 P39_6 P39_7 P39_8 P39_9 P39_10f g_o34 P36_10_t39 g_b2_c35 (Ne.symm ne_o34_b2_c35) P35_6_t39 g_b4_c35 (Ne.symm ne_o34_b4_c35) P35_12_t39 g_b10_c35 (Ne.symm ne_o34_b10_c35) P35_14_t39 g_b12_c35 (Ne.symm ne_o34_b12_c35) ne_b2_c35_b4_c35 ne_b2_c35_b10_c35 ne_b2_c35_b12_c35 ne_b4_c35_b10_c35 ne_b4_c35_b12_c35 ne_b10_c35_b12_c35 (by decide)) hZ (kw50 hw) (kw2 hw) (by decide) (by decide)) q59a q59c (g := (mkF m 138 #[.val (.int xlaw_1), .val (.int xlaw_2), .val (.int xlaw_3), .val (.long ylaw_4), .second, .val (.long ylaw_5), .second, .val (.int xlaw_6), .val (.int ms12_0), .val (.int ms26_0), .val (.int ms40_0), .val (.ref o34), .val (.int (0 : Int32)), .val (.int (0 : Int32)), .val (.int (0 : Int32)), .val (.int xlaw_1), .val (.long ylaw_4), .second, .val (.int (0 : Int32)), .unset] [(.int xlaw_3), (.int (0 : Int32)), (.ref o34)])) rfl (by rw [hml]; rfl) (Steps.refl _) (argsL := [(.int (0 : Int32)), (.int xlaw_3)]) (rest := []) (lenOf pd6 rfl) rfl (by show 2 * 0 + _ ≤ _; exact Nat.le_of_eq rfl) (hb hby at_138) (fun _ _ => ⟨rfl, e39, (by decide : 7 + 0 ≤ _), (by decide : 778 + 0 ≤ _)⟩)
      dsimp only [Pt.U, Pt.locs, Pt.cells, Pt.slots] at X59 l59 y59 z59 st59 hQ59
      subst l59 y59 z59
      obtain ⟨rfl, Nq59, Kq59, P59_0, P59_1, P59_2, P59_3, P59_4, P59_5, P59_6, P59_7, P59_8, P59_9, P59_10, P59_11, P59_12, P59_13, P59_14⟩ := hQ59
      have N59 := Fr.app N39 Nq59
      have K59 : Keep h0 T59.heap [] := K39.trans Kq59 (allS (P := fun x => x ∈ [] ∨ h0.size ≤ x) (Or.inr sz_o34) (allS (P := fun x => x ∈ [] ∨ h0.size ≤ x) (Or.inr sz_b12_c35) (allS (P := fun x => x ∈ [] ∨ h0.size ≤ x) (Or.inr sz_b10_c35) (allS (P := fun x => x ∈ [] ∨ h0.size ≤ x) (Or.inr sz_b4_c35) (allS (P := fun x => x ∈ [] ∨ h0.size ≤ x) (Or.inr sz_b2_c35) all0)))))
      have Z59 : n0 ≤ T59.heap.size := Nat.le_trans Z39 Kq59.1
      have A34_t59 := A34_t39.keep Kq59
      have P35_10_t59 := P35_10_t39.keep Kq59 (ninS (Ne.symm ne_o34_b8_c35) (ninS ne_b8_c35_b12_c35 (ninS ne_b8_c35_b10_c35 (ninS (Ne.symm ne_b4_c35_b8_c35) (ninS (Ne.symm ne_b2_c35_b8_c35) nin0)))))
      have P37_10_t59 := P37_10_t39.keep Kq59 (ninS (Ne.symm ne_o34_b6_c35) (ninS ne_b6_c35_b12_c35 (ninS ne_b6_c35_b10_c35 (ninS (Ne.symm ne_b4_c35_b6_c35) (ninS (Ne.symm ne_b2_c35_b6_c35) nin0)))))
      have e59 : T59.heap = T59.heap := rfl
      refine Wq.steps st59 ?_
      show Wq _ _ _ _ _ (T59.setTop (mkF m 141 #[.val (.int xlaw_1), .val (.int xlaw_2), .val (.int xlaw_3), .val (.long ylaw_4), .second, .val (.long ylaw_5), .second, .val (.int xlaw_6), .val (.int ms12_0), .val (.int ms26_0), .val (.int ms40_0), .val (.ref o34), .val (.int (0 : Int32)), .val (.int (0 : Int32)), .val (.int (0 : Int32)), .val (.int xlaw_1), .val (.long ylaw_4), .second, .val (.int (0 : Int32)), .unset] []))
      refine Ow.iload X59 hx (pc' := 143) (hb hby at_141) rfl ?_
      by_cases hc143 : ms40_0 = (0 : Int32)
      · skip
        refine Ow.ifYes X59 hx (pc' := 159) (hb hby at_143) ((if0 _ _).trans (teq hc143).1) (by decide) (by decide) ?_
        refine Ow.aload X59 hx (pc' := 161) (hb hby at_159) rfl rfl ?_
        refine Ow.iload X59 hx (pc' := 163) (hb hby at_161) rfl ?_
        obtain ⟨cq72, kq72, q72a, q72b, q72c⟩ := isOf hZ e59 A34_t59
        obtain ⟨_, _, ⟨T72, L72, k72, n72⟩, -, X72, ⟨Lc72, hQ72, l72, y72, z72⟩, st72⟩ := X59.virtualBack hx (y := mt9) (z := mt9) hown (mvT hZ (kw60 hw)) (mvT hZ (kw61 hw)) (notFace_of_selects (args := #[]) (mvT hZ (kw63 hw))) (mvT hZ (kw63 hw)) (mvT hZ (kw62 hw)) (by decide) (backOf (W := 0) (rm_un10i l Z a0 hw [] o34 b2_c35 b4_c35 b6_c35 b8_c35 b10_c35 b12_c35 (1 : Int32) (1 : Int32) (3 : Int32) xlaw_3 (List.replicate 63 (.int (0 : Int32))) ylaw_4 (List.replicate 63 (.long (0 : Int64))) (0 : Int32) (0 : Int32) (0 : Int32) (List.replicate 252 (.int (0 : Int32))) (xlaw_1.toInt64) (0 : Int64) (0 : Int64) (0 : Int64) (List.replicate 252 (.long (0 : Int64))) T59.heap n0 Z59 A34_t59 P59_1 P59_2 P59_3 P59_4 P59_5 P59_6 P59_7 P59_8 P59_12 P59_9 g_o34 P59_14 g_b2_c35 (Ne.symm ne_o34_b2_c35) P37_10_t59 g_b6_c35 (Ne.symm ne_o34_b6_c35) P59_10 g_b10_c35 (Ne.symm ne_o34_b10_c35) P59_11 g_b12_c35 (Ne.symm ne_o34_b12_c35) ne_b2_c35_b6_c35 ne_b2_c35_b10_c35 ne_b2_c35_b12_c35 ne_b6_c35_b10_c35 ne_b6_c35_b12_c35 ne_b10_c35_b12_c35) hZ (kw64 hw) (kw2 hw) (by decide) (by decide)) q72a q72c (g := (mkF m 163 #[.val (.int xlaw_1), .val (.int xlaw_2), .val (.int xlaw_3), .val (.long ylaw_4), .second, .val (.long ylaw_5), .second, .val (.int xlaw_6), .val (.int ms12_0), .val (.int ms26_0), .val (.int ms40_0), .val (.ref o34), .val (.int (0 : Int32)), .val (.int (0 : Int32)), .val (.int (0 : Int32)), .val (.int xlaw_1), .val (.long ylaw_4), .second, .val (.int (0 : Int32)), .unset] [(.int (0 : Int32)), (.ref o34)])) rfl (by rw [hml]; rfl) (Steps.refl _) (argsL := [(.int (0 : Int32))]) (rest := []) (lenOf pd7 rfl) rfl (by show 2 * 0 + _ ≤ _; exact Nat.le_of_eq rfl) (hb hby at_163) (fun _ _ => ⟨rfl, e59, (by decide : 7 + 0 ≤ _), (by decide : 778 + 0 ≤ _)⟩)
        dsimp only [Pt.U, Pt.locs, Pt.cells, Pt.slots] at X72 l72 y72 z72 st72 hQ72
        subst l72 y72 z72
        obtain ⟨rfl, Nq72, Kq72, P72_0, P72_1, P72_2, P72_3, P72_4, P72_5, P72_6, P72_7, P72_8, P72_9, P72_10, P72_11⟩ := hQ72
        have N72 := Fr.app N59 Nq72
        have K72 : Keep h0 T72.heap [] := K59.trans Kq72 (allS (P := fun x => x ∈ [] ∨ h0.size ≤ x) (Or.inr sz_o34) (allS (P := fun x => x ∈ [] ∨ h0.size ≤ x) (Or.inr sz_b2_c35) all0))
        have Z72 : n0 ≤ T72.heap.size := Nat.le_trans Z59 Kq72.1
        have A34_t72 := A34_t59.keep Kq72
        have P35_10_t72 := P35_10_t59.keep Kq72 (ninS (Ne.symm ne_o34_b8_c35) (ninS (Ne.symm ne_b2_c35_b8_c35) nin0))
        have P37_10_t72 := P37_10_t59.keep Kq72 (ninS (Ne.symm ne_o34_b6_c35) (ninS (Ne.symm ne_b2_c35_b6_c35) nin0))
        have P59_10_t72 := P59_10.keep Kq72 (ninS (Ne.symm ne_o34_b10_c35) (ninS (Ne.symm ne_b2_c35_b10_c35) nin0))
        have P59_11_t72 := P59_11.keep Kq72 (ninS (Ne.symm ne_o34_b12_c35) (ninS (Ne.symm ne_b2_c35_b12_c35) nin0))
        have P59_13_t72 := P59_13.keep Kq72 (ninS (Ne.symm ne_o34_b4_c35) (ninS (Ne.symm ne_b2_c35_b4_c35) nin0))
        have e72 : T72.heap = T72.heap := rfl
        have P72_11f : Fld Z T72.heap o34 "com/example/tauten/tauten/Trail" "epoch" "I" (.int (4 : Int32)) := P72_11
        refine Wq.steps st72 ?_
        show Wq _ _ _ _ _ (T72.setTop (mkF m 166 #[.val (.int xlaw_1), .val (.int xlaw_2), .val (.int xlaw_3), .val (.long ylaw_4), .second, .val (.long ylaw_5), .second, .val (.int xlaw_6), .val (.int ms12_0), .val (.int ms26_0), .val (.int ms40_0), .val (.ref o34), .val (.int (0 : Int32)), .val (.int (0 : Int32)), .val (.int (0 : Int32)), .val (.int xlaw_1), .val (.long ylaw_4), .second, .val (.int (0 : Int32)), .unset] []))
        refine Ow.aload X72 hx (pc' := 168) (hb hby at_166) rfl rfl ?_
        refine Ow.iload X72 hx (pc' := 170) (hb hby at_168) rfl ?_
        obtain ⟨cq73, kq73, q73a, q73b, q73c⟩ := isOf hZ e72 A34_t72
        obtain ⟨_, _, ⟨T73, L73, k73, n73⟩, -, X73, ⟨Lc73, hQ73, l73, y73, z73⟩, st73⟩ := X72.virtualBack hx (y := mt5) (z := mt5) hown (mvT hZ (kw65 hw)) (mvT hZ (kw66 hw)) (notFace_of_selects (args := #[]) (mvT hZ (kw68 hw))) (mvT hZ (kw68 hw)) (mvT hZ (kw67 hw)) (by decide) (backOf (W := 0) (rm_gt l Z a0 hw [] o34 b2_c35 ((xlaw_1.toInt64).toInt32) (List.replicate 63 (.int (0 : Int32))) T72.heap n0 Z72 P72_1 P72_10) hZ (kw69 hw) (kw2 hw) (by decide) (by decide)) q73a q73c (g := (mkF m 170 #[.val (.int xlaw_1), .val (.int xlaw_2), .val (.int xlaw_3), .val (.long ylaw_4), .second, .val (.long ylaw_5), .second, .val (.int xlaw_6), .val (.int ms12_0), .val (.int ms26_0), .val (.int ms40_0), .val (.ref o34), .val (.int (0 : Int32)), .val (.int (0 : Int32)), .val (.int (0 : Int32)), .val (.int xlaw_1), .val (.long ylaw_4), .second, .val (.int (0 : Int32)), .unset] [(.int (0 : Int32)), (.ref o34)])) rfl (by rw [hml]; rfl) (Steps.refl _) (argsL := [(.int (0 : Int32))]) (rest := []) (lenOf pd2 rfl) rfl (by show 2 * 0 + _ ≤ _; exact Nat.le_of_eq rfl) (hb hby at_170) (fun _ _ => ⟨rfl, e72, (by decide : 7 + 0 ≤ _), (by decide : 778 + 0 ≤ _)⟩)
        dsimp only [Pt.U, Pt.locs, Pt.cells, Pt.slots] at X73 l73 y73 z73 st73 hQ73
        subst l73 y73 z73
        obtain ⟨rfl, Nq73, e73⟩ := hQ73
        have N73 := Fr.app N72 Nq73
        refine Wq.steps st73 ?_
        show Wq _ _ _ _ _ (T73.setTop (mkF m 173 #[.val (.int xlaw_1), .val (.int xlaw_2), .val (.int xlaw_3), .val (.long ylaw_4), .second, .val (.long ylaw_5), .second, .val (.int xlaw_6), .val (.int ms12_0), .val (.int ms26_0), .val (.int ms40_0), .val (.ref o34), .val (.int (0 : Int32)), .val (.int (0 : Int32)), .val (.int (0 : Int32)), .val (.int xlaw_1), .val (.long ylaw_4), .second, .val (.int (0 : Int32)), .unset] [(.int ((xlaw_1.toInt64).toInt32))]))
        refine Ow.iload X73 hx (pc' := 175) (hb hby at_173) rfl ?_
        refine Ow.icmpNo X73 hx (pc' := 178) (hb hby at_175) (teq (by first | (simp only [Int32.toInt32_toInt64]; done) | rfl : ((xlaw_1.toInt64).toInt32) = xlaw_1)).2 ?_
        refine Ow.aload X73 hx (pc' := 180) (hb hby at_178) rfl rfl ?_
        refine Ow.iload X73 hx (pc' := 182) (hb hby at_180) rfl ?_
        obtain ⟨cq74, kq74, q74a, q74b, q74c⟩ := isOf hZ e73 A34_t72
        obtain ⟨_, _, ⟨T74, L74, k74, n74⟩, -, X74, ⟨Lc74, hQ74, l74, y74, z74⟩, st74⟩ := X73.virtualBack hx (y := mt6) (z := mt6) hown (mvT hZ (kw70 hw)) (mvT hZ (kw71 hw)) (notFace_of_selects (args := #[]) (mvT hZ (kw73 hw))) (mvT hZ (kw73 hw)) (mvT hZ (kw72 hw)) (by decide) (backOf (W := 0) (rm_gl l Z a0 hw [] o34 b6_c35 ylaw_4 (List.replicate 63 (.long (0 : Int64))) T72.heap n0 Z72 P72_3 P37_10_t72) hZ (kw74 hw) (kw2 hw) (by decide) (by decide)) q74a q74c (g := (mkF m 182 #[.val (.int xlaw_1), .val (.int xlaw_2), .val (.int xlaw_3), .val (.long ylaw_4), .second, .val (.long ylaw_5), .second, .val (.int xlaw_6), .val (.int ms12_0), .val (.int ms26_0), .val (.int ms40_0), .val (.ref o34), .val (.int (0 : Int32)), .val (.int (0 : Int32)), .val (.int (0 : Int32)), .val (.int xlaw_1), .val (.long ylaw_4), .second, .val (.int (0 : Int32)), .unset] [(.int (0 : Int32)), (.ref o34)])) rfl (by rw [hml]; rfl) (Steps.refl _) (argsL := [(.int (0 : Int32))]) (rest := []) (lenOf pd8 rfl) rfl (by show 2 * 0 + _ ≤ _; exact Nat.le_of_eq rfl) (hb hby at_182) (fun _ _ => ⟨rfl, e73, (by decide : 7 + 0 ≤ _), (by decide : 778 + 0 ≤ _)⟩)
        dsimp only [Pt.U, Pt.locs, Pt.cells, Pt.slots] at X74 l74 y74 z74 st74 hQ74
        subst l74 y74 z74
        obtain ⟨rfl, Nq74, e74⟩ := hQ74
        have N74 := Fr.app N73 Nq74
        refine Wq.steps st74 ?_
        show Wq _ _ _ _ _ (T74.setTop (mkF m 185 #[.val (.int xlaw_1), .val (.int xlaw_2), .val (.int xlaw_3), .val (.long ylaw_4), .second, .val (.long ylaw_5), .second, .val (.int xlaw_6), .val (.int ms12_0), .val (.int ms26_0), .val (.int ms40_0), .val (.ref o34), .val (.int (0 : Int32)), .val (.int (0 : Int32)), .val (.int (0 : Int32)), .val (.int xlaw_1), .val (.long ylaw_4), .second, .val (.int (0 : Int32)), .unset] [(.long ylaw_4)]))
        refine Ow.lload X74 hx (pc' := 187) (hb hby at_185) rfl ?_
        refine Ow.lcmp X74 hx (pc' := 188) (hb hby at_187)  ?_
        refine Ow.ifNo X74 hx (pc' := 191) (hb hby at_188) ((if0 _ _).trans (teq ((lw_eq _ _).mpr (rfl : ylaw_4 = ylaw_4))).2) ?_
        refine Ow.iconst X74 hx (pc' := 192) (hb hby at_191) (z := (1 : Int32)) rfl ?_
        refine Ow.goto X74 hx (pc' := 196) (hb hby at_192) (by decide) (by decide) ?_
        refine Ow.istore X74 hx (pc' := 198) (hb hby at_196) (l' := #[.val (.int xlaw_1), .val (.int xlaw_2), .val (.int xlaw_3), .val (.long ylaw_4), .second, .val (.long ylaw_5), .second, .val (.int xlaw_6), .val (.int ms12_0), .val (.int ms26_0), .val (.int ms40_0), .val (.ref o34), .val (.int (0 : Int32)), .val (.int (0 : Int32)), .val (.int (0 : Int32)), .val (.int xlaw_1), .val (.long ylaw_4), .second, .val (.int (0 : Int32)), .val (.int (1 : Int32))]) rfl ?_
        refine Ow.aload X74 hx (pc' := 200) (hb hby at_198) rfl rfl ?_
        refine Ow.iload X74 hx (pc' := 202) (hb hby at_200) rfl ?_
        refine Ow.iloadN X74 hx (pc' := 203) (hb hby at_202) rfl ?_
        refine Ow.iloadN X74 hx (pc' := 204) (hb hby at_203) rfl ?_
        refine Ow.ixor X74 hx (pc' := 205) (hb hby at_204) (z := (xlaw_1 ^^^ xlaw_3)) rfl ?_
        obtain ⟨cq75, kq75, q75a, q75b, q75c⟩ := isOf hZ e74 A34_t72
        obtain ⟨_, _, ⟨T75, L75, k75, n75⟩, -, X75, ⟨Lc75, hQ75, l75, y75, z75⟩, st75⟩ := X74.virtualBack hx (y := mt8) (z := mt8) hown (mvT hZ (kw46 hw)) (mvT hZ (kw47 hw)) (notFace_of_selects (args := #[]) (mvT hZ (kw49 hw))) (mvT hZ (kw49 hw)) (mvT hZ (kw48 hw)) (by decide) (backOf (W := 0) (rm_st0 l Z a0 hw [] o34 (xlaw_1 ^^^ xlaw_3) b2_c35 b4_c35 b6_c35 b8_c35 b10_c35 b12_c35 (1 : Int32) (1 : Int32) (4 : Int32) ((xlaw_1.toInt64).toInt32) (List.replicate 63 (.int (0 : Int32))) (3 : Int32) (List.replicate 63 (.int (0 : Int32))) (0 : Int32) (0 : Int32) (0 : Int32) (0 : Int32) (List.replicate 252 (.int (0 : Int32))) (xlaw_1.toInt64) (0 : Int64) (0 : Int64) (0 : Int64) (List.replicate 252 (.long (0 : Int64))) T72.heap n0 Z72 (by decide) A34_t72 P72_1 P72_2 P72_3 P72_4 P72_5 P72_6 P72_7 P72_8 P72_9 P72_11f g_o34 P72_10 g_b2_c35 (Ne.symm ne_o34_b2_c35) P59_13_t72 g_b4_c35 (Ne.symm ne_o34_b4_c35) P59_10_t72 g_b10_c35 (Ne.symm ne_o34_b10_c35) P59_11_t72 g_b12_c35 (Ne.symm ne_o34_b12_c35) ne_b2_c35_b4_c35 ne_b2_c35_b10_c35 ne_b2_c35_b12_c35 ne_b4_c35_b10_c35 ne_b4_c35_b12_c35 ne_b10_c35_b12_c35 (by decide)) hZ (kw50 hw) (kw2 hw) (by decide) (by decide)) q75a q75c (g := (mkF m 205 #[.val (.int xlaw_1), .val (.int xlaw_2), .val (.int xlaw_3), .val (.long ylaw_4), .second, .val (.long ylaw_5), .second, .val (.int xlaw_6), .val (.int ms12_0), .val (.int ms26_0), .val (.int ms40_0), .val (.ref o34), .val (.int (0 : Int32)), .val (.int (0 : Int32)), .val (.int (0 : Int32)), .val (.int xlaw_1), .val (.long ylaw_4), .second, .val (.int (0 : Int32)), .val (.int (1 : Int32))] [(.int (xlaw_1 ^^^ xlaw_3)), (.int (0 : Int32)), (.ref o34)])) rfl (by rw [hml]; rfl) (Steps.refl _) (argsL := [(.int (0 : Int32)), (.int (xlaw_1 ^^^ xlaw_3))]) (rest := []) (lenOf pd6 rfl) rfl (by show 2 * 0 + _ ≤ _; exact Nat.le_of_eq rfl) (hb hby at_205) (fun _ _ => ⟨rfl, e74, (by decide : 7 + 0 ≤ _), (by decide : 778 + 0 ≤ _)⟩)
        dsimp only [Pt.U, Pt.locs, Pt.cells, Pt.slots] at X75 l75 y75 z75 st75 hQ75
        subst l75 y75 z75
        obtain ⟨rfl, Nq75, Kq75, P75_0, P75_1, P75_2, P75_3, P75_4, P75_5, P75_6, P75_7, P75_8, P75_9, P75_10, P75_11, P75_12, P75_13, P75_14⟩ := hQ75
        have N75 := Fr.app N74 Nq75
        have K75 : Keep h0 T75.heap [] := K72.trans Kq75 (allS (P := fun x => x ∈ [] ∨ h0.size ≤ x) (Or.inr sz_o34) (allS (P := fun x => x ∈ [] ∨ h0.size ≤ x) (Or.inr sz_b12_c35) (allS (P := fun x => x ∈ [] ∨ h0.size ≤ x) (Or.inr sz_b10_c35) (allS (P := fun x => x ∈ [] ∨ h0.size ≤ x) (Or.inr sz_b4_c35) (allS (P := fun x => x ∈ [] ∨ h0.size ≤ x) (Or.inr sz_b2_c35) all0)))))
        have Z75 : n0 ≤ T75.heap.size := Nat.le_trans Z72 Kq75.1
        have A34_t75 := A34_t72.keep Kq75
        have P35_10_t75 := P35_10_t72.keep Kq75 (ninS (Ne.symm ne_o34_b8_c35) (ninS ne_b8_c35_b12_c35 (ninS ne_b8_c35_b10_c35 (ninS (Ne.symm ne_b4_c35_b8_c35) (ninS (Ne.symm ne_b2_c35_b8_c35) nin0)))))
        have P37_10_t75 := P37_10_t72.keep Kq75 (ninS (Ne.symm ne_o34_b6_c35) (ninS ne_b6_c35_b12_c35 (ninS ne_b6_c35_b10_c35 (ninS (Ne.symm ne_b4_c35_b6_c35) (ninS (Ne.symm ne_b2_c35_b6_c35) nin0)))))
        have e75 : T75.heap = T75.heap := rfl
        refine Wq.steps st75 ?_
        show Wq _ _ _ _ _ (T75.setTop (mkF m 208 #[.val (.int xlaw_1), .val (.int xlaw_2), .val (.int xlaw_3), .val (.long ylaw_4), .second, .val (.long ylaw_5), .second, .val (.int xlaw_6), .val (.int ms12_0), .val (.int ms26_0), .val (.int ms40_0), .val (.ref o34), .val (.int (0 : Int32)), .val (.int (0 : Int32)), .val (.int (0 : Int32)), .val (.int xlaw_1), .val (.long ylaw_4), .second, .val (.int (0 : Int32)), .val (.int (1 : Int32))] []))
        refine Ow.aload X75 hx (pc' := 210) (hb hby at_208) rfl rfl ?_
        refine Ow.iload X75 hx (pc' := 212) (hb hby at_210) rfl ?_
        obtain ⟨cq76, kq76, q76a, q76b, q76c⟩ := isOf hZ e75 A34_t75
        obtain ⟨_, _, ⟨T76, L76, k76, n76⟩, -, X76, ⟨Lc76, hQ76, l76, y76, z76⟩, st76⟩ := X75.virtualBack hx (y := mt9) (z := mt9) hown (mvT hZ (kw60 hw)) (mvT hZ (kw61 hw)) (notFace_of_selects (args := #[]) (mvT hZ (kw63 hw))) (mvT hZ (kw63 hw)) (mvT hZ (kw62 hw)) (by decide) (backOf (W := 0) (rm_un10i l Z a0 hw [] o34 b2_c35 b4_c35 b6_c35 b8_c35 b10_c35 b12_c35 (1 : Int32) (1 : Int32) (4 : Int32) (xlaw_1 ^^^ xlaw_3) (List.replicate 63 (.int (0 : Int32))) ylaw_4 (List.replicate 63 (.long (0 : Int64))) (0 : Int32) (0 : Int32) (0 : Int32) (List.replicate 252 (.int (0 : Int32))) (((xlaw_1.toInt64).toInt32).toInt64) (0 : Int64) (0 : Int64) (0 : Int64) (List.replicate 252 (.long (0 : Int64))) T75.heap n0 Z75 A34_t75 P75_1 P75_2 P75_3 P75_4 P75_5 P75_6 P75_7 P75_8 P75_12 P75_9 g_o34 P75_14 g_b2_c35 (Ne.symm ne_o34_b2_c35) P37_10_t75 g_b6_c35 (Ne.symm ne_o34_b6_c35) P75_10 g_b10_c35 (Ne.symm ne_o34_b10_c35) P75_11 g_b12_c35 (Ne.symm ne_o34_b12_c35) ne_b2_c35_b6_c35 ne_b2_c35_b10_c35 ne_b2_c35_b12_c35 ne_b6_c35_b10_c35 ne_b6_c35_b12_c35 ne_b10_c35_b12_c35) hZ (kw64 hw) (kw2 hw) (by decide) (by decide)) q76a q76c (g := (mkF m 212 #[.val (.int xlaw_1), .val (.int xlaw_2), .val (.int xlaw_3), .val (.long ylaw_4), .second, .val (.long ylaw_5), .second, .val (.int xlaw_6), .val (.int ms12_0), .val (.int ms26_0), .val (.int ms40_0), .val (.ref o34), .val (.int (0 : Int32)), .val (.int (0 : Int32)), .val (.int (0 : Int32)), .val (.int xlaw_1), .val (.long ylaw_4), .second, .val (.int (0 : Int32)), .val (.int (1 : Int32))] [(.int (0 : Int32)), (.ref o34)])) rfl (by rw [hml]; rfl) (Steps.refl _) (argsL := [(.int (0 : Int32))]) (rest := []) (lenOf pd7 rfl) rfl (by show 2 * 0 + _ ≤ _; exact Nat.le_of_eq rfl) (hb hby at_212) (fun _ _ => ⟨rfl, e75, (by decide : 7 + 0 ≤ _), (by decide : 778 + 0 ≤ _)⟩)
        dsimp only [Pt.U, Pt.locs, Pt.cells, Pt.slots] at X76 l76 y76 z76 st76 hQ76
        subst l76 y76 z76
        obtain ⟨rfl, Nq76, Kq76, P76_0, P76_1, P76_2, P76_3, P76_4, P76_5, P76_6, P76_7, P76_8, P76_9, P76_10, P76_11⟩ := hQ76
        have N76 := Fr.app N75 Nq76
        have K76 : Keep h0 T76.heap [] := K75.trans Kq76 (allS (P := fun x => x ∈ [] ∨ h0.size ≤ x) (Or.inr sz_o34) (allS (P := fun x => x ∈ [] ∨ h0.size ≤ x) (Or.inr sz_b2_c35) all0))
        have Z76 : n0 ≤ T76.heap.size := Nat.le_trans Z75 Kq76.1
        have A34_t76 := A34_t75.keep Kq76
        have P35_10_t76 := P35_10_t75.keep Kq76 (ninS (Ne.symm ne_o34_b8_c35) (ninS (Ne.symm ne_b2_c35_b8_c35) nin0))
        have P37_10_t76 := P37_10_t75.keep Kq76 (ninS (Ne.symm ne_o34_b6_c35) (ninS (Ne.symm ne_b2_c35_b6_c35) nin0))
        have P75_10_t76 := P75_10.keep Kq76 (ninS (Ne.symm ne_o34_b10_c35) (ninS (Ne.symm ne_b2_c35_b10_c35) nin0))
        have P75_11_t76 := P75_11.keep Kq76 (ninS (Ne.symm ne_o34_b12_c35) (ninS (Ne.symm ne_b2_c35_b12_c35) nin0))
        have P75_13_t76 := P75_13.keep Kq76 (ninS (Ne.symm ne_o34_b4_c35) (ninS (Ne.symm ne_b2_c35_b4_c35) nin0))
        have e76 : T76.heap = T76.heap := rfl
        have P76_11f : Fld Z T76.heap o34 "com/example/tauten/tauten/Trail" "epoch" "I" (.int (5 : Int32)) := P76_11
        refine Wq.steps st76 ?_
        show Wq _ _ _ _ _ (T76.setTop (mkF m 215 #[.val (.int xlaw_1), .val (.int xlaw_2), .val (.int xlaw_3), .val (.long ylaw_4), .second, .val (.long ylaw_5), .second, .val (.int xlaw_6), .val (.int ms12_0), .val (.int ms26_0), .val (.int ms40_0), .val (.ref o34), .val (.int (0 : Int32)), .val (.int (0 : Int32)), .val (.int (0 : Int32)), .val (.int xlaw_1), .val (.long ylaw_4), .second, .val (.int (0 : Int32)), .val (.int (1 : Int32))] []))
        refine Ow.iload X76 hx (pc' := 217) (hb hby at_215) rfl ?_
        refine Ow.ifNo X76 hx (pc' := 220) (hb hby at_217) ((if0 _ _).trans (feq (by decide : ¬ ((1 : Int32) = (0 : Int32)))).1) ?_
        refine Ow.aload X76 hx (pc' := 222) (hb hby at_220) rfl rfl ?_
        refine Ow.iload X76 hx (pc' := 224) (hb hby at_222) rfl ?_
        obtain ⟨cq77, kq77, q77a, q77b, q77c⟩ := isOf hZ e76 A34_t76
        obtain ⟨_, _, ⟨T77, L77, k77, n77⟩, -, X77, ⟨Lc77, hQ77, l77, y77, z77⟩, st77⟩ := X76.virtualBack hx (y := mt5) (z := mt5) hown (mvT hZ (kw65 hw)) (mvT hZ (kw66 hw)) (notFace_of_selects (args := #[]) (mvT hZ (kw68 hw))) (mvT hZ (kw68 hw)) (mvT hZ (kw67 hw)) (by decide) (backOf (W := 0) (rm_gt l Z a0 hw [] o34 b2_c35 ((((xlaw_1.toInt64).toInt32).toInt64).toInt32) (List.replicate 63 (.int (0 : Int32))) T76.heap n0 Z76 P76_1 P76_10) hZ (kw69 hw) (kw2 hw) (by decide) (by decide)) q77a q77c (g := (mkF m 224 #[.val (.int xlaw_1), .val (.int xlaw_2), .val (.int xlaw_3), .val (.long ylaw_4), .second, .val (.long ylaw_5), .second, .val (.int xlaw_6), .val (.int ms12_0), .val (.int ms26_0), .val (.int ms40_0), .val (.ref o34), .val (.int (0 : Int32)), .val (.int (0 : Int32)), .val (.int (0 : Int32)), .val (.int xlaw_1), .val (.long ylaw_4), .second, .val (.int (0 : Int32)), .val (.int (1 : Int32))] [(.int (0 : Int32)), (.ref o34)])) rfl (by rw [hml]; rfl) (Steps.refl _) (argsL := [(.int (0 : Int32))]) (rest := []) (lenOf pd2 rfl) rfl (by show 2 * 0 + _ ≤ _; exact Nat.le_of_eq rfl) (hb hby at_224) (fun _ _ => ⟨rfl, e76, (by decide : 7 + 0 ≤ _), (by decide : 778 + 0 ≤ _)⟩)
        dsimp only [Pt.U, Pt.locs, Pt.cells, Pt.slots] at X77 l77 y77 z77 st77 hQ77
        subst l77 y77 z77
        obtain ⟨rfl, Nq77, e77⟩ := hQ77
        have N77 := Fr.app N76 Nq77
        refine Wq.steps st77 ?_
        show Wq _ _ _ _ _ (T77.setTop (mkF m 227 #[.val (.int xlaw_1), .val (.int xlaw_2), .val (.int xlaw_3), .val (.long ylaw_4), .second, .val (.long ylaw_5), .second, .val (.int xlaw_6), .val (.int ms12_0), .val (.int ms26_0), .val (.int ms40_0), .val (.ref o34), .val (.int (0 : Int32)), .val (.int (0 : Int32)), .val (.int (0 : Int32)), .val (.int xlaw_1), .val (.long ylaw_4), .second, .val (.int (0 : Int32)), .val (.int (1 : Int32))] [(.int ((((xlaw_1.toInt64).toInt32).toInt64).toInt32))]))
        refine Ow.iload X77 hx (pc' := 229) (hb hby at_227) rfl ?_
        refine Ow.icmpNo X77 hx (pc' := 232) (hb hby at_229) (teq (by first | (simp only [Int32.toInt32_toInt64]; done) | rfl : ((((xlaw_1.toInt64).toInt32).toInt64).toInt32) = xlaw_1)).2 ?_
        refine Ow.iconst X77 hx (pc' := 233) (hb hby at_232) (z := (1 : Int32)) rfl ?_
        refine Ow.goto X77 hx (pc' := 237) (hb hby at_233) (by decide) (by decide) ?_
        refine Ow.istore X77 hx (pc' := 239) (hb hby at_237) (l' := #[.val (.int xlaw_1), .val (.int xlaw_2), .val (.int xlaw_3), .val (.long ylaw_4), .second, .val (.long ylaw_5), .second, .val (.int xlaw_6), .val (.int ms12_0), .val (.int ms26_0), .val (.int ms40_0), .val (.ref o34), .val (.int (0 : Int32)), .val (.int (0 : Int32)), .val (.int (0 : Int32)), .val (.int xlaw_1), .val (.long ylaw_4), .second, .val (.int (0 : Int32)), .val (.int (1 : Int32))]) rfl ?_
        refine Ow.aload X77 hx (pc' := 241) (hb hby at_239) rfl rfl ?_
        refine Ow.iload X77 hx (pc' := 243) (hb hby at_241) rfl ?_
        obtain ⟨cq81, kq81, q81a, q81b, q81c⟩ := isOf hZ e77 A34_t76
        obtain ⟨_, _, ⟨T81, L81, k81, n81⟩, -, X81, ⟨Lc81, hQ81, l81, y81, z81⟩, st81⟩ := X77.virtualBack hx (y := mt9) (z := mt9) hown (mvT hZ (kw60 hw)) (mvT hZ (kw61 hw)) (notFace_of_selects (args := #[]) (mvT hZ (kw63 hw))) (mvT hZ (kw63 hw)) (mvT hZ (kw62 hw)) (by decide) (backOf (W := 0) (rm_un00 l Z a0 hw [] o34 b2_c35 b4_c35 b6_c35 b8_c35 b10_c35 b12_c35 (1 : Int32) (1 : Int32) (5 : Int32) ((((xlaw_1.toInt64).toInt32).toInt64).toInt32) (List.replicate 63 (.int (0 : Int32))) ylaw_4 (List.replicate 63 (.long (0 : Int64))) (0 : Int32) (0 : Int32) (0 : Int32) (0 : Int32) (List.replicate 252 (.int (0 : Int32))) (((xlaw_1.toInt64).toInt32).toInt64) (0 : Int64) (0 : Int64) (0 : Int64) (List.replicate 252 (.long (0 : Int64))) T76.heap n0 Z76 A34_t76 P76_1 P76_2 P76_3 P76_4 P76_5 P76_6 P76_7 P76_8 P76_9 P76_11f g_o34 P76_10 g_b2_c35 (Ne.symm ne_o34_b2_c35) P37_10_t76 g_b6_c35 (Ne.symm ne_o34_b6_c35) P75_10_t76 g_b10_c35 (Ne.symm ne_o34_b10_c35) P75_11_t76 g_b12_c35 (Ne.symm ne_o34_b12_c35) ne_b2_c35_b6_c35 ne_b2_c35_b10_c35 ne_b2_c35_b12_c35 ne_b6_c35_b10_c35 ne_b6_c35_b12_c35 ne_b10_c35_b12_c35) hZ (kw64 hw) (kw2 hw) (by decide) (by decide)) q81a q81c (g := (mkF m 243 #[.val (.int xlaw_1), .val (.int xlaw_2), .val (.int xlaw_3), .val (.long ylaw_4), .second, .val (.long ylaw_5), .second, .val (.int xlaw_6), .val (.int ms12_0), .val (.int ms26_0), .val (.int ms40_0), .val (.ref o34), .val (.int (0 : Int32)), .val (.int (0 : Int32)), .val (.int (0 : Int32)), .val (.int xlaw_1), .val (.long ylaw_4), .second, .val (.int (0 : Int32)), .val (.int (1 : Int32))] [(.int (0 : Int32)), (.ref o34)])) rfl (by rw [hml]; rfl) (Steps.refl _) (argsL := [(.int (0 : Int32))]) (rest := []) (lenOf pd7 rfl) rfl (by show 2 * 0 + _ ≤ _; exact Nat.le_of_eq rfl) (hb hby at_243) (fun _ _ => ⟨rfl, e77, (by decide : 7 + 0 ≤ _), (by decide : 778 + 0 ≤ _)⟩)
        dsimp only [Pt.U, Pt.locs, Pt.cells, Pt.slots] at X81 l81 y81 z81 st81 hQ81
        subst l81 y81 z81
        obtain ⟨rfl, Nq81, Kq81, P81_0, P81_1, P81_2, P81_3, P81_4, P81_5, P81_6, P81_7, P81_8, P81_9, P81_10⟩ := hQ81
        have N81 := Fr.app N77 Nq81
        have K81 : Keep h0 T81.heap [] := K76.trans Kq81 (allS (P := fun x => x ∈ [] ∨ h0.size ≤ x) (Or.inr sz_o34) all0)
        have Z81 : n0 ≤ T81.heap.size := Nat.le_trans Z76 Kq81.1
        have A34_t81 := A34_t76.keep Kq81
        have P35_10_t81 := P35_10_t76.keep Kq81 (ninS (Ne.symm ne_o34_b8_c35) nin0)
        have P37_10_t81 := P37_10_t76.keep Kq81 (ninS (Ne.symm ne_o34_b6_c35) nin0)
        have P75_10_t81 := P75_10_t76.keep Kq81 (ninS (Ne.symm ne_o34_b10_c35) nin0)
        have P75_11_t81 := P75_11_t76.keep Kq81 (ninS (Ne.symm ne_o34_b12_c35) nin0)
        have P75_13_t81 := P75_13_t76.keep Kq81 (ninS (Ne.symm ne_o34_b4_c35) nin0)
        have P76_10_t81 := P76_10.keep Kq81 (ninS (Ne.symm ne_o34_b2_c35) nin0)
        have e81 : T81.heap = T81.heap := rfl
        have P81_10f : Fld Z T81.heap o34 "com/example/tauten/tauten/Trail" "epoch" "I" (.int (6 : Int32)) := P81_10
        refine Wq.steps st81 ?_
        show Wq _ _ _ _ _ (T81.setTop (mkF m 246 #[.val (.int xlaw_1), .val (.int xlaw_2), .val (.int xlaw_3), .val (.long ylaw_4), .second, .val (.long ylaw_5), .second, .val (.int xlaw_6), .val (.int ms12_0), .val (.int ms26_0), .val (.int ms40_0), .val (.ref o34), .val (.int (0 : Int32)), .val (.int (0 : Int32)), .val (.int (0 : Int32)), .val (.int xlaw_1), .val (.long ylaw_4), .second, .val (.int (0 : Int32)), .val (.int (1 : Int32))] []))
        refine Ow.iload X81 hx (pc' := 248) (hb hby at_246) rfl ?_
        refine Ow.ifNo X81 hx (pc' := 251) (hb hby at_248) ((if0 _ _).trans (feq (by decide : ¬ ((1 : Int32) = (0 : Int32)))).1) ?_
        refine Ow.aload X81 hx (pc' := 253) (hb hby at_251) rfl rfl ?_
        refine Ow.iload X81 hx (pc' := 255) (hb hby at_253) rfl ?_
        obtain ⟨cq82, kq82, q82a, q82b, q82c⟩ := isOf hZ e81 A34_t81
        obtain ⟨_, _, ⟨T82, L82, k82, n82⟩, -, X82, ⟨Lc82, hQ82, l82, y82, z82⟩, st82⟩ := X81.virtualBack hx (y := mt5) (z := mt5) hown (mvT hZ (kw65 hw)) (mvT hZ (kw66 hw)) (notFace_of_selects (args := #[]) (mvT hZ (kw68 hw))) (mvT hZ (kw68 hw)) (mvT hZ (kw67 hw)) (by decide) (backOf (W := 0) (rm_gt l Z a0 hw [] o34 b2_c35 ((((xlaw_1.toInt64).toInt32).toInt64).toInt32) (List.replicate 63 (.int (0 : Int32))) T81.heap n0 Z81 P81_1 P76_10_t81) hZ (kw69 hw) (kw2 hw) (by decide) (by decide)) q82a q82c (g := (mkF m 255 #[.val (.int xlaw_1), .val (.int xlaw_2), .val (.int xlaw_3), .val (.long ylaw_4), .second, .val (.long ylaw_5), .second, .val (.int xlaw_6), .val (.int ms12_0), .val (.int ms26_0), .val (.int ms40_0), .val (.ref o34), .val (.int (0 : Int32)), .val (.int (0 : Int32)), .val (.int (0 : Int32)), .val (.int xlaw_1), .val (.long ylaw_4), .second, .val (.int (0 : Int32)), .val (.int (1 : Int32))] [(.int (0 : Int32)), (.ref o34)])) rfl (by rw [hml]; rfl) (Steps.refl _) (argsL := [(.int (0 : Int32))]) (rest := []) (lenOf pd2 rfl) rfl (by show 2 * 0 + _ ≤ _; exact Nat.le_of_eq rfl) (hb hby at_255) (fun _ _ => ⟨rfl, e81, (by decide : 7 + 0 ≤ _), (by decide : 778 + 0 ≤ _)⟩)
        dsimp only [Pt.U, Pt.locs, Pt.cells, Pt.slots] at X82 l82 y82 z82 st82 hQ82
        subst l82 y82 z82
        obtain ⟨rfl, Nq82, e82⟩ := hQ82
        have N82 := Fr.app N81 Nq82
        refine Wq.steps st82 ?_
        show Wq _ _ _ _ _ (T82.setTop (mkF m 258 #[.val (.int xlaw_1), .val (.int xlaw_2), .val (.int xlaw_3), .val (.long ylaw_4), .second, .val (.long ylaw_5), .second, .val (.int xlaw_6), .val (.int ms12_0), .val (.int ms26_0), .val (.int ms40_0), .val (.ref o34), .val (.int (0 : Int32)), .val (.int (0 : Int32)), .val (.int (0 : Int32)), .val (.int xlaw_1), .val (.long ylaw_4), .second, .val (.int (0 : Int32)), .val (.int (1 : Int32))] [(.int ((((xlaw_1.toInt64).toInt32).toInt64).toInt32))]))
        refine Ow.iloadN X82 hx (pc' := 259) (hb hby at_258) rfl ?_
        refine Ow.icmpNo X82 hx (pc' := 262) (hb hby at_259) (teq (by first | (simp only [Int32.toInt32_toInt64]; done) | rfl : ((((xlaw_1.toInt64).toInt32).toInt64).toInt32) = xlaw_1)).2 ?_
        refine Ow.aload X82 hx (pc' := 264) (hb hby at_262) rfl rfl ?_
        refine Ow.iload X82 hx (pc' := 266) (hb hby at_264) rfl ?_
        obtain ⟨cq83, kq83, q83a, q83b, q83c⟩ := isOf hZ e82 A34_t81
        obtain ⟨_, _, ⟨T83, L83, k83, n83⟩, -, X83, ⟨Lc83, hQ83, l83, y83, z83⟩, st83⟩ := X82.virtualBack hx (y := mt6) (z := mt6) hown (mvT hZ (kw70 hw)) (mvT hZ (kw71 hw)) (notFace_of_selects (args := #[]) (mvT hZ (kw73 hw))) (mvT hZ (kw73 hw)) (mvT hZ (kw72 hw)) (by decide) (backOf (W := 0) (rm_gl l Z a0 hw [] o34 b6_c35 ylaw_4 (List.replicate 63 (.long (0 : Int64))) T81.heap n0 Z81 P81_3 P37_10_t81) hZ (kw74 hw) (kw2 hw) (by decide) (by decide)) q83a q83c (g := (mkF m 266 #[.val (.int xlaw_1), .val (.int xlaw_2), .val (.int xlaw_3), .val (.long ylaw_4), .second, .val (.long ylaw_5), .second, .val (.int xlaw_6), .val (.int ms12_0), .val (.int ms26_0), .val (.int ms40_0), .val (.ref o34), .val (.int (0 : Int32)), .val (.int (0 : Int32)), .val (.int (0 : Int32)), .val (.int xlaw_1), .val (.long ylaw_4), .second, .val (.int (0 : Int32)), .val (.int (1 : Int32))] [(.int (0 : Int32)), (.ref o34)])) rfl (by rw [hml]; rfl) (Steps.refl _) (argsL := [(.int (0 : Int32))]) (rest := []) (lenOf pd8 rfl) rfl (by show 2 * 0 + _ ≤ _; exact Nat.le_of_eq rfl) (hb hby at_266) (fun _ _ => ⟨rfl, e82, (by decide : 7 + 0 ≤ _), (by decide : 778 + 0 ≤ _)⟩)
        dsimp only [Pt.U, Pt.locs, Pt.cells, Pt.slots] at X83 l83 y83 z83 st83 hQ83
        subst l83 y83 z83
        obtain ⟨rfl, Nq83, e83⟩ := hQ83
        have N83 := Fr.app N82 Nq83
        refine Wq.steps st83 ?_
        show Wq _ _ _ _ _ (T83.setTop (mkF m 269 #[.val (.int xlaw_1), .val (.int xlaw_2), .val (.int xlaw_3), .val (.long ylaw_4), .second, .val (.long ylaw_5), .second, .val (.int xlaw_6), .val (.int ms12_0), .val (.int ms26_0), .val (.int ms40_0), .val (.ref o34), .val (.int (0 : Int32)), .val (.int (0 : Int32)), .val (.int (0 : Int32)), .val (.int xlaw_1), .val (.long ylaw_4), .second, .val (.int (0 : Int32)), .val (.int (1 : Int32))] [(.long ylaw_4)]))
        refine Ow.lloadN X83 hx (pc' := 270) (hb hby at_269) rfl ?_
        refine Ow.lcmp X83 hx (pc' := 271) (hb hby at_270)  ?_
        refine Ow.ifNo X83 hx (pc' := 274) (hb hby at_271) ((if0 _ _).trans (teq ((lw_eq _ _).mpr (rfl : ylaw_4 = ylaw_4))).2) ?_
        refine Ow.iconst X83 hx (pc' := 275) (hb hby at_274) (z := (1 : Int32)) rfl ?_
        refine Ow.goto X83 hx (pc' := 279) (hb hby at_275) (by decide) (by decide) ?_
        refine Ow.istore X83 hx (pc' := 281) (hb hby at_279) (l' := #[.val (.int xlaw_1), .val (.int xlaw_2), .val (.int xlaw_3), .val (.long ylaw_4), .second, .val (.long ylaw_5), .second, .val (.int xlaw_6), .val (.int ms12_0), .val (.int ms26_0), .val (.int ms40_0), .val (.ref o34), .val (.int (0 : Int32)), .val (.int (0 : Int32)), .val (.int (0 : Int32)), .val (.int xlaw_1), .val (.long ylaw_4), .second, .val (.int (0 : Int32)), .val (.int (1 : Int32))]) rfl ?_
        refine Ow.iload X83 hx (pc' := 283) (hb hby at_281) rfl ?_
        exact Wq.ret X83 (BodyLoose.notSynchronized Bd) (rv := some (.int (1 : Int32))) (fun h => by rw [Bd.returns] at h; cases h) (fun _ hr => retN X83 hx (t := .boolean) Bd.returns (by simp) (hb hby at_283) hr) (by decide) (by decide) ⟨rfl, N83⟩
      · skip
        refine Ow.ifNo X59 hx (pc' := 146) (hb hby at_143) ((if0 _ _).trans (feq hc143).1) ?_
        refine Ow.aload X59 hx (pc' := 148) (hb hby at_146) rfl rfl ?_
        refine Ow.iload X59 hx (pc' := 150) (hb hby at_148) rfl ?_
        refine Ow.lload X59 hx (pc' := 152) (hb hby at_150) rfl ?_
        refine Ow.ldc2Long X59 hx hZ (pc' := 155) hown (kw75 hw) (hb hby at_152) ?_
        refine Ow.lxor X59 hx (pc' := 156) (hb hby at_155) (z := (ylaw_5 ^^^ (-1 : Int64))) rfl ?_
        obtain ⟨cq103, kq103, q103a, q103b, q103c⟩ := isOf hZ e59 A34_t59
        obtain ⟨_, _, ⟨T103, L103, k103, n103⟩, -, X103, ⟨Lc103, hQ103, l103, y103, z103⟩, st103⟩ := X59.virtualBack hx (y := mt10) (z := mt10) hown (mvT hZ (kw55 hw)) (mvT hZ (kw56 hw)) (notFace_of_selects (args := #[]) (mvT hZ (kw58 hw))) (mvT hZ (kw58 hw)) (mvT hZ (kw57 hw)) (by decide) (backOf (W := 0) (rm_sl1 l Z a0 hw [] o34 (ylaw_5 ^^^ (-1 : Int64)) b2_c35 b4_c35 b6_c35 b8_c35 b10_c35 b12_c35 (1 : Int32) (1 : Int32) (3 : Int32) ylaw_4 (List.replicate 63 (.long (0 : Int64))) (0 : Int32) (List.replicate 63 (.int (0 : Int32))) (0 : Int32) (0 : Int32) (0 : Int32) (0 : Int32) (List.replicate 252 (.int (0 : Int32))) (xlaw_1.toInt64) (0 : Int64) (0 : Int64) (0 : Int64) (List.replicate 252 (.long (0 : Int64))) T59.heap n0 Z59 (by decide) A34_t59 P59_1 P59_2 P59_3 P59_4 P59_5 P59_6 P59_7 P59_8 P59_12 P59_9 g_o34 P37_10_t59 g_b6_c35 (Ne.symm ne_o34_b6_c35) P35_10_t59 g_b8_c35 (Ne.symm ne_o34_b8_c35) P59_10 g_b10_c35 (Ne.symm ne_o34_b10_c35) P59_11 g_b12_c35 (Ne.symm ne_o34_b12_c35) ne_b6_c35_b8_c35 ne_b6_c35_b10_c35 ne_b6_c35_b12_c35 ne_b8_c35_b10_c35 ne_b8_c35_b12_c35 ne_b10_c35_b12_c35 (by decide)) hZ (kw59 hw) (kw2 hw) (by decide) (by decide)) q103a q103c (g := (mkF m 156 #[.val (.int xlaw_1), .val (.int xlaw_2), .val (.int xlaw_3), .val (.long ylaw_4), .second, .val (.long ylaw_5), .second, .val (.int xlaw_6), .val (.int ms12_0), .val (.int ms26_0), .val (.int ms40_0), .val (.ref o34), .val (.int (0 : Int32)), .val (.int (0 : Int32)), .val (.int (0 : Int32)), .val (.int xlaw_1), .val (.long ylaw_4), .second, .val (.int (0 : Int32)), .unset] [(.long (ylaw_5 ^^^ (-1 : Int64))), (.int (0 : Int32)), (.ref o34)])) rfl (by rw [hml]; rfl) (Steps.refl _) (argsL := [(.int (0 : Int32)), (.long (ylaw_5 ^^^ (-1 : Int64)))]) (rest := []) (lenOf pd5 rfl) rfl (by show 2 * 0 + _ ≤ _; exact Nat.le_of_eq rfl) (hb hby at_156) (fun _ _ => ⟨rfl, e59, (by decide : 7 + 0 ≤ _), (by decide : 778 + 0 ≤ _)⟩)
        dsimp only [Pt.U, Pt.locs, Pt.cells, Pt.slots] at X103 l103 y103 z103 st103 hQ103
        subst l103 y103 z103
        obtain ⟨rfl, Nq103, Kq103, P103_0, P103_1, P103_2, P103_3, P103_4, P103_5, P103_6, P103_7, P103_8, P103_9, P103_10, P103_11, P103_12, P103_13, P103_14⟩ := hQ103
        have N103 := Fr.app N59 Nq103
        have K103 : Keep h0 T103.heap [] := K59.trans Kq103 (allS (P := fun x => x ∈ [] ∨ h0.size ≤ x) (Or.inr sz_o34) (allS (P := fun x => x ∈ [] ∨ h0.size ≤ x) (Or.inr sz_b12_c35) (allS (P := fun x => x ∈ [] ∨ h0.size ≤ x) (Or.inr sz_b10_c35) (allS (P := fun x => x ∈ [] ∨ h0.size ≤ x) (Or.inr sz_b8_c35) (allS (P := fun x => x ∈ [] ∨ h0.size ≤ x) (Or.inr sz_b6_c35) all0)))))
        have Z103 : n0 ≤ T103.heap.size := Nat.le_trans Z59 Kq103.1
        have A34_t103 := A34_t59.keep Kq103
        have P59_13_t103 := P59_13.keep Kq103 (ninS (Ne.symm ne_o34_b4_c35) (ninS ne_b4_c35_b12_c35 (ninS ne_b4_c35_b10_c35 (ninS ne_b4_c35_b8_c35 (ninS ne_b4_c35_b6_c35 nin0)))))
        have P59_14_t103 := P59_14.keep Kq103 (ninS (Ne.symm ne_o34_b2_c35) (ninS ne_b2_c35_b12_c35 (ninS ne_b2_c35_b10_c35 (ninS ne_b2_c35_b8_c35 (ninS ne_b2_c35_b6_c35 nin0)))))
        have e103 : T103.heap = T103.heap := rfl
        refine Wq.steps st103 ?_
        show Wq _ _ _ _ _ (T103.setTop (mkF m 159 #[.val (.int xlaw_1), .val (.int xlaw_2), .val (.int xlaw_3), .val (.long ylaw_4), .second, .val (.long ylaw_5), .second, .val (.int xlaw_6), .val (.int ms12_0), .val (.int ms26_0), .val (.int ms40_0), .val (.ref o34), .val (.int (0 : Int32)), .val (.int (0 : Int32)), .val (.int (0 : Int32)), .val (.int xlaw_1), .val (.long ylaw_4), .second, .val (.int (0 : Int32)), .unset] []))
        refine Ow.aload X103 hx (pc' := 161) (hb hby at_159) rfl rfl ?_
        refine Ow.iload X103 hx (pc' := 163) (hb hby at_161) rfl ?_
        obtain ⟨cq125, kq125, q125a, q125b, q125c⟩ := isOf hZ e103 A34_t103
        obtain ⟨_, _, ⟨T125, L125, k125, n125⟩, -, X125, ⟨Lc125, hQ125, l125, y125, z125⟩, st125⟩ := X103.virtualBack hx (y := mt9) (z := mt9) hown (mvT hZ (kw60 hw)) (mvT hZ (kw61 hw)) (notFace_of_selects (args := #[]) (mvT hZ (kw63 hw))) (mvT hZ (kw63 hw)) (mvT hZ (kw62 hw)) (by decide) (backOf (W := 0) (rm_un20il l Z a0 hw [] o34 b2_c35 b4_c35 b6_c35 b8_c35 b10_c35 b12_c35 (1 : Int32) (1 : Int32) (3 : Int32) xlaw_3 (List.replicate 63 (.int (0 : Int32))) (ylaw_5 ^^^ (-1 : Int64)) (List.replicate 63 (.long (0 : Int64))) (0 : Int32) (0 : Int32) (List.replicate 252 (.int (0 : Int32))) (xlaw_1.toInt64) ylaw_4 (0 : Int64) (0 : Int64) (List.replicate 252 (.long (0 : Int64))) T103.heap n0 Z103 A34_t103 P103_1 P103_2 P103_3 P103_4 P103_5 P103_6 P103_7 P103_8 P103_12 P103_9 g_o34 P59_14_t103 g_b2_c35 (Ne.symm ne_o34_b2_c35) P103_14 g_b6_c35 (Ne.symm ne_o34_b6_c35) P103_10 g_b10_c35 (Ne.symm ne_o34_b10_c35) P103_11 g_b12_c35 (Ne.symm ne_o34_b12_c35) ne_b2_c35_b6_c35 ne_b2_c35_b10_c35 ne_b2_c35_b12_c35 ne_b6_c35_b10_c35 ne_b6_c35_b12_c35 ne_b10_c35_b12_c35) hZ (kw64 hw) (kw2 hw) (by decide) (by decide)) q125a q125c (g := (mkF m 163 #[.val (.int xlaw_1), .val (.int xlaw_2), .val (.int xlaw_3), .val (.long ylaw_4), .second, .val (.long ylaw_5), .second, .val (.int xlaw_6), .val (.int ms12_0), .val (.int ms26_0), .val (.int ms40_0), .val (.ref o34), .val (.int (0 : Int32)), .val (.int (0 : Int32)), .val (.int (0 : Int32)), .val (.int xlaw_1), .val (.long ylaw_4), .second, .val (.int (0 : Int32)), .unset] [(.int (0 : Int32)), (.ref o34)])) rfl (by rw [hml]; rfl) (Steps.refl _) (argsL := [(.int (0 : Int32))]) (rest := []) (lenOf pd7 rfl) rfl (by show 2 * 0 + _ ≤ _; exact Nat.le_of_eq rfl) (hb hby at_163) (fun _ _ => ⟨rfl, e103, (by decide : 7 + 0 ≤ _), (by decide : 778 + 0 ≤ _)⟩)
        dsimp only [Pt.U, Pt.locs, Pt.cells, Pt.slots] at X125 l125 y125 z125 st125 hQ125
        subst l125 y125 z125
        obtain ⟨rfl, Nq125, Kq125, P125_0, P125_1, P125_2, P125_3, P125_4, P125_5, P125_6, P125_7, P125_8, P125_9, P125_10, P125_11, P125_12⟩ := hQ125
        have N125 := Fr.app N103 Nq125
        have K125 : Keep h0 T125.heap [] := K103.trans Kq125 (allS (P := fun x => x ∈ [] ∨ h0.size ≤ x) (Or.inr sz_o34) (allS (P := fun x => x ∈ [] ∨ h0.size ≤ x) (Or.inr sz_b6_c35) (allS (P := fun x => x ∈ [] ∨ h0.size ≤ x) (Or.inr sz_b2_c35) all0)))
        have Z125 : n0 ≤ T125.heap.size := Nat.le_trans Z103 Kq125.1
        have A34_t125 := A34_t103.keep Kq125
        have P59_13_t125 := P59_13_t103.keep Kq125 (ninS (Ne.symm ne_o34_b4_c35) (ninS ne_b4_c35_b6_c35 (ninS (Ne.symm ne_b2_c35_b4_c35) nin0)))
        have P103_10_t125 := P103_10.keep Kq125 (ninS (Ne.symm ne_o34_b10_c35) (ninS (Ne.symm ne_b6_c35_b10_c35) (ninS (Ne.symm ne_b2_c35_b10_c35) nin0)))
        have P103_11_t125 := P103_11.keep Kq125 (ninS (Ne.symm ne_o34_b12_c35) (ninS (Ne.symm ne_b6_c35_b12_c35) (ninS (Ne.symm ne_b2_c35_b12_c35) nin0)))
        have P103_13_t125 := P103_13.keep Kq125 (ninS (Ne.symm ne_o34_b8_c35) (ninS (Ne.symm ne_b6_c35_b8_c35) (ninS (Ne.symm ne_b2_c35_b8_c35) nin0)))
        have e125 : T125.heap = T125.heap := rfl
        have P125_12f : Fld Z T125.heap o34 "com/example/tauten/tauten/Trail" "epoch" "I" (.int (4 : Int32)) := P125_12
        refine Wq.steps st125 ?_
        show Wq _ _ _ _ _ (T125.setTop (mkF m 166 #[.val (.int xlaw_1), .val (.int xlaw_2), .val (.int xlaw_3), .val (.long ylaw_4), .second, .val (.long ylaw_5), .second, .val (.int xlaw_6), .val (.int ms12_0), .val (.int ms26_0), .val (.int ms40_0), .val (.ref o34), .val (.int (0 : Int32)), .val (.int (0 : Int32)), .val (.int (0 : Int32)), .val (.int xlaw_1), .val (.long ylaw_4), .second, .val (.int (0 : Int32)), .unset] []))
        refine Ow.aload X125 hx (pc' := 168) (hb hby at_166) rfl rfl ?_
        refine Ow.iload X125 hx (pc' := 170) (hb hby at_168) rfl ?_
        obtain ⟨cq126, kq126, q126a, q126b, q126c⟩ := isOf hZ e125 A34_t125
        obtain ⟨_, _, ⟨T126, L126, k126, n126⟩, -, X126, ⟨Lc126, hQ126, l126, y126, z126⟩, st126⟩ := X125.virtualBack hx (y := mt5) (z := mt5) hown (mvT hZ (kw65 hw)) (mvT hZ (kw66 hw)) (notFace_of_selects (args := #[]) (mvT hZ (kw68 hw))) (mvT hZ (kw68 hw)) (mvT hZ (kw67 hw)) (by decide) (backOf (W := 0) (rm_gt l Z a0 hw [] o34 b2_c35 ((xlaw_1.toInt64).toInt32) (List.replicate 63 (.int (0 : Int32))) T125.heap n0 Z125 P125_1 P125_11) hZ (kw69 hw) (kw2 hw) (by decide) (by decide)) q126a q126c (g := (mkF m 170 #[.val (.int xlaw_1), .val (.int xlaw_2), .val (.int xlaw_3), .val (.long ylaw_4), .second, .val (.long ylaw_5), .second, .val (.int xlaw_6), .val (.int ms12_0), .val (.int ms26_0), .val (.int ms40_0), .val (.ref o34), .val (.int (0 : Int32)), .val (.int (0 : Int32)), .val (.int (0 : Int32)), .val (.int xlaw_1), .val (.long ylaw_4), .second, .val (.int (0 : Int32)), .unset] [(.int (0 : Int32)), (.ref o34)])) rfl (by rw [hml]; rfl) (Steps.refl _) (argsL := [(.int (0 : Int32))]) (rest := []) (lenOf pd2 rfl) rfl (by show 2 * 0 + _ ≤ _; exact Nat.le_of_eq rfl) (hb hby at_170) (fun _ _ => ⟨rfl, e125, (by decide : 7 + 0 ≤ _), (by decide : 778 + 0 ≤ _)⟩)
        dsimp only [Pt.U, Pt.locs, Pt.cells, Pt.slots] at X126 l126 y126 z126 st126 hQ126
        subst l126 y126 z126
        obtain ⟨rfl, Nq126, e126⟩ := hQ126
        have N126 := Fr.app N125 Nq126
        refine Wq.steps st126 ?_
        show Wq _ _ _ _ _ (T126.setTop (mkF m 173 #[.val (.int xlaw_1), .val (.int xlaw_2), .val (.int xlaw_3), .val (.long ylaw_4), .second, .val (.long ylaw_5), .second, .val (.int xlaw_6), .val (.int ms12_0), .val (.int ms26_0), .val (.int ms40_0), .val (.ref o34), .val (.int (0 : Int32)), .val (.int (0 : Int32)), .val (.int (0 : Int32)), .val (.int xlaw_1), .val (.long ylaw_4), .second, .val (.int (0 : Int32)), .unset] [(.int ((xlaw_1.toInt64).toInt32))]))
        refine Ow.iload X126 hx (pc' := 175) (hb hby at_173) rfl ?_
        refine Ow.icmpNo X126 hx (pc' := 178) (hb hby at_175) (teq (by first | (simp only [Int32.toInt32_toInt64]; done) | rfl : ((xlaw_1.toInt64).toInt32) = xlaw_1)).2 ?_
        refine Ow.aload X126 hx (pc' := 180) (hb hby at_178) rfl rfl ?_
        refine Ow.iload X126 hx (pc' := 182) (hb hby at_180) rfl ?_
        obtain ⟨cq127, kq127, q127a, q127b, q127c⟩ := isOf hZ e126 A34_t125
        obtain ⟨_, _, ⟨T127, L127, k127, n127⟩, -, X127, ⟨Lc127, hQ127, l127, y127, z127⟩, st127⟩ := X126.virtualBack hx (y := mt6) (z := mt6) hown (mvT hZ (kw70 hw)) (mvT hZ (kw71 hw)) (notFace_of_selects (args := #[]) (mvT hZ (kw73 hw))) (mvT hZ (kw73 hw)) (mvT hZ (kw72 hw)) (by decide) (backOf (W := 0) (rm_gl l Z a0 hw [] o34 b6_c35 ylaw_4 (List.replicate 63 (.long (0 : Int64))) T125.heap n0 Z125 P125_3 P125_9) hZ (kw74 hw) (kw2 hw) (by decide) (by decide)) q127a q127c (g := (mkF m 182 #[.val (.int xlaw_1), .val (.int xlaw_2), .val (.int xlaw_3), .val (.long ylaw_4), .second, .val (.long ylaw_5), .second, .val (.int xlaw_6), .val (.int ms12_0), .val (.int ms26_0), .val (.int ms40_0), .val (.ref o34), .val (.int (0 : Int32)), .val (.int (0 : Int32)), .val (.int (0 : Int32)), .val (.int xlaw_1), .val (.long ylaw_4), .second, .val (.int (0 : Int32)), .unset] [(.int (0 : Int32)), (.ref o34)])) rfl (by rw [hml]; rfl) (Steps.refl _) (argsL := [(.int (0 : Int32))]) (rest := []) (lenOf pd8 rfl) rfl (by show 2 * 0 + _ ≤ _; exact Nat.le_of_eq rfl) (hb hby at_182) (fun _ _ => ⟨rfl, e126, (by decide : 7 + 0 ≤ _), (by decide : 778 + 0 ≤ _)⟩)
        dsimp only [Pt.U, Pt.locs, Pt.cells, Pt.slots] at X127 l127 y127 z127 st127 hQ127
        subst l127 y127 z127
        obtain ⟨rfl, Nq127, e127⟩ := hQ127
        have N127 := Fr.app N126 Nq127
        refine Wq.steps st127 ?_
        show Wq _ _ _ _ _ (T127.setTop (mkF m 185 #[.val (.int xlaw_1), .val (.int xlaw_2), .val (.int xlaw_3), .val (.long ylaw_4), .second, .val (.long ylaw_5), .second, .val (.int xlaw_6), .val (.int ms12_0), .val (.int ms26_0), .val (.int ms40_0), .val (.ref o34), .val (.int (0 : Int32)), .val (.int (0 : Int32)), .val (.int (0 : Int32)), .val (.int xlaw_1), .val (.long ylaw_4), .second, .val (.int (0 : Int32)), .unset] [(.long ylaw_4)]))
        refine Ow.lload X127 hx (pc' := 187) (hb hby at_185) rfl ?_
        refine Ow.lcmp X127 hx (pc' := 188) (hb hby at_187)  ?_
        refine Ow.ifNo X127 hx (pc' := 191) (hb hby at_188) ((if0 _ _).trans (teq ((lw_eq _ _).mpr (rfl : ylaw_4 = ylaw_4))).2) ?_
        refine Ow.iconst X127 hx (pc' := 192) (hb hby at_191) (z := (1 : Int32)) rfl ?_
        refine Ow.goto X127 hx (pc' := 196) (hb hby at_192) (by decide) (by decide) ?_
        refine Ow.istore X127 hx (pc' := 198) (hb hby at_196) (l' := #[.val (.int xlaw_1), .val (.int xlaw_2), .val (.int xlaw_3), .val (.long ylaw_4), .second, .val (.long ylaw_5), .second, .val (.int xlaw_6), .val (.int ms12_0), .val (.int ms26_0), .val (.int ms40_0), .val (.ref o34), .val (.int (0 : Int32)), .val (.int (0 : Int32)), .val (.int (0 : Int32)), .val (.int xlaw_1), .val (.long ylaw_4), .second, .val (.int (0 : Int32)), .val (.int (1 : Int32))]) rfl ?_
        refine Ow.aload X127 hx (pc' := 200) (hb hby at_198) rfl rfl ?_
        refine Ow.iload X127 hx (pc' := 202) (hb hby at_200) rfl ?_
        refine Ow.iloadN X127 hx (pc' := 203) (hb hby at_202) rfl ?_
        refine Ow.iloadN X127 hx (pc' := 204) (hb hby at_203) rfl ?_
        refine Ow.ixor X127 hx (pc' := 205) (hb hby at_204) (z := (xlaw_1 ^^^ xlaw_3)) rfl ?_
        obtain ⟨cq128, kq128, q128a, q128b, q128c⟩ := isOf hZ e127 A34_t125
        obtain ⟨_, _, ⟨T128, L128, k128, n128⟩, -, X128, ⟨Lc128, hQ128, l128, y128, z128⟩, st128⟩ := X127.virtualBack hx (y := mt8) (z := mt8) hown (mvT hZ (kw46 hw)) (mvT hZ (kw47 hw)) (notFace_of_selects (args := #[]) (mvT hZ (kw49 hw))) (mvT hZ (kw49 hw)) (mvT hZ (kw48 hw)) (by decide) (backOf (W := 0) (rm_st0 l Z a0 hw [] o34 (xlaw_1 ^^^ xlaw_3) b2_c35 b4_c35 b6_c35 b8_c35 b10_c35 b12_c35 (1 : Int32) (1 : Int32) (4 : Int32) ((xlaw_1.toInt64).toInt32) (List.replicate 63 (.int (0 : Int32))) (3 : Int32) (List.replicate 63 (.int (0 : Int32))) (0 : Int32) (-1 : Int32) (0 : Int32) (0 : Int32) (List.replicate 252 (.int (0 : Int32))) (xlaw_1.toInt64) ylaw_4 (0 : Int64) (0 : Int64) (List.replicate 252 (.long (0 : Int64))) T125.heap n0 Z125 (by decide) A34_t125 P125_1 P125_2 P125_3 P125_4 P125_5 P125_6 P125_7 P125_8 P125_10 P125_12f g_o34 P125_11 g_b2_c35 (Ne.symm ne_o34_b2_c35) P59_13_t125 g_b4_c35 (Ne.symm ne_o34_b4_c35) P103_10_t125 g_b10_c35 (Ne.symm ne_o34_b10_c35) P103_11_t125 g_b12_c35 (Ne.symm ne_o34_b12_c35) ne_b2_c35_b4_c35 ne_b2_c35_b10_c35 ne_b2_c35_b12_c35 ne_b4_c35_b10_c35 ne_b4_c35_b12_c35 ne_b10_c35_b12_c35 (by decide)) hZ (kw50 hw) (kw2 hw) (by decide) (by decide)) q128a q128c (g := (mkF m 205 #[.val (.int xlaw_1), .val (.int xlaw_2), .val (.int xlaw_3), .val (.long ylaw_4), .second, .val (.long ylaw_5), .second, .val (.int xlaw_6), .val (.int ms12_0), .val (.int ms26_0), .val (.int ms40_0), .val (.ref o34), .val (.int (0 : Int32)), .val (.int (0 : Int32)), .val (.int (0 : Int32)), .val (.int xlaw_1), .val (.long ylaw_4), .second, .val (.int (0 : Int32)), .val (.int (1 : Int32))] [(.int (xlaw_1 ^^^ xlaw_3)), (.int (0 : Int32)), (.ref o34)])) rfl (by rw [hml]; rfl) (Steps.refl _) (argsL := [(.int (0 : Int32)), (.int (xlaw_1 ^^^ xlaw_3))]) (rest := []) (lenOf pd6 rfl) rfl (by show 2 * 0 + _ ≤ _; exact Nat.le_of_eq rfl) (hb hby at_205) (fun _ _ => ⟨rfl, e127, (by decide : 7 + 0 ≤ _), (by decide : 778 + 0 ≤ _)⟩)
        dsimp only [Pt.U, Pt.locs, Pt.cells, Pt.slots] at X128 l128 y128 z128 st128 hQ128
        subst l128 y128 z128
        obtain ⟨rfl, Nq128, Kq128, P128_0, P128_1, P128_2, P128_3, P128_4, P128_5, P128_6, P128_7, P128_8, P128_9, P128_10, P128_11, P128_12, P128_13, P128_14⟩ := hQ128
        have N128 := Fr.app N127 Nq128
        have K128 : Keep h0 T128.heap [] := K125.trans Kq128 (allS (P := fun x => x ∈ [] ∨ h0.size ≤ x) (Or.inr sz_o34) (allS (P := fun x => x ∈ [] ∨ h0.size ≤ x) (Or.inr sz_b12_c35) (allS (P := fun x => x ∈ [] ∨ h0.size ≤ x) (Or.inr sz_b10_c35) (allS (P := fun x => x ∈ [] ∨ h0.size ≤ x) (Or.inr sz_b4_c35) (allS (P := fun x => x ∈ [] ∨ h0.size ≤ x) (Or.inr sz_b2_c35) all0)))))
        have Z128 : n0 ≤ T128.heap.size := Nat.le_trans Z125 Kq128.1
        have A34_t128 := A34_t125.keep Kq128
        have P103_13_t128 := P103_13_t125.keep Kq128 (ninS (Ne.symm ne_o34_b8_c35) (ninS ne_b8_c35_b12_c35 (ninS ne_b8_c35_b10_c35 (ninS (Ne.symm ne_b4_c35_b8_c35) (ninS (Ne.symm ne_b2_c35_b8_c35) nin0)))))
        have P125_9_t128 := P125_9.keep Kq128 (ninS (Ne.symm ne_o34_b6_c35) (ninS ne_b6_c35_b12_c35 (ninS ne_b6_c35_b10_c35 (ninS (Ne.symm ne_b4_c35_b6_c35) (ninS (Ne.symm ne_b2_c35_b6_c35) nin0)))))
        have e128 : T128.heap = T128.heap := rfl
        refine Wq.steps st128 ?_
        show Wq _ _ _ _ _ (T128.setTop (mkF m 208 #[.val (.int xlaw_1), .val (.int xlaw_2), .val (.int xlaw_3), .val (.long ylaw_4), .second, .val (.long ylaw_5), .second, .val (.int xlaw_6), .val (.int ms12_0), .val (.int ms26_0), .val (.int ms40_0), .val (.ref o34), .val (.int (0 : Int32)), .val (.int (0 : Int32)), .val (.int (0 : Int32)), .val (.int xlaw_1), .val (.long ylaw_4), .second, .val (.int (0 : Int32)), .val (.int (1 : Int32))] []))
        refine Ow.aload X128 hx (pc' := 210) (hb hby at_208) rfl rfl ?_
        refine Ow.iload X128 hx (pc' := 212) (hb hby at_210) rfl ?_
        obtain ⟨cq129, kq129, q129a, q129b, q129c⟩ := isOf hZ e128 A34_t128
        obtain ⟨_, _, ⟨T129, L129, k129, n129⟩, -, X129, ⟨Lc129, hQ129, l129, y129, z129⟩, st129⟩ := X128.virtualBack hx (y := mt9) (z := mt9) hown (mvT hZ (kw60 hw)) (mvT hZ (kw61 hw)) (notFace_of_selects (args := #[]) (mvT hZ (kw63 hw))) (mvT hZ (kw63 hw)) (mvT hZ (kw62 hw)) (by decide) (backOf (W := 0) (rm_un10i l Z a0 hw [] o34 b2_c35 b4_c35 b6_c35 b8_c35 b10_c35 b12_c35 (1 : Int32) (1 : Int32) (4 : Int32) (xlaw_1 ^^^ xlaw_3) (List.replicate 63 (.int (0 : Int32))) ylaw_4 (List.replicate 63 (.long (0 : Int64))) (-1 : Int32) (0 : Int32) (0 : Int32) (List.replicate 252 (.int (0 : Int32))) (((xlaw_1.toInt64).toInt32).toInt64) ylaw_4 (0 : Int64) (0 : Int64) (List.replicate 252 (.long (0 : Int64))) T128.heap n0 Z128 A34_t128 P128_1 P128_2 P128_3 P128_4 P128_5 P128_6 P128_7 P128_8 P128_12 P128_9 g_o34 P128_14 g_b2_c35 (Ne.symm ne_o34_b2_c35) P125_9_t128 g_b6_c35 (Ne.symm ne_o34_b6_c35) P128_10 g_b10_c35 (Ne.symm ne_o34_b10_c35) P128_11 g_b12_c35 (Ne.symm ne_o34_b12_c35) ne_b2_c35_b6_c35 ne_b2_c35_b10_c35 ne_b2_c35_b12_c35 ne_b6_c35_b10_c35 ne_b6_c35_b12_c35 ne_b10_c35_b12_c35) hZ (kw64 hw) (kw2 hw) (by decide) (by decide)) q129a q129c (g := (mkF m 212 #[.val (.int xlaw_1), .val (.int xlaw_2), .val (.int xlaw_3), .val (.long ylaw_4), .second, .val (.long ylaw_5), .second, .val (.int xlaw_6), .val (.int ms12_0), .val (.int ms26_0), .val (.int ms40_0), .val (.ref o34), .val (.int (0 : Int32)), .val (.int (0 : Int32)), .val (.int (0 : Int32)), .val (.int xlaw_1), .val (.long ylaw_4), .second, .val (.int (0 : Int32)), .val (.int (1 : Int32))] [(.int (0 : Int32)), (.ref o34)])) rfl (by rw [hml]; rfl) (Steps.refl _) (argsL := [(.int (0 : Int32))]) (rest := []) (lenOf pd7 rfl) rfl (by show 2 * 0 + _ ≤ _; exact Nat.le_of_eq rfl) (hb hby at_212) (fun _ _ => ⟨rfl, e128, (by decide : 7 + 0 ≤ _), (by decide : 778 + 0 ≤ _)⟩)
        dsimp only [Pt.U, Pt.locs, Pt.cells, Pt.slots] at X129 l129 y129 z129 st129 hQ129
        subst l129 y129 z129
        obtain ⟨rfl, Nq129, Kq129, P129_0, P129_1, P129_2, P129_3, P129_4, P129_5, P129_6, P129_7, P129_8, P129_9, P129_10, P129_11⟩ := hQ129
        have N129 := Fr.app N128 Nq129
        have K129 : Keep h0 T129.heap [] := K128.trans Kq129 (allS (P := fun x => x ∈ [] ∨ h0.size ≤ x) (Or.inr sz_o34) (allS (P := fun x => x ∈ [] ∨ h0.size ≤ x) (Or.inr sz_b2_c35) all0))
        have Z129 : n0 ≤ T129.heap.size := Nat.le_trans Z128 Kq129.1
        have A34_t129 := A34_t128.keep Kq129
        have P103_13_t129 := P103_13_t128.keep Kq129 (ninS (Ne.symm ne_o34_b8_c35) (ninS (Ne.symm ne_b2_c35_b8_c35) nin0))
        have P125_9_t129 := P125_9_t128.keep Kq129 (ninS (Ne.symm ne_o34_b6_c35) (ninS (Ne.symm ne_b2_c35_b6_c35) nin0))
        have P128_10_t129 := P128_10.keep Kq129 (ninS (Ne.symm ne_o34_b10_c35) (ninS (Ne.symm ne_b2_c35_b10_c35) nin0))
        have P128_11_t129 := P128_11.keep Kq129 (ninS (Ne.symm ne_o34_b12_c35) (ninS (Ne.symm ne_b2_c35_b12_c35) nin0))
        have P128_13_t129 := P128_13.keep Kq129 (ninS (Ne.symm ne_o34_b4_c35) (ninS (Ne.symm ne_b2_c35_b4_c35) nin0))
        have e129 : T129.heap = T129.heap := rfl
        have P129_11f : Fld Z T129.heap o34 "com/example/tauten/tauten/Trail" "epoch" "I" (.int (5 : Int32)) := P129_11
        refine Wq.steps st129 ?_
        show Wq _ _ _ _ _ (T129.setTop (mkF m 215 #[.val (.int xlaw_1), .val (.int xlaw_2), .val (.int xlaw_3), .val (.long ylaw_4), .second, .val (.long ylaw_5), .second, .val (.int xlaw_6), .val (.int ms12_0), .val (.int ms26_0), .val (.int ms40_0), .val (.ref o34), .val (.int (0 : Int32)), .val (.int (0 : Int32)), .val (.int (0 : Int32)), .val (.int xlaw_1), .val (.long ylaw_4), .second, .val (.int (0 : Int32)), .val (.int (1 : Int32))] []))
        refine Ow.iload X129 hx (pc' := 217) (hb hby at_215) rfl ?_
        refine Ow.ifNo X129 hx (pc' := 220) (hb hby at_217) ((if0 _ _).trans (feq (by decide : ¬ ((1 : Int32) = (0 : Int32)))).1) ?_
        refine Ow.aload X129 hx (pc' := 222) (hb hby at_220) rfl rfl ?_
        refine Ow.iload X129 hx (pc' := 224) (hb hby at_222) rfl ?_
        obtain ⟨cq130, kq130, q130a, q130b, q130c⟩ := isOf hZ e129 A34_t129
        obtain ⟨_, _, ⟨T130, L130, k130, n130⟩, -, X130, ⟨Lc130, hQ130, l130, y130, z130⟩, st130⟩ := X129.virtualBack hx (y := mt5) (z := mt5) hown (mvT hZ (kw65 hw)) (mvT hZ (kw66 hw)) (notFace_of_selects (args := #[]) (mvT hZ (kw68 hw))) (mvT hZ (kw68 hw)) (mvT hZ (kw67 hw)) (by decide) (backOf (W := 0) (rm_gt l Z a0 hw [] o34 b2_c35 ((((xlaw_1.toInt64).toInt32).toInt64).toInt32) (List.replicate 63 (.int (0 : Int32))) T129.heap n0 Z129 P129_1 P129_10) hZ (kw69 hw) (kw2 hw) (by decide) (by decide)) q130a q130c (g := (mkF m 224 #[.val (.int xlaw_1), .val (.int xlaw_2), .val (.int xlaw_3), .val (.long ylaw_4), .second, .val (.long ylaw_5), .second, .val (.int xlaw_6), .val (.int ms12_0), .val (.int ms26_0), .val (.int ms40_0), .val (.ref o34), .val (.int (0 : Int32)), .val (.int (0 : Int32)), .val (.int (0 : Int32)), .val (.int xlaw_1), .val (.long ylaw_4), .second, .val (.int (0 : Int32)), .val (.int (1 : Int32))] [(.int (0 : Int32)), (.ref o34)])) rfl (by rw [hml]; rfl) (Steps.refl _) (argsL := [(.int (0 : Int32))]) (rest := []) (lenOf pd2 rfl) rfl (by show 2 * 0 + _ ≤ _; exact Nat.le_of_eq rfl) (hb hby at_224) (fun _ _ => ⟨rfl, e129, (by decide : 7 + 0 ≤ _), (by decide : 778 + 0 ≤ _)⟩)
        dsimp only [Pt.U, Pt.locs, Pt.cells, Pt.slots] at X130 l130 y130 z130 st130 hQ130
        subst l130 y130 z130
        obtain ⟨rfl, Nq130, e130⟩ := hQ130
        have N130 := Fr.app N129 Nq130
        refine Wq.steps st130 ?_
        show Wq _ _ _ _ _ (T130.setTop (mkF m 227 #[.val (.int xlaw_1), .val (.int xlaw_2), .val (.int xlaw_3), .val (.long ylaw_4), .second, .val (.long ylaw_5), .second, .val (.int xlaw_6), .val (.int ms12_0), .val (.int ms26_0), .val (.int ms40_0), .val (.ref o34), .val (.int (0 : Int32)), .val (.int (0 : Int32)), .val (.int (0 : Int32)), .val (.int xlaw_1), .val (.long ylaw_4), .second, .val (.int (0 : Int32)), .val (.int (1 : Int32))] [(.int ((((xlaw_1.toInt64).toInt32).toInt64).toInt32))]))
        refine Ow.iload X130 hx (pc' := 229) (hb hby at_227) rfl ?_
        refine Ow.icmpNo X130 hx (pc' := 232) (hb hby at_229) (teq (by first | (simp only [Int32.toInt32_toInt64]; done) | rfl : ((((xlaw_1.toInt64).toInt32).toInt64).toInt32) = xlaw_1)).2 ?_
        refine Ow.iconst X130 hx (pc' := 233) (hb hby at_232) (z := (1 : Int32)) rfl ?_
        refine Ow.goto X130 hx (pc' := 237) (hb hby at_233) (by decide) (by decide) ?_
        refine Ow.istore X130 hx (pc' := 239) (hb hby at_237) (l' := #[.val (.int xlaw_1), .val (.int xlaw_2), .val (.int xlaw_3), .val (.long ylaw_4), .second, .val (.long ylaw_5), .second, .val (.int xlaw_6), .val (.int ms12_0), .val (.int ms26_0), .val (.int ms40_0), .val (.ref o34), .val (.int (0 : Int32)), .val (.int (0 : Int32)), .val (.int (0 : Int32)), .val (.int xlaw_1), .val (.long ylaw_4), .second, .val (.int (0 : Int32)), .val (.int (1 : Int32))]) rfl ?_
        refine Ow.aload X130 hx (pc' := 241) (hb hby at_239) rfl rfl ?_
        refine Ow.iload X130 hx (pc' := 243) (hb hby at_241) rfl ?_
        obtain ⟨cq131, kq131, q131a, q131b, q131c⟩ := isOf hZ e130 A34_t129
        obtain ⟨_, _, ⟨T131, L131, k131, n131⟩, -, X131, ⟨Lc131, hQ131, l131, y131, z131⟩, st131⟩ := X130.virtualBack hx (y := mt9) (z := mt9) hown (mvT hZ (kw60 hw)) (mvT hZ (kw61 hw)) (notFace_of_selects (args := #[]) (mvT hZ (kw63 hw))) (mvT hZ (kw63 hw)) (mvT hZ (kw62 hw)) (by decide) (backOf (W := 0) (rm_un00 l Z a0 hw [] o34 b2_c35 b4_c35 b6_c35 b8_c35 b10_c35 b12_c35 (1 : Int32) (1 : Int32) (5 : Int32) ((((xlaw_1.toInt64).toInt32).toInt64).toInt32) (List.replicate 63 (.int (0 : Int32))) ylaw_4 (List.replicate 63 (.long (0 : Int64))) (0 : Int32) (-1 : Int32) (0 : Int32) (0 : Int32) (List.replicate 252 (.int (0 : Int32))) (((xlaw_1.toInt64).toInt32).toInt64) ylaw_4 (0 : Int64) (0 : Int64) (List.replicate 252 (.long (0 : Int64))) T129.heap n0 Z129 A34_t129 P129_1 P129_2 P129_3 P129_4 P129_5 P129_6 P129_7 P129_8 P129_9 P129_11f g_o34 P129_10 g_b2_c35 (Ne.symm ne_o34_b2_c35) P125_9_t129 g_b6_c35 (Ne.symm ne_o34_b6_c35) P128_10_t129 g_b10_c35 (Ne.symm ne_o34_b10_c35) P128_11_t129 g_b12_c35 (Ne.symm ne_o34_b12_c35) ne_b2_c35_b6_c35 ne_b2_c35_b10_c35 ne_b2_c35_b12_c35 ne_b6_c35_b10_c35 ne_b6_c35_b12_c35 ne_b10_c35_b12_c35) hZ (kw64 hw) (kw2 hw) (by decide) (by decide)) q131a q131c (g := (mkF m 243 #[.val (.int xlaw_1), .val (.int xlaw_2), .val (.int xlaw_3), .val (.long ylaw_4), .second, .val (.long ylaw_5), .second, .val (.int xlaw_6), .val (.int ms12_0), .val (.int ms26_0), .val (.int ms40_0), .val (.ref o34), .val (.int (0 : Int32)), .val (.int (0 : Int32)), .val (.int (0 : Int32)), .val (.int xlaw_1), .val (.long ylaw_4), .second, .val (.int (0 : Int32)), .val (.int (1 : Int32))] [(.int (0 : Int32)), (.ref o34)])) rfl (by rw [hml]; rfl) (Steps.refl _) (argsL := [(.int (0 : Int32))]) (rest := []) (lenOf pd7 rfl) rfl (by show 2 * 0 + _ ≤ _; exact Nat.le_of_eq rfl) (hb hby at_243) (fun _ _ => ⟨rfl, e130, (by decide : 7 + 0 ≤ _), (by decide : 778 + 0 ≤ _)⟩)
        dsimp only [Pt.U, Pt.locs, Pt.cells, Pt.slots] at X131 l131 y131 z131 st131 hQ131
        subst l131 y131 z131
        obtain ⟨rfl, Nq131, Kq131, P131_0, P131_1, P131_2, P131_3, P131_4, P131_5, P131_6, P131_7, P131_8, P131_9, P131_10⟩ := hQ131
        have N131 := Fr.app N130 Nq131
        have K131 : Keep h0 T131.heap [] := K129.trans Kq131 (allS (P := fun x => x ∈ [] ∨ h0.size ≤ x) (Or.inr sz_o34) all0)
        have Z131 : n0 ≤ T131.heap.size := Nat.le_trans Z129 Kq131.1
        have A34_t131 := A34_t129.keep Kq131
        have P103_13_t131 := P103_13_t129.keep Kq131 (ninS (Ne.symm ne_o34_b8_c35) nin0)
        have P125_9_t131 := P125_9_t129.keep Kq131 (ninS (Ne.symm ne_o34_b6_c35) nin0)
        have P128_10_t131 := P128_10_t129.keep Kq131 (ninS (Ne.symm ne_o34_b10_c35) nin0)
        have P128_11_t131 := P128_11_t129.keep Kq131 (ninS (Ne.symm ne_o34_b12_c35) nin0)
        have P128_13_t131 := P128_13_t129.keep Kq131 (ninS (Ne.symm ne_o34_b4_c35) nin0)
        have P129_10_t131 := P129_10.keep Kq131 (ninS (Ne.symm ne_o34_b2_c35) nin0)
        have e131 : T131.heap = T131.heap := rfl
        have P131_10f : Fld Z T131.heap o34 "com/example/tauten/tauten/Trail" "epoch" "I" (.int (6 : Int32)) := P131_10
        refine Wq.steps st131 ?_
        show Wq _ _ _ _ _ (T131.setTop (mkF m 246 #[.val (.int xlaw_1), .val (.int xlaw_2), .val (.int xlaw_3), .val (.long ylaw_4), .second, .val (.long ylaw_5), .second, .val (.int xlaw_6), .val (.int ms12_0), .val (.int ms26_0), .val (.int ms40_0), .val (.ref o34), .val (.int (0 : Int32)), .val (.int (0 : Int32)), .val (.int (0 : Int32)), .val (.int xlaw_1), .val (.long ylaw_4), .second, .val (.int (0 : Int32)), .val (.int (1 : Int32))] []))
        refine Ow.iload X131 hx (pc' := 248) (hb hby at_246) rfl ?_
        refine Ow.ifNo X131 hx (pc' := 251) (hb hby at_248) ((if0 _ _).trans (feq (by decide : ¬ ((1 : Int32) = (0 : Int32)))).1) ?_
        refine Ow.aload X131 hx (pc' := 253) (hb hby at_251) rfl rfl ?_
        refine Ow.iload X131 hx (pc' := 255) (hb hby at_253) rfl ?_
        obtain ⟨cq132, kq132, q132a, q132b, q132c⟩ := isOf hZ e131 A34_t131
        obtain ⟨_, _, ⟨T132, L132, k132, n132⟩, -, X132, ⟨Lc132, hQ132, l132, y132, z132⟩, st132⟩ := X131.virtualBack hx (y := mt5) (z := mt5) hown (mvT hZ (kw65 hw)) (mvT hZ (kw66 hw)) (notFace_of_selects (args := #[]) (mvT hZ (kw68 hw))) (mvT hZ (kw68 hw)) (mvT hZ (kw67 hw)) (by decide) (backOf (W := 0) (rm_gt l Z a0 hw [] o34 b2_c35 ((((xlaw_1.toInt64).toInt32).toInt64).toInt32) (List.replicate 63 (.int (0 : Int32))) T131.heap n0 Z131 P131_1 P129_10_t131) hZ (kw69 hw) (kw2 hw) (by decide) (by decide)) q132a q132c (g := (mkF m 255 #[.val (.int xlaw_1), .val (.int xlaw_2), .val (.int xlaw_3), .val (.long ylaw_4), .second, .val (.long ylaw_5), .second, .val (.int xlaw_6), .val (.int ms12_0), .val (.int ms26_0), .val (.int ms40_0), .val (.ref o34), .val (.int (0 : Int32)), .val (.int (0 : Int32)), .val (.int (0 : Int32)), .val (.int xlaw_1), .val (.long ylaw_4), .second, .val (.int (0 : Int32)), .val (.int (1 : Int32))] [(.int (0 : Int32)), (.ref o34)])) rfl (by rw [hml]; rfl) (Steps.refl _) (argsL := [(.int (0 : Int32))]) (rest := []) (lenOf pd2 rfl) rfl (by show 2 * 0 + _ ≤ _; exact Nat.le_of_eq rfl) (hb hby at_255) (fun _ _ => ⟨rfl, e131, (by decide : 7 + 0 ≤ _), (by decide : 778 + 0 ≤ _)⟩)
        dsimp only [Pt.U, Pt.locs, Pt.cells, Pt.slots] at X132 l132 y132 z132 st132 hQ132
        subst l132 y132 z132
        obtain ⟨rfl, Nq132, e132⟩ := hQ132
        have N132 := Fr.app N131 Nq132
        refine Wq.steps st132 ?_
        show Wq _ _ _ _ _ (T132.setTop (mkF m 258 #[.val (.int xlaw_1), .val (.int xlaw_2), .val (.int xlaw_3), .val (.long ylaw_4), .second, .val (.long ylaw_5), .second, .val (.int xlaw_6), .val (.int ms12_0), .val (.int ms26_0), .val (.int ms40_0), .val (.ref o34), .val (.int (0 : Int32)), .val (.int (0 : Int32)), .val (.int (0 : Int32)), .val (.int xlaw_1), .val (.long ylaw_4), .second, .val (.int (0 : Int32)), .val (.int (1 : Int32))] [(.int ((((xlaw_1.toInt64).toInt32).toInt64).toInt32))]))
        refine Ow.iloadN X132 hx (pc' := 259) (hb hby at_258) rfl ?_
        refine Ow.icmpNo X132 hx (pc' := 262) (hb hby at_259) (teq (by first | (simp only [Int32.toInt32_toInt64]; done) | rfl : ((((xlaw_1.toInt64).toInt32).toInt64).toInt32) = xlaw_1)).2 ?_
        refine Ow.aload X132 hx (pc' := 264) (hb hby at_262) rfl rfl ?_
        refine Ow.iload X132 hx (pc' := 266) (hb hby at_264) rfl ?_
        obtain ⟨cq133, kq133, q133a, q133b, q133c⟩ := isOf hZ e132 A34_t131
        obtain ⟨_, _, ⟨T133, L133, k133, n133⟩, -, X133, ⟨Lc133, hQ133, l133, y133, z133⟩, st133⟩ := X132.virtualBack hx (y := mt6) (z := mt6) hown (mvT hZ (kw70 hw)) (mvT hZ (kw71 hw)) (notFace_of_selects (args := #[]) (mvT hZ (kw73 hw))) (mvT hZ (kw73 hw)) (mvT hZ (kw72 hw)) (by decide) (backOf (W := 0) (rm_gl l Z a0 hw [] o34 b6_c35 ylaw_4 (List.replicate 63 (.long (0 : Int64))) T131.heap n0 Z131 P131_3 P125_9_t131) hZ (kw74 hw) (kw2 hw) (by decide) (by decide)) q133a q133c (g := (mkF m 266 #[.val (.int xlaw_1), .val (.int xlaw_2), .val (.int xlaw_3), .val (.long ylaw_4), .second, .val (.long ylaw_5), .second, .val (.int xlaw_6), .val (.int ms12_0), .val (.int ms26_0), .val (.int ms40_0), .val (.ref o34), .val (.int (0 : Int32)), .val (.int (0 : Int32)), .val (.int (0 : Int32)), .val (.int xlaw_1), .val (.long ylaw_4), .second, .val (.int (0 : Int32)), .val (.int (1 : Int32))] [(.int (0 : Int32)), (.ref o34)])) rfl (by rw [hml]; rfl) (Steps.refl _) (argsL := [(.int (0 : Int32))]) (rest := []) (lenOf pd8 rfl) rfl (by show 2 * 0 + _ ≤ _; exact Nat.le_of_eq rfl) (hb hby at_266) (fun _ _ => ⟨rfl, e132, (by decide : 7 + 0 ≤ _), (by decide : 778 + 0 ≤ _)⟩)
        dsimp only [Pt.U, Pt.locs, Pt.cells, Pt.slots] at X133 l133 y133 z133 st133 hQ133
        subst l133 y133 z133
        obtain ⟨rfl, Nq133, e133⟩ := hQ133
        have N133 := Fr.app N132 Nq133
        refine Wq.steps st133 ?_
        show Wq _ _ _ _ _ (T133.setTop (mkF m 269 #[.val (.int xlaw_1), .val (.int xlaw_2), .val (.int xlaw_3), .val (.long ylaw_4), .second, .val (.long ylaw_5), .second, .val (.int xlaw_6), .val (.int ms12_0), .val (.int ms26_0), .val (.int ms40_0), .val (.ref o34), .val (.int (0 : Int32)), .val (.int (0 : Int32)), .val (.int (0 : Int32)), .val (.int xlaw_1), .val (.long ylaw_4), .second, .val (.int (0 : Int32)), .val (.int (1 : Int32))] [(.long ylaw_4)]))
        refine Ow.lloadN X133 hx (pc' := 270) (hb hby at_269) rfl ?_
        refine Ow.lcmp X133 hx (pc' := 271) (hb hby at_270)  ?_
        refine Ow.ifNo X133 hx (pc' := 274) (hb hby at_271) ((if0 _ _).trans (teq ((lw_eq _ _).mpr (rfl : ylaw_4 = ylaw_4))).2) ?_
        refine Ow.iconst X133 hx (pc' := 275) (hb hby at_274) (z := (1 : Int32)) rfl ?_
        refine Ow.goto X133 hx (pc' := 279) (hb hby at_275) (by decide) (by decide) ?_
        refine Ow.istore X133 hx (pc' := 281) (hb hby at_279) (l' := #[.val (.int xlaw_1), .val (.int xlaw_2), .val (.int xlaw_3), .val (.long ylaw_4), .second, .val (.long ylaw_5), .second, .val (.int xlaw_6), .val (.int ms12_0), .val (.int ms26_0), .val (.int ms40_0), .val (.ref o34), .val (.int (0 : Int32)), .val (.int (0 : Int32)), .val (.int (0 : Int32)), .val (.int xlaw_1), .val (.long ylaw_4), .second, .val (.int (0 : Int32)), .val (.int (1 : Int32))]) rfl ?_
        refine Ow.iload X133 hx (pc' := 283) (hb hby at_281) rfl ?_
        exact Wq.ret X133 (BodyLoose.notSynchronized Bd) (rv := some (.int (1 : Int32))) (fun h => by rw [Bd.returns] at h; cases h) (fun _ hr => retN X133 hx (t := .boolean) Bd.returns (by simp) (hb hby at_283) hr) (by decide) (by decide) ⟨rfl, N133⟩
    · skip
      refine Ow.ifNo X38 hx (pc' := 92) (hb hby at_89) ((if0 _ _).trans (feq hc89).1) ?_
      refine Ow.aload X38 hx (pc' := 94) (hb hby at_92) rfl rfl ?_
      refine Ow.iload X38 hx (pc' := 96) (hb hby at_94) rfl ?_
      refine Ow.lload X38 hx (pc' := 98) (hb hby at_96) rfl ?_
      obtain ⟨cq143, kq143, q143a, q143b, q143c⟩ := isOf hZ e38 A34_t38
      obtain ⟨_, _, ⟨T143, L143, k143, n143⟩, -, X143, ⟨Lc143, hQ143, l143, y143, z143⟩, st143⟩ := X38.virtualBack hx (y := mt10) (z := mt10) hown (mvT hZ (kw55 hw)) (mvT hZ (kw56 hw)) (notFace_of_selects (args := #[]) (mvT hZ (kw58 hw))) (mvT hZ (kw58 hw)) (mvT hZ (kw57 hw)) (by decide) (backOf (W := 0) (rm_sl0 l Z a0 hw [] o34 ylaw_5 b2_c35 b4_c35 b6_c35 b8_c35 b10_c35 b12_c35 (1 : Int32) (1 : Int32) (2 : Int32) ylaw_4 (List.replicate 63 (.long (0 : Int64))) (0 : Int32) (List.replicate 63 (.int (0 : Int32))) (0 : Int32) (0 : Int32) (0 : Int32) (0 : Int32) (List.replicate 252 (.int (0 : Int32))) (0 : Int64) (0 : Int64) (0 : Int64) (0 : Int64) (List.replicate 252 (.long (0 : Int64))) T38.heap n0 Z38 (by decide) A34_t38 P38_1 P38_2 P38_3 P38_4 P38_5 P38_6 P38_7 P38_8 P38_9 P38_10f g_o34 P37_10_t38 g_b6_c35 (Ne.symm ne_o34_b6_c35) P35_10_t38 g_b8_c35 (Ne.symm ne_o34_b8_c35) P35_12_t38 g_b10_c35 (Ne.symm ne_o34_b10_c35) P35_14_t38 g_b12_c35 (Ne.symm ne_o34_b12_c35) ne_b6_c35_b8_c35 ne_b6_c35_b10_c35 ne_b6_c35_b12_c35 ne_b8_c35_b10_c35 ne_b8_c35_b12_c35 ne_b10_c35_b12_c35 (by decide)) hZ (kw59 hw) (kw2 hw) (by decide) (by decide)) q143a q143c (g := (mkF m 98 #[.val (.int xlaw_1), .val (.int xlaw_2), .val (.int xlaw_3), .val (.long ylaw_4), .second, .val (.long ylaw_5), .second, .val (.int xlaw_6), .val (.int ms12_0), .val (.int ms26_0), .val (.int ms40_0), .val (.ref o34), .val (.int (0 : Int32)), .val (.int (0 : Int32)), .val (.int (0 : Int32)), .unset, .unset, .unset, .unset, .unset] [(.long ylaw_5), (.int (0 : Int32)), (.ref o34)])) rfl (by rw [hml]; rfl) (Steps.refl _) (argsL := [(.int (0 : Int32)), (.long ylaw_5)]) (rest := []) (lenOf pd5 rfl) rfl (by show 2 * 0 + _ ≤ _; exact Nat.le_of_eq rfl) (hb hby at_98) (fun _ _ => ⟨rfl, e38, (by decide : 7 + 0 ≤ _), (by decide : 778 + 0 ≤ _)⟩)
      dsimp only [Pt.U, Pt.locs, Pt.cells, Pt.slots] at X143 l143 y143 z143 st143 hQ143
      subst l143 y143 z143
      obtain ⟨rfl, Nq143, Kq143, P143_0, P143_1, P143_2, P143_3, P143_4, P143_5, P143_6, P143_7, P143_8, P143_9, P143_10, P143_11, P143_12, P143_13, P143_14⟩ := hQ143
      have N143 := Fr.app N38 Nq143
      have K143 : Keep h0 T143.heap [] := K38.trans Kq143 (allS (P := fun x => x ∈ [] ∨ h0.size ≤ x) (Or.inr sz_o34) (allS (P := fun x => x ∈ [] ∨ h0.size ≤ x) (Or.inr sz_b12_c35) (allS (P := fun x => x ∈ [] ∨ h0.size ≤ x) (Or.inr sz_b10_c35) (allS (P := fun x => x ∈ [] ∨ h0.size ≤ x) (Or.inr sz_b8_c35) (allS (P := fun x => x ∈ [] ∨ h0.size ≤ x) (Or.inr sz_b6_c35) all0)))))
      have Z143 : n0 ≤ T143.heap.size := Nat.le_trans Z38 Kq143.1
      have A34_t143 := A34_t38.keep Kq143
      have P35_6_t143 := P35_6_t38.keep Kq143 (ninS (Ne.symm ne_o34_b4_c35) (ninS ne_b4_c35_b12_c35 (ninS ne_b4_c35_b10_c35 (ninS ne_b4_c35_b8_c35 (ninS ne_b4_c35_b6_c35 nin0)))))
      have P36_10_t143 := P36_10_t38.keep Kq143 (ninS (Ne.symm ne_o34_b2_c35) (ninS ne_b2_c35_b12_c35 (ninS ne_b2_c35_b10_c35 (ninS ne_b2_c35_b8_c35 (ninS ne_b2_c35_b6_c35 nin0)))))
      have e143 : T143.heap = T143.heap := rfl
      refine Wq.steps st143 ?_
      show Wq _ _ _ _ _ (T143.setTop (mkF m 101 #[.val (.int xlaw_1), .val (.int xlaw_2), .val (.int xlaw_3), .val (.long ylaw_4), .second, .val (.long ylaw_5), .second, .val (.int xlaw_6), .val (.int ms12_0), .val (.int ms26_0), .val (.int ms40_0), .val (.ref o34), .val (.int (0 : Int32)), .val (.int (0 : Int32)), .val (.int (0 : Int32)), .unset, .unset, .unset, .unset, .unset] []))
      refine Ow.iload X143 hx (pc' := 103) (hb hby at_101) rfl ?_
      refine Ow.ifYes X143 hx (pc' := 110) (hb hby at_103) ((if0 _ _).trans (teq (hc76 : ms12_0 = (0 : Int32))).1) (by decide) (by decide) ?_
      refine Ow.iloadN X143 hx (pc' := 111) (hb hby at_110) rfl ?_
      refine Ow.istore X143 hx (pc' := 113) (hb hby at_111) (l' := #[.val (.int xlaw_1), .val (.int xlaw_2), .val (.int xlaw_3), .val (.long ylaw_4), .second, .val (.long ylaw_5), .second, .val (.int xlaw_6), .val (.int ms12_0), .val (.int ms26_0), .val (.int ms40_0), .val (.ref o34), .val (.int (0 : Int32)), .val (.int (0 : Int32)), .val (.int (0 : Int32)), .val (.int xlaw_1), .unset, .unset, .unset, .unset]) rfl ?_
      refine Ow.iload X143 hx (pc' := 115) (hb hby at_113) rfl ?_
      refine Ow.ifNo X143 hx (pc' := 118) (hb hby at_115) ((if0 _ _).trans (feq (hc89 : ¬ (ms26_0 = (0 : Int32)))).1) ?_
      refine Ow.lload X143 hx (pc' := 120) (hb hby at_118) rfl ?_
      refine Ow.goto X143 hx (pc' := 124) (hb hby at_120) (by decide) (by decide) ?_
      refine Ow.lstore X143 hx (pc' := 126) (hb hby at_124) (l' := #[.val (.int xlaw_1), .val (.int xlaw_2), .val (.int xlaw_3), .val (.long ylaw_4), .second, .val (.long ylaw_5), .second, .val (.int xlaw_6), .val (.int ms12_0), .val (.int ms26_0), .val (.int ms40_0), .val (.ref o34), .val (.int (0 : Int32)), .val (.int (0 : Int32)), .val (.int (0 : Int32)), .val (.int xlaw_1), .val (.long ylaw_5), .second, .unset, .unset]) rfl ?_
      refine Ow.aload X143 hx (pc' := 128) (hb hby at_126) rfl rfl ?_
      obtain ⟨cq144, kq144, q144a, q144b, q144c⟩ := isOf hZ e143 A34_t143
      obtain ⟨_, _, ⟨T144, L144, k144, n144⟩, -, X144, ⟨Lc144, hQ144, l144, y144, z144⟩, st144⟩ := X143.virtualBack hx (y := mt4) (z := mt4) hown (mvT hZ (kw39 hw)) (mvT hZ (kw40 hw)) (notFace_of_selects (args := #[]) (mvT hZ (kw42 hw))) (mvT hZ (kw42 hw)) (mvT hZ (kw41 hw)) (by decide) (backOf (W := 0) (rm_cp l Z a0 hw [] o34 b2_c35 b4_c35 b6_c35 b8_c35 b10_c35 b12_c35 (1 : Int32) (1 : Int32) (1 : Int32) (2 : Int32) T143.heap n0 Z143 A34_t143 P143_1 P143_2 P143_3 P143_4 P143_5 P143_6 P143_7 P143_8 P143_12 P143_9 g_o34) hZ (kw43 hw) (kw2 hw) (by decide) (by decide)) q144a q144c (g := (mkF m 128 #[.val (.int xlaw_1), .val (.int xlaw_2), .val (.int xlaw_3), .val (.long ylaw_4), .second, .val (.long ylaw_5), .second, .val (.int xlaw_6), .val (.int ms12_0), .val (.int ms26_0), .val (.int ms40_0), .val (.ref o34), .val (.int (0 : Int32)), .val (.int (0 : Int32)), .val (.int (0 : Int32)), .val (.int xlaw_1), .val (.long ylaw_5), .second, .unset, .unset] [(.ref o34)])) rfl (by rw [hml]; rfl) (Steps.refl _) (argsL := []) (rest := []) (lenOf pd4 rfl) rfl (by show 2 * 0 + _ ≤ _; exact Nat.le_of_eq rfl) (hb hby at_128) (fun _ _ => ⟨rfl, e143, (by decide : 7 + 0 ≤ _), (by decide : 778 + 0 ≤ _)⟩)
      dsimp only [Pt.U, Pt.locs, Pt.cells, Pt.slots] at X144 l144 y144 z144 st144 hQ144
      subst l144 y144 z144
      obtain ⟨rfl, Nq144, Kq144, P144_0, P144_1, P144_2, P144_3, P144_4, P144_5, P144_6, P144_7, P144_8, P144_9, P144_10⟩ := hQ144
      have N144 := Fr.app N143 Nq144
      have K144 : Keep h0 T144.heap [] := K143.trans Kq144 (allS (P := fun x => x ∈ [] ∨ h0.size ≤ x) (Or.inr sz_o34) all0)
      have Z144 : n0 ≤ T144.heap.size := Nat.le_trans Z143 Kq144.1
      have A34_t144 := A34_t143.keep Kq144
      have P35_6_t144 := P35_6_t143.keep Kq144 (ninS (Ne.symm ne_o34_b4_c35) nin0)
      have P36_10_t144 := P36_10_t143.keep Kq144 (ninS (Ne.symm ne_o34_b2_c35) nin0)
      have P143_10_t144 := P143_10.keep Kq144 (ninS (Ne.symm ne_o34_b10_c35) nin0)
      have P143_11_t144 := P143_11.keep Kq144 (ninS (Ne.symm ne_o34_b12_c35) nin0)
      have P143_13_t144 := P143_13.keep Kq144 (ninS (Ne.symm ne_o34_b8_c35) nin0)
      have P143_14_t144 := P143_14.keep Kq144 (ninS (Ne.symm ne_o34_b6_c35) nin0)
      have e144 : T144.heap = T144.heap := rfl
      have P144_10f : Fld Z T144.heap o34 "com/example/tauten/tauten/Trail" "epoch" "I" (.int (3 : Int32)) := P144_10
      refine Wq.steps st144 ?_
      show Wq _ _ _ _ _ (T144.setTop (mkF m 131 #[.val (.int xlaw_1), .val (.int xlaw_2), .val (.int xlaw_3), .val (.long ylaw_4), .second, .val (.long ylaw_5), .second, .val (.int xlaw_6), .val (.int ms12_0), .val (.int ms26_0), .val (.int ms40_0), .val (.ref o34), .val (.int (0 : Int32)), .val (.int (0 : Int32)), .val (.int (0 : Int32)), .val (.int xlaw_1), .val (.long ylaw_5), .second, .unset, .unset] [(.int (1 : Int32))]))
      refine Ow.istore X144 hx (pc' := 133) (hb hby at_131) (l' := #[.val (.int xlaw_1), .val (.int xlaw_2), .val (.int xlaw_3), .val (.long ylaw_4), .second, .val (.long ylaw_5), .second, .val (.int xlaw_6), .val (.int ms12_0), .val (.int ms26_0), .val (.int ms40_0), .val (.ref o34), .val (.int (0 : Int32)), .val (.int (0 : Int32)), .val (.int (0 : Int32)), .val (.int xlaw_1), .val (.long ylaw_5), .second, .val (.int (1 : Int32)), .unset]) rfl ?_
      refine Ow.aload X144 hx (pc' := 135) (hb hby at_133) rfl rfl ?_
      refine Ow.iload X144 hx (pc' := 137) (hb hby at_135) rfl ?_
      refine Ow.iloadN X144 hx (pc' := 138) (hb hby at_137) rfl ?_
      obtain ⟨cq154, kq154, q154a, q154b, q154c⟩ := isOf hZ e144 A34_t144
      obtain ⟨_, _, ⟨T154, L154, k154, n154⟩, -, X154, ⟨Lc154, hQ154, l154, y154, z154⟩, st154⟩ := X144.virtualBack hx (y := mt8) (z := mt8) hown (mvT hZ (kw46 hw)) (mvT hZ (kw47 hw)) (notFace_of_selects (args := #[]) (mvT hZ (kw49 hw))) (mvT hZ (kw49 hw)) (mvT hZ (kw48 hw)) (by decide) (backOf (W := 0) (rm_st1 l Z a0 hw [] o34 xlaw_3 b2_c35 b4_c35 b6_c35 b8_c35 b10_c35 b12_c35 (1 : Int32) (1 : Int32) (3 : Int32) xlaw_1 (List.replicate 63 (.int (0 : Int32))) (0 : Int32) (List.replicate 63 (.int (0 : Int32))) (-1 : Int32) (0 : Int32) (0 : Int32) (0 : Int32) (List.replicate 252 (.int (0 : Int32))) ylaw_4 (0 : Int64) (0 : Int64) (0 : Int64) (List.replicate 252 (.long (0 : Int64))) T144.heap n0 Z144 (by decide) A34_t144 P144_1 P144_2 P144_3 P144_4 P144_5 P144_6 P144_7 P144_8 P144_9 P144_10f g_o34 P36_10_t144 g_b2_c35 (Ne.symm ne_o34_b2_c35) P35_6_t144 g_b4_c35 (Ne.symm ne_o34_b4_c35) P143_10_t144 g_b10_c35 (Ne.symm ne_o34_b10_c35) P143_11_t144 g_b12_c35 (Ne.symm ne_o34_b12_c35) ne_b2_c35_b4_c35 ne_b2_c35_b10_c35 ne_b2_c35_b12_c35 ne_b4_c35_b10_c35 ne_b4_c35_b12_c35 ne_b10_c35_b12_c35 (by decide)) hZ (kw50 hw) (kw2 hw) (by decide) (by decide)) q154a q154c (g := (mkF m 138 #[.val (.int xlaw_1), .val (.int xlaw_2), .val (.int xlaw_3), .val (.long ylaw_4), .second, .val (.long ylaw_5), .second, .val (.int xlaw_6), .val (.int ms12_0), .val (.int ms26_0), .val (.int ms40_0), .val (.ref o34), .val (.int (0 : Int32)), .val (.int (0 : Int32)), .val (.int (0 : Int32)), .val (.int xlaw_1), .val (.long ylaw_5), .second, .val (.int (1 : Int32)), .unset] [(.int xlaw_3), (.int (0 : Int32)), (.ref o34)])) rfl (by rw [hml]; rfl) (Steps.refl _) (argsL := [(.int (0 : Int32)), (.int xlaw_3)]) (rest := []) (lenOf pd6 rfl) rfl (by show 2 * 0 + _ ≤ _; exact Nat.le_of_eq rfl) (hb hby at_138) (fun _ _ => ⟨rfl, e144, (by decide : 7 + 0 ≤ _), (by decide : 778 + 0 ≤ _)⟩)
      dsimp only [Pt.U, Pt.locs, Pt.cells, Pt.slots] at X154 l154 y154 z154 st154 hQ154
      subst l154 y154 z154
      obtain ⟨rfl, Nq154, Kq154, P154_0, P154_1, P154_2, P154_3, P154_4, P154_5, P154_6, P154_7, P154_8, P154_9, P154_10, P154_11, P154_12, P154_13, P154_14⟩ := hQ154
      have N154 := Fr.app N144 Nq154
      have K154 : Keep h0 T154.heap [] := K144.trans Kq154 (allS (P := fun x => x ∈ [] ∨ h0.size ≤ x) (Or.inr sz_o34) (allS (P := fun x => x ∈ [] ∨ h0.size ≤ x) (Or.inr sz_b12_c35) (allS (P := fun x => x ∈ [] ∨ h0.size ≤ x) (Or.inr sz_b10_c35) (allS (P := fun x => x ∈ [] ∨ h0.size ≤ x) (Or.inr sz_b4_c35) (allS (P := fun x => x ∈ [] ∨ h0.size ≤ x) (Or.inr sz_b2_c35) all0)))))
      have Z154 : n0 ≤ T154.heap.size := Nat.le_trans Z144 Kq154.1
      have A34_t154 := A34_t144.keep Kq154
      have P143_13_t154 := P143_13_t144.keep Kq154 (ninS (Ne.symm ne_o34_b8_c35) (ninS ne_b8_c35_b12_c35 (ninS ne_b8_c35_b10_c35 (ninS (Ne.symm ne_b4_c35_b8_c35) (ninS (Ne.symm ne_b2_c35_b8_c35) nin0)))))
      have P143_14_t154 := P143_14_t144.keep Kq154 (ninS (Ne.symm ne_o34_b6_c35) (ninS ne_b6_c35_b12_c35 (ninS ne_b6_c35_b10_c35 (ninS (Ne.symm ne_b4_c35_b6_c35) (ninS (Ne.symm ne_b2_c35_b6_c35) nin0)))))
      have e154 : T154.heap = T154.heap := rfl
      refine Wq.steps st154 ?_
      show Wq _ _ _ _ _ (T154.setTop (mkF m 141 #[.val (.int xlaw_1), .val (.int xlaw_2), .val (.int xlaw_3), .val (.long ylaw_4), .second, .val (.long ylaw_5), .second, .val (.int xlaw_6), .val (.int ms12_0), .val (.int ms26_0), .val (.int ms40_0), .val (.ref o34), .val (.int (0 : Int32)), .val (.int (0 : Int32)), .val (.int (0 : Int32)), .val (.int xlaw_1), .val (.long ylaw_5), .second, .val (.int (1 : Int32)), .unset] []))
      refine Ow.iload X154 hx (pc' := 143) (hb hby at_141) rfl ?_
      by_cases hc143 : ms40_0 = (0 : Int32)
      · skip
        refine Ow.ifYes X154 hx (pc' := 159) (hb hby at_143) ((if0 _ _).trans (teq hc143).1) (by decide) (by decide) ?_
        refine Ow.aload X154 hx (pc' := 161) (hb hby at_159) rfl rfl ?_
        refine Ow.iload X154 hx (pc' := 163) (hb hby at_161) rfl ?_
        obtain ⟨cq167, kq167, q167a, q167b, q167c⟩ := isOf hZ e154 A34_t154
        obtain ⟨_, _, ⟨T167, L167, k167, n167⟩, -, X167, ⟨Lc167, hQ167, l167, y167, z167⟩, st167⟩ := X154.virtualBack hx (y := mt9) (z := mt9) hown (mvT hZ (kw60 hw)) (mvT hZ (kw61 hw)) (notFace_of_selects (args := #[]) (mvT hZ (kw63 hw))) (mvT hZ (kw63 hw)) (mvT hZ (kw62 hw)) (by decide) (backOf (W := 0) (rm_un21i l Z a0 hw [] o34 b2_c35 b4_c35 b6_c35 b8_c35 b10_c35 b12_c35 (1 : Int32) (1 : Int32) (3 : Int32) xlaw_3 (List.replicate 63 (.int (0 : Int32))) ylaw_5 (List.replicate 63 (.long (0 : Int64))) (-1 : Int32) (0 : Int32) (0 : Int32) (List.replicate 252 (.int (0 : Int32))) ylaw_4 (xlaw_1.toInt64) (0 : Int64) (0 : Int64) (List.replicate 252 (.long (0 : Int64))) T154.heap n0 Z154 A34_t154 P154_1 P154_2 P154_3 P154_4 P154_5 P154_6 P154_7 P154_8 P154_12 P154_9 g_o34 P154_14 g_b2_c35 (Ne.symm ne_o34_b2_c35) P143_14_t154 g_b6_c35 (Ne.symm ne_o34_b6_c35) P154_10 g_b10_c35 (Ne.symm ne_o34_b10_c35) P154_11 g_b12_c35 (Ne.symm ne_o34_b12_c35) ne_b2_c35_b6_c35 ne_b2_c35_b10_c35 ne_b2_c35_b12_c35 ne_b6_c35_b10_c35 ne_b6_c35_b12_c35 ne_b10_c35_b12_c35) hZ (kw64 hw) (kw2 hw) (by decide) (by decide)) q167a q167c (g := (mkF m 163 #[.val (.int xlaw_1), .val (.int xlaw_2), .val (.int xlaw_3), .val (.long ylaw_4), .second, .val (.long ylaw_5), .second, .val (.int xlaw_6), .val (.int ms12_0), .val (.int ms26_0), .val (.int ms40_0), .val (.ref o34), .val (.int (0 : Int32)), .val (.int (0 : Int32)), .val (.int (0 : Int32)), .val (.int xlaw_1), .val (.long ylaw_5), .second, .val (.int (1 : Int32)), .unset] [(.int (1 : Int32)), (.ref o34)])) rfl (by rw [hml]; rfl) (Steps.refl _) (argsL := [(.int (1 : Int32))]) (rest := []) (lenOf pd7 rfl) rfl (by show 2 * 0 + _ ≤ _; exact Nat.le_of_eq rfl) (hb hby at_163) (fun _ _ => ⟨rfl, e154, (by decide : 7 + 0 ≤ _), (by decide : 778 + 0 ≤ _)⟩)
        dsimp only [Pt.U, Pt.locs, Pt.cells, Pt.slots] at X167 l167 y167 z167 st167 hQ167
        subst l167 y167 z167
        obtain ⟨rfl, Nq167, Kq167, P167_0, P167_1, P167_2, P167_3, P167_4, P167_5, P167_6, P167_7, P167_8, P167_9, P167_10, P167_11⟩ := hQ167
        have N167 := Fr.app N154 Nq167
        have K167 : Keep h0 T167.heap [] := K154.trans Kq167 (allS (P := fun x => x ∈ [] ∨ h0.size ≤ x) (Or.inr sz_o34) (allS (P := fun x => x ∈ [] ∨ h0.size ≤ x) (Or.inr sz_b2_c35) all0))
        have Z167 : n0 ≤ T167.heap.size := Nat.le_trans Z154 Kq167.1
        have A34_t167 := A34_t154.keep Kq167
        have P143_13_t167 := P143_13_t154.keep Kq167 (ninS (Ne.symm ne_o34_b8_c35) (ninS (Ne.symm ne_b2_c35_b8_c35) nin0))
        have P143_14_t167 := P143_14_t154.keep Kq167 (ninS (Ne.symm ne_o34_b6_c35) (ninS (Ne.symm ne_b2_c35_b6_c35) nin0))
        have P154_10_t167 := P154_10.keep Kq167 (ninS (Ne.symm ne_o34_b10_c35) (ninS (Ne.symm ne_b2_c35_b10_c35) nin0))
        have P154_11_t167 := P154_11.keep Kq167 (ninS (Ne.symm ne_o34_b12_c35) (ninS (Ne.symm ne_b2_c35_b12_c35) nin0))
        have P154_13_t167 := P154_13.keep Kq167 (ninS (Ne.symm ne_o34_b4_c35) (ninS (Ne.symm ne_b2_c35_b4_c35) nin0))
        have e167 : T167.heap = T167.heap := rfl
        have P167_11f : Fld Z T167.heap o34 "com/example/tauten/tauten/Trail" "epoch" "I" (.int (4 : Int32)) := P167_11
        refine Wq.steps st167 ?_
        show Wq _ _ _ _ _ (T167.setTop (mkF m 166 #[.val (.int xlaw_1), .val (.int xlaw_2), .val (.int xlaw_3), .val (.long ylaw_4), .second, .val (.long ylaw_5), .second, .val (.int xlaw_6), .val (.int ms12_0), .val (.int ms26_0), .val (.int ms40_0), .val (.ref o34), .val (.int (0 : Int32)), .val (.int (0 : Int32)), .val (.int (0 : Int32)), .val (.int xlaw_1), .val (.long ylaw_5), .second, .val (.int (1 : Int32)), .unset] []))
        refine Ow.aload X167 hx (pc' := 168) (hb hby at_166) rfl rfl ?_
        refine Ow.iload X167 hx (pc' := 170) (hb hby at_168) rfl ?_
        obtain ⟨cq168, kq168, q168a, q168b, q168c⟩ := isOf hZ e167 A34_t167
        obtain ⟨_, _, ⟨T168, L168, k168, n168⟩, -, X168, ⟨Lc168, hQ168, l168, y168, z168⟩, st168⟩ := X167.virtualBack hx (y := mt5) (z := mt5) hown (mvT hZ (kw65 hw)) (mvT hZ (kw66 hw)) (notFace_of_selects (args := #[]) (mvT hZ (kw68 hw))) (mvT hZ (kw68 hw)) (mvT hZ (kw67 hw)) (by decide) (backOf (W := 0) (rm_gt l Z a0 hw [] o34 b2_c35 ((xlaw_1.toInt64).toInt32) (List.replicate 63 (.int (0 : Int32))) T167.heap n0 Z167 P167_1 P167_10) hZ (kw69 hw) (kw2 hw) (by decide) (by decide)) q168a q168c (g := (mkF m 170 #[.val (.int xlaw_1), .val (.int xlaw_2), .val (.int xlaw_3), .val (.long ylaw_4), .second, .val (.long ylaw_5), .second, .val (.int xlaw_6), .val (.int ms12_0), .val (.int ms26_0), .val (.int ms40_0), .val (.ref o34), .val (.int (0 : Int32)), .val (.int (0 : Int32)), .val (.int (0 : Int32)), .val (.int xlaw_1), .val (.long ylaw_5), .second, .val (.int (1 : Int32)), .unset] [(.int (0 : Int32)), (.ref o34)])) rfl (by rw [hml]; rfl) (Steps.refl _) (argsL := [(.int (0 : Int32))]) (rest := []) (lenOf pd2 rfl) rfl (by show 2 * 0 + _ ≤ _; exact Nat.le_of_eq rfl) (hb hby at_170) (fun _ _ => ⟨rfl, e167, (by decide : 7 + 0 ≤ _), (by decide : 778 + 0 ≤ _)⟩)
        dsimp only [Pt.U, Pt.locs, Pt.cells, Pt.slots] at X168 l168 y168 z168 st168 hQ168
        subst l168 y168 z168
        obtain ⟨rfl, Nq168, e168⟩ := hQ168
        have N168 := Fr.app N167 Nq168
        refine Wq.steps st168 ?_
        show Wq _ _ _ _ _ (T168.setTop (mkF m 173 #[.val (.int xlaw_1), .val (.int xlaw_2), .val (.int xlaw_3), .val (.long ylaw_4), .second, .val (.long ylaw_5), .second, .val (.int xlaw_6), .val (.int ms12_0), .val (.int ms26_0), .val (.int ms40_0), .val (.ref o34), .val (.int (0 : Int32)), .val (.int (0 : Int32)), .val (.int (0 : Int32)), .val (.int xlaw_1), .val (.long ylaw_5), .second, .val (.int (1 : Int32)), .unset] [(.int ((xlaw_1.toInt64).toInt32))]))
        refine Ow.iload X168 hx (pc' := 175) (hb hby at_173) rfl ?_
        refine Ow.icmpNo X168 hx (pc' := 178) (hb hby at_175) (teq (by first | (simp only [Int32.toInt32_toInt64]; done) | rfl : ((xlaw_1.toInt64).toInt32) = xlaw_1)).2 ?_
        refine Ow.aload X168 hx (pc' := 180) (hb hby at_178) rfl rfl ?_
        refine Ow.iload X168 hx (pc' := 182) (hb hby at_180) rfl ?_
        obtain ⟨cq169, kq169, q169a, q169b, q169c⟩ := isOf hZ e168 A34_t167
        obtain ⟨_, _, ⟨T169, L169, k169, n169⟩, -, X169, ⟨Lc169, hQ169, l169, y169, z169⟩, st169⟩ := X168.virtualBack hx (y := mt6) (z := mt6) hown (mvT hZ (kw70 hw)) (mvT hZ (kw71 hw)) (notFace_of_selects (args := #[]) (mvT hZ (kw73 hw))) (mvT hZ (kw73 hw)) (mvT hZ (kw72 hw)) (by decide) (backOf (W := 0) (rm_gl l Z a0 hw [] o34 b6_c35 ylaw_5 (List.replicate 63 (.long (0 : Int64))) T167.heap n0 Z167 P167_3 P143_14_t167) hZ (kw74 hw) (kw2 hw) (by decide) (by decide)) q169a q169c (g := (mkF m 182 #[.val (.int xlaw_1), .val (.int xlaw_2), .val (.int xlaw_3), .val (.long ylaw_4), .second, .val (.long ylaw_5), .second, .val (.int xlaw_6), .val (.int ms12_0), .val (.int ms26_0), .val (.int ms40_0), .val (.ref o34), .val (.int (0 : Int32)), .val (.int (0 : Int32)), .val (.int (0 : Int32)), .val (.int xlaw_1), .val (.long ylaw_5), .second, .val (.int (1 : Int32)), .unset] [(.int (0 : Int32)), (.ref o34)])) rfl (by rw [hml]; rfl) (Steps.refl _) (argsL := [(.int (0 : Int32))]) (rest := []) (lenOf pd8 rfl) rfl (by show 2 * 0 + _ ≤ _; exact Nat.le_of_eq rfl) (hb hby at_182) (fun _ _ => ⟨rfl, e168, (by decide : 7 + 0 ≤ _), (by decide : 778 + 0 ≤ _)⟩)
        dsimp only [Pt.U, Pt.locs, Pt.cells, Pt.slots] at X169 l169 y169 z169 st169 hQ169
        subst l169 y169 z169
        obtain ⟨rfl, Nq169, e169⟩ := hQ169
        have N169 := Fr.app N168 Nq169
        refine Wq.steps st169 ?_
        show Wq _ _ _ _ _ (T169.setTop (mkF m 185 #[.val (.int xlaw_1), .val (.int xlaw_2), .val (.int xlaw_3), .val (.long ylaw_4), .second, .val (.long ylaw_5), .second, .val (.int xlaw_6), .val (.int ms12_0), .val (.int ms26_0), .val (.int ms40_0), .val (.ref o34), .val (.int (0 : Int32)), .val (.int (0 : Int32)), .val (.int (0 : Int32)), .val (.int xlaw_1), .val (.long ylaw_5), .second, .val (.int (1 : Int32)), .unset] [(.long ylaw_5)]))
        refine Ow.lload X169 hx (pc' := 187) (hb hby at_185) rfl ?_
        refine Ow.lcmp X169 hx (pc' := 188) (hb hby at_187)  ?_
        refine Ow.ifNo X169 hx (pc' := 191) (hb hby at_188) ((if0 _ _).trans (teq ((lw_eq _ _).mpr (rfl : ylaw_5 = ylaw_5))).2) ?_
        refine Ow.iconst X169 hx (pc' := 192) (hb hby at_191) (z := (1 : Int32)) rfl ?_
        refine Ow.goto X169 hx (pc' := 196) (hb hby at_192) (by decide) (by decide) ?_
        refine Ow.istore X169 hx (pc' := 198) (hb hby at_196) (l' := #[.val (.int xlaw_1), .val (.int xlaw_2), .val (.int xlaw_3), .val (.long ylaw_4), .second, .val (.long ylaw_5), .second, .val (.int xlaw_6), .val (.int ms12_0), .val (.int ms26_0), .val (.int ms40_0), .val (.ref o34), .val (.int (0 : Int32)), .val (.int (0 : Int32)), .val (.int (0 : Int32)), .val (.int xlaw_1), .val (.long ylaw_5), .second, .val (.int (1 : Int32)), .val (.int (1 : Int32))]) rfl ?_
        refine Ow.aload X169 hx (pc' := 200) (hb hby at_198) rfl rfl ?_
        refine Ow.iload X169 hx (pc' := 202) (hb hby at_200) rfl ?_
        refine Ow.iloadN X169 hx (pc' := 203) (hb hby at_202) rfl ?_
        refine Ow.iloadN X169 hx (pc' := 204) (hb hby at_203) rfl ?_
        refine Ow.ixor X169 hx (pc' := 205) (hb hby at_204) (z := (xlaw_1 ^^^ xlaw_3)) rfl ?_
        obtain ⟨cq170, kq170, q170a, q170b, q170c⟩ := isOf hZ e169 A34_t167
        obtain ⟨_, _, ⟨T170, L170, k170, n170⟩, -, X170, ⟨Lc170, hQ170, l170, y170, z170⟩, st170⟩ := X169.virtualBack hx (y := mt8) (z := mt8) hown (mvT hZ (kw46 hw)) (mvT hZ (kw47 hw)) (notFace_of_selects (args := #[]) (mvT hZ (kw49 hw))) (mvT hZ (kw49 hw)) (mvT hZ (kw48 hw)) (by decide) (backOf (W := 0) (rm_st1 l Z a0 hw [] o34 (xlaw_1 ^^^ xlaw_3) b2_c35 b4_c35 b6_c35 b8_c35 b10_c35 b12_c35 (1 : Int32) (1 : Int32) (4 : Int32) ((xlaw_1.toInt64).toInt32) (List.replicate 63 (.int (0 : Int32))) (3 : Int32) (List.replicate 63 (.int (0 : Int32))) (-1 : Int32) (0 : Int32) (0 : Int32) (0 : Int32) (List.replicate 252 (.int (0 : Int32))) ylaw_4 (xlaw_1.toInt64) (0 : Int64) (0 : Int64) (List.replicate 252 (.long (0 : Int64))) T167.heap n0 Z167 (by decide) A34_t167 P167_1 P167_2 P167_3 P167_4 P167_5 P167_6 P167_7 P167_8 P167_9 P167_11f g_o34 P167_10 g_b2_c35 (Ne.symm ne_o34_b2_c35) P154_13_t167 g_b4_c35 (Ne.symm ne_o34_b4_c35) P154_10_t167 g_b10_c35 (Ne.symm ne_o34_b10_c35) P154_11_t167 g_b12_c35 (Ne.symm ne_o34_b12_c35) ne_b2_c35_b4_c35 ne_b2_c35_b10_c35 ne_b2_c35_b12_c35 ne_b4_c35_b10_c35 ne_b4_c35_b12_c35 ne_b10_c35_b12_c35 (by decide)) hZ (kw50 hw) (kw2 hw) (by decide) (by decide)) q170a q170c (g := (mkF m 205 #[.val (.int xlaw_1), .val (.int xlaw_2), .val (.int xlaw_3), .val (.long ylaw_4), .second, .val (.long ylaw_5), .second, .val (.int xlaw_6), .val (.int ms12_0), .val (.int ms26_0), .val (.int ms40_0), .val (.ref o34), .val (.int (0 : Int32)), .val (.int (0 : Int32)), .val (.int (0 : Int32)), .val (.int xlaw_1), .val (.long ylaw_5), .second, .val (.int (1 : Int32)), .val (.int (1 : Int32))] [(.int (xlaw_1 ^^^ xlaw_3)), (.int (0 : Int32)), (.ref o34)])) rfl (by rw [hml]; rfl) (Steps.refl _) (argsL := [(.int (0 : Int32)), (.int (xlaw_1 ^^^ xlaw_3))]) (rest := []) (lenOf pd6 rfl) rfl (by show 2 * 0 + _ ≤ _; exact Nat.le_of_eq rfl) (hb hby at_205) (fun _ _ => ⟨rfl, e169, (by decide : 7 + 0 ≤ _), (by decide : 778 + 0 ≤ _)⟩)
        dsimp only [Pt.U, Pt.locs, Pt.cells, Pt.slots] at X170 l170 y170 z170 st170 hQ170
        subst l170 y170 z170
        obtain ⟨rfl, Nq170, Kq170, P170_0, P170_1, P170_2, P170_3, P170_4, P170_5, P170_6, P170_7, P170_8, P170_9, P170_10, P170_11, P170_12, P170_13, P170_14⟩ := hQ170
        have N170 := Fr.app N169 Nq170
        have K170 : Keep h0 T170.heap [] := K167.trans Kq170 (allS (P := fun x => x ∈ [] ∨ h0.size ≤ x) (Or.inr sz_o34) (allS (P := fun x => x ∈ [] ∨ h0.size ≤ x) (Or.inr sz_b12_c35) (allS (P := fun x => x ∈ [] ∨ h0.size ≤ x) (Or.inr sz_b10_c35) (allS (P := fun x => x ∈ [] ∨ h0.size ≤ x) (Or.inr sz_b4_c35) (allS (P := fun x => x ∈ [] ∨ h0.size ≤ x) (Or.inr sz_b2_c35) all0)))))
        have Z170 : n0 ≤ T170.heap.size := Nat.le_trans Z167 Kq170.1
        have A34_t170 := A34_t167.keep Kq170
        have P143_13_t170 := P143_13_t167.keep Kq170 (ninS (Ne.symm ne_o34_b8_c35) (ninS ne_b8_c35_b12_c35 (ninS ne_b8_c35_b10_c35 (ninS (Ne.symm ne_b4_c35_b8_c35) (ninS (Ne.symm ne_b2_c35_b8_c35) nin0)))))
        have P143_14_t170 := P143_14_t167.keep Kq170 (ninS (Ne.symm ne_o34_b6_c35) (ninS ne_b6_c35_b12_c35 (ninS ne_b6_c35_b10_c35 (ninS (Ne.symm ne_b4_c35_b6_c35) (ninS (Ne.symm ne_b2_c35_b6_c35) nin0)))))
        have e170 : T170.heap = T170.heap := rfl
        refine Wq.steps st170 ?_
        show Wq _ _ _ _ _ (T170.setTop (mkF m 208 #[.val (.int xlaw_1), .val (.int xlaw_2), .val (.int xlaw_3), .val (.long ylaw_4), .second, .val (.long ylaw_5), .second, .val (.int xlaw_6), .val (.int ms12_0), .val (.int ms26_0), .val (.int ms40_0), .val (.ref o34), .val (.int (0 : Int32)), .val (.int (0 : Int32)), .val (.int (0 : Int32)), .val (.int xlaw_1), .val (.long ylaw_5), .second, .val (.int (1 : Int32)), .val (.int (1 : Int32))] []))
        refine Ow.aload X170 hx (pc' := 210) (hb hby at_208) rfl rfl ?_
        refine Ow.iload X170 hx (pc' := 212) (hb hby at_210) rfl ?_
        obtain ⟨cq171, kq171, q171a, q171b, q171c⟩ := isOf hZ e170 A34_t170
        obtain ⟨_, _, ⟨T171, L171, k171, n171⟩, -, X171, ⟨Lc171, hQ171, l171, y171, z171⟩, st171⟩ := X170.virtualBack hx (y := mt9) (z := mt9) hown (mvT hZ (kw60 hw)) (mvT hZ (kw61 hw)) (notFace_of_selects (args := #[]) (mvT hZ (kw63 hw))) (mvT hZ (kw63 hw)) (mvT hZ (kw62 hw)) (by decide) (backOf (W := 0) (rm_un21i l Z a0 hw [] o34 b2_c35 b4_c35 b6_c35 b8_c35 b10_c35 b12_c35 (1 : Int32) (1 : Int32) (4 : Int32) (xlaw_1 ^^^ xlaw_3) (List.replicate 63 (.int (0 : Int32))) ylaw_5 (List.replicate 63 (.long (0 : Int64))) (-1 : Int32) (0 : Int32) (0 : Int32) (List.replicate 252 (.int (0 : Int32))) ylaw_4 (((xlaw_1.toInt64).toInt32).toInt64) (0 : Int64) (0 : Int64) (List.replicate 252 (.long (0 : Int64))) T170.heap n0 Z170 A34_t170 P170_1 P170_2 P170_3 P170_4 P170_5 P170_6 P170_7 P170_8 P170_12 P170_9 g_o34 P170_14 g_b2_c35 (Ne.symm ne_o34_b2_c35) P143_14_t170 g_b6_c35 (Ne.symm ne_o34_b6_c35) P170_10 g_b10_c35 (Ne.symm ne_o34_b10_c35) P170_11 g_b12_c35 (Ne.symm ne_o34_b12_c35) ne_b2_c35_b6_c35 ne_b2_c35_b10_c35 ne_b2_c35_b12_c35 ne_b6_c35_b10_c35 ne_b6_c35_b12_c35 ne_b10_c35_b12_c35) hZ (kw64 hw) (kw2 hw) (by decide) (by decide)) q171a q171c (g := (mkF m 212 #[.val (.int xlaw_1), .val (.int xlaw_2), .val (.int xlaw_3), .val (.long ylaw_4), .second, .val (.long ylaw_5), .second, .val (.int xlaw_6), .val (.int ms12_0), .val (.int ms26_0), .val (.int ms40_0), .val (.ref o34), .val (.int (0 : Int32)), .val (.int (0 : Int32)), .val (.int (0 : Int32)), .val (.int xlaw_1), .val (.long ylaw_5), .second, .val (.int (1 : Int32)), .val (.int (1 : Int32))] [(.int (1 : Int32)), (.ref o34)])) rfl (by rw [hml]; rfl) (Steps.refl _) (argsL := [(.int (1 : Int32))]) (rest := []) (lenOf pd7 rfl) rfl (by show 2 * 0 + _ ≤ _; exact Nat.le_of_eq rfl) (hb hby at_212) (fun _ _ => ⟨rfl, e170, (by decide : 7 + 0 ≤ _), (by decide : 778 + 0 ≤ _)⟩)
        dsimp only [Pt.U, Pt.locs, Pt.cells, Pt.slots] at X171 l171 y171 z171 st171 hQ171
        subst l171 y171 z171
        obtain ⟨rfl, Nq171, Kq171, P171_0, P171_1, P171_2, P171_3, P171_4, P171_5, P171_6, P171_7, P171_8, P171_9, P171_10, P171_11⟩ := hQ171
        have N171 := Fr.app N170 Nq171
        have K171 : Keep h0 T171.heap [] := K170.trans Kq171 (allS (P := fun x => x ∈ [] ∨ h0.size ≤ x) (Or.inr sz_o34) (allS (P := fun x => x ∈ [] ∨ h0.size ≤ x) (Or.inr sz_b2_c35) all0))
        have Z171 : n0 ≤ T171.heap.size := Nat.le_trans Z170 Kq171.1
        have A34_t171 := A34_t170.keep Kq171
        have P143_13_t171 := P143_13_t170.keep Kq171 (ninS (Ne.symm ne_o34_b8_c35) (ninS (Ne.symm ne_b2_c35_b8_c35) nin0))
        have P143_14_t171 := P143_14_t170.keep Kq171 (ninS (Ne.symm ne_o34_b6_c35) (ninS (Ne.symm ne_b2_c35_b6_c35) nin0))
        have P170_10_t171 := P170_10.keep Kq171 (ninS (Ne.symm ne_o34_b10_c35) (ninS (Ne.symm ne_b2_c35_b10_c35) nin0))
        have P170_11_t171 := P170_11.keep Kq171 (ninS (Ne.symm ne_o34_b12_c35) (ninS (Ne.symm ne_b2_c35_b12_c35) nin0))
        have P170_13_t171 := P170_13.keep Kq171 (ninS (Ne.symm ne_o34_b4_c35) (ninS (Ne.symm ne_b2_c35_b4_c35) nin0))
        have e171 : T171.heap = T171.heap := rfl
        have P171_11f : Fld Z T171.heap o34 "com/example/tauten/tauten/Trail" "epoch" "I" (.int (5 : Int32)) := P171_11
        refine Wq.steps st171 ?_
        show Wq _ _ _ _ _ (T171.setTop (mkF m 215 #[.val (.int xlaw_1), .val (.int xlaw_2), .val (.int xlaw_3), .val (.long ylaw_4), .second, .val (.long ylaw_5), .second, .val (.int xlaw_6), .val (.int ms12_0), .val (.int ms26_0), .val (.int ms40_0), .val (.ref o34), .val (.int (0 : Int32)), .val (.int (0 : Int32)), .val (.int (0 : Int32)), .val (.int xlaw_1), .val (.long ylaw_5), .second, .val (.int (1 : Int32)), .val (.int (1 : Int32))] []))
        refine Ow.iload X171 hx (pc' := 217) (hb hby at_215) rfl ?_
        refine Ow.ifNo X171 hx (pc' := 220) (hb hby at_217) ((if0 _ _).trans (feq (by decide : ¬ ((1 : Int32) = (0 : Int32)))).1) ?_
        refine Ow.aload X171 hx (pc' := 222) (hb hby at_220) rfl rfl ?_
        refine Ow.iload X171 hx (pc' := 224) (hb hby at_222) rfl ?_
        obtain ⟨cq172, kq172, q172a, q172b, q172c⟩ := isOf hZ e171 A34_t171
        obtain ⟨_, _, ⟨T172, L172, k172, n172⟩, -, X172, ⟨Lc172, hQ172, l172, y172, z172⟩, st172⟩ := X171.virtualBack hx (y := mt5) (z := mt5) hown (mvT hZ (kw65 hw)) (mvT hZ (kw66 hw)) (notFace_of_selects (args := #[]) (mvT hZ (kw68 hw))) (mvT hZ (kw68 hw)) (mvT hZ (kw67 hw)) (by decide) (backOf (W := 0) (rm_gt l Z a0 hw [] o34 b2_c35 ((((xlaw_1.toInt64).toInt32).toInt64).toInt32) (List.replicate 63 (.int (0 : Int32))) T171.heap n0 Z171 P171_1 P171_10) hZ (kw69 hw) (kw2 hw) (by decide) (by decide)) q172a q172c (g := (mkF m 224 #[.val (.int xlaw_1), .val (.int xlaw_2), .val (.int xlaw_3), .val (.long ylaw_4), .second, .val (.long ylaw_5), .second, .val (.int xlaw_6), .val (.int ms12_0), .val (.int ms26_0), .val (.int ms40_0), .val (.ref o34), .val (.int (0 : Int32)), .val (.int (0 : Int32)), .val (.int (0 : Int32)), .val (.int xlaw_1), .val (.long ylaw_5), .second, .val (.int (1 : Int32)), .val (.int (1 : Int32))] [(.int (0 : Int32)), (.ref o34)])) rfl (by rw [hml]; rfl) (Steps.refl _) (argsL := [(.int (0 : Int32))]) (rest := []) (lenOf pd2 rfl) rfl (by show 2 * 0 + _ ≤ _; exact Nat.le_of_eq rfl) (hb hby at_224) (fun _ _ => ⟨rfl, e171, (by decide : 7 + 0 ≤ _), (by decide : 778 + 0 ≤ _)⟩)
        dsimp only [Pt.U, Pt.locs, Pt.cells, Pt.slots] at X172 l172 y172 z172 st172 hQ172
        subst l172 y172 z172
        obtain ⟨rfl, Nq172, e172⟩ := hQ172
        have N172 := Fr.app N171 Nq172
        refine Wq.steps st172 ?_
        show Wq _ _ _ _ _ (T172.setTop (mkF m 227 #[.val (.int xlaw_1), .val (.int xlaw_2), .val (.int xlaw_3), .val (.long ylaw_4), .second, .val (.long ylaw_5), .second, .val (.int xlaw_6), .val (.int ms12_0), .val (.int ms26_0), .val (.int ms40_0), .val (.ref o34), .val (.int (0 : Int32)), .val (.int (0 : Int32)), .val (.int (0 : Int32)), .val (.int xlaw_1), .val (.long ylaw_5), .second, .val (.int (1 : Int32)), .val (.int (1 : Int32))] [(.int ((((xlaw_1.toInt64).toInt32).toInt64).toInt32))]))
        refine Ow.iload X172 hx (pc' := 229) (hb hby at_227) rfl ?_
        refine Ow.icmpNo X172 hx (pc' := 232) (hb hby at_229) (teq (by first | (simp only [Int32.toInt32_toInt64]; done) | rfl : ((((xlaw_1.toInt64).toInt32).toInt64).toInt32) = xlaw_1)).2 ?_
        refine Ow.iconst X172 hx (pc' := 233) (hb hby at_232) (z := (1 : Int32)) rfl ?_
        refine Ow.goto X172 hx (pc' := 237) (hb hby at_233) (by decide) (by decide) ?_
        refine Ow.istore X172 hx (pc' := 239) (hb hby at_237) (l' := #[.val (.int xlaw_1), .val (.int xlaw_2), .val (.int xlaw_3), .val (.long ylaw_4), .second, .val (.long ylaw_5), .second, .val (.int xlaw_6), .val (.int ms12_0), .val (.int ms26_0), .val (.int ms40_0), .val (.ref o34), .val (.int (0 : Int32)), .val (.int (0 : Int32)), .val (.int (0 : Int32)), .val (.int xlaw_1), .val (.long ylaw_5), .second, .val (.int (1 : Int32)), .val (.int (1 : Int32))]) rfl ?_
        refine Ow.aload X172 hx (pc' := 241) (hb hby at_239) rfl rfl ?_
        refine Ow.iload X172 hx (pc' := 243) (hb hby at_241) rfl ?_
        obtain ⟨cq185, kq185, q185a, q185b, q185c⟩ := isOf hZ e172 A34_t171
        obtain ⟨_, _, ⟨T185, L185, k185, n185⟩, -, X185, ⟨Lc185, hQ185, l185, y185, z185⟩, st185⟩ := X172.virtualBack hx (y := mt9) (z := mt9) hown (mvT hZ (kw60 hw)) (mvT hZ (kw61 hw)) (notFace_of_selects (args := #[]) (mvT hZ (kw63 hw))) (mvT hZ (kw63 hw)) (mvT hZ (kw62 hw)) (by decide) (backOf (W := 0) (rm_un10l l Z a0 hw [] o34 b2_c35 b4_c35 b6_c35 b8_c35 b10_c35 b12_c35 (1 : Int32) (1 : Int32) (5 : Int32) ((((xlaw_1.toInt64).toInt32).toInt64).toInt32) (List.replicate 63 (.int (0 : Int32))) ylaw_5 (List.replicate 63 (.long (0 : Int64))) (0 : Int32) (0 : Int32) (0 : Int32) (List.replicate 252 (.int (0 : Int32))) ylaw_4 (((xlaw_1.toInt64).toInt32).toInt64) (0 : Int64) (0 : Int64) (List.replicate 252 (.long (0 : Int64))) T171.heap n0 Z171 A34_t171 P171_1 P171_2 P171_3 P171_4 P171_5 P171_6 P171_7 P171_8 P171_9 P171_11f g_o34 P171_10 g_b2_c35 (Ne.symm ne_o34_b2_c35) P143_14_t171 g_b6_c35 (Ne.symm ne_o34_b6_c35) P170_10_t171 g_b10_c35 (Ne.symm ne_o34_b10_c35) P170_11_t171 g_b12_c35 (Ne.symm ne_o34_b12_c35) ne_b2_c35_b6_c35 ne_b2_c35_b10_c35 ne_b2_c35_b12_c35 ne_b6_c35_b10_c35 ne_b6_c35_b12_c35 ne_b10_c35_b12_c35) hZ (kw64 hw) (kw2 hw) (by decide) (by decide)) q185a q185c (g := (mkF m 243 #[.val (.int xlaw_1), .val (.int xlaw_2), .val (.int xlaw_3), .val (.long ylaw_4), .second, .val (.long ylaw_5), .second, .val (.int xlaw_6), .val (.int ms12_0), .val (.int ms26_0), .val (.int ms40_0), .val (.ref o34), .val (.int (0 : Int32)), .val (.int (0 : Int32)), .val (.int (0 : Int32)), .val (.int xlaw_1), .val (.long ylaw_5), .second, .val (.int (1 : Int32)), .val (.int (1 : Int32))] [(.int (0 : Int32)), (.ref o34)])) rfl (by rw [hml]; rfl) (Steps.refl _) (argsL := [(.int (0 : Int32))]) (rest := []) (lenOf pd7 rfl) rfl (by show 2 * 0 + _ ≤ _; exact Nat.le_of_eq rfl) (hb hby at_243) (fun _ _ => ⟨rfl, e172, (by decide : 7 + 0 ≤ _), (by decide : 778 + 0 ≤ _)⟩)
        dsimp only [Pt.U, Pt.locs, Pt.cells, Pt.slots] at X185 l185 y185 z185 st185 hQ185
        subst l185 y185 z185
        obtain ⟨rfl, Nq185, Kq185, P185_0, P185_1, P185_2, P185_3, P185_4, P185_5, P185_6, P185_7, P185_8, P185_9, P185_10, P185_11⟩ := hQ185
        have N185 := Fr.app N172 Nq185
        have K185 : Keep h0 T185.heap [] := K171.trans Kq185 (allS (P := fun x => x ∈ [] ∨ h0.size ≤ x) (Or.inr sz_o34) (allS (P := fun x => x ∈ [] ∨ h0.size ≤ x) (Or.inr sz_b6_c35) all0))
        have Z185 : n0 ≤ T185.heap.size := Nat.le_trans Z171 Kq185.1
        have A34_t185 := A34_t171.keep Kq185
        have P143_13_t185 := P143_13_t171.keep Kq185 (ninS (Ne.symm ne_o34_b8_c35) (ninS (Ne.symm ne_b6_c35_b8_c35) nin0))
        have P170_10_t185 := P170_10_t171.keep Kq185 (ninS (Ne.symm ne_o34_b10_c35) (ninS (Ne.symm ne_b6_c35_b10_c35) nin0))
        have P170_11_t185 := P170_11_t171.keep Kq185 (ninS (Ne.symm ne_o34_b12_c35) (ninS (Ne.symm ne_b6_c35_b12_c35) nin0))
        have P170_13_t185 := P170_13_t171.keep Kq185 (ninS (Ne.symm ne_o34_b4_c35) (ninS ne_b4_c35_b6_c35 nin0))
        have P171_10_t185 := P171_10.keep Kq185 (ninS (Ne.symm ne_o34_b2_c35) (ninS ne_b2_c35_b6_c35 nin0))
        have e185 : T185.heap = T185.heap := rfl
        have P185_11f : Fld Z T185.heap o34 "com/example/tauten/tauten/Trail" "epoch" "I" (.int (6 : Int32)) := P185_11
        refine Wq.steps st185 ?_
        show Wq _ _ _ _ _ (T185.setTop (mkF m 246 #[.val (.int xlaw_1), .val (.int xlaw_2), .val (.int xlaw_3), .val (.long ylaw_4), .second, .val (.long ylaw_5), .second, .val (.int xlaw_6), .val (.int ms12_0), .val (.int ms26_0), .val (.int ms40_0), .val (.ref o34), .val (.int (0 : Int32)), .val (.int (0 : Int32)), .val (.int (0 : Int32)), .val (.int xlaw_1), .val (.long ylaw_5), .second, .val (.int (1 : Int32)), .val (.int (1 : Int32))] []))
        refine Ow.iload X185 hx (pc' := 248) (hb hby at_246) rfl ?_
        refine Ow.ifNo X185 hx (pc' := 251) (hb hby at_248) ((if0 _ _).trans (feq (by decide : ¬ ((1 : Int32) = (0 : Int32)))).1) ?_
        refine Ow.aload X185 hx (pc' := 253) (hb hby at_251) rfl rfl ?_
        refine Ow.iload X185 hx (pc' := 255) (hb hby at_253) rfl ?_
        obtain ⟨cq186, kq186, q186a, q186b, q186c⟩ := isOf hZ e185 A34_t185
        obtain ⟨_, _, ⟨T186, L186, k186, n186⟩, -, X186, ⟨Lc186, hQ186, l186, y186, z186⟩, st186⟩ := X185.virtualBack hx (y := mt5) (z := mt5) hown (mvT hZ (kw65 hw)) (mvT hZ (kw66 hw)) (notFace_of_selects (args := #[]) (mvT hZ (kw68 hw))) (mvT hZ (kw68 hw)) (mvT hZ (kw67 hw)) (by decide) (backOf (W := 0) (rm_gt l Z a0 hw [] o34 b2_c35 ((((xlaw_1.toInt64).toInt32).toInt64).toInt32) (List.replicate 63 (.int (0 : Int32))) T185.heap n0 Z185 P185_1 P171_10_t185) hZ (kw69 hw) (kw2 hw) (by decide) (by decide)) q186a q186c (g := (mkF m 255 #[.val (.int xlaw_1), .val (.int xlaw_2), .val (.int xlaw_3), .val (.long ylaw_4), .second, .val (.long ylaw_5), .second, .val (.int xlaw_6), .val (.int ms12_0), .val (.int ms26_0), .val (.int ms40_0), .val (.ref o34), .val (.int (0 : Int32)), .val (.int (0 : Int32)), .val (.int (0 : Int32)), .val (.int xlaw_1), .val (.long ylaw_5), .second, .val (.int (1 : Int32)), .val (.int (1 : Int32))] [(.int (0 : Int32)), (.ref o34)])) rfl (by rw [hml]; rfl) (Steps.refl _) (argsL := [(.int (0 : Int32))]) (rest := []) (lenOf pd2 rfl) rfl (by show 2 * 0 + _ ≤ _; exact Nat.le_of_eq rfl) (hb hby at_255) (fun _ _ => ⟨rfl, e185, (by decide : 7 + 0 ≤ _), (by decide : 778 + 0 ≤ _)⟩)
        dsimp only [Pt.U, Pt.locs, Pt.cells, Pt.slots] at X186 l186 y186 z186 st186 hQ186
        subst l186 y186 z186
        obtain ⟨rfl, Nq186, e186⟩ := hQ186
        have N186 := Fr.app N185 Nq186
        refine Wq.steps st186 ?_
        show Wq _ _ _ _ _ (T186.setTop (mkF m 258 #[.val (.int xlaw_1), .val (.int xlaw_2), .val (.int xlaw_3), .val (.long ylaw_4), .second, .val (.long ylaw_5), .second, .val (.int xlaw_6), .val (.int ms12_0), .val (.int ms26_0), .val (.int ms40_0), .val (.ref o34), .val (.int (0 : Int32)), .val (.int (0 : Int32)), .val (.int (0 : Int32)), .val (.int xlaw_1), .val (.long ylaw_5), .second, .val (.int (1 : Int32)), .val (.int (1 : Int32))] [(.int ((((xlaw_1.toInt64).toInt32).toInt64).toInt32))]))
        refine Ow.iloadN X186 hx (pc' := 259) (hb hby at_258) rfl ?_
        refine Ow.icmpNo X186 hx (pc' := 262) (hb hby at_259) (teq (by first | (simp only [Int32.toInt32_toInt64]; done) | rfl : ((((xlaw_1.toInt64).toInt32).toInt64).toInt32) = xlaw_1)).2 ?_
        refine Ow.aload X186 hx (pc' := 264) (hb hby at_262) rfl rfl ?_
        refine Ow.iload X186 hx (pc' := 266) (hb hby at_264) rfl ?_
        obtain ⟨cq187, kq187, q187a, q187b, q187c⟩ := isOf hZ e186 A34_t185
        obtain ⟨_, _, ⟨T187, L187, k187, n187⟩, -, X187, ⟨Lc187, hQ187, l187, y187, z187⟩, st187⟩ := X186.virtualBack hx (y := mt6) (z := mt6) hown (mvT hZ (kw70 hw)) (mvT hZ (kw71 hw)) (notFace_of_selects (args := #[]) (mvT hZ (kw73 hw))) (mvT hZ (kw73 hw)) (mvT hZ (kw72 hw)) (by decide) (backOf (W := 0) (rm_gl l Z a0 hw [] o34 b6_c35 ylaw_4 (List.replicate 63 (.long (0 : Int64))) T185.heap n0 Z185 P185_3 P185_10) hZ (kw74 hw) (kw2 hw) (by decide) (by decide)) q187a q187c (g := (mkF m 266 #[.val (.int xlaw_1), .val (.int xlaw_2), .val (.int xlaw_3), .val (.long ylaw_4), .second, .val (.long ylaw_5), .second, .val (.int xlaw_6), .val (.int ms12_0), .val (.int ms26_0), .val (.int ms40_0), .val (.ref o34), .val (.int (0 : Int32)), .val (.int (0 : Int32)), .val (.int (0 : Int32)), .val (.int xlaw_1), .val (.long ylaw_5), .second, .val (.int (1 : Int32)), .val (.int (1 : Int32))] [(.int (0 : Int32)), (.ref o34)])) rfl (by rw [hml]; rfl) (Steps.refl _) (argsL := [(.int (0 : Int32))]) (rest := []) (lenOf pd8 rfl) rfl (by show 2 * 0 + _ ≤ _; exact Nat.le_of_eq rfl) (hb hby at_266) (fun _ _ => ⟨rfl, e186, (by decide : 7 + 0 ≤ _), (by decide : 778 + 0 ≤ _)⟩)
        dsimp only [Pt.U, Pt.locs, Pt.cells, Pt.slots] at X187 l187 y187 z187 st187 hQ187
        subst l187 y187 z187
        obtain ⟨rfl, Nq187, e187⟩ := hQ187
        have N187 := Fr.app N186 Nq187
        refine Wq.steps st187 ?_
        show Wq _ _ _ _ _ (T187.setTop (mkF m 269 #[.val (.int xlaw_1), .val (.int xlaw_2), .val (.int xlaw_3), .val (.long ylaw_4), .second, .val (.long ylaw_5), .second, .val (.int xlaw_6), .val (.int ms12_0), .val (.int ms26_0), .val (.int ms40_0), .val (.ref o34), .val (.int (0 : Int32)), .val (.int (0 : Int32)), .val (.int (0 : Int32)), .val (.int xlaw_1), .val (.long ylaw_5), .second, .val (.int (1 : Int32)), .val (.int (1 : Int32))] [(.long ylaw_4)]))
        refine Ow.lloadN X187 hx (pc' := 270) (hb hby at_269) rfl ?_
        refine Ow.lcmp X187 hx (pc' := 271) (hb hby at_270)  ?_
        refine Ow.ifNo X187 hx (pc' := 274) (hb hby at_271) ((if0 _ _).trans (teq ((lw_eq _ _).mpr (rfl : ylaw_4 = ylaw_4))).2) ?_
        refine Ow.iconst X187 hx (pc' := 275) (hb hby at_274) (z := (1 : Int32)) rfl ?_
        refine Ow.goto X187 hx (pc' := 279) (hb hby at_275) (by decide) (by decide) ?_
        refine Ow.istore X187 hx (pc' := 281) (hb hby at_279) (l' := #[.val (.int xlaw_1), .val (.int xlaw_2), .val (.int xlaw_3), .val (.long ylaw_4), .second, .val (.long ylaw_5), .second, .val (.int xlaw_6), .val (.int ms12_0), .val (.int ms26_0), .val (.int ms40_0), .val (.ref o34), .val (.int (0 : Int32)), .val (.int (0 : Int32)), .val (.int (0 : Int32)), .val (.int xlaw_1), .val (.long ylaw_5), .second, .val (.int (1 : Int32)), .val (.int (1 : Int32))]) rfl ?_
        refine Ow.iload X187 hx (pc' := 283) (hb hby at_281) rfl ?_
        exact Wq.ret X187 (BodyLoose.notSynchronized Bd) (rv := some (.int (1 : Int32))) (fun h => by rw [Bd.returns] at h; cases h) (fun _ hr => retN X187 hx (t := .boolean) Bd.returns (by simp) (hb hby at_283) hr) (by decide) (by decide) ⟨rfl, N187⟩
      · skip
        refine Ow.ifNo X154 hx (pc' := 146) (hb hby at_143) ((if0 _ _).trans (feq hc143).1) ?_
        refine Ow.aload X154 hx (pc' := 148) (hb hby at_146) rfl rfl ?_
        refine Ow.iload X154 hx (pc' := 150) (hb hby at_148) rfl ?_
        refine Ow.lload X154 hx (pc' := 152) (hb hby at_150) rfl ?_
        refine Ow.ldc2Long X154 hx hZ (pc' := 155) hown (kw75 hw) (hb hby at_152) ?_
        refine Ow.lxor X154 hx (pc' := 156) (hb hby at_155) (z := (ylaw_5 ^^^ (-1 : Int64))) rfl ?_
        obtain ⟨cq207, kq207, q207a, q207b, q207c⟩ := isOf hZ e154 A34_t154
        obtain ⟨_, _, ⟨T207, L207, k207, n207⟩, -, X207, ⟨Lc207, hQ207, l207, y207, z207⟩, st207⟩ := X154.virtualBack hx (y := mt10) (z := mt10) hown (mvT hZ (kw55 hw)) (mvT hZ (kw56 hw)) (notFace_of_selects (args := #[]) (mvT hZ (kw58 hw))) (mvT hZ (kw58 hw)) (mvT hZ (kw57 hw)) (by decide) (backOf (W := 0) (rm_sl2 l Z a0 hw [] o34 (ylaw_5 ^^^ (-1 : Int64)) b2_c35 b4_c35 b6_c35 b8_c35 b10_c35 b12_c35 (1 : Int32) (1 : Int32) (3 : Int32) ylaw_5 (List.replicate 63 (.long (0 : Int64))) (2 : Int32) (List.replicate 63 (.int (0 : Int32))) (-1 : Int32) (0 : Int32) (0 : Int32) (0 : Int32) (List.replicate 252 (.int (0 : Int32))) ylaw_4 (xlaw_1.toInt64) (0 : Int64) (0 : Int64) (List.replicate 252 (.long (0 : Int64))) T154.heap n0 Z154 (by decide) A34_t154 P154_1 P154_2 P154_3 P154_4 P154_5 P154_6 P154_7 P154_8 P154_12 P154_9 g_o34 P143_14_t154 g_b6_c35 (Ne.symm ne_o34_b6_c35) P143_13_t154 g_b8_c35 (Ne.symm ne_o34_b8_c35) P154_10 g_b10_c35 (Ne.symm ne_o34_b10_c35) P154_11 g_b12_c35 (Ne.symm ne_o34_b12_c35) ne_b6_c35_b8_c35 ne_b6_c35_b10_c35 ne_b6_c35_b12_c35 ne_b8_c35_b10_c35 ne_b8_c35_b12_c35 ne_b10_c35_b12_c35 (by decide)) hZ (kw59 hw) (kw2 hw) (by decide) (by decide)) q207a q207c (g := (mkF m 156 #[.val (.int xlaw_1), .val (.int xlaw_2), .val (.int xlaw_3), .val (.long ylaw_4), .second, .val (.long ylaw_5), .second, .val (.int xlaw_6), .val (.int ms12_0), .val (.int ms26_0), .val (.int ms40_0), .val (.ref o34), .val (.int (0 : Int32)), .val (.int (0 : Int32)), .val (.int (0 : Int32)), .val (.int xlaw_1), .val (.long ylaw_5), .second, .val (.int (1 : Int32)), .unset] [(.long (ylaw_5 ^^^ (-1 : Int64))), (.int (0 : Int32)), (.ref o34)])) rfl (by rw [hml]; rfl) (Steps.refl _) (argsL := [(.int (0 : Int32)), (.long (ylaw_5 ^^^ (-1 : Int64)))]) (rest := []) (lenOf pd5 rfl) rfl (by show 2 * 0 + _ ≤ _; exact Nat.le_of_eq rfl) (hb hby at_156) (fun _ _ => ⟨rfl, e154, (by decide : 7 + 0 ≤ _), (by decide : 778 + 0 ≤ _)⟩)
        dsimp only [Pt.U, Pt.locs, Pt.cells, Pt.slots] at X207 l207 y207 z207 st207 hQ207
        subst l207 y207 z207
        obtain ⟨rfl, Nq207, Kq207, P207_0, P207_1, P207_2, P207_3, P207_4, P207_5, P207_6, P207_7, P207_8, P207_9, P207_10, P207_11, P207_12, P207_13, P207_14⟩ := hQ207
        have N207 := Fr.app N154 Nq207
        have K207 : Keep h0 T207.heap [] := K154.trans Kq207 (allS (P := fun x => x ∈ [] ∨ h0.size ≤ x) (Or.inr sz_o34) (allS (P := fun x => x ∈ [] ∨ h0.size ≤ x) (Or.inr sz_b12_c35) (allS (P := fun x => x ∈ [] ∨ h0.size ≤ x) (Or.inr sz_b10_c35) (allS (P := fun x => x ∈ [] ∨ h0.size ≤ x) (Or.inr sz_b8_c35) (allS (P := fun x => x ∈ [] ∨ h0.size ≤ x) (Or.inr sz_b6_c35) all0)))))
        have Z207 : n0 ≤ T207.heap.size := Nat.le_trans Z154 Kq207.1
        have A34_t207 := A34_t154.keep Kq207
        have P154_13_t207 := P154_13.keep Kq207 (ninS (Ne.symm ne_o34_b4_c35) (ninS ne_b4_c35_b12_c35 (ninS ne_b4_c35_b10_c35 (ninS ne_b4_c35_b8_c35 (ninS ne_b4_c35_b6_c35 nin0)))))
        have P154_14_t207 := P154_14.keep Kq207 (ninS (Ne.symm ne_o34_b2_c35) (ninS ne_b2_c35_b12_c35 (ninS ne_b2_c35_b10_c35 (ninS ne_b2_c35_b8_c35 (ninS ne_b2_c35_b6_c35 nin0)))))
        have e207 : T207.heap = T207.heap := rfl
        refine Wq.steps st207 ?_
        show Wq _ _ _ _ _ (T207.setTop (mkF m 159 #[.val (.int xlaw_1), .val (.int xlaw_2), .val (.int xlaw_3), .val (.long ylaw_4), .second, .val (.long ylaw_5), .second, .val (.int xlaw_6), .val (.int ms12_0), .val (.int ms26_0), .val (.int ms40_0), .val (.ref o34), .val (.int (0 : Int32)), .val (.int (0 : Int32)), .val (.int (0 : Int32)), .val (.int xlaw_1), .val (.long ylaw_5), .second, .val (.int (1 : Int32)), .unset] []))
        refine Ow.aload X207 hx (pc' := 161) (hb hby at_159) rfl rfl ?_
        refine Ow.iload X207 hx (pc' := 163) (hb hby at_161) rfl ?_
        obtain ⟨cq229, kq229, q229a, q229b, q229c⟩ := isOf hZ e207 A34_t207
        obtain ⟨_, _, ⟨T229, L229, k229, n229⟩, -, X229, ⟨Lc229, hQ229, l229, y229, z229⟩, st229⟩ := X207.virtualBack hx (y := mt9) (z := mt9) hown (mvT hZ (kw60 hw)) (mvT hZ (kw61 hw)) (notFace_of_selects (args := #[]) (mvT hZ (kw63 hw))) (mvT hZ (kw63 hw)) (mvT hZ (kw62 hw)) (by decide) (backOf (W := 0) (rm_un31il l Z a0 hw [] o34 b2_c35 b4_c35 b6_c35 b8_c35 b10_c35 b12_c35 (1 : Int32) (1 : Int32) (3 : Int32) xlaw_3 (List.replicate 63 (.int (0 : Int32))) (ylaw_5 ^^^ (-1 : Int64)) (List.replicate 63 (.long (0 : Int64))) (-1 : Int32) (0 : Int32) (List.replicate 252 (.int (0 : Int32))) ylaw_4 (xlaw_1.toInt64) ylaw_5 (0 : Int64) (List.replicate 252 (.long (0 : Int64))) T207.heap n0 Z207 A34_t207 P207_1 P207_2 P207_3 P207_4 P207_5 P207_6 P207_7 P207_8 P207_12 P207_9 g_o34 P154_14_t207 g_b2_c35 (Ne.symm ne_o34_b2_c35) P207_14 g_b6_c35 (Ne.symm ne_o34_b6_c35) P207_10 g_b10_c35 (Ne.symm ne_o34_b10_c35) P207_11 g_b12_c35 (Ne.symm ne_o34_b12_c35) ne_b2_c35_b6_c35 ne_b2_c35_b10_c35 ne_b2_c35_b12_c35 ne_b6_c35_b10_c35 ne_b6_c35_b12_c35 ne_b10_c35_b12_c35) hZ (kw64 hw) (kw2 hw) (by decide) (by decide)) q229a q229c (g := (mkF m 163 #[.val (.int xlaw_1), .val (.int xlaw_2), .val (.int xlaw_3), .val (.long ylaw_4), .second, .val (.long ylaw_5), .second, .val (.int xlaw_6), .val (.int ms12_0), .val (.int ms26_0), .val (.int ms40_0), .val (.ref o34), .val (.int (0 : Int32)), .val (.int (0 : Int32)), .val (.int (0 : Int32)), .val (.int xlaw_1), .val (.long ylaw_5), .second, .val (.int (1 : Int32)), .unset] [(.int (1 : Int32)), (.ref o34)])) rfl (by rw [hml]; rfl) (Steps.refl _) (argsL := [(.int (1 : Int32))]) (rest := []) (lenOf pd7 rfl) rfl (by show 2 * 0 + _ ≤ _; exact Nat.le_of_eq rfl) (hb hby at_163) (fun _ _ => ⟨rfl, e207, (by decide : 7 + 0 ≤ _), (by decide : 778 + 0 ≤ _)⟩)
        dsimp only [Pt.U, Pt.locs, Pt.cells, Pt.slots] at X229 l229 y229 z229 st229 hQ229
        subst l229 y229 z229
        obtain ⟨rfl, Nq229, Kq229, P229_0, P229_1, P229_2, P229_3, P229_4, P229_5, P229_6, P229_7, P229_8, P229_9, P229_10, P229_11, P229_12⟩ := hQ229
        have N229 := Fr.app N207 Nq229
        have K229 : Keep h0 T229.heap [] := K207.trans Kq229 (allS (P := fun x => x ∈ [] ∨ h0.size ≤ x) (Or.inr sz_o34) (allS (P := fun x => x ∈ [] ∨ h0.size ≤ x) (Or.inr sz_b6_c35) (allS (P := fun x => x ∈ [] ∨ h0.size ≤ x) (Or.inr sz_b2_c35) all0)))
        have Z229 : n0 ≤ T229.heap.size := Nat.le_trans Z207 Kq229.1
        have A34_t229 := A34_t207.keep Kq229
        have P154_13_t229 := P154_13_t207.keep Kq229 (ninS (Ne.symm ne_o34_b4_c35) (ninS ne_b4_c35_b6_c35 (ninS (Ne.symm ne_b2_c35_b4_c35) nin0)))
        have P207_10_t229 := P207_10.keep Kq229 (ninS (Ne.symm ne_o34_b10_c35) (ninS (Ne.symm ne_b6_c35_b10_c35) (ninS (Ne.symm ne_b2_c35_b10_c35) nin0)))
        have P207_11_t229 := P207_11.keep Kq229 (ninS (Ne.symm ne_o34_b12_c35) (ninS (Ne.symm ne_b6_c35_b12_c35) (ninS (Ne.symm ne_b2_c35_b12_c35) nin0)))
        have P207_13_t229 := P207_13.keep Kq229 (ninS (Ne.symm ne_o34_b8_c35) (ninS (Ne.symm ne_b6_c35_b8_c35) (ninS (Ne.symm ne_b2_c35_b8_c35) nin0)))
        have e229 : T229.heap = T229.heap := rfl
        have P229_12f : Fld Z T229.heap o34 "com/example/tauten/tauten/Trail" "epoch" "I" (.int (4 : Int32)) := P229_12
        refine Wq.steps st229 ?_
        show Wq _ _ _ _ _ (T229.setTop (mkF m 166 #[.val (.int xlaw_1), .val (.int xlaw_2), .val (.int xlaw_3), .val (.long ylaw_4), .second, .val (.long ylaw_5), .second, .val (.int xlaw_6), .val (.int ms12_0), .val (.int ms26_0), .val (.int ms40_0), .val (.ref o34), .val (.int (0 : Int32)), .val (.int (0 : Int32)), .val (.int (0 : Int32)), .val (.int xlaw_1), .val (.long ylaw_5), .second, .val (.int (1 : Int32)), .unset] []))
        refine Ow.aload X229 hx (pc' := 168) (hb hby at_166) rfl rfl ?_
        refine Ow.iload X229 hx (pc' := 170) (hb hby at_168) rfl ?_
        obtain ⟨cq230, kq230, q230a, q230b, q230c⟩ := isOf hZ e229 A34_t229
        obtain ⟨_, _, ⟨T230, L230, k230, n230⟩, -, X230, ⟨Lc230, hQ230, l230, y230, z230⟩, st230⟩ := X229.virtualBack hx (y := mt5) (z := mt5) hown (mvT hZ (kw65 hw)) (mvT hZ (kw66 hw)) (notFace_of_selects (args := #[]) (mvT hZ (kw68 hw))) (mvT hZ (kw68 hw)) (mvT hZ (kw67 hw)) (by decide) (backOf (W := 0) (rm_gt l Z a0 hw [] o34 b2_c35 ((xlaw_1.toInt64).toInt32) (List.replicate 63 (.int (0 : Int32))) T229.heap n0 Z229 P229_1 P229_11) hZ (kw69 hw) (kw2 hw) (by decide) (by decide)) q230a q230c (g := (mkF m 170 #[.val (.int xlaw_1), .val (.int xlaw_2), .val (.int xlaw_3), .val (.long ylaw_4), .second, .val (.long ylaw_5), .second, .val (.int xlaw_6), .val (.int ms12_0), .val (.int ms26_0), .val (.int ms40_0), .val (.ref o34), .val (.int (0 : Int32)), .val (.int (0 : Int32)), .val (.int (0 : Int32)), .val (.int xlaw_1), .val (.long ylaw_5), .second, .val (.int (1 : Int32)), .unset] [(.int (0 : Int32)), (.ref o34)])) rfl (by rw [hml]; rfl) (Steps.refl _) (argsL := [(.int (0 : Int32))]) (rest := []) (lenOf pd2 rfl) rfl (by show 2 * 0 + _ ≤ _; exact Nat.le_of_eq rfl) (hb hby at_170) (fun _ _ => ⟨rfl, e229, (by decide : 7 + 0 ≤ _), (by decide : 778 + 0 ≤ _)⟩)
        dsimp only [Pt.U, Pt.locs, Pt.cells, Pt.slots] at X230 l230 y230 z230 st230 hQ230
        subst l230 y230 z230
        obtain ⟨rfl, Nq230, e230⟩ := hQ230
        have N230 := Fr.app N229 Nq230
        refine Wq.steps st230 ?_
        show Wq _ _ _ _ _ (T230.setTop (mkF m 173 #[.val (.int xlaw_1), .val (.int xlaw_2), .val (.int xlaw_3), .val (.long ylaw_4), .second, .val (.long ylaw_5), .second, .val (.int xlaw_6), .val (.int ms12_0), .val (.int ms26_0), .val (.int ms40_0), .val (.ref o34), .val (.int (0 : Int32)), .val (.int (0 : Int32)), .val (.int (0 : Int32)), .val (.int xlaw_1), .val (.long ylaw_5), .second, .val (.int (1 : Int32)), .unset] [(.int ((xlaw_1.toInt64).toInt32))]))
        refine Ow.iload X230 hx (pc' := 175) (hb hby at_173) rfl ?_
        refine Ow.icmpNo X230 hx (pc' := 178) (hb hby at_175) (teq (by first | (simp only [Int32.toInt32_toInt64]; done) | rfl : ((xlaw_1.toInt64).toInt32) = xlaw_1)).2 ?_
        refine Ow.aload X230 hx (pc' := 180) (hb hby at_178) rfl rfl ?_
        refine Ow.iload X230 hx (pc' := 182) (hb hby at_180) rfl ?_
        obtain ⟨cq231, kq231, q231a, q231b, q231c⟩ := isOf hZ e230 A34_t229
        obtain ⟨_, _, ⟨T231, L231, k231, n231⟩, -, X231, ⟨Lc231, hQ231, l231, y231, z231⟩, st231⟩ := X230.virtualBack hx (y := mt6) (z := mt6) hown (mvT hZ (kw70 hw)) (mvT hZ (kw71 hw)) (notFace_of_selects (args := #[]) (mvT hZ (kw73 hw))) (mvT hZ (kw73 hw)) (mvT hZ (kw72 hw)) (by decide) (backOf (W := 0) (rm_gl l Z a0 hw [] o34 b6_c35 ylaw_5 (List.replicate 63 (.long (0 : Int64))) T229.heap n0 Z229 P229_3 P229_9) hZ (kw74 hw) (kw2 hw) (by decide) (by decide)) q231a q231c (g := (mkF m 182 #[.val (.int xlaw_1), .val (.int xlaw_2), .val (.int xlaw_3), .val (.long ylaw_4), .second, .val (.long ylaw_5), .second, .val (.int xlaw_6), .val (.int ms12_0), .val (.int ms26_0), .val (.int ms40_0), .val (.ref o34), .val (.int (0 : Int32)), .val (.int (0 : Int32)), .val (.int (0 : Int32)), .val (.int xlaw_1), .val (.long ylaw_5), .second, .val (.int (1 : Int32)), .unset] [(.int (0 : Int32)), (.ref o34)])) rfl (by rw [hml]; rfl) (Steps.refl _) (argsL := [(.int (0 : Int32))]) (rest := []) (lenOf pd8 rfl) rfl (by show 2 * 0 + _ ≤ _; exact Nat.le_of_eq rfl) (hb hby at_182) (fun _ _ => ⟨rfl, e230, (by decide : 7 + 0 ≤ _), (by decide : 778 + 0 ≤ _)⟩)
        dsimp only [Pt.U, Pt.locs, Pt.cells, Pt.slots] at X231 l231 y231 z231 st231 hQ231
        subst l231 y231 z231
        obtain ⟨rfl, Nq231, e231⟩ := hQ231
        have N231 := Fr.app N230 Nq231
        refine Wq.steps st231 ?_
        show Wq _ _ _ _ _ (T231.setTop (mkF m 185 #[.val (.int xlaw_1), .val (.int xlaw_2), .val (.int xlaw_3), .val (.long ylaw_4), .second, .val (.long ylaw_5), .second, .val (.int xlaw_6), .val (.int ms12_0), .val (.int ms26_0), .val (.int ms40_0), .val (.ref o34), .val (.int (0 : Int32)), .val (.int (0 : Int32)), .val (.int (0 : Int32)), .val (.int xlaw_1), .val (.long ylaw_5), .second, .val (.int (1 : Int32)), .unset] [(.long ylaw_5)]))
        refine Ow.lload X231 hx (pc' := 187) (hb hby at_185) rfl ?_
        refine Ow.lcmp X231 hx (pc' := 188) (hb hby at_187)  ?_
        refine Ow.ifNo X231 hx (pc' := 191) (hb hby at_188) ((if0 _ _).trans (teq ((lw_eq _ _).mpr (rfl : ylaw_5 = ylaw_5))).2) ?_
        refine Ow.iconst X231 hx (pc' := 192) (hb hby at_191) (z := (1 : Int32)) rfl ?_
        refine Ow.goto X231 hx (pc' := 196) (hb hby at_192) (by decide) (by decide) ?_
        refine Ow.istore X231 hx (pc' := 198) (hb hby at_196) (l' := #[.val (.int xlaw_1), .val (.int xlaw_2), .val (.int xlaw_3), .val (.long ylaw_4), .second, .val (.long ylaw_5), .second, .val (.int xlaw_6), .val (.int ms12_0), .val (.int ms26_0), .val (.int ms40_0), .val (.ref o34), .val (.int (0 : Int32)), .val (.int (0 : Int32)), .val (.int (0 : Int32)), .val (.int xlaw_1), .val (.long ylaw_5), .second, .val (.int (1 : Int32)), .val (.int (1 : Int32))]) rfl ?_
        refine Ow.aload X231 hx (pc' := 200) (hb hby at_198) rfl rfl ?_
        refine Ow.iload X231 hx (pc' := 202) (hb hby at_200) rfl ?_
        refine Ow.iloadN X231 hx (pc' := 203) (hb hby at_202) rfl ?_
        refine Ow.iloadN X231 hx (pc' := 204) (hb hby at_203) rfl ?_
        refine Ow.ixor X231 hx (pc' := 205) (hb hby at_204) (z := (xlaw_1 ^^^ xlaw_3)) rfl ?_
        obtain ⟨cq232, kq232, q232a, q232b, q232c⟩ := isOf hZ e231 A34_t229
        obtain ⟨_, _, ⟨T232, L232, k232, n232⟩, -, X232, ⟨Lc232, hQ232, l232, y232, z232⟩, st232⟩ := X231.virtualBack hx (y := mt8) (z := mt8) hown (mvT hZ (kw46 hw)) (mvT hZ (kw47 hw)) (notFace_of_selects (args := #[]) (mvT hZ (kw49 hw))) (mvT hZ (kw49 hw)) (mvT hZ (kw48 hw)) (by decide) (backOf (W := 0) (rm_st1 l Z a0 hw [] o34 (xlaw_1 ^^^ xlaw_3) b2_c35 b4_c35 b6_c35 b8_c35 b10_c35 b12_c35 (1 : Int32) (1 : Int32) (4 : Int32) ((xlaw_1.toInt64).toInt32) (List.replicate 63 (.int (0 : Int32))) (3 : Int32) (List.replicate 63 (.int (0 : Int32))) (-1 : Int32) (0 : Int32) (-1 : Int32) (0 : Int32) (List.replicate 252 (.int (0 : Int32))) ylaw_4 (xlaw_1.toInt64) ylaw_5 (0 : Int64) (List.replicate 252 (.long (0 : Int64))) T229.heap n0 Z229 (by decide) A34_t229 P229_1 P229_2 P229_3 P229_4 P229_5 P229_6 P229_7 P229_8 P229_10 P229_12f g_o34 P229_11 g_b2_c35 (Ne.symm ne_o34_b2_c35) P154_13_t229 g_b4_c35 (Ne.symm ne_o34_b4_c35) P207_10_t229 g_b10_c35 (Ne.symm ne_o34_b10_c35) P207_11_t229 g_b12_c35 (Ne.symm ne_o34_b12_c35) ne_b2_c35_b4_c35 ne_b2_c35_b10_c35 ne_b2_c35_b12_c35 ne_b4_c35_b10_c35 ne_b4_c35_b12_c35 ne_b10_c35_b12_c35 (by decide)) hZ (kw50 hw) (kw2 hw) (by decide) (by decide)) q232a q232c (g := (mkF m 205 #[.val (.int xlaw_1), .val (.int xlaw_2), .val (.int xlaw_3), .val (.long ylaw_4), .second, .val (.long ylaw_5), .second, .val (.int xlaw_6), .val (.int ms12_0), .val (.int ms26_0), .val (.int ms40_0), .val (.ref o34), .val (.int (0 : Int32)), .val (.int (0 : Int32)), .val (.int (0 : Int32)), .val (.int xlaw_1), .val (.long ylaw_5), .second, .val (.int (1 : Int32)), .val (.int (1 : Int32))] [(.int (xlaw_1 ^^^ xlaw_3)), (.int (0 : Int32)), (.ref o34)])) rfl (by rw [hml]; rfl) (Steps.refl _) (argsL := [(.int (0 : Int32)), (.int (xlaw_1 ^^^ xlaw_3))]) (rest := []) (lenOf pd6 rfl) rfl (by show 2 * 0 + _ ≤ _; exact Nat.le_of_eq rfl) (hb hby at_205) (fun _ _ => ⟨rfl, e231, (by decide : 7 + 0 ≤ _), (by decide : 778 + 0 ≤ _)⟩)
        dsimp only [Pt.U, Pt.locs, Pt.cells, Pt.slots] at X232 l232 y232 z232 st232 hQ232
        subst l232 y232 z232
        obtain ⟨rfl, Nq232, Kq232, P232_0, P232_1, P232_2, P232_3, P232_4, P232_5, P232_6, P232_7, P232_8, P232_9, P232_10, P232_11, P232_12, P232_13, P232_14⟩ := hQ232
        have N232 := Fr.app N231 Nq232
        have K232 : Keep h0 T232.heap [] := K229.trans Kq232 (allS (P := fun x => x ∈ [] ∨ h0.size ≤ x) (Or.inr sz_o34) (allS (P := fun x => x ∈ [] ∨ h0.size ≤ x) (Or.inr sz_b12_c35) (allS (P := fun x => x ∈ [] ∨ h0.size ≤ x) (Or.inr sz_b10_c35) (allS (P := fun x => x ∈ [] ∨ h0.size ≤ x) (Or.inr sz_b4_c35) (allS (P := fun x => x ∈ [] ∨ h0.size ≤ x) (Or.inr sz_b2_c35) all0)))))
        have Z232 : n0 ≤ T232.heap.size := Nat.le_trans Z229 Kq232.1
        have A34_t232 := A34_t229.keep Kq232
        have P207_13_t232 := P207_13_t229.keep Kq232 (ninS (Ne.symm ne_o34_b8_c35) (ninS ne_b8_c35_b12_c35 (ninS ne_b8_c35_b10_c35 (ninS (Ne.symm ne_b4_c35_b8_c35) (ninS (Ne.symm ne_b2_c35_b8_c35) nin0)))))
        have P229_9_t232 := P229_9.keep Kq232 (ninS (Ne.symm ne_o34_b6_c35) (ninS ne_b6_c35_b12_c35 (ninS ne_b6_c35_b10_c35 (ninS (Ne.symm ne_b4_c35_b6_c35) (ninS (Ne.symm ne_b2_c35_b6_c35) nin0)))))
        have e232 : T232.heap = T232.heap := rfl
        refine Wq.steps st232 ?_
        show Wq _ _ _ _ _ (T232.setTop (mkF m 208 #[.val (.int xlaw_1), .val (.int xlaw_2), .val (.int xlaw_3), .val (.long ylaw_4), .second, .val (.long ylaw_5), .second, .val (.int xlaw_6), .val (.int ms12_0), .val (.int ms26_0), .val (.int ms40_0), .val (.ref o34), .val (.int (0 : Int32)), .val (.int (0 : Int32)), .val (.int (0 : Int32)), .val (.int xlaw_1), .val (.long ylaw_5), .second, .val (.int (1 : Int32)), .val (.int (1 : Int32))] []))
        refine Ow.aload X232 hx (pc' := 210) (hb hby at_208) rfl rfl ?_
        refine Ow.iload X232 hx (pc' := 212) (hb hby at_210) rfl ?_
        obtain ⟨cq233, kq233, q233a, q233b, q233c⟩ := isOf hZ e232 A34_t232
        obtain ⟨_, _, ⟨T233, L233, k233, n233⟩, -, X233, ⟨Lc233, hQ233, l233, y233, z233⟩, st233⟩ := X232.virtualBack hx (y := mt9) (z := mt9) hown (mvT hZ (kw60 hw)) (mvT hZ (kw61 hw)) (notFace_of_selects (args := #[]) (mvT hZ (kw63 hw))) (mvT hZ (kw63 hw)) (mvT hZ (kw62 hw)) (by decide) (backOf (W := 0) (rm_un21i l Z a0 hw [] o34 b2_c35 b4_c35 b6_c35 b8_c35 b10_c35 b12_c35 (1 : Int32) (1 : Int32) (4 : Int32) (xlaw_1 ^^^ xlaw_3) (List.replicate 63 (.int (0 : Int32))) ylaw_5 (List.replicate 63 (.long (0 : Int64))) (-1 : Int32) (-1 : Int32) (0 : Int32) (List.replicate 252 (.int (0 : Int32))) ylaw_4 (((xlaw_1.toInt64).toInt32).toInt64) ylaw_5 (0 : Int64) (List.replicate 252 (.long (0 : Int64))) T232.heap n0 Z232 A34_t232 P232_1 P232_2 P232_3 P232_4 P232_5 P232_6 P232_7 P232_8 P232_12 P232_9 g_o34 P232_14 g_b2_c35 (Ne.symm ne_o34_b2_c35) P229_9_t232 g_b6_c35 (Ne.symm ne_o34_b6_c35) P232_10 g_b10_c35 (Ne.symm ne_o34_b10_c35) P232_11 g_b12_c35 (Ne.symm ne_o34_b12_c35) ne_b2_c35_b6_c35 ne_b2_c35_b10_c35 ne_b2_c35_b12_c35 ne_b6_c35_b10_c35 ne_b6_c35_b12_c35 ne_b10_c35_b12_c35) hZ (kw64 hw) (kw2 hw) (by decide) (by decide)) q233a q233c (g := (mkF m 212 #[.val (.int xlaw_1), .val (.int xlaw_2), .val (.int xlaw_3), .val (.long ylaw_4), .second, .val (.long ylaw_5), .second, .val (.int xlaw_6), .val (.int ms12_0), .val (.int ms26_0), .val (.int ms40_0), .val (.ref o34), .val (.int (0 : Int32)), .val (.int (0 : Int32)), .val (.int (0 : Int32)), .val (.int xlaw_1), .val (.long ylaw_5), .second, .val (.int (1 : Int32)), .val (.int (1 : Int32))] [(.int (1 : Int32)), (.ref o34)])) rfl (by rw [hml]; rfl) (Steps.refl _) (argsL := [(.int (1 : Int32))]) (rest := []) (lenOf pd7 rfl) rfl (by show 2 * 0 + _ ≤ _; exact Nat.le_of_eq rfl) (hb hby at_212) (fun _ _ => ⟨rfl, e232, (by decide : 7 + 0 ≤ _), (by decide : 778 + 0 ≤ _)⟩)
        dsimp only [Pt.U, Pt.locs, Pt.cells, Pt.slots] at X233 l233 y233 z233 st233 hQ233
        subst l233 y233 z233
        obtain ⟨rfl, Nq233, Kq233, P233_0, P233_1, P233_2, P233_3, P233_4, P233_5, P233_6, P233_7, P233_8, P233_9, P233_10, P233_11⟩ := hQ233
        have N233 := Fr.app N232 Nq233
        have K233 : Keep h0 T233.heap [] := K232.trans Kq233 (allS (P := fun x => x ∈ [] ∨ h0.size ≤ x) (Or.inr sz_o34) (allS (P := fun x => x ∈ [] ∨ h0.size ≤ x) (Or.inr sz_b2_c35) all0))
        have Z233 : n0 ≤ T233.heap.size := Nat.le_trans Z232 Kq233.1
        have A34_t233 := A34_t232.keep Kq233
        have P207_13_t233 := P207_13_t232.keep Kq233 (ninS (Ne.symm ne_o34_b8_c35) (ninS (Ne.symm ne_b2_c35_b8_c35) nin0))
        have P229_9_t233 := P229_9_t232.keep Kq233 (ninS (Ne.symm ne_o34_b6_c35) (ninS (Ne.symm ne_b2_c35_b6_c35) nin0))
        have P232_10_t233 := P232_10.keep Kq233 (ninS (Ne.symm ne_o34_b10_c35) (ninS (Ne.symm ne_b2_c35_b10_c35) nin0))
        have P232_11_t233 := P232_11.keep Kq233 (ninS (Ne.symm ne_o34_b12_c35) (ninS (Ne.symm ne_b2_c35_b12_c35) nin0))
        have P232_13_t233 := P232_13.keep Kq233 (ninS (Ne.symm ne_o34_b4_c35) (ninS (Ne.symm ne_b2_c35_b4_c35) nin0))
        have e233 : T233.heap = T233.heap := rfl
        have P233_11f : Fld Z T233.heap o34 "com/example/tauten/tauten/Trail" "epoch" "I" (.int (5 : Int32)) := P233_11
        refine Wq.steps st233 ?_
        show Wq _ _ _ _ _ (T233.setTop (mkF m 215 #[.val (.int xlaw_1), .val (.int xlaw_2), .val (.int xlaw_3), .val (.long ylaw_4), .second, .val (.long ylaw_5), .second, .val (.int xlaw_6), .val (.int ms12_0), .val (.int ms26_0), .val (.int ms40_0), .val (.ref o34), .val (.int (0 : Int32)), .val (.int (0 : Int32)), .val (.int (0 : Int32)), .val (.int xlaw_1), .val (.long ylaw_5), .second, .val (.int (1 : Int32)), .val (.int (1 : Int32))] []))
        refine Ow.iload X233 hx (pc' := 217) (hb hby at_215) rfl ?_
        refine Ow.ifNo X233 hx (pc' := 220) (hb hby at_217) ((if0 _ _).trans (feq (by decide : ¬ ((1 : Int32) = (0 : Int32)))).1) ?_
        refine Ow.aload X233 hx (pc' := 222) (hb hby at_220) rfl rfl ?_
        refine Ow.iload X233 hx (pc' := 224) (hb hby at_222) rfl ?_
        obtain ⟨cq234, kq234, q234a, q234b, q234c⟩ := isOf hZ e233 A34_t233
        obtain ⟨_, _, ⟨T234, L234, k234, n234⟩, -, X234, ⟨Lc234, hQ234, l234, y234, z234⟩, st234⟩ := X233.virtualBack hx (y := mt5) (z := mt5) hown (mvT hZ (kw65 hw)) (mvT hZ (kw66 hw)) (notFace_of_selects (args := #[]) (mvT hZ (kw68 hw))) (mvT hZ (kw68 hw)) (mvT hZ (kw67 hw)) (by decide) (backOf (W := 0) (rm_gt l Z a0 hw [] o34 b2_c35 ((((xlaw_1.toInt64).toInt32).toInt64).toInt32) (List.replicate 63 (.int (0 : Int32))) T233.heap n0 Z233 P233_1 P233_10) hZ (kw69 hw) (kw2 hw) (by decide) (by decide)) q234a q234c (g := (mkF m 224 #[.val (.int xlaw_1), .val (.int xlaw_2), .val (.int xlaw_3), .val (.long ylaw_4), .second, .val (.long ylaw_5), .second, .val (.int xlaw_6), .val (.int ms12_0), .val (.int ms26_0), .val (.int ms40_0), .val (.ref o34), .val (.int (0 : Int32)), .val (.int (0 : Int32)), .val (.int (0 : Int32)), .val (.int xlaw_1), .val (.long ylaw_5), .second, .val (.int (1 : Int32)), .val (.int (1 : Int32))] [(.int (0 : Int32)), (.ref o34)])) rfl (by rw [hml]; rfl) (Steps.refl _) (argsL := [(.int (0 : Int32))]) (rest := []) (lenOf pd2 rfl) rfl (by show 2 * 0 + _ ≤ _; exact Nat.le_of_eq rfl) (hb hby at_224) (fun _ _ => ⟨rfl, e233, (by decide : 7 + 0 ≤ _), (by decide : 778 + 0 ≤ _)⟩)
        dsimp only [Pt.U, Pt.locs, Pt.cells, Pt.slots] at X234 l234 y234 z234 st234 hQ234
        subst l234 y234 z234
        obtain ⟨rfl, Nq234, e234⟩ := hQ234
        have N234 := Fr.app N233 Nq234
        refine Wq.steps st234 ?_
        show Wq _ _ _ _ _ (T234.setTop (mkF m 227 #[.val (.int xlaw_1), .val (.int xlaw_2), .val (.int xlaw_3), .val (.long ylaw_4), .second, .val (.long ylaw_5), .second, .val (.int xlaw_6), .val (.int ms12_0), .val (.int ms26_0), .val (.int ms40_0), .val (.ref o34), .val (.int (0 : Int32)), .val (.int (0 : Int32)), .val (.int (0 : Int32)), .val (.int xlaw_1), .val (.long ylaw_5), .second, .val (.int (1 : Int32)), .val (.int (1 : Int32))] [(.int ((((xlaw_1.toInt64).toInt32).toInt64).toInt32))]))
        refine Ow.iload X234 hx (pc' := 229) (hb hby at_227) rfl ?_
        refine Ow.icmpNo X234 hx (pc' := 232) (hb hby at_229) (teq (by first | (simp only [Int32.toInt32_toInt64]; done) | rfl : ((((xlaw_1.toInt64).toInt32).toInt64).toInt32) = xlaw_1)).2 ?_
        refine Ow.iconst X234 hx (pc' := 233) (hb hby at_232) (z := (1 : Int32)) rfl ?_
        refine Ow.goto X234 hx (pc' := 237) (hb hby at_233) (by decide) (by decide) ?_
        refine Ow.istore X234 hx (pc' := 239) (hb hby at_237) (l' := #[.val (.int xlaw_1), .val (.int xlaw_2), .val (.int xlaw_3), .val (.long ylaw_4), .second, .val (.long ylaw_5), .second, .val (.int xlaw_6), .val (.int ms12_0), .val (.int ms26_0), .val (.int ms40_0), .val (.ref o34), .val (.int (0 : Int32)), .val (.int (0 : Int32)), .val (.int (0 : Int32)), .val (.int xlaw_1), .val (.long ylaw_5), .second, .val (.int (1 : Int32)), .val (.int (1 : Int32))]) rfl ?_
        refine Ow.aload X234 hx (pc' := 241) (hb hby at_239) rfl rfl ?_
        refine Ow.iload X234 hx (pc' := 243) (hb hby at_241) rfl ?_
        obtain ⟨cq235, kq235, q235a, q235b, q235c⟩ := isOf hZ e234 A34_t233
        obtain ⟨_, _, ⟨T235, L235, k235, n235⟩, -, X235, ⟨Lc235, hQ235, l235, y235, z235⟩, st235⟩ := X234.virtualBack hx (y := mt9) (z := mt9) hown (mvT hZ (kw60 hw)) (mvT hZ (kw61 hw)) (notFace_of_selects (args := #[]) (mvT hZ (kw63 hw))) (mvT hZ (kw63 hw)) (mvT hZ (kw62 hw)) (by decide) (backOf (W := 0) (rm_un10l l Z a0 hw [] o34 b2_c35 b4_c35 b6_c35 b8_c35 b10_c35 b12_c35 (1 : Int32) (1 : Int32) (5 : Int32) ((((xlaw_1.toInt64).toInt32).toInt64).toInt32) (List.replicate 63 (.int (0 : Int32))) ylaw_5 (List.replicate 63 (.long (0 : Int64))) (0 : Int32) (-1 : Int32) (0 : Int32) (List.replicate 252 (.int (0 : Int32))) ylaw_4 (((xlaw_1.toInt64).toInt32).toInt64) ylaw_5 (0 : Int64) (List.replicate 252 (.long (0 : Int64))) T233.heap n0 Z233 A34_t233 P233_1 P233_2 P233_3 P233_4 P233_5 P233_6 P233_7 P233_8 P233_9 P233_11f g_o34 P233_10 g_b2_c35 (Ne.symm ne_o34_b2_c35) P229_9_t233 g_b6_c35 (Ne.symm ne_o34_b6_c35) P232_10_t233 g_b10_c35 (Ne.symm ne_o34_b10_c35) P232_11_t233 g_b12_c35 (Ne.symm ne_o34_b12_c35) ne_b2_c35_b6_c35 ne_b2_c35_b10_c35 ne_b2_c35_b12_c35 ne_b6_c35_b10_c35 ne_b6_c35_b12_c35 ne_b10_c35_b12_c35) hZ (kw64 hw) (kw2 hw) (by decide) (by decide)) q235a q235c (g := (mkF m 243 #[.val (.int xlaw_1), .val (.int xlaw_2), .val (.int xlaw_3), .val (.long ylaw_4), .second, .val (.long ylaw_5), .second, .val (.int xlaw_6), .val (.int ms12_0), .val (.int ms26_0), .val (.int ms40_0), .val (.ref o34), .val (.int (0 : Int32)), .val (.int (0 : Int32)), .val (.int (0 : Int32)), .val (.int xlaw_1), .val (.long ylaw_5), .second, .val (.int (1 : Int32)), .val (.int (1 : Int32))] [(.int (0 : Int32)), (.ref o34)])) rfl (by rw [hml]; rfl) (Steps.refl _) (argsL := [(.int (0 : Int32))]) (rest := []) (lenOf pd7 rfl) rfl (by show 2 * 0 + _ ≤ _; exact Nat.le_of_eq rfl) (hb hby at_243) (fun _ _ => ⟨rfl, e234, (by decide : 7 + 0 ≤ _), (by decide : 778 + 0 ≤ _)⟩)
        dsimp only [Pt.U, Pt.locs, Pt.cells, Pt.slots] at X235 l235 y235 z235 st235 hQ235
        subst l235 y235 z235
        obtain ⟨rfl, Nq235, Kq235, P235_0, P235_1, P235_2, P235_3, P235_4, P235_5, P235_6, P235_7, P235_8, P235_9, P235_10, P235_11⟩ := hQ235
        have N235 := Fr.app N234 Nq235
        have K235 : Keep h0 T235.heap [] := K233.trans Kq235 (allS (P := fun x => x ∈ [] ∨ h0.size ≤ x) (Or.inr sz_o34) (allS (P := fun x => x ∈ [] ∨ h0.size ≤ x) (Or.inr sz_b6_c35) all0))
        have Z235 : n0 ≤ T235.heap.size := Nat.le_trans Z233 Kq235.1
        have A34_t235 := A34_t233.keep Kq235
        have P207_13_t235 := P207_13_t233.keep Kq235 (ninS (Ne.symm ne_o34_b8_c35) (ninS (Ne.symm ne_b6_c35_b8_c35) nin0))
        have P232_10_t235 := P232_10_t233.keep Kq235 (ninS (Ne.symm ne_o34_b10_c35) (ninS (Ne.symm ne_b6_c35_b10_c35) nin0))
        have P232_11_t235 := P232_11_t233.keep Kq235 (ninS (Ne.symm ne_o34_b12_c35) (ninS (Ne.symm ne_b6_c35_b12_c35) nin0))
        have P232_13_t235 := P232_13_t233.keep Kq235 (ninS (Ne.symm ne_o34_b4_c35) (ninS ne_b4_c35_b6_c35 nin0))
        have P233_10_t235 := P233_10.keep Kq235 (ninS (Ne.symm ne_o34_b2_c35) (ninS ne_b2_c35_b6_c35 nin0))
        have e235 : T235.heap = T235.heap := rfl
        have P235_11f : Fld Z T235.heap o34 "com/example/tauten/tauten/Trail" "epoch" "I" (.int (6 : Int32)) := P235_11
        refine Wq.steps st235 ?_
        show Wq _ _ _ _ _ (T235.setTop (mkF m 246 #[.val (.int xlaw_1), .val (.int xlaw_2), .val (.int xlaw_3), .val (.long ylaw_4), .second, .val (.long ylaw_5), .second, .val (.int xlaw_6), .val (.int ms12_0), .val (.int ms26_0), .val (.int ms40_0), .val (.ref o34), .val (.int (0 : Int32)), .val (.int (0 : Int32)), .val (.int (0 : Int32)), .val (.int xlaw_1), .val (.long ylaw_5), .second, .val (.int (1 : Int32)), .val (.int (1 : Int32))] []))
        refine Ow.iload X235 hx (pc' := 248) (hb hby at_246) rfl ?_
        refine Ow.ifNo X235 hx (pc' := 251) (hb hby at_248) ((if0 _ _).trans (feq (by decide : ¬ ((1 : Int32) = (0 : Int32)))).1) ?_
        refine Ow.aload X235 hx (pc' := 253) (hb hby at_251) rfl rfl ?_
        refine Ow.iload X235 hx (pc' := 255) (hb hby at_253) rfl ?_
        obtain ⟨cq236, kq236, q236a, q236b, q236c⟩ := isOf hZ e235 A34_t235
        obtain ⟨_, _, ⟨T236, L236, k236, n236⟩, -, X236, ⟨Lc236, hQ236, l236, y236, z236⟩, st236⟩ := X235.virtualBack hx (y := mt5) (z := mt5) hown (mvT hZ (kw65 hw)) (mvT hZ (kw66 hw)) (notFace_of_selects (args := #[]) (mvT hZ (kw68 hw))) (mvT hZ (kw68 hw)) (mvT hZ (kw67 hw)) (by decide) (backOf (W := 0) (rm_gt l Z a0 hw [] o34 b2_c35 ((((xlaw_1.toInt64).toInt32).toInt64).toInt32) (List.replicate 63 (.int (0 : Int32))) T235.heap n0 Z235 P235_1 P233_10_t235) hZ (kw69 hw) (kw2 hw) (by decide) (by decide)) q236a q236c (g := (mkF m 255 #[.val (.int xlaw_1), .val (.int xlaw_2), .val (.int xlaw_3), .val (.long ylaw_4), .second, .val (.long ylaw_5), .second, .val (.int xlaw_6), .val (.int ms12_0), .val (.int ms26_0), .val (.int ms40_0), .val (.ref o34), .val (.int (0 : Int32)), .val (.int (0 : Int32)), .val (.int (0 : Int32)), .val (.int xlaw_1), .val (.long ylaw_5), .second, .val (.int (1 : Int32)), .val (.int (1 : Int32))] [(.int (0 : Int32)), (.ref o34)])) rfl (by rw [hml]; rfl) (Steps.refl _) (argsL := [(.int (0 : Int32))]) (rest := []) (lenOf pd2 rfl) rfl (by show 2 * 0 + _ ≤ _; exact Nat.le_of_eq rfl) (hb hby at_255) (fun _ _ => ⟨rfl, e235, (by decide : 7 + 0 ≤ _), (by decide : 778 + 0 ≤ _)⟩)
        dsimp only [Pt.U, Pt.locs, Pt.cells, Pt.slots] at X236 l236 y236 z236 st236 hQ236
        subst l236 y236 z236
        obtain ⟨rfl, Nq236, e236⟩ := hQ236
        have N236 := Fr.app N235 Nq236
        refine Wq.steps st236 ?_
        show Wq _ _ _ _ _ (T236.setTop (mkF m 258 #[.val (.int xlaw_1), .val (.int xlaw_2), .val (.int xlaw_3), .val (.long ylaw_4), .second, .val (.long ylaw_5), .second, .val (.int xlaw_6), .val (.int ms12_0), .val (.int ms26_0), .val (.int ms40_0), .val (.ref o34), .val (.int (0 : Int32)), .val (.int (0 : Int32)), .val (.int (0 : Int32)), .val (.int xlaw_1), .val (.long ylaw_5), .second, .val (.int (1 : Int32)), .val (.int (1 : Int32))] [(.int ((((xlaw_1.toInt64).toInt32).toInt64).toInt32))]))
        refine Ow.iloadN X236 hx (pc' := 259) (hb hby at_258) rfl ?_
        refine Ow.icmpNo X236 hx (pc' := 262) (hb hby at_259) (teq (by first | (simp only [Int32.toInt32_toInt64]; done) | rfl : ((((xlaw_1.toInt64).toInt32).toInt64).toInt32) = xlaw_1)).2 ?_
        refine Ow.aload X236 hx (pc' := 264) (hb hby at_262) rfl rfl ?_
        refine Ow.iload X236 hx (pc' := 266) (hb hby at_264) rfl ?_
        obtain ⟨cq237, kq237, q237a, q237b, q237c⟩ := isOf hZ e236 A34_t235
        obtain ⟨_, _, ⟨T237, L237, k237, n237⟩, -, X237, ⟨Lc237, hQ237, l237, y237, z237⟩, st237⟩ := X236.virtualBack hx (y := mt6) (z := mt6) hown (mvT hZ (kw70 hw)) (mvT hZ (kw71 hw)) (notFace_of_selects (args := #[]) (mvT hZ (kw73 hw))) (mvT hZ (kw73 hw)) (mvT hZ (kw72 hw)) (by decide) (backOf (W := 0) (rm_gl l Z a0 hw [] o34 b6_c35 ylaw_4 (List.replicate 63 (.long (0 : Int64))) T235.heap n0 Z235 P235_3 P235_10) hZ (kw74 hw) (kw2 hw) (by decide) (by decide)) q237a q237c (g := (mkF m 266 #[.val (.int xlaw_1), .val (.int xlaw_2), .val (.int xlaw_3), .val (.long ylaw_4), .second, .val (.long ylaw_5), .second, .val (.int xlaw_6), .val (.int ms12_0), .val (.int ms26_0), .val (.int ms40_0), .val (.ref o34), .val (.int (0 : Int32)), .val (.int (0 : Int32)), .val (.int (0 : Int32)), .val (.int xlaw_1), .val (.long ylaw_5), .second, .val (.int (1 : Int32)), .val (.int (1 : Int32))] [(.int (0 : Int32)), (.ref o34)])) rfl (by rw [hml]; rfl) (Steps.refl _) (argsL := [(.int (0 : Int32))]) (rest := []) (lenOf pd8 rfl) rfl (by show 2 * 0 + _ ≤ _; exact Nat.le_of_eq rfl) (hb hby at_266) (fun _ _ => ⟨rfl, e236, (by decide : 7 + 0 ≤ _), (by decide : 778 + 0 ≤ _)⟩)
        dsimp only [Pt.U, Pt.locs, Pt.cells, Pt.slots] at X237 l237 y237 z237 st237 hQ237
        subst l237 y237 z237
        obtain ⟨rfl, Nq237, e237⟩ := hQ237
        have N237 := Fr.app N236 Nq237
        refine Wq.steps st237 ?_
        show Wq _ _ _ _ _ (T237.setTop (mkF m 269 #[.val (.int xlaw_1), .val (.int xlaw_2), .val (.int xlaw_3), .val (.long ylaw_4), .second, .val (.long ylaw_5), .second, .val (.int xlaw_6), .val (.int ms12_0), .val (.int ms26_0), .val (.int ms40_0), .val (.ref o34), .val (.int (0 : Int32)), .val (.int (0 : Int32)), .val (.int (0 : Int32)), .val (.int xlaw_1), .val (.long ylaw_5), .second, .val (.int (1 : Int32)), .val (.int (1 : Int32))] [(.long ylaw_4)]))
        refine Ow.lloadN X237 hx (pc' := 270) (hb hby at_269) rfl ?_
        refine Ow.lcmp X237 hx (pc' := 271) (hb hby at_270)  ?_
        refine Ow.ifNo X237 hx (pc' := 274) (hb hby at_271) ((if0 _ _).trans (teq ((lw_eq _ _).mpr (rfl : ylaw_4 = ylaw_4))).2) ?_
        refine Ow.iconst X237 hx (pc' := 275) (hb hby at_274) (z := (1 : Int32)) rfl ?_
        refine Ow.goto X237 hx (pc' := 279) (hb hby at_275) (by decide) (by decide) ?_
        refine Ow.istore X237 hx (pc' := 281) (hb hby at_279) (l' := #[.val (.int xlaw_1), .val (.int xlaw_2), .val (.int xlaw_3), .val (.long ylaw_4), .second, .val (.long ylaw_5), .second, .val (.int xlaw_6), .val (.int ms12_0), .val (.int ms26_0), .val (.int ms40_0), .val (.ref o34), .val (.int (0 : Int32)), .val (.int (0 : Int32)), .val (.int (0 : Int32)), .val (.int xlaw_1), .val (.long ylaw_5), .second, .val (.int (1 : Int32)), .val (.int (1 : Int32))]) rfl ?_
        refine Ow.iload X237 hx (pc' := 283) (hb hby at_281) rfl ?_
        exact Wq.ret X237 (BodyLoose.notSynchronized Bd) (rv := some (.int (1 : Int32))) (fun h => by rw [Bd.returns] at h; cases h) (fun _ hr => retN X237 hx (t := .boolean) Bd.returns (by simp) (hb hby at_283) hr) (by decide) (by decide) ⟨rfl, N237⟩
  · skip
    refine Ow.ifNo X38 hx (pc' := 79) (hb hby at_76) ((if0 _ _).trans (feq hc76).1) ?_
    refine Ow.aload X38 hx (pc' := 81) (hb hby at_79) rfl rfl ?_
    refine Ow.iload X38 hx (pc' := 83) (hb hby at_81) rfl ?_
    refine Ow.iloadN X38 hx (pc' := 84) (hb hby at_83) rfl ?_
    obtain ⟨cq238, kq238, q238a, q238b, q238c⟩ := isOf hZ e38 A34_t38
    obtain ⟨_, _, ⟨T238, L238, k238, n238⟩, -, X238, ⟨Lc238, hQ238, l238, y238, z238⟩, st238⟩ := X38.virtualBack hx (y := mt8) (z := mt8) hown (mvT hZ (kw46 hw)) (mvT hZ (kw47 hw)) (notFace_of_selects (args := #[]) (mvT hZ (kw49 hw))) (mvT hZ (kw49 hw)) (mvT hZ (kw48 hw)) (by decide) (backOf (W := 0) (rm_st0 l Z a0 hw [] o34 xlaw_2 b2_c35 b4_c35 b6_c35 b8_c35 b10_c35 b12_c35 (1 : Int32) (1 : Int32) (2 : Int32) xlaw_1 (List.replicate 63 (.int (0 : Int32))) (0 : Int32) (List.replicate 63 (.int (0 : Int32))) (0 : Int32) (0 : Int32) (0 : Int32) (0 : Int32) (List.replicate 252 (.int (0 : Int32))) (0 : Int64) (0 : Int64) (0 : Int64) (0 : Int64) (List.replicate 252 (.long (0 : Int64))) T38.heap n0 Z38 (by decide) A34_t38 P38_1 P38_2 P38_3 P38_4 P38_5 P38_6 P38_7 P38_8 P38_9 P38_10f g_o34 P36_10_t38 g_b2_c35 (Ne.symm ne_o34_b2_c35) P35_6_t38 g_b4_c35 (Ne.symm ne_o34_b4_c35) P35_12_t38 g_b10_c35 (Ne.symm ne_o34_b10_c35) P35_14_t38 g_b12_c35 (Ne.symm ne_o34_b12_c35) ne_b2_c35_b4_c35 ne_b2_c35_b10_c35 ne_b2_c35_b12_c35 ne_b4_c35_b10_c35 ne_b4_c35_b12_c35 ne_b10_c35_b12_c35 (by decide)) hZ (kw50 hw) (kw2 hw) (by decide) (by decide)) q238a q238c (g := (mkF m 84 #[.val (.int xlaw_1), .val (.int xlaw_2), .val (.int xlaw_3), .val (.long ylaw_4), .second, .val (.long ylaw_5), .second, .val (.int xlaw_6), .val (.int ms12_0), .val (.int ms26_0), .val (.int ms40_0), .val (.ref o34), .val (.int (0 : Int32)), .val (.int (0 : Int32)), .val (.int (0 : Int32)), .unset, .unset, .unset, .unset, .unset] [(.int xlaw_2), (.int (0 : Int32)), (.ref o34)])) rfl (by rw [hml]; rfl) (Steps.refl _) (argsL := [(.int (0 : Int32)), (.int xlaw_2)]) (rest := []) (lenOf pd6 rfl) rfl (by show 2 * 0 + _ ≤ _; exact Nat.le_of_eq rfl) (hb hby at_84) (fun _ _ => ⟨rfl, e38, (by decide : 7 + 0 ≤ _), (by decide : 778 + 0 ≤ _)⟩)
    dsimp only [Pt.U, Pt.locs, Pt.cells, Pt.slots] at X238 l238 y238 z238 st238 hQ238
    subst l238 y238 z238
    obtain ⟨rfl, Nq238, Kq238, P238_0, P238_1, P238_2, P238_3, P238_4, P238_5, P238_6, P238_7, P238_8, P238_9, P238_10, P238_11, P238_12, P238_13, P238_14⟩ := hQ238
    have N238 := Fr.app N38 Nq238
    have K238 : Keep h0 T238.heap [] := K38.trans Kq238 (allS (P := fun x => x ∈ [] ∨ h0.size ≤ x) (Or.inr sz_o34) (allS (P := fun x => x ∈ [] ∨ h0.size ≤ x) (Or.inr sz_b12_c35) (allS (P := fun x => x ∈ [] ∨ h0.size ≤ x) (Or.inr sz_b10_c35) (allS (P := fun x => x ∈ [] ∨ h0.size ≤ x) (Or.inr sz_b4_c35) (allS (P := fun x => x ∈ [] ∨ h0.size ≤ x) (Or.inr sz_b2_c35) all0)))))
    have Z238 : n0 ≤ T238.heap.size := Nat.le_trans Z38 Kq238.1
    have A34_t238 := A34_t38.keep Kq238
    have P35_10_t238 := P35_10_t38.keep Kq238 (ninS (Ne.symm ne_o34_b8_c35) (ninS ne_b8_c35_b12_c35 (ninS ne_b8_c35_b10_c35 (ninS (Ne.symm ne_b4_c35_b8_c35) (ninS (Ne.symm ne_b2_c35_b8_c35) nin0)))))
    have P37_10_t238 := P37_10_t38.keep Kq238 (ninS (Ne.symm ne_o34_b6_c35) (ninS ne_b6_c35_b12_c35 (ninS ne_b6_c35_b10_c35 (ninS (Ne.symm ne_b4_c35_b6_c35) (ninS (Ne.symm ne_b2_c35_b6_c35) nin0)))))
    have e238 : T238.heap = T238.heap := rfl
    refine Wq.steps st238 ?_
    show Wq _ _ _ _ _ (T238.setTop (mkF m 87 #[.val (.int xlaw_1), .val (.int xlaw_2), .val (.int xlaw_3), .val (.long ylaw_4), .second, .val (.long ylaw_5), .second, .val (.int xlaw_6), .val (.int ms12_0), .val (.int ms26_0), .val (.int ms40_0), .val (.ref o34), .val (.int (0 : Int32)), .val (.int (0 : Int32)), .val (.int (0 : Int32)), .unset, .unset, .unset, .unset, .unset] []))
    refine Ow.iload X238 hx (pc' := 89) (hb hby at_87) rfl ?_
    by_cases hc89 : ms26_0 = (0 : Int32)
    · skip
      refine Ow.ifYes X238 hx (pc' := 101) (hb hby at_89) ((if0 _ _).trans (teq hc89).1) (by decide) (by decide) ?_
      refine Ow.iload X238 hx (pc' := 103) (hb hby at_101) rfl ?_
      refine Ow.ifNo X238 hx (pc' := 106) (hb hby at_103) ((if0 _ _).trans (feq (hc76 : ¬ (ms12_0 = (0 : Int32)))).1) ?_
      refine Ow.iloadN X238 hx (pc' := 107) (hb hby at_106) rfl ?_
      refine Ow.goto X238 hx (pc' := 111) (hb hby at_107) (by decide) (by decide) ?_
      refine Ow.istore X238 hx (pc' := 113) (hb hby at_111) (l' := #[.val (.int xlaw_1), .val (.int xlaw_2), .val (.int xlaw_3), .val (.long ylaw_4), .second, .val (.long ylaw_5), .second, .val (.int xlaw_6), .val (.int ms12_0), .val (.int ms26_0), .val (.int ms40_0), .val (.ref o34), .val (.int (0 : Int32)), .val (.int (0 : Int32)), .val (.int (0 : Int32)), .val (.int xlaw_2), .unset, .unset, .unset, .unset]) rfl ?_
      refine Ow.iload X238 hx (pc' := 115) (hb hby at_113) rfl ?_
      refine Ow.ifYes X238 hx (pc' := 123) (hb hby at_115) ((if0 _ _).trans (teq (hc89 : ms26_0 = (0 : Int32))).1) (by decide) (by decide) ?_
      refine Ow.lloadN X238 hx (pc' := 124) (hb hby at_123) rfl ?_
      refine Ow.lstore X238 hx (pc' := 126) (hb hby at_124) (l' := #[.val (.int xlaw_1), .val (.int xlaw_2), .val (.int xlaw_3), .val (.long ylaw_4), .second, .val (.long ylaw_5), .second, .val (.int xlaw_6), .val (.int ms12_0), .val (.int ms26_0), .val (.int ms40_0), .val (.ref o34), .val (.int (0 : Int32)), .val (.int (0 : Int32)), .val (.int (0 : Int32)), .val (.int xlaw_2), .val (.long ylaw_4), .second, .unset, .unset]) rfl ?_
      refine Ow.aload X238 hx (pc' := 128) (hb hby at_126) rfl rfl ?_
      obtain ⟨cq239, kq239, q239a, q239b, q239c⟩ := isOf hZ e238 A34_t238
      obtain ⟨_, _, ⟨T239, L239, k239, n239⟩, -, X239, ⟨Lc239, hQ239, l239, y239, z239⟩, st239⟩ := X238.virtualBack hx (y := mt4) (z := mt4) hown (mvT hZ (kw39 hw)) (mvT hZ (kw40 hw)) (notFace_of_selects (args := #[]) (mvT hZ (kw42 hw))) (mvT hZ (kw42 hw)) (mvT hZ (kw41 hw)) (by decide) (backOf (W := 0) (rm_cp l Z a0 hw [] o34 b2_c35 b4_c35 b6_c35 b8_c35 b10_c35 b12_c35 (1 : Int32) (1 : Int32) (1 : Int32) (2 : Int32) T238.heap n0 Z238 A34_t238 P238_1 P238_2 P238_3 P238_4 P238_5 P238_6 P238_7 P238_8 P238_12 P238_9 g_o34) hZ (kw43 hw) (kw2 hw) (by decide) (by decide)) q239a q239c (g := (mkF m 128 #[.val (.int xlaw_1), .val (.int xlaw_2), .val (.int xlaw_3), .val (.long ylaw_4), .second, .val (.long ylaw_5), .second, .val (.int xlaw_6), .val (.int ms12_0), .val (.int ms26_0), .val (.int ms40_0), .val (.ref o34), .val (.int (0 : Int32)), .val (.int (0 : Int32)), .val (.int (0 : Int32)), .val (.int xlaw_2), .val (.long ylaw_4), .second, .unset, .unset] [(.ref o34)])) rfl (by rw [hml]; rfl) (Steps.refl _) (argsL := []) (rest := []) (lenOf pd4 rfl) rfl (by show 2 * 0 + _ ≤ _; exact Nat.le_of_eq rfl) (hb hby at_128) (fun _ _ => ⟨rfl, e238, (by decide : 7 + 0 ≤ _), (by decide : 778 + 0 ≤ _)⟩)
      dsimp only [Pt.U, Pt.locs, Pt.cells, Pt.slots] at X239 l239 y239 z239 st239 hQ239
      subst l239 y239 z239
      obtain ⟨rfl, Nq239, Kq239, P239_0, P239_1, P239_2, P239_3, P239_4, P239_5, P239_6, P239_7, P239_8, P239_9, P239_10⟩ := hQ239
      have N239 := Fr.app N238 Nq239
      have K239 : Keep h0 T239.heap [] := K238.trans Kq239 (allS (P := fun x => x ∈ [] ∨ h0.size ≤ x) (Or.inr sz_o34) all0)
      have Z239 : n0 ≤ T239.heap.size := Nat.le_trans Z238 Kq239.1
      have A34_t239 := A34_t238.keep Kq239
      have P35_10_t239 := P35_10_t238.keep Kq239 (ninS (Ne.symm ne_o34_b8_c35) nin0)
      have P37_10_t239 := P37_10_t238.keep Kq239 (ninS (Ne.symm ne_o34_b6_c35) nin0)
      have P238_10_t239 := P238_10.keep Kq239 (ninS (Ne.symm ne_o34_b10_c35) nin0)
      have P238_11_t239 := P238_11.keep Kq239 (ninS (Ne.symm ne_o34_b12_c35) nin0)
      have P238_13_t239 := P238_13.keep Kq239 (ninS (Ne.symm ne_o34_b4_c35) nin0)
      have P238_14_t239 := P238_14.keep Kq239 (ninS (Ne.symm ne_o34_b2_c35) nin0)
      have e239 : T239.heap = T239.heap := rfl
      have P239_10f : Fld Z T239.heap o34 "com/example/tauten/tauten/Trail" "epoch" "I" (.int (3 : Int32)) := P239_10
      refine Wq.steps st239 ?_
      show Wq _ _ _ _ _ (T239.setTop (mkF m 131 #[.val (.int xlaw_1), .val (.int xlaw_2), .val (.int xlaw_3), .val (.long ylaw_4), .second, .val (.long ylaw_5), .second, .val (.int xlaw_6), .val (.int ms12_0), .val (.int ms26_0), .val (.int ms40_0), .val (.ref o34), .val (.int (0 : Int32)), .val (.int (0 : Int32)), .val (.int (0 : Int32)), .val (.int xlaw_2), .val (.long ylaw_4), .second, .unset, .unset] [(.int (1 : Int32))]))
      refine Ow.istore X239 hx (pc' := 133) (hb hby at_131) (l' := #[.val (.int xlaw_1), .val (.int xlaw_2), .val (.int xlaw_3), .val (.long ylaw_4), .second, .val (.long ylaw_5), .second, .val (.int xlaw_6), .val (.int ms12_0), .val (.int ms26_0), .val (.int ms40_0), .val (.ref o34), .val (.int (0 : Int32)), .val (.int (0 : Int32)), .val (.int (0 : Int32)), .val (.int xlaw_2), .val (.long ylaw_4), .second, .val (.int (1 : Int32)), .unset]) rfl ?_
      refine Ow.aload X239 hx (pc' := 135) (hb hby at_133) rfl rfl ?_
      refine Ow.iload X239 hx (pc' := 137) (hb hby at_135) rfl ?_
      refine Ow.iloadN X239 hx (pc' := 138) (hb hby at_137) rfl ?_
      obtain ⟨cq240, kq240, q240a, q240b, q240c⟩ := isOf hZ e239 A34_t239
      obtain ⟨_, _, ⟨T240, L240, k240, n240⟩, -, X240, ⟨Lc240, hQ240, l240, y240, z240⟩, st240⟩ := X239.virtualBack hx (y := mt8) (z := mt8) hown (mvT hZ (kw46 hw)) (mvT hZ (kw47 hw)) (notFace_of_selects (args := #[]) (mvT hZ (kw49 hw))) (mvT hZ (kw49 hw)) (mvT hZ (kw48 hw)) (by decide) (backOf (W := 0) (rm_st1 l Z a0 hw [] o34 xlaw_3 b2_c35 b4_c35 b6_c35 b8_c35 b10_c35 b12_c35 (1 : Int32) (1 : Int32) (3 : Int32) xlaw_2 (List.replicate 63 (.int (0 : Int32))) (2 : Int32) (List.replicate 63 (.int (0 : Int32))) (0 : Int32) (0 : Int32) (0 : Int32) (0 : Int32) (List.replicate 252 (.int (0 : Int32))) (xlaw_1.toInt64) (0 : Int64) (0 : Int64) (0 : Int64) (List.replicate 252 (.long (0 : Int64))) T239.heap n0 Z239 (by decide) A34_t239 P239_1 P239_2 P239_3 P239_4 P239_5 P239_6 P239_7 P239_8 P239_9 P239_10f g_o34 P238_14_t239 g_b2_c35 (Ne.symm ne_o34_b2_c35) P238_13_t239 g_b4_c35 (Ne.symm ne_o34_b4_c35) P238_10_t239 g_b10_c35 (Ne.symm ne_o34_b10_c35) P238_11_t239 g_b12_c35 (Ne.symm ne_o34_b12_c35) ne_b2_c35_b4_c35 ne_b2_c35_b10_c35 ne_b2_c35_b12_c35 ne_b4_c35_b10_c35 ne_b4_c35_b12_c35 ne_b10_c35_b12_c35 (by decide)) hZ (kw50 hw) (kw2 hw) (by decide) (by decide)) q240a q240c (g := (mkF m 138 #[.val (.int xlaw_1), .val (.int xlaw_2), .val (.int xlaw_3), .val (.long ylaw_4), .second, .val (.long ylaw_5), .second, .val (.int xlaw_6), .val (.int ms12_0), .val (.int ms26_0), .val (.int ms40_0), .val (.ref o34), .val (.int (0 : Int32)), .val (.int (0 : Int32)), .val (.int (0 : Int32)), .val (.int xlaw_2), .val (.long ylaw_4), .second, .val (.int (1 : Int32)), .unset] [(.int xlaw_3), (.int (0 : Int32)), (.ref o34)])) rfl (by rw [hml]; rfl) (Steps.refl _) (argsL := [(.int (0 : Int32)), (.int xlaw_3)]) (rest := []) (lenOf pd6 rfl) rfl (by show 2 * 0 + _ ≤ _; exact Nat.le_of_eq rfl) (hb hby at_138) (fun _ _ => ⟨rfl, e239, (by decide : 7 + 0 ≤ _), (by decide : 778 + 0 ≤ _)⟩)
      dsimp only [Pt.U, Pt.locs, Pt.cells, Pt.slots] at X240 l240 y240 z240 st240 hQ240
      subst l240 y240 z240
      obtain ⟨rfl, Nq240, Kq240, P240_0, P240_1, P240_2, P240_3, P240_4, P240_5, P240_6, P240_7, P240_8, P240_9, P240_10, P240_11, P240_12, P240_13, P240_14⟩ := hQ240
      have N240 := Fr.app N239 Nq240
      have K240 : Keep h0 T240.heap [] := K239.trans Kq240 (allS (P := fun x => x ∈ [] ∨ h0.size ≤ x) (Or.inr sz_o34) (allS (P := fun x => x ∈ [] ∨ h0.size ≤ x) (Or.inr sz_b12_c35) (allS (P := fun x => x ∈ [] ∨ h0.size ≤ x) (Or.inr sz_b10_c35) (allS (P := fun x => x ∈ [] ∨ h0.size ≤ x) (Or.inr sz_b4_c35) (allS (P := fun x => x ∈ [] ∨ h0.size ≤ x) (Or.inr sz_b2_c35) all0)))))
      have Z240 : n0 ≤ T240.heap.size := Nat.le_trans Z239 Kq240.1
      have A34_t240 := A34_t239.keep Kq240
      have P35_10_t240 := P35_10_t239.keep Kq240 (ninS (Ne.symm ne_o34_b8_c35) (ninS ne_b8_c35_b12_c35 (ninS ne_b8_c35_b10_c35 (ninS (Ne.symm ne_b4_c35_b8_c35) (ninS (Ne.symm ne_b2_c35_b8_c35) nin0)))))
      have P37_10_t240 := P37_10_t239.keep Kq240 (ninS (Ne.symm ne_o34_b6_c35) (ninS ne_b6_c35_b12_c35 (ninS ne_b6_c35_b10_c35 (ninS (Ne.symm ne_b4_c35_b6_c35) (ninS (Ne.symm ne_b2_c35_b6_c35) nin0)))))
      have e240 : T240.heap = T240.heap := rfl
      refine Wq.steps st240 ?_
      show Wq _ _ _ _ _ (T240.setTop (mkF m 141 #[.val (.int xlaw_1), .val (.int xlaw_2), .val (.int xlaw_3), .val (.long ylaw_4), .second, .val (.long ylaw_5), .second, .val (.int xlaw_6), .val (.int ms12_0), .val (.int ms26_0), .val (.int ms40_0), .val (.ref o34), .val (.int (0 : Int32)), .val (.int (0 : Int32)), .val (.int (0 : Int32)), .val (.int xlaw_2), .val (.long ylaw_4), .second, .val (.int (1 : Int32)), .unset] []))
      refine Ow.iload X240 hx (pc' := 143) (hb hby at_141) rfl ?_
      by_cases hc143 : ms40_0 = (0 : Int32)
      · skip
        refine Ow.ifYes X240 hx (pc' := 159) (hb hby at_143) ((if0 _ _).trans (teq hc143).1) (by decide) (by decide) ?_
        refine Ow.aload X240 hx (pc' := 161) (hb hby at_159) rfl rfl ?_
        refine Ow.iload X240 hx (pc' := 163) (hb hby at_161) rfl ?_
        obtain ⟨cq241, kq241, q241a, q241b, q241c⟩ := isOf hZ e240 A34_t240
        obtain ⟨_, _, ⟨T241, L241, k241, n241⟩, -, X241, ⟨Lc241, hQ241, l241, y241, z241⟩, st241⟩ := X240.virtualBack hx (y := mt9) (z := mt9) hown (mvT hZ (kw60 hw)) (mvT hZ (kw61 hw)) (notFace_of_selects (args := #[]) (mvT hZ (kw63 hw))) (mvT hZ (kw63 hw)) (mvT hZ (kw62 hw)) (by decide) (backOf (W := 0) (rm_un21i l Z a0 hw [] o34 b2_c35 b4_c35 b6_c35 b8_c35 b10_c35 b12_c35 (1 : Int32) (1 : Int32) (3 : Int32) xlaw_3 (List.replicate 63 (.int (0 : Int32))) ylaw_4 (List.replicate 63 (.long (0 : Int64))) (0 : Int32) (0 : Int32) (0 : Int32) (List.replicate 252 (.int (0 : Int32))) (xlaw_1.toInt64) (xlaw_2.toInt64) (0 : Int64) (0 : Int64) (List.replicate 252 (.long (0 : Int64))) T240.heap n0 Z240 A34_t240 P240_1 P240_2 P240_3 P240_4 P240_5 P240_6 P240_7 P240_8 P240_12 P240_9 g_o34 P240_14 g_b2_c35 (Ne.symm ne_o34_b2_c35) P37_10_t240 g_b6_c35 (Ne.symm ne_o34_b6_c35) P240_10 g_b10_c35 (Ne.symm ne_o34_b10_c35) P240_11 g_b12_c35 (Ne.symm ne_o34_b12_c35) ne_b2_c35_b6_c35 ne_b2_c35_b10_c35 ne_b2_c35_b12_c35 ne_b6_c35_b10_c35 ne_b6_c35_b12_c35 ne_b10_c35_b12_c35) hZ (kw64 hw) (kw2 hw) (by decide) (by decide)) q241a q241c (g := (mkF m 163 #[.val (.int xlaw_1), .val (.int xlaw_2), .val (.int xlaw_3), .val (.long ylaw_4), .second, .val (.long ylaw_5), .second, .val (.int xlaw_6), .val (.int ms12_0), .val (.int ms26_0), .val (.int ms40_0), .val (.ref o34), .val (.int (0 : Int32)), .val (.int (0 : Int32)), .val (.int (0 : Int32)), .val (.int xlaw_2), .val (.long ylaw_4), .second, .val (.int (1 : Int32)), .unset] [(.int (1 : Int32)), (.ref o34)])) rfl (by rw [hml]; rfl) (Steps.refl _) (argsL := [(.int (1 : Int32))]) (rest := []) (lenOf pd7 rfl) rfl (by show 2 * 0 + _ ≤ _; exact Nat.le_of_eq rfl) (hb hby at_163) (fun _ _ => ⟨rfl, e240, (by decide : 7 + 0 ≤ _), (by decide : 778 + 0 ≤ _)⟩)
        dsimp only [Pt.U, Pt.locs, Pt.cells, Pt.slots] at X241 l241 y241 z241 st241 hQ241
        subst l241 y241 z241
        obtain ⟨rfl, Nq241, Kq241, P241_0, P241_1, P241_2, P241_3, P241_4, P241_5, P241_6, P241_7, P241_8, P241_9, P241_10, P241_11⟩ := hQ241
        have N241 := Fr.app N240 Nq241
        have K241 : Keep h0 T241.heap [] := K240.trans Kq241 (allS (P := fun x => x ∈ [] ∨ h0.size ≤ x) (Or.inr sz_o34) (allS (P := fun x => x ∈ [] ∨ h0.size ≤ x) (Or.inr sz_b2_c35) all0))
        have Z241 : n0 ≤ T241.heap.size := Nat.le_trans Z240 Kq241.1
        have A34_t241 := A34_t240.keep Kq241
        have P35_10_t241 := P35_10_t240.keep Kq241 (ninS (Ne.symm ne_o34_b8_c35) (ninS (Ne.symm ne_b2_c35_b8_c35) nin0))
        have P37_10_t241 := P37_10_t240.keep Kq241 (ninS (Ne.symm ne_o34_b6_c35) (ninS (Ne.symm ne_b2_c35_b6_c35) nin0))
        have P240_10_t241 := P240_10.keep Kq241 (ninS (Ne.symm ne_o34_b10_c35) (ninS (Ne.symm ne_b2_c35_b10_c35) nin0))
        have P240_11_t241 := P240_11.keep Kq241 (ninS (Ne.symm ne_o34_b12_c35) (ninS (Ne.symm ne_b2_c35_b12_c35) nin0))
        have P240_13_t241 := P240_13.keep Kq241 (ninS (Ne.symm ne_o34_b4_c35) (ninS (Ne.symm ne_b2_c35_b4_c35) nin0))
        have e241 : T241.heap = T241.heap := rfl
        have P241_11f : Fld Z T241.heap o34 "com/example/tauten/tauten/Trail" "epoch" "I" (.int (4 : Int32)) := P241_11
        refine Wq.steps st241 ?_
        show Wq _ _ _ _ _ (T241.setTop (mkF m 166 #[.val (.int xlaw_1), .val (.int xlaw_2), .val (.int xlaw_3), .val (.long ylaw_4), .second, .val (.long ylaw_5), .second, .val (.int xlaw_6), .val (.int ms12_0), .val (.int ms26_0), .val (.int ms40_0), .val (.ref o34), .val (.int (0 : Int32)), .val (.int (0 : Int32)), .val (.int (0 : Int32)), .val (.int xlaw_2), .val (.long ylaw_4), .second, .val (.int (1 : Int32)), .unset] []))
        refine Ow.aload X241 hx (pc' := 168) (hb hby at_166) rfl rfl ?_
        refine Ow.iload X241 hx (pc' := 170) (hb hby at_168) rfl ?_
        obtain ⟨cq242, kq242, q242a, q242b, q242c⟩ := isOf hZ e241 A34_t241
        obtain ⟨_, _, ⟨T242, L242, k242, n242⟩, -, X242, ⟨Lc242, hQ242, l242, y242, z242⟩, st242⟩ := X241.virtualBack hx (y := mt5) (z := mt5) hown (mvT hZ (kw65 hw)) (mvT hZ (kw66 hw)) (notFace_of_selects (args := #[]) (mvT hZ (kw68 hw))) (mvT hZ (kw68 hw)) (mvT hZ (kw67 hw)) (by decide) (backOf (W := 0) (rm_gt l Z a0 hw [] o34 b2_c35 ((xlaw_2.toInt64).toInt32) (List.replicate 63 (.int (0 : Int32))) T241.heap n0 Z241 P241_1 P241_10) hZ (kw69 hw) (kw2 hw) (by decide) (by decide)) q242a q242c (g := (mkF m 170 #[.val (.int xlaw_1), .val (.int xlaw_2), .val (.int xlaw_3), .val (.long ylaw_4), .second, .val (.long ylaw_5), .second, .val (.int xlaw_6), .val (.int ms12_0), .val (.int ms26_0), .val (.int ms40_0), .val (.ref o34), .val (.int (0 : Int32)), .val (.int (0 : Int32)), .val (.int (0 : Int32)), .val (.int xlaw_2), .val (.long ylaw_4), .second, .val (.int (1 : Int32)), .unset] [(.int (0 : Int32)), (.ref o34)])) rfl (by rw [hml]; rfl) (Steps.refl _) (argsL := [(.int (0 : Int32))]) (rest := []) (lenOf pd2 rfl) rfl (by show 2 * 0 + _ ≤ _; exact Nat.le_of_eq rfl) (hb hby at_170) (fun _ _ => ⟨rfl, e241, (by decide : 7 + 0 ≤ _), (by decide : 778 + 0 ≤ _)⟩)
        dsimp only [Pt.U, Pt.locs, Pt.cells, Pt.slots] at X242 l242 y242 z242 st242 hQ242
        subst l242 y242 z242
        obtain ⟨rfl, Nq242, e242⟩ := hQ242
        have N242 := Fr.app N241 Nq242
        refine Wq.steps st242 ?_
        show Wq _ _ _ _ _ (T242.setTop (mkF m 173 #[.val (.int xlaw_1), .val (.int xlaw_2), .val (.int xlaw_3), .val (.long ylaw_4), .second, .val (.long ylaw_5), .second, .val (.int xlaw_6), .val (.int ms12_0), .val (.int ms26_0), .val (.int ms40_0), .val (.ref o34), .val (.int (0 : Int32)), .val (.int (0 : Int32)), .val (.int (0 : Int32)), .val (.int xlaw_2), .val (.long ylaw_4), .second, .val (.int (1 : Int32)), .unset] [(.int ((xlaw_2.toInt64).toInt32))]))
        refine Ow.iload X242 hx (pc' := 175) (hb hby at_173) rfl ?_
        refine Ow.icmpNo X242 hx (pc' := 178) (hb hby at_175) (teq (by first | (simp only [Int32.toInt32_toInt64]; done) | rfl : ((xlaw_2.toInt64).toInt32) = xlaw_2)).2 ?_
        refine Ow.aload X242 hx (pc' := 180) (hb hby at_178) rfl rfl ?_
        refine Ow.iload X242 hx (pc' := 182) (hb hby at_180) rfl ?_
        obtain ⟨cq243, kq243, q243a, q243b, q243c⟩ := isOf hZ e242 A34_t241
        obtain ⟨_, _, ⟨T243, L243, k243, n243⟩, -, X243, ⟨Lc243, hQ243, l243, y243, z243⟩, st243⟩ := X242.virtualBack hx (y := mt6) (z := mt6) hown (mvT hZ (kw70 hw)) (mvT hZ (kw71 hw)) (notFace_of_selects (args := #[]) (mvT hZ (kw73 hw))) (mvT hZ (kw73 hw)) (mvT hZ (kw72 hw)) (by decide) (backOf (W := 0) (rm_gl l Z a0 hw [] o34 b6_c35 ylaw_4 (List.replicate 63 (.long (0 : Int64))) T241.heap n0 Z241 P241_3 P37_10_t241) hZ (kw74 hw) (kw2 hw) (by decide) (by decide)) q243a q243c (g := (mkF m 182 #[.val (.int xlaw_1), .val (.int xlaw_2), .val (.int xlaw_3), .val (.long ylaw_4), .second, .val (.long ylaw_5), .second, .val (.int xlaw_6), .val (.int ms12_0), .val (.int ms26_0), .val (.int ms40_0), .val (.ref o34), .val (.int (0 : Int32)), .val (.int (0 : Int32)), .val (.int (0 : Int32)), .val (.int xlaw_2), .val (.long ylaw_4), .second, .val (.int (1 : Int32)), .unset] [(.int (0 : Int32)), (.ref o34)])) rfl (by rw [hml]; rfl) (Steps.refl _) (argsL := [(.int (0 : Int32))]) (rest := []) (lenOf pd8 rfl) rfl (by show 2 * 0 + _ ≤ _; exact Nat.le_of_eq rfl) (hb hby at_182) (fun _ _ => ⟨rfl, e242, (by decide : 7 + 0 ≤ _), (by decide : 778 + 0 ≤ _)⟩)
        dsimp only [Pt.U, Pt.locs, Pt.cells, Pt.slots] at X243 l243 y243 z243 st243 hQ243
        subst l243 y243 z243
        obtain ⟨rfl, Nq243, e243⟩ := hQ243
        have N243 := Fr.app N242 Nq243
        refine Wq.steps st243 ?_
        show Wq _ _ _ _ _ (T243.setTop (mkF m 185 #[.val (.int xlaw_1), .val (.int xlaw_2), .val (.int xlaw_3), .val (.long ylaw_4), .second, .val (.long ylaw_5), .second, .val (.int xlaw_6), .val (.int ms12_0), .val (.int ms26_0), .val (.int ms40_0), .val (.ref o34), .val (.int (0 : Int32)), .val (.int (0 : Int32)), .val (.int (0 : Int32)), .val (.int xlaw_2), .val (.long ylaw_4), .second, .val (.int (1 : Int32)), .unset] [(.long ylaw_4)]))
        refine Ow.lload X243 hx (pc' := 187) (hb hby at_185) rfl ?_
        refine Ow.lcmp X243 hx (pc' := 188) (hb hby at_187)  ?_
        refine Ow.ifNo X243 hx (pc' := 191) (hb hby at_188) ((if0 _ _).trans (teq ((lw_eq _ _).mpr (rfl : ylaw_4 = ylaw_4))).2) ?_
        refine Ow.iconst X243 hx (pc' := 192) (hb hby at_191) (z := (1 : Int32)) rfl ?_
        refine Ow.goto X243 hx (pc' := 196) (hb hby at_192) (by decide) (by decide) ?_
        refine Ow.istore X243 hx (pc' := 198) (hb hby at_196) (l' := #[.val (.int xlaw_1), .val (.int xlaw_2), .val (.int xlaw_3), .val (.long ylaw_4), .second, .val (.long ylaw_5), .second, .val (.int xlaw_6), .val (.int ms12_0), .val (.int ms26_0), .val (.int ms40_0), .val (.ref o34), .val (.int (0 : Int32)), .val (.int (0 : Int32)), .val (.int (0 : Int32)), .val (.int xlaw_2), .val (.long ylaw_4), .second, .val (.int (1 : Int32)), .val (.int (1 : Int32))]) rfl ?_
        refine Ow.aload X243 hx (pc' := 200) (hb hby at_198) rfl rfl ?_
        refine Ow.iload X243 hx (pc' := 202) (hb hby at_200) rfl ?_
        refine Ow.iloadN X243 hx (pc' := 203) (hb hby at_202) rfl ?_
        refine Ow.iloadN X243 hx (pc' := 204) (hb hby at_203) rfl ?_
        refine Ow.ixor X243 hx (pc' := 205) (hb hby at_204) (z := (xlaw_1 ^^^ xlaw_3)) rfl ?_
        obtain ⟨cq244, kq244, q244a, q244b, q244c⟩ := isOf hZ e243 A34_t241
        obtain ⟨_, _, ⟨T244, L244, k244, n244⟩, -, X244, ⟨Lc244, hQ244, l244, y244, z244⟩, st244⟩ := X243.virtualBack hx (y := mt8) (z := mt8) hown (mvT hZ (kw46 hw)) (mvT hZ (kw47 hw)) (notFace_of_selects (args := #[]) (mvT hZ (kw49 hw))) (mvT hZ (kw49 hw)) (mvT hZ (kw48 hw)) (by decide) (backOf (W := 0) (rm_st1 l Z a0 hw [] o34 (xlaw_1 ^^^ xlaw_3) b2_c35 b4_c35 b6_c35 b8_c35 b10_c35 b12_c35 (1 : Int32) (1 : Int32) (4 : Int32) ((xlaw_2.toInt64).toInt32) (List.replicate 63 (.int (0 : Int32))) (3 : Int32) (List.replicate 63 (.int (0 : Int32))) (0 : Int32) (0 : Int32) (0 : Int32) (0 : Int32) (List.replicate 252 (.int (0 : Int32))) (xlaw_1.toInt64) (xlaw_2.toInt64) (0 : Int64) (0 : Int64) (List.replicate 252 (.long (0 : Int64))) T241.heap n0 Z241 (by decide) A34_t241 P241_1 P241_2 P241_3 P241_4 P241_5 P241_6 P241_7 P241_8 P241_9 P241_11f g_o34 P241_10 g_b2_c35 (Ne.symm ne_o34_b2_c35) P240_13_t241 g_b4_c35 (Ne.symm ne_o34_b4_c35) P240_10_t241 g_b10_c35 (Ne.symm ne_o34_b10_c35) P240_11_t241 g_b12_c35 (Ne.symm ne_o34_b12_c35) ne_b2_c35_b4_c35 ne_b2_c35_b10_c35 ne_b2_c35_b12_c35 ne_b4_c35_b10_c35 ne_b4_c35_b12_c35 ne_b10_c35_b12_c35 (by decide)) hZ (kw50 hw) (kw2 hw) (by decide) (by decide)) q244a q244c (g := (mkF m 205 #[.val (.int xlaw_1), .val (.int xlaw_2), .val (.int xlaw_3), .val (.long ylaw_4), .second, .val (.long ylaw_5), .second, .val (.int xlaw_6), .val (.int ms12_0), .val (.int ms26_0), .val (.int ms40_0), .val (.ref o34), .val (.int (0 : Int32)), .val (.int (0 : Int32)), .val (.int (0 : Int32)), .val (.int xlaw_2), .val (.long ylaw_4), .second, .val (.int (1 : Int32)), .val (.int (1 : Int32))] [(.int (xlaw_1 ^^^ xlaw_3)), (.int (0 : Int32)), (.ref o34)])) rfl (by rw [hml]; rfl) (Steps.refl _) (argsL := [(.int (0 : Int32)), (.int (xlaw_1 ^^^ xlaw_3))]) (rest := []) (lenOf pd6 rfl) rfl (by show 2 * 0 + _ ≤ _; exact Nat.le_of_eq rfl) (hb hby at_205) (fun _ _ => ⟨rfl, e243, (by decide : 7 + 0 ≤ _), (by decide : 778 + 0 ≤ _)⟩)
        dsimp only [Pt.U, Pt.locs, Pt.cells, Pt.slots] at X244 l244 y244 z244 st244 hQ244
        subst l244 y244 z244
        obtain ⟨rfl, Nq244, Kq244, P244_0, P244_1, P244_2, P244_3, P244_4, P244_5, P244_6, P244_7, P244_8, P244_9, P244_10, P244_11, P244_12, P244_13, P244_14⟩ := hQ244
        have N244 := Fr.app N243 Nq244
        have K244 : Keep h0 T244.heap [] := K241.trans Kq244 (allS (P := fun x => x ∈ [] ∨ h0.size ≤ x) (Or.inr sz_o34) (allS (P := fun x => x ∈ [] ∨ h0.size ≤ x) (Or.inr sz_b12_c35) (allS (P := fun x => x ∈ [] ∨ h0.size ≤ x) (Or.inr sz_b10_c35) (allS (P := fun x => x ∈ [] ∨ h0.size ≤ x) (Or.inr sz_b4_c35) (allS (P := fun x => x ∈ [] ∨ h0.size ≤ x) (Or.inr sz_b2_c35) all0)))))
        have Z244 : n0 ≤ T244.heap.size := Nat.le_trans Z241 Kq244.1
        have A34_t244 := A34_t241.keep Kq244
        have P35_10_t244 := P35_10_t241.keep Kq244 (ninS (Ne.symm ne_o34_b8_c35) (ninS ne_b8_c35_b12_c35 (ninS ne_b8_c35_b10_c35 (ninS (Ne.symm ne_b4_c35_b8_c35) (ninS (Ne.symm ne_b2_c35_b8_c35) nin0)))))
        have P37_10_t244 := P37_10_t241.keep Kq244 (ninS (Ne.symm ne_o34_b6_c35) (ninS ne_b6_c35_b12_c35 (ninS ne_b6_c35_b10_c35 (ninS (Ne.symm ne_b4_c35_b6_c35) (ninS (Ne.symm ne_b2_c35_b6_c35) nin0)))))
        have e244 : T244.heap = T244.heap := rfl
        refine Wq.steps st244 ?_
        show Wq _ _ _ _ _ (T244.setTop (mkF m 208 #[.val (.int xlaw_1), .val (.int xlaw_2), .val (.int xlaw_3), .val (.long ylaw_4), .second, .val (.long ylaw_5), .second, .val (.int xlaw_6), .val (.int ms12_0), .val (.int ms26_0), .val (.int ms40_0), .val (.ref o34), .val (.int (0 : Int32)), .val (.int (0 : Int32)), .val (.int (0 : Int32)), .val (.int xlaw_2), .val (.long ylaw_4), .second, .val (.int (1 : Int32)), .val (.int (1 : Int32))] []))
        refine Ow.aload X244 hx (pc' := 210) (hb hby at_208) rfl rfl ?_
        refine Ow.iload X244 hx (pc' := 212) (hb hby at_210) rfl ?_
        obtain ⟨cq245, kq245, q245a, q245b, q245c⟩ := isOf hZ e244 A34_t244
        obtain ⟨_, _, ⟨T245, L245, k245, n245⟩, -, X245, ⟨Lc245, hQ245, l245, y245, z245⟩, st245⟩ := X244.virtualBack hx (y := mt9) (z := mt9) hown (mvT hZ (kw60 hw)) (mvT hZ (kw61 hw)) (notFace_of_selects (args := #[]) (mvT hZ (kw63 hw))) (mvT hZ (kw63 hw)) (mvT hZ (kw62 hw)) (by decide) (backOf (W := 0) (rm_un21i l Z a0 hw [] o34 b2_c35 b4_c35 b6_c35 b8_c35 b10_c35 b12_c35 (1 : Int32) (1 : Int32) (4 : Int32) (xlaw_1 ^^^ xlaw_3) (List.replicate 63 (.int (0 : Int32))) ylaw_4 (List.replicate 63 (.long (0 : Int64))) (0 : Int32) (0 : Int32) (0 : Int32) (List.replicate 252 (.int (0 : Int32))) (xlaw_1.toInt64) (((xlaw_2.toInt64).toInt32).toInt64) (0 : Int64) (0 : Int64) (List.replicate 252 (.long (0 : Int64))) T244.heap n0 Z244 A34_t244 P244_1 P244_2 P244_3 P244_4 P244_5 P244_6 P244_7 P244_8 P244_12 P244_9 g_o34 P244_14 g_b2_c35 (Ne.symm ne_o34_b2_c35) P37_10_t244 g_b6_c35 (Ne.symm ne_o34_b6_c35) P244_10 g_b10_c35 (Ne.symm ne_o34_b10_c35) P244_11 g_b12_c35 (Ne.symm ne_o34_b12_c35) ne_b2_c35_b6_c35 ne_b2_c35_b10_c35 ne_b2_c35_b12_c35 ne_b6_c35_b10_c35 ne_b6_c35_b12_c35 ne_b10_c35_b12_c35) hZ (kw64 hw) (kw2 hw) (by decide) (by decide)) q245a q245c (g := (mkF m 212 #[.val (.int xlaw_1), .val (.int xlaw_2), .val (.int xlaw_3), .val (.long ylaw_4), .second, .val (.long ylaw_5), .second, .val (.int xlaw_6), .val (.int ms12_0), .val (.int ms26_0), .val (.int ms40_0), .val (.ref o34), .val (.int (0 : Int32)), .val (.int (0 : Int32)), .val (.int (0 : Int32)), .val (.int xlaw_2), .val (.long ylaw_4), .second, .val (.int (1 : Int32)), .val (.int (1 : Int32))] [(.int (1 : Int32)), (.ref o34)])) rfl (by rw [hml]; rfl) (Steps.refl _) (argsL := [(.int (1 : Int32))]) (rest := []) (lenOf pd7 rfl) rfl (by show 2 * 0 + _ ≤ _; exact Nat.le_of_eq rfl) (hb hby at_212) (fun _ _ => ⟨rfl, e244, (by decide : 7 + 0 ≤ _), (by decide : 778 + 0 ≤ _)⟩)
        dsimp only [Pt.U, Pt.locs, Pt.cells, Pt.slots] at X245 l245 y245 z245 st245 hQ245
        subst l245 y245 z245
        obtain ⟨rfl, Nq245, Kq245, P245_0, P245_1, P245_2, P245_3, P245_4, P245_5, P245_6, P245_7, P245_8, P245_9, P245_10, P245_11⟩ := hQ245
        have N245 := Fr.app N244 Nq245
        have K245 : Keep h0 T245.heap [] := K244.trans Kq245 (allS (P := fun x => x ∈ [] ∨ h0.size ≤ x) (Or.inr sz_o34) (allS (P := fun x => x ∈ [] ∨ h0.size ≤ x) (Or.inr sz_b2_c35) all0))
        have Z245 : n0 ≤ T245.heap.size := Nat.le_trans Z244 Kq245.1
        have A34_t245 := A34_t244.keep Kq245
        have P35_10_t245 := P35_10_t244.keep Kq245 (ninS (Ne.symm ne_o34_b8_c35) (ninS (Ne.symm ne_b2_c35_b8_c35) nin0))
        have P37_10_t245 := P37_10_t244.keep Kq245 (ninS (Ne.symm ne_o34_b6_c35) (ninS (Ne.symm ne_b2_c35_b6_c35) nin0))
        have P244_10_t245 := P244_10.keep Kq245 (ninS (Ne.symm ne_o34_b10_c35) (ninS (Ne.symm ne_b2_c35_b10_c35) nin0))
        have P244_11_t245 := P244_11.keep Kq245 (ninS (Ne.symm ne_o34_b12_c35) (ninS (Ne.symm ne_b2_c35_b12_c35) nin0))
        have P244_13_t245 := P244_13.keep Kq245 (ninS (Ne.symm ne_o34_b4_c35) (ninS (Ne.symm ne_b2_c35_b4_c35) nin0))
        have e245 : T245.heap = T245.heap := rfl
        have P245_11f : Fld Z T245.heap o34 "com/example/tauten/tauten/Trail" "epoch" "I" (.int (5 : Int32)) := P245_11
        refine Wq.steps st245 ?_
        show Wq _ _ _ _ _ (T245.setTop (mkF m 215 #[.val (.int xlaw_1), .val (.int xlaw_2), .val (.int xlaw_3), .val (.long ylaw_4), .second, .val (.long ylaw_5), .second, .val (.int xlaw_6), .val (.int ms12_0), .val (.int ms26_0), .val (.int ms40_0), .val (.ref o34), .val (.int (0 : Int32)), .val (.int (0 : Int32)), .val (.int (0 : Int32)), .val (.int xlaw_2), .val (.long ylaw_4), .second, .val (.int (1 : Int32)), .val (.int (1 : Int32))] []))
        refine Ow.iload X245 hx (pc' := 217) (hb hby at_215) rfl ?_
        refine Ow.ifNo X245 hx (pc' := 220) (hb hby at_217) ((if0 _ _).trans (feq (by decide : ¬ ((1 : Int32) = (0 : Int32)))).1) ?_
        refine Ow.aload X245 hx (pc' := 222) (hb hby at_220) rfl rfl ?_
        refine Ow.iload X245 hx (pc' := 224) (hb hby at_222) rfl ?_
        obtain ⟨cq246, kq246, q246a, q246b, q246c⟩ := isOf hZ e245 A34_t245
        obtain ⟨_, _, ⟨T246, L246, k246, n246⟩, -, X246, ⟨Lc246, hQ246, l246, y246, z246⟩, st246⟩ := X245.virtualBack hx (y := mt5) (z := mt5) hown (mvT hZ (kw65 hw)) (mvT hZ (kw66 hw)) (notFace_of_selects (args := #[]) (mvT hZ (kw68 hw))) (mvT hZ (kw68 hw)) (mvT hZ (kw67 hw)) (by decide) (backOf (W := 0) (rm_gt l Z a0 hw [] o34 b2_c35 ((((xlaw_2.toInt64).toInt32).toInt64).toInt32) (List.replicate 63 (.int (0 : Int32))) T245.heap n0 Z245 P245_1 P245_10) hZ (kw69 hw) (kw2 hw) (by decide) (by decide)) q246a q246c (g := (mkF m 224 #[.val (.int xlaw_1), .val (.int xlaw_2), .val (.int xlaw_3), .val (.long ylaw_4), .second, .val (.long ylaw_5), .second, .val (.int xlaw_6), .val (.int ms12_0), .val (.int ms26_0), .val (.int ms40_0), .val (.ref o34), .val (.int (0 : Int32)), .val (.int (0 : Int32)), .val (.int (0 : Int32)), .val (.int xlaw_2), .val (.long ylaw_4), .second, .val (.int (1 : Int32)), .val (.int (1 : Int32))] [(.int (0 : Int32)), (.ref o34)])) rfl (by rw [hml]; rfl) (Steps.refl _) (argsL := [(.int (0 : Int32))]) (rest := []) (lenOf pd2 rfl) rfl (by show 2 * 0 + _ ≤ _; exact Nat.le_of_eq rfl) (hb hby at_224) (fun _ _ => ⟨rfl, e245, (by decide : 7 + 0 ≤ _), (by decide : 778 + 0 ≤ _)⟩)
        dsimp only [Pt.U, Pt.locs, Pt.cells, Pt.slots] at X246 l246 y246 z246 st246 hQ246
        subst l246 y246 z246
        obtain ⟨rfl, Nq246, e246⟩ := hQ246
        have N246 := Fr.app N245 Nq246
        refine Wq.steps st246 ?_
        show Wq _ _ _ _ _ (T246.setTop (mkF m 227 #[.val (.int xlaw_1), .val (.int xlaw_2), .val (.int xlaw_3), .val (.long ylaw_4), .second, .val (.long ylaw_5), .second, .val (.int xlaw_6), .val (.int ms12_0), .val (.int ms26_0), .val (.int ms40_0), .val (.ref o34), .val (.int (0 : Int32)), .val (.int (0 : Int32)), .val (.int (0 : Int32)), .val (.int xlaw_2), .val (.long ylaw_4), .second, .val (.int (1 : Int32)), .val (.int (1 : Int32))] [(.int ((((xlaw_2.toInt64).toInt32).toInt64).toInt32))]))
        refine Ow.iload X246 hx (pc' := 229) (hb hby at_227) rfl ?_
        refine Ow.icmpNo X246 hx (pc' := 232) (hb hby at_229) (teq (by first | (simp only [Int32.toInt32_toInt64]; done) | rfl : ((((xlaw_2.toInt64).toInt32).toInt64).toInt32) = xlaw_2)).2 ?_
        refine Ow.iconst X246 hx (pc' := 233) (hb hby at_232) (z := (1 : Int32)) rfl ?_
        refine Ow.goto X246 hx (pc' := 237) (hb hby at_233) (by decide) (by decide) ?_
        refine Ow.istore X246 hx (pc' := 239) (hb hby at_237) (l' := #[.val (.int xlaw_1), .val (.int xlaw_2), .val (.int xlaw_3), .val (.long ylaw_4), .second, .val (.long ylaw_5), .second, .val (.int xlaw_6), .val (.int ms12_0), .val (.int ms26_0), .val (.int ms40_0), .val (.ref o34), .val (.int (0 : Int32)), .val (.int (0 : Int32)), .val (.int (0 : Int32)), .val (.int xlaw_2), .val (.long ylaw_4), .second, .val (.int (1 : Int32)), .val (.int (1 : Int32))]) rfl ?_
        refine Ow.aload X246 hx (pc' := 241) (hb hby at_239) rfl rfl ?_
        refine Ow.iload X246 hx (pc' := 243) (hb hby at_241) rfl ?_
        obtain ⟨cq247, kq247, q247a, q247b, q247c⟩ := isOf hZ e246 A34_t245
        obtain ⟨_, _, ⟨T247, L247, k247, n247⟩, -, X247, ⟨Lc247, hQ247, l247, y247, z247⟩, st247⟩ := X246.virtualBack hx (y := mt9) (z := mt9) hown (mvT hZ (kw60 hw)) (mvT hZ (kw61 hw)) (notFace_of_selects (args := #[]) (mvT hZ (kw63 hw))) (mvT hZ (kw63 hw)) (mvT hZ (kw62 hw)) (by decide) (backOf (W := 0) (rm_un10i l Z a0 hw [] o34 b2_c35 b4_c35 b6_c35 b8_c35 b10_c35 b12_c35 (1 : Int32) (1 : Int32) (5 : Int32) ((((xlaw_2.toInt64).toInt32).toInt64).toInt32) (List.replicate 63 (.int (0 : Int32))) ylaw_4 (List.replicate 63 (.long (0 : Int64))) (0 : Int32) (0 : Int32) (0 : Int32) (List.replicate 252 (.int (0 : Int32))) (xlaw_1.toInt64) (((xlaw_2.toInt64).toInt32).toInt64) (0 : Int64) (0 : Int64) (List.replicate 252 (.long (0 : Int64))) T245.heap n0 Z245 A34_t245 P245_1 P245_2 P245_3 P245_4 P245_5 P245_6 P245_7 P245_8 P245_9 P245_11f g_o34 P245_10 g_b2_c35 (Ne.symm ne_o34_b2_c35) P37_10_t245 g_b6_c35 (Ne.symm ne_o34_b6_c35) P244_10_t245 g_b10_c35 (Ne.symm ne_o34_b10_c35) P244_11_t245 g_b12_c35 (Ne.symm ne_o34_b12_c35) ne_b2_c35_b6_c35 ne_b2_c35_b10_c35 ne_b2_c35_b12_c35 ne_b6_c35_b10_c35 ne_b6_c35_b12_c35 ne_b10_c35_b12_c35) hZ (kw64 hw) (kw2 hw) (by decide) (by decide)) q247a q247c (g := (mkF m 243 #[.val (.int xlaw_1), .val (.int xlaw_2), .val (.int xlaw_3), .val (.long ylaw_4), .second, .val (.long ylaw_5), .second, .val (.int xlaw_6), .val (.int ms12_0), .val (.int ms26_0), .val (.int ms40_0), .val (.ref o34), .val (.int (0 : Int32)), .val (.int (0 : Int32)), .val (.int (0 : Int32)), .val (.int xlaw_2), .val (.long ylaw_4), .second, .val (.int (1 : Int32)), .val (.int (1 : Int32))] [(.int (0 : Int32)), (.ref o34)])) rfl (by rw [hml]; rfl) (Steps.refl _) (argsL := [(.int (0 : Int32))]) (rest := []) (lenOf pd7 rfl) rfl (by show 2 * 0 + _ ≤ _; exact Nat.le_of_eq rfl) (hb hby at_243) (fun _ _ => ⟨rfl, e246, (by decide : 7 + 0 ≤ _), (by decide : 778 + 0 ≤ _)⟩)
        dsimp only [Pt.U, Pt.locs, Pt.cells, Pt.slots] at X247 l247 y247 z247 st247 hQ247
        subst l247 y247 z247
        obtain ⟨rfl, Nq247, Kq247, P247_0, P247_1, P247_2, P247_3, P247_4, P247_5, P247_6, P247_7, P247_8, P247_9, P247_10, P247_11⟩ := hQ247
        have N247 := Fr.app N246 Nq247
        have K247 : Keep h0 T247.heap [] := K245.trans Kq247 (allS (P := fun x => x ∈ [] ∨ h0.size ≤ x) (Or.inr sz_o34) (allS (P := fun x => x ∈ [] ∨ h0.size ≤ x) (Or.inr sz_b2_c35) all0))
        have Z247 : n0 ≤ T247.heap.size := Nat.le_trans Z245 Kq247.1
        have A34_t247 := A34_t245.keep Kq247
        have P35_10_t247 := P35_10_t245.keep Kq247 (ninS (Ne.symm ne_o34_b8_c35) (ninS (Ne.symm ne_b2_c35_b8_c35) nin0))
        have P37_10_t247 := P37_10_t245.keep Kq247 (ninS (Ne.symm ne_o34_b6_c35) (ninS (Ne.symm ne_b2_c35_b6_c35) nin0))
        have P244_10_t247 := P244_10_t245.keep Kq247 (ninS (Ne.symm ne_o34_b10_c35) (ninS (Ne.symm ne_b2_c35_b10_c35) nin0))
        have P244_11_t247 := P244_11_t245.keep Kq247 (ninS (Ne.symm ne_o34_b12_c35) (ninS (Ne.symm ne_b2_c35_b12_c35) nin0))
        have P244_13_t247 := P244_13_t245.keep Kq247 (ninS (Ne.symm ne_o34_b4_c35) (ninS (Ne.symm ne_b2_c35_b4_c35) nin0))
        have e247 : T247.heap = T247.heap := rfl
        have P247_11f : Fld Z T247.heap o34 "com/example/tauten/tauten/Trail" "epoch" "I" (.int (6 : Int32)) := P247_11
        refine Wq.steps st247 ?_
        show Wq _ _ _ _ _ (T247.setTop (mkF m 246 #[.val (.int xlaw_1), .val (.int xlaw_2), .val (.int xlaw_3), .val (.long ylaw_4), .second, .val (.long ylaw_5), .second, .val (.int xlaw_6), .val (.int ms12_0), .val (.int ms26_0), .val (.int ms40_0), .val (.ref o34), .val (.int (0 : Int32)), .val (.int (0 : Int32)), .val (.int (0 : Int32)), .val (.int xlaw_2), .val (.long ylaw_4), .second, .val (.int (1 : Int32)), .val (.int (1 : Int32))] []))
        refine Ow.iload X247 hx (pc' := 248) (hb hby at_246) rfl ?_
        refine Ow.ifNo X247 hx (pc' := 251) (hb hby at_248) ((if0 _ _).trans (feq (by decide : ¬ ((1 : Int32) = (0 : Int32)))).1) ?_
        refine Ow.aload X247 hx (pc' := 253) (hb hby at_251) rfl rfl ?_
        refine Ow.iload X247 hx (pc' := 255) (hb hby at_253) rfl ?_
        obtain ⟨cq248, kq248, q248a, q248b, q248c⟩ := isOf hZ e247 A34_t247
        obtain ⟨_, _, ⟨T248, L248, k248, n248⟩, -, X248, ⟨Lc248, hQ248, l248, y248, z248⟩, st248⟩ := X247.virtualBack hx (y := mt5) (z := mt5) hown (mvT hZ (kw65 hw)) (mvT hZ (kw66 hw)) (notFace_of_selects (args := #[]) (mvT hZ (kw68 hw))) (mvT hZ (kw68 hw)) (mvT hZ (kw67 hw)) (by decide) (backOf (W := 0) (rm_gt l Z a0 hw [] o34 b2_c35 ((xlaw_1.toInt64).toInt32) (List.replicate 63 (.int (0 : Int32))) T247.heap n0 Z247 P247_1 P247_10) hZ (kw69 hw) (kw2 hw) (by decide) (by decide)) q248a q248c (g := (mkF m 255 #[.val (.int xlaw_1), .val (.int xlaw_2), .val (.int xlaw_3), .val (.long ylaw_4), .second, .val (.long ylaw_5), .second, .val (.int xlaw_6), .val (.int ms12_0), .val (.int ms26_0), .val (.int ms40_0), .val (.ref o34), .val (.int (0 : Int32)), .val (.int (0 : Int32)), .val (.int (0 : Int32)), .val (.int xlaw_2), .val (.long ylaw_4), .second, .val (.int (1 : Int32)), .val (.int (1 : Int32))] [(.int (0 : Int32)), (.ref o34)])) rfl (by rw [hml]; rfl) (Steps.refl _) (argsL := [(.int (0 : Int32))]) (rest := []) (lenOf pd2 rfl) rfl (by show 2 * 0 + _ ≤ _; exact Nat.le_of_eq rfl) (hb hby at_255) (fun _ _ => ⟨rfl, e247, (by decide : 7 + 0 ≤ _), (by decide : 778 + 0 ≤ _)⟩)
        dsimp only [Pt.U, Pt.locs, Pt.cells, Pt.slots] at X248 l248 y248 z248 st248 hQ248
        subst l248 y248 z248
        obtain ⟨rfl, Nq248, e248⟩ := hQ248
        have N248 := Fr.app N247 Nq248
        refine Wq.steps st248 ?_
        show Wq _ _ _ _ _ (T248.setTop (mkF m 258 #[.val (.int xlaw_1), .val (.int xlaw_2), .val (.int xlaw_3), .val (.long ylaw_4), .second, .val (.long ylaw_5), .second, .val (.int xlaw_6), .val (.int ms12_0), .val (.int ms26_0), .val (.int ms40_0), .val (.ref o34), .val (.int (0 : Int32)), .val (.int (0 : Int32)), .val (.int (0 : Int32)), .val (.int xlaw_2), .val (.long ylaw_4), .second, .val (.int (1 : Int32)), .val (.int (1 : Int32))] [(.int ((xlaw_1.toInt64).toInt32))]))
        refine Ow.iloadN X248 hx (pc' := 259) (hb hby at_258) rfl ?_
        refine Ow.icmpNo X248 hx (pc' := 262) (hb hby at_259) (teq (by first | (simp only [Int32.toInt32_toInt64]; done) | rfl : ((xlaw_1.toInt64).toInt32) = xlaw_1)).2 ?_
        refine Ow.aload X248 hx (pc' := 264) (hb hby at_262) rfl rfl ?_
        refine Ow.iload X248 hx (pc' := 266) (hb hby at_264) rfl ?_
        obtain ⟨cq249, kq249, q249a, q249b, q249c⟩ := isOf hZ e248 A34_t247
        obtain ⟨_, _, ⟨T249, L249, k249, n249⟩, -, X249, ⟨Lc249, hQ249, l249, y249, z249⟩, st249⟩ := X248.virtualBack hx (y := mt6) (z := mt6) hown (mvT hZ (kw70 hw)) (mvT hZ (kw71 hw)) (notFace_of_selects (args := #[]) (mvT hZ (kw73 hw))) (mvT hZ (kw73 hw)) (mvT hZ (kw72 hw)) (by decide) (backOf (W := 0) (rm_gl l Z a0 hw [] o34 b6_c35 ylaw_4 (List.replicate 63 (.long (0 : Int64))) T247.heap n0 Z247 P247_3 P37_10_t247) hZ (kw74 hw) (kw2 hw) (by decide) (by decide)) q249a q249c (g := (mkF m 266 #[.val (.int xlaw_1), .val (.int xlaw_2), .val (.int xlaw_3), .val (.long ylaw_4), .second, .val (.long ylaw_5), .second, .val (.int xlaw_6), .val (.int ms12_0), .val (.int ms26_0), .val (.int ms40_0), .val (.ref o34), .val (.int (0 : Int32)), .val (.int (0 : Int32)), .val (.int (0 : Int32)), .val (.int xlaw_2), .val (.long ylaw_4), .second, .val (.int (1 : Int32)), .val (.int (1 : Int32))] [(.int (0 : Int32)), (.ref o34)])) rfl (by rw [hml]; rfl) (Steps.refl _) (argsL := [(.int (0 : Int32))]) (rest := []) (lenOf pd8 rfl) rfl (by show 2 * 0 + _ ≤ _; exact Nat.le_of_eq rfl) (hb hby at_266) (fun _ _ => ⟨rfl, e248, (by decide : 7 + 0 ≤ _), (by decide : 778 + 0 ≤ _)⟩)
        dsimp only [Pt.U, Pt.locs, Pt.cells, Pt.slots] at X249 l249 y249 z249 st249 hQ249
        subst l249 y249 z249
        obtain ⟨rfl, Nq249, e249⟩ := hQ249
        have N249 := Fr.app N248 Nq249
        refine Wq.steps st249 ?_
        show Wq _ _ _ _ _ (T249.setTop (mkF m 269 #[.val (.int xlaw_1), .val (.int xlaw_2), .val (.int xlaw_3), .val (.long ylaw_4), .second, .val (.long ylaw_5), .second, .val (.int xlaw_6), .val (.int ms12_0), .val (.int ms26_0), .val (.int ms40_0), .val (.ref o34), .val (.int (0 : Int32)), .val (.int (0 : Int32)), .val (.int (0 : Int32)), .val (.int xlaw_2), .val (.long ylaw_4), .second, .val (.int (1 : Int32)), .val (.int (1 : Int32))] [(.long ylaw_4)]))
        refine Ow.lloadN X249 hx (pc' := 270) (hb hby at_269) rfl ?_
        refine Ow.lcmp X249 hx (pc' := 271) (hb hby at_270)  ?_
        refine Ow.ifNo X249 hx (pc' := 274) (hb hby at_271) ((if0 _ _).trans (teq ((lw_eq _ _).mpr (rfl : ylaw_4 = ylaw_4))).2) ?_
        refine Ow.iconst X249 hx (pc' := 275) (hb hby at_274) (z := (1 : Int32)) rfl ?_
        refine Ow.goto X249 hx (pc' := 279) (hb hby at_275) (by decide) (by decide) ?_
        refine Ow.istore X249 hx (pc' := 281) (hb hby at_279) (l' := #[.val (.int xlaw_1), .val (.int xlaw_2), .val (.int xlaw_3), .val (.long ylaw_4), .second, .val (.long ylaw_5), .second, .val (.int xlaw_6), .val (.int ms12_0), .val (.int ms26_0), .val (.int ms40_0), .val (.ref o34), .val (.int (0 : Int32)), .val (.int (0 : Int32)), .val (.int (0 : Int32)), .val (.int xlaw_2), .val (.long ylaw_4), .second, .val (.int (1 : Int32)), .val (.int (1 : Int32))]) rfl ?_
        refine Ow.iload X249 hx (pc' := 283) (hb hby at_281) rfl ?_
        exact Wq.ret X249 (BodyLoose.notSynchronized Bd) (rv := some (.int (1 : Int32))) (fun h => by rw [Bd.returns] at h; cases h) (fun _ hr => retN X249 hx (t := .boolean) Bd.returns (by simp) (hb hby at_283) hr) (by decide) (by decide) ⟨rfl, N249⟩
      · skip
        refine Ow.ifNo X240 hx (pc' := 146) (hb hby at_143) ((if0 _ _).trans (feq hc143).1) ?_
        refine Ow.aload X240 hx (pc' := 148) (hb hby at_146) rfl rfl ?_
        refine Ow.iload X240 hx (pc' := 150) (hb hby at_148) rfl ?_
        refine Ow.lload X240 hx (pc' := 152) (hb hby at_150) rfl ?_
        refine Ow.ldc2Long X240 hx hZ (pc' := 155) hown (kw75 hw) (hb hby at_152) ?_
        refine Ow.lxor X240 hx (pc' := 156) (hb hby at_155) (z := (ylaw_5 ^^^ (-1 : Int64))) rfl ?_
        obtain ⟨cq250, kq250, q250a, q250b, q250c⟩ := isOf hZ e240 A34_t240
        obtain ⟨_, _, ⟨T250, L250, k250, n250⟩, -, X250, ⟨Lc250, hQ250, l250, y250, z250⟩, st250⟩ := X240.virtualBack hx (y := mt10) (z := mt10) hown (mvT hZ (kw55 hw)) (mvT hZ (kw56 hw)) (notFace_of_selects (args := #[]) (mvT hZ (kw58 hw))) (mvT hZ (kw58 hw)) (mvT hZ (kw57 hw)) (by decide) (backOf (W := 0) (rm_sl2 l Z a0 hw [] o34 (ylaw_5 ^^^ (-1 : Int64)) b2_c35 b4_c35 b6_c35 b8_c35 b10_c35 b12_c35 (1 : Int32) (1 : Int32) (3 : Int32) ylaw_4 (List.replicate 63 (.long (0 : Int64))) (0 : Int32) (List.replicate 63 (.int (0 : Int32))) (0 : Int32) (0 : Int32) (0 : Int32) (0 : Int32) (List.replicate 252 (.int (0 : Int32))) (xlaw_1.toInt64) (xlaw_2.toInt64) (0 : Int64) (0 : Int64) (List.replicate 252 (.long (0 : Int64))) T240.heap n0 Z240 (by decide) A34_t240 P240_1 P240_2 P240_3 P240_4 P240_5 P240_6 P240_7 P240_8 P240_12 P240_9 g_o34 P37_10_t240 g_b6_c35 (Ne.symm ne_o34_b6_c35) P35_10_t240 g_b8_c35 (Ne.symm ne_o34_b8_c35) P240_10 g_b10_c35 (Ne.symm ne_o34_b10_c35) P240_11 g_b12_c35 (Ne.symm ne_o34_b12_c35) ne_b6_c35_b8_c35 ne_b6_c35_b10_c35 ne_b6_c35_b12_c35 ne_b8_c35_b10_c35 ne_b8_c35_b12_c35 ne_b10_c35_b12_c35 (by decide)) hZ (kw59 hw) (kw2 hw) (by decide) (by decide)) q250a q250c (g := (mkF m 156 #[.val (.int xlaw_1), .val (.int xlaw_2), .val (.int xlaw_3), .val (.long ylaw_4), .second, .val (.long ylaw_5), .second, .val (.int xlaw_6), .val (.int ms12_0), .val (.int ms26_0), .val (.int ms40_0), .val (.ref o34), .val (.int (0 : Int32)), .val (.int (0 : Int32)), .val (.int (0 : Int32)), .val (.int xlaw_2), .val (.long ylaw_4), .second, .val (.int (1 : Int32)), .unset] [(.long (ylaw_5 ^^^ (-1 : Int64))), (.int (0 : Int32)), (.ref o34)])) rfl (by rw [hml]; rfl) (Steps.refl _) (argsL := [(.int (0 : Int32)), (.long (ylaw_5 ^^^ (-1 : Int64)))]) (rest := []) (lenOf pd5 rfl) rfl (by show 2 * 0 + _ ≤ _; exact Nat.le_of_eq rfl) (hb hby at_156) (fun _ _ => ⟨rfl, e240, (by decide : 7 + 0 ≤ _), (by decide : 778 + 0 ≤ _)⟩)
        dsimp only [Pt.U, Pt.locs, Pt.cells, Pt.slots] at X250 l250 y250 z250 st250 hQ250
        subst l250 y250 z250
        obtain ⟨rfl, Nq250, Kq250, P250_0, P250_1, P250_2, P250_3, P250_4, P250_5, P250_6, P250_7, P250_8, P250_9, P250_10, P250_11, P250_12, P250_13, P250_14⟩ := hQ250
        have N250 := Fr.app N240 Nq250
        have K250 : Keep h0 T250.heap [] := K240.trans Kq250 (allS (P := fun x => x ∈ [] ∨ h0.size ≤ x) (Or.inr sz_o34) (allS (P := fun x => x ∈ [] ∨ h0.size ≤ x) (Or.inr sz_b12_c35) (allS (P := fun x => x ∈ [] ∨ h0.size ≤ x) (Or.inr sz_b10_c35) (allS (P := fun x => x ∈ [] ∨ h0.size ≤ x) (Or.inr sz_b8_c35) (allS (P := fun x => x ∈ [] ∨ h0.size ≤ x) (Or.inr sz_b6_c35) all0)))))
        have Z250 : n0 ≤ T250.heap.size := Nat.le_trans Z240 Kq250.1
        have A34_t250 := A34_t240.keep Kq250
        have P240_13_t250 := P240_13.keep Kq250 (ninS (Ne.symm ne_o34_b4_c35) (ninS ne_b4_c35_b12_c35 (ninS ne_b4_c35_b10_c35 (ninS ne_b4_c35_b8_c35 (ninS ne_b4_c35_b6_c35 nin0)))))
        have P240_14_t250 := P240_14.keep Kq250 (ninS (Ne.symm ne_o34_b2_c35) (ninS ne_b2_c35_b12_c35 (ninS ne_b2_c35_b10_c35 (ninS ne_b2_c35_b8_c35 (ninS ne_b2_c35_b6_c35 nin0)))))
        have e250 : T250.heap = T250.heap := rfl
        refine Wq.steps st250 ?_
        show Wq _ _ _ _ _ (T250.setTop (mkF m 159 #[.val (.int xlaw_1), .val (.int xlaw_2), .val (.int xlaw_3), .val (.long ylaw_4), .second, .val (.long ylaw_5), .second, .val (.int xlaw_6), .val (.int ms12_0), .val (.int ms26_0), .val (.int ms40_0), .val (.ref o34), .val (.int (0 : Int32)), .val (.int (0 : Int32)), .val (.int (0 : Int32)), .val (.int xlaw_2), .val (.long ylaw_4), .second, .val (.int (1 : Int32)), .unset] []))
        refine Ow.aload X250 hx (pc' := 161) (hb hby at_159) rfl rfl ?_
        refine Ow.iload X250 hx (pc' := 163) (hb hby at_161) rfl ?_
        obtain ⟨cq251, kq251, q251a, q251b, q251c⟩ := isOf hZ e250 A34_t250
        obtain ⟨_, _, ⟨T251, L251, k251, n251⟩, -, X251, ⟨Lc251, hQ251, l251, y251, z251⟩, st251⟩ := X250.virtualBack hx (y := mt9) (z := mt9) hown (mvT hZ (kw60 hw)) (mvT hZ (kw61 hw)) (notFace_of_selects (args := #[]) (mvT hZ (kw63 hw))) (mvT hZ (kw63 hw)) (mvT hZ (kw62 hw)) (by decide) (backOf (W := 0) (rm_un31il l Z a0 hw [] o34 b2_c35 b4_c35 b6_c35 b8_c35 b10_c35 b12_c35 (1 : Int32) (1 : Int32) (3 : Int32) xlaw_3 (List.replicate 63 (.int (0 : Int32))) (ylaw_5 ^^^ (-1 : Int64)) (List.replicate 63 (.long (0 : Int64))) (0 : Int32) (0 : Int32) (List.replicate 252 (.int (0 : Int32))) (xlaw_1.toInt64) (xlaw_2.toInt64) ylaw_4 (0 : Int64) (List.replicate 252 (.long (0 : Int64))) T250.heap n0 Z250 A34_t250 P250_1 P250_2 P250_3 P250_4 P250_5 P250_6 P250_7 P250_8 P250_12 P250_9 g_o34 P240_14_t250 g_b2_c35 (Ne.symm ne_o34_b2_c35) P250_14 g_b6_c35 (Ne.symm ne_o34_b6_c35) P250_10 g_b10_c35 (Ne.symm ne_o34_b10_c35) P250_11 g_b12_c35 (Ne.symm ne_o34_b12_c35) ne_b2_c35_b6_c35 ne_b2_c35_b10_c35 ne_b2_c35_b12_c35 ne_b6_c35_b10_c35 ne_b6_c35_b12_c35 ne_b10_c35_b12_c35) hZ (kw64 hw) (kw2 hw) (by decide) (by decide)) q251a q251c (g := (mkF m 163 #[.val (.int xlaw_1), .val (.int xlaw_2), .val (.int xlaw_3), .val (.long ylaw_4), .second, .val (.long ylaw_5), .second, .val (.int xlaw_6), .val (.int ms12_0), .val (.int ms26_0), .val (.int ms40_0), .val (.ref o34), .val (.int (0 : Int32)), .val (.int (0 : Int32)), .val (.int (0 : Int32)), .val (.int xlaw_2), .val (.long ylaw_4), .second, .val (.int (1 : Int32)), .unset] [(.int (1 : Int32)), (.ref o34)])) rfl (by rw [hml]; rfl) (Steps.refl _) (argsL := [(.int (1 : Int32))]) (rest := []) (lenOf pd7 rfl) rfl (by show 2 * 0 + _ ≤ _; exact Nat.le_of_eq rfl) (hb hby at_163) (fun _ _ => ⟨rfl, e250, (by decide : 7 + 0 ≤ _), (by decide : 778 + 0 ≤ _)⟩)
        dsimp only [Pt.U, Pt.locs, Pt.cells, Pt.slots] at X251 l251 y251 z251 st251 hQ251
        subst l251 y251 z251
        obtain ⟨rfl, Nq251, Kq251, P251_0, P251_1, P251_2, P251_3, P251_4, P251_5, P251_6, P251_7, P251_8, P251_9, P251_10, P251_11, P251_12⟩ := hQ251
        have N251 := Fr.app N250 Nq251
        have K251 : Keep h0 T251.heap [] := K250.trans Kq251 (allS (P := fun x => x ∈ [] ∨ h0.size ≤ x) (Or.inr sz_o34) (allS (P := fun x => x ∈ [] ∨ h0.size ≤ x) (Or.inr sz_b6_c35) (allS (P := fun x => x ∈ [] ∨ h0.size ≤ x) (Or.inr sz_b2_c35) all0)))
        have Z251 : n0 ≤ T251.heap.size := Nat.le_trans Z250 Kq251.1
        have A34_t251 := A34_t250.keep Kq251
        have P240_13_t251 := P240_13_t250.keep Kq251 (ninS (Ne.symm ne_o34_b4_c35) (ninS ne_b4_c35_b6_c35 (ninS (Ne.symm ne_b2_c35_b4_c35) nin0)))
        have P250_10_t251 := P250_10.keep Kq251 (ninS (Ne.symm ne_o34_b10_c35) (ninS (Ne.symm ne_b6_c35_b10_c35) (ninS (Ne.symm ne_b2_c35_b10_c35) nin0)))
        have P250_11_t251 := P250_11.keep Kq251 (ninS (Ne.symm ne_o34_b12_c35) (ninS (Ne.symm ne_b6_c35_b12_c35) (ninS (Ne.symm ne_b2_c35_b12_c35) nin0)))
        have P250_13_t251 := P250_13.keep Kq251 (ninS (Ne.symm ne_o34_b8_c35) (ninS (Ne.symm ne_b6_c35_b8_c35) (ninS (Ne.symm ne_b2_c35_b8_c35) nin0)))
        have e251 : T251.heap = T251.heap := rfl
        have P251_12f : Fld Z T251.heap o34 "com/example/tauten/tauten/Trail" "epoch" "I" (.int (4 : Int32)) := P251_12
        refine Wq.steps st251 ?_
        show Wq _ _ _ _ _ (T251.setTop (mkF m 166 #[.val (.int xlaw_1), .val (.int xlaw_2), .val (.int xlaw_3), .val (.long ylaw_4), .second, .val (.long ylaw_5), .second, .val (.int xlaw_6), .val (.int ms12_0), .val (.int ms26_0), .val (.int ms40_0), .val (.ref o34), .val (.int (0 : Int32)), .val (.int (0 : Int32)), .val (.int (0 : Int32)), .val (.int xlaw_2), .val (.long ylaw_4), .second, .val (.int (1 : Int32)), .unset] []))
        refine Ow.aload X251 hx (pc' := 168) (hb hby at_166) rfl rfl ?_
        refine Ow.iload X251 hx (pc' := 170) (hb hby at_168) rfl ?_
        obtain ⟨cq252, kq252, q252a, q252b, q252c⟩ := isOf hZ e251 A34_t251
        obtain ⟨_, _, ⟨T252, L252, k252, n252⟩, -, X252, ⟨Lc252, hQ252, l252, y252, z252⟩, st252⟩ := X251.virtualBack hx (y := mt5) (z := mt5) hown (mvT hZ (kw65 hw)) (mvT hZ (kw66 hw)) (notFace_of_selects (args := #[]) (mvT hZ (kw68 hw))) (mvT hZ (kw68 hw)) (mvT hZ (kw67 hw)) (by decide) (backOf (W := 0) (rm_gt l Z a0 hw [] o34 b2_c35 ((xlaw_2.toInt64).toInt32) (List.replicate 63 (.int (0 : Int32))) T251.heap n0 Z251 P251_1 P251_11) hZ (kw69 hw) (kw2 hw) (by decide) (by decide)) q252a q252c (g := (mkF m 170 #[.val (.int xlaw_1), .val (.int xlaw_2), .val (.int xlaw_3), .val (.long ylaw_4), .second, .val (.long ylaw_5), .second, .val (.int xlaw_6), .val (.int ms12_0), .val (.int ms26_0), .val (.int ms40_0), .val (.ref o34), .val (.int (0 : Int32)), .val (.int (0 : Int32)), .val (.int (0 : Int32)), .val (.int xlaw_2), .val (.long ylaw_4), .second, .val (.int (1 : Int32)), .unset] [(.int (0 : Int32)), (.ref o34)])) rfl (by rw [hml]; rfl) (Steps.refl _) (argsL := [(.int (0 : Int32))]) (rest := []) (lenOf pd2 rfl) rfl (by show 2 * 0 + _ ≤ _; exact Nat.le_of_eq rfl) (hb hby at_170) (fun _ _ => ⟨rfl, e251, (by decide : 7 + 0 ≤ _), (by decide : 778 + 0 ≤ _)⟩)
        dsimp only [Pt.U, Pt.locs, Pt.cells, Pt.slots] at X252 l252 y252 z252 st252 hQ252
        subst l252 y252 z252
        obtain ⟨rfl, Nq252, e252⟩ := hQ252
        have N252 := Fr.app N251 Nq252
        refine Wq.steps st252 ?_
        show Wq _ _ _ _ _ (T252.setTop (mkF m 173 #[.val (.int xlaw_1), .val (.int xlaw_2), .val (.int xlaw_3), .val (.long ylaw_4), .second, .val (.long ylaw_5), .second, .val (.int xlaw_6), .val (.int ms12_0), .val (.int ms26_0), .val (.int ms40_0), .val (.ref o34), .val (.int (0 : Int32)), .val (.int (0 : Int32)), .val (.int (0 : Int32)), .val (.int xlaw_2), .val (.long ylaw_4), .second, .val (.int (1 : Int32)), .unset] [(.int ((xlaw_2.toInt64).toInt32))]))
        refine Ow.iload X252 hx (pc' := 175) (hb hby at_173) rfl ?_
        refine Ow.icmpNo X252 hx (pc' := 178) (hb hby at_175) (teq (by first | (simp only [Int32.toInt32_toInt64]; done) | rfl : ((xlaw_2.toInt64).toInt32) = xlaw_2)).2 ?_
        refine Ow.aload X252 hx (pc' := 180) (hb hby at_178) rfl rfl ?_
        refine Ow.iload X252 hx (pc' := 182) (hb hby at_180) rfl ?_
        obtain ⟨cq253, kq253, q253a, q253b, q253c⟩ := isOf hZ e252 A34_t251
        obtain ⟨_, _, ⟨T253, L253, k253, n253⟩, -, X253, ⟨Lc253, hQ253, l253, y253, z253⟩, st253⟩ := X252.virtualBack hx (y := mt6) (z := mt6) hown (mvT hZ (kw70 hw)) (mvT hZ (kw71 hw)) (notFace_of_selects (args := #[]) (mvT hZ (kw73 hw))) (mvT hZ (kw73 hw)) (mvT hZ (kw72 hw)) (by decide) (backOf (W := 0) (rm_gl l Z a0 hw [] o34 b6_c35 ylaw_4 (List.replicate 63 (.long (0 : Int64))) T251.heap n0 Z251 P251_3 P251_9) hZ (kw74 hw) (kw2 hw) (by decide) (by decide)) q253a q253c (g := (mkF m 182 #[.val (.int xlaw_1), .val (.int xlaw_2), .val (.int xlaw_3), .val (.long ylaw_4), .second, .val (.long ylaw_5), .second, .val (.int xlaw_6), .val (.int ms12_0), .val (.int ms26_0), .val (.int ms40_0), .val (.ref o34), .val (.int (0 : Int32)), .val (.int (0 : Int32)), .val (.int (0 : Int32)), .val (.int xlaw_2), .val (.long ylaw_4), .second, .val (.int (1 : Int32)), .unset] [(.int (0 : Int32)), (.ref o34)])) rfl (by rw [hml]; rfl) (Steps.refl _) (argsL := [(.int (0 : Int32))]) (rest := []) (lenOf pd8 rfl) rfl (by show 2 * 0 + _ ≤ _; exact Nat.le_of_eq rfl) (hb hby at_182) (fun _ _ => ⟨rfl, e252, (by decide : 7 + 0 ≤ _), (by decide : 778 + 0 ≤ _)⟩)
        dsimp only [Pt.U, Pt.locs, Pt.cells, Pt.slots] at X253 l253 y253 z253 st253 hQ253
        subst l253 y253 z253
        obtain ⟨rfl, Nq253, e253⟩ := hQ253
        have N253 := Fr.app N252 Nq253
        refine Wq.steps st253 ?_
        show Wq _ _ _ _ _ (T253.setTop (mkF m 185 #[.val (.int xlaw_1), .val (.int xlaw_2), .val (.int xlaw_3), .val (.long ylaw_4), .second, .val (.long ylaw_5), .second, .val (.int xlaw_6), .val (.int ms12_0), .val (.int ms26_0), .val (.int ms40_0), .val (.ref o34), .val (.int (0 : Int32)), .val (.int (0 : Int32)), .val (.int (0 : Int32)), .val (.int xlaw_2), .val (.long ylaw_4), .second, .val (.int (1 : Int32)), .unset] [(.long ylaw_4)]))
        refine Ow.lload X253 hx (pc' := 187) (hb hby at_185) rfl ?_
        refine Ow.lcmp X253 hx (pc' := 188) (hb hby at_187)  ?_
        refine Ow.ifNo X253 hx (pc' := 191) (hb hby at_188) ((if0 _ _).trans (teq ((lw_eq _ _).mpr (rfl : ylaw_4 = ylaw_4))).2) ?_
        refine Ow.iconst X253 hx (pc' := 192) (hb hby at_191) (z := (1 : Int32)) rfl ?_
        refine Ow.goto X253 hx (pc' := 196) (hb hby at_192) (by decide) (by decide) ?_
        refine Ow.istore X253 hx (pc' := 198) (hb hby at_196) (l' := #[.val (.int xlaw_1), .val (.int xlaw_2), .val (.int xlaw_3), .val (.long ylaw_4), .second, .val (.long ylaw_5), .second, .val (.int xlaw_6), .val (.int ms12_0), .val (.int ms26_0), .val (.int ms40_0), .val (.ref o34), .val (.int (0 : Int32)), .val (.int (0 : Int32)), .val (.int (0 : Int32)), .val (.int xlaw_2), .val (.long ylaw_4), .second, .val (.int (1 : Int32)), .val (.int (1 : Int32))]) rfl ?_
        refine Ow.aload X253 hx (pc' := 200) (hb hby at_198) rfl rfl ?_
        refine Ow.iload X253 hx (pc' := 202) (hb hby at_200) rfl ?_
        refine Ow.iloadN X253 hx (pc' := 203) (hb hby at_202) rfl ?_
        refine Ow.iloadN X253 hx (pc' := 204) (hb hby at_203) rfl ?_
        refine Ow.ixor X253 hx (pc' := 205) (hb hby at_204) (z := (xlaw_1 ^^^ xlaw_3)) rfl ?_
        obtain ⟨cq254, kq254, q254a, q254b, q254c⟩ := isOf hZ e253 A34_t251
        obtain ⟨_, _, ⟨T254, L254, k254, n254⟩, -, X254, ⟨Lc254, hQ254, l254, y254, z254⟩, st254⟩ := X253.virtualBack hx (y := mt8) (z := mt8) hown (mvT hZ (kw46 hw)) (mvT hZ (kw47 hw)) (notFace_of_selects (args := #[]) (mvT hZ (kw49 hw))) (mvT hZ (kw49 hw)) (mvT hZ (kw48 hw)) (by decide) (backOf (W := 0) (rm_st1 l Z a0 hw [] o34 (xlaw_1 ^^^ xlaw_3) b2_c35 b4_c35 b6_c35 b8_c35 b10_c35 b12_c35 (1 : Int32) (1 : Int32) (4 : Int32) ((xlaw_2.toInt64).toInt32) (List.replicate 63 (.int (0 : Int32))) (3 : Int32) (List.replicate 63 (.int (0 : Int32))) (0 : Int32) (0 : Int32) (-1 : Int32) (0 : Int32) (List.replicate 252 (.int (0 : Int32))) (xlaw_1.toInt64) (xlaw_2.toInt64) ylaw_4 (0 : Int64) (List.replicate 252 (.long (0 : Int64))) T251.heap n0 Z251 (by decide) A34_t251 P251_1 P251_2 P251_3 P251_4 P251_5 P251_6 P251_7 P251_8 P251_10 P251_12f g_o34 P251_11 g_b2_c35 (Ne.symm ne_o34_b2_c35) P240_13_t251 g_b4_c35 (Ne.symm ne_o34_b4_c35) P250_10_t251 g_b10_c35 (Ne.symm ne_o34_b10_c35) P250_11_t251 g_b12_c35 (Ne.symm ne_o34_b12_c35) ne_b2_c35_b4_c35 ne_b2_c35_b10_c35 ne_b2_c35_b12_c35 ne_b4_c35_b10_c35 ne_b4_c35_b12_c35 ne_b10_c35_b12_c35 (by decide)) hZ (kw50 hw) (kw2 hw) (by decide) (by decide)) q254a q254c (g := (mkF m 205 #[.val (.int xlaw_1), .val (.int xlaw_2), .val (.int xlaw_3), .val (.long ylaw_4), .second, .val (.long ylaw_5), .second, .val (.int xlaw_6), .val (.int ms12_0), .val (.int ms26_0), .val (.int ms40_0), .val (.ref o34), .val (.int (0 : Int32)), .val (.int (0 : Int32)), .val (.int (0 : Int32)), .val (.int xlaw_2), .val (.long ylaw_4), .second, .val (.int (1 : Int32)), .val (.int (1 : Int32))] [(.int (xlaw_1 ^^^ xlaw_3)), (.int (0 : Int32)), (.ref o34)])) rfl (by rw [hml]; rfl) (Steps.refl _) (argsL := [(.int (0 : Int32)), (.int (xlaw_1 ^^^ xlaw_3))]) (rest := []) (lenOf pd6 rfl) rfl (by show 2 * 0 + _ ≤ _; exact Nat.le_of_eq rfl) (hb hby at_205) (fun _ _ => ⟨rfl, e253, (by decide : 7 + 0 ≤ _), (by decide : 778 + 0 ≤ _)⟩)
        dsimp only [Pt.U, Pt.locs, Pt.cells, Pt.slots] at X254 l254 y254 z254 st254 hQ254
        subst l254 y254 z254
        obtain ⟨rfl, Nq254, Kq254, P254_0, P254_1, P254_2, P254_3, P254_4, P254_5, P254_6, P254_7, P254_8, P254_9, P254_10, P254_11, P254_12, P254_13, P254_14⟩ := hQ254
        have N254 := Fr.app N253 Nq254
        have K254 : Keep h0 T254.heap [] := K251.trans Kq254 (allS (P := fun x => x ∈ [] ∨ h0.size ≤ x) (Or.inr sz_o34) (allS (P := fun x => x ∈ [] ∨ h0.size ≤ x) (Or.inr sz_b12_c35) (allS (P := fun x => x ∈ [] ∨ h0.size ≤ x) (Or.inr sz_b10_c35) (allS (P := fun x => x ∈ [] ∨ h0.size ≤ x) (Or.inr sz_b4_c35) (allS (P := fun x => x ∈ [] ∨ h0.size ≤ x) (Or.inr sz_b2_c35) all0)))))
        have Z254 : n0 ≤ T254.heap.size := Nat.le_trans Z251 Kq254.1
        have A34_t254 := A34_t251.keep Kq254
        have P250_13_t254 := P250_13_t251.keep Kq254 (ninS (Ne.symm ne_o34_b8_c35) (ninS ne_b8_c35_b12_c35 (ninS ne_b8_c35_b10_c35 (ninS (Ne.symm ne_b4_c35_b8_c35) (ninS (Ne.symm ne_b2_c35_b8_c35) nin0)))))
        have P251_9_t254 := P251_9.keep Kq254 (ninS (Ne.symm ne_o34_b6_c35) (ninS ne_b6_c35_b12_c35 (ninS ne_b6_c35_b10_c35 (ninS (Ne.symm ne_b4_c35_b6_c35) (ninS (Ne.symm ne_b2_c35_b6_c35) nin0)))))
        have e254 : T254.heap = T254.heap := rfl
        refine Wq.steps st254 ?_
        show Wq _ _ _ _ _ (T254.setTop (mkF m 208 #[.val (.int xlaw_1), .val (.int xlaw_2), .val (.int xlaw_3), .val (.long ylaw_4), .second, .val (.long ylaw_5), .second, .val (.int xlaw_6), .val (.int ms12_0), .val (.int ms26_0), .val (.int ms40_0), .val (.ref o34), .val (.int (0 : Int32)), .val (.int (0 : Int32)), .val (.int (0 : Int32)), .val (.int xlaw_2), .val (.long ylaw_4), .second, .val (.int (1 : Int32)), .val (.int (1 : Int32))] []))
        refine Ow.aload X254 hx (pc' := 210) (hb hby at_208) rfl rfl ?_
        refine Ow.iload X254 hx (pc' := 212) (hb hby at_210) rfl ?_
        obtain ⟨cq255, kq255, q255a, q255b, q255c⟩ := isOf hZ e254 A34_t254
        obtain ⟨_, _, ⟨T255, L255, k255, n255⟩, -, X255, ⟨Lc255, hQ255, l255, y255, z255⟩, st255⟩ := X254.virtualBack hx (y := mt9) (z := mt9) hown (mvT hZ (kw60 hw)) (mvT hZ (kw61 hw)) (notFace_of_selects (args := #[]) (mvT hZ (kw63 hw))) (mvT hZ (kw63 hw)) (mvT hZ (kw62 hw)) (by decide) (backOf (W := 0) (rm_un21i l Z a0 hw [] o34 b2_c35 b4_c35 b6_c35 b8_c35 b10_c35 b12_c35 (1 : Int32) (1 : Int32) (4 : Int32) (xlaw_1 ^^^ xlaw_3) (List.replicate 63 (.int (0 : Int32))) ylaw_4 (List.replicate 63 (.long (0 : Int64))) (0 : Int32) (-1 : Int32) (0 : Int32) (List.replicate 252 (.int (0 : Int32))) (xlaw_1.toInt64) (((xlaw_2.toInt64).toInt32).toInt64) ylaw_4 (0 : Int64) (List.replicate 252 (.long (0 : Int64))) T254.heap n0 Z254 A34_t254 P254_1 P254_2 P254_3 P254_4 P254_5 P254_6 P254_7 P254_8 P254_12 P254_9 g_o34 P254_14 g_b2_c35 (Ne.symm ne_o34_b2_c35) P251_9_t254 g_b6_c35 (Ne.symm ne_o34_b6_c35) P254_10 g_b10_c35 (Ne.symm ne_o34_b10_c35) P254_11 g_b12_c35 (Ne.symm ne_o34_b12_c35) ne_b2_c35_b6_c35 ne_b2_c35_b10_c35 ne_b2_c35_b12_c35 ne_b6_c35_b10_c35 ne_b6_c35_b12_c35 ne_b10_c35_b12_c35) hZ (kw64 hw) (kw2 hw) (by decide) (by decide)) q255a q255c (g := (mkF m 212 #[.val (.int xlaw_1), .val (.int xlaw_2), .val (.int xlaw_3), .val (.long ylaw_4), .second, .val (.long ylaw_5), .second, .val (.int xlaw_6), .val (.int ms12_0), .val (.int ms26_0), .val (.int ms40_0), .val (.ref o34), .val (.int (0 : Int32)), .val (.int (0 : Int32)), .val (.int (0 : Int32)), .val (.int xlaw_2), .val (.long ylaw_4), .second, .val (.int (1 : Int32)), .val (.int (1 : Int32))] [(.int (1 : Int32)), (.ref o34)])) rfl (by rw [hml]; rfl) (Steps.refl _) (argsL := [(.int (1 : Int32))]) (rest := []) (lenOf pd7 rfl) rfl (by show 2 * 0 + _ ≤ _; exact Nat.le_of_eq rfl) (hb hby at_212) (fun _ _ => ⟨rfl, e254, (by decide : 7 + 0 ≤ _), (by decide : 778 + 0 ≤ _)⟩)
        dsimp only [Pt.U, Pt.locs, Pt.cells, Pt.slots] at X255 l255 y255 z255 st255 hQ255
        subst l255 y255 z255
        obtain ⟨rfl, Nq255, Kq255, P255_0, P255_1, P255_2, P255_3, P255_4, P255_5, P255_6, P255_7, P255_8, P255_9, P255_10, P255_11⟩ := hQ255
        have N255 := Fr.app N254 Nq255
        have K255 : Keep h0 T255.heap [] := K254.trans Kq255 (allS (P := fun x => x ∈ [] ∨ h0.size ≤ x) (Or.inr sz_o34) (allS (P := fun x => x ∈ [] ∨ h0.size ≤ x) (Or.inr sz_b2_c35) all0))
        have Z255 : n0 ≤ T255.heap.size := Nat.le_trans Z254 Kq255.1
        have A34_t255 := A34_t254.keep Kq255
        have P250_13_t255 := P250_13_t254.keep Kq255 (ninS (Ne.symm ne_o34_b8_c35) (ninS (Ne.symm ne_b2_c35_b8_c35) nin0))
        have P251_9_t255 := P251_9_t254.keep Kq255 (ninS (Ne.symm ne_o34_b6_c35) (ninS (Ne.symm ne_b2_c35_b6_c35) nin0))
        have P254_10_t255 := P254_10.keep Kq255 (ninS (Ne.symm ne_o34_b10_c35) (ninS (Ne.symm ne_b2_c35_b10_c35) nin0))
        have P254_11_t255 := P254_11.keep Kq255 (ninS (Ne.symm ne_o34_b12_c35) (ninS (Ne.symm ne_b2_c35_b12_c35) nin0))
        have P254_13_t255 := P254_13.keep Kq255 (ninS (Ne.symm ne_o34_b4_c35) (ninS (Ne.symm ne_b2_c35_b4_c35) nin0))
        have e255 : T255.heap = T255.heap := rfl
        have P255_11f : Fld Z T255.heap o34 "com/example/tauten/tauten/Trail" "epoch" "I" (.int (5 : Int32)) := P255_11
        refine Wq.steps st255 ?_
        show Wq _ _ _ _ _ (T255.setTop (mkF m 215 #[.val (.int xlaw_1), .val (.int xlaw_2), .val (.int xlaw_3), .val (.long ylaw_4), .second, .val (.long ylaw_5), .second, .val (.int xlaw_6), .val (.int ms12_0), .val (.int ms26_0), .val (.int ms40_0), .val (.ref o34), .val (.int (0 : Int32)), .val (.int (0 : Int32)), .val (.int (0 : Int32)), .val (.int xlaw_2), .val (.long ylaw_4), .second, .val (.int (1 : Int32)), .val (.int (1 : Int32))] []))
        refine Ow.iload X255 hx (pc' := 217) (hb hby at_215) rfl ?_
        refine Ow.ifNo X255 hx (pc' := 220) (hb hby at_217) ((if0 _ _).trans (feq (by decide : ¬ ((1 : Int32) = (0 : Int32)))).1) ?_
        refine Ow.aload X255 hx (pc' := 222) (hb hby at_220) rfl rfl ?_
        refine Ow.iload X255 hx (pc' := 224) (hb hby at_222) rfl ?_
        obtain ⟨cq256, kq256, q256a, q256b, q256c⟩ := isOf hZ e255 A34_t255
        obtain ⟨_, _, ⟨T256, L256, k256, n256⟩, -, X256, ⟨Lc256, hQ256, l256, y256, z256⟩, st256⟩ := X255.virtualBack hx (y := mt5) (z := mt5) hown (mvT hZ (kw65 hw)) (mvT hZ (kw66 hw)) (notFace_of_selects (args := #[]) (mvT hZ (kw68 hw))) (mvT hZ (kw68 hw)) (mvT hZ (kw67 hw)) (by decide) (backOf (W := 0) (rm_gt l Z a0 hw [] o34 b2_c35 ((((xlaw_2.toInt64).toInt32).toInt64).toInt32) (List.replicate 63 (.int (0 : Int32))) T255.heap n0 Z255 P255_1 P255_10) hZ (kw69 hw) (kw2 hw) (by decide) (by decide)) q256a q256c (g := (mkF m 224 #[.val (.int xlaw_1), .val (.int xlaw_2), .val (.int xlaw_3), .val (.long ylaw_4), .second, .val (.long ylaw_5), .second, .val (.int xlaw_6), .val (.int ms12_0), .val (.int ms26_0), .val (.int ms40_0), .val (.ref o34), .val (.int (0 : Int32)), .val (.int (0 : Int32)), .val (.int (0 : Int32)), .val (.int xlaw_2), .val (.long ylaw_4), .second, .val (.int (1 : Int32)), .val (.int (1 : Int32))] [(.int (0 : Int32)), (.ref o34)])) rfl (by rw [hml]; rfl) (Steps.refl _) (argsL := [(.int (0 : Int32))]) (rest := []) (lenOf pd2 rfl) rfl (by show 2 * 0 + _ ≤ _; exact Nat.le_of_eq rfl) (hb hby at_224) (fun _ _ => ⟨rfl, e255, (by decide : 7 + 0 ≤ _), (by decide : 778 + 0 ≤ _)⟩)
        dsimp only [Pt.U, Pt.locs, Pt.cells, Pt.slots] at X256 l256 y256 z256 st256 hQ256
        subst l256 y256 z256
        obtain ⟨rfl, Nq256, e256⟩ := hQ256
        have N256 := Fr.app N255 Nq256
        refine Wq.steps st256 ?_
        show Wq _ _ _ _ _ (T256.setTop (mkF m 227 #[.val (.int xlaw_1), .val (.int xlaw_2), .val (.int xlaw_3), .val (.long ylaw_4), .second, .val (.long ylaw_5), .second, .val (.int xlaw_6), .val (.int ms12_0), .val (.int ms26_0), .val (.int ms40_0), .val (.ref o34), .val (.int (0 : Int32)), .val (.int (0 : Int32)), .val (.int (0 : Int32)), .val (.int xlaw_2), .val (.long ylaw_4), .second, .val (.int (1 : Int32)), .val (.int (1 : Int32))] [(.int ((((xlaw_2.toInt64).toInt32).toInt64).toInt32))]))
        refine Ow.iload X256 hx (pc' := 229) (hb hby at_227) rfl ?_
        refine Ow.icmpNo X256 hx (pc' := 232) (hb hby at_229) (teq (by first | (simp only [Int32.toInt32_toInt64]; done) | rfl : ((((xlaw_2.toInt64).toInt32).toInt64).toInt32) = xlaw_2)).2 ?_
        refine Ow.iconst X256 hx (pc' := 233) (hb hby at_232) (z := (1 : Int32)) rfl ?_
        refine Ow.goto X256 hx (pc' := 237) (hb hby at_233) (by decide) (by decide) ?_
        refine Ow.istore X256 hx (pc' := 239) (hb hby at_237) (l' := #[.val (.int xlaw_1), .val (.int xlaw_2), .val (.int xlaw_3), .val (.long ylaw_4), .second, .val (.long ylaw_5), .second, .val (.int xlaw_6), .val (.int ms12_0), .val (.int ms26_0), .val (.int ms40_0), .val (.ref o34), .val (.int (0 : Int32)), .val (.int (0 : Int32)), .val (.int (0 : Int32)), .val (.int xlaw_2), .val (.long ylaw_4), .second, .val (.int (1 : Int32)), .val (.int (1 : Int32))]) rfl ?_
        refine Ow.aload X256 hx (pc' := 241) (hb hby at_239) rfl rfl ?_
        refine Ow.iload X256 hx (pc' := 243) (hb hby at_241) rfl ?_
        obtain ⟨cq257, kq257, q257a, q257b, q257c⟩ := isOf hZ e256 A34_t255
        obtain ⟨_, _, ⟨T257, L257, k257, n257⟩, -, X257, ⟨Lc257, hQ257, l257, y257, z257⟩, st257⟩ := X256.virtualBack hx (y := mt9) (z := mt9) hown (mvT hZ (kw60 hw)) (mvT hZ (kw61 hw)) (notFace_of_selects (args := #[]) (mvT hZ (kw63 hw))) (mvT hZ (kw63 hw)) (mvT hZ (kw62 hw)) (by decide) (backOf (W := 0) (rm_un10i l Z a0 hw [] o34 b2_c35 b4_c35 b6_c35 b8_c35 b10_c35 b12_c35 (1 : Int32) (1 : Int32) (5 : Int32) ((((xlaw_2.toInt64).toInt32).toInt64).toInt32) (List.replicate 63 (.int (0 : Int32))) ylaw_4 (List.replicate 63 (.long (0 : Int64))) (0 : Int32) (-1 : Int32) (0 : Int32) (List.replicate 252 (.int (0 : Int32))) (xlaw_1.toInt64) (((xlaw_2.toInt64).toInt32).toInt64) ylaw_4 (0 : Int64) (List.replicate 252 (.long (0 : Int64))) T255.heap n0 Z255 A34_t255 P255_1 P255_2 P255_3 P255_4 P255_5 P255_6 P255_7 P255_8 P255_9 P255_11f g_o34 P255_10 g_b2_c35 (Ne.symm ne_o34_b2_c35) P251_9_t255 g_b6_c35 (Ne.symm ne_o34_b6_c35) P254_10_t255 g_b10_c35 (Ne.symm ne_o34_b10_c35) P254_11_t255 g_b12_c35 (Ne.symm ne_o34_b12_c35) ne_b2_c35_b6_c35 ne_b2_c35_b10_c35 ne_b2_c35_b12_c35 ne_b6_c35_b10_c35 ne_b6_c35_b12_c35 ne_b10_c35_b12_c35) hZ (kw64 hw) (kw2 hw) (by decide) (by decide)) q257a q257c (g := (mkF m 243 #[.val (.int xlaw_1), .val (.int xlaw_2), .val (.int xlaw_3), .val (.long ylaw_4), .second, .val (.long ylaw_5), .second, .val (.int xlaw_6), .val (.int ms12_0), .val (.int ms26_0), .val (.int ms40_0), .val (.ref o34), .val (.int (0 : Int32)), .val (.int (0 : Int32)), .val (.int (0 : Int32)), .val (.int xlaw_2), .val (.long ylaw_4), .second, .val (.int (1 : Int32)), .val (.int (1 : Int32))] [(.int (0 : Int32)), (.ref o34)])) rfl (by rw [hml]; rfl) (Steps.refl _) (argsL := [(.int (0 : Int32))]) (rest := []) (lenOf pd7 rfl) rfl (by show 2 * 0 + _ ≤ _; exact Nat.le_of_eq rfl) (hb hby at_243) (fun _ _ => ⟨rfl, e256, (by decide : 7 + 0 ≤ _), (by decide : 778 + 0 ≤ _)⟩)
        dsimp only [Pt.U, Pt.locs, Pt.cells, Pt.slots] at X257 l257 y257 z257 st257 hQ257
        subst l257 y257 z257
        obtain ⟨rfl, Nq257, Kq257, P257_0, P257_1, P257_2, P257_3, P257_4, P257_5, P257_6, P257_7, P257_8, P257_9, P257_10, P257_11⟩ := hQ257
        have N257 := Fr.app N256 Nq257
        have K257 : Keep h0 T257.heap [] := K255.trans Kq257 (allS (P := fun x => x ∈ [] ∨ h0.size ≤ x) (Or.inr sz_o34) (allS (P := fun x => x ∈ [] ∨ h0.size ≤ x) (Or.inr sz_b2_c35) all0))
        have Z257 : n0 ≤ T257.heap.size := Nat.le_trans Z255 Kq257.1
        have A34_t257 := A34_t255.keep Kq257
        have P250_13_t257 := P250_13_t255.keep Kq257 (ninS (Ne.symm ne_o34_b8_c35) (ninS (Ne.symm ne_b2_c35_b8_c35) nin0))
        have P251_9_t257 := P251_9_t255.keep Kq257 (ninS (Ne.symm ne_o34_b6_c35) (ninS (Ne.symm ne_b2_c35_b6_c35) nin0))
        have P254_10_t257 := P254_10_t255.keep Kq257 (ninS (Ne.symm ne_o34_b10_c35) (ninS (Ne.symm ne_b2_c35_b10_c35) nin0))
        have P254_11_t257 := P254_11_t255.keep Kq257 (ninS (Ne.symm ne_o34_b12_c35) (ninS (Ne.symm ne_b2_c35_b12_c35) nin0))
        have P254_13_t257 := P254_13_t255.keep Kq257 (ninS (Ne.symm ne_o34_b4_c35) (ninS (Ne.symm ne_b2_c35_b4_c35) nin0))
        have e257 : T257.heap = T257.heap := rfl
        have P257_11f : Fld Z T257.heap o34 "com/example/tauten/tauten/Trail" "epoch" "I" (.int (6 : Int32)) := P257_11
        refine Wq.steps st257 ?_
        show Wq _ _ _ _ _ (T257.setTop (mkF m 246 #[.val (.int xlaw_1), .val (.int xlaw_2), .val (.int xlaw_3), .val (.long ylaw_4), .second, .val (.long ylaw_5), .second, .val (.int xlaw_6), .val (.int ms12_0), .val (.int ms26_0), .val (.int ms40_0), .val (.ref o34), .val (.int (0 : Int32)), .val (.int (0 : Int32)), .val (.int (0 : Int32)), .val (.int xlaw_2), .val (.long ylaw_4), .second, .val (.int (1 : Int32)), .val (.int (1 : Int32))] []))
        refine Ow.iload X257 hx (pc' := 248) (hb hby at_246) rfl ?_
        refine Ow.ifNo X257 hx (pc' := 251) (hb hby at_248) ((if0 _ _).trans (feq (by decide : ¬ ((1 : Int32) = (0 : Int32)))).1) ?_
        refine Ow.aload X257 hx (pc' := 253) (hb hby at_251) rfl rfl ?_
        refine Ow.iload X257 hx (pc' := 255) (hb hby at_253) rfl ?_
        obtain ⟨cq258, kq258, q258a, q258b, q258c⟩ := isOf hZ e257 A34_t257
        obtain ⟨_, _, ⟨T258, L258, k258, n258⟩, -, X258, ⟨Lc258, hQ258, l258, y258, z258⟩, st258⟩ := X257.virtualBack hx (y := mt5) (z := mt5) hown (mvT hZ (kw65 hw)) (mvT hZ (kw66 hw)) (notFace_of_selects (args := #[]) (mvT hZ (kw68 hw))) (mvT hZ (kw68 hw)) (mvT hZ (kw67 hw)) (by decide) (backOf (W := 0) (rm_gt l Z a0 hw [] o34 b2_c35 ((xlaw_1.toInt64).toInt32) (List.replicate 63 (.int (0 : Int32))) T257.heap n0 Z257 P257_1 P257_10) hZ (kw69 hw) (kw2 hw) (by decide) (by decide)) q258a q258c (g := (mkF m 255 #[.val (.int xlaw_1), .val (.int xlaw_2), .val (.int xlaw_3), .val (.long ylaw_4), .second, .val (.long ylaw_5), .second, .val (.int xlaw_6), .val (.int ms12_0), .val (.int ms26_0), .val (.int ms40_0), .val (.ref o34), .val (.int (0 : Int32)), .val (.int (0 : Int32)), .val (.int (0 : Int32)), .val (.int xlaw_2), .val (.long ylaw_4), .second, .val (.int (1 : Int32)), .val (.int (1 : Int32))] [(.int (0 : Int32)), (.ref o34)])) rfl (by rw [hml]; rfl) (Steps.refl _) (argsL := [(.int (0 : Int32))]) (rest := []) (lenOf pd2 rfl) rfl (by show 2 * 0 + _ ≤ _; exact Nat.le_of_eq rfl) (hb hby at_255) (fun _ _ => ⟨rfl, e257, (by decide : 7 + 0 ≤ _), (by decide : 778 + 0 ≤ _)⟩)
        dsimp only [Pt.U, Pt.locs, Pt.cells, Pt.slots] at X258 l258 y258 z258 st258 hQ258
        subst l258 y258 z258
        obtain ⟨rfl, Nq258, e258⟩ := hQ258
        have N258 := Fr.app N257 Nq258
        refine Wq.steps st258 ?_
        show Wq _ _ _ _ _ (T258.setTop (mkF m 258 #[.val (.int xlaw_1), .val (.int xlaw_2), .val (.int xlaw_3), .val (.long ylaw_4), .second, .val (.long ylaw_5), .second, .val (.int xlaw_6), .val (.int ms12_0), .val (.int ms26_0), .val (.int ms40_0), .val (.ref o34), .val (.int (0 : Int32)), .val (.int (0 : Int32)), .val (.int (0 : Int32)), .val (.int xlaw_2), .val (.long ylaw_4), .second, .val (.int (1 : Int32)), .val (.int (1 : Int32))] [(.int ((xlaw_1.toInt64).toInt32))]))
        refine Ow.iloadN X258 hx (pc' := 259) (hb hby at_258) rfl ?_
        refine Ow.icmpNo X258 hx (pc' := 262) (hb hby at_259) (teq (by first | (simp only [Int32.toInt32_toInt64]; done) | rfl : ((xlaw_1.toInt64).toInt32) = xlaw_1)).2 ?_
        refine Ow.aload X258 hx (pc' := 264) (hb hby at_262) rfl rfl ?_
        refine Ow.iload X258 hx (pc' := 266) (hb hby at_264) rfl ?_
        obtain ⟨cq259, kq259, q259a, q259b, q259c⟩ := isOf hZ e258 A34_t257
        obtain ⟨_, _, ⟨T259, L259, k259, n259⟩, -, X259, ⟨Lc259, hQ259, l259, y259, z259⟩, st259⟩ := X258.virtualBack hx (y := mt6) (z := mt6) hown (mvT hZ (kw70 hw)) (mvT hZ (kw71 hw)) (notFace_of_selects (args := #[]) (mvT hZ (kw73 hw))) (mvT hZ (kw73 hw)) (mvT hZ (kw72 hw)) (by decide) (backOf (W := 0) (rm_gl l Z a0 hw [] o34 b6_c35 ylaw_4 (List.replicate 63 (.long (0 : Int64))) T257.heap n0 Z257 P257_3 P251_9_t257) hZ (kw74 hw) (kw2 hw) (by decide) (by decide)) q259a q259c (g := (mkF m 266 #[.val (.int xlaw_1), .val (.int xlaw_2), .val (.int xlaw_3), .val (.long ylaw_4), .second, .val (.long ylaw_5), .second, .val (.int xlaw_6), .val (.int ms12_0), .val (.int ms26_0), .val (.int ms40_0), .val (.ref o34), .val (.int (0 : Int32)), .val (.int (0 : Int32)), .val (.int (0 : Int32)), .val (.int xlaw_2), .val (.long ylaw_4), .second, .val (.int (1 : Int32)), .val (.int (1 : Int32))] [(.int (0 : Int32)), (.ref o34)])) rfl (by rw [hml]; rfl) (Steps.refl _) (argsL := [(.int (0 : Int32))]) (rest := []) (lenOf pd8 rfl) rfl (by show 2 * 0 + _ ≤ _; exact Nat.le_of_eq rfl) (hb hby at_266) (fun _ _ => ⟨rfl, e258, (by decide : 7 + 0 ≤ _), (by decide : 778 + 0 ≤ _)⟩)
        dsimp only [Pt.U, Pt.locs, Pt.cells, Pt.slots] at X259 l259 y259 z259 st259 hQ259
        subst l259 y259 z259
        obtain ⟨rfl, Nq259, e259⟩ := hQ259
        have N259 := Fr.app N258 Nq259
        refine Wq.steps st259 ?_
        show Wq _ _ _ _ _ (T259.setTop (mkF m 269 #[.val (.int xlaw_1), .val (.int xlaw_2), .val (.int xlaw_3), .val (.long ylaw_4), .second, .val (.long ylaw_5), .second, .val (.int xlaw_6), .val (.int ms12_0), .val (.int ms26_0), .val (.int ms40_0), .val (.ref o34), .val (.int (0 : Int32)), .val (.int (0 : Int32)), .val (.int (0 : Int32)), .val (.int xlaw_2), .val (.long ylaw_4), .second, .val (.int (1 : Int32)), .val (.int (1 : Int32))] [(.long ylaw_4)]))
        refine Ow.lloadN X259 hx (pc' := 270) (hb hby at_269) rfl ?_
        refine Ow.lcmp X259 hx (pc' := 271) (hb hby at_270)  ?_
        refine Ow.ifNo X259 hx (pc' := 274) (hb hby at_271) ((if0 _ _).trans (teq ((lw_eq _ _).mpr (rfl : ylaw_4 = ylaw_4))).2) ?_
        refine Ow.iconst X259 hx (pc' := 275) (hb hby at_274) (z := (1 : Int32)) rfl ?_
        refine Ow.goto X259 hx (pc' := 279) (hb hby at_275) (by decide) (by decide) ?_
        refine Ow.istore X259 hx (pc' := 281) (hb hby at_279) (l' := #[.val (.int xlaw_1), .val (.int xlaw_2), .val (.int xlaw_3), .val (.long ylaw_4), .second, .val (.long ylaw_5), .second, .val (.int xlaw_6), .val (.int ms12_0), .val (.int ms26_0), .val (.int ms40_0), .val (.ref o34), .val (.int (0 : Int32)), .val (.int (0 : Int32)), .val (.int (0 : Int32)), .val (.int xlaw_2), .val (.long ylaw_4), .second, .val (.int (1 : Int32)), .val (.int (1 : Int32))]) rfl ?_
        refine Ow.iload X259 hx (pc' := 283) (hb hby at_281) rfl ?_
        exact Wq.ret X259 (BodyLoose.notSynchronized Bd) (rv := some (.int (1 : Int32))) (fun h => by rw [Bd.returns] at h; cases h) (fun _ hr => retN X259 hx (t := .boolean) Bd.returns (by simp) (hb hby at_283) hr) (by decide) (by decide) ⟨rfl, N259⟩
    · skip
      refine Ow.ifNo X238 hx (pc' := 92) (hb hby at_89) ((if0 _ _).trans (feq hc89).1) ?_
      refine Ow.aload X238 hx (pc' := 94) (hb hby at_92) rfl rfl ?_
      refine Ow.iload X238 hx (pc' := 96) (hb hby at_94) rfl ?_
      refine Ow.lload X238 hx (pc' := 98) (hb hby at_96) rfl ?_
      obtain ⟨cq260, kq260, q260a, q260b, q260c⟩ := isOf hZ e238 A34_t238
      obtain ⟨_, _, ⟨T260, L260, k260, n260⟩, -, X260, ⟨Lc260, hQ260, l260, y260, z260⟩, st260⟩ := X238.virtualBack hx (y := mt10) (z := mt10) hown (mvT hZ (kw55 hw)) (mvT hZ (kw56 hw)) (notFace_of_selects (args := #[]) (mvT hZ (kw58 hw))) (mvT hZ (kw58 hw)) (mvT hZ (kw57 hw)) (by decide) (backOf (W := 0) (rm_sl1 l Z a0 hw [] o34 ylaw_5 b2_c35 b4_c35 b6_c35 b8_c35 b10_c35 b12_c35 (1 : Int32) (1 : Int32) (2 : Int32) ylaw_4 (List.replicate 63 (.long (0 : Int64))) (0 : Int32) (List.replicate 63 (.int (0 : Int32))) (0 : Int32) (0 : Int32) (0 : Int32) (0 : Int32) (List.replicate 252 (.int (0 : Int32))) (xlaw_1.toInt64) (0 : Int64) (0 : Int64) (0 : Int64) (List.replicate 252 (.long (0 : Int64))) T238.heap n0 Z238 (by decide) A34_t238 P238_1 P238_2 P238_3 P238_4 P238_5 P238_6 P238_7 P238_8 P238_12 P238_9 g_o34 P37_10_t238 g_b6_c35 (Ne.symm ne_o34_b6_c35) P35_10_t238 g_b8_c35 (Ne.symm ne_o34_b8_c35) P238_10 g_b10_c35 (Ne.symm ne_o34_b10_c35) P238_11 g_b12_c35 (Ne.symm ne_o34_b12_c35) ne_b6_c35_b8_c35 ne_b6_c35_b10_c35 ne_b6_c35_b12_c35 ne_b8_c35_b10_c35 ne_b8_c35_b12_c35 ne_b10_c35_b12_c35 (by decide)) hZ (kw59 hw) (kw2 hw) (by decide) (by decide)) q260a q260c (g := (mkF m 98 #[.val (.int xlaw_1), .val (.int xlaw_2), .val (.int xlaw_3), .val (.long ylaw_4), .second, .val (.long ylaw_5), .second, .val (.int xlaw_6), .val (.int ms12_0), .val (.int ms26_0), .val (.int ms40_0), .val (.ref o34), .val (.int (0 : Int32)), .val (.int (0 : Int32)), .val (.int (0 : Int32)), .unset, .unset, .unset, .unset, .unset] [(.long ylaw_5), (.int (0 : Int32)), (.ref o34)])) rfl (by rw [hml]; rfl) (Steps.refl _) (argsL := [(.int (0 : Int32)), (.long ylaw_5)]) (rest := []) (lenOf pd5 rfl) rfl (by show 2 * 0 + _ ≤ _; exact Nat.le_of_eq rfl) (hb hby at_98) (fun _ _ => ⟨rfl, e238, (by decide : 7 + 0 ≤ _), (by decide : 778 + 0 ≤ _)⟩)
      dsimp only [Pt.U, Pt.locs, Pt.cells, Pt.slots] at X260 l260 y260 z260 st260 hQ260
      subst l260 y260 z260
      obtain ⟨rfl, Nq260, Kq260, P260_0, P260_1, P260_2, P260_3, P260_4, P260_5, P260_6, P260_7, P260_8, P260_9, P260_10, P260_11, P260_12, P260_13, P260_14⟩ := hQ260
      have N260 := Fr.app N238 Nq260
      have K260 : Keep h0 T260.heap [] := K238.trans Kq260 (allS (P := fun x => x ∈ [] ∨ h0.size ≤ x) (Or.inr sz_o34) (allS (P := fun x => x ∈ [] ∨ h0.size ≤ x) (Or.inr sz_b12_c35) (allS (P := fun x => x ∈ [] ∨ h0.size ≤ x) (Or.inr sz_b10_c35) (allS (P := fun x => x ∈ [] ∨ h0.size ≤ x) (Or.inr sz_b8_c35) (allS (P := fun x => x ∈ [] ∨ h0.size ≤ x) (Or.inr sz_b6_c35) all0)))))
      have Z260 : n0 ≤ T260.heap.size := Nat.le_trans Z238 Kq260.1
      have A34_t260 := A34_t238.keep Kq260
      have P238_13_t260 := P238_13.keep Kq260 (ninS (Ne.symm ne_o34_b4_c35) (ninS ne_b4_c35_b12_c35 (ninS ne_b4_c35_b10_c35 (ninS ne_b4_c35_b8_c35 (ninS ne_b4_c35_b6_c35 nin0)))))
      have P238_14_t260 := P238_14.keep Kq260 (ninS (Ne.symm ne_o34_b2_c35) (ninS ne_b2_c35_b12_c35 (ninS ne_b2_c35_b10_c35 (ninS ne_b2_c35_b8_c35 (ninS ne_b2_c35_b6_c35 nin0)))))
      have e260 : T260.heap = T260.heap := rfl
      refine Wq.steps st260 ?_
      show Wq _ _ _ _ _ (T260.setTop (mkF m 101 #[.val (.int xlaw_1), .val (.int xlaw_2), .val (.int xlaw_3), .val (.long ylaw_4), .second, .val (.long ylaw_5), .second, .val (.int xlaw_6), .val (.int ms12_0), .val (.int ms26_0), .val (.int ms40_0), .val (.ref o34), .val (.int (0 : Int32)), .val (.int (0 : Int32)), .val (.int (0 : Int32)), .unset, .unset, .unset, .unset, .unset] []))
      refine Ow.iload X260 hx (pc' := 103) (hb hby at_101) rfl ?_
      refine Ow.ifNo X260 hx (pc' := 106) (hb hby at_103) ((if0 _ _).trans (feq (hc76 : ¬ (ms12_0 = (0 : Int32)))).1) ?_
      refine Ow.iloadN X260 hx (pc' := 107) (hb hby at_106) rfl ?_
      refine Ow.goto X260 hx (pc' := 111) (hb hby at_107) (by decide) (by decide) ?_
      refine Ow.istore X260 hx (pc' := 113) (hb hby at_111) (l' := #[.val (.int xlaw_1), .val (.int xlaw_2), .val (.int xlaw_3), .val (.long ylaw_4), .second, .val (.long ylaw_5), .second, .val (.int xlaw_6), .val (.int ms12_0), .val (.int ms26_0), .val (.int ms40_0), .val (.ref o34), .val (.int (0 : Int32)), .val (.int (0 : Int32)), .val (.int (0 : Int32)), .val (.int xlaw_2), .unset, .unset, .unset, .unset]) rfl ?_
      refine Ow.iload X260 hx (pc' := 115) (hb hby at_113) rfl ?_
      refine Ow.ifNo X260 hx (pc' := 118) (hb hby at_115) ((if0 _ _).trans (feq (hc89 : ¬ (ms26_0 = (0 : Int32)))).1) ?_
      refine Ow.lload X260 hx (pc' := 120) (hb hby at_118) rfl ?_
      refine Ow.goto X260 hx (pc' := 124) (hb hby at_120) (by decide) (by decide) ?_
      refine Ow.lstore X260 hx (pc' := 126) (hb hby at_124) (l' := #[.val (.int xlaw_1), .val (.int xlaw_2), .val (.int xlaw_3), .val (.long ylaw_4), .second, .val (.long ylaw_5), .second, .val (.int xlaw_6), .val (.int ms12_0), .val (.int ms26_0), .val (.int ms40_0), .val (.ref o34), .val (.int (0 : Int32)), .val (.int (0 : Int32)), .val (.int (0 : Int32)), .val (.int xlaw_2), .val (.long ylaw_5), .second, .unset, .unset]) rfl ?_
      refine Ow.aload X260 hx (pc' := 128) (hb hby at_126) rfl rfl ?_
      obtain ⟨cq261, kq261, q261a, q261b, q261c⟩ := isOf hZ e260 A34_t260
      obtain ⟨_, _, ⟨T261, L261, k261, n261⟩, -, X261, ⟨Lc261, hQ261, l261, y261, z261⟩, st261⟩ := X260.virtualBack hx (y := mt4) (z := mt4) hown (mvT hZ (kw39 hw)) (mvT hZ (kw40 hw)) (notFace_of_selects (args := #[]) (mvT hZ (kw42 hw))) (mvT hZ (kw42 hw)) (mvT hZ (kw41 hw)) (by decide) (backOf (W := 0) (rm_cp l Z a0 hw [] o34 b2_c35 b4_c35 b6_c35 b8_c35 b10_c35 b12_c35 (1 : Int32) (1 : Int32) (2 : Int32) (2 : Int32) T260.heap n0 Z260 A34_t260 P260_1 P260_2 P260_3 P260_4 P260_5 P260_6 P260_7 P260_8 P260_12 P260_9 g_o34) hZ (kw43 hw) (kw2 hw) (by decide) (by decide)) q261a q261c (g := (mkF m 128 #[.val (.int xlaw_1), .val (.int xlaw_2), .val (.int xlaw_3), .val (.long ylaw_4), .second, .val (.long ylaw_5), .second, .val (.int xlaw_6), .val (.int ms12_0), .val (.int ms26_0), .val (.int ms40_0), .val (.ref o34), .val (.int (0 : Int32)), .val (.int (0 : Int32)), .val (.int (0 : Int32)), .val (.int xlaw_2), .val (.long ylaw_5), .second, .unset, .unset] [(.ref o34)])) rfl (by rw [hml]; rfl) (Steps.refl _) (argsL := []) (rest := []) (lenOf pd4 rfl) rfl (by show 2 * 0 + _ ≤ _; exact Nat.le_of_eq rfl) (hb hby at_128) (fun _ _ => ⟨rfl, e260, (by decide : 7 + 0 ≤ _), (by decide : 778 + 0 ≤ _)⟩)
      dsimp only [Pt.U, Pt.locs, Pt.cells, Pt.slots] at X261 l261 y261 z261 st261 hQ261
      subst l261 y261 z261
      obtain ⟨rfl, Nq261, Kq261, P261_0, P261_1, P261_2, P261_3, P261_4, P261_5, P261_6, P261_7, P261_8, P261_9, P261_10⟩ := hQ261
      have N261 := Fr.app N260 Nq261
      have K261 : Keep h0 T261.heap [] := K260.trans Kq261 (allS (P := fun x => x ∈ [] ∨ h0.size ≤ x) (Or.inr sz_o34) all0)
      have Z261 : n0 ≤ T261.heap.size := Nat.le_trans Z260 Kq261.1
      have A34_t261 := A34_t260.keep Kq261
      have P238_13_t261 := P238_13_t260.keep Kq261 (ninS (Ne.symm ne_o34_b4_c35) nin0)
      have P238_14_t261 := P238_14_t260.keep Kq261 (ninS (Ne.symm ne_o34_b2_c35) nin0)
      have P260_10_t261 := P260_10.keep Kq261 (ninS (Ne.symm ne_o34_b10_c35) nin0)
      have P260_11_t261 := P260_11.keep Kq261 (ninS (Ne.symm ne_o34_b12_c35) nin0)
      have P260_13_t261 := P260_13.keep Kq261 (ninS (Ne.symm ne_o34_b8_c35) nin0)
      have P260_14_t261 := P260_14.keep Kq261 (ninS (Ne.symm ne_o34_b6_c35) nin0)
      have e261 : T261.heap = T261.heap := rfl
      have P261_10f : Fld Z T261.heap o34 "com/example/tauten/tauten/Trail" "epoch" "I" (.int (3 : Int32)) := P261_10
      refine Wq.steps st261 ?_
      show Wq _ _ _ _ _ (T261.setTop (mkF m 131 #[.val (.int xlaw_1), .val (.int xlaw_2), .val (.int xlaw_3), .val (.long ylaw_4), .second, .val (.long ylaw_5), .second, .val (.int xlaw_6), .val (.int ms12_0), .val (.int ms26_0), .val (.int ms40_0), .val (.ref o34), .val (.int (0 : Int32)), .val (.int (0 : Int32)), .val (.int (0 : Int32)), .val (.int xlaw_2), .val (.long ylaw_5), .second, .unset, .unset] [(.int (2 : Int32))]))
      refine Ow.istore X261 hx (pc' := 133) (hb hby at_131) (l' := #[.val (.int xlaw_1), .val (.int xlaw_2), .val (.int xlaw_3), .val (.long ylaw_4), .second, .val (.long ylaw_5), .second, .val (.int xlaw_6), .val (.int ms12_0), .val (.int ms26_0), .val (.int ms40_0), .val (.ref o34), .val (.int (0 : Int32)), .val (.int (0 : Int32)), .val (.int (0 : Int32)), .val (.int xlaw_2), .val (.long ylaw_5), .second, .val (.int (2 : Int32)), .unset]) rfl ?_
      refine Ow.aload X261 hx (pc' := 135) (hb hby at_133) rfl rfl ?_
      refine Ow.iload X261 hx (pc' := 137) (hb hby at_135) rfl ?_
      refine Ow.iloadN X261 hx (pc' := 138) (hb hby at_137) rfl ?_
      obtain ⟨cq271, kq271, q271a, q271b, q271c⟩ := isOf hZ e261 A34_t261
      obtain ⟨_, _, ⟨T271, L271, k271, n271⟩, -, X271, ⟨Lc271, hQ271, l271, y271, z271⟩, st271⟩ := X261.virtualBack hx (y := mt8) (z := mt8) hown (mvT hZ (kw46 hw)) (mvT hZ (kw47 hw)) (notFace_of_selects (args := #[]) (mvT hZ (kw49 hw))) (mvT hZ (kw49 hw)) (mvT hZ (kw48 hw)) (by decide) (backOf (W := 0) (rm_st2 l Z a0 hw [] o34 xlaw_3 b2_c35 b4_c35 b6_c35 b8_c35 b10_c35 b12_c35 (1 : Int32) (1 : Int32) (3 : Int32) xlaw_2 (List.replicate 63 (.int (0 : Int32))) (2 : Int32) (List.replicate 63 (.int (0 : Int32))) (0 : Int32) (-1 : Int32) (0 : Int32) (0 : Int32) (List.replicate 252 (.int (0 : Int32))) (xlaw_1.toInt64) ylaw_4 (0 : Int64) (0 : Int64) (List.replicate 252 (.long (0 : Int64))) T261.heap n0 Z261 (by decide) A34_t261 P261_1 P261_2 P261_3 P261_4 P261_5 P261_6 P261_7 P261_8 P261_9 P261_10f g_o34 P238_14_t261 g_b2_c35 (Ne.symm ne_o34_b2_c35) P238_13_t261 g_b4_c35 (Ne.symm ne_o34_b4_c35) P260_10_t261 g_b10_c35 (Ne.symm ne_o34_b10_c35) P260_11_t261 g_b12_c35 (Ne.symm ne_o34_b12_c35) ne_b2_c35_b4_c35 ne_b2_c35_b10_c35 ne_b2_c35_b12_c35 ne_b4_c35_b10_c35 ne_b4_c35_b12_c35 ne_b10_c35_b12_c35 (by decide)) hZ (kw50 hw) (kw2 hw) (by decide) (by decide)) q271a q271c (g := (mkF m 138 #[.val (.int xlaw_1), .val (.int xlaw_2), .val (.int xlaw_3), .val (.long ylaw_4), .second, .val (.long ylaw_5), .second, .val (.int xlaw_6), .val (.int ms12_0), .val (.int ms26_0), .val (.int ms40_0), .val (.ref o34), .val (.int (0 : Int32)), .val (.int (0 : Int32)), .val (.int (0 : Int32)), .val (.int xlaw_2), .val (.long ylaw_5), .second, .val (.int (2 : Int32)), .unset] [(.int xlaw_3), (.int (0 : Int32)), (.ref o34)])) rfl (by rw [hml]; rfl) (Steps.refl _) (argsL := [(.int (0 : Int32)), (.int xlaw_3)]) (rest := []) (lenOf pd6 rfl) rfl (by show 2 * 0 + _ ≤ _; exact Nat.le_of_eq rfl) (hb hby at_138) (fun _ _ => ⟨rfl, e261, (by decide : 7 + 0 ≤ _), (by decide : 778 + 0 ≤ _)⟩)
      dsimp only [Pt.U, Pt.locs, Pt.cells, Pt.slots] at X271 l271 y271 z271 st271 hQ271
      subst l271 y271 z271
      obtain ⟨rfl, Nq271, Kq271, P271_0, P271_1, P271_2, P271_3, P271_4, P271_5, P271_6, P271_7, P271_8, P271_9, P271_10, P271_11, P271_12, P271_13, P271_14⟩ := hQ271
      have N271 := Fr.app N261 Nq271
      have K271 : Keep h0 T271.heap [] := K261.trans Kq271 (allS (P := fun x => x ∈ [] ∨ h0.size ≤ x) (Or.inr sz_o34) (allS (P := fun x => x ∈ [] ∨ h0.size ≤ x) (Or.inr sz_b12_c35) (allS (P := fun x => x ∈ [] ∨ h0.size ≤ x) (Or.inr sz_b10_c35) (allS (P := fun x => x ∈ [] ∨ h0.size ≤ x) (Or.inr sz_b4_c35) (allS (P := fun x => x ∈ [] ∨ h0.size ≤ x) (Or.inr sz_b2_c35) all0)))))
      have Z271 : n0 ≤ T271.heap.size := Nat.le_trans Z261 Kq271.1
      have A34_t271 := A34_t261.keep Kq271
      have P260_13_t271 := P260_13_t261.keep Kq271 (ninS (Ne.symm ne_o34_b8_c35) (ninS ne_b8_c35_b12_c35 (ninS ne_b8_c35_b10_c35 (ninS (Ne.symm ne_b4_c35_b8_c35) (ninS (Ne.symm ne_b2_c35_b8_c35) nin0)))))
      have P260_14_t271 := P260_14_t261.keep Kq271 (ninS (Ne.symm ne_o34_b6_c35) (ninS ne_b6_c35_b12_c35 (ninS ne_b6_c35_b10_c35 (ninS (Ne.symm ne_b4_c35_b6_c35) (ninS (Ne.symm ne_b2_c35_b6_c35) nin0)))))
      have e271 : T271.heap = T271.heap := rfl
      refine Wq.steps st271 ?_
      show Wq _ _ _ _ _ (T271.setTop (mkF m 141 #[.val (.int xlaw_1), .val (.int xlaw_2), .val (.int xlaw_3), .val (.long ylaw_4), .second, .val (.long ylaw_5), .second, .val (.int xlaw_6), .val (.int ms12_0), .val (.int ms26_0), .val (.int ms40_0), .val (.ref o34), .val (.int (0 : Int32)), .val (.int (0 : Int32)), .val (.int (0 : Int32)), .val (.int xlaw_2), .val (.long ylaw_5), .second, .val (.int (2 : Int32)), .unset] []))
      refine Ow.iload X271 hx (pc' := 143) (hb hby at_141) rfl ?_
      by_cases hc143 : ms40_0 = (0 : Int32)
      · skip
        refine Ow.ifYes X271 hx (pc' := 159) (hb hby at_143) ((if0 _ _).trans (teq hc143).1) (by decide) (by decide) ?_
        refine Ow.aload X271 hx (pc' := 161) (hb hby at_159) rfl rfl ?_
        refine Ow.iload X271 hx (pc' := 163) (hb hby at_161) rfl ?_
        obtain ⟨cq284, kq284, q284a, q284b, q284c⟩ := isOf hZ e271 A34_t271
        obtain ⟨_, _, ⟨T284, L284, k284, n284⟩, -, X284, ⟨Lc284, hQ284, l284, y284, z284⟩, st284⟩ := X271.virtualBack hx (y := mt9) (z := mt9) hown (mvT hZ (kw60 hw)) (mvT hZ (kw61 hw)) (notFace_of_selects (args := #[]) (mvT hZ (kw63 hw))) (mvT hZ (kw63 hw)) (mvT hZ (kw62 hw)) (by decide) (backOf (W := 0) (rm_un32i l Z a0 hw [] o34 b2_c35 b4_c35 b6_c35 b8_c35 b10_c35 b12_c35 (1 : Int32) (1 : Int32) (3 : Int32) xlaw_3 (List.replicate 63 (.int (0 : Int32))) ylaw_5 (List.replicate 63 (.long (0 : Int64))) (0 : Int32) (-1 : Int32) (0 : Int32) (List.replicate 252 (.int (0 : Int32))) (xlaw_1.toInt64) ylaw_4 (xlaw_2.toInt64) (0 : Int64) (List.replicate 252 (.long (0 : Int64))) T271.heap n0 Z271 A34_t271 P271_1 P271_2 P271_3 P271_4 P271_5 P271_6 P271_7 P271_8 P271_12 P271_9 g_o34 P271_14 g_b2_c35 (Ne.symm ne_o34_b2_c35) P260_14_t271 g_b6_c35 (Ne.symm ne_o34_b6_c35) P271_10 g_b10_c35 (Ne.symm ne_o34_b10_c35) P271_11 g_b12_c35 (Ne.symm ne_o34_b12_c35) ne_b2_c35_b6_c35 ne_b2_c35_b10_c35 ne_b2_c35_b12_c35 ne_b6_c35_b10_c35 ne_b6_c35_b12_c35 ne_b10_c35_b12_c35) hZ (kw64 hw) (kw2 hw) (by decide) (by decide)) q284a q284c (g := (mkF m 163 #[.val (.int xlaw_1), .val (.int xlaw_2), .val (.int xlaw_3), .val (.long ylaw_4), .second, .val (.long ylaw_5), .second, .val (.int xlaw_6), .val (.int ms12_0), .val (.int ms26_0), .val (.int ms40_0), .val (.ref o34), .val (.int (0 : Int32)), .val (.int (0 : Int32)), .val (.int (0 : Int32)), .val (.int xlaw_2), .val (.long ylaw_5), .second, .val (.int (2 : Int32)), .unset] [(.int (2 : Int32)), (.ref o34)])) rfl (by rw [hml]; rfl) (Steps.refl _) (argsL := [(.int (2 : Int32))]) (rest := []) (lenOf pd7 rfl) rfl (by show 2 * 0 + _ ≤ _; exact Nat.le_of_eq rfl) (hb hby at_163) (fun _ _ => ⟨rfl, e271, (by decide : 7 + 0 ≤ _), (by decide : 778 + 0 ≤ _)⟩)
        dsimp only [Pt.U, Pt.locs, Pt.cells, Pt.slots] at X284 l284 y284 z284 st284 hQ284
        subst l284 y284 z284
        obtain ⟨rfl, Nq284, Kq284, P284_0, P284_1, P284_2, P284_3, P284_4, P284_5, P284_6, P284_7, P284_8, P284_9, P284_10, P284_11⟩ := hQ284
        have N284 := Fr.app N271 Nq284
        have K284 : Keep h0 T284.heap [] := K271.trans Kq284 (allS (P := fun x => x ∈ [] ∨ h0.size ≤ x) (Or.inr sz_o34) (allS (P := fun x => x ∈ [] ∨ h0.size ≤ x) (Or.inr sz_b2_c35) all0))
        have Z284 : n0 ≤ T284.heap.size := Nat.le_trans Z271 Kq284.1
        have A34_t284 := A34_t271.keep Kq284
        have P260_13_t284 := P260_13_t271.keep Kq284 (ninS (Ne.symm ne_o34_b8_c35) (ninS (Ne.symm ne_b2_c35_b8_c35) nin0))
        have P260_14_t284 := P260_14_t271.keep Kq284 (ninS (Ne.symm ne_o34_b6_c35) (ninS (Ne.symm ne_b2_c35_b6_c35) nin0))
        have P271_10_t284 := P271_10.keep Kq284 (ninS (Ne.symm ne_o34_b10_c35) (ninS (Ne.symm ne_b2_c35_b10_c35) nin0))
        have P271_11_t284 := P271_11.keep Kq284 (ninS (Ne.symm ne_o34_b12_c35) (ninS (Ne.symm ne_b2_c35_b12_c35) nin0))
        have P271_13_t284 := P271_13.keep Kq284 (ninS (Ne.symm ne_o34_b4_c35) (ninS (Ne.symm ne_b2_c35_b4_c35) nin0))
        have e284 : T284.heap = T284.heap := rfl
        have P284_11f : Fld Z T284.heap o34 "com/example/tauten/tauten/Trail" "epoch" "I" (.int (4 : Int32)) := P284_11
        refine Wq.steps st284 ?_
        show Wq _ _ _ _ _ (T284.setTop (mkF m 166 #[.val (.int xlaw_1), .val (.int xlaw_2), .val (.int xlaw_3), .val (.long ylaw_4), .second, .val (.long ylaw_5), .second, .val (.int xlaw_6), .val (.int ms12_0), .val (.int ms26_0), .val (.int ms40_0), .val (.ref o34), .val (.int (0 : Int32)), .val (.int (0 : Int32)), .val (.int (0 : Int32)), .val (.int xlaw_2), .val (.long ylaw_5), .second, .val (.int (2 : Int32)), .unset] []))
        refine Ow.aload X284 hx (pc' := 168) (hb hby at_166) rfl rfl ?_
        refine Ow.iload X284 hx (pc' := 170) (hb hby at_168) rfl ?_
        obtain ⟨cq285, kq285, q285a, q285b, q285c⟩ := isOf hZ e284 A34_t284
        obtain ⟨_, _, ⟨T285, L285, k285, n285⟩, -, X285, ⟨Lc285, hQ285, l285, y285, z285⟩, st285⟩ := X284.virtualBack hx (y := mt5) (z := mt5) hown (mvT hZ (kw65 hw)) (mvT hZ (kw66 hw)) (notFace_of_selects (args := #[]) (mvT hZ (kw68 hw))) (mvT hZ (kw68 hw)) (mvT hZ (kw67 hw)) (by decide) (backOf (W := 0) (rm_gt l Z a0 hw [] o34 b2_c35 ((xlaw_2.toInt64).toInt32) (List.replicate 63 (.int (0 : Int32))) T284.heap n0 Z284 P284_1 P284_10) hZ (kw69 hw) (kw2 hw) (by decide) (by decide)) q285a q285c (g := (mkF m 170 #[.val (.int xlaw_1), .val (.int xlaw_2), .val (.int xlaw_3), .val (.long ylaw_4), .second, .val (.long ylaw_5), .second, .val (.int xlaw_6), .val (.int ms12_0), .val (.int ms26_0), .val (.int ms40_0), .val (.ref o34), .val (.int (0 : Int32)), .val (.int (0 : Int32)), .val (.int (0 : Int32)), .val (.int xlaw_2), .val (.long ylaw_5), .second, .val (.int (2 : Int32)), .unset] [(.int (0 : Int32)), (.ref o34)])) rfl (by rw [hml]; rfl) (Steps.refl _) (argsL := [(.int (0 : Int32))]) (rest := []) (lenOf pd2 rfl) rfl (by show 2 * 0 + _ ≤ _; exact Nat.le_of_eq rfl) (hb hby at_170) (fun _ _ => ⟨rfl, e284, (by decide : 7 + 0 ≤ _), (by decide : 778 + 0 ≤ _)⟩)
        dsimp only [Pt.U, Pt.locs, Pt.cells, Pt.slots] at X285 l285 y285 z285 st285 hQ285
        subst l285 y285 z285
        obtain ⟨rfl, Nq285, e285⟩ := hQ285
        have N285 := Fr.app N284 Nq285
        refine Wq.steps st285 ?_
        show Wq _ _ _ _ _ (T285.setTop (mkF m 173 #[.val (.int xlaw_1), .val (.int xlaw_2), .val (.int xlaw_3), .val (.long ylaw_4), .second, .val (.long ylaw_5), .second, .val (.int xlaw_6), .val (.int ms12_0), .val (.int ms26_0), .val (.int ms40_0), .val (.ref o34), .val (.int (0 : Int32)), .val (.int (0 : Int32)), .val (.int (0 : Int32)), .val (.int xlaw_2), .val (.long ylaw_5), .second, .val (.int (2 : Int32)), .unset] [(.int ((xlaw_2.toInt64).toInt32))]))
        refine Ow.iload X285 hx (pc' := 175) (hb hby at_173) rfl ?_
        refine Ow.icmpNo X285 hx (pc' := 178) (hb hby at_175) (teq (by first | (simp only [Int32.toInt32_toInt64]; done) | rfl : ((xlaw_2.toInt64).toInt32) = xlaw_2)).2 ?_
        refine Ow.aload X285 hx (pc' := 180) (hb hby at_178) rfl rfl ?_
        refine Ow.iload X285 hx (pc' := 182) (hb hby at_180) rfl ?_
        obtain ⟨cq286, kq286, q286a, q286b, q286c⟩ := isOf hZ e285 A34_t284
        obtain ⟨_, _, ⟨T286, L286, k286, n286⟩, -, X286, ⟨Lc286, hQ286, l286, y286, z286⟩, st286⟩ := X285.virtualBack hx (y := mt6) (z := mt6) hown (mvT hZ (kw70 hw)) (mvT hZ (kw71 hw)) (notFace_of_selects (args := #[]) (mvT hZ (kw73 hw))) (mvT hZ (kw73 hw)) (mvT hZ (kw72 hw)) (by decide) (backOf (W := 0) (rm_gl l Z a0 hw [] o34 b6_c35 ylaw_5 (List.replicate 63 (.long (0 : Int64))) T284.heap n0 Z284 P284_3 P260_14_t284) hZ (kw74 hw) (kw2 hw) (by decide) (by decide)) q286a q286c (g := (mkF m 182 #[.val (.int xlaw_1), .val (.int xlaw_2), .val (.int xlaw_3), .val (.long ylaw_4), .second, .val (.long ylaw_5), .second, .val (.int xlaw_6), .val (.int ms12_0), .val (.int ms26_0), .val (.int ms40_0), .val (.ref o34), .val (.int (0 : Int32)), .val (.int (0 : Int32)), .val (.int (0 : Int32)), .val (.int xlaw_2), .val (.long ylaw_5), .second, .val (.int (2 : Int32)), .unset] [(.int (0 : Int32)), (.ref o34)])) rfl (by rw [hml]; rfl) (Steps.refl _) (argsL := [(.int (0 : Int32))]) (rest := []) (lenOf pd8 rfl) rfl (by show 2 * 0 + _ ≤ _; exact Nat.le_of_eq rfl) (hb hby at_182) (fun _ _ => ⟨rfl, e285, (by decide : 7 + 0 ≤ _), (by decide : 778 + 0 ≤ _)⟩)
        dsimp only [Pt.U, Pt.locs, Pt.cells, Pt.slots] at X286 l286 y286 z286 st286 hQ286
        subst l286 y286 z286
        obtain ⟨rfl, Nq286, e286⟩ := hQ286
        have N286 := Fr.app N285 Nq286
        refine Wq.steps st286 ?_
        show Wq _ _ _ _ _ (T286.setTop (mkF m 185 #[.val (.int xlaw_1), .val (.int xlaw_2), .val (.int xlaw_3), .val (.long ylaw_4), .second, .val (.long ylaw_5), .second, .val (.int xlaw_6), .val (.int ms12_0), .val (.int ms26_0), .val (.int ms40_0), .val (.ref o34), .val (.int (0 : Int32)), .val (.int (0 : Int32)), .val (.int (0 : Int32)), .val (.int xlaw_2), .val (.long ylaw_5), .second, .val (.int (2 : Int32)), .unset] [(.long ylaw_5)]))
        refine Ow.lload X286 hx (pc' := 187) (hb hby at_185) rfl ?_
        refine Ow.lcmp X286 hx (pc' := 188) (hb hby at_187)  ?_
        refine Ow.ifNo X286 hx (pc' := 191) (hb hby at_188) ((if0 _ _).trans (teq ((lw_eq _ _).mpr (rfl : ylaw_5 = ylaw_5))).2) ?_
        refine Ow.iconst X286 hx (pc' := 192) (hb hby at_191) (z := (1 : Int32)) rfl ?_
        refine Ow.goto X286 hx (pc' := 196) (hb hby at_192) (by decide) (by decide) ?_
        refine Ow.istore X286 hx (pc' := 198) (hb hby at_196) (l' := #[.val (.int xlaw_1), .val (.int xlaw_2), .val (.int xlaw_3), .val (.long ylaw_4), .second, .val (.long ylaw_5), .second, .val (.int xlaw_6), .val (.int ms12_0), .val (.int ms26_0), .val (.int ms40_0), .val (.ref o34), .val (.int (0 : Int32)), .val (.int (0 : Int32)), .val (.int (0 : Int32)), .val (.int xlaw_2), .val (.long ylaw_5), .second, .val (.int (2 : Int32)), .val (.int (1 : Int32))]) rfl ?_
        refine Ow.aload X286 hx (pc' := 200) (hb hby at_198) rfl rfl ?_
        refine Ow.iload X286 hx (pc' := 202) (hb hby at_200) rfl ?_
        refine Ow.iloadN X286 hx (pc' := 203) (hb hby at_202) rfl ?_
        refine Ow.iloadN X286 hx (pc' := 204) (hb hby at_203) rfl ?_
        refine Ow.ixor X286 hx (pc' := 205) (hb hby at_204) (z := (xlaw_1 ^^^ xlaw_3)) rfl ?_
        obtain ⟨cq287, kq287, q287a, q287b, q287c⟩ := isOf hZ e286 A34_t284
        obtain ⟨_, _, ⟨T287, L287, k287, n287⟩, -, X287, ⟨Lc287, hQ287, l287, y287, z287⟩, st287⟩ := X286.virtualBack hx (y := mt8) (z := mt8) hown (mvT hZ (kw46 hw)) (mvT hZ (kw47 hw)) (notFace_of_selects (args := #[]) (mvT hZ (kw49 hw))) (mvT hZ (kw49 hw)) (mvT hZ (kw48 hw)) (by decide) (backOf (W := 0) (rm_st2 l Z a0 hw [] o34 (xlaw_1 ^^^ xlaw_3) b2_c35 b4_c35 b6_c35 b8_c35 b10_c35 b12_c35 (1 : Int32) (1 : Int32) (4 : Int32) ((xlaw_2.toInt64).toInt32) (List.replicate 63 (.int (0 : Int32))) (3 : Int32) (List.replicate 63 (.int (0 : Int32))) (0 : Int32) (-1 : Int32) (0 : Int32) (0 : Int32) (List.replicate 252 (.int (0 : Int32))) (xlaw_1.toInt64) ylaw_4 (xlaw_2.toInt64) (0 : Int64) (List.replicate 252 (.long (0 : Int64))) T284.heap n0 Z284 (by decide) A34_t284 P284_1 P284_2 P284_3 P284_4 P284_5 P284_6 P284_7 P284_8 P284_9 P284_11f g_o34 P284_10 g_b2_c35 (Ne.symm ne_o34_b2_c35) P271_13_t284 g_b4_c35 (Ne.symm ne_o34_b4_c35) P271_10_t284 g_b10_c35 (Ne.symm ne_o34_b10_c35) P271_11_t284 g_b12_c35 (Ne.symm ne_o34_b12_c35) ne_b2_c35_b4_c35 ne_b2_c35_b10_c35 ne_b2_c35_b12_c35 ne_b4_c35_b10_c35 ne_b4_c35_b12_c35 ne_b10_c35_b12_c35 (by decide)) hZ (kw50 hw) (kw2 hw) (by decide) (by decide)) q287a q287c (g := (mkF m 205 #[.val (.int xlaw_1), .val (.int xlaw_2), .val (.int xlaw_3), .val (.long ylaw_4), .second, .val (.long ylaw_5), .second, .val (.int xlaw_6), .val (.int ms12_0), .val (.int ms26_0), .val (.int ms40_0), .val (.ref o34), .val (.int (0 : Int32)), .val (.int (0 : Int32)), .val (.int (0 : Int32)), .val (.int xlaw_2), .val (.long ylaw_5), .second, .val (.int (2 : Int32)), .val (.int (1 : Int32))] [(.int (xlaw_1 ^^^ xlaw_3)), (.int (0 : Int32)), (.ref o34)])) rfl (by rw [hml]; rfl) (Steps.refl _) (argsL := [(.int (0 : Int32)), (.int (xlaw_1 ^^^ xlaw_3))]) (rest := []) (lenOf pd6 rfl) rfl (by show 2 * 0 + _ ≤ _; exact Nat.le_of_eq rfl) (hb hby at_205) (fun _ _ => ⟨rfl, e286, (by decide : 7 + 0 ≤ _), (by decide : 778 + 0 ≤ _)⟩)
        dsimp only [Pt.U, Pt.locs, Pt.cells, Pt.slots] at X287 l287 y287 z287 st287 hQ287
        subst l287 y287 z287
        obtain ⟨rfl, Nq287, Kq287, P287_0, P287_1, P287_2, P287_3, P287_4, P287_5, P287_6, P287_7, P287_8, P287_9, P287_10, P287_11, P287_12, P287_13, P287_14⟩ := hQ287
        have N287 := Fr.app N286 Nq287
        have K287 : Keep h0 T287.heap [] := K284.trans Kq287 (allS (P := fun x => x ∈ [] ∨ h0.size ≤ x) (Or.inr sz_o34) (allS (P := fun x => x ∈ [] ∨ h0.size ≤ x) (Or.inr sz_b12_c35) (allS (P := fun x => x ∈ [] ∨ h0.size ≤ x) (Or.inr sz_b10_c35) (allS (P := fun x => x ∈ [] ∨ h0.size ≤ x) (Or.inr sz_b4_c35) (allS (P := fun x => x ∈ [] ∨ h0.size ≤ x) (Or.inr sz_b2_c35) all0)))))
        have Z287 : n0 ≤ T287.heap.size := Nat.le_trans Z284 Kq287.1
        have A34_t287 := A34_t284.keep Kq287
        have P260_13_t287 := P260_13_t284.keep Kq287 (ninS (Ne.symm ne_o34_b8_c35) (ninS ne_b8_c35_b12_c35 (ninS ne_b8_c35_b10_c35 (ninS (Ne.symm ne_b4_c35_b8_c35) (ninS (Ne.symm ne_b2_c35_b8_c35) nin0)))))
        have P260_14_t287 := P260_14_t284.keep Kq287 (ninS (Ne.symm ne_o34_b6_c35) (ninS ne_b6_c35_b12_c35 (ninS ne_b6_c35_b10_c35 (ninS (Ne.symm ne_b4_c35_b6_c35) (ninS (Ne.symm ne_b2_c35_b6_c35) nin0)))))
        have e287 : T287.heap = T287.heap := rfl
        refine Wq.steps st287 ?_
        show Wq _ _ _ _ _ (T287.setTop (mkF m 208 #[.val (.int xlaw_1), .val (.int xlaw_2), .val (.int xlaw_3), .val (.long ylaw_4), .second, .val (.long ylaw_5), .second, .val (.int xlaw_6), .val (.int ms12_0), .val (.int ms26_0), .val (.int ms40_0), .val (.ref o34), .val (.int (0 : Int32)), .val (.int (0 : Int32)), .val (.int (0 : Int32)), .val (.int xlaw_2), .val (.long ylaw_5), .second, .val (.int (2 : Int32)), .val (.int (1 : Int32))] []))
        refine Ow.aload X287 hx (pc' := 210) (hb hby at_208) rfl rfl ?_
        refine Ow.iload X287 hx (pc' := 212) (hb hby at_210) rfl ?_
        obtain ⟨cq288, kq288, q288a, q288b, q288c⟩ := isOf hZ e287 A34_t287
        obtain ⟨_, _, ⟨T288, L288, k288, n288⟩, -, X288, ⟨Lc288, hQ288, l288, y288, z288⟩, st288⟩ := X287.virtualBack hx (y := mt9) (z := mt9) hown (mvT hZ (kw60 hw)) (mvT hZ (kw61 hw)) (notFace_of_selects (args := #[]) (mvT hZ (kw63 hw))) (mvT hZ (kw63 hw)) (mvT hZ (kw62 hw)) (by decide) (backOf (W := 0) (rm_un32i l Z a0 hw [] o34 b2_c35 b4_c35 b6_c35 b8_c35 b10_c35 b12_c35 (1 : Int32) (1 : Int32) (4 : Int32) (xlaw_1 ^^^ xlaw_3) (List.replicate 63 (.int (0 : Int32))) ylaw_5 (List.replicate 63 (.long (0 : Int64))) (0 : Int32) (-1 : Int32) (0 : Int32) (List.replicate 252 (.int (0 : Int32))) (xlaw_1.toInt64) ylaw_4 (((xlaw_2.toInt64).toInt32).toInt64) (0 : Int64) (List.replicate 252 (.long (0 : Int64))) T287.heap n0 Z287 A34_t287 P287_1 P287_2 P287_3 P287_4 P287_5 P287_6 P287_7 P287_8 P287_12 P287_9 g_o34 P287_14 g_b2_c35 (Ne.symm ne_o34_b2_c35) P260_14_t287 g_b6_c35 (Ne.symm ne_o34_b6_c35) P287_10 g_b10_c35 (Ne.symm ne_o34_b10_c35) P287_11 g_b12_c35 (Ne.symm ne_o34_b12_c35) ne_b2_c35_b6_c35 ne_b2_c35_b10_c35 ne_b2_c35_b12_c35 ne_b6_c35_b10_c35 ne_b6_c35_b12_c35 ne_b10_c35_b12_c35) hZ (kw64 hw) (kw2 hw) (by decide) (by decide)) q288a q288c (g := (mkF m 212 #[.val (.int xlaw_1), .val (.int xlaw_2), .val (.int xlaw_3), .val (.long ylaw_4), .second, .val (.long ylaw_5), .second, .val (.int xlaw_6), .val (.int ms12_0), .val (.int ms26_0), .val (.int ms40_0), .val (.ref o34), .val (.int (0 : Int32)), .val (.int (0 : Int32)), .val (.int (0 : Int32)), .val (.int xlaw_2), .val (.long ylaw_5), .second, .val (.int (2 : Int32)), .val (.int (1 : Int32))] [(.int (2 : Int32)), (.ref o34)])) rfl (by rw [hml]; rfl) (Steps.refl _) (argsL := [(.int (2 : Int32))]) (rest := []) (lenOf pd7 rfl) rfl (by show 2 * 0 + _ ≤ _; exact Nat.le_of_eq rfl) (hb hby at_212) (fun _ _ => ⟨rfl, e287, (by decide : 7 + 0 ≤ _), (by decide : 778 + 0 ≤ _)⟩)
        dsimp only [Pt.U, Pt.locs, Pt.cells, Pt.slots] at X288 l288 y288 z288 st288 hQ288
        subst l288 y288 z288
        obtain ⟨rfl, Nq288, Kq288, P288_0, P288_1, P288_2, P288_3, P288_4, P288_5, P288_6, P288_7, P288_8, P288_9, P288_10, P288_11⟩ := hQ288
        have N288 := Fr.app N287 Nq288
        have K288 : Keep h0 T288.heap [] := K287.trans Kq288 (allS (P := fun x => x ∈ [] ∨ h0.size ≤ x) (Or.inr sz_o34) (allS (P := fun x => x ∈ [] ∨ h0.size ≤ x) (Or.inr sz_b2_c35) all0))
        have Z288 : n0 ≤ T288.heap.size := Nat.le_trans Z287 Kq288.1
        have A34_t288 := A34_t287.keep Kq288
        have P260_13_t288 := P260_13_t287.keep Kq288 (ninS (Ne.symm ne_o34_b8_c35) (ninS (Ne.symm ne_b2_c35_b8_c35) nin0))
        have P260_14_t288 := P260_14_t287.keep Kq288 (ninS (Ne.symm ne_o34_b6_c35) (ninS (Ne.symm ne_b2_c35_b6_c35) nin0))
        have P287_10_t288 := P287_10.keep Kq288 (ninS (Ne.symm ne_o34_b10_c35) (ninS (Ne.symm ne_b2_c35_b10_c35) nin0))
        have P287_11_t288 := P287_11.keep Kq288 (ninS (Ne.symm ne_o34_b12_c35) (ninS (Ne.symm ne_b2_c35_b12_c35) nin0))
        have P287_13_t288 := P287_13.keep Kq288 (ninS (Ne.symm ne_o34_b4_c35) (ninS (Ne.symm ne_b2_c35_b4_c35) nin0))
        have e288 : T288.heap = T288.heap := rfl
        have P288_11f : Fld Z T288.heap o34 "com/example/tauten/tauten/Trail" "epoch" "I" (.int (5 : Int32)) := P288_11
        refine Wq.steps st288 ?_
        show Wq _ _ _ _ _ (T288.setTop (mkF m 215 #[.val (.int xlaw_1), .val (.int xlaw_2), .val (.int xlaw_3), .val (.long ylaw_4), .second, .val (.long ylaw_5), .second, .val (.int xlaw_6), .val (.int ms12_0), .val (.int ms26_0), .val (.int ms40_0), .val (.ref o34), .val (.int (0 : Int32)), .val (.int (0 : Int32)), .val (.int (0 : Int32)), .val (.int xlaw_2), .val (.long ylaw_5), .second, .val (.int (2 : Int32)), .val (.int (1 : Int32))] []))
        refine Ow.iload X288 hx (pc' := 217) (hb hby at_215) rfl ?_
        refine Ow.ifNo X288 hx (pc' := 220) (hb hby at_217) ((if0 _ _).trans (feq (by decide : ¬ ((1 : Int32) = (0 : Int32)))).1) ?_
        refine Ow.aload X288 hx (pc' := 222) (hb hby at_220) rfl rfl ?_
        refine Ow.iload X288 hx (pc' := 224) (hb hby at_222) rfl ?_
        obtain ⟨cq289, kq289, q289a, q289b, q289c⟩ := isOf hZ e288 A34_t288
        obtain ⟨_, _, ⟨T289, L289, k289, n289⟩, -, X289, ⟨Lc289, hQ289, l289, y289, z289⟩, st289⟩ := X288.virtualBack hx (y := mt5) (z := mt5) hown (mvT hZ (kw65 hw)) (mvT hZ (kw66 hw)) (notFace_of_selects (args := #[]) (mvT hZ (kw68 hw))) (mvT hZ (kw68 hw)) (mvT hZ (kw67 hw)) (by decide) (backOf (W := 0) (rm_gt l Z a0 hw [] o34 b2_c35 ((((xlaw_2.toInt64).toInt32).toInt64).toInt32) (List.replicate 63 (.int (0 : Int32))) T288.heap n0 Z288 P288_1 P288_10) hZ (kw69 hw) (kw2 hw) (by decide) (by decide)) q289a q289c (g := (mkF m 224 #[.val (.int xlaw_1), .val (.int xlaw_2), .val (.int xlaw_3), .val (.long ylaw_4), .second, .val (.long ylaw_5), .second, .val (.int xlaw_6), .val (.int ms12_0), .val (.int ms26_0), .val (.int ms40_0), .val (.ref o34), .val (.int (0 : Int32)), .val (.int (0 : Int32)), .val (.int (0 : Int32)), .val (.int xlaw_2), .val (.long ylaw_5), .second, .val (.int (2 : Int32)), .val (.int (1 : Int32))] [(.int (0 : Int32)), (.ref o34)])) rfl (by rw [hml]; rfl) (Steps.refl _) (argsL := [(.int (0 : Int32))]) (rest := []) (lenOf pd2 rfl) rfl (by show 2 * 0 + _ ≤ _; exact Nat.le_of_eq rfl) (hb hby at_224) (fun _ _ => ⟨rfl, e288, (by decide : 7 + 0 ≤ _), (by decide : 778 + 0 ≤ _)⟩)
        dsimp only [Pt.U, Pt.locs, Pt.cells, Pt.slots] at X289 l289 y289 z289 st289 hQ289
        subst l289 y289 z289
        obtain ⟨rfl, Nq289, e289⟩ := hQ289
        have N289 := Fr.app N288 Nq289
        refine Wq.steps st289 ?_
        show Wq _ _ _ _ _ (T289.setTop (mkF m 227 #[.val (.int xlaw_1), .val (.int xlaw_2), .val (.int xlaw_3), .val (.long ylaw_4), .second, .val (.long ylaw_5), .second, .val (.int xlaw_6), .val (.int ms12_0), .val (.int ms26_0), .val (.int ms40_0), .val (.ref o34), .val (.int (0 : Int32)), .val (.int (0 : Int32)), .val (.int (0 : Int32)), .val (.int xlaw_2), .val (.long ylaw_5), .second, .val (.int (2 : Int32)), .val (.int (1 : Int32))] [(.int ((((xlaw_2.toInt64).toInt32).toInt64).toInt32))]))
        refine Ow.iload X289 hx (pc' := 229) (hb hby at_227) rfl ?_
        refine Ow.icmpNo X289 hx (pc' := 232) (hb hby at_229) (teq (by first | (simp only [Int32.toInt32_toInt64]; done) | rfl : ((((xlaw_2.toInt64).toInt32).toInt64).toInt32) = xlaw_2)).2 ?_
        refine Ow.iconst X289 hx (pc' := 233) (hb hby at_232) (z := (1 : Int32)) rfl ?_
        refine Ow.goto X289 hx (pc' := 237) (hb hby at_233) (by decide) (by decide) ?_
        refine Ow.istore X289 hx (pc' := 239) (hb hby at_237) (l' := #[.val (.int xlaw_1), .val (.int xlaw_2), .val (.int xlaw_3), .val (.long ylaw_4), .second, .val (.long ylaw_5), .second, .val (.int xlaw_6), .val (.int ms12_0), .val (.int ms26_0), .val (.int ms40_0), .val (.ref o34), .val (.int (0 : Int32)), .val (.int (0 : Int32)), .val (.int (0 : Int32)), .val (.int xlaw_2), .val (.long ylaw_5), .second, .val (.int (2 : Int32)), .val (.int (1 : Int32))]) rfl ?_
        refine Ow.aload X289 hx (pc' := 241) (hb hby at_239) rfl rfl ?_
        refine Ow.iload X289 hx (pc' := 243) (hb hby at_241) rfl ?_
        obtain ⟨cq290, kq290, q290a, q290b, q290c⟩ := isOf hZ e289 A34_t288
        obtain ⟨_, _, ⟨T290, L290, k290, n290⟩, -, X290, ⟨Lc290, hQ290, l290, y290, z290⟩, st290⟩ := X289.virtualBack hx (y := mt9) (z := mt9) hown (mvT hZ (kw60 hw)) (mvT hZ (kw61 hw)) (notFace_of_selects (args := #[]) (mvT hZ (kw63 hw))) (mvT hZ (kw63 hw)) (mvT hZ (kw62 hw)) (by decide) (backOf (W := 0) (rm_un20il l Z a0 hw [] o34 b2_c35 b4_c35 b6_c35 b8_c35 b10_c35 b12_c35 (1 : Int32) (1 : Int32) (5 : Int32) ((((xlaw_2.toInt64).toInt32).toInt64).toInt32) (List.replicate 63 (.int (0 : Int32))) ylaw_5 (List.replicate 63 (.long (0 : Int64))) (0 : Int32) (0 : Int32) (List.replicate 252 (.int (0 : Int32))) (xlaw_1.toInt64) ylaw_4 (((xlaw_2.toInt64).toInt32).toInt64) (0 : Int64) (List.replicate 252 (.long (0 : Int64))) T288.heap n0 Z288 A34_t288 P288_1 P288_2 P288_3 P288_4 P288_5 P288_6 P288_7 P288_8 P288_9 P288_11f g_o34 P288_10 g_b2_c35 (Ne.symm ne_o34_b2_c35) P260_14_t288 g_b6_c35 (Ne.symm ne_o34_b6_c35) P287_10_t288 g_b10_c35 (Ne.symm ne_o34_b10_c35) P287_11_t288 g_b12_c35 (Ne.symm ne_o34_b12_c35) ne_b2_c35_b6_c35 ne_b2_c35_b10_c35 ne_b2_c35_b12_c35 ne_b6_c35_b10_c35 ne_b6_c35_b12_c35 ne_b10_c35_b12_c35) hZ (kw64 hw) (kw2 hw) (by decide) (by decide)) q290a q290c (g := (mkF m 243 #[.val (.int xlaw_1), .val (.int xlaw_2), .val (.int xlaw_3), .val (.long ylaw_4), .second, .val (.long ylaw_5), .second, .val (.int xlaw_6), .val (.int ms12_0), .val (.int ms26_0), .val (.int ms40_0), .val (.ref o34), .val (.int (0 : Int32)), .val (.int (0 : Int32)), .val (.int (0 : Int32)), .val (.int xlaw_2), .val (.long ylaw_5), .second, .val (.int (2 : Int32)), .val (.int (1 : Int32))] [(.int (0 : Int32)), (.ref o34)])) rfl (by rw [hml]; rfl) (Steps.refl _) (argsL := [(.int (0 : Int32))]) (rest := []) (lenOf pd7 rfl) rfl (by show 2 * 0 + _ ≤ _; exact Nat.le_of_eq rfl) (hb hby at_243) (fun _ _ => ⟨rfl, e289, (by decide : 7 + 0 ≤ _), (by decide : 778 + 0 ≤ _)⟩)
        dsimp only [Pt.U, Pt.locs, Pt.cells, Pt.slots] at X290 l290 y290 z290 st290 hQ290
        subst l290 y290 z290
        obtain ⟨rfl, Nq290, Kq290, P290_0, P290_1, P290_2, P290_3, P290_4, P290_5, P290_6, P290_7, P290_8, P290_9, P290_10, P290_11, P290_12⟩ := hQ290
        have N290 := Fr.app N289 Nq290
        have K290 : Keep h0 T290.heap [] := K288.trans Kq290 (allS (P := fun x => x ∈ [] ∨ h0.size ≤ x) (Or.inr sz_o34) (allS (P := fun x => x ∈ [] ∨ h0.size ≤ x) (Or.inr sz_b6_c35) (allS (P := fun x => x ∈ [] ∨ h0.size ≤ x) (Or.inr sz_b2_c35) all0)))
        have Z290 : n0 ≤ T290.heap.size := Nat.le_trans Z288 Kq290.1
        have A34_t290 := A34_t288.keep Kq290
        have P260_13_t290 := P260_13_t288.keep Kq290 (ninS (Ne.symm ne_o34_b8_c35) (ninS (Ne.symm ne_b6_c35_b8_c35) (ninS (Ne.symm ne_b2_c35_b8_c35) nin0)))
        have P287_10_t290 := P287_10_t288.keep Kq290 (ninS (Ne.symm ne_o34_b10_c35) (ninS (Ne.symm ne_b6_c35_b10_c35) (ninS (Ne.symm ne_b2_c35_b10_c35) nin0)))
        have P287_11_t290 := P287_11_t288.keep Kq290 (ninS (Ne.symm ne_o34_b12_c35) (ninS (Ne.symm ne_b6_c35_b12_c35) (ninS (Ne.symm ne_b2_c35_b12_c35) nin0)))
        have P287_13_t290 := P287_13_t288.keep Kq290 (ninS (Ne.symm ne_o34_b4_c35) (ninS ne_b4_c35_b6_c35 (ninS (Ne.symm ne_b2_c35_b4_c35) nin0)))
        have e290 : T290.heap = T290.heap := rfl
        have P290_12f : Fld Z T290.heap o34 "com/example/tauten/tauten/Trail" "epoch" "I" (.int (6 : Int32)) := P290_12
        refine Wq.steps st290 ?_
        show Wq _ _ _ _ _ (T290.setTop (mkF m 246 #[.val (.int xlaw_1), .val (.int xlaw_2), .val (.int xlaw_3), .val (.long ylaw_4), .second, .val (.long ylaw_5), .second, .val (.int xlaw_6), .val (.int ms12_0), .val (.int ms26_0), .val (.int ms40_0), .val (.ref o34), .val (.int (0 : Int32)), .val (.int (0 : Int32)), .val (.int (0 : Int32)), .val (.int xlaw_2), .val (.long ylaw_5), .second, .val (.int (2 : Int32)), .val (.int (1 : Int32))] []))
        refine Ow.iload X290 hx (pc' := 248) (hb hby at_246) rfl ?_
        refine Ow.ifNo X290 hx (pc' := 251) (hb hby at_248) ((if0 _ _).trans (feq (by decide : ¬ ((1 : Int32) = (0 : Int32)))).1) ?_
        refine Ow.aload X290 hx (pc' := 253) (hb hby at_251) rfl rfl ?_
        refine Ow.iload X290 hx (pc' := 255) (hb hby at_253) rfl ?_
        obtain ⟨cq291, kq291, q291a, q291b, q291c⟩ := isOf hZ e290 A34_t290
        obtain ⟨_, _, ⟨T291, L291, k291, n291⟩, -, X291, ⟨Lc291, hQ291, l291, y291, z291⟩, st291⟩ := X290.virtualBack hx (y := mt5) (z := mt5) hown (mvT hZ (kw65 hw)) (mvT hZ (kw66 hw)) (notFace_of_selects (args := #[]) (mvT hZ (kw68 hw))) (mvT hZ (kw68 hw)) (mvT hZ (kw67 hw)) (by decide) (backOf (W := 0) (rm_gt l Z a0 hw [] o34 b2_c35 ((xlaw_1.toInt64).toInt32) (List.replicate 63 (.int (0 : Int32))) T290.heap n0 Z290 P290_1 P290_11) hZ (kw69 hw) (kw2 hw) (by decide) (by decide)) q291a q291c (g := (mkF m 255 #[.val (.int xlaw_1), .val (.int xlaw_2), .val (.int xlaw_3), .val (.long ylaw_4), .second, .val (.long ylaw_5), .second, .val (.int xlaw_6), .val (.int ms12_0), .val (.int ms26_0), .val (.int ms40_0), .val (.ref o34), .val (.int (0 : Int32)), .val (.int (0 : Int32)), .val (.int (0 : Int32)), .val (.int xlaw_2), .val (.long ylaw_5), .second, .val (.int (2 : Int32)), .val (.int (1 : Int32))] [(.int (0 : Int32)), (.ref o34)])) rfl (by rw [hml]; rfl) (Steps.refl _) (argsL := [(.int (0 : Int32))]) (rest := []) (lenOf pd2 rfl) rfl (by show 2 * 0 + _ ≤ _; exact Nat.le_of_eq rfl) (hb hby at_255) (fun _ _ => ⟨rfl, e290, (by decide : 7 + 0 ≤ _), (by decide : 778 + 0 ≤ _)⟩)
        dsimp only [Pt.U, Pt.locs, Pt.cells, Pt.slots] at X291 l291 y291 z291 st291 hQ291
        subst l291 y291 z291
        obtain ⟨rfl, Nq291, e291⟩ := hQ291
        have N291 := Fr.app N290 Nq291
        refine Wq.steps st291 ?_
        show Wq _ _ _ _ _ (T291.setTop (mkF m 258 #[.val (.int xlaw_1), .val (.int xlaw_2), .val (.int xlaw_3), .val (.long ylaw_4), .second, .val (.long ylaw_5), .second, .val (.int xlaw_6), .val (.int ms12_0), .val (.int ms26_0), .val (.int ms40_0), .val (.ref o34), .val (.int (0 : Int32)), .val (.int (0 : Int32)), .val (.int (0 : Int32)), .val (.int xlaw_2), .val (.long ylaw_5), .second, .val (.int (2 : Int32)), .val (.int (1 : Int32))] [(.int ((xlaw_1.toInt64).toInt32))]))
        refine Ow.iloadN X291 hx (pc' := 259) (hb hby at_258) rfl ?_
        refine Ow.icmpNo X291 hx (pc' := 262) (hb hby at_259) (teq (by first | (simp only [Int32.toInt32_toInt64]; done) | rfl : ((xlaw_1.toInt64).toInt32) = xlaw_1)).2 ?_
        refine Ow.aload X291 hx (pc' := 264) (hb hby at_262) rfl rfl ?_
        refine Ow.iload X291 hx (pc' := 266) (hb hby at_264) rfl ?_
        obtain ⟨cq292, kq292, q292a, q292b, q292c⟩ := isOf hZ e291 A34_t290
        obtain ⟨_, _, ⟨T292, L292, k292, n292⟩, -, X292, ⟨Lc292, hQ292, l292, y292, z292⟩, st292⟩ := X291.virtualBack hx (y := mt6) (z := mt6) hown (mvT hZ (kw70 hw)) (mvT hZ (kw71 hw)) (notFace_of_selects (args := #[]) (mvT hZ (kw73 hw))) (mvT hZ (kw73 hw)) (mvT hZ (kw72 hw)) (by decide) (backOf (W := 0) (rm_gl l Z a0 hw [] o34 b6_c35 ylaw_4 (List.replicate 63 (.long (0 : Int64))) T290.heap n0 Z290 P290_3 P290_9) hZ (kw74 hw) (kw2 hw) (by decide) (by decide)) q292a q292c (g := (mkF m 266 #[.val (.int xlaw_1), .val (.int xlaw_2), .val (.int xlaw_3), .val (.long ylaw_4), .second, .val (.long ylaw_5), .second, .val (.int xlaw_6), .val (.int ms12_0), .val (.int ms26_0), .val (.int ms40_0), .val (.ref o34), .val (.int (0 : Int32)), .val (.int (0 : Int32)), .val (.int (0 : Int32)), .val (.int xlaw_2), .val (.long ylaw_5), .second, .val (.int (2 : Int32)), .val (.int (1 : Int32))] [(.int (0 : Int32)), (.ref o34)])) rfl (by rw [hml]; rfl) (Steps.refl _) (argsL := [(.int (0 : Int32))]) (rest := []) (lenOf pd8 rfl) rfl (by show 2 * 0 + _ ≤ _; exact Nat.le_of_eq rfl) (hb hby at_266) (fun _ _ => ⟨rfl, e291, (by decide : 7 + 0 ≤ _), (by decide : 778 + 0 ≤ _)⟩)
        dsimp only [Pt.U, Pt.locs, Pt.cells, Pt.slots] at X292 l292 y292 z292 st292 hQ292
        subst l292 y292 z292
        obtain ⟨rfl, Nq292, e292⟩ := hQ292
        have N292 := Fr.app N291 Nq292
        refine Wq.steps st292 ?_
        show Wq _ _ _ _ _ (T292.setTop (mkF m 269 #[.val (.int xlaw_1), .val (.int xlaw_2), .val (.int xlaw_3), .val (.long ylaw_4), .second, .val (.long ylaw_5), .second, .val (.int xlaw_6), .val (.int ms12_0), .val (.int ms26_0), .val (.int ms40_0), .val (.ref o34), .val (.int (0 : Int32)), .val (.int (0 : Int32)), .val (.int (0 : Int32)), .val (.int xlaw_2), .val (.long ylaw_5), .second, .val (.int (2 : Int32)), .val (.int (1 : Int32))] [(.long ylaw_4)]))
        refine Ow.lloadN X292 hx (pc' := 270) (hb hby at_269) rfl ?_
        refine Ow.lcmp X292 hx (pc' := 271) (hb hby at_270)  ?_
        refine Ow.ifNo X292 hx (pc' := 274) (hb hby at_271) ((if0 _ _).trans (teq ((lw_eq _ _).mpr (rfl : ylaw_4 = ylaw_4))).2) ?_
        refine Ow.iconst X292 hx (pc' := 275) (hb hby at_274) (z := (1 : Int32)) rfl ?_
        refine Ow.goto X292 hx (pc' := 279) (hb hby at_275) (by decide) (by decide) ?_
        refine Ow.istore X292 hx (pc' := 281) (hb hby at_279) (l' := #[.val (.int xlaw_1), .val (.int xlaw_2), .val (.int xlaw_3), .val (.long ylaw_4), .second, .val (.long ylaw_5), .second, .val (.int xlaw_6), .val (.int ms12_0), .val (.int ms26_0), .val (.int ms40_0), .val (.ref o34), .val (.int (0 : Int32)), .val (.int (0 : Int32)), .val (.int (0 : Int32)), .val (.int xlaw_2), .val (.long ylaw_5), .second, .val (.int (2 : Int32)), .val (.int (1 : Int32))]) rfl ?_
        refine Ow.iload X292 hx (pc' := 283) (hb hby at_281) rfl ?_
        exact Wq.ret X292 (BodyLoose.notSynchronized Bd) (rv := some (.int (1 : Int32))) (fun h => by rw [Bd.returns] at h; cases h) (fun _ hr => retN X292 hx (t := .boolean) Bd.returns (by simp) (hb hby at_283) hr) (by decide) (by decide) ⟨rfl, N292⟩
      · skip
        refine Ow.ifNo X271 hx (pc' := 146) (hb hby at_143) ((if0 _ _).trans (feq hc143).1) ?_
        refine Ow.aload X271 hx (pc' := 148) (hb hby at_146) rfl rfl ?_
        refine Ow.iload X271 hx (pc' := 150) (hb hby at_148) rfl ?_
        refine Ow.lload X271 hx (pc' := 152) (hb hby at_150) rfl ?_
        refine Ow.ldc2Long X271 hx hZ (pc' := 155) hown (kw75 hw) (hb hby at_152) ?_
        refine Ow.lxor X271 hx (pc' := 156) (hb hby at_155) (z := (ylaw_5 ^^^ (-1 : Int64))) rfl ?_
        obtain ⟨cq312, kq312, q312a, q312b, q312c⟩ := isOf hZ e271 A34_t271
        obtain ⟨_, _, ⟨T312, L312, k312, n312⟩, -, X312, ⟨Lc312, hQ312, l312, y312, z312⟩, st312⟩ := X271.virtualBack hx (y := mt10) (z := mt10) hown (mvT hZ (kw55 hw)) (mvT hZ (kw56 hw)) (notFace_of_selects (args := #[]) (mvT hZ (kw58 hw))) (mvT hZ (kw58 hw)) (mvT hZ (kw57 hw)) (by decide) (backOf (W := 0) (rm_sl3 l Z a0 hw [] o34 (ylaw_5 ^^^ (-1 : Int64)) b2_c35 b4_c35 b6_c35 b8_c35 b10_c35 b12_c35 (1 : Int32) (1 : Int32) (3 : Int32) ylaw_5 (List.replicate 63 (.long (0 : Int64))) (2 : Int32) (List.replicate 63 (.int (0 : Int32))) (0 : Int32) (-1 : Int32) (0 : Int32) (0 : Int32) (List.replicate 252 (.int (0 : Int32))) (xlaw_1.toInt64) ylaw_4 (xlaw_2.toInt64) (0 : Int64) (List.replicate 252 (.long (0 : Int64))) T271.heap n0 Z271 (by decide) A34_t271 P271_1 P271_2 P271_3 P271_4 P271_5 P271_6 P271_7 P271_8 P271_12 P271_9 g_o34 P260_14_t271 g_b6_c35 (Ne.symm ne_o34_b6_c35) P260_13_t271 g_b8_c35 (Ne.symm ne_o34_b8_c35) P271_10 g_b10_c35 (Ne.symm ne_o34_b10_c35) P271_11 g_b12_c35 (Ne.symm ne_o34_b12_c35) ne_b6_c35_b8_c35 ne_b6_c35_b10_c35 ne_b6_c35_b12_c35 ne_b8_c35_b10_c35 ne_b8_c35_b12_c35 ne_b10_c35_b12_c35 (by decide)) hZ (kw59 hw) (kw2 hw) (by decide) (by decide)) q312a q312c (g := (mkF m 156 #[.val (.int xlaw_1), .val (.int xlaw_2), .val (.int xlaw_3), .val (.long ylaw_4), .second, .val (.long ylaw_5), .second, .val (.int xlaw_6), .val (.int ms12_0), .val (.int ms26_0), .val (.int ms40_0), .val (.ref o34), .val (.int (0 : Int32)), .val (.int (0 : Int32)), .val (.int (0 : Int32)), .val (.int xlaw_2), .val (.long ylaw_5), .second, .val (.int (2 : Int32)), .unset] [(.long (ylaw_5 ^^^ (-1 : Int64))), (.int (0 : Int32)), (.ref o34)])) rfl (by rw [hml]; rfl) (Steps.refl _) (argsL := [(.int (0 : Int32)), (.long (ylaw_5 ^^^ (-1 : Int64)))]) (rest := []) (lenOf pd5 rfl) rfl (by show 2 * 0 + _ ≤ _; exact Nat.le_of_eq rfl) (hb hby at_156) (fun _ _ => ⟨rfl, e271, (by decide : 7 + 0 ≤ _), (by decide : 778 + 0 ≤ _)⟩)
        dsimp only [Pt.U, Pt.locs, Pt.cells, Pt.slots] at X312 l312 y312 z312 st312 hQ312
        subst l312 y312 z312
        obtain ⟨rfl, Nq312, Kq312, P312_0, P312_1, P312_2, P312_3, P312_4, P312_5, P312_6, P312_7, P312_8, P312_9, P312_10, P312_11, P312_12, P312_13, P312_14⟩ := hQ312
        have N312 := Fr.app N271 Nq312
        have K312 : Keep h0 T312.heap [] := K271.trans Kq312 (allS (P := fun x => x ∈ [] ∨ h0.size ≤ x) (Or.inr sz_o34) (allS (P := fun x => x ∈ [] ∨ h0.size ≤ x) (Or.inr sz_b12_c35) (allS (P := fun x => x ∈ [] ∨ h0.size ≤ x) (Or.inr sz_b10_c35) (allS (P := fun x => x ∈ [] ∨ h0.size ≤ x) (Or.inr sz_b8_c35) (allS (P := fun x => x ∈ [] ∨ h0.size ≤ x) (Or.inr sz_b6_c35) all0)))))
        have Z312 : n0 ≤ T312.heap.size := Nat.le_trans Z271 Kq312.1
        have A34_t312 := A34_t271.keep Kq312
        have P271_13_t312 := P271_13.keep Kq312 (ninS (Ne.symm ne_o34_b4_c35) (ninS ne_b4_c35_b12_c35 (ninS ne_b4_c35_b10_c35 (ninS ne_b4_c35_b8_c35 (ninS ne_b4_c35_b6_c35 nin0)))))
        have P271_14_t312 := P271_14.keep Kq312 (ninS (Ne.symm ne_o34_b2_c35) (ninS ne_b2_c35_b12_c35 (ninS ne_b2_c35_b10_c35 (ninS ne_b2_c35_b8_c35 (ninS ne_b2_c35_b6_c35 nin0)))))
        have e312 : T312.heap = T312.heap := rfl
        refine Wq.steps st312 ?_
        show Wq _ _ _ _ _ (T312.setTop (mkF m 159 #[.val (.int xlaw_1), .val (.int xlaw_2), .val (.int xlaw_3), .val (.long ylaw_4), .second, .val (.long ylaw_5), .second, .val (.int xlaw_6), .val (.int ms12_0), .val (.int ms26_0), .val (.int ms40_0), .val (.ref o34), .val (.int (0 : Int32)), .val (.int (0 : Int32)), .val (.int (0 : Int32)), .val (.int xlaw_2), .val (.long ylaw_5), .second, .val (.int (2 : Int32)), .unset] []))
        refine Ow.aload X312 hx (pc' := 161) (hb hby at_159) rfl rfl ?_
        refine Ow.iload X312 hx (pc' := 163) (hb hby at_161) rfl ?_
        obtain ⟨cq334, kq334, q334a, q334b, q334c⟩ := isOf hZ e312 A34_t312
        obtain ⟨_, _, ⟨T334, L334, k334, n334⟩, -, X334, ⟨Lc334, hQ334, l334, y334, z334⟩, st334⟩ := X312.virtualBack hx (y := mt9) (z := mt9) hown (mvT hZ (kw60 hw)) (mvT hZ (kw61 hw)) (notFace_of_selects (args := #[]) (mvT hZ (kw63 hw))) (mvT hZ (kw63 hw)) (mvT hZ (kw62 hw)) (by decide) (backOf (W := 0) (rm_un42il l Z a0 hw [] o34 b2_c35 b4_c35 b6_c35 b8_c35 b10_c35 b12_c35 (1 : Int32) (1 : Int32) (3 : Int32) xlaw_3 (List.replicate 63 (.int (0 : Int32))) (ylaw_5 ^^^ (-1 : Int64)) (List.replicate 63 (.long (0 : Int64))) (0 : Int32) (-1 : Int32) (List.replicate 252 (.int (0 : Int32))) (xlaw_1.toInt64) ylaw_4 (xlaw_2.toInt64) ylaw_5 (List.replicate 252 (.long (0 : Int64))) T312.heap n0 Z312 A34_t312 P312_1 P312_2 P312_3 P312_4 P312_5 P312_6 P312_7 P312_8 P312_12 P312_9 g_o34 P271_14_t312 g_b2_c35 (Ne.symm ne_o34_b2_c35) P312_14 g_b6_c35 (Ne.symm ne_o34_b6_c35) P312_10 g_b10_c35 (Ne.symm ne_o34_b10_c35) P312_11 g_b12_c35 (Ne.symm ne_o34_b12_c35) ne_b2_c35_b6_c35 ne_b2_c35_b10_c35 ne_b2_c35_b12_c35 ne_b6_c35_b10_c35 ne_b6_c35_b12_c35 ne_b10_c35_b12_c35) hZ (kw64 hw) (kw2 hw) (by decide) (by decide)) q334a q334c (g := (mkF m 163 #[.val (.int xlaw_1), .val (.int xlaw_2), .val (.int xlaw_3), .val (.long ylaw_4), .second, .val (.long ylaw_5), .second, .val (.int xlaw_6), .val (.int ms12_0), .val (.int ms26_0), .val (.int ms40_0), .val (.ref o34), .val (.int (0 : Int32)), .val (.int (0 : Int32)), .val (.int (0 : Int32)), .val (.int xlaw_2), .val (.long ylaw_5), .second, .val (.int (2 : Int32)), .unset] [(.int (2 : Int32)), (.ref o34)])) rfl (by rw [hml]; rfl) (Steps.refl _) (argsL := [(.int (2 : Int32))]) (rest := []) (lenOf pd7 rfl) rfl (by show 2 * 0 + _ ≤ _; exact Nat.le_of_eq rfl) (hb hby at_163) (fun _ _ => ⟨rfl, e312, (by decide : 7 + 0 ≤ _), (by decide : 778 + 0 ≤ _)⟩)
        dsimp only [Pt.U, Pt.locs, Pt.cells, Pt.slots] at X334 l334 y334 z334 st334 hQ334
        subst l334 y334 z334
        obtain ⟨rfl, Nq334, Kq334, P334_0, P334_1, P334_2, P334_3, P334_4, P334_5, P334_6, P334_7, P334_8, P334_9, P334_10, P334_11, P334_12⟩ := hQ334
        have N334 := Fr.app N312 Nq334
        have K334 : Keep h0 T334.heap [] := K312.trans Kq334 (allS (P := fun x => x ∈ [] ∨ h0.size ≤ x) (Or.inr sz_o34) (allS (P := fun x => x ∈ [] ∨ h0.size ≤ x) (Or.inr sz_b6_c35) (allS (P := fun x => x ∈ [] ∨ h0.size ≤ x) (Or.inr sz_b2_c35) all0)))
        have Z334 : n0 ≤ T334.heap.size := Nat.le_trans Z312 Kq334.1
        have A34_t334 := A34_t312.keep Kq334
        have P271_13_t334 := P271_13_t312.keep Kq334 (ninS (Ne.symm ne_o34_b4_c35) (ninS ne_b4_c35_b6_c35 (ninS (Ne.symm ne_b2_c35_b4_c35) nin0)))
        have P312_10_t334 := P312_10.keep Kq334 (ninS (Ne.symm ne_o34_b10_c35) (ninS (Ne.symm ne_b6_c35_b10_c35) (ninS (Ne.symm ne_b2_c35_b10_c35) nin0)))
        have P312_11_t334 := P312_11.keep Kq334 (ninS (Ne.symm ne_o34_b12_c35) (ninS (Ne.symm ne_b6_c35_b12_c35) (ninS (Ne.symm ne_b2_c35_b12_c35) nin0)))
        have P312_13_t334 := P312_13.keep Kq334 (ninS (Ne.symm ne_o34_b8_c35) (ninS (Ne.symm ne_b6_c35_b8_c35) (ninS (Ne.symm ne_b2_c35_b8_c35) nin0)))
        have e334 : T334.heap = T334.heap := rfl
        have P334_12f : Fld Z T334.heap o34 "com/example/tauten/tauten/Trail" "epoch" "I" (.int (4 : Int32)) := P334_12
        refine Wq.steps st334 ?_
        show Wq _ _ _ _ _ (T334.setTop (mkF m 166 #[.val (.int xlaw_1), .val (.int xlaw_2), .val (.int xlaw_3), .val (.long ylaw_4), .second, .val (.long ylaw_5), .second, .val (.int xlaw_6), .val (.int ms12_0), .val (.int ms26_0), .val (.int ms40_0), .val (.ref o34), .val (.int (0 : Int32)), .val (.int (0 : Int32)), .val (.int (0 : Int32)), .val (.int xlaw_2), .val (.long ylaw_5), .second, .val (.int (2 : Int32)), .unset] []))
        refine Ow.aload X334 hx (pc' := 168) (hb hby at_166) rfl rfl ?_
        refine Ow.iload X334 hx (pc' := 170) (hb hby at_168) rfl ?_
        obtain ⟨cq335, kq335, q335a, q335b, q335c⟩ := isOf hZ e334 A34_t334
        obtain ⟨_, _, ⟨T335, L335, k335, n335⟩, -, X335, ⟨Lc335, hQ335, l335, y335, z335⟩, st335⟩ := X334.virtualBack hx (y := mt5) (z := mt5) hown (mvT hZ (kw65 hw)) (mvT hZ (kw66 hw)) (notFace_of_selects (args := #[]) (mvT hZ (kw68 hw))) (mvT hZ (kw68 hw)) (mvT hZ (kw67 hw)) (by decide) (backOf (W := 0) (rm_gt l Z a0 hw [] o34 b2_c35 ((xlaw_2.toInt64).toInt32) (List.replicate 63 (.int (0 : Int32))) T334.heap n0 Z334 P334_1 P334_11) hZ (kw69 hw) (kw2 hw) (by decide) (by decide)) q335a q335c (g := (mkF m 170 #[.val (.int xlaw_1), .val (.int xlaw_2), .val (.int xlaw_3), .val (.long ylaw_4), .second, .val (.long ylaw_5), .second, .val (.int xlaw_6), .val (.int ms12_0), .val (.int ms26_0), .val (.int ms40_0), .val (.ref o34), .val (.int (0 : Int32)), .val (.int (0 : Int32)), .val (.int (0 : Int32)), .val (.int xlaw_2), .val (.long ylaw_5), .second, .val (.int (2 : Int32)), .unset] [(.int (0 : Int32)), (.ref o34)])) rfl (by rw [hml]; rfl) (Steps.refl _) (argsL := [(.int (0 : Int32))]) (rest := []) (lenOf pd2 rfl) rfl (by show 2 * 0 + _ ≤ _; exact Nat.le_of_eq rfl) (hb hby at_170) (fun _ _ => ⟨rfl, e334, (by decide : 7 + 0 ≤ _), (by decide : 778 + 0 ≤ _)⟩)
        dsimp only [Pt.U, Pt.locs, Pt.cells, Pt.slots] at X335 l335 y335 z335 st335 hQ335
        subst l335 y335 z335
        obtain ⟨rfl, Nq335, e335⟩ := hQ335
        have N335 := Fr.app N334 Nq335
        refine Wq.steps st335 ?_
        show Wq _ _ _ _ _ (T335.setTop (mkF m 173 #[.val (.int xlaw_1), .val (.int xlaw_2), .val (.int xlaw_3), .val (.long ylaw_4), .second, .val (.long ylaw_5), .second, .val (.int xlaw_6), .val (.int ms12_0), .val (.int ms26_0), .val (.int ms40_0), .val (.ref o34), .val (.int (0 : Int32)), .val (.int (0 : Int32)), .val (.int (0 : Int32)), .val (.int xlaw_2), .val (.long ylaw_5), .second, .val (.int (2 : Int32)), .unset] [(.int ((xlaw_2.toInt64).toInt32))]))
        refine Ow.iload X335 hx (pc' := 175) (hb hby at_173) rfl ?_
        refine Ow.icmpNo X335 hx (pc' := 178) (hb hby at_175) (teq (by first | (simp only [Int32.toInt32_toInt64]; done) | rfl : ((xlaw_2.toInt64).toInt32) = xlaw_2)).2 ?_
        refine Ow.aload X335 hx (pc' := 180) (hb hby at_178) rfl rfl ?_
        refine Ow.iload X335 hx (pc' := 182) (hb hby at_180) rfl ?_
        obtain ⟨cq336, kq336, q336a, q336b, q336c⟩ := isOf hZ e335 A34_t334
        obtain ⟨_, _, ⟨T336, L336, k336, n336⟩, -, X336, ⟨Lc336, hQ336, l336, y336, z336⟩, st336⟩ := X335.virtualBack hx (y := mt6) (z := mt6) hown (mvT hZ (kw70 hw)) (mvT hZ (kw71 hw)) (notFace_of_selects (args := #[]) (mvT hZ (kw73 hw))) (mvT hZ (kw73 hw)) (mvT hZ (kw72 hw)) (by decide) (backOf (W := 0) (rm_gl l Z a0 hw [] o34 b6_c35 ylaw_5 (List.replicate 63 (.long (0 : Int64))) T334.heap n0 Z334 P334_3 P334_9) hZ (kw74 hw) (kw2 hw) (by decide) (by decide)) q336a q336c (g := (mkF m 182 #[.val (.int xlaw_1), .val (.int xlaw_2), .val (.int xlaw_3), .val (.long ylaw_4), .second, .val (.long ylaw_5), .second, .val (.int xlaw_6), .val (.int ms12_0), .val (.int ms26_0), .val (.int ms40_0), .val (.ref o34), .val (.int (0 : Int32)), .val (.int (0 : Int32)), .val (.int (0 : Int32)), .val (.int xlaw_2), .val (.long ylaw_5), .second, .val (.int (2 : Int32)), .unset] [(.int (0 : Int32)), (.ref o34)])) rfl (by rw [hml]; rfl) (Steps.refl _) (argsL := [(.int (0 : Int32))]) (rest := []) (lenOf pd8 rfl) rfl (by show 2 * 0 + _ ≤ _; exact Nat.le_of_eq rfl) (hb hby at_182) (fun _ _ => ⟨rfl, e335, (by decide : 7 + 0 ≤ _), (by decide : 778 + 0 ≤ _)⟩)
        dsimp only [Pt.U, Pt.locs, Pt.cells, Pt.slots] at X336 l336 y336 z336 st336 hQ336
        subst l336 y336 z336
        obtain ⟨rfl, Nq336, e336⟩ := hQ336
        have N336 := Fr.app N335 Nq336
        refine Wq.steps st336 ?_
        show Wq _ _ _ _ _ (T336.setTop (mkF m 185 #[.val (.int xlaw_1), .val (.int xlaw_2), .val (.int xlaw_3), .val (.long ylaw_4), .second, .val (.long ylaw_5), .second, .val (.int xlaw_6), .val (.int ms12_0), .val (.int ms26_0), .val (.int ms40_0), .val (.ref o34), .val (.int (0 : Int32)), .val (.int (0 : Int32)), .val (.int (0 : Int32)), .val (.int xlaw_2), .val (.long ylaw_5), .second, .val (.int (2 : Int32)), .unset] [(.long ylaw_5)]))
        refine Ow.lload X336 hx (pc' := 187) (hb hby at_185) rfl ?_
        refine Ow.lcmp X336 hx (pc' := 188) (hb hby at_187)  ?_
        refine Ow.ifNo X336 hx (pc' := 191) (hb hby at_188) ((if0 _ _).trans (teq ((lw_eq _ _).mpr (rfl : ylaw_5 = ylaw_5))).2) ?_
        refine Ow.iconst X336 hx (pc' := 192) (hb hby at_191) (z := (1 : Int32)) rfl ?_
        refine Ow.goto X336 hx (pc' := 196) (hb hby at_192) (by decide) (by decide) ?_
        refine Ow.istore X336 hx (pc' := 198) (hb hby at_196) (l' := #[.val (.int xlaw_1), .val (.int xlaw_2), .val (.int xlaw_3), .val (.long ylaw_4), .second, .val (.long ylaw_5), .second, .val (.int xlaw_6), .val (.int ms12_0), .val (.int ms26_0), .val (.int ms40_0), .val (.ref o34), .val (.int (0 : Int32)), .val (.int (0 : Int32)), .val (.int (0 : Int32)), .val (.int xlaw_2), .val (.long ylaw_5), .second, .val (.int (2 : Int32)), .val (.int (1 : Int32))]) rfl ?_
        refine Ow.aload X336 hx (pc' := 200) (hb hby at_198) rfl rfl ?_
        refine Ow.iload X336 hx (pc' := 202) (hb hby at_200) rfl ?_
        refine Ow.iloadN X336 hx (pc' := 203) (hb hby at_202) rfl ?_
        refine Ow.iloadN X336 hx (pc' := 204) (hb hby at_203) rfl ?_
        refine Ow.ixor X336 hx (pc' := 205) (hb hby at_204) (z := (xlaw_1 ^^^ xlaw_3)) rfl ?_
        obtain ⟨cq337, kq337, q337a, q337b, q337c⟩ := isOf hZ e336 A34_t334
        obtain ⟨_, _, ⟨T337, L337, k337, n337⟩, -, X337, ⟨Lc337, hQ337, l337, y337, z337⟩, st337⟩ := X336.virtualBack hx (y := mt8) (z := mt8) hown (mvT hZ (kw46 hw)) (mvT hZ (kw47 hw)) (notFace_of_selects (args := #[]) (mvT hZ (kw49 hw))) (mvT hZ (kw49 hw)) (mvT hZ (kw48 hw)) (by decide) (backOf (W := 0) (rm_st2 l Z a0 hw [] o34 (xlaw_1 ^^^ xlaw_3) b2_c35 b4_c35 b6_c35 b8_c35 b10_c35 b12_c35 (1 : Int32) (1 : Int32) (4 : Int32) ((xlaw_2.toInt64).toInt32) (List.replicate 63 (.int (0 : Int32))) (3 : Int32) (List.replicate 63 (.int (0 : Int32))) (0 : Int32) (-1 : Int32) (0 : Int32) (-1 : Int32) (List.replicate 252 (.int (0 : Int32))) (xlaw_1.toInt64) ylaw_4 (xlaw_2.toInt64) ylaw_5 (List.replicate 252 (.long (0 : Int64))) T334.heap n0 Z334 (by decide) A34_t334 P334_1 P334_2 P334_3 P334_4 P334_5 P334_6 P334_7 P334_8 P334_10 P334_12f g_o34 P334_11 g_b2_c35 (Ne.symm ne_o34_b2_c35) P271_13_t334 g_b4_c35 (Ne.symm ne_o34_b4_c35) P312_10_t334 g_b10_c35 (Ne.symm ne_o34_b10_c35) P312_11_t334 g_b12_c35 (Ne.symm ne_o34_b12_c35) ne_b2_c35_b4_c35 ne_b2_c35_b10_c35 ne_b2_c35_b12_c35 ne_b4_c35_b10_c35 ne_b4_c35_b12_c35 ne_b10_c35_b12_c35 (by decide)) hZ (kw50 hw) (kw2 hw) (by decide) (by decide)) q337a q337c (g := (mkF m 205 #[.val (.int xlaw_1), .val (.int xlaw_2), .val (.int xlaw_3), .val (.long ylaw_4), .second, .val (.long ylaw_5), .second, .val (.int xlaw_6), .val (.int ms12_0), .val (.int ms26_0), .val (.int ms40_0), .val (.ref o34), .val (.int (0 : Int32)), .val (.int (0 : Int32)), .val (.int (0 : Int32)), .val (.int xlaw_2), .val (.long ylaw_5), .second, .val (.int (2 : Int32)), .val (.int (1 : Int32))] [(.int (xlaw_1 ^^^ xlaw_3)), (.int (0 : Int32)), (.ref o34)])) rfl (by rw [hml]; rfl) (Steps.refl _) (argsL := [(.int (0 : Int32)), (.int (xlaw_1 ^^^ xlaw_3))]) (rest := []) (lenOf pd6 rfl) rfl (by show 2 * 0 + _ ≤ _; exact Nat.le_of_eq rfl) (hb hby at_205) (fun _ _ => ⟨rfl, e336, (by decide : 7 + 0 ≤ _), (by decide : 778 + 0 ≤ _)⟩)
        dsimp only [Pt.U, Pt.locs, Pt.cells, Pt.slots] at X337 l337 y337 z337 st337 hQ337
        subst l337 y337 z337
        obtain ⟨rfl, Nq337, Kq337, P337_0, P337_1, P337_2, P337_3, P337_4, P337_5, P337_6, P337_7, P337_8, P337_9, P337_10, P337_11, P337_12, P337_13, P337_14⟩ := hQ337
        have N337 := Fr.app N336 Nq337
        have K337 : Keep h0 T337.heap [] := K334.trans Kq337 (allS (P := fun x => x ∈ [] ∨ h0.size ≤ x) (Or.inr sz_o34) (allS (P := fun x => x ∈ [] ∨ h0.size ≤ x) (Or.inr sz_b12_c35) (allS (P := fun x => x ∈ [] ∨ h0.size ≤ x) (Or.inr sz_b10_c35) (allS (P := fun x => x ∈ [] ∨ h0.size ≤ x) (Or.inr sz_b4_c35) (allS (P := fun x => x ∈ [] ∨ h0.size ≤ x) (Or.inr sz_b2_c35) all0)))))
        have Z337 : n0 ≤ T337.heap.size := Nat.le_trans Z334 Kq337.1
        have A34_t337 := A34_t334.keep Kq337
        have P312_13_t337 := P312_13_t334.keep Kq337 (ninS (Ne.symm ne_o34_b8_c35) (ninS ne_b8_c35_b12_c35 (ninS ne_b8_c35_b10_c35 (ninS (Ne.symm ne_b4_c35_b8_c35) (ninS (Ne.symm ne_b2_c35_b8_c35) nin0)))))
        have P334_9_t337 := P334_9.keep Kq337 (ninS (Ne.symm ne_o34_b6_c35) (ninS ne_b6_c35_b12_c35 (ninS ne_b6_c35_b10_c35 (ninS (Ne.symm ne_b4_c35_b6_c35) (ninS (Ne.symm ne_b2_c35_b6_c35) nin0)))))
        have e337 : T337.heap = T337.heap := rfl
        refine Wq.steps st337 ?_
        show Wq _ _ _ _ _ (T337.setTop (mkF m 208 #[.val (.int xlaw_1), .val (.int xlaw_2), .val (.int xlaw_3), .val (.long ylaw_4), .second, .val (.long ylaw_5), .second, .val (.int xlaw_6), .val (.int ms12_0), .val (.int ms26_0), .val (.int ms40_0), .val (.ref o34), .val (.int (0 : Int32)), .val (.int (0 : Int32)), .val (.int (0 : Int32)), .val (.int xlaw_2), .val (.long ylaw_5), .second, .val (.int (2 : Int32)), .val (.int (1 : Int32))] []))
        refine Ow.aload X337 hx (pc' := 210) (hb hby at_208) rfl rfl ?_
        refine Ow.iload X337 hx (pc' := 212) (hb hby at_210) rfl ?_
        obtain ⟨cq338, kq338, q338a, q338b, q338c⟩ := isOf hZ e337 A34_t337
        obtain ⟨_, _, ⟨T338, L338, k338, n338⟩, -, X338, ⟨Lc338, hQ338, l338, y338, z338⟩, st338⟩ := X337.virtualBack hx (y := mt9) (z := mt9) hown (mvT hZ (kw60 hw)) (mvT hZ (kw61 hw)) (notFace_of_selects (args := #[]) (mvT hZ (kw63 hw))) (mvT hZ (kw63 hw)) (mvT hZ (kw62 hw)) (by decide) (backOf (W := 0) (rm_un32i l Z a0 hw [] o34 b2_c35 b4_c35 b6_c35 b8_c35 b10_c35 b12_c35 (1 : Int32) (1 : Int32) (4 : Int32) (xlaw_1 ^^^ xlaw_3) (List.replicate 63 (.int (0 : Int32))) ylaw_5 (List.replicate 63 (.long (0 : Int64))) (0 : Int32) (-1 : Int32) (-1 : Int32) (List.replicate 252 (.int (0 : Int32))) (xlaw_1.toInt64) ylaw_4 (((xlaw_2.toInt64).toInt32).toInt64) ylaw_5 (List.replicate 252 (.long (0 : Int64))) T337.heap n0 Z337 A34_t337 P337_1 P337_2 P337_3 P337_4 P337_5 P337_6 P337_7 P337_8 P337_12 P337_9 g_o34 P337_14 g_b2_c35 (Ne.symm ne_o34_b2_c35) P334_9_t337 g_b6_c35 (Ne.symm ne_o34_b6_c35) P337_10 g_b10_c35 (Ne.symm ne_o34_b10_c35) P337_11 g_b12_c35 (Ne.symm ne_o34_b12_c35) ne_b2_c35_b6_c35 ne_b2_c35_b10_c35 ne_b2_c35_b12_c35 ne_b6_c35_b10_c35 ne_b6_c35_b12_c35 ne_b10_c35_b12_c35) hZ (kw64 hw) (kw2 hw) (by decide) (by decide)) q338a q338c (g := (mkF m 212 #[.val (.int xlaw_1), .val (.int xlaw_2), .val (.int xlaw_3), .val (.long ylaw_4), .second, .val (.long ylaw_5), .second, .val (.int xlaw_6), .val (.int ms12_0), .val (.int ms26_0), .val (.int ms40_0), .val (.ref o34), .val (.int (0 : Int32)), .val (.int (0 : Int32)), .val (.int (0 : Int32)), .val (.int xlaw_2), .val (.long ylaw_5), .second, .val (.int (2 : Int32)), .val (.int (1 : Int32))] [(.int (2 : Int32)), (.ref o34)])) rfl (by rw [hml]; rfl) (Steps.refl _) (argsL := [(.int (2 : Int32))]) (rest := []) (lenOf pd7 rfl) rfl (by show 2 * 0 + _ ≤ _; exact Nat.le_of_eq rfl) (hb hby at_212) (fun _ _ => ⟨rfl, e337, (by decide : 7 + 0 ≤ _), (by decide : 778 + 0 ≤ _)⟩)
        dsimp only [Pt.U, Pt.locs, Pt.cells, Pt.slots] at X338 l338 y338 z338 st338 hQ338
        subst l338 y338 z338
        obtain ⟨rfl, Nq338, Kq338, P338_0, P338_1, P338_2, P338_3, P338_4, P338_5, P338_6, P338_7, P338_8, P338_9, P338_10, P338_11⟩ := hQ338
        have N338 := Fr.app N337 Nq338
        have K338 : Keep h0 T338.heap [] := K337.trans Kq338 (allS (P := fun x => x ∈ [] ∨ h0.size ≤ x) (Or.inr sz_o34) (allS (P := fun x => x ∈ [] ∨ h0.size ≤ x) (Or.inr sz_b2_c35) all0))
        have Z338 : n0 ≤ T338.heap.size := Nat.le_trans Z337 Kq338.1
        have A34_t338 := A34_t337.keep Kq338
        have P312_13_t338 := P312_13_t337.keep Kq338 (ninS (Ne.symm ne_o34_b8_c35) (ninS (Ne.symm ne_b2_c35_b8_c35) nin0))
        have P334_9_t338 := P334_9_t337.keep Kq338 (ninS (Ne.symm ne_o34_b6_c35) (ninS (Ne.symm ne_b2_c35_b6_c35) nin0))
        have P337_10_t338 := P337_10.keep Kq338 (ninS (Ne.symm ne_o34_b10_c35) (ninS (Ne.symm ne_b2_c35_b10_c35) nin0))
        have P337_11_t338 := P337_11.keep Kq338 (ninS (Ne.symm ne_o34_b12_c35) (ninS (Ne.symm ne_b2_c35_b12_c35) nin0))
        have P337_13_t338 := P337_13.keep Kq338 (ninS (Ne.symm ne_o34_b4_c35) (ninS (Ne.symm ne_b2_c35_b4_c35) nin0))
        have e338 : T338.heap = T338.heap := rfl
        have P338_11f : Fld Z T338.heap o34 "com/example/tauten/tauten/Trail" "epoch" "I" (.int (5 : Int32)) := P338_11
        refine Wq.steps st338 ?_
        show Wq _ _ _ _ _ (T338.setTop (mkF m 215 #[.val (.int xlaw_1), .val (.int xlaw_2), .val (.int xlaw_3), .val (.long ylaw_4), .second, .val (.long ylaw_5), .second, .val (.int xlaw_6), .val (.int ms12_0), .val (.int ms26_0), .val (.int ms40_0), .val (.ref o34), .val (.int (0 : Int32)), .val (.int (0 : Int32)), .val (.int (0 : Int32)), .val (.int xlaw_2), .val (.long ylaw_5), .second, .val (.int (2 : Int32)), .val (.int (1 : Int32))] []))
        refine Ow.iload X338 hx (pc' := 217) (hb hby at_215) rfl ?_
        refine Ow.ifNo X338 hx (pc' := 220) (hb hby at_217) ((if0 _ _).trans (feq (by decide : ¬ ((1 : Int32) = (0 : Int32)))).1) ?_
        refine Ow.aload X338 hx (pc' := 222) (hb hby at_220) rfl rfl ?_
        refine Ow.iload X338 hx (pc' := 224) (hb hby at_222) rfl ?_
        obtain ⟨cq339, kq339, q339a, q339b, q339c⟩ := isOf hZ e338 A34_t338
        obtain ⟨_, _, ⟨T339, L339, k339, n339⟩, -, X339, ⟨Lc339, hQ339, l339, y339, z339⟩, st339⟩ := X338.virtualBack hx (y := mt5) (z := mt5) hown (mvT hZ (kw65 hw)) (mvT hZ (kw66 hw)) (notFace_of_selects (args := #[]) (mvT hZ (kw68 hw))) (mvT hZ (kw68 hw)) (mvT hZ (kw67 hw)) (by decide) (backOf (W := 0) (rm_gt l Z a0 hw [] o34 b2_c35 ((((xlaw_2.toInt64).toInt32).toInt64).toInt32) (List.replicate 63 (.int (0 : Int32))) T338.heap n0 Z338 P338_1 P338_10) hZ (kw69 hw) (kw2 hw) (by decide) (by decide)) q339a q339c (g := (mkF m 224 #[.val (.int xlaw_1), .val (.int xlaw_2), .val (.int xlaw_3), .val (.long ylaw_4), .second, .val (.long ylaw_5), .second, .val (.int xlaw_6), .val (.int ms12_0), .val (.int ms26_0), .val (.int ms40_0), .val (.ref o34), .val (.int (0 : Int32)), .val (.int (0 : Int32)), .val (.int (0 : Int32)), .val (.int xlaw_2), .val (.long ylaw_5), .second, .val (.int (2 : Int32)), .val (.int (1 : Int32))] [(.int (0 : Int32)), (.ref o34)])) rfl (by rw [hml]; rfl) (Steps.refl _) (argsL := [(.int (0 : Int32))]) (rest := []) (lenOf pd2 rfl) rfl (by show 2 * 0 + _ ≤ _; exact Nat.le_of_eq rfl) (hb hby at_224) (fun _ _ => ⟨rfl, e338, (by decide : 7 + 0 ≤ _), (by decide : 778 + 0 ≤ _)⟩)
        dsimp only [Pt.U, Pt.locs, Pt.cells, Pt.slots] at X339 l339 y339 z339 st339 hQ339
        subst l339 y339 z339
        obtain ⟨rfl, Nq339, e339⟩ := hQ339
        have N339 := Fr.app N338 Nq339
        refine Wq.steps st339 ?_
        show Wq _ _ _ _ _ (T339.setTop (mkF m 227 #[.val (.int xlaw_1), .val (.int xlaw_2), .val (.int xlaw_3), .val (.long ylaw_4), .second, .val (.long ylaw_5), .second, .val (.int xlaw_6), .val (.int ms12_0), .val (.int ms26_0), .val (.int ms40_0), .val (.ref o34), .val (.int (0 : Int32)), .val (.int (0 : Int32)), .val (.int (0 : Int32)), .val (.int xlaw_2), .val (.long ylaw_5), .second, .val (.int (2 : Int32)), .val (.int (1 : Int32))] [(.int ((((xlaw_2.toInt64).toInt32).toInt64).toInt32))]))
        refine Ow.iload X339 hx (pc' := 229) (hb hby at_227) rfl ?_
        refine Ow.icmpNo X339 hx (pc' := 232) (hb hby at_229) (teq (by first | (simp only [Int32.toInt32_toInt64]; done) | rfl : ((((xlaw_2.toInt64).toInt32).toInt64).toInt32) = xlaw_2)).2 ?_
        refine Ow.iconst X339 hx (pc' := 233) (hb hby at_232) (z := (1 : Int32)) rfl ?_
        refine Ow.goto X339 hx (pc' := 237) (hb hby at_233) (by decide) (by decide) ?_
        refine Ow.istore X339 hx (pc' := 239) (hb hby at_237) (l' := #[.val (.int xlaw_1), .val (.int xlaw_2), .val (.int xlaw_3), .val (.long ylaw_4), .second, .val (.long ylaw_5), .second, .val (.int xlaw_6), .val (.int ms12_0), .val (.int ms26_0), .val (.int ms40_0), .val (.ref o34), .val (.int (0 : Int32)), .val (.int (0 : Int32)), .val (.int (0 : Int32)), .val (.int xlaw_2), .val (.long ylaw_5), .second, .val (.int (2 : Int32)), .val (.int (1 : Int32))]) rfl ?_
        refine Ow.aload X339 hx (pc' := 241) (hb hby at_239) rfl rfl ?_
        refine Ow.iload X339 hx (pc' := 243) (hb hby at_241) rfl ?_
        obtain ⟨cq340, kq340, q340a, q340b, q340c⟩ := isOf hZ e339 A34_t338
        obtain ⟨_, _, ⟨T340, L340, k340, n340⟩, -, X340, ⟨Lc340, hQ340, l340, y340, z340⟩, st340⟩ := X339.virtualBack hx (y := mt9) (z := mt9) hown (mvT hZ (kw60 hw)) (mvT hZ (kw61 hw)) (notFace_of_selects (args := #[]) (mvT hZ (kw63 hw))) (mvT hZ (kw63 hw)) (mvT hZ (kw62 hw)) (by decide) (backOf (W := 0) (rm_un20il l Z a0 hw [] o34 b2_c35 b4_c35 b6_c35 b8_c35 b10_c35 b12_c35 (1 : Int32) (1 : Int32) (5 : Int32) ((((xlaw_2.toInt64).toInt32).toInt64).toInt32) (List.replicate 63 (.int (0 : Int32))) ylaw_5 (List.replicate 63 (.long (0 : Int64))) (0 : Int32) (-1 : Int32) (List.replicate 252 (.int (0 : Int32))) (xlaw_1.toInt64) ylaw_4 (((xlaw_2.toInt64).toInt32).toInt64) ylaw_5 (List.replicate 252 (.long (0 : Int64))) T338.heap n0 Z338 A34_t338 P338_1 P338_2 P338_3 P338_4 P338_5 P338_6 P338_7 P338_8 P338_9 P338_11f g_o34 P338_10 g_b2_c35 (Ne.symm ne_o34_b2_c35) P334_9_t338 g_b6_c35 (Ne.symm ne_o34_b6_c35) P337_10_t338 g_b10_c35 (Ne.symm ne_o34_b10_c35) P337_11_t338 g_b12_c35 (Ne.symm ne_o34_b12_c35) ne_b2_c35_b6_c35 ne_b2_c35_b10_c35 ne_b2_c35_b12_c35 ne_b6_c35_b10_c35 ne_b6_c35_b12_c35 ne_b10_c35_b12_c35) hZ (kw64 hw) (kw2 hw) (by decide) (by decide)) q340a q340c (g := (mkF m 243 #[.val (.int xlaw_1), .val (.int xlaw_2), .val (.int xlaw_3), .val (.long ylaw_4), .second, .val (.long ylaw_5), .second, .val (.int xlaw_6), .val (.int ms12_0), .val (.int ms26_0), .val (.int ms40_0), .val (.ref o34), .val (.int (0 : Int32)), .val (.int (0 : Int32)), .val (.int (0 : Int32)), .val (.int xlaw_2), .val (.long ylaw_5), .second, .val (.int (2 : Int32)), .val (.int (1 : Int32))] [(.int (0 : Int32)), (.ref o34)])) rfl (by rw [hml]; rfl) (Steps.refl _) (argsL := [(.int (0 : Int32))]) (rest := []) (lenOf pd7 rfl) rfl (by show 2 * 0 + _ ≤ _; exact Nat.le_of_eq rfl) (hb hby at_243) (fun _ _ => ⟨rfl, e339, (by decide : 7 + 0 ≤ _), (by decide : 778 + 0 ≤ _)⟩)
        dsimp only [Pt.U, Pt.locs, Pt.cells, Pt.slots] at X340 l340 y340 z340 st340 hQ340
        subst l340 y340 z340
        obtain ⟨rfl, Nq340, Kq340, P340_0, P340_1, P340_2, P340_3, P340_4, P340_5, P340_6, P340_7, P340_8, P340_9, P340_10, P340_11, P340_12⟩ := hQ340
        have N340 := Fr.app N339 Nq340
        have K340 : Keep h0 T340.heap [] := K338.trans Kq340 (allS (P := fun x => x ∈ [] ∨ h0.size ≤ x) (Or.inr sz_o34) (allS (P := fun x => x ∈ [] ∨ h0.size ≤ x) (Or.inr sz_b6_c35) (allS (P := fun x => x ∈ [] ∨ h0.size ≤ x) (Or.inr sz_b2_c35) all0)))
        have Z340 : n0 ≤ T340.heap.size := Nat.le_trans Z338 Kq340.1
        have A34_t340 := A34_t338.keep Kq340
        have P312_13_t340 := P312_13_t338.keep Kq340 (ninS (Ne.symm ne_o34_b8_c35) (ninS (Ne.symm ne_b6_c35_b8_c35) (ninS (Ne.symm ne_b2_c35_b8_c35) nin0)))
        have P337_10_t340 := P337_10_t338.keep Kq340 (ninS (Ne.symm ne_o34_b10_c35) (ninS (Ne.symm ne_b6_c35_b10_c35) (ninS (Ne.symm ne_b2_c35_b10_c35) nin0)))
        have P337_11_t340 := P337_11_t338.keep Kq340 (ninS (Ne.symm ne_o34_b12_c35) (ninS (Ne.symm ne_b6_c35_b12_c35) (ninS (Ne.symm ne_b2_c35_b12_c35) nin0)))
        have P337_13_t340 := P337_13_t338.keep Kq340 (ninS (Ne.symm ne_o34_b4_c35) (ninS ne_b4_c35_b6_c35 (ninS (Ne.symm ne_b2_c35_b4_c35) nin0)))
        have e340 : T340.heap = T340.heap := rfl
        have P340_12f : Fld Z T340.heap o34 "com/example/tauten/tauten/Trail" "epoch" "I" (.int (6 : Int32)) := P340_12
        refine Wq.steps st340 ?_
        show Wq _ _ _ _ _ (T340.setTop (mkF m 246 #[.val (.int xlaw_1), .val (.int xlaw_2), .val (.int xlaw_3), .val (.long ylaw_4), .second, .val (.long ylaw_5), .second, .val (.int xlaw_6), .val (.int ms12_0), .val (.int ms26_0), .val (.int ms40_0), .val (.ref o34), .val (.int (0 : Int32)), .val (.int (0 : Int32)), .val (.int (0 : Int32)), .val (.int xlaw_2), .val (.long ylaw_5), .second, .val (.int (2 : Int32)), .val (.int (1 : Int32))] []))
        refine Ow.iload X340 hx (pc' := 248) (hb hby at_246) rfl ?_
        refine Ow.ifNo X340 hx (pc' := 251) (hb hby at_248) ((if0 _ _).trans (feq (by decide : ¬ ((1 : Int32) = (0 : Int32)))).1) ?_
        refine Ow.aload X340 hx (pc' := 253) (hb hby at_251) rfl rfl ?_
        refine Ow.iload X340 hx (pc' := 255) (hb hby at_253) rfl ?_
        obtain ⟨cq341, kq341, q341a, q341b, q341c⟩ := isOf hZ e340 A34_t340
        obtain ⟨_, _, ⟨T341, L341, k341, n341⟩, -, X341, ⟨Lc341, hQ341, l341, y341, z341⟩, st341⟩ := X340.virtualBack hx (y := mt5) (z := mt5) hown (mvT hZ (kw65 hw)) (mvT hZ (kw66 hw)) (notFace_of_selects (args := #[]) (mvT hZ (kw68 hw))) (mvT hZ (kw68 hw)) (mvT hZ (kw67 hw)) (by decide) (backOf (W := 0) (rm_gt l Z a0 hw [] o34 b2_c35 ((xlaw_1.toInt64).toInt32) (List.replicate 63 (.int (0 : Int32))) T340.heap n0 Z340 P340_1 P340_11) hZ (kw69 hw) (kw2 hw) (by decide) (by decide)) q341a q341c (g := (mkF m 255 #[.val (.int xlaw_1), .val (.int xlaw_2), .val (.int xlaw_3), .val (.long ylaw_4), .second, .val (.long ylaw_5), .second, .val (.int xlaw_6), .val (.int ms12_0), .val (.int ms26_0), .val (.int ms40_0), .val (.ref o34), .val (.int (0 : Int32)), .val (.int (0 : Int32)), .val (.int (0 : Int32)), .val (.int xlaw_2), .val (.long ylaw_5), .second, .val (.int (2 : Int32)), .val (.int (1 : Int32))] [(.int (0 : Int32)), (.ref o34)])) rfl (by rw [hml]; rfl) (Steps.refl _) (argsL := [(.int (0 : Int32))]) (rest := []) (lenOf pd2 rfl) rfl (by show 2 * 0 + _ ≤ _; exact Nat.le_of_eq rfl) (hb hby at_255) (fun _ _ => ⟨rfl, e340, (by decide : 7 + 0 ≤ _), (by decide : 778 + 0 ≤ _)⟩)
        dsimp only [Pt.U, Pt.locs, Pt.cells, Pt.slots] at X341 l341 y341 z341 st341 hQ341
        subst l341 y341 z341
        obtain ⟨rfl, Nq341, e341⟩ := hQ341
        have N341 := Fr.app N340 Nq341
        refine Wq.steps st341 ?_
        show Wq _ _ _ _ _ (T341.setTop (mkF m 258 #[.val (.int xlaw_1), .val (.int xlaw_2), .val (.int xlaw_3), .val (.long ylaw_4), .second, .val (.long ylaw_5), .second, .val (.int xlaw_6), .val (.int ms12_0), .val (.int ms26_0), .val (.int ms40_0), .val (.ref o34), .val (.int (0 : Int32)), .val (.int (0 : Int32)), .val (.int (0 : Int32)), .val (.int xlaw_2), .val (.long ylaw_5), .second, .val (.int (2 : Int32)), .val (.int (1 : Int32))] [(.int ((xlaw_1.toInt64).toInt32))]))
        refine Ow.iloadN X341 hx (pc' := 259) (hb hby at_258) rfl ?_
        refine Ow.icmpNo X341 hx (pc' := 262) (hb hby at_259) (teq (by first | (simp only [Int32.toInt32_toInt64]; done) | rfl : ((xlaw_1.toInt64).toInt32) = xlaw_1)).2 ?_
        refine Ow.aload X341 hx (pc' := 264) (hb hby at_262) rfl rfl ?_
        refine Ow.iload X341 hx (pc' := 266) (hb hby at_264) rfl ?_
        obtain ⟨cq342, kq342, q342a, q342b, q342c⟩ := isOf hZ e341 A34_t340
        obtain ⟨_, _, ⟨T342, L342, k342, n342⟩, -, X342, ⟨Lc342, hQ342, l342, y342, z342⟩, st342⟩ := X341.virtualBack hx (y := mt6) (z := mt6) hown (mvT hZ (kw70 hw)) (mvT hZ (kw71 hw)) (notFace_of_selects (args := #[]) (mvT hZ (kw73 hw))) (mvT hZ (kw73 hw)) (mvT hZ (kw72 hw)) (by decide) (backOf (W := 0) (rm_gl l Z a0 hw [] o34 b6_c35 ylaw_4 (List.replicate 63 (.long (0 : Int64))) T340.heap n0 Z340 P340_3 P340_9) hZ (kw74 hw) (kw2 hw) (by decide) (by decide)) q342a q342c (g := (mkF m 266 #[.val (.int xlaw_1), .val (.int xlaw_2), .val (.int xlaw_3), .val (.long ylaw_4), .second, .val (.long ylaw_5), .second, .val (.int xlaw_6), .val (.int ms12_0), .val (.int ms26_0), .val (.int ms40_0), .val (.ref o34), .val (.int (0 : Int32)), .val (.int (0 : Int32)), .val (.int (0 : Int32)), .val (.int xlaw_2), .val (.long ylaw_5), .second, .val (.int (2 : Int32)), .val (.int (1 : Int32))] [(.int (0 : Int32)), (.ref o34)])) rfl (by rw [hml]; rfl) (Steps.refl _) (argsL := [(.int (0 : Int32))]) (rest := []) (lenOf pd8 rfl) rfl (by show 2 * 0 + _ ≤ _; exact Nat.le_of_eq rfl) (hb hby at_266) (fun _ _ => ⟨rfl, e341, (by decide : 7 + 0 ≤ _), (by decide : 778 + 0 ≤ _)⟩)
        dsimp only [Pt.U, Pt.locs, Pt.cells, Pt.slots] at X342 l342 y342 z342 st342 hQ342
        subst l342 y342 z342
        obtain ⟨rfl, Nq342, e342⟩ := hQ342
        have N342 := Fr.app N341 Nq342
        refine Wq.steps st342 ?_
        show Wq _ _ _ _ _ (T342.setTop (mkF m 269 #[.val (.int xlaw_1), .val (.int xlaw_2), .val (.int xlaw_3), .val (.long ylaw_4), .second, .val (.long ylaw_5), .second, .val (.int xlaw_6), .val (.int ms12_0), .val (.int ms26_0), .val (.int ms40_0), .val (.ref o34), .val (.int (0 : Int32)), .val (.int (0 : Int32)), .val (.int (0 : Int32)), .val (.int xlaw_2), .val (.long ylaw_5), .second, .val (.int (2 : Int32)), .val (.int (1 : Int32))] [(.long ylaw_4)]))
        refine Ow.lloadN X342 hx (pc' := 270) (hb hby at_269) rfl ?_
        refine Ow.lcmp X342 hx (pc' := 271) (hb hby at_270)  ?_
        refine Ow.ifNo X342 hx (pc' := 274) (hb hby at_271) ((if0 _ _).trans (teq ((lw_eq _ _).mpr (rfl : ylaw_4 = ylaw_4))).2) ?_
        refine Ow.iconst X342 hx (pc' := 275) (hb hby at_274) (z := (1 : Int32)) rfl ?_
        refine Ow.goto X342 hx (pc' := 279) (hb hby at_275) (by decide) (by decide) ?_
        refine Ow.istore X342 hx (pc' := 281) (hb hby at_279) (l' := #[.val (.int xlaw_1), .val (.int xlaw_2), .val (.int xlaw_3), .val (.long ylaw_4), .second, .val (.long ylaw_5), .second, .val (.int xlaw_6), .val (.int ms12_0), .val (.int ms26_0), .val (.int ms40_0), .val (.ref o34), .val (.int (0 : Int32)), .val (.int (0 : Int32)), .val (.int (0 : Int32)), .val (.int xlaw_2), .val (.long ylaw_5), .second, .val (.int (2 : Int32)), .val (.int (1 : Int32))]) rfl ?_
        refine Ow.iload X342 hx (pc' := 283) (hb hby at_281) rfl ?_
        exact Wq.ret X342 (BodyLoose.notSynchronized Bd) (rv := some (.int (1 : Int32))) (fun h => by rw [Bd.returns] at h; cases h) (fun _ hr => retN X342 hx (t := .boolean) Bd.returns (by simp) (hb hby at_283) hr) (by decide) (by decide) ⟨rfl, N342⟩
set_option maxRecDepth 65536 in
set_option maxHeartbeats 40000000 in
theorem comes_1 {Post : Tables → Env → Array Value → State → Outcome → State → Prop} (hpost : ∀ tb e args s v u, (limb_1_1.after args s (.returned v) u = true ∧ limb_1_2.after args s (.returned v) u = true ∧ True) → FrameEnd s (.returned v) u (Jvm.fieldLocs frame_1_writes args s ++ Jvm.arrayLocs frame_1_arrays args s ++ Jvm.staticLocs frame_1_statics s) 24 1664 → Post tb e args s (.returned v) u) :
    ArmFor flags0 classFile x code maxLocals ret World_1 tables_1 room_1 Calls_1 rest_1 Pre_1 Post := by
  intro l hfl _ _ p e ha hc hk s m args below hf hA hF happ hP
  obtain ⟨hcalls, hrest, hpre⟩ := hP
  obtain ⟨-, -, -, hnamed, -, -, -, hat⟩ := (Spec.applies_iff hf).mp happ
  obtain ⟨hg, hn⟩ := and_e (Cond.before_iff.mp (show (Jvm.Cond.and given_1 narrow_1).before args s = true from hpre))
  obtain ⟨hg1, hg2⟩ := and_e hg
  obtain ⟨ha0, hb0⟩ := and_e hg2
  obtain ⟨ha1, hb1⟩ := and_e hb0
  obtain ⟨ha2, hb2⟩ := and_e hb1
  obtain ⟨ha3, hb3⟩ := and_e hb2
  obtain ⟨ha4, hb4⟩ := and_e hb3
  obtain ⟨w0, w1, w2, w3, w4, w5, rfl⟩ : ∃ w0 w1 w2 w3 w4 w5 : Value, args = #[w0, w1, w2, w3, w4, w5] := by
    have hs : args.size = 6 := by simpa [Cond.value, given_1] using hg1
    obtain ⟨L⟩ := args
    match L, hs with
    | [w0, w1, w2, w3, w4, w5], _ => exact ⟨w0, w1, w2, w3, w4, w5, rfl⟩
  have hw := fun d (hd : d ∈ tables_1) => atoms_spec (ws := Jvm.Cond.code x code maxLocals ret :: tables_1) hat d (List.mem_cons_of_mem _ hd)
  have hfit : Fit s := fun {y c} hc i hi => by
    obtain ⟨ha, rfl⟩ := Array.getElem?_eq_some_iff.mp hc
    have q := List.all_eq_true.mp ((Array.all_eq_true_iff_forall_mem.mp hF) _ (Array.getElem_mem ha)) i (List.mem_range.mpr hi)
    simpa [Array.getElem?_eq_getElem hi] using q
  obtain ⟨i0, ei0⟩ := is_v ha0
  obtain rfl : w0 = (.int i0) := Option.some.inj ei0
  obtain ⟨i1, ei1⟩ := is_v ha1
  obtain rfl : w1 = (.int i1) := Option.some.inj ei1
  obtain ⟨i2, ei2⟩ := is_v ha2
  obtain rfl : w2 = (.int i2) := Option.some.inj ei2
  obtain ⟨i3, ei3⟩ := isL_v ha3
  obtain rfl : w3 = (.long i3) := Option.some.inj ei3
  obtain ⟨i4, ei4⟩ := isL_v ha4
  obtain rfl : w4 = (.long i4) := Option.some.inj ei4
  obtain ⟨i5, ei5⟩ := is_v hb4
  obtain rfl : w5 = (.int i5) := Option.some.inj ei5
  obtain ⟨n, o, h1, h2, h3, _, L, rfl, ⟨rfl, N⟩, hq⟩ := rm_law l s _ hw tables_1 i0 i1 i2 i3 i4 i5 s.heap s.heap.size (Nat.le_refl _)  p e ha hc hk s m _ below hf ((Spec.applies_iff_loose hf).mp happ).1 ⟨rfl, State.Warmed39.refl s, rfl⟩ trivial
  refine ⟨n, _, h1, h2, h3, hpost _ _ _ _ _ _ ⟨Cond.after_iff.mpr rfl, Cond.after_iff.mpr (eq_i res_at (Term.int_eval (1)) rfl), trivial⟩ ⟨hq.1, hq.2.1, (hq.2.2.sift fun y hy => Or.inr (N y hy)).mono (by decide) (by decide)⟩⟩
theorem main_1_1 : Claimed_1_1 := comes_1 fun _ _ _ _ _ _ h hF => ⟨h.1, hF⟩
theorem main_1_2 : Claimed_1_2 := comes_1 fun _ _ _ _ _ _ h hF => ⟨h.2.1, hF⟩
end Jvm.Pilot.@@N@@
namespace Jvm.Pilot.@@N@@
open Jvm Jvm.ClassFile Sem Op Lib Jvm.Free Jvm.Stand Jvm.Pilot.@@N@@.Jvm.D
/-! MADE BY PROGRAM (witnessworld.py) out of the Statement's table words and the real class files: 11 classes; the members and pool entries that the words name. The judged class is class 1, her method 1. -/
namespace start1
open Jvm.ClassFile
def u (s : String) : CpInfo := .utf8 (stringToUtf16 s)
/-- a pool by its gaps: so many unusable entries, then the entry; so many at the end -/
def gap : Nat → List CpInfo → List CpInfo
  | 0, r => r
  | n + 1, r => .unusable :: gap n r
def poolList (es : List (Nat × CpInfo)) (last : Nat) : List CpInfo := es.foldr (fun e r => gap e.1 (e.2 :: r)) (gap last [])
def pool (es : List (Nat × CpInfo)) (last : Nat) : Array CpInfo := ⟨poolList es last⟩
def fileOf (pool : Array CpInfo) (this : Nat) (attrs : Array Attribute := #[]) (ms : Array MethodInfo := #[]) (fl : Nat := 33) (sup : Nat := 0) (ifs : Array Nat := #[]) (fds : Array FieldInfo := #[]) : ClassFile where
  minorVersion := 0
  majorVersion := 65
  constantPool := pool
  accessFlags := fl
  thisClass := this
  superClass := sup
  interfaces := ifs
  fields := fds
  methods := ms
  attributes := attrs
def plain (name : String) (sup : Option ClassId) : Class where
  name := name
  kind := .ordinary
  loader := none
  accessFlags := 33
  super := sup
  interfaces := #[]
  cf := none
  fields := #[]
  methods := #[]
  instanceTypes := #[]
  staticTypes := #[]
  resolved := #[]
  callSites := []
  init := .initialized
  statics := none
  mirror := none

def pool0 : Array CpInfo := pool [(5, u "<init>"), (0, u "()V"), (1, .class_ 10), (1, u "java/lang/Object")] 113

def k0c0 : Code := { maxStack := 0, maxLocals := 1, code := object_method_1_code, exceptionTable := #[], attributes := #[] }
def k0m0 : Method := { name := "<init>", desc := "()V", sig := { parameters := [], returnType := none }, accessFlags := 1, code := some k0c0 }
/-- java/lang/Object -/
def k0 : Class := { plain "java/lang/Object" none with
  accessFlags := 33
  interfaces := #[]
  cf := some (fileOf pool0 8 #[] #[{ accessFlags := 1, nameIndex := 5, descriptorIndex := 6, attributes := #[] }] 33 0 #[] #[])
  fields := #[]
  methods := #[k0m0]
  instanceTypes := #[]
  staticTypes := #[]
  resolved := Array.replicate 124 none
  statics := none }

def pool1 : Array CpInfo := pool [(2, .class_ 4), (0, .nameAndType 5 6), (0, u "java/lang/Object"), (0, u "<init>"), (0, u "()V"), (0, .class_ 8), (0, u "com/example/tauten/tauten/Trail"), (0, .methodref 7 3), (0, .methodref 7 11), (0, .nameAndType 12 13), (0, u "newCell"), (0, u "(I)I"), (0, .methodref 7 15), (0, .nameAndType 16 17), (0, u "newLongCell"), (0, u "(J)I"), (0, .methodref 7 19), (0, .nameAndType 20 21), (0, u "checkpoint"), (0, u "()I"), (0, .methodref 7 23), (0, .nameAndType 24 25), (0, u "set"), (0, u "(II)V"), (0, .methodref 7 27), (0, .nameAndType 28 29), (0, u "setLong"), (0, u "(IJ)V"), (0, .long 18446744073709551615), (1, .methodref 7 33), (0, .nameAndType 34 35), (0, u "undo"), (0, u "(I)V"), (0, .methodref 7 37), (0, .nameAndType 38 13), (0, u "get"), (0, .methodref 7 40), (0, .nameAndType 41 42), (0, u "getLong"), (0, u "(I)J"), (0, .class_ 44), (0, u "com/example/tauten/tauten/TrailUndoPinLaw"), (2, u "law"), (0, u "(IIIJJI)Z")] 3

def k1m0 : Method := { name := "<init>", desc := "()V", sig := { parameters := [], returnType := none }, accessFlags := 1, code := none }
def k1c1 : Code := { maxStack := 6, maxLocals := 20, code := code, exceptionTable := #[], attributes := #[] }
def k1m1 : Method := { name := "law", desc := "(IIIJJI)Z", sig := { parameters := [.int, .int, .int, .long, .long, .int], returnType := some .boolean }, accessFlags := 9, code := some k1c1 }
/-- com/example/tauten/tauten/TrailUndoPinLaw -/
def k1 : Class := { plain "com/example/tauten/tauten/TrailUndoPinLaw" (some 0) with
  accessFlags := 49
  interfaces := #[]
  cf := some (fileOf pool1 43 #[] #[{ accessFlags := 1, nameIndex := 5, descriptorIndex := 6, attributes := #[] }, { accessFlags := 9, nameIndex := 47, descriptorIndex := 48, attributes := #[] }] 49 2 #[] #[])
  fields := #[]
  methods := #[k1m0, k1m1]
  instanceTypes := #[]
  staticTypes := #[]
  resolved := Array.replicate 52 none
  statics := none }

def pool2 : Array CpInfo := pool [(1, .methodref 2 3), (0, .class_ 4), (0, .nameAndType 5 6), (0, u "java/lang/Object"), (0, u "<init>"), (0, u "()V"), (0, .fieldref 8 9), (0, .class_ 10), (0, .nameAndType 11 12), (0, u "com/example/tauten/tauten/Trail"), (0, u "values"), (0, u "[I"), (0, .fieldref 8 14), (0, .nameAndType 15 12), (0, u "savedAt"), (0, .fieldref 8 17), (0, .nameAndType 18 19), (0, u "longValues"), (0, u "[J"), (0, .fieldref 8 21), (0, .nameAndType 22 12), (0, u "longSavedAt"), (0, .fieldref 8 24), (0, .nameAndType 25 12), (0, u "savedCells"), (0, .fieldref 8 27), (0, .nameAndType 28 19), (0, u "savedValues"), (0, .fieldref 8 30), (0, .nameAndType 31 32), (0, u "epoch"), (0, u "I"), (0, .fieldref 8 34), (0, .nameAndType 35 32), (0, u "cellCount"), (6, .methodref 8 43), (0, .nameAndType 44 45), (0, u "save"), (0, u "(IJ)V"), (0, .fieldref 8 47), (0, .nameAndType 48 32), (0, u "longCellCount"), (3, .fieldref 8 53), (0, .nameAndType 54 32), (0, u "savedCount"), (2, u "newCell"), (0, u "(I)I"), (1, u "get"), (0, u "set"), (0, u "(II)V"), (0, u "newLongCell"), (0, u "(J)I"), (0, u "getLong"), (0, u "(I)J"), (0, u "setLong"), (0, u "checkpoint"), (0, u "()I"), (0, u "undo"), (0, u "(I)V")] 2

def k2c0 : Code := { maxStack := 2, maxLocals := 1, code := prog_71_method_1_code, exceptionTable := #[], attributes := #[] }
def k2m0 : Method := { name := "<init>", desc := "()V", sig := { parameters := [], returnType := none }, accessFlags := 0, code := some k2c0 }
def k2c1 : Code := { maxStack := 4, maxLocals := 2, code := prog_71_method_2_code, exceptionTable := #[], attributes := #[] }
def k2m1 : Method := { name := "newCell", desc := "(I)I", sig := { parameters := [.int], returnType := some .int }, accessFlags := 0, code := some k2c1 }
def k2c2 : Code := { maxStack := 2, maxLocals := 2, code := prog_71_method_3_code, exceptionTable := #[], attributes := #[] }
def k2m2 : Method := { name := "get", desc := "(I)I", sig := { parameters := [.int], returnType := some .int }, accessFlags := 0, code := some k2c2 }
def k2c3 : Code := { maxStack := 4, maxLocals := 3, code := prog_71_method_4_code, exceptionTable := #[], attributes := #[] }
def k2m3 : Method := { name := "set", desc := "(II)V", sig := { parameters := [.int, .int], returnType := none }, accessFlags := 0, code := some k2c3 }
def k2c4 : Code := { maxStack := 4, maxLocals := 3, code := prog_71_method_5_code, exceptionTable := #[], attributes := #[] }
def k2m4 : Method := { name := "newLongCell", desc := "(J)I", sig := { parameters := [.long], returnType := some .int }, accessFlags := 0, code := some k2c4 }
def k2c5 : Code := { maxStack := 2, maxLocals := 2, code := prog_71_method_6_code, exceptionTable := #[], attributes := #[] }
def k2m5 : Method := { name := "getLong", desc := "(I)J", sig := { parameters := [.int], returnType := some .long }, accessFlags := 0, code := some k2c5 }
def k2c6 : Code := { maxStack := 4, maxLocals := 4, code := prog_71_method_7_code, exceptionTable := #[], attributes := #[] }
def k2m6 : Method := { name := "setLong", desc := "(IJ)V", sig := { parameters := [.int, .long], returnType := none }, accessFlags := 0, code := some k2c6 }
def k2c7 : Code := { maxStack := 3, maxLocals := 1, code := prog_71_method_8_code, exceptionTable := #[], attributes := #[] }
def k2m7 : Method := { name := "checkpoint", desc := "()I", sig := { parameters := [], returnType := some .int }, accessFlags := 0, code := some k2c7 }
def k2c8 : Code := { maxStack := 4, maxLocals := 3, code := prog_71_method_9_code, exceptionTable := #[], attributes := #[] }
def k2m8 : Method := { name := "undo", desc := "(I)V", sig := { parameters := [.int], returnType := none }, accessFlags := 0, code := some k2c8 }
def k2c9 : Code := { maxStack := 4, maxLocals := 4, code := prog_71_method_10_code, exceptionTable := #[], attributes := #[] }
def k2m9 : Method := { name := "save", desc := "(IJ)V", sig := { parameters := [.int, .long], returnType := none }, accessFlags := 2, code := some k2c9 }
/-- com/example/tauten/tauten/Trail -/
def k2 : Class := { plain "com/example/tauten/tauten/Trail" (some 0) with
  accessFlags := 48
  interfaces := #[]
  cf := some (fileOf pool2 8 #[] #[{ accessFlags := 0, nameIndex := 5, descriptorIndex := 6, attributes := #[] }, { accessFlags := 0, nameIndex := 57, descriptorIndex := 58, attributes := #[] }, { accessFlags := 0, nameIndex := 60, descriptorIndex := 58, attributes := #[] }, { accessFlags := 0, nameIndex := 61, descriptorIndex := 62, attributes := #[] }, { accessFlags := 0, nameIndex := 63, descriptorIndex := 64, attributes := #[] }, { accessFlags := 0, nameIndex := 65, descriptorIndex := 66, attributes := #[] }, { accessFlags := 0, nameIndex := 67, descriptorIndex := 45, attributes := #[] }, { accessFlags := 0, nameIndex := 68, descriptorIndex := 69, attributes := #[] }, { accessFlags := 0, nameIndex := 70, descriptorIndex := 71, attributes := #[] }, { accessFlags := 2, nameIndex := 44, descriptorIndex := 45, attributes := #[] }] 48 2 #[] #[{ accessFlags := 2, nameIndex := 11, descriptorIndex := 12, attributes := #[] }, { accessFlags := 2, nameIndex := 15, descriptorIndex := 12, attributes := #[] }, { accessFlags := 2, nameIndex := 35, descriptorIndex := 32, attributes := #[] }, { accessFlags := 2, nameIndex := 18, descriptorIndex := 19, attributes := #[] }, { accessFlags := 2, nameIndex := 22, descriptorIndex := 12, attributes := #[] }, { accessFlags := 2, nameIndex := 48, descriptorIndex := 32, attributes := #[] }, { accessFlags := 2, nameIndex := 25, descriptorIndex := 12, attributes := #[] }, { accessFlags := 2, nameIndex := 28, descriptorIndex := 19, attributes := #[] }, { accessFlags := 2, nameIndex := 54, descriptorIndex := 32, attributes := #[] }, { accessFlags := 2, nameIndex := 31, descriptorIndex := 32, attributes := #[] }])
  fields := #[{ name := "values", type := (.array .int), accessFlags := 2, slot := 0, constantValue := 0 }, { name := "savedAt", type := (.array .int), accessFlags := 2, slot := 1, constantValue := 0 }, { name := "cellCount", type := .int, accessFlags := 2, slot := 2, constantValue := 0 }, { name := "longValues", type := (.array .long), accessFlags := 2, slot := 3, constantValue := 0 }, { name := "longSavedAt", type := (.array .int), accessFlags := 2, slot := 4, constantValue := 0 }, { name := "longCellCount", type := .int, accessFlags := 2, slot := 5, constantValue := 0 }, { name := "savedCells", type := (.array .int), accessFlags := 2, slot := 6, constantValue := 0 }, { name := "savedValues", type := (.array .long), accessFlags := 2, slot := 7, constantValue := 0 }, { name := "savedCount", type := .int, accessFlags := 2, slot := 8, constantValue := 0 }, { name := "epoch", type := .int, accessFlags := 2, slot := 9, constantValue := 0 }]
  methods := #[k2m0, k2m1, k2m2, k2m3, k2m4, k2m5, k2m6, k2m7, k2m8, k2m9]
  instanceTypes := #[(.array .int), (.array .int), .int, (.array .long), (.array .int), .int, (.array .int), (.array .long), .int, .int]
  staticTypes := #[]
  resolved := Array.replicate 74 none
  statics := none }

def pool3 : Array CpInfo := pool [(1, u "java/lang/Cloneable"), (0, .class_ 1), (0, u "java/lang/Object"), (0, .class_ 3)] 3

/-- java/lang/Cloneable -/
def k3 : Class := { plain "java/lang/Cloneable" (some 0) with
  accessFlags := 1537
  interfaces := #[]
  cf := some (fileOf pool3 2 #[] #[] 1537 4 #[] #[])
  fields := #[]
  methods := #[]
  instanceTypes := #[]
  staticTypes := #[]
  resolved := Array.replicate 8 none
  statics := none }

def pool4 : Array CpInfo := pool [(1, u "java/io/Serializable"), (0, .class_ 1), (0, u "java/lang/Object"), (0, .class_ 3)] 3

/-- java/io/Serializable -/
def k4 : Class := { plain "java/io/Serializable" (some 0) with
  accessFlags := 1537
  interfaces := #[]
  cf := some (fileOf pool4 2 #[] #[] 1537 4 #[] #[])
  fields := #[]
  methods := #[]
  instanceTypes := #[]
  staticTypes := #[]
  resolved := Array.replicate 8 none
  statics := none }

/-- the primitive byte -/
def k5 : Class := { plain "byte" none with kind := .primitive 'B', accessFlags := 0x411 }
/-- [B -/
def k6 : Class := { plain "[B" (some 0) with kind := .array 5 .byte, interfaces := #[3, 4], accessFlags := 1041 }

/-- the primitive int -/
def k7 : Class := { plain "int" none with kind := .primitive 'I', accessFlags := 0x411 }
/-- [I -/
def k8 : Class := { plain "[I" (some 0) with kind := .array 7 .int, interfaces := #[3, 4], accessFlags := 1041 }

/-- the primitive long -/
def k9 : Class := { plain "long" none with kind := .primitive 'J', accessFlags := 0x411 }
/-- [J -/
def k10 : Class := { plain "[J" (some 0) with kind := .array 9 .long, interfaces := #[3, 4], accessFlags := 1041 }

def heap : Heap := #[]
def classes : Array Class := #[k0, k1, k2, k3, k4, k5, k6, k7, k8, k9, k10]
def interned : List (Array UInt16 × Addr) := []
def slotsUsed : Nat := 0
def theMethod : MethodId := ⟨1, 1⟩
def args0 : Array Value := #[.int 5, .int 7, .int 9, .long 3, .long 4, .int 5]
def aboutOver (below : List Frame) : State where
  vm := { classes := classes, interned := interned.toArray }
  heap := heap
  slotsUsed := slotsUsed
  threads := #[{ frames := .invoking theMethod args0 :: below }]
def below0 : List Frame := [.native { method := ⟨0, 0⟩, args := #[] }]
def about1 : State := aboutOver below0
def p0 : Program := .bare "" "" ""
def e0 : Env := launch0.env 0 0 0
theorem w_frames : about1.frames = Frame.invoking theMethod args0 :: below0 := rfl
set_option maxRecDepth 65536 in
theorem w_args : argsFit about1.vm theMethod args0 = true := by decide +kernel
set_option maxRecDepth 65536 in
theorem w_heap : heapFits about1 = true := by decide +kernel
set_option maxRecDepth 65536 in
theorem w_runnable : about1.curStatus? = some .runnable := by decide +kernel
set_option maxRecDepth 65536 in
theorem w_alone : about1.alone = true := by decide +kernel
set_option maxRecDepth 65536 in
theorem w_named : about1.methodNamed? x = some theMethod := by decide +kernel
set_option maxRecDepth 65536 in
theorem w_hears : about1.hears theMethod below0 = true := by decide +kernel
set_option maxRecDepth 65536 in
theorem w_ripe : about1.ripe theMethod args0 below0 = true := by decide +kernel
theorem w_running : about1.status = .running := rfl
set_option maxRecDepth 65536 in
theorem w_room : about1.hasRoom e0.platform room_1 = true :=
  launch0.hasRoom_least _ room_1 (by decide +kernel) (by decide +kernel) (by decide +kernel) (by decide +kernel) (by decide +kernel) (by decide +kernel)
theorem allAtoms_all (ts : List Jvm.Cond) (a : Array Jvm.Value) (st : Jvm.State) : (allAtoms ts).before a st = ts.all (fun c => c.before a st) := by
  induction ts with
  | nil => rfl
  | cons c t ih =>
    show (Jvm.Cond.and c (allAtoms t)).before a st = _
    rw [Jvm.Cond.before_and, ih, List.all_cons]
def words1 : List Jvm.Cond := Jvm.Cond.code x code maxLocals ret :: tables_1
/-- a 'code' word, met by the world's own term for the bytes: nothing is compared byte by byte -/
theorem code_word {y : MethodName} {bytes : ByteArray} {mx : Nat} {rt : Option FieldType} {a : Array Value} {s : State} {m : MethodId} {meth : Method} {c : Code} (h1 : s.methodNamed? y = some m) (h2 : s.vm.method? m = some meth) (h3 : meth.code = some c) (h4 : c.code = bytes)
    (h5 : (c.maxLocals == mx && c.exceptionTable.isEmpty && decide (c.maxStack ≤ mostOperands) && decide (meth.sig.returnType = rt) && !meth.locks && decide (parseMethodDescriptor y.desc = some meth.sig)) = true) : (Jvm.Cond.code y bytes mx rt).before a s = true := by
  simp only [Bool.and_eq_true, beq_iff_eq, Bool.not_eq_true', decide_eq_true_eq] at h5
  obtain ⟨⟨⟨⟨⟨g1, g2⟩, g3⟩, g4⟩, g5⟩, g6⟩ := h5
  simp [Cond.before, Cond.holds, Cond.value, h1, h2, h3, h4, g1, g2, g3, g4, g5, g6]
def isCode : Jvm.Cond → Bool
  | .code _ _ _ _ => true
  | _ => false
theorem all_split {L : List Jvm.Cond} {P : Jvm.Cond → Bool} (h1 : L.all (fun c => isCode c || P c) = true) (h2 : ∀ c ∈ L.filter isCode, P c = true) : L.all P = true := by
  refine List.all_eq_true.mpr fun c hc => ?_
  have h := List.all_eq_true.mp h1 c hc
  rcases Bool.eq_false_or_eq_true (isCode c) with hi | hi
  · exact h2 c (List.mem_filter.mpr ⟨hc, hi⟩)
  · simpa [hi] using h
set_option maxRecDepth 65536 in
theorem w_c0 : (Jvm.Cond.code x code maxLocals ret).before args0 about1 = true := code_word (m := ⟨1, 1⟩) (meth := k1m1) (c := k1c1) (by decide +kernel) rfl rfl rfl (by decide +kernel)
set_option maxRecDepth 65536 in
theorem w_c1 : (Jvm.Cond.code ({ cls := "com/example/tauten/tauten/Trail", name := "<init>", desc := "()V" } : Jvm.MethodName) prog_71_method_1_code (1 : Nat) (Option.none : Option Jvm.ClassFile.FieldType)).before args0 about1 = true := code_word (m := ⟨2, 0⟩) (meth := k2m0) (c := k2c0) (by decide +kernel) rfl rfl rfl (by decide +kernel)
set_option maxRecDepth 65536 in
theorem w_c2 : (Jvm.Cond.code ({ cls := "java/lang/Object", name := "<init>", desc := "()V" } : Jvm.MethodName) object_method_1_code (1 : Nat) (Option.none : Option Jvm.ClassFile.FieldType)).before args0 about1 = true := code_word (m := ⟨0, 0⟩) (meth := k0m0) (c := k0c0) (by decide +kernel) rfl rfl rfl (by decide +kernel)
set_option maxRecDepth 65536 in
theorem w_c3 : (Jvm.Cond.code ({ cls := "com/example/tauten/tauten/Trail", name := "newCell", desc := "(I)I" } : Jvm.MethodName) prog_71_method_2_code (2 : Nat) (Option.some Jvm.ClassFile.FieldType.int)).before args0 about1 = true := code_word (m := ⟨2, 1⟩) (meth := k2m1) (c := k2c1) (by decide +kernel) rfl rfl rfl (by decide +kernel)
set_option maxRecDepth 65536 in
theorem w_c4 : (Jvm.Cond.code ({ cls := "com/example/tauten/tauten/Trail", name := "newLongCell", desc := "(J)I" } : Jvm.MethodName) prog_71_method_5_code (3 : Nat) (Option.some Jvm.ClassFile.FieldType.int)).before args0 about1 = true := code_word (m := ⟨2, 4⟩) (meth := k2m4) (c := k2c4) (by decide +kernel) rfl rfl rfl (by decide +kernel)
set_option maxRecDepth 65536 in
theorem w_c5 : (Jvm.Cond.code ({ cls := "com/example/tauten/tauten/Trail", name := "checkpoint", desc := "()I" } : Jvm.MethodName) prog_71_method_8_code (1 : Nat) (Option.some Jvm.ClassFile.FieldType.int)).before args0 about1 = true := code_word (m := ⟨2, 7⟩) (meth := k2m7) (c := k2c7) (by decide +kernel) rfl rfl rfl (by decide +kernel)
set_option maxRecDepth 65536 in
theorem w_c6 : (Jvm.Cond.code ({ cls := "com/example/tauten/tauten/Trail", name := "set", desc := "(II)V" } : Jvm.MethodName) prog_71_method_4_code (3 : Nat) (Option.none : Option Jvm.ClassFile.FieldType)).before args0 about1 = true := code_word (m := ⟨2, 3⟩) (meth := k2m3) (c := k2c3) (by decide +kernel) rfl rfl rfl (by decide +kernel)
set_option maxRecDepth 65536 in
theorem w_c7 : (Jvm.Cond.code ({ cls := "com/example/tauten/tauten/Trail", name := "save", desc := "(IJ)V" } : Jvm.MethodName) prog_71_method_10_code (4 : Nat) (Option.none : Option Jvm.ClassFile.FieldType)).before args0 about1 = true := code_word (m := ⟨2, 9⟩) (meth := k2m9) (c := k2c9) (by decide +kernel) rfl rfl rfl (by decide +kernel)
set_option maxRecDepth 65536 in
theorem w_c8 : (Jvm.Cond.code ({ cls := "com/example/tauten/tauten/Trail", name := "setLong", desc := "(IJ)V" } : Jvm.MethodName) prog_71_method_7_code (4 : Nat) (Option.none : Option Jvm.ClassFile.FieldType)).before args0 about1 = true := code_word (m := ⟨2, 6⟩) (meth := k2m6) (c := k2c6) (by decide +kernel) rfl rfl rfl (by decide +kernel)
set_option maxRecDepth 65536 in
theorem w_c9 : (Jvm.Cond.code ({ cls := "com/example/tauten/tauten/Trail", name := "undo", desc := "(I)V" } : Jvm.MethodName) prog_71_method_9_code (3 : Nat) (Option.none : Option Jvm.ClassFile.FieldType)).before args0 about1 = true := code_word (m := ⟨2, 8⟩) (meth := k2m8) (c := k2c8) (by decide +kernel) rfl rfl rfl (by decide +kernel)
set_option maxRecDepth 65536 in
theorem w_c10 : (Jvm.Cond.code ({ cls := "com/example/tauten/tauten/Trail", name := "get", desc := "(I)I" } : Jvm.MethodName) prog_71_method_3_code (2 : Nat) (Option.some Jvm.ClassFile.FieldType.int)).before args0 about1 = true := code_word (m := ⟨2, 2⟩) (meth := k2m2) (c := k2c2) (by decide +kernel) rfl rfl rfl (by decide +kernel)
set_option maxRecDepth 65536 in
theorem w_c11 : (Jvm.Cond.code ({ cls := "com/example/tauten/tauten/Trail", name := "getLong", desc := "(I)J" } : Jvm.MethodName) prog_71_method_6_code (2 : Nat) (Option.some Jvm.ClassFile.FieldType.long)).before args0 about1 = true := code_word (m := ⟨2, 5⟩) (meth := k2m5) (c := k2c5) (by decide +kernel) rfl rfl rfl (by decide +kernel)
def codes1 : List Jvm.Cond := [Jvm.Cond.code x code maxLocals ret, Jvm.Cond.code ({ cls := "com/example/tauten/tauten/Trail", name := "<init>", desc := "()V" } : Jvm.MethodName) prog_71_method_1_code (1 : Nat) (Option.none : Option Jvm.ClassFile.FieldType), Jvm.Cond.code ({ cls := "java/lang/Object", name := "<init>", desc := "()V" } : Jvm.MethodName) object_method_1_code (1 : Nat) (Option.none : Option Jvm.ClassFile.FieldType), Jvm.Cond.code ({ cls := "com/example/tauten/tauten/Trail", name := "newCell", desc := "(I)I" } : Jvm.MethodName) prog_71_method_2_code (2 : Nat) (Option.some Jvm.ClassFile.FieldType.int), Jvm.Cond.code ({ cls := "com/example/tauten/tauten/Trail", name := "newLongCell", desc := "(J)I" } : Jvm.MethodName) prog_71_method_5_code (3 : Nat) (Option.some Jvm.ClassFile.FieldType.int), Jvm.Cond.code ({ cls := "com/example/tauten/tauten/Trail", name := "checkpoint", desc := "()I" } : Jvm.MethodName) prog_71_method_8_code (1 : Nat) (Option.some Jvm.ClassFile.FieldType.int), Jvm.Cond.code ({ cls := "com/example/tauten/tauten/Trail", name := "set", desc := "(II)V" } : Jvm.MethodName) prog_71_method_4_code (3 : Nat) (Option.none : Option Jvm.ClassFile.FieldType), Jvm.Cond.code ({ cls := "com/example/tauten/tauten/Trail", name := "save", desc := "(IJ)V" } : Jvm.MethodName) prog_71_method_10_code (4 : Nat) (Option.none : Option Jvm.ClassFile.FieldType), Jvm.Cond.code ({ cls := "com/example/tauten/tauten/Trail", name := "setLong", desc := "(IJ)V" } : Jvm.MethodName) prog_71_method_7_code (4 : Nat) (Option.none : Option Jvm.ClassFile.FieldType), Jvm.Cond.code ({ cls := "com/example/tauten/tauten/Trail", name := "undo", desc := "(I)V" } : Jvm.MethodName) prog_71_method_9_code (3 : Nat) (Option.none : Option Jvm.ClassFile.FieldType), Jvm.Cond.code ({ cls := "com/example/tauten/tauten/Trail", name := "get", desc := "(I)I" } : Jvm.MethodName) prog_71_method_3_code (2 : Nat) (Option.some Jvm.ClassFile.FieldType.int), Jvm.Cond.code ({ cls := "com/example/tauten/tauten/Trail", name := "getLong", desc := "(I)J" } : Jvm.MethodName) prog_71_method_6_code (2 : Nat) (Option.some Jvm.ClassFile.FieldType.long)]
set_option maxRecDepth 65536 in
theorem codes_eq : words1.filter isCode = codes1 := rfl
theorem w_codes : ∀ c ∈ words1.filter isCode, c.before args0 about1 = true := by
  rw [codes_eq]
  intro c hc
  simp only [codes1, List.mem_cons, List.not_mem_nil, or_false] at hc
  rcases hc with rfl | rfl | rfl | rfl | rfl | rfl | rfl | rfl | rfl | rfl | rfl | rfl
  · exact w_c0
  · exact w_c1
  · exact w_c2
  · exact w_c3
  · exact w_c4
  · exact w_c5
  · exact w_c6
  · exact w_c7
  · exact w_c8
  · exact w_c9
  · exact w_c10
  · exact w_c11
set_option maxRecDepth 65536 in
theorem w_t1 : (words1.take 24).all (fun c => isCode c || c.before args0 about1) = true := by decide +kernel
set_option maxRecDepth 65536 in
theorem w_t2 : ((words1.drop 24).take 24).all (fun c => isCode c || c.before args0 about1) = true := by decide +kernel
set_option maxRecDepth 65536 in
theorem w_t3 : (((words1.drop 24).drop 24).take 24).all (fun c => isCode c || c.before args0 about1) = true := by decide +kernel
set_option maxRecDepth 65536 in
theorem w_t4 : (((words1.drop 24).drop 24).drop 24).all (fun c => isCode c || c.before args0 about1) = true := by decide +kernel
theorem w_tables : (allAtoms (Jvm.Cond.code x code maxLocals ret :: tables_1)).before args0 about1 = true := by
  rw [allAtoms_all]
  show words1.all (fun c => c.before args0 about1) = true
  refine all_split ?_ w_codes
  rw [← List.take_append_drop 24 words1, List.all_append, w_t1, ← List.take_append_drop 24 (words1.drop 24), List.all_append, w_t2, ← List.take_append_drop 24 ((words1.drop 24).drop 24), List.all_append, w_t3, w_t4]
  rfl
set_option maxRecDepth 65536 in
theorem w_case : (Jvm.Cond.and given_1 narrow_1).before args0 about1 = true := by decide +kernel
theorem w_applies : (headSpec (Jvm.Cond.code x code maxLocals ret :: tables_1) room_1).applies x e0.platform about1 = true :=
  (Spec.applies_iff w_frames).mpr ⟨w_running, w_runnable, w_alone, w_named, w_hears, w_ripe, w_room, w_tables⟩
theorem atStart : AtStart classFile x code maxLocals ret World_1 tables_1 room_1 Calls_1 rest_1 Pre_1 launch0 p0 e0 about1 theMethod args0 below0 :=
  ⟨lists_1, trivial, launch0.admits_env _ _ _, launch0.least_env, fairChoices_fair.cas, fairChoices_fair.clock, w_frames, w_args, w_heap, w_applies, trivial, trivial, w_case⟩
end start1
theorem witness_1 : WitnessClaimed_1 := ⟨start1.p0, start1.e0, start1.about1, start1.theMethod, start1.args0, start1.below0, start1.atStart⟩
end Jvm.Pilot.@@N@@
