import JvmDerived
import JvmDerived.Pilot.@@N@@Statement
import JvmDerived.Pilot.@@N@@Code
set_option linter.unusedVariables false
set_option linter.unusedSimpArgs false
namespace Jvm.OwnW
open Sem ClassFile Op Lib Jvm.Stand Jvm.Free Jvm.LawKit Jvm.RoadKit
section Base
variable {p : Program} {l : Launch} {e : Env} {R : Room} {s : State} {m : MethodId} {args : Array Value} {below : List Frame} {meth : Method} {c : Code} {T : State} {locs : List Loc} {cells slots : Nat} {Z : State} {h h' : Heap} {a b : Addr} {ty : FieldType} {vs : List Value} {v : Value} {sl : Nat} {ws : List Addr}
variable {Q : Option Value → Heap → List Loc → Prop} {En : Outcome → State → List Loc → Prop} {kc ks : Nat} {U U' : State}
/-- from U the body comes to its end; what it leaves is Q, its frame En -/
def Wq (p : Program) (e : Env) (below : List Frame) (En : Outcome → State → List Loc → Prop) (Q : Option Value → Heap → List Loc → Prop) (U : State) : Prop :=
  ∃ s₂ o, Steps p.tables e below U s₂ ∧ s₂.status = .running ∧ Ended s₂ below o ∧ ∃ v L, o = .returned v ∧ Q v s₂.heap L ∧ En o s₂ L
theorem Wq.step (h1 : ∀ t, Steps p.tables e below U' t → Steps p.tables e below U t) (k : Wq p e below En Q U') : Wq p e below En Q U := by
  obtain ⟨s₂, o, q, r⟩ := k; exact ⟨s₂, o, h1 _ q, r⟩
theorem Wq.steps (h1 : Steps p.tables e below U U') (k : Wq p e below En Q U') : Wq p e below En Q U := by
  obtain ⟨s₂, o, q, r⟩ := k; exact ⟨s₂, o, h1.trans q, r⟩
theorem Wq.by (k1 : Wq p e below En Q U' → Wq p e below En Q U) (k : Wq p e below En Q U') : Wq p e below En Q U := k1 k
theorem Wq.ret {rv : Option Value} {g : JFrame} (X : Stand p l e R s m args below meth c T locs cells slots) (hlk : meth.locks = false) (hv : meth.sig.returnType = none → rv = none)
    (st : ∀ fs, (∀ (f : JFrame) (acts : List Action), f.method = m → f.locked = none → f.entered = [] → (doReturn e (T.setTop f) acts rv).1 = T.setFrames fs) → Steps p.tables e below (T.setTop g) (T.setFrames fs))
    (hc : cells ≤ kc) (hs : slots ≤ ks) (hQ : Q rv T.heap locs) : Wq p e below (fun o t L => FrameEnd s o t L kc ks) Q (T.setTop g) := by
  obtain ⟨fs, hr, hrun, hended, hW, hsame⟩ := X.leave (v := rv) hv hlk
  exact ⟨_, _, st fs hr, hrun, hended, rv, locs, rfl, hQ, ⟨rv, rfl⟩, hW, hsame.mono hc hs⟩
/-- the same for a body that may load a String constant for the first time -/
theorem Wq.retW {rv : Option Value} {g : JFrame} {vm₁ : Vm} {n : Nat} (X : Stand p l e R (s.setVm vm₁) m args below meth c T locs cells slots) (hS : s.Since vm₁ n) (hn : n ≤ T.heap.size) (hlk : meth.locks = false) (hv : meth.sig.returnType = none → rv = none)
    (st : ∀ fs, (∀ (f : JFrame) (acts : List Action), f.method = m → f.locked = none → f.entered = [] → (doReturn e (T.setTop f) acts rv).1 = T.setFrames fs) → Steps p.tables e below (T.setTop g) (T.setFrames fs))
    (hc : cells ≤ kc) (hs : slots ≤ ks) (hQ : Q rv T.heap locs) : Wq p e below (fun o t L => ReturnedEndW s o t L kc ks) Q (T.setTop g) := by
  obtain ⟨fs, hr, hrun, hended, w1, w2, w3, w4⟩ := X.leaveW hS hn (v := rv) hv hlk
  exact ⟨_, _, st fs hr, hrun, hended, rv, locs, rfl, hQ, ⟨rv, rfl⟩, w2, w3, w4.mono hc hs⟩
/-- an array and the whole list of what it holds -/
def Al (Z : State) (h : Heap) (a : Addr) (ty : FieldType) (vs : List Value) : Prop := ∃ cl : Cell, Arr Z h a cl ty ∧ cl.slots.toList = vs
theorem Al.lt (V : Al Z h a ty vs) : a < h.size := by obtain ⟨cl, A, -⟩ := V; exact A.lt
theorem Al.ext (V : Al Z h a ty vs) (E : Ext h h') : Al Z h' a ty vs := by obtain ⟨cl, A, r⟩ := V; exact ⟨cl, A.ext E, r⟩
theorem Al.other (V : Al Z h b ty vs) (W : Wr h h' a sl v) (q : b ≠ a) : Al Z h' b ty vs := by obtain ⟨cl, A, r⟩ := V; exact ⟨cl, A.other W q, r⟩
theorem Al.keep (V : Al Z h a ty vs) (K : Keep h h' ws) (q : a ∉ ws) : Al Z h' a ty vs := by obtain ⟨cl, A, r⟩ := V; exact ⟨cl, ⟨K.2.1 a cl A.1 q, A.2⟩, r⟩
theorem Al.new {cA : ClassId} {n : Int32} {k : Nat} {dv : Value} (A : Arr Z h a (newA cA ty n) ty) (hk : n.toNatClampNeg = k) (hd : defaultValue ty = dv) : Al Z h a ty (List.replicate k dv) := ⟨_, A, by subst hk hd; simp [newA]⟩
theorem Al.set (V : Al Z h a ty vs) (W : Wr h h' a sl v) : Al Z h' a ty (vs.set sl v) := by
  obtain ⟨cl, A, rfl⟩ := V
  exact ⟨_, A.same W, by simp [Cell.setSlot]⟩
theorem Sta.keepN {C n d : String} {v : Value} (F : Sta Z h C n d v) (K : Keep h h' ws) (q : ∀ w ∈ ws, ∀ cell : Cell, h[w]? = some cell → cell.vm.isStatics = false) : Sta Z h' C n d v := by
  obtain ⟨cf, i, k, f, st, cell, h1, h2, h3, h4, h5, h6, h7⟩ := F
  exact ⟨cf, i, k, f, st, cell, h1, h2, h3, h4, K.2.1 _ _ h5 (fun hm => by rw [q st hm cell h5] at h6; cases h6), h6, h7⟩
theorem fldI {t : Term} {C n d : String} {k : Int32} (hx : (Cond.eq (.field t C n d) (.int k)).value args s none s [] = some true) (ev : t.eval args s none [] s = some (.ref a)) : Fld s s.heap a C n d (.int k) := by
  refine Fld.start ?_
  have e1 := fld_at (C := C) (n := n) (dd := d) ev
  obtain ⟨x, y, h1, h2, k1, k2⟩ := cmp_v (Or.inl hx)
  rw [Term.int_eval] at h2
  cases h2
  rw [e1] at h1
  cases x <;> simp only [Kin] at k2 <;> first | (obtain ⟨z, hz⟩ := k2; cases hz) | skip
  have q := gotT (Cond.eq_ints (e1.trans h1) (Term.int_eval k)) hx
  rw [h1, q]
theorem fldJ {t : Term} {C n d : String} {k : Int64} (hx : (Cond.eq (.field t C n d) (.long k)).value args s none s [] = some true) (ev : t.eval args s none [] s = some (.ref a)) : Fld s s.heap a C n d (.long k) := by
  refine Fld.start ?_
  have e1 := fld_at (C := C) (n := n) (dd := d) ev
  obtain ⟨x, y, h1, h2, k1, k2⟩ := cmp_v (Or.inl hx)
  rw [long_at] at h2
  cases h2
  rw [e1] at h1
  cases x <;> simp only [Kin] at k2 <;> first | (obtain ⟨z, hz⟩ := k2; cases hz) | skip
  have q := gotT (eq_L (e1.trans h1) (long_at k)) hx
  rw [h1, q]
theorem Exa.ns {C : String} (F : Exa Z h a C) : ∀ cell : Cell, h[a]? = some cell → cell.vm.isStatics = false := by
  obtain ⟨c1, k, h1, h2, h3, h4, h5⟩ := F
  intro cell hc; cases h1.symm.trans hc; exact h4
theorem Al.ns (V : Al Z h a ty vs) : ∀ cell : Cell, h[a]? = some cell → cell.vm.isStatics = false := by
  obtain ⟨cl, A, -⟩ := V
  intro cell hc; cases A.1.symm.trans hc; exact A.plain
theorem clA (X : Stand p l e R s m args below meth c T locs cells slots) (hx : p.tables.exec = Jvm.exec) (hZ : Z.Warmed39 s.vm) {a0 : Array Value} {own ad : String} {index : Nat} (hown : s.vm.findClass own = some m.cls)
    (w1 : (Cond.methodLink own index ⟨ad, "clone", "()Ljava/lang/Object;"⟩).before a0 Z = true) (w2 : (Cond.sameMethod ad "java/lang/Object" "clone" "()Ljava/lang/Object;").before a0 Z = true) (w3 : (Cond.native ⟨"java/lang/Object", "clone", "()Ljava/lang/Object;"⟩).before a0 Z = true)
    (w4 : (Cond.instanceMethod ⟨"java/lang/Object", "clone", "()Ljava/lang/Object;"⟩).before a0 Z = true) (w5 : (Cond.selects ad ⟨ad, "clone", "()Ljava/lang/Object;"⟩ ⟨"java/lang/Object", "clone", "()Ljava/lang/Object;"⟩).before a0 Z = true) (w6 : (Cond.castable ad "java/lang/Cloneable").before a0 Z = true)
    (eT : T.heap = h) (V : Al Z h a ty vs) (E : Exa Z h a ad) (F : ∀ v ∈ vs, fits ty v = true) {g : JFrame} (hg : g.method = m) (hsize : g.locals.size = c.maxLocals) {rest : List Value} (hst : g.stack = .ref a :: rest) (hd : decode c.code g.pc = .ok (.invokevirtual index, 3))
    (hf : 1 ≤ R.frames) {W cap : Nat} (hW : 2 * g.monitorRoom + (rest.map fun v => v.category).sum ≤ W) (hl : W + 14 ≤ R.locals) (hcap : vs.length ≤ cap) (hc : cells + 1 ≤ R.cells) (hsl : slots + cap ≤ R.slots) :
    ∃ T' h', Stand p l e R s m args below meth c T' locs (cells + 1) (slots + cap) ∧ T'.heap = h' ∧ Ext h h' ∧ Al Z h' h.size ty vs ∧ Exa Z h' h.size ad ∧
      ∀ target, Steps p.tables e below (T'.setTop { g with pc := g.pc + 3, stack := .ref h.size :: rest }) target → Steps p.tables e below (T.setTop g) target := by
  obtain ⟨cl, A, r⟩ := V
  have FC : FitC Z cl := fitC_of A fun i hi v hv => F v (by rw [← r]; exact Array.mem_toList_iff.mpr (Array.mem_of_getElem? hv))
  obtain ⟨T', h', X', e', ex, A', E', st⟩ := cloneA X hx hZ hown w1 w2 w3 w4 w5 w6 eT A E FC hg hsize hst hd hf hW hl (by rw [← Array.length_toList, r]; exact hcap) hc hsl
  exact ⟨T', h', X', e', ex, ⟨_, A', r⟩, E', st⟩
theorem selPriv {a0 : Array Value} {y : MethodName} {k : Nat} (hZ : Z.Warmed39 s.vm) (wi : (Cond.instantiable y.cls k).before a0 Z = true) (wp : (Cond.privateMethod y).before a0 Z = true) (wm : (Cond.instanceMethod y).before a0 Z = true) (hy : y.cls ≠ "java/lang/invoke/MethodHandle" ∧ y.cls ≠ "java/lang/invoke/VarHandle") : (Cond.selects y.cls y y).before args s = true := by
  obtain ⟨c, k, h1, h2, -, h4, -⟩ := Cond.instantiable_spec (mv (args := args) hZ wi)
  simp only [Bool.or_eq_false_iff] at h4
  exact Jvm.Stand.selects_self_of_private h1 h2 h4.1 (Cond.privateMethod_at (mvP hZ wp (args := args))) (mv hZ wm) hy
theorem al_in {cl : Cell} {j : Int32} {i : Nat} (hvs : cl.slots.toList = vs) (hj : ¬ j < 0) (hi : j.toNatClampNeg = i) (hl : i < vs.length) : ¬ (j < 0 ∨ cl.slots.size ≤ j.toNatClampNeg) := by
  subst hvs hi
  rintro (q | q)
  · exact hj q
  · simp only [Array.length_toList] at hl; omega
theorem al_at {cl : Cell} {j : Int32} {i : Nat} (hvs : cl.slots.toList = vs) (hi : j.toNatClampNeg = i) (hv : vs[i]? = some v) : cl.slots[j.toNatClampNeg]? = some v := by
  subst hvs hi; simpa using hv
theorem al_lt {i : Nat} (hv : vs[i]? = some v) : i < vs.length := (List.getElem?_eq_some_iff.mp hv).1
theorem ldI (X : Stand p l e R s m args below meth c T locs cells slots) (hx : p.tables.exec = Jvm.exec) (hZ : Z.Warmed39 s.vm) (eT : T.heap = h) (V : Al Z h a .int vs) {j : Int32} {i : Nat} (hj : ¬ j < 0) (hi : j.toNatClampNeg = i) (hv : vs[i]? = some v) {g : JFrame} (hg : g.method = m) {rest : List Value} (hs : g.stack = .int j :: .ref a :: rest) (hd : decode c.code g.pc = .ok (.iaload, 1)) {target : State}
    (k : Steps p.tables e below (T.setTop { g with pc := g.pc + 1, stack := v :: rest }) target) : Steps p.tables e below (T.setTop g) target := by
  obtain ⟨cl, A, r⟩ := V
  exact X.iaload hx (by rw [eT]; exact A.1) (State.isArrayOf_alike hZ.alike A.2.1) A.2.2 (al_in r hj hi (al_lt hv)) (al_at r hi hv) hg hs hd _ k
theorem ldJ (X : Stand p l e R s m args below meth c T locs cells slots) (hx : p.tables.exec = Jvm.exec) (hZ : Z.Warmed39 s.vm) (eT : T.heap = h) (V : Al Z h a .long vs) {j : Int32} {i : Nat} (hj : ¬ j < 0) (hi : j.toNatClampNeg = i) (hv : vs[i]? = some v) {g : JFrame} (hg : g.method = m) {rest : List Value} (hs : g.stack = .int j :: .ref a :: rest) (hd : decode c.code g.pc = .ok (.laload, 1)) {target : State}
    (k : Steps p.tables e below (T.setTop { g with pc := g.pc + 1, stack := v :: rest }) target) : Steps p.tables e below (T.setTop g) target := by
  obtain ⟨cl, A, r⟩ := V
  exact X.laload hx (by rw [eT]; exact A.1) (State.isArrayOf_alike hZ.alike A.2.1) A.2.2 (al_in r hj hi (al_lt hv)) (al_at r hi hv) hg hs hd _ k
theorem ldC (X : Stand p l e R s m args below meth c T locs cells slots) (hx : p.tables.exec = Jvm.exec) (hZ : Z.Warmed39 s.vm) (eT : T.heap = h) (V : Al Z h a .char vs) {j : Int32} {i : Nat} (hj : ¬ j < 0) (hi : j.toNatClampNeg = i) (hv : vs[i]? = some v) {g : JFrame} (hg : g.method = m) {rest : List Value} (hs : g.stack = .int j :: .ref a :: rest) (hd : decode c.code g.pc = .ok (.caload, 1)) {target : State}
    (k : Steps p.tables e below (T.setTop { g with pc := g.pc + 1, stack := v :: rest }) target) : Steps p.tables e below (T.setTop g) target := by
  obtain ⟨cl, A, r⟩ := V
  exact X.caload hx (by rw [eT]; exact A.1) (State.isArrayOf_alike hZ.alike A.2.1) A.2.2 (al_in r hj hi (al_lt hv)) (al_at r hi hv) hg hs hd _ k
theorem ldB (X : Stand p l e R s m args below meth c T locs cells slots) (hx : p.tables.exec = Jvm.exec) (hZ : Z.Warmed39 s.vm) (eT : T.heap = h) (V : Al Z h a .byte vs) {j : Int32} {i : Nat} (hj : ¬ j < 0) (hi : j.toNatClampNeg = i) (hv : vs[i]? = some v) {g : JFrame} (hg : g.method = m) {rest : List Value} (hs : g.stack = .int j :: .ref a :: rest) (hd : decode c.code g.pc = .ok (.baload, 1)) {target : State}
    (k : Steps p.tables e below (T.setTop { g with pc := g.pc + 1, stack := v :: rest }) target) : Steps p.tables e below (T.setTop g) target := by
  obtain ⟨cl, A, r⟩ := V
  exact X.baloadBytes hx (by rw [eT]; exact A.1) (State.isArrayOf_alike hZ.alike A.2.1) A.2.2 (al_in r hj hi (al_lt hv)) (al_at r hi hv) hg hs hd _ k
theorem ldZ (X : Stand p l e R s m args below meth c T locs cells slots) (hx : p.tables.exec = Jvm.exec) (hZ : Z.Warmed39 s.vm) (eT : T.heap = h) (V : Al Z h a .boolean vs) {j : Int32} {i : Nat} (hj : ¬ j < 0) (hi : j.toNatClampNeg = i) (hv : vs[i]? = some v) {g : JFrame} (hg : g.method = m) {rest : List Value} (hs : g.stack = .int j :: .ref a :: rest) (hd : decode c.code g.pc = .ok (.baload, 1)) {target : State}
    (k : Steps p.tables e below (T.setTop { g with pc := g.pc + 1, stack := v :: rest }) target) : Steps p.tables e below (T.setTop g) target := by
  obtain ⟨cl, A, r⟩ := V
  exact X.baloadBooleans hx (by rw [eT]; exact A.1) (State.isArrayOf_alike hZ.alike A.2.1) A.2.2 (al_in r hj hi (al_lt hv)) (al_at r hi hv) hg hs hd _ k
theorem lenA (X : Stand p l e R s m args below meth c T locs cells slots) (hx : p.tables.exec = Jvm.exec) (hZ : Z.Warmed39 s.vm) (eT : T.heap = h) (V : Al Z h a ty vs) {n : Int32} (hn : vs.length.toInt32 = n) {g : JFrame} (hg : g.method = m) {rest : List Value} (hs : g.stack = .ref a :: rest) (hd : decode c.code g.pc = .ok (.arraylength, 1)) {target : State}
    (k : Steps p.tables e below (T.setTop { g with pc := g.pc + 1, stack := .int n :: rest }) target) : Steps p.tables e below (T.setTop g) target := by
  obtain ⟨cl, A, r⟩ := V
  refine X.arraylength hx (by rw [eT]; exact A.1) (State.isArrayOf_alike hZ.alike A.2.1) hg hs hd _ ?_
  rw [show cl.slots.size.toInt32 = n from by rw [← hn, ← r, Array.length_toList]]
  exact k
theorem asI (X : Stand p l e R s m args below meth c T locs cells slots) (hx : p.tables.exec = Jvm.exec) (hZ : Z.Warmed39 s.vm) (eT : T.heap = h) (V : Al Z h a .int vs) {j : Int32} {i : Nat} {x : Int32} (hj : ¬ j < 0) (hi : j.toNatClampNeg = i) (hl : i < vs.length) {g : JFrame} (hg : g.method = m) {rest : List Value} (hs : g.stack = .int x :: .int j :: .ref a :: rest) (hd : decode c.code g.pc = .ok (.iastore, 1)) :
    ∃ T' h', Stand p l e R s m args below meth c T' (locs ++ [⟨a, i⟩]) cells slots ∧ T'.heap = h' ∧ Wr h h' a i (.int x) ∧ Al Z h' a .int (vs.set i (.int x)) ∧ ∀ target, Steps p.tables e below (T'.setTop { g with pc := g.pc + 1, stack := rest }) target → Steps p.tables e below (T.setTop g) target := by
  have V0 := V
  obtain ⟨cl, A, r⟩ := V
  obtain ⟨T', h', X', e', W, st⟩ := stI X hx hZ eT A (al_in r hj hi hl) hg hs hd
  subst hi
  exact ⟨T', h', X', e', W, V0.set W, st⟩
theorem asJ (X : Stand p l e R s m args below meth c T locs cells slots) (hx : p.tables.exec = Jvm.exec) (hZ : Z.Warmed39 s.vm) (eT : T.heap = h) (V : Al Z h a .long vs) {j : Int32} {i : Nat} {x : Int64} (hj : ¬ j < 0) (hi : j.toNatClampNeg = i) (hl : i < vs.length) {g : JFrame} (hg : g.method = m) {rest : List Value} (hs : g.stack = .long x :: .int j :: .ref a :: rest) (hd : decode c.code g.pc = .ok (.lastore, 1)) :
    ∃ T' h', Stand p l e R s m args below meth c T' (locs ++ [⟨a, i⟩]) cells slots ∧ T'.heap = h' ∧ Wr h h' a i (.long x) ∧ Al Z h' a .long (vs.set i (.long x)) ∧ ∀ target, Steps p.tables e below (T'.setTop { g with pc := g.pc + 1, stack := rest }) target → Steps p.tables e below (T.setTop g) target := by
  have V0 := V
  obtain ⟨cl, A, r⟩ := V
  obtain ⟨T', h', X', e', W, st⟩ := stJ X hx hZ eT A (al_in r hj hi hl) hg hs hd
  subst hi
  exact ⟨T', h', X', e', W, V0.set W, st⟩
theorem asC (X : Stand p l e R s m args below meth c T locs cells slots) (hx : p.tables.exec = Jvm.exec) (hZ : Z.Warmed39 s.vm) (eT : T.heap = h) (V : Al Z h a .char vs) {j : Int32} {i : Nat} {x y : Int32} (hj : ¬ j < 0) (hi : j.toNatClampNeg = i) (hl : i < vs.length) (hy : nar .char x = y) {g : JFrame} (hg : g.method = m) {rest : List Value} (hs : g.stack = .int x :: .int j :: .ref a :: rest) (hd : decode c.code g.pc = .ok (.castore, 1)) :
    ∃ T' h', Stand p l e R s m args below meth c T' (locs ++ [⟨a, i⟩]) cells slots ∧ T'.heap = h' ∧ Wr h h' a i (.int y) ∧ Al Z h' a .char (vs.set i (.int y)) ∧ ∀ target, Steps p.tables e below (T'.setTop { g with pc := g.pc + 1, stack := rest }) target → Steps p.tables e below (T.setTop g) target := by
  have V0 := V
  obtain ⟨cl, A, r⟩ := V
  obtain ⟨T', h', X', e', W, st⟩ := stC X hx hZ eT A (al_in r hj hi hl) hg hs hd
  subst hi hy
  exact ⟨T', h', X', e', W, V0.set W, st⟩
theorem asB (X : Stand p l e R s m args below meth c T locs cells slots) (hx : p.tables.exec = Jvm.exec) (hZ : Z.Warmed39 s.vm) (eT : T.heap = h) (V : Al Z h a .byte vs) {j : Int32} {i : Nat} {x y : Int32} (hj : ¬ j < 0) (hi : j.toNatClampNeg = i) (hl : i < vs.length) (hy : nar .byte x = y) {g : JFrame} (hg : g.method = m) {rest : List Value} (hs : g.stack = .int x :: .int j :: .ref a :: rest) (hd : decode c.code g.pc = .ok (.bastore, 1)) :
    ∃ T' h', Stand p l e R s m args below meth c T' (locs ++ [⟨a, i⟩]) cells slots ∧ T'.heap = h' ∧ Wr h h' a i (.int y) ∧ Al Z h' a .byte (vs.set i (.int y)) ∧ ∀ target, Steps p.tables e below (T'.setTop { g with pc := g.pc + 1, stack := rest }) target → Steps p.tables e below (T.setTop g) target := by
  have V0 := V
  obtain ⟨cl, A, r⟩ := V
  obtain ⟨T', h', X', e', W, st⟩ := stB X hx hZ eT A (al_in r hj hi hl) hg hs hd
  subst hi hy
  exact ⟨T', h', X', e', W, V0.set W, st⟩
theorem asZ (X : Stand p l e R s m args below meth c T locs cells slots) (hx : p.tables.exec = Jvm.exec) (hZ : Z.Warmed39 s.vm) (eT : T.heap = h) (V : Al Z h a .boolean vs) {j : Int32} {i : Nat} {x y : Int32} (hj : ¬ j < 0) (hi : j.toNatClampNeg = i) (hl : i < vs.length) (hy : nar .boolean x = y) {g : JFrame} (hg : g.method = m) {rest : List Value} (hs : g.stack = .int x :: .int j :: .ref a :: rest) (hd : decode c.code g.pc = .ok (.bastore, 1)) :
    ∃ T' h', Stand p l e R s m args below meth c T' (locs ++ [⟨a, i⟩]) cells slots ∧ T'.heap = h' ∧ Wr h h' a i (.int y) ∧ Al Z h' a .boolean (vs.set i (.int y)) ∧ ∀ target, Steps p.tables e below (T'.setTop { g with pc := g.pc + 1, stack := rest }) target → Steps p.tables e below (T.setTop g) target := by
  have V0 := V
  obtain ⟨cl, A, r⟩ := V
  obtain ⟨T', h', X', e', W, st⟩ := stZ X hx hZ eT A (al_in r hj hi hl) hg hs hd
  subst hi hy
  exact ⟨T', h', X', e', W, V0.set W, st⟩
theorem W.iloadN (X : Stand p l e R s m args below meth c T locs cells slots) (hx : p.tables.exec = Jvm.exec) {pc : Nat} {ls : Array Slot} {st : List Value} {pc' : Nat} {k : Fin 4} {v : Int32} (hd : decode c.code pc = .ok (.iload_n k, 1)) (hl : ls[k.val]? = some (.val (.int v))) (k : Wq p e below En Q (T.setTop (mkF m pc' ls (.int v :: st)))) (hpc : pc + 1 = pc' := by rfl) : Wq p e below En Q (T.setTop (mkF m pc ls st)) := by subst hpc; exact Wq.step (fun _ q => XS.iloadN X.here hx rfl hd hl q) k
theorem W.istoreN (X : Stand p l e R s m args below meth c T locs cells slots) (hx : p.tables.exec = Jvm.exec) {pc : Nat} {ls : Array Slot} {st : List Value} {pc' : Nat} {k : Fin 4} {x : Int32} {l' : Array Slot} (hd : decode c.code pc = .ok (.istore_n k, 1)) (hl : storeLocals ls k.val (.int x) = some l') (k : Wq p e below En Q (T.setTop (mkF m pc' l' st))) (hpc : pc + 1 = pc' := by rfl) : Wq p e below En Q (T.setTop (mkF m pc ls (.int x :: st))) := by subst hpc; exact Wq.step (fun _ q => XS.istoreN X.here hx rfl hd rfl hl q) k
theorem W.lloadN (X : Stand p l e R s m args below meth c T locs cells slots) (hx : p.tables.exec = Jvm.exec) {pc : Nat} {ls : Array Slot} {st : List Value} {pc' : Nat} {k : Fin 4} {v : Int64} (hd : decode c.code pc = .ok (.lload_n k, 1)) (hl : ls[k.val]? = some (.val (.long v))) (k : Wq p e below En Q (T.setTop (mkF m pc' ls (.long v :: st)))) (hpc : pc + 1 = pc' := by rfl) : Wq p e below En Q (T.setTop (mkF m pc ls st)) := by subst hpc; exact Wq.step (fun _ q => XS.lloadN X.here hx rfl hd hl q) k
theorem W.lstoreN (X : Stand p l e R s m args below meth c T locs cells slots) (hx : p.tables.exec = Jvm.exec) {pc : Nat} {ls : Array Slot} {st : List Value} {pc' : Nat} {k : Fin 4} {x : Int64} {l' : Array Slot} (hd : decode c.code pc = .ok (.lstore_n k, 1)) (hl : storeLocals ls k.val (.long x) = some l') (k : Wq p e below En Q (T.setTop (mkF m pc' l' st))) (hpc : pc + 1 = pc' := by rfl) : Wq p e below En Q (T.setTop (mkF m pc ls (.long x :: st))) := by subst hpc; exact Wq.step (fun _ q => XS.lstoreN X.here hx rfl hd rfl hl q) k
theorem W.aloadN (X : Stand p l e R s m args below meth c T locs cells slots) (hx : p.tables.exec = Jvm.exec) {pc : Nat} {ls : Array Slot} {st : List Value} {pc' : Nat} {k : Fin 4} {v : Value} (hd : decode c.code pc = .ok (.aload_n k, 1)) (hl : ls[k.val]? = some (.val v)) (hv : v.isRef = true) (k : Wq p e below En Q (T.setTop (mkF m pc' ls (v :: st)))) (hpc : pc + 1 = pc' := by rfl) : Wq p e below En Q (T.setTop (mkF m pc ls st)) := by subst hpc; exact Wq.step (fun _ q => XS.aloadN X.here hx rfl hd hl hv q) k
theorem W.astoreN (X : Stand p l e R s m args below meth c T locs cells slots) (hx : p.tables.exec = Jvm.exec) {pc : Nat} {ls : Array Slot} {st : List Value} {pc' : Nat} {k : Fin 4} {x : Value} {l' : Array Slot} (hd : decode c.code pc = .ok (.astore_n k, 1)) (hv : x.isRef = true) (hl : storeLocals ls k.val x = some l') (k : Wq p e below En Q (T.setTop (mkF m pc' l' st))) (hpc : pc + 1 = pc' := by rfl) : Wq p e below En Q (T.setTop (mkF m pc ls (x :: st))) := by subst hpc; exact Wq.step (fun _ q => XS.astoreN X.here hx rfl hd rfl hv hl q) k
theorem W.iload (X : Stand p l e R s m args below meth c T locs cells slots) (hx : p.tables.exec = Jvm.exec) {pc : Nat} {ls : Array Slot} {st : List Value} {pc' : Nat} {k : Nat} {v : Int32} (hd : decode c.code pc = .ok (.iload k, 2)) (hl : ls[k]? = some (.val (.int v))) (k : Wq p e below En Q (T.setTop (mkF m pc' ls (.int v :: st)))) (hpc : pc + 2 = pc' := by rfl) : Wq p e below En Q (T.setTop (mkF m pc ls st)) := by subst hpc; exact Wq.step (fun _ q => XS.iload X.here hx rfl hd hl q) k
theorem W.istore (X : Stand p l e R s m args below meth c T locs cells slots) (hx : p.tables.exec = Jvm.exec) {pc : Nat} {ls : Array Slot} {st : List Value} {pc' : Nat} {k : Nat} {x : Int32} {l' : Array Slot} (hd : decode c.code pc = .ok (.istore k, 2)) (hl : storeLocals ls k (.int x) = some l') (k : Wq p e below En Q (T.setTop (mkF m pc' l' st))) (hpc : pc + 2 = pc' := by rfl) : Wq p e below En Q (T.setTop (mkF m pc ls (.int x :: st))) := by subst hpc; exact Wq.step (fun _ q => XS.istore X.here hx rfl hd rfl hl q) k
theorem W.lload (X : Stand p l e R s m args below meth c T locs cells slots) (hx : p.tables.exec = Jvm.exec) {pc : Nat} {ls : Array Slot} {st : List Value} {pc' : Nat} {k : Nat} {v : Int64} (hd : decode c.code pc = .ok (.lload k, 2)) (hl : ls[k]? = some (.val (.long v))) (k : Wq p e below En Q (T.setTop (mkF m pc' ls (.long v :: st)))) (hpc : pc + 2 = pc' := by rfl) : Wq p e below En Q (T.setTop (mkF m pc ls st)) := by subst hpc; exact Wq.step (fun _ q => XS.lload X.here hx rfl hd hl q) k
theorem W.lstore (X : Stand p l e R s m args below meth c T locs cells slots) (hx : p.tables.exec = Jvm.exec) {pc : Nat} {ls : Array Slot} {st : List Value} {pc' : Nat} {k : Nat} {x : Int64} {l' : Array Slot} (hd : decode c.code pc = .ok (.lstore k, 2)) (hl : storeLocals ls k (.long x) = some l') (k : Wq p e below En Q (T.setTop (mkF m pc' l' st))) (hpc : pc + 2 = pc' := by rfl) : Wq p e below En Q (T.setTop (mkF m pc ls (.long x :: st))) := by subst hpc; exact Wq.step (fun _ q => XS.lstore X.here hx rfl hd rfl hl q) k
theorem W.aload (X : Stand p l e R s m args below meth c T locs cells slots) (hx : p.tables.exec = Jvm.exec) {pc : Nat} {ls : Array Slot} {st : List Value} {pc' : Nat} {k : Nat} {v : Value} (hd : decode c.code pc = .ok (.aload k, 2)) (hl : ls[k]? = some (.val v)) (hv : v.isRef = true) (k : Wq p e below En Q (T.setTop (mkF m pc' ls (v :: st)))) (hpc : pc + 2 = pc' := by rfl) : Wq p e below En Q (T.setTop (mkF m pc ls st)) := by subst hpc; exact Wq.step (fun _ q => XS.aload X.here hx rfl hd hl hv q) k
theorem W.astore (X : Stand p l e R s m args below meth c T locs cells slots) (hx : p.tables.exec = Jvm.exec) {pc : Nat} {ls : Array Slot} {st : List Value} {pc' : Nat} {k : Nat} {x : Value} {l' : Array Slot} (hd : decode c.code pc = .ok (.astore k, 2)) (hv : x.isRef = true) (hl : storeLocals ls k x = some l') (k : Wq p e below En Q (T.setTop (mkF m pc' l' st))) (hpc : pc + 2 = pc' := by rfl) : Wq p e below En Q (T.setTop (mkF m pc ls (x :: st))) := by subst hpc; exact Wq.step (fun _ q => XS.astore X.here hx rfl hd rfl hv hl q) k
theorem W.istoreNS (X : Stand p l e R s m args below meth c T locs cells slots) (hx : p.tables.exec = Jvm.exec) {pc pc' : Nat} {ls : Array Slot} {st : List Value} {k : Fin 4} {x : Int32} {o : Slot} {l' : Array Slot} (hd : decode c.code pc = .ok (.istore_n k, 1)) (hold : ls[k.val]? = some o) (ho : o = .unset ∨ ∃ w, o = .val w ∧ w.category = 1) (hl : ls.setIfInBounds k.val (.val (.int x)) = l') (q : Wq p e below En Q (T.setTop (mkF m pc' l' st))) (hpc : pc + 1 = pc' := by rfl) : Wq p e below En Q (T.setTop (mkF m pc ls (.int x :: st))) := by
  subst hpc hl
  exact Wq.step (fun _ z => XS.istoreN X.here hx rfl hd rfl (XS.store1 hold ho rfl) z) q
theorem W.istoreS (X : Stand p l e R s m args below meth c T locs cells slots) (hx : p.tables.exec = Jvm.exec) {pc pc' : Nat} {ls : Array Slot} {st : List Value} {k : Nat} {x : Int32} {o : Slot} {l' : Array Slot} (hd : decode c.code pc = .ok (.istore k, 2)) (hold : ls[k]? = some o) (ho : o = .unset ∨ ∃ w, o = .val w ∧ w.category = 1) (hl : ls.setIfInBounds k (.val (.int x)) = l') (q : Wq p e below En Q (T.setTop (mkF m pc' l' st))) (hpc : pc + 2 = pc' := by rfl) : Wq p e below En Q (T.setTop (mkF m pc ls (.int x :: st))) := by
  subst hpc hl
  exact Wq.step (fun _ z => XS.istore X.here hx rfl hd rfl (XS.store1 hold ho rfl) z) q
theorem W.iconst (X : Stand p l e R s m args below meth c T locs cells slots) (hx : p.tables.exec = Jvm.exec) {pc : Nat} {ls : Array Slot} {st : List Value} {pc' : Nat} {i : Int} {z : Int32} (hd : decode c.code pc = .ok (.iconst i, 1)) (hz : Int32.ofInt i = z) (k : Wq p e below En Q (T.setTop (mkF m pc' ls (.int z :: st)))) (hpc : pc + 1 = pc' := by rfl) : Wq p e below En Q (T.setTop (mkF m pc ls st)) := by subst hz hpc; exact Wq.step (fun _ q => XS.iconst X.here hx rfl hd  q) k
theorem W.bipush (X : Stand p l e R s m args below meth c T locs cells slots) (hx : p.tables.exec = Jvm.exec) {pc : Nat} {ls : Array Slot} {st : List Value} {pc' : Nat} {i : Int} {z : Int32} (hd : decode c.code pc = .ok (.bipush i, 2)) (hz : (Int8.ofInt i).toInt32 = z) (k : Wq p e below En Q (T.setTop (mkF m pc' ls (.int z :: st)))) (hpc : pc + 2 = pc' := by rfl) : Wq p e below En Q (T.setTop (mkF m pc ls st)) := by subst hz hpc; exact Wq.step (fun _ q => XS.bipush X.here hx rfl hd  q) k
theorem W.sipush (X : Stand p l e R s m args below meth c T locs cells slots) (hx : p.tables.exec = Jvm.exec) {pc : Nat} {ls : Array Slot} {st : List Value} {pc' : Nat} {i : Int} {z : Int32} (hd : decode c.code pc = .ok (.sipush i, 3)) (hz : (Int16.ofInt i).toInt32 = z) (k : Wq p e below En Q (T.setTop (mkF m pc' ls (.int z :: st)))) (hpc : pc + 3 = pc' := by rfl) : Wq p e below En Q (T.setTop (mkF m pc ls st)) := by subst hz hpc; exact Wq.step (fun _ q => XS.sipush X.here hx rfl hd  q) k
theorem W.lconst (X : Stand p l e R s m args below meth c T locs cells slots) (hx : p.tables.exec = Jvm.exec) {pc : Nat} {ls : Array Slot} {st : List Value} {pc' : Nat} {i : Fin 2} {z : Int64} (hd : decode c.code pc = .ok (.lconst i, 1)) (hz : Int64.ofNat i = z) (k : Wq p e below En Q (T.setTop (mkF m pc' ls (.long z :: st)))) (hpc : pc + 1 = pc' := by rfl) : Wq p e below En Q (T.setTop (mkF m pc ls st)) := by subst hz hpc; exact Wq.step (fun _ q => XS.lconst X.here hx rfl hd  q) k
theorem W.aconstNull (X : Stand p l e R s m args below meth c T locs cells slots) (hx : p.tables.exec = Jvm.exec) {pc : Nat} {ls : Array Slot} {st : List Value} {pc' : Nat}  (hd : decode c.code pc = .ok (.aconst_null, 1))  (k : Wq p e below En Q (T.setTop (mkF m pc' ls (.null :: st)))) (hpc : pc + 1 = pc' := by rfl) : Wq p e below En Q (T.setTop (mkF m pc ls st)) := by subst hpc; exact Wq.step (fun _ q => XS.aconstNull X.here hx rfl hd  q) k
theorem W.iadd (X : Stand p l e R s m args below meth c T locs cells slots) (hx : p.tables.exec = Jvm.exec) {pc : Nat} {ls : Array Slot} {st : List Value} {pc' : Nat} {x y z : Int32} (hd : decode c.code pc = .ok (.iadd, 1)) (hz : x + y = z) (k : Wq p e below En Q (T.setTop (mkF m pc' ls (.int z :: st)))) (hpc : pc + 1 = pc' := by rfl) : Wq p e below En Q (T.setTop (mkF m pc ls (.int y :: .int x :: st))) := by subst hz hpc; exact Wq.step (fun _ q => XS.iadd X.here hx rfl hd rfl q) k
theorem W.ladd (X : Stand p l e R s m args below meth c T locs cells slots) (hx : p.tables.exec = Jvm.exec) {pc : Nat} {ls : Array Slot} {st : List Value} {pc' : Nat} {x y z : Int64} (hd : decode c.code pc = .ok (.ladd, 1)) (hz : x + y = z) (k : Wq p e below En Q (T.setTop (mkF m pc' ls (.long z :: st)))) (hpc : pc + 1 = pc' := by rfl) : Wq p e below En Q (T.setTop (mkF m pc ls (.long y :: .long x :: st))) := by subst hz hpc; exact Wq.step (fun _ q => XS.ladd X.here hx rfl hd rfl q) k
theorem W.isub (X : Stand p l e R s m args below meth c T locs cells slots) (hx : p.tables.exec = Jvm.exec) {pc : Nat} {ls : Array Slot} {st : List Value} {pc' : Nat} {x y z : Int32} (hd : decode c.code pc = .ok (.isub, 1)) (hz : x - y = z) (k : Wq p e below En Q (T.setTop (mkF m pc' ls (.int z :: st)))) (hpc : pc + 1 = pc' := by rfl) : Wq p e below En Q (T.setTop (mkF m pc ls (.int y :: .int x :: st))) := by subst hz hpc; exact Wq.step (fun _ q => XS.isub X.here hx rfl hd rfl q) k
theorem W.lsub (X : Stand p l e R s m args below meth c T locs cells slots) (hx : p.tables.exec = Jvm.exec) {pc : Nat} {ls : Array Slot} {st : List Value} {pc' : Nat} {x y z : Int64} (hd : decode c.code pc = .ok (.lsub, 1)) (hz : x - y = z) (k : Wq p e below En Q (T.setTop (mkF m pc' ls (.long z :: st)))) (hpc : pc + 1 = pc' := by rfl) : Wq p e below En Q (T.setTop (mkF m pc ls (.long y :: .long x :: st))) := by subst hz hpc; exact Wq.step (fun _ q => XS.lsub X.here hx rfl hd rfl q) k
theorem W.imul (X : Stand p l e R s m args below meth c T locs cells slots) (hx : p.tables.exec = Jvm.exec) {pc : Nat} {ls : Array Slot} {st : List Value} {pc' : Nat} {x y z : Int32} (hd : decode c.code pc = .ok (.imul, 1)) (hz : x * y = z) (k : Wq p e below En Q (T.setTop (mkF m pc' ls (.int z :: st)))) (hpc : pc + 1 = pc' := by rfl) : Wq p e below En Q (T.setTop (mkF m pc ls (.int y :: .int x :: st))) := by subst hz hpc; exact Wq.step (fun _ q => XS.imul X.here hx rfl hd rfl q) k
theorem W.lmul (X : Stand p l e R s m args below meth c T locs cells slots) (hx : p.tables.exec = Jvm.exec) {pc : Nat} {ls : Array Slot} {st : List Value} {pc' : Nat} {x y z : Int64} (hd : decode c.code pc = .ok (.lmul, 1)) (hz : x * y = z) (k : Wq p e below En Q (T.setTop (mkF m pc' ls (.long z :: st)))) (hpc : pc + 1 = pc' := by rfl) : Wq p e below En Q (T.setTop (mkF m pc ls (.long y :: .long x :: st))) := by subst hz hpc; exact Wq.step (fun _ q => XS.lmul X.here hx rfl hd rfl q) k
theorem W.iand (X : Stand p l e R s m args below meth c T locs cells slots) (hx : p.tables.exec = Jvm.exec) {pc : Nat} {ls : Array Slot} {st : List Value} {pc' : Nat} {x y z : Int32} (hd : decode c.code pc = .ok (.iand, 1)) (hz : x &&& y = z) (k : Wq p e below En Q (T.setTop (mkF m pc' ls (.int z :: st)))) (hpc : pc + 1 = pc' := by rfl) : Wq p e below En Q (T.setTop (mkF m pc ls (.int y :: .int x :: st))) := by subst hz hpc; exact Wq.step (fun _ q => XS.iand X.here hx rfl hd rfl q) k
theorem W.land (X : Stand p l e R s m args below meth c T locs cells slots) (hx : p.tables.exec = Jvm.exec) {pc : Nat} {ls : Array Slot} {st : List Value} {pc' : Nat} {x y z : Int64} (hd : decode c.code pc = .ok (.land, 1)) (hz : x &&& y = z) (k : Wq p e below En Q (T.setTop (mkF m pc' ls (.long z :: st)))) (hpc : pc + 1 = pc' := by rfl) : Wq p e below En Q (T.setTop (mkF m pc ls (.long y :: .long x :: st))) := by subst hz hpc; exact Wq.step (fun _ q => XS.land X.here hx rfl hd rfl q) k
theorem W.ior (X : Stand p l e R s m args below meth c T locs cells slots) (hx : p.tables.exec = Jvm.exec) {pc : Nat} {ls : Array Slot} {st : List Value} {pc' : Nat} {x y z : Int32} (hd : decode c.code pc = .ok (.ior, 1)) (hz : x ||| y = z) (k : Wq p e below En Q (T.setTop (mkF m pc' ls (.int z :: st)))) (hpc : pc + 1 = pc' := by rfl) : Wq p e below En Q (T.setTop (mkF m pc ls (.int y :: .int x :: st))) := by subst hz hpc; exact Wq.step (fun _ q => XS.ior X.here hx rfl hd rfl q) k
theorem W.lor (X : Stand p l e R s m args below meth c T locs cells slots) (hx : p.tables.exec = Jvm.exec) {pc : Nat} {ls : Array Slot} {st : List Value} {pc' : Nat} {x y z : Int64} (hd : decode c.code pc = .ok (.lor, 1)) (hz : x ||| y = z) (k : Wq p e below En Q (T.setTop (mkF m pc' ls (.long z :: st)))) (hpc : pc + 1 = pc' := by rfl) : Wq p e below En Q (T.setTop (mkF m pc ls (.long y :: .long x :: st))) := by subst hz hpc; exact Wq.step (fun _ q => XS.lor X.here hx rfl hd rfl q) k
theorem W.ixor (X : Stand p l e R s m args below meth c T locs cells slots) (hx : p.tables.exec = Jvm.exec) {pc : Nat} {ls : Array Slot} {st : List Value} {pc' : Nat} {x y z : Int32} (hd : decode c.code pc = .ok (.ixor, 1)) (hz : x ^^^ y = z) (k : Wq p e below En Q (T.setTop (mkF m pc' ls (.int z :: st)))) (hpc : pc + 1 = pc' := by rfl) : Wq p e below En Q (T.setTop (mkF m pc ls (.int y :: .int x :: st))) := by subst hz hpc; exact Wq.step (fun _ q => XS.ixor X.here hx rfl hd rfl q) k
theorem W.lxor (X : Stand p l e R s m args below meth c T locs cells slots) (hx : p.tables.exec = Jvm.exec) {pc : Nat} {ls : Array Slot} {st : List Value} {pc' : Nat} {x y z : Int64} (hd : decode c.code pc = .ok (.lxor, 1)) (hz : x ^^^ y = z) (k : Wq p e below En Q (T.setTop (mkF m pc' ls (.long z :: st)))) (hpc : pc + 1 = pc' := by rfl) : Wq p e below En Q (T.setTop (mkF m pc ls (.long y :: .long x :: st))) := by subst hz hpc; exact Wq.step (fun _ q => XS.lxor X.here hx rfl hd rfl q) k
theorem W.ineg (X : Stand p l e R s m args below meth c T locs cells slots) (hx : p.tables.exec = Jvm.exec) {pc : Nat} {ls : Array Slot} {st : List Value} {pc' : Nat} {x : Int32} {z : Int32} (hd : decode c.code pc = .ok (.ineg, 1)) (hz : -x = z) (k : Wq p e below En Q (T.setTop (mkF m pc' ls (.int z :: st)))) (hpc : pc + 1 = pc' := by rfl) : Wq p e below En Q (T.setTop (mkF m pc ls (.int x :: st))) := by subst hz hpc; exact Wq.step (fun _ q => XS.ineg X.here hx rfl hd rfl q) k
theorem W.lneg (X : Stand p l e R s m args below meth c T locs cells slots) (hx : p.tables.exec = Jvm.exec) {pc : Nat} {ls : Array Slot} {st : List Value} {pc' : Nat} {x : Int64} {z : Int64} (hd : decode c.code pc = .ok (.lneg, 1)) (hz : -x = z) (k : Wq p e below En Q (T.setTop (mkF m pc' ls (.long z :: st)))) (hpc : pc + 1 = pc' := by rfl) : Wq p e below En Q (T.setTop (mkF m pc ls (.long x :: st))) := by subst hz hpc; exact Wq.step (fun _ q => XS.lneg X.here hx rfl hd rfl q) k
theorem W.i2l (X : Stand p l e R s m args below meth c T locs cells slots) (hx : p.tables.exec = Jvm.exec) {pc : Nat} {ls : Array Slot} {st : List Value} {pc' : Nat} {x : Int32} {z : Int64} (hd : decode c.code pc = .ok (.i2l, 1)) (hz : x.toInt64 = z) (k : Wq p e below En Q (T.setTop (mkF m pc' ls (.long z :: st)))) (hpc : pc + 1 = pc' := by rfl) : Wq p e below En Q (T.setTop (mkF m pc ls (.int x :: st))) := by subst hz hpc; exact Wq.step (fun _ q => XS.i2l X.here hx rfl hd rfl q) k
theorem W.l2i (X : Stand p l e R s m args below meth c T locs cells slots) (hx : p.tables.exec = Jvm.exec) {pc : Nat} {ls : Array Slot} {st : List Value} {pc' : Nat} {x : Int64} {z : Int32} (hd : decode c.code pc = .ok (.l2i, 1)) (hz : x.toInt32 = z) (k : Wq p e below En Q (T.setTop (mkF m pc' ls (.int z :: st)))) (hpc : pc + 1 = pc' := by rfl) : Wq p e below En Q (T.setTop (mkF m pc ls (.long x :: st))) := by subst hz hpc; exact Wq.step (fun _ q => XS.l2i X.here hx rfl hd rfl q) k
theorem W.i2b (X : Stand p l e R s m args below meth c T locs cells slots) (hx : p.tables.exec = Jvm.exec) {pc : Nat} {ls : Array Slot} {st : List Value} {pc' : Nat} {x : Int32} {z : Int32} (hd : decode c.code pc = .ok (.i2b, 1)) (hz : x.toInt8.toInt32 = z) (k : Wq p e below En Q (T.setTop (mkF m pc' ls (.int z :: st)))) (hpc : pc + 1 = pc' := by rfl) : Wq p e below En Q (T.setTop (mkF m pc ls (.int x :: st))) := by subst hz hpc; exact Wq.step (fun _ q => XS.i2b X.here hx rfl hd rfl q) k
theorem W.i2s (X : Stand p l e R s m args below meth c T locs cells slots) (hx : p.tables.exec = Jvm.exec) {pc : Nat} {ls : Array Slot} {st : List Value} {pc' : Nat} {x : Int32} {z : Int32} (hd : decode c.code pc = .ok (.i2s, 1)) (hz : x.toInt16.toInt32 = z) (k : Wq p e below En Q (T.setTop (mkF m pc' ls (.int z :: st)))) (hpc : pc + 1 = pc' := by rfl) : Wq p e below En Q (T.setTop (mkF m pc ls (.int x :: st))) := by subst hz hpc; exact Wq.step (fun _ q => XS.i2s X.here hx rfl hd rfl q) k
theorem W.i2c (X : Stand p l e R s m args below meth c T locs cells slots) (hx : p.tables.exec = Jvm.exec) {pc : Nat} {ls : Array Slot} {st : List Value} {pc' : Nat} {x : Int32} {z : Int32} (hd : decode c.code pc = .ok (.i2c, 1)) (hz : x.toUInt32.toUInt16.toUInt32.toInt32 = z) (k : Wq p e below En Q (T.setTop (mkF m pc' ls (.int z :: st)))) (hpc : pc + 1 = pc' := by rfl) : Wq p e below En Q (T.setTop (mkF m pc ls (.int x :: st))) := by subst hz hpc; exact Wq.step (fun _ q => XS.i2c X.here hx rfl hd rfl q) k
theorem W.ishl (X : Stand p l e R s m args below meth c T locs cells slots) (hx : p.tables.exec = Jvm.exec) {pc : Nat} {ls : Array Slot} {st : List Value} {pc' : Nat} {x : Int32} {y : Int32} {z : Int32} (hd : decode c.code pc = .ok (.ishl, 1)) (hz : x <<< (y &&& 31) = z) (k : Wq p e below En Q (T.setTop (mkF m pc' ls (.int z :: st)))) (hpc : pc + 1 = pc' := by rfl) : Wq p e below En Q (T.setTop (mkF m pc ls (.int y :: .int x :: st))) := by subst hz hpc; exact Wq.step (fun _ q => XS.ishl X.here hx rfl hd rfl q) k
theorem W.ishr (X : Stand p l e R s m args below meth c T locs cells slots) (hx : p.tables.exec = Jvm.exec) {pc : Nat} {ls : Array Slot} {st : List Value} {pc' : Nat} {x : Int32} {y : Int32} {z : Int32} (hd : decode c.code pc = .ok (.ishr, 1)) (hz : x >>> (y &&& 31) = z) (k : Wq p e below En Q (T.setTop (mkF m pc' ls (.int z :: st)))) (hpc : pc + 1 = pc' := by rfl) : Wq p e below En Q (T.setTop (mkF m pc ls (.int y :: .int x :: st))) := by subst hz hpc; exact Wq.step (fun _ q => XS.ishr X.here hx rfl hd rfl q) k
theorem W.iushr (X : Stand p l e R s m args below meth c T locs cells slots) (hx : p.tables.exec = Jvm.exec) {pc : Nat} {ls : Array Slot} {st : List Value} {pc' : Nat} {x : Int32} {y : Int32} {z : Int32} (hd : decode c.code pc = .ok (.iushr, 1)) (hz : (x.toUInt32 >>> (y &&& 31).toUInt32).toInt32 = z) (k : Wq p e below En Q (T.setTop (mkF m pc' ls (.int z :: st)))) (hpc : pc + 1 = pc' := by rfl) : Wq p e below En Q (T.setTop (mkF m pc ls (.int y :: .int x :: st))) := by subst hz hpc; exact Wq.step (fun _ q => XS.iushr X.here hx rfl hd rfl q) k
theorem W.lshl (X : Stand p l e R s m args below meth c T locs cells slots) (hx : p.tables.exec = Jvm.exec) {pc : Nat} {ls : Array Slot} {st : List Value} {pc' : Nat} {x : Int64} {y : Int32} {z : Int64} (hd : decode c.code pc = .ok (.lshl, 1)) (hz : x <<< (y &&& 0x3f).toInt64 = z) (k : Wq p e below En Q (T.setTop (mkF m pc' ls (.long z :: st)))) (hpc : pc + 1 = pc' := by rfl) : Wq p e below En Q (T.setTop (mkF m pc ls (.int y :: .long x :: st))) := by subst hz hpc; exact Wq.step (fun _ q => XS.lshl X.here hx rfl hd rfl q) k
theorem W.lshr (X : Stand p l e R s m args below meth c T locs cells slots) (hx : p.tables.exec = Jvm.exec) {pc : Nat} {ls : Array Slot} {st : List Value} {pc' : Nat} {x : Int64} {y : Int32} {z : Int64} (hd : decode c.code pc = .ok (.lshr, 1)) (hz : x >>> (y &&& 0x3f).toInt64 = z) (k : Wq p e below En Q (T.setTop (mkF m pc' ls (.long z :: st)))) (hpc : pc + 1 = pc' := by rfl) : Wq p e below En Q (T.setTop (mkF m pc ls (.int y :: .long x :: st))) := by subst hz hpc; exact Wq.step (fun _ q => XS.lshr X.here hx rfl hd rfl q) k
theorem W.lushr (X : Stand p l e R s m args below meth c T locs cells slots) (hx : p.tables.exec = Jvm.exec) {pc : Nat} {ls : Array Slot} {st : List Value} {pc' : Nat} {x : Int64} {y : Int32} {z : Int64} (hd : decode c.code pc = .ok (.lushr, 1)) (hz : (x.toUInt64 >>> (y &&& 0x3f).toInt64.toUInt64).toInt64 = z) (k : Wq p e below En Q (T.setTop (mkF m pc' ls (.long z :: st)))) (hpc : pc + 1 = pc' := by rfl) : Wq p e below En Q (T.setTop (mkF m pc ls (.int y :: .long x :: st))) := by subst hz hpc; exact Wq.step (fun _ q => XS.lushr X.here hx rfl hd rfl q) k
theorem W.lcmp (X : Stand p l e R s m args below meth c T locs cells slots) (hx : p.tables.exec = Jvm.exec) {pc : Nat} {ls : Array Slot} {st : List Value} {pc' : Nat} {x y : Int64} (hd : decode c.code pc = .ok (.lcmp, 1))  (k : Wq p e below En Q (T.setTop (mkF m pc' ls (.int (lcmpW x y) :: st)))) (hpc : pc + 1 = pc' := by rfl) : Wq p e below En Q (T.setTop (mkF m pc ls (.long y :: .long x :: st))) := by subst hpc; exact Wq.step (fun _ q => XS.lcmp X.here hx rfl hd rfl q) k
theorem W.idiv (X : Stand p l e R s m args below meth c T locs cells slots) (hx : p.tables.exec = Jvm.exec) {pc : Nat} {ls : Array Slot} {st : List Value} {pc' : Nat} {x y z : Int32} (hd : decode c.code pc = .ok (.idiv, 1)) (hy : y ≠ 0) (hz : x / y = z) (k : Wq p e below En Q (T.setTop (mkF m pc' ls (.int z :: st)))) (hpc : pc + 1 = pc' := by rfl) : Wq p e below En Q (T.setTop (mkF m pc ls (.int y :: .int x :: st))) := by subst hz hpc; exact Wq.step (fun _ q => XS.idiv X.here hx rfl hd rfl hy q) k
theorem W.ldiv (X : Stand p l e R s m args below meth c T locs cells slots) (hx : p.tables.exec = Jvm.exec) {pc : Nat} {ls : Array Slot} {st : List Value} {pc' : Nat} {x y z : Int64} (hd : decode c.code pc = .ok (.ldiv, 1)) (hy : y ≠ 0) (hz : x / y = z) (k : Wq p e below En Q (T.setTop (mkF m pc' ls (.long z :: st)))) (hpc : pc + 1 = pc' := by rfl) : Wq p e below En Q (T.setTop (mkF m pc ls (.long y :: .long x :: st))) := by subst hz hpc; exact Wq.step (fun _ q => XS.ldiv X.here hx rfl hd rfl hy q) k
theorem W.irem (X : Stand p l e R s m args below meth c T locs cells slots) (hx : p.tables.exec = Jvm.exec) {pc : Nat} {ls : Array Slot} {st : List Value} {pc' : Nat} {x y z : Int32} (hd : decode c.code pc = .ok (.irem, 1)) (hy : y ≠ 0) (hz : x % y = z) (k : Wq p e below En Q (T.setTop (mkF m pc' ls (.int z :: st)))) (hpc : pc + 1 = pc' := by rfl) : Wq p e below En Q (T.setTop (mkF m pc ls (.int y :: .int x :: st))) := by subst hz hpc; exact Wq.step (fun _ q => iremM X hx rfl hd rfl hy q) k
theorem W.lrem (X : Stand p l e R s m args below meth c T locs cells slots) (hx : p.tables.exec = Jvm.exec) {pc : Nat} {ls : Array Slot} {st : List Value} {pc' : Nat} {x y z : Int64} (hd : decode c.code pc = .ok (.lrem, 1)) (hy : y ≠ 0) (hz : x % y = z) (k : Wq p e below En Q (T.setTop (mkF m pc' ls (.long z :: st)))) (hpc : pc + 1 = pc' := by rfl) : Wq p e below En Q (T.setTop (mkF m pc ls (.long y :: .long x :: st))) := by
  rw [← lrem_mod] at hz
  subst hz hpc
  exact Wq.step (fun _ q => XS.lrem X.here hx rfl hd rfl hy q) k
theorem W.iinc (X : Stand p l e R s m args below meth c T locs cells slots) (hx : p.tables.exec = Jvm.exec) {pc : Nat} {ls : Array Slot} {st : List Value} {pc' : Nat} {i : Nat} {cst : Int} {x z : Int32} {l' : Array Slot} (hd : decode c.code pc = .ok (.iinc i cst, 3)) (hl : ls[i]? = some (.val (.int x))) (hl' : storeLocals ls i (.int (x + Int32.ofInt cst)) = some l') (k : Wq p e below En Q (T.setTop (mkF m pc' l' st))) (hpc : pc + 3 = pc' := by rfl) : Wq p e below En Q (T.setTop (mkF m pc ls st)) := by subst hpc; exact Wq.step (fun _ q => XS.iinc X.here hx rfl hd hl hl' q) k
theorem W.dup (X : Stand p l e R s m args below meth c T locs cells slots) (hx : p.tables.exec = Jvm.exec) {pc : Nat} {ls : Array Slot} {st : List Value} {pc' : Nat} {x : Value} (hd : decode c.code pc = .ok (.dup, 1)) (hc : x.category = 1) (k : Wq p e below En Q (T.setTop (mkF m pc' ls (x :: x :: st)))) (hpc : pc + 1 = pc' := by rfl) : Wq p e below En Q (T.setTop (mkF m pc ls (x :: st))) := by subst hpc; exact Wq.step (fun _ q => XS.dup X.here hx rfl hd rfl hc q) k
theorem W.pop (X : Stand p l e R s m args below meth c T locs cells slots) (hx : p.tables.exec = Jvm.exec) {pc : Nat} {ls : Array Slot} {st : List Value} {pc' : Nat} {x : Value} (hd : decode c.code pc = .ok (.pop, 1)) (hc : x.category = 1) (k : Wq p e below En Q (T.setTop (mkF m pc' ls st))) (hpc : pc + 1 = pc' := by rfl) : Wq p e below En Q (T.setTop (mkF m pc ls (x :: st))) := by subst hpc; exact Wq.step (fun _ q => XS.pop X.here hx rfl hd rfl hc q) k
theorem W.dupX1 (X : Stand p l e R s m args below meth c T locs cells slots) (hx : p.tables.exec = Jvm.exec) {pc : Nat} {ls : Array Slot} {st : List Value} {pc' : Nat} {x y : Value} (hd : decode c.code pc = .ok (.dup_x1, 1)) (hc : x.category = 1) (hc' : y.category = 1) (k : Wq p e below En Q (T.setTop (mkF m pc' ls (x :: y :: x :: st)))) (hpc : pc + 1 = pc' := by rfl) : Wq p e below En Q (T.setTop (mkF m pc ls (x :: y :: st))) := by subst hpc; exact Wq.step (fun _ q => XS.dupX1 X.here hx rfl hd rfl hc hc' q) k
theorem W.swap (X : Stand p l e R s m args below meth c T locs cells slots) (hx : p.tables.exec = Jvm.exec) {pc : Nat} {ls : Array Slot} {st : List Value} {pc' : Nat} {x y : Value} (hd : decode c.code pc = .ok (.swap, 1)) (hc : x.category = 1) (hc' : y.category = 1) (k : Wq p e below En Q (T.setTop (mkF m pc' ls (y :: x :: st)))) (hpc : pc + 1 = pc' := by rfl) : Wq p e below En Q (T.setTop (mkF m pc ls (x :: y :: st))) := by subst hpc; exact Wq.step (fun _ q => XS.swap X.here hx rfl hd rfl hc hc' q) k
theorem W.dup2 (X : Stand p l e R s m args below meth c T locs cells slots) (hx : p.tables.exec = Jvm.exec) {pc : Nat} {ls : Array Slot} {st : List Value} {pc' : Nat} {x y : Value} (hd : decode c.code pc = .ok (.dup2, 1)) (hc : x.category = 1) (hc' : y.category = 1) (k : Wq p e below En Q (T.setTop (mkF m pc' ls (x :: y :: x :: y :: st)))) (hpc : pc + 1 = pc' := by rfl) : Wq p e below En Q (T.setTop (mkF m pc ls (x :: y :: st))) := by subst hpc; exact Wq.step (fun _ q => Jvm.Free.XT.dup2 X.here hx rfl hd rfl hc hc' q) k
theorem W.dup2L (X : Stand p l e R s m args below meth c T locs cells slots) (hx : p.tables.exec = Jvm.exec) {pc : Nat} {ls : Array Slot} {st : List Value} {pc' : Nat} {x : Int64} (hd : decode c.code pc = .ok (.dup2, 1))  (k : Wq p e below En Q (T.setTop (mkF m pc' ls (.long x :: .long x :: st)))) (hpc : pc + 1 = pc' := by rfl) : Wq p e below En Q (T.setTop (mkF m pc ls (.long x :: st))) := by subst hpc; exact Wq.step (fun _ q => Jvm.Free.XT.dup2L X.here hx rfl hd rfl q) k
theorem W.goto (X : Stand p l e R s m args below meth c T locs cells slots) (hx : p.tables.exec = Jvm.exec) {pc : Nat} {ls : Array Slot} {st : List Value} {o : Int} {pc' : Nat} (hd : decode c.code pc = .ok (.goto o, 3)) (ho : 0 ≤ (pc : Int) + o) (hp : ((pc : Int) + o).toNat = pc') (k : Wq p e below En Q (T.setTop (mkF m pc' ls st))) : Wq p e below En Q (T.setTop (mkF m pc ls st)) := Wq.step (fun _ q => XS.goto X.here hx rfl rfl hd ho hp q) k
theorem W.ifYes (X : Stand p l e R s m args below meth c T locs cells slots) (hx : p.tables.exec = Jvm.exec) {pc : Nat} {ls : Array Slot} {st : List Value} {cd : ClassFile.Cond} {x : Int32} {o : Int} {pc' : Nat} (hd : decode c.code pc = .ok (.ifCond cd o, 3)) (hc : ifCond.holds cd x = true) (ho : 0 ≤ (pc : Int) + o) (hp : ((pc : Int) + o).toNat = pc') (k : Wq p e below En Q (T.setTop (mkF m pc' ls st))) : Wq p e below En Q (T.setTop (mkF m pc ls (.int x :: st))) := Wq.step (fun _ q => XS.ifYes X.here hx rfl rfl hd rfl hc ho hp q) k
theorem W.ifNo (X : Stand p l e R s m args below meth c T locs cells slots) (hx : p.tables.exec = Jvm.exec) {pc : Nat} {ls : Array Slot} {st : List Value} {pc' : Nat} {cd : ClassFile.Cond} {x : Int32} {o : Int} (hd : decode c.code pc = .ok (.ifCond cd o, 3)) (hc : ifCond.holds cd x = false) (k : Wq p e below En Q (T.setTop (mkF m pc' ls st))) (hpc : pc + 3 = pc' := by rfl) : Wq p e below En Q (T.setTop (mkF m pc ls (.int x :: st))) := by subst hpc; exact Wq.step (fun _ q => XS.ifNo X.here hx rfl hd rfl hc q) k
theorem W.icmpYes (X : Stand p l e R s m args below meth c T locs cells slots) (hx : p.tables.exec = Jvm.exec) {pc : Nat} {ls : Array Slot} {st : List Value} {cd : ClassFile.Cond} {x y : Int32} {o : Int} {pc' : Nat} (hd : decode c.code pc = .ok (.if_icmp cd o, 3)) (hc : if_icmp.holds cd x y = true) (ho : 0 ≤ (pc : Int) + o) (hp : ((pc : Int) + o).toNat = pc') (k : Wq p e below En Q (T.setTop (mkF m pc' ls st))) : Wq p e below En Q (T.setTop (mkF m pc ls (.int y :: .int x :: st))) := Wq.step (fun _ q => XS.icmpYes X.here hx rfl rfl hd rfl hc ho hp q) k
theorem W.icmpNo (X : Stand p l e R s m args below meth c T locs cells slots) (hx : p.tables.exec = Jvm.exec) {pc : Nat} {ls : Array Slot} {st : List Value} {pc' : Nat} {cd : ClassFile.Cond} {x y : Int32} {o : Int} (hd : decode c.code pc = .ok (.if_icmp cd o, 3)) (hc : if_icmp.holds cd x y = false) (k : Wq p e below En Q (T.setTop (mkF m pc' ls st))) (hpc : pc + 3 = pc' := by rfl) : Wq p e below En Q (T.setTop (mkF m pc ls (.int y :: .int x :: st))) := by subst hpc; exact Wq.step (fun _ q => XS.icmpNo X.here hx rfl hd rfl hc q) k
theorem W.ifnullYes (X : Stand p l e R s m args below meth c T locs cells slots) (hx : p.tables.exec = Jvm.exec) {pc : Nat} {ls : Array Slot} {st : List Value} {o : Int} {pc' : Nat} (hd : decode c.code pc = .ok (.ifnull o, 3)) (ho : 0 ≤ (pc : Int) + o) (hp : ((pc : Int) + o).toNat = pc') (k : Wq p e below En Q (T.setTop (mkF m pc' ls st))) : Wq p e below En Q (T.setTop (mkF m pc ls (.null :: st))) := Wq.step (fun _ q => XS.ifnullYes X.here hx rfl rfl hd rfl ho hp q) k
theorem W.ifnullNo (X : Stand p l e R s m args below meth c T locs cells slots) (hx : p.tables.exec = Jvm.exec) {pc : Nat} {ls : Array Slot} {st : List Value} {pc' : Nat} {o : Int} {b : Addr} (hd : decode c.code pc = .ok (.ifnull o, 3))  (k : Wq p e below En Q (T.setTop (mkF m pc' ls st))) (hpc : pc + 3 = pc' := by rfl) : Wq p e below En Q (T.setTop (mkF m pc ls (.ref b :: st))) := by subst hpc; exact Wq.step (fun _ q => XS.ifnullNo X.here hx rfl hd rfl q) k
theorem W.ifnonnullYes (X : Stand p l e R s m args below meth c T locs cells slots) (hx : p.tables.exec = Jvm.exec) {pc : Nat} {ls : Array Slot} {st : List Value} {o : Int} {b : Addr} {pc' : Nat} (hd : decode c.code pc = .ok (.ifnonnull o, 3)) (ho : 0 ≤ (pc : Int) + o) (hp : ((pc : Int) + o).toNat = pc') (k : Wq p e below En Q (T.setTop (mkF m pc' ls st))) : Wq p e below En Q (T.setTop (mkF m pc ls (.ref b :: st))) := Wq.step (fun _ q => XS.ifnonnullYes X.here hx rfl rfl hd rfl ho hp q) k
theorem W.ifnonnullNo (X : Stand p l e R s m args below meth c T locs cells slots) (hx : p.tables.exec = Jvm.exec) {pc : Nat} {ls : Array Slot} {st : List Value} {pc' : Nat} {o : Int} (hd : decode c.code pc = .ok (.ifnonnull o, 3))  (k : Wq p e below En Q (T.setTop (mkF m pc' ls st))) (hpc : pc + 3 = pc' := by rfl) : Wq p e below En Q (T.setTop (mkF m pc ls (.null :: st))) := by subst hpc; exact Wq.step (fun _ q => XS.ifnonnullNo X.here hx rfl hd rfl q) k
theorem W.acmp (X : Stand p l e R s m args below meth c T locs cells slots) (hx : p.tables.exec = Jvm.exec) {pc : Nat} {ls : Array Slot} {st : List Value} {cd : ACond} {x y : Value} {o : Int} {pc' : Nat} {same : Bool} (hd : decode c.code pc = .ok (.if_acmp cd o, 3)) (h1 : x.isRef = true) (h2 : y.isRef = true) (hq : decide (x = y) = same) (ho : 0 ≤ (pc : Int) + o) (hp : pc' = if acV cd same = true then ((pc : Int) + o).toNat else pc + 3) (k : Wq p e below En Q (T.setTop (mkF m pc' ls st))) : Wq p e below En Q (T.setTop (mkF m pc ls (y :: x :: st))) := Wq.step (fun _ q => Jvm.RoadKit.acmp (g := mkF m pc ls (y :: x :: st)) X hx rfl h1 h2 rfl hd rfl hq ho hp q) k
theorem W.ldcInt (X : Stand p l e R s m args below meth c T locs cells slots) (hx : p.tables.exec = Jvm.exec) (hZ : Z.Warmed39 s.vm) {a0 : Array Value} {own : String} {index : Nat} {v : Int32} {pc pc' : Nat} {ls : Array Slot} {st : List Value} (hown : s.vm.findClass own = some m.cls) (w : (Cond.constant own index v).before a0 Z = true) (hd : decode c.code pc = .ok (.ldc index, 2)) (k : Wq p e below En Q (T.setTop (mkF m pc' ls (.int v :: st)))) (hpc : pc + 2 = pc' := by rfl) : Wq p e below En Q (T.setTop (mkF m pc ls st)) := by subst hpc; exact Wq.step (fun _ q => X.ldcInt hx hown (mvT hZ w) (g := mkF m pc ls st) rfl hd _ q) k
theorem W.ldcwInt (X : Stand p l e R s m args below meth c T locs cells slots) (hx : p.tables.exec = Jvm.exec) (hZ : Z.Warmed39 s.vm) {a0 : Array Value} {own : String} {index : Nat} {v : Int32} {pc pc' : Nat} {ls : Array Slot} {st : List Value} (hown : s.vm.findClass own = some m.cls) (w : (Cond.constant own index v).before a0 Z = true) (hd : decode c.code pc = .ok (.ldc_w index, 3)) (k : Wq p e below En Q (T.setTop (mkF m pc' ls (.int v :: st)))) (hpc : pc + 3 = pc' := by rfl) : Wq p e below En Q (T.setTop (mkF m pc ls st)) := by subst hpc; exact Wq.step (fun _ q => X.ldcwInt hx hown (mvT hZ w) (g := mkF m pc ls st) rfl hd _ q) k
theorem W.ldc2Long (X : Stand p l e R s m args below meth c T locs cells slots) (hx : p.tables.exec = Jvm.exec) (hZ : Z.Warmed39 s.vm) {a0 : Array Value} {own : String} {index : Nat} {v : Int64} {pc pc' : Nat} {ls : Array Slot} {st : List Value} (hown : s.vm.findClass own = some m.cls) (w : (Cond.constantLong own index v).before a0 Z = true) (hd : decode c.code pc = .ok (.ldc2_w index, 3)) (k : Wq p e below En Q (T.setTop (mkF m pc' ls (.long v :: st)))) (hpc : pc + 3 = pc' := by rfl) : Wq p e below En Q (T.setTop (mkF m pc ls st)) := by subst hpc; exact Wq.step (fun _ q => X.ldc2Long hx hown (mvT hZ w) (g := mkF m pc ls st) rfl hd _ q) k
theorem W.ldI (X : Stand p l e R s m args below meth c T locs cells slots) (hx : p.tables.exec = Jvm.exec) (hZ : Z.Warmed39 s.vm) (eT : T.heap = h) (V : Al Z h a .int vs) {pc pc' : Nat} {ls : Array Slot} {st : List Value} {j : Int32} {i : Nat} (hd : decode c.code pc = .ok (.iaload, 1)) (hj : ¬ j < 0) (hi : j.toNatClampNeg = i) (hv : vs[i]? = some v) (k : Wq p e below En Q (T.setTop (mkF m pc' ls (v :: st)))) (hpc : pc + 1 = pc' := by rfl) : Wq p e below En Q (T.setTop (mkF m pc ls (.int j :: .ref a :: st))) := by subst hpc; exact Wq.step (fun _ q => Jvm.OwnW.ldI X hx hZ eT V hj hi hv (g := mkF m pc ls (.int j :: .ref a :: st)) rfl rfl hd q) k
theorem W.ldJ (X : Stand p l e R s m args below meth c T locs cells slots) (hx : p.tables.exec = Jvm.exec) (hZ : Z.Warmed39 s.vm) (eT : T.heap = h) (V : Al Z h a .long vs) {pc pc' : Nat} {ls : Array Slot} {st : List Value} {j : Int32} {i : Nat} (hd : decode c.code pc = .ok (.laload, 1)) (hj : ¬ j < 0) (hi : j.toNatClampNeg = i) (hv : vs[i]? = some v) (k : Wq p e below En Q (T.setTop (mkF m pc' ls (v :: st)))) (hpc : pc + 1 = pc' := by rfl) : Wq p e below En Q (T.setTop (mkF m pc ls (.int j :: .ref a :: st))) := by subst hpc; exact Wq.step (fun _ q => Jvm.OwnW.ldJ X hx hZ eT V hj hi hv (g := mkF m pc ls (.int j :: .ref a :: st)) rfl rfl hd q) k
theorem W.ldC (X : Stand p l e R s m args below meth c T locs cells slots) (hx : p.tables.exec = Jvm.exec) (hZ : Z.Warmed39 s.vm) (eT : T.heap = h) (V : Al Z h a .char vs) {pc pc' : Nat} {ls : Array Slot} {st : List Value} {j : Int32} {i : Nat} (hd : decode c.code pc = .ok (.caload, 1)) (hj : ¬ j < 0) (hi : j.toNatClampNeg = i) (hv : vs[i]? = some v) (k : Wq p e below En Q (T.setTop (mkF m pc' ls (v :: st)))) (hpc : pc + 1 = pc' := by rfl) : Wq p e below En Q (T.setTop (mkF m pc ls (.int j :: .ref a :: st))) := by subst hpc; exact Wq.step (fun _ q => Jvm.OwnW.ldC X hx hZ eT V hj hi hv (g := mkF m pc ls (.int j :: .ref a :: st)) rfl rfl hd q) k
theorem W.ldB (X : Stand p l e R s m args below meth c T locs cells slots) (hx : p.tables.exec = Jvm.exec) (hZ : Z.Warmed39 s.vm) (eT : T.heap = h) (V : Al Z h a .byte vs) {pc pc' : Nat} {ls : Array Slot} {st : List Value} {j : Int32} {i : Nat} (hd : decode c.code pc = .ok (.baload, 1)) (hj : ¬ j < 0) (hi : j.toNatClampNeg = i) (hv : vs[i]? = some v) (k : Wq p e below En Q (T.setTop (mkF m pc' ls (v :: st)))) (hpc : pc + 1 = pc' := by rfl) : Wq p e below En Q (T.setTop (mkF m pc ls (.int j :: .ref a :: st))) := by subst hpc; exact Wq.step (fun _ q => Jvm.OwnW.ldB X hx hZ eT V hj hi hv (g := mkF m pc ls (.int j :: .ref a :: st)) rfl rfl hd q) k
theorem W.ldZ (X : Stand p l e R s m args below meth c T locs cells slots) (hx : p.tables.exec = Jvm.exec) (hZ : Z.Warmed39 s.vm) (eT : T.heap = h) (V : Al Z h a .boolean vs) {pc pc' : Nat} {ls : Array Slot} {st : List Value} {j : Int32} {i : Nat} (hd : decode c.code pc = .ok (.baload, 1)) (hj : ¬ j < 0) (hi : j.toNatClampNeg = i) (hv : vs[i]? = some v) (k : Wq p e below En Q (T.setTop (mkF m pc' ls (v :: st)))) (hpc : pc + 1 = pc' := by rfl) : Wq p e below En Q (T.setTop (mkF m pc ls (.int j :: .ref a :: st))) := by subst hpc; exact Wq.step (fun _ q => Jvm.OwnW.ldZ X hx hZ eT V hj hi hv (g := mkF m pc ls (.int j :: .ref a :: st)) rfl rfl hd q) k
theorem W.ldR (X : Stand p l e R s m args below meth c T locs cells slots) (hx : p.tables.exec = Jvm.exec) (hZ : Z.Warmed39 s.vm) (eT : T.heap = h) (V : Al Z h a ty vs) (hty : ty.isReference = true) {pc pc' : Nat} {ls : Array Slot} {st : List Value} {j : Int32} {i : Nat} (hd : decode c.code pc = .ok (.aaload, 1)) (hj : ¬ j < 0) (hi : j.toNatClampNeg = i) (hv : vs[i]? = some v) (k : Wq p e below En Q (T.setTop (mkF m pc' ls (v :: st)))) (hpc : pc + 1 = pc' := by rfl) : Wq p e below En Q (T.setTop (mkF m pc ls (.int j :: .ref a :: st))) := by
  subst hpc
  obtain ⟨cl, A, r⟩ := V
  exact Wq.step (fun _ q => X.aaload hx (by rw [eT]; exact A.1) (State.isArrayOf_alike hZ.alike A.2.1) hty A.2.2 (al_in r hj hi (al_lt hv)) (al_at r hi hv) (g := mkF m pc ls (.int j :: .ref a :: st)) rfl rfl hd _ q) k
theorem W.lenA (X : Stand p l e R s m args below meth c T locs cells slots) (hx : p.tables.exec = Jvm.exec) (hZ : Z.Warmed39 s.vm) (eT : T.heap = h) (V : Al Z h a ty vs) {pc pc' : Nat} {ls : Array Slot} {st : List Value} {n : Int32} (hd : decode c.code pc = .ok (.arraylength, 1)) (hn : vs.length.toInt32 = n) (k : Wq p e below En Q (T.setTop (mkF m pc' ls (.int n :: st)))) (hpc : pc + 1 = pc' := by rfl) : Wq p e below En Q (T.setTop (mkF m pc ls (.ref a :: st))) := by subst hpc; exact Wq.step (fun _ q => Jvm.OwnW.lenA X hx hZ eT V hn (g := mkF m pc ls (.ref a :: st)) rfl rfl hd q) k
end Base
end Jvm.OwnW
namespace Jvm.Pilot.@@N@@
open Jvm Jvm.ClassFile Sem Op Lib Jvm.Free Jvm.Stand Jvm.LawKit Jvm.RoadKit Jvm.OwnW Bundle Jvm.Pilot.@@N@@.Jvm.D
theorem kw29 {Z : State} {a0 : Array Value} (hw : ∀ d ∈ tables_1, d.before a0 Z = true) : (Jvm.Cond.methodLink "com/example/tauten/tauten/Interval" (1 : Nat) ({ cls := "java/lang/Object", name := "<init>", desc := "()V" } : Jvm.MethodName)).before a0 Z = true := hw _ (List.mem_of_getElem? (i := 29) rfl)
theorem kw30 {Z : State} {a0 : Array Value} (hw : ∀ d ∈ tables_1, d.before a0 Z = true) : (Jvm.Cond.instanceMethod ({ cls := "java/lang/Object", name := "<init>", desc := "()V" } : Jvm.MethodName)).before a0 Z = true := hw _ (List.mem_of_getElem? (i := 30) rfl)
theorem kw31 {Z : State} {a0 : Array Value} (hw : ∀ d ∈ tables_1, d.before a0 Z = true) : (Jvm.Cond.code ({ cls := "java/lang/Object", name := "<init>", desc := "()V" } : Jvm.MethodName) object_method_1_code (1 : Nat) (Option.none : Option Jvm.ClassFile.FieldType)).before a0 Z = true := hw _ (List.mem_of_getElem? (i := 31) rfl)
theorem kw15 {Z : State} {a0 : Array Value} (hw : ∀ d ∈ tables_1, d.before a0 Z = true) : (Jvm.Cond.laysFinal "com/example/tauten/tauten/Interval" "com/example/tauten/tauten/Interval" "low" "J").before a0 Z = true := hw _ (List.mem_of_getElem? (i := 15) rfl)
theorem kw14 {Z : State} {a0 : Array Value} (hw : ∀ d ∈ tables_1, d.before a0 Z = true) : (Jvm.Cond.fieldLink "com/example/tauten/tauten/Interval" (7 : Nat) "com/example/tauten/tauten/Interval" "low" "J").before a0 Z = true := hw _ (List.mem_of_getElem? (i := 14) rfl)
theorem kw25 {Z : State} {a0 : Array Value} (hw : ∀ d ∈ tables_1, d.before a0 Z = true) : (Jvm.Cond.instantiable "com/example/tauten/tauten/Interval" (2 : Nat)).before a0 Z = true := hw _ (List.mem_of_getElem? (i := 25) rfl)
theorem kw17 {Z : State} {a0 : Array Value} (hw : ∀ d ∈ tables_1, d.before a0 Z = true) : (Jvm.Cond.laysFinal "com/example/tauten/tauten/Interval" "com/example/tauten/tauten/Interval" "high" "J").before a0 Z = true := hw _ (List.mem_of_getElem? (i := 17) rfl)
theorem kw16 {Z : State} {a0 : Array Value} (hw : ∀ d ∈ tables_1, d.before a0 Z = true) : (Jvm.Cond.fieldLink "com/example/tauten/tauten/Interval" (13 : Nat) "com/example/tauten/tauten/Interval" "high" "J").before a0 Z = true := hw _ (List.mem_of_getElem? (i := 16) rfl)
theorem d_prog_30_method_1_0 : decode prog_30_method_1_code 0 = .ok (.aload_n 0, 1) := by decide +kernel
theorem d_prog_30_method_1_1 : decode prog_30_method_1_code 1 = .ok (.invokespecial 1, 3) := by decide +kernel
theorem d_prog_30_method_1_4 : decode prog_30_method_1_code 4 = .ok (.aload_n 0, 1) := by decide +kernel
theorem d_prog_30_method_1_5 : decode prog_30_method_1_code 5 = .ok (.lload_n 1, 1) := by decide +kernel
theorem d_prog_30_method_1_6 : decode prog_30_method_1_code 6 = .ok (.putfield 7, 3) := by decide +kernel
theorem d_prog_30_method_1_9 : decode prog_30_method_1_code 9 = .ok (.aload_n 0, 1) := by decide +kernel
theorem d_prog_30_method_1_10 : decode prog_30_method_1_code 10 = .ok (.lload_n 3, 1) := by decide +kernel
theorem d_prog_30_method_1_11 : decode prog_30_method_1_code 11 = .ok (.putfield 13, 3) := by decide +kernel
theorem pn1 : plainName "com/example/tauten/tauten/Interval" = true := by first | (simp [plainName, overriddenIn]; done) | decide +kernel
theorem ef_ctor (m : MethodId) (thisctor : Addr) (yctor_1 : Int64) (yctor_2 : Int64) : entryFrame m #[(.ref thisctor), (.long yctor_1), (.long yctor_2)] 5 = mkF m 0 #[.val (.ref thisctor), .val (.long yctor_1), .second, .val (.long yctor_2), .second] [] := by first | (simp [entryFrame, mkF, argsToLocals, Value.category]; done) | rfl
def Q_ctor (Z : State) (thisctor : Addr) (yctor_1 : Int64) (yctor_2 : Int64) (h0 : Heap) (n0 : Nat) (v : Option Value) (h : Heap) (L : List Loc) : Prop := v = none ∧ Fr n0 L ∧ Keep h0 h [thisctor] ∧ Exa Z h thisctor "com/example/tauten/tauten/Interval" ∧ Fld Z h thisctor "com/example/tauten/tauten/Interval" "low" "J" (.long yctor_1) ∧ Fld Z h thisctor "com/example/tauten/tauten/Interval" "high" "J" (.long yctor_2)
theorem d_prog_30_method_1_14 : decode prog_30_method_1_code 14 = .ok (.return_, 1) := by decide +kernel
abbrev mt1 : MethodName := ⟨"com/example/tauten/tauten/Interval", "<init>", "(JJ)V"⟩
set_option maxRecDepth 65536 in
set_option maxHeartbeats 40000000 in
theorem rm_ctor (l : Launch) (Z : State) (a0 : Array Value) (hw : ∀ d ∈ tables_1, d.before a0 Z = true) (ws : List Jvm.Cond) (thisctor : Addr) (yctor_1 : Int64) (yctor_2 : Int64) (h0 : Heap) (n0 : Nat) (Z0 : n0 ≤ h0.size) (E_thisctor : Exa Z h0 thisctor "com/example/tauten/tauten/Interval") (F_thisctor_low : Fld Z h0 thisctor "com/example/tauten/tauten/Interval" "low" "J" (.long (0 : Int64))) (F_thisctor_high : Fld Z h0 thisctor "com/example/tauten/tauten/Interval" "high" "J" (.long (0 : Int64))) (g_thisctor : n0 ≤ thisctor) :
    MetFree l mt1 (head1 (Jvm.Cond.code mt1 prog_30_method_1_code 5 none :: ws) ({ frames := 1, cells := 0, slots := 0, locals := 12 } : Room)) (fun a U => a = #[(.ref thisctor), (.long yctor_1), (.long yctor_2)] ∧ Z.Warmed39 U.vm ∧ U.heap = h0) (fun _ _ _ _ _ => True) (fun _ U o U' => ∃ v L, o = .returned v ∧ (Q_ctor Z thisctor yctor_1 yctor_2 h0 n0) v U'.heap L ∧ FrameEnd U o U' L ({ frames := 1, cells := 0, slots := 0, locals := 12 } : Room).cells ({ frames := 1, cells := 0, slots := 0, locals := 12 } : Room).slots) := by
  refine MetFree.of_bodySF (plainFor_of_name pn1) hisR ?_
  intro p e s m args below meth c s₁ Bd hml0 hP hK
  obtain ⟨rfl, hZ, hh⟩ := hP
  have hx := Bd.exec
  have hby := Bd.bytes
  have hml : c.maxLocals = 5 := hml0
  have hown : s.vm.findClass "com/example/tauten/tauten/Interval" = some m.cls := findClass_of_methodNamed Bd.named
  have hnm := (name_of_methodNamed Bd.named Bd.method).1
  have X0 : Stand p l e ({ frames := 1, cells := 0, slots := 0, locals := 12 } : Room) s m #[(.ref thisctor), (.long yctor_1), (.long yctor_2)] below meth c s₁ [] 0 0 := Stand.of_body Bd
  have e0 : s₁.heap = h0 := by rw [← hh, Bd.state]; rfl
  have N0 := Fr.nil n0
  refine Wq.step (p := p) (e := e) (below := below) (En := (fun o t L => FrameEnd s o t L ({ frames := 1, cells := 0, slots := 0, locals := 12 } : Room).cells ({ frames := 1, cells := 0, slots := 0, locals := 12 } : Room).slots)) (Q := (Q_ctor Z thisctor yctor_1 yctor_2 h0 n0)) (fun t k => castTop (ef_ctor m thisctor yctor_1 yctor_2) k) ?_
  show Wq _ _ _ _ _ (s₁.setTop (mkF m 0 #[.val (.ref thisctor), .val (.long yctor_1), .second, .val (.long yctor_2), .second] []))
  refine W.aloadN X0 hx (pc' := 1) (hb hby d_prog_30_method_1_0) rfl rfl ?_
  obtain ⟨T1, X1, e1, st1⟩ := initO X0 hx hZ hown (kw29 hw) (kw30 hw) (kw31 hw) e0 (g := (mkF m 1 #[.val (.ref thisctor), .val (.long yctor_1), .second, .val (.long yctor_2), .second] [(.ref thisctor)])) rfl (by rw [hml]; rfl) rfl (hb hby d_prog_30_method_1_1) (by decide) (W := 0) (by show 2 * 0 + _ ≤ _; exact Nat.le_of_eq rfl) (by decide)
  refine Wq.step st1 ?_
  show Wq _ _ _ _ _ (T1.setTop (mkF m 4 #[.val (.ref thisctor), .val (.long yctor_1), .second, .val (.long yctor_2), .second] []))
  refine W.aloadN X1 hx (pc' := 5) (hb hby d_prog_30_method_1_4) rfl rfl ?_
  refine W.lloadN X1 hx (pc' := 6) (hb hby d_prog_30_method_1_5) rfl ?_
  obtain ⟨T2, h2, X2, e2, W2, st2⟩ := putF X1 hx hZ hown (host := "") (Or.inl (kw14 hw)) Via.refl e1 F_thisctor_low E_thisctor (Or.inr ⟨(kw15 hw), rfl, hnm⟩) (kw25 hw) (ty := .long) (by decide) (rfl) (rfl) (g := (mkF m 6 #[.val (.ref thisctor), .val (.long yctor_1), .second, .val (.long yctor_2), .second] [(.long yctor_1), (.ref thisctor)])) rfl rfl (hb hby d_prog_30_method_1_6)
  refine Wq.step st2 ?_
  have N2 := Fr.snoc X2 N0 g_thisctor
  have K2 : Keep h0 h2 [thisctor] := (Keep.refl h0 [thisctor]).wr W2 (Or.inl (List.mem_of_getElem? (i := 0) rfl))
  have Z2 : n0 ≤ h2.size := Nat.le_trans Z0 (Keep.of_wr W2).1
  have E_thisctor_t2 := E_thisctor.wr W2
  have F_thisctor_high_t2 := F_thisctor_high.other W2 (Or.inr (slot_ne (Or.inr (kw17 hw)) (Or.inr (kw15 hw)) (by decide) (t := .long) (t' := .long) (by decide) (by decide)))
  have F_thisctor_low_t2 : Fld Z h2 thisctor "com/example/tauten/tauten/Interval" "low" "J" (.long yctor_1) := F_thisctor_low.same W2
  show Wq _ _ _ _ _ (T2.setTop (mkF m 9 #[.val (.ref thisctor), .val (.long yctor_1), .second, .val (.long yctor_2), .second] []))
  refine W.aloadN X2 hx (pc' := 10) (hb hby d_prog_30_method_1_9) rfl rfl ?_
  refine W.lloadN X2 hx (pc' := 11) (hb hby d_prog_30_method_1_10) rfl ?_
  obtain ⟨T3, h3, X3, e3, W3, st3⟩ := putF X2 hx hZ hown (host := "") (Or.inl (kw16 hw)) Via.refl e2 F_thisctor_high_t2 E_thisctor_t2 (Or.inr ⟨(kw17 hw), rfl, hnm⟩) (kw25 hw) (ty := .long) (by decide) (rfl) (rfl) (g := (mkF m 11 #[.val (.ref thisctor), .val (.long yctor_1), .second, .val (.long yctor_2), .second] [(.long yctor_2), (.ref thisctor)])) rfl rfl (hb hby d_prog_30_method_1_11)
  refine Wq.step st3 ?_
  have N3 := Fr.snoc X3 N2 g_thisctor
  have K3 : Keep h0 h3 [thisctor] := K2.wr W3 (Or.inl (List.mem_of_getElem? (i := 0) rfl))
  have Z3 : n0 ≤ h3.size := Nat.le_trans Z2 (Keep.of_wr W3).1
  have E_thisctor_t3 := E_thisctor_t2.wr W3
  have F_thisctor_low_t3 := F_thisctor_low_t2.other W3 (Or.inr (slot_ne (Or.inr (kw15 hw)) (Or.inr (kw17 hw)) (by decide) (t := .long) (t' := .long) (by decide) (by decide)))
  have F_thisctor_high_t3 : Fld Z h3 thisctor "com/example/tauten/tauten/Interval" "high" "J" (.long yctor_2) := F_thisctor_high_t2.same W3
  show Wq _ _ _ _ _ (T3.setTop (mkF m 14 #[.val (.ref thisctor), .val (.long yctor_1), .second, .val (.long yctor_2), .second] []))
  exact Wq.ret X3 (BodyLoose.notSynchronized Bd) (rv := none) (fun _ => rfl) (fun _ hr => X3.returnOut hx Bd.returns (hb hby d_prog_30_method_1_14) hr) (by decide) (by decide) (by rw [e3]; exact ⟨rfl, N3, K3, E_thisctor_t3, F_thisctor_low_t3, F_thisctor_high_t3⟩)
theorem kw23 {Z : State} {a0 : Array Value} (hw : ∀ d ∈ tables_1, d.before a0 Z = true) : (Jvm.Cond.classLink "com/example/tauten/tauten/Interval" (8 : Nat) "com/example/tauten/tauten/Interval").before a0 Z = true := hw _ (List.mem_of_getElem? (i := 23) rfl)
theorem kw2 {Z : State} {a0 : Array Value} (hw : ∀ d ∈ tables_1, d.before a0 Z = true) : (Jvm.Cond.initialized "com/example/tauten/tauten/Interval").before a0 Z = true := hw _ (List.mem_of_getElem? (i := 2) rfl)
theorem kw28 {Z : State} {a0 : Array Value} (hw : ∀ d ∈ tables_1, d.before a0 Z = true) : (Jvm.Cond.code ({ cls := "com/example/tauten/tauten/Interval", name := "<init>", desc := "(JJ)V" } : Jvm.MethodName) prog_30_method_1_code (5 : Nat) (Option.none : Option Jvm.ClassFile.FieldType)).before a0 Z = true := hw _ (List.mem_of_getElem? (i := 28) rfl)
theorem pd1 : parseMethodDescriptor "(JJ)V" = some ⟨[.long, .long], none⟩ := by decide +kernel
theorem kw26 {Z : State} {a0 : Array Value} (hw : ∀ d ∈ tables_1, d.before a0 Z = true) : (Jvm.Cond.methodLink "com/example/tauten/tauten/Interval" (20 : Nat) ({ cls := "com/example/tauten/tauten/Interval", name := "<init>", desc := "(JJ)V" } : Jvm.MethodName)).before a0 Z = true := hw _ (List.mem_of_getElem? (i := 26) rfl)
theorem kw27 {Z : State} {a0 : Array Value} (hw : ∀ d ∈ tables_1, d.before a0 Z = true) : (Jvm.Cond.instanceMethod ({ cls := "com/example/tauten/tauten/Interval", name := "<init>", desc := "(JJ)V" } : Jvm.MethodName)).before a0 Z = true := hw _ (List.mem_of_getElem? (i := 27) rfl)
theorem d_prog_30_method_2_0 : decode prog_30_method_2_code 0 = .ok (.lload_n 0, 1) := by decide +kernel
theorem d_prog_30_method_2_1 : decode prog_30_method_2_code 1 = .ok (.lload_n 2, 1) := by decide +kernel
theorem d_prog_30_method_2_2 : decode prog_30_method_2_code 2 = .ok (.lcmp, 1) := by decide +kernel
theorem d_prog_30_method_2_3 : decode prog_30_method_2_code 3 = .ok (.ifCond .le 9, 3) := by decide +kernel
theorem d_prog_30_method_2_12 : decode prog_30_method_2_code 12 = .ok (.new 8, 3) := by decide +kernel
theorem d_prog_30_method_2_15 : decode prog_30_method_2_code 15 = .ok (.dup, 1) := by decide +kernel
theorem d_prog_30_method_2_16 : decode prog_30_method_2_code 16 = .ok (.lload_n 0, 1) := by decide +kernel
theorem d_prog_30_method_2_17 : decode prog_30_method_2_code 17 = .ok (.lload_n 2, 1) := by decide +kernel
theorem d_prog_30_method_2_18 : decode prog_30_method_2_code 18 = .ok (.invokespecial 20, 3) := by decide +kernel
theorem ef_ofn (m : MethodId) (yofn_1 : Int64) (yofn_2 : Int64) : entryFrame m #[(.long yofn_1), (.long yofn_2)] 4 = mkF m 0 #[.val (.long yofn_1), .second, .val (.long yofn_2), .second] [] := by first | (simp [entryFrame, mkF, argsToLocals, Value.category]; done) | rfl
def Q_ofn (Z : State) (yofn_1 : Int64) (yofn_2 : Int64) (h0 : Heap) (n0 : Nat) (v : Option Value) (h : Heap) (L : List Loc) : Prop := ∃ o4 : Addr, v = some (.ref o4) ∧ Fr n0 L ∧ Keep h0 h [] ∧ h0.size ≤ o4 ∧ Exa Z h o4 "com/example/tauten/tauten/Interval" ∧ Fld Z h o4 "com/example/tauten/tauten/Interval" "low" "J" (.long yofn_1) ∧ Fld Z h o4 "com/example/tauten/tauten/Interval" "high" "J" (.long yofn_2)
theorem d_prog_30_method_2_21 : decode prog_30_method_2_code 21 = .ok (.areturn, 1) := by decide +kernel
abbrev mt2 : MethodName := ⟨"com/example/tauten/tauten/Interval", "of", "(JJ)Lcom/example/tauten/tauten/Interval;"⟩
set_option maxRecDepth 65536 in
set_option maxHeartbeats 40000000 in
theorem rm_ofn (l : Launch) (Z : State) (a0 : Array Value) (hw : ∀ d ∈ tables_1, d.before a0 Z = true) (ws : List Jvm.Cond) (yofn_1 : Int64) (yofn_2 : Int64) (h0 : Heap) (n0 : Nat) (Z0 : n0 ≤ h0.size) (hc3 : ¬ (yofn_2 < yofn_1)) :
    MetFree l mt2 (head1 (Jvm.Cond.code mt2 prog_30_method_2_code 4 (some (.object "com/example/tauten/tauten/Interval")) :: ws) ({ frames := 2, cells := 1, slots := 2, locals := 29 } : Room)) (fun a U => a = #[(.long yofn_1), (.long yofn_2)] ∧ Z.Warmed39 U.vm ∧ U.heap = h0) (fun _ _ _ _ _ => True) (fun _ U o U' => ∃ v L, o = .returned v ∧ (Q_ofn Z yofn_1 yofn_2 h0 n0) v U'.heap L ∧ FrameEnd U o U' L ({ frames := 2, cells := 1, slots := 2, locals := 29 } : Room).cells ({ frames := 2, cells := 1, slots := 2, locals := 29 } : Room).slots) := by
  refine MetFree.of_bodySF (plainFor_of_name pn1) hisR ?_
  intro p e s m args below meth c s₁ Bd hml0 hP hK
  obtain ⟨rfl, hZ, hh⟩ := hP
  have hx := Bd.exec
  have hby := Bd.bytes
  have hml : c.maxLocals = 4 := hml0
  have hown : s.vm.findClass "com/example/tauten/tauten/Interval" = some m.cls := findClass_of_methodNamed Bd.named
  have hnm := (name_of_methodNamed Bd.named Bd.method).1
  have X0 : Stand p l e ({ frames := 2, cells := 1, slots := 2, locals := 29 } : Room) s m #[(.long yofn_1), (.long yofn_2)] below meth c s₁ [] 0 0 := Stand.of_body Bd
  have e0 : s₁.heap = h0 := by rw [← hh, Bd.state]; rfl
  have N0 := Fr.nil n0
  refine Wq.step (p := p) (e := e) (below := below) (En := (fun o t L => FrameEnd s o t L ({ frames := 2, cells := 1, slots := 2, locals := 29 } : Room).cells ({ frames := 2, cells := 1, slots := 2, locals := 29 } : Room).slots)) (Q := (Q_ofn Z yofn_1 yofn_2 h0 n0)) (fun t k => castTop (ef_ofn m yofn_1 yofn_2) k) ?_
  show Wq _ _ _ _ _ (s₁.setTop (mkF m 0 #[.val (.long yofn_1), .second, .val (.long yofn_2), .second] []))
  refine W.lloadN X0 hx (pc' := 1) (hb hby d_prog_30_method_2_0) rfl ?_
  refine W.lloadN X0 hx (pc' := 2) (hb hby d_prog_30_method_2_1) rfl ?_
  refine W.lcmp X0 hx (pc' := 3) (hb hby d_prog_30_method_2_2)  ?_
  refine W.ifYes X0 hx (pc' := 12) (hb hby d_prog_30_method_2_3) ((if0 _ _).trans (flt (mt (lw_gt _ _).mp hc3)).2.2.2) (by decide) (by decide) ?_
  obtain ⟨T4, h4, X4, e4, E4, A4, D4, -, st4⟩ := newO X0 hx hZ hown (kw23 hw) (kw25 hw) (kw2 hw) e0 (g := (mkF m 12 #[.val (.long yofn_1), .second, .val (.long yofn_2), .second] [])) rfl (hb hby d_prog_30_method_2_12) (by decide) (by decide)
  obtain ⟨o4, gz4⟩ : ∃ z, z = h0.size := ⟨_, rfl⟩
  rw [← gz4] at A4 D4 st4
  have g_o4 : n0 ≤ o4 := Nat.le_trans Z0 (Nat.le_of_eq gz4.symm)
  have sz_o4 : h0.size ≤ o4 := Nat.le_of_eq gz4.symm
  have K4 : Keep h0 h4 [] := (Keep.refl h0 []).ext E4
  have Z4 : n0 ≤ h4.size := Nat.le_trans Z0 E4.1
  refine Wq.step st4 ?_
  have F_o4_low : Fld Z h4 o4 "com/example/tauten/tauten/Interval" "low" "J" (.long (0 : Int64)) := D4 (Or.inr (kw15 hw)) (ty := .long) (by decide)
  have F_o4_high : Fld Z h4 o4 "com/example/tauten/tauten/Interval" "high" "J" (.long (0 : Int64)) := D4 (Or.inr (kw17 hw)) (ty := .long) (by decide)
  show Wq _ _ _ _ _ (T4.setTop (mkF m 15 #[.val (.long yofn_1), .second, .val (.long yofn_2), .second] [(.ref o4)]))
  refine W.dup X4 hx (pc' := 16) (hb hby d_prog_30_method_2_15) rfl ?_
  refine W.lloadN X4 hx (pc' := 17) (hb hby d_prog_30_method_2_16) rfl ?_
  refine W.lloadN X4 hx (pc' := 18) (hb hby d_prog_30_method_2_17) rfl ?_
  obtain ⟨_, _, ⟨T5, L5, k5, n5⟩, -, X5, ⟨Lc5, hQ5, l5, y5, z5⟩, st5⟩ := X4.specialBack hx (y := mt1) rfl hown (mvT hZ (kw26 hw)) (mvT hZ (kw27 hw)) (mvT hZ (kw28 hw)) (by decide) (backOf (W := 1) (rm_ctor l Z a0 hw [] o4 yofn_1 yofn_2 h4 n0 Z4 A4 F_o4_low F_o4_high g_o4) hZ (kw28 hw) (kw2 hw) (by decide) (by decide)) (g := (mkF m 18 #[.val (.long yofn_1), .second, .val (.long yofn_2), .second] [(.long yofn_2), (.long yofn_1), (.ref o4), (.ref o4)])) rfl (by rw [hml]; rfl) (Steps.refl _) (a := o4) (argsL := [(.long yofn_1), (.long yofn_2)]) (rest := [(.ref o4)]) (lenOf pd1 rfl) rfl (by show 2 * 0 + _ ≤ _; exact Nat.le_of_eq rfl) (hb hby d_prog_30_method_2_18) (fun _ _ => ⟨rfl, e4, (by decide : 1 + 0 ≤ _), (by decide : 2 + 0 ≤ _)⟩)
  dsimp only [Pt.U, Pt.locs, Pt.cells, Pt.slots] at X5 l5 y5 z5 st5 hQ5
  subst l5 y5 z5
  obtain ⟨rfl, Nq5, Kq5, P5_0, P5_1, P5_2⟩ := hQ5
  have N5 := Fr.app N0 Nq5
  have K5 : Keep h0 T5.heap [] := K4.trans Kq5 (allS (P := fun x => x ∈ [] ∨ h0.size ≤ x) (Or.inr sz_o4) all0)
  have Z5 : n0 ≤ T5.heap.size := Nat.le_trans Z4 Kq5.1
  have A4_t5 := A4.keep Kq5
  have e5 : T5.heap = T5.heap := rfl
  refine Wq.steps st5 ?_
  show Wq _ _ _ _ _ (T5.setTop (mkF m 21 #[.val (.long yofn_1), .second, .val (.long yofn_2), .second] [(.ref o4)]))
  exact Wq.ret X5 (BodyLoose.notSynchronized Bd) (rv := some (.ref o4)) (fun h => by rw [Bd.returns] at h; cases h) (fun _ hr => retOut X5 hx Bd.returns rfl (Or.inr (Or.inr (Or.inr (Or.inr ⟨rfl, rfl, rfl⟩)))) (hb hby d_prog_30_method_2_21) hr) (by decide) (by decide) (by rw [e5]; exact ⟨o4, rfl, N5, K5, sz_o4, A4_t5, P5_1, P5_2⟩)
theorem kw4 {Z : State} {a0 : Array Value} (hw : ∀ d ∈ tables_1, d.before a0 Z = true) : (Jvm.Cond.fieldLink "com/example/tauten/tauten/Interval" (16 : Nat) "com/example/tauten/tauten/Interval" "EMPTY" "Lcom/example/tauten/tauten/Interval;").before a0 Z = true := hw _ (List.mem_of_getElem? (i := 4) rfl)
theorem d_prog_30_method_2_6 : decode prog_30_method_2_code 6 = .ok (.getstatic 16, 3) := by decide +kernel
theorem d_prog_30_method_2_9 : decode prog_30_method_2_code 9 = .ok (.goto 12, 3) := by decide +kernel
theorem ef_ofe (m : MethodId) (yofe_1 : Int64) (yofe_2 : Int64) : entryFrame m #[(.long yofe_1), (.long yofe_2)] 4 = mkF m 0 #[.val (.long yofe_1), .second, .val (.long yofe_2), .second] [] := by first | (simp [entryFrame, mkF, argsToLocals, Value.category]; done) | rfl
def Q_ofe (Z : State) (yofe_1 : Int64) (yofe_2 : Int64) (wofe_EMPTY : Addr) (h0 : Heap) (n0 : Nat) (v : Option Value) (h : Heap) (L : List Loc) : Prop := v = some (.ref wofe_EMPTY) ∧ Fr n0 L ∧ h = h0
set_option maxRecDepth 65536 in
set_option maxHeartbeats 40000000 in
theorem rm_ofe (l : Launch) (Z : State) (a0 : Array Value) (hw : ∀ d ∈ tables_1, d.before a0 Z = true) (ws : List Jvm.Cond) (yofe_1 : Int64) (yofe_2 : Int64) (wofe_EMPTY : Addr) (h0 : Heap) (n0 : Nat) (Z0 : n0 ≤ h0.size) (hc3 : yofe_2 < yofe_1) (S_EMPTY : Sta Z h0 "com/example/tauten/tauten/Interval" "EMPTY" "Lcom/example/tauten/tauten/Interval;" (.ref wofe_EMPTY)) :
    MetFree l mt2 (head1 (Jvm.Cond.code mt2 prog_30_method_2_code 4 (some (.object "com/example/tauten/tauten/Interval")) :: ws) ({ frames := 0, cells := 0, slots := 0, locals := 0 } : Room)) (fun a U => a = #[(.long yofe_1), (.long yofe_2)] ∧ Z.Warmed39 U.vm ∧ U.heap = h0) (fun _ _ _ _ _ => True) (fun _ U o U' => ∃ v L, o = .returned v ∧ (Q_ofe Z yofe_1 yofe_2 wofe_EMPTY h0 n0) v U'.heap L ∧ FrameEnd U o U' L ({ frames := 0, cells := 0, slots := 0, locals := 0 } : Room).cells ({ frames := 0, cells := 0, slots := 0, locals := 0 } : Room).slots) := by
  refine MetFree.of_bodySF (plainFor_of_name pn1) hisR ?_
  intro p e s m args below meth c s₁ Bd hml0 hP hK
  obtain ⟨rfl, hZ, hh⟩ := hP
  have hx := Bd.exec
  have hby := Bd.bytes
  have hml : c.maxLocals = 4 := hml0
  have hown : s.vm.findClass "com/example/tauten/tauten/Interval" = some m.cls := findClass_of_methodNamed Bd.named
  have hnm := (name_of_methodNamed Bd.named Bd.method).1
  have X0 : Stand p l e ({ frames := 0, cells := 0, slots := 0, locals := 0 } : Room) s m #[(.long yofe_1), (.long yofe_2)] below meth c s₁ [] 0 0 := Stand.of_body Bd
  have e0 : s₁.heap = h0 := by rw [← hh, Bd.state]; rfl
  have N0 := Fr.nil n0
  refine Wq.step (p := p) (e := e) (below := below) (En := (fun o t L => FrameEnd s o t L ({ frames := 0, cells := 0, slots := 0, locals := 0 } : Room).cells ({ frames := 0, cells := 0, slots := 0, locals := 0 } : Room).slots)) (Q := (Q_ofe Z yofe_1 yofe_2 wofe_EMPTY h0 n0)) (fun t k => castTop (ef_ofe m yofe_1 yofe_2) k) ?_
  show Wq _ _ _ _ _ (s₁.setTop (mkF m 0 #[.val (.long yofe_1), .second, .val (.long yofe_2), .second] []))
  refine W.lloadN X0 hx (pc' := 1) (hb hby d_prog_30_method_2_0) rfl ?_
  refine W.lloadN X0 hx (pc' := 2) (hb hby d_prog_30_method_2_1) rfl ?_
  refine W.lcmp X0 hx (pc' := 3) (hb hby d_prog_30_method_2_2)  ?_
  refine W.ifNo X0 hx (pc' := 6) (hb hby d_prog_30_method_2_3) ((if0 _ _).trans (tlt ((lw_gt _ _).mpr hc3)).2.2.2) ?_
  obtain ⟨T6, X6, e6, st6⟩ := getS2 X0 hx hZ hown (host := "") (Or.inl (kw4 hw)) Via.refl e0 S_EMPTY (g := (mkF m 6 #[.val (.long yofe_1), .second, .val (.long yofe_2), .second] [])) rfl (hb hby d_prog_30_method_2_6)
  refine Wq.step st6 ?_
  show Wq _ _ _ _ _ (T6.setTop (mkF m 9 #[.val (.long yofe_1), .second, .val (.long yofe_2), .second] [(.ref wofe_EMPTY)]))
  refine W.goto X6 hx (pc' := 21) (hb hby d_prog_30_method_2_9) (by decide) (by decide) ?_
  exact Wq.ret X6 (BodyLoose.notSynchronized Bd) (rv := some (.ref wofe_EMPTY)) (fun h => by rw [Bd.returns] at h; cases h) (fun _ hr => retOut X6 hx Bd.returns rfl (Or.inr (Or.inr (Or.inr (Or.inr ⟨rfl, rfl, rfl⟩)))) (hb hby d_prog_30_method_2_21) hr) (by decide) (by decide) ⟨rfl, N0, e6⟩
theorem d_prog_30_method_3_0 : decode prog_30_method_3_code 0 = .ok (.iload_n 0, 1) := by decide +kernel
theorem d_prog_30_method_3_1 : decode prog_30_method_3_code 1 = .ok (.ifCond .eq 14, 3) := by decide +kernel
theorem d_prog_30_method_3_15 : decode prog_30_method_3_code 15 = .ok (.iload_n 0, 1) := by decide +kernel
theorem d_prog_30_method_3_16 : decode prog_30_method_3_code 16 = .ok (.ifCond .eq 10, 3) := by decide +kernel
theorem d_prog_30_method_3_26 : decode prog_30_method_3_code 26 = .ok (.iload_n 1, 1) := by decide +kernel
theorem d_prog_30_method_3_27 : decode prog_30_method_3_code 27 = .ok (.ifCond .eq 10, 3) := by decide +kernel
theorem d_prog_30_method_3_37 : decode prog_30_method_3_code 37 = .ok (.getstatic 16, 3) := by decide +kernel
theorem d_prog_30_method_3_40 : decode prog_30_method_3_code 40 = .ok (.astore_n 2, 1) := by decide +kernel
theorem d_prog_30_method_3_41 : decode prog_30_method_3_code 41 = .ok (.aload_n 2, 1) := by decide +kernel
theorem ef_tr00 (m : MethodId) : entryFrame m #[(.int (0 : Int32)), (.int (0 : Int32))] 3 = mkF m 0 #[.val (.int (0 : Int32)), .val (.int (0 : Int32)), .unset] [] := by first | (simp [entryFrame, mkF, argsToLocals, Value.category]; done) | rfl
def Q_tr00 (Z : State) (wtr00_EMPTY : Addr) (h0 : Heap) (n0 : Nat) (v : Option Value) (h : Heap) (L : List Loc) : Prop := v = some (.ref wtr00_EMPTY) ∧ Fr n0 L ∧ h = h0
theorem d_prog_30_method_3_42 : decode prog_30_method_3_code 42 = .ok (.areturn, 1) := by decide +kernel
abbrev mt3 : MethodName := ⟨"com/example/tauten/tauten/Interval", "truths", "(ZZ)Lcom/example/tauten/tauten/Interval;"⟩
set_option maxRecDepth 65536 in
set_option maxHeartbeats 40000000 in
theorem rm_tr00 (l : Launch) (Z : State) (a0 : Array Value) (hw : ∀ d ∈ tables_1, d.before a0 Z = true) (ws : List Jvm.Cond) (wtr00_EMPTY : Addr) (h0 : Heap) (n0 : Nat) (Z0 : n0 ≤ h0.size) (S_EMPTY : Sta Z h0 "com/example/tauten/tauten/Interval" "EMPTY" "Lcom/example/tauten/tauten/Interval;" (.ref wtr00_EMPTY)) :
    MetFree l mt3 (head1 (Jvm.Cond.code mt3 prog_30_method_3_code 3 (some (.object "com/example/tauten/tauten/Interval")) :: ws) ({ frames := 0, cells := 0, slots := 0, locals := 0 } : Room)) (fun a U => a = #[(.int (0 : Int32)), (.int (0 : Int32))] ∧ Z.Warmed39 U.vm ∧ U.heap = h0) (fun _ _ _ _ _ => True) (fun _ U o U' => ∃ v L, o = .returned v ∧ (Q_tr00 Z wtr00_EMPTY h0 n0) v U'.heap L ∧ FrameEnd U o U' L ({ frames := 0, cells := 0, slots := 0, locals := 0 } : Room).cells ({ frames := 0, cells := 0, slots := 0, locals := 0 } : Room).slots) := by
  refine MetFree.of_bodySF (plainFor_of_name pn1) hisR ?_
  intro p e s m args below meth c s₁ Bd hml0 hP hK
  obtain ⟨rfl, hZ, hh⟩ := hP
  have hx := Bd.exec
  have hby := Bd.bytes
  have hml : c.maxLocals = 3 := hml0
  have hown : s.vm.findClass "com/example/tauten/tauten/Interval" = some m.cls := findClass_of_methodNamed Bd.named
  have hnm := (name_of_methodNamed Bd.named Bd.method).1
  have X0 : Stand p l e ({ frames := 0, cells := 0, slots := 0, locals := 0 } : Room) s m #[(.int (0 : Int32)), (.int (0 : Int32))] below meth c s₁ [] 0 0 := Stand.of_body Bd
  have e0 : s₁.heap = h0 := by rw [← hh, Bd.state]; rfl
  have N0 := Fr.nil n0
  refine Wq.step (p := p) (e := e) (below := below) (En := (fun o t L => FrameEnd s o t L ({ frames := 0, cells := 0, slots := 0, locals := 0 } : Room).cells ({ frames := 0, cells := 0, slots := 0, locals := 0 } : Room).slots)) (Q := (Q_tr00 Z wtr00_EMPTY h0 n0)) (fun t k => castTop (ef_tr00 m ) k) ?_
  show Wq _ _ _ _ _ (s₁.setTop (mkF m 0 #[.val (.int (0 : Int32)), .val (.int (0 : Int32)), .unset] []))
  refine W.iloadN X0 hx (pc' := 1) (hb hby d_prog_30_method_3_0) rfl ?_
  refine W.ifYes X0 hx (pc' := 15) (hb hby d_prog_30_method_3_1) ((if0 _ _).trans (teq (by decide : (0 : Int32) = (0 : Int32))).1) (by decide) (by decide) ?_
  refine W.iloadN X0 hx (pc' := 16) (hb hby d_prog_30_method_3_15) rfl ?_
  refine W.ifYes X0 hx (pc' := 26) (hb hby d_prog_30_method_3_16) ((if0 _ _).trans (teq (by decide : (0 : Int32) = (0 : Int32))).1) (by decide) (by decide) ?_
  refine W.iloadN X0 hx (pc' := 27) (hb hby d_prog_30_method_3_26) rfl ?_
  refine W.ifYes X0 hx (pc' := 37) (hb hby d_prog_30_method_3_27) ((if0 _ _).trans (teq (by decide : (0 : Int32) = (0 : Int32))).1) (by decide) (by decide) ?_
  obtain ⟨T7, X7, e7, st7⟩ := getS2 X0 hx hZ hown (host := "") (Or.inl (kw4 hw)) Via.refl e0 S_EMPTY (g := (mkF m 37 #[.val (.int (0 : Int32)), .val (.int (0 : Int32)), .unset] [])) rfl (hb hby d_prog_30_method_3_37)
  refine Wq.step st7 ?_
  show Wq _ _ _ _ _ (T7.setTop (mkF m 40 #[.val (.int (0 : Int32)), .val (.int (0 : Int32)), .unset] [(.ref wtr00_EMPTY)]))
  refine W.astoreN X7 hx (pc' := 41) (hb hby d_prog_30_method_3_40) rfl (l' := #[.val (.int (0 : Int32)), .val (.int (0 : Int32)), .val (.ref wtr00_EMPTY)]) rfl ?_
  refine W.aloadN X7 hx (pc' := 42) (hb hby d_prog_30_method_3_41) rfl rfl ?_
  exact Wq.ret X7 (BodyLoose.notSynchronized Bd) (rv := some (.ref wtr00_EMPTY)) (fun h => by rw [Bd.returns] at h; cases h) (fun _ hr => retOut X7 hx Bd.returns rfl (Or.inr (Or.inr (Or.inr (Or.inr ⟨rfl, rfl, rfl⟩)))) (hb hby d_prog_30_method_3_42) hr) (by decide) (by decide) ⟨rfl, N0, e7⟩
theorem kw34 {Z : State} {a0 : Array Value} (hw : ∀ d ∈ tables_1, d.before a0 Z = true) : (Jvm.Cond.fieldLink "com/example/tauten/tauten/Interval" (29 : Nat) "com/example/tauten/tauten/Interval" "TRUE" "Lcom/example/tauten/tauten/Interval;").before a0 Z = true := hw _ (List.mem_of_getElem? (i := 34) rfl)
theorem d_prog_30_method_3_30 : decode prog_30_method_3_code 30 = .ok (.getstatic 29, 3) := by decide +kernel
theorem d_prog_30_method_3_33 : decode prog_30_method_3_code 33 = .ok (.astore_n 2, 1) := by decide +kernel
theorem d_prog_30_method_3_34 : decode prog_30_method_3_code 34 = .ok (.goto 7, 3) := by decide +kernel
theorem ef_tr01 (m : MethodId) : entryFrame m #[(.int (0 : Int32)), (.int (1 : Int32))] 3 = mkF m 0 #[.val (.int (0 : Int32)), .val (.int (1 : Int32)), .unset] [] := by first | (simp [entryFrame, mkF, argsToLocals, Value.category]; done) | rfl
def Q_tr01 (Z : State) (wtr01_TRUE : Addr) (h0 : Heap) (n0 : Nat) (v : Option Value) (h : Heap) (L : List Loc) : Prop := v = some (.ref wtr01_TRUE) ∧ Fr n0 L ∧ h = h0
set_option maxRecDepth 65536 in
set_option maxHeartbeats 40000000 in
theorem rm_tr01 (l : Launch) (Z : State) (a0 : Array Value) (hw : ∀ d ∈ tables_1, d.before a0 Z = true) (ws : List Jvm.Cond) (wtr01_TRUE : Addr) (h0 : Heap) (n0 : Nat) (Z0 : n0 ≤ h0.size) (S_TRUE : Sta Z h0 "com/example/tauten/tauten/Interval" "TRUE" "Lcom/example/tauten/tauten/Interval;" (.ref wtr01_TRUE)) :
    MetFree l mt3 (head1 (Jvm.Cond.code mt3 prog_30_method_3_code 3 (some (.object "com/example/tauten/tauten/Interval")) :: ws) ({ frames := 0, cells := 0, slots := 0, locals := 0 } : Room)) (fun a U => a = #[(.int (0 : Int32)), (.int (1 : Int32))] ∧ Z.Warmed39 U.vm ∧ U.heap = h0) (fun _ _ _ _ _ => True) (fun _ U o U' => ∃ v L, o = .returned v ∧ (Q_tr01 Z wtr01_TRUE h0 n0) v U'.heap L ∧ FrameEnd U o U' L ({ frames := 0, cells := 0, slots := 0, locals := 0 } : Room).cells ({ frames := 0, cells := 0, slots := 0, locals := 0 } : Room).slots) := by
  refine MetFree.of_bodySF (plainFor_of_name pn1) hisR ?_
  intro p e s m args below meth c s₁ Bd hml0 hP hK
  obtain ⟨rfl, hZ, hh⟩ := hP
  have hx := Bd.exec
  have hby := Bd.bytes
  have hml : c.maxLocals = 3 := hml0
  have hown : s.vm.findClass "com/example/tauten/tauten/Interval" = some m.cls := findClass_of_methodNamed Bd.named
  have hnm := (name_of_methodNamed Bd.named Bd.method).1
  have X0 : Stand p l e ({ frames := 0, cells := 0, slots := 0, locals := 0 } : Room) s m #[(.int (0 : Int32)), (.int (1 : Int32))] below meth c s₁ [] 0 0 := Stand.of_body Bd
  have e0 : s₁.heap = h0 := by rw [← hh, Bd.state]; rfl
  have N0 := Fr.nil n0
  refine Wq.step (p := p) (e := e) (below := below) (En := (fun o t L => FrameEnd s o t L ({ frames := 0, cells := 0, slots := 0, locals := 0 } : Room).cells ({ frames := 0, cells := 0, slots := 0, locals := 0 } : Room).slots)) (Q := (Q_tr01 Z wtr01_TRUE h0 n0)) (fun t k => castTop (ef_tr01 m ) k) ?_
  show Wq _ _ _ _ _ (s₁.setTop (mkF m 0 #[.val (.int (0 : Int32)), .val (.int (1 : Int32)), .unset] []))
  refine W.iloadN X0 hx (pc' := 1) (hb hby d_prog_30_method_3_0) rfl ?_
  refine W.ifYes X0 hx (pc' := 15) (hb hby d_prog_30_method_3_1) ((if0 _ _).trans (teq (by decide : (0 : Int32) = (0 : Int32))).1) (by decide) (by decide) ?_
  refine W.iloadN X0 hx (pc' := 16) (hb hby d_prog_30_method_3_15) rfl ?_
  refine W.ifYes X0 hx (pc' := 26) (hb hby d_prog_30_method_3_16) ((if0 _ _).trans (teq (by decide : (0 : Int32) = (0 : Int32))).1) (by decide) (by decide) ?_
  refine W.iloadN X0 hx (pc' := 27) (hb hby d_prog_30_method_3_26) rfl ?_
  refine W.ifNo X0 hx (pc' := 30) (hb hby d_prog_30_method_3_27) ((if0 _ _).trans (feq (by decide : ¬ ((1 : Int32) = (0 : Int32)))).1) ?_
  obtain ⟨T8, X8, e8, st8⟩ := getS2 X0 hx hZ hown (host := "") (Or.inl (kw34 hw)) Via.refl e0 S_TRUE (g := (mkF m 30 #[.val (.int (0 : Int32)), .val (.int (1 : Int32)), .unset] [])) rfl (hb hby d_prog_30_method_3_30)
  refine Wq.step st8 ?_
  show Wq _ _ _ _ _ (T8.setTop (mkF m 33 #[.val (.int (0 : Int32)), .val (.int (1 : Int32)), .unset] [(.ref wtr01_TRUE)]))
  refine W.astoreN X8 hx (pc' := 34) (hb hby d_prog_30_method_3_33) rfl (l' := #[.val (.int (0 : Int32)), .val (.int (1 : Int32)), .val (.ref wtr01_TRUE)]) rfl ?_
  refine W.goto X8 hx (pc' := 41) (hb hby d_prog_30_method_3_34) (by decide) (by decide) ?_
  refine W.aloadN X8 hx (pc' := 42) (hb hby d_prog_30_method_3_41) rfl rfl ?_
  exact Wq.ret X8 (BodyLoose.notSynchronized Bd) (rv := some (.ref wtr01_TRUE)) (fun h => by rw [Bd.returns] at h; cases h) (fun _ hr => retOut X8 hx Bd.returns rfl (Or.inr (Or.inr (Or.inr (Or.inr ⟨rfl, rfl, rfl⟩)))) (hb hby d_prog_30_method_3_42) hr) (by decide) (by decide) ⟨rfl, N0, e8⟩
theorem kw32 {Z : State} {a0 : Array Value} (hw : ∀ d ∈ tables_1, d.before a0 Z = true) : (Jvm.Cond.fieldLink "com/example/tauten/tauten/Interval" (26 : Nat) "com/example/tauten/tauten/Interval" "FALSE" "Lcom/example/tauten/tauten/Interval;").before a0 Z = true := hw _ (List.mem_of_getElem? (i := 32) rfl)
theorem d_prog_30_method_3_4 : decode prog_30_method_3_code 4 = .ok (.iload_n 1, 1) := by decide +kernel
theorem d_prog_30_method_3_5 : decode prog_30_method_3_code 5 = .ok (.ifCond .eq 10, 3) := by decide +kernel
theorem d_prog_30_method_3_19 : decode prog_30_method_3_code 19 = .ok (.getstatic 26, 3) := by decide +kernel
theorem d_prog_30_method_3_22 : decode prog_30_method_3_code 22 = .ok (.astore_n 2, 1) := by decide +kernel
theorem d_prog_30_method_3_23 : decode prog_30_method_3_code 23 = .ok (.goto 18, 3) := by decide +kernel
theorem ef_tr10 (m : MethodId) : entryFrame m #[(.int (1 : Int32)), (.int (0 : Int32))] 3 = mkF m 0 #[.val (.int (1 : Int32)), .val (.int (0 : Int32)), .unset] [] := by first | (simp [entryFrame, mkF, argsToLocals, Value.category]; done) | rfl
def Q_tr10 (Z : State) (wtr10_FALSE : Addr) (h0 : Heap) (n0 : Nat) (v : Option Value) (h : Heap) (L : List Loc) : Prop := v = some (.ref wtr10_FALSE) ∧ Fr n0 L ∧ h = h0
set_option maxRecDepth 65536 in
set_option maxHeartbeats 40000000 in
theorem rm_tr10 (l : Launch) (Z : State) (a0 : Array Value) (hw : ∀ d ∈ tables_1, d.before a0 Z = true) (ws : List Jvm.Cond) (wtr10_FALSE : Addr) (h0 : Heap) (n0 : Nat) (Z0 : n0 ≤ h0.size) (S_FALSE : Sta Z h0 "com/example/tauten/tauten/Interval" "FALSE" "Lcom/example/tauten/tauten/Interval;" (.ref wtr10_FALSE)) :
    MetFree l mt3 (head1 (Jvm.Cond.code mt3 prog_30_method_3_code 3 (some (.object "com/example/tauten/tauten/Interval")) :: ws) ({ frames := 0, cells := 0, slots := 0, locals := 0 } : Room)) (fun a U => a = #[(.int (1 : Int32)), (.int (0 : Int32))] ∧ Z.Warmed39 U.vm ∧ U.heap = h0) (fun _ _ _ _ _ => True) (fun _ U o U' => ∃ v L, o = .returned v ∧ (Q_tr10 Z wtr10_FALSE h0 n0) v U'.heap L ∧ FrameEnd U o U' L ({ frames := 0, cells := 0, slots := 0, locals := 0 } : Room).cells ({ frames := 0, cells := 0, slots := 0, locals := 0 } : Room).slots) := by
  refine MetFree.of_bodySF (plainFor_of_name pn1) hisR ?_
  intro p e s m args below meth c s₁ Bd hml0 hP hK
  obtain ⟨rfl, hZ, hh⟩ := hP
  have hx := Bd.exec
  have hby := Bd.bytes
  have hml : c.maxLocals = 3 := hml0
  have hown : s.vm.findClass "com/example/tauten/tauten/Interval" = some m.cls := findClass_of_methodNamed Bd.named
  have hnm := (name_of_methodNamed Bd.named Bd.method).1
  have X0 : Stand p l e ({ frames := 0, cells := 0, slots := 0, locals := 0 } : Room) s m #[(.int (1 : Int32)), (.int (0 : Int32))] below meth c s₁ [] 0 0 := Stand.of_body Bd
  have e0 : s₁.heap = h0 := by rw [← hh, Bd.state]; rfl
  have N0 := Fr.nil n0
  refine Wq.step (p := p) (e := e) (below := below) (En := (fun o t L => FrameEnd s o t L ({ frames := 0, cells := 0, slots := 0, locals := 0 } : Room).cells ({ frames := 0, cells := 0, slots := 0, locals := 0 } : Room).slots)) (Q := (Q_tr10 Z wtr10_FALSE h0 n0)) (fun t k => castTop (ef_tr10 m ) k) ?_
  show Wq _ _ _ _ _ (s₁.setTop (mkF m 0 #[.val (.int (1 : Int32)), .val (.int (0 : Int32)), .unset] []))
  refine W.iloadN X0 hx (pc' := 1) (hb hby d_prog_30_method_3_0) rfl ?_
  refine W.ifNo X0 hx (pc' := 4) (hb hby d_prog_30_method_3_1) ((if0 _ _).trans (feq (by decide : ¬ ((1 : Int32) = (0 : Int32)))).1) ?_
  refine W.iloadN X0 hx (pc' := 5) (hb hby d_prog_30_method_3_4) rfl ?_
  refine W.ifYes X0 hx (pc' := 15) (hb hby d_prog_30_method_3_5) ((if0 _ _).trans (teq (by decide : (0 : Int32) = (0 : Int32))).1) (by decide) (by decide) ?_
  refine W.iloadN X0 hx (pc' := 16) (hb hby d_prog_30_method_3_15) rfl ?_
  refine W.ifNo X0 hx (pc' := 19) (hb hby d_prog_30_method_3_16) ((if0 _ _).trans (feq (by decide : ¬ ((1 : Int32) = (0 : Int32)))).1) ?_
  obtain ⟨T9, X9, e9, st9⟩ := getS2 X0 hx hZ hown (host := "") (Or.inl (kw32 hw)) Via.refl e0 S_FALSE (g := (mkF m 19 #[.val (.int (1 : Int32)), .val (.int (0 : Int32)), .unset] [])) rfl (hb hby d_prog_30_method_3_19)
  refine Wq.step st9 ?_
  show Wq _ _ _ _ _ (T9.setTop (mkF m 22 #[.val (.int (1 : Int32)), .val (.int (0 : Int32)), .unset] [(.ref wtr10_FALSE)]))
  refine W.astoreN X9 hx (pc' := 23) (hb hby d_prog_30_method_3_22) rfl (l' := #[.val (.int (1 : Int32)), .val (.int (0 : Int32)), .val (.ref wtr10_FALSE)]) rfl ?_
  refine W.goto X9 hx (pc' := 41) (hb hby d_prog_30_method_3_23) (by decide) (by decide) ?_
  refine W.aloadN X9 hx (pc' := 42) (hb hby d_prog_30_method_3_41) rfl rfl ?_
  exact Wq.ret X9 (BodyLoose.notSynchronized Bd) (rv := some (.ref wtr10_FALSE)) (fun h => by rw [Bd.returns] at h; cases h) (fun _ hr => retOut X9 hx Bd.returns rfl (Or.inr (Or.inr (Or.inr (Or.inr ⟨rfl, rfl, rfl⟩)))) (hb hby d_prog_30_method_3_42) hr) (by decide) (by decide) ⟨rfl, N0, e9⟩
theorem kw36 {Z : State} {a0 : Array Value} (hw : ∀ d ∈ tables_1, d.before a0 Z = true) : (Jvm.Cond.fieldLink "com/example/tauten/tauten/Interval" (23 : Nat) "com/example/tauten/tauten/Interval" "TRUTHS" "Lcom/example/tauten/tauten/Interval;").before a0 Z = true := hw _ (List.mem_of_getElem? (i := 36) rfl)
theorem d_prog_30_method_3_8 : decode prog_30_method_3_code 8 = .ok (.getstatic 23, 3) := by decide +kernel
theorem d_prog_30_method_3_11 : decode prog_30_method_3_code 11 = .ok (.astore_n 2, 1) := by decide +kernel
theorem d_prog_30_method_3_12 : decode prog_30_method_3_code 12 = .ok (.goto 29, 3) := by decide +kernel
theorem ef_tr11 (m : MethodId) : entryFrame m #[(.int (1 : Int32)), (.int (1 : Int32))] 3 = mkF m 0 #[.val (.int (1 : Int32)), .val (.int (1 : Int32)), .unset] [] := by first | (simp [entryFrame, mkF, argsToLocals, Value.category]; done) | rfl
def Q_tr11 (Z : State) (wtr11_TRUTHS : Addr) (h0 : Heap) (n0 : Nat) (v : Option Value) (h : Heap) (L : List Loc) : Prop := v = some (.ref wtr11_TRUTHS) ∧ Fr n0 L ∧ h = h0
set_option maxRecDepth 65536 in
set_option maxHeartbeats 40000000 in
theorem rm_tr11 (l : Launch) (Z : State) (a0 : Array Value) (hw : ∀ d ∈ tables_1, d.before a0 Z = true) (ws : List Jvm.Cond) (wtr11_TRUTHS : Addr) (h0 : Heap) (n0 : Nat) (Z0 : n0 ≤ h0.size) (S_TRUTHS : Sta Z h0 "com/example/tauten/tauten/Interval" "TRUTHS" "Lcom/example/tauten/tauten/Interval;" (.ref wtr11_TRUTHS)) :
    MetFree l mt3 (head1 (Jvm.Cond.code mt3 prog_30_method_3_code 3 (some (.object "com/example/tauten/tauten/Interval")) :: ws) ({ frames := 0, cells := 0, slots := 0, locals := 0 } : Room)) (fun a U => a = #[(.int (1 : Int32)), (.int (1 : Int32))] ∧ Z.Warmed39 U.vm ∧ U.heap = h0) (fun _ _ _ _ _ => True) (fun _ U o U' => ∃ v L, o = .returned v ∧ (Q_tr11 Z wtr11_TRUTHS h0 n0) v U'.heap L ∧ FrameEnd U o U' L ({ frames := 0, cells := 0, slots := 0, locals := 0 } : Room).cells ({ frames := 0, cells := 0, slots := 0, locals := 0 } : Room).slots) := by
  refine MetFree.of_bodySF (plainFor_of_name pn1) hisR ?_
  intro p e s m args below meth c s₁ Bd hml0 hP hK
  obtain ⟨rfl, hZ, hh⟩ := hP
  have hx := Bd.exec
  have hby := Bd.bytes
  have hml : c.maxLocals = 3 := hml0
  have hown : s.vm.findClass "com/example/tauten/tauten/Interval" = some m.cls := findClass_of_methodNamed Bd.named
  have hnm := (name_of_methodNamed Bd.named Bd.method).1
  have X0 : Stand p l e ({ frames := 0, cells := 0, slots := 0, locals := 0 } : Room) s m #[(.int (1 : Int32)), (.int (1 : Int32))] below meth c s₁ [] 0 0 := Stand.of_body Bd
  have e0 : s₁.heap = h0 := by rw [← hh, Bd.state]; rfl
  have N0 := Fr.nil n0
  refine Wq.step (p := p) (e := e) (below := below) (En := (fun o t L => FrameEnd s o t L ({ frames := 0, cells := 0, slots := 0, locals := 0 } : Room).cells ({ frames := 0, cells := 0, slots := 0, locals := 0 } : Room).slots)) (Q := (Q_tr11 Z wtr11_TRUTHS h0 n0)) (fun t k => castTop (ef_tr11 m ) k) ?_
  show Wq _ _ _ _ _ (s₁.setTop (mkF m 0 #[.val (.int (1 : Int32)), .val (.int (1 : Int32)), .unset] []))
  refine W.iloadN X0 hx (pc' := 1) (hb hby d_prog_30_method_3_0) rfl ?_
  refine W.ifNo X0 hx (pc' := 4) (hb hby d_prog_30_method_3_1) ((if0 _ _).trans (feq (by decide : ¬ ((1 : Int32) = (0 : Int32)))).1) ?_
  refine W.iloadN X0 hx (pc' := 5) (hb hby d_prog_30_method_3_4) rfl ?_
  refine W.ifNo X0 hx (pc' := 8) (hb hby d_prog_30_method_3_5) ((if0 _ _).trans (feq (by decide : ¬ ((1 : Int32) = (0 : Int32)))).1) ?_
  obtain ⟨T10, X10, e10, st10⟩ := getS2 X0 hx hZ hown (host := "") (Or.inl (kw36 hw)) Via.refl e0 S_TRUTHS (g := (mkF m 8 #[.val (.int (1 : Int32)), .val (.int (1 : Int32)), .unset] [])) rfl (hb hby d_prog_30_method_3_8)
  refine Wq.step st10 ?_
  show Wq _ _ _ _ _ (T10.setTop (mkF m 11 #[.val (.int (1 : Int32)), .val (.int (1 : Int32)), .unset] [(.ref wtr11_TRUTHS)]))
  refine W.astoreN X10 hx (pc' := 12) (hb hby d_prog_30_method_3_11) rfl (l' := #[.val (.int (1 : Int32)), .val (.int (1 : Int32)), .val (.ref wtr11_TRUTHS)]) rfl ?_
  refine W.goto X10 hx (pc' := 41) (hb hby d_prog_30_method_3_12) (by decide) (by decide) ?_
  refine W.aloadN X10 hx (pc' := 42) (hb hby d_prog_30_method_3_41) rfl rfl ?_
  exact Wq.ret X10 (BodyLoose.notSynchronized Bd) (rv := some (.ref wtr11_TRUTHS)) (fun h => by rw [Bd.returns] at h; cases h) (fun _ hr => retOut X10 hx Bd.returns rfl (Or.inr (Or.inr (Or.inr (Or.inr ⟨rfl, rfl, rfl⟩)))) (hb hby d_prog_30_method_3_42) hr) (by decide) (by decide) ⟨rfl, N0, e10⟩
theorem d_prog_30_method_7_0 : decode prog_30_method_7_code 0 = .ok (.aload_n 0, 1) := by decide +kernel
theorem d_prog_30_method_7_1 : decode prog_30_method_7_code 1 = .ok (.getfield 7, 3) := by decide +kernel
theorem d_prog_30_method_7_4 : decode prog_30_method_7_code 4 = .ok (.lload_n 1, 1) := by decide +kernel
theorem d_prog_30_method_7_5 : decode prog_30_method_7_code 5 = .ok (.lcmp, 1) := by decide +kernel
theorem d_prog_30_method_7_6 : decode prog_30_method_7_code 6 = .ok (.ifCond .gt 16, 3) := by decide +kernel
theorem d_prog_30_method_7_9 : decode prog_30_method_7_code 9 = .ok (.lload_n 1, 1) := by decide +kernel
theorem d_prog_30_method_7_10 : decode prog_30_method_7_code 10 = .ok (.aload_n 0, 1) := by decide +kernel
theorem d_prog_30_method_7_11 : decode prog_30_method_7_code 11 = .ok (.getfield 13, 3) := by decide +kernel
theorem d_prog_30_method_7_14 : decode prog_30_method_7_code 14 = .ok (.lcmp, 1) := by decide +kernel
theorem d_prog_30_method_7_15 : decode prog_30_method_7_code 15 = .ok (.ifCond .gt 7, 3) := by decide +kernel
theorem d_prog_30_method_7_18 : decode prog_30_method_7_code 18 = .ok (.iconst 1, 1) := by decide +kernel
theorem d_prog_30_method_7_19 : decode prog_30_method_7_code 19 = .ok (.goto 4, 3) := by decide +kernel
theorem d_prog_30_method_7_22 : decode prog_30_method_7_code 22 = .ok (.iconst 0, 1) := by decide +kernel
theorem ef_con (m : MethodId) (thiscon : Addr) (ycon_1 : Int64) : entryFrame m #[(.ref thiscon), (.long ycon_1)] 3 = mkF m 0 #[.val (.ref thiscon), .val (.long ycon_1), .second] [] := by first | (simp [entryFrame, mkF, argsToLocals, Value.category]; done) | rfl
def f_con (ycon_1 : Int64) (wcon_low : Int64) (wcon_high : Int64) : Int32 := (if ycon_1 < wcon_low then (0 : Int32) else ((if wcon_high < ycon_1 then (0 : Int32) else (1 : Int32)) &&& 1))
def Q_con (Z : State) (thiscon : Addr) (ycon_1 : Int64) (wcon_low : Int64) (wcon_high : Int64) (h0 : Heap) (n0 : Nat) (v : Option Value) (h : Heap) (L : List Loc) : Prop := v = some (.int (f_con ycon_1 wcon_low wcon_high)) ∧ Fr n0 L ∧ h = h0
theorem d_prog_30_method_7_23 : decode prog_30_method_7_code 23 = .ok (.ireturn, 1) := by decide +kernel
abbrev mt4 : MethodName := ⟨"com/example/tauten/tauten/Interval", "contains", "(J)Z"⟩
set_option maxRecDepth 65536 in
set_option maxHeartbeats 40000000 in
theorem rm_con (l : Launch) (Z : State) (a0 : Array Value) (hw : ∀ d ∈ tables_1, d.before a0 Z = true) (ws : List Jvm.Cond) (thiscon : Addr) (ycon_1 : Int64) (wcon_low : Int64) (wcon_high : Int64) (h0 : Heap) (n0 : Nat) (Z0 : n0 ≤ h0.size) (F_thiscon_low : Fld Z h0 thiscon "com/example/tauten/tauten/Interval" "low" "J" (.long wcon_low)) (F_thiscon_high : Fld Z h0 thiscon "com/example/tauten/tauten/Interval" "high" "J" (.long wcon_high)) :
    MetFree l mt4 (head1 (Jvm.Cond.code mt4 prog_30_method_7_code 3 (some .boolean) :: ws) ({ frames := 0, cells := 0, slots := 0, locals := 0 } : Room)) (fun a U => a = #[(.ref thiscon), (.long ycon_1)] ∧ Z.Warmed39 U.vm ∧ U.heap = h0) (fun _ _ _ _ _ => True) (fun _ U o U' => ∃ v L, o = .returned v ∧ (Q_con Z thiscon ycon_1 wcon_low wcon_high h0 n0) v U'.heap L ∧ FrameEnd U o U' L ({ frames := 0, cells := 0, slots := 0, locals := 0 } : Room).cells ({ frames := 0, cells := 0, slots := 0, locals := 0 } : Room).slots) := by
  refine MetFree.of_bodySF (plainFor_of_name pn1) hisR ?_
  intro p e s m args below meth c s₁ Bd hml0 hP hK
  obtain ⟨rfl, hZ, hh⟩ := hP
  have hx := Bd.exec
  have hby := Bd.bytes
  have hml : c.maxLocals = 3 := hml0
  have hown : s.vm.findClass "com/example/tauten/tauten/Interval" = some m.cls := findClass_of_methodNamed Bd.named
  have hnm := (name_of_methodNamed Bd.named Bd.method).1
  have X0 : Stand p l e ({ frames := 0, cells := 0, slots := 0, locals := 0 } : Room) s m #[(.ref thiscon), (.long ycon_1)] below meth c s₁ [] 0 0 := Stand.of_body Bd
  have e0 : s₁.heap = h0 := by rw [← hh, Bd.state]; rfl
  have N0 := Fr.nil n0
  refine Wq.step (p := p) (e := e) (below := below) (En := (fun o t L => FrameEnd s o t L ({ frames := 0, cells := 0, slots := 0, locals := 0 } : Room).cells ({ frames := 0, cells := 0, slots := 0, locals := 0 } : Room).slots)) (Q := (Q_con Z thiscon ycon_1 wcon_low wcon_high h0 n0)) (fun t k => castTop (ef_con m thiscon ycon_1) k) ?_
  show Wq _ _ _ _ _ (s₁.setTop (mkF m 0 #[.val (.ref thiscon), .val (.long ycon_1), .second] []))
  refine W.aloadN X0 hx (pc' := 1) (hb hby d_prog_30_method_7_0) rfl rfl ?_
  obtain ⟨T11, X11, e11, st11⟩ := getF X0 hx hZ hown (host := "") (Or.inl (kw14 hw)) Via.refl e0 F_thiscon_low (g := (mkF m 1 #[.val (.ref thiscon), .val (.long ycon_1), .second] [(.ref thiscon)])) rfl rfl (hb hby d_prog_30_method_7_1)
  refine Wq.step st11 ?_
  show Wq _ _ _ _ _ (T11.setTop (mkF m 4 #[.val (.ref thiscon), .val (.long ycon_1), .second] [(.long wcon_low)]))
  refine W.lloadN X11 hx (pc' := 5) (hb hby d_prog_30_method_7_4) rfl ?_
  refine W.lcmp X11 hx (pc' := 6) (hb hby d_prog_30_method_7_5)  ?_
  by_cases hc6 : ycon_1 < wcon_low
  · skip
    refine W.ifYes X11 hx (pc' := 22) (hb hby d_prog_30_method_7_6) ((if0 _ _).trans (tlt ((lw_gt _ _).mpr hc6)).2.2.1) (by decide) (by decide) ?_
    refine W.iconst X11 hx (pc' := 23) (hb hby d_prog_30_method_7_22) (z := (0 : Int32)) rfl ?_
    exact Wq.ret X11 (BodyLoose.notSynchronized Bd) (rv := some (.int (0 : Int32))) (fun h => by rw [Bd.returns] at h; cases h) (fun _ hr => retN X11 hx (t := .boolean) Bd.returns (by simp) (hb hby d_prog_30_method_7_23) hr) (by decide) (by decide) ⟨by simp only [f_con, if_pos hc6], N0, e11⟩
  · skip
    refine W.ifNo X11 hx (pc' := 9) (hb hby d_prog_30_method_7_6) ((if0 _ _).trans (flt (mt (lw_gt _ _).mp hc6)).2.2.1) ?_
    refine W.lloadN X11 hx (pc' := 10) (hb hby d_prog_30_method_7_9) rfl ?_
    refine W.aloadN X11 hx (pc' := 11) (hb hby d_prog_30_method_7_10) rfl rfl ?_
    obtain ⟨T12, X12, e12, st12⟩ := getF X11 hx hZ hown (host := "") (Or.inl (kw16 hw)) Via.refl e11 F_thiscon_high (g := (mkF m 11 #[.val (.ref thiscon), .val (.long ycon_1), .second] [(.ref thiscon), (.long ycon_1)])) rfl rfl (hb hby d_prog_30_method_7_11)
    refine Wq.step st12 ?_
    show Wq _ _ _ _ _ (T12.setTop (mkF m 14 #[.val (.ref thiscon), .val (.long ycon_1), .second] [(.long wcon_high), (.long ycon_1)]))
    refine W.lcmp X12 hx (pc' := 15) (hb hby d_prog_30_method_7_14)  ?_
    refine Wq.by (U' := T12.setTop (mkF m 23 #[.val (.ref thiscon), .val (.long ycon_1), .second] [(.int (if wcon_high < ycon_1 then (0 : Int32) else (1 : Int32)))])) (fun k => ?_) ?_
    · skip
      by_cases hm15 : wcon_high < ycon_1
      · skip
        refine W.ifYes X12 hx (pc' := 22) (hb hby d_prog_30_method_7_15) ((if0 _ _).trans (tlt ((lw_gt _ _).mpr hm15)).2.2.1) (by decide) (by decide) ?_
        refine W.iconst X12 hx (pc' := 23) (hb hby d_prog_30_method_7_22) (z := (0 : Int32)) rfl ?_
        simp only [if_pos hm15] at k
        exact k
      · skip
        refine W.ifNo X12 hx (pc' := 18) (hb hby d_prog_30_method_7_15) ((if0 _ _).trans (flt (mt (lw_gt _ _).mp hm15)).2.2.1) ?_
        refine W.iconst X12 hx (pc' := 19) (hb hby d_prog_30_method_7_18) (z := (1 : Int32)) rfl ?_
        refine W.goto X12 hx (pc' := 23) (hb hby d_prog_30_method_7_19) (by decide) (by decide) ?_
        simp only [if_neg hm15] at k
        exact k
    exact Wq.ret X12 (BodyLoose.notSynchronized Bd) (rv := some (.int ((if wcon_high < ycon_1 then (0 : Int32) else (1 : Int32)) &&& 1))) (fun h => by rw [Bd.returns] at h; cases h) (fun _ hr => retN X12 hx (t := .boolean) Bd.returns (by simp) (hb hby d_prog_30_method_7_23) hr) (by decide) (by decide) ⟨by simp only [f_con, if_neg hc6], N0, e12⟩
theorem d_prog_30_method_12_0 : decode prog_30_method_12_code 0 = .ok (.aload_n 1, 1) := by decide +kernel
theorem d_prog_30_method_12_1 : decode prog_30_method_12_code 1 = .ok (.instanceof 8, 3) := by decide +kernel
theorem d_prog_30_method_12_4 : decode prog_30_method_12_code 4 = .ok (.ifCond .eq 36, 3) := by decide +kernel
theorem d_prog_30_method_12_7 : decode prog_30_method_12_code 7 = .ok (.aload_n 1, 1) := by decide +kernel
theorem d_prog_30_method_12_8 : decode prog_30_method_12_code 8 = .ok (.checkcast 8, 3) := by decide +kernel
theorem d_prog_30_method_12_11 : decode prog_30_method_12_code 11 = .ok (.astore_n 2, 1) := by decide +kernel
theorem d_prog_30_method_12_12 : decode prog_30_method_12_code 12 = .ok (.aload_n 0, 1) := by decide +kernel
theorem d_prog_30_method_12_13 : decode prog_30_method_12_code 13 = .ok (.getfield 7, 3) := by decide +kernel
theorem d_prog_30_method_12_16 : decode prog_30_method_12_code 16 = .ok (.aload_n 2, 1) := by decide +kernel
theorem d_prog_30_method_12_17 : decode prog_30_method_12_code 17 = .ok (.getfield 7, 3) := by decide +kernel
theorem d_prog_30_method_12_20 : decode prog_30_method_12_code 20 = .ok (.lcmp, 1) := by decide +kernel
theorem d_prog_30_method_12_21 : decode prog_30_method_12_code 21 = .ok (.ifCond .ne 19, 3) := by decide +kernel
theorem d_prog_30_method_12_24 : decode prog_30_method_12_code 24 = .ok (.aload_n 0, 1) := by decide +kernel
theorem d_prog_30_method_12_25 : decode prog_30_method_12_code 25 = .ok (.getfield 13, 3) := by decide +kernel
theorem d_prog_30_method_12_28 : decode prog_30_method_12_code 28 = .ok (.aload_n 2, 1) := by decide +kernel
theorem d_prog_30_method_12_29 : decode prog_30_method_12_code 29 = .ok (.getfield 13, 3) := by decide +kernel
theorem d_prog_30_method_12_32 : decode prog_30_method_12_code 32 = .ok (.lcmp, 1) := by decide +kernel
theorem d_prog_30_method_12_33 : decode prog_30_method_12_code 33 = .ok (.ifCond .ne 7, 3) := by decide +kernel
theorem d_prog_30_method_12_36 : decode prog_30_method_12_code 36 = .ok (.iconst 1, 1) := by decide +kernel
theorem d_prog_30_method_12_37 : decode prog_30_method_12_code 37 = .ok (.goto 4, 3) := by decide +kernel
theorem d_prog_30_method_12_40 : decode prog_30_method_12_code 40 = .ok (.iconst 0, 1) := by decide +kernel
theorem ef_eq (m : MethodId) (thiseq : Addr) (aeq_1 : Addr) : entryFrame m #[(.ref thiseq), (.ref aeq_1)] 3 = mkF m 0 #[.val (.ref thiseq), .val (.ref aeq_1), .unset] [] := by first | (simp [entryFrame, mkF, argsToLocals, Value.category]; done) | rfl
def f_eq (weq_low : Int64) (weq_low_aeq_1 : Int64) (weq_high : Int64) (weq_high_aeq_1 : Int64) : Int32 := (if weq_low = weq_low_aeq_1 then ((if weq_high = weq_high_aeq_1 then (1 : Int32) else (0 : Int32)) &&& 1) else (0 : Int32))
def Q_eq (Z : State) (thiseq : Addr) (aeq_1 : Addr) (weq_low : Int64) (weq_low_aeq_1 : Int64) (weq_high : Int64) (weq_high_aeq_1 : Int64) (h0 : Heap) (n0 : Nat) (v : Option Value) (h : Heap) (L : List Loc) : Prop := v = some (.int (f_eq weq_low weq_low_aeq_1 weq_high weq_high_aeq_1)) ∧ Fr n0 L ∧ h = h0
theorem d_prog_30_method_12_41 : decode prog_30_method_12_code 41 = .ok (.ireturn, 1) := by decide +kernel
abbrev mt5 : MethodName := ⟨"com/example/tauten/tauten/Interval", "equals", "(Ljava/lang/Object;)Z"⟩
set_option maxRecDepth 65536 in
set_option maxHeartbeats 40000000 in
theorem rm_eq (l : Launch) (Z : State) (a0 : Array Value) (hw : ∀ d ∈ tables_1, d.before a0 Z = true) (ws : List Jvm.Cond) (thiseq : Addr) (aeq_1 : Addr) (weq_low : Int64) (weq_low_aeq_1 : Int64) (weq_high : Int64) (weq_high_aeq_1 : Int64) (h0 : Heap) (n0 : Nat) (Z0 : n0 ≤ h0.size) (E_aeq_1 : Exa Z h0 aeq_1 "com/example/tauten/tauten/Interval") (F_thiseq_low : Fld Z h0 thiseq "com/example/tauten/tauten/Interval" "low" "J" (.long weq_low)) (F_aeq_1_low : Fld Z h0 aeq_1 "com/example/tauten/tauten/Interval" "low" "J" (.long weq_low_aeq_1)) (F_thiseq_high : Fld Z h0 thiseq "com/example/tauten/tauten/Interval" "high" "J" (.long weq_high)) (F_aeq_1_high : Fld Z h0 aeq_1 "com/example/tauten/tauten/Interval" "high" "J" (.long weq_high_aeq_1)) :
    MetFree l mt5 (head1 (Jvm.Cond.code mt5 prog_30_method_12_code 3 (some .boolean) :: ws) ({ frames := 0, cells := 0, slots := 0, locals := 0 } : Room)) (fun a U => a = #[(.ref thiseq), (.ref aeq_1)] ∧ Z.Warmed39 U.vm ∧ U.heap = h0) (fun _ _ _ _ _ => True) (fun _ U o U' => ∃ v L, o = .returned v ∧ (Q_eq Z thiseq aeq_1 weq_low weq_low_aeq_1 weq_high weq_high_aeq_1 h0 n0) v U'.heap L ∧ FrameEnd U o U' L ({ frames := 0, cells := 0, slots := 0, locals := 0 } : Room).cells ({ frames := 0, cells := 0, slots := 0, locals := 0 } : Room).slots) := by
  refine MetFree.of_bodySF (plainFor_of_name pn1) hisR ?_
  intro p e s m args below meth c s₁ Bd hml0 hP hK
  obtain ⟨rfl, hZ, hh⟩ := hP
  have hx := Bd.exec
  have hby := Bd.bytes
  have hml : c.maxLocals = 3 := hml0
  have hown : s.vm.findClass "com/example/tauten/tauten/Interval" = some m.cls := findClass_of_methodNamed Bd.named
  have hnm := (name_of_methodNamed Bd.named Bd.method).1
  have X0 : Stand p l e ({ frames := 0, cells := 0, slots := 0, locals := 0 } : Room) s m #[(.ref thiseq), (.ref aeq_1)] below meth c s₁ [] 0 0 := Stand.of_body Bd
  have e0 : s₁.heap = h0 := by rw [← hh, Bd.state]; rfl
  have N0 := Fr.nil n0
  refine Wq.step (p := p) (e := e) (below := below) (En := (fun o t L => FrameEnd s o t L ({ frames := 0, cells := 0, slots := 0, locals := 0 } : Room).cells ({ frames := 0, cells := 0, slots := 0, locals := 0 } : Room).slots)) (Q := (Q_eq Z thiseq aeq_1 weq_low weq_low_aeq_1 weq_high weq_high_aeq_1 h0 n0)) (fun t k => castTop (ef_eq m thiseq aeq_1) k) ?_
  show Wq _ _ _ _ _ (s₁.setTop (mkF m 0 #[.val (.ref thiseq), .val (.ref aeq_1), .unset] []))
  refine W.aloadN X0 hx (pc' := 1) (hb hby d_prog_30_method_12_0) rfl rfl ?_
  obtain ⟨T13, X13, e13, st13⟩ := instY X0 hx hZ hown (kw23 hw) e0 (Ins.self E_aeq_1) (g := (mkF m 1 #[.val (.ref thiseq), .val (.ref aeq_1), .unset] [(.ref aeq_1)])) rfl rfl (hb hby d_prog_30_method_12_1)
  refine Wq.step st13 ?_
  show Wq _ _ _ _ _ (T13.setTop (mkF m 4 #[.val (.ref thiseq), .val (.ref aeq_1), .unset] [(.int (1 : Int32))]))
  refine W.ifNo X13 hx (pc' := 7) (hb hby d_prog_30_method_12_4) ((if0 _ _).trans (feq (by decide : ¬ ((1 : Int32) = (0 : Int32)))).1) ?_
  refine W.aloadN X13 hx (pc' := 8) (hb hby d_prog_30_method_12_7) rfl rfl ?_
  obtain ⟨T14, X14, e14, st14⟩ := castY X13 hx hZ hown (kw23 hw) e13 (Ins.self E_aeq_1) (g := (mkF m 8 #[.val (.ref thiseq), .val (.ref aeq_1), .unset] [(.ref aeq_1)])) rfl rfl (hb hby d_prog_30_method_12_8)
  refine Wq.step st14 ?_
  show Wq _ _ _ _ _ (T14.setTop (mkF m 11 #[.val (.ref thiseq), .val (.ref aeq_1), .unset] [(.ref aeq_1)]))
  refine W.astoreN X14 hx (pc' := 12) (hb hby d_prog_30_method_12_11) rfl (l' := #[.val (.ref thiseq), .val (.ref aeq_1), .val (.ref aeq_1)]) rfl ?_
  refine W.aloadN X14 hx (pc' := 13) (hb hby d_prog_30_method_12_12) rfl rfl ?_
  obtain ⟨T15, X15, e15, st15⟩ := getF X14 hx hZ hown (host := "") (Or.inl (kw14 hw)) Via.refl e14 F_thiseq_low (g := (mkF m 13 #[.val (.ref thiseq), .val (.ref aeq_1), .val (.ref aeq_1)] [(.ref thiseq)])) rfl rfl (hb hby d_prog_30_method_12_13)
  refine Wq.step st15 ?_
  show Wq _ _ _ _ _ (T15.setTop (mkF m 16 #[.val (.ref thiseq), .val (.ref aeq_1), .val (.ref aeq_1)] [(.long weq_low)]))
  refine W.aloadN X15 hx (pc' := 17) (hb hby d_prog_30_method_12_16) rfl rfl ?_
  obtain ⟨T16, X16, e16, st16⟩ := getF X15 hx hZ hown (host := "") (Or.inl (kw14 hw)) Via.refl e15 F_aeq_1_low (g := (mkF m 17 #[.val (.ref thiseq), .val (.ref aeq_1), .val (.ref aeq_1)] [(.ref aeq_1), (.long weq_low)])) rfl rfl (hb hby d_prog_30_method_12_17)
  refine Wq.step st16 ?_
  show Wq _ _ _ _ _ (T16.setTop (mkF m 20 #[.val (.ref thiseq), .val (.ref aeq_1), .val (.ref aeq_1)] [(.long weq_low_aeq_1), (.long weq_low)]))
  refine W.lcmp X16 hx (pc' := 21) (hb hby d_prog_30_method_12_20)  ?_
  by_cases hc21 : weq_low = weq_low_aeq_1
  · skip
    refine W.ifNo X16 hx (pc' := 24) (hb hby d_prog_30_method_12_21) ((if0 _ _).trans (teq ((lw_eq _ _).mpr hc21)).2) ?_
    refine W.aloadN X16 hx (pc' := 25) (hb hby d_prog_30_method_12_24) rfl rfl ?_
    obtain ⟨T17, X17, e17, st17⟩ := getF X16 hx hZ hown (host := "") (Or.inl (kw16 hw)) Via.refl e16 F_thiseq_high (g := (mkF m 25 #[.val (.ref thiseq), .val (.ref aeq_1), .val (.ref aeq_1)] [(.ref thiseq)])) rfl rfl (hb hby d_prog_30_method_12_25)
    refine Wq.step st17 ?_
    show Wq _ _ _ _ _ (T17.setTop (mkF m 28 #[.val (.ref thiseq), .val (.ref aeq_1), .val (.ref aeq_1)] [(.long weq_high)]))
    refine W.aloadN X17 hx (pc' := 29) (hb hby d_prog_30_method_12_28) rfl rfl ?_
    obtain ⟨T18, X18, e18, st18⟩ := getF X17 hx hZ hown (host := "") (Or.inl (kw16 hw)) Via.refl e17 F_aeq_1_high (g := (mkF m 29 #[.val (.ref thiseq), .val (.ref aeq_1), .val (.ref aeq_1)] [(.ref aeq_1), (.long weq_high)])) rfl rfl (hb hby d_prog_30_method_12_29)
    refine Wq.step st18 ?_
    show Wq _ _ _ _ _ (T18.setTop (mkF m 32 #[.val (.ref thiseq), .val (.ref aeq_1), .val (.ref aeq_1)] [(.long weq_high_aeq_1), (.long weq_high)]))
    refine W.lcmp X18 hx (pc' := 33) (hb hby d_prog_30_method_12_32)  ?_
    refine Wq.by (U' := T18.setTop (mkF m 41 #[.val (.ref thiseq), .val (.ref aeq_1), .val (.ref aeq_1)] [(.int (if weq_high = weq_high_aeq_1 then (1 : Int32) else (0 : Int32)))])) (fun k => ?_) ?_
    · skip
      by_cases hm33 : weq_high = weq_high_aeq_1
      · skip
        refine W.ifNo X18 hx (pc' := 36) (hb hby d_prog_30_method_12_33) ((if0 _ _).trans (teq ((lw_eq _ _).mpr hm33)).2) ?_
        refine W.iconst X18 hx (pc' := 37) (hb hby d_prog_30_method_12_36) (z := (1 : Int32)) rfl ?_
        refine W.goto X18 hx (pc' := 41) (hb hby d_prog_30_method_12_37) (by decide) (by decide) ?_
        simp only [if_pos hm33] at k
        exact k
      · skip
        refine W.ifYes X18 hx (pc' := 40) (hb hby d_prog_30_method_12_33) ((if0 _ _).trans (feq (mt (lw_eq _ _).mp hm33)).2) (by decide) (by decide) ?_
        refine W.iconst X18 hx (pc' := 41) (hb hby d_prog_30_method_12_40) (z := (0 : Int32)) rfl ?_
        simp only [if_neg hm33] at k
        exact k
    exact Wq.ret X18 (BodyLoose.notSynchronized Bd) (rv := some (.int ((if weq_high = weq_high_aeq_1 then (1 : Int32) else (0 : Int32)) &&& 1))) (fun h => by rw [Bd.returns] at h; cases h) (fun _ hr => retN X18 hx (t := .boolean) Bd.returns (by simp) (hb hby d_prog_30_method_12_41) hr) (by decide) (by decide) ⟨by simp only [f_eq, if_pos hc21], N0, e18⟩
  · skip
    refine W.ifYes X16 hx (pc' := 40) (hb hby d_prog_30_method_12_21) ((if0 _ _).trans (feq (mt (lw_eq _ _).mp hc21)).2) (by decide) (by decide) ?_
    refine W.iconst X16 hx (pc' := 41) (hb hby d_prog_30_method_12_40) (z := (0 : Int32)) rfl ?_
    exact Wq.ret X16 (BodyLoose.notSynchronized Bd) (rv := some (.int (0 : Int32))) (fun h => by rw [Bd.returns] at h; cases h) (fun _ hr => retN X16 hx (t := .boolean) Bd.returns (by simp) (hb hby d_prog_30_method_12_41) hr) (by decide) (by decide) ⟨by simp only [f_eq, if_neg hc21], N0, e16⟩
theorem own_e0 : (0 : Int64).toInt = 0 := by decide
theorem own_e1 : (1 : Int64).toInt = 1 := by decide
theorem own_c11 (y : Int64) : f_con y (0 : Int64) (1 : Int64) = (if y = (0 : Int64) then (1 : Int32) else (if y = (1 : Int64) then (1 : Int32) else (0 : Int32))) := by
  unfold f_con
  simp only [Int64.lt_iff_toInt_lt, ← Int64.toInt_inj, own_e0, own_e1]
  repeat' split
  all_goals first | rfl | (exfalso; omega)
theorem own_c10 (y : Int64) : f_con y (0 : Int64) (0 : Int64) = (if y = (0 : Int64) then (1 : Int32) else (0 : Int32)) := by
  unfold f_con
  simp only [Int64.lt_iff_toInt_lt, ← Int64.toInt_inj, own_e0, own_e1]
  repeat' split
  all_goals first | rfl | (exfalso; omega)
theorem own_c01 (y : Int64) : f_con y (1 : Int64) (1 : Int64) = (if y = (1 : Int64) then (1 : Int32) else (0 : Int32)) := by
  unfold f_con
  simp only [Int64.lt_iff_toInt_lt, ← Int64.toInt_inj, own_e0, own_e1]
  repeat' split
  all_goals first | rfl | (exfalso; omega)
theorem own_c00 (y : Int64) : f_con y (1 : Int64) (0 : Int64) = (0 : Int32) := by
  unfold f_con
  simp only [Int64.lt_iff_toInt_lt, ← Int64.toInt_inj, own_e0, own_e1]
  repeat' split
  all_goals first | rfl | (exfalso; omega)
theorem kw5 {Z : State} {a0 : Array Value} (hw : ∀ d ∈ tables_1, d.before a0 Z = true) : (Jvm.Cond.laysStatic "com/example/tauten/tauten/Interval" "EMPTY" "Lcom/example/tauten/tauten/Interval;").before a0 Z = true := hw _ (List.mem_of_getElem? (i := 5) rfl)
theorem kw33 {Z : State} {a0 : Array Value} (hw : ∀ d ∈ tables_1, d.before a0 Z = true) : (Jvm.Cond.laysStatic "com/example/tauten/tauten/Interval" "FALSE" "Lcom/example/tauten/tauten/Interval;").before a0 Z = true := hw _ (List.mem_of_getElem? (i := 33) rfl)
theorem kw35 {Z : State} {a0 : Array Value} (hw : ∀ d ∈ tables_1, d.before a0 Z = true) : (Jvm.Cond.laysStatic "com/example/tauten/tauten/Interval" "TRUE" "Lcom/example/tauten/tauten/Interval;").before a0 Z = true := hw _ (List.mem_of_getElem? (i := 35) rfl)
theorem kw37 {Z : State} {a0 : Array Value} (hw : ∀ d ∈ tables_1, d.before a0 Z = true) : (Jvm.Cond.laysStatic "com/example/tauten/tauten/Interval" "TRUTHS" "Lcom/example/tauten/tauten/Interval;").before a0 Z = true := hw _ (List.mem_of_getElem? (i := 37) rfl)
theorem kw3 {Z : State} {a0 : Array Value} (hw : ∀ d ∈ tables_1, d.before a0 Z = true) : (Jvm.Cond.code ({ cls := "com/example/tauten/tauten/Interval", name := "of", desc := "(JJ)Lcom/example/tauten/tauten/Interval;" } : Jvm.MethodName) prog_30_method_2_code (4 : Nat) (Option.some (Jvm.ClassFile.FieldType.object "com/example/tauten/tauten/Interval"))).before a0 Z = true := hw _ (List.mem_of_getElem? (i := 3) rfl)
theorem pd2 : parseMethodDescriptor "(JJ)Lcom/example/tauten/tauten/Interval;" = some ⟨[.long, .long], some (.object "com/example/tauten/tauten/Interval")⟩ := by decide +kernel
theorem kw0 {Z : State} {a0 : Array Value} (hw : ∀ d ∈ tables_1, d.before a0 Z = true) : (Jvm.Cond.methodLink "com/example/tauten/tauten/IntervalTruthsPinLaw" (7 : Nat) ({ cls := "com/example/tauten/tauten/Interval", name := "of", desc := "(JJ)Lcom/example/tauten/tauten/Interval;" } : Jvm.MethodName)).before a0 Z = true := hw _ (List.mem_of_getElem? (i := 0) rfl)
theorem kw1 {Z : State} {a0 : Array Value} (hw : ∀ d ∈ tables_1, d.before a0 Z = true) : (Jvm.Cond.static ({ cls := "com/example/tauten/tauten/Interval", name := "of", desc := "(JJ)Lcom/example/tauten/tauten/Interval;" } : Jvm.MethodName)).before a0 Z = true := hw _ (List.mem_of_getElem? (i := 1) rfl)
theorem kw8 {Z : State} {a0 : Array Value} (hw : ∀ d ∈ tables_1, d.before a0 Z = true) : (Jvm.Cond.code ({ cls := "com/example/tauten/tauten/Interval", name := "truths", desc := "(ZZ)Lcom/example/tauten/tauten/Interval;" } : Jvm.MethodName) prog_30_method_3_code (3 : Nat) (Option.some (Jvm.ClassFile.FieldType.object "com/example/tauten/tauten/Interval"))).before a0 Z = true := hw _ (List.mem_of_getElem? (i := 8) rfl)
theorem pd3 : parseMethodDescriptor "(ZZ)Lcom/example/tauten/tauten/Interval;" = some ⟨[.boolean, .boolean], some (.object "com/example/tauten/tauten/Interval")⟩ := by decide +kernel
theorem kw6 {Z : State} {a0 : Array Value} (hw : ∀ d ∈ tables_1, d.before a0 Z = true) : (Jvm.Cond.methodLink "com/example/tauten/tauten/IntervalTruthsPinLaw" (13 : Nat) ({ cls := "com/example/tauten/tauten/Interval", name := "truths", desc := "(ZZ)Lcom/example/tauten/tauten/Interval;" } : Jvm.MethodName)).before a0 Z = true := hw _ (List.mem_of_getElem? (i := 6) rfl)
theorem kw7 {Z : State} {a0 : Array Value} (hw : ∀ d ∈ tables_1, d.before a0 Z = true) : (Jvm.Cond.static ({ cls := "com/example/tauten/tauten/Interval", name := "truths", desc := "(ZZ)Lcom/example/tauten/tauten/Interval;" } : Jvm.MethodName)).before a0 Z = true := hw _ (List.mem_of_getElem? (i := 7) rfl)
theorem kw13 {Z : State} {a0 : Array Value} (hw : ∀ d ∈ tables_1, d.before a0 Z = true) : (Jvm.Cond.code ({ cls := "com/example/tauten/tauten/Interval", name := "contains", desc := "(J)Z" } : Jvm.MethodName) prog_30_method_7_code (3 : Nat) (Option.some Jvm.ClassFile.FieldType.boolean)).before a0 Z = true := hw _ (List.mem_of_getElem? (i := 13) rfl)
theorem pd4 : parseMethodDescriptor "(J)Z" = some ⟨[.long], some .boolean⟩ := by decide +kernel
theorem kw9 {Z : State} {a0 : Array Value} (hw : ∀ d ∈ tables_1, d.before a0 Z = true) : (Jvm.Cond.methodLink "com/example/tauten/tauten/IntervalTruthsPinLaw" (17 : Nat) ({ cls := "com/example/tauten/tauten/Interval", name := "contains", desc := "(J)Z" } : Jvm.MethodName)).before a0 Z = true := hw _ (List.mem_of_getElem? (i := 9) rfl)
theorem kw10 {Z : State} {a0 : Array Value} (hw : ∀ d ∈ tables_1, d.before a0 Z = true) : (Jvm.Cond.declares ({ cls := "com/example/tauten/tauten/Interval", name := "contains", desc := "(J)Z" } : Jvm.MethodName)).before a0 Z = true := hw _ (List.mem_of_getElem? (i := 10) rfl)
theorem kw12 {Z : State} {a0 : Array Value} (hw : ∀ d ∈ tables_1, d.before a0 Z = true) : (Jvm.Cond.selects "com/example/tauten/tauten/Interval" ({ cls := "com/example/tauten/tauten/Interval", name := "contains", desc := "(J)Z" } : Jvm.MethodName) ({ cls := "com/example/tauten/tauten/Interval", name := "contains", desc := "(J)Z" } : Jvm.MethodName)).before a0 Z = true := hw _ (List.mem_of_getElem? (i := 12) rfl)
theorem kw11 {Z : State} {a0 : Array Value} (hw : ∀ d ∈ tables_1, d.before a0 Z = true) : (Jvm.Cond.instanceMethod ({ cls := "com/example/tauten/tauten/Interval", name := "contains", desc := "(J)Z" } : Jvm.MethodName)).before a0 Z = true := hw _ (List.mem_of_getElem? (i := 11) rfl)
theorem kw22 {Z : State} {a0 : Array Value} (hw : ∀ d ∈ tables_1, d.before a0 Z = true) : (Jvm.Cond.code ({ cls := "com/example/tauten/tauten/Interval", name := "equals", desc := "(Ljava/lang/Object;)Z" } : Jvm.MethodName) prog_30_method_12_code (3 : Nat) (Option.some Jvm.ClassFile.FieldType.boolean)).before a0 Z = true := hw _ (List.mem_of_getElem? (i := 22) rfl)
theorem pd5 : parseMethodDescriptor "(Ljava/lang/Object;)Z" = some ⟨[(.object "java/lang/Object")], some .boolean⟩ := by decide +kernel
theorem kw18 {Z : State} {a0 : Array Value} (hw : ∀ d ∈ tables_1, d.before a0 Z = true) : (Jvm.Cond.methodLink "com/example/tauten/tauten/IntervalTruthsPinLaw" (21 : Nat) ({ cls := "com/example/tauten/tauten/Interval", name := "equals", desc := "(Ljava/lang/Object;)Z" } : Jvm.MethodName)).before a0 Z = true := hw _ (List.mem_of_getElem? (i := 18) rfl)
theorem kw19 {Z : State} {a0 : Array Value} (hw : ∀ d ∈ tables_1, d.before a0 Z = true) : (Jvm.Cond.declares ({ cls := "com/example/tauten/tauten/Interval", name := "equals", desc := "(Ljava/lang/Object;)Z" } : Jvm.MethodName)).before a0 Z = true := hw _ (List.mem_of_getElem? (i := 19) rfl)
theorem kw21 {Z : State} {a0 : Array Value} (hw : ∀ d ∈ tables_1, d.before a0 Z = true) : (Jvm.Cond.selects "com/example/tauten/tauten/Interval" ({ cls := "com/example/tauten/tauten/Interval", name := "equals", desc := "(Ljava/lang/Object;)Z" } : Jvm.MethodName) ({ cls := "com/example/tauten/tauten/Interval", name := "equals", desc := "(Ljava/lang/Object;)Z" } : Jvm.MethodName)).before a0 Z = true := hw _ (List.mem_of_getElem? (i := 21) rfl)
theorem kw20 {Z : State} {a0 : Array Value} (hw : ∀ d ∈ tables_1, d.before a0 Z = true) : (Jvm.Cond.instanceMethod ({ cls := "com/example/tauten/tauten/Interval", name := "equals", desc := "(Ljava/lang/Object;)Z" } : Jvm.MethodName)).before a0 Z = true := hw _ (List.mem_of_getElem? (i := 20) rfl)
theorem pn2 : plainName "com/example/tauten/tauten/IntervalTruthsPinLaw" = true := by first | (simp [plainName, overriddenIn]; done) | decide +kernel
theorem ef_law (m : MethodId) (xlaw_1 : Int32) (ylaw_2 : Int64) : entryFrame m #[(.int xlaw_1), (.long ylaw_2)] maxLocals = mkF m 0 #[.val (.int xlaw_1), .val (.long ylaw_2), .second, .unset, .unset, .unset, .unset, .unset, .unset, .unset] [] := by first | (simp [entryFrame, mkF, argsToLocals, Value.category, maxLocals]; done) | rfl
def Q_law (n0 : Nat) (v : Option Value) (h : Heap) (L : List Loc) : Prop := v = some (.int 1) ∧ Fr n0 L
set_option maxRecDepth 65536 in
set_option maxHeartbeats 40000000 in
theorem rm_law (l : Launch) (Z : State) (a0 : Array Value) (hw : ∀ d ∈ tables_1, d.before a0 Z = true) (ws : List Jvm.Cond) (xlaw_1 : Int32) (ylaw_2 : Int64) (uEMPTY : Addr) (uFALSE : Addr) (uTRUE : Addr) (uTRUTHS : Addr) (h0 : Heap) (n0 : Nat) (Z0 : n0 ≤ h0.size) (S_EMPTY : Sta Z h0 "com/example/tauten/tauten/Interval" "EMPTY" "Lcom/example/tauten/tauten/Interval;" (.ref uEMPTY)) (E_uEMPTY : Exa Z h0 uEMPTY "com/example/tauten/tauten/Interval") (F_uEMPTY_low : Fld Z h0 uEMPTY "com/example/tauten/tauten/Interval" "low" "J" (.long (1 : Int64))) (F_uEMPTY_high : Fld Z h0 uEMPTY "com/example/tauten/tauten/Interval" "high" "J" (.long (0 : Int64))) (S_FALSE : Sta Z h0 "com/example/tauten/tauten/Interval" "FALSE" "Lcom/example/tauten/tauten/Interval;" (.ref uFALSE)) (E_uFALSE : Exa Z h0 uFALSE "com/example/tauten/tauten/Interval") (F_uFALSE_low : Fld Z h0 uFALSE "com/example/tauten/tauten/Interval" "low" "J" (.long (0 : Int64))) (F_uFALSE_high : Fld Z h0 uFALSE "com/example/tauten/tauten/Interval" "high" "J" (.long (0 : Int64))) (S_TRUE : Sta Z h0 "com/example/tauten/tauten/Interval" "TRUE" "Lcom/example/tauten/tauten/Interval;" (.ref uTRUE)) (E_uTRUE : Exa Z h0 uTRUE "com/example/tauten/tauten/Interval") (F_uTRUE_low : Fld Z h0 uTRUE "com/example/tauten/tauten/Interval" "low" "J" (.long (1 : Int64))) (F_uTRUE_high : Fld Z h0 uTRUE "com/example/tauten/tauten/Interval" "high" "J" (.long (1 : Int64))) (S_TRUTHS : Sta Z h0 "com/example/tauten/tauten/Interval" "TRUTHS" "Lcom/example/tauten/tauten/Interval;" (.ref uTRUTHS)) (E_uTRUTHS : Exa Z h0 uTRUTHS "com/example/tauten/tauten/Interval") (F_uTRUTHS_low : Fld Z h0 uTRUTHS "com/example/tauten/tauten/Interval" "low" "J" (.long (0 : Int64))) (F_uTRUTHS_high : Fld Z h0 uTRUTHS "com/example/tauten/tauten/Interval" "high" "J" (.long (1 : Int64))) :
    MetFree l x (head1 (Jvm.Cond.code x code maxLocals ret :: ws) room_1) (fun a U => a = #[(.int xlaw_1), (.long ylaw_2)] ∧ Z.Warmed39 U.vm ∧ U.heap = h0) (fun _ _ _ _ _ => True) (fun _ U o U' => ∃ v L, o = .returned v ∧ (Q_law n0) v U'.heap L ∧ FrameEnd U o U' L 16 128) := by
  refine MetFree.of_bodySF (plainFor_of_name pn2) hisR ?_
  intro p e s m args below meth c s₁ Bd hml0 hP hK
  obtain ⟨rfl, hZ, hh⟩ := hP
  have hx := Bd.exec
  have hby := Bd.bytes
  have hml : c.maxLocals = 10 := hml0
  have hown : s.vm.findClass "com/example/tauten/tauten/IntervalTruthsPinLaw" = some m.cls := findClass_of_methodNamed Bd.named
  have hnm := (name_of_methodNamed Bd.named Bd.method).1
  have X0 : Stand p l e room_1 s m #[(.int xlaw_1), (.long ylaw_2)] below meth c s₁ [] 0 0 := Stand.of_body Bd
  have e0 : s₁.heap = h0 := by rw [← hh, Bd.state]; rfl
  have N0 := Fr.nil n0
  refine Wq.step (p := p) (e := e) (below := below) (En := (fun o t L => FrameEnd s o t L 16 128)) (Q := (Q_law n0)) (fun t k => castTop (ef_law m xlaw_1 ylaw_2) k) ?_
  show Wq _ _ _ _ _ (s₁.setTop (mkF m 0 #[.val (.int xlaw_1), .val (.long ylaw_2), .second, .unset, .unset, .unset, .unset, .unset, .unset, .unset] []))
  refine W.iloadN X0 hx (pc' := 1) (hb hby at_0) rfl ?_
  refine W.iconst X0 hx (pc' := 2) (hb hby at_1) (z := (1 : Int32)) rfl ?_
  refine W.iand X0 hx (pc' := 3) (hb hby at_2) (z := (xlaw_1 &&& (1 : Int32))) rfl ?_
  by_cases hc3 : (xlaw_1 &&& (1 : Int32)) = (0 : Int32)
  · skip
    refine W.ifYes X0 hx (pc' := 10) (hb hby at_3) ((if0 _ _).trans (teq hc3).1) (by decide) (by decide) ?_
    refine W.iconst X0 hx (pc' := 11) (hb hby at_10) (z := (0 : Int32)) rfl ?_
    refine W.istoreN X0 hx (pc' := 12) (hb hby at_11) (l' := #[.val (.int xlaw_1), .val (.long ylaw_2), .second, .val (.int (0 : Int32)), .unset, .unset, .unset, .unset, .unset, .unset]) rfl ?_
    refine W.iloadN X0 hx (pc' := 13) (hb hby at_12) rfl ?_
    refine W.iconst X0 hx (pc' := 14) (hb hby at_13) (z := (2 : Int32)) rfl ?_
    refine W.iand X0 hx (pc' := 15) (hb hby at_14) (z := (xlaw_1 &&& (2 : Int32))) rfl ?_
    by_cases hc15 : (xlaw_1 &&& (2 : Int32)) = (0 : Int32)
    · skip
      refine W.ifYes X0 hx (pc' := 22) (hb hby at_15) ((if0 _ _).trans (teq hc15).1) (by decide) (by decide) ?_
      refine W.iconst X0 hx (pc' := 23) (hb hby at_22) (z := (0 : Int32)) rfl ?_
      refine W.istore X0 hx (pc' := 25) (hb hby at_23) (l' := #[.val (.int xlaw_1), .val (.long ylaw_2), .second, .val (.int (0 : Int32)), .val (.int (0 : Int32)), .unset, .unset, .unset, .unset, .unset]) rfl ?_
      refine W.iloadN X0 hx (pc' := 26) (hb hby at_25) rfl ?_
      refine W.ifYes X0 hx (pc' := 33) (hb hby at_26) ((if0 _ _).trans (teq (by decide : (0 : Int32) = (0 : Int32))).1) (by decide) (by decide) ?_
      refine W.lconst X0 hx (pc' := 34) (hb hby at_33) (z := (1 : Int64)) rfl ?_
      refine W.iload X0 hx (pc' := 36) (hb hby at_34) rfl ?_
      refine W.ifYes X0 hx (pc' := 43) (hb hby at_36) ((if0 _ _).trans (teq (by decide : (0 : Int32) = (0 : Int32))).1) (by decide) (by decide) ?_
      refine W.lconst X0 hx (pc' := 44) (hb hby at_43) (z := (0 : Int64)) rfl ?_
      obtain ⟨_, _, ⟨T19, L19, k19, n19⟩, -, X19, ⟨Lc19, hQ19, l19, y19, z19⟩, st19⟩ := Jvm.LawKit.callS X0 hx (y := mt2) hown (mvT hZ (kw0 hw)) (mvT hZ (kw1 hw)) (mvT hZ (kw2 hw)) (mvT hZ (kw3 hw)) (by decide) (backOf (W := 0) (rm_ofe l Z a0 hw [] (1 : Int64) (0 : Int64) uEMPTY h0 n0 Z0 (by decide) S_EMPTY) hZ (kw3 hw) (kw2 hw) (by decide) (by decide)) (g := (mkF m 44 #[.val (.int xlaw_1), .val (.long ylaw_2), .second, .val (.int (0 : Int32)), .val (.int (0 : Int32)), .unset, .unset, .unset, .unset, .unset] [(.long (0 : Int64)), (.long (1 : Int64))])) rfl (by rw [hml]; rfl) (argsL := [(.long (1 : Int64)), (.long (0 : Int64))]) (rest := []) (lenOf pd2 rfl) rfl (by show 2 * 0 + _ ≤ _; exact Nat.le_of_eq rfl) (hb hby at_44) (fun _ _ => ⟨rfl, e0, (by decide : 0 + 0 ≤ _), (by decide : 0 + 0 ≤ _)⟩)
      dsimp only [Pt.U, Pt.locs, Pt.cells, Pt.slots] at X19 l19 y19 z19 st19 hQ19
      subst l19 y19 z19
      obtain ⟨rfl, Nq19, e19⟩ := hQ19
      have N19 := Fr.app N0 Nq19
      refine Wq.step st19 ?_
      show Wq _ _ _ _ _ (T19.setTop (mkF m 47 #[.val (.int xlaw_1), .val (.long ylaw_2), .second, .val (.int (0 : Int32)), .val (.int (0 : Int32)), .unset, .unset, .unset, .unset, .unset] [(.ref uEMPTY)]))
      refine W.astore X19 hx (pc' := 49) (hb hby at_47) rfl (l' := #[.val (.int xlaw_1), .val (.long ylaw_2), .second, .val (.int (0 : Int32)), .val (.int (0 : Int32)), .val (.ref uEMPTY), .unset, .unset, .unset, .unset]) rfl ?_
      refine W.iloadN X19 hx (pc' := 50) (hb hby at_49) rfl ?_
      refine W.iload X19 hx (pc' := 52) (hb hby at_50) rfl ?_
      obtain ⟨_, _, ⟨T20, L20, k20, n20⟩, -, X20, ⟨Lc20, hQ20, l20, y20, z20⟩, st20⟩ := Jvm.LawKit.callS X19 hx (y := mt3) hown (mvT hZ (kw6 hw)) (mvT hZ (kw7 hw)) (mvT hZ (kw2 hw)) (mvT hZ (kw8 hw)) (by decide) (backOf (W := 0) (rm_tr00 l Z a0 hw [] uEMPTY h0 n0 Z0 S_EMPTY) hZ (kw8 hw) (kw2 hw) (by decide) (by decide)) (g := (mkF m 52 #[.val (.int xlaw_1), .val (.long ylaw_2), .second, .val (.int (0 : Int32)), .val (.int (0 : Int32)), .val (.ref uEMPTY), .unset, .unset, .unset, .unset] [(.int (0 : Int32)), (.int (0 : Int32))])) rfl (by rw [hml]; rfl) (argsL := [(.int (0 : Int32)), (.int (0 : Int32))]) (rest := []) (lenOf pd3 rfl) rfl (by show 2 * 0 + _ ≤ _; exact Nat.le_of_eq rfl) (hb hby at_52) (fun _ _ => ⟨rfl, e19, (by decide : 0 + 0 ≤ _), (by decide : 0 + 0 ≤ _)⟩)
      dsimp only [Pt.U, Pt.locs, Pt.cells, Pt.slots] at X20 l20 y20 z20 st20 hQ20
      subst l20 y20 z20
      obtain ⟨rfl, Nq20, e20⟩ := hQ20
      have N20 := Fr.app N19 Nq20
      refine Wq.step st20 ?_
      show Wq _ _ _ _ _ (T20.setTop (mkF m 55 #[.val (.int xlaw_1), .val (.long ylaw_2), .second, .val (.int (0 : Int32)), .val (.int (0 : Int32)), .val (.ref uEMPTY), .unset, .unset, .unset, .unset] [(.ref uEMPTY)]))
      refine W.astore X20 hx (pc' := 57) (hb hby at_55) rfl (l' := #[.val (.int xlaw_1), .val (.long ylaw_2), .second, .val (.int (0 : Int32)), .val (.int (0 : Int32)), .val (.ref uEMPTY), .val (.ref uEMPTY), .unset, .unset, .unset]) rfl ?_
      refine W.iloadN X20 hx (pc' := 58) (hb hby at_57) rfl ?_
      refine W.ifYes X20 hx (pc' := 67) (hb hby at_58) ((if0 _ _).trans (teq (by decide : (0 : Int32) = (0 : Int32))).1) (by decide) (by decide) ?_
      refine W.iload X20 hx (pc' := 69) (hb hby at_67) rfl ?_
      refine W.ifYes X20 hx (pc' := 82) (hb hby at_69) ((if0 _ _).trans (teq (by decide : (0 : Int32) = (0 : Int32))).1) (by decide) (by decide) ?_
      refine W.iconst X20 hx (pc' := 83) (hb hby at_82) (z := (0 : Int32)) rfl ?_
      refine W.istore X20 hx (pc' := 85) (hb hby at_83) (l' := #[.val (.int xlaw_1), .val (.long ylaw_2), .second, .val (.int (0 : Int32)), .val (.int (0 : Int32)), .val (.ref uEMPTY), .val (.ref uEMPTY), .val (.int (0 : Int32)), .unset, .unset]) rfl ?_
      refine W.aload X20 hx (pc' := 87) (hb hby at_85) rfl rfl ?_
      refine W.lloadN X20 hx (pc' := 88) (hb hby at_87) rfl ?_
      obtain ⟨cq21, kq21, q21a, q21b, q21c⟩ := isOf hZ e20 E_uEMPTY
      obtain ⟨_, _, ⟨T21, L21, k21, n21⟩, -, X21, ⟨Lc21, hQ21, l21, y21, z21⟩, st21⟩ := X20.virtualBack hx (y := mt4) (z := mt4) hown (mvT hZ (kw9 hw)) (mvT hZ (kw10 hw)) (notFace_of_selects (args := #[]) (mvT hZ (kw12 hw))) (mvT hZ (kw12 hw)) (mvT hZ (kw11 hw)) (by decide) (backOf (W := 0) (rm_con l Z a0 hw [] uEMPTY ylaw_2 (1 : Int64) (0 : Int64) h0 n0 Z0 F_uEMPTY_low F_uEMPTY_high) hZ (kw13 hw) (kw2 hw) (by decide) (by decide)) q21a q21c (g := (mkF m 88 #[.val (.int xlaw_1), .val (.long ylaw_2), .second, .val (.int (0 : Int32)), .val (.int (0 : Int32)), .val (.ref uEMPTY), .val (.ref uEMPTY), .val (.int (0 : Int32)), .unset, .unset] [(.long ylaw_2), (.ref uEMPTY)])) rfl (by rw [hml]; rfl) (Steps.refl _) (argsL := [(.long ylaw_2)]) (rest := []) (lenOf pd4 rfl) rfl (by show 2 * 0 + _ ≤ _; exact Nat.le_of_eq rfl) (hb hby at_88) (fun _ _ => ⟨rfl, e20, (by decide : 0 + 0 ≤ _), (by decide : 0 + 0 ≤ _)⟩)
      dsimp only [Pt.U, Pt.locs, Pt.cells, Pt.slots] at X21 l21 y21 z21 st21 hQ21
      subst l21 y21 z21
      obtain ⟨rfl, Nq21, e21⟩ := hQ21
      have N21 := Fr.app N20 Nq21
      refine Wq.steps st21 ?_
      show Wq _ _ _ _ _ (T21.setTop (mkF m 91 #[.val (.int xlaw_1), .val (.long ylaw_2), .second, .val (.int (0 : Int32)), .val (.int (0 : Int32)), .val (.ref uEMPTY), .val (.ref uEMPTY), .val (.int (0 : Int32)), .unset, .unset] [(.int (f_con ylaw_2 (1 : Int64) (0 : Int64)))]))
      generalize hv88 : (f_con ylaw_2 (1 : Int64) (0 : Int64)) = v88
      show Wq _ _ _ _ _ (T21.setTop (mkF m 91 #[.val (.int xlaw_1), .val (.long ylaw_2), .second, .val (.int (0 : Int32)), .val (.int (0 : Int32)), .val (.ref uEMPTY), .val (.ref uEMPTY), .val (.int (0 : Int32)), .unset, .unset] [(.int v88)]))
      refine W.iload X21 hx (pc' := 93) (hb hby at_91) rfl ?_
      refine W.icmpNo X21 hx (pc' := 96) (hb hby at_93) (teq (by subst_vars; first | exact own_c11 _ | exact own_c10 _ | exact own_c01 _ | exact own_c00 _ : v88 = (0 : Int32))).2 ?_
      refine W.iconst X21 hx (pc' := 97) (hb hby at_96) (z := (1 : Int32)) rfl ?_
      refine W.goto X21 hx (pc' := 101) (hb hby at_97) (by decide) (by decide) ?_
      refine W.istore X21 hx (pc' := 103) (hb hby at_101) (l' := #[.val (.int xlaw_1), .val (.long ylaw_2), .second, .val (.int (0 : Int32)), .val (.int (0 : Int32)), .val (.ref uEMPTY), .val (.ref uEMPTY), .val (.int (0 : Int32)), .val (.int (1 : Int32)), .unset]) rfl ?_
      refine W.aload X21 hx (pc' := 105) (hb hby at_103) rfl rfl ?_
      refine W.aload X21 hx (pc' := 107) (hb hby at_105) rfl rfl ?_
      obtain ⟨cq22, kq22, q22a, q22b, q22c⟩ := isOf hZ e21 E_uEMPTY
      obtain ⟨_, _, ⟨T22, L22, k22, n22⟩, -, X22, ⟨Lc22, hQ22, l22, y22, z22⟩, st22⟩ := X21.virtualBack hx (y := mt5) (z := mt5) hown (mvT hZ (kw18 hw)) (mvT hZ (kw19 hw)) (notFace_of_selects (args := #[]) (mvT hZ (kw21 hw))) (mvT hZ (kw21 hw)) (mvT hZ (kw20 hw)) (by decide) (backOf (W := 0) (rm_eq l Z a0 hw [] uEMPTY uEMPTY (1 : Int64) (1 : Int64) (0 : Int64) (0 : Int64) h0 n0 Z0 E_uEMPTY F_uEMPTY_low F_uEMPTY_low F_uEMPTY_high F_uEMPTY_high) hZ (kw22 hw) (kw2 hw) (by decide) (by decide)) q22a q22c (g := (mkF m 107 #[.val (.int xlaw_1), .val (.long ylaw_2), .second, .val (.int (0 : Int32)), .val (.int (0 : Int32)), .val (.ref uEMPTY), .val (.ref uEMPTY), .val (.int (0 : Int32)), .val (.int (1 : Int32)), .unset] [(.ref uEMPTY), (.ref uEMPTY)])) rfl (by rw [hml]; rfl) (Steps.refl _) (argsL := [(.ref uEMPTY)]) (rest := []) (lenOf pd5 rfl) rfl (by show 2 * 0 + _ ≤ _; exact Nat.le_of_eq rfl) (hb hby at_107) (fun _ _ => ⟨rfl, e21, (by decide : 0 + 0 ≤ _), (by decide : 0 + 0 ≤ _)⟩)
      dsimp only [Pt.U, Pt.locs, Pt.cells, Pt.slots] at X22 l22 y22 z22 st22 hQ22
      subst l22 y22 z22
      obtain ⟨rfl, Nq22, e22⟩ := hQ22
      have N22 := Fr.app N21 Nq22
      refine Wq.steps st22 ?_
      show Wq _ _ _ _ _ (T22.setTop (mkF m 110 #[.val (.int xlaw_1), .val (.long ylaw_2), .second, .val (.int (0 : Int32)), .val (.int (0 : Int32)), .val (.ref uEMPTY), .val (.ref uEMPTY), .val (.int (0 : Int32)), .val (.int (1 : Int32)), .unset] [(.int (f_eq (1 : Int64) (1 : Int64) (0 : Int64) (0 : Int64)))]))
      generalize hv107 : (f_eq (1 : Int64) (1 : Int64) (0 : Int64) (0 : Int64)) = v107
      show Wq _ _ _ _ _ (T22.setTop (mkF m 110 #[.val (.int xlaw_1), .val (.long ylaw_2), .second, .val (.int (0 : Int32)), .val (.int (0 : Int32)), .val (.ref uEMPTY), .val (.ref uEMPTY), .val (.int (0 : Int32)), .val (.int (1 : Int32)), .unset] [(.int v107)]))
      refine W.istore X22 hx (pc' := 112) (hb hby at_110) (l' := #[.val (.int xlaw_1), .val (.long ylaw_2), .second, .val (.int (0 : Int32)), .val (.int (0 : Int32)), .val (.ref uEMPTY), .val (.ref uEMPTY), .val (.int (0 : Int32)), .val (.int (1 : Int32)), .val (.int v107)]) rfl ?_
      refine W.iload X22 hx (pc' := 114) (hb hby at_112) rfl ?_
      refine W.ifNo X22 hx (pc' := 117) (hb hby at_114) ((if0 _ _).trans (feq (by decide : ¬ ((1 : Int32) = (0 : Int32)))).1) ?_
      refine W.iload X22 hx (pc' := 119) (hb hby at_117) rfl ?_
      refine W.ifNo X22 hx (pc' := 122) (hb hby at_119) ((if0 _ _).trans (feq (by subst_vars; decide : ¬ (v107 = (0 : Int32)))).1) ?_
      refine W.iconst X22 hx (pc' := 123) (hb hby at_122) (z := (1 : Int32)) rfl ?_
      refine W.goto X22 hx (pc' := 127) (hb hby at_123) (by decide) (by decide) ?_
      exact Wq.ret X22 (BodyLoose.notSynchronized Bd) (rv := some (.int (1 : Int32))) (fun h => by rw [Bd.returns] at h; cases h) (fun _ hr => retN X22 hx (t := .boolean) Bd.returns (by simp) (hb hby at_127) hr) (by decide) (by decide) ⟨rfl, N22⟩
    · skip
      refine W.ifNo X0 hx (pc' := 18) (hb hby at_15) ((if0 _ _).trans (feq hc15).1) ?_
      refine W.iconst X0 hx (pc' := 19) (hb hby at_18) (z := (1 : Int32)) rfl ?_
      refine W.goto X0 hx (pc' := 23) (hb hby at_19) (by decide) (by decide) ?_
      refine W.istore X0 hx (pc' := 25) (hb hby at_23) (l' := #[.val (.int xlaw_1), .val (.long ylaw_2), .second, .val (.int (0 : Int32)), .val (.int (1 : Int32)), .unset, .unset, .unset, .unset, .unset]) rfl ?_
      refine W.iloadN X0 hx (pc' := 26) (hb hby at_25) rfl ?_
      refine W.ifYes X0 hx (pc' := 33) (hb hby at_26) ((if0 _ _).trans (teq (by decide : (0 : Int32) = (0 : Int32))).1) (by decide) (by decide) ?_
      refine W.lconst X0 hx (pc' := 34) (hb hby at_33) (z := (1 : Int64)) rfl ?_
      refine W.iload X0 hx (pc' := 36) (hb hby at_34) rfl ?_
      refine W.ifNo X0 hx (pc' := 39) (hb hby at_36) ((if0 _ _).trans (feq (by decide : ¬ ((1 : Int32) = (0 : Int32)))).1) ?_
      refine W.lconst X0 hx (pc' := 40) (hb hby at_39) (z := (1 : Int64)) rfl ?_
      refine W.goto X0 hx (pc' := 44) (hb hby at_40) (by decide) (by decide) ?_
      obtain ⟨_, _, ⟨T23, L23, k23, n23⟩, -, X23, ⟨Lc23, hQ23, l23, y23, z23⟩, st23⟩ := Jvm.LawKit.callS X0 hx (y := mt2) hown (mvT hZ (kw0 hw)) (mvT hZ (kw1 hw)) (mvT hZ (kw2 hw)) (mvT hZ (kw3 hw)) (by decide) (backOf (W := 0) (rm_ofn l Z a0 hw [] (1 : Int64) (1 : Int64) h0 n0 Z0 (by decide)) hZ (kw3 hw) (kw2 hw) (by decide) (by decide)) (g := (mkF m 44 #[.val (.int xlaw_1), .val (.long ylaw_2), .second, .val (.int (0 : Int32)), .val (.int (1 : Int32)), .unset, .unset, .unset, .unset, .unset] [(.long (1 : Int64)), (.long (1 : Int64))])) rfl (by rw [hml]; rfl) (argsL := [(.long (1 : Int64)), (.long (1 : Int64))]) (rest := []) (lenOf pd2 rfl) rfl (by show 2 * 0 + _ ≤ _; exact Nat.le_of_eq rfl) (hb hby at_44) (fun _ _ => ⟨rfl, e0, (by decide : 0 + 1 ≤ _), (by decide : 0 + 2 ≤ _)⟩)
      dsimp only [Pt.U, Pt.locs, Pt.cells, Pt.slots] at X23 l23 y23 z23 st23 hQ23
      subst l23 y23 z23
      obtain ⟨o4_c23, rfl, Nq23, Kq23, szq_o4_c23, P23_0, P23_1, P23_2⟩ := hQ23
      have g_o4_c23 : n0 ≤ o4_c23 := Nat.le_trans Z0 szq_o4_c23
      have sz_o4_c23 : h0.size ≤ o4_c23 := szq_o4_c23
      have ne_uEMPTY_o4_c23 : uEMPTY ≠ o4_c23 := Nat.ne_of_lt (Nat.lt_of_lt_of_le E_uEMPTY.lt szq_o4_c23)
      have ne_uFALSE_o4_c23 : uFALSE ≠ o4_c23 := Nat.ne_of_lt (Nat.lt_of_lt_of_le E_uFALSE.lt szq_o4_c23)
      have ne_uTRUE_o4_c23 : uTRUE ≠ o4_c23 := Nat.ne_of_lt (Nat.lt_of_lt_of_le E_uTRUE.lt szq_o4_c23)
      have ne_uTRUTHS_o4_c23 : uTRUTHS ≠ o4_c23 := Nat.ne_of_lt (Nat.lt_of_lt_of_le E_uTRUTHS.lt szq_o4_c23)
      have N23 := Fr.app N0 Nq23
      have K23 : Keep h0 T23.heap [] := (Keep.refl h0 []).trans Kq23 all0
      have Z23 : n0 ≤ T23.heap.size := Nat.le_trans Z0 Kq23.1
      have S_EMPTY_t23 := Jvm.OwnW.Sta.keepN S_EMPTY Kq23 all0
      have E_uEMPTY_t23 := E_uEMPTY.keep Kq23
      have F_uEMPTY_low_t23 := F_uEMPTY_low.keep Kq23 nin0
      have F_uEMPTY_high_t23 := F_uEMPTY_high.keep Kq23 nin0
      have S_FALSE_t23 := Jvm.OwnW.Sta.keepN S_FALSE Kq23 all0
      have E_uFALSE_t23 := E_uFALSE.keep Kq23
      have F_uFALSE_low_t23 := F_uFALSE_low.keep Kq23 nin0
      have F_uFALSE_high_t23 := F_uFALSE_high.keep Kq23 nin0
      have S_TRUE_t23 := Jvm.OwnW.Sta.keepN S_TRUE Kq23 all0
      have E_uTRUE_t23 := E_uTRUE.keep Kq23
      have F_uTRUE_low_t23 := F_uTRUE_low.keep Kq23 nin0
      have F_uTRUE_high_t23 := F_uTRUE_high.keep Kq23 nin0
      have S_TRUTHS_t23 := Jvm.OwnW.Sta.keepN S_TRUTHS Kq23 all0
      have E_uTRUTHS_t23 := E_uTRUTHS.keep Kq23
      have F_uTRUTHS_low_t23 := F_uTRUTHS_low.keep Kq23 nin0
      have F_uTRUTHS_high_t23 := F_uTRUTHS_high.keep Kq23 nin0
      have e23 : T23.heap = T23.heap := rfl
      refine Wq.step st23 ?_
      show Wq _ _ _ _ _ (T23.setTop (mkF m 47 #[.val (.int xlaw_1), .val (.long ylaw_2), .second, .val (.int (0 : Int32)), .val (.int (1 : Int32)), .unset, .unset, .unset, .unset, .unset] [(.ref o4_c23)]))
      refine W.astore X23 hx (pc' := 49) (hb hby at_47) rfl (l' := #[.val (.int xlaw_1), .val (.long ylaw_2), .second, .val (.int (0 : Int32)), .val (.int (1 : Int32)), .val (.ref o4_c23), .unset, .unset, .unset, .unset]) rfl ?_
      refine W.iloadN X23 hx (pc' := 50) (hb hby at_49) rfl ?_
      refine W.iload X23 hx (pc' := 52) (hb hby at_50) rfl ?_
      obtain ⟨_, _, ⟨T24, L24, k24, n24⟩, -, X24, ⟨Lc24, hQ24, l24, y24, z24⟩, st24⟩ := Jvm.LawKit.callS X23 hx (y := mt3) hown (mvT hZ (kw6 hw)) (mvT hZ (kw7 hw)) (mvT hZ (kw2 hw)) (mvT hZ (kw8 hw)) (by decide) (backOf (W := 0) (rm_tr01 l Z a0 hw [] uTRUE T23.heap n0 Z23 S_TRUE_t23) hZ (kw8 hw) (kw2 hw) (by decide) (by decide)) (g := (mkF m 52 #[.val (.int xlaw_1), .val (.long ylaw_2), .second, .val (.int (0 : Int32)), .val (.int (1 : Int32)), .val (.ref o4_c23), .unset, .unset, .unset, .unset] [(.int (1 : Int32)), (.int (0 : Int32))])) rfl (by rw [hml]; rfl) (argsL := [(.int (0 : Int32)), (.int (1 : Int32))]) (rest := []) (lenOf pd3 rfl) rfl (by show 2 * 0 + _ ≤ _; exact Nat.le_of_eq rfl) (hb hby at_52) (fun _ _ => ⟨rfl, e23, (by decide : 1 + 0 ≤ _), (by decide : 2 + 0 ≤ _)⟩)
      dsimp only [Pt.U, Pt.locs, Pt.cells, Pt.slots] at X24 l24 y24 z24 st24 hQ24
      subst l24 y24 z24
      obtain ⟨rfl, Nq24, e24⟩ := hQ24
      have N24 := Fr.app N23 Nq24
      refine Wq.step st24 ?_
      show Wq _ _ _ _ _ (T24.setTop (mkF m 55 #[.val (.int xlaw_1), .val (.long ylaw_2), .second, .val (.int (0 : Int32)), .val (.int (1 : Int32)), .val (.ref o4_c23), .unset, .unset, .unset, .unset] [(.ref uTRUE)]))
      refine W.astore X24 hx (pc' := 57) (hb hby at_55) rfl (l' := #[.val (.int xlaw_1), .val (.long ylaw_2), .second, .val (.int (0 : Int32)), .val (.int (1 : Int32)), .val (.ref o4_c23), .val (.ref uTRUE), .unset, .unset, .unset]) rfl ?_
      refine W.iloadN X24 hx (pc' := 58) (hb hby at_57) rfl ?_
      refine W.ifYes X24 hx (pc' := 67) (hb hby at_58) ((if0 _ _).trans (teq (by decide : (0 : Int32) = (0 : Int32))).1) (by decide) (by decide) ?_
      refine W.iload X24 hx (pc' := 69) (hb hby at_67) rfl ?_
      refine W.ifNo X24 hx (pc' := 72) (hb hby at_69) ((if0 _ _).trans (feq (by decide : ¬ ((1 : Int32) = (0 : Int32)))).1) ?_
      refine W.lloadN X24 hx (pc' := 73) (hb hby at_72) rfl ?_
      refine W.lconst X24 hx (pc' := 74) (hb hby at_73) (z := (1 : Int64)) rfl ?_
      refine W.lcmp X24 hx (pc' := 75) (hb hby at_74)  ?_
      refine Wq.by (U' := T24.setTop (mkF m 83 #[.val (.int xlaw_1), .val (.long ylaw_2), .second, .val (.int (0 : Int32)), .val (.int (1 : Int32)), .val (.ref o4_c23), .val (.ref uTRUE), .unset, .unset, .unset] [(.int (if ylaw_2 = (1 : Int64) then (1 : Int32) else (0 : Int32)))])) (fun k => ?_) ?_
      · skip
        by_cases hm75 : ylaw_2 = (1 : Int64)
        · skip
          refine W.ifNo X24 hx (pc' := 78) (hb hby at_75) ((if0 _ _).trans (teq ((lw_eq _ _).mpr hm75)).2) ?_
          refine W.iconst X24 hx (pc' := 79) (hb hby at_78) (z := (1 : Int32)) rfl ?_
          refine W.goto X24 hx (pc' := 83) (hb hby at_79) (by decide) (by decide) ?_
          simp only [if_pos hm75] at k
          exact k
        · skip
          refine W.ifYes X24 hx (pc' := 82) (hb hby at_75) ((if0 _ _).trans (feq (mt (lw_eq _ _).mp hm75)).2) (by decide) (by decide) ?_
          refine W.iconst X24 hx (pc' := 83) (hb hby at_82) (z := (0 : Int32)) rfl ?_
          simp only [if_neg hm75] at k
          exact k
      show Wq _ _ _ _ _ (T24.setTop (mkF m 83 #[.val (.int xlaw_1), .val (.long ylaw_2), .second, .val (.int (0 : Int32)), .val (.int (1 : Int32)), .val (.ref o4_c23), .val (.ref uTRUE), .unset, .unset, .unset] [(.int (if ylaw_2 = (1 : Int64) then (1 : Int32) else (0 : Int32)))]))
      generalize hms83_0 : (if ylaw_2 = (1 : Int64) then (1 : Int32) else (0 : Int32)) = ms83_0
      refine W.istore X24 hx (pc' := 85) (hb hby at_83) (l' := #[.val (.int xlaw_1), .val (.long ylaw_2), .second, .val (.int (0 : Int32)), .val (.int (1 : Int32)), .val (.ref o4_c23), .val (.ref uTRUE), .val (.int ms83_0), .unset, .unset]) rfl ?_
      refine W.aload X24 hx (pc' := 87) (hb hby at_85) rfl rfl ?_
      refine W.lloadN X24 hx (pc' := 88) (hb hby at_87) rfl ?_
      obtain ⟨cq25, kq25, q25a, q25b, q25c⟩ := isOf hZ e24 E_uTRUE_t23
      obtain ⟨_, _, ⟨T25, L25, k25, n25⟩, -, X25, ⟨Lc25, hQ25, l25, y25, z25⟩, st25⟩ := X24.virtualBack hx (y := mt4) (z := mt4) hown (mvT hZ (kw9 hw)) (mvT hZ (kw10 hw)) (notFace_of_selects (args := #[]) (mvT hZ (kw12 hw))) (mvT hZ (kw12 hw)) (mvT hZ (kw11 hw)) (by decide) (backOf (W := 0) (rm_con l Z a0 hw [] uTRUE ylaw_2 (1 : Int64) (1 : Int64) T23.heap n0 Z23 F_uTRUE_low_t23 F_uTRUE_high_t23) hZ (kw13 hw) (kw2 hw) (by decide) (by decide)) q25a q25c (g := (mkF m 88 #[.val (.int xlaw_1), .val (.long ylaw_2), .second, .val (.int (0 : Int32)), .val (.int (1 : Int32)), .val (.ref o4_c23), .val (.ref uTRUE), .val (.int ms83_0), .unset, .unset] [(.long ylaw_2), (.ref uTRUE)])) rfl (by rw [hml]; rfl) (Steps.refl _) (argsL := [(.long ylaw_2)]) (rest := []) (lenOf pd4 rfl) rfl (by show 2 * 0 + _ ≤ _; exact Nat.le_of_eq rfl) (hb hby at_88) (fun _ _ => ⟨rfl, e24, (by decide : 1 + 0 ≤ _), (by decide : 2 + 0 ≤ _)⟩)
      dsimp only [Pt.U, Pt.locs, Pt.cells, Pt.slots] at X25 l25 y25 z25 st25 hQ25
      subst l25 y25 z25
      obtain ⟨rfl, Nq25, e25⟩ := hQ25
      have N25 := Fr.app N24 Nq25
      refine Wq.steps st25 ?_
      show Wq _ _ _ _ _ (T25.setTop (mkF m 91 #[.val (.int xlaw_1), .val (.long ylaw_2), .second, .val (.int (0 : Int32)), .val (.int (1 : Int32)), .val (.ref o4_c23), .val (.ref uTRUE), .val (.int ms83_0), .unset, .unset] [(.int (f_con ylaw_2 (1 : Int64) (1 : Int64)))]))
      generalize hv88 : (f_con ylaw_2 (1 : Int64) (1 : Int64)) = v88
      show Wq _ _ _ _ _ (T25.setTop (mkF m 91 #[.val (.int xlaw_1), .val (.long ylaw_2), .second, .val (.int (0 : Int32)), .val (.int (1 : Int32)), .val (.ref o4_c23), .val (.ref uTRUE), .val (.int ms83_0), .unset, .unset] [(.int v88)]))
      refine W.iload X25 hx (pc' := 93) (hb hby at_91) rfl ?_
      refine W.icmpNo X25 hx (pc' := 96) (hb hby at_93) (teq (by subst_vars; first | exact own_c11 _ | exact own_c10 _ | exact own_c01 _ | exact own_c00 _ : v88 = ms83_0)).2 ?_
      refine W.iconst X25 hx (pc' := 97) (hb hby at_96) (z := (1 : Int32)) rfl ?_
      refine W.goto X25 hx (pc' := 101) (hb hby at_97) (by decide) (by decide) ?_
      refine W.istore X25 hx (pc' := 103) (hb hby at_101) (l' := #[.val (.int xlaw_1), .val (.long ylaw_2), .second, .val (.int (0 : Int32)), .val (.int (1 : Int32)), .val (.ref o4_c23), .val (.ref uTRUE), .val (.int ms83_0), .val (.int (1 : Int32)), .unset]) rfl ?_
      refine W.aload X25 hx (pc' := 105) (hb hby at_103) rfl rfl ?_
      refine W.aload X25 hx (pc' := 107) (hb hby at_105) rfl rfl ?_
      obtain ⟨cq26, kq26, q26a, q26b, q26c⟩ := isOf hZ e25 E_uTRUE_t23
      obtain ⟨_, _, ⟨T26, L26, k26, n26⟩, -, X26, ⟨Lc26, hQ26, l26, y26, z26⟩, st26⟩ := X25.virtualBack hx (y := mt5) (z := mt5) hown (mvT hZ (kw18 hw)) (mvT hZ (kw19 hw)) (notFace_of_selects (args := #[]) (mvT hZ (kw21 hw))) (mvT hZ (kw21 hw)) (mvT hZ (kw20 hw)) (by decide) (backOf (W := 0) (rm_eq l Z a0 hw [] uTRUE o4_c23 (1 : Int64) (1 : Int64) (1 : Int64) (1 : Int64) T23.heap n0 Z23 P23_0 F_uTRUE_low_t23 P23_1 F_uTRUE_high_t23 P23_2) hZ (kw22 hw) (kw2 hw) (by decide) (by decide)) q26a q26c (g := (mkF m 107 #[.val (.int xlaw_1), .val (.long ylaw_2), .second, .val (.int (0 : Int32)), .val (.int (1 : Int32)), .val (.ref o4_c23), .val (.ref uTRUE), .val (.int ms83_0), .val (.int (1 : Int32)), .unset] [(.ref o4_c23), (.ref uTRUE)])) rfl (by rw [hml]; rfl) (Steps.refl _) (argsL := [(.ref o4_c23)]) (rest := []) (lenOf pd5 rfl) rfl (by show 2 * 0 + _ ≤ _; exact Nat.le_of_eq rfl) (hb hby at_107) (fun _ _ => ⟨rfl, e25, (by decide : 1 + 0 ≤ _), (by decide : 2 + 0 ≤ _)⟩)
      dsimp only [Pt.U, Pt.locs, Pt.cells, Pt.slots] at X26 l26 y26 z26 st26 hQ26
      subst l26 y26 z26
      obtain ⟨rfl, Nq26, e26⟩ := hQ26
      have N26 := Fr.app N25 Nq26
      refine Wq.steps st26 ?_
      show Wq _ _ _ _ _ (T26.setTop (mkF m 110 #[.val (.int xlaw_1), .val (.long ylaw_2), .second, .val (.int (0 : Int32)), .val (.int (1 : Int32)), .val (.ref o4_c23), .val (.ref uTRUE), .val (.int ms83_0), .val (.int (1 : Int32)), .unset] [(.int (f_eq (1 : Int64) (1 : Int64) (1 : Int64) (1 : Int64)))]))
      generalize hv107 : (f_eq (1 : Int64) (1 : Int64) (1 : Int64) (1 : Int64)) = v107
      show Wq _ _ _ _ _ (T26.setTop (mkF m 110 #[.val (.int xlaw_1), .val (.long ylaw_2), .second, .val (.int (0 : Int32)), .val (.int (1 : Int32)), .val (.ref o4_c23), .val (.ref uTRUE), .val (.int ms83_0), .val (.int (1 : Int32)), .unset] [(.int v107)]))
      refine W.istore X26 hx (pc' := 112) (hb hby at_110) (l' := #[.val (.int xlaw_1), .val (.long ylaw_2), .second, .val (.int (0 : Int32)), .val (.int (1 : Int32)), .val (.ref o4_c23), .val (.ref uTRUE), .val (.int ms83_0), .val (.int (1 : Int32)), .val (.int v107)]) rfl ?_
      refine W.iload X26 hx (pc' := 114) (hb hby at_112) rfl ?_
      refine W.ifNo X26 hx (pc' := 117) (hb hby at_114) ((if0 _ _).trans (feq (by decide : ¬ ((1 : Int32) = (0 : Int32)))).1) ?_
      refine W.iload X26 hx (pc' := 119) (hb hby at_117) rfl ?_
      refine W.ifNo X26 hx (pc' := 122) (hb hby at_119) ((if0 _ _).trans (feq (by subst_vars; decide : ¬ (v107 = (0 : Int32)))).1) ?_
      refine W.iconst X26 hx (pc' := 123) (hb hby at_122) (z := (1 : Int32)) rfl ?_
      refine W.goto X26 hx (pc' := 127) (hb hby at_123) (by decide) (by decide) ?_
      exact Wq.ret X26 (BodyLoose.notSynchronized Bd) (rv := some (.int (1 : Int32))) (fun h => by rw [Bd.returns] at h; cases h) (fun _ hr => retN X26 hx (t := .boolean) Bd.returns (by simp) (hb hby at_127) hr) (by decide) (by decide) ⟨rfl, N26⟩
  · skip
    refine W.ifNo X0 hx (pc' := 6) (hb hby at_3) ((if0 _ _).trans (feq hc3).1) ?_
    refine W.iconst X0 hx (pc' := 7) (hb hby at_6) (z := (1 : Int32)) rfl ?_
    refine W.goto X0 hx (pc' := 11) (hb hby at_7) (by decide) (by decide) ?_
    refine W.istoreN X0 hx (pc' := 12) (hb hby at_11) (l' := #[.val (.int xlaw_1), .val (.long ylaw_2), .second, .val (.int (1 : Int32)), .unset, .unset, .unset, .unset, .unset, .unset]) rfl ?_
    refine W.iloadN X0 hx (pc' := 13) (hb hby at_12) rfl ?_
    refine W.iconst X0 hx (pc' := 14) (hb hby at_13) (z := (2 : Int32)) rfl ?_
    refine W.iand X0 hx (pc' := 15) (hb hby at_14) (z := (xlaw_1 &&& (2 : Int32))) rfl ?_
    by_cases hc15 : (xlaw_1 &&& (2 : Int32)) = (0 : Int32)
    · skip
      refine W.ifYes X0 hx (pc' := 22) (hb hby at_15) ((if0 _ _).trans (teq hc15).1) (by decide) (by decide) ?_
      refine W.iconst X0 hx (pc' := 23) (hb hby at_22) (z := (0 : Int32)) rfl ?_
      refine W.istore X0 hx (pc' := 25) (hb hby at_23) (l' := #[.val (.int xlaw_1), .val (.long ylaw_2), .second, .val (.int (1 : Int32)), .val (.int (0 : Int32)), .unset, .unset, .unset, .unset, .unset]) rfl ?_
      refine W.iloadN X0 hx (pc' := 26) (hb hby at_25) rfl ?_
      refine W.ifNo X0 hx (pc' := 29) (hb hby at_26) ((if0 _ _).trans (feq (by decide : ¬ ((1 : Int32) = (0 : Int32)))).1) ?_
      refine W.lconst X0 hx (pc' := 30) (hb hby at_29) (z := (0 : Int64)) rfl ?_
      refine W.goto X0 hx (pc' := 34) (hb hby at_30) (by decide) (by decide) ?_
      refine W.iload X0 hx (pc' := 36) (hb hby at_34) rfl ?_
      refine W.ifYes X0 hx (pc' := 43) (hb hby at_36) ((if0 _ _).trans (teq (by decide : (0 : Int32) = (0 : Int32))).1) (by decide) (by decide) ?_
      refine W.lconst X0 hx (pc' := 44) (hb hby at_43) (z := (0 : Int64)) rfl ?_
      obtain ⟨_, _, ⟨T27, L27, k27, n27⟩, -, X27, ⟨Lc27, hQ27, l27, y27, z27⟩, st27⟩ := Jvm.LawKit.callS X0 hx (y := mt2) hown (mvT hZ (kw0 hw)) (mvT hZ (kw1 hw)) (mvT hZ (kw2 hw)) (mvT hZ (kw3 hw)) (by decide) (backOf (W := 0) (rm_ofn l Z a0 hw [] (0 : Int64) (0 : Int64) h0 n0 Z0 (by decide)) hZ (kw3 hw) (kw2 hw) (by decide) (by decide)) (g := (mkF m 44 #[.val (.int xlaw_1), .val (.long ylaw_2), .second, .val (.int (1 : Int32)), .val (.int (0 : Int32)), .unset, .unset, .unset, .unset, .unset] [(.long (0 : Int64)), (.long (0 : Int64))])) rfl (by rw [hml]; rfl) (argsL := [(.long (0 : Int64)), (.long (0 : Int64))]) (rest := []) (lenOf pd2 rfl) rfl (by show 2 * 0 + _ ≤ _; exact Nat.le_of_eq rfl) (hb hby at_44) (fun _ _ => ⟨rfl, e0, (by decide : 0 + 1 ≤ _), (by decide : 0 + 2 ≤ _)⟩)
      dsimp only [Pt.U, Pt.locs, Pt.cells, Pt.slots] at X27 l27 y27 z27 st27 hQ27
      subst l27 y27 z27
      obtain ⟨o4_c27, rfl, Nq27, Kq27, szq_o4_c27, P27_0, P27_1, P27_2⟩ := hQ27
      have g_o4_c27 : n0 ≤ o4_c27 := Nat.le_trans Z0 szq_o4_c27
      have sz_o4_c27 : h0.size ≤ o4_c27 := szq_o4_c27
      have ne_uEMPTY_o4_c27 : uEMPTY ≠ o4_c27 := Nat.ne_of_lt (Nat.lt_of_lt_of_le E_uEMPTY.lt szq_o4_c27)
      have ne_uFALSE_o4_c27 : uFALSE ≠ o4_c27 := Nat.ne_of_lt (Nat.lt_of_lt_of_le E_uFALSE.lt szq_o4_c27)
      have ne_uTRUE_o4_c27 : uTRUE ≠ o4_c27 := Nat.ne_of_lt (Nat.lt_of_lt_of_le E_uTRUE.lt szq_o4_c27)
      have ne_uTRUTHS_o4_c27 : uTRUTHS ≠ o4_c27 := Nat.ne_of_lt (Nat.lt_of_lt_of_le E_uTRUTHS.lt szq_o4_c27)
      have N27 := Fr.app N0 Nq27
      have K27 : Keep h0 T27.heap [] := (Keep.refl h0 []).trans Kq27 all0
      have Z27 : n0 ≤ T27.heap.size := Nat.le_trans Z0 Kq27.1
      have S_EMPTY_t27 := Jvm.OwnW.Sta.keepN S_EMPTY Kq27 all0
      have E_uEMPTY_t27 := E_uEMPTY.keep Kq27
      have F_uEMPTY_low_t27 := F_uEMPTY_low.keep Kq27 nin0
      have F_uEMPTY_high_t27 := F_uEMPTY_high.keep Kq27 nin0
      have S_FALSE_t27 := Jvm.OwnW.Sta.keepN S_FALSE Kq27 all0
      have E_uFALSE_t27 := E_uFALSE.keep Kq27
      have F_uFALSE_low_t27 := F_uFALSE_low.keep Kq27 nin0
      have F_uFALSE_high_t27 := F_uFALSE_high.keep Kq27 nin0
      have S_TRUE_t27 := Jvm.OwnW.Sta.keepN S_TRUE Kq27 all0
      have E_uTRUE_t27 := E_uTRUE.keep Kq27
      have F_uTRUE_low_t27 := F_uTRUE_low.keep Kq27 nin0
      have F_uTRUE_high_t27 := F_uTRUE_high.keep Kq27 nin0
      have S_TRUTHS_t27 := Jvm.OwnW.Sta.keepN S_TRUTHS Kq27 all0
      have E_uTRUTHS_t27 := E_uTRUTHS.keep Kq27
      have F_uTRUTHS_low_t27 := F_uTRUTHS_low.keep Kq27 nin0
      have F_uTRUTHS_high_t27 := F_uTRUTHS_high.keep Kq27 nin0
      have e27 : T27.heap = T27.heap := rfl
      refine Wq.step st27 ?_
      show Wq _ _ _ _ _ (T27.setTop (mkF m 47 #[.val (.int xlaw_1), .val (.long ylaw_2), .second, .val (.int (1 : Int32)), .val (.int (0 : Int32)), .unset, .unset, .unset, .unset, .unset] [(.ref o4_c27)]))
      refine W.astore X27 hx (pc' := 49) (hb hby at_47) rfl (l' := #[.val (.int xlaw_1), .val (.long ylaw_2), .second, .val (.int (1 : Int32)), .val (.int (0 : Int32)), .val (.ref o4_c27), .unset, .unset, .unset, .unset]) rfl ?_
      refine W.iloadN X27 hx (pc' := 50) (hb hby at_49) rfl ?_
      refine W.iload X27 hx (pc' := 52) (hb hby at_50) rfl ?_
      obtain ⟨_, _, ⟨T28, L28, k28, n28⟩, -, X28, ⟨Lc28, hQ28, l28, y28, z28⟩, st28⟩ := Jvm.LawKit.callS X27 hx (y := mt3) hown (mvT hZ (kw6 hw)) (mvT hZ (kw7 hw)) (mvT hZ (kw2 hw)) (mvT hZ (kw8 hw)) (by decide) (backOf (W := 0) (rm_tr10 l Z a0 hw [] uFALSE T27.heap n0 Z27 S_FALSE_t27) hZ (kw8 hw) (kw2 hw) (by decide) (by decide)) (g := (mkF m 52 #[.val (.int xlaw_1), .val (.long ylaw_2), .second, .val (.int (1 : Int32)), .val (.int (0 : Int32)), .val (.ref o4_c27), .unset, .unset, .unset, .unset] [(.int (0 : Int32)), (.int (1 : Int32))])) rfl (by rw [hml]; rfl) (argsL := [(.int (1 : Int32)), (.int (0 : Int32))]) (rest := []) (lenOf pd3 rfl) rfl (by show 2 * 0 + _ ≤ _; exact Nat.le_of_eq rfl) (hb hby at_52) (fun _ _ => ⟨rfl, e27, (by decide : 1 + 0 ≤ _), (by decide : 2 + 0 ≤ _)⟩)
      dsimp only [Pt.U, Pt.locs, Pt.cells, Pt.slots] at X28 l28 y28 z28 st28 hQ28
      subst l28 y28 z28
      obtain ⟨rfl, Nq28, e28⟩ := hQ28
      have N28 := Fr.app N27 Nq28
      refine Wq.step st28 ?_
      show Wq _ _ _ _ _ (T28.setTop (mkF m 55 #[.val (.int xlaw_1), .val (.long ylaw_2), .second, .val (.int (1 : Int32)), .val (.int (0 : Int32)), .val (.ref o4_c27), .unset, .unset, .unset, .unset] [(.ref uFALSE)]))
      refine W.astore X28 hx (pc' := 57) (hb hby at_55) rfl (l' := #[.val (.int xlaw_1), .val (.long ylaw_2), .second, .val (.int (1 : Int32)), .val (.int (0 : Int32)), .val (.ref o4_c27), .val (.ref uFALSE), .unset, .unset, .unset]) rfl ?_
      refine W.iloadN X28 hx (pc' := 58) (hb hby at_57) rfl ?_
      refine W.ifNo X28 hx (pc' := 61) (hb hby at_58) ((if0 _ _).trans (feq (by decide : ¬ ((1 : Int32) = (0 : Int32)))).1) ?_
      refine W.lloadN X28 hx (pc' := 62) (hb hby at_61) rfl ?_
      refine W.lconst X28 hx (pc' := 63) (hb hby at_62) (z := (0 : Int64)) rfl ?_
      refine W.lcmp X28 hx (pc' := 64) (hb hby at_63)  ?_
      refine Wq.by (U' := T28.setTop (mkF m 83 #[.val (.int xlaw_1), .val (.long ylaw_2), .second, .val (.int (1 : Int32)), .val (.int (0 : Int32)), .val (.ref o4_c27), .val (.ref uFALSE), .unset, .unset, .unset] [(.int (if ylaw_2 = (0 : Int64) then (1 : Int32) else (0 : Int32)))])) (fun k => ?_) ?_
      · skip
        by_cases hm64 : ylaw_2 = (0 : Int64)
        · skip
          refine W.ifYes X28 hx (pc' := 78) (hb hby at_64) ((if0 _ _).trans (teq ((lw_eq _ _).mpr hm64)).1) (by decide) (by decide) ?_
          refine W.iconst X28 hx (pc' := 79) (hb hby at_78) (z := (1 : Int32)) rfl ?_
          refine W.goto X28 hx (pc' := 83) (hb hby at_79) (by decide) (by decide) ?_
          simp only [if_pos hm64] at k
          exact k
        · skip
          refine W.ifNo X28 hx (pc' := 67) (hb hby at_64) ((if0 _ _).trans (feq (mt (lw_eq _ _).mp hm64)).1) ?_
          refine W.iload X28 hx (pc' := 69) (hb hby at_67) rfl ?_
          refine W.ifYes X28 hx (pc' := 82) (hb hby at_69) ((if0 _ _).trans (teq (by decide : (0 : Int32) = (0 : Int32))).1) (by decide) (by decide) ?_
          refine W.iconst X28 hx (pc' := 83) (hb hby at_82) (z := (0 : Int32)) rfl ?_
          simp only [if_neg hm64] at k
          exact k
      show Wq _ _ _ _ _ (T28.setTop (mkF m 83 #[.val (.int xlaw_1), .val (.long ylaw_2), .second, .val (.int (1 : Int32)), .val (.int (0 : Int32)), .val (.ref o4_c27), .val (.ref uFALSE), .unset, .unset, .unset] [(.int (if ylaw_2 = (0 : Int64) then (1 : Int32) else (0 : Int32)))]))
      generalize hms83_0 : (if ylaw_2 = (0 : Int64) then (1 : Int32) else (0 : Int32)) = ms83_0
      refine W.istore X28 hx (pc' := 85) (hb hby at_83) (l' := #[.val (.int xlaw_1), .val (.long ylaw_2), .second, .val (.int (1 : Int32)), .val (.int (0 : Int32)), .val (.ref o4_c27), .val (.ref uFALSE), .val (.int ms83_0), .unset, .unset]) rfl ?_
      refine W.aload X28 hx (pc' := 87) (hb hby at_85) rfl rfl ?_
      refine W.lloadN X28 hx (pc' := 88) (hb hby at_87) rfl ?_
      obtain ⟨cq29, kq29, q29a, q29b, q29c⟩ := isOf hZ e28 E_uFALSE_t27
      obtain ⟨_, _, ⟨T29, L29, k29, n29⟩, -, X29, ⟨Lc29, hQ29, l29, y29, z29⟩, st29⟩ := X28.virtualBack hx (y := mt4) (z := mt4) hown (mvT hZ (kw9 hw)) (mvT hZ (kw10 hw)) (notFace_of_selects (args := #[]) (mvT hZ (kw12 hw))) (mvT hZ (kw12 hw)) (mvT hZ (kw11 hw)) (by decide) (backOf (W := 0) (rm_con l Z a0 hw [] uFALSE ylaw_2 (0 : Int64) (0 : Int64) T27.heap n0 Z27 F_uFALSE_low_t27 F_uFALSE_high_t27) hZ (kw13 hw) (kw2 hw) (by decide) (by decide)) q29a q29c (g := (mkF m 88 #[.val (.int xlaw_1), .val (.long ylaw_2), .second, .val (.int (1 : Int32)), .val (.int (0 : Int32)), .val (.ref o4_c27), .val (.ref uFALSE), .val (.int ms83_0), .unset, .unset] [(.long ylaw_2), (.ref uFALSE)])) rfl (by rw [hml]; rfl) (Steps.refl _) (argsL := [(.long ylaw_2)]) (rest := []) (lenOf pd4 rfl) rfl (by show 2 * 0 + _ ≤ _; exact Nat.le_of_eq rfl) (hb hby at_88) (fun _ _ => ⟨rfl, e28, (by decide : 1 + 0 ≤ _), (by decide : 2 + 0 ≤ _)⟩)
      dsimp only [Pt.U, Pt.locs, Pt.cells, Pt.slots] at X29 l29 y29 z29 st29 hQ29
      subst l29 y29 z29
      obtain ⟨rfl, Nq29, e29⟩ := hQ29
      have N29 := Fr.app N28 Nq29
      refine Wq.steps st29 ?_
      show Wq _ _ _ _ _ (T29.setTop (mkF m 91 #[.val (.int xlaw_1), .val (.long ylaw_2), .second, .val (.int (1 : Int32)), .val (.int (0 : Int32)), .val (.ref o4_c27), .val (.ref uFALSE), .val (.int ms83_0), .unset, .unset] [(.int (f_con ylaw_2 (0 : Int64) (0 : Int64)))]))
      generalize hv88 : (f_con ylaw_2 (0 : Int64) (0 : Int64)) = v88
      show Wq _ _ _ _ _ (T29.setTop (mkF m 91 #[.val (.int xlaw_1), .val (.long ylaw_2), .second, .val (.int (1 : Int32)), .val (.int (0 : Int32)), .val (.ref o4_c27), .val (.ref uFALSE), .val (.int ms83_0), .unset, .unset] [(.int v88)]))
      refine W.iload X29 hx (pc' := 93) (hb hby at_91) rfl ?_
      refine W.icmpNo X29 hx (pc' := 96) (hb hby at_93) (teq (by subst_vars; first | exact own_c11 _ | exact own_c10 _ | exact own_c01 _ | exact own_c00 _ : v88 = ms83_0)).2 ?_
      refine W.iconst X29 hx (pc' := 97) (hb hby at_96) (z := (1 : Int32)) rfl ?_
      refine W.goto X29 hx (pc' := 101) (hb hby at_97) (by decide) (by decide) ?_
      refine W.istore X29 hx (pc' := 103) (hb hby at_101) (l' := #[.val (.int xlaw_1), .val (.long ylaw_2), .second, .val (.int (1 : Int32)), .val (.int (0 : Int32)), .val (.ref o4_c27), .val (.ref uFALSE), .val (.int ms83_0), .val (.int (1 : Int32)), .unset]) rfl ?_
      refine W.aload X29 hx (pc' := 105) (hb hby at_103) rfl rfl ?_
      refine W.aload X29 hx (pc' := 107) (hb hby at_105) rfl rfl ?_
      obtain ⟨cq30, kq30, q30a, q30b, q30c⟩ := isOf hZ e29 E_uFALSE_t27
      obtain ⟨_, _, ⟨T30, L30, k30, n30⟩, -, X30, ⟨Lc30, hQ30, l30, y30, z30⟩, st30⟩ := X29.virtualBack hx (y := mt5) (z := mt5) hown (mvT hZ (kw18 hw)) (mvT hZ (kw19 hw)) (notFace_of_selects (args := #[]) (mvT hZ (kw21 hw))) (mvT hZ (kw21 hw)) (mvT hZ (kw20 hw)) (by decide) (backOf (W := 0) (rm_eq l Z a0 hw [] uFALSE o4_c27 (0 : Int64) (0 : Int64) (0 : Int64) (0 : Int64) T27.heap n0 Z27 P27_0 F_uFALSE_low_t27 P27_1 F_uFALSE_high_t27 P27_2) hZ (kw22 hw) (kw2 hw) (by decide) (by decide)) q30a q30c (g := (mkF m 107 #[.val (.int xlaw_1), .val (.long ylaw_2), .second, .val (.int (1 : Int32)), .val (.int (0 : Int32)), .val (.ref o4_c27), .val (.ref uFALSE), .val (.int ms83_0), .val (.int (1 : Int32)), .unset] [(.ref o4_c27), (.ref uFALSE)])) rfl (by rw [hml]; rfl) (Steps.refl _) (argsL := [(.ref o4_c27)]) (rest := []) (lenOf pd5 rfl) rfl (by show 2 * 0 + _ ≤ _; exact Nat.le_of_eq rfl) (hb hby at_107) (fun _ _ => ⟨rfl, e29, (by decide : 1 + 0 ≤ _), (by decide : 2 + 0 ≤ _)⟩)
      dsimp only [Pt.U, Pt.locs, Pt.cells, Pt.slots] at X30 l30 y30 z30 st30 hQ30
      subst l30 y30 z30
      obtain ⟨rfl, Nq30, e30⟩ := hQ30
      have N30 := Fr.app N29 Nq30
      refine Wq.steps st30 ?_
      show Wq _ _ _ _ _ (T30.setTop (mkF m 110 #[.val (.int xlaw_1), .val (.long ylaw_2), .second, .val (.int (1 : Int32)), .val (.int (0 : Int32)), .val (.ref o4_c27), .val (.ref uFALSE), .val (.int ms83_0), .val (.int (1 : Int32)), .unset] [(.int (f_eq (0 : Int64) (0 : Int64) (0 : Int64) (0 : Int64)))]))
      generalize hv107 : (f_eq (0 : Int64) (0 : Int64) (0 : Int64) (0 : Int64)) = v107
      show Wq _ _ _ _ _ (T30.setTop (mkF m 110 #[.val (.int xlaw_1), .val (.long ylaw_2), .second, .val (.int (1 : Int32)), .val (.int (0 : Int32)), .val (.ref o4_c27), .val (.ref uFALSE), .val (.int ms83_0), .val (.int (1 : Int32)), .unset] [(.int v107)]))
      refine W.istore X30 hx (pc' := 112) (hb hby at_110) (l' := #[.val (.int xlaw_1), .val (.long ylaw_2), .second, .val (.int (1 : Int32)), .val (.int (0 : Int32)), .val (.ref o4_c27), .val (.ref uFALSE), .val (.int ms83_0), .val (.int (1 : Int32)), .val (.int v107)]) rfl ?_
      refine W.iload X30 hx (pc' := 114) (hb hby at_112) rfl ?_
      refine W.ifNo X30 hx (pc' := 117) (hb hby at_114) ((if0 _ _).trans (feq (by decide : ¬ ((1 : Int32) = (0 : Int32)))).1) ?_
      refine W.iload X30 hx (pc' := 119) (hb hby at_117) rfl ?_
      refine W.ifNo X30 hx (pc' := 122) (hb hby at_119) ((if0 _ _).trans (feq (by subst_vars; decide : ¬ (v107 = (0 : Int32)))).1) ?_
      refine W.iconst X30 hx (pc' := 123) (hb hby at_122) (z := (1 : Int32)) rfl ?_
      refine W.goto X30 hx (pc' := 127) (hb hby at_123) (by decide) (by decide) ?_
      exact Wq.ret X30 (BodyLoose.notSynchronized Bd) (rv := some (.int (1 : Int32))) (fun h => by rw [Bd.returns] at h; cases h) (fun _ hr => retN X30 hx (t := .boolean) Bd.returns (by simp) (hb hby at_127) hr) (by decide) (by decide) ⟨rfl, N30⟩
    · skip
      refine W.ifNo X0 hx (pc' := 18) (hb hby at_15) ((if0 _ _).trans (feq hc15).1) ?_
      refine W.iconst X0 hx (pc' := 19) (hb hby at_18) (z := (1 : Int32)) rfl ?_
      refine W.goto X0 hx (pc' := 23) (hb hby at_19) (by decide) (by decide) ?_
      refine W.istore X0 hx (pc' := 25) (hb hby at_23) (l' := #[.val (.int xlaw_1), .val (.long ylaw_2), .second, .val (.int (1 : Int32)), .val (.int (1 : Int32)), .unset, .unset, .unset, .unset, .unset]) rfl ?_
      refine W.iloadN X0 hx (pc' := 26) (hb hby at_25) rfl ?_
      refine W.ifNo X0 hx (pc' := 29) (hb hby at_26) ((if0 _ _).trans (feq (by decide : ¬ ((1 : Int32) = (0 : Int32)))).1) ?_
      refine W.lconst X0 hx (pc' := 30) (hb hby at_29) (z := (0 : Int64)) rfl ?_
      refine W.goto X0 hx (pc' := 34) (hb hby at_30) (by decide) (by decide) ?_
      refine W.iload X0 hx (pc' := 36) (hb hby at_34) rfl ?_
      refine W.ifNo X0 hx (pc' := 39) (hb hby at_36) ((if0 _ _).trans (feq (by decide : ¬ ((1 : Int32) = (0 : Int32)))).1) ?_
      refine W.lconst X0 hx (pc' := 40) (hb hby at_39) (z := (1 : Int64)) rfl ?_
      refine W.goto X0 hx (pc' := 44) (hb hby at_40) (by decide) (by decide) ?_
      obtain ⟨_, _, ⟨T31, L31, k31, n31⟩, -, X31, ⟨Lc31, hQ31, l31, y31, z31⟩, st31⟩ := Jvm.LawKit.callS X0 hx (y := mt2) hown (mvT hZ (kw0 hw)) (mvT hZ (kw1 hw)) (mvT hZ (kw2 hw)) (mvT hZ (kw3 hw)) (by decide) (backOf (W := 0) (rm_ofn l Z a0 hw [] (0 : Int64) (1 : Int64) h0 n0 Z0 (by decide)) hZ (kw3 hw) (kw2 hw) (by decide) (by decide)) (g := (mkF m 44 #[.val (.int xlaw_1), .val (.long ylaw_2), .second, .val (.int (1 : Int32)), .val (.int (1 : Int32)), .unset, .unset, .unset, .unset, .unset] [(.long (1 : Int64)), (.long (0 : Int64))])) rfl (by rw [hml]; rfl) (argsL := [(.long (0 : Int64)), (.long (1 : Int64))]) (rest := []) (lenOf pd2 rfl) rfl (by show 2 * 0 + _ ≤ _; exact Nat.le_of_eq rfl) (hb hby at_44) (fun _ _ => ⟨rfl, e0, (by decide : 0 + 1 ≤ _), (by decide : 0 + 2 ≤ _)⟩)
      dsimp only [Pt.U, Pt.locs, Pt.cells, Pt.slots] at X31 l31 y31 z31 st31 hQ31
      subst l31 y31 z31
      obtain ⟨o4_c31, rfl, Nq31, Kq31, szq_o4_c31, P31_0, P31_1, P31_2⟩ := hQ31
      have g_o4_c31 : n0 ≤ o4_c31 := Nat.le_trans Z0 szq_o4_c31
      have sz_o4_c31 : h0.size ≤ o4_c31 := szq_o4_c31
      have ne_uEMPTY_o4_c31 : uEMPTY ≠ o4_c31 := Nat.ne_of_lt (Nat.lt_of_lt_of_le E_uEMPTY.lt szq_o4_c31)
      have ne_uFALSE_o4_c31 : uFALSE ≠ o4_c31 := Nat.ne_of_lt (Nat.lt_of_lt_of_le E_uFALSE.lt szq_o4_c31)
      have ne_uTRUE_o4_c31 : uTRUE ≠ o4_c31 := Nat.ne_of_lt (Nat.lt_of_lt_of_le E_uTRUE.lt szq_o4_c31)
      have ne_uTRUTHS_o4_c31 : uTRUTHS ≠ o4_c31 := Nat.ne_of_lt (Nat.lt_of_lt_of_le E_uTRUTHS.lt szq_o4_c31)
      have N31 := Fr.app N0 Nq31
      have K31 : Keep h0 T31.heap [] := (Keep.refl h0 []).trans Kq31 all0
      have Z31 : n0 ≤ T31.heap.size := Nat.le_trans Z0 Kq31.1
      have S_EMPTY_t31 := Jvm.OwnW.Sta.keepN S_EMPTY Kq31 all0
      have E_uEMPTY_t31 := E_uEMPTY.keep Kq31
      have F_uEMPTY_low_t31 := F_uEMPTY_low.keep Kq31 nin0
      have F_uEMPTY_high_t31 := F_uEMPTY_high.keep Kq31 nin0
      have S_FALSE_t31 := Jvm.OwnW.Sta.keepN S_FALSE Kq31 all0
      have E_uFALSE_t31 := E_uFALSE.keep Kq31
      have F_uFALSE_low_t31 := F_uFALSE_low.keep Kq31 nin0
      have F_uFALSE_high_t31 := F_uFALSE_high.keep Kq31 nin0
      have S_TRUE_t31 := Jvm.OwnW.Sta.keepN S_TRUE Kq31 all0
      have E_uTRUE_t31 := E_uTRUE.keep Kq31
      have F_uTRUE_low_t31 := F_uTRUE_low.keep Kq31 nin0
      have F_uTRUE_high_t31 := F_uTRUE_high.keep Kq31 nin0
      have S_TRUTHS_t31 := Jvm.OwnW.Sta.keepN S_TRUTHS Kq31 all0
      have E_uTRUTHS_t31 := E_uTRUTHS.keep Kq31
      have F_uTRUTHS_low_t31 := F_uTRUTHS_low.keep Kq31 nin0
      have F_uTRUTHS_high_t31 := F_uTRUTHS_high.keep Kq31 nin0
      have e31 : T31.heap = T31.heap := rfl
      refine Wq.step st31 ?_
      show Wq _ _ _ _ _ (T31.setTop (mkF m 47 #[.val (.int xlaw_1), .val (.long ylaw_2), .second, .val (.int (1 : Int32)), .val (.int (1 : Int32)), .unset, .unset, .unset, .unset, .unset] [(.ref o4_c31)]))
      refine W.astore X31 hx (pc' := 49) (hb hby at_47) rfl (l' := #[.val (.int xlaw_1), .val (.long ylaw_2), .second, .val (.int (1 : Int32)), .val (.int (1 : Int32)), .val (.ref o4_c31), .unset, .unset, .unset, .unset]) rfl ?_
      refine W.iloadN X31 hx (pc' := 50) (hb hby at_49) rfl ?_
      refine W.iload X31 hx (pc' := 52) (hb hby at_50) rfl ?_
      obtain ⟨_, _, ⟨T32, L32, k32, n32⟩, -, X32, ⟨Lc32, hQ32, l32, y32, z32⟩, st32⟩ := Jvm.LawKit.callS X31 hx (y := mt3) hown (mvT hZ (kw6 hw)) (mvT hZ (kw7 hw)) (mvT hZ (kw2 hw)) (mvT hZ (kw8 hw)) (by decide) (backOf (W := 0) (rm_tr11 l Z a0 hw [] uTRUTHS T31.heap n0 Z31 S_TRUTHS_t31) hZ (kw8 hw) (kw2 hw) (by decide) (by decide)) (g := (mkF m 52 #[.val (.int xlaw_1), .val (.long ylaw_2), .second, .val (.int (1 : Int32)), .val (.int (1 : Int32)), .val (.ref o4_c31), .unset, .unset, .unset, .unset] [(.int (1 : Int32)), (.int (1 : Int32))])) rfl (by rw [hml]; rfl) (argsL := [(.int (1 : Int32)), (.int (1 : Int32))]) (rest := []) (lenOf pd3 rfl) rfl (by show 2 * 0 + _ ≤ _; exact Nat.le_of_eq rfl) (hb hby at_52) (fun _ _ => ⟨rfl, e31, (by decide : 1 + 0 ≤ _), (by decide : 2 + 0 ≤ _)⟩)
      dsimp only [Pt.U, Pt.locs, Pt.cells, Pt.slots] at X32 l32 y32 z32 st32 hQ32
      subst l32 y32 z32
      obtain ⟨rfl, Nq32, e32⟩ := hQ32
      have N32 := Fr.app N31 Nq32
      refine Wq.step st32 ?_
      show Wq _ _ _ _ _ (T32.setTop (mkF m 55 #[.val (.int xlaw_1), .val (.long ylaw_2), .second, .val (.int (1 : Int32)), .val (.int (1 : Int32)), .val (.ref o4_c31), .unset, .unset, .unset, .unset] [(.ref uTRUTHS)]))
      refine W.astore X32 hx (pc' := 57) (hb hby at_55) rfl (l' := #[.val (.int xlaw_1), .val (.long ylaw_2), .second, .val (.int (1 : Int32)), .val (.int (1 : Int32)), .val (.ref o4_c31), .val (.ref uTRUTHS), .unset, .unset, .unset]) rfl ?_
      refine W.iloadN X32 hx (pc' := 58) (hb hby at_57) rfl ?_
      refine W.ifNo X32 hx (pc' := 61) (hb hby at_58) ((if0 _ _).trans (feq (by decide : ¬ ((1 : Int32) = (0 : Int32)))).1) ?_
      refine W.lloadN X32 hx (pc' := 62) (hb hby at_61) rfl ?_
      refine W.lconst X32 hx (pc' := 63) (hb hby at_62) (z := (0 : Int64)) rfl ?_
      refine W.lcmp X32 hx (pc' := 64) (hb hby at_63)  ?_
      refine Wq.by (U' := T32.setTop (mkF m 83 #[.val (.int xlaw_1), .val (.long ylaw_2), .second, .val (.int (1 : Int32)), .val (.int (1 : Int32)), .val (.ref o4_c31), .val (.ref uTRUTHS), .unset, .unset, .unset] [(.int (if ylaw_2 = (0 : Int64) then (1 : Int32) else (if ylaw_2 = (1 : Int64) then (1 : Int32) else (0 : Int32))))])) (fun k => ?_) ?_
      · skip
        by_cases hm64 : ylaw_2 = (0 : Int64)
        · skip
          refine W.ifYes X32 hx (pc' := 78) (hb hby at_64) ((if0 _ _).trans (teq ((lw_eq _ _).mpr hm64)).1) (by decide) (by decide) ?_
          refine W.iconst X32 hx (pc' := 79) (hb hby at_78) (z := (1 : Int32)) rfl ?_
          refine W.goto X32 hx (pc' := 83) (hb hby at_79) (by decide) (by decide) ?_
          simp only [if_pos hm64] at k
          exact k
        · skip
          refine W.ifNo X32 hx (pc' := 67) (hb hby at_64) ((if0 _ _).trans (feq (mt (lw_eq _ _).mp hm64)).1) ?_
          refine W.iload X32 hx (pc' := 69) (hb hby at_67) rfl ?_
          refine W.ifNo X32 hx (pc' := 72) (hb hby at_69) ((if0 _ _).trans (feq (by decide : ¬ ((1 : Int32) = (0 : Int32)))).1) ?_
          refine W.lloadN X32 hx (pc' := 73) (hb hby at_72) rfl ?_
          refine W.lconst X32 hx (pc' := 74) (hb hby at_73) (z := (1 : Int64)) rfl ?_
          refine W.lcmp X32 hx (pc' := 75) (hb hby at_74)  ?_
          by_cases hm75 : ylaw_2 = (1 : Int64)
          · skip
            refine W.ifNo X32 hx (pc' := 78) (hb hby at_75) ((if0 _ _).trans (teq ((lw_eq _ _).mpr hm75)).2) ?_
            refine W.iconst X32 hx (pc' := 79) (hb hby at_78) (z := (1 : Int32)) rfl ?_
            refine W.goto X32 hx (pc' := 83) (hb hby at_79) (by decide) (by decide) ?_
            simp only [if_neg hm64, if_pos hm75] at k
            exact k
          · skip
            refine W.ifYes X32 hx (pc' := 82) (hb hby at_75) ((if0 _ _).trans (feq (mt (lw_eq _ _).mp hm75)).2) (by decide) (by decide) ?_
            refine W.iconst X32 hx (pc' := 83) (hb hby at_82) (z := (0 : Int32)) rfl ?_
            simp only [if_neg hm64, if_neg hm75] at k
            exact k
      show Wq _ _ _ _ _ (T32.setTop (mkF m 83 #[.val (.int xlaw_1), .val (.long ylaw_2), .second, .val (.int (1 : Int32)), .val (.int (1 : Int32)), .val (.ref o4_c31), .val (.ref uTRUTHS), .unset, .unset, .unset] [(.int (if ylaw_2 = (0 : Int64) then (1 : Int32) else (if ylaw_2 = (1 : Int64) then (1 : Int32) else (0 : Int32))))]))
      generalize hms83_0 : (if ylaw_2 = (0 : Int64) then (1 : Int32) else (if ylaw_2 = (1 : Int64) then (1 : Int32) else (0 : Int32))) = ms83_0
      refine W.istore X32 hx (pc' := 85) (hb hby at_83) (l' := #[.val (.int xlaw_1), .val (.long ylaw_2), .second, .val (.int (1 : Int32)), .val (.int (1 : Int32)), .val (.ref o4_c31), .val (.ref uTRUTHS), .val (.int ms83_0), .unset, .unset]) rfl ?_
      refine W.aload X32 hx (pc' := 87) (hb hby at_85) rfl rfl ?_
      refine W.lloadN X32 hx (pc' := 88) (hb hby at_87) rfl ?_
      obtain ⟨cq33, kq33, q33a, q33b, q33c⟩ := isOf hZ e32 E_uTRUTHS_t31
      obtain ⟨_, _, ⟨T33, L33, k33, n33⟩, -, X33, ⟨Lc33, hQ33, l33, y33, z33⟩, st33⟩ := X32.virtualBack hx (y := mt4) (z := mt4) hown (mvT hZ (kw9 hw)) (mvT hZ (kw10 hw)) (notFace_of_selects (args := #[]) (mvT hZ (kw12 hw))) (mvT hZ (kw12 hw)) (mvT hZ (kw11 hw)) (by decide) (backOf (W := 0) (rm_con l Z a0 hw [] uTRUTHS ylaw_2 (0 : Int64) (1 : Int64) T31.heap n0 Z31 F_uTRUTHS_low_t31 F_uTRUTHS_high_t31) hZ (kw13 hw) (kw2 hw) (by decide) (by decide)) q33a q33c (g := (mkF m 88 #[.val (.int xlaw_1), .val (.long ylaw_2), .second, .val (.int (1 : Int32)), .val (.int (1 : Int32)), .val (.ref o4_c31), .val (.ref uTRUTHS), .val (.int ms83_0), .unset, .unset] [(.long ylaw_2), (.ref uTRUTHS)])) rfl (by rw [hml]; rfl) (Steps.refl _) (argsL := [(.long ylaw_2)]) (rest := []) (lenOf pd4 rfl) rfl (by show 2 * 0 + _ ≤ _; exact Nat.le_of_eq rfl) (hb hby at_88) (fun _ _ => ⟨rfl, e32, (by decide : 1 + 0 ≤ _), (by decide : 2 + 0 ≤ _)⟩)
      dsimp only [Pt.U, Pt.locs, Pt.cells, Pt.slots] at X33 l33 y33 z33 st33 hQ33
      subst l33 y33 z33
      obtain ⟨rfl, Nq33, e33⟩ := hQ33
      have N33 := Fr.app N32 Nq33
      refine Wq.steps st33 ?_
      show Wq _ _ _ _ _ (T33.setTop (mkF m 91 #[.val (.int xlaw_1), .val (.long ylaw_2), .second, .val (.int (1 : Int32)), .val (.int (1 : Int32)), .val (.ref o4_c31), .val (.ref uTRUTHS), .val (.int ms83_0), .unset, .unset] [(.int (f_con ylaw_2 (0 : Int64) (1 : Int64)))]))
      generalize hv88 : (f_con ylaw_2 (0 : Int64) (1 : Int64)) = v88
      show Wq _ _ _ _ _ (T33.setTop (mkF m 91 #[.val (.int xlaw_1), .val (.long ylaw_2), .second, .val (.int (1 : Int32)), .val (.int (1 : Int32)), .val (.ref o4_c31), .val (.ref uTRUTHS), .val (.int ms83_0), .unset, .unset] [(.int v88)]))
      refine W.iload X33 hx (pc' := 93) (hb hby at_91) rfl ?_
      refine W.icmpNo X33 hx (pc' := 96) (hb hby at_93) (teq (by subst_vars; first | exact own_c11 _ | exact own_c10 _ | exact own_c01 _ | exact own_c00 _ : v88 = ms83_0)).2 ?_
      refine W.iconst X33 hx (pc' := 97) (hb hby at_96) (z := (1 : Int32)) rfl ?_
      refine W.goto X33 hx (pc' := 101) (hb hby at_97) (by decide) (by decide) ?_
      refine W.istore X33 hx (pc' := 103) (hb hby at_101) (l' := #[.val (.int xlaw_1), .val (.long ylaw_2), .second, .val (.int (1 : Int32)), .val (.int (1 : Int32)), .val (.ref o4_c31), .val (.ref uTRUTHS), .val (.int ms83_0), .val (.int (1 : Int32)), .unset]) rfl ?_
      refine W.aload X33 hx (pc' := 105) (hb hby at_103) rfl rfl ?_
      refine W.aload X33 hx (pc' := 107) (hb hby at_105) rfl rfl ?_
      obtain ⟨cq34, kq34, q34a, q34b, q34c⟩ := isOf hZ e33 E_uTRUTHS_t31
      obtain ⟨_, _, ⟨T34, L34, k34, n34⟩, -, X34, ⟨Lc34, hQ34, l34, y34, z34⟩, st34⟩ := X33.virtualBack hx (y := mt5) (z := mt5) hown (mvT hZ (kw18 hw)) (mvT hZ (kw19 hw)) (notFace_of_selects (args := #[]) (mvT hZ (kw21 hw))) (mvT hZ (kw21 hw)) (mvT hZ (kw20 hw)) (by decide) (backOf (W := 0) (rm_eq l Z a0 hw [] uTRUTHS o4_c31 (0 : Int64) (0 : Int64) (1 : Int64) (1 : Int64) T31.heap n0 Z31 P31_0 F_uTRUTHS_low_t31 P31_1 F_uTRUTHS_high_t31 P31_2) hZ (kw22 hw) (kw2 hw) (by decide) (by decide)) q34a q34c (g := (mkF m 107 #[.val (.int xlaw_1), .val (.long ylaw_2), .second, .val (.int (1 : Int32)), .val (.int (1 : Int32)), .val (.ref o4_c31), .val (.ref uTRUTHS), .val (.int ms83_0), .val (.int (1 : Int32)), .unset] [(.ref o4_c31), (.ref uTRUTHS)])) rfl (by rw [hml]; rfl) (Steps.refl _) (argsL := [(.ref o4_c31)]) (rest := []) (lenOf pd5 rfl) rfl (by show 2 * 0 + _ ≤ _; exact Nat.le_of_eq rfl) (hb hby at_107) (fun _ _ => ⟨rfl, e33, (by decide : 1 + 0 ≤ _), (by decide : 2 + 0 ≤ _)⟩)
      dsimp only [Pt.U, Pt.locs, Pt.cells, Pt.slots] at X34 l34 y34 z34 st34 hQ34
      subst l34 y34 z34
      obtain ⟨rfl, Nq34, e34⟩ := hQ34
      have N34 := Fr.app N33 Nq34
      refine Wq.steps st34 ?_
      show Wq _ _ _ _ _ (T34.setTop (mkF m 110 #[.val (.int xlaw_1), .val (.long ylaw_2), .second, .val (.int (1 : Int32)), .val (.int (1 : Int32)), .val (.ref o4_c31), .val (.ref uTRUTHS), .val (.int ms83_0), .val (.int (1 : Int32)), .unset] [(.int (f_eq (0 : Int64) (0 : Int64) (1 : Int64) (1 : Int64)))]))
      generalize hv107 : (f_eq (0 : Int64) (0 : Int64) (1 : Int64) (1 : Int64)) = v107
      show Wq _ _ _ _ _ (T34.setTop (mkF m 110 #[.val (.int xlaw_1), .val (.long ylaw_2), .second, .val (.int (1 : Int32)), .val (.int (1 : Int32)), .val (.ref o4_c31), .val (.ref uTRUTHS), .val (.int ms83_0), .val (.int (1 : Int32)), .unset] [(.int v107)]))
      refine W.istore X34 hx (pc' := 112) (hb hby at_110) (l' := #[.val (.int xlaw_1), .val (.long ylaw_2), .second, .val (.int (1 : Int32)), .val (.int (1 : Int32)), .val (.ref o4_c31), .val (.ref uTRUTHS), .val (.int ms83_0), .val (.int (1 : Int32)), .val (.int v107)]) rfl ?_
      refine W.iload X34 hx (pc' := 114) (hb hby at_112) rfl ?_
      refine W.ifNo X34 hx (pc' := 117) (hb hby at_114) ((if0 _ _).trans (feq (by decide : ¬ ((1 : Int32) = (0 : Int32)))).1) ?_
      refine W.iload X34 hx (pc' := 119) (hb hby at_117) rfl ?_
      refine W.ifNo X34 hx (pc' := 122) (hb hby at_119) ((if0 _ _).trans (feq (by subst_vars; decide : ¬ (v107 = (0 : Int32)))).1) ?_
      refine W.iconst X34 hx (pc' := 123) (hb hby at_122) (z := (1 : Int32)) rfl ?_
      refine W.goto X34 hx (pc' := 127) (hb hby at_123) (by decide) (by decide) ?_
      exact Wq.ret X34 (BodyLoose.notSynchronized Bd) (rv := some (.int (1 : Int32))) (fun h => by rw [Bd.returns] at h; cases h) (fun _ hr => retN X34 hx (t := .boolean) Bd.returns (by simp) (hb hby at_127) hr) (by decide) (by decide) ⟨rfl, N34⟩
set_option maxRecDepth 65536 in
set_option maxHeartbeats 40000000 in
theorem comes_1 {Post : Tables → Env → Array Value → State → Outcome → State → Prop} (hpost : ∀ tb e args s v u, (limb_1_1.after args s (.returned v) u = true ∧ limb_1_2.after args s (.returned v) u = true ∧ True) → FrameEnd s (.returned v) u (Jvm.fieldLocs frame_1_writes args s ++ Jvm.arrayLocs frame_1_arrays args s ++ Jvm.staticLocs frame_1_statics s) 16 128 → Post tb e args s (.returned v) u) :
    ArmFor flags0 classFile x code maxLocals ret World_1 tables_1 room_1 Calls_1 rest_1 Pre_1 Post := by
  intro l hfl _ _ p e ha hc hk s m args below hf hA hF happ hP
  obtain ⟨hcalls, hrest, hpre⟩ := hP
  obtain ⟨-, -, -, hnamed, -, -, -, hat⟩ := (Spec.applies_iff hf).mp happ
  obtain ⟨hg, hn⟩ := and_e (Cond.before_iff.mp (show (Jvm.Cond.and given_1 narrow_1).before args s = true from hpre))
  obtain ⟨hg1, hg2⟩ := and_e hg
  obtain ⟨ha0, hb0⟩ := and_e hg2
  obtain ⟨w0, w1, rfl⟩ : ∃ w0 w1 : Value, args = #[w0, w1] := by
    have hs : args.size = 2 := by simpa [Cond.value, given_1] using hg1
    obtain ⟨L⟩ := args
    match L, hs with
    | [w0, w1], _ => exact ⟨w0, w1, rfl⟩
  have hw := fun d (hd : d ∈ tables_1) => atoms_spec (ws := Jvm.Cond.code x code maxLocals ret :: tables_1) hat d (List.mem_cons_of_mem _ hd)
  have hfit : Fit s := fun {y c} hc i hi => by
    obtain ⟨ha, rfl⟩ := Array.getElem?_eq_some_iff.mp hc
    have q := List.all_eq_true.mp ((Array.all_eq_true_iff_forall_mem.mp hF) _ (Array.getElem_mem ha)) i (List.mem_range.mpr hi)
    simpa [Array.getElem?_eq_getElem hi] using q
  obtain ⟨i0, ei0⟩ := is_v ha0
  obtain rfl : w0 = (.int i0) := Option.some.inj ei0
  obtain ⟨i1, ei1⟩ := isL_v hb0
  obtain rfl : w1 = (.long i1) := Option.some.inj ei1
  obtain ⟨hn0, hnr0⟩ := and_e hn
  obtain ⟨hn1, hnr1⟩ := and_e hnr0
  obtain ⟨hn2, hnr2⟩ := and_e hnr1
  obtain ⟨hn3, hnr3⟩ := and_e hnr2
  obtain ⟨hn4, hnr4⟩ := and_e hnr3
  obtain ⟨hn5, hnr5⟩ := and_e hnr4
  obtain ⟨hn6, hnr6⟩ := and_e hnr5
  obtain ⟨hn7, hnr7⟩ := and_e hnr6
  obtain ⟨hn8, hnr8⟩ := and_e hnr7
  obtain ⟨hn9, hnr9⟩ := and_e hnr8
  obtain ⟨hn10, hnr10⟩ := and_e hnr9
  obtain ⟨uEMPTY, evuEMPTY⟩ := exa_v hn0
  have SuEMPTY : Sta s s.heap "com/example/tauten/tauten/Interval" "EMPTY" "Lcom/example/tauten/tauten/Interval;" (.ref uEMPTY) := Sta.start evuEMPTY (Or.inr ⟨(kw2 hw), (kw5 hw)⟩)
  have EuEMPTY : Exa s s.heap uEMPTY "com/example/tauten/tauten/Interval" := Exa.start evuEMPTY hn0
  have FuEMPTY_low : Fld s s.heap uEMPTY "com/example/tauten/tauten/Interval" "low" "J" (.long (1 : Int64)) := Jvm.OwnW.fldJ hn1 evuEMPTY
  have FuEMPTY_high : Fld s s.heap uEMPTY "com/example/tauten/tauten/Interval" "high" "J" (.long (0 : Int64)) := Jvm.OwnW.fldJ hn2 evuEMPTY
  obtain ⟨uFALSE, evuFALSE⟩ := exa_v hn3
  have SuFALSE : Sta s s.heap "com/example/tauten/tauten/Interval" "FALSE" "Lcom/example/tauten/tauten/Interval;" (.ref uFALSE) := Sta.start evuFALSE (Or.inr ⟨(kw2 hw), (kw33 hw)⟩)
  have EuFALSE : Exa s s.heap uFALSE "com/example/tauten/tauten/Interval" := Exa.start evuFALSE hn3
  have FuFALSE_low : Fld s s.heap uFALSE "com/example/tauten/tauten/Interval" "low" "J" (.long (0 : Int64)) := Jvm.OwnW.fldJ hn4 evuFALSE
  have FuFALSE_high : Fld s s.heap uFALSE "com/example/tauten/tauten/Interval" "high" "J" (.long (0 : Int64)) := Jvm.OwnW.fldJ hn5 evuFALSE
  obtain ⟨uTRUE, evuTRUE⟩ := exa_v hn6
  have SuTRUE : Sta s s.heap "com/example/tauten/tauten/Interval" "TRUE" "Lcom/example/tauten/tauten/Interval;" (.ref uTRUE) := Sta.start evuTRUE (Or.inr ⟨(kw2 hw), (kw35 hw)⟩)
  have EuTRUE : Exa s s.heap uTRUE "com/example/tauten/tauten/Interval" := Exa.start evuTRUE hn6
  have FuTRUE_low : Fld s s.heap uTRUE "com/example/tauten/tauten/Interval" "low" "J" (.long (1 : Int64)) := Jvm.OwnW.fldJ hn7 evuTRUE
  have FuTRUE_high : Fld s s.heap uTRUE "com/example/tauten/tauten/Interval" "high" "J" (.long (1 : Int64)) := Jvm.OwnW.fldJ hn8 evuTRUE
  obtain ⟨uTRUTHS, evuTRUTHS⟩ := exa_v hn9
  have SuTRUTHS : Sta s s.heap "com/example/tauten/tauten/Interval" "TRUTHS" "Lcom/example/tauten/tauten/Interval;" (.ref uTRUTHS) := Sta.start evuTRUTHS (Or.inr ⟨(kw2 hw), (kw37 hw)⟩)
  have EuTRUTHS : Exa s s.heap uTRUTHS "com/example/tauten/tauten/Interval" := Exa.start evuTRUTHS hn9
  have FuTRUTHS_low : Fld s s.heap uTRUTHS "com/example/tauten/tauten/Interval" "low" "J" (.long (0 : Int64)) := Jvm.OwnW.fldJ hn10 evuTRUTHS
  have FuTRUTHS_high : Fld s s.heap uTRUTHS "com/example/tauten/tauten/Interval" "high" "J" (.long (1 : Int64)) := Jvm.OwnW.fldJ hnr10 evuTRUTHS
  obtain ⟨n, o, h1, h2, h3, _, L, rfl, ⟨rfl, N⟩, hq⟩ := rm_law l s _ hw tables_1 i0 i1 uEMPTY uFALSE uTRUE uTRUTHS s.heap s.heap.size (Nat.le_refl _) SuEMPTY EuEMPTY FuEMPTY_low FuEMPTY_high SuFALSE EuFALSE FuFALSE_low FuFALSE_high SuTRUE EuTRUE FuTRUE_low FuTRUE_high SuTRUTHS EuTRUTHS FuTRUTHS_low FuTRUTHS_high p e ha hc hk s m _ below hf ((Spec.applies_iff_loose hf).mp happ).1 ⟨rfl, State.Warmed39.refl s, rfl⟩ trivial
  refine ⟨n, _, h1, h2, h3, hpost _ _ _ _ _ _ ⟨Cond.after_iff.mpr rfl, Cond.after_iff.mpr (eq_i res_at (Term.int_eval (1)) rfl), trivial⟩ ⟨hq.1, hq.2.1, (hq.2.2.sift fun y hy => Or.inr (N y hy)).mono (by decide) (by decide)⟩⟩
theorem main_1_1 : Claimed_1_1 := comes_1 fun _ _ _ _ _ _ h hF => ⟨h.1, hF⟩
theorem main_1_2 : Claimed_1_2 := comes_1 fun _ _ _ _ _ _ h hF => ⟨h.2.1, hF⟩
end Jvm.Pilot.@@N@@
namespace Jvm.Pilot.@@N@@
open Jvm Jvm.ClassFile Sem Op Lib Jvm.Free Jvm.Stand Jvm.Pilot.@@N@@.Jvm.D
/-! MADE BY PROGRAM (witnessworld.py) out of the Statement's table words and the real class files: 9 classes; the members and pool entries that the words name. The judged class is class 1, her method 1. -/
namespace start1
open Jvm.ClassFile
def u (s : String) : CpInfo := .utf8 (stringToUtf16 s)
/-- a pool by its gaps: so many unusable entries, then the entry; so many at the end -/
def gap : Nat → List CpInfo → List CpInfo
  | 0, r => r
  | n + 1, r => .unusable :: gap n r
def poolList (es : List (Nat × CpInfo)) (last : Nat) : List CpInfo := es.foldr (fun e r => gap e.1 (e.2 :: r)) (gap last [])
def pool (es : List (Nat × CpInfo)) (last : Nat) : Array CpInfo := ⟨poolList es last⟩
def fileOf (pool : Array CpInfo) (this : Nat) (attrs : Array Attribute := #[]) (ms : Array MethodInfo := #[]) (fl : Nat := 33) (sup : Nat := 0) (ifs : Array Nat := #[]) (fds : Array FieldInfo := #[]) : ClassFile where
  minorVersion := 0
  majorVersion := 65
  constantPool := pool
  accessFlags := fl
  thisClass := this
  superClass := sup
  interfaces := ifs
  fields := fds
  methods := ms
  attributes := attrs
def plain (name : String) (sup : Option ClassId) : Class where
  name := name
  kind := .ordinary
  loader := none
  accessFlags := 33
  super := sup
  interfaces := #[]
  cf := none
  fields := #[]
  methods := #[]
  instanceTypes := #[]
  staticTypes := #[]
  resolved := #[]
  callSites := []
  init := .initialized
  statics := none
  mirror := none

def pool0 : Array CpInfo := pool [(5, u "<init>"), (0, u "()V"), (1, .class_ 10), (1, u "java/lang/Object")] 113

def k0c0 : Code := { maxStack := 0, maxLocals := 1, code := object_method_1_code, exceptionTable := #[], attributes := #[] }
def k0m0 : Method := { name := "<init>", desc := "()V", sig := { parameters := [], returnType := none }, accessFlags := 1, code := some k0c0 }
/-- java/lang/Object -/
def k0 : Class := { plain "java/lang/Object" none with
  accessFlags := 33
  interfaces := #[]
  cf := some (fileOf pool0 8 #[] #[{ accessFlags := 1, nameIndex := 5, descriptorIndex := 6, attributes := #[] }] 33 0 #[] #[])
  fields := #[]
  methods := #[k0m0]
  instanceTypes := #[]
  staticTypes := #[]
  resolved := Array.replicate 124 none
  statics := none }

def pool1 : Array CpInfo := pool [(2, .class_ 4), (1, u "java/lang/Object"), (0, u "<init>"), (0, u "()V"), (0, .methodref 8 9), (0, .class_ 10), (0, .nameAndType 11 12), (0, u "com/example/tauten/tauten/Interval"), (0, u "of"), (0, u "(JJ)Lcom/example/tauten/tauten/Interval;"), (0, .methodref 8 14), (0, .nameAndType 15 16), (0, u "truths"), (0, u "(ZZ)Lcom/example/tauten/tauten/Interval;"), (0, .methodref 8 18), (0, .nameAndType 19 20), (0, u "contains"), (0, u "(J)Z"), (0, .methodref 8 22), (0, .nameAndType 23 24), (0, u "equals"), (0, u "(Ljava/lang/Object;)Z"), (0, .class_ 26), (0, u "com/example/tauten/tauten/IntervalTruthsPinLaw"), (2, u "law"), (0, u "(IJ)Z")] 3

def k1m0 : Method := { name := "<init>", desc := "()V", sig := { parameters := [], returnType := none }, accessFlags := 1, code := none }
def k1c1 : Code := { maxStack := 4, maxLocals := 10, code := code, exceptionTable := #[], attributes := #[] }
def k1m1 : Method := { name := "law", desc := "(IJ)Z", sig := { parameters := [.int, .long], returnType := some .boolean }, accessFlags := 9, code := some k1c1 }
/-- com/example/tauten/tauten/IntervalTruthsPinLaw -/
def k1 : Class := { plain "com/example/tauten/tauten/IntervalTruthsPinLaw" (some 0) with
  accessFlags := 49
  interfaces := #[]
  cf := some (fileOf pool1 25 #[] #[{ accessFlags := 1, nameIndex := 5, descriptorIndex := 6, attributes := #[] }, { accessFlags := 9, nameIndex := 29, descriptorIndex := 30, attributes := #[] }] 49 2 #[] #[])
  fields := #[]
  methods := #[k1m0, k1m1]
  instanceTypes := #[]
  staticTypes := #[]
  resolved := Array.replicate 34 none
  statics := none }

def pool2 : Array CpInfo := pool [(1, .methodref 2 3), (0, .class_ 4), (0, .nameAndType 5 6), (0, u "java/lang/Object"), (0, u "<init>"), (0, u "()V"), (0, .fieldref 8 9), (0, .class_ 10), (0, .nameAndType 11 12), (0, u "com/example/tauten/tauten/Interval"), (0, u "low"), (0, u "J"), (0, .fieldref 8 14), (0, .nameAndType 15 12), (0, u "high"), (0, .fieldref 8 17), (0, .nameAndType 18 19), (0, u "EMPTY"), (0, u "Lcom/example/tauten/tauten/Interval;"), (0, .methodref 8 21), (0, .nameAndType 5 22), (0, u "(JJ)V"), (0, .fieldref 8 24), (0, .nameAndType 25 19), (0, u "TRUTHS"), (0, .fieldref 8 27), (0, .nameAndType 28 19), (0, u "FALSE"), (0, .fieldref 8 30), (0, .nameAndType 31 19), (0, u "TRUE"), (15, u "of"), (0, u "(JJ)Lcom/example/tauten/tauten/Interval;"), (2, u "contains"), (0, u "(J)Z"), (2, u "truths"), (0, u "(ZZ)Lcom/example/tauten/tauten/Interval;"), (23, u "equals"), (0, u "(Ljava/lang/Object;)Z")] 23

def k2c0 : Code := { maxStack := 3, maxLocals := 5, code := prog_30_method_1_code, exceptionTable := #[], attributes := #[] }
def k2m0 : Method := { name := "<init>", desc := "(JJ)V", sig := { parameters := [.long, .long], returnType := none }, accessFlags := 2, code := some k2c0 }
def k2c1 : Code := { maxStack := 6, maxLocals := 4, code := prog_30_method_2_code, exceptionTable := #[], attributes := #[] }
def k2m1 : Method := { name := "of", desc := "(JJ)Lcom/example/tauten/tauten/Interval;", sig := { parameters := [.long, .long], returnType := some (.object "com/example/tauten/tauten/Interval") }, accessFlags := 8, code := some k2c1 }
def k2c2 : Code := { maxStack := 1, maxLocals := 3, code := prog_30_method_3_code, exceptionTable := #[], attributes := #[] }
def k2m2 : Method := { name := "truths", desc := "(ZZ)Lcom/example/tauten/tauten/Interval;", sig := { parameters := [.boolean, .boolean], returnType := some (.object "com/example/tauten/tauten/Interval") }, accessFlags := 8, code := some k2c2 }
def k2c3 : Code := { maxStack := 4, maxLocals := 3, code := prog_30_method_7_code, exceptionTable := #[], attributes := #[] }
def k2m3 : Method := { name := "contains", desc := "(J)Z", sig := { parameters := [.long], returnType := some .boolean }, accessFlags := 0, code := some k2c3 }
def k2c4 : Code := { maxStack := 4, maxLocals := 3, code := prog_30_method_12_code, exceptionTable := #[], attributes := #[] }
def k2m4 : Method := { name := "equals", desc := "(Ljava/lang/Object;)Z", sig := { parameters := [(.object "java/lang/Object")], returnType := some .boolean }, accessFlags := 1, code := some k2c4 }
/-- com/example/tauten/tauten/Interval -/
def k2 : Class := { plain "com/example/tauten/tauten/Interval" (some 0) with
  accessFlags := 48
  interfaces := #[]
  cf := some (fileOf pool2 8 #[] #[{ accessFlags := 2, nameIndex := 5, descriptorIndex := 22, attributes := #[] }, { accessFlags := 8, nameIndex := 47, descriptorIndex := 48, attributes := #[] }, { accessFlags := 8, nameIndex := 55, descriptorIndex := 56, attributes := #[] }, { accessFlags := 0, nameIndex := 51, descriptorIndex := 52, attributes := #[] }, { accessFlags := 1, nameIndex := 80, descriptorIndex := 81, attributes := #[] }] 48 2 #[] #[{ accessFlags := 24, nameIndex := 18, descriptorIndex := 19, attributes := #[] }, { accessFlags := 24, nameIndex := 28, descriptorIndex := 19, attributes := #[] }, { accessFlags := 24, nameIndex := 31, descriptorIndex := 19, attributes := #[] }, { accessFlags := 24, nameIndex := 25, descriptorIndex := 19, attributes := #[] }, { accessFlags := 18, nameIndex := 11, descriptorIndex := 12, attributes := #[] }, { accessFlags := 18, nameIndex := 15, descriptorIndex := 12, attributes := #[] }])
  fields := #[{ name := "EMPTY", type := (.object "com/example/tauten/tauten/Interval"), accessFlags := 24, slot := 0, constantValue := 0 }, { name := "FALSE", type := (.object "com/example/tauten/tauten/Interval"), accessFlags := 24, slot := 1, constantValue := 0 }, { name := "TRUE", type := (.object "com/example/tauten/tauten/Interval"), accessFlags := 24, slot := 2, constantValue := 0 }, { name := "TRUTHS", type := (.object "com/example/tauten/tauten/Interval"), accessFlags := 24, slot := 3, constantValue := 0 }, { name := "low", type := .long, accessFlags := 18, slot := 0, constantValue := 0 }, { name := "high", type := .long, accessFlags := 18, slot := 1, constantValue := 0 }]
  methods := #[k2m0, k2m1, k2m2, k2m3, k2m4]
  instanceTypes := #[.long, .long]
  staticTypes := #[(.object "com/example/tauten/tauten/Interval"), (.object "com/example/tauten/tauten/Interval"), (.object "com/example/tauten/tauten/Interval"), (.object "com/example/tauten/tauten/Interval")]
  resolved := Array.replicate 105 none
  statics := some 0 }

def pool3 : Array CpInfo := pool [(1, u "java/lang/Cloneable"), (0, .class_ 1), (0, u "java/lang/Object"), (0, .class_ 3)] 3

/-- java/lang/Cloneable -/
def k3 : Class := { plain "java/lang/Cloneable" (some 0) with
  accessFlags := 1537
  interfaces := #[]
  cf := some (fileOf pool3 2 #[] #[] 1537 4 #[] #[])
  fields := #[]
  methods := #[]
  instanceTypes := #[]
  staticTypes := #[]
  resolved := Array.replicate 8 none
  statics := none }

def pool4 : Array CpInfo := pool [(1, u "java/io/Serializable"), (0, .class_ 1), (0, u "java/lang/Object"), (0, .class_ 3)] 3

/-- java/io/Serializable -/
def k4 : Class := { plain "java/io/Serializable" (some 0) with
  accessFlags := 1537
  interfaces := #[]
  cf := some (fileOf pool4 2 #[] #[] 1537 4 #[] #[])
  fields := #[]
  methods := #[]
  instanceTypes := #[]
  staticTypes := #[]
  resolved := Array.replicate 8 none
  statics := none }

/-- the primitive byte -/
def k5 : Class := { plain "byte" none with kind := .primitive 'B', accessFlags := 0x411 }
/-- [B -/
def k6 : Class := { plain "[B" (some 0) with kind := .array 5 .byte, interfaces := #[3, 4], accessFlags := 1041 }

/-- the primitive int -/
def k7 : Class := { plain "int" none with kind := .primitive 'I', accessFlags := 0x411 }
/-- [I -/
def k8 : Class := { plain "[I" (some 0) with kind := .array 7 .int, interfaces := #[3, 4], accessFlags := 1041 }

def heap : Heap := #[{ cls := 2, slots := #[.ref 1, .ref 2, .ref 3, .ref 4], vm := .statics 2 },
  { cls := 2, slots := #[.long 1, .long 0], vm := .none },
  { cls := 2, slots := #[.long 0, .long 0], vm := .none },
  { cls := 2, slots := #[.long 1, .long 1], vm := .none },
  { cls := 2, slots := #[.long 0, .long 1], vm := .none }]
def classes : Array Class := #[k0, k1, k2, k3, k4, k5, k6, k7, k8]
def interned : List (Array UInt16 × Addr) := []
def slotsUsed : Nat := 12
def theMethod : MethodId := ⟨1, 1⟩
def args0 : Array Value := #[.int 5, .long 7]
def aboutOver (below : List Frame) : State where
  vm := { classes := classes, interned := interned.toArray }
  heap := heap
  slotsUsed := slotsUsed
  threads := #[{ frames := .invoking theMethod args0 :: below }]
def below0 : List Frame := [.native { method := ⟨0, 0⟩, args := #[] }]
def about1 : State := aboutOver below0
def p0 : Program := .bare "" "" ""
def e0 : Env := launch0.env 0 0 0
theorem w_frames : about1.frames = Frame.invoking theMethod args0 :: below0 := rfl
set_option maxRecDepth 65536 in
theorem w_args : argsFit about1.vm theMethod args0 = true := by decide +kernel
set_option maxRecDepth 65536 in
theorem w_heap : heapFits about1 = true := by decide +kernel
set_option maxRecDepth 65536 in
theorem w_runnable : about1.curStatus? = some .runnable := by decide +kernel
set_option maxRecDepth 65536 in
theorem w_alone : about1.alone = true := by decide +kernel
set_option maxRecDepth 65536 in
theorem w_named : about1.methodNamed? x = some theMethod := by decide +kernel
set_option maxRecDepth 65536 in
theorem w_hears : about1.hears theMethod below0 = true := by decide +kernel
set_option maxRecDepth 65536 in
theorem w_ripe : about1.ripe theMethod args0 below0 = true := by decide +kernel
theorem w_running : about1.status = .running := rfl
set_option maxRecDepth 65536 in
theorem w_room : about1.hasRoom e0.platform room_1 = true :=
  launch0.hasRoom_least _ room_1 (by decide +kernel) (by decide +kernel) (by decide +kernel) (by decide +kernel) (by decide +kernel) (by decide +kernel)
theorem allAtoms_all (ts : List Jvm.Cond) (a : Array Jvm.Value) (st : Jvm.State) : (allAtoms ts).before a st = ts.all (fun c => c.before a st) := by
  induction ts with
  | nil => rfl
  | cons c t ih =>
    show (Jvm.Cond.and c (allAtoms t)).before a st = _
    rw [Jvm.Cond.before_and, ih, List.all_cons]
def words1 : List Jvm.Cond := Jvm.Cond.code x code maxLocals ret :: tables_1
/-- a 'code' word, met by the world's own term for the bytes: nothing is compared byte by byte -/
theorem code_word {y : MethodName} {bytes : ByteArray} {mx : Nat} {rt : Option FieldType} {a : Array Value} {s : State} {m : MethodId} {meth : Method} {c : Code} (h1 : s.methodNamed? y = some m) (h2 : s.vm.method? m = some meth) (h3 : meth.code = some c) (h4 : c.code = bytes)
    (h5 : (c.maxLocals == mx && c.exceptionTable.isEmpty && decide (c.maxStack ≤ mostOperands) && decide (meth.sig.returnType = rt) && !meth.locks && decide (parseMethodDescriptor y.desc = some meth.sig)) = true) : (Jvm.Cond.code y bytes mx rt).before a s = true := by
  simp only [Bool.and_eq_true, beq_iff_eq, Bool.not_eq_true', decide_eq_true_eq] at h5
  obtain ⟨⟨⟨⟨⟨g1, g2⟩, g3⟩, g4⟩, g5⟩, g6⟩ := h5
  simp [Cond.before, Cond.holds, Cond.value, h1, h2, h3, h4, g1, g2, g3, g4, g5, g6]
def isCode : Jvm.Cond → Bool
  | .code _ _ _ _ => true
  | _ => false
theorem all_split {L : List Jvm.Cond} {P : Jvm.Cond → Bool} (h1 : L.all (fun c => isCode c || P c) = true) (h2 : ∀ c ∈ L.filter isCode, P c = true) : L.all P = true := by
  refine List.all_eq_true.mpr fun c hc => ?_
  have h := List.all_eq_true.mp h1 c hc
  rcases Bool.eq_false_or_eq_true (isCode c) with hi | hi
  · exact h2 c (List.mem_filter.mpr ⟨hc, hi⟩)
  · simpa [hi] using h
set_option maxRecDepth 65536 in
theorem w_c0 : (Jvm.Cond.code x code maxLocals ret).before args0 about1 = true := code_word (m := ⟨1, 1⟩) (meth := k1m1) (c := k1c1) (by decide +kernel) rfl rfl rfl (by decide +kernel)
set_option maxRecDepth 65536 in
theorem w_c1 : (Jvm.Cond.code ({ cls := "com/example/tauten/tauten/Interval", name := "of", desc := "(JJ)Lcom/example/tauten/tauten/Interval;" } : Jvm.MethodName) prog_30_method_2_code (4 : Nat) (Option.some (Jvm.ClassFile.FieldType.object "com/example/tauten/tauten/Interval"))).before args0 about1 = true := code_word (m := ⟨2, 1⟩) (meth := k2m1) (c := k2c1) (by decide +kernel) rfl rfl rfl (by decide +kernel)
set_option maxRecDepth 65536 in
theorem w_c2 : (Jvm.Cond.code ({ cls := "com/example/tauten/tauten/Interval", name := "truths", desc := "(ZZ)Lcom/example/tauten/tauten/Interval;" } : Jvm.MethodName) prog_30_method_3_code (3 : Nat) (Option.some (Jvm.ClassFile.FieldType.object "com/example/tauten/tauten/Interval"))).before args0 about1 = true := code_word (m := ⟨2, 2⟩) (meth := k2m2) (c := k2c2) (by decide +kernel) rfl rfl rfl (by decide +kernel)
set_option maxRecDepth 65536 in
theorem w_c3 : (Jvm.Cond.code ({ cls := "com/example/tauten/tauten/Interval", name := "contains", desc := "(J)Z" } : Jvm.MethodName) prog_30_method_7_code (3 : Nat) (Option.some Jvm.ClassFile.FieldType.boolean)).before args0 about1 = true := code_word (m := ⟨2, 3⟩) (meth := k2m3) (c := k2c3) (by decide +kernel) rfl rfl rfl (by decide +kernel)
set_option maxRecDepth 65536 in
theorem w_c4 : (Jvm.Cond.code ({ cls := "com/example/tauten/tauten/Interval", name := "equals", desc := "(Ljava/lang/Object;)Z" } : Jvm.MethodName) prog_30_method_12_code (3 : Nat) (Option.some Jvm.ClassFile.FieldType.boolean)).before args0 about1 = true := code_word (m := ⟨2, 4⟩) (meth := k2m4) (c := k2c4) (by decide +kernel) rfl rfl rfl (by decide +kernel)
set_option maxRecDepth 65536 in
theorem w_c5 : (Jvm.Cond.code ({ cls := "com/example/tauten/tauten/Interval", name := "<init>", desc := "(JJ)V" } : Jvm.MethodName) prog_30_method_1_code (5 : Nat) (Option.none : Option Jvm.ClassFile.FieldType)).before args0 about1 = true := code_word (m := ⟨2, 0⟩) (meth := k2m0) (c := k2c0) (by decide +kernel) rfl rfl rfl (by decide +kernel)
set_option maxRecDepth 65536 in
theorem w_c6 : (Jvm.Cond.code ({ cls := "java/lang/Object", name := "<init>", desc := "()V" } : Jvm.MethodName) object_method_1_code (1 : Nat) (Option.none : Option Jvm.ClassFile.FieldType)).before args0 about1 = true := code_word (m := ⟨0, 0⟩) (meth := k0m0) (c := k0c0) (by decide +kernel) rfl rfl rfl (by decide +kernel)
def codes1 : List Jvm.Cond := [Jvm.Cond.code x code maxLocals ret, Jvm.Cond.code ({ cls := "com/example/tauten/tauten/Interval", name := "of", desc := "(JJ)Lcom/example/tauten/tauten/Interval;" } : Jvm.MethodName) prog_30_method_2_code (4 : Nat) (Option.some (Jvm.ClassFile.FieldType.object "com/example/tauten/tauten/Interval")), Jvm.Cond.code ({ cls := "com/example/tauten/tauten/Interval", name := "truths", desc := "(ZZ)Lcom/example/tauten/tauten/Interval;" } : Jvm.MethodName) prog_30_method_3_code (3 : Nat) (Option.some (Jvm.ClassFile.FieldType.object "com/example/tauten/tauten/Interval")), Jvm.Cond.code ({ cls := "com/example/tauten/tauten/Interval", name := "contains", desc := "(J)Z" } : Jvm.MethodName) prog_30_method_7_code (3 : Nat) (Option.some Jvm.ClassFile.FieldType.boolean), Jvm.Cond.code ({ cls := "com/example/tauten/tauten/Interval", name := "equals", desc := "(Ljava/lang/Object;)Z" } : Jvm.MethodName) prog_30_method_12_code (3 : Nat) (Option.some Jvm.ClassFile.FieldType.boolean), Jvm.Cond.code ({ cls := "com/example/tauten/tauten/Interval", name := "<init>", desc := "(JJ)V" } : Jvm.MethodName) prog_30_method_1_code (5 : Nat) (Option.none : Option Jvm.ClassFile.FieldType), Jvm.Cond.code ({ cls := "java/lang/Object", name := "<init>", desc := "()V" } : Jvm.MethodName) object_method_1_code (1 : Nat) (Option.none : Option Jvm.ClassFile.FieldType)]
set_option maxRecDepth 65536 in
theorem codes_eq : words1.filter isCode = codes1 := rfl
theorem w_codes : ∀ c ∈ words1.filter isCode, c.before args0 about1 = true := by
  rw [codes_eq]
  intro c hc
  simp only [codes1, List.mem_cons, List.not_mem_nil, or_false] at hc
  rcases hc with rfl | rfl | rfl | rfl | rfl | rfl | rfl
  · exact w_c0
  · exact w_c1
  · exact w_c2
  · exact w_c3
  · exact w_c4
  · exact w_c5
  · exact w_c6
set_option maxRecDepth 65536 in
theorem w_t1 : (words1.take 24).all (fun c => isCode c || c.before args0 about1) = true := by decide +kernel
set_option maxRecDepth 65536 in
theorem w_t2 : (words1.drop 24).all (fun c => isCode c || c.before args0 about1) = true := by decide +kernel
theorem w_tables : (allAtoms (Jvm.Cond.code x code maxLocals ret :: tables_1)).before args0 about1 = true := by
  rw [allAtoms_all]
  show words1.all (fun c => c.before args0 about1) = true
  refine all_split ?_ w_codes
  rw [← List.take_append_drop 24 words1, List.all_append, w_t1, w_t2]
  rfl
set_option maxRecDepth 65536 in
theorem w_case : (Jvm.Cond.and given_1 narrow_1).before args0 about1 = true := by decide +kernel
theorem w_applies : (headSpec (Jvm.Cond.code x code maxLocals ret :: tables_1) room_1).applies x e0.platform about1 = true :=
  (Spec.applies_iff w_frames).mpr ⟨w_running, w_runnable, w_alone, w_named, w_hears, w_ripe, w_room, w_tables⟩
theorem atStart : AtStart classFile x code maxLocals ret World_1 tables_1 room_1 Calls_1 rest_1 Pre_1 launch0 p0 e0 about1 theMethod args0 below0 :=
  ⟨lists_1, trivial, launch0.admits_env _ _ _, launch0.least_env, fairChoices_fair.cas, fairChoices_fair.clock, w_frames, w_args, w_heap, w_applies, trivial, trivial, w_case⟩
end start1
theorem witness_1 : WitnessClaimed_1 := ⟨start1.p0, start1.e0, start1.about1, start1.theMethod, start1.args0, start1.below0, start1.atStart⟩
end Jvm.Pilot.@@N@@
